import PyProof.Rows.All
import Wide.All
import OpenK.AllK
import Wide.FinOn
import Lean
import PySem.Challenge.RW_re0107_01
set_option Elab.async false
section
open PySem PySem.W PySem.Calls PyProof.Rows
set_option Elab.async false
set_option maxRecDepth 100000
set_option maxHeartbeats 0
set_option linter.unusedVariables false
namespace Mine
noncomputable section
noncomputable abbrev pw0 : Program := PySem.Challenge.pw_re0107_01
structure Bx (α : Type) (q : α) : Type where
noncomputable def Bx.val {α : Type} {q : α} (_ : Bx α q) : α := q
noncomputable def mkBx {α : Type} {x q : α} (_ : x = q) : Bx α q := Bx.mk
noncomputable def fnP : Stmt → Arguments
  | .FunctionDef _ a _ _ _ _ _ _ _ _ => a
  | _ => ⟨[], [], none, [], [], none, []⟩
noncomputable def fnB : Stmt → List Stmt
  | .FunctionDef _ _ b _ _ _ _ _ _ _ => b
  | .ClassDef _ _ _ b _ _ _ _ _ _ _ => b
  | _ => []
noncomputable def fnS : Stmt → Scope
  | .FunctionDef _ _ _ _ _ _ sc _ _ _ => sc
  | .ClassDef _ _ _ _ _ _ sc _ _ _ _ => sc
  | _ => ⟨.function, [], false, false, []⟩
noncomputable def nth (l : List Stmt) (i : Nat) : Stmt := (l[i]?).getD (.Pass ⟨0, 0, 0, 0⟩)
noncomputable def putB (l : List Stmt) : Stmt → Stmt
  | .ClassDef a b c _ d e f g h i j => .ClassDef a b c l d e f g h i j
  | s => s
noncomputable def md0 : Stmt := Bx.val (Bx.mk : type_of% (mkBx (by conv => lhs; whnf
 : nth (fnB (nth pw0.main.body 20)) 0 = _)))
noncomputable def md1 : Stmt := Bx.val (Bx.mk : type_of% (mkBx (by conv => lhs; whnf
 : nth (fnB (nth pw0.main.body 20)) 1 = _)))
noncomputable def md2 : Stmt := Bx.val (Bx.mk : type_of% (mkBx (by conv => lhs; whnf
 : nth (fnB (nth pw0.main.body 20)) 2 = _)))
noncomputable def md3 : Stmt := Bx.val (Bx.mk : type_of% (mkBx (by conv => lhs; whnf
 : nth (fnB (nth pw0.main.body 20)) 3 = _)))
noncomputable def md4 : Stmt := Bx.val (Bx.mk : type_of% (mkBx (by conv => lhs; whnf
 : nth (fnB (nth pw0.main.body 20)) 4 = _)))
noncomputable def md5 : Stmt := Bx.val (Bx.mk : type_of% (mkBx (by conv => lhs; whnf
 : nth (fnB (nth pw0.main.body 20)) 5 = _)))
noncomputable def md6 : Stmt := Bx.val (Bx.mk : type_of% (mkBx (by conv => lhs; whnf
 : nth (fnB (nth pw0.main.body 20)) 6 = _)))
noncomputable def md7 : Stmt := Bx.val (Bx.mk : type_of% (mkBx (by conv => lhs; whnf
 : nth (fnB (nth pw0.main.body 20)) 7 = _)))
noncomputable def md8 : Stmt := Bx.val (Bx.mk : type_of% (mkBx (by conv => lhs; whnf
 : nth (fnB (nth pw0.main.body 20)) 8 = _)))
noncomputable def md9 : Stmt := Bx.val (Bx.mk : type_of% (mkBx (by conv => lhs; whnf
 : nth (fnB (nth pw0.main.body 20)) 9 = _)))
noncomputable def md10 : Stmt := Bx.val (Bx.mk : type_of% (mkBx (by conv => lhs; whnf
 : nth (fnB (nth pw0.main.body 20)) 10 = _)))
noncomputable def md11 : Stmt := Bx.val (Bx.mk : type_of% (mkBx (by conv => lhs; whnf
 : nth (fnB (nth pw0.main.body 20)) 11 = _)))
noncomputable def md12 : Stmt := Bx.val (Bx.mk : type_of% (mkBx (by conv => lhs; whnf
 : nth (fnB (nth pw0.main.body 20)) 12 = _)))
noncomputable def md13 : Stmt := Bx.val (Bx.mk : type_of% (mkBx (by conv => lhs; whnf
 : nth (fnB (nth pw0.main.body 20)) 13 = _)))
noncomputable def md14 : Stmt := Bx.val (Bx.mk : type_of% (mkBx (by conv => lhs; whnf
 : nth (fnB (nth pw0.main.body 20)) 14 = _)))
noncomputable def md15 : Stmt := Bx.val (Bx.mk : type_of% (mkBx (by conv => lhs; whnf
 : nth (fnB (nth pw0.main.body 20)) 15 = _)))
noncomputable def md16 : Stmt := Bx.val (Bx.mk : type_of% (mkBx (by conv => lhs; whnf
 : nth (fnB (nth pw0.main.body 20)) 16 = _)))
noncomputable def pc0 : Stmt := Bx.val (Bx.mk : type_of% (mkBx (by conv => lhs; whnf
 : nth pw0.main.body 0 = _)))
noncomputable def pc1 : Stmt := Bx.val (Bx.mk : type_of% (mkBx (by conv => lhs; whnf
 : nth pw0.main.body 1 = _)))
noncomputable def pc2 : Stmt := Bx.val (Bx.mk : type_of% (mkBx (by conv => lhs; whnf
 : nth pw0.main.body 2 = _)))
noncomputable def pc3 : Stmt := Bx.val (Bx.mk : type_of% (mkBx (by conv => lhs; whnf
 : nth pw0.main.body 3 = _)))
noncomputable def pc4 : Stmt := Bx.val (Bx.mk : type_of% (mkBx (by conv => lhs; whnf
 : nth pw0.main.body 4 = _)))
noncomputable def pc5 : Stmt := Bx.val (Bx.mk : type_of% (mkBx (by conv => lhs; whnf
 : nth pw0.main.body 5 = _)))
noncomputable def pc6 : Stmt := Bx.val (Bx.mk : type_of% (mkBx (by conv => lhs; whnf
 : nth pw0.main.body 6 = _)))
noncomputable def pc7 : Stmt := Bx.val (Bx.mk : type_of% (mkBx (by conv => lhs; whnf
 : nth pw0.main.body 7 = _)))
noncomputable def pc8 : Stmt := Bx.val (Bx.mk : type_of% (mkBx (by conv => lhs; whnf
 : nth pw0.main.body 8 = _)))
noncomputable def pc9 : Stmt := Bx.val (Bx.mk : type_of% (mkBx (by conv => lhs; whnf
 : nth pw0.main.body 9 = _)))
noncomputable def pc10 : Stmt := Bx.val (Bx.mk : type_of% (mkBx (by conv => lhs; whnf
 : nth pw0.main.body 10 = _)))
noncomputable def pc11 : Stmt := Bx.val (Bx.mk : type_of% (mkBx (by conv => lhs; whnf
 : nth pw0.main.body 11 = _)))
noncomputable def pc12 : Stmt := Bx.val (Bx.mk : type_of% (mkBx (by conv => lhs; whnf
 : nth pw0.main.body 12 = _)))
noncomputable def pc13 : Stmt := Bx.val (Bx.mk : type_of% (mkBx (by conv => lhs; whnf
 : nth pw0.main.body 13 = _)))
noncomputable def pc14 : Stmt := Bx.val (Bx.mk : type_of% (mkBx (by conv => lhs; whnf
 : nth pw0.main.body 14 = _)))
noncomputable def pc15 : Stmt := Bx.val (Bx.mk : type_of% (mkBx (by conv => lhs; whnf
 : nth pw0.main.body 15 = _)))
noncomputable def pc16 : Stmt := Bx.val (Bx.mk : type_of% (mkBx (by conv => lhs; whnf
 : nth pw0.main.body 16 = _)))
noncomputable def pc17 : Stmt := Bx.val (Bx.mk : type_of% (mkBx (by conv => lhs; whnf
 : nth pw0.main.body 17 = _)))
noncomputable def pc18 : Stmt := Bx.val (Bx.mk : type_of% (mkBx (by conv => lhs; whnf
 : nth pw0.main.body 18 = _)))
noncomputable def pc19 : Stmt := Bx.val (Bx.mk : type_of% (mkBx (by conv => lhs; whnf
 : nth pw0.main.body 19 = _)))
noncomputable def pc20 : Stmt := Bx.val (Bx.mk : type_of% (mkBx (by conv => lhs; whnf
 : putB [md0, md1, md2, md3, md4, md5, md6, md7, md8, md9, md10, md11, md12, md13, md14, md15, md16] (nth pw0.main.body 20) = _)))
noncomputable def pc21 : Stmt := Bx.val (Bx.mk : type_of% (mkBx (by conv => lhs; whnf
 : nth pw0.main.body 21 = _)))
noncomputable def pc22 : Stmt := Bx.val (Bx.mk : type_of% (mkBx (by conv => lhs; whnf
 : nth pw0.main.body 22 = _)))
noncomputable def pc23 : Stmt := Bx.val (Bx.mk : type_of% (mkBx (by conv => lhs; whnf
 : nth pw0.main.body 23 = _)))
noncomputable def pc24 : Stmt := Bx.val (Bx.mk : type_of% (mkBx (by conv => lhs; whnf
 : nth pw0.main.body 24 = _)))
noncomputable def pc25 : Stmt := Bx.val (Bx.mk : type_of% (mkBx (by conv => lhs; whnf
 : nth pw0.main.body 25 = _)))
noncomputable def pc26 : Stmt := Bx.val (Bx.mk : type_of% (mkBx (by conv => lhs; whnf
 : nth pw0.main.body 26 = _)))
noncomputable def scp : Scope := Bx.val (Bx.mk : type_of% (mkBx (by conv => lhs; whnf
 : pw0.main.scope = _)))
noncomputable def filep : Str := Bx.val (Bx.mk : type_of% (mkBx (by delta pw0 PySem.Challenge.pw_re0107_01; with_reducible (conv => lhs; whnf)
 : pw0.main.file = _)))
noncomputable def gvn : Given := Bx.val (Bx.mk : type_of% (mkBx (by conv => lhs; whnf
 : pw0.given = _)))
noncomputable def pw : Program := ⟨⟨[pc0, pc1, pc2, pc3, pc4, pc5, pc6, pc7, pc8, pc9, pc10, pc11, pc12, pc13, pc14, pc15, pc16, pc17, pc18, pc19, pc20, pc21, pc22, pc23, pc24, pc25, pc26], scp, false, filep, []⟩, [], [], [], [], gvn⟩
theorem pw_eq : pw0 = pw := by rfl
noncomputable def lname : Str := Bx.val (Bx.mk : type_of% (mkBx (by delta PySem.Challenge.rw_re0107_01; with_reducible (conv => lhs; whnf)
 : PySem.Challenge.rw_re0107_01.name = _)))
noncomputable def labout : List Str := Bx.val (Bx.mk : type_of% (mkBx (by delta PySem.Challenge.rw_re0107_01; with_reducible (conv => lhs; whnf)
 : PySem.Challenge.rw_re0107_01.about = _)))
noncomputable def rwS : OpenLaw := ⟨pw, lname, labout, 5, some 63, none, false⟩
theorem rw_eq : PySem.Challenge.rw_re0107_01 = rwS := by rfl
noncomputable def top (i : Nat) : Stmt := nth pw.main.body i
noncomputable def meth (j : Nat) : Stmt := nth (fnB (top 20)) j
noncomputable def en (P : Params) (x : Str) (t : Tok) (v : Value) : DictEntry := ⟨PyData.keyHash P x, .str x t, v⟩
noncomputable def lf : Life := {}
noncomputable def dr : Drawn := {}
noncomputable def bo (w : World) : Bool := !w.params.followText "set-order"
theorem boT {w : World} : bo (World.withFollow w "set-order" true) = false := rfl
theorem boF {w : World} : bo (World.withFollow w "set-order" false) = true := rfl
noncomputable def fq : Pos := ⟨0, 0, 0, 0⟩
noncomputable def ann : Option Value := (some (.ref 6))
noncomputable def env0 : Env := { scope := pw.main.scope, locals := mainNs, globals := mainNs, cells := [], code := .ref 30, frame := some 31 }
noncomputable def cE : Code := .body (behindTheImports pw) env0
noncomputable def B0 : List Frame := [topFrame fq]
noncomputable def nthF (l : List Frame) (i : Nat) : Frame := match l.drop i with
  | f :: _ => f
  | [] => topFrame fq
noncomputable def ob0 (b : Bool) (P : Params) : Obj := ⟨.type "dict", none, .dict ⟨[en P ⟨⟨[95, 95, 110, 97, 109, 101, 95, 95]⟩⟩ 1 (.str ⟨⟨[98, 117, 105, 108, 116, 105, 110, 115]⟩⟩ 160), en P ⟨⟨[95, 95, 100, 111, 99, 95, 95]⟩⟩ 2 (.builtin "builtins.__doc__:str#opaque"), en P ⟨⟨[95, 95, 112, 97, 99, 107, 97, 103, 101, 95, 95]⟩⟩ 3 (.builtin "builtins.__package__:str#opaque"), en P ⟨⟨[95, 95, 108, 111, 97, 100, 101, 114, 95, 95]⟩⟩ 4 (.builtin "builtins.__loader__:shared#opaque"), en P ⟨⟨[95, 95, 115, 112, 101, 99, 95, 95]⟩⟩ 5 (.builtin "builtins.__spec__#opaque"), en P ⟨⟨[95, 95, 98, 117, 105, 108, 100, 95, 99, 108, 97, 115, 115, 95, 95]⟩⟩ 6 (.builtin "__build_class__"), en P ⟨⟨[95, 95, 105, 109, 112, 111, 114, 116, 95, 95]⟩⟩ 7 (.builtin "__import__"), en P ⟨⟨[97, 98, 115]⟩⟩ 8 (.builtin "abs"), en P ⟨⟨[97, 108, 108]⟩⟩ 9 (.builtin "all"), en P ⟨⟨[97, 110, 121]⟩⟩ 10 (.builtin "any"), en P ⟨⟨[97, 115, 99, 105, 105]⟩⟩ 11 (.builtin "ascii"), en P ⟨⟨[98, 105, 110]⟩⟩ 12 (.builtin "bin"), en P ⟨⟨[98, 114, 101, 97, 107, 112, 111, 105, 110, 116]⟩⟩ 13 (.builtin "breakpoint"), en P ⟨⟨[99, 97, 108, 108, 97, 98, 108, 101]⟩⟩ 14 (.builtin "callable"), en P ⟨⟨[99, 104, 114]⟩⟩ 15 (.builtin "chr"), en P ⟨⟨[99, 111, 109, 112, 105, 108, 101]⟩⟩ 16 (.builtin "compile"), en P ⟨⟨[100, 101, 108, 97, 116, 116, 114]⟩⟩ 17 (.builtin "delattr"), en P ⟨⟨[100, 105, 114]⟩⟩ 18 (.builtin "dir"), en P ⟨⟨[100, 105, 118, 109, 111, 100]⟩⟩ 19 (.builtin "divmod"), en P ⟨⟨[101, 118, 97, 108]⟩⟩ 20 (.builtin "eval"), en P ⟨⟨[101, 120, 101, 99]⟩⟩ 21 (.builtin "exec"), en P ⟨⟨[102, 111, 114, 109, 97, 116]⟩⟩ 22 (.builtin "format"), en P ⟨⟨[103, 101, 116, 97, 116, 116, 114]⟩⟩ 23 (.builtin "getattr"), en P ⟨⟨[103, 108, 111, 98, 97, 108, 115]⟩⟩ 24 (.builtin "globals"), en P ⟨⟨[104, 97, 115, 97, 116, 116, 114]⟩⟩ 25 (.builtin "hasattr"), en P ⟨⟨[104, 97, 115, 104]⟩⟩ 26 (.builtin "hash"), en P ⟨⟨[104, 101, 120]⟩⟩ 27 (.builtin "hex"), en P ⟨⟨[105, 100]⟩⟩ 28 (.builtin "id"), en P ⟨⟨[105, 110, 112, 117, 116]⟩⟩ 29 (.builtin "input"), en P ⟨⟨[105, 115, 105, 110, 115, 116, 97, 110, 99, 101]⟩⟩ 30 (.builtin "isinstance"), en P ⟨⟨[105, 115, 115, 117, 98, 99, 108, 97, 115, 115]⟩⟩ 31 (.builtin "issubclass"), en P ⟨⟨[105, 116, 101, 114]⟩⟩ 32 (.builtin "iter"), en P ⟨⟨[97, 105, 116, 101, 114]⟩⟩ 33 (.builtin "aiter"), en P ⟨⟨[108, 101, 110]⟩⟩ 34 (.builtin "len"), en P ⟨⟨[108, 111, 99, 97, 108, 115]⟩⟩ 35 (.builtin "locals"), en P ⟨⟨[109, 97, 120]⟩⟩ 36 (.builtin "max"), en P ⟨⟨[109, 105, 110]⟩⟩ 37 (.builtin "min"), en P ⟨⟨[110, 101, 120, 116]⟩⟩ 38 (.builtin "next"), en P ⟨⟨[97, 110, 101, 120, 116]⟩⟩ 39 (.builtin "anext"), en P ⟨⟨[111, 99, 116]⟩⟩ 40 (.builtin "oct"), en P ⟨⟨[111, 114, 100]⟩⟩ 41 (.builtin "ord"), en P ⟨⟨[112, 111, 119]⟩⟩ 42 (.builtin "pow"), en P ⟨⟨[112, 114, 105, 110, 116]⟩⟩ 43 (.builtin "print"), en P ⟨⟨[114, 101, 112, 114]⟩⟩ 44 (.builtin "repr"), en P ⟨⟨[114, 111, 117, 110, 100]⟩⟩ 45 (.builtin "round"), en P ⟨⟨[115, 101, 116, 97, 116, 116, 114]⟩⟩ 46 (.builtin "setattr"), en P ⟨⟨[115, 111, 114, 116, 101, 100]⟩⟩ 47 (.builtin "sorted"), en P ⟨⟨[115, 117, 109]⟩⟩ 48 (.builtin "sum"), en P ⟨⟨[118, 97, 114, 115]⟩⟩ 49 (.builtin "vars"), en P ⟨⟨[78, 111, 110, 101]⟩⟩ 50 (.none), en P ⟨⟨[69, 108, 108, 105, 112, 115, 105, 115]⟩⟩ 51 (.ellipsis), en P ⟨⟨[78, 111, 116, 73, 109, 112, 108, 101, 109, 101, 110, 116, 101, 100]⟩⟩ 52 (.notImplemented), en P ⟨⟨[70, 97, 108, 115, 101]⟩⟩ 53 (.bool false), en P ⟨⟨[84, 114, 117, 101]⟩⟩ 54 (.bool true), en P ⟨⟨[98, 111, 111, 108]⟩⟩ 55 (.type "bool"), en P ⟨⟨[109, 101, 109, 111, 114, 121, 118, 105, 101, 119]⟩⟩ 56 (.type "memoryview"), en P ⟨⟨[98, 121, 116, 101, 97, 114, 114, 97, 121]⟩⟩ 57 (.type "bytearray"), en P ⟨⟨[98, 121, 116, 101, 115]⟩⟩ 58 (.type "bytes"), en P ⟨⟨[99, 108, 97, 115, 115, 109, 101, 116, 104, 111, 100]⟩⟩ 59 (.type "classmethod"), en P ⟨⟨[99, 111, 109, 112, 108, 101, 120]⟩⟩ 60 (.type "complex"), en P ⟨⟨[100, 105, 99, 116]⟩⟩ 61 (.type "dict"), en P ⟨⟨[101, 110, 117, 109, 101, 114, 97, 116, 101]⟩⟩ 62 (.type "enumerate"), en P ⟨⟨[102, 105, 108, 116, 101, 114]⟩⟩ 63 (.type "filter"), en P ⟨⟨[102, 108, 111, 97, 116]⟩⟩ 64 (.type "float"), en P ⟨⟨[102, 114, 111, 122, 101, 110, 115, 101, 116]⟩⟩ 65 (.type "frozenset"), en P ⟨⟨[112, 114, 111, 112, 101, 114, 116, 121]⟩⟩ 66 (.type "property"), en P ⟨⟨[105, 110, 116]⟩⟩ 67 (.type "int"), en P ⟨⟨[108, 105, 115, 116]⟩⟩ 68 (.type "list"), en P ⟨⟨[109, 97, 112]⟩⟩ 69 (.type "map"), en P ⟨⟨[111, 98, 106, 101, 99, 116]⟩⟩ 70 (.type "object"), en P ⟨⟨[114, 97, 110, 103, 101]⟩⟩ 71 (.type "range"), en P ⟨⟨[114, 101, 118, 101, 114, 115, 101, 100]⟩⟩ 72 (.type "reversed"), en P ⟨⟨[115, 101, 116]⟩⟩ 73 (.type "set"), en P ⟨⟨[115, 108, 105, 99, 101]⟩⟩ 74 (.type "slice"), en P ⟨⟨[115, 116, 97, 116, 105, 99, 109, 101, 116, 104, 111, 100]⟩⟩ 75 (.type "staticmethod"), en P ⟨⟨[115, 116, 114]⟩⟩ 76 (.type "str"), en P ⟨⟨[115, 117, 112, 101, 114]⟩⟩ 77 (.type "super"), en P ⟨⟨[116, 117, 112, 108, 101]⟩⟩ 78 (.type "tuple"), en P ⟨⟨[116, 121, 112, 101]⟩⟩ 79 (.type "type"), en P ⟨⟨[122, 105, 112]⟩⟩ 80 (.type "zip"), en P ⟨⟨[95, 95, 100, 101, 98, 117, 103, 95, 95]⟩⟩ 81 (.bool true), en P ⟨⟨[66, 97, 115, 101, 69, 120, 99, 101, 112, 116, 105, 111, 110]⟩⟩ 82 (.type "BaseException"), en P ⟨⟨[66, 97, 115, 101, 69, 120, 99, 101, 112, 116, 105, 111, 110, 71, 114, 111, 117, 112]⟩⟩ 83 (.type "BaseExceptionGroup"), en P ⟨⟨[69, 120, 99, 101, 112, 116, 105, 111, 110]⟩⟩ 84 (.type "Exception"), en P ⟨⟨[71, 101, 110, 101, 114, 97, 116, 111, 114, 69, 120, 105, 116]⟩⟩ 85 (.type "GeneratorExit"), en P ⟨⟨[75, 101, 121, 98, 111, 97, 114, 100, 73, 110, 116, 101, 114, 114, 117, 112, 116]⟩⟩ 86 (.type "KeyboardInterrupt"), en P ⟨⟨[83, 121, 115, 116, 101, 109, 69, 120, 105, 116]⟩⟩ 87 (.type "SystemExit"), en P ⟨⟨[65, 114, 105, 116, 104, 109, 101, 116, 105, 99, 69, 114, 114, 111, 114]⟩⟩ 88 (.type "ArithmeticError"), en P ⟨⟨[65, 115, 115, 101, 114, 116, 105, 111, 110, 69, 114, 114, 111, 114]⟩⟩ 89 (.type "AssertionError"), en P ⟨⟨[65, 116, 116, 114, 105, 98, 117, 116, 101, 69, 114, 114, 111, 114]⟩⟩ 90 (.type "AttributeError"), en P ⟨⟨[66, 117, 102, 102, 101, 114, 69, 114, 114, 111, 114]⟩⟩ 91 (.type "BufferError"), en P ⟨⟨[69, 79, 70, 69, 114, 114, 111, 114]⟩⟩ 92 (.type "EOFError"), en P ⟨⟨[73, 109, 112, 111, 114, 116, 69, 114, 114, 111, 114]⟩⟩ 93 (.type "ImportError"), en P ⟨⟨[76, 111, 111, 107, 117, 112, 69, 114, 114, 111, 114]⟩⟩ 94 (.type "LookupError"), en P ⟨⟨[77, 101, 109, 111, 114, 121, 69, 114, 114, 111, 114]⟩⟩ 95 (.type "MemoryError"), en P ⟨⟨[78, 97, 109, 101, 69, 114, 114, 111, 114]⟩⟩ 96 (.type "NameError"), en P ⟨⟨[79, 83, 69, 114, 114, 111, 114]⟩⟩ 97 (.type "OSError"), en P ⟨⟨[82, 101, 102, 101, 114, 101, 110, 99, 101, 69, 114, 114, 111, 114]⟩⟩ 98 (.type "ReferenceError"), en P ⟨⟨[82, 117, 110, 116, 105, 109, 101, 69, 114, 114, 111, 114]⟩⟩ 99 (.type "RuntimeError"), en P ⟨⟨[83, 116, 111, 112, 65, 115, 121, 110, 99, 73, 116, 101, 114, 97, 116, 105, 111, 110]⟩⟩ 100 (.type "StopAsyncIteration"), en P ⟨⟨[83, 116, 111, 112, 73, 116, 101, 114, 97, 116, 105, 111, 110]⟩⟩ 101 (.type "StopIteration"), en P ⟨⟨[83, 121, 110, 116, 97, 120, 69, 114, 114, 111, 114]⟩⟩ 102 (.type "SyntaxError"), en P ⟨⟨[83, 121, 115, 116, 101, 109, 69, 114, 114, 111, 114]⟩⟩ 103 (.type "SystemError"), en P ⟨⟨[84, 121, 112, 101, 69, 114, 114, 111, 114]⟩⟩ 104 (.type "TypeError"), en P ⟨⟨[86, 97, 108, 117, 101, 69, 114, 114, 111, 114]⟩⟩ 105 (.type "ValueError"), en P ⟨⟨[87, 97, 114, 110, 105, 110, 103]⟩⟩ 106 (.type "Warning"), en P ⟨⟨[70, 108, 111, 97, 116, 105, 110, 103, 80, 111, 105, 110, 116, 69, 114, 114, 111, 114]⟩⟩ 107 (.type "FloatingPointError"), en P ⟨⟨[79, 118, 101, 114, 102, 108, 111, 119, 69, 114, 114, 111, 114]⟩⟩ 108 (.type "OverflowError"), en P ⟨⟨[90, 101, 114, 111, 68, 105, 118, 105, 115, 105, 111, 110, 69, 114, 114, 111, 114]⟩⟩ 109 (.type "ZeroDivisionError"), en P ⟨⟨[66, 121, 116, 101, 115, 87, 97, 114, 110, 105, 110, 103]⟩⟩ 110 (.type "BytesWarning"), en P ⟨⟨[68, 101, 112, 114, 101, 99, 97, 116, 105, 111, 110, 87, 97, 114, 110, 105, 110, 103]⟩⟩ 111 (.type "DeprecationWarning"), en P ⟨⟨[69, 110, 99, 111, 100, 105, 110, 103, 87, 97, 114, 110, 105, 110, 103]⟩⟩ 112 (.type "EncodingWarning"), en P ⟨⟨[70, 117, 116, 117, 114, 101, 87, 97, 114, 110, 105, 110, 103]⟩⟩ 113 (.type "FutureWarning"), en P ⟨⟨[73, 109, 112, 111, 114, 116, 87, 97, 114, 110, 105, 110, 103]⟩⟩ 114 (.type "ImportWarning"), en P ⟨⟨[80, 101, 110, 100, 105, 110, 103, 68, 101, 112, 114, 101, 99, 97, 116, 105, 111, 110, 87, 97, 114, 110, 105, 110, 103]⟩⟩ 115 (.type "PendingDeprecationWarning"), en P ⟨⟨[82, 101, 115, 111, 117, 114, 99, 101, 87, 97, 114, 110, 105, 110, 103]⟩⟩ 116 (.type "ResourceWarning"), en P ⟨⟨[82, 117, 110, 116, 105, 109, 101, 87, 97, 114, 110, 105, 110, 103]⟩⟩ 117 (.type "RuntimeWarning"), en P ⟨⟨[83, 121, 110, 116, 97, 120, 87, 97, 114, 110, 105, 110, 103]⟩⟩ 118 (.type "SyntaxWarning"), en P ⟨⟨[85, 110, 105, 99, 111, 100, 101, 87, 97, 114, 110, 105, 110, 103]⟩⟩ 119 (.type "UnicodeWarning"), en P ⟨⟨[85, 115, 101, 114, 87, 97, 114, 110, 105, 110, 103]⟩⟩ 120 (.type "UserWarning"), en P ⟨⟨[66, 108, 111, 99, 107, 105, 110, 103, 73, 79, 69, 114, 114, 111, 114]⟩⟩ 121 (.type "BlockingIOError"), en P ⟨⟨[67, 104, 105, 108, 100, 80, 114, 111, 99, 101, 115, 115, 69, 114, 114, 111, 114]⟩⟩ 122 (.type "ChildProcessError"), en P ⟨⟨[67, 111, 110, 110, 101, 99, 116, 105, 111, 110, 69, 114, 114, 111, 114]⟩⟩ 123 (.type "ConnectionError"), en P ⟨⟨[70, 105, 108, 101, 69, 120, 105, 115, 116, 115, 69, 114, 114, 111, 114]⟩⟩ 124 (.type "FileExistsError"), en P ⟨⟨[70, 105, 108, 101, 78, 111, 116, 70, 111, 117, 110, 100, 69, 114, 114, 111, 114]⟩⟩ 125 (.type "FileNotFoundError"), en P ⟨⟨[73, 110, 116, 101, 114, 114, 117, 112, 116, 101, 100, 69, 114, 114, 111, 114]⟩⟩ 126 (.type "InterruptedError"), en P ⟨⟨[73, 115, 65, 68, 105, 114, 101, 99, 116, 111, 114, 121, 69, 114, 114, 111, 114]⟩⟩ 127 (.type "IsADirectoryError"), en P ⟨⟨[78, 111, 116, 65, 68, 105, 114, 101, 99, 116, 111, 114, 121, 69, 114, 114, 111, 114]⟩⟩ 128 (.type "NotADirectoryError"), en P ⟨⟨[80, 101, 114, 109, 105, 115, 115, 105, 111, 110, 69, 114, 114, 111, 114]⟩⟩ 129 (.type "PermissionError"), en P ⟨⟨[80, 114, 111, 99, 101, 115, 115, 76, 111, 111, 107, 117, 112, 69, 114, 114, 111, 114]⟩⟩ 130 (.type "ProcessLookupError"), en P ⟨⟨[84, 105, 109, 101, 111, 117, 116, 69, 114, 114, 111, 114]⟩⟩ 131 (.type "TimeoutError"), en P ⟨⟨[73, 110, 100, 101, 110, 116, 97, 116, 105, 111, 110, 69, 114, 114, 111, 114]⟩⟩ 132 (.type "IndentationError"), en P ⟨⟨[95, 73, 110, 99, 111, 109, 112, 108, 101, 116, 101, 73, 110, 112, 117, 116, 69, 114, 114, 111, 114]⟩⟩ 133 (.type "_IncompleteInputError"), en P ⟨⟨[73, 110, 100, 101, 120, 69, 114, 114, 111, 114]⟩⟩ 134 (.type "IndexError"), en P ⟨⟨[75, 101, 121, 69, 114, 114, 111, 114]⟩⟩ 135 (.type "KeyError"), en P ⟨⟨[77, 111, 100, 117, 108, 101, 78, 111, 116, 70, 111, 117, 110, 100, 69, 114, 114, 111, 114]⟩⟩ 136 (.type "ModuleNotFoundError"), en P ⟨⟨[78, 111, 116, 73, 109, 112, 108, 101, 109, 101, 110, 116, 101, 100, 69, 114, 114, 111, 114]⟩⟩ 137 (.type "NotImplementedError"), en P ⟨⟨[80, 121, 116, 104, 111, 110, 70, 105, 110, 97, 108, 105, 122, 97, 116, 105, 111, 110, 69, 114, 114, 111, 114]⟩⟩ 138 (.type "PythonFinalizationError"), en P ⟨⟨[82, 101, 99, 117, 114, 115, 105, 111, 110, 69, 114, 114, 111, 114]⟩⟩ 139 (.type "RecursionError"), en P ⟨⟨[85, 110, 98, 111, 117, 110, 100, 76, 111, 99, 97, 108, 69, 114, 114, 111, 114]⟩⟩ 140 (.type "UnboundLocalError"), en P ⟨⟨[85, 110, 105, 99, 111, 100, 101, 69, 114, 114, 111, 114]⟩⟩ 141 (.type "UnicodeError"), en P ⟨⟨[66, 114, 111, 107, 101, 110, 80, 105, 112, 101, 69, 114, 114, 111, 114]⟩⟩ 142 (.type "BrokenPipeError"), en P ⟨⟨[67, 111, 110, 110, 101, 99, 116, 105, 111, 110, 65, 98, 111, 114, 116, 101, 100, 69, 114, 114, 111, 114]⟩⟩ 143 (.type "ConnectionAbortedError"), en P ⟨⟨[67, 111, 110, 110, 101, 99, 116, 105, 111, 110, 82, 101, 102, 117, 115, 101, 100, 69, 114, 114, 111, 114]⟩⟩ 144 (.type "ConnectionRefusedError"), en P ⟨⟨[67, 111, 110, 110, 101, 99, 116, 105, 111, 110, 82, 101, 115, 101, 116, 69, 114, 114, 111, 114]⟩⟩ 145 (.type "ConnectionResetError"), en P ⟨⟨[84, 97, 98, 69, 114, 114, 111, 114]⟩⟩ 146 (.type "TabError"), en P ⟨⟨[85, 110, 105, 99, 111, 100, 101, 68, 101, 99, 111, 100, 101, 69, 114, 114, 111, 114]⟩⟩ 147 (.type "UnicodeDecodeError"), en P ⟨⟨[85, 110, 105, 99, 111, 100, 101, 69, 110, 99, 111, 100, 101, 69, 114, 114, 111, 114]⟩⟩ 148 (.type "UnicodeEncodeError"), en P ⟨⟨[85, 110, 105, 99, 111, 100, 101, 84, 114, 97, 110, 115, 108, 97, 116, 101, 69, 114, 114, 111, 114]⟩⟩ 149 (.type "UnicodeTranslateError"), en P ⟨⟨[69, 120, 99, 101, 112, 116, 105, 111, 110, 71, 114, 111, 117, 112]⟩⟩ 150 (.type "ExceptionGroup"), en P ⟨⟨[69, 110, 118, 105, 114, 111, 110, 109, 101, 110, 116, 69, 114, 114, 111, 114]⟩⟩ 151 (.type "OSError"), en P ⟨⟨[73, 79, 69, 114, 114, 111, 114]⟩⟩ 152 (.type "OSError"), en P ⟨⟨[111, 112, 101, 110]⟩⟩ 153 (.builtin "open"), en P ⟨⟨[113, 117, 105, 116]⟩⟩ 154 (.builtin "builtins.quit#opaque"), en P ⟨⟨[101, 120, 105, 116]⟩⟩ 155 (.builtin "builtins.exit#opaque"), en P ⟨⟨[99, 111, 112, 121, 114, 105, 103, 104, 116]⟩⟩ 156 (.builtin "builtins.copyright#opaque"), en P ⟨⟨[99, 114, 101, 100, 105, 116, 115]⟩⟩ 157 (.builtin "builtins.credits#opaque"), en P ⟨⟨[108, 105, 99, 101, 110, 115, 101]⟩⟩ 158 (.builtin "builtins.license#opaque"), en P ⟨⟨[104, 101, 108, 112]⟩⟩ 159 (.builtin "builtins.help#opaque")]⟩ 159, ⟨[]⟩⟩
noncomputable def ob1 (b : Bool) (P : Params) : Obj := ⟨.type "dict", none, .dict ⟨[en P ⟨⟨[98, 117, 105, 108, 116, 105, 110, 115]⟩⟩ 162 (.ref 4), en P ⟨⟨[95, 95, 109, 97, 105, 110, 95, 95]⟩⟩ 163 (.ref 5), en P ⟨⟨[95, 115, 114, 101]⟩⟩ 244 (.ref 12)]⟩ 3, ⟨[]⟩⟩
noncomputable def ob2 (b : Bool) (P : Params) : Obj := ⟨.none, none, .dict ⟨[en P ⟨⟨[105, 109, 112, 111, 114, 116, 46, 108, 111, 97, 100, 101, 100, 46, 95, 115, 114, 101]⟩⟩ 183 (.bool true), en P ⟨⟨[99, 108, 97, 115, 115, 46, 95, 102, 114, 111, 122, 101, 110, 95, 105, 109, 112, 111, 114, 116, 108, 105, 98, 46, 66, 117, 105, 108, 116, 105, 110, 73, 109, 112, 111, 114, 116, 101, 114]⟩⟩ 185 (.ref 14), en P ⟨⟨[119, 97, 116, 99, 104, 101, 100, 46, 105, 109, 112, 111, 114, 116]⟩⟩ 206 (.ref 18), en P ⟨⟨[99, 108, 97, 115, 115, 46, 95, 102, 114, 111, 122, 101, 110, 95, 105, 109, 112, 111, 114, 116, 108, 105, 98, 46, 77, 111, 100, 117, 108, 101, 83, 112, 101, 99]⟩⟩ 216 (.ref 22), en P ⟨⟨[115, 121, 115, 46, 109, 111, 100, 117, 108, 101, 115, 46, 98, 111, 111, 107, 101, 100, 45, 101, 112, 111, 99, 104]⟩⟩ 245 (.int 3 0), en P ⟨⟨[105, 109, 112, 111, 114, 116, 46, 108, 97, 116, 101, 114, 45, 108, 97, 105, 100, 46, 95, 115, 114, 101]⟩⟩ 270 (.bool true), en P ⟨⟨[119, 97, 116, 99, 104, 101, 100, 46, 108, 105, 98, 114, 97, 114, 121]⟩⟩ 272 (.ref 27), en P ⟨⟨[119, 97, 116, 99, 104, 101, 100, 46, 108, 105, 98, 114, 97, 114, 121, 45, 111, 98, 106, 101, 99, 116, 115]⟩⟩ 0 (.str ⟨⟨[12]⟩⟩ 0), en P ⟨⟨[119, 97, 116, 99, 104, 101, 100, 46, 108, 105, 98, 114, 97, 114, 121, 45, 100, 101, 101, 112, 46, 95, 115, 114, 101]⟩⟩ 273 (.str ⟨⟨[4, 0, 0, 11, 4, 0, 0, 11, 4, 0, 0, 3, 4, 0, 0, 11, 8, 4, 100, 105, 99, 116, 2]⟩⟩ 0)]⟩ 9, ⟨[]⟩⟩
noncomputable def ob3 (b : Bool) (P : Params) : Obj := ⟨.type "dict", none, .dict ⟨[en P ⟨⟨[95, 95, 110, 97, 109, 101, 95, 95]⟩⟩ 165 (.str ⟨⟨[95, 95, 109, 97, 105, 110, 95, 95]⟩⟩ 164), en P ⟨⟨[95, 95, 100, 111, 99, 95, 95]⟩⟩ 166 (.none), en P ⟨⟨[95, 95, 112, 97, 99, 107, 97, 103, 101, 95, 95]⟩⟩ 167 (.none), en P ⟨⟨[95, 95, 108, 111, 97, 100, 101, 114, 95, 95]⟩⟩ 168 (.builtin "__main__.__loader__#opaque"), en P ⟨⟨[95, 95, 115, 112, 101, 99, 95, 95]⟩⟩ 169 (.none), en P ⟨⟨[95, 95, 97, 110, 110, 111, 116, 97, 116, 105, 111, 110, 115, 95, 95]⟩⟩ 170 (.ref 6), en P ⟨⟨[95, 95, 98, 117, 105, 108, 116, 105, 110, 115, 95, 95]⟩⟩ 171 (.ref 4), en P ⟨⟨[95, 95, 102, 105, 108, 101, 95, 95]⟩⟩ 173 (.str ⟨⟨[47, 99, 108, 97, 105, 109, 47, 99, 117, 116, 46, 112, 121]⟩⟩ 172), en P ⟨⟨[95, 95, 99, 97, 99, 104, 101, 100, 95, 95]⟩⟩ 174 (.none), en P ⟨⟨[95, 115, 114, 101]⟩⟩ 275 (.ref 12)]⟩ 10, ⟨[]⟩⟩
noncomputable def ob4 (b : Bool) (P : Params) : Obj := ⟨.type "module", (some (0)), .plain, ⟨[]⟩⟩
noncomputable def ob5 (b : Bool) (P : Params) : Obj := ⟨.type "module", (some (3)), .plain, ⟨[]⟩⟩
noncomputable def ob6 (b : Bool) (P : Params) : Obj := ⟨.type "dict", none, .dict ⟨[]⟩ 0, ⟨[]⟩⟩
noncomputable def ob7 (b : Bool) (P : Params) : Obj := ⟨.type "tuple", none, .seq ⟨[]⟩ 0, ⟨[]⟩⟩
noncomputable def ob8 (b : Bool) (P : Params) : Obj := ⟨.none, none, .fields ⟨[]⟩, ⟨[]⟩⟩
noncomputable def ob9 (b : Bool) (P : Params) : Obj := ⟨.type "code", none, .fields ⟨[.str ⟨⟨[60, 109, 111, 100, 117, 108, 101, 62]⟩⟩ 176, .str ⟨⟨[60, 109, 111, 100, 117, 108, 101, 62]⟩⟩ 177, .str ⟨⟨[47, 99, 108, 97, 105, 109, 47, 99, 117, 116, 46, 112, 121]⟩⟩ 178, .int 1 0, .int 0 0, .int 0 0, .int 0 0, .int 0 0, .ref 7, .bool false, .int 175 0, .ref 8, .none, .none, .none, .none, .int 179 0, .int 1 0, .str ⟨⟨[47, 99, 108, 97, 105, 109, 47, 99, 117, 116, 46, 112, 121]⟩⟩ 180]⟩, ⟨[]⟩⟩
noncomputable def ob10 (b : Bool) (P : Params) : Obj := ⟨.type "frame", none, .plain, ⟨[(some (.ref 9)), (some (.ref 3)), (some (.ref 3)), none, (some (.str ⟨⟨[95, 95, 109, 97, 105, 110, 95, 95]⟩⟩ 164)), none, (some (.ref 0))]⟩⟩
noncomputable def ob11 (b : Bool) (P : Params) : Obj := ⟨.type "dict", none, .dict ⟨[en P ⟨⟨[95, 95, 110, 97, 109, 101, 95, 95]⟩⟩ 247 (.str ⟨⟨[95, 115, 114, 101]⟩⟩ 246), en P ⟨⟨[95, 95, 100, 111, 99, 95, 95]⟩⟩ 248 (.none), en P ⟨⟨[95, 95, 112, 97, 99, 107, 97, 103, 101, 95, 95]⟩⟩ 250 (.str ⟨⟨[]⟩⟩ 249), en P ⟨⟨[95, 95, 108, 111, 97, 100, 101, 114, 95, 95]⟩⟩ 251 (.ref 14), en P ⟨⟨[95, 95, 115, 112, 101, 99, 95, 95]⟩⟩ 252 (.ref 26), en P ⟨⟨[99, 111, 109, 112, 105, 108, 101]⟩⟩ 253 (.builtin "_sre.compile"), en P ⟨⟨[116, 101, 109, 112, 108, 97, 116, 101]⟩⟩ 254 (.builtin "_sre.template"), en P ⟨⟨[103, 101, 116, 99, 111, 100, 101, 115, 105, 122, 101]⟩⟩ 255 (.builtin "_sre.getcodesize"), en P ⟨⟨[97, 115, 99, 105, 105, 95, 105, 115, 99, 97, 115, 101, 100]⟩⟩ 256 (.builtin "_sre.ascii_iscased"), en P ⟨⟨[117, 110, 105, 99, 111, 100, 101, 95, 105, 115, 99, 97, 115, 101, 100]⟩⟩ 257 (.builtin "_sre.unicode_iscased"), en P ⟨⟨[97, 115, 99, 105, 105, 95, 116, 111, 108, 111, 119, 101, 114]⟩⟩ 258 (.builtin "_sre.ascii_tolower"), en P ⟨⟨[117, 110, 105, 99, 111, 100, 101, 95, 116, 111, 108, 111, 119, 101, 114]⟩⟩ 259 (.builtin "_sre.unicode_tolower"), en P ⟨⟨[77, 65, 71, 73, 67]⟩⟩ 261 (.int 20230612 260), en P ⟨⟨[67, 79, 68, 69, 83, 73, 90, 69]⟩⟩ 263 (.int 4 262), en P ⟨⟨[77, 65, 88, 82, 69, 80, 69, 65, 84]⟩⟩ 265 (.int 4294967295 264), en P ⟨⟨[77, 65, 88, 71, 82, 79, 85, 80, 83]⟩⟩ 267 (.int 1073741823 266), en P ⟨⟨[99, 111, 112, 121, 114, 105, 103, 104, 116]⟩⟩ 269 (.str ⟨⟨[32, 83, 82, 69, 32, 50, 46, 50, 46, 50, 32, 67, 111, 112, 121, 114, 105, 103, 104, 116, 32, 40, 99, 41, 32, 49, 57, 57, 55, 45, 50, 48, 48, 50, 32, 98, 121, 32, 83, 101, 99, 114, 101, 116, 32, 76, 97, 98, 115, 32, 65, 66, 32]⟩⟩ 268)]⟩ 17, ⟨[]⟩⟩
noncomputable def ob12 (b : Bool) (P : Params) : Obj := ⟨.type "module", (some (11)), .plain, ⟨[]⟩⟩
noncomputable def ob13 (b : Bool) (P : Params) : Obj := ⟨.type "dict", none, .dict ⟨[en P ⟨⟨[95, 95, 109, 111, 100, 117, 108, 101, 95, 95]⟩⟩ 189 (.str ⟨⟨[95, 102, 114, 111, 122, 101, 110, 95, 105, 109, 112, 111, 114, 116, 108, 105, 98]⟩⟩ 186), en P ⟨⟨[95, 95, 102, 105, 114, 115, 116, 108, 105, 110, 101, 110, 111, 95, 95]⟩⟩ 190 (.int 971 187), en P ⟨⟨[95, 95, 100, 111, 99, 95, 95]⟩⟩ 191 (.builtin "_frozen_importlib.BuiltinImporter.__doc__:str#opaque"), en P ⟨⟨[95, 79, 82, 73, 71, 73, 78]⟩⟩ 192 (.str ⟨⟨[98, 117, 105, 108, 116, 45, 105, 110]⟩⟩ 188), en P ⟨⟨[102, 105, 110, 100, 95, 115, 112, 101, 99]⟩⟩ 193 (.builtin "_frozen_importlib.BuiltinImporter.find_spec#opaque"), en P ⟨⟨[99, 114, 101, 97, 116, 101, 95, 109, 111, 100, 117, 108, 101]⟩⟩ 194 (.builtin "_frozen_importlib.BuiltinImporter.create_module#opaque"), en P ⟨⟨[101, 120, 101, 99, 95, 109, 111, 100, 117, 108, 101]⟩⟩ 195 (.builtin "_frozen_importlib.BuiltinImporter.exec_module#opaque"), en P ⟨⟨[103, 101, 116, 95, 99, 111, 100, 101]⟩⟩ 196 (.builtin "_frozen_importlib.BuiltinImporter.get_code#opaque"), en P ⟨⟨[103, 101, 116, 95, 115, 111, 117, 114, 99, 101]⟩⟩ 197 (.builtin "_frozen_importlib.BuiltinImporter.get_source#opaque"), en P ⟨⟨[105, 115, 95, 112, 97, 99, 107, 97, 103, 101]⟩⟩ 198 (.builtin "_frozen_importlib.BuiltinImporter.is_package#opaque"), en P ⟨⟨[108, 111, 97, 100, 95, 109, 111, 100, 117, 108, 101]⟩⟩ 199 (.builtin "_frozen_importlib.BuiltinImporter.load_module#opaque"), en P ⟨⟨[95, 95, 115, 116, 97, 116, 105, 99, 95, 97, 116, 116, 114, 105, 98, 117, 116, 101, 115, 95, 95]⟩⟩ 200 (.ref 15), en P ⟨⟨[95, 95, 100, 105, 99, 116, 95, 95]⟩⟩ 202 (.ref 16), en P ⟨⟨[95, 95, 119, 101, 97, 107, 114, 101, 102, 95, 95]⟩⟩ 204 (.ref 17)]⟩ 14, ⟨[]⟩⟩
noncomputable def ob14 (b : Bool) (P : Params) : Obj := ⟨.type "type", none, .cls { name := ⟨⟨[66, 117, 105, 108, 116, 105, 110, 73, 109, 112, 111, 114, 116, 101, 114]⟩⟩, bases := [.type "object"], mro := [.ref 14, .type "object"], ns := 13, qualname := ⟨⟨[66, 117, 105, 108, 116, 105, 110, 73, 109, 112, 111, 114, 116, 101, 114]⟩⟩, hasDict := true, slotNames := [], subclasses := [], abstract := false, collection := none, hasDel := false }, ⟨[]⟩⟩
noncomputable def ob15 (b : Bool) (P : Params) : Obj := ⟨.type "getset_descriptor", none, .fields ⟨[.str ⟨⟨[95, 95, 100, 105, 99, 116, 95, 95]⟩⟩ 201, .ref 14, .builtin "function.__dict__", .builtin "function.__dict__#set"]⟩, ⟨[]⟩⟩
noncomputable def ob16 (b : Bool) (P : Params) : Obj := ⟨.type "getset_descriptor", none, .fields ⟨[.str ⟨⟨[95, 95, 119, 101, 97, 107, 114, 101, 102, 95, 95]⟩⟩ 203, .ref 14, .builtin "ExceptionGroup.__weakref__", .none]⟩, ⟨[]⟩⟩
noncomputable def ob17 (b : Bool) (P : Params) : Obj := ⟨.none, none, .seq ⟨[.int 13 0, .str ⟨⟨[6, 189, 10, 95, 95, 109, 111, 100, 117, 108, 101, 95, 95, 6, 186, 17, 95, 102, 114, 111, 122, 101, 110, 95, 105, 109, 112, 111, 114, 116, 108, 105, 98, 6, 190, 15, 95, 95, 102, 105, 114, 115, 116, 108, 105, 110, 101, 110, 111, 95, 95, 4, 187, 0, 971, 6, 191, 7, 95, 95, 100, 111, 99, 95, 95, 9, 52, 95, 102, 114, 111, 122, 101, 110, 95, 105, 109, 112, 111, 114, 116, 108, 105, 98, 46, 66, 117, 105, 108, 116, 105, 110, 73, 109, 112, 111, 114, 116, 101, 114, 46, 95, 95, 100, 111, 99, 95, 95, 58, 115, 116, 114, 35, 111, 112, 97, 113, 117, 101, 6, 192, 7, 95, 79, 82, 73, 71, 73, 78, 6, 188, 8, 98, 117, 105, 108, 116, 45, 105, 110, 6, 193, 9, 102, 105, 110, 100, 95, 115, 112, 101, 99, 9, 50, 95, 102, 114, 111, 122, 101, 110, 95, 105, 109, 112, 111, 114, 116, 108, 105, 98, 46, 66, 117, 105, 108, 116, 105, 110, 73, 109, 112, 111, 114, 116, 101, 114, 46, 102, 105, 110, 100, 95, 115, 112, 101, 99, 35, 111, 112, 97, 113, 117, 101, 6, 194, 13, 99, 114, 101, 97, 116, 101, 95, 109, 111, 100, 117, 108, 101, 9, 54, 95, 102, 114, 111, 122, 101, 110, 95, 105, 109, 112, 111, 114, 116, 108, 105, 98, 46, 66, 117, 105, 108, 116, 105, 110, 73, 109, 112, 111, 114, 116, 101, 114, 46, 99, 114, 101, 97, 116, 101, 95, 109, 111, 100, 117, 108, 101, 35, 111, 112, 97, 113, 117, 101, 6, 195, 11, 101, 120, 101, 99, 95, 109, 111, 100, 117, 108, 101, 9, 52, 95, 102, 114, 111, 122, 101, 110, 95, 105, 109, 112, 111, 114, 116, 108, 105, 98, 46, 66, 117, 105, 108, 116, 105, 110, 73, 109, 112, 111, 114, 116, 101, 114, 46, 101, 120, 101, 99, 95, 109, 111, 100, 117, 108, 101, 35, 111, 112, 97, 113, 117, 101, 6, 196, 8, 103, 101, 116, 95, 99, 111, 100, 101, 9, 49, 95, 102, 114, 111, 122, 101, 110, 95, 105, 109, 112, 111, 114, 116, 108, 105, 98, 46, 66, 117, 105, 108, 116, 105, 110, 73, 109, 112, 111, 114, 116, 101, 114, 46, 103, 101, 116, 95, 99, 111, 100, 101, 35, 111, 112, 97, 113, 117, 101, 6, 197, 10, 103, 101, 116, 95, 115, 111, 117, 114, 99, 101, 9, 51, 95, 102, 114, 111, 122, 101, 110, 95, 105, 109, 112, 111, 114, 116, 108, 105, 98, 46, 66, 117, 105, 108, 116, 105, 110, 73, 109, 112, 111, 114, 116, 101, 114, 46, 103, 101, 116, 95, 115, 111, 117, 114, 99, 101, 35, 111, 112, 97, 113, 117, 101, 6, 198, 10, 105, 115, 95, 112, 97, 99, 107, 97, 103, 101, 9, 51, 95, 102, 114, 111, 122, 101, 110, 95, 105, 109, 112, 111, 114, 116, 108, 105, 98, 46, 66, 117, 105, 108, 116, 105, 110, 73, 109, 112, 111, 114, 116, 101, 114, 46, 105, 115, 95, 112, 97, 99, 107, 97, 103, 101, 35, 111, 112, 97, 113, 117, 101, 6, 199, 11, 108, 111, 97, 100, 95, 109, 111, 100, 117, 108, 101, 9, 52, 95, 102, 114, 111, 122, 101, 110, 95, 105, 109, 112, 111, 114, 116, 108, 105, 98, 46, 66, 117, 105, 108, 116, 105, 110, 73, 109, 112, 111, 114, 116, 101, 114, 46, 108, 111, 97, 100, 95, 109, 111, 100, 117, 108, 101, 35, 111, 112, 97, 113, 117, 101, 6, 200, 21, 95, 95, 115, 116, 97, 116, 105, 99, 95, 97, 116, 116, 114, 105, 98, 117, 116, 101, 115, 95, 95, 4, 0, 0, 15, 6, 202, 8, 95, 95, 100, 105, 99, 116, 95, 95, 4, 0, 0, 16, 6, 204, 11, 95, 95, 119, 101, 97, 107, 114, 101, 102, 95, 95, 4, 0, 0, 17]⟩⟩ 0, .bool true, .bool true, .str ⟨⟨[]⟩⟩ 205, .int 21 0, .str ⟨⟨[6, 227, 10, 95, 95, 109, 111, 100, 117, 108, 101, 95, 95, 6, 217, 17, 95, 102, 114, 111, 122, 101, 110, 95, 105, 109, 112, 111, 114, 116, 108, 105, 98, 6, 228, 15, 95, 95, 102, 105, 114, 115, 116, 108, 105, 110, 101, 110, 111, 95, 95, 4, 218, 0, 562, 6, 229, 7, 95, 95, 100, 111, 99, 95, 95, 9, 47, 95, 102, 114, 111, 122, 101, 110, 95, 105, 109, 112, 111, 114, 116, 108, 105, 98, 46, 77, 111, 100, 117, 108, 101, 83, 112, 101, 99, 46, 95, 95, 100, 111, 99, 95, 95, 58, 115, 116, 114, 35, 111, 112, 97, 113, 117, 101, 6, 230, 8, 95, 95, 105, 110, 105, 116, 95, 95, 9, 44, 95, 102, 114, 111, 122, 101, 110, 95, 105, 109, 112, 111, 114, 116, 108, 105, 98, 46, 77, 111, 100, 117, 108, 101, 83, 112, 101, 99, 46, 95, 95, 105, 110, 105, 116, 95, 95, 35, 111, 112, 97, 113, 117, 101, 6, 231, 8, 95, 95, 114, 101, 112, 114, 95, 95, 9, 44, 95, 102, 114, 111, 122, 101, 110, 95, 105, 109, 112, 111, 114, 116, 108, 105, 98, 46, 77, 111, 100, 117, 108, 101, 83, 112, 101, 99, 46, 95, 95, 114, 101, 112, 114, 95, 95, 35, 111, 112, 97, 113, 117, 101, 6, 232, 6, 95, 95, 101, 113, 95, 95, 9, 42, 95, 102, 114, 111, 122, 101, 110, 95, 105, 109, 112, 111, 114, 116, 108, 105, 98, 46, 77, 111, 100, 117, 108, 101, 83, 112, 101, 99, 46, 95, 95, 101, 113, 95, 95, 35, 111, 112, 97, 113, 117, 101, 6, 233, 6, 99, 97, 99, 104, 101, 100, 9, 42, 95, 102, 114, 111, 122, 101, 110, 95, 105, 109, 112, 111, 114, 116, 108, 105, 98, 46, 77, 111, 100, 117, 108, 101, 83, 112, 101, 99, 46, 99, 97, 99, 104, 101, 100, 35, 111, 112, 97, 113, 117, 101, 6, 234, 6, 112, 97, 114, 101, 110, 116, 9, 42, 95, 102, 114, 111, 122, 101, 110, 95, 105, 109, 112, 111, 114, 116, 108, 105, 98, 46, 77, 111, 100, 117, 108, 101, 83, 112, 101, 99, 46, 112, 97, 114, 101, 110, 116, 35, 111, 112, 97, 113, 117, 101, 6, 235, 12, 104, 97, 115, 95, 108, 111, 99, 97, 116, 105, 111, 110, 9, 48, 95, 102, 114, 111, 122, 101, 110, 95, 105, 109, 112, 111, 114, 116, 108, 105, 98, 46, 77, 111, 100, 117, 108, 101, 83, 112, 101, 99, 46, 104, 97, 115, 95, 108, 111, 99, 97, 116, 105, 111, 110, 35, 111, 112, 97, 113, 117, 101, 6, 236, 21, 95, 95, 115, 116, 97, 116, 105, 99, 95, 97, 116, 116, 114, 105, 98, 117, 116, 101, 115, 95, 95, 4, 0, 0, 23, 6, 238, 8, 95, 95, 100, 105, 99, 116, 95, 95, 4, 0, 0, 24, 6, 240, 11, 95, 95, 119, 101, 97, 107, 114, 101, 102, 95, 95, 4, 0, 0, 25, 6, 241, 8, 95, 95, 104, 97, 115, 104, 95, 95, 0]⟩⟩ 0, .bool true, .bool true, .str ⟨⟨[]⟩⟩ 242]⟩ 1, ⟨[]⟩⟩
noncomputable def ob18 (b : Bool) (P : Params) : Obj := ⟨.type "list", none, .seq ⟨[]⟩ 0, ⟨[]⟩⟩
noncomputable def ob19 (b : Bool) (P : Params) : Obj := ⟨.type "dict", none, .dict ⟨[en P ⟨⟨[110, 97, 109, 101]⟩⟩ 208 (.str ⟨⟨[95, 115, 114, 101]⟩⟩ 207), en P ⟨⟨[108, 111, 97, 100, 101, 114]⟩⟩ 209 (.ref 14), en P ⟨⟨[111, 114, 105, 103, 105, 110]⟩⟩ 210 (.str ⟨⟨[98, 117, 105, 108, 116, 45, 105, 110]⟩⟩ 184), en P ⟨⟨[108, 111, 97, 100, 101, 114, 95, 115, 116, 97, 116, 101]⟩⟩ 211 (.none), en P ⟨⟨[115, 117, 98, 109, 111, 100, 117, 108, 101, 95, 115, 101, 97, 114, 99, 104, 95, 108, 111, 99, 97, 116, 105, 111, 110, 115]⟩⟩ 212 (.none), en P ⟨⟨[95, 117, 110, 105, 110, 105, 116, 105, 97, 108, 105, 122, 101, 100, 95, 115, 117, 98, 109, 111, 100, 117, 108, 101, 115]⟩⟩ 213 (.ref 19), en P ⟨⟨[95, 115, 101, 116, 95, 102, 105, 108, 101, 97, 116, 116, 114]⟩⟩ 214 (.bool false), en P ⟨⟨[95, 99, 97, 99, 104, 101, 100]⟩⟩ 215 (.none), en P ⟨⟨[95, 105, 110, 105, 116, 105, 97, 108, 105, 122, 105, 110, 103]⟩⟩ 243 (.bool false)]⟩ 9, ⟨[]⟩⟩
noncomputable def ob20 (b : Bool) (P : Params) : Obj := ⟨.type "dict", none, .dict ⟨[en P ⟨⟨[95, 95, 109, 111, 100, 117, 108, 101, 95, 95]⟩⟩ 227 (.str ⟨⟨[95, 102, 114, 111, 122, 101, 110, 95, 105, 109, 112, 111, 114, 116, 108, 105, 98]⟩⟩ 217), en P ⟨⟨[95, 95, 102, 105, 114, 115, 116, 108, 105, 110, 101, 110, 111, 95, 95]⟩⟩ 228 (.int 562 218), en P ⟨⟨[95, 95, 100, 111, 99, 95, 95]⟩⟩ 229 (.builtin "_frozen_importlib.ModuleSpec.__doc__:str#opaque"), en P ⟨⟨[95, 95, 105, 110, 105, 116, 95, 95]⟩⟩ 230 (.builtin "_frozen_importlib.ModuleSpec.__init__#opaque"), en P ⟨⟨[95, 95, 114, 101, 112, 114, 95, 95]⟩⟩ 231 (.builtin "_frozen_importlib.ModuleSpec.__repr__#opaque"), en P ⟨⟨[95, 95, 101, 113, 95, 95]⟩⟩ 232 (.builtin "_frozen_importlib.ModuleSpec.__eq__#opaque"), en P ⟨⟨[99, 97, 99, 104, 101, 100]⟩⟩ 233 (.builtin "_frozen_importlib.ModuleSpec.cached#opaque"), en P ⟨⟨[112, 97, 114, 101, 110, 116]⟩⟩ 234 (.builtin "_frozen_importlib.ModuleSpec.parent#opaque"), en P ⟨⟨[104, 97, 115, 95, 108, 111, 99, 97, 116, 105, 111, 110]⟩⟩ 235 (.builtin "_frozen_importlib.ModuleSpec.has_location#opaque"), en P ⟨⟨[95, 95, 115, 116, 97, 116, 105, 99, 95, 97, 116, 116, 114, 105, 98, 117, 116, 101, 115, 95, 95]⟩⟩ 236 (.ref 23), en P ⟨⟨[95, 95, 100, 105, 99, 116, 95, 95]⟩⟩ 238 (.ref 24), en P ⟨⟨[95, 95, 119, 101, 97, 107, 114, 101, 102, 95, 95]⟩⟩ 240 (.ref 25), en P ⟨⟨[95, 95, 104, 97, 115, 104, 95, 95]⟩⟩ 241 (.none)]⟩ 13, ⟨[]⟩⟩
noncomputable def ob21 (b : Bool) (P : Params) : Obj := ⟨.type "type", none, .cls { name := ⟨⟨[77, 111, 100, 117, 108, 101, 83, 112, 101, 99]⟩⟩, bases := [.type "object"], mro := [.ref 22, .type "object"], ns := 21, qualname := ⟨⟨[77, 111, 100, 117, 108, 101, 83, 112, 101, 99]⟩⟩, hasDict := true, slotNames := [], subclasses := [], abstract := false, collection := none, hasDel := false }, ⟨[]⟩⟩
noncomputable def ob22 (b : Bool) (P : Params) : Obj := ⟨.type "tuple", none, .seq ⟨[.str ⟨⟨[95, 99, 97, 99, 104, 101, 100]⟩⟩ 219, .str ⟨⟨[95, 115, 101, 116, 95, 102, 105, 108, 101, 97, 116, 116, 114]⟩⟩ 220, .str ⟨⟨[95, 117, 110, 105, 110, 105, 116, 105, 97, 108, 105, 122, 101, 100, 95, 115, 117, 98, 109, 111, 100, 117, 108, 101, 115]⟩⟩ 221, .str ⟨⟨[108, 111, 97, 100, 101, 114]⟩⟩ 222, .str ⟨⟨[108, 111, 97, 100, 101, 114, 95, 115, 116, 97, 116, 101]⟩⟩ 223, .str ⟨⟨[110, 97, 109, 101]⟩⟩ 224, .str ⟨⟨[111, 114, 105, 103, 105, 110]⟩⟩ 225, .str ⟨⟨[115, 117, 98, 109, 111, 100, 117, 108, 101, 95, 115, 101, 97, 114, 99, 104, 95, 108, 111, 99, 97, 116, 105, 111, 110, 115]⟩⟩ 226]⟩ 0, ⟨[]⟩⟩
noncomputable def ob23 (b : Bool) (P : Params) : Obj := ⟨.type "getset_descriptor", none, .fields ⟨[.str ⟨⟨[95, 95, 100, 105, 99, 116, 95, 95]⟩⟩ 237, .ref 22, .builtin "function.__dict__", .builtin "function.__dict__#set"]⟩, ⟨[]⟩⟩
noncomputable def ob24 (b : Bool) (P : Params) : Obj := ⟨.type "getset_descriptor", none, .fields ⟨[.str ⟨⟨[95, 95, 119, 101, 97, 107, 114, 101, 102, 95, 95]⟩⟩ 239, .ref 22, .builtin "ExceptionGroup.__weakref__", .none]⟩, ⟨[]⟩⟩
noncomputable def ob25 (b : Bool) (P : Params) : Obj := ⟨.ref 22, (some (20)), .plain, ⟨[]⟩⟩
noncomputable def ob26 (b : Bool) (P : Params) : Obj := ⟨.none, none, .seq ⟨[.int 11 0, .str ⟨⟨[6, 247, 8, 95, 95, 110, 97, 109, 101, 95, 95, 6, 246, 4, 95, 115, 114, 101, 6, 248, 7, 95, 95, 100, 111, 99, 95, 95, 0, 6, 250, 11, 95, 95, 112, 97, 99, 107, 97, 103, 101, 95, 95, 6, 249, 0, 6, 251, 10, 95, 95, 108, 111, 97, 100, 101, 114, 95, 95, 4, 0, 0, 14, 6, 252, 8, 95, 95, 115, 112, 101, 99, 95, 95, 4, 0, 0, 26, 6, 253, 7, 99, 111, 109, 112, 105, 108, 101, 9, 12, 95, 115, 114, 101, 46, 99, 111, 109, 112, 105, 108, 101, 6, 254, 8, 116, 101, 109, 112, 108, 97, 116, 101, 9, 13, 95, 115, 114, 101, 46, 116, 101, 109, 112, 108, 97, 116, 101, 6, 255, 11, 103, 101, 116, 99, 111, 100, 101, 115, 105, 122, 101, 9, 16, 95, 115, 114, 101, 46, 103, 101, 116, 99, 111, 100, 101, 115, 105, 122, 101, 6, 256, 13, 97, 115, 99, 105, 105, 95, 105, 115, 99, 97, 115, 101, 100, 9, 18, 95, 115, 114, 101, 46, 97, 115, 99, 105, 105, 95, 105, 115, 99, 97, 115, 101, 100, 6, 257, 15, 117, 110, 105, 99, 111, 100, 101, 95, 105, 115, 99, 97, 115, 101, 100, 9, 20, 95, 115, 114, 101, 46, 117, 110, 105, 99, 111, 100, 101, 95, 105, 115, 99, 97, 115, 101, 100, 6, 258, 13, 97, 115, 99, 105, 105, 95, 116, 111, 108, 111, 119, 101, 114, 9, 18, 95, 115, 114, 101, 46, 97, 115, 99, 105, 105, 95, 116, 111, 108, 111, 119, 101, 114, 6, 259, 15, 117, 110, 105, 99, 111, 100, 101, 95, 116, 111, 108, 111, 119, 101, 114, 9, 20, 95, 115, 114, 101, 46, 117, 110, 105, 99, 111, 100, 101, 95, 116, 111, 108, 111, 119, 101, 114, 6, 261, 5, 77, 65, 71, 73, 67, 4, 260, 0, 20230612, 6, 263, 8, 67, 79, 68, 69, 83, 73, 90, 69, 4, 262, 0, 4, 6, 265, 9, 77, 65, 88, 82, 69, 80, 69, 65, 84, 4, 264, 0, 4294967295, 6, 267, 9, 77, 65, 88, 71, 82, 79, 85, 80, 83, 4, 266, 0, 1073741823, 6, 269, 9, 99, 111, 112, 121, 114, 105, 103, 104, 116, 6, 268, 53, 32, 83, 82, 69, 32, 50, 46, 50, 46, 50, 32, 67, 111, 112, 121, 114, 105, 103, 104, 116, 32, 40, 99, 41, 32, 49, 57, 57, 55, 45, 50, 48, 48, 50, 32, 98, 121, 32, 83, 101, 99, 114, 101, 116, 32, 76, 97, 98, 115, 32, 65, 66, 32]⟩⟩ 0, .bool true, .bool false, .str ⟨⟨[95, 115, 114, 101]⟩⟩ 271]⟩ 0, ⟨[]⟩⟩
noncomputable def tr0 (b : Bool) (P : Params) : BT := (.node (ob0 b P) (.node (ob1 b P) (.node (ob3 b P) (.node (ob7 b P) (.node (ob7 b P) .nil .nil) (.node (ob22 b P) .nil .nil)) (.node (ob11 b P) (.node (ob18 b P) .nil .nil) (.node (ob26 b P) .nil .nil))) (.node (ob5 b P) (.node (ob9 b P) (.node (ob16 b P) .nil .nil) (.node (ob24 b P) .nil .nil)) (.node (ob13 b P) (.node (ob20 b P) .nil .nil) .nil))) (.node (ob2 b P) (.node (ob4 b P) (.node (ob8 b P) (.node (ob15 b P) .nil .nil) (.node (ob23 b P) .nil .nil)) (.node (ob12 b P) (.node (ob19 b P) .nil .nil) .nil)) (.node (ob6 b P) (.node (ob10 b P) (.node (ob17 b P) .nil .nil) (.node (ob25 b P) .nil .nil)) (.node (ob14 b P) (.node (ob21 b P) .nil .nil) .nil))))
noncomputable def st0 (b : Bool) (w : World) (os : OsState) : SharedT := ⟨tr0 b w.params, 28, lf, ⟨[]⟩, dr, 276, os⟩
noncomputable def ob27 (b : Bool) (P : Params) : Obj := ⟨.type "dict", none, .dict ⟨[en P ⟨⟨[95, 95, 110, 97, 109, 101, 95, 95]⟩⟩ 247 (.str ⟨⟨[95, 115, 114, 101]⟩⟩ 246), en P ⟨⟨[95, 95, 100, 111, 99, 95, 95]⟩⟩ 248 (.none), en P ⟨⟨[95, 95, 112, 97, 99, 107, 97, 103, 101, 95, 95]⟩⟩ 250 (.str ⟨⟨[]⟩⟩ 249), en P ⟨⟨[95, 95, 108, 111, 97, 100, 101, 114, 95, 95]⟩⟩ 251 (.builtin "off-the-table:_sre.__loader__:shared#opaque"), en P ⟨⟨[95, 95, 115, 112, 101, 99, 95, 95]⟩⟩ 252 (.builtin "off-the-table:_sre.__spec__:shared#opaque"), en P ⟨⟨[99, 111, 109, 112, 105, 108, 101]⟩⟩ 253 (.builtin "_sre.compile"), en P ⟨⟨[116, 101, 109, 112, 108, 97, 116, 101]⟩⟩ 254 (.builtin "off-the-table:_sre.template:shared#opaque"), en P ⟨⟨[103, 101, 116, 99, 111, 100, 101, 115, 105, 122, 101]⟩⟩ 255 (.builtin "off-the-table:_sre.getcodesize:shared#opaque"), en P ⟨⟨[97, 115, 99, 105, 105, 95, 105, 115, 99, 97, 115, 101, 100]⟩⟩ 256 (.builtin "off-the-table:_sre.ascii_iscased:shared#opaque"), en P ⟨⟨[117, 110, 105, 99, 111, 100, 101, 95, 105, 115, 99, 97, 115, 101, 100]⟩⟩ 257 (.builtin "off-the-table:_sre.unicode_iscased:shared#opaque"), en P ⟨⟨[97, 115, 99, 105, 105, 95, 116, 111, 108, 111, 119, 101, 114]⟩⟩ 258 (.builtin "off-the-table:_sre.ascii_tolower:shared#opaque"), en P ⟨⟨[117, 110, 105, 99, 111, 100, 101, 95, 116, 111, 108, 111, 119, 101, 114]⟩⟩ 259 (.builtin "off-the-table:_sre.unicode_tolower:shared#opaque"), en P ⟨⟨[77, 65, 71, 73, 67]⟩⟩ 261 (.int 20230612 260), en P ⟨⟨[67, 79, 68, 69, 83, 73, 90, 69]⟩⟩ 263 (.int 4 262), en P ⟨⟨[77, 65, 88, 82, 69, 80, 69, 65, 84]⟩⟩ 265 (.int 4294967295 264), en P ⟨⟨[77, 65, 88, 71, 82, 79, 85, 80, 83]⟩⟩ 267 (.int 1073741823 266), en P ⟨⟨[99, 111, 112, 121, 114, 105, 103, 104, 116]⟩⟩ 269 (.str ⟨⟨[32, 83, 82, 69, 32, 50, 46, 50, 46, 50, 32, 67, 111, 112, 121, 114, 105, 103, 104, 116, 32, 40, 99, 41, 32, 49, 57, 57, 55, 45, 50, 48, 48, 50, 32, 98, 121, 32, 83, 101, 99, 114, 101, 116, 32, 76, 97, 98, 115, 32, 65, 66, 32]⟩⟩ 268)]⟩ 17, ⟨[]⟩⟩
noncomputable def tr1 (b : Bool) (P : Params) : BT := (.node (ob0 b P) (.node (ob1 b P) (.node (ob3 b P) (.node (ob7 b P) (.node (ob7 b P) .nil .nil) (.node (ob22 b P) .nil .nil)) (.node (ob27 b P) (.node (ob18 b P) .nil .nil) (.node (ob26 b P) .nil .nil))) (.node (ob5 b P) (.node (ob9 b P) (.node (ob16 b P) .nil .nil) (.node (ob24 b P) .nil .nil)) (.node (ob13 b P) (.node (ob20 b P) .nil .nil) .nil))) (.node (ob2 b P) (.node (ob4 b P) (.node (ob8 b P) (.node (ob15 b P) .nil .nil) (.node (ob23 b P) .nil .nil)) (.node (ob12 b P) (.node (ob19 b P) .nil .nil) .nil)) (.node (ob6 b P) (.node (ob10 b P) (.node (ob17 b P) .nil .nil) (.node (ob25 b P) .nil .nil)) (.node (ob14 b P) (.node (ob21 b P) .nil .nil) .nil))))
noncomputable def st1 (b : Bool) (w : World) (os : OsState) : SharedT := ⟨tr1 b w.params, 28, lf, ⟨[]⟩, dr, 276, os⟩
noncomputable def ob28 (b : Bool) (P : Params) : Obj := ⟨.type "code", none, .fields ⟨[.str ⟨⟨[60, 109, 111, 100, 117, 108, 101, 62]⟩⟩ 277, .str ⟨⟨[60, 109, 111, 100, 117, 108, 101, 62]⟩⟩ 278, .str ⟨⟨[47, 99, 108, 97, 105, 109, 47, 99, 117, 116, 46, 112, 121]⟩⟩ 279, .int 1 0, .int 0 0, .int 0 0, .int 0 0, .int 0 0, .ref 28, .bool false, .int 276 0, .ref 29, .none, .none, .none, .none, .int 280 0, .int 1 0, .str ⟨⟨[47, 99, 108, 97, 105, 109, 47, 99, 117, 116, 46, 112, 121]⟩⟩ 281]⟩, ⟨[]⟩⟩
noncomputable def ob29 (b : Bool) (P : Params) : Obj := ⟨.type "frame", none, .plain, ⟨[(some (.ref 30)), (some (.ref 3)), (some (.ref 3)), none, (some (.str ⟨⟨[95, 95, 109, 97, 105, 110, 95, 95]⟩⟩ 164)), none, (some (.ref 0))]⟩⟩
noncomputable def tr2 (b : Bool) (P : Params) : BT := (.node (ob0 b P) (.node (ob1 b P) (.node (ob3 b P) (.node (ob7 b P) (.node (ob7 b P) (.node (ob29 b P) .nil .nil) .nil) (.node (ob22 b P) .nil .nil)) (.node (ob27 b P) (.node (ob18 b P) .nil .nil) (.node (ob26 b P) .nil .nil))) (.node (ob5 b P) (.node (ob9 b P) (.node (ob16 b P) .nil .nil) (.node (ob24 b P) .nil .nil)) (.node (ob13 b P) (.node (ob20 b P) .nil .nil) (.node (ob8 b P) .nil .nil)))) (.node (ob2 b P) (.node (ob4 b P) (.node (ob8 b P) (.node (ob15 b P) .nil .nil) (.node (ob23 b P) .nil .nil)) (.node (ob12 b P) (.node (ob19 b P) .nil .nil) (.node (ob7 b P) .nil .nil))) (.node (ob6 b P) (.node (ob10 b P) (.node (ob17 b P) .nil .nil) (.node (ob25 b P) .nil .nil)) (.node (ob14 b P) (.node (ob21 b P) .nil .nil) (.node (ob28 b P) .nil .nil)))))
noncomputable def st2 (b : Bool) (w : World) (os : OsState) : SharedT := ⟨tr2 b w.params, 32, lf, ⟨[]⟩, dr, 282, os⟩
noncomputable def sts0 : List Stmt := [top 1, top 2, top 3]
noncomputable def th0 : Thread := piecesOf sts0 env0 cE ⟨0, 0, 0, 0⟩ B0
noncomputable def ob30 (b : Bool) (P : Params) : Obj := ⟨.type "dict", none, .dict ⟨[en P ⟨⟨[95, 95, 110, 97, 109, 101, 95, 95]⟩⟩ 165 (.str ⟨⟨[99, 112, 121, 51, 49, 51, 46, 115, 116, 114, 105, 110, 103, 112, 114, 101, 112]⟩⟩ 289), en P ⟨⟨[95, 95, 100, 111, 99, 95, 95]⟩⟩ 166 (.none), en P ⟨⟨[95, 95, 112, 97, 99, 107, 97, 103, 101, 95, 95]⟩⟩ 167 (.none), en P ⟨⟨[95, 95, 108, 111, 97, 100, 101, 114, 95, 95]⟩⟩ 168 (.builtin "__main__.__loader__#opaque"), en P ⟨⟨[95, 95, 115, 112, 101, 99, 95, 95]⟩⟩ 169 (.none), en P ⟨⟨[95, 95, 97, 110, 110, 111, 116, 97, 116, 105, 111, 110, 115, 95, 95]⟩⟩ 170 (.ref 6), en P ⟨⟨[95, 95, 98, 117, 105, 108, 116, 105, 110, 115, 95, 95]⟩⟩ 171 (.ref 4), en P ⟨⟨[95, 95, 102, 105, 108, 101, 95, 95]⟩⟩ 173 (.str ⟨⟨[47, 99, 108, 97, 105, 109, 47, 99, 117, 116, 46, 112, 121]⟩⟩ 172), en P ⟨⟨[95, 95, 99, 97, 99, 104, 101, 100, 95, 95]⟩⟩ 174 (.none), en P ⟨⟨[95, 115, 114, 101]⟩⟩ 275 (.ref 12), en P ⟨⟨[95, 119, 97, 108, 108]⟩⟩ 288 (.ref 38), en P ⟨⟨[105, 110, 95, 116, 97, 98, 108, 101, 95, 99, 52]⟩⟩ 298 (.ref 45)]⟩ 12, ⟨[]⟩⟩
noncomputable def ob31 (b : Bool) (P : Params) : Obj := ⟨.none, none, .fields ⟨[.int 2 0, .int 0 0, .ref 37, .int 6 0, .int 0 0, .ref 44]⟩, ⟨[]⟩⟩
noncomputable def ob32 (b : Bool) (P : Params) : Obj := ⟨.type "tuple", none, .seq ⟨[.str ⟨⟨[107]⟩⟩ 285]⟩ 0, ⟨[]⟩⟩
noncomputable def ob33 (b : Bool) (P : Params) : Obj := ⟨.none, none, .func { name := ⟨⟨[95, 119, 97, 108, 108]⟩⟩, qualname := ⟨⟨[95, 119, 97, 108, 108]⟩⟩, params := fnP (top 1), body := .stmts (fnB (top 1)), scope := fnS (top 1), globals := 0, closure := [], defaults := .none, kwdefaults := .none, doc := .none, pyModule := .none, annotations := none, code := .none, closureTuple := .none, builtins := 0 }, ⟨[]⟩⟩
noncomputable def ob34 (b : Bool) (P : Params) : Obj := ⟨.type "code", none, .fields ⟨[.str ⟨⟨[95, 119, 97, 108, 108]⟩⟩ 282, .str ⟨⟨[95, 119, 97, 108, 108]⟩⟩ 283, .str ⟨⟨[47, 99, 108, 97, 105, 109, 47, 99, 117, 116, 46, 112, 121]⟩⟩ 284, .int 2 0, .int 1 0, .int 0 0, .int 0 0, .int 3 0, .ref 32, .bool true, .int 276 0, .ref 33, .none, .ref 34, .ref 35, .ref 36, .int 286 0, .int 2 0, .str ⟨⟨[47, 99, 108, 97, 105, 109, 47, 99, 117, 116, 46, 112, 121]⟩⟩ 287]⟩, ⟨[]⟩⟩
noncomputable def ob35 (b : Bool) (P : Params) : Obj := ⟨.type "function", none, .func { name := ⟨⟨[95, 119, 97, 108, 108]⟩⟩, qualname := ⟨⟨[95, 119, 97, 108, 108]⟩⟩, params := fnP (top 1), body := .stmts (fnB (top 1)), scope := fnS (top 1), globals := 3, closure := [], defaults := .none, kwdefaults := .none, doc := .none, pyModule := .str ⟨⟨[95, 95, 109, 97, 105, 110, 95, 95]⟩⟩ 164, annotations := none, code := .ref 37, closureTuple := .none, builtins := 0 }, ⟨[]⟩⟩
noncomputable def ob36 (b : Bool) (P : Params) : Obj := ⟨.type "tuple", none, .seq ⟨[.str ⟨⟨[99, 111, 100, 101]⟩⟩ 294, .str ⟨⟨[99]⟩⟩ 295]⟩ 0, ⟨[]⟩⟩
noncomputable def ob37 (b : Bool) (P : Params) : Obj := ⟨.none, none, .func { name := ⟨⟨[105, 110, 95, 116, 97, 98, 108, 101, 95, 99, 52]⟩⟩, qualname := ⟨⟨[105, 110, 95, 116, 97, 98, 108, 101, 95, 99, 52]⟩⟩, params := fnP (top 3), body := .stmts (fnB (top 3)), scope := fnS (top 3), globals := 0, closure := [], defaults := .none, kwdefaults := .none, doc := .none, pyModule := .none, annotations := none, code := .none, closureTuple := .none, builtins := 0 }, ⟨[]⟩⟩
noncomputable def ob38 (b : Bool) (P : Params) : Obj := ⟨.type "code", none, .fields ⟨[.str ⟨⟨[105, 110, 95, 116, 97, 98, 108, 101, 95, 99, 52]⟩⟩ 291, .str ⟨⟨[105, 110, 95, 116, 97, 98, 108, 101, 95, 99, 52]⟩⟩ 292, .str ⟨⟨[47, 99, 108, 97, 105, 109, 47, 99, 117, 116, 46, 112, 121]⟩⟩ 293, .int 6 0, .int 1 0, .int 0 0, .int 0 0, .int 3 0, .ref 39, .bool true, .int 276 0, .ref 40, .none, .ref 41, .ref 42, .ref 43, .int 296 0, .int 6 0, .str ⟨⟨[47, 99, 108, 97, 105, 109, 47, 99, 117, 116, 46, 112, 121]⟩⟩ 297]⟩, ⟨[]⟩⟩
noncomputable def ob39 (b : Bool) (P : Params) : Obj := ⟨.type "function", none, .func { name := ⟨⟨[105, 110, 95, 116, 97, 98, 108, 101, 95, 99, 52]⟩⟩, qualname := ⟨⟨[105, 110, 95, 116, 97, 98, 108, 101, 95, 99, 52]⟩⟩, params := fnP (top 3), body := .stmts (fnB (top 3)), scope := fnS (top 3), globals := 3, closure := [], defaults := .none, kwdefaults := .none, doc := .none, pyModule := .str ⟨⟨[99, 112, 121, 51, 49, 51, 46, 115, 116, 114, 105, 110, 103, 112, 114, 101, 112]⟩⟩ 289, annotations := none, code := .ref 44, closureTuple := .none, builtins := 0 }, ⟨[]⟩⟩
noncomputable def tr3 (b : Bool) (P : Params) : BT := (.node (ob0 b P) (.node (ob1 b P) (.node (ob30 b P) (.node (ob7 b P) (.node (ob7 b P) (.node (ob29 b P) .nil .nil) .nil) (.node (ob22 b P) (.node (ob7 b P) .nil .nil) .nil)) (.node (ob27 b P) (.node (ob18 b P) (.node (ob7 b P) .nil .nil) .nil) (.node (ob26 b P) (.node (ob37 b P) .nil .nil) .nil))) (.node (ob5 b P) (.node (ob9 b P) (.node (ob16 b P) (.node (ob8 b P) .nil .nil) .nil) (.node (ob24 b P) (.node (ob36 b P) .nil .nil) .nil)) (.node (ob13 b P) (.node (ob20 b P) (.node (ob34 b P) .nil .nil) .nil) (.node (ob31 b P) (.node (ob39 b P) .nil .nil) .nil)))) (.node (ob2 b P) (.node (ob4 b P) (.node (ob8 b P) (.node (ob15 b P) (.node (ob7 b P) .nil .nil) .nil) (.node (ob23 b P) (.node (ob8 b P) .nil .nil) .nil)) (.node (ob12 b P) (.node (ob19 b P) (.node (ob33 b P) .nil .nil) .nil) (.node (ob7 b P) (.node (ob38 b P) .nil .nil) .nil))) (.node (ob6 b P) (.node (ob10 b P) (.node (ob17 b P) (.node (ob32 b P) .nil .nil) .nil) (.node (ob25 b P) (.node (ob7 b P) .nil .nil) .nil)) (.node (ob14 b P) (.node (ob21 b P) (.node (ob35 b P) .nil .nil) .nil) (.node (ob28 b P) .nil .nil)))))
noncomputable def st3 (b : Bool) (w : World) (os : OsState) : SharedT := ⟨tr3 b w.params, 46, lf, ⟨[]⟩, dr, 299, os⟩
noncomputable def sts1 : List Stmt := [top 4]
noncomputable def th1 : Thread := piecesOf sts1 env0 cE ⟨6, 0, 12, 46⟩ B0
noncomputable def ob40 (b : Bool) (P : Params) : Obj := ⟨.type "range", none, .fields ⟨[.int 12272 299, .int 12284 300, .int 1 301]⟩, ⟨[]⟩⟩
noncomputable def ob41 (b : Bool) (P : Params) : Obj := ⟨.type "set", none, .set ⟨[]⟩ 0 { mask := 7, place := ⟨[]⟩, dummies := ⟨[]⟩, finger := 0, led := b, moves := 0, plain := true }, ⟨[]⟩⟩
noncomputable def ob42 (b : Bool) (P : Params) : Obj := ⟨.type "range_iterator", none, .fields ⟨[.int 12272 0, .int 12 0, .int 1 0]⟩, ⟨[]⟩⟩
noncomputable def tr4 (b : Bool) (P : Params) : BT := (.node (ob0 b P) (.node (ob1 b P) (.node (ob30 b P) (.node (ob7 b P) (.node (ob7 b P) (.node (ob29 b P) .nil .nil) (.node (ob41 b P) .nil .nil)) (.node (ob22 b P) (.node (ob7 b P) .nil .nil) .nil)) (.node (ob27 b P) (.node (ob18 b P) (.node (ob7 b P) .nil .nil) .nil) (.node (ob26 b P) (.node (ob37 b P) .nil .nil) .nil))) (.node (ob5 b P) (.node (ob9 b P) (.node (ob16 b P) (.node (ob8 b P) .nil .nil) .nil) (.node (ob24 b P) (.node (ob36 b P) .nil .nil) .nil)) (.node (ob13 b P) (.node (ob20 b P) (.node (ob34 b P) .nil .nil) .nil) (.node (ob31 b P) (.node (ob39 b P) .nil .nil) .nil)))) (.node (ob2 b P) (.node (ob4 b P) (.node (ob8 b P) (.node (ob15 b P) (.node (ob7 b P) .nil .nil) (.node (ob42 b P) .nil .nil)) (.node (ob23 b P) (.node (ob8 b P) .nil .nil) .nil)) (.node (ob12 b P) (.node (ob19 b P) (.node (ob33 b P) .nil .nil) .nil) (.node (ob7 b P) (.node (ob38 b P) .nil .nil) .nil))) (.node (ob6 b P) (.node (ob10 b P) (.node (ob17 b P) (.node (ob32 b P) .nil .nil) .nil) (.node (ob25 b P) (.node (ob7 b P) .nil .nil) .nil)) (.node (ob14 b P) (.node (ob21 b P) (.node (ob35 b P) .nil .nil) .nil) (.node (ob28 b P) (.node (ob40 b P) .nil .nil) .nil)))))
noncomputable def st4 (b : Bool) (w : World) (os : OsState) : SharedT := ⟨tr4 b w.params, 49, lf, ⟨[]⟩, dr, 302, os⟩
noncomputable def stk1c0 (w : World) (os : OsState) : List Frame := match PySem.W.Fast.tw10295753902157049106 PySem.W.Fast.tw14364793385576792824 pw w 28 ann 1 58 (st3 (bo w) w os) (th1) with
  | some (_, t) => t.stack
  | none => []
noncomputable def fam1c0 (w : World) (os : OsState) : List Frame := [nthF (stk1c0 w os) 0, nthF (stk1c0 w os) 1, nthF (stk1c0 w os) 2, topFrame fq]
noncomputable def th1c0 (w : World) (os : OsState) : Thread := ⟨denote treeTable (.builtin "set.update.loop" ⟨[.ref 47, .ref 48], []⟩), (.builtin "set.update.loop" ⟨[.ref 47, .ref 48], []⟩), ⟨13, 9, 13, 33⟩, fam1c0 w os⟩
noncomputable def ob43 (b : Bool) (P : Params) : Obj := ⟨.type "set", none, .set ⟨[(12272, .int 12272 302), (12273, .int 12273 304), (12274, .int 12274 306), (12275, .int 12275 308), (12276, .int 12276 310)]⟩ 6 { mask := 31, place := ⟨[16, 17, 18, 19, 20]⟩, dummies := ⟨[]⟩, finger := 0, led := b, moves := 1, plain := true }, ⟨[]⟩⟩
noncomputable def ob44 (b : Bool) (P : Params) : Obj := ⟨.type "range_iterator", none, .fields ⟨[.int 12277 0, .int 7 0, .int 1 0]⟩, ⟨[]⟩⟩
noncomputable def tr5 (b : Bool) (P : Params) : BT := (.node (ob0 b P) (.node (ob1 b P) (.node (ob30 b P) (.node (ob7 b P) (.node (ob7 b P) (.node (ob29 b P) .nil .nil) (.node (ob43 b P) .nil .nil)) (.node (ob22 b P) (.node (ob7 b P) .nil .nil) .nil)) (.node (ob27 b P) (.node (ob18 b P) (.node (ob7 b P) .nil .nil) .nil) (.node (ob26 b P) (.node (ob37 b P) .nil .nil) .nil))) (.node (ob5 b P) (.node (ob9 b P) (.node (ob16 b P) (.node (ob8 b P) .nil .nil) .nil) (.node (ob24 b P) (.node (ob36 b P) .nil .nil) .nil)) (.node (ob13 b P) (.node (ob20 b P) (.node (ob34 b P) .nil .nil) .nil) (.node (ob31 b P) (.node (ob39 b P) .nil .nil) .nil)))) (.node (ob2 b P) (.node (ob4 b P) (.node (ob8 b P) (.node (ob15 b P) (.node (ob7 b P) .nil .nil) (.node (ob44 b P) .nil .nil)) (.node (ob23 b P) (.node (ob8 b P) .nil .nil) .nil)) (.node (ob12 b P) (.node (ob19 b P) (.node (ob33 b P) .nil .nil) .nil) (.node (ob7 b P) (.node (ob38 b P) .nil .nil) .nil))) (.node (ob6 b P) (.node (ob10 b P) (.node (ob17 b P) (.node (ob32 b P) .nil .nil) .nil) (.node (ob25 b P) (.node (ob7 b P) .nil .nil) .nil)) (.node (ob14 b P) (.node (ob21 b P) (.node (ob35 b P) .nil .nil) .nil) (.node (ob28 b P) (.node (ob40 b P) .nil .nil) .nil)))))
noncomputable def st5 (b : Bool) (w : World) (os : OsState) : SharedT := ⟨tr5 b w.params, 49, lf, ⟨[]⟩, dr, 312, os⟩
noncomputable def th1c1 (w : World) (os : OsState) : Thread := ⟨denote treeTable (.builtin "set.update.loop" ⟨[.ref 47, .ref 48], []⟩), (.builtin "set.update.loop" ⟨[.ref 47, .ref 48], []⟩), ⟨13, 9, 13, 33⟩, fam1c0 w os⟩
noncomputable def ob45 (b : Bool) (P : Params) : Obj := ⟨.type "set", none, .set ⟨[(12272, .int 12272 302), (12273, .int 12273 304), (12274, .int 12274 306), (12275, .int 12275 308), (12276, .int 12276 310), (12277, .int 12277 312), (12278, .int 12278 314), (12279, .int 12279 316), (12280, .int 12280 318), (12281, .int 12281 320)]⟩ 11 { mask := 31, place := ⟨[16, 17, 18, 19, 20, 21, 22, 23, 24, 25]⟩, dummies := ⟨[]⟩, finger := 0, led := b, moves := 1, plain := true }, ⟨[]⟩⟩
noncomputable def ob46 (b : Bool) (P : Params) : Obj := ⟨.type "range_iterator", none, .fields ⟨[.int 12282 0, .int 2 0, .int 1 0]⟩, ⟨[]⟩⟩
noncomputable def tr6 (b : Bool) (P : Params) : BT := (.node (ob0 b P) (.node (ob1 b P) (.node (ob30 b P) (.node (ob7 b P) (.node (ob7 b P) (.node (ob29 b P) .nil .nil) (.node (ob45 b P) .nil .nil)) (.node (ob22 b P) (.node (ob7 b P) .nil .nil) .nil)) (.node (ob27 b P) (.node (ob18 b P) (.node (ob7 b P) .nil .nil) .nil) (.node (ob26 b P) (.node (ob37 b P) .nil .nil) .nil))) (.node (ob5 b P) (.node (ob9 b P) (.node (ob16 b P) (.node (ob8 b P) .nil .nil) .nil) (.node (ob24 b P) (.node (ob36 b P) .nil .nil) .nil)) (.node (ob13 b P) (.node (ob20 b P) (.node (ob34 b P) .nil .nil) .nil) (.node (ob31 b P) (.node (ob39 b P) .nil .nil) .nil)))) (.node (ob2 b P) (.node (ob4 b P) (.node (ob8 b P) (.node (ob15 b P) (.node (ob7 b P) .nil .nil) (.node (ob46 b P) .nil .nil)) (.node (ob23 b P) (.node (ob8 b P) .nil .nil) .nil)) (.node (ob12 b P) (.node (ob19 b P) (.node (ob33 b P) .nil .nil) .nil) (.node (ob7 b P) (.node (ob38 b P) .nil .nil) .nil))) (.node (ob6 b P) (.node (ob10 b P) (.node (ob17 b P) (.node (ob32 b P) .nil .nil) .nil) (.node (ob25 b P) (.node (ob7 b P) .nil .nil) .nil)) (.node (ob14 b P) (.node (ob21 b P) (.node (ob35 b P) .nil .nil) .nil) (.node (ob28 b P) (.node (ob40 b P) .nil .nil) .nil)))))
noncomputable def st6 (b : Bool) (w : World) (os : OsState) : SharedT := ⟨tr6 b w.params, 49, lf, ⟨[]⟩, dr, 322, os⟩
noncomputable def th1c2 (w : World) (os : OsState) : Thread := ⟨denote treeTable (.builtin "set.update.loop" ⟨[.ref 47, .ref 48], []⟩), (.builtin "set.update.loop" ⟨[.ref 47, .ref 48], []⟩), ⟨13, 9, 13, 33⟩, fam1c0 w os⟩
noncomputable def ob47 (b : Bool) (P : Params) : Obj := ⟨.type "dict", none, .dict ⟨[en P ⟨⟨[95, 95, 110, 97, 109, 101, 95, 95]⟩⟩ 165 (.str ⟨⟨[99, 112, 121, 51, 49, 51, 46, 115, 116, 114, 105, 110, 103, 112, 114, 101, 112]⟩⟩ 289), en P ⟨⟨[95, 95, 100, 111, 99, 95, 95]⟩⟩ 166 (.none), en P ⟨⟨[95, 95, 112, 97, 99, 107, 97, 103, 101, 95, 95]⟩⟩ 167 (.none), en P ⟨⟨[95, 95, 108, 111, 97, 100, 101, 114, 95, 95]⟩⟩ 168 (.builtin "__main__.__loader__#opaque"), en P ⟨⟨[95, 95, 115, 112, 101, 99, 95, 95]⟩⟩ 169 (.none), en P ⟨⟨[95, 95, 97, 110, 110, 111, 116, 97, 116, 105, 111, 110, 115, 95, 95]⟩⟩ 170 (.ref 6), en P ⟨⟨[95, 95, 98, 117, 105, 108, 116, 105, 110, 115, 95, 95]⟩⟩ 171 (.ref 4), en P ⟨⟨[95, 95, 102, 105, 108, 101, 95, 95]⟩⟩ 173 (.str ⟨⟨[47, 99, 108, 97, 105, 109, 47, 99, 117, 116, 46, 112, 121]⟩⟩ 172), en P ⟨⟨[95, 95, 99, 97, 99, 104, 101, 100, 95, 95]⟩⟩ 174 (.none), en P ⟨⟨[95, 115, 114, 101]⟩⟩ 275 (.ref 12), en P ⟨⟨[95, 119, 97, 108, 108]⟩⟩ 288 (.ref 38), en P ⟨⟨[105, 110, 95, 116, 97, 98, 108, 101, 95, 99, 52]⟩⟩ 298 (.ref 45), en P ⟨⟨[99, 55, 95, 115, 101, 116]⟩⟩ 326 (.ref 47)]⟩ 13, ⟨[]⟩⟩
noncomputable def ob48 (b : Bool) (P : Params) : Obj := ⟨.type "set", none, .set ⟨[(12272, .int 12272 302), (12273, .int 12273 304), (12274, .int 12274 306), (12275, .int 12275 308), (12276, .int 12276 310), (12277, .int 12277 312), (12278, .int 12278 314), (12279, .int 12279 316), (12280, .int 12280 318), (12281, .int 12281 320), (12282, .int 12282 322), (12283, .int 12283 324)]⟩ 13 { mask := 31, place := ⟨[16, 17, 18, 19, 20, 21, 22, 23, 24, 25, 26, 27]⟩, dummies := ⟨[]⟩, finger := 0, led := b, moves := 1, plain := true }, ⟨[]⟩⟩
noncomputable def ob49 (b : Bool) (P : Params) : Obj := ⟨.type "range_iterator", none, .fields ⟨[.int 12284 0, .int 0 0, .int 1 0]⟩, ⟨[]⟩⟩
noncomputable def ob50 (b : Bool) (P : Params) : Obj := ⟨.type "StopIteration", none, .fields ⟨[.ref 49, .none, .none, .none, .bool false, .none]⟩, ⟨[]⟩⟩
noncomputable def tr7 (b : Bool) (P : Params) : BT := (.node (ob0 b P) (.node (ob1 b P) (.node (ob47 b P) (.node (ob7 b P) (.node (ob7 b P) (.node (ob29 b P) .nil .nil) (.node (ob48 b P) .nil .nil)) (.node (ob22 b P) (.node (ob7 b P) .nil .nil) .nil)) (.node (ob27 b P) (.node (ob18 b P) (.node (ob7 b P) .nil .nil) .nil) (.node (ob26 b P) (.node (ob37 b P) .nil .nil) .nil))) (.node (ob5 b P) (.node (ob9 b P) (.node (ob16 b P) (.node (ob8 b P) .nil .nil) (.node (ob7 b P) .nil .nil)) (.node (ob24 b P) (.node (ob36 b P) .nil .nil) .nil)) (.node (ob13 b P) (.node (ob20 b P) (.node (ob34 b P) .nil .nil) .nil) (.node (ob31 b P) (.node (ob39 b P) .nil .nil) .nil)))) (.node (ob2 b P) (.node (ob4 b P) (.node (ob8 b P) (.node (ob15 b P) (.node (ob7 b P) .nil .nil) (.node (ob49 b P) .nil .nil)) (.node (ob23 b P) (.node (ob8 b P) .nil .nil) .nil)) (.node (ob12 b P) (.node (ob19 b P) (.node (ob33 b P) .nil .nil) .nil) (.node (ob7 b P) (.node (ob38 b P) .nil .nil) .nil))) (.node (ob6 b P) (.node (ob10 b P) (.node (ob17 b P) (.node (ob32 b P) .nil .nil) (.node (ob50 b P) .nil .nil)) (.node (ob25 b P) (.node (ob7 b P) .nil .nil) .nil)) (.node (ob14 b P) (.node (ob21 b P) (.node (ob35 b P) .nil .nil) .nil) (.node (ob28 b P) (.node (ob40 b P) .nil .nil) .nil)))))
noncomputable def st7 (b : Bool) (w : World) (os : OsState) : SharedT := ⟨tr7 b w.params, 51, lf, ⟨[]⟩, dr, 327, os⟩
noncomputable def sts2 : List Stmt := [top 5]
noncomputable def th2 : Thread := piecesOf sts2 env0 cE ⟨13, 0, 13, 6⟩ B0
noncomputable def ob51 (b : Bool) (P : Params) : Obj := ⟨.type "dict", none, .dict ⟨[en P ⟨⟨[95, 95, 110, 97, 109, 101, 95, 95]⟩⟩ 165 (.str ⟨⟨[99, 112, 121, 51, 49, 51, 46, 115, 116, 114, 105, 110, 103, 112, 114, 101, 112]⟩⟩ 289), en P ⟨⟨[95, 95, 100, 111, 99, 95, 95]⟩⟩ 166 (.none), en P ⟨⟨[95, 95, 112, 97, 99, 107, 97, 103, 101, 95, 95]⟩⟩ 167 (.none), en P ⟨⟨[95, 95, 108, 111, 97, 100, 101, 114, 95, 95]⟩⟩ 168 (.builtin "__main__.__loader__#opaque"), en P ⟨⟨[95, 95, 115, 112, 101, 99, 95, 95]⟩⟩ 169 (.none), en P ⟨⟨[95, 95, 97, 110, 110, 111, 116, 97, 116, 105, 111, 110, 115, 95, 95]⟩⟩ 170 (.ref 6), en P ⟨⟨[95, 95, 98, 117, 105, 108, 116, 105, 110, 115, 95, 95]⟩⟩ 171 (.ref 4), en P ⟨⟨[95, 95, 102, 105, 108, 101, 95, 95]⟩⟩ 173 (.str ⟨⟨[47, 99, 108, 97, 105, 109, 47, 99, 117, 116, 46, 112, 121]⟩⟩ 172), en P ⟨⟨[95, 95, 99, 97, 99, 104, 101, 100, 95, 95]⟩⟩ 174 (.none), en P ⟨⟨[95, 115, 114, 101]⟩⟩ 275 (.ref 12), en P ⟨⟨[95, 119, 97, 108, 108]⟩⟩ 288 (.ref 38), en P ⟨⟨[105, 110, 95, 116, 97, 98, 108, 101, 95, 99, 52]⟩⟩ 298 (.ref 45), en P ⟨⟨[99, 55, 95, 115, 101, 116]⟩⟩ 326 (.ref 47), en P ⟨⟨[105, 110, 95, 116, 97, 98, 108, 101, 95, 99, 55]⟩⟩ 333 (.ref 57)]⟩ 14, ⟨[]⟩⟩
noncomputable def ob52 (b : Bool) (P : Params) : Obj := ⟨.none, none, .fields ⟨[.int 2 0, .int 0 0, .ref 37, .int 6 0, .int 0 0, .ref 44, .int 14 0, .int 0 0, .ref 56]⟩, ⟨[]⟩⟩
noncomputable def ob53 (b : Bool) (P : Params) : Obj := ⟨.type "tuple", none, .seq ⟨[.str ⟨⟨[99, 111, 100, 101]⟩⟩ 330]⟩ 0, ⟨[]⟩⟩
noncomputable def ob54 (b : Bool) (P : Params) : Obj := ⟨.none, none, .func { name := ⟨⟨[105, 110, 95, 116, 97, 98, 108, 101, 95, 99, 55]⟩⟩, qualname := ⟨⟨[105, 110, 95, 116, 97, 98, 108, 101, 95, 99, 55]⟩⟩, params := fnP (top 5), body := .stmts (fnB (top 5)), scope := fnS (top 5), globals := 0, closure := [], defaults := .none, kwdefaults := .none, doc := .none, pyModule := .none, annotations := none, code := .none, closureTuple := .none, builtins := 0 }, ⟨[]⟩⟩
noncomputable def ob55 (b : Bool) (P : Params) : Obj := ⟨.type "code", none, .fields ⟨[.str ⟨⟨[105, 110, 95, 116, 97, 98, 108, 101, 95, 99, 55]⟩⟩ 327, .str ⟨⟨[105, 110, 95, 116, 97, 98, 108, 101, 95, 99, 55]⟩⟩ 328, .str ⟨⟨[47, 99, 108, 97, 105, 109, 47, 99, 117, 116, 46, 112, 121]⟩⟩ 329, .int 14 0, .int 1 0, .int 0 0, .int 0 0, .int 3 0, .ref 51, .bool true, .int 276 0, .ref 52, .none, .ref 53, .ref 54, .ref 55, .int 331 0, .int 14 0, .str ⟨⟨[47, 99, 108, 97, 105, 109, 47, 99, 117, 116, 46, 112, 121]⟩⟩ 332]⟩, ⟨[]⟩⟩
noncomputable def ob56 (b : Bool) (P : Params) : Obj := ⟨.type "function", none, .func { name := ⟨⟨[105, 110, 95, 116, 97, 98, 108, 101, 95, 99, 55]⟩⟩, qualname := ⟨⟨[105, 110, 95, 116, 97, 98, 108, 101, 95, 99, 55]⟩⟩, params := fnP (top 5), body := .stmts (fnB (top 5)), scope := fnS (top 5), globals := 3, closure := [], defaults := .none, kwdefaults := .none, doc := .none, pyModule := .str ⟨⟨[99, 112, 121, 51, 49, 51, 46, 115, 116, 114, 105, 110, 103, 112, 114, 101, 112]⟩⟩ 289, annotations := none, code := .ref 56, closureTuple := .none, builtins := 0 }, ⟨[]⟩⟩
noncomputable def tr8 (b : Bool) (P : Params) : BT := (.node (ob0 b P) (.node (ob1 b P) (.node (ob51 b P) (.node (ob7 b P) (.node (ob7 b P) (.node (ob29 b P) .nil .nil) (.node (ob48 b P) .nil .nil)) (.node (ob22 b P) (.node (ob7 b P) .nil .nil) (.node (ob54 b P) .nil .nil))) (.node (ob27 b P) (.node (ob18 b P) (.node (ob7 b P) .nil .nil) (.node (ob7 b P) .nil .nil)) (.node (ob26 b P) (.node (ob37 b P) .nil .nil) .nil))) (.node (ob5 b P) (.node (ob9 b P) (.node (ob16 b P) (.node (ob8 b P) .nil .nil) (.node (ob7 b P) .nil .nil)) (.node (ob24 b P) (.node (ob36 b P) .nil .nil) (.node (ob56 b P) .nil .nil))) (.node (ob13 b P) (.node (ob20 b P) (.node (ob34 b P) .nil .nil) (.node (ob53 b P) .nil .nil)) (.node (ob52 b P) (.node (ob39 b P) .nil .nil) .nil)))) (.node (ob2 b P) (.node (ob4 b P) (.node (ob8 b P) (.node (ob15 b P) (.node (ob7 b P) .nil .nil) (.node (ob49 b P) .nil .nil)) (.node (ob23 b P) (.node (ob8 b P) .nil .nil) (.node (ob55 b P) .nil .nil))) (.node (ob12 b P) (.node (ob19 b P) (.node (ob33 b P) .nil .nil) (.node (ob8 b P) .nil .nil)) (.node (ob7 b P) (.node (ob38 b P) .nil .nil) .nil))) (.node (ob6 b P) (.node (ob10 b P) (.node (ob17 b P) (.node (ob32 b P) .nil .nil) (.node (ob50 b P) .nil .nil)) (.node (ob25 b P) (.node (ob7 b P) .nil .nil) .nil)) (.node (ob14 b P) (.node (ob21 b P) (.node (ob35 b P) .nil .nil) (.node (ob7 b P) .nil .nil)) (.node (ob28 b P) (.node (ob40 b P) .nil .nil) .nil)))))
noncomputable def st8 (b : Bool) (w : World) (os : OsState) : SharedT := ⟨tr8 b w.params, 58, lf, ⟨[]⟩, dr, 334, os⟩
noncomputable def sts3 : List Stmt := [top 6]
noncomputable def th3 : Thread := piecesOf sts3 env0 cE ⟨14, 0, 15, 30⟩ B0
noncomputable def ob57 (b : Bool) (P : Params) : Obj := ⟨.type "list", none, .seq ⟨[.int 832 334, .int 833 335, .int 8206 336, .int 8207 337]⟩ 0, ⟨[]⟩⟩
noncomputable def ob58 (b : Bool) (P : Params) : Obj := ⟨.type "range", none, .fields ⟨[.int 8234 338, .int 8239 339, .int 1 340]⟩, ⟨[]⟩⟩
noncomputable def ob59 (b : Bool) (P : Params) : Obj := ⟨.type "list", none, .seq ⟨[.int 8234 343, .int 8235 344, .int 8236 345, .int 8237 346, .int 8238 347]⟩ 7, ⟨[]⟩⟩
noncomputable def ob60 (b : Bool) (P : Params) : Obj := ⟨.type "range_iterator", none, .fields ⟨[.int 8239 0, .int 0 0, .int 1 0]⟩, ⟨[]⟩⟩
noncomputable def ob61 (b : Bool) (P : Params) : Obj := ⟨.type "StopIteration", none, .fields ⟨[.ref 62, .none, .none, .none, .bool false, .none]⟩, ⟨[]⟩⟩
noncomputable def ob62 (b : Bool) (P : Params) : Obj := ⟨.type "list", none, .seq ⟨[.int 832 334, .int 833 335, .int 8206 336, .int 8207 337, .int 8234 343, .int 8235 344, .int 8236 345, .int 8237 346, .int 8238 347]⟩ 0, ⟨[]⟩⟩
noncomputable def ob63 (b : Bool) (P : Params) : Obj := ⟨.type "range", none, .fields ⟨[.int 8298 348, .int 8304 349, .int 1 350]⟩, ⟨[]⟩⟩
noncomputable def ob64 (b : Bool) (P : Params) : Obj := ⟨.type "list", none, .seq ⟨[.int 8298 353, .int 8299 354, .int 8300 355, .int 8301 356, .int 8302 357, .int 8303 358]⟩ 8, ⟨[]⟩⟩
noncomputable def ob65 (b : Bool) (P : Params) : Obj := ⟨.type "range_iterator", none, .fields ⟨[.int 8304 0, .int 0 0, .int 1 0]⟩, ⟨[]⟩⟩
noncomputable def ob66 (b : Bool) (P : Params) : Obj := ⟨.type "StopIteration", none, .fields ⟨[.ref 68, .none, .none, .none, .bool false, .none]⟩, ⟨[]⟩⟩
noncomputable def ob67 (b : Bool) (P : Params) : Obj := ⟨.type "list", none, .seq ⟨[.int 832 334, .int 833 335, .int 8206 336, .int 8207 337, .int 8234 343, .int 8235 344, .int 8236 345, .int 8237 346, .int 8238 347, .int 8298 353, .int 8299 354, .int 8300 355, .int 8301 356, .int 8302 357, .int 8303 358]⟩ 0, ⟨[]⟩⟩
noncomputable def ob68 (b : Bool) (P : Params) : Obj := ⟨.type "list_iterator", none, .fields ⟨[.ref 70, .int 0 0]⟩, ⟨[]⟩⟩
noncomputable def tr9 (b : Bool) (P : Params) : BT := (.node (ob0 b P) (.node (ob1 b P) (.node (ob51 b P) (.node (ob7 b P) (.node (ob7 b P) (.node (ob29 b P) (.node (ob61 b P) .nil .nil) .nil) (.node (ob48 b P) .nil .nil)) (.node (ob22 b P) (.node (ob7 b P) (.node (ob41 b P) .nil .nil) .nil) (.node (ob54 b P) .nil .nil))) (.node (ob27 b P) (.node (ob18 b P) (.node (ob7 b P) (.node (ob65 b P) .nil .nil) .nil) (.node (ob7 b P) .nil .nil)) (.node (ob26 b P) (.node (ob37 b P) .nil .nil) (.node (ob58 b P) .nil .nil)))) (.node (ob5 b P) (.node (ob9 b P) (.node (ob16 b P) (.node (ob8 b P) (.node (ob63 b P) .nil .nil) .nil) (.node (ob7 b P) .nil .nil)) (.node (ob24 b P) (.node (ob36 b P) .nil .nil) (.node (ob56 b P) .nil .nil))) (.node (ob13 b P) (.node (ob20 b P) (.node (ob34 b P) (.node (ob66 b P) .nil .nil) .nil) (.node (ob53 b P) .nil .nil)) (.node (ob52 b P) (.node (ob39 b P) .nil .nil) (.node (ob60 b P) .nil .nil))))) (.node (ob2 b P) (.node (ob4 b P) (.node (ob8 b P) (.node (ob15 b P) (.node (ob7 b P) (.node (ob62 b P) .nil .nil) .nil) (.node (ob49 b P) .nil .nil)) (.node (ob23 b P) (.node (ob8 b P) (.node (ob68 b P) .nil .nil) .nil) (.node (ob55 b P) .nil .nil))) (.node (ob12 b P) (.node (ob19 b P) (.node (ob33 b P) (.node (ob7 b P) .nil .nil) .nil) (.node (ob8 b P) .nil .nil)) (.node (ob7 b P) (.node (ob38 b P) .nil .nil) (.node (ob59 b P) .nil .nil)))) (.node (ob6 b P) (.node (ob10 b P) (.node (ob17 b P) (.node (ob32 b P) (.node (ob64 b P) .nil .nil) .nil) (.node (ob50 b P) .nil .nil)) (.node (ob25 b P) (.node (ob7 b P) .nil .nil) (.node (ob57 b P) .nil .nil))) (.node (ob14 b P) (.node (ob21 b P) (.node (ob35 b P) (.node (ob67 b P) .nil .nil) .nil) (.node (ob7 b P) .nil .nil)) (.node (ob28 b P) (.node (ob40 b P) .nil .nil) (.node (ob7 b P) .nil .nil))))))
noncomputable def st9 (b : Bool) (w : World) (os : OsState) : SharedT := ⟨tr9 b w.params, 73, lf, ⟨[]⟩, dr, 359, os⟩
noncomputable def stk3c0 (w : World) (os : OsState) : List Frame := match PySem.W.Fast.tw10295753902157049106 PySem.W.Fast.tw14364793385576792824 pw w 28 ann 1 446 (st8 (bo w) w os) (th3) with
  | some (_, t) => t.stack
  | none => []
noncomputable def fam3c0 (w : World) (os : OsState) : List Frame := [nthF (stk3c0 w os) 0, nthF (stk3c0 w os) 1, nthF (stk3c0 w os) 2, topFrame fq]
noncomputable def th3c0 (w : World) (os : OsState) : Thread := ⟨denote treeTable (.builtin "set.update.loop" ⟨[.ref 71, .ref 72], []⟩), (.builtin "set.update.loop" ⟨[.ref 71, .ref 72], []⟩), ⟨16, 9, 16, 88⟩, fam3c0 w os⟩
noncomputable def ob69 (b : Bool) (P : Params) : Obj := ⟨.type "set", none, .set ⟨[(832, .int 832 334), (833, .int 833 335), (8234, .int 8234 343), (8206, .int 8206 336), (8207, .int 8207 337)]⟩ 6 { mask := 31, place := ⟨[0, 1, 10, 14, 15]⟩, dummies := ⟨[]⟩, finger := 0, led := b, moves := 1, plain := true }, ⟨[]⟩⟩
noncomputable def ob70 (b : Bool) (P : Params) : Obj := ⟨.type "list_iterator", none, .fields ⟨[.ref 70, .int 5 0]⟩, ⟨[]⟩⟩
noncomputable def tr10 (b : Bool) (P : Params) : BT := (.node (ob0 b P) (.node (ob1 b P) (.node (ob51 b P) (.node (ob7 b P) (.node (ob7 b P) (.node (ob29 b P) (.node (ob61 b P) .nil .nil) .nil) (.node (ob48 b P) .nil .nil)) (.node (ob22 b P) (.node (ob7 b P) (.node (ob69 b P) .nil .nil) .nil) (.node (ob54 b P) .nil .nil))) (.node (ob27 b P) (.node (ob18 b P) (.node (ob7 b P) (.node (ob65 b P) .nil .nil) .nil) (.node (ob7 b P) .nil .nil)) (.node (ob26 b P) (.node (ob37 b P) .nil .nil) (.node (ob58 b P) .nil .nil)))) (.node (ob5 b P) (.node (ob9 b P) (.node (ob16 b P) (.node (ob8 b P) (.node (ob63 b P) .nil .nil) .nil) (.node (ob7 b P) .nil .nil)) (.node (ob24 b P) (.node (ob36 b P) .nil .nil) (.node (ob56 b P) .nil .nil))) (.node (ob13 b P) (.node (ob20 b P) (.node (ob34 b P) (.node (ob66 b P) .nil .nil) .nil) (.node (ob53 b P) .nil .nil)) (.node (ob52 b P) (.node (ob39 b P) .nil .nil) (.node (ob60 b P) .nil .nil))))) (.node (ob2 b P) (.node (ob4 b P) (.node (ob8 b P) (.node (ob15 b P) (.node (ob7 b P) (.node (ob62 b P) .nil .nil) .nil) (.node (ob49 b P) .nil .nil)) (.node (ob23 b P) (.node (ob8 b P) (.node (ob70 b P) .nil .nil) .nil) (.node (ob55 b P) .nil .nil))) (.node (ob12 b P) (.node (ob19 b P) (.node (ob33 b P) (.node (ob7 b P) .nil .nil) .nil) (.node (ob8 b P) .nil .nil)) (.node (ob7 b P) (.node (ob38 b P) .nil .nil) (.node (ob59 b P) .nil .nil)))) (.node (ob6 b P) (.node (ob10 b P) (.node (ob17 b P) (.node (ob32 b P) (.node (ob64 b P) .nil .nil) .nil) (.node (ob50 b P) .nil .nil)) (.node (ob25 b P) (.node (ob7 b P) .nil .nil) (.node (ob57 b P) .nil .nil))) (.node (ob14 b P) (.node (ob21 b P) (.node (ob35 b P) (.node (ob67 b P) .nil .nil) .nil) (.node (ob7 b P) .nil .nil)) (.node (ob28 b P) (.node (ob40 b P) .nil .nil) (.node (ob7 b P) .nil .nil))))))
noncomputable def st10 (b : Bool) (w : World) (os : OsState) : SharedT := ⟨tr10 b w.params, 73, lf, ⟨[]⟩, dr, 364, os⟩
noncomputable def th3c1 (w : World) (os : OsState) : Thread := ⟨denote treeTable (.builtin "set.update.loop" ⟨[.ref 71, .ref 72], []⟩), (.builtin "set.update.loop" ⟨[.ref 71, .ref 72], []⟩), ⟨16, 9, 16, 88⟩, fam3c0 w os⟩
noncomputable def ob71 (b : Bool) (P : Params) : Obj := ⟨.type "set", none, .set ⟨[(832, .int 832 334), (833, .int 833 335), (8234, .int 8234 343), (8235, .int 8235 344), (8236, .int 8236 345), (8237, .int 8237 346), (8206, .int 8206 336), (8207, .int 8207 337), (8238, .int 8238 347), (8298, .int 8298 353)]⟩ 11 { mask := 31, place := ⟨[0, 1, 10, 11, 12, 13, 14, 15, 16, 17]⟩, dummies := ⟨[]⟩, finger := 0, led := b, moves := 1, plain := true }, ⟨[]⟩⟩
noncomputable def ob72 (b : Bool) (P : Params) : Obj := ⟨.type "list_iterator", none, .fields ⟨[.ref 70, .int 10 0]⟩, ⟨[]⟩⟩
noncomputable def tr11 (b : Bool) (P : Params) : BT := (.node (ob0 b P) (.node (ob1 b P) (.node (ob51 b P) (.node (ob7 b P) (.node (ob7 b P) (.node (ob29 b P) (.node (ob61 b P) .nil .nil) .nil) (.node (ob48 b P) .nil .nil)) (.node (ob22 b P) (.node (ob7 b P) (.node (ob71 b P) .nil .nil) .nil) (.node (ob54 b P) .nil .nil))) (.node (ob27 b P) (.node (ob18 b P) (.node (ob7 b P) (.node (ob65 b P) .nil .nil) .nil) (.node (ob7 b P) .nil .nil)) (.node (ob26 b P) (.node (ob37 b P) .nil .nil) (.node (ob58 b P) .nil .nil)))) (.node (ob5 b P) (.node (ob9 b P) (.node (ob16 b P) (.node (ob8 b P) (.node (ob63 b P) .nil .nil) .nil) (.node (ob7 b P) .nil .nil)) (.node (ob24 b P) (.node (ob36 b P) .nil .nil) (.node (ob56 b P) .nil .nil))) (.node (ob13 b P) (.node (ob20 b P) (.node (ob34 b P) (.node (ob66 b P) .nil .nil) .nil) (.node (ob53 b P) .nil .nil)) (.node (ob52 b P) (.node (ob39 b P) .nil .nil) (.node (ob60 b P) .nil .nil))))) (.node (ob2 b P) (.node (ob4 b P) (.node (ob8 b P) (.node (ob15 b P) (.node (ob7 b P) (.node (ob62 b P) .nil .nil) .nil) (.node (ob49 b P) .nil .nil)) (.node (ob23 b P) (.node (ob8 b P) (.node (ob72 b P) .nil .nil) .nil) (.node (ob55 b P) .nil .nil))) (.node (ob12 b P) (.node (ob19 b P) (.node (ob33 b P) (.node (ob7 b P) .nil .nil) .nil) (.node (ob8 b P) .nil .nil)) (.node (ob7 b P) (.node (ob38 b P) .nil .nil) (.node (ob59 b P) .nil .nil)))) (.node (ob6 b P) (.node (ob10 b P) (.node (ob17 b P) (.node (ob32 b P) (.node (ob64 b P) .nil .nil) .nil) (.node (ob50 b P) .nil .nil)) (.node (ob25 b P) (.node (ob7 b P) .nil .nil) (.node (ob57 b P) .nil .nil))) (.node (ob14 b P) (.node (ob21 b P) (.node (ob35 b P) (.node (ob67 b P) .nil .nil) .nil) (.node (ob7 b P) .nil .nil)) (.node (ob28 b P) (.node (ob40 b P) .nil .nil) (.node (ob7 b P) .nil .nil))))))
noncomputable def st11 (b : Bool) (w : World) (os : OsState) : SharedT := ⟨tr11 b w.params, 73, lf, ⟨[]⟩, dr, 369, os⟩
noncomputable def th3c2 (w : World) (os : OsState) : Thread := ⟨denote treeTable (.builtin "set.update.loop" ⟨[.ref 71, .ref 72], []⟩), (.builtin "set.update.loop" ⟨[.ref 71, .ref 72], []⟩), ⟨16, 9, 16, 88⟩, fam3c0 w os⟩
noncomputable def ob73 (b : Bool) (P : Params) : Obj := ⟨.type "dict", none, .dict ⟨[en P ⟨⟨[95, 95, 110, 97, 109, 101, 95, 95]⟩⟩ 165 (.str ⟨⟨[99, 112, 121, 51, 49, 51, 46, 115, 116, 114, 105, 110, 103, 112, 114, 101, 112]⟩⟩ 289), en P ⟨⟨[95, 95, 100, 111, 99, 95, 95]⟩⟩ 166 (.none), en P ⟨⟨[95, 95, 112, 97, 99, 107, 97, 103, 101, 95, 95]⟩⟩ 167 (.none), en P ⟨⟨[95, 95, 108, 111, 97, 100, 101, 114, 95, 95]⟩⟩ 168 (.builtin "__main__.__loader__#opaque"), en P ⟨⟨[95, 95, 115, 112, 101, 99, 95, 95]⟩⟩ 169 (.none), en P ⟨⟨[95, 95, 97, 110, 110, 111, 116, 97, 116, 105, 111, 110, 115, 95, 95]⟩⟩ 170 (.ref 6), en P ⟨⟨[95, 95, 98, 117, 105, 108, 116, 105, 110, 115, 95, 95]⟩⟩ 171 (.ref 4), en P ⟨⟨[95, 95, 102, 105, 108, 101, 95, 95]⟩⟩ 173 (.str ⟨⟨[47, 99, 108, 97, 105, 109, 47, 99, 117, 116, 46, 112, 121]⟩⟩ 172), en P ⟨⟨[95, 95, 99, 97, 99, 104, 101, 100, 95, 95]⟩⟩ 174 (.none), en P ⟨⟨[95, 115, 114, 101]⟩⟩ 275 (.ref 12), en P ⟨⟨[95, 119, 97, 108, 108]⟩⟩ 288 (.ref 38), en P ⟨⟨[105, 110, 95, 116, 97, 98, 108, 101, 95, 99, 52]⟩⟩ 298 (.ref 45), en P ⟨⟨[99, 55, 95, 115, 101, 116]⟩⟩ 326 (.ref 47), en P ⟨⟨[105, 110, 95, 116, 97, 98, 108, 101, 95, 99, 55]⟩⟩ 333 (.ref 57), en P ⟨⟨[99, 56, 95, 115, 101, 116]⟩⟩ 374 (.ref 71)]⟩ 15, ⟨[]⟩⟩
noncomputable def ob74 (b : Bool) (P : Params) : Obj := ⟨.type "set", none, .set ⟨[(832, .int 832 334), (833, .int 833 335), (8234, .int 8234 343), (8235, .int 8235 344), (8236, .int 8236 345), (8237, .int 8237 346), (8206, .int 8206 336), (8207, .int 8207 337), (8238, .int 8238 347), (8298, .int 8298 353), (8299, .int 8299 354), (8300, .int 8300 355), (8301, .int 8301 356), (8302, .int 8302 357), (8303, .int 8303 358)]⟩ 16 { mask := 31, place := ⟨[0, 1, 10, 11, 12, 13, 14, 15, 16, 17, 18, 19, 20, 21, 22]⟩, dummies := ⟨[]⟩, finger := 0, led := b, moves := 1, plain := true }, ⟨[]⟩⟩
noncomputable def ob75 (b : Bool) (P : Params) : Obj := ⟨.type "list_iterator", none, .fields ⟨[.none, .int 15 0]⟩, ⟨[]⟩⟩
noncomputable def ob76 (b : Bool) (P : Params) : Obj := ⟨.type "StopIteration", none, .fields ⟨[.ref 73, .none, .none, .none, .bool false, .none]⟩, ⟨[]⟩⟩
noncomputable def tr12 (b : Bool) (P : Params) : BT := (.node (ob0 b P) (.node (ob1 b P) (.node (ob73 b P) (.node (ob7 b P) (.node (ob7 b P) (.node (ob29 b P) (.node (ob61 b P) .nil .nil) .nil) (.node (ob48 b P) .nil .nil)) (.node (ob22 b P) (.node (ob7 b P) (.node (ob74 b P) .nil .nil) .nil) (.node (ob54 b P) .nil .nil))) (.node (ob27 b P) (.node (ob18 b P) (.node (ob7 b P) (.node (ob65 b P) .nil .nil) .nil) (.node (ob7 b P) .nil .nil)) (.node (ob26 b P) (.node (ob37 b P) .nil .nil) (.node (ob58 b P) .nil .nil)))) (.node (ob5 b P) (.node (ob9 b P) (.node (ob16 b P) (.node (ob8 b P) (.node (ob63 b P) .nil .nil) .nil) (.node (ob7 b P) .nil .nil)) (.node (ob24 b P) (.node (ob36 b P) (.node (ob7 b P) .nil .nil) .nil) (.node (ob56 b P) .nil .nil))) (.node (ob13 b P) (.node (ob20 b P) (.node (ob34 b P) (.node (ob66 b P) .nil .nil) .nil) (.node (ob53 b P) .nil .nil)) (.node (ob52 b P) (.node (ob39 b P) .nil .nil) (.node (ob60 b P) .nil .nil))))) (.node (ob2 b P) (.node (ob4 b P) (.node (ob8 b P) (.node (ob15 b P) (.node (ob7 b P) (.node (ob62 b P) .nil .nil) .nil) (.node (ob49 b P) .nil .nil)) (.node (ob23 b P) (.node (ob8 b P) (.node (ob75 b P) .nil .nil) .nil) (.node (ob55 b P) .nil .nil))) (.node (ob12 b P) (.node (ob19 b P) (.node (ob33 b P) (.node (ob7 b P) .nil .nil) .nil) (.node (ob8 b P) .nil .nil)) (.node (ob7 b P) (.node (ob38 b P) .nil .nil) (.node (ob59 b P) .nil .nil)))) (.node (ob6 b P) (.node (ob10 b P) (.node (ob17 b P) (.node (ob32 b P) (.node (ob64 b P) .nil .nil) .nil) (.node (ob50 b P) .nil .nil)) (.node (ob25 b P) (.node (ob7 b P) (.node (ob76 b P) .nil .nil) .nil) (.node (ob57 b P) .nil .nil))) (.node (ob14 b P) (.node (ob21 b P) (.node (ob35 b P) (.node (ob67 b P) .nil .nil) .nil) (.node (ob7 b P) .nil .nil)) (.node (ob28 b P) (.node (ob40 b P) .nil .nil) (.node (ob7 b P) .nil .nil))))))
noncomputable def st12 (b : Bool) (w : World) (os : OsState) : SharedT := ⟨tr12 b w.params, 75, lf, ⟨[]⟩, dr, 375, os⟩
noncomputable def sts4 : List Stmt := [top 7]
noncomputable def th4 : Thread := piecesOf sts4 env0 cE ⟨16, 0, 16, 6⟩ B0
noncomputable def ob77 (b : Bool) (P : Params) : Obj := ⟨.type "dict", none, .dict ⟨[en P ⟨⟨[95, 95, 110, 97, 109, 101, 95, 95]⟩⟩ 165 (.str ⟨⟨[99, 112, 121, 51, 49, 51, 46, 115, 116, 114, 105, 110, 103, 112, 114, 101, 112]⟩⟩ 289), en P ⟨⟨[95, 95, 100, 111, 99, 95, 95]⟩⟩ 166 (.none), en P ⟨⟨[95, 95, 112, 97, 99, 107, 97, 103, 101, 95, 95]⟩⟩ 167 (.none), en P ⟨⟨[95, 95, 108, 111, 97, 100, 101, 114, 95, 95]⟩⟩ 168 (.builtin "__main__.__loader__#opaque"), en P ⟨⟨[95, 95, 115, 112, 101, 99, 95, 95]⟩⟩ 169 (.none), en P ⟨⟨[95, 95, 97, 110, 110, 111, 116, 97, 116, 105, 111, 110, 115, 95, 95]⟩⟩ 170 (.ref 6), en P ⟨⟨[95, 95, 98, 117, 105, 108, 116, 105, 110, 115, 95, 95]⟩⟩ 171 (.ref 4), en P ⟨⟨[95, 95, 102, 105, 108, 101, 95, 95]⟩⟩ 173 (.str ⟨⟨[47, 99, 108, 97, 105, 109, 47, 99, 117, 116, 46, 112, 121]⟩⟩ 172), en P ⟨⟨[95, 95, 99, 97, 99, 104, 101, 100, 95, 95]⟩⟩ 174 (.none), en P ⟨⟨[95, 115, 114, 101]⟩⟩ 275 (.ref 12), en P ⟨⟨[95, 119, 97, 108, 108]⟩⟩ 288 (.ref 38), en P ⟨⟨[105, 110, 95, 116, 97, 98, 108, 101, 95, 99, 52]⟩⟩ 298 (.ref 45), en P ⟨⟨[99, 55, 95, 115, 101, 116]⟩⟩ 326 (.ref 47), en P ⟨⟨[105, 110, 95, 116, 97, 98, 108, 101, 95, 99, 55]⟩⟩ 333 (.ref 57), en P ⟨⟨[99, 56, 95, 115, 101, 116]⟩⟩ 374 (.ref 71), en P ⟨⟨[105, 110, 95, 116, 97, 98, 108, 101, 95, 99, 56]⟩⟩ 381 (.ref 81)]⟩ 16, ⟨[]⟩⟩
noncomputable def ob78 (b : Bool) (P : Params) : Obj := ⟨.none, none, .fields ⟨[.int 2 0, .int 0 0, .ref 37, .int 6 0, .int 0 0, .ref 44, .int 14 0, .int 0 0, .ref 56, .int 17 0, .int 0 0, .ref 80]⟩, ⟨[]⟩⟩
noncomputable def ob79 (b : Bool) (P : Params) : Obj := ⟨.type "tuple", none, .seq ⟨[.str ⟨⟨[99, 111, 100, 101]⟩⟩ 378]⟩ 0, ⟨[]⟩⟩
noncomputable def ob80 (b : Bool) (P : Params) : Obj := ⟨.none, none, .func { name := ⟨⟨[105, 110, 95, 116, 97, 98, 108, 101, 95, 99, 56]⟩⟩, qualname := ⟨⟨[105, 110, 95, 116, 97, 98, 108, 101, 95, 99, 56]⟩⟩, params := fnP (top 7), body := .stmts (fnB (top 7)), scope := fnS (top 7), globals := 0, closure := [], defaults := .none, kwdefaults := .none, doc := .none, pyModule := .none, annotations := none, code := .none, closureTuple := .none, builtins := 0 }, ⟨[]⟩⟩
noncomputable def ob81 (b : Bool) (P : Params) : Obj := ⟨.type "code", none, .fields ⟨[.str ⟨⟨[105, 110, 95, 116, 97, 98, 108, 101, 95, 99, 56]⟩⟩ 375, .str ⟨⟨[105, 110, 95, 116, 97, 98, 108, 101, 95, 99, 56]⟩⟩ 376, .str ⟨⟨[47, 99, 108, 97, 105, 109, 47, 99, 117, 116, 46, 112, 121]⟩⟩ 377, .int 17 0, .int 1 0, .int 0 0, .int 0 0, .int 3 0, .ref 75, .bool true, .int 276 0, .ref 76, .none, .ref 77, .ref 78, .ref 79, .int 379 0, .int 17 0, .str ⟨⟨[47, 99, 108, 97, 105, 109, 47, 99, 117, 116, 46, 112, 121]⟩⟩ 380]⟩, ⟨[]⟩⟩
noncomputable def ob82 (b : Bool) (P : Params) : Obj := ⟨.type "function", none, .func { name := ⟨⟨[105, 110, 95, 116, 97, 98, 108, 101, 95, 99, 56]⟩⟩, qualname := ⟨⟨[105, 110, 95, 116, 97, 98, 108, 101, 95, 99, 56]⟩⟩, params := fnP (top 7), body := .stmts (fnB (top 7)), scope := fnS (top 7), globals := 3, closure := [], defaults := .none, kwdefaults := .none, doc := .none, pyModule := .str ⟨⟨[99, 112, 121, 51, 49, 51, 46, 115, 116, 114, 105, 110, 103, 112, 114, 101, 112]⟩⟩ 289, annotations := none, code := .ref 80, closureTuple := .none, builtins := 0 }, ⟨[]⟩⟩
noncomputable def tr13 (b : Bool) (P : Params) : BT := (.node (ob0 b P) (.node (ob1 b P) (.node (ob77 b P) (.node (ob7 b P) (.node (ob7 b P) (.node (ob29 b P) (.node (ob61 b P) .nil .nil) .nil) (.node (ob48 b P) (.node (ob80 b P) .nil .nil) .nil)) (.node (ob22 b P) (.node (ob7 b P) (.node (ob74 b P) .nil .nil) .nil) (.node (ob54 b P) .nil .nil))) (.node (ob27 b P) (.node (ob18 b P) (.node (ob7 b P) (.node (ob65 b P) .nil .nil) .nil) (.node (ob7 b P) .nil .nil)) (.node (ob26 b P) (.node (ob37 b P) (.node (ob7 b P) .nil .nil) .nil) (.node (ob58 b P) .nil .nil)))) (.node (ob5 b P) (.node (ob9 b P) (.node (ob16 b P) (.node (ob8 b P) (.node (ob63 b P) .nil .nil) .nil) (.node (ob7 b P) (.node (ob82 b P) .nil .nil) .nil)) (.node (ob24 b P) (.node (ob36 b P) (.node (ob7 b P) .nil .nil) .nil) (.node (ob56 b P) .nil .nil))) (.node (ob13 b P) (.node (ob20 b P) (.node (ob34 b P) (.node (ob66 b P) .nil .nil) .nil) (.node (ob53 b P) .nil .nil)) (.node (ob78 b P) (.node (ob39 b P) (.node (ob79 b P) .nil .nil) .nil) (.node (ob60 b P) .nil .nil))))) (.node (ob2 b P) (.node (ob4 b P) (.node (ob8 b P) (.node (ob15 b P) (.node (ob7 b P) (.node (ob62 b P) .nil .nil) .nil) (.node (ob49 b P) (.node (ob81 b P) .nil .nil) .nil)) (.node (ob23 b P) (.node (ob8 b P) (.node (ob75 b P) .nil .nil) .nil) (.node (ob55 b P) .nil .nil))) (.node (ob12 b P) (.node (ob19 b P) (.node (ob33 b P) (.node (ob7 b P) .nil .nil) .nil) (.node (ob8 b P) .nil .nil)) (.node (ob7 b P) (.node (ob38 b P) (.node (ob8 b P) .nil .nil) .nil) (.node (ob59 b P) .nil .nil)))) (.node (ob6 b P) (.node (ob10 b P) (.node (ob17 b P) (.node (ob32 b P) (.node (ob64 b P) .nil .nil) .nil) (.node (ob50 b P) .nil .nil)) (.node (ob25 b P) (.node (ob7 b P) (.node (ob76 b P) .nil .nil) .nil) (.node (ob57 b P) .nil .nil))) (.node (ob14 b P) (.node (ob21 b P) (.node (ob35 b P) (.node (ob67 b P) .nil .nil) .nil) (.node (ob7 b P) .nil .nil)) (.node (ob28 b P) (.node (ob40 b P) (.node (ob7 b P) .nil .nil) .nil) (.node (ob7 b P) .nil .nil))))))
noncomputable def st13 (b : Bool) (w : World) (os : OsState) : SharedT := ⟨tr13 b w.params, 82, lf, ⟨[]⟩, dr, 382, os⟩
noncomputable def sts5 : List Stmt := [top 8]
noncomputable def th5 : Thread := piecesOf sts5 env0 cE ⟨17, 0, 18, 30⟩ B0
noncomputable def ob83 (b : Bool) (P : Params) : Obj := ⟨.type "list", none, .seq ⟨[.int 917505 382]⟩ 0, ⟨[]⟩⟩
noncomputable def ob84 (b : Bool) (P : Params) : Obj := ⟨.type "range", none, .fields ⟨[.int 917536 383, .int 917632 384, .int 1 385]⟩, ⟨[]⟩⟩
noncomputable def ob85 (b : Bool) (P : Params) : Obj := ⟨.type "list", none, .seq ⟨[]⟩ 2, ⟨[]⟩⟩
noncomputable def ob86 (b : Bool) (P : Params) : Obj := ⟨.type "range_iterator", none, .fields ⟨[.int 917536 0, .int 96 0, .int 1 0]⟩, ⟨[]⟩⟩
noncomputable def tr14 (b : Bool) (P : Params) : BT := (.node (ob0 b P) (.node (ob1 b P) (.node (ob77 b P) (.node (ob7 b P) (.node (ob7 b P) (.node (ob29 b P) (.node (ob61 b P) .nil .nil) .nil) (.node (ob48 b P) (.node (ob80 b P) .nil .nil) .nil)) (.node (ob22 b P) (.node (ob7 b P) (.node (ob74 b P) .nil .nil) .nil) (.node (ob54 b P) .nil .nil))) (.node (ob27 b P) (.node (ob18 b P) (.node (ob7 b P) (.node (ob65 b P) .nil .nil) .nil) (.node (ob7 b P) (.node (ob84 b P) .nil .nil) .nil)) (.node (ob26 b P) (.node (ob37 b P) (.node (ob7 b P) .nil .nil) .nil) (.node (ob58 b P) .nil .nil)))) (.node (ob5 b P) (.node (ob9 b P) (.node (ob16 b P) (.node (ob8 b P) (.node (ob63 b P) .nil .nil) .nil) (.node (ob7 b P) (.node (ob82 b P) .nil .nil) .nil)) (.node (ob24 b P) (.node (ob36 b P) (.node (ob7 b P) .nil .nil) .nil) (.node (ob56 b P) .nil .nil))) (.node (ob13 b P) (.node (ob20 b P) (.node (ob34 b P) (.node (ob66 b P) .nil .nil) .nil) (.node (ob53 b P) (.node (ob86 b P) .nil .nil) .nil)) (.node (ob78 b P) (.node (ob39 b P) (.node (ob79 b P) .nil .nil) .nil) (.node (ob60 b P) .nil .nil))))) (.node (ob2 b P) (.node (ob4 b P) (.node (ob8 b P) (.node (ob15 b P) (.node (ob7 b P) (.node (ob62 b P) .nil .nil) .nil) (.node (ob49 b P) (.node (ob81 b P) .nil .nil) .nil)) (.node (ob23 b P) (.node (ob8 b P) (.node (ob75 b P) .nil .nil) .nil) (.node (ob55 b P) .nil .nil))) (.node (ob12 b P) (.node (ob19 b P) (.node (ob33 b P) (.node (ob7 b P) .nil .nil) .nil) (.node (ob8 b P) (.node (ob85 b P) .nil .nil) .nil)) (.node (ob7 b P) (.node (ob38 b P) (.node (ob8 b P) .nil .nil) .nil) (.node (ob59 b P) .nil .nil)))) (.node (ob6 b P) (.node (ob10 b P) (.node (ob17 b P) (.node (ob32 b P) (.node (ob64 b P) .nil .nil) .nil) (.node (ob50 b P) (.node (ob83 b P) .nil .nil) .nil)) (.node (ob25 b P) (.node (ob7 b P) (.node (ob76 b P) .nil .nil) .nil) (.node (ob57 b P) .nil .nil))) (.node (ob14 b P) (.node (ob21 b P) (.node (ob35 b P) (.node (ob67 b P) .nil .nil) .nil) (.node (ob7 b P) .nil .nil)) (.node (ob28 b P) (.node (ob40 b P) (.node (ob7 b P) .nil .nil) .nil) (.node (ob7 b P) .nil .nil))))))
noncomputable def st14 (b : Bool) (w : World) (os : OsState) : SharedT := ⟨tr14 b w.params, 86, lf, ⟨[]⟩, dr, 388, os⟩
noncomputable def stk5c0 (w : World) (os : OsState) : List Frame := match PySem.W.Fast.tw10295753902157049106 PySem.W.Fast.tw14364793385576792824 pw w 28 ann 1 87 (st13 (bo w) w os) (th5) with
  | some (_, t) => t.stack
  | none => []
noncomputable def fam5c0 (w : World) (os : OsState) : List Frame := [nthF (stk5c0 w os) 0, nthF (stk5c0 w os) 1, topFrame fq]
noncomputable def th5c0 (w : World) (os : OsState) : Thread := ⟨denote treeTable (.builtin "list.extend.loop" ⟨[.ref 84, .ref 85, .none], []⟩), (.builtin "list.extend.loop" ⟨[.ref 84, .ref 85, .none], []⟩), ⟨19, 24, 19, 51⟩, fam5c0 w os⟩
noncomputable def ob87 (b : Bool) (P : Params) : Obj := ⟨.type "list", none, .seq ⟨[.int 917536 388, .int 917537 389, .int 917538 390, .int 917539 391, .int 917540 392, .int 917541 393, .int 917542 394, .int 917543 395, .int 917544 396, .int 917545 397, .int 917546 398, .int 917547 399, .int 917548 400, .int 917549 401, .int 917550 402, .int 917551 403, .int 917552 404, .int 917553 405]⟩ 20, ⟨[]⟩⟩
noncomputable def ob88 (b : Bool) (P : Params) : Obj := ⟨.type "range_iterator", none, .fields ⟨[.int 917554 0, .int 78 0, .int 1 0]⟩, ⟨[]⟩⟩
noncomputable def tr15 (b : Bool) (P : Params) : BT := (.node (ob0 b P) (.node (ob1 b P) (.node (ob77 b P) (.node (ob7 b P) (.node (ob7 b P) (.node (ob29 b P) (.node (ob61 b P) .nil .nil) .nil) (.node (ob48 b P) (.node (ob80 b P) .nil .nil) .nil)) (.node (ob22 b P) (.node (ob7 b P) (.node (ob74 b P) .nil .nil) .nil) (.node (ob54 b P) .nil .nil))) (.node (ob27 b P) (.node (ob18 b P) (.node (ob7 b P) (.node (ob65 b P) .nil .nil) .nil) (.node (ob7 b P) (.node (ob84 b P) .nil .nil) .nil)) (.node (ob26 b P) (.node (ob37 b P) (.node (ob7 b P) .nil .nil) .nil) (.node (ob58 b P) .nil .nil)))) (.node (ob5 b P) (.node (ob9 b P) (.node (ob16 b P) (.node (ob8 b P) (.node (ob63 b P) .nil .nil) .nil) (.node (ob7 b P) (.node (ob82 b P) .nil .nil) .nil)) (.node (ob24 b P) (.node (ob36 b P) (.node (ob7 b P) .nil .nil) .nil) (.node (ob56 b P) .nil .nil))) (.node (ob13 b P) (.node (ob20 b P) (.node (ob34 b P) (.node (ob66 b P) .nil .nil) .nil) (.node (ob53 b P) (.node (ob88 b P) .nil .nil) .nil)) (.node (ob78 b P) (.node (ob39 b P) (.node (ob79 b P) .nil .nil) .nil) (.node (ob60 b P) .nil .nil))))) (.node (ob2 b P) (.node (ob4 b P) (.node (ob8 b P) (.node (ob15 b P) (.node (ob7 b P) (.node (ob62 b P) .nil .nil) .nil) (.node (ob49 b P) (.node (ob81 b P) .nil .nil) .nil)) (.node (ob23 b P) (.node (ob8 b P) (.node (ob75 b P) .nil .nil) .nil) (.node (ob55 b P) .nil .nil))) (.node (ob12 b P) (.node (ob19 b P) (.node (ob33 b P) (.node (ob7 b P) .nil .nil) .nil) (.node (ob8 b P) (.node (ob87 b P) .nil .nil) .nil)) (.node (ob7 b P) (.node (ob38 b P) (.node (ob8 b P) .nil .nil) .nil) (.node (ob59 b P) .nil .nil)))) (.node (ob6 b P) (.node (ob10 b P) (.node (ob17 b P) (.node (ob32 b P) (.node (ob64 b P) .nil .nil) .nil) (.node (ob50 b P) (.node (ob83 b P) .nil .nil) .nil)) (.node (ob25 b P) (.node (ob7 b P) (.node (ob76 b P) .nil .nil) .nil) (.node (ob57 b P) .nil .nil))) (.node (ob14 b P) (.node (ob21 b P) (.node (ob35 b P) (.node (ob67 b P) .nil .nil) .nil) (.node (ob7 b P) .nil .nil)) (.node (ob28 b P) (.node (ob40 b P) (.node (ob7 b P) .nil .nil) .nil) (.node (ob7 b P) .nil .nil))))))
noncomputable def st15 (b : Bool) (w : World) (os : OsState) : SharedT := ⟨tr15 b w.params, 86, lf, ⟨[]⟩, dr, 406, os⟩
noncomputable def th5c1 (w : World) (os : OsState) : Thread := ⟨denote treeTable (.builtin "list.extend.loop" ⟨[.ref 84, .ref 85, .none], []⟩), (.builtin "list.extend.loop" ⟨[.ref 84, .ref 85, .none], []⟩), ⟨19, 24, 19, 51⟩, fam5c0 w os⟩
noncomputable def ob89 (b : Bool) (P : Params) : Obj := ⟨.type "list", none, .seq ⟨[.int 917536 388, .int 917537 389, .int 917538 390, .int 917539 391, .int 917540 392, .int 917541 393, .int 917542 394, .int 917543 395, .int 917544 396, .int 917545 397, .int 917546 398, .int 917547 399, .int 917548 400, .int 917549 401, .int 917550 402, .int 917551 403, .int 917552 404, .int 917553 405, .int 917554 406, .int 917555 407, .int 917556 408, .int 917557 409, .int 917558 410, .int 917559 411, .int 917560 412, .int 917561 413, .int 917562 414, .int 917563 415, .int 917564 416, .int 917565 417, .int 917566 418, .int 917567 419, .int 917568 420, .int 917569 421, .int 917570 422, .int 917571 423]⟩ 38, ⟨[]⟩⟩
noncomputable def ob90 (b : Bool) (P : Params) : Obj := ⟨.type "range_iterator", none, .fields ⟨[.int 917572 0, .int 60 0, .int 1 0]⟩, ⟨[]⟩⟩
noncomputable def tr16 (b : Bool) (P : Params) : BT := (.node (ob0 b P) (.node (ob1 b P) (.node (ob77 b P) (.node (ob7 b P) (.node (ob7 b P) (.node (ob29 b P) (.node (ob61 b P) .nil .nil) .nil) (.node (ob48 b P) (.node (ob80 b P) .nil .nil) .nil)) (.node (ob22 b P) (.node (ob7 b P) (.node (ob74 b P) .nil .nil) .nil) (.node (ob54 b P) .nil .nil))) (.node (ob27 b P) (.node (ob18 b P) (.node (ob7 b P) (.node (ob65 b P) .nil .nil) .nil) (.node (ob7 b P) (.node (ob84 b P) .nil .nil) .nil)) (.node (ob26 b P) (.node (ob37 b P) (.node (ob7 b P) .nil .nil) .nil) (.node (ob58 b P) .nil .nil)))) (.node (ob5 b P) (.node (ob9 b P) (.node (ob16 b P) (.node (ob8 b P) (.node (ob63 b P) .nil .nil) .nil) (.node (ob7 b P) (.node (ob82 b P) .nil .nil) .nil)) (.node (ob24 b P) (.node (ob36 b P) (.node (ob7 b P) .nil .nil) .nil) (.node (ob56 b P) .nil .nil))) (.node (ob13 b P) (.node (ob20 b P) (.node (ob34 b P) (.node (ob66 b P) .nil .nil) .nil) (.node (ob53 b P) (.node (ob90 b P) .nil .nil) .nil)) (.node (ob78 b P) (.node (ob39 b P) (.node (ob79 b P) .nil .nil) .nil) (.node (ob60 b P) .nil .nil))))) (.node (ob2 b P) (.node (ob4 b P) (.node (ob8 b P) (.node (ob15 b P) (.node (ob7 b P) (.node (ob62 b P) .nil .nil) .nil) (.node (ob49 b P) (.node (ob81 b P) .nil .nil) .nil)) (.node (ob23 b P) (.node (ob8 b P) (.node (ob75 b P) .nil .nil) .nil) (.node (ob55 b P) .nil .nil))) (.node (ob12 b P) (.node (ob19 b P) (.node (ob33 b P) (.node (ob7 b P) .nil .nil) .nil) (.node (ob8 b P) (.node (ob89 b P) .nil .nil) .nil)) (.node (ob7 b P) (.node (ob38 b P) (.node (ob8 b P) .nil .nil) .nil) (.node (ob59 b P) .nil .nil)))) (.node (ob6 b P) (.node (ob10 b P) (.node (ob17 b P) (.node (ob32 b P) (.node (ob64 b P) .nil .nil) .nil) (.node (ob50 b P) (.node (ob83 b P) .nil .nil) .nil)) (.node (ob25 b P) (.node (ob7 b P) (.node (ob76 b P) .nil .nil) .nil) (.node (ob57 b P) .nil .nil))) (.node (ob14 b P) (.node (ob21 b P) (.node (ob35 b P) (.node (ob67 b P) .nil .nil) .nil) (.node (ob7 b P) .nil .nil)) (.node (ob28 b P) (.node (ob40 b P) (.node (ob7 b P) .nil .nil) .nil) (.node (ob7 b P) .nil .nil))))))
noncomputable def st16 (b : Bool) (w : World) (os : OsState) : SharedT := ⟨tr16 b w.params, 86, lf, ⟨[]⟩, dr, 424, os⟩
noncomputable def th5c2 (w : World) (os : OsState) : Thread := ⟨denote treeTable (.builtin "list.extend.loop" ⟨[.ref 84, .ref 85, .none], []⟩), (.builtin "list.extend.loop" ⟨[.ref 84, .ref 85, .none], []⟩), ⟨19, 24, 19, 51⟩, fam5c0 w os⟩
noncomputable def ob91 (b : Bool) (P : Params) : Obj := ⟨.type "list", none, .seq ⟨[.int 917536 388, .int 917537 389, .int 917538 390, .int 917539 391, .int 917540 392, .int 917541 393, .int 917542 394, .int 917543 395, .int 917544 396, .int 917545 397, .int 917546 398, .int 917547 399, .int 917548 400, .int 917549 401, .int 917550 402, .int 917551 403, .int 917552 404, .int 917553 405, .int 917554 406, .int 917555 407, .int 917556 408, .int 917557 409, .int 917558 410, .int 917559 411, .int 917560 412, .int 917561 413, .int 917562 414, .int 917563 415, .int 917564 416, .int 917565 417, .int 917566 418, .int 917567 419, .int 917568 420, .int 917569 421, .int 917570 422, .int 917571 423, .int 917572 424, .int 917573 425, .int 917574 426, .int 917575 427, .int 917576 428, .int 917577 429, .int 917578 430, .int 917579 431, .int 917580 432, .int 917581 433, .int 917582 434, .int 917583 435, .int 917584 436, .int 917585 437, .int 917586 438, .int 917587 439, .int 917588 440, .int 917589 441]⟩ 56, ⟨[]⟩⟩
noncomputable def ob92 (b : Bool) (P : Params) : Obj := ⟨.type "range_iterator", none, .fields ⟨[.int 917590 0, .int 42 0, .int 1 0]⟩, ⟨[]⟩⟩
noncomputable def tr17 (b : Bool) (P : Params) : BT := (.node (ob0 b P) (.node (ob1 b P) (.node (ob77 b P) (.node (ob7 b P) (.node (ob7 b P) (.node (ob29 b P) (.node (ob61 b P) .nil .nil) .nil) (.node (ob48 b P) (.node (ob80 b P) .nil .nil) .nil)) (.node (ob22 b P) (.node (ob7 b P) (.node (ob74 b P) .nil .nil) .nil) (.node (ob54 b P) .nil .nil))) (.node (ob27 b P) (.node (ob18 b P) (.node (ob7 b P) (.node (ob65 b P) .nil .nil) .nil) (.node (ob7 b P) (.node (ob84 b P) .nil .nil) .nil)) (.node (ob26 b P) (.node (ob37 b P) (.node (ob7 b P) .nil .nil) .nil) (.node (ob58 b P) .nil .nil)))) (.node (ob5 b P) (.node (ob9 b P) (.node (ob16 b P) (.node (ob8 b P) (.node (ob63 b P) .nil .nil) .nil) (.node (ob7 b P) (.node (ob82 b P) .nil .nil) .nil)) (.node (ob24 b P) (.node (ob36 b P) (.node (ob7 b P) .nil .nil) .nil) (.node (ob56 b P) .nil .nil))) (.node (ob13 b P) (.node (ob20 b P) (.node (ob34 b P) (.node (ob66 b P) .nil .nil) .nil) (.node (ob53 b P) (.node (ob92 b P) .nil .nil) .nil)) (.node (ob78 b P) (.node (ob39 b P) (.node (ob79 b P) .nil .nil) .nil) (.node (ob60 b P) .nil .nil))))) (.node (ob2 b P) (.node (ob4 b P) (.node (ob8 b P) (.node (ob15 b P) (.node (ob7 b P) (.node (ob62 b P) .nil .nil) .nil) (.node (ob49 b P) (.node (ob81 b P) .nil .nil) .nil)) (.node (ob23 b P) (.node (ob8 b P) (.node (ob75 b P) .nil .nil) .nil) (.node (ob55 b P) .nil .nil))) (.node (ob12 b P) (.node (ob19 b P) (.node (ob33 b P) (.node (ob7 b P) .nil .nil) .nil) (.node (ob8 b P) (.node (ob91 b P) .nil .nil) .nil)) (.node (ob7 b P) (.node (ob38 b P) (.node (ob8 b P) .nil .nil) .nil) (.node (ob59 b P) .nil .nil)))) (.node (ob6 b P) (.node (ob10 b P) (.node (ob17 b P) (.node (ob32 b P) (.node (ob64 b P) .nil .nil) .nil) (.node (ob50 b P) (.node (ob83 b P) .nil .nil) .nil)) (.node (ob25 b P) (.node (ob7 b P) (.node (ob76 b P) .nil .nil) .nil) (.node (ob57 b P) .nil .nil))) (.node (ob14 b P) (.node (ob21 b P) (.node (ob35 b P) (.node (ob67 b P) .nil .nil) .nil) (.node (ob7 b P) .nil .nil)) (.node (ob28 b P) (.node (ob40 b P) (.node (ob7 b P) .nil .nil) .nil) (.node (ob7 b P) .nil .nil))))))
noncomputable def st17 (b : Bool) (w : World) (os : OsState) : SharedT := ⟨tr17 b w.params, 86, lf, ⟨[]⟩, dr, 442, os⟩
noncomputable def th5c3 (w : World) (os : OsState) : Thread := ⟨denote treeTable (.builtin "list.extend.loop" ⟨[.ref 84, .ref 85, .none], []⟩), (.builtin "list.extend.loop" ⟨[.ref 84, .ref 85, .none], []⟩), ⟨19, 24, 19, 51⟩, fam5c0 w os⟩
noncomputable def ob93 (b : Bool) (P : Params) : Obj := ⟨.type "list", none, .seq ⟨[.int 917536 388, .int 917537 389, .int 917538 390, .int 917539 391, .int 917540 392, .int 917541 393, .int 917542 394, .int 917543 395, .int 917544 396, .int 917545 397, .int 917546 398, .int 917547 399, .int 917548 400, .int 917549 401, .int 917550 402, .int 917551 403, .int 917552 404, .int 917553 405, .int 917554 406, .int 917555 407, .int 917556 408, .int 917557 409, .int 917558 410, .int 917559 411, .int 917560 412, .int 917561 413, .int 917562 414, .int 917563 415, .int 917564 416, .int 917565 417, .int 917566 418, .int 917567 419, .int 917568 420, .int 917569 421, .int 917570 422, .int 917571 423, .int 917572 424, .int 917573 425, .int 917574 426, .int 917575 427, .int 917576 428, .int 917577 429, .int 917578 430, .int 917579 431, .int 917580 432, .int 917581 433, .int 917582 434, .int 917583 435, .int 917584 436, .int 917585 437, .int 917586 438, .int 917587 439, .int 917588 440, .int 917589 441, .int 917590 442, .int 917591 443, .int 917592 444, .int 917593 445, .int 917594 446, .int 917595 447, .int 917596 448, .int 917597 449, .int 917598 450, .int 917599 451, .int 917600 452, .int 917601 453, .int 917602 454, .int 917603 455, .int 917604 456, .int 917605 457, .int 917606 458, .int 917607 459]⟩ 74, ⟨[]⟩⟩
noncomputable def ob94 (b : Bool) (P : Params) : Obj := ⟨.type "range_iterator", none, .fields ⟨[.int 917608 0, .int 24 0, .int 1 0]⟩, ⟨[]⟩⟩
noncomputable def tr18 (b : Bool) (P : Params) : BT := (.node (ob0 b P) (.node (ob1 b P) (.node (ob77 b P) (.node (ob7 b P) (.node (ob7 b P) (.node (ob29 b P) (.node (ob61 b P) .nil .nil) .nil) (.node (ob48 b P) (.node (ob80 b P) .nil .nil) .nil)) (.node (ob22 b P) (.node (ob7 b P) (.node (ob74 b P) .nil .nil) .nil) (.node (ob54 b P) .nil .nil))) (.node (ob27 b P) (.node (ob18 b P) (.node (ob7 b P) (.node (ob65 b P) .nil .nil) .nil) (.node (ob7 b P) (.node (ob84 b P) .nil .nil) .nil)) (.node (ob26 b P) (.node (ob37 b P) (.node (ob7 b P) .nil .nil) .nil) (.node (ob58 b P) .nil .nil)))) (.node (ob5 b P) (.node (ob9 b P) (.node (ob16 b P) (.node (ob8 b P) (.node (ob63 b P) .nil .nil) .nil) (.node (ob7 b P) (.node (ob82 b P) .nil .nil) .nil)) (.node (ob24 b P) (.node (ob36 b P) (.node (ob7 b P) .nil .nil) .nil) (.node (ob56 b P) .nil .nil))) (.node (ob13 b P) (.node (ob20 b P) (.node (ob34 b P) (.node (ob66 b P) .nil .nil) .nil) (.node (ob53 b P) (.node (ob94 b P) .nil .nil) .nil)) (.node (ob78 b P) (.node (ob39 b P) (.node (ob79 b P) .nil .nil) .nil) (.node (ob60 b P) .nil .nil))))) (.node (ob2 b P) (.node (ob4 b P) (.node (ob8 b P) (.node (ob15 b P) (.node (ob7 b P) (.node (ob62 b P) .nil .nil) .nil) (.node (ob49 b P) (.node (ob81 b P) .nil .nil) .nil)) (.node (ob23 b P) (.node (ob8 b P) (.node (ob75 b P) .nil .nil) .nil) (.node (ob55 b P) .nil .nil))) (.node (ob12 b P) (.node (ob19 b P) (.node (ob33 b P) (.node (ob7 b P) .nil .nil) .nil) (.node (ob8 b P) (.node (ob93 b P) .nil .nil) .nil)) (.node (ob7 b P) (.node (ob38 b P) (.node (ob8 b P) .nil .nil) .nil) (.node (ob59 b P) .nil .nil)))) (.node (ob6 b P) (.node (ob10 b P) (.node (ob17 b P) (.node (ob32 b P) (.node (ob64 b P) .nil .nil) .nil) (.node (ob50 b P) (.node (ob83 b P) .nil .nil) .nil)) (.node (ob25 b P) (.node (ob7 b P) (.node (ob76 b P) .nil .nil) .nil) (.node (ob57 b P) .nil .nil))) (.node (ob14 b P) (.node (ob21 b P) (.node (ob35 b P) (.node (ob67 b P) .nil .nil) .nil) (.node (ob7 b P) .nil .nil)) (.node (ob28 b P) (.node (ob40 b P) (.node (ob7 b P) .nil .nil) .nil) (.node (ob7 b P) .nil .nil))))))
noncomputable def st18 (b : Bool) (w : World) (os : OsState) : SharedT := ⟨tr18 b w.params, 86, lf, ⟨[]⟩, dr, 460, os⟩
noncomputable def th5c4 (w : World) (os : OsState) : Thread := ⟨denote treeTable (.builtin "list.extend.loop" ⟨[.ref 84, .ref 85, .none], []⟩), (.builtin "list.extend.loop" ⟨[.ref 84, .ref 85, .none], []⟩), ⟨19, 24, 19, 51⟩, fam5c0 w os⟩
noncomputable def ob95 (b : Bool) (P : Params) : Obj := ⟨.type "list", none, .seq ⟨[.int 917536 388, .int 917537 389, .int 917538 390, .int 917539 391, .int 917540 392, .int 917541 393, .int 917542 394, .int 917543 395, .int 917544 396, .int 917545 397, .int 917546 398, .int 917547 399, .int 917548 400, .int 917549 401, .int 917550 402, .int 917551 403, .int 917552 404, .int 917553 405, .int 917554 406, .int 917555 407, .int 917556 408, .int 917557 409, .int 917558 410, .int 917559 411, .int 917560 412, .int 917561 413, .int 917562 414, .int 917563 415, .int 917564 416, .int 917565 417, .int 917566 418, .int 917567 419, .int 917568 420, .int 917569 421, .int 917570 422, .int 917571 423, .int 917572 424, .int 917573 425, .int 917574 426, .int 917575 427, .int 917576 428, .int 917577 429, .int 917578 430, .int 917579 431, .int 917580 432, .int 917581 433, .int 917582 434, .int 917583 435, .int 917584 436, .int 917585 437, .int 917586 438, .int 917587 439, .int 917588 440, .int 917589 441, .int 917590 442, .int 917591 443, .int 917592 444, .int 917593 445, .int 917594 446, .int 917595 447, .int 917596 448, .int 917597 449, .int 917598 450, .int 917599 451, .int 917600 452, .int 917601 453, .int 917602 454, .int 917603 455, .int 917604 456, .int 917605 457, .int 917606 458, .int 917607 459, .int 917608 460, .int 917609 461, .int 917610 462, .int 917611 463, .int 917612 464, .int 917613 465, .int 917614 466, .int 917615 467, .int 917616 468, .int 917617 469, .int 917618 470, .int 917619 471, .int 917620 472, .int 917621 473, .int 917622 474, .int 917623 475, .int 917624 476, .int 917625 477]⟩ 92, ⟨[]⟩⟩
noncomputable def ob96 (b : Bool) (P : Params) : Obj := ⟨.type "range_iterator", none, .fields ⟨[.int 917626 0, .int 6 0, .int 1 0]⟩, ⟨[]⟩⟩
noncomputable def tr19 (b : Bool) (P : Params) : BT := (.node (ob0 b P) (.node (ob1 b P) (.node (ob77 b P) (.node (ob7 b P) (.node (ob7 b P) (.node (ob29 b P) (.node (ob61 b P) .nil .nil) .nil) (.node (ob48 b P) (.node (ob80 b P) .nil .nil) .nil)) (.node (ob22 b P) (.node (ob7 b P) (.node (ob74 b P) .nil .nil) .nil) (.node (ob54 b P) .nil .nil))) (.node (ob27 b P) (.node (ob18 b P) (.node (ob7 b P) (.node (ob65 b P) .nil .nil) .nil) (.node (ob7 b P) (.node (ob84 b P) .nil .nil) .nil)) (.node (ob26 b P) (.node (ob37 b P) (.node (ob7 b P) .nil .nil) .nil) (.node (ob58 b P) .nil .nil)))) (.node (ob5 b P) (.node (ob9 b P) (.node (ob16 b P) (.node (ob8 b P) (.node (ob63 b P) .nil .nil) .nil) (.node (ob7 b P) (.node (ob82 b P) .nil .nil) .nil)) (.node (ob24 b P) (.node (ob36 b P) (.node (ob7 b P) .nil .nil) .nil) (.node (ob56 b P) .nil .nil))) (.node (ob13 b P) (.node (ob20 b P) (.node (ob34 b P) (.node (ob66 b P) .nil .nil) .nil) (.node (ob53 b P) (.node (ob96 b P) .nil .nil) .nil)) (.node (ob78 b P) (.node (ob39 b P) (.node (ob79 b P) .nil .nil) .nil) (.node (ob60 b P) .nil .nil))))) (.node (ob2 b P) (.node (ob4 b P) (.node (ob8 b P) (.node (ob15 b P) (.node (ob7 b P) (.node (ob62 b P) .nil .nil) .nil) (.node (ob49 b P) (.node (ob81 b P) .nil .nil) .nil)) (.node (ob23 b P) (.node (ob8 b P) (.node (ob75 b P) .nil .nil) .nil) (.node (ob55 b P) .nil .nil))) (.node (ob12 b P) (.node (ob19 b P) (.node (ob33 b P) (.node (ob7 b P) .nil .nil) .nil) (.node (ob8 b P) (.node (ob95 b P) .nil .nil) .nil)) (.node (ob7 b P) (.node (ob38 b P) (.node (ob8 b P) .nil .nil) .nil) (.node (ob59 b P) .nil .nil)))) (.node (ob6 b P) (.node (ob10 b P) (.node (ob17 b P) (.node (ob32 b P) (.node (ob64 b P) .nil .nil) .nil) (.node (ob50 b P) (.node (ob83 b P) .nil .nil) .nil)) (.node (ob25 b P) (.node (ob7 b P) (.node (ob76 b P) .nil .nil) .nil) (.node (ob57 b P) .nil .nil))) (.node (ob14 b P) (.node (ob21 b P) (.node (ob35 b P) (.node (ob67 b P) .nil .nil) .nil) (.node (ob7 b P) .nil .nil)) (.node (ob28 b P) (.node (ob40 b P) (.node (ob7 b P) .nil .nil) .nil) (.node (ob7 b P) .nil .nil))))))
noncomputable def st19 (b : Bool) (w : World) (os : OsState) : SharedT := ⟨tr19 b w.params, 86, lf, ⟨[]⟩, dr, 478, os⟩
noncomputable def th5c5 (w : World) (os : OsState) : Thread := ⟨denote treeTable (.builtin "list.extend.loop" ⟨[.ref 84, .ref 85, .none], []⟩), (.builtin "list.extend.loop" ⟨[.ref 84, .ref 85, .none], []⟩), ⟨19, 24, 19, 51⟩, fam5c0 w os⟩
noncomputable def ob97 (b : Bool) (P : Params) : Obj := ⟨.type "list", none, .seq ⟨[.int 917536 388, .int 917537 389, .int 917538 390, .int 917539 391, .int 917540 392, .int 917541 393, .int 917542 394, .int 917543 395, .int 917544 396, .int 917545 397, .int 917546 398, .int 917547 399, .int 917548 400, .int 917549 401, .int 917550 402, .int 917551 403, .int 917552 404, .int 917553 405, .int 917554 406, .int 917555 407, .int 917556 408, .int 917557 409, .int 917558 410, .int 917559 411, .int 917560 412, .int 917561 413, .int 917562 414, .int 917563 415, .int 917564 416, .int 917565 417, .int 917566 418, .int 917567 419, .int 917568 420, .int 917569 421, .int 917570 422, .int 917571 423, .int 917572 424, .int 917573 425, .int 917574 426, .int 917575 427, .int 917576 428, .int 917577 429, .int 917578 430, .int 917579 431, .int 917580 432, .int 917581 433, .int 917582 434, .int 917583 435, .int 917584 436, .int 917585 437, .int 917586 438, .int 917587 439, .int 917588 440, .int 917589 441, .int 917590 442, .int 917591 443, .int 917592 444, .int 917593 445, .int 917594 446, .int 917595 447, .int 917596 448, .int 917597 449, .int 917598 450, .int 917599 451, .int 917600 452, .int 917601 453, .int 917602 454, .int 917603 455, .int 917604 456, .int 917605 457, .int 917606 458, .int 917607 459, .int 917608 460, .int 917609 461, .int 917610 462, .int 917611 463, .int 917612 464, .int 917613 465, .int 917614 466, .int 917615 467, .int 917616 468, .int 917617 469, .int 917618 470, .int 917619 471, .int 917620 472, .int 917621 473, .int 917622 474, .int 917623 475, .int 917624 476, .int 917625 477, .int 917626 478, .int 917627 479, .int 917628 480, .int 917629 481, .int 917630 482, .int 917631 483]⟩ 98, ⟨[]⟩⟩
noncomputable def ob98 (b : Bool) (P : Params) : Obj := ⟨.type "range_iterator", none, .fields ⟨[.int 917632 0, .int 0 0, .int 1 0]⟩, ⟨[]⟩⟩
noncomputable def ob99 (b : Bool) (P : Params) : Obj := ⟨.type "StopIteration", none, .fields ⟨[.ref 86, .none, .none, .none, .bool false, .none]⟩, ⟨[]⟩⟩
noncomputable def ob100 (b : Bool) (P : Params) : Obj := ⟨.type "list", none, .seq ⟨[.int 917505 382, .int 917536 388, .int 917537 389, .int 917538 390, .int 917539 391, .int 917540 392, .int 917541 393, .int 917542 394, .int 917543 395, .int 917544 396, .int 917545 397, .int 917546 398, .int 917547 399, .int 917548 400, .int 917549 401, .int 917550 402, .int 917551 403, .int 917552 404, .int 917553 405, .int 917554 406, .int 917555 407, .int 917556 408, .int 917557 409, .int 917558 410, .int 917559 411, .int 917560 412, .int 917561 413, .int 917562 414, .int 917563 415, .int 917564 416, .int 917565 417, .int 917566 418, .int 917567 419, .int 917568 420, .int 917569 421, .int 917570 422, .int 917571 423, .int 917572 424, .int 917573 425, .int 917574 426, .int 917575 427, .int 917576 428, .int 917577 429, .int 917578 430, .int 917579 431, .int 917580 432, .int 917581 433, .int 917582 434, .int 917583 435, .int 917584 436, .int 917585 437, .int 917586 438, .int 917587 439, .int 917588 440, .int 917589 441, .int 917590 442, .int 917591 443, .int 917592 444, .int 917593 445, .int 917594 446, .int 917595 447, .int 917596 448, .int 917597 449, .int 917598 450, .int 917599 451, .int 917600 452, .int 917601 453, .int 917602 454, .int 917603 455, .int 917604 456, .int 917605 457, .int 917606 458, .int 917607 459, .int 917608 460, .int 917609 461, .int 917610 462, .int 917611 463, .int 917612 464, .int 917613 465, .int 917614 466, .int 917615 467, .int 917616 468, .int 917617 469, .int 917618 470, .int 917619 471, .int 917620 472, .int 917621 473, .int 917622 474, .int 917623 475, .int 917624 476, .int 917625 477, .int 917626 478, .int 917627 479, .int 917628 480, .int 917629 481, .int 917630 482, .int 917631 483]⟩ 0, ⟨[]⟩⟩
noncomputable def ob101 (b : Bool) (P : Params) : Obj := ⟨.type "list_iterator", none, .fields ⟨[.ref 88, .int 0 0]⟩, ⟨[]⟩⟩
noncomputable def tr20 (b : Bool) (P : Params) : BT := (.node (ob0 b P) (.node (ob1 b P) (.node (ob77 b P) (.node (ob7 b P) (.node (ob7 b P) (.node (ob29 b P) (.node (ob61 b P) .nil .nil) .nil) (.node (ob48 b P) (.node (ob80 b P) .nil .nil) .nil)) (.node (ob22 b P) (.node (ob7 b P) (.node (ob74 b P) .nil .nil) .nil) (.node (ob54 b P) (.node (ob99 b P) .nil .nil) .nil))) (.node (ob27 b P) (.node (ob18 b P) (.node (ob7 b P) (.node (ob65 b P) .nil .nil) .nil) (.node (ob7 b P) (.node (ob84 b P) .nil .nil) .nil)) (.node (ob26 b P) (.node (ob37 b P) (.node (ob7 b P) .nil .nil) .nil) (.node (ob58 b P) .nil .nil)))) (.node (ob5 b P) (.node (ob9 b P) (.node (ob16 b P) (.node (ob8 b P) (.node (ob63 b P) .nil .nil) .nil) (.node (ob7 b P) (.node (ob82 b P) .nil .nil) .nil)) (.node (ob24 b P) (.node (ob36 b P) (.node (ob7 b P) .nil .nil) .nil) (.node (ob56 b P) (.node (ob41 b P) .nil .nil) .nil))) (.node (ob13 b P) (.node (ob20 b P) (.node (ob34 b P) (.node (ob66 b P) .nil .nil) .nil) (.node (ob53 b P) (.node (ob98 b P) .nil .nil) .nil)) (.node (ob78 b P) (.node (ob39 b P) (.node (ob79 b P) .nil .nil) .nil) (.node (ob60 b P) .nil .nil))))) (.node (ob2 b P) (.node (ob4 b P) (.node (ob8 b P) (.node (ob15 b P) (.node (ob7 b P) (.node (ob62 b P) .nil .nil) .nil) (.node (ob49 b P) (.node (ob81 b P) .nil .nil) .nil)) (.node (ob23 b P) (.node (ob8 b P) (.node (ob75 b P) .nil .nil) .nil) (.node (ob55 b P) (.node (ob100 b P) .nil .nil) .nil))) (.node (ob12 b P) (.node (ob19 b P) (.node (ob33 b P) (.node (ob7 b P) .nil .nil) .nil) (.node (ob8 b P) (.node (ob97 b P) .nil .nil) .nil)) (.node (ob7 b P) (.node (ob38 b P) (.node (ob8 b P) .nil .nil) .nil) (.node (ob59 b P) .nil .nil)))) (.node (ob6 b P) (.node (ob10 b P) (.node (ob17 b P) (.node (ob32 b P) (.node (ob64 b P) .nil .nil) .nil) (.node (ob50 b P) (.node (ob83 b P) .nil .nil) .nil)) (.node (ob25 b P) (.node (ob7 b P) (.node (ob76 b P) .nil .nil) .nil) (.node (ob57 b P) (.node (ob101 b P) .nil .nil) .nil))) (.node (ob14 b P) (.node (ob21 b P) (.node (ob35 b P) (.node (ob67 b P) .nil .nil) .nil) (.node (ob7 b P) (.node (ob7 b P) .nil .nil) .nil)) (.node (ob28 b P) (.node (ob40 b P) (.node (ob7 b P) .nil .nil) .nil) (.node (ob7 b P) .nil .nil))))))
noncomputable def st20 (b : Bool) (w : World) (os : OsState) : SharedT := ⟨tr20 b w.params, 91, lf, ⟨[]⟩, dr, 484, os⟩
noncomputable def stk5c6 (w : World) (os : OsState) : List Frame := match PySem.W.Fast.tw10295753902157049106 PySem.W.Fast.tw14364793385576792824 pw w 28 ann 1 161 (st19 (bo w) w os) (th5c5 w os) with
  | some (_, t) => t.stack
  | none => []
noncomputable def fam5c6 (w : World) (os : OsState) : List Frame := [nthF (stk5c6 w os) 0, nthF (stk5c6 w os) 1, nthF (stk5c6 w os) 2, topFrame fq]
noncomputable def th5c6 (w : World) (os : OsState) : Thread := ⟨denote treeTable (.builtin "set.update.loop" ⟨[.ref 89, .ref 90], []⟩), (.builtin "set.update.loop" ⟨[.ref 89, .ref 90], []⟩), ⟨19, 9, 19, 52⟩, fam5c6 w os⟩
noncomputable def ob102 (b : Bool) (P : Params) : Obj := ⟨.type "set", none, .set ⟨[(917536, .int 917536 388), (917505, .int 917505 382), (917538, .int 917538 390), (917539, .int 917539 391), (917537, .int 917537 389)]⟩ 6 { mask := 31, place := ⟨[0, 1, 2, 3, 4]⟩, dummies := ⟨[]⟩, finger := 0, led := b, moves := 1, plain := true }, ⟨[]⟩⟩
noncomputable def ob103 (b : Bool) (P : Params) : Obj := ⟨.type "list_iterator", none, .fields ⟨[.ref 88, .int 5 0]⟩, ⟨[]⟩⟩
noncomputable def tr21 (b : Bool) (P : Params) : BT := (.node (ob0 b P) (.node (ob1 b P) (.node (ob77 b P) (.node (ob7 b P) (.node (ob7 b P) (.node (ob29 b P) (.node (ob61 b P) .nil .nil) .nil) (.node (ob48 b P) (.node (ob80 b P) .nil .nil) .nil)) (.node (ob22 b P) (.node (ob7 b P) (.node (ob74 b P) .nil .nil) .nil) (.node (ob54 b P) (.node (ob99 b P) .nil .nil) .nil))) (.node (ob27 b P) (.node (ob18 b P) (.node (ob7 b P) (.node (ob65 b P) .nil .nil) .nil) (.node (ob7 b P) (.node (ob84 b P) .nil .nil) .nil)) (.node (ob26 b P) (.node (ob37 b P) (.node (ob7 b P) .nil .nil) .nil) (.node (ob58 b P) .nil .nil)))) (.node (ob5 b P) (.node (ob9 b P) (.node (ob16 b P) (.node (ob8 b P) (.node (ob63 b P) .nil .nil) .nil) (.node (ob7 b P) (.node (ob82 b P) .nil .nil) .nil)) (.node (ob24 b P) (.node (ob36 b P) (.node (ob7 b P) .nil .nil) .nil) (.node (ob56 b P) (.node (ob102 b P) .nil .nil) .nil))) (.node (ob13 b P) (.node (ob20 b P) (.node (ob34 b P) (.node (ob66 b P) .nil .nil) .nil) (.node (ob53 b P) (.node (ob98 b P) .nil .nil) .nil)) (.node (ob78 b P) (.node (ob39 b P) (.node (ob79 b P) .nil .nil) .nil) (.node (ob60 b P) .nil .nil))))) (.node (ob2 b P) (.node (ob4 b P) (.node (ob8 b P) (.node (ob15 b P) (.node (ob7 b P) (.node (ob62 b P) .nil .nil) .nil) (.node (ob49 b P) (.node (ob81 b P) .nil .nil) .nil)) (.node (ob23 b P) (.node (ob8 b P) (.node (ob75 b P) .nil .nil) .nil) (.node (ob55 b P) (.node (ob100 b P) .nil .nil) .nil))) (.node (ob12 b P) (.node (ob19 b P) (.node (ob33 b P) (.node (ob7 b P) .nil .nil) .nil) (.node (ob8 b P) (.node (ob97 b P) .nil .nil) .nil)) (.node (ob7 b P) (.node (ob38 b P) (.node (ob8 b P) .nil .nil) .nil) (.node (ob59 b P) .nil .nil)))) (.node (ob6 b P) (.node (ob10 b P) (.node (ob17 b P) (.node (ob32 b P) (.node (ob64 b P) .nil .nil) .nil) (.node (ob50 b P) (.node (ob83 b P) .nil .nil) .nil)) (.node (ob25 b P) (.node (ob7 b P) (.node (ob76 b P) .nil .nil) .nil) (.node (ob57 b P) (.node (ob103 b P) .nil .nil) .nil))) (.node (ob14 b P) (.node (ob21 b P) (.node (ob35 b P) (.node (ob67 b P) .nil .nil) .nil) (.node (ob7 b P) (.node (ob7 b P) .nil .nil) .nil)) (.node (ob28 b P) (.node (ob40 b P) (.node (ob7 b P) .nil .nil) .nil) (.node (ob7 b P) .nil .nil))))))
noncomputable def st21 (b : Bool) (w : World) (os : OsState) : SharedT := ⟨tr21 b w.params, 91, lf, ⟨[]⟩, dr, 489, os⟩
noncomputable def th5c7 (w : World) (os : OsState) : Thread := ⟨denote treeTable (.builtin "set.update.loop" ⟨[.ref 89, .ref 90], []⟩), (.builtin "set.update.loop" ⟨[.ref 89, .ref 90], []⟩), ⟨19, 9, 19, 52⟩, fam5c6 w os⟩
noncomputable def ob104 (b : Bool) (P : Params) : Obj := ⟨.type "set", none, .set ⟨[(917536, .int 917536 388), (917505, .int 917505 382), (917538, .int 917538 390), (917539, .int 917539 391), (917537, .int 917537 389), (917540, .int 917540 392), (917541, .int 917541 393), (917542, .int 917542 394), (917543, .int 917543 395), (917544, .int 917544 396)]⟩ 11 { mask := 31, place := ⟨[0, 1, 2, 3, 4, 5, 6, 7, 8, 9]⟩, dummies := ⟨[]⟩, finger := 0, led := b, moves := 1, plain := true }, ⟨[]⟩⟩
noncomputable def ob105 (b : Bool) (P : Params) : Obj := ⟨.type "list_iterator", none, .fields ⟨[.ref 88, .int 10 0]⟩, ⟨[]⟩⟩
noncomputable def tr22 (b : Bool) (P : Params) : BT := (.node (ob0 b P) (.node (ob1 b P) (.node (ob77 b P) (.node (ob7 b P) (.node (ob7 b P) (.node (ob29 b P) (.node (ob61 b P) .nil .nil) .nil) (.node (ob48 b P) (.node (ob80 b P) .nil .nil) .nil)) (.node (ob22 b P) (.node (ob7 b P) (.node (ob74 b P) .nil .nil) .nil) (.node (ob54 b P) (.node (ob99 b P) .nil .nil) .nil))) (.node (ob27 b P) (.node (ob18 b P) (.node (ob7 b P) (.node (ob65 b P) .nil .nil) .nil) (.node (ob7 b P) (.node (ob84 b P) .nil .nil) .nil)) (.node (ob26 b P) (.node (ob37 b P) (.node (ob7 b P) .nil .nil) .nil) (.node (ob58 b P) .nil .nil)))) (.node (ob5 b P) (.node (ob9 b P) (.node (ob16 b P) (.node (ob8 b P) (.node (ob63 b P) .nil .nil) .nil) (.node (ob7 b P) (.node (ob82 b P) .nil .nil) .nil)) (.node (ob24 b P) (.node (ob36 b P) (.node (ob7 b P) .nil .nil) .nil) (.node (ob56 b P) (.node (ob104 b P) .nil .nil) .nil))) (.node (ob13 b P) (.node (ob20 b P) (.node (ob34 b P) (.node (ob66 b P) .nil .nil) .nil) (.node (ob53 b P) (.node (ob98 b P) .nil .nil) .nil)) (.node (ob78 b P) (.node (ob39 b P) (.node (ob79 b P) .nil .nil) .nil) (.node (ob60 b P) .nil .nil))))) (.node (ob2 b P) (.node (ob4 b P) (.node (ob8 b P) (.node (ob15 b P) (.node (ob7 b P) (.node (ob62 b P) .nil .nil) .nil) (.node (ob49 b P) (.node (ob81 b P) .nil .nil) .nil)) (.node (ob23 b P) (.node (ob8 b P) (.node (ob75 b P) .nil .nil) .nil) (.node (ob55 b P) (.node (ob100 b P) .nil .nil) .nil))) (.node (ob12 b P) (.node (ob19 b P) (.node (ob33 b P) (.node (ob7 b P) .nil .nil) .nil) (.node (ob8 b P) (.node (ob97 b P) .nil .nil) .nil)) (.node (ob7 b P) (.node (ob38 b P) (.node (ob8 b P) .nil .nil) .nil) (.node (ob59 b P) .nil .nil)))) (.node (ob6 b P) (.node (ob10 b P) (.node (ob17 b P) (.node (ob32 b P) (.node (ob64 b P) .nil .nil) .nil) (.node (ob50 b P) (.node (ob83 b P) .nil .nil) .nil)) (.node (ob25 b P) (.node (ob7 b P) (.node (ob76 b P) .nil .nil) .nil) (.node (ob57 b P) (.node (ob105 b P) .nil .nil) .nil))) (.node (ob14 b P) (.node (ob21 b P) (.node (ob35 b P) (.node (ob67 b P) .nil .nil) .nil) (.node (ob7 b P) (.node (ob7 b P) .nil .nil) .nil)) (.node (ob28 b P) (.node (ob40 b P) (.node (ob7 b P) .nil .nil) .nil) (.node (ob7 b P) .nil .nil))))))
noncomputable def st22 (b : Bool) (w : World) (os : OsState) : SharedT := ⟨tr22 b w.params, 91, lf, ⟨[]⟩, dr, 494, os⟩
noncomputable def th5c8 (w : World) (os : OsState) : Thread := ⟨denote treeTable (.builtin "set.update.loop" ⟨[.ref 89, .ref 90], []⟩), (.builtin "set.update.loop" ⟨[.ref 89, .ref 90], []⟩), ⟨19, 9, 19, 52⟩, fam5c6 w os⟩
noncomputable def ob106 (b : Bool) (P : Params) : Obj := ⟨.type "set", none, .set ⟨[(917536, .int 917536 388), (917505, .int 917505 382), (917538, .int 917538 390), (917539, .int 917539 391), (917537, .int 917537 389), (917540, .int 917540 392), (917541, .int 917541 393), (917542, .int 917542 394), (917543, .int 917543 395), (917544, .int 917544 396), (917545, .int 917545 397), (917546, .int 917546 398), (917547, .int 917547 399), (917548, .int 917548 400), (917549, .int 917549 401)]⟩ 16 { mask := 31, place := ⟨[0, 1, 2, 3, 4, 5, 6, 7, 8, 9, 10, 11, 12, 13, 14]⟩, dummies := ⟨[]⟩, finger := 0, led := b, moves := 1, plain := true }, ⟨[]⟩⟩
noncomputable def ob107 (b : Bool) (P : Params) : Obj := ⟨.type "list_iterator", none, .fields ⟨[.ref 88, .int 15 0]⟩, ⟨[]⟩⟩
noncomputable def tr23 (b : Bool) (P : Params) : BT := (.node (ob0 b P) (.node (ob1 b P) (.node (ob77 b P) (.node (ob7 b P) (.node (ob7 b P) (.node (ob29 b P) (.node (ob61 b P) .nil .nil) .nil) (.node (ob48 b P) (.node (ob80 b P) .nil .nil) .nil)) (.node (ob22 b P) (.node (ob7 b P) (.node (ob74 b P) .nil .nil) .nil) (.node (ob54 b P) (.node (ob99 b P) .nil .nil) .nil))) (.node (ob27 b P) (.node (ob18 b P) (.node (ob7 b P) (.node (ob65 b P) .nil .nil) .nil) (.node (ob7 b P) (.node (ob84 b P) .nil .nil) .nil)) (.node (ob26 b P) (.node (ob37 b P) (.node (ob7 b P) .nil .nil) .nil) (.node (ob58 b P) .nil .nil)))) (.node (ob5 b P) (.node (ob9 b P) (.node (ob16 b P) (.node (ob8 b P) (.node (ob63 b P) .nil .nil) .nil) (.node (ob7 b P) (.node (ob82 b P) .nil .nil) .nil)) (.node (ob24 b P) (.node (ob36 b P) (.node (ob7 b P) .nil .nil) .nil) (.node (ob56 b P) (.node (ob106 b P) .nil .nil) .nil))) (.node (ob13 b P) (.node (ob20 b P) (.node (ob34 b P) (.node (ob66 b P) .nil .nil) .nil) (.node (ob53 b P) (.node (ob98 b P) .nil .nil) .nil)) (.node (ob78 b P) (.node (ob39 b P) (.node (ob79 b P) .nil .nil) .nil) (.node (ob60 b P) .nil .nil))))) (.node (ob2 b P) (.node (ob4 b P) (.node (ob8 b P) (.node (ob15 b P) (.node (ob7 b P) (.node (ob62 b P) .nil .nil) .nil) (.node (ob49 b P) (.node (ob81 b P) .nil .nil) .nil)) (.node (ob23 b P) (.node (ob8 b P) (.node (ob75 b P) .nil .nil) .nil) (.node (ob55 b P) (.node (ob100 b P) .nil .nil) .nil))) (.node (ob12 b P) (.node (ob19 b P) (.node (ob33 b P) (.node (ob7 b P) .nil .nil) .nil) (.node (ob8 b P) (.node (ob97 b P) .nil .nil) .nil)) (.node (ob7 b P) (.node (ob38 b P) (.node (ob8 b P) .nil .nil) .nil) (.node (ob59 b P) .nil .nil)))) (.node (ob6 b P) (.node (ob10 b P) (.node (ob17 b P) (.node (ob32 b P) (.node (ob64 b P) .nil .nil) .nil) (.node (ob50 b P) (.node (ob83 b P) .nil .nil) .nil)) (.node (ob25 b P) (.node (ob7 b P) (.node (ob76 b P) .nil .nil) .nil) (.node (ob57 b P) (.node (ob107 b P) .nil .nil) .nil))) (.node (ob14 b P) (.node (ob21 b P) (.node (ob35 b P) (.node (ob67 b P) .nil .nil) .nil) (.node (ob7 b P) (.node (ob7 b P) .nil .nil) .nil)) (.node (ob28 b P) (.node (ob40 b P) (.node (ob7 b P) .nil .nil) .nil) (.node (ob7 b P) .nil .nil))))))
noncomputable def st23 (b : Bool) (w : World) (os : OsState) : SharedT := ⟨tr23 b w.params, 91, lf, ⟨[]⟩, dr, 499, os⟩
noncomputable def th5c9 (w : World) (os : OsState) : Thread := ⟨denote treeTable (.builtin "set.update.loop" ⟨[.ref 89, .ref 90], []⟩), (.builtin "set.update.loop" ⟨[.ref 89, .ref 90], []⟩), ⟨19, 9, 19, 52⟩, fam5c6 w os⟩
noncomputable def ob108 (b : Bool) (P : Params) : Obj := ⟨.type "set", none, .set ⟨[(917505, .int 917505 382), (917536, .int 917536 388), (917537, .int 917537 389), (917538, .int 917538 390), (917539, .int 917539 391), (917540, .int 917540 392), (917541, .int 917541 393), (917542, .int 917542 394), (917543, .int 917543 395), (917544, .int 917544 396), (917545, .int 917545 397), (917546, .int 917546 398), (917547, .int 917547 399), (917548, .int 917548 400), (917549, .int 917549 401), (917550, .int 917550 402), (917551, .int 917551 403), (917552, .int 917552 404), (917553, .int 917553 405), (917554, .int 917554 406)]⟩ 22 { mask := 127, place := ⟨[1, 32, 33, 34, 35, 36, 37, 38, 39, 40, 41, 42, 43, 44, 45, 46, 47, 48, 49, 50]⟩, dummies := ⟨[]⟩, finger := 0, led := b, moves := 2, plain := true }, ⟨[]⟩⟩
noncomputable def ob109 (b : Bool) (P : Params) : Obj := ⟨.type "list_iterator", none, .fields ⟨[.ref 88, .int 20 0]⟩, ⟨[]⟩⟩
noncomputable def tr24 (b : Bool) (P : Params) : BT := (.node (ob0 b P) (.node (ob1 b P) (.node (ob77 b P) (.node (ob7 b P) (.node (ob7 b P) (.node (ob29 b P) (.node (ob61 b P) .nil .nil) .nil) (.node (ob48 b P) (.node (ob80 b P) .nil .nil) .nil)) (.node (ob22 b P) (.node (ob7 b P) (.node (ob74 b P) .nil .nil) .nil) (.node (ob54 b P) (.node (ob99 b P) .nil .nil) .nil))) (.node (ob27 b P) (.node (ob18 b P) (.node (ob7 b P) (.node (ob65 b P) .nil .nil) .nil) (.node (ob7 b P) (.node (ob84 b P) .nil .nil) .nil)) (.node (ob26 b P) (.node (ob37 b P) (.node (ob7 b P) .nil .nil) .nil) (.node (ob58 b P) .nil .nil)))) (.node (ob5 b P) (.node (ob9 b P) (.node (ob16 b P) (.node (ob8 b P) (.node (ob63 b P) .nil .nil) .nil) (.node (ob7 b P) (.node (ob82 b P) .nil .nil) .nil)) (.node (ob24 b P) (.node (ob36 b P) (.node (ob7 b P) .nil .nil) .nil) (.node (ob56 b P) (.node (ob108 b P) .nil .nil) .nil))) (.node (ob13 b P) (.node (ob20 b P) (.node (ob34 b P) (.node (ob66 b P) .nil .nil) .nil) (.node (ob53 b P) (.node (ob98 b P) .nil .nil) .nil)) (.node (ob78 b P) (.node (ob39 b P) (.node (ob79 b P) .nil .nil) .nil) (.node (ob60 b P) .nil .nil))))) (.node (ob2 b P) (.node (ob4 b P) (.node (ob8 b P) (.node (ob15 b P) (.node (ob7 b P) (.node (ob62 b P) .nil .nil) .nil) (.node (ob49 b P) (.node (ob81 b P) .nil .nil) .nil)) (.node (ob23 b P) (.node (ob8 b P) (.node (ob75 b P) .nil .nil) .nil) (.node (ob55 b P) (.node (ob100 b P) .nil .nil) .nil))) (.node (ob12 b P) (.node (ob19 b P) (.node (ob33 b P) (.node (ob7 b P) .nil .nil) .nil) (.node (ob8 b P) (.node (ob97 b P) .nil .nil) .nil)) (.node (ob7 b P) (.node (ob38 b P) (.node (ob8 b P) .nil .nil) .nil) (.node (ob59 b P) .nil .nil)))) (.node (ob6 b P) (.node (ob10 b P) (.node (ob17 b P) (.node (ob32 b P) (.node (ob64 b P) .nil .nil) .nil) (.node (ob50 b P) (.node (ob83 b P) .nil .nil) .nil)) (.node (ob25 b P) (.node (ob7 b P) (.node (ob76 b P) .nil .nil) .nil) (.node (ob57 b P) (.node (ob109 b P) .nil .nil) .nil))) (.node (ob14 b P) (.node (ob21 b P) (.node (ob35 b P) (.node (ob67 b P) .nil .nil) .nil) (.node (ob7 b P) (.node (ob7 b P) .nil .nil) .nil)) (.node (ob28 b P) (.node (ob40 b P) (.node (ob7 b P) .nil .nil) .nil) (.node (ob7 b P) .nil .nil))))))
noncomputable def st24 (b : Bool) (w : World) (os : OsState) : SharedT := ⟨tr24 b w.params, 91, lf, ⟨[]⟩, dr, 504, os⟩
noncomputable def th5c10 (w : World) (os : OsState) : Thread := ⟨denote treeTable (.builtin "set.update.loop" ⟨[.ref 89, .ref 90], []⟩), (.builtin "set.update.loop" ⟨[.ref 89, .ref 90], []⟩), ⟨19, 9, 19, 52⟩, fam5c6 w os⟩
noncomputable def ob110 (b : Bool) (P : Params) : Obj := ⟨.type "set", none, .set ⟨[(917505, .int 917505 382), (917536, .int 917536 388), (917537, .int 917537 389), (917538, .int 917538 390), (917539, .int 917539 391), (917540, .int 917540 392), (917541, .int 917541 393), (917542, .int 917542 394), (917543, .int 917543 395), (917544, .int 917544 396), (917545, .int 917545 397), (917546, .int 917546 398), (917547, .int 917547 399), (917548, .int 917548 400), (917549, .int 917549 401), (917550, .int 917550 402), (917551, .int 917551 403), (917552, .int 917552 404), (917553, .int 917553 405), (917554, .int 917554 406), (917555, .int 917555 407), (917556, .int 917556 408), (917557, .int 917557 409), (917558, .int 917558 410), (917559, .int 917559 411)]⟩ 27 { mask := 127, place := ⟨[1, 32, 33, 34, 35, 36, 37, 38, 39, 40, 41, 42, 43, 44, 45, 46, 47, 48, 49, 50, 51, 52, 53, 54, 55]⟩, dummies := ⟨[]⟩, finger := 0, led := b, moves := 2, plain := true }, ⟨[]⟩⟩
noncomputable def ob111 (b : Bool) (P : Params) : Obj := ⟨.type "list_iterator", none, .fields ⟨[.ref 88, .int 25 0]⟩, ⟨[]⟩⟩
noncomputable def tr25 (b : Bool) (P : Params) : BT := (.node (ob0 b P) (.node (ob1 b P) (.node (ob77 b P) (.node (ob7 b P) (.node (ob7 b P) (.node (ob29 b P) (.node (ob61 b P) .nil .nil) .nil) (.node (ob48 b P) (.node (ob80 b P) .nil .nil) .nil)) (.node (ob22 b P) (.node (ob7 b P) (.node (ob74 b P) .nil .nil) .nil) (.node (ob54 b P) (.node (ob99 b P) .nil .nil) .nil))) (.node (ob27 b P) (.node (ob18 b P) (.node (ob7 b P) (.node (ob65 b P) .nil .nil) .nil) (.node (ob7 b P) (.node (ob84 b P) .nil .nil) .nil)) (.node (ob26 b P) (.node (ob37 b P) (.node (ob7 b P) .nil .nil) .nil) (.node (ob58 b P) .nil .nil)))) (.node (ob5 b P) (.node (ob9 b P) (.node (ob16 b P) (.node (ob8 b P) (.node (ob63 b P) .nil .nil) .nil) (.node (ob7 b P) (.node (ob82 b P) .nil .nil) .nil)) (.node (ob24 b P) (.node (ob36 b P) (.node (ob7 b P) .nil .nil) .nil) (.node (ob56 b P) (.node (ob110 b P) .nil .nil) .nil))) (.node (ob13 b P) (.node (ob20 b P) (.node (ob34 b P) (.node (ob66 b P) .nil .nil) .nil) (.node (ob53 b P) (.node (ob98 b P) .nil .nil) .nil)) (.node (ob78 b P) (.node (ob39 b P) (.node (ob79 b P) .nil .nil) .nil) (.node (ob60 b P) .nil .nil))))) (.node (ob2 b P) (.node (ob4 b P) (.node (ob8 b P) (.node (ob15 b P) (.node (ob7 b P) (.node (ob62 b P) .nil .nil) .nil) (.node (ob49 b P) (.node (ob81 b P) .nil .nil) .nil)) (.node (ob23 b P) (.node (ob8 b P) (.node (ob75 b P) .nil .nil) .nil) (.node (ob55 b P) (.node (ob100 b P) .nil .nil) .nil))) (.node (ob12 b P) (.node (ob19 b P) (.node (ob33 b P) (.node (ob7 b P) .nil .nil) .nil) (.node (ob8 b P) (.node (ob97 b P) .nil .nil) .nil)) (.node (ob7 b P) (.node (ob38 b P) (.node (ob8 b P) .nil .nil) .nil) (.node (ob59 b P) .nil .nil)))) (.node (ob6 b P) (.node (ob10 b P) (.node (ob17 b P) (.node (ob32 b P) (.node (ob64 b P) .nil .nil) .nil) (.node (ob50 b P) (.node (ob83 b P) .nil .nil) .nil)) (.node (ob25 b P) (.node (ob7 b P) (.node (ob76 b P) .nil .nil) .nil) (.node (ob57 b P) (.node (ob111 b P) .nil .nil) .nil))) (.node (ob14 b P) (.node (ob21 b P) (.node (ob35 b P) (.node (ob67 b P) .nil .nil) .nil) (.node (ob7 b P) (.node (ob7 b P) .nil .nil) .nil)) (.node (ob28 b P) (.node (ob40 b P) (.node (ob7 b P) .nil .nil) .nil) (.node (ob7 b P) .nil .nil))))))
noncomputable def st25 (b : Bool) (w : World) (os : OsState) : SharedT := ⟨tr25 b w.params, 91, lf, ⟨[]⟩, dr, 509, os⟩
noncomputable def th5c11 (w : World) (os : OsState) : Thread := ⟨denote treeTable (.builtin "set.update.loop" ⟨[.ref 89, .ref 90], []⟩), (.builtin "set.update.loop" ⟨[.ref 89, .ref 90], []⟩), ⟨19, 9, 19, 52⟩, fam5c6 w os⟩
noncomputable def ob112 (b : Bool) (P : Params) : Obj := ⟨.type "set", none, .set ⟨[(917505, .int 917505 382), (917536, .int 917536 388), (917537, .int 917537 389), (917538, .int 917538 390), (917539, .int 917539 391), (917540, .int 917540 392), (917541, .int 917541 393), (917542, .int 917542 394), (917543, .int 917543 395), (917544, .int 917544 396), (917545, .int 917545 397), (917546, .int 917546 398), (917547, .int 917547 399), (917548, .int 917548 400), (917549, .int 917549 401), (917550, .int 917550 402), (917551, .int 917551 403), (917552, .int 917552 404), (917553, .int 917553 405), (917554, .int 917554 406), (917555, .int 917555 407), (917556, .int 917556 408), (917557, .int 917557 409), (917558, .int 917558 410), (917559, .int 917559 411), (917560, .int 917560 412), (917561, .int 917561 413), (917562, .int 917562 414), (917563, .int 917563 415), (917564, .int 917564 416)]⟩ 32 { mask := 127, place := ⟨[1, 32, 33, 34, 35, 36, 37, 38, 39, 40, 41, 42, 43, 44, 45, 46, 47, 48, 49, 50, 51, 52, 53, 54, 55, 56, 57, 58, 59, 60]⟩, dummies := ⟨[]⟩, finger := 0, led := b, moves := 2, plain := true }, ⟨[]⟩⟩
noncomputable def ob113 (b : Bool) (P : Params) : Obj := ⟨.type "list_iterator", none, .fields ⟨[.ref 88, .int 30 0]⟩, ⟨[]⟩⟩
noncomputable def tr26 (b : Bool) (P : Params) : BT := (.node (ob0 b P) (.node (ob1 b P) (.node (ob77 b P) (.node (ob7 b P) (.node (ob7 b P) (.node (ob29 b P) (.node (ob61 b P) .nil .nil) .nil) (.node (ob48 b P) (.node (ob80 b P) .nil .nil) .nil)) (.node (ob22 b P) (.node (ob7 b P) (.node (ob74 b P) .nil .nil) .nil) (.node (ob54 b P) (.node (ob99 b P) .nil .nil) .nil))) (.node (ob27 b P) (.node (ob18 b P) (.node (ob7 b P) (.node (ob65 b P) .nil .nil) .nil) (.node (ob7 b P) (.node (ob84 b P) .nil .nil) .nil)) (.node (ob26 b P) (.node (ob37 b P) (.node (ob7 b P) .nil .nil) .nil) (.node (ob58 b P) .nil .nil)))) (.node (ob5 b P) (.node (ob9 b P) (.node (ob16 b P) (.node (ob8 b P) (.node (ob63 b P) .nil .nil) .nil) (.node (ob7 b P) (.node (ob82 b P) .nil .nil) .nil)) (.node (ob24 b P) (.node (ob36 b P) (.node (ob7 b P) .nil .nil) .nil) (.node (ob56 b P) (.node (ob112 b P) .nil .nil) .nil))) (.node (ob13 b P) (.node (ob20 b P) (.node (ob34 b P) (.node (ob66 b P) .nil .nil) .nil) (.node (ob53 b P) (.node (ob98 b P) .nil .nil) .nil)) (.node (ob78 b P) (.node (ob39 b P) (.node (ob79 b P) .nil .nil) .nil) (.node (ob60 b P) .nil .nil))))) (.node (ob2 b P) (.node (ob4 b P) (.node (ob8 b P) (.node (ob15 b P) (.node (ob7 b P) (.node (ob62 b P) .nil .nil) .nil) (.node (ob49 b P) (.node (ob81 b P) .nil .nil) .nil)) (.node (ob23 b P) (.node (ob8 b P) (.node (ob75 b P) .nil .nil) .nil) (.node (ob55 b P) (.node (ob100 b P) .nil .nil) .nil))) (.node (ob12 b P) (.node (ob19 b P) (.node (ob33 b P) (.node (ob7 b P) .nil .nil) .nil) (.node (ob8 b P) (.node (ob97 b P) .nil .nil) .nil)) (.node (ob7 b P) (.node (ob38 b P) (.node (ob8 b P) .nil .nil) .nil) (.node (ob59 b P) .nil .nil)))) (.node (ob6 b P) (.node (ob10 b P) (.node (ob17 b P) (.node (ob32 b P) (.node (ob64 b P) .nil .nil) .nil) (.node (ob50 b P) (.node (ob83 b P) .nil .nil) .nil)) (.node (ob25 b P) (.node (ob7 b P) (.node (ob76 b P) .nil .nil) .nil) (.node (ob57 b P) (.node (ob113 b P) .nil .nil) .nil))) (.node (ob14 b P) (.node (ob21 b P) (.node (ob35 b P) (.node (ob67 b P) .nil .nil) .nil) (.node (ob7 b P) (.node (ob7 b P) .nil .nil) .nil)) (.node (ob28 b P) (.node (ob40 b P) (.node (ob7 b P) .nil .nil) .nil) (.node (ob7 b P) .nil .nil))))))
noncomputable def st26 (b : Bool) (w : World) (os : OsState) : SharedT := ⟨tr26 b w.params, 91, lf, ⟨[]⟩, dr, 514, os⟩
noncomputable def th5c12 (w : World) (os : OsState) : Thread := ⟨denote treeTable (.builtin "set.update.loop" ⟨[.ref 89, .ref 90], []⟩), (.builtin "set.update.loop" ⟨[.ref 89, .ref 90], []⟩), ⟨19, 9, 19, 52⟩, fam5c6 w os⟩
noncomputable def ob114 (b : Bool) (P : Params) : Obj := ⟨.type "set", none, .set ⟨[(917505, .int 917505 382), (917536, .int 917536 388), (917537, .int 917537 389), (917538, .int 917538 390), (917539, .int 917539 391), (917540, .int 917540 392), (917541, .int 917541 393), (917542, .int 917542 394), (917543, .int 917543 395), (917544, .int 917544 396), (917545, .int 917545 397), (917546, .int 917546 398), (917547, .int 917547 399), (917548, .int 917548 400), (917549, .int 917549 401), (917550, .int 917550 402), (917551, .int 917551 403), (917552, .int 917552 404), (917553, .int 917553 405), (917554, .int 917554 406), (917555, .int 917555 407), (917556, .int 917556 408), (917557, .int 917557 409), (917558, .int 917558 410), (917559, .int 917559 411), (917560, .int 917560 412), (917561, .int 917561 413), (917562, .int 917562 414), (917563, .int 917563 415), (917564, .int 917564 416), (917565, .int 917565 417), (917566, .int 917566 418), (917567, .int 917567 419), (917568, .int 917568 420), (917569, .int 917569 421)]⟩ 37 { mask := 127, place := ⟨[1, 32, 33, 34, 35, 36, 37, 38, 39, 40, 41, 42, 43, 44, 45, 46, 47, 48, 49, 50, 51, 52, 53, 54, 55, 56, 57, 58, 59, 60, 61, 62, 63, 64, 65]⟩, dummies := ⟨[]⟩, finger := 0, led := b, moves := 2, plain := true }, ⟨[]⟩⟩
noncomputable def ob115 (b : Bool) (P : Params) : Obj := ⟨.type "list_iterator", none, .fields ⟨[.ref 88, .int 35 0]⟩, ⟨[]⟩⟩
noncomputable def tr27 (b : Bool) (P : Params) : BT := (.node (ob0 b P) (.node (ob1 b P) (.node (ob77 b P) (.node (ob7 b P) (.node (ob7 b P) (.node (ob29 b P) (.node (ob61 b P) .nil .nil) .nil) (.node (ob48 b P) (.node (ob80 b P) .nil .nil) .nil)) (.node (ob22 b P) (.node (ob7 b P) (.node (ob74 b P) .nil .nil) .nil) (.node (ob54 b P) (.node (ob99 b P) .nil .nil) .nil))) (.node (ob27 b P) (.node (ob18 b P) (.node (ob7 b P) (.node (ob65 b P) .nil .nil) .nil) (.node (ob7 b P) (.node (ob84 b P) .nil .nil) .nil)) (.node (ob26 b P) (.node (ob37 b P) (.node (ob7 b P) .nil .nil) .nil) (.node (ob58 b P) .nil .nil)))) (.node (ob5 b P) (.node (ob9 b P) (.node (ob16 b P) (.node (ob8 b P) (.node (ob63 b P) .nil .nil) .nil) (.node (ob7 b P) (.node (ob82 b P) .nil .nil) .nil)) (.node (ob24 b P) (.node (ob36 b P) (.node (ob7 b P) .nil .nil) .nil) (.node (ob56 b P) (.node (ob114 b P) .nil .nil) .nil))) (.node (ob13 b P) (.node (ob20 b P) (.node (ob34 b P) (.node (ob66 b P) .nil .nil) .nil) (.node (ob53 b P) (.node (ob98 b P) .nil .nil) .nil)) (.node (ob78 b P) (.node (ob39 b P) (.node (ob79 b P) .nil .nil) .nil) (.node (ob60 b P) .nil .nil))))) (.node (ob2 b P) (.node (ob4 b P) (.node (ob8 b P) (.node (ob15 b P) (.node (ob7 b P) (.node (ob62 b P) .nil .nil) .nil) (.node (ob49 b P) (.node (ob81 b P) .nil .nil) .nil)) (.node (ob23 b P) (.node (ob8 b P) (.node (ob75 b P) .nil .nil) .nil) (.node (ob55 b P) (.node (ob100 b P) .nil .nil) .nil))) (.node (ob12 b P) (.node (ob19 b P) (.node (ob33 b P) (.node (ob7 b P) .nil .nil) .nil) (.node (ob8 b P) (.node (ob97 b P) .nil .nil) .nil)) (.node (ob7 b P) (.node (ob38 b P) (.node (ob8 b P) .nil .nil) .nil) (.node (ob59 b P) .nil .nil)))) (.node (ob6 b P) (.node (ob10 b P) (.node (ob17 b P) (.node (ob32 b P) (.node (ob64 b P) .nil .nil) .nil) (.node (ob50 b P) (.node (ob83 b P) .nil .nil) .nil)) (.node (ob25 b P) (.node (ob7 b P) (.node (ob76 b P) .nil .nil) .nil) (.node (ob57 b P) (.node (ob115 b P) .nil .nil) .nil))) (.node (ob14 b P) (.node (ob21 b P) (.node (ob35 b P) (.node (ob67 b P) .nil .nil) .nil) (.node (ob7 b P) (.node (ob7 b P) .nil .nil) .nil)) (.node (ob28 b P) (.node (ob40 b P) (.node (ob7 b P) .nil .nil) .nil) (.node (ob7 b P) .nil .nil))))))
noncomputable def st27 (b : Bool) (w : World) (os : OsState) : SharedT := ⟨tr27 b w.params, 91, lf, ⟨[]⟩, dr, 519, os⟩
noncomputable def th5c13 (w : World) (os : OsState) : Thread := ⟨denote treeTable (.builtin "set.update.loop" ⟨[.ref 89, .ref 90], []⟩), (.builtin "set.update.loop" ⟨[.ref 89, .ref 90], []⟩), ⟨19, 9, 19, 52⟩, fam5c6 w os⟩
noncomputable def ob116 (b : Bool) (P : Params) : Obj := ⟨.type "set", none, .set ⟨[(917505, .int 917505 382), (917536, .int 917536 388), (917537, .int 917537 389), (917538, .int 917538 390), (917539, .int 917539 391), (917540, .int 917540 392), (917541, .int 917541 393), (917542, .int 917542 394), (917543, .int 917543 395), (917544, .int 917544 396), (917545, .int 917545 397), (917546, .int 917546 398), (917547, .int 917547 399), (917548, .int 917548 400), (917549, .int 917549 401), (917550, .int 917550 402), (917551, .int 917551 403), (917552, .int 917552 404), (917553, .int 917553 405), (917554, .int 917554 406), (917555, .int 917555 407), (917556, .int 917556 408), (917557, .int 917557 409), (917558, .int 917558 410), (917559, .int 917559 411), (917560, .int 917560 412), (917561, .int 917561 413), (917562, .int 917562 414), (917563, .int 917563 415), (917564, .int 917564 416), (917565, .int 917565 417), (917566, .int 917566 418), (917567, .int 917567 419), (917568, .int 917568 420), (917569, .int 917569 421), (917570, .int 917570 422), (917571, .int 917571 423), (917572, .int 917572 424), (917573, .int 917573 425), (917574, .int 917574 426)]⟩ 42 { mask := 127, place := ⟨[1, 32, 33, 34, 35, 36, 37, 38, 39, 40, 41, 42, 43, 44, 45, 46, 47, 48, 49, 50, 51, 52, 53, 54, 55, 56, 57, 58, 59, 60, 61, 62, 63, 64, 65, 66, 67, 68, 69, 70]⟩, dummies := ⟨[]⟩, finger := 0, led := b, moves := 2, plain := true }, ⟨[]⟩⟩
noncomputable def ob117 (b : Bool) (P : Params) : Obj := ⟨.type "list_iterator", none, .fields ⟨[.ref 88, .int 40 0]⟩, ⟨[]⟩⟩
noncomputable def tr28 (b : Bool) (P : Params) : BT := (.node (ob0 b P) (.node (ob1 b P) (.node (ob77 b P) (.node (ob7 b P) (.node (ob7 b P) (.node (ob29 b P) (.node (ob61 b P) .nil .nil) .nil) (.node (ob48 b P) (.node (ob80 b P) .nil .nil) .nil)) (.node (ob22 b P) (.node (ob7 b P) (.node (ob74 b P) .nil .nil) .nil) (.node (ob54 b P) (.node (ob99 b P) .nil .nil) .nil))) (.node (ob27 b P) (.node (ob18 b P) (.node (ob7 b P) (.node (ob65 b P) .nil .nil) .nil) (.node (ob7 b P) (.node (ob84 b P) .nil .nil) .nil)) (.node (ob26 b P) (.node (ob37 b P) (.node (ob7 b P) .nil .nil) .nil) (.node (ob58 b P) .nil .nil)))) (.node (ob5 b P) (.node (ob9 b P) (.node (ob16 b P) (.node (ob8 b P) (.node (ob63 b P) .nil .nil) .nil) (.node (ob7 b P) (.node (ob82 b P) .nil .nil) .nil)) (.node (ob24 b P) (.node (ob36 b P) (.node (ob7 b P) .nil .nil) .nil) (.node (ob56 b P) (.node (ob116 b P) .nil .nil) .nil))) (.node (ob13 b P) (.node (ob20 b P) (.node (ob34 b P) (.node (ob66 b P) .nil .nil) .nil) (.node (ob53 b P) (.node (ob98 b P) .nil .nil) .nil)) (.node (ob78 b P) (.node (ob39 b P) (.node (ob79 b P) .nil .nil) .nil) (.node (ob60 b P) .nil .nil))))) (.node (ob2 b P) (.node (ob4 b P) (.node (ob8 b P) (.node (ob15 b P) (.node (ob7 b P) (.node (ob62 b P) .nil .nil) .nil) (.node (ob49 b P) (.node (ob81 b P) .nil .nil) .nil)) (.node (ob23 b P) (.node (ob8 b P) (.node (ob75 b P) .nil .nil) .nil) (.node (ob55 b P) (.node (ob100 b P) .nil .nil) .nil))) (.node (ob12 b P) (.node (ob19 b P) (.node (ob33 b P) (.node (ob7 b P) .nil .nil) .nil) (.node (ob8 b P) (.node (ob97 b P) .nil .nil) .nil)) (.node (ob7 b P) (.node (ob38 b P) (.node (ob8 b P) .nil .nil) .nil) (.node (ob59 b P) .nil .nil)))) (.node (ob6 b P) (.node (ob10 b P) (.node (ob17 b P) (.node (ob32 b P) (.node (ob64 b P) .nil .nil) .nil) (.node (ob50 b P) (.node (ob83 b P) .nil .nil) .nil)) (.node (ob25 b P) (.node (ob7 b P) (.node (ob76 b P) .nil .nil) .nil) (.node (ob57 b P) (.node (ob117 b P) .nil .nil) .nil))) (.node (ob14 b P) (.node (ob21 b P) (.node (ob35 b P) (.node (ob67 b P) .nil .nil) .nil) (.node (ob7 b P) (.node (ob7 b P) .nil .nil) .nil)) (.node (ob28 b P) (.node (ob40 b P) (.node (ob7 b P) .nil .nil) .nil) (.node (ob7 b P) .nil .nil))))))
noncomputable def st28 (b : Bool) (w : World) (os : OsState) : SharedT := ⟨tr28 b w.params, 91, lf, ⟨[]⟩, dr, 524, os⟩
noncomputable def th5c14 (w : World) (os : OsState) : Thread := ⟨denote treeTable (.builtin "set.update.loop" ⟨[.ref 89, .ref 90], []⟩), (.builtin "set.update.loop" ⟨[.ref 89, .ref 90], []⟩), ⟨19, 9, 19, 52⟩, fam5c6 w os⟩
noncomputable def ob118 (b : Bool) (P : Params) : Obj := ⟨.type "set", none, .set ⟨[(917505, .int 917505 382), (917536, .int 917536 388), (917537, .int 917537 389), (917538, .int 917538 390), (917539, .int 917539 391), (917540, .int 917540 392), (917541, .int 917541 393), (917542, .int 917542 394), (917543, .int 917543 395), (917544, .int 917544 396), (917545, .int 917545 397), (917546, .int 917546 398), (917547, .int 917547 399), (917548, .int 917548 400), (917549, .int 917549 401), (917550, .int 917550 402), (917551, .int 917551 403), (917552, .int 917552 404), (917553, .int 917553 405), (917554, .int 917554 406), (917555, .int 917555 407), (917556, .int 917556 408), (917557, .int 917557 409), (917558, .int 917558 410), (917559, .int 917559 411), (917560, .int 917560 412), (917561, .int 917561 413), (917562, .int 917562 414), (917563, .int 917563 415), (917564, .int 917564 416), (917565, .int 917565 417), (917566, .int 917566 418), (917567, .int 917567 419), (917568, .int 917568 420), (917569, .int 917569 421), (917570, .int 917570 422), (917571, .int 917571 423), (917572, .int 917572 424), (917573, .int 917573 425), (917574, .int 917574 426), (917575, .int 917575 427), (917576, .int 917576 428), (917577, .int 917577 429), (917578, .int 917578 430), (917579, .int 917579 431)]⟩ 47 { mask := 127, place := ⟨[1, 32, 33, 34, 35, 36, 37, 38, 39, 40, 41, 42, 43, 44, 45, 46, 47, 48, 49, 50, 51, 52, 53, 54, 55, 56, 57, 58, 59, 60, 61, 62, 63, 64, 65, 66, 67, 68, 69, 70, 71, 72, 73, 74, 75]⟩, dummies := ⟨[]⟩, finger := 0, led := b, moves := 2, plain := true }, ⟨[]⟩⟩
noncomputable def ob119 (b : Bool) (P : Params) : Obj := ⟨.type "list_iterator", none, .fields ⟨[.ref 88, .int 45 0]⟩, ⟨[]⟩⟩
noncomputable def tr29 (b : Bool) (P : Params) : BT := (.node (ob0 b P) (.node (ob1 b P) (.node (ob77 b P) (.node (ob7 b P) (.node (ob7 b P) (.node (ob29 b P) (.node (ob61 b P) .nil .nil) .nil) (.node (ob48 b P) (.node (ob80 b P) .nil .nil) .nil)) (.node (ob22 b P) (.node (ob7 b P) (.node (ob74 b P) .nil .nil) .nil) (.node (ob54 b P) (.node (ob99 b P) .nil .nil) .nil))) (.node (ob27 b P) (.node (ob18 b P) (.node (ob7 b P) (.node (ob65 b P) .nil .nil) .nil) (.node (ob7 b P) (.node (ob84 b P) .nil .nil) .nil)) (.node (ob26 b P) (.node (ob37 b P) (.node (ob7 b P) .nil .nil) .nil) (.node (ob58 b P) .nil .nil)))) (.node (ob5 b P) (.node (ob9 b P) (.node (ob16 b P) (.node (ob8 b P) (.node (ob63 b P) .nil .nil) .nil) (.node (ob7 b P) (.node (ob82 b P) .nil .nil) .nil)) (.node (ob24 b P) (.node (ob36 b P) (.node (ob7 b P) .nil .nil) .nil) (.node (ob56 b P) (.node (ob118 b P) .nil .nil) .nil))) (.node (ob13 b P) (.node (ob20 b P) (.node (ob34 b P) (.node (ob66 b P) .nil .nil) .nil) (.node (ob53 b P) (.node (ob98 b P) .nil .nil) .nil)) (.node (ob78 b P) (.node (ob39 b P) (.node (ob79 b P) .nil .nil) .nil) (.node (ob60 b P) .nil .nil))))) (.node (ob2 b P) (.node (ob4 b P) (.node (ob8 b P) (.node (ob15 b P) (.node (ob7 b P) (.node (ob62 b P) .nil .nil) .nil) (.node (ob49 b P) (.node (ob81 b P) .nil .nil) .nil)) (.node (ob23 b P) (.node (ob8 b P) (.node (ob75 b P) .nil .nil) .nil) (.node (ob55 b P) (.node (ob100 b P) .nil .nil) .nil))) (.node (ob12 b P) (.node (ob19 b P) (.node (ob33 b P) (.node (ob7 b P) .nil .nil) .nil) (.node (ob8 b P) (.node (ob97 b P) .nil .nil) .nil)) (.node (ob7 b P) (.node (ob38 b P) (.node (ob8 b P) .nil .nil) .nil) (.node (ob59 b P) .nil .nil)))) (.node (ob6 b P) (.node (ob10 b P) (.node (ob17 b P) (.node (ob32 b P) (.node (ob64 b P) .nil .nil) .nil) (.node (ob50 b P) (.node (ob83 b P) .nil .nil) .nil)) (.node (ob25 b P) (.node (ob7 b P) (.node (ob76 b P) .nil .nil) .nil) (.node (ob57 b P) (.node (ob119 b P) .nil .nil) .nil))) (.node (ob14 b P) (.node (ob21 b P) (.node (ob35 b P) (.node (ob67 b P) .nil .nil) .nil) (.node (ob7 b P) (.node (ob7 b P) .nil .nil) .nil)) (.node (ob28 b P) (.node (ob40 b P) (.node (ob7 b P) .nil .nil) .nil) (.node (ob7 b P) .nil .nil))))))
noncomputable def st29 (b : Bool) (w : World) (os : OsState) : SharedT := ⟨tr29 b w.params, 91, lf, ⟨[]⟩, dr, 529, os⟩
noncomputable def th5c15 (w : World) (os : OsState) : Thread := ⟨denote treeTable (.builtin "set.update.loop" ⟨[.ref 89, .ref 90], []⟩), (.builtin "set.update.loop" ⟨[.ref 89, .ref 90], []⟩), ⟨19, 9, 19, 52⟩, fam5c6 w os⟩
noncomputable def ob120 (b : Bool) (P : Params) : Obj := ⟨.type "set", none, .set ⟨[(917505, .int 917505 382), (917536, .int 917536 388), (917537, .int 917537 389), (917538, .int 917538 390), (917539, .int 917539 391), (917540, .int 917540 392), (917541, .int 917541 393), (917542, .int 917542 394), (917543, .int 917543 395), (917544, .int 917544 396), (917545, .int 917545 397), (917546, .int 917546 398), (917547, .int 917547 399), (917548, .int 917548 400), (917549, .int 917549 401), (917550, .int 917550 402), (917551, .int 917551 403), (917552, .int 917552 404), (917553, .int 917553 405), (917554, .int 917554 406), (917555, .int 917555 407), (917556, .int 917556 408), (917557, .int 917557 409), (917558, .int 917558 410), (917559, .int 917559 411), (917560, .int 917560 412), (917561, .int 917561 413), (917562, .int 917562 414), (917563, .int 917563 415), (917564, .int 917564 416), (917565, .int 917565 417), (917566, .int 917566 418), (917567, .int 917567 419), (917568, .int 917568 420), (917569, .int 917569 421), (917570, .int 917570 422), (917571, .int 917571 423), (917572, .int 917572 424), (917573, .int 917573 425), (917574, .int 917574 426), (917575, .int 917575 427), (917576, .int 917576 428), (917577, .int 917577 429), (917578, .int 917578 430), (917579, .int 917579 431), (917580, .int 917580 432), (917581, .int 917581 433), (917582, .int 917582 434), (917583, .int 917583 435), (917584, .int 917584 436)]⟩ 52 { mask := 127, place := ⟨[1, 32, 33, 34, 35, 36, 37, 38, 39, 40, 41, 42, 43, 44, 45, 46, 47, 48, 49, 50, 51, 52, 53, 54, 55, 56, 57, 58, 59, 60, 61, 62, 63, 64, 65, 66, 67, 68, 69, 70, 71, 72, 73, 74, 75, 76, 77, 78, 79, 80]⟩, dummies := ⟨[]⟩, finger := 0, led := b, moves := 2, plain := true }, ⟨[]⟩⟩
noncomputable def ob121 (b : Bool) (P : Params) : Obj := ⟨.type "list_iterator", none, .fields ⟨[.ref 88, .int 50 0]⟩, ⟨[]⟩⟩
noncomputable def tr30 (b : Bool) (P : Params) : BT := (.node (ob0 b P) (.node (ob1 b P) (.node (ob77 b P) (.node (ob7 b P) (.node (ob7 b P) (.node (ob29 b P) (.node (ob61 b P) .nil .nil) .nil) (.node (ob48 b P) (.node (ob80 b P) .nil .nil) .nil)) (.node (ob22 b P) (.node (ob7 b P) (.node (ob74 b P) .nil .nil) .nil) (.node (ob54 b P) (.node (ob99 b P) .nil .nil) .nil))) (.node (ob27 b P) (.node (ob18 b P) (.node (ob7 b P) (.node (ob65 b P) .nil .nil) .nil) (.node (ob7 b P) (.node (ob84 b P) .nil .nil) .nil)) (.node (ob26 b P) (.node (ob37 b P) (.node (ob7 b P) .nil .nil) .nil) (.node (ob58 b P) .nil .nil)))) (.node (ob5 b P) (.node (ob9 b P) (.node (ob16 b P) (.node (ob8 b P) (.node (ob63 b P) .nil .nil) .nil) (.node (ob7 b P) (.node (ob82 b P) .nil .nil) .nil)) (.node (ob24 b P) (.node (ob36 b P) (.node (ob7 b P) .nil .nil) .nil) (.node (ob56 b P) (.node (ob120 b P) .nil .nil) .nil))) (.node (ob13 b P) (.node (ob20 b P) (.node (ob34 b P) (.node (ob66 b P) .nil .nil) .nil) (.node (ob53 b P) (.node (ob98 b P) .nil .nil) .nil)) (.node (ob78 b P) (.node (ob39 b P) (.node (ob79 b P) .nil .nil) .nil) (.node (ob60 b P) .nil .nil))))) (.node (ob2 b P) (.node (ob4 b P) (.node (ob8 b P) (.node (ob15 b P) (.node (ob7 b P) (.node (ob62 b P) .nil .nil) .nil) (.node (ob49 b P) (.node (ob81 b P) .nil .nil) .nil)) (.node (ob23 b P) (.node (ob8 b P) (.node (ob75 b P) .nil .nil) .nil) (.node (ob55 b P) (.node (ob100 b P) .nil .nil) .nil))) (.node (ob12 b P) (.node (ob19 b P) (.node (ob33 b P) (.node (ob7 b P) .nil .nil) .nil) (.node (ob8 b P) (.node (ob97 b P) .nil .nil) .nil)) (.node (ob7 b P) (.node (ob38 b P) (.node (ob8 b P) .nil .nil) .nil) (.node (ob59 b P) .nil .nil)))) (.node (ob6 b P) (.node (ob10 b P) (.node (ob17 b P) (.node (ob32 b P) (.node (ob64 b P) .nil .nil) .nil) (.node (ob50 b P) (.node (ob83 b P) .nil .nil) .nil)) (.node (ob25 b P) (.node (ob7 b P) (.node (ob76 b P) .nil .nil) .nil) (.node (ob57 b P) (.node (ob121 b P) .nil .nil) .nil))) (.node (ob14 b P) (.node (ob21 b P) (.node (ob35 b P) (.node (ob67 b P) .nil .nil) .nil) (.node (ob7 b P) (.node (ob7 b P) .nil .nil) .nil)) (.node (ob28 b P) (.node (ob40 b P) (.node (ob7 b P) .nil .nil) .nil) (.node (ob7 b P) .nil .nil))))))
noncomputable def st30 (b : Bool) (w : World) (os : OsState) : SharedT := ⟨tr30 b w.params, 91, lf, ⟨[]⟩, dr, 534, os⟩
noncomputable def th5c16 (w : World) (os : OsState) : Thread := ⟨denote treeTable (.builtin "set.update.loop" ⟨[.ref 89, .ref 90], []⟩), (.builtin "set.update.loop" ⟨[.ref 89, .ref 90], []⟩), ⟨19, 9, 19, 52⟩, fam5c6 w os⟩
noncomputable def ob122 (b : Bool) (P : Params) : Obj := ⟨.type "set", none, .set ⟨[(917505, .int 917505 382), (917536, .int 917536 388), (917537, .int 917537 389), (917538, .int 917538 390), (917539, .int 917539 391), (917540, .int 917540 392), (917541, .int 917541 393), (917542, .int 917542 394), (917543, .int 917543 395), (917544, .int 917544 396), (917545, .int 917545 397), (917546, .int 917546 398), (917547, .int 917547 399), (917548, .int 917548 400), (917549, .int 917549 401), (917550, .int 917550 402), (917551, .int 917551 403), (917552, .int 917552 404), (917553, .int 917553 405), (917554, .int 917554 406), (917555, .int 917555 407), (917556, .int 917556 408), (917557, .int 917557 409), (917558, .int 917558 410), (917559, .int 917559 411), (917560, .int 917560 412), (917561, .int 917561 413), (917562, .int 917562 414), (917563, .int 917563 415), (917564, .int 917564 416), (917565, .int 917565 417), (917566, .int 917566 418), (917567, .int 917567 419), (917568, .int 917568 420), (917569, .int 917569 421), (917570, .int 917570 422), (917571, .int 917571 423), (917572, .int 917572 424), (917573, .int 917573 425), (917574, .int 917574 426), (917575, .int 917575 427), (917576, .int 917576 428), (917577, .int 917577 429), (917578, .int 917578 430), (917579, .int 917579 431), (917580, .int 917580 432), (917581, .int 917581 433), (917582, .int 917582 434), (917583, .int 917583 435), (917584, .int 917584 436), (917585, .int 917585 437), (917586, .int 917586 438), (917587, .int 917587 439), (917588, .int 917588 440), (917589, .int 917589 441)]⟩ 57 { mask := 127, place := ⟨[1, 32, 33, 34, 35, 36, 37, 38, 39, 40, 41, 42, 43, 44, 45, 46, 47, 48, 49, 50, 51, 52, 53, 54, 55, 56, 57, 58, 59, 60, 61, 62, 63, 64, 65, 66, 67, 68, 69, 70, 71, 72, 73, 74, 75, 76, 77, 78, 79, 80, 81, 82, 83, 84, 85]⟩, dummies := ⟨[]⟩, finger := 0, led := b, moves := 2, plain := true }, ⟨[]⟩⟩
noncomputable def ob123 (b : Bool) (P : Params) : Obj := ⟨.type "list_iterator", none, .fields ⟨[.ref 88, .int 55 0]⟩, ⟨[]⟩⟩
noncomputable def tr31 (b : Bool) (P : Params) : BT := (.node (ob0 b P) (.node (ob1 b P) (.node (ob77 b P) (.node (ob7 b P) (.node (ob7 b P) (.node (ob29 b P) (.node (ob61 b P) .nil .nil) .nil) (.node (ob48 b P) (.node (ob80 b P) .nil .nil) .nil)) (.node (ob22 b P) (.node (ob7 b P) (.node (ob74 b P) .nil .nil) .nil) (.node (ob54 b P) (.node (ob99 b P) .nil .nil) .nil))) (.node (ob27 b P) (.node (ob18 b P) (.node (ob7 b P) (.node (ob65 b P) .nil .nil) .nil) (.node (ob7 b P) (.node (ob84 b P) .nil .nil) .nil)) (.node (ob26 b P) (.node (ob37 b P) (.node (ob7 b P) .nil .nil) .nil) (.node (ob58 b P) .nil .nil)))) (.node (ob5 b P) (.node (ob9 b P) (.node (ob16 b P) (.node (ob8 b P) (.node (ob63 b P) .nil .nil) .nil) (.node (ob7 b P) (.node (ob82 b P) .nil .nil) .nil)) (.node (ob24 b P) (.node (ob36 b P) (.node (ob7 b P) .nil .nil) .nil) (.node (ob56 b P) (.node (ob122 b P) .nil .nil) .nil))) (.node (ob13 b P) (.node (ob20 b P) (.node (ob34 b P) (.node (ob66 b P) .nil .nil) .nil) (.node (ob53 b P) (.node (ob98 b P) .nil .nil) .nil)) (.node (ob78 b P) (.node (ob39 b P) (.node (ob79 b P) .nil .nil) .nil) (.node (ob60 b P) .nil .nil))))) (.node (ob2 b P) (.node (ob4 b P) (.node (ob8 b P) (.node (ob15 b P) (.node (ob7 b P) (.node (ob62 b P) .nil .nil) .nil) (.node (ob49 b P) (.node (ob81 b P) .nil .nil) .nil)) (.node (ob23 b P) (.node (ob8 b P) (.node (ob75 b P) .nil .nil) .nil) (.node (ob55 b P) (.node (ob100 b P) .nil .nil) .nil))) (.node (ob12 b P) (.node (ob19 b P) (.node (ob33 b P) (.node (ob7 b P) .nil .nil) .nil) (.node (ob8 b P) (.node (ob97 b P) .nil .nil) .nil)) (.node (ob7 b P) (.node (ob38 b P) (.node (ob8 b P) .nil .nil) .nil) (.node (ob59 b P) .nil .nil)))) (.node (ob6 b P) (.node (ob10 b P) (.node (ob17 b P) (.node (ob32 b P) (.node (ob64 b P) .nil .nil) .nil) (.node (ob50 b P) (.node (ob83 b P) .nil .nil) .nil)) (.node (ob25 b P) (.node (ob7 b P) (.node (ob76 b P) .nil .nil) .nil) (.node (ob57 b P) (.node (ob123 b P) .nil .nil) .nil))) (.node (ob14 b P) (.node (ob21 b P) (.node (ob35 b P) (.node (ob67 b P) .nil .nil) .nil) (.node (ob7 b P) (.node (ob7 b P) .nil .nil) .nil)) (.node (ob28 b P) (.node (ob40 b P) (.node (ob7 b P) .nil .nil) .nil) (.node (ob7 b P) .nil .nil))))))
noncomputable def st31 (b : Bool) (w : World) (os : OsState) : SharedT := ⟨tr31 b w.params, 91, lf, ⟨[]⟩, dr, 539, os⟩
noncomputable def th5c17 (w : World) (os : OsState) : Thread := ⟨denote treeTable (.builtin "set.update.loop" ⟨[.ref 89, .ref 90], []⟩), (.builtin "set.update.loop" ⟨[.ref 89, .ref 90], []⟩), ⟨19, 9, 19, 52⟩, fam5c6 w os⟩
noncomputable def ob124 (b : Bool) (P : Params) : Obj := ⟨.type "set", none, .set ⟨[(917505, .int 917505 382), (917536, .int 917536 388), (917537, .int 917537 389), (917538, .int 917538 390), (917539, .int 917539 391), (917540, .int 917540 392), (917541, .int 917541 393), (917542, .int 917542 394), (917543, .int 917543 395), (917544, .int 917544 396), (917545, .int 917545 397), (917546, .int 917546 398), (917547, .int 917547 399), (917548, .int 917548 400), (917549, .int 917549 401), (917550, .int 917550 402), (917551, .int 917551 403), (917552, .int 917552 404), (917553, .int 917553 405), (917554, .int 917554 406), (917555, .int 917555 407), (917556, .int 917556 408), (917557, .int 917557 409), (917558, .int 917558 410), (917559, .int 917559 411), (917560, .int 917560 412), (917561, .int 917561 413), (917562, .int 917562 414), (917563, .int 917563 415), (917564, .int 917564 416), (917565, .int 917565 417), (917566, .int 917566 418), (917567, .int 917567 419), (917568, .int 917568 420), (917569, .int 917569 421), (917570, .int 917570 422), (917571, .int 917571 423), (917572, .int 917572 424), (917573, .int 917573 425), (917574, .int 917574 426), (917575, .int 917575 427), (917576, .int 917576 428), (917577, .int 917577 429), (917578, .int 917578 430), (917579, .int 917579 431), (917580, .int 917580 432), (917581, .int 917581 433), (917582, .int 917582 434), (917583, .int 917583 435), (917584, .int 917584 436), (917585, .int 917585 437), (917586, .int 917586 438), (917587, .int 917587 439), (917588, .int 917588 440), (917589, .int 917589 441), (917590, .int 917590 442), (917591, .int 917591 443), (917592, .int 917592 444), (917593, .int 917593 445), (917594, .int 917594 446)]⟩ 62 { mask := 127, place := ⟨[1, 32, 33, 34, 35, 36, 37, 38, 39, 40, 41, 42, 43, 44, 45, 46, 47, 48, 49, 50, 51, 52, 53, 54, 55, 56, 57, 58, 59, 60, 61, 62, 63, 64, 65, 66, 67, 68, 69, 70, 71, 72, 73, 74, 75, 76, 77, 78, 79, 80, 81, 82, 83, 84, 85, 86, 87, 88, 89, 90]⟩, dummies := ⟨[]⟩, finger := 0, led := b, moves := 2, plain := true }, ⟨[]⟩⟩
noncomputable def ob125 (b : Bool) (P : Params) : Obj := ⟨.type "list_iterator", none, .fields ⟨[.ref 88, .int 60 0]⟩, ⟨[]⟩⟩
noncomputable def tr32 (b : Bool) (P : Params) : BT := (.node (ob0 b P) (.node (ob1 b P) (.node (ob77 b P) (.node (ob7 b P) (.node (ob7 b P) (.node (ob29 b P) (.node (ob61 b P) .nil .nil) .nil) (.node (ob48 b P) (.node (ob80 b P) .nil .nil) .nil)) (.node (ob22 b P) (.node (ob7 b P) (.node (ob74 b P) .nil .nil) .nil) (.node (ob54 b P) (.node (ob99 b P) .nil .nil) .nil))) (.node (ob27 b P) (.node (ob18 b P) (.node (ob7 b P) (.node (ob65 b P) .nil .nil) .nil) (.node (ob7 b P) (.node (ob84 b P) .nil .nil) .nil)) (.node (ob26 b P) (.node (ob37 b P) (.node (ob7 b P) .nil .nil) .nil) (.node (ob58 b P) .nil .nil)))) (.node (ob5 b P) (.node (ob9 b P) (.node (ob16 b P) (.node (ob8 b P) (.node (ob63 b P) .nil .nil) .nil) (.node (ob7 b P) (.node (ob82 b P) .nil .nil) .nil)) (.node (ob24 b P) (.node (ob36 b P) (.node (ob7 b P) .nil .nil) .nil) (.node (ob56 b P) (.node (ob124 b P) .nil .nil) .nil))) (.node (ob13 b P) (.node (ob20 b P) (.node (ob34 b P) (.node (ob66 b P) .nil .nil) .nil) (.node (ob53 b P) (.node (ob98 b P) .nil .nil) .nil)) (.node (ob78 b P) (.node (ob39 b P) (.node (ob79 b P) .nil .nil) .nil) (.node (ob60 b P) .nil .nil))))) (.node (ob2 b P) (.node (ob4 b P) (.node (ob8 b P) (.node (ob15 b P) (.node (ob7 b P) (.node (ob62 b P) .nil .nil) .nil) (.node (ob49 b P) (.node (ob81 b P) .nil .nil) .nil)) (.node (ob23 b P) (.node (ob8 b P) (.node (ob75 b P) .nil .nil) .nil) (.node (ob55 b P) (.node (ob100 b P) .nil .nil) .nil))) (.node (ob12 b P) (.node (ob19 b P) (.node (ob33 b P) (.node (ob7 b P) .nil .nil) .nil) (.node (ob8 b P) (.node (ob97 b P) .nil .nil) .nil)) (.node (ob7 b P) (.node (ob38 b P) (.node (ob8 b P) .nil .nil) .nil) (.node (ob59 b P) .nil .nil)))) (.node (ob6 b P) (.node (ob10 b P) (.node (ob17 b P) (.node (ob32 b P) (.node (ob64 b P) .nil .nil) .nil) (.node (ob50 b P) (.node (ob83 b P) .nil .nil) .nil)) (.node (ob25 b P) (.node (ob7 b P) (.node (ob76 b P) .nil .nil) .nil) (.node (ob57 b P) (.node (ob125 b P) .nil .nil) .nil))) (.node (ob14 b P) (.node (ob21 b P) (.node (ob35 b P) (.node (ob67 b P) .nil .nil) .nil) (.node (ob7 b P) (.node (ob7 b P) .nil .nil) .nil)) (.node (ob28 b P) (.node (ob40 b P) (.node (ob7 b P) .nil .nil) .nil) (.node (ob7 b P) .nil .nil))))))
noncomputable def st32 (b : Bool) (w : World) (os : OsState) : SharedT := ⟨tr32 b w.params, 91, lf, ⟨[]⟩, dr, 544, os⟩
noncomputable def th5c18 (w : World) (os : OsState) : Thread := ⟨denote treeTable (.builtin "set.update.loop" ⟨[.ref 89, .ref 90], []⟩), (.builtin "set.update.loop" ⟨[.ref 89, .ref 90], []⟩), ⟨19, 9, 19, 52⟩, fam5c6 w os⟩
noncomputable def ob126 (b : Bool) (P : Params) : Obj := ⟨.type "set", none, .set ⟨[(917505, .int 917505 382), (917536, .int 917536 388), (917537, .int 917537 389), (917538, .int 917538 390), (917539, .int 917539 391), (917540, .int 917540 392), (917541, .int 917541 393), (917542, .int 917542 394), (917543, .int 917543 395), (917544, .int 917544 396), (917545, .int 917545 397), (917546, .int 917546 398), (917547, .int 917547 399), (917548, .int 917548 400), (917549, .int 917549 401), (917550, .int 917550 402), (917551, .int 917551 403), (917552, .int 917552 404), (917553, .int 917553 405), (917554, .int 917554 406), (917555, .int 917555 407), (917556, .int 917556 408), (917557, .int 917557 409), (917558, .int 917558 410), (917559, .int 917559 411), (917560, .int 917560 412), (917561, .int 917561 413), (917562, .int 917562 414), (917563, .int 917563 415), (917564, .int 917564 416), (917565, .int 917565 417), (917566, .int 917566 418), (917567, .int 917567 419), (917568, .int 917568 420), (917569, .int 917569 421), (917570, .int 917570 422), (917571, .int 917571 423), (917572, .int 917572 424), (917573, .int 917573 425), (917574, .int 917574 426), (917575, .int 917575 427), (917576, .int 917576 428), (917577, .int 917577 429), (917578, .int 917578 430), (917579, .int 917579 431), (917580, .int 917580 432), (917581, .int 917581 433), (917582, .int 917582 434), (917583, .int 917583 435), (917584, .int 917584 436), (917585, .int 917585 437), (917586, .int 917586 438), (917587, .int 917587 439), (917588, .int 917588 440), (917589, .int 917589 441), (917590, .int 917590 442), (917591, .int 917591 443), (917592, .int 917592 444), (917593, .int 917593 445), (917594, .int 917594 446), (917595, .int 917595 447), (917596, .int 917596 448), (917597, .int 917597 449), (917598, .int 917598 450), (917599, .int 917599 451)]⟩ 67 { mask := 127, place := ⟨[1, 32, 33, 34, 35, 36, 37, 38, 39, 40, 41, 42, 43, 44, 45, 46, 47, 48, 49, 50, 51, 52, 53, 54, 55, 56, 57, 58, 59, 60, 61, 62, 63, 64, 65, 66, 67, 68, 69, 70, 71, 72, 73, 74, 75, 76, 77, 78, 79, 80, 81, 82, 83, 84, 85, 86, 87, 88, 89, 90, 91, 92, 93, 94, 95]⟩, dummies := ⟨[]⟩, finger := 0, led := b, moves := 2, plain := true }, ⟨[]⟩⟩
noncomputable def ob127 (b : Bool) (P : Params) : Obj := ⟨.type "list_iterator", none, .fields ⟨[.ref 88, .int 65 0]⟩, ⟨[]⟩⟩
noncomputable def tr33 (b : Bool) (P : Params) : BT := (.node (ob0 b P) (.node (ob1 b P) (.node (ob77 b P) (.node (ob7 b P) (.node (ob7 b P) (.node (ob29 b P) (.node (ob61 b P) .nil .nil) .nil) (.node (ob48 b P) (.node (ob80 b P) .nil .nil) .nil)) (.node (ob22 b P) (.node (ob7 b P) (.node (ob74 b P) .nil .nil) .nil) (.node (ob54 b P) (.node (ob99 b P) .nil .nil) .nil))) (.node (ob27 b P) (.node (ob18 b P) (.node (ob7 b P) (.node (ob65 b P) .nil .nil) .nil) (.node (ob7 b P) (.node (ob84 b P) .nil .nil) .nil)) (.node (ob26 b P) (.node (ob37 b P) (.node (ob7 b P) .nil .nil) .nil) (.node (ob58 b P) .nil .nil)))) (.node (ob5 b P) (.node (ob9 b P) (.node (ob16 b P) (.node (ob8 b P) (.node (ob63 b P) .nil .nil) .nil) (.node (ob7 b P) (.node (ob82 b P) .nil .nil) .nil)) (.node (ob24 b P) (.node (ob36 b P) (.node (ob7 b P) .nil .nil) .nil) (.node (ob56 b P) (.node (ob126 b P) .nil .nil) .nil))) (.node (ob13 b P) (.node (ob20 b P) (.node (ob34 b P) (.node (ob66 b P) .nil .nil) .nil) (.node (ob53 b P) (.node (ob98 b P) .nil .nil) .nil)) (.node (ob78 b P) (.node (ob39 b P) (.node (ob79 b P) .nil .nil) .nil) (.node (ob60 b P) .nil .nil))))) (.node (ob2 b P) (.node (ob4 b P) (.node (ob8 b P) (.node (ob15 b P) (.node (ob7 b P) (.node (ob62 b P) .nil .nil) .nil) (.node (ob49 b P) (.node (ob81 b P) .nil .nil) .nil)) (.node (ob23 b P) (.node (ob8 b P) (.node (ob75 b P) .nil .nil) .nil) (.node (ob55 b P) (.node (ob100 b P) .nil .nil) .nil))) (.node (ob12 b P) (.node (ob19 b P) (.node (ob33 b P) (.node (ob7 b P) .nil .nil) .nil) (.node (ob8 b P) (.node (ob97 b P) .nil .nil) .nil)) (.node (ob7 b P) (.node (ob38 b P) (.node (ob8 b P) .nil .nil) .nil) (.node (ob59 b P) .nil .nil)))) (.node (ob6 b P) (.node (ob10 b P) (.node (ob17 b P) (.node (ob32 b P) (.node (ob64 b P) .nil .nil) .nil) (.node (ob50 b P) (.node (ob83 b P) .nil .nil) .nil)) (.node (ob25 b P) (.node (ob7 b P) (.node (ob76 b P) .nil .nil) .nil) (.node (ob57 b P) (.node (ob127 b P) .nil .nil) .nil))) (.node (ob14 b P) (.node (ob21 b P) (.node (ob35 b P) (.node (ob67 b P) .nil .nil) .nil) (.node (ob7 b P) (.node (ob7 b P) .nil .nil) .nil)) (.node (ob28 b P) (.node (ob40 b P) (.node (ob7 b P) .nil .nil) .nil) (.node (ob7 b P) .nil .nil))))))
noncomputable def st33 (b : Bool) (w : World) (os : OsState) : SharedT := ⟨tr33 b w.params, 91, lf, ⟨[]⟩, dr, 549, os⟩
noncomputable def th5c19 (w : World) (os : OsState) : Thread := ⟨denote treeTable (.builtin "set.update.loop" ⟨[.ref 89, .ref 90], []⟩), (.builtin "set.update.loop" ⟨[.ref 89, .ref 90], []⟩), ⟨19, 9, 19, 52⟩, fam5c6 w os⟩
noncomputable def ob128 (b : Bool) (P : Params) : Obj := ⟨.type "set", none, .set ⟨[(917505, .int 917505 382), (917536, .int 917536 388), (917537, .int 917537 389), (917538, .int 917538 390), (917539, .int 917539 391), (917540, .int 917540 392), (917541, .int 917541 393), (917542, .int 917542 394), (917543, .int 917543 395), (917544, .int 917544 396), (917545, .int 917545 397), (917546, .int 917546 398), (917547, .int 917547 399), (917548, .int 917548 400), (917549, .int 917549 401), (917550, .int 917550 402), (917551, .int 917551 403), (917552, .int 917552 404), (917553, .int 917553 405), (917554, .int 917554 406), (917555, .int 917555 407), (917556, .int 917556 408), (917557, .int 917557 409), (917558, .int 917558 410), (917559, .int 917559 411), (917560, .int 917560 412), (917561, .int 917561 413), (917562, .int 917562 414), (917563, .int 917563 415), (917564, .int 917564 416), (917565, .int 917565 417), (917566, .int 917566 418), (917567, .int 917567 419), (917568, .int 917568 420), (917569, .int 917569 421), (917570, .int 917570 422), (917571, .int 917571 423), (917572, .int 917572 424), (917573, .int 917573 425), (917574, .int 917574 426), (917575, .int 917575 427), (917576, .int 917576 428), (917577, .int 917577 429), (917578, .int 917578 430), (917579, .int 917579 431), (917580, .int 917580 432), (917581, .int 917581 433), (917582, .int 917582 434), (917583, .int 917583 435), (917584, .int 917584 436), (917585, .int 917585 437), (917586, .int 917586 438), (917587, .int 917587 439), (917588, .int 917588 440), (917589, .int 917589 441), (917590, .int 917590 442), (917591, .int 917591 443), (917592, .int 917592 444), (917593, .int 917593 445), (917594, .int 917594 446), (917595, .int 917595 447), (917596, .int 917596 448), (917597, .int 917597 449), (917598, .int 917598 450), (917599, .int 917599 451), (917600, .int 917600 452), (917601, .int 917601 453), (917602, .int 917602 454), (917603, .int 917603 455), (917604, .int 917604 456)]⟩ 72 { mask := 127, place := ⟨[1, 32, 33, 34, 35, 36, 37, 38, 39, 40, 41, 42, 43, 44, 45, 46, 47, 48, 49, 50, 51, 52, 53, 54, 55, 56, 57, 58, 59, 60, 61, 62, 63, 64, 65, 66, 67, 68, 69, 70, 71, 72, 73, 74, 75, 76, 77, 78, 79, 80, 81, 82, 83, 84, 85, 86, 87, 88, 89, 90, 91, 92, 93, 94, 95, 96, 97, 98, 99, 100]⟩, dummies := ⟨[]⟩, finger := 0, led := b, moves := 2, plain := true }, ⟨[]⟩⟩
noncomputable def ob129 (b : Bool) (P : Params) : Obj := ⟨.type "list_iterator", none, .fields ⟨[.ref 88, .int 70 0]⟩, ⟨[]⟩⟩
noncomputable def tr34 (b : Bool) (P : Params) : BT := (.node (ob0 b P) (.node (ob1 b P) (.node (ob77 b P) (.node (ob7 b P) (.node (ob7 b P) (.node (ob29 b P) (.node (ob61 b P) .nil .nil) .nil) (.node (ob48 b P) (.node (ob80 b P) .nil .nil) .nil)) (.node (ob22 b P) (.node (ob7 b P) (.node (ob74 b P) .nil .nil) .nil) (.node (ob54 b P) (.node (ob99 b P) .nil .nil) .nil))) (.node (ob27 b P) (.node (ob18 b P) (.node (ob7 b P) (.node (ob65 b P) .nil .nil) .nil) (.node (ob7 b P) (.node (ob84 b P) .nil .nil) .nil)) (.node (ob26 b P) (.node (ob37 b P) (.node (ob7 b P) .nil .nil) .nil) (.node (ob58 b P) .nil .nil)))) (.node (ob5 b P) (.node (ob9 b P) (.node (ob16 b P) (.node (ob8 b P) (.node (ob63 b P) .nil .nil) .nil) (.node (ob7 b P) (.node (ob82 b P) .nil .nil) .nil)) (.node (ob24 b P) (.node (ob36 b P) (.node (ob7 b P) .nil .nil) .nil) (.node (ob56 b P) (.node (ob128 b P) .nil .nil) .nil))) (.node (ob13 b P) (.node (ob20 b P) (.node (ob34 b P) (.node (ob66 b P) .nil .nil) .nil) (.node (ob53 b P) (.node (ob98 b P) .nil .nil) .nil)) (.node (ob78 b P) (.node (ob39 b P) (.node (ob79 b P) .nil .nil) .nil) (.node (ob60 b P) .nil .nil))))) (.node (ob2 b P) (.node (ob4 b P) (.node (ob8 b P) (.node (ob15 b P) (.node (ob7 b P) (.node (ob62 b P) .nil .nil) .nil) (.node (ob49 b P) (.node (ob81 b P) .nil .nil) .nil)) (.node (ob23 b P) (.node (ob8 b P) (.node (ob75 b P) .nil .nil) .nil) (.node (ob55 b P) (.node (ob100 b P) .nil .nil) .nil))) (.node (ob12 b P) (.node (ob19 b P) (.node (ob33 b P) (.node (ob7 b P) .nil .nil) .nil) (.node (ob8 b P) (.node (ob97 b P) .nil .nil) .nil)) (.node (ob7 b P) (.node (ob38 b P) (.node (ob8 b P) .nil .nil) .nil) (.node (ob59 b P) .nil .nil)))) (.node (ob6 b P) (.node (ob10 b P) (.node (ob17 b P) (.node (ob32 b P) (.node (ob64 b P) .nil .nil) .nil) (.node (ob50 b P) (.node (ob83 b P) .nil .nil) .nil)) (.node (ob25 b P) (.node (ob7 b P) (.node (ob76 b P) .nil .nil) .nil) (.node (ob57 b P) (.node (ob129 b P) .nil .nil) .nil))) (.node (ob14 b P) (.node (ob21 b P) (.node (ob35 b P) (.node (ob67 b P) .nil .nil) .nil) (.node (ob7 b P) (.node (ob7 b P) .nil .nil) .nil)) (.node (ob28 b P) (.node (ob40 b P) (.node (ob7 b P) .nil .nil) .nil) (.node (ob7 b P) .nil .nil))))))
noncomputable def st34 (b : Bool) (w : World) (os : OsState) : SharedT := ⟨tr34 b w.params, 91, lf, ⟨[]⟩, dr, 554, os⟩
noncomputable def th5c20 (w : World) (os : OsState) : Thread := ⟨denote treeTable (.builtin "set.update.loop" ⟨[.ref 89, .ref 90], []⟩), (.builtin "set.update.loop" ⟨[.ref 89, .ref 90], []⟩), ⟨19, 9, 19, 52⟩, fam5c6 w os⟩
noncomputable def ob130 (b : Bool) (P : Params) : Obj := ⟨.type "set", none, .set ⟨[(917505, .int 917505 382), (917536, .int 917536 388), (917537, .int 917537 389), (917538, .int 917538 390), (917539, .int 917539 391), (917540, .int 917540 392), (917541, .int 917541 393), (917542, .int 917542 394), (917543, .int 917543 395), (917544, .int 917544 396), (917545, .int 917545 397), (917546, .int 917546 398), (917547, .int 917547 399), (917548, .int 917548 400), (917549, .int 917549 401), (917550, .int 917550 402), (917551, .int 917551 403), (917552, .int 917552 404), (917553, .int 917553 405), (917554, .int 917554 406), (917555, .int 917555 407), (917556, .int 917556 408), (917557, .int 917557 409), (917558, .int 917558 410), (917559, .int 917559 411), (917560, .int 917560 412), (917561, .int 917561 413), (917562, .int 917562 414), (917563, .int 917563 415), (917564, .int 917564 416), (917565, .int 917565 417), (917566, .int 917566 418), (917567, .int 917567 419), (917568, .int 917568 420), (917569, .int 917569 421), (917570, .int 917570 422), (917571, .int 917571 423), (917572, .int 917572 424), (917573, .int 917573 425), (917574, .int 917574 426), (917575, .int 917575 427), (917576, .int 917576 428), (917577, .int 917577 429), (917578, .int 917578 430), (917579, .int 917579 431), (917580, .int 917580 432), (917581, .int 917581 433), (917582, .int 917582 434), (917583, .int 917583 435), (917584, .int 917584 436), (917585, .int 917585 437), (917586, .int 917586 438), (917587, .int 917587 439), (917588, .int 917588 440), (917589, .int 917589 441), (917590, .int 917590 442), (917591, .int 917591 443), (917592, .int 917592 444), (917593, .int 917593 445), (917594, .int 917594 446), (917595, .int 917595 447), (917596, .int 917596 448), (917597, .int 917597 449), (917598, .int 917598 450), (917599, .int 917599 451), (917600, .int 917600 452), (917601, .int 917601 453), (917602, .int 917602 454), (917603, .int 917603 455), (917604, .int 917604 456), (917605, .int 917605 457), (917606, .int 917606 458), (917607, .int 917607 459), (917608, .int 917608 460), (917609, .int 917609 461)]⟩ 77 { mask := 127, place := ⟨[1, 32, 33, 34, 35, 36, 37, 38, 39, 40, 41, 42, 43, 44, 45, 46, 47, 48, 49, 50, 51, 52, 53, 54, 55, 56, 57, 58, 59, 60, 61, 62, 63, 64, 65, 66, 67, 68, 69, 70, 71, 72, 73, 74, 75, 76, 77, 78, 79, 80, 81, 82, 83, 84, 85, 86, 87, 88, 89, 90, 91, 92, 93, 94, 95, 96, 97, 98, 99, 100, 101, 102, 103, 104, 105]⟩, dummies := ⟨[]⟩, finger := 0, led := b, moves := 2, plain := true }, ⟨[]⟩⟩
noncomputable def ob131 (b : Bool) (P : Params) : Obj := ⟨.type "list_iterator", none, .fields ⟨[.ref 88, .int 75 0]⟩, ⟨[]⟩⟩
noncomputable def tr35 (b : Bool) (P : Params) : BT := (.node (ob0 b P) (.node (ob1 b P) (.node (ob77 b P) (.node (ob7 b P) (.node (ob7 b P) (.node (ob29 b P) (.node (ob61 b P) .nil .nil) .nil) (.node (ob48 b P) (.node (ob80 b P) .nil .nil) .nil)) (.node (ob22 b P) (.node (ob7 b P) (.node (ob74 b P) .nil .nil) .nil) (.node (ob54 b P) (.node (ob99 b P) .nil .nil) .nil))) (.node (ob27 b P) (.node (ob18 b P) (.node (ob7 b P) (.node (ob65 b P) .nil .nil) .nil) (.node (ob7 b P) (.node (ob84 b P) .nil .nil) .nil)) (.node (ob26 b P) (.node (ob37 b P) (.node (ob7 b P) .nil .nil) .nil) (.node (ob58 b P) .nil .nil)))) (.node (ob5 b P) (.node (ob9 b P) (.node (ob16 b P) (.node (ob8 b P) (.node (ob63 b P) .nil .nil) .nil) (.node (ob7 b P) (.node (ob82 b P) .nil .nil) .nil)) (.node (ob24 b P) (.node (ob36 b P) (.node (ob7 b P) .nil .nil) .nil) (.node (ob56 b P) (.node (ob130 b P) .nil .nil) .nil))) (.node (ob13 b P) (.node (ob20 b P) (.node (ob34 b P) (.node (ob66 b P) .nil .nil) .nil) (.node (ob53 b P) (.node (ob98 b P) .nil .nil) .nil)) (.node (ob78 b P) (.node (ob39 b P) (.node (ob79 b P) .nil .nil) .nil) (.node (ob60 b P) .nil .nil))))) (.node (ob2 b P) (.node (ob4 b P) (.node (ob8 b P) (.node (ob15 b P) (.node (ob7 b P) (.node (ob62 b P) .nil .nil) .nil) (.node (ob49 b P) (.node (ob81 b P) .nil .nil) .nil)) (.node (ob23 b P) (.node (ob8 b P) (.node (ob75 b P) .nil .nil) .nil) (.node (ob55 b P) (.node (ob100 b P) .nil .nil) .nil))) (.node (ob12 b P) (.node (ob19 b P) (.node (ob33 b P) (.node (ob7 b P) .nil .nil) .nil) (.node (ob8 b P) (.node (ob97 b P) .nil .nil) .nil)) (.node (ob7 b P) (.node (ob38 b P) (.node (ob8 b P) .nil .nil) .nil) (.node (ob59 b P) .nil .nil)))) (.node (ob6 b P) (.node (ob10 b P) (.node (ob17 b P) (.node (ob32 b P) (.node (ob64 b P) .nil .nil) .nil) (.node (ob50 b P) (.node (ob83 b P) .nil .nil) .nil)) (.node (ob25 b P) (.node (ob7 b P) (.node (ob76 b P) .nil .nil) .nil) (.node (ob57 b P) (.node (ob131 b P) .nil .nil) .nil))) (.node (ob14 b P) (.node (ob21 b P) (.node (ob35 b P) (.node (ob67 b P) .nil .nil) .nil) (.node (ob7 b P) (.node (ob7 b P) .nil .nil) .nil)) (.node (ob28 b P) (.node (ob40 b P) (.node (ob7 b P) .nil .nil) .nil) (.node (ob7 b P) .nil .nil))))))
noncomputable def st35 (b : Bool) (w : World) (os : OsState) : SharedT := ⟨tr35 b w.params, 91, lf, ⟨[]⟩, dr, 559, os⟩
noncomputable def th5c21 (w : World) (os : OsState) : Thread := ⟨denote treeTable (.builtin "set.update.loop" ⟨[.ref 89, .ref 90], []⟩), (.builtin "set.update.loop" ⟨[.ref 89, .ref 90], []⟩), ⟨19, 9, 19, 52⟩, fam5c6 w os⟩
noncomputable def ob132 (b : Bool) (P : Params) : Obj := ⟨.type "set", none, .set ⟨[(917505, .int 917505 382), (917536, .int 917536 388), (917537, .int 917537 389), (917538, .int 917538 390), (917539, .int 917539 391), (917540, .int 917540 392), (917541, .int 917541 393), (917542, .int 917542 394), (917543, .int 917543 395), (917544, .int 917544 396), (917545, .int 917545 397), (917546, .int 917546 398), (917547, .int 917547 399), (917548, .int 917548 400), (917549, .int 917549 401), (917550, .int 917550 402), (917551, .int 917551 403), (917552, .int 917552 404), (917553, .int 917553 405), (917554, .int 917554 406), (917555, .int 917555 407), (917556, .int 917556 408), (917557, .int 917557 409), (917558, .int 917558 410), (917559, .int 917559 411), (917560, .int 917560 412), (917561, .int 917561 413), (917562, .int 917562 414), (917563, .int 917563 415), (917564, .int 917564 416), (917565, .int 917565 417), (917566, .int 917566 418), (917567, .int 917567 419), (917568, .int 917568 420), (917569, .int 917569 421), (917570, .int 917570 422), (917571, .int 917571 423), (917572, .int 917572 424), (917573, .int 917573 425), (917574, .int 917574 426), (917575, .int 917575 427), (917576, .int 917576 428), (917577, .int 917577 429), (917578, .int 917578 430), (917579, .int 917579 431), (917580, .int 917580 432), (917581, .int 917581 433), (917582, .int 917582 434), (917583, .int 917583 435), (917584, .int 917584 436), (917585, .int 917585 437), (917586, .int 917586 438), (917587, .int 917587 439), (917588, .int 917588 440), (917589, .int 917589 441), (917590, .int 917590 442), (917591, .int 917591 443), (917592, .int 917592 444), (917593, .int 917593 445), (917594, .int 917594 446), (917595, .int 917595 447), (917596, .int 917596 448), (917597, .int 917597 449), (917598, .int 917598 450), (917599, .int 917599 451), (917600, .int 917600 452), (917601, .int 917601 453), (917602, .int 917602 454), (917603, .int 917603 455), (917604, .int 917604 456), (917605, .int 917605 457), (917606, .int 917606 458), (917607, .int 917607 459), (917608, .int 917608 460), (917609, .int 917609 461), (917610, .int 917610 462), (917611, .int 917611 463), (917612, .int 917612 464), (917613, .int 917613 465), (917614, .int 917614 466)]⟩ 83 { mask := 511, place := ⟨[1, 32, 33, 34, 35, 36, 37, 38, 39, 40, 41, 42, 43, 44, 45, 46, 47, 48, 49, 50, 51, 52, 53, 54, 55, 56, 57, 58, 59, 60, 61, 62, 63, 64, 65, 66, 67, 68, 69, 70, 71, 72, 73, 74, 75, 76, 77, 78, 79, 80, 81, 82, 83, 84, 85, 86, 87, 88, 89, 90, 91, 92, 93, 94, 95, 96, 97, 98, 99, 100, 101, 102, 103, 104, 105, 106, 107, 108, 109, 110]⟩, dummies := ⟨[]⟩, finger := 0, led := b, moves := 3, plain := true }, ⟨[]⟩⟩
noncomputable def ob133 (b : Bool) (P : Params) : Obj := ⟨.type "list_iterator", none, .fields ⟨[.ref 88, .int 80 0]⟩, ⟨[]⟩⟩
noncomputable def tr36 (b : Bool) (P : Params) : BT := (.node (ob0 b P) (.node (ob1 b P) (.node (ob77 b P) (.node (ob7 b P) (.node (ob7 b P) (.node (ob29 b P) (.node (ob61 b P) .nil .nil) .nil) (.node (ob48 b P) (.node (ob80 b P) .nil .nil) .nil)) (.node (ob22 b P) (.node (ob7 b P) (.node (ob74 b P) .nil .nil) .nil) (.node (ob54 b P) (.node (ob99 b P) .nil .nil) .nil))) (.node (ob27 b P) (.node (ob18 b P) (.node (ob7 b P) (.node (ob65 b P) .nil .nil) .nil) (.node (ob7 b P) (.node (ob84 b P) .nil .nil) .nil)) (.node (ob26 b P) (.node (ob37 b P) (.node (ob7 b P) .nil .nil) .nil) (.node (ob58 b P) .nil .nil)))) (.node (ob5 b P) (.node (ob9 b P) (.node (ob16 b P) (.node (ob8 b P) (.node (ob63 b P) .nil .nil) .nil) (.node (ob7 b P) (.node (ob82 b P) .nil .nil) .nil)) (.node (ob24 b P) (.node (ob36 b P) (.node (ob7 b P) .nil .nil) .nil) (.node (ob56 b P) (.node (ob132 b P) .nil .nil) .nil))) (.node (ob13 b P) (.node (ob20 b P) (.node (ob34 b P) (.node (ob66 b P) .nil .nil) .nil) (.node (ob53 b P) (.node (ob98 b P) .nil .nil) .nil)) (.node (ob78 b P) (.node (ob39 b P) (.node (ob79 b P) .nil .nil) .nil) (.node (ob60 b P) .nil .nil))))) (.node (ob2 b P) (.node (ob4 b P) (.node (ob8 b P) (.node (ob15 b P) (.node (ob7 b P) (.node (ob62 b P) .nil .nil) .nil) (.node (ob49 b P) (.node (ob81 b P) .nil .nil) .nil)) (.node (ob23 b P) (.node (ob8 b P) (.node (ob75 b P) .nil .nil) .nil) (.node (ob55 b P) (.node (ob100 b P) .nil .nil) .nil))) (.node (ob12 b P) (.node (ob19 b P) (.node (ob33 b P) (.node (ob7 b P) .nil .nil) .nil) (.node (ob8 b P) (.node (ob97 b P) .nil .nil) .nil)) (.node (ob7 b P) (.node (ob38 b P) (.node (ob8 b P) .nil .nil) .nil) (.node (ob59 b P) .nil .nil)))) (.node (ob6 b P) (.node (ob10 b P) (.node (ob17 b P) (.node (ob32 b P) (.node (ob64 b P) .nil .nil) .nil) (.node (ob50 b P) (.node (ob83 b P) .nil .nil) .nil)) (.node (ob25 b P) (.node (ob7 b P) (.node (ob76 b P) .nil .nil) .nil) (.node (ob57 b P) (.node (ob133 b P) .nil .nil) .nil))) (.node (ob14 b P) (.node (ob21 b P) (.node (ob35 b P) (.node (ob67 b P) .nil .nil) .nil) (.node (ob7 b P) (.node (ob7 b P) .nil .nil) .nil)) (.node (ob28 b P) (.node (ob40 b P) (.node (ob7 b P) .nil .nil) .nil) (.node (ob7 b P) .nil .nil))))))
noncomputable def st36 (b : Bool) (w : World) (os : OsState) : SharedT := ⟨tr36 b w.params, 91, lf, ⟨[]⟩, dr, 564, os⟩
noncomputable def th5c22 (w : World) (os : OsState) : Thread := ⟨denote treeTable (.builtin "set.update.loop" ⟨[.ref 89, .ref 90], []⟩), (.builtin "set.update.loop" ⟨[.ref 89, .ref 90], []⟩), ⟨19, 9, 19, 52⟩, fam5c6 w os⟩
noncomputable def ob134 (b : Bool) (P : Params) : Obj := ⟨.type "set", none, .set ⟨[(917505, .int 917505 382), (917536, .int 917536 388), (917537, .int 917537 389), (917538, .int 917538 390), (917539, .int 917539 391), (917540, .int 917540 392), (917541, .int 917541 393), (917542, .int 917542 394), (917543, .int 917543 395), (917544, .int 917544 396), (917545, .int 917545 397), (917546, .int 917546 398), (917547, .int 917547 399), (917548, .int 917548 400), (917549, .int 917549 401), (917550, .int 917550 402), (917551, .int 917551 403), (917552, .int 917552 404), (917553, .int 917553 405), (917554, .int 917554 406), (917555, .int 917555 407), (917556, .int 917556 408), (917557, .int 917557 409), (917558, .int 917558 410), (917559, .int 917559 411), (917560, .int 917560 412), (917561, .int 917561 413), (917562, .int 917562 414), (917563, .int 917563 415), (917564, .int 917564 416), (917565, .int 917565 417), (917566, .int 917566 418), (917567, .int 917567 419), (917568, .int 917568 420), (917569, .int 917569 421), (917570, .int 917570 422), (917571, .int 917571 423), (917572, .int 917572 424), (917573, .int 917573 425), (917574, .int 917574 426), (917575, .int 917575 427), (917576, .int 917576 428), (917577, .int 917577 429), (917578, .int 917578 430), (917579, .int 917579 431), (917580, .int 917580 432), (917581, .int 917581 433), (917582, .int 917582 434), (917583, .int 917583 435), (917584, .int 917584 436), (917585, .int 917585 437), (917586, .int 917586 438), (917587, .int 917587 439), (917588, .int 917588 440), (917589, .int 917589 441), (917590, .int 917590 442), (917591, .int 917591 443), (917592, .int 917592 444), (917593, .int 917593 445), (917594, .int 917594 446), (917595, .int 917595 447), (917596, .int 917596 448), (917597, .int 917597 449), (917598, .int 917598 450), (917599, .int 917599 451), (917600, .int 917600 452), (917601, .int 917601 453), (917602, .int 917602 454), (917603, .int 917603 455), (917604, .int 917604 456), (917605, .int 917605 457), (917606, .int 917606 458), (917607, .int 917607 459), (917608, .int 917608 460), (917609, .int 917609 461), (917610, .int 917610 462), (917611, .int 917611 463), (917612, .int 917612 464), (917613, .int 917613 465), (917614, .int 917614 466), (917615, .int 917615 467), (917616, .int 917616 468), (917617, .int 917617 469), (917618, .int 917618 470), (917619, .int 917619 471)]⟩ 88 { mask := 511, place := ⟨[1, 32, 33, 34, 35, 36, 37, 38, 39, 40, 41, 42, 43, 44, 45, 46, 47, 48, 49, 50, 51, 52, 53, 54, 55, 56, 57, 58, 59, 60, 61, 62, 63, 64, 65, 66, 67, 68, 69, 70, 71, 72, 73, 74, 75, 76, 77, 78, 79, 80, 81, 82, 83, 84, 85, 86, 87, 88, 89, 90, 91, 92, 93, 94, 95, 96, 97, 98, 99, 100, 101, 102, 103, 104, 105, 106, 107, 108, 109, 110, 111, 112, 113, 114, 115]⟩, dummies := ⟨[]⟩, finger := 0, led := b, moves := 3, plain := true }, ⟨[]⟩⟩
noncomputable def ob135 (b : Bool) (P : Params) : Obj := ⟨.type "list_iterator", none, .fields ⟨[.ref 88, .int 85 0]⟩, ⟨[]⟩⟩
noncomputable def tr37 (b : Bool) (P : Params) : BT := (.node (ob0 b P) (.node (ob1 b P) (.node (ob77 b P) (.node (ob7 b P) (.node (ob7 b P) (.node (ob29 b P) (.node (ob61 b P) .nil .nil) .nil) (.node (ob48 b P) (.node (ob80 b P) .nil .nil) .nil)) (.node (ob22 b P) (.node (ob7 b P) (.node (ob74 b P) .nil .nil) .nil) (.node (ob54 b P) (.node (ob99 b P) .nil .nil) .nil))) (.node (ob27 b P) (.node (ob18 b P) (.node (ob7 b P) (.node (ob65 b P) .nil .nil) .nil) (.node (ob7 b P) (.node (ob84 b P) .nil .nil) .nil)) (.node (ob26 b P) (.node (ob37 b P) (.node (ob7 b P) .nil .nil) .nil) (.node (ob58 b P) .nil .nil)))) (.node (ob5 b P) (.node (ob9 b P) (.node (ob16 b P) (.node (ob8 b P) (.node (ob63 b P) .nil .nil) .nil) (.node (ob7 b P) (.node (ob82 b P) .nil .nil) .nil)) (.node (ob24 b P) (.node (ob36 b P) (.node (ob7 b P) .nil .nil) .nil) (.node (ob56 b P) (.node (ob134 b P) .nil .nil) .nil))) (.node (ob13 b P) (.node (ob20 b P) (.node (ob34 b P) (.node (ob66 b P) .nil .nil) .nil) (.node (ob53 b P) (.node (ob98 b P) .nil .nil) .nil)) (.node (ob78 b P) (.node (ob39 b P) (.node (ob79 b P) .nil .nil) .nil) (.node (ob60 b P) .nil .nil))))) (.node (ob2 b P) (.node (ob4 b P) (.node (ob8 b P) (.node (ob15 b P) (.node (ob7 b P) (.node (ob62 b P) .nil .nil) .nil) (.node (ob49 b P) (.node (ob81 b P) .nil .nil) .nil)) (.node (ob23 b P) (.node (ob8 b P) (.node (ob75 b P) .nil .nil) .nil) (.node (ob55 b P) (.node (ob100 b P) .nil .nil) .nil))) (.node (ob12 b P) (.node (ob19 b P) (.node (ob33 b P) (.node (ob7 b P) .nil .nil) .nil) (.node (ob8 b P) (.node (ob97 b P) .nil .nil) .nil)) (.node (ob7 b P) (.node (ob38 b P) (.node (ob8 b P) .nil .nil) .nil) (.node (ob59 b P) .nil .nil)))) (.node (ob6 b P) (.node (ob10 b P) (.node (ob17 b P) (.node (ob32 b P) (.node (ob64 b P) .nil .nil) .nil) (.node (ob50 b P) (.node (ob83 b P) .nil .nil) .nil)) (.node (ob25 b P) (.node (ob7 b P) (.node (ob76 b P) .nil .nil) .nil) (.node (ob57 b P) (.node (ob135 b P) .nil .nil) .nil))) (.node (ob14 b P) (.node (ob21 b P) (.node (ob35 b P) (.node (ob67 b P) .nil .nil) .nil) (.node (ob7 b P) (.node (ob7 b P) .nil .nil) .nil)) (.node (ob28 b P) (.node (ob40 b P) (.node (ob7 b P) .nil .nil) .nil) (.node (ob7 b P) .nil .nil))))))
noncomputable def st37 (b : Bool) (w : World) (os : OsState) : SharedT := ⟨tr37 b w.params, 91, lf, ⟨[]⟩, dr, 569, os⟩
noncomputable def th5c23 (w : World) (os : OsState) : Thread := ⟨denote treeTable (.builtin "set.update.loop" ⟨[.ref 89, .ref 90], []⟩), (.builtin "set.update.loop" ⟨[.ref 89, .ref 90], []⟩), ⟨19, 9, 19, 52⟩, fam5c6 w os⟩
noncomputable def ob136 (b : Bool) (P : Params) : Obj := ⟨.type "set", none, .set ⟨[(917505, .int 917505 382), (917536, .int 917536 388), (917537, .int 917537 389), (917538, .int 917538 390), (917539, .int 917539 391), (917540, .int 917540 392), (917541, .int 917541 393), (917542, .int 917542 394), (917543, .int 917543 395), (917544, .int 917544 396), (917545, .int 917545 397), (917546, .int 917546 398), (917547, .int 917547 399), (917548, .int 917548 400), (917549, .int 917549 401), (917550, .int 917550 402), (917551, .int 917551 403), (917552, .int 917552 404), (917553, .int 917553 405), (917554, .int 917554 406), (917555, .int 917555 407), (917556, .int 917556 408), (917557, .int 917557 409), (917558, .int 917558 410), (917559, .int 917559 411), (917560, .int 917560 412), (917561, .int 917561 413), (917562, .int 917562 414), (917563, .int 917563 415), (917564, .int 917564 416), (917565, .int 917565 417), (917566, .int 917566 418), (917567, .int 917567 419), (917568, .int 917568 420), (917569, .int 917569 421), (917570, .int 917570 422), (917571, .int 917571 423), (917572, .int 917572 424), (917573, .int 917573 425), (917574, .int 917574 426), (917575, .int 917575 427), (917576, .int 917576 428), (917577, .int 917577 429), (917578, .int 917578 430), (917579, .int 917579 431), (917580, .int 917580 432), (917581, .int 917581 433), (917582, .int 917582 434), (917583, .int 917583 435), (917584, .int 917584 436), (917585, .int 917585 437), (917586, .int 917586 438), (917587, .int 917587 439), (917588, .int 917588 440), (917589, .int 917589 441), (917590, .int 917590 442), (917591, .int 917591 443), (917592, .int 917592 444), (917593, .int 917593 445), (917594, .int 917594 446), (917595, .int 917595 447), (917596, .int 917596 448), (917597, .int 917597 449), (917598, .int 917598 450), (917599, .int 917599 451), (917600, .int 917600 452), (917601, .int 917601 453), (917602, .int 917602 454), (917603, .int 917603 455), (917604, .int 917604 456), (917605, .int 917605 457), (917606, .int 917606 458), (917607, .int 917607 459), (917608, .int 917608 460), (917609, .int 917609 461), (917610, .int 917610 462), (917611, .int 917611 463), (917612, .int 917612 464), (917613, .int 917613 465), (917614, .int 917614 466), (917615, .int 917615 467), (917616, .int 917616 468), (917617, .int 917617 469), (917618, .int 917618 470), (917619, .int 917619 471), (917620, .int 917620 472), (917621, .int 917621 473), (917622, .int 917622 474), (917623, .int 917623 475), (917624, .int 917624 476)]⟩ 93 { mask := 511, place := ⟨[1, 32, 33, 34, 35, 36, 37, 38, 39, 40, 41, 42, 43, 44, 45, 46, 47, 48, 49, 50, 51, 52, 53, 54, 55, 56, 57, 58, 59, 60, 61, 62, 63, 64, 65, 66, 67, 68, 69, 70, 71, 72, 73, 74, 75, 76, 77, 78, 79, 80, 81, 82, 83, 84, 85, 86, 87, 88, 89, 90, 91, 92, 93, 94, 95, 96, 97, 98, 99, 100, 101, 102, 103, 104, 105, 106, 107, 108, 109, 110, 111, 112, 113, 114, 115, 116, 117, 118, 119, 120]⟩, dummies := ⟨[]⟩, finger := 0, led := b, moves := 3, plain := true }, ⟨[]⟩⟩
noncomputable def ob137 (b : Bool) (P : Params) : Obj := ⟨.type "list_iterator", none, .fields ⟨[.ref 88, .int 90 0]⟩, ⟨[]⟩⟩
noncomputable def tr38 (b : Bool) (P : Params) : BT := (.node (ob0 b P) (.node (ob1 b P) (.node (ob77 b P) (.node (ob7 b P) (.node (ob7 b P) (.node (ob29 b P) (.node (ob61 b P) .nil .nil) .nil) (.node (ob48 b P) (.node (ob80 b P) .nil .nil) .nil)) (.node (ob22 b P) (.node (ob7 b P) (.node (ob74 b P) .nil .nil) .nil) (.node (ob54 b P) (.node (ob99 b P) .nil .nil) .nil))) (.node (ob27 b P) (.node (ob18 b P) (.node (ob7 b P) (.node (ob65 b P) .nil .nil) .nil) (.node (ob7 b P) (.node (ob84 b P) .nil .nil) .nil)) (.node (ob26 b P) (.node (ob37 b P) (.node (ob7 b P) .nil .nil) .nil) (.node (ob58 b P) .nil .nil)))) (.node (ob5 b P) (.node (ob9 b P) (.node (ob16 b P) (.node (ob8 b P) (.node (ob63 b P) .nil .nil) .nil) (.node (ob7 b P) (.node (ob82 b P) .nil .nil) .nil)) (.node (ob24 b P) (.node (ob36 b P) (.node (ob7 b P) .nil .nil) .nil) (.node (ob56 b P) (.node (ob136 b P) .nil .nil) .nil))) (.node (ob13 b P) (.node (ob20 b P) (.node (ob34 b P) (.node (ob66 b P) .nil .nil) .nil) (.node (ob53 b P) (.node (ob98 b P) .nil .nil) .nil)) (.node (ob78 b P) (.node (ob39 b P) (.node (ob79 b P) .nil .nil) .nil) (.node (ob60 b P) .nil .nil))))) (.node (ob2 b P) (.node (ob4 b P) (.node (ob8 b P) (.node (ob15 b P) (.node (ob7 b P) (.node (ob62 b P) .nil .nil) .nil) (.node (ob49 b P) (.node (ob81 b P) .nil .nil) .nil)) (.node (ob23 b P) (.node (ob8 b P) (.node (ob75 b P) .nil .nil) .nil) (.node (ob55 b P) (.node (ob100 b P) .nil .nil) .nil))) (.node (ob12 b P) (.node (ob19 b P) (.node (ob33 b P) (.node (ob7 b P) .nil .nil) .nil) (.node (ob8 b P) (.node (ob97 b P) .nil .nil) .nil)) (.node (ob7 b P) (.node (ob38 b P) (.node (ob8 b P) .nil .nil) .nil) (.node (ob59 b P) .nil .nil)))) (.node (ob6 b P) (.node (ob10 b P) (.node (ob17 b P) (.node (ob32 b P) (.node (ob64 b P) .nil .nil) .nil) (.node (ob50 b P) (.node (ob83 b P) .nil .nil) .nil)) (.node (ob25 b P) (.node (ob7 b P) (.node (ob76 b P) .nil .nil) .nil) (.node (ob57 b P) (.node (ob137 b P) .nil .nil) .nil))) (.node (ob14 b P) (.node (ob21 b P) (.node (ob35 b P) (.node (ob67 b P) .nil .nil) .nil) (.node (ob7 b P) (.node (ob7 b P) .nil .nil) .nil)) (.node (ob28 b P) (.node (ob40 b P) (.node (ob7 b P) .nil .nil) .nil) (.node (ob7 b P) .nil .nil))))))
noncomputable def st38 (b : Bool) (w : World) (os : OsState) : SharedT := ⟨tr38 b w.params, 91, lf, ⟨[]⟩, dr, 574, os⟩
noncomputable def th5c24 (w : World) (os : OsState) : Thread := ⟨denote treeTable (.builtin "set.update.loop" ⟨[.ref 89, .ref 90], []⟩), (.builtin "set.update.loop" ⟨[.ref 89, .ref 90], []⟩), ⟨19, 9, 19, 52⟩, fam5c6 w os⟩
noncomputable def ob138 (b : Bool) (P : Params) : Obj := ⟨.type "set", none, .set ⟨[(917505, .int 917505 382), (917536, .int 917536 388), (917537, .int 917537 389), (917538, .int 917538 390), (917539, .int 917539 391), (917540, .int 917540 392), (917541, .int 917541 393), (917542, .int 917542 394), (917543, .int 917543 395), (917544, .int 917544 396), (917545, .int 917545 397), (917546, .int 917546 398), (917547, .int 917547 399), (917548, .int 917548 400), (917549, .int 917549 401), (917550, .int 917550 402), (917551, .int 917551 403), (917552, .int 917552 404), (917553, .int 917553 405), (917554, .int 917554 406), (917555, .int 917555 407), (917556, .int 917556 408), (917557, .int 917557 409), (917558, .int 917558 410), (917559, .int 917559 411), (917560, .int 917560 412), (917561, .int 917561 413), (917562, .int 917562 414), (917563, .int 917563 415), (917564, .int 917564 416), (917565, .int 917565 417), (917566, .int 917566 418), (917567, .int 917567 419), (917568, .int 917568 420), (917569, .int 917569 421), (917570, .int 917570 422), (917571, .int 917571 423), (917572, .int 917572 424), (917573, .int 917573 425), (917574, .int 917574 426), (917575, .int 917575 427), (917576, .int 917576 428), (917577, .int 917577 429), (917578, .int 917578 430), (917579, .int 917579 431), (917580, .int 917580 432), (917581, .int 917581 433), (917582, .int 917582 434), (917583, .int 917583 435), (917584, .int 917584 436), (917585, .int 917585 437), (917586, .int 917586 438), (917587, .int 917587 439), (917588, .int 917588 440), (917589, .int 917589 441), (917590, .int 917590 442), (917591, .int 917591 443), (917592, .int 917592 444), (917593, .int 917593 445), (917594, .int 917594 446), (917595, .int 917595 447), (917596, .int 917596 448), (917597, .int 917597 449), (917598, .int 917598 450), (917599, .int 917599 451), (917600, .int 917600 452), (917601, .int 917601 453), (917602, .int 917602 454), (917603, .int 917603 455), (917604, .int 917604 456), (917605, .int 917605 457), (917606, .int 917606 458), (917607, .int 917607 459), (917608, .int 917608 460), (917609, .int 917609 461), (917610, .int 917610 462), (917611, .int 917611 463), (917612, .int 917612 464), (917613, .int 917613 465), (917614, .int 917614 466), (917615, .int 917615 467), (917616, .int 917616 468), (917617, .int 917617 469), (917618, .int 917618 470), (917619, .int 917619 471), (917620, .int 917620 472), (917621, .int 917621 473), (917622, .int 917622 474), (917623, .int 917623 475), (917624, .int 917624 476), (917625, .int 917625 477), (917626, .int 917626 478), (917627, .int 917627 479), (917628, .int 917628 480), (917629, .int 917629 481)]⟩ 98 { mask := 511, place := ⟨[1, 32, 33, 34, 35, 36, 37, 38, 39, 40, 41, 42, 43, 44, 45, 46, 47, 48, 49, 50, 51, 52, 53, 54, 55, 56, 57, 58, 59, 60, 61, 62, 63, 64, 65, 66, 67, 68, 69, 70, 71, 72, 73, 74, 75, 76, 77, 78, 79, 80, 81, 82, 83, 84, 85, 86, 87, 88, 89, 90, 91, 92, 93, 94, 95, 96, 97, 98, 99, 100, 101, 102, 103, 104, 105, 106, 107, 108, 109, 110, 111, 112, 113, 114, 115, 116, 117, 118, 119, 120, 121, 122, 123, 124, 125]⟩, dummies := ⟨[]⟩, finger := 0, led := b, moves := 3, plain := true }, ⟨[]⟩⟩
noncomputable def ob139 (b : Bool) (P : Params) : Obj := ⟨.type "list_iterator", none, .fields ⟨[.ref 88, .int 95 0]⟩, ⟨[]⟩⟩
noncomputable def tr39 (b : Bool) (P : Params) : BT := (.node (ob0 b P) (.node (ob1 b P) (.node (ob77 b P) (.node (ob7 b P) (.node (ob7 b P) (.node (ob29 b P) (.node (ob61 b P) .nil .nil) .nil) (.node (ob48 b P) (.node (ob80 b P) .nil .nil) .nil)) (.node (ob22 b P) (.node (ob7 b P) (.node (ob74 b P) .nil .nil) .nil) (.node (ob54 b P) (.node (ob99 b P) .nil .nil) .nil))) (.node (ob27 b P) (.node (ob18 b P) (.node (ob7 b P) (.node (ob65 b P) .nil .nil) .nil) (.node (ob7 b P) (.node (ob84 b P) .nil .nil) .nil)) (.node (ob26 b P) (.node (ob37 b P) (.node (ob7 b P) .nil .nil) .nil) (.node (ob58 b P) .nil .nil)))) (.node (ob5 b P) (.node (ob9 b P) (.node (ob16 b P) (.node (ob8 b P) (.node (ob63 b P) .nil .nil) .nil) (.node (ob7 b P) (.node (ob82 b P) .nil .nil) .nil)) (.node (ob24 b P) (.node (ob36 b P) (.node (ob7 b P) .nil .nil) .nil) (.node (ob56 b P) (.node (ob138 b P) .nil .nil) .nil))) (.node (ob13 b P) (.node (ob20 b P) (.node (ob34 b P) (.node (ob66 b P) .nil .nil) .nil) (.node (ob53 b P) (.node (ob98 b P) .nil .nil) .nil)) (.node (ob78 b P) (.node (ob39 b P) (.node (ob79 b P) .nil .nil) .nil) (.node (ob60 b P) .nil .nil))))) (.node (ob2 b P) (.node (ob4 b P) (.node (ob8 b P) (.node (ob15 b P) (.node (ob7 b P) (.node (ob62 b P) .nil .nil) .nil) (.node (ob49 b P) (.node (ob81 b P) .nil .nil) .nil)) (.node (ob23 b P) (.node (ob8 b P) (.node (ob75 b P) .nil .nil) .nil) (.node (ob55 b P) (.node (ob100 b P) .nil .nil) .nil))) (.node (ob12 b P) (.node (ob19 b P) (.node (ob33 b P) (.node (ob7 b P) .nil .nil) .nil) (.node (ob8 b P) (.node (ob97 b P) .nil .nil) .nil)) (.node (ob7 b P) (.node (ob38 b P) (.node (ob8 b P) .nil .nil) .nil) (.node (ob59 b P) .nil .nil)))) (.node (ob6 b P) (.node (ob10 b P) (.node (ob17 b P) (.node (ob32 b P) (.node (ob64 b P) .nil .nil) .nil) (.node (ob50 b P) (.node (ob83 b P) .nil .nil) .nil)) (.node (ob25 b P) (.node (ob7 b P) (.node (ob76 b P) .nil .nil) .nil) (.node (ob57 b P) (.node (ob139 b P) .nil .nil) .nil))) (.node (ob14 b P) (.node (ob21 b P) (.node (ob35 b P) (.node (ob67 b P) .nil .nil) .nil) (.node (ob7 b P) (.node (ob7 b P) .nil .nil) .nil)) (.node (ob28 b P) (.node (ob40 b P) (.node (ob7 b P) .nil .nil) .nil) (.node (ob7 b P) .nil .nil))))))
noncomputable def st39 (b : Bool) (w : World) (os : OsState) : SharedT := ⟨tr39 b w.params, 91, lf, ⟨[]⟩, dr, 579, os⟩
noncomputable def th5c25 (w : World) (os : OsState) : Thread := ⟨denote treeTable (.builtin "set.update.loop" ⟨[.ref 89, .ref 90], []⟩), (.builtin "set.update.loop" ⟨[.ref 89, .ref 90], []⟩), ⟨19, 9, 19, 52⟩, fam5c6 w os⟩
noncomputable def ob140 (b : Bool) (P : Params) : Obj := ⟨.type "dict", none, .dict ⟨[en P ⟨⟨[95, 95, 110, 97, 109, 101, 95, 95]⟩⟩ 165 (.str ⟨⟨[99, 112, 121, 51, 49, 51, 46, 115, 116, 114, 105, 110, 103, 112, 114, 101, 112]⟩⟩ 289), en P ⟨⟨[95, 95, 100, 111, 99, 95, 95]⟩⟩ 166 (.none), en P ⟨⟨[95, 95, 112, 97, 99, 107, 97, 103, 101, 95, 95]⟩⟩ 167 (.none), en P ⟨⟨[95, 95, 108, 111, 97, 100, 101, 114, 95, 95]⟩⟩ 168 (.builtin "__main__.__loader__#opaque"), en P ⟨⟨[95, 95, 115, 112, 101, 99, 95, 95]⟩⟩ 169 (.none), en P ⟨⟨[95, 95, 97, 110, 110, 111, 116, 97, 116, 105, 111, 110, 115, 95, 95]⟩⟩ 170 (.ref 6), en P ⟨⟨[95, 95, 98, 117, 105, 108, 116, 105, 110, 115, 95, 95]⟩⟩ 171 (.ref 4), en P ⟨⟨[95, 95, 102, 105, 108, 101, 95, 95]⟩⟩ 173 (.str ⟨⟨[47, 99, 108, 97, 105, 109, 47, 99, 117, 116, 46, 112, 121]⟩⟩ 172), en P ⟨⟨[95, 95, 99, 97, 99, 104, 101, 100, 95, 95]⟩⟩ 174 (.none), en P ⟨⟨[95, 115, 114, 101]⟩⟩ 275 (.ref 12), en P ⟨⟨[95, 119, 97, 108, 108]⟩⟩ 288 (.ref 38), en P ⟨⟨[105, 110, 95, 116, 97, 98, 108, 101, 95, 99, 52]⟩⟩ 298 (.ref 45), en P ⟨⟨[99, 55, 95, 115, 101, 116]⟩⟩ 326 (.ref 47), en P ⟨⟨[105, 110, 95, 116, 97, 98, 108, 101, 95, 99, 55]⟩⟩ 333 (.ref 57), en P ⟨⟨[99, 56, 95, 115, 101, 116]⟩⟩ 374 (.ref 71), en P ⟨⟨[105, 110, 95, 116, 97, 98, 108, 101, 95, 99, 56]⟩⟩ 381 (.ref 81), en P ⟨⟨[99, 57, 95, 115, 101, 116]⟩⟩ 581 (.ref 89)]⟩ 17, ⟨[]⟩⟩
noncomputable def ob141 (b : Bool) (P : Params) : Obj := ⟨.type "set", none, .set ⟨[(917505, .int 917505 382), (917536, .int 917536 388), (917537, .int 917537 389), (917538, .int 917538 390), (917539, .int 917539 391), (917540, .int 917540 392), (917541, .int 917541 393), (917542, .int 917542 394), (917543, .int 917543 395), (917544, .int 917544 396), (917545, .int 917545 397), (917546, .int 917546 398), (917547, .int 917547 399), (917548, .int 917548 400), (917549, .int 917549 401), (917550, .int 917550 402), (917551, .int 917551 403), (917552, .int 917552 404), (917553, .int 917553 405), (917554, .int 917554 406), (917555, .int 917555 407), (917556, .int 917556 408), (917557, .int 917557 409), (917558, .int 917558 410), (917559, .int 917559 411), (917560, .int 917560 412), (917561, .int 917561 413), (917562, .int 917562 414), (917563, .int 917563 415), (917564, .int 917564 416), (917565, .int 917565 417), (917566, .int 917566 418), (917567, .int 917567 419), (917568, .int 917568 420), (917569, .int 917569 421), (917570, .int 917570 422), (917571, .int 917571 423), (917572, .int 917572 424), (917573, .int 917573 425), (917574, .int 917574 426), (917575, .int 917575 427), (917576, .int 917576 428), (917577, .int 917577 429), (917578, .int 917578 430), (917579, .int 917579 431), (917580, .int 917580 432), (917581, .int 917581 433), (917582, .int 917582 434), (917583, .int 917583 435), (917584, .int 917584 436), (917585, .int 917585 437), (917586, .int 917586 438), (917587, .int 917587 439), (917588, .int 917588 440), (917589, .int 917589 441), (917590, .int 917590 442), (917591, .int 917591 443), (917592, .int 917592 444), (917593, .int 917593 445), (917594, .int 917594 446), (917595, .int 917595 447), (917596, .int 917596 448), (917597, .int 917597 449), (917598, .int 917598 450), (917599, .int 917599 451), (917600, .int 917600 452), (917601, .int 917601 453), (917602, .int 917602 454), (917603, .int 917603 455), (917604, .int 917604 456), (917605, .int 917605 457), (917606, .int 917606 458), (917607, .int 917607 459), (917608, .int 917608 460), (917609, .int 917609 461), (917610, .int 917610 462), (917611, .int 917611 463), (917612, .int 917612 464), (917613, .int 917613 465), (917614, .int 917614 466), (917615, .int 917615 467), (917616, .int 917616 468), (917617, .int 917617 469), (917618, .int 917618 470), (917619, .int 917619 471), (917620, .int 917620 472), (917621, .int 917621 473), (917622, .int 917622 474), (917623, .int 917623 475), (917624, .int 917624 476), (917625, .int 917625 477), (917626, .int 917626 478), (917627, .int 917627 479), (917628, .int 917628 480), (917629, .int 917629 481), (917630, .int 917630 482), (917631, .int 917631 483)]⟩ 100 { mask := 511, place := ⟨[1, 32, 33, 34, 35, 36, 37, 38, 39, 40, 41, 42, 43, 44, 45, 46, 47, 48, 49, 50, 51, 52, 53, 54, 55, 56, 57, 58, 59, 60, 61, 62, 63, 64, 65, 66, 67, 68, 69, 70, 71, 72, 73, 74, 75, 76, 77, 78, 79, 80, 81, 82, 83, 84, 85, 86, 87, 88, 89, 90, 91, 92, 93, 94, 95, 96, 97, 98, 99, 100, 101, 102, 103, 104, 105, 106, 107, 108, 109, 110, 111, 112, 113, 114, 115, 116, 117, 118, 119, 120, 121, 122, 123, 124, 125, 126, 127]⟩, dummies := ⟨[]⟩, finger := 0, led := b, moves := 3, plain := true }, ⟨[]⟩⟩
noncomputable def ob142 (b : Bool) (P : Params) : Obj := ⟨.type "list_iterator", none, .fields ⟨[.none, .int 97 0]⟩, ⟨[]⟩⟩
noncomputable def ob143 (b : Bool) (P : Params) : Obj := ⟨.type "StopIteration", none, .fields ⟨[.ref 91, .none, .none, .none, .bool false, .none]⟩, ⟨[]⟩⟩
noncomputable def tr40 (b : Bool) (P : Params) : BT := (.node (ob0 b P) (.node (ob1 b P) (.node (ob140 b P) (.node (ob7 b P) (.node (ob7 b P) (.node (ob29 b P) (.node (ob61 b P) .nil .nil) .nil) (.node (ob48 b P) (.node (ob80 b P) .nil .nil) .nil)) (.node (ob22 b P) (.node (ob7 b P) (.node (ob74 b P) .nil .nil) .nil) (.node (ob54 b P) (.node (ob99 b P) .nil .nil) .nil))) (.node (ob27 b P) (.node (ob18 b P) (.node (ob7 b P) (.node (ob65 b P) .nil .nil) .nil) (.node (ob7 b P) (.node (ob84 b P) .nil .nil) .nil)) (.node (ob26 b P) (.node (ob37 b P) (.node (ob7 b P) .nil .nil) .nil) (.node (ob58 b P) (.node (ob7 b P) .nil .nil) .nil)))) (.node (ob5 b P) (.node (ob9 b P) (.node (ob16 b P) (.node (ob8 b P) (.node (ob63 b P) .nil .nil) .nil) (.node (ob7 b P) (.node (ob82 b P) .nil .nil) .nil)) (.node (ob24 b P) (.node (ob36 b P) (.node (ob7 b P) .nil .nil) .nil) (.node (ob56 b P) (.node (ob141 b P) .nil .nil) .nil))) (.node (ob13 b P) (.node (ob20 b P) (.node (ob34 b P) (.node (ob66 b P) .nil .nil) .nil) (.node (ob53 b P) (.node (ob98 b P) .nil .nil) .nil)) (.node (ob78 b P) (.node (ob39 b P) (.node (ob79 b P) .nil .nil) .nil) (.node (ob60 b P) .nil .nil))))) (.node (ob2 b P) (.node (ob4 b P) (.node (ob8 b P) (.node (ob15 b P) (.node (ob7 b P) (.node (ob62 b P) .nil .nil) .nil) (.node (ob49 b P) (.node (ob81 b P) .nil .nil) .nil)) (.node (ob23 b P) (.node (ob8 b P) (.node (ob75 b P) .nil .nil) .nil) (.node (ob55 b P) (.node (ob100 b P) .nil .nil) .nil))) (.node (ob12 b P) (.node (ob19 b P) (.node (ob33 b P) (.node (ob7 b P) .nil .nil) .nil) (.node (ob8 b P) (.node (ob97 b P) .nil .nil) .nil)) (.node (ob7 b P) (.node (ob38 b P) (.node (ob8 b P) .nil .nil) .nil) (.node (ob59 b P) (.node (ob143 b P) .nil .nil) .nil)))) (.node (ob6 b P) (.node (ob10 b P) (.node (ob17 b P) (.node (ob32 b P) (.node (ob64 b P) .nil .nil) .nil) (.node (ob50 b P) (.node (ob83 b P) .nil .nil) .nil)) (.node (ob25 b P) (.node (ob7 b P) (.node (ob76 b P) .nil .nil) .nil) (.node (ob57 b P) (.node (ob142 b P) .nil .nil) .nil))) (.node (ob14 b P) (.node (ob21 b P) (.node (ob35 b P) (.node (ob67 b P) .nil .nil) .nil) (.node (ob7 b P) (.node (ob7 b P) .nil .nil) .nil)) (.node (ob28 b P) (.node (ob40 b P) (.node (ob7 b P) .nil .nil) .nil) (.node (ob7 b P) .nil .nil))))))
noncomputable def st40 (b : Bool) (w : World) (os : OsState) : SharedT := ⟨tr40 b w.params, 93, lf, ⟨[]⟩, dr, 582, os⟩
noncomputable def sts6 : List Stmt := [top 9, top 10, top 11, top 12, top 13, top 14, top 15, top 16, top 17, top 18, top 19]
noncomputable def th6 : Thread := piecesOf sts6 env0 cE ⟨19, 0, 19, 6⟩ B0
noncomputable def ob144 (b : Bool) (P : Params) : Obj := ⟨.type "dict", none, .dict ⟨[en P ⟨⟨[95, 95, 110, 97, 109, 101, 95, 95]⟩⟩ 165 (.str ⟨⟨[99, 112, 121, 51, 49, 51, 46, 119, 115, 103, 105, 114, 101, 102, 46, 104, 101, 97, 100, 101, 114, 115]⟩⟩ 658), en P ⟨⟨[95, 95, 100, 111, 99, 95, 95]⟩⟩ 166 (.none), en P ⟨⟨[95, 95, 112, 97, 99, 107, 97, 103, 101, 95, 95]⟩⟩ 167 (.none), en P ⟨⟨[95, 95, 108, 111, 97, 100, 101, 114, 95, 95]⟩⟩ 168 (.builtin "__main__.__loader__#opaque"), en P ⟨⟨[95, 95, 115, 112, 101, 99, 95, 95]⟩⟩ 169 (.none), en P ⟨⟨[95, 95, 97, 110, 110, 111, 116, 97, 116, 105, 111, 110, 115, 95, 95]⟩⟩ 170 (.ref 6), en P ⟨⟨[95, 95, 98, 117, 105, 108, 116, 105, 110, 115, 95, 95]⟩⟩ 171 (.ref 4), en P ⟨⟨[95, 95, 102, 105, 108, 101, 95, 95]⟩⟩ 173 (.str ⟨⟨[47, 99, 108, 97, 105, 109, 47, 99, 117, 116, 46, 112, 121]⟩⟩ 172), en P ⟨⟨[95, 95, 99, 97, 99, 104, 101, 100, 95, 95]⟩⟩ 174 (.none), en P ⟨⟨[95, 115, 114, 101]⟩⟩ 275 (.ref 12), en P ⟨⟨[95, 119, 97, 108, 108]⟩⟩ 288 (.ref 38), en P ⟨⟨[105, 110, 95, 116, 97, 98, 108, 101, 95, 99, 52]⟩⟩ 298 (.ref 45), en P ⟨⟨[99, 55, 95, 115, 101, 116]⟩⟩ 326 (.ref 47), en P ⟨⟨[105, 110, 95, 116, 97, 98, 108, 101, 95, 99, 55]⟩⟩ 333 (.ref 57), en P ⟨⟨[99, 56, 95, 115, 101, 116]⟩⟩ 374 (.ref 71), en P ⟨⟨[105, 110, 95, 116, 97, 98, 108, 101, 95, 99, 56]⟩⟩ 381 (.ref 81), en P ⟨⟨[99, 57, 95, 115, 101, 116]⟩⟩ 581 (.ref 89), en P ⟨⟨[105, 110, 95, 116, 97, 98, 108, 101, 95, 99, 57]⟩⟩ 588 (.ref 99), en P ⟨⟨[95, 116, 119, 105, 110, 95, 114, 101, 95, 49]⟩⟩ 606 (.ref 104), en P ⟨⟨[95, 116, 119, 105, 110, 95, 114, 101, 95, 50]⟩⟩ 648 (.ref 109), en P ⟨⟨[67, 82, 76, 70]⟩⟩ 650 (.str ⟨⟨[13, 10]⟩⟩ 649), en P ⟨⟨[113, 117, 111, 116, 101, 100, 97, 116, 97]⟩⟩ 657 (.ref 116), en P ⟨⟨[116, 115, 112, 101, 99, 105, 97, 108, 115]⟩⟩ 693 (.ref 121), en P ⟨⟨[95, 110, 97, 109, 101, 95, 100, 105, 115, 97, 108, 108, 111, 119, 101, 100, 95, 114, 101]⟩⟩ 719 (.ref 126), en P ⟨⟨[95, 118, 97, 108, 117, 101, 95, 100, 105, 115, 97, 108, 108, 111, 119, 101, 100, 95, 114, 101]⟩⟩ 753 (.ref 131), en P ⟨⟨[95, 102, 111, 114, 109, 97, 116, 112, 97, 114, 97, 109]⟩⟩ 763 (.ref 139)]⟩ 26, ⟨[]⟩⟩
noncomputable def ob145 (b : Bool) (P : Params) : Obj := ⟨.none, none, .fields ⟨[.int 2 0, .int 0 0, .ref 37, .int 6 0, .int 0 0, .ref 44, .int 14 0, .int 0 0, .ref 56, .int 17 0, .int 0 0, .ref 80, .int 20 0, .int 0 0, .ref 98, .int 26 0, .int 0 0, .ref 115, .int 32 0, .int 0 0, .ref 138]⟩, ⟨[]⟩⟩
noncomputable def ob146 (b : Bool) (P : Params) : Obj := ⟨.type "tuple", none, .seq ⟨[.str ⟨⟨[99, 111, 100, 101]⟩⟩ 585]⟩ 0, ⟨[]⟩⟩
noncomputable def ob147 (b : Bool) (P : Params) : Obj := ⟨.none, none, .func { name := ⟨⟨[105, 110, 95, 116, 97, 98, 108, 101, 95, 99, 57]⟩⟩, qualname := ⟨⟨[105, 110, 95, 116, 97, 98, 108, 101, 95, 99, 57]⟩⟩, params := fnP (top 9), body := .stmts (fnB (top 9)), scope := fnS (top 9), globals := 0, closure := [], defaults := .none, kwdefaults := .none, doc := .none, pyModule := .none, annotations := none, code := .none, closureTuple := .none, builtins := 0 }, ⟨[]⟩⟩
noncomputable def ob148 (b : Bool) (P : Params) : Obj := ⟨.type "code", none, .fields ⟨[.str ⟨⟨[105, 110, 95, 116, 97, 98, 108, 101, 95, 99, 57]⟩⟩ 582, .str ⟨⟨[105, 110, 95, 116, 97, 98, 108, 101, 95, 99, 57]⟩⟩ 583, .str ⟨⟨[47, 99, 108, 97, 105, 109, 47, 99, 117, 116, 46, 112, 121]⟩⟩ 584, .int 20 0, .int 1 0, .int 0 0, .int 0 0, .int 3 0, .ref 93, .bool true, .int 276 0, .ref 94, .none, .ref 95, .ref 96, .ref 97, .int 586 0, .int 20 0, .str ⟨⟨[47, 99, 108, 97, 105, 109, 47, 99, 117, 116, 46, 112, 121]⟩⟩ 587]⟩, ⟨[]⟩⟩
noncomputable def ob149 (b : Bool) (P : Params) : Obj := ⟨.type "function", none, .func { name := ⟨⟨[105, 110, 95, 116, 97, 98, 108, 101, 95, 99, 57]⟩⟩, qualname := ⟨⟨[105, 110, 95, 116, 97, 98, 108, 101, 95, 99, 57]⟩⟩, params := fnP (top 9), body := .stmts (fnB (top 9)), scope := fnS (top 9), globals := 3, closure := [], defaults := .none, kwdefaults := .none, doc := .none, pyModule := .str ⟨⟨[99, 112, 121, 51, 49, 51, 46, 115, 116, 114, 105, 110, 103, 112, 114, 101, 112]⟩⟩ 289, annotations := none, code := .ref 98, closureTuple := .none, builtins := 0 }, ⟨[]⟩⟩
noncomputable def ob150 (b : Bool) (P : Params) : Obj := ⟨.type "list", none, .seq ⟨[.int 14 594, .int 4 595, .int 0 596, .int 1 597, .int 1 598, .int 6 599, .int 1 600, .int 16 601, .int 46 602, .int 1 603]⟩ 0, ⟨[]⟩⟩
noncomputable def ob151 (b : Bool) (P : Params) : Obj := ⟨.type "tuple", none, .seq ⟨[.none]⟩ 0, ⟨[]⟩⟩
noncomputable def ob152 (b : Bool) (P : Params) : Obj := ⟨.type "tuple", none, .seq ⟨[.int 14 0, .int 4 0, .int 0 0, .int 1 0, .int 1 0, .int 6 0, .int 1 0, .int 16 0, .int 46 0, .int 1 0]⟩ 0, ⟨[]⟩⟩
noncomputable def ob153 (b : Bool) (P : Params) : Obj := ⟨.type "re.Pattern", none, .fields ⟨[.str ⟨⟨[40, 63, 109, 41, 94, 92, 46]⟩⟩ 592, .int 40 605, .int 0 0, .none, .none, .ref 103, .int 0 0]⟩, ⟨[]⟩⟩
noncomputable def ob154 (b : Bool) (P : Params) : Obj := ⟨.type "list", none, .seq ⟨[.int 14 610, .int 9 611, .int 4 612, .int 1 613, .int 2 614, .int 16 615, .int 10 616, .int 16 617, .int 13 618, .int 0 619, .int 7 620, .int 7 621, .int 16 622, .int 13 623, .int 16 624, .int 10 625, .int 15 626, .int 18 627, .int 5 628, .int 16 629, .int 10 630, .int 15 631, .int 13 632, .int 11 633, .int 16 634, .int 13 635, .int 5 636, .int 5 637, .int 0 638, .int 16 639, .int 10 640, .int 1 641, .int 15 642, .int 2 643, .int 0 644, .int 1 645]⟩ 0, ⟨[]⟩⟩
noncomputable def ob155 (b : Bool) (P : Params) : Obj := ⟨.type "tuple", none, .seq ⟨[.int 14 0, .int 9 0, .int 4 0, .int 1 0, .int 2 0, .int 16 0, .int 10 0, .int 16 0, .int 13 0, .int 0 0, .int 7 0, .int 7 0, .int 16 0, .int 13 0, .int 16 0, .int 10 0, .int 15 0, .int 18 0, .int 5 0, .int 16 0, .int 10 0, .int 15 0, .int 13 0, .int 11 0, .int 16 0, .int 13 0, .int 5 0, .int 5 0, .int 0 0, .int 16 0, .int 10 0, .int 1 0, .int 15 0, .int 2 0, .int 0 0, .int 1 0]⟩ 0, ⟨[]⟩⟩
noncomputable def ob156 (b : Bool) (P : Params) : Obj := ⟨.type "re.Pattern", none, .fields ⟨[.str ⟨⟨[40, 63, 58, 92, 114, 92, 110, 124, 92, 110, 124, 92, 114, 40, 63, 33, 92, 110, 41, 41]⟩⟩ 608, .int 32 647, .int 0 0, .none, .none, .ref 108, .int 0 0]⟩, ⟨[]⟩⟩
noncomputable def ob157 (b : Bool) (P : Params) : Obj := ⟨.type "tuple", none, .seq ⟨[.str ⟨⟨[100, 97, 116, 97]⟩⟩ 654]⟩ 0, ⟨[]⟩⟩
noncomputable def ob158 (b : Bool) (P : Params) : Obj := ⟨.none, none, .func { name := ⟨⟨[113, 117, 111, 116, 101, 100, 97, 116, 97]⟩⟩, qualname := ⟨⟨[113, 117, 111, 116, 101, 100, 97, 116, 97]⟩⟩, params := fnP (top 14), body := .stmts (fnB (top 14)), scope := fnS (top 14), globals := 0, closure := [], defaults := .none, kwdefaults := .none, doc := .none, pyModule := .none, annotations := none, code := .none, closureTuple := .none, builtins := 0 }, ⟨[]⟩⟩
noncomputable def ob159 (b : Bool) (P : Params) : Obj := ⟨.type "code", none, .fields ⟨[.str ⟨⟨[113, 117, 111, 116, 101, 100, 97, 116, 97]⟩⟩ 651, .str ⟨⟨[113, 117, 111, 116, 101, 100, 97, 116, 97]⟩⟩ 652, .str ⟨⟨[47, 99, 108, 97, 105, 109, 47, 99, 117, 116, 46, 112, 121]⟩⟩ 653, .int 26 0, .int 1 0, .int 0 0, .int 0 0, .int 3 0, .ref 110, .bool true, .int 276 0, .ref 111, .none, .ref 112, .ref 113, .ref 114, .int 655 0, .int 26 0, .str ⟨⟨[47, 99, 108, 97, 105, 109, 47, 99, 117, 116, 46, 112, 121]⟩⟩ 656]⟩, ⟨[]⟩⟩
noncomputable def ob160 (b : Bool) (P : Params) : Obj := ⟨.type "function", none, .func { name := ⟨⟨[113, 117, 111, 116, 101, 100, 97, 116, 97]⟩⟩, qualname := ⟨⟨[113, 117, 111, 116, 101, 100, 97, 116, 97]⟩⟩, params := fnP (top 14), body := .stmts (fnB (top 14)), scope := fnS (top 14), globals := 3, closure := [], defaults := .none, kwdefaults := .none, doc := .none, pyModule := .str ⟨⟨[99, 112, 121, 51, 49, 51, 46, 115, 109, 116, 112, 108, 105, 98]⟩⟩ 589, annotations := none, code := .ref 115, closureTuple := .none, builtins := 0 }, ⟨[]⟩⟩
noncomputable def ob161 (b : Bool) (P : Params) : Obj := ⟨.type "list", none, .seq ⟨[.int 14 663, .int 14 664, .int 4 665, .int 1 666, .int 1 667, .int 9 668, .int 0 669, .int 4227896069 670, .int 939524097 671, .int 0 672, .int 0 673, .int 0 674, .int 0 675, .int 0 676, .int 0 677, .int 13 678, .int 11 679, .int 9 680, .int 0 681, .int 4227896069 682, .int 939524097 683, .int 0 684, .int 0 685, .int 0 686, .int 0 687, .int 0 688, .int 0 689, .int 1 690]⟩ 0, ⟨[]⟩⟩
noncomputable def ob162 (b : Bool) (P : Params) : Obj := ⟨.type "tuple", none, .seq ⟨[.int 14 0, .int 14 0, .int 4 0, .int 1 0, .int 1 0, .int 9 0, .int 0 0, .int 4227896069 0, .int 939524097 0, .int 0 0, .int 0 0, .int 0 0, .int 0 0, .int 0 0, .int 0 0, .int 13 0, .int 11 0, .int 9 0, .int 0 0, .int 4227896069 0, .int 939524097 0, .int 0 0, .int 0 0, .int 0 0, .int 0 0, .int 0 0, .int 0 0, .int 1 0]⟩ 0, ⟨[]⟩⟩
noncomputable def ob163 (b : Bool) (P : Params) : Obj := ⟨.type "re.Pattern", none, .fields ⟨[.str ⟨⟨[91, 32, 92, 40, 92, 41, 60, 62, 64, 44, 59, 58, 92, 92, 34, 47, 92, 91, 92, 93, 92, 63, 61, 93]⟩⟩ 661, .int 32 692, .int 0 0, .none, .none, .ref 120, .int 0 0]⟩, ⟨[]⟩⟩
noncomputable def ob164 (b : Bool) (P : Params) : Obj := ⟨.type "list", none, .seq ⟨[.int 14 697, .int 10 698, .int 4 699, .int 1 700, .int 1 701, .int 22 702, .int 0 703, .int 31 704, .int 16 705, .int 127 706, .int 0 707, .int 13 708, .int 7 709, .int 22 710, .int 0 711, .int 31 712, .int 16 713, .int 127 714, .int 0 715, .int 1 716]⟩ 0, ⟨[]⟩⟩
noncomputable def ob165 (b : Bool) (P : Params) : Obj := ⟨.type "tuple", none, .seq ⟨[.int 14 0, .int 10 0, .int 4 0, .int 1 0, .int 1 0, .int 22 0, .int 0 0, .int 31 0, .int 16 0, .int 127 0, .int 0 0, .int 13 0, .int 7 0, .int 22 0, .int 0 0, .int 31 0, .int 16 0, .int 127 0, .int 0 0, .int 1 0]⟩ 0, ⟨[]⟩⟩
noncomputable def ob166 (b : Bool) (P : Params) : Obj := ⟨.type "re.Pattern", none, .fields ⟨[.str ⟨⟨[91, 92, 120, 48, 48, 45, 92, 120, 49, 70, 92, 120, 55, 70, 93]⟩⟩ 695, .int 32 718, .int 0 0, .none, .none, .ref 125, .int 0 0]⟩, ⟨[]⟩⟩
noncomputable def ob167 (b : Bool) (P : Params) : Obj := ⟨.type "list", none, .seq ⟨[.int 14 723, .int 14 724, .int 4 725, .int 1 726, .int 1 727, .int 9 728, .int 4294966783 729, .int 0 730, .int 0 731, .int 2147483648 732, .int 0 733, .int 0 734, .int 0 735, .int 0 736, .int 0 737, .int 13 738, .int 11 739, .int 9 740, .int 4294966783 741, .int 0 742, .int 0 743, .int 2147483648 744, .int 0 745, .int 0 746, .int 0 747, .int 0 748, .int 0 749, .int 1 750]⟩ 0, ⟨[]⟩⟩
noncomputable def ob168 (b : Bool) (P : Params) : Obj := ⟨.type "tuple", none, .seq ⟨[.int 14 0, .int 14 0, .int 4 0, .int 1 0, .int 1 0, .int 9 0, .int 4294966783 0, .int 0 0, .int 0 0, .int 2147483648 0, .int 0 0, .int 0 0, .int 0 0, .int 0 0, .int 0 0, .int 13 0, .int 11 0, .int 9 0, .int 4294966783 0, .int 0 0, .int 0 0, .int 2147483648 0, .int 0 0, .int 0 0, .int 0 0, .int 0 0, .int 0 0, .int 1 0]⟩ 0, ⟨[]⟩⟩
noncomputable def ob169 (b : Bool) (P : Params) : Obj := ⟨.type "re.Pattern", none, .fields ⟨[.str ⟨⟨[91, 92, 120, 48, 48, 45, 92, 120, 48, 56, 92, 120, 48, 65, 45, 92, 120, 49, 70, 92, 120, 55, 70, 93]⟩⟩ 721, .int 32 752, .int 0 0, .none, .none, .ref 130, .int 0 0]⟩, ⟨[]⟩⟩
noncomputable def ob170 (b : Bool) (P : Params) : Obj := ⟨.type "tuple", none, .seq ⟨[.none, .int 1 754]⟩ 0, ⟨[]⟩⟩
noncomputable def ob171 (b : Bool) (P : Params) : Obj := ⟨.type "tuple", none, .seq ⟨[.str ⟨⟨[112, 97, 114, 97, 109]⟩⟩ 758, .str ⟨⟨[118, 97, 108, 117, 101]⟩⟩ 759, .str ⟨⟨[113, 117, 111, 116, 101]⟩⟩ 760]⟩ 0, ⟨[]⟩⟩
noncomputable def ob172 (b : Bool) (P : Params) : Obj := ⟨.none, none, .func { name := ⟨⟨[95, 102, 111, 114, 109, 97, 116, 112, 97, 114, 97, 109]⟩⟩, qualname := ⟨⟨[95, 102, 111, 114, 109, 97, 116, 112, 97, 114, 97, 109]⟩⟩, params := fnP (top 19), body := .stmts (fnB (top 19)), scope := fnS (top 19), globals := 0, closure := [], defaults := .none, kwdefaults := .none, doc := .none, pyModule := .none, annotations := none, code := .none, closureTuple := .none, builtins := 0 }, ⟨[]⟩⟩
noncomputable def ob173 (b : Bool) (P : Params) : Obj := ⟨.type "code", none, .fields ⟨[.str ⟨⟨[95, 102, 111, 114, 109, 97, 116, 112, 97, 114, 97, 109]⟩⟩ 755, .str ⟨⟨[95, 102, 111, 114, 109, 97, 116, 112, 97, 114, 97, 109]⟩⟩ 756, .str ⟨⟨[47, 99, 108, 97, 105, 109, 47, 99, 117, 116, 46, 112, 121]⟩⟩ 757, .int 32 0, .int 3 0, .int 0 0, .int 0 0, .int 3 0, .ref 133, .bool true, .int 276 0, .ref 134, .none, .ref 135, .ref 136, .ref 137, .int 761 0, .int 32 0, .str ⟨⟨[47, 99, 108, 97, 105, 109, 47, 99, 117, 116, 46, 112, 121]⟩⟩ 762]⟩, ⟨[]⟩⟩
noncomputable def ob174 (b : Bool) (P : Params) : Obj := ⟨.type "function", none, .func { name := ⟨⟨[95, 102, 111, 114, 109, 97, 116, 112, 97, 114, 97, 109]⟩⟩, qualname := ⟨⟨[95, 102, 111, 114, 109, 97, 116, 112, 97, 114, 97, 109]⟩⟩, params := fnP (top 19), body := .stmts (fnB (top 19)), scope := fnS (top 19), globals := 3, closure := [], defaults := .ref 132, kwdefaults := .none, doc := .none, pyModule := .str ⟨⟨[99, 112, 121, 51, 49, 51, 46, 119, 115, 103, 105, 114, 101, 102, 46, 104, 101, 97, 100, 101, 114, 115]⟩⟩ 658, annotations := none, code := .ref 138, closureTuple := .none, builtins := 0 }, ⟨[]⟩⟩
noncomputable def tr41 (b : Bool) (P : Params) : BT := (.node (ob0 b P) (.node (ob1 b P) (.node (ob144 b P) (.node (ob7 b P) (.node (ob7 b P) (.node (ob29 b P) (.node (ob61 b P) (.node (ob167 b P) .nil .nil) .nil) (.node (ob146 b P) .nil .nil)) (.node (ob48 b P) (.node (ob80 b P) .nil .nil) (.node (ob8 b P) .nil .nil))) (.node (ob22 b P) (.node (ob7 b P) (.node (ob74 b P) (.node (ob171 b P) .nil .nil) .nil) (.node (ob152 b P) .nil .nil)) (.node (ob54 b P) (.node (ob99 b P) .nil .nil) (.node (ob151 b P) .nil .nil)))) (.node (ob27 b P) (.node (ob18 b P) (.node (ob7 b P) (.node (ob65 b P) (.node (ob169 b P) .nil .nil) .nil) (.node (ob149 b P) .nil .nil)) (.node (ob7 b P) (.node (ob84 b P) .nil .nil) (.node (ob159 b P) .nil .nil))) (.node (ob26 b P) (.node (ob37 b P) (.node (ob7 b P) (.node (ob174 b P) .nil .nil) .nil) (.node (ob151 b P) .nil .nil)) (.node (ob58 b P) (.node (ob7 b P) .nil .nil) (.node (ob6 b P) .nil .nil))))) (.node (ob5 b P) (.node (ob9 b P) (.node (ob16 b P) (.node (ob8 b P) (.node (ob63 b P) (.node (ob151 b P) .nil .nil) .nil) (.node (ob147 b P) .nil .nil)) (.node (ob7 b P) (.node (ob82 b P) .nil .nil) (.node (ob7 b P) .nil .nil))) (.node (ob24 b P) (.node (ob36 b P) (.node (ob7 b P) (.node (ob172 b P) .nil .nil) .nil) (.node (ob154 b P) .nil .nil)) (.node (ob56 b P) (.node (ob141 b P) .nil .nil) (.node (ob163 b P) .nil .nil)))) (.node (ob13 b P) (.node (ob20 b P) (.node (ob34 b P) (.node (ob66 b P) (.node (ob7 b P) .nil .nil) .nil) (.node (ob6 b P) .nil .nil)) (.node (ob53 b P) (.node (ob98 b P) .nil .nil) (.node (ob161 b P) .nil .nil))) (.node (ob145 b P) (.node (ob39 b P) (.node (ob79 b P) .nil .nil) (.node (ob156 b P) .nil .nil)) (.node (ob60 b P) (.node (ob7 b P) .nil .nil) (.node (ob165 b P) .nil .nil)))))) (.node (ob2 b P) (.node (ob4 b P) (.node (ob8 b P) (.node (ob15 b P) (.node (ob7 b P) (.node (ob62 b P) (.node (ob6 b P) .nil .nil) .nil) (.node (ob7 b P) .nil .nil)) (.node (ob49 b P) (.node (ob81 b P) .nil .nil) (.node (ob157 b P) .nil .nil))) (.node (ob23 b P) (.node (ob8 b P) (.node (ob75 b P) (.node (ob7 b P) .nil .nil) .nil) (.node (ob153 b P) .nil .nil)) (.node (ob55 b P) (.node (ob100 b P) .nil .nil) (.node (ob162 b P) .nil .nil)))) (.node (ob12 b P) (.node (ob19 b P) (.node (ob33 b P) (.node (ob7 b P) (.node (ob170 b P) .nil .nil) .nil) (.node (ob150 b P) .nil .nil)) (.node (ob8 b P) (.node (ob97 b P) .nil .nil) (.node (ob160 b P) .nil .nil))) (.node (ob7 b P) (.node (ob38 b P) (.node (ob8 b P) .nil .nil) (.node (ob155 b P) .nil .nil)) (.node (ob59 b P) (.node (ob143 b P) .nil .nil) (.node (ob151 b P) .nil .nil))))) (.node (ob6 b P) (.node (ob10 b P) (.node (ob17 b P) (.node (ob32 b P) (.node (ob64 b P) (.node (ob168 b P) .nil .nil) .nil) (.node (ob148 b P) .nil .nil)) (.node (ob50 b P) (.node (ob83 b P) .nil .nil) (.node (ob158 b P) .nil .nil))) (.node (ob25 b P) (.node (ob7 b P) (.node (ob76 b P) (.node (ob173 b P) .nil .nil) .nil) (.node (ob6 b P) .nil .nil)) (.node (ob57 b P) (.node (ob142 b P) .nil .nil) (.node (ob164 b P) .nil .nil)))) (.node (ob14 b P) (.node (ob21 b P) (.node (ob35 b P) (.node (ob67 b P) (.node (ob8 b P) .nil .nil) .nil) (.node (ob151 b P) .nil .nil)) (.node (ob7 b P) (.node (ob7 b P) .nil .nil) (.node (ob6 b P) .nil .nil))) (.node (ob28 b P) (.node (ob40 b P) (.node (ob7 b P) .nil .nil) (.node (ob7 b P) .nil .nil)) (.node (ob7 b P) (.node (ob8 b P) .nil .nil) (.node (ob166 b P) .nil .nil)))))))
noncomputable def st41 (b : Bool) (w : World) (os : OsState) : SharedT := ⟨tr41 b w.params, 140, lf, ⟨[]⟩, dr, 764, os⟩
noncomputable def sts7 : List Stmt := [top 20]
noncomputable def th7 : Thread := piecesOf sts7 env0 cE ⟨32, 0, 40, 20⟩ B0
noncomputable def ob175 (b : Bool) (P : Params) : Obj := ⟨.type "dict", none, .dict ⟨[en P ⟨⟨[95, 95, 110, 97, 109, 101, 95, 95]⟩⟩ 165 (.str ⟨⟨[99, 112, 121, 51, 49, 51, 46, 119, 115, 103, 105, 114, 101, 102, 46, 104, 101, 97, 100, 101, 114, 115]⟩⟩ 658), en P ⟨⟨[95, 95, 100, 111, 99, 95, 95]⟩⟩ 166 (.none), en P ⟨⟨[95, 95, 112, 97, 99, 107, 97, 103, 101, 95, 95]⟩⟩ 167 (.none), en P ⟨⟨[95, 95, 108, 111, 97, 100, 101, 114, 95, 95]⟩⟩ 168 (.builtin "__main__.__loader__#opaque"), en P ⟨⟨[95, 95, 115, 112, 101, 99, 95, 95]⟩⟩ 169 (.none), en P ⟨⟨[95, 95, 97, 110, 110, 111, 116, 97, 116, 105, 111, 110, 115, 95, 95]⟩⟩ 170 (.ref 6), en P ⟨⟨[95, 95, 98, 117, 105, 108, 116, 105, 110, 115, 95, 95]⟩⟩ 171 (.ref 4), en P ⟨⟨[95, 95, 102, 105, 108, 101, 95, 95]⟩⟩ 173 (.str ⟨⟨[47, 99, 108, 97, 105, 109, 47, 99, 117, 116, 46, 112, 121]⟩⟩ 172), en P ⟨⟨[95, 95, 99, 97, 99, 104, 101, 100, 95, 95]⟩⟩ 174 (.none), en P ⟨⟨[95, 115, 114, 101]⟩⟩ 275 (.ref 12), en P ⟨⟨[95, 119, 97, 108, 108]⟩⟩ 288 (.ref 38), en P ⟨⟨[105, 110, 95, 116, 97, 98, 108, 101, 95, 99, 52]⟩⟩ 298 (.ref 45), en P ⟨⟨[99, 55, 95, 115, 101, 116]⟩⟩ 326 (.ref 47), en P ⟨⟨[105, 110, 95, 116, 97, 98, 108, 101, 95, 99, 55]⟩⟩ 333 (.ref 57), en P ⟨⟨[99, 56, 95, 115, 101, 116]⟩⟩ 374 (.ref 71), en P ⟨⟨[105, 110, 95, 116, 97, 98, 108, 101, 95, 99, 56]⟩⟩ 381 (.ref 81), en P ⟨⟨[99, 57, 95, 115, 101, 116]⟩⟩ 581 (.ref 89), en P ⟨⟨[105, 110, 95, 116, 97, 98, 108, 101, 95, 99, 57]⟩⟩ 588 (.ref 99), en P ⟨⟨[95, 116, 119, 105, 110, 95, 114, 101, 95, 49]⟩⟩ 606 (.ref 104), en P ⟨⟨[95, 116, 119, 105, 110, 95, 114, 101, 95, 50]⟩⟩ 648 (.ref 109), en P ⟨⟨[67, 82, 76, 70]⟩⟩ 650 (.str ⟨⟨[13, 10]⟩⟩ 649), en P ⟨⟨[113, 117, 111, 116, 101, 100, 97, 116, 97]⟩⟩ 657 (.ref 116), en P ⟨⟨[116, 115, 112, 101, 99, 105, 97, 108, 115]⟩⟩ 693 (.ref 121), en P ⟨⟨[95, 110, 97, 109, 101, 95, 100, 105, 115, 97, 108, 108, 111, 119, 101, 100, 95, 114, 101]⟩⟩ 719 (.ref 126), en P ⟨⟨[95, 118, 97, 108, 117, 101, 95, 100, 105, 115, 97, 108, 108, 111, 119, 101, 100, 95, 114, 101]⟩⟩ 753 (.ref 131), en P ⟨⟨[95, 102, 111, 114, 109, 97, 116, 112, 97, 114, 97, 109]⟩⟩ 763 (.ref 139), en P ⟨⟨[72, 101, 97, 100, 101, 114, 115]⟩⟩ 920 (.ref 260)]⟩ 27, ⟨[]⟩⟩
noncomputable def ob176 (b : Bool) (P : Params) : Obj := ⟨.none, none, .fields ⟨[.int 2 0, .int 0 0, .ref 37, .int 6 0, .int 0 0, .ref 44, .int 14 0, .int 0 0, .ref 56, .int 17 0, .int 0 0, .ref 80, .int 20 0, .int 0 0, .ref 98, .int 26 0, .int 0 0, .ref 115, .int 32 0, .int 0 0, .ref 138, .int 41 0, .int 0 0, .ref 145]⟩, ⟨[]⟩⟩
noncomputable def ob177 (b : Bool) (P : Params) : Obj := ⟨.type "builtin_function_or_method", none, .fields ⟨[.builtin "type.__prepare__", .type "type"]⟩, ⟨[]⟩⟩
noncomputable def ob178 (b : Bool) (P : Params) : Obj := ⟨.type "dict", none, .dict ⟨[en P ⟨⟨[95, 95, 109, 111, 100, 117, 108, 101, 95, 95]⟩⟩ 771 (.str ⟨⟨[99, 112, 121, 51, 49, 51, 46, 119, 115, 103, 105, 114, 101, 102, 46, 104, 101, 97, 100, 101, 114, 115]⟩⟩ 658), en P ⟨⟨[95, 95, 113, 117, 97, 108, 110, 97, 109, 101, 95, 95]⟩⟩ 773 (.str ⟨⟨[72, 101, 97, 100, 101, 114, 115]⟩⟩ 772), en P ⟨⟨[95, 95, 102, 105, 114, 115, 116, 108, 105, 110, 101, 110, 111, 95, 95]⟩⟩ 775 (.int 41 774), en P ⟨⟨[95, 95, 105, 110, 105, 116, 95, 95]⟩⟩ 785 (.ref 154), en P ⟨⟨[95, 99, 111, 110, 118, 101, 114, 116, 95, 115, 116, 114, 105, 110, 103, 95, 116, 121, 112, 101]⟩⟩ 795 (.ref 161), en P ⟨⟨[95, 95, 108, 101, 110, 95, 95]⟩⟩ 802 (.ref 168), en P ⟨⟨[95, 95, 115, 101, 116, 105, 116, 101, 109, 95, 95]⟩⟩ 811 (.ref 175), en P ⟨⟨[95, 95, 100, 101, 108, 105, 116, 101, 109, 95, 95]⟩⟩ 817 (.ref 180), en P ⟨⟨[95, 95, 103, 101, 116, 105, 116, 101, 109, 95, 95]⟩⟩ 825 (.ref 187), en P ⟨⟨[95, 95, 99, 111, 110, 116, 97, 105, 110, 115, 95, 95]⟩⟩ 833 (.ref 194), en P ⟨⟨[103, 101, 116, 95, 97, 108, 108]⟩⟩ 839 (.ref 199), en P ⟨⟨[103, 101, 116]⟩⟩ 850 (.ref 207), en P ⟨⟨[107, 101, 121, 115]⟩⟩ 856 (.ref 212), en P ⟨⟨[118, 97, 108, 117, 101, 115]⟩⟩ 862 (.ref 217), en P ⟨⟨[105, 116, 101, 109, 115]⟩⟩ 869 (.ref 224), en P ⟨⟨[95, 95, 114, 101, 112, 114, 95, 95]⟩⟩ 876 (.ref 231), en P ⟨⟨[95, 95, 115, 116, 114, 95, 95]⟩⟩ 882 (.ref 236), en P ⟨⟨[95, 95, 98, 121, 116, 101, 115, 95, 95]⟩⟩ 889 (.ref 243), en P ⟨⟨[115, 101, 116, 100, 101, 102, 97, 117, 108, 116]⟩⟩ 898 (.ref 250), en P ⟨⟨[97, 100, 100, 95, 104, 101, 97, 100, 101, 114]⟩⟩ 911 (.ref 257), en P ⟨⟨[95, 95, 115, 116, 97, 116, 105, 99, 95, 97, 116, 116, 114, 105, 98, 117, 116, 101, 115, 95, 95]⟩⟩ 913 (.ref 258)]⟩ 21, ⟨[]⟩⟩
noncomputable def ob179 (b : Bool) (P : Params) : Obj := ⟨.none, none, .fields ⟨[.int 43 0, .int 4 0, .ref 153, .int 53 0, .int 4 0, .ref 160, .int 61 0, .int 4 0, .ref 167, .int 64 0, .int 4 0, .ref 174, .int 68 0, .int 4 0, .ref 179, .int 72 0, .int 4 0, .ref 186, .int 75 0, .int 4 0, .ref 193, .int 78 0, .int 4 0, .ref 198, .int 82 0, .int 4 0, .ref 206, .int 89 0, .int 4 0, .ref 211, .int 92 0, .int 4 0, .ref 216, .int 95 0, .int 4 0, .ref 223, .int 98 0, .int 4 0, .ref 230, .int 101 0, .int 4 0, .ref 235, .int 104 0, .int 4 0, .ref 242, .int 107 0, .int 4 0, .ref 249, .int 110 0, .int 4 0, .ref 256]⟩, ⟨[]⟩⟩
noncomputable def ob180 (b : Bool) (P : Params) : Obj := ⟨.type "code", none, .fields ⟨[.str ⟨⟨[72, 101, 97, 100, 101, 114, 115]⟩⟩ 766, .str ⟨⟨[72, 101, 97, 100, 101, 114, 115]⟩⟩ 767, .str ⟨⟨[47, 99, 108, 97, 105, 109, 47, 99, 117, 116, 46, 112, 121]⟩⟩ 768, .int 41 0, .int 0 0, .int 0 0, .int 0 0, .int 0 0, .ref 143, .bool false, .int 276 0, .ref 144, .none, .none, .none, .none, .int 769 0, .int 41 0, .str ⟨⟨[47, 99, 108, 97, 105, 109, 47, 99, 117, 116, 46, 112, 121]⟩⟩ 770]⟩, ⟨[]⟩⟩
noncomputable def ob181 (b : Bool) (P : Params) : Obj := ⟨.type "frame", none, .plain, ⟨[(some (.ref 145)), (some (.ref 3)), (some (.ref 142)), none, (some (.str ⟨⟨[99, 112, 121, 51, 49, 51, 46, 119, 115, 103, 105, 114, 101, 102, 46, 104, 101, 97, 100, 101, 114, 115]⟩⟩ 658)), none, (some (.ref 0))]⟩⟩
noncomputable def ob182 (b : Bool) (P : Params) : Obj := ⟨.type "tuple", none, .seq ⟨[.str ⟨⟨[115, 101, 108, 102]⟩⟩ 779, .str ⟨⟨[104, 101, 97, 100, 101, 114, 115]⟩⟩ 780, .str ⟨⟨[107]⟩⟩ 781, .str ⟨⟨[118]⟩⟩ 782]⟩ 0, ⟨[]⟩⟩
noncomputable def ob183 (b : Bool) (P : Params) : Obj := ⟨.none, none, .func { name := ⟨⟨[95, 95, 105, 110, 105, 116, 95, 95]⟩⟩, qualname := ⟨⟨[72, 101, 97, 100, 101, 114, 115, 46, 95, 95, 105, 110, 105, 116, 95, 95]⟩⟩, params := fnP (meth 0), body := .stmts (fnB (meth 0)), scope := fnS (meth 0), globals := 0, closure := [], defaults := .none, kwdefaults := .none, doc := .none, pyModule := .none, annotations := none, code := .none, closureTuple := .none, builtins := 0 }, ⟨[]⟩⟩
noncomputable def ob184 (b : Bool) (P : Params) : Obj := ⟨.type "code", none, .fields ⟨[.str ⟨⟨[95, 95, 105, 110, 105, 116, 95, 95]⟩⟩ 776, .str ⟨⟨[72, 101, 97, 100, 101, 114, 115, 46, 95, 95, 105, 110, 105, 116, 95, 95]⟩⟩ 777, .str ⟨⟨[47, 99, 108, 97, 105, 109, 47, 99, 117, 116, 46, 112, 121]⟩⟩ 778, .int 43 0, .int 2 0, .int 0 0, .int 0 0, .int 3 0, .ref 148, .bool true, .int 276 0, .ref 149, .none, .ref 150, .ref 151, .ref 152, .int 783 0, .int 43 0, .str ⟨⟨[47, 99, 108, 97, 105, 109, 47, 99, 117, 116, 46, 112, 121]⟩⟩ 784]⟩, ⟨[]⟩⟩
noncomputable def ob185 (b : Bool) (P : Params) : Obj := ⟨.type "function", none, .func { name := ⟨⟨[95, 95, 105, 110, 105, 116, 95, 95]⟩⟩, qualname := ⟨⟨[72, 101, 97, 100, 101, 114, 115, 46, 95, 95, 105, 110, 105, 116, 95, 95]⟩⟩, params := fnP (meth 0), body := .stmts (fnB (meth 0)), scope := fnS (meth 0), globals := 3, closure := [], defaults := .ref 147, kwdefaults := .none, doc := .none, pyModule := .str ⟨⟨[99, 112, 121, 51, 49, 51, 46, 119, 115, 103, 105, 114, 101, 102, 46, 104, 101, 97, 100, 101, 114, 115]⟩⟩ 658, annotations := none, code := .ref 153, closureTuple := .none, builtins := 0 }, ⟨[]⟩⟩
noncomputable def ob186 (b : Bool) (P : Params) : Obj := ⟨.type "tuple", none, .seq ⟨[.str ⟨⟨[115, 101, 108, 102]⟩⟩ 789, .str ⟨⟨[118, 97, 108, 117, 101]⟩⟩ 790, .str ⟨⟨[110, 97, 109, 101]⟩⟩ 791, .str ⟨⟨[114, 101, 103, 101, 120]⟩⟩ 792]⟩ 0, ⟨[]⟩⟩
noncomputable def ob187 (b : Bool) (P : Params) : Obj := ⟨.none, none, .func { name := ⟨⟨[95, 99, 111, 110, 118, 101, 114, 116, 95, 115, 116, 114, 105, 110, 103, 95, 116, 121, 112, 101]⟩⟩, qualname := ⟨⟨[72, 101, 97, 100, 101, 114, 115, 46, 95, 99, 111, 110, 118, 101, 114, 116, 95, 115, 116, 114, 105, 110, 103, 95, 116, 121, 112, 101]⟩⟩, params := fnP (meth 1), body := .stmts (fnB (meth 1)), scope := fnS (meth 1), globals := 0, closure := [], defaults := .none, kwdefaults := .none, doc := .none, pyModule := .none, annotations := none, code := .none, closureTuple := .none, builtins := 0 }, ⟨[]⟩⟩
noncomputable def ob188 (b : Bool) (P : Params) : Obj := ⟨.type "code", none, .fields ⟨[.str ⟨⟨[95, 99, 111, 110, 118, 101, 114, 116, 95, 115, 116, 114, 105, 110, 103, 95, 116, 121, 112, 101]⟩⟩ 786, .str ⟨⟨[72, 101, 97, 100, 101, 114, 115, 46, 95, 99, 111, 110, 118, 101, 114, 116, 95, 115, 116, 114, 105, 110, 103, 95, 116, 121, 112, 101]⟩⟩ 787, .str ⟨⟨[47, 99, 108, 97, 105, 109, 47, 99, 117, 116, 46, 112, 121]⟩⟩ 788, .int 53 0, .int 2 0, .int 0 0, .int 1 0, .int 3 0, .ref 155, .bool true, .int 276 0, .ref 156, .none, .ref 157, .ref 158, .ref 159, .int 793 0, .int 53 0, .str ⟨⟨[47, 99, 108, 97, 105, 109, 47, 99, 117, 116, 46, 112, 121]⟩⟩ 794]⟩, ⟨[]⟩⟩
noncomputable def ob189 (b : Bool) (P : Params) : Obj := ⟨.type "function", none, .func { name := ⟨⟨[95, 99, 111, 110, 118, 101, 114, 116, 95, 115, 116, 114, 105, 110, 103, 95, 116, 121, 112, 101]⟩⟩, qualname := ⟨⟨[72, 101, 97, 100, 101, 114, 115, 46, 95, 99, 111, 110, 118, 101, 114, 116, 95, 115, 116, 114, 105, 110, 103, 95, 116, 121, 112, 101]⟩⟩, params := fnP (meth 1), body := .stmts (fnB (meth 1)), scope := fnS (meth 1), globals := 3, closure := [], defaults := .none, kwdefaults := .none, doc := .none, pyModule := .str ⟨⟨[99, 112, 121, 51, 49, 51, 46, 119, 115, 103, 105, 114, 101, 102, 46, 104, 101, 97, 100, 101, 114, 115]⟩⟩ 658, annotations := none, code := .ref 160, closureTuple := .none, builtins := 0 }, ⟨[]⟩⟩
noncomputable def ob190 (b : Bool) (P : Params) : Obj := ⟨.type "tuple", none, .seq ⟨[.str ⟨⟨[115, 101, 108, 102]⟩⟩ 799]⟩ 0, ⟨[]⟩⟩
noncomputable def ob191 (b : Bool) (P : Params) : Obj := ⟨.none, none, .func { name := ⟨⟨[95, 95, 108, 101, 110, 95, 95]⟩⟩, qualname := ⟨⟨[72, 101, 97, 100, 101, 114, 115, 46, 95, 95, 108, 101, 110, 95, 95]⟩⟩, params := fnP (meth 2), body := .stmts (fnB (meth 2)), scope := fnS (meth 2), globals := 0, closure := [], defaults := .none, kwdefaults := .none, doc := .none, pyModule := .none, annotations := none, code := .none, closureTuple := .none, builtins := 0 }, ⟨[]⟩⟩
noncomputable def ob192 (b : Bool) (P : Params) : Obj := ⟨.type "code", none, .fields ⟨[.str ⟨⟨[95, 95, 108, 101, 110, 95, 95]⟩⟩ 796, .str ⟨⟨[72, 101, 97, 100, 101, 114, 115, 46, 95, 95, 108, 101, 110, 95, 95]⟩⟩ 797, .str ⟨⟨[47, 99, 108, 97, 105, 109, 47, 99, 117, 116, 46, 112, 121]⟩⟩ 798, .int 61 0, .int 1 0, .int 0 0, .int 0 0, .int 3 0, .ref 162, .bool true, .int 276 0, .ref 163, .none, .ref 164, .ref 165, .ref 166, .int 800 0, .int 61 0, .str ⟨⟨[47, 99, 108, 97, 105, 109, 47, 99, 117, 116, 46, 112, 121]⟩⟩ 801]⟩, ⟨[]⟩⟩
noncomputable def ob193 (b : Bool) (P : Params) : Obj := ⟨.type "function", none, .func { name := ⟨⟨[95, 95, 108, 101, 110, 95, 95]⟩⟩, qualname := ⟨⟨[72, 101, 97, 100, 101, 114, 115, 46, 95, 95, 108, 101, 110, 95, 95]⟩⟩, params := fnP (meth 2), body := .stmts (fnB (meth 2)), scope := fnS (meth 2), globals := 3, closure := [], defaults := .none, kwdefaults := .none, doc := .none, pyModule := .str ⟨⟨[99, 112, 121, 51, 49, 51, 46, 119, 115, 103, 105, 114, 101, 102, 46, 104, 101, 97, 100, 101, 114, 115]⟩⟩ 658, annotations := none, code := .ref 167, closureTuple := .none, builtins := 0 }, ⟨[]⟩⟩
noncomputable def ob194 (b : Bool) (P : Params) : Obj := ⟨.type "tuple", none, .seq ⟨[.str ⟨⟨[115, 101, 108, 102]⟩⟩ 806, .str ⟨⟨[110, 97, 109, 101]⟩⟩ 807, .str ⟨⟨[118, 97, 108]⟩⟩ 808]⟩ 0, ⟨[]⟩⟩
noncomputable def ob195 (b : Bool) (P : Params) : Obj := ⟨.none, none, .func { name := ⟨⟨[95, 95, 115, 101, 116, 105, 116, 101, 109, 95, 95]⟩⟩, qualname := ⟨⟨[72, 101, 97, 100, 101, 114, 115, 46, 95, 95, 115, 101, 116, 105, 116, 101, 109, 95, 95]⟩⟩, params := fnP (meth 3), body := .stmts (fnB (meth 3)), scope := fnS (meth 3), globals := 0, closure := [], defaults := .none, kwdefaults := .none, doc := .none, pyModule := .none, annotations := none, code := .none, closureTuple := .none, builtins := 0 }, ⟨[]⟩⟩
noncomputable def ob196 (b : Bool) (P : Params) : Obj := ⟨.type "code", none, .fields ⟨[.str ⟨⟨[95, 95, 115, 101, 116, 105, 116, 101, 109, 95, 95]⟩⟩ 803, .str ⟨⟨[72, 101, 97, 100, 101, 114, 115, 46, 95, 95, 115, 101, 116, 105, 116, 101, 109, 95, 95]⟩⟩ 804, .str ⟨⟨[47, 99, 108, 97, 105, 109, 47, 99, 117, 116, 46, 112, 121]⟩⟩ 805, .int 64 0, .int 3 0, .int 0 0, .int 0 0, .int 3 0, .ref 169, .bool true, .int 276 0, .ref 170, .none, .ref 171, .ref 172, .ref 173, .int 809 0, .int 64 0, .str ⟨⟨[47, 99, 108, 97, 105, 109, 47, 99, 117, 116, 46, 112, 121]⟩⟩ 810]⟩, ⟨[]⟩⟩
noncomputable def ob197 (b : Bool) (P : Params) : Obj := ⟨.type "function", none, .func { name := ⟨⟨[95, 95, 115, 101, 116, 105, 116, 101, 109, 95, 95]⟩⟩, qualname := ⟨⟨[72, 101, 97, 100, 101, 114, 115, 46, 95, 95, 115, 101, 116, 105, 116, 101, 109, 95, 95]⟩⟩, params := fnP (meth 3), body := .stmts (fnB (meth 3)), scope := fnS (meth 3), globals := 3, closure := [], defaults := .none, kwdefaults := .none, doc := .none, pyModule := .str ⟨⟨[99, 112, 121, 51, 49, 51, 46, 119, 115, 103, 105, 114, 101, 102, 46, 104, 101, 97, 100, 101, 114, 115]⟩⟩ 658, annotations := none, code := .ref 174, closureTuple := .none, builtins := 0 }, ⟨[]⟩⟩
noncomputable def ob198 (b : Bool) (P : Params) : Obj := ⟨.none, none, .func { name := ⟨⟨[95, 95, 100, 101, 108, 105, 116, 101, 109, 95, 95]⟩⟩, qualname := ⟨⟨[72, 101, 97, 100, 101, 114, 115, 46, 95, 95, 100, 101, 108, 105, 116, 101, 109, 95, 95]⟩⟩, params := fnP (meth 4), body := .stmts (fnB (meth 4)), scope := fnS (meth 4), globals := 0, closure := [], defaults := .none, kwdefaults := .none, doc := .none, pyModule := .none, annotations := none, code := .none, closureTuple := .none, builtins := 0 }, ⟨[]⟩⟩
noncomputable def ob199 (b : Bool) (P : Params) : Obj := ⟨.type "code", none, .fields ⟨[.str ⟨⟨[95, 95, 100, 101, 108, 105, 116, 101, 109, 95, 95]⟩⟩ 812, .str ⟨⟨[72, 101, 97, 100, 101, 114, 115, 46, 95, 95, 100, 101, 108, 105, 116, 101, 109, 95, 95]⟩⟩ 813, .str ⟨⟨[47, 99, 108, 97, 105, 109, 47, 99, 117, 116, 46, 112, 121]⟩⟩ 814, .int 68 0, .int 2 0, .int 0 0, .int 0 0, .int 3 0, .ref 176, .bool true, .int 276 0, .ref 177, .none, .none, .none, .ref 178, .int 815 0, .int 68 0, .str ⟨⟨[47, 99, 108, 97, 105, 109, 47, 99, 117, 116, 46, 112, 121]⟩⟩ 816]⟩, ⟨[]⟩⟩
noncomputable def ob200 (b : Bool) (P : Params) : Obj := ⟨.type "function", none, .func { name := ⟨⟨[95, 95, 100, 101, 108, 105, 116, 101, 109, 95, 95]⟩⟩, qualname := ⟨⟨[72, 101, 97, 100, 101, 114, 115, 46, 95, 95, 100, 101, 108, 105, 116, 101, 109, 95, 95]⟩⟩, params := fnP (meth 4), body := .stmts (fnB (meth 4)), scope := fnS (meth 4), globals := 3, closure := [], defaults := .none, kwdefaults := .none, doc := .none, pyModule := .str ⟨⟨[99, 112, 121, 51, 49, 51, 46, 119, 115, 103, 105, 114, 101, 102, 46, 104, 101, 97, 100, 101, 114, 115]⟩⟩ 658, annotations := none, code := .ref 179, closureTuple := .none, builtins := 0 }, ⟨[]⟩⟩
noncomputable def ob201 (b : Bool) (P : Params) : Obj := ⟨.type "tuple", none, .seq ⟨[.str ⟨⟨[115, 101, 108, 102]⟩⟩ 821, .str ⟨⟨[110, 97, 109, 101]⟩⟩ 822]⟩ 0, ⟨[]⟩⟩
noncomputable def ob202 (b : Bool) (P : Params) : Obj := ⟨.none, none, .func { name := ⟨⟨[95, 95, 103, 101, 116, 105, 116, 101, 109, 95, 95]⟩⟩, qualname := ⟨⟨[72, 101, 97, 100, 101, 114, 115, 46, 95, 95, 103, 101, 116, 105, 116, 101, 109, 95, 95]⟩⟩, params := fnP (meth 5), body := .stmts (fnB (meth 5)), scope := fnS (meth 5), globals := 0, closure := [], defaults := .none, kwdefaults := .none, doc := .none, pyModule := .none, annotations := none, code := .none, closureTuple := .none, builtins := 0 }, ⟨[]⟩⟩
noncomputable def ob203 (b : Bool) (P : Params) : Obj := ⟨.type "code", none, .fields ⟨[.str ⟨⟨[95, 95, 103, 101, 116, 105, 116, 101, 109, 95, 95]⟩⟩ 818, .str ⟨⟨[72, 101, 97, 100, 101, 114, 115, 46, 95, 95, 103, 101, 116, 105, 116, 101, 109, 95, 95]⟩⟩ 819, .str ⟨⟨[47, 99, 108, 97, 105, 109, 47, 99, 117, 116, 46, 112, 121]⟩⟩ 820, .int 72 0, .int 2 0, .int 0 0, .int 0 0, .int 3 0, .ref 181, .bool true, .int 276 0, .ref 182, .none, .ref 183, .ref 184, .ref 185, .int 823 0, .int 72 0, .str ⟨⟨[47, 99, 108, 97, 105, 109, 47, 99, 117, 116, 46, 112, 121]⟩⟩ 824]⟩, ⟨[]⟩⟩
noncomputable def ob204 (b : Bool) (P : Params) : Obj := ⟨.type "function", none, .func { name := ⟨⟨[95, 95, 103, 101, 116, 105, 116, 101, 109, 95, 95]⟩⟩, qualname := ⟨⟨[72, 101, 97, 100, 101, 114, 115, 46, 95, 95, 103, 101, 116, 105, 116, 101, 109, 95, 95]⟩⟩, params := fnP (meth 5), body := .stmts (fnB (meth 5)), scope := fnS (meth 5), globals := 3, closure := [], defaults := .none, kwdefaults := .none, doc := .none, pyModule := .str ⟨⟨[99, 112, 121, 51, 49, 51, 46, 119, 115, 103, 105, 114, 101, 102, 46, 104, 101, 97, 100, 101, 114, 115]⟩⟩ 658, annotations := none, code := .ref 186, closureTuple := .none, builtins := 0 }, ⟨[]⟩⟩
noncomputable def ob205 (b : Bool) (P : Params) : Obj := ⟨.type "tuple", none, .seq ⟨[.str ⟨⟨[115, 101, 108, 102]⟩⟩ 829, .str ⟨⟨[110, 97, 109, 101]⟩⟩ 830]⟩ 0, ⟨[]⟩⟩
noncomputable def ob206 (b : Bool) (P : Params) : Obj := ⟨.none, none, .func { name := ⟨⟨[95, 95, 99, 111, 110, 116, 97, 105, 110, 115, 95, 95]⟩⟩, qualname := ⟨⟨[72, 101, 97, 100, 101, 114, 115, 46, 95, 95, 99, 111, 110, 116, 97, 105, 110, 115, 95, 95]⟩⟩, params := fnP (meth 6), body := .stmts (fnB (meth 6)), scope := fnS (meth 5), globals := 0, closure := [], defaults := .none, kwdefaults := .none, doc := .none, pyModule := .none, annotations := none, code := .none, closureTuple := .none, builtins := 0 }, ⟨[]⟩⟩
noncomputable def ob207 (b : Bool) (P : Params) : Obj := ⟨.type "code", none, .fields ⟨[.str ⟨⟨[95, 95, 99, 111, 110, 116, 97, 105, 110, 115, 95, 95]⟩⟩ 826, .str ⟨⟨[72, 101, 97, 100, 101, 114, 115, 46, 95, 95, 99, 111, 110, 116, 97, 105, 110, 115, 95, 95]⟩⟩ 827, .str ⟨⟨[47, 99, 108, 97, 105, 109, 47, 99, 117, 116, 46, 112, 121]⟩⟩ 828, .int 75 0, .int 2 0, .int 0 0, .int 0 0, .int 3 0, .ref 188, .bool true, .int 276 0, .ref 189, .none, .ref 190, .ref 191, .ref 192, .int 831 0, .int 75 0, .str ⟨⟨[47, 99, 108, 97, 105, 109, 47, 99, 117, 116, 46, 112, 121]⟩⟩ 832]⟩, ⟨[]⟩⟩
noncomputable def ob208 (b : Bool) (P : Params) : Obj := ⟨.type "function", none, .func { name := ⟨⟨[95, 95, 99, 111, 110, 116, 97, 105, 110, 115, 95, 95]⟩⟩, qualname := ⟨⟨[72, 101, 97, 100, 101, 114, 115, 46, 95, 95, 99, 111, 110, 116, 97, 105, 110, 115, 95, 95]⟩⟩, params := fnP (meth 6), body := .stmts (fnB (meth 6)), scope := fnS (meth 5), globals := 3, closure := [], defaults := .none, kwdefaults := .none, doc := .none, pyModule := .str ⟨⟨[99, 112, 121, 51, 49, 51, 46, 119, 115, 103, 105, 114, 101, 102, 46, 104, 101, 97, 100, 101, 114, 115]⟩⟩ 658, annotations := none, code := .ref 193, closureTuple := .none, builtins := 0 }, ⟨[]⟩⟩
noncomputable def ob209 (b : Bool) (P : Params) : Obj := ⟨.none, none, .func { name := ⟨⟨[103, 101, 116, 95, 97, 108, 108]⟩⟩, qualname := ⟨⟨[72, 101, 97, 100, 101, 114, 115, 46, 103, 101, 116, 95, 97, 108, 108]⟩⟩, params := fnP (meth 7), body := .stmts (fnB (meth 7)), scope := fnS (meth 4), globals := 0, closure := [], defaults := .none, kwdefaults := .none, doc := .none, pyModule := .none, annotations := none, code := .none, closureTuple := .none, builtins := 0 }, ⟨[]⟩⟩
noncomputable def ob210 (b : Bool) (P : Params) : Obj := ⟨.type "code", none, .fields ⟨[.str ⟨⟨[103, 101, 116, 95, 97, 108, 108]⟩⟩ 834, .str ⟨⟨[72, 101, 97, 100, 101, 114, 115, 46, 103, 101, 116, 95, 97, 108, 108]⟩⟩ 835, .str ⟨⟨[47, 99, 108, 97, 105, 109, 47, 99, 117, 116, 46, 112, 121]⟩⟩ 836, .int 78 0, .int 2 0, .int 0 0, .int 0 0, .int 3 0, .ref 195, .bool true, .int 276 0, .ref 196, .none, .none, .none, .ref 197, .int 837 0, .int 78 0, .str ⟨⟨[47, 99, 108, 97, 105, 109, 47, 99, 117, 116, 46, 112, 121]⟩⟩ 838]⟩, ⟨[]⟩⟩
noncomputable def ob211 (b : Bool) (P : Params) : Obj := ⟨.type "function", none, .func { name := ⟨⟨[103, 101, 116, 95, 97, 108, 108]⟩⟩, qualname := ⟨⟨[72, 101, 97, 100, 101, 114, 115, 46, 103, 101, 116, 95, 97, 108, 108]⟩⟩, params := fnP (meth 7), body := .stmts (fnB (meth 7)), scope := fnS (meth 4), globals := 3, closure := [], defaults := .none, kwdefaults := .none, doc := .none, pyModule := .str ⟨⟨[99, 112, 121, 51, 49, 51, 46, 119, 115, 103, 105, 114, 101, 102, 46, 104, 101, 97, 100, 101, 114, 115]⟩⟩ 658, annotations := none, code := .ref 198, closureTuple := .none, builtins := 0 }, ⟨[]⟩⟩
noncomputable def ob212 (b : Bool) (P : Params) : Obj := ⟨.type "tuple", none, .seq ⟨[.str ⟨⟨[115, 101, 108, 102]⟩⟩ 843, .str ⟨⟨[110, 97, 109, 101]⟩⟩ 844, .str ⟨⟨[100, 101, 102, 97, 117, 108, 116]⟩⟩ 845, .str ⟨⟨[107]⟩⟩ 846, .str ⟨⟨[118]⟩⟩ 847]⟩ 0, ⟨[]⟩⟩
noncomputable def ob213 (b : Bool) (P : Params) : Obj := ⟨.none, none, .func { name := ⟨⟨[103, 101, 116]⟩⟩, qualname := ⟨⟨[72, 101, 97, 100, 101, 114, 115, 46, 103, 101, 116]⟩⟩, params := fnP (meth 8), body := .stmts (fnB (meth 8)), scope := fnS (meth 8), globals := 0, closure := [], defaults := .none, kwdefaults := .none, doc := .none, pyModule := .none, annotations := none, code := .none, closureTuple := .none, builtins := 0 }, ⟨[]⟩⟩
noncomputable def ob214 (b : Bool) (P : Params) : Obj := ⟨.type "code", none, .fields ⟨[.str ⟨⟨[103, 101, 116]⟩⟩ 840, .str ⟨⟨[72, 101, 97, 100, 101, 114, 115, 46, 103, 101, 116]⟩⟩ 841, .str ⟨⟨[47, 99, 108, 97, 105, 109, 47, 99, 117, 116, 46, 112, 121]⟩⟩ 842, .int 82 0, .int 3 0, .int 0 0, .int 0 0, .int 3 0, .ref 201, .bool true, .int 276 0, .ref 202, .none, .ref 203, .ref 204, .ref 205, .int 848 0, .int 82 0, .str ⟨⟨[47, 99, 108, 97, 105, 109, 47, 99, 117, 116, 46, 112, 121]⟩⟩ 849]⟩, ⟨[]⟩⟩
noncomputable def ob215 (b : Bool) (P : Params) : Obj := ⟨.type "function", none, .func { name := ⟨⟨[103, 101, 116]⟩⟩, qualname := ⟨⟨[72, 101, 97, 100, 101, 114, 115, 46, 103, 101, 116]⟩⟩, params := fnP (meth 8), body := .stmts (fnB (meth 8)), scope := fnS (meth 8), globals := 3, closure := [], defaults := .ref 200, kwdefaults := .none, doc := .none, pyModule := .str ⟨⟨[99, 112, 121, 51, 49, 51, 46, 119, 115, 103, 105, 114, 101, 102, 46, 104, 101, 97, 100, 101, 114, 115]⟩⟩ 658, annotations := none, code := .ref 206, closureTuple := .none, builtins := 0 }, ⟨[]⟩⟩
noncomputable def ob216 (b : Bool) (P : Params) : Obj := ⟨.none, none, .func { name := ⟨⟨[107, 101, 121, 115]⟩⟩, qualname := ⟨⟨[72, 101, 97, 100, 101, 114, 115, 46, 107, 101, 121, 115]⟩⟩, params := fnP (meth 9), body := .stmts (fnB (meth 9)), scope := fnS (meth 9), globals := 0, closure := [], defaults := .none, kwdefaults := .none, doc := .none, pyModule := .none, annotations := none, code := .none, closureTuple := .none, builtins := 0 }, ⟨[]⟩⟩
noncomputable def ob217 (b : Bool) (P : Params) : Obj := ⟨.type "code", none, .fields ⟨[.str ⟨⟨[107, 101, 121, 115]⟩⟩ 851, .str ⟨⟨[72, 101, 97, 100, 101, 114, 115, 46, 107, 101, 121, 115]⟩⟩ 852, .str ⟨⟨[47, 99, 108, 97, 105, 109, 47, 99, 117, 116, 46, 112, 121]⟩⟩ 853, .int 89 0, .int 1 0, .int 0 0, .int 0 0, .int 3 0, .ref 208, .bool true, .int 276 0, .ref 209, .none, .none, .none, .ref 210, .int 854 0, .int 89 0, .str ⟨⟨[47, 99, 108, 97, 105, 109, 47, 99, 117, 116, 46, 112, 121]⟩⟩ 855]⟩, ⟨[]⟩⟩
noncomputable def ob218 (b : Bool) (P : Params) : Obj := ⟨.type "function", none, .func { name := ⟨⟨[107, 101, 121, 115]⟩⟩, qualname := ⟨⟨[72, 101, 97, 100, 101, 114, 115, 46, 107, 101, 121, 115]⟩⟩, params := fnP (meth 9), body := .stmts (fnB (meth 9)), scope := fnS (meth 9), globals := 3, closure := [], defaults := .none, kwdefaults := .none, doc := .none, pyModule := .str ⟨⟨[99, 112, 121, 51, 49, 51, 46, 119, 115, 103, 105, 114, 101, 102, 46, 104, 101, 97, 100, 101, 114, 115]⟩⟩ 658, annotations := none, code := .ref 211, closureTuple := .none, builtins := 0 }, ⟨[]⟩⟩
noncomputable def ob219 (b : Bool) (P : Params) : Obj := ⟨.none, none, .func { name := ⟨⟨[118, 97, 108, 117, 101, 115]⟩⟩, qualname := ⟨⟨[72, 101, 97, 100, 101, 114, 115, 46, 118, 97, 108, 117, 101, 115]⟩⟩, params := fnP (meth 10), body := .stmts (fnB (meth 10)), scope := fnS (meth 9), globals := 0, closure := [], defaults := .none, kwdefaults := .none, doc := .none, pyModule := .none, annotations := none, code := .none, closureTuple := .none, builtins := 0 }, ⟨[]⟩⟩
noncomputable def ob220 (b : Bool) (P : Params) : Obj := ⟨.type "code", none, .fields ⟨[.str ⟨⟨[118, 97, 108, 117, 101, 115]⟩⟩ 857, .str ⟨⟨[72, 101, 97, 100, 101, 114, 115, 46, 118, 97, 108, 117, 101, 115]⟩⟩ 858, .str ⟨⟨[47, 99, 108, 97, 105, 109, 47, 99, 117, 116, 46, 112, 121]⟩⟩ 859, .int 92 0, .int 1 0, .int 0 0, .int 0 0, .int 3 0, .ref 213, .bool true, .int 276 0, .ref 214, .none, .none, .none, .ref 215, .int 860 0, .int 92 0, .str ⟨⟨[47, 99, 108, 97, 105, 109, 47, 99, 117, 116, 46, 112, 121]⟩⟩ 861]⟩, ⟨[]⟩⟩
noncomputable def ob221 (b : Bool) (P : Params) : Obj := ⟨.type "function", none, .func { name := ⟨⟨[118, 97, 108, 117, 101, 115]⟩⟩, qualname := ⟨⟨[72, 101, 97, 100, 101, 114, 115, 46, 118, 97, 108, 117, 101, 115]⟩⟩, params := fnP (meth 10), body := .stmts (fnB (meth 10)), scope := fnS (meth 9), globals := 3, closure := [], defaults := .none, kwdefaults := .none, doc := .none, pyModule := .str ⟨⟨[99, 112, 121, 51, 49, 51, 46, 119, 115, 103, 105, 114, 101, 102, 46, 104, 101, 97, 100, 101, 114, 115]⟩⟩ 658, annotations := none, code := .ref 216, closureTuple := .none, builtins := 0 }, ⟨[]⟩⟩
noncomputable def ob222 (b : Bool) (P : Params) : Obj := ⟨.type "tuple", none, .seq ⟨[.str ⟨⟨[115, 101, 108, 102]⟩⟩ 866]⟩ 0, ⟨[]⟩⟩
noncomputable def ob223 (b : Bool) (P : Params) : Obj := ⟨.none, none, .func { name := ⟨⟨[105, 116, 101, 109, 115]⟩⟩, qualname := ⟨⟨[72, 101, 97, 100, 101, 114, 115, 46, 105, 116, 101, 109, 115]⟩⟩, params := fnP (meth 11), body := .stmts (fnB (meth 11)), scope := fnS (meth 11), globals := 0, closure := [], defaults := .none, kwdefaults := .none, doc := .none, pyModule := .none, annotations := none, code := .none, closureTuple := .none, builtins := 0 }, ⟨[]⟩⟩
noncomputable def ob224 (b : Bool) (P : Params) : Obj := ⟨.type "code", none, .fields ⟨[.str ⟨⟨[105, 116, 101, 109, 115]⟩⟩ 863, .str ⟨⟨[72, 101, 97, 100, 101, 114, 115, 46, 105, 116, 101, 109, 115]⟩⟩ 864, .str ⟨⟨[47, 99, 108, 97, 105, 109, 47, 99, 117, 116, 46, 112, 121]⟩⟩ 865, .int 95 0, .int 1 0, .int 0 0, .int 0 0, .int 3 0, .ref 218, .bool true, .int 276 0, .ref 219, .none, .ref 220, .ref 221, .ref 222, .int 867 0, .int 95 0, .str ⟨⟨[47, 99, 108, 97, 105, 109, 47, 99, 117, 116, 46, 112, 121]⟩⟩ 868]⟩, ⟨[]⟩⟩
noncomputable def ob225 (b : Bool) (P : Params) : Obj := ⟨.type "function", none, .func { name := ⟨⟨[105, 116, 101, 109, 115]⟩⟩, qualname := ⟨⟨[72, 101, 97, 100, 101, 114, 115, 46, 105, 116, 101, 109, 115]⟩⟩, params := fnP (meth 11), body := .stmts (fnB (meth 11)), scope := fnS (meth 11), globals := 3, closure := [], defaults := .none, kwdefaults := .none, doc := .none, pyModule := .str ⟨⟨[99, 112, 121, 51, 49, 51, 46, 119, 115, 103, 105, 114, 101, 102, 46, 104, 101, 97, 100, 101, 114, 115]⟩⟩ 658, annotations := none, code := .ref 223, closureTuple := .none, builtins := 0 }, ⟨[]⟩⟩
noncomputable def ob226 (b : Bool) (P : Params) : Obj := ⟨.type "tuple", none, .seq ⟨[.str ⟨⟨[115, 101, 108, 102]⟩⟩ 873]⟩ 0, ⟨[]⟩⟩
noncomputable def ob227 (b : Bool) (P : Params) : Obj := ⟨.none, none, .func { name := ⟨⟨[95, 95, 114, 101, 112, 114, 95, 95]⟩⟩, qualname := ⟨⟨[72, 101, 97, 100, 101, 114, 115, 46, 95, 95, 114, 101, 112, 114, 95, 95]⟩⟩, params := fnP (meth 12), body := .stmts (fnB (meth 12)), scope := fnS (meth 11), globals := 0, closure := [], defaults := .none, kwdefaults := .none, doc := .none, pyModule := .none, annotations := none, code := .none, closureTuple := .none, builtins := 0 }, ⟨[]⟩⟩
noncomputable def ob228 (b : Bool) (P : Params) : Obj := ⟨.type "code", none, .fields ⟨[.str ⟨⟨[95, 95, 114, 101, 112, 114, 95, 95]⟩⟩ 870, .str ⟨⟨[72, 101, 97, 100, 101, 114, 115, 46, 95, 95, 114, 101, 112, 114, 95, 95]⟩⟩ 871, .str ⟨⟨[47, 99, 108, 97, 105, 109, 47, 99, 117, 116, 46, 112, 121]⟩⟩ 872, .int 98 0, .int 1 0, .int 0 0, .int 0 0, .int 3 0, .ref 225, .bool true, .int 276 0, .ref 226, .none, .ref 227, .ref 228, .ref 229, .int 874 0, .int 98 0, .str ⟨⟨[47, 99, 108, 97, 105, 109, 47, 99, 117, 116, 46, 112, 121]⟩⟩ 875]⟩, ⟨[]⟩⟩
noncomputable def ob229 (b : Bool) (P : Params) : Obj := ⟨.type "function", none, .func { name := ⟨⟨[95, 95, 114, 101, 112, 114, 95, 95]⟩⟩, qualname := ⟨⟨[72, 101, 97, 100, 101, 114, 115, 46, 95, 95, 114, 101, 112, 114, 95, 95]⟩⟩, params := fnP (meth 12), body := .stmts (fnB (meth 12)), scope := fnS (meth 11), globals := 3, closure := [], defaults := .none, kwdefaults := .none, doc := .none, pyModule := .str ⟨⟨[99, 112, 121, 51, 49, 51, 46, 119, 115, 103, 105, 114, 101, 102, 46, 104, 101, 97, 100, 101, 114, 115]⟩⟩ 658, annotations := none, code := .ref 230, closureTuple := .none, builtins := 0 }, ⟨[]⟩⟩
noncomputable def ob230 (b : Bool) (P : Params) : Obj := ⟨.none, none, .func { name := ⟨⟨[95, 95, 115, 116, 114, 95, 95]⟩⟩, qualname := ⟨⟨[72, 101, 97, 100, 101, 114, 115, 46, 95, 95, 115, 116, 114, 95, 95]⟩⟩, params := fnP (meth 13), body := .stmts (fnB (meth 13)), scope := fnS (meth 13), globals := 0, closure := [], defaults := .none, kwdefaults := .none, doc := .none, pyModule := .none, annotations := none, code := .none, closureTuple := .none, builtins := 0 }, ⟨[]⟩⟩
noncomputable def ob231 (b : Bool) (P : Params) : Obj := ⟨.type "code", none, .fields ⟨[.str ⟨⟨[95, 95, 115, 116, 114, 95, 95]⟩⟩ 877, .str ⟨⟨[72, 101, 97, 100, 101, 114, 115, 46, 95, 95, 115, 116, 114, 95, 95]⟩⟩ 878, .str ⟨⟨[47, 99, 108, 97, 105, 109, 47, 99, 117, 116, 46, 112, 121]⟩⟩ 879, .int 101 0, .int 1 0, .int 0 0, .int 0 0, .int 3 0, .ref 232, .bool true, .int 276 0, .ref 233, .none, .none, .none, .ref 234, .int 880 0, .int 101 0, .str ⟨⟨[47, 99, 108, 97, 105, 109, 47, 99, 117, 116, 46, 112, 121]⟩⟩ 881]⟩, ⟨[]⟩⟩
noncomputable def ob232 (b : Bool) (P : Params) : Obj := ⟨.type "function", none, .func { name := ⟨⟨[95, 95, 115, 116, 114, 95, 95]⟩⟩, qualname := ⟨⟨[72, 101, 97, 100, 101, 114, 115, 46, 95, 95, 115, 116, 114, 95, 95]⟩⟩, params := fnP (meth 13), body := .stmts (fnB (meth 13)), scope := fnS (meth 13), globals := 3, closure := [], defaults := .none, kwdefaults := .none, doc := .none, pyModule := .str ⟨⟨[99, 112, 121, 51, 49, 51, 46, 119, 115, 103, 105, 114, 101, 102, 46, 104, 101, 97, 100, 101, 114, 115]⟩⟩ 658, annotations := none, code := .ref 235, closureTuple := .none, builtins := 0 }, ⟨[]⟩⟩
noncomputable def ob233 (b : Bool) (P : Params) : Obj := ⟨.type "tuple", none, .seq ⟨[.str ⟨⟨[115, 101, 108, 102]⟩⟩ 886]⟩ 0, ⟨[]⟩⟩
noncomputable def ob234 (b : Bool) (P : Params) : Obj := ⟨.none, none, .func { name := ⟨⟨[95, 95, 98, 121, 116, 101, 115, 95, 95]⟩⟩, qualname := ⟨⟨[72, 101, 97, 100, 101, 114, 115, 46, 95, 95, 98, 121, 116, 101, 115, 95, 95]⟩⟩, params := fnP (meth 14), body := .stmts (fnB (meth 14)), scope := fnS (meth 14), globals := 0, closure := [], defaults := .none, kwdefaults := .none, doc := .none, pyModule := .none, annotations := none, code := .none, closureTuple := .none, builtins := 0 }, ⟨[]⟩⟩
noncomputable def ob235 (b : Bool) (P : Params) : Obj := ⟨.type "code", none, .fields ⟨[.str ⟨⟨[95, 95, 98, 121, 116, 101, 115, 95, 95]⟩⟩ 883, .str ⟨⟨[72, 101, 97, 100, 101, 114, 115, 46, 95, 95, 98, 121, 116, 101, 115, 95, 95]⟩⟩ 884, .str ⟨⟨[47, 99, 108, 97, 105, 109, 47, 99, 117, 116, 46, 112, 121]⟩⟩ 885, .int 104 0, .int 1 0, .int 0 0, .int 0 0, .int 3 0, .ref 237, .bool true, .int 276 0, .ref 238, .none, .ref 239, .ref 240, .ref 241, .int 887 0, .int 104 0, .str ⟨⟨[47, 99, 108, 97, 105, 109, 47, 99, 117, 116, 46, 112, 121]⟩⟩ 888]⟩, ⟨[]⟩⟩
noncomputable def ob236 (b : Bool) (P : Params) : Obj := ⟨.type "function", none, .func { name := ⟨⟨[95, 95, 98, 121, 116, 101, 115, 95, 95]⟩⟩, qualname := ⟨⟨[72, 101, 97, 100, 101, 114, 115, 46, 95, 95, 98, 121, 116, 101, 115, 95, 95]⟩⟩, params := fnP (meth 14), body := .stmts (fnB (meth 14)), scope := fnS (meth 14), globals := 3, closure := [], defaults := .none, kwdefaults := .none, doc := .none, pyModule := .str ⟨⟨[99, 112, 121, 51, 49, 51, 46, 119, 115, 103, 105, 114, 101, 102, 46, 104, 101, 97, 100, 101, 114, 115]⟩⟩ 658, annotations := none, code := .ref 242, closureTuple := .none, builtins := 0 }, ⟨[]⟩⟩
noncomputable def ob237 (b : Bool) (P : Params) : Obj := ⟨.type "tuple", none, .seq ⟨[.str ⟨⟨[115, 101, 108, 102]⟩⟩ 893, .str ⟨⟨[110, 97, 109, 101]⟩⟩ 894, .str ⟨⟨[118, 97, 108, 117, 101]⟩⟩ 895]⟩ 0, ⟨[]⟩⟩
noncomputable def ob238 (b : Bool) (P : Params) : Obj := ⟨.none, none, .func { name := ⟨⟨[115, 101, 116, 100, 101, 102, 97, 117, 108, 116]⟩⟩, qualname := ⟨⟨[72, 101, 97, 100, 101, 114, 115, 46, 115, 101, 116, 100, 101, 102, 97, 117, 108, 116]⟩⟩, params := fnP (meth 15), body := .stmts (fnB (meth 15)), scope := fnS (meth 15), globals := 0, closure := [], defaults := .none, kwdefaults := .none, doc := .none, pyModule := .none, annotations := none, code := .none, closureTuple := .none, builtins := 0 }, ⟨[]⟩⟩
noncomputable def ob239 (b : Bool) (P : Params) : Obj := ⟨.type "code", none, .fields ⟨[.str ⟨⟨[115, 101, 116, 100, 101, 102, 97, 117, 108, 116]⟩⟩ 890, .str ⟨⟨[72, 101, 97, 100, 101, 114, 115, 46, 115, 101, 116, 100, 101, 102, 97, 117, 108, 116]⟩⟩ 891, .str ⟨⟨[47, 99, 108, 97, 105, 109, 47, 99, 117, 116, 46, 112, 121]⟩⟩ 892, .int 107 0, .int 3 0, .int 0 0, .int 0 0, .int 3 0, .ref 244, .bool true, .int 276 0, .ref 245, .none, .ref 246, .ref 247, .ref 248, .int 896 0, .int 107 0, .str ⟨⟨[47, 99, 108, 97, 105, 109, 47, 99, 117, 116, 46, 112, 121]⟩⟩ 897]⟩, ⟨[]⟩⟩
noncomputable def ob240 (b : Bool) (P : Params) : Obj := ⟨.type "function", none, .func { name := ⟨⟨[115, 101, 116, 100, 101, 102, 97, 117, 108, 116]⟩⟩, qualname := ⟨⟨[72, 101, 97, 100, 101, 114, 115, 46, 115, 101, 116, 100, 101, 102, 97, 117, 108, 116]⟩⟩, params := fnP (meth 15), body := .stmts (fnB (meth 15)), scope := fnS (meth 15), globals := 3, closure := [], defaults := .none, kwdefaults := .none, doc := .none, pyModule := .str ⟨⟨[99, 112, 121, 51, 49, 51, 46, 119, 115, 103, 105, 114, 101, 102, 46, 104, 101, 97, 100, 101, 114, 115]⟩⟩ 658, annotations := none, code := .ref 249, closureTuple := .none, builtins := 0 }, ⟨[]⟩⟩
noncomputable def ob241 (b : Bool) (P : Params) : Obj := ⟨.type "tuple", none, .seq ⟨[.str ⟨⟨[115, 101, 108, 102]⟩⟩ 902, .str ⟨⟨[95, 110, 97, 109, 101]⟩⟩ 903, .str ⟨⟨[95, 118, 97, 108, 117, 101]⟩⟩ 904, .str ⟨⟨[95, 112, 97, 114, 97, 109, 115]⟩⟩ 905, .str ⟨⟨[112, 97, 114, 116, 115]⟩⟩ 906, .str ⟨⟨[107]⟩⟩ 907, .str ⟨⟨[118]⟩⟩ 908]⟩ 0, ⟨[]⟩⟩
noncomputable def ob242 (b : Bool) (P : Params) : Obj := ⟨.none, none, .func { name := ⟨⟨[97, 100, 100, 95, 104, 101, 97, 100, 101, 114]⟩⟩, qualname := ⟨⟨[72, 101, 97, 100, 101, 114, 115, 46, 97, 100, 100, 95, 104, 101, 97, 100, 101, 114]⟩⟩, params := fnP (meth 16), body := .stmts (fnB (meth 16)), scope := fnS (meth 16), globals := 0, closure := [], defaults := .none, kwdefaults := .none, doc := .none, pyModule := .none, annotations := none, code := .none, closureTuple := .none, builtins := 0 }, ⟨[]⟩⟩
noncomputable def ob243 (b : Bool) (P : Params) : Obj := ⟨.type "code", none, .fields ⟨[.str ⟨⟨[97, 100, 100, 95, 104, 101, 97, 100, 101, 114]⟩⟩ 899, .str ⟨⟨[72, 101, 97, 100, 101, 114, 115, 46, 97, 100, 100, 95, 104, 101, 97, 100, 101, 114]⟩⟩ 900, .str ⟨⟨[47, 99, 108, 97, 105, 109, 47, 99, 117, 116, 46, 112, 121]⟩⟩ 901, .int 110 0, .int 3 0, .int 0 0, .int 0 0, .int 11 0, .ref 251, .bool true, .int 276 0, .ref 252, .none, .ref 253, .ref 254, .ref 255, .int 909 0, .int 110 0, .str ⟨⟨[47, 99, 108, 97, 105, 109, 47, 99, 117, 116, 46, 112, 121]⟩⟩ 910]⟩, ⟨[]⟩⟩
noncomputable def ob244 (b : Bool) (P : Params) : Obj := ⟨.type "function", none, .func { name := ⟨⟨[97, 100, 100, 95, 104, 101, 97, 100, 101, 114]⟩⟩, qualname := ⟨⟨[72, 101, 97, 100, 101, 114, 115, 46, 97, 100, 100, 95, 104, 101, 97, 100, 101, 114]⟩⟩, params := fnP (meth 16), body := .stmts (fnB (meth 16)), scope := fnS (meth 16), globals := 3, closure := [], defaults := .none, kwdefaults := .none, doc := .none, pyModule := .str ⟨⟨[99, 112, 121, 51, 49, 51, 46, 119, 115, 103, 105, 114, 101, 102, 46, 104, 101, 97, 100, 101, 114, 115]⟩⟩ 658, annotations := none, code := .ref 256, closureTuple := .none, builtins := 0 }, ⟨[]⟩⟩
noncomputable def ob245 (b : Bool) (P : Params) : Obj := ⟨.type "tuple", none, .seq ⟨[.str ⟨⟨[95, 104, 101, 97, 100, 101, 114, 115]⟩⟩ 912]⟩ 0, ⟨[]⟩⟩
noncomputable def ob246 (b : Bool) (P : Params) : Obj := ⟨.type "dict", none, .dict ⟨[en P ⟨⟨[95, 95, 109, 111, 100, 117, 108, 101, 95, 95]⟩⟩ 771 (.str ⟨⟨[99, 112, 121, 51, 49, 51, 46, 119, 115, 103, 105, 114, 101, 102, 46, 104, 101, 97, 100, 101, 114, 115]⟩⟩ 658), en P ⟨⟨[95, 95, 102, 105, 114, 115, 116, 108, 105, 110, 101, 110, 111, 95, 95]⟩⟩ 775 (.int 41 774), en P ⟨⟨[95, 95, 105, 110, 105, 116, 95, 95]⟩⟩ 785 (.ref 154), en P ⟨⟨[95, 99, 111, 110, 118, 101, 114, 116, 95, 115, 116, 114, 105, 110, 103, 95, 116, 121, 112, 101]⟩⟩ 795 (.ref 161), en P ⟨⟨[95, 95, 108, 101, 110, 95, 95]⟩⟩ 802 (.ref 168), en P ⟨⟨[95, 95, 115, 101, 116, 105, 116, 101, 109, 95, 95]⟩⟩ 811 (.ref 175), en P ⟨⟨[95, 95, 100, 101, 108, 105, 116, 101, 109, 95, 95]⟩⟩ 817 (.ref 180), en P ⟨⟨[95, 95, 103, 101, 116, 105, 116, 101, 109, 95, 95]⟩⟩ 825 (.ref 187), en P ⟨⟨[95, 95, 99, 111, 110, 116, 97, 105, 110, 115, 95, 95]⟩⟩ 833 (.ref 194), en P ⟨⟨[103, 101, 116, 95, 97, 108, 108]⟩⟩ 839 (.ref 199), en P ⟨⟨[103, 101, 116]⟩⟩ 850 (.ref 207), en P ⟨⟨[107, 101, 121, 115]⟩⟩ 856 (.ref 212), en P ⟨⟨[118, 97, 108, 117, 101, 115]⟩⟩ 862 (.ref 217), en P ⟨⟨[105, 116, 101, 109, 115]⟩⟩ 869 (.ref 224), en P ⟨⟨[95, 95, 114, 101, 112, 114, 95, 95]⟩⟩ 876 (.ref 231), en P ⟨⟨[95, 95, 115, 116, 114, 95, 95]⟩⟩ 882 (.ref 236), en P ⟨⟨[95, 95, 98, 121, 116, 101, 115, 95, 95]⟩⟩ 889 (.ref 243), en P ⟨⟨[115, 101, 116, 100, 101, 102, 97, 117, 108, 116]⟩⟩ 898 (.ref 250), en P ⟨⟨[97, 100, 100, 95, 104, 101, 97, 100, 101, 114]⟩⟩ 911 (.ref 257), en P ⟨⟨[95, 95, 115, 116, 97, 116, 105, 99, 95, 97, 116, 116, 114, 105, 98, 117, 116, 101, 115, 95, 95]⟩⟩ 913 (.ref 258), en P ⟨⟨[95, 95, 100, 105, 99, 116, 95, 95]⟩⟩ 915 (.ref 261), en P ⟨⟨[95, 95, 119, 101, 97, 107, 114, 101, 102, 95, 95]⟩⟩ 917 (.ref 262), en P ⟨⟨[95, 95, 100, 111, 99, 95, 95]⟩⟩ 918 (.none)]⟩ 4, ⟨[]⟩⟩
noncomputable def ob247 (b : Bool) (P : Params) : Obj := ⟨.type "type", none, .cls { name := ⟨⟨[72, 101, 97, 100, 101, 114, 115]⟩⟩, bases := [.type "object"], mro := [.ref 260, .type "object"], ns := 259, qualname := ⟨⟨[72, 101, 97, 100, 101, 114, 115]⟩⟩, hasDict := true, slotNames := [], subclasses := [], abstract := false, collection := none, hasDel := false }, ⟨[none, none, (some (.str ⟨⟨[72, 101, 97, 100, 101, 114, 115]⟩⟩ 764)), (some (.str ⟨⟨[72, 101, 97, 100, 101, 114, 115]⟩⟩ 772)), (some (.builtin "object.__new__")), (some (.bool true))]⟩⟩
noncomputable def ob248 (b : Bool) (P : Params) : Obj := ⟨.type "getset_descriptor", none, .fields ⟨[.str ⟨⟨[95, 95, 100, 105, 99, 116, 95, 95]⟩⟩ 914, .ref 260, .builtin "function.__dict__", .builtin "function.__dict__#set"]⟩, ⟨[]⟩⟩
noncomputable def ob249 (b : Bool) (P : Params) : Obj := ⟨.type "getset_descriptor", none, .fields ⟨[.str ⟨⟨[95, 95, 119, 101, 97, 107, 114, 101, 102, 95, 95]⟩⟩ 916, .ref 260, .builtin "ExceptionGroup.__weakref__", .none]⟩, ⟨[]⟩⟩
noncomputable def ob250 (b : Bool) (P : Params) : Obj := ⟨.type "super", none, .fields ⟨[.ref 260, .ref 260, .ref 260]⟩, ⟨[]⟩⟩
noncomputable def ob251 (b : Bool) (P : Params) : Obj := ⟨.type "builtin_function_or_method", none, .fields ⟨[.builtin "object.__init_subclass__", .ref 260]⟩, ⟨[]⟩⟩
noncomputable def tr42 (b : Bool) (P : Params) : BT := (.node (ob0 b P) (.node (ob1 b P) (.node (ob175 b P) (.node (ob7 b P) (.node (ob7 b P) (.node (ob29 b P) (.node (ob61 b P) (.node (ob167 b P) (.node (ob242 b P) .nil .nil) .nil) (.node (ob7 b P) .nil .nil)) (.node (ob146 b P) (.node (ob187 b P) .nil .nil) (.node (ob224 b P) .nil .nil))) (.node (ob48 b P) (.node (ob80 b P) (.node (ob7 b P) .nil .nil) (.node (ob215 b P) .nil .nil)) (.node (ob8 b P) (.node (ob197 b P) .nil .nil) (.node (ob233 b P) .nil .nil)))) (.node (ob22 b P) (.node (ob7 b P) (.node (ob74 b P) (.node (ob171 b P) (.node (ob250 b P) .nil .nil) .nil) (.node (ob211 b P) .nil .nil)) (.node (ob152 b P) (.node (ob192 b P) .nil .nil) (.node (ob229 b P) .nil .nil))) (.node (ob54 b P) (.node (ob99 b P) (.node (ob7 b P) .nil .nil) (.node (ob219 b P) .nil .nil)) (.node (ob151 b P) (.node (ob201 b P) .nil .nil) (.node (ob7 b P) .nil .nil))))) (.node (ob27 b P) (.node (ob18 b P) (.node (ob7 b P) (.node (ob65 b P) (.node (ob169 b P) (.node (ob246 b P) .nil .nil) .nil) (.node (ob7 b P) .nil .nil)) (.node (ob149 b P) (.node (ob8 b P) .nil .nil) (.node (ob226 b P) .nil .nil))) (.node (ob7 b P) (.node (ob84 b P) (.node (ob151 b P) .nil .nil) (.node (ob217 b P) .nil .nil)) (.node (ob159 b P) (.node (ob199 b P) .nil .nil) (.node (ob236 b P) .nil .nil)))) (.node (ob26 b P) (.node (ob37 b P) (.node (ob7 b P) (.node (ob174 b P) .nil .nil) (.node (ob212 b P) .nil .nil)) (.node (ob151 b P) (.node (ob194 b P) .nil .nil) (.node (ob231 b P) .nil .nil))) (.node (ob58 b P) (.node (ob7 b P) (.node (ob7 b P) .nil .nil) (.node (ob8 b P) .nil .nil)) (.node (ob6 b P) (.node (ob204 b P) .nil .nil) (.node (ob7 b P) .nil .nil)))))) (.node (ob5 b P) (.node (ob9 b P) (.node (ob16 b P) (.node (ob8 b P) (.node (ob63 b P) (.node (ob151 b P) (.node (ob244 b P) .nil .nil) .nil) (.node (ob207 b P) .nil .nil)) (.node (ob147 b P) (.node (ob189 b P) .nil .nil) (.node (ob7 b P) .nil .nil))) (.node (ob7 b P) (.node (ob82 b P) (.node (ob180 b P) .nil .nil) (.node (ob8 b P) .nil .nil)) (.node (ob7 b P) (.node (ob8 b P) .nil .nil) (.node (ob234 b P) .nil .nil)))) (.node (ob24 b P) (.node (ob36 b P) (.node (ob7 b P) (.node (ob172 b P) .nil .nil) (.node (ob7 b P) .nil .nil)) (.node (ob154 b P) (.node (ob7 b P) .nil .nil) (.node (ob8 b P) .nil .nil))) (.node (ob56 b P) (.node (ob141 b P) (.node (ob184 b P) .nil .nil) (.node (ob221 b P) .nil .nil)) (.node (ob163 b P) (.node (ob202 b P) .nil .nil) (.node (ob239 b P) .nil .nil))))) (.node (ob13 b P) (.node (ob20 b P) (.node (ob34 b P) (.node (ob66 b P) (.node (ob7 b P) (.node (ob248 b P) .nil .nil) .nil) (.node (ob209 b P) .nil .nil)) (.node (ob6 b P) (.node (ob7 b P) .nil .nil) (.node (ob227 b P) .nil .nil))) (.node (ob53 b P) (.node (ob98 b P) (.node (ob8 b P) .nil .nil) (.node (ob7 b P) .nil .nil)) (.node (ob161 b P) (.node (ob7 b P) .nil .nil) (.node (ob8 b P) .nil .nil)))) (.node (ob176 b P) (.node (ob39 b P) (.node (ob79 b P) (.node (ob177 b P) .nil .nil) (.node (ob213 b P) .nil .nil)) (.node (ob156 b P) (.node (ob195 b P) .nil .nil) (.node (ob7 b P) .nil .nil))) (.node (ob60 b P) (.node (ob7 b P) (.node (ob186 b P) .nil .nil) (.node (ob7 b P) .nil .nil)) (.node (ob165 b P) (.node (ob8 b P) .nil .nil) (.node (ob241 b P) .nil .nil))))))) (.node (ob2 b P) (.node (ob4 b P) (.node (ob8 b P) (.node (ob15 b P) (.node (ob7 b P) (.node (ob62 b P) (.node (ob6 b P) (.node (ob243 b P) .nil .nil) .nil) (.node (ob206 b P) .nil .nil)) (.node (ob7 b P) (.node (ob188 b P) .nil .nil) (.node (ob225 b P) .nil .nil))) (.node (ob49 b P) (.node (ob81 b P) (.node (ob179 b P) .nil .nil) (.node (ob7 b P) .nil .nil)) (.node (ob157 b P) (.node (ob7 b P) .nil .nil) (.node (ob7 b P) .nil .nil)))) (.node (ob23 b P) (.node (ob8 b P) (.node (ob75 b P) (.node (ob7 b P) (.node (ob251 b P) .nil .nil) .nil) (.node (ob151 b P) .nil .nil)) (.node (ob153 b P) (.node (ob193 b P) .nil .nil) (.node (ob7 b P) .nil .nil))) (.node (ob55 b P) (.node (ob100 b P) (.node (ob183 b P) .nil .nil) (.node (ob220 b P) .nil .nil)) (.node (ob162 b P) (.node (ob7 b P) .nil .nil) (.node (ob238 b P) .nil .nil))))) (.node (ob12 b P) (.node (ob19 b P) (.node (ob33 b P) (.node (ob7 b P) (.node (ob170 b P) (.node (ob247 b P) .nil .nil) .nil) (.node (ob8 b P) .nil .nil)) (.node (ob150 b P) (.node (ob190 b P) .nil .nil) (.node (ob7 b P) .nil .nil))) (.node (ob8 b P) (.node (ob97 b P) (.node (ob7 b P) .nil .nil) (.node (ob218 b P) .nil .nil)) (.node (ob160 b P) (.node (ob200 b P) .nil .nil) (.node (ob7 b P) .nil .nil)))) (.node (ob7 b P) (.node (ob38 b P) (.node (ob8 b P) (.node (ob7 b P) .nil .nil) (.node (ob7 b P) .nil .nil)) (.node (ob155 b P) (.node (ob7 b P) .nil .nil) (.node (ob232 b P) .nil .nil))) (.node (ob59 b P) (.node (ob143 b P) (.node (ob8 b P) .nil .nil) (.node (ob222 b P) .nil .nil)) (.node (ob151 b P) (.node (ob7 b P) .nil .nil) (.node (ob8 b P) .nil .nil)))))) (.node (ob6 b P) (.node (ob10 b P) (.node (ob17 b P) (.node (ob32 b P) (.node (ob64 b P) (.node (ob168 b P) (.node (ob245 b P) .nil .nil) .nil) (.node (ob208 b P) .nil .nil)) (.node (ob148 b P) (.node (ob7 b P) .nil .nil) (.node (ob8 b P) .nil .nil))) (.node (ob50 b P) (.node (ob83 b P) (.node (ob181 b P) .nil .nil) (.node (ob216 b P) .nil .nil)) (.node (ob158 b P) (.node (ob198 b P) .nil .nil) (.node (ob235 b P) .nil .nil)))) (.node (ob25 b P) (.node (ob7 b P) (.node (ob76 b P) (.node (ob173 b P) .nil .nil) (.node (ob8 b P) .nil .nil)) (.node (ob6 b P) (.node (ob8 b P) .nil .nil) (.node (ob230 b P) .nil .nil))) (.node (ob57 b P) (.node (ob142 b P) (.node (ob185 b P) .nil .nil) (.node (ob7 b P) .nil .nil)) (.node (ob164 b P) (.node (ob203 b P) .nil .nil) (.node (ob240 b P) .nil .nil))))) (.node (ob14 b P) (.node (ob21 b P) (.node (ob35 b P) (.node (ob67 b P) (.node (ob8 b P) (.node (ob249 b P) .nil .nil) .nil) (.node (ob210 b P) .nil .nil)) (.node (ob151 b P) (.node (ob191 b P) .nil .nil) (.node (ob228 b P) .nil .nil))) (.node (ob7 b P) (.node (ob7 b P) (.node (ob182 b P) .nil .nil) (.node (ob8 b P) .nil .nil)) (.node (ob6 b P) (.node (ob8 b P) .nil .nil) (.node (ob237 b P) .nil .nil)))) (.node (ob28 b P) (.node (ob40 b P) (.node (ob7 b P) (.node (ob178 b P) .nil .nil) (.node (ob214 b P) .nil .nil)) (.node (ob7 b P) (.node (ob196 b P) .nil .nil) (.node (ob8 b P) .nil .nil))) (.node (ob7 b P) (.node (ob8 b P) (.node (ob7 b P) .nil .nil) (.node (ob223 b P) .nil .nil)) (.node (ob166 b P) (.node (ob205 b P) .nil .nil) (.node (ob7 b P) .nil .nil))))))))
noncomputable def st42 (b : Bool) (w : World) (os : OsState) : SharedT := ⟨tr42 b w.params, 265, lf, ⟨[]⟩, dr, 921, os⟩
noncomputable def sts8 : List Stmt := [top 21, top 22, top 23, top 24, top 25, top 26]
noncomputable def th8 : Thread := piecesOf sts8 env0 cE ⟨41, 0, 122, 93⟩ B0
noncomputable def ob252 (b : Bool) (P : Params) : Obj := ⟨.type "dict", none, .dict ⟨[en P ⟨⟨[95, 95, 110, 97, 109, 101, 95, 95]⟩⟩ 165 (.str ⟨⟨[108, 97, 119, 95, 114, 101, 48, 49, 48, 55, 95, 48, 49]⟩⟩ 921), en P ⟨⟨[95, 95, 100, 111, 99, 95, 95]⟩⟩ 166 (.none), en P ⟨⟨[95, 95, 112, 97, 99, 107, 97, 103, 101, 95, 95]⟩⟩ 167 (.none), en P ⟨⟨[95, 95, 108, 111, 97, 100, 101, 114, 95, 95]⟩⟩ 168 (.builtin "__main__.__loader__#opaque"), en P ⟨⟨[95, 95, 115, 112, 101, 99, 95, 95]⟩⟩ 169 (.none), en P ⟨⟨[95, 95, 97, 110, 110, 111, 116, 97, 116, 105, 111, 110, 115, 95, 95]⟩⟩ 170 (.ref 6), en P ⟨⟨[95, 95, 98, 117, 105, 108, 116, 105, 110, 115, 95, 95]⟩⟩ 171 (.ref 4), en P ⟨⟨[95, 95, 102, 105, 108, 101, 95, 95]⟩⟩ 173 (.str ⟨⟨[47, 99, 108, 97, 105, 109, 47, 99, 117, 116, 46, 112, 121]⟩⟩ 172), en P ⟨⟨[95, 95, 99, 97, 99, 104, 101, 100, 95, 95]⟩⟩ 174 (.none), en P ⟨⟨[95, 115, 114, 101]⟩⟩ 275 (.ref 12), en P ⟨⟨[95, 119, 97, 108, 108]⟩⟩ 288 (.ref 38), en P ⟨⟨[105, 110, 95, 116, 97, 98, 108, 101, 95, 99, 52]⟩⟩ 298 (.ref 45), en P ⟨⟨[99, 55, 95, 115, 101, 116]⟩⟩ 326 (.ref 47), en P ⟨⟨[105, 110, 95, 116, 97, 98, 108, 101, 95, 99, 55]⟩⟩ 333 (.ref 57), en P ⟨⟨[99, 56, 95, 115, 101, 116]⟩⟩ 374 (.ref 71), en P ⟨⟨[105, 110, 95, 116, 97, 98, 108, 101, 95, 99, 56]⟩⟩ 381 (.ref 81), en P ⟨⟨[99, 57, 95, 115, 101, 116]⟩⟩ 581 (.ref 89), en P ⟨⟨[105, 110, 95, 116, 97, 98, 108, 101, 95, 99, 57]⟩⟩ 588 (.ref 99), en P ⟨⟨[95, 116, 119, 105, 110, 95, 114, 101, 95, 49]⟩⟩ 606 (.ref 104), en P ⟨⟨[95, 116, 119, 105, 110, 95, 114, 101, 95, 50]⟩⟩ 648 (.ref 109), en P ⟨⟨[67, 82, 76, 70]⟩⟩ 650 (.str ⟨⟨[13, 10]⟩⟩ 649), en P ⟨⟨[113, 117, 111, 116, 101, 100, 97, 116, 97]⟩⟩ 657 (.ref 116), en P ⟨⟨[116, 115, 112, 101, 99, 105, 97, 108, 115]⟩⟩ 693 (.ref 121), en P ⟨⟨[95, 110, 97, 109, 101, 95, 100, 105, 115, 97, 108, 108, 111, 119, 101, 100, 95, 114, 101]⟩⟩ 719 (.ref 126), en P ⟨⟨[95, 118, 97, 108, 117, 101, 95, 100, 105, 115, 97, 108, 108, 111, 119, 101, 100, 95, 114, 101]⟩⟩ 753 (.ref 131), en P ⟨⟨[95, 102, 111, 114, 109, 97, 116, 112, 97, 114, 97, 109]⟩⟩ 763 (.ref 139), en P ⟨⟨[72, 101, 97, 100, 101, 114, 115]⟩⟩ 920 (.ref 260), en P ⟨⟨[95, 108, 97, 119, 95, 107, 105, 110, 100]⟩⟩ 929 (.ref 271), en P ⟨⟨[95, 108, 97, 119, 95, 104, 101, 97, 112]⟩⟩ 935 (.ref 276), en P ⟨⟨[95, 108, 97, 119, 95, 114, 111, 117, 110, 100, 115]⟩⟩ 941 (.ref 281), en P ⟨⟨[95, 108, 97, 119, 95, 115, 97, 109, 101]⟩⟩ 947 (.ref 286), en P ⟨⟨[108, 97, 119]⟩⟩ 953 (.ref 291)]⟩ 32, ⟨[]⟩⟩
noncomputable def ob253 (b : Bool) (P : Params) : Obj := ⟨.none, none, .fields ⟨[.int 2 0, .int 0 0, .ref 37, .int 6 0, .int 0 0, .ref 44, .int 14 0, .int 0 0, .ref 56, .int 17 0, .int 0 0, .ref 80, .int 20 0, .int 0 0, .ref 98, .int 26 0, .int 0 0, .ref 115, .int 32 0, .int 0 0, .ref 138, .int 41 0, .int 0 0, .ref 145, .int 124 0, .int 0 0, .ref 270, .int 134 0, .int 0 0, .ref 275, .int 144 0, .int 0 0, .ref 280, .int 153 0, .int 0 0, .ref 285, .int 161 0, .int 0 0, .ref 290]⟩, ⟨[]⟩⟩
noncomputable def ob254 (b : Bool) (P : Params) : Obj := ⟨.type "tuple", none, .seq ⟨[.str ⟨⟨[115, 105, 103, 110]⟩⟩ 926]⟩ 0, ⟨[]⟩⟩
noncomputable def ob255 (b : Bool) (P : Params) : Obj := ⟨.none, none, .func { name := ⟨⟨[95, 108, 97, 119, 95, 107, 105, 110, 100]⟩⟩, qualname := ⟨⟨[95, 108, 97, 119, 95, 107, 105, 110, 100]⟩⟩, params := fnP (top 22), body := .stmts (fnB (top 22)), scope := fnS (top 22), globals := 0, closure := [], defaults := .none, kwdefaults := .none, doc := .none, pyModule := .none, annotations := none, code := .none, closureTuple := .none, builtins := 0 }, ⟨[]⟩⟩
noncomputable def ob256 (b : Bool) (P : Params) : Obj := ⟨.type "code", none, .fields ⟨[.str ⟨⟨[95, 108, 97, 119, 95, 107, 105, 110, 100]⟩⟩ 923, .str ⟨⟨[95, 108, 97, 119, 95, 107, 105, 110, 100]⟩⟩ 924, .str ⟨⟨[47, 99, 108, 97, 105, 109, 47, 99, 117, 116, 46, 112, 121]⟩⟩ 925, .int 124 0, .int 1 0, .int 0 0, .int 0 0, .int 3 0, .ref 265, .bool true, .int 276 0, .ref 266, .none, .ref 267, .ref 268, .ref 269, .int 927 0, .int 124 0, .str ⟨⟨[47, 99, 108, 97, 105, 109, 47, 99, 117, 116, 46, 112, 121]⟩⟩ 928]⟩, ⟨[]⟩⟩
noncomputable def ob257 (b : Bool) (P : Params) : Obj := ⟨.type "function", none, .func { name := ⟨⟨[95, 108, 97, 119, 95, 107, 105, 110, 100]⟩⟩, qualname := ⟨⟨[95, 108, 97, 119, 95, 107, 105, 110, 100]⟩⟩, params := fnP (top 22), body := .stmts (fnB (top 22)), scope := fnS (top 22), globals := 3, closure := [], defaults := .none, kwdefaults := .none, doc := .none, pyModule := .str ⟨⟨[108, 97, 119, 95, 114, 101, 48, 49, 48, 55, 95, 48, 49]⟩⟩ 921, annotations := none, code := .ref 270, closureTuple := .none, builtins := 0 }, ⟨[]⟩⟩
noncomputable def ob258 (b : Bool) (P : Params) : Obj := ⟨.none, none, .func { name := ⟨⟨[95, 108, 97, 119, 95, 104, 101, 97, 112]⟩⟩, qualname := ⟨⟨[95, 108, 97, 119, 95, 104, 101, 97, 112]⟩⟩, params := fnP (top 23), body := .stmts (fnB (top 23)), scope := fnS (top 23), globals := 0, closure := [], defaults := .none, kwdefaults := .none, doc := .none, pyModule := .none, annotations := none, code := .none, closureTuple := .none, builtins := 0 }, ⟨[]⟩⟩
noncomputable def ob259 (b : Bool) (P : Params) : Obj := ⟨.type "code", none, .fields ⟨[.str ⟨⟨[95, 108, 97, 119, 95, 104, 101, 97, 112]⟩⟩ 930, .str ⟨⟨[95, 108, 97, 119, 95, 104, 101, 97, 112]⟩⟩ 931, .str ⟨⟨[47, 99, 108, 97, 105, 109, 47, 99, 117, 116, 46, 112, 121]⟩⟩ 932, .int 134 0, .int 2 0, .int 0 0, .int 0 0, .int 3 0, .ref 272, .bool true, .int 276 0, .ref 273, .none, .none, .none, .ref 274, .int 933 0, .int 134 0, .str ⟨⟨[47, 99, 108, 97, 105, 109, 47, 99, 117, 116, 46, 112, 121]⟩⟩ 934]⟩, ⟨[]⟩⟩
noncomputable def ob260 (b : Bool) (P : Params) : Obj := ⟨.type "function", none, .func { name := ⟨⟨[95, 108, 97, 119, 95, 104, 101, 97, 112]⟩⟩, qualname := ⟨⟨[95, 108, 97, 119, 95, 104, 101, 97, 112]⟩⟩, params := fnP (top 23), body := .stmts (fnB (top 23)), scope := fnS (top 23), globals := 3, closure := [], defaults := .none, kwdefaults := .none, doc := .none, pyModule := .str ⟨⟨[108, 97, 119, 95, 114, 101, 48, 49, 48, 55, 95, 48, 49]⟩⟩ 921, annotations := none, code := .ref 275, closureTuple := .none, builtins := 0 }, ⟨[]⟩⟩
noncomputable def ob261 (b : Bool) (P : Params) : Obj := ⟨.none, none, .func { name := ⟨⟨[95, 108, 97, 119, 95, 114, 111, 117, 110, 100, 115]⟩⟩, qualname := ⟨⟨[95, 108, 97, 119, 95, 114, 111, 117, 110, 100, 115]⟩⟩, params := fnP (top 24), body := .stmts (fnB (top 24)), scope := fnS (top 24), globals := 0, closure := [], defaults := .none, kwdefaults := .none, doc := .none, pyModule := .none, annotations := none, code := .none, closureTuple := .none, builtins := 0 }, ⟨[]⟩⟩
noncomputable def ob262 (b : Bool) (P : Params) : Obj := ⟨.type "code", none, .fields ⟨[.str ⟨⟨[95, 108, 97, 119, 95, 114, 111, 117, 110, 100, 115]⟩⟩ 936, .str ⟨⟨[95, 108, 97, 119, 95, 114, 111, 117, 110, 100, 115]⟩⟩ 937, .str ⟨⟨[47, 99, 108, 97, 105, 109, 47, 99, 117, 116, 46, 112, 121]⟩⟩ 938, .int 144 0, .int 2 0, .int 0 0, .int 0 0, .int 3 0, .ref 277, .bool true, .int 276 0, .ref 278, .none, .none, .none, .ref 279, .int 939 0, .int 144 0, .str ⟨⟨[47, 99, 108, 97, 105, 109, 47, 99, 117, 116, 46, 112, 121]⟩⟩ 940]⟩, ⟨[]⟩⟩
noncomputable def ob263 (b : Bool) (P : Params) : Obj := ⟨.type "function", none, .func { name := ⟨⟨[95, 108, 97, 119, 95, 114, 111, 117, 110, 100, 115]⟩⟩, qualname := ⟨⟨[95, 108, 97, 119, 95, 114, 111, 117, 110, 100, 115]⟩⟩, params := fnP (top 24), body := .stmts (fnB (top 24)), scope := fnS (top 24), globals := 3, closure := [], defaults := .none, kwdefaults := .none, doc := .none, pyModule := .str ⟨⟨[108, 97, 119, 95, 114, 101, 48, 49, 48, 55, 95, 48, 49]⟩⟩ 921, annotations := none, code := .ref 280, closureTuple := .none, builtins := 0 }, ⟨[]⟩⟩
noncomputable def ob264 (b : Bool) (P : Params) : Obj := ⟨.none, none, .func { name := ⟨⟨[95, 108, 97, 119, 95, 115, 97, 109, 101]⟩⟩, qualname := ⟨⟨[95, 108, 97, 119, 95, 115, 97, 109, 101]⟩⟩, params := fnP (top 25), body := .stmts (fnB (top 25)), scope := fnS (top 25), globals := 0, closure := [], defaults := .none, kwdefaults := .none, doc := .none, pyModule := .none, annotations := none, code := .none, closureTuple := .none, builtins := 0 }, ⟨[]⟩⟩
noncomputable def ob265 (b : Bool) (P : Params) : Obj := ⟨.type "code", none, .fields ⟨[.str ⟨⟨[95, 108, 97, 119, 95, 115, 97, 109, 101]⟩⟩ 942, .str ⟨⟨[95, 108, 97, 119, 95, 115, 97, 109, 101]⟩⟩ 943, .str ⟨⟨[47, 99, 108, 97, 105, 109, 47, 99, 117, 116, 46, 112, 121]⟩⟩ 944, .int 153 0, .int 4 0, .int 0 0, .int 0 0, .int 3 0, .ref 282, .bool true, .int 276 0, .ref 283, .none, .none, .none, .ref 284, .int 945 0, .int 153 0, .str ⟨⟨[47, 99, 108, 97, 105, 109, 47, 99, 117, 116, 46, 112, 121]⟩⟩ 946]⟩, ⟨[]⟩⟩
noncomputable def ob266 (b : Bool) (P : Params) : Obj := ⟨.type "function", none, .func { name := ⟨⟨[95, 108, 97, 119, 95, 115, 97, 109, 101]⟩⟩, qualname := ⟨⟨[95, 108, 97, 119, 95, 115, 97, 109, 101]⟩⟩, params := fnP (top 25), body := .stmts (fnB (top 25)), scope := fnS (top 25), globals := 3, closure := [], defaults := .none, kwdefaults := .none, doc := .none, pyModule := .str ⟨⟨[108, 97, 119, 95, 114, 101, 48, 49, 48, 55, 95, 48, 49]⟩⟩ 921, annotations := none, code := .ref 285, closureTuple := .none, builtins := 0 }, ⟨[]⟩⟩
noncomputable def ob267 (b : Bool) (P : Params) : Obj := ⟨.none, none, .func { name := ⟨⟨[108, 97, 119]⟩⟩, qualname := ⟨⟨[108, 97, 119]⟩⟩, params := fnP (top 26), body := .stmts (fnB (top 26)), scope := fnS (top 26), globals := 0, closure := [], defaults := .none, kwdefaults := .none, doc := .none, pyModule := .none, annotations := none, code := .none, closureTuple := .none, builtins := 0 }, ⟨[]⟩⟩
noncomputable def ob268 (b : Bool) (P : Params) : Obj := ⟨.type "code", none, .fields ⟨[.str ⟨⟨[108, 97, 119]⟩⟩ 948, .str ⟨⟨[108, 97, 119]⟩⟩ 949, .str ⟨⟨[47, 99, 108, 97, 105, 109, 47, 99, 117, 116, 46, 112, 121]⟩⟩ 950, .int 161 0, .int 1 0, .int 0 0, .int 0 0, .int 3 0, .ref 287, .bool true, .int 276 0, .ref 288, .none, .none, .none, .ref 289, .int 951 0, .int 161 0, .str ⟨⟨[47, 99, 108, 97, 105, 109, 47, 99, 117, 116, 46, 112, 121]⟩⟩ 952]⟩, ⟨[]⟩⟩
noncomputable def ob269 (b : Bool) (P : Params) : Obj := ⟨.type "function", none, .func { name := ⟨⟨[108, 97, 119]⟩⟩, qualname := ⟨⟨[108, 97, 119]⟩⟩, params := fnP (top 26), body := .stmts (fnB (top 26)), scope := fnS (top 26), globals := 3, closure := [], defaults := .none, kwdefaults := .none, doc := .none, pyModule := .str ⟨⟨[108, 97, 119, 95, 114, 101, 48, 49, 48, 55, 95, 48, 49]⟩⟩ 921, annotations := none, code := .ref 290, closureTuple := .none, builtins := 0 }, ⟨[]⟩⟩
noncomputable def tr43 (b : Bool) (P : Params) : BT := (.node (ob0 b P) (.node (ob1 b P) (.node (ob252 b P) (.node (ob7 b P) (.node (ob7 b P) (.node (ob29 b P) (.node (ob61 b P) (.node (ob167 b P) (.node (ob242 b P) .nil .nil) .nil) (.node (ob7 b P) .nil .nil)) (.node (ob146 b P) (.node (ob187 b P) (.node (ob7 b P) .nil .nil) .nil) (.node (ob224 b P) .nil .nil))) (.node (ob48 b P) (.node (ob80 b P) (.node (ob7 b P) (.node (ob257 b P) .nil .nil) .nil) (.node (ob215 b P) .nil .nil)) (.node (ob8 b P) (.node (ob197 b P) .nil .nil) (.node (ob233 b P) .nil .nil)))) (.node (ob22 b P) (.node (ob7 b P) (.node (ob74 b P) (.node (ob171 b P) (.node (ob250 b P) .nil .nil) .nil) (.node (ob211 b P) .nil .nil)) (.node (ob152 b P) (.node (ob192 b P) .nil .nil) (.node (ob229 b P) .nil .nil))) (.node (ob54 b P) (.node (ob99 b P) (.node (ob7 b P) (.node (ob261 b P) .nil .nil) .nil) (.node (ob219 b P) .nil .nil)) (.node (ob151 b P) (.node (ob201 b P) .nil .nil) (.node (ob7 b P) .nil .nil))))) (.node (ob27 b P) (.node (ob18 b P) (.node (ob7 b P) (.node (ob65 b P) (.node (ob169 b P) (.node (ob246 b P) .nil .nil) .nil) (.node (ob7 b P) .nil .nil)) (.node (ob149 b P) (.node (ob8 b P) (.node (ob269 b P) .nil .nil) .nil) (.node (ob226 b P) .nil .nil))) (.node (ob7 b P) (.node (ob84 b P) (.node (ob151 b P) (.node (ob259 b P) .nil .nil) .nil) (.node (ob217 b P) .nil .nil)) (.node (ob159 b P) (.node (ob199 b P) .nil .nil) (.node (ob236 b P) .nil .nil)))) (.node (ob26 b P) (.node (ob37 b P) (.node (ob7 b P) (.node (ob174 b P) (.node (ob254 b P) .nil .nil) .nil) (.node (ob212 b P) .nil .nil)) (.node (ob151 b P) (.node (ob194 b P) .nil .nil) (.node (ob231 b P) .nil .nil))) (.node (ob58 b P) (.node (ob7 b P) (.node (ob7 b P) (.node (ob8 b P) .nil .nil) .nil) (.node (ob8 b P) .nil .nil)) (.node (ob6 b P) (.node (ob204 b P) .nil .nil) (.node (ob7 b P) .nil .nil)))))) (.node (ob5 b P) (.node (ob9 b P) (.node (ob16 b P) (.node (ob8 b P) (.node (ob63 b P) (.node (ob151 b P) (.node (ob244 b P) .nil .nil) .nil) (.node (ob207 b P) .nil .nil)) (.node (ob147 b P) (.node (ob189 b P) (.node (ob267 b P) .nil .nil) .nil) (.node (ob7 b P) .nil .nil))) (.node (ob7 b P) (.node (ob82 b P) (.node (ob180 b P) (.node (ob8 b P) .nil .nil) .nil) (.node (ob8 b P) .nil .nil)) (.node (ob7 b P) (.node (ob8 b P) .nil .nil) (.node (ob234 b P) .nil .nil)))) (.node (ob24 b P) (.node (ob36 b P) (.node (ob7 b P) (.node (ob172 b P) (.node (ob7 b P) .nil .nil) .nil) (.node (ob7 b P) .nil .nil)) (.node (ob154 b P) (.node (ob7 b P) .nil .nil) (.node (ob8 b P) .nil .nil))) (.node (ob56 b P) (.node (ob141 b P) (.node (ob184 b P) (.node (ob263 b P) .nil .nil) .nil) (.node (ob221 b P) .nil .nil)) (.node (ob163 b P) (.node (ob202 b P) .nil .nil) (.node (ob239 b P) .nil .nil))))) (.node (ob13 b P) (.node (ob20 b P) (.node (ob34 b P) (.node (ob66 b P) (.node (ob7 b P) (.node (ob248 b P) .nil .nil) .nil) (.node (ob209 b P) .nil .nil)) (.node (ob6 b P) (.node (ob7 b P) .nil .nil) (.node (ob227 b P) .nil .nil))) (.node (ob53 b P) (.node (ob98 b P) (.node (ob8 b P) (.node (ob7 b P) .nil .nil) .nil) (.node (ob7 b P) .nil .nil)) (.node (ob161 b P) (.node (ob7 b P) .nil .nil) (.node (ob8 b P) .nil .nil)))) (.node (ob253 b P) (.node (ob39 b P) (.node (ob79 b P) (.node (ob177 b P) (.node (ob255 b P) .nil .nil) .nil) (.node (ob213 b P) .nil .nil)) (.node (ob156 b P) (.node (ob195 b P) .nil .nil) (.node (ob7 b P) .nil .nil))) (.node (ob60 b P) (.node (ob7 b P) (.node (ob186 b P) (.node (ob265 b P) .nil .nil) .nil) (.node (ob7 b P) .nil .nil)) (.node (ob165 b P) (.node (ob8 b P) .nil .nil) (.node (ob241 b P) .nil .nil))))))) (.node (ob2 b P) (.node (ob4 b P) (.node (ob8 b P) (.node (ob15 b P) (.node (ob7 b P) (.node (ob62 b P) (.node (ob6 b P) (.node (ob243 b P) .nil .nil) .nil) (.node (ob206 b P) .nil .nil)) (.node (ob7 b P) (.node (ob188 b P) (.node (ob8 b P) .nil .nil) .nil) (.node (ob225 b P) .nil .nil))) (.node (ob49 b P) (.node (ob81 b P) (.node (ob179 b P) (.node (ob7 b P) .nil .nil) .nil) (.node (ob7 b P) .nil .nil)) (.node (ob157 b P) (.node (ob7 b P) .nil .nil) (.node (ob7 b P) .nil .nil)))) (.node (ob23 b P) (.node (ob8 b P) (.node (ob75 b P) (.node (ob7 b P) (.node (ob251 b P) .nil .nil) .nil) (.node (ob151 b P) .nil .nil)) (.node (ob153 b P) (.node (ob193 b P) .nil .nil) (.node (ob7 b P) .nil .nil))) (.node (ob55 b P) (.node (ob100 b P) (.node (ob183 b P) (.node (ob262 b P) .nil .nil) .nil) (.node (ob220 b P) .nil .nil)) (.node (ob162 b P) (.node (ob7 b P) .nil .nil) (.node (ob238 b P) .nil .nil))))) (.node (ob12 b P) (.node (ob19 b P) (.node (ob33 b P) (.node (ob7 b P) (.node (ob170 b P) (.node (ob247 b P) .nil .nil) .nil) (.node (ob8 b P) .nil .nil)) (.node (ob150 b P) (.node (ob190 b P) .nil .nil) (.node (ob7 b P) .nil .nil))) (.node (ob8 b P) (.node (ob97 b P) (.node (ob7 b P) (.node (ob260 b P) .nil .nil) .nil) (.node (ob218 b P) .nil .nil)) (.node (ob160 b P) (.node (ob200 b P) .nil .nil) (.node (ob7 b P) .nil .nil)))) (.node (ob7 b P) (.node (ob38 b P) (.node (ob8 b P) (.node (ob7 b P) (.node (ob7 b P) .nil .nil) .nil) (.node (ob7 b P) .nil .nil)) (.node (ob155 b P) (.node (ob7 b P) .nil .nil) (.node (ob232 b P) .nil .nil))) (.node (ob59 b P) (.node (ob143 b P) (.node (ob8 b P) (.node (ob264 b P) .nil .nil) .nil) (.node (ob222 b P) .nil .nil)) (.node (ob151 b P) (.node (ob7 b P) .nil .nil) (.node (ob8 b P) .nil .nil)))))) (.node (ob6 b P) (.node (ob10 b P) (.node (ob17 b P) (.node (ob32 b P) (.node (ob64 b P) (.node (ob168 b P) (.node (ob245 b P) .nil .nil) .nil) (.node (ob208 b P) .nil .nil)) (.node (ob148 b P) (.node (ob7 b P) (.node (ob268 b P) .nil .nil) .nil) (.node (ob8 b P) .nil .nil))) (.node (ob50 b P) (.node (ob83 b P) (.node (ob181 b P) (.node (ob258 b P) .nil .nil) .nil) (.node (ob216 b P) .nil .nil)) (.node (ob158 b P) (.node (ob198 b P) .nil .nil) (.node (ob235 b P) .nil .nil)))) (.node (ob25 b P) (.node (ob7 b P) (.node (ob76 b P) (.node (ob173 b P) (.node (ob8 b P) .nil .nil) .nil) (.node (ob8 b P) .nil .nil)) (.node (ob6 b P) (.node (ob8 b P) .nil .nil) (.node (ob230 b P) .nil .nil))) (.node (ob57 b P) (.node (ob142 b P) (.node (ob185 b P) (.node (ob7 b P) .nil .nil) .nil) (.node (ob7 b P) .nil .nil)) (.node (ob164 b P) (.node (ob203 b P) .nil .nil) (.node (ob240 b P) .nil .nil))))) (.node (ob14 b P) (.node (ob21 b P) (.node (ob35 b P) (.node (ob67 b P) (.node (ob8 b P) (.node (ob249 b P) .nil .nil) .nil) (.node (ob210 b P) .nil .nil)) (.node (ob151 b P) (.node (ob191 b P) .nil .nil) (.node (ob228 b P) .nil .nil))) (.node (ob7 b P) (.node (ob7 b P) (.node (ob182 b P) (.node (ob8 b P) .nil .nil) .nil) (.node (ob8 b P) .nil .nil)) (.node (ob6 b P) (.node (ob8 b P) .nil .nil) (.node (ob237 b P) .nil .nil)))) (.node (ob28 b P) (.node (ob40 b P) (.node (ob7 b P) (.node (ob178 b P) (.node (ob256 b P) .nil .nil) .nil) (.node (ob214 b P) .nil .nil)) (.node (ob7 b P) (.node (ob196 b P) .nil .nil) (.node (ob8 b P) .nil .nil))) (.node (ob7 b P) (.node (ob8 b P) (.node (ob7 b P) (.node (ob266 b P) .nil .nil) .nil) (.node (ob223 b P) .nil .nil)) (.node (ob166 b P) (.node (ob205 b P) .nil .nil) (.node (ob7 b P) .nil .nil))))))))
noncomputable def st43 (b : Bool) (w : World) (os : OsState) : SharedT := ⟨tr43 b w.params, 292, lf, ⟨[]⟩, dr, 954, os⟩
end
end Mine
end
section
open PySem PySem.W PySem.Calls PyProof.Rows
set_option Elab.async false
set_option maxRecDepth 100000
set_option maxHeartbeats 0
set_option linter.unusedVariables false
namespace Mine
noncomputable section
theorem g0 : ∀ (w : World) (os : OsState), segRunT treeTable pw w 28 ann 1 69 (st2 (bo w) w os) (th0) = some (.next, st3 (bo w) w os, cE, ⟨6, 0, 12, 46⟩) := fun w os => (fun (b : Bool) => (show segRunT treeTable pw w 28 ann 1 69 (st2 b w os) (th0) = some (.next, st3 b w os, cE, ⟨6, 0, 12, 46⟩) from by cases b <;> (rw [PySem.W.Fast.te10110043849684766642, PySem.W.Fast.te14364793385576792824]; kernel_rfl))) (bo w)
theorem g1c0 : ∀ (w : World) (os : OsState), segGoT treeTable pw w 28 ann 1 58 (st3 (bo w) w os) (th1) = some (st4 (bo w) w os, th1c0 w os) := byRow2 "set-order" (P := fun w => ∀ os : OsState, segGoT treeTable pw w 28 ann 1 58 (st3 (bo w) w os) (th1) = some (st4 (bo w) w os, th1c0 w os)) (byRow2 "special-get-raises" (P := fun w => ∀ os : OsState, segGoT treeTable pw (World.withFollow w "set-order" false) 28 ann 1 58 (st3 (bo (World.withFollow w "set-order" false)) (World.withFollow w "set-order" false) os) (th1) = some (st4 (bo (World.withFollow w "set-order" false)) (World.withFollow w "set-order" false) os, th1c0 (World.withFollow w "set-order" false) os)) (fun w os => by rw [boF]; (show segGoT treeTable pw _ 28 ann 1 58 _ _ = some (_, ⟨denote treeTable (.builtin "set.update.loop" ⟨[.ref 47, .ref 48], []⟩), _, _, _⟩)); rw [PySem.W.Fast.te10295753902157049106, PySem.W.Fast.te11892475500146522536, PySem.W.Fast.te14364793385576792824]; kernel_rfl) (fun w os => by rw [boF]; (show segGoT treeTable pw _ 28 ann 1 58 _ _ = some (_, ⟨denote treeTable (.builtin "set.update.loop" ⟨[.ref 47, .ref 48], []⟩), _, _, _⟩)); rw [PySem.W.Fast.te10295753902157049106, PySem.W.Fast.te11892475500146522536, PySem.W.Fast.te14364793385576792824]; kernel_rfl)) (byRow2 "special-get-raises" (P := fun w => ∀ os : OsState, segGoT treeTable pw (World.withFollow w "set-order" true) 28 ann 1 58 (st3 (bo (World.withFollow w "set-order" true)) (World.withFollow w "set-order" true) os) (th1) = some (st4 (bo (World.withFollow w "set-order" true)) (World.withFollow w "set-order" true) os, th1c0 (World.withFollow w "set-order" true) os)) (fun w os => by rw [boT]; (show segGoT treeTable pw _ 28 ann 1 58 _ _ = some (_, ⟨denote treeTable (.builtin "set.update.loop" ⟨[.ref 47, .ref 48], []⟩), _, _, _⟩)); rw [PySem.W.Fast.te10295753902157049106, PySem.W.Fast.te11892475500146522536, PySem.W.Fast.te14364793385576792824]; kernel_rfl) (fun w os => by rw [boT]; (show segGoT treeTable pw _ 28 ann 1 58 _ _ = some (_, ⟨denote treeTable (.builtin "set.update.loop" ⟨[.ref 47, .ref 48], []⟩), _, _, _⟩)); rw [PySem.W.Fast.te10295753902157049106, PySem.W.Fast.te11892475500146522536, PySem.W.Fast.te14364793385576792824]; kernel_rfl))
theorem g1c1 : ∀ (w : World) (os : OsState), segGoT treeTable pw w 28 ann 1 117 (st4 (bo w) w os) (th1c0 w os) = some (st5 (bo w) w os, th1c1 w os) := fun w os => (fun (b : Bool) => (byRow2 "special-get-raises" (P := fun w => ∀ os : OsState, segGoT treeTable pw w 28 ann 1 117 (st4 b w os) (th1c0 w os) = some (st5 b w os, th1c1 w os)) (fun w os => by cases b <;> ((show segGoT treeTable pw _ 28 ann 1 117 _ _ = some (_, ⟨denote treeTable (.builtin "set.update.loop" ⟨[.ref 47, .ref 48], []⟩), _, _, _⟩)); rw [PySem.W.Fast.te10295753902157049106, PySem.W.Fast.te11892475500146522536, PySem.W.Fast.te14364793385576792824]; kernel_rfl)) (fun w os => by cases b <;> ((show segGoT treeTable pw _ 28 ann 1 117 _ _ = some (_, ⟨denote treeTable (.builtin "set.update.loop" ⟨[.ref 47, .ref 48], []⟩), _, _, _⟩)); rw [PySem.W.Fast.te10295753902157049106, PySem.W.Fast.te11892475500146522536, PySem.W.Fast.te14364793385576792824]; kernel_rfl)))) (bo w) w os
theorem g1c2 : ∀ (w : World) (os : OsState), segGoT treeTable pw w 28 ann 1 115 (st5 (bo w) w os) (th1c1 w os) = some (st6 (bo w) w os, th1c2 w os) := fun w os => (fun (b : Bool) => (byRow2 "special-get-raises" (P := fun w => ∀ os : OsState, segGoT treeTable pw w 28 ann 1 115 (st5 b w os) (th1c1 w os) = some (st6 b w os, th1c2 w os)) (fun w os => by cases b <;> ((show segGoT treeTable pw _ 28 ann 1 115 _ _ = some (_, ⟨denote treeTable (.builtin "set.update.loop" ⟨[.ref 47, .ref 48], []⟩), _, _, _⟩)); rw [PySem.W.Fast.te10295753902157049106, PySem.W.Fast.te11892475500146522536, PySem.W.Fast.te14364793385576792824]; kernel_rfl)) (fun w os => by cases b <;> ((show segGoT treeTable pw _ 28 ann 1 115 _ _ = some (_, ⟨denote treeTable (.builtin "set.update.loop" ⟨[.ref 47, .ref 48], []⟩), _, _, _⟩)); rw [PySem.W.Fast.te10295753902157049106, PySem.W.Fast.te11892475500146522536, PySem.W.Fast.te14364793385576792824]; kernel_rfl)))) (bo w) w os
theorem g1 : ∀ (w : World) (os : OsState), segRunT treeTable pw w 28 ann 1 71 (st6 (bo w) w os) (th1c2 w os) = some (.next, st7 (bo w) w os, cE, ⟨13, 0, 13, 6⟩) := fun w os => (fun (b : Bool) => (byRow2 "special-get-raises" (P := fun w => ∀ os : OsState, segRunT treeTable pw w 28 ann 1 71 (st6 b w os) (th1c2 w os) = some (.next, st7 b w os, cE, ⟨13, 0, 13, 6⟩)) (fun w os => by cases b <;> (rw [PySem.W.Fast.te10110043849684766642, PySem.W.Fast.te14364793385576792824]; kernel_rfl)) (fun w os => by cases b <;> (rw [PySem.W.Fast.te10110043849684766642, PySem.W.Fast.te14364793385576792824]; kernel_rfl)))) (bo w) w os
theorem g2 : ∀ (w : World) (os : OsState), segRunT treeTable pw w 28 ann 1 30 (st7 (bo w) w os) (th2) = some (.next, st8 (bo w) w os, cE, ⟨14, 0, 15, 30⟩) := fun w os => (fun (b : Bool) => (show segRunT treeTable pw w 28 ann 1 30 (st7 b w os) (th2) = some (.next, st8 b w os, cE, ⟨14, 0, 15, 30⟩) from by cases b <;> (rw [PySem.W.Fast.te10110043849684766642, PySem.W.Fast.te14364793385576792824]; kernel_rfl))) (bo w)
theorem g3c0 : ∀ (w : World) (os : OsState), segGoT treeTable pw w 28 ann 1 446 (st8 (bo w) w os) (th3) = some (st9 (bo w) w os, th3c0 w os) := byRow2 "set-order" (P := fun w => ∀ os : OsState, segGoT treeTable pw w 28 ann 1 446 (st8 (bo w) w os) (th3) = some (st9 (bo w) w os, th3c0 w os)) (byRow2 "special-get-raises" (P := fun w => ∀ os : OsState, segGoT treeTable pw (World.withFollow w "set-order" false) 28 ann 1 446 (st8 (bo (World.withFollow w "set-order" false)) (World.withFollow w "set-order" false) os) (th3) = some (st9 (bo (World.withFollow w "set-order" false)) (World.withFollow w "set-order" false) os, th3c0 (World.withFollow w "set-order" false) os)) (fun w os => by rw [boF]; (show segGoT treeTable pw _ 28 ann 1 446 _ _ = some (_, ⟨denote treeTable (.builtin "set.update.loop" ⟨[.ref 71, .ref 72], []⟩), _, _, _⟩)); rw [PySem.W.Fast.te10295753902157049106, PySem.W.Fast.te11892475500146522536, PySem.W.Fast.te14364793385576792824]; kernel_rfl) (fun w os => by rw [boF]; (show segGoT treeTable pw _ 28 ann 1 446 _ _ = some (_, ⟨denote treeTable (.builtin "set.update.loop" ⟨[.ref 71, .ref 72], []⟩), _, _, _⟩)); rw [PySem.W.Fast.te10295753902157049106, PySem.W.Fast.te11892475500146522536, PySem.W.Fast.te14364793385576792824]; kernel_rfl)) (byRow2 "special-get-raises" (P := fun w => ∀ os : OsState, segGoT treeTable pw (World.withFollow w "set-order" true) 28 ann 1 446 (st8 (bo (World.withFollow w "set-order" true)) (World.withFollow w "set-order" true) os) (th3) = some (st9 (bo (World.withFollow w "set-order" true)) (World.withFollow w "set-order" true) os, th3c0 (World.withFollow w "set-order" true) os)) (fun w os => by rw [boT]; (show segGoT treeTable pw _ 28 ann 1 446 _ _ = some (_, ⟨denote treeTable (.builtin "set.update.loop" ⟨[.ref 71, .ref 72], []⟩), _, _, _⟩)); rw [PySem.W.Fast.te10295753902157049106, PySem.W.Fast.te11892475500146522536, PySem.W.Fast.te14364793385576792824]; kernel_rfl) (fun w os => by rw [boT]; (show segGoT treeTable pw _ 28 ann 1 446 _ _ = some (_, ⟨denote treeTable (.builtin "set.update.loop" ⟨[.ref 71, .ref 72], []⟩), _, _, _⟩)); rw [PySem.W.Fast.te10295753902157049106, PySem.W.Fast.te11892475500146522536, PySem.W.Fast.te14364793385576792824]; kernel_rfl))
theorem g3c1 : ∀ (w : World) (os : OsState), segGoT treeTable pw w 28 ann 1 102 (st9 (bo w) w os) (th3c0 w os) = some (st10 (bo w) w os, th3c1 w os) := fun w os => (fun (b : Bool) => (byRow2 "special-get-raises" (P := fun w => ∀ os : OsState, segGoT treeTable pw w 28 ann 1 102 (st9 b w os) (th3c0 w os) = some (st10 b w os, th3c1 w os)) (fun w os => by cases b <;> ((show segGoT treeTable pw _ 28 ann 1 102 _ _ = some (_, ⟨denote treeTable (.builtin "set.update.loop" ⟨[.ref 71, .ref 72], []⟩), _, _, _⟩)); rw [PySem.W.Fast.te10295753902157049106, PySem.W.Fast.te11892475500146522536, PySem.W.Fast.te14364793385576792824]; kernel_rfl)) (fun w os => by cases b <;> ((show segGoT treeTable pw _ 28 ann 1 102 _ _ = some (_, ⟨denote treeTable (.builtin "set.update.loop" ⟨[.ref 71, .ref 72], []⟩), _, _, _⟩)); rw [PySem.W.Fast.te10295753902157049106, PySem.W.Fast.te11892475500146522536, PySem.W.Fast.te14364793385576792824]; kernel_rfl)))) (bo w) w os
theorem g3c2 : ∀ (w : World) (os : OsState), segGoT treeTable pw w 28 ann 1 100 (st10 (bo w) w os) (th3c1 w os) = some (st11 (bo w) w os, th3c2 w os) := fun w os => (fun (b : Bool) => (byRow2 "special-get-raises" (P := fun w => ∀ os : OsState, segGoT treeTable pw w 28 ann 1 100 (st10 b w os) (th3c1 w os) = some (st11 b w os, th3c2 w os)) (fun w os => by cases b <;> ((show segGoT treeTable pw _ 28 ann 1 100 _ _ = some (_, ⟨denote treeTable (.builtin "set.update.loop" ⟨[.ref 71, .ref 72], []⟩), _, _, _⟩)); rw [PySem.W.Fast.te10295753902157049106, PySem.W.Fast.te11892475500146522536, PySem.W.Fast.te14364793385576792824]; kernel_rfl)) (fun w os => by cases b <;> ((show segGoT treeTable pw _ 28 ann 1 100 _ _ = some (_, ⟨denote treeTable (.builtin "set.update.loop" ⟨[.ref 71, .ref 72], []⟩), _, _, _⟩)); rw [PySem.W.Fast.te10295753902157049106, PySem.W.Fast.te11892475500146522536, PySem.W.Fast.te14364793385576792824]; kernel_rfl)))) (bo w) w os
theorem g3 : ∀ (w : World) (os : OsState), segRunT treeTable pw w 28 ann 1 127 (st11 (bo w) w os) (th3c2 w os) = some (.next, st12 (bo w) w os, cE, ⟨16, 0, 16, 6⟩) := fun w os => (fun (b : Bool) => (byRow2 "special-get-raises" (P := fun w => ∀ os : OsState, segRunT treeTable pw w 28 ann 1 127 (st11 b w os) (th3c2 w os) = some (.next, st12 b w os, cE, ⟨16, 0, 16, 6⟩)) (fun w os => by cases b <;> (rw [PySem.W.Fast.te10110043849684766642, PySem.W.Fast.te14364793385576792824]; kernel_rfl)) (fun w os => by cases b <;> (rw [PySem.W.Fast.te10110043849684766642, PySem.W.Fast.te14364793385576792824]; kernel_rfl)))) (bo w) w os
theorem g4 : ∀ (w : World) (os : OsState), segRunT treeTable pw w 28 ann 1 30 (st12 (bo w) w os) (th4) = some (.next, st13 (bo w) w os, cE, ⟨17, 0, 18, 30⟩) := fun w os => (fun (b : Bool) => (show segRunT treeTable pw w 28 ann 1 30 (st12 b w os) (th4) = some (.next, st13 b w os, cE, ⟨17, 0, 18, 30⟩) from by cases b <;> (rw [PySem.W.Fast.te10110043849684766642, PySem.W.Fast.te14364793385576792824]; kernel_rfl))) (bo w)
theorem g5c0 : ∀ (w : World) (os : OsState), segGoT treeTable pw w 28 ann 1 87 (st13 (bo w) w os) (th5) = some (st14 (bo w) w os, th5c0 w os) := fun w os => (fun (b : Bool) => (byRow2 "special-get-raises" (P := fun w => ∀ os : OsState, segGoT treeTable pw w 28 ann 1 87 (st13 b w os) (th5) = some (st14 b w os, th5c0 w os)) (fun w os => by cases b <;> ((show segGoT treeTable pw _ 28 ann 1 87 _ _ = some (_, ⟨denote treeTable (.builtin "list.extend.loop" ⟨[.ref 84, .ref 85, .none], []⟩), _, _, _⟩)); rw [PySem.W.Fast.te10295753902157049106, PySem.W.Fast.te11892475500146522536, PySem.W.Fast.te14364793385576792824]; kernel_rfl)) (fun w os => by cases b <;> ((show segGoT treeTable pw _ 28 ann 1 87 _ _ = some (_, ⟨denote treeTable (.builtin "list.extend.loop" ⟨[.ref 84, .ref 85, .none], []⟩), _, _, _⟩)); rw [PySem.W.Fast.te10295753902157049106, PySem.W.Fast.te11892475500146522536, PySem.W.Fast.te14364793385576792824]; kernel_rfl)))) (bo w) w os
theorem g5c1 : ∀ (w : World) (os : OsState), segGoT treeTable pw w 28 ann 1 306 (st14 (bo w) w os) (th5c0 w os) = some (st15 (bo w) w os, th5c1 w os) := fun w os => (fun (b : Bool) => (show segGoT treeTable pw w 28 ann 1 306 (st14 b w os) (th5c0 w os) = some (st15 b w os, th5c1 w os) from by cases b <;> ((show segGoT treeTable pw _ 28 ann 1 306 _ _ = some (_, ⟨denote treeTable (.builtin "list.extend.loop" ⟨[.ref 84, .ref 85, .none], []⟩), _, _, _⟩)); rw [PySem.W.Fast.te10295753902157049106, PySem.W.Fast.te11892475500146522536, PySem.W.Fast.te14364793385576792824]; kernel_rfl))) (bo w)
theorem g5c2 : ∀ (w : World) (os : OsState), segGoT treeTable pw w 28 ann 1 306 (st15 (bo w) w os) (th5c1 w os) = some (st16 (bo w) w os, th5c2 w os) := fun w os => (fun (b : Bool) => (show segGoT treeTable pw w 28 ann 1 306 (st15 b w os) (th5c1 w os) = some (st16 b w os, th5c2 w os) from by cases b <;> ((show segGoT treeTable pw _ 28 ann 1 306 _ _ = some (_, ⟨denote treeTable (.builtin "list.extend.loop" ⟨[.ref 84, .ref 85, .none], []⟩), _, _, _⟩)); rw [PySem.W.Fast.te10295753902157049106, PySem.W.Fast.te11892475500146522536, PySem.W.Fast.te14364793385576792824]; kernel_rfl))) (bo w)
theorem g5c3 : ∀ (w : World) (os : OsState), segGoT treeTable pw w 28 ann 1 306 (st16 (bo w) w os) (th5c2 w os) = some (st17 (bo w) w os, th5c3 w os) := fun w os => (fun (b : Bool) => (show segGoT treeTable pw w 28 ann 1 306 (st16 b w os) (th5c2 w os) = some (st17 b w os, th5c3 w os) from by cases b <;> ((show segGoT treeTable pw _ 28 ann 1 306 _ _ = some (_, ⟨denote treeTable (.builtin "list.extend.loop" ⟨[.ref 84, .ref 85, .none], []⟩), _, _, _⟩)); rw [PySem.W.Fast.te10295753902157049106, PySem.W.Fast.te11892475500146522536, PySem.W.Fast.te14364793385576792824]; kernel_rfl))) (bo w)
theorem g5c4 : ∀ (w : World) (os : OsState), segGoT treeTable pw w 28 ann 1 306 (st17 (bo w) w os) (th5c3 w os) = some (st18 (bo w) w os, th5c4 w os) := fun w os => (fun (b : Bool) => (show segGoT treeTable pw w 28 ann 1 306 (st17 b w os) (th5c3 w os) = some (st18 b w os, th5c4 w os) from by cases b <;> ((show segGoT treeTable pw _ 28 ann 1 306 _ _ = some (_, ⟨denote treeTable (.builtin "list.extend.loop" ⟨[.ref 84, .ref 85, .none], []⟩), _, _, _⟩)); rw [PySem.W.Fast.te10295753902157049106, PySem.W.Fast.te11892475500146522536, PySem.W.Fast.te14364793385576792824]; kernel_rfl))) (bo w)
theorem g5c5 : ∀ (w : World) (os : OsState), segGoT treeTable pw w 28 ann 1 306 (st18 (bo w) w os) (th5c4 w os) = some (st19 (bo w) w os, th5c5 w os) := fun w os => (fun (b : Bool) => (show segGoT treeTable pw w 28 ann 1 306 (st18 b w os) (th5c4 w os) = some (st19 b w os, th5c5 w os) from by cases b <;> ((show segGoT treeTable pw _ 28 ann 1 306 _ _ = some (_, ⟨denote treeTable (.builtin "list.extend.loop" ⟨[.ref 84, .ref 85, .none], []⟩), _, _, _⟩)); rw [PySem.W.Fast.te10295753902157049106, PySem.W.Fast.te11892475500146522536, PySem.W.Fast.te14364793385576792824]; kernel_rfl))) (bo w)
theorem g5c6 : ∀ (w : World) (os : OsState), segGoT treeTable pw w 28 ann 1 161 (st19 (bo w) w os) (th5c5 w os) = some (st20 (bo w) w os, th5c6 w os) := byRow2 "set-order" (P := fun w => ∀ os : OsState, segGoT treeTable pw w 28 ann 1 161 (st19 (bo w) w os) (th5c5 w os) = some (st20 (bo w) w os, th5c6 w os)) (byRow2 "special-get-raises" (P := fun w => ∀ os : OsState, segGoT treeTable pw (World.withFollow w "set-order" false) 28 ann 1 161 (st19 (bo (World.withFollow w "set-order" false)) (World.withFollow w "set-order" false) os) (th5c5 (World.withFollow w "set-order" false) os) = some (st20 (bo (World.withFollow w "set-order" false)) (World.withFollow w "set-order" false) os, th5c6 (World.withFollow w "set-order" false) os)) (fun w os => by rw [boF]; (show segGoT treeTable pw _ 28 ann 1 161 _ _ = some (_, ⟨denote treeTable (.builtin "set.update.loop" ⟨[.ref 89, .ref 90], []⟩), _, _, _⟩)); rw [PySem.W.Fast.te10295753902157049106, PySem.W.Fast.te11892475500146522536, PySem.W.Fast.te14364793385576792824]; kernel_rfl) (fun w os => by rw [boF]; (show segGoT treeTable pw _ 28 ann 1 161 _ _ = some (_, ⟨denote treeTable (.builtin "set.update.loop" ⟨[.ref 89, .ref 90], []⟩), _, _, _⟩)); rw [PySem.W.Fast.te10295753902157049106, PySem.W.Fast.te11892475500146522536, PySem.W.Fast.te14364793385576792824]; kernel_rfl)) (byRow2 "special-get-raises" (P := fun w => ∀ os : OsState, segGoT treeTable pw (World.withFollow w "set-order" true) 28 ann 1 161 (st19 (bo (World.withFollow w "set-order" true)) (World.withFollow w "set-order" true) os) (th5c5 (World.withFollow w "set-order" true) os) = some (st20 (bo (World.withFollow w "set-order" true)) (World.withFollow w "set-order" true) os, th5c6 (World.withFollow w "set-order" true) os)) (fun w os => by rw [boT]; (show segGoT treeTable pw _ 28 ann 1 161 _ _ = some (_, ⟨denote treeTable (.builtin "set.update.loop" ⟨[.ref 89, .ref 90], []⟩), _, _, _⟩)); rw [PySem.W.Fast.te10295753902157049106, PySem.W.Fast.te11892475500146522536, PySem.W.Fast.te14364793385576792824]; kernel_rfl) (fun w os => by rw [boT]; (show segGoT treeTable pw _ 28 ann 1 161 _ _ = some (_, ⟨denote treeTable (.builtin "set.update.loop" ⟨[.ref 89, .ref 90], []⟩), _, _, _⟩)); rw [PySem.W.Fast.te10295753902157049106, PySem.W.Fast.te11892475500146522536, PySem.W.Fast.te14364793385576792824]; kernel_rfl))
theorem g5c7 : ∀ (w : World) (os : OsState), segGoT treeTable pw w 28 ann 1 102 (st20 (bo w) w os) (th5c6 w os) = some (st21 (bo w) w os, th5c7 w os) := fun w os => (fun (b : Bool) => (byRow2 "special-get-raises" (P := fun w => ∀ os : OsState, segGoT treeTable pw w 28 ann 1 102 (st20 b w os) (th5c6 w os) = some (st21 b w os, th5c7 w os)) (fun w os => by cases b <;> ((show segGoT treeTable pw _ 28 ann 1 102 _ _ = some (_, ⟨denote treeTable (.builtin "set.update.loop" ⟨[.ref 89, .ref 90], []⟩), _, _, _⟩)); rw [PySem.W.Fast.te10295753902157049106, PySem.W.Fast.te11892475500146522536, PySem.W.Fast.te14364793385576792824]; kernel_rfl)) (fun w os => by cases b <;> ((show segGoT treeTable pw _ 28 ann 1 102 _ _ = some (_, ⟨denote treeTable (.builtin "set.update.loop" ⟨[.ref 89, .ref 90], []⟩), _, _, _⟩)); rw [PySem.W.Fast.te10295753902157049106, PySem.W.Fast.te11892475500146522536, PySem.W.Fast.te14364793385576792824]; kernel_rfl)))) (bo w) w os
theorem g5c8 : ∀ (w : World) (os : OsState), segGoT treeTable pw w 28 ann 1 100 (st21 (bo w) w os) (th5c7 w os) = some (st22 (bo w) w os, th5c8 w os) := fun w os => (fun (b : Bool) => (byRow2 "special-get-raises" (P := fun w => ∀ os : OsState, segGoT treeTable pw w 28 ann 1 100 (st21 b w os) (th5c7 w os) = some (st22 b w os, th5c8 w os)) (fun w os => by cases b <;> ((show segGoT treeTable pw _ 28 ann 1 100 _ _ = some (_, ⟨denote treeTable (.builtin "set.update.loop" ⟨[.ref 89, .ref 90], []⟩), _, _, _⟩)); rw [PySem.W.Fast.te10295753902157049106, PySem.W.Fast.te11892475500146522536, PySem.W.Fast.te14364793385576792824]; kernel_rfl)) (fun w os => by cases b <;> ((show segGoT treeTable pw _ 28 ann 1 100 _ _ = some (_, ⟨denote treeTable (.builtin "set.update.loop" ⟨[.ref 89, .ref 90], []⟩), _, _, _⟩)); rw [PySem.W.Fast.te10295753902157049106, PySem.W.Fast.te11892475500146522536, PySem.W.Fast.te14364793385576792824]; kernel_rfl)))) (bo w) w os
theorem g5c9 : ∀ (w : World) (os : OsState), segGoT treeTable pw w 28 ann 1 100 (st22 (bo w) w os) (th5c8 w os) = some (st23 (bo w) w os, th5c9 w os) := fun w os => (fun (b : Bool) => (byRow2 "special-get-raises" (P := fun w => ∀ os : OsState, segGoT treeTable pw w 28 ann 1 100 (st22 b w os) (th5c8 w os) = some (st23 b w os, th5c9 w os)) (fun w os => by cases b <;> ((show segGoT treeTable pw _ 28 ann 1 100 _ _ = some (_, ⟨denote treeTable (.builtin "set.update.loop" ⟨[.ref 89, .ref 90], []⟩), _, _, _⟩)); rw [PySem.W.Fast.te10295753902157049106, PySem.W.Fast.te11892475500146522536, PySem.W.Fast.te14364793385576792824]; kernel_rfl)) (fun w os => by cases b <;> ((show segGoT treeTable pw _ 28 ann 1 100 _ _ = some (_, ⟨denote treeTable (.builtin "set.update.loop" ⟨[.ref 89, .ref 90], []⟩), _, _, _⟩)); rw [PySem.W.Fast.te10295753902157049106, PySem.W.Fast.te11892475500146522536, PySem.W.Fast.te14364793385576792824]; kernel_rfl)))) (bo w) w os
theorem g5c10 : ∀ (w : World) (os : OsState), segGoT treeTable pw w 28 ann 1 102 (st23 (bo w) w os) (th5c9 w os) = some (st24 (bo w) w os, th5c10 w os) := fun w os => (fun (b : Bool) => (byRow2 "special-get-raises" (P := fun w => ∀ os : OsState, segGoT treeTable pw w 28 ann 1 102 (st23 b w os) (th5c9 w os) = some (st24 b w os, th5c10 w os)) (fun w os => by cases b <;> ((show segGoT treeTable pw _ 28 ann 1 102 _ _ = some (_, ⟨denote treeTable (.builtin "set.update.loop" ⟨[.ref 89, .ref 90], []⟩), _, _, _⟩)); rw [PySem.W.Fast.te10295753902157049106, PySem.W.Fast.te11892475500146522536, PySem.W.Fast.te14364793385576792824]; kernel_rfl)) (fun w os => by cases b <;> ((show segGoT treeTable pw _ 28 ann 1 102 _ _ = some (_, ⟨denote treeTable (.builtin "set.update.loop" ⟨[.ref 89, .ref 90], []⟩), _, _, _⟩)); rw [PySem.W.Fast.te10295753902157049106, PySem.W.Fast.te11892475500146522536, PySem.W.Fast.te14364793385576792824]; kernel_rfl)))) (bo w) w os
theorem g5c11 : ∀ (w : World) (os : OsState), segGoT treeTable pw w 28 ann 1 100 (st24 (bo w) w os) (th5c10 w os) = some (st25 (bo w) w os, th5c11 w os) := fun w os => (fun (b : Bool) => (byRow2 "special-get-raises" (P := fun w => ∀ os : OsState, segGoT treeTable pw w 28 ann 1 100 (st24 b w os) (th5c10 w os) = some (st25 b w os, th5c11 w os)) (fun w os => by cases b <;> ((show segGoT treeTable pw _ 28 ann 1 100 _ _ = some (_, ⟨denote treeTable (.builtin "set.update.loop" ⟨[.ref 89, .ref 90], []⟩), _, _, _⟩)); rw [PySem.W.Fast.te10295753902157049106, PySem.W.Fast.te11892475500146522536, PySem.W.Fast.te14364793385576792824]; kernel_rfl)) (fun w os => by cases b <;> ((show segGoT treeTable pw _ 28 ann 1 100 _ _ = some (_, ⟨denote treeTable (.builtin "set.update.loop" ⟨[.ref 89, .ref 90], []⟩), _, _, _⟩)); rw [PySem.W.Fast.te10295753902157049106, PySem.W.Fast.te11892475500146522536, PySem.W.Fast.te14364793385576792824]; kernel_rfl)))) (bo w) w os
theorem g5c12 : ∀ (w : World) (os : OsState), segGoT treeTable pw w 28 ann 1 100 (st25 (bo w) w os) (th5c11 w os) = some (st26 (bo w) w os, th5c12 w os) := fun w os => (fun (b : Bool) => (byRow2 "special-get-raises" (P := fun w => ∀ os : OsState, segGoT treeTable pw w 28 ann 1 100 (st25 b w os) (th5c11 w os) = some (st26 b w os, th5c12 w os)) (fun w os => by cases b <;> ((show segGoT treeTable pw _ 28 ann 1 100 _ _ = some (_, ⟨denote treeTable (.builtin "set.update.loop" ⟨[.ref 89, .ref 90], []⟩), _, _, _⟩)); rw [PySem.W.Fast.te10295753902157049106, PySem.W.Fast.te11892475500146522536, PySem.W.Fast.te14364793385576792824]; kernel_rfl)) (fun w os => by cases b <;> ((show segGoT treeTable pw _ 28 ann 1 100 _ _ = some (_, ⟨denote treeTable (.builtin "set.update.loop" ⟨[.ref 89, .ref 90], []⟩), _, _, _⟩)); rw [PySem.W.Fast.te10295753902157049106, PySem.W.Fast.te11892475500146522536, PySem.W.Fast.te14364793385576792824]; kernel_rfl)))) (bo w) w os
theorem g5c13 : ∀ (w : World) (os : OsState), segGoT treeTable pw w 28 ann 1 100 (st26 (bo w) w os) (th5c12 w os) = some (st27 (bo w) w os, th5c13 w os) := fun w os => (fun (b : Bool) => (byRow2 "special-get-raises" (P := fun w => ∀ os : OsState, segGoT treeTable pw w 28 ann 1 100 (st26 b w os) (th5c12 w os) = some (st27 b w os, th5c13 w os)) (fun w os => by cases b <;> ((show segGoT treeTable pw _ 28 ann 1 100 _ _ = some (_, ⟨denote treeTable (.builtin "set.update.loop" ⟨[.ref 89, .ref 90], []⟩), _, _, _⟩)); rw [PySem.W.Fast.te10295753902157049106, PySem.W.Fast.te11892475500146522536, PySem.W.Fast.te14364793385576792824]; kernel_rfl)) (fun w os => by cases b <;> ((show segGoT treeTable pw _ 28 ann 1 100 _ _ = some (_, ⟨denote treeTable (.builtin "set.update.loop" ⟨[.ref 89, .ref 90], []⟩), _, _, _⟩)); rw [PySem.W.Fast.te10295753902157049106, PySem.W.Fast.te11892475500146522536, PySem.W.Fast.te14364793385576792824]; kernel_rfl)))) (bo w) w os
theorem g5c14 : ∀ (w : World) (os : OsState), segGoT treeTable pw w 28 ann 1 100 (st27 (bo w) w os) (th5c13 w os) = some (st28 (bo w) w os, th5c14 w os) := fun w os => (fun (b : Bool) => (byRow2 "special-get-raises" (P := fun w => ∀ os : OsState, segGoT treeTable pw w 28 ann 1 100 (st27 b w os) (th5c13 w os) = some (st28 b w os, th5c14 w os)) (fun w os => by cases b <;> ((show segGoT treeTable pw _ 28 ann 1 100 _ _ = some (_, ⟨denote treeTable (.builtin "set.update.loop" ⟨[.ref 89, .ref 90], []⟩), _, _, _⟩)); rw [PySem.W.Fast.te10295753902157049106, PySem.W.Fast.te11892475500146522536, PySem.W.Fast.te14364793385576792824]; kernel_rfl)) (fun w os => by cases b <;> ((show segGoT treeTable pw _ 28 ann 1 100 _ _ = some (_, ⟨denote treeTable (.builtin "set.update.loop" ⟨[.ref 89, .ref 90], []⟩), _, _, _⟩)); rw [PySem.W.Fast.te10295753902157049106, PySem.W.Fast.te11892475500146522536, PySem.W.Fast.te14364793385576792824]; kernel_rfl)))) (bo w) w os
theorem g5c15 : ∀ (w : World) (os : OsState), segGoT treeTable pw w 28 ann 1 100 (st28 (bo w) w os) (th5c14 w os) = some (st29 (bo w) w os, th5c15 w os) := fun w os => (fun (b : Bool) => (byRow2 "special-get-raises" (P := fun w => ∀ os : OsState, segGoT treeTable pw w 28 ann 1 100 (st28 b w os) (th5c14 w os) = some (st29 b w os, th5c15 w os)) (fun w os => by cases b <;> ((show segGoT treeTable pw _ 28 ann 1 100 _ _ = some (_, ⟨denote treeTable (.builtin "set.update.loop" ⟨[.ref 89, .ref 90], []⟩), _, _, _⟩)); rw [PySem.W.Fast.te10295753902157049106, PySem.W.Fast.te11892475500146522536, PySem.W.Fast.te14364793385576792824]; kernel_rfl)) (fun w os => by cases b <;> ((show segGoT treeTable pw _ 28 ann 1 100 _ _ = some (_, ⟨denote treeTable (.builtin "set.update.loop" ⟨[.ref 89, .ref 90], []⟩), _, _, _⟩)); rw [PySem.W.Fast.te10295753902157049106, PySem.W.Fast.te11892475500146522536, PySem.W.Fast.te14364793385576792824]; kernel_rfl)))) (bo w) w os
theorem g5c16 : ∀ (w : World) (os : OsState), segGoT treeTable pw w 28 ann 1 100 (st29 (bo w) w os) (th5c15 w os) = some (st30 (bo w) w os, th5c16 w os) := fun w os => (fun (b : Bool) => (byRow2 "special-get-raises" (P := fun w => ∀ os : OsState, segGoT treeTable pw w 28 ann 1 100 (st29 b w os) (th5c15 w os) = some (st30 b w os, th5c16 w os)) (fun w os => by cases b <;> ((show segGoT treeTable pw _ 28 ann 1 100 _ _ = some (_, ⟨denote treeTable (.builtin "set.update.loop" ⟨[.ref 89, .ref 90], []⟩), _, _, _⟩)); rw [PySem.W.Fast.te10295753902157049106, PySem.W.Fast.te11892475500146522536, PySem.W.Fast.te14364793385576792824]; kernel_rfl)) (fun w os => by cases b <;> ((show segGoT treeTable pw _ 28 ann 1 100 _ _ = some (_, ⟨denote treeTable (.builtin "set.update.loop" ⟨[.ref 89, .ref 90], []⟩), _, _, _⟩)); rw [PySem.W.Fast.te10295753902157049106, PySem.W.Fast.te11892475500146522536, PySem.W.Fast.te14364793385576792824]; kernel_rfl)))) (bo w) w os
theorem g5c17 : ∀ (w : World) (os : OsState), segGoT treeTable pw w 28 ann 1 100 (st30 (bo w) w os) (th5c16 w os) = some (st31 (bo w) w os, th5c17 w os) := fun w os => (fun (b : Bool) => (byRow2 "special-get-raises" (P := fun w => ∀ os : OsState, segGoT treeTable pw w 28 ann 1 100 (st30 b w os) (th5c16 w os) = some (st31 b w os, th5c17 w os)) (fun w os => by cases b <;> ((show segGoT treeTable pw _ 28 ann 1 100 _ _ = some (_, ⟨denote treeTable (.builtin "set.update.loop" ⟨[.ref 89, .ref 90], []⟩), _, _, _⟩)); rw [PySem.W.Fast.te10295753902157049106, PySem.W.Fast.te11892475500146522536, PySem.W.Fast.te14364793385576792824]; kernel_rfl)) (fun w os => by cases b <;> ((show segGoT treeTable pw _ 28 ann 1 100 _ _ = some (_, ⟨denote treeTable (.builtin "set.update.loop" ⟨[.ref 89, .ref 90], []⟩), _, _, _⟩)); rw [PySem.W.Fast.te10295753902157049106, PySem.W.Fast.te11892475500146522536, PySem.W.Fast.te14364793385576792824]; kernel_rfl)))) (bo w) w os
theorem g5c18 : ∀ (w : World) (os : OsState), segGoT treeTable pw w 28 ann 1 100 (st31 (bo w) w os) (th5c17 w os) = some (st32 (bo w) w os, th5c18 w os) := fun w os => (fun (b : Bool) => (byRow2 "special-get-raises" (P := fun w => ∀ os : OsState, segGoT treeTable pw w 28 ann 1 100 (st31 b w os) (th5c17 w os) = some (st32 b w os, th5c18 w os)) (fun w os => by cases b <;> ((show segGoT treeTable pw _ 28 ann 1 100 _ _ = some (_, ⟨denote treeTable (.builtin "set.update.loop" ⟨[.ref 89, .ref 90], []⟩), _, _, _⟩)); rw [PySem.W.Fast.te10295753902157049106, PySem.W.Fast.te11892475500146522536, PySem.W.Fast.te14364793385576792824]; kernel_rfl)) (fun w os => by cases b <;> ((show segGoT treeTable pw _ 28 ann 1 100 _ _ = some (_, ⟨denote treeTable (.builtin "set.update.loop" ⟨[.ref 89, .ref 90], []⟩), _, _, _⟩)); rw [PySem.W.Fast.te10295753902157049106, PySem.W.Fast.te11892475500146522536, PySem.W.Fast.te14364793385576792824]; kernel_rfl)))) (bo w) w os
theorem g5c19 : ∀ (w : World) (os : OsState), segGoT treeTable pw w 28 ann 1 100 (st32 (bo w) w os) (th5c18 w os) = some (st33 (bo w) w os, th5c19 w os) := fun w os => (fun (b : Bool) => (byRow2 "special-get-raises" (P := fun w => ∀ os : OsState, segGoT treeTable pw w 28 ann 1 100 (st32 b w os) (th5c18 w os) = some (st33 b w os, th5c19 w os)) (fun w os => by cases b <;> ((show segGoT treeTable pw _ 28 ann 1 100 _ _ = some (_, ⟨denote treeTable (.builtin "set.update.loop" ⟨[.ref 89, .ref 90], []⟩), _, _, _⟩)); rw [PySem.W.Fast.te10295753902157049106, PySem.W.Fast.te11892475500146522536, PySem.W.Fast.te14364793385576792824]; kernel_rfl)) (fun w os => by cases b <;> ((show segGoT treeTable pw _ 28 ann 1 100 _ _ = some (_, ⟨denote treeTable (.builtin "set.update.loop" ⟨[.ref 89, .ref 90], []⟩), _, _, _⟩)); rw [PySem.W.Fast.te10295753902157049106, PySem.W.Fast.te11892475500146522536, PySem.W.Fast.te14364793385576792824]; kernel_rfl)))) (bo w) w os
theorem g5c20 : ∀ (w : World) (os : OsState), segGoT treeTable pw w 28 ann 1 100 (st33 (bo w) w os) (th5c19 w os) = some (st34 (bo w) w os, th5c20 w os) := fun w os => (fun (b : Bool) => (byRow2 "special-get-raises" (P := fun w => ∀ os : OsState, segGoT treeTable pw w 28 ann 1 100 (st33 b w os) (th5c19 w os) = some (st34 b w os, th5c20 w os)) (fun w os => by cases b <;> ((show segGoT treeTable pw _ 28 ann 1 100 _ _ = some (_, ⟨denote treeTable (.builtin "set.update.loop" ⟨[.ref 89, .ref 90], []⟩), _, _, _⟩)); rw [PySem.W.Fast.te10295753902157049106, PySem.W.Fast.te11892475500146522536, PySem.W.Fast.te14364793385576792824]; kernel_rfl)) (fun w os => by cases b <;> ((show segGoT treeTable pw _ 28 ann 1 100 _ _ = some (_, ⟨denote treeTable (.builtin "set.update.loop" ⟨[.ref 89, .ref 90], []⟩), _, _, _⟩)); rw [PySem.W.Fast.te10295753902157049106, PySem.W.Fast.te11892475500146522536, PySem.W.Fast.te14364793385576792824]; kernel_rfl)))) (bo w) w os
theorem g5c21 : ∀ (w : World) (os : OsState), segGoT treeTable pw w 28 ann 1 100 (st34 (bo w) w os) (th5c20 w os) = some (st35 (bo w) w os, th5c21 w os) := fun w os => (fun (b : Bool) => (byRow2 "special-get-raises" (P := fun w => ∀ os : OsState, segGoT treeTable pw w 28 ann 1 100 (st34 b w os) (th5c20 w os) = some (st35 b w os, th5c21 w os)) (fun w os => by cases b <;> ((show segGoT treeTable pw _ 28 ann 1 100 _ _ = some (_, ⟨denote treeTable (.builtin "set.update.loop" ⟨[.ref 89, .ref 90], []⟩), _, _, _⟩)); rw [PySem.W.Fast.te10295753902157049106, PySem.W.Fast.te11892475500146522536, PySem.W.Fast.te14364793385576792824]; kernel_rfl)) (fun w os => by cases b <;> ((show segGoT treeTable pw _ 28 ann 1 100 _ _ = some (_, ⟨denote treeTable (.builtin "set.update.loop" ⟨[.ref 89, .ref 90], []⟩), _, _, _⟩)); rw [PySem.W.Fast.te10295753902157049106, PySem.W.Fast.te11892475500146522536, PySem.W.Fast.te14364793385576792824]; kernel_rfl)))) (bo w) w os
theorem g5c22 : ∀ (w : World) (os : OsState), segGoT treeTable pw w 28 ann 1 102 (st35 (bo w) w os) (th5c21 w os) = some (st36 (bo w) w os, th5c22 w os) := fun w os => (fun (b : Bool) => (byRow2 "special-get-raises" (P := fun w => ∀ os : OsState, segGoT treeTable pw w 28 ann 1 102 (st35 b w os) (th5c21 w os) = some (st36 b w os, th5c22 w os)) (fun w os => by cases b <;> ((show segGoT treeTable pw _ 28 ann 1 102 _ _ = some (_, ⟨denote treeTable (.builtin "set.update.loop" ⟨[.ref 89, .ref 90], []⟩), _, _, _⟩)); rw [PySem.W.Fast.te10295753902157049106, PySem.W.Fast.te11892475500146522536, PySem.W.Fast.te14364793385576792824]; kernel_rfl)) (fun w os => by cases b <;> ((show segGoT treeTable pw _ 28 ann 1 102 _ _ = some (_, ⟨denote treeTable (.builtin "set.update.loop" ⟨[.ref 89, .ref 90], []⟩), _, _, _⟩)); rw [PySem.W.Fast.te10295753902157049106, PySem.W.Fast.te11892475500146522536, PySem.W.Fast.te14364793385576792824]; kernel_rfl)))) (bo w) w os
theorem g5c23 : ∀ (w : World) (os : OsState), segGoT treeTable pw w 28 ann 1 100 (st36 (bo w) w os) (th5c22 w os) = some (st37 (bo w) w os, th5c23 w os) := fun w os => (fun (b : Bool) => (byRow2 "special-get-raises" (P := fun w => ∀ os : OsState, segGoT treeTable pw w 28 ann 1 100 (st36 b w os) (th5c22 w os) = some (st37 b w os, th5c23 w os)) (fun w os => by cases b <;> ((show segGoT treeTable pw _ 28 ann 1 100 _ _ = some (_, ⟨denote treeTable (.builtin "set.update.loop" ⟨[.ref 89, .ref 90], []⟩), _, _, _⟩)); rw [PySem.W.Fast.te10295753902157049106, PySem.W.Fast.te11892475500146522536, PySem.W.Fast.te14364793385576792824]; kernel_rfl)) (fun w os => by cases b <;> ((show segGoT treeTable pw _ 28 ann 1 100 _ _ = some (_, ⟨denote treeTable (.builtin "set.update.loop" ⟨[.ref 89, .ref 90], []⟩), _, _, _⟩)); rw [PySem.W.Fast.te10295753902157049106, PySem.W.Fast.te11892475500146522536, PySem.W.Fast.te14364793385576792824]; kernel_rfl)))) (bo w) w os
theorem g5c24 : ∀ (w : World) (os : OsState), segGoT treeTable pw w 28 ann 1 100 (st37 (bo w) w os) (th5c23 w os) = some (st38 (bo w) w os, th5c24 w os) := fun w os => (fun (b : Bool) => (byRow2 "special-get-raises" (P := fun w => ∀ os : OsState, segGoT treeTable pw w 28 ann 1 100 (st37 b w os) (th5c23 w os) = some (st38 b w os, th5c24 w os)) (fun w os => by cases b <;> ((show segGoT treeTable pw _ 28 ann 1 100 _ _ = some (_, ⟨denote treeTable (.builtin "set.update.loop" ⟨[.ref 89, .ref 90], []⟩), _, _, _⟩)); rw [PySem.W.Fast.te10295753902157049106, PySem.W.Fast.te11892475500146522536, PySem.W.Fast.te14364793385576792824]; kernel_rfl)) (fun w os => by cases b <;> ((show segGoT treeTable pw _ 28 ann 1 100 _ _ = some (_, ⟨denote treeTable (.builtin "set.update.loop" ⟨[.ref 89, .ref 90], []⟩), _, _, _⟩)); rw [PySem.W.Fast.te10295753902157049106, PySem.W.Fast.te11892475500146522536, PySem.W.Fast.te14364793385576792824]; kernel_rfl)))) (bo w) w os
theorem g5c25 : ∀ (w : World) (os : OsState), segGoT treeTable pw w 28 ann 1 100 (st38 (bo w) w os) (th5c24 w os) = some (st39 (bo w) w os, th5c25 w os) := fun w os => (fun (b : Bool) => (byRow2 "special-get-raises" (P := fun w => ∀ os : OsState, segGoT treeTable pw w 28 ann 1 100 (st38 b w os) (th5c24 w os) = some (st39 b w os, th5c25 w os)) (fun w os => by cases b <;> ((show segGoT treeTable pw _ 28 ann 1 100 _ _ = some (_, ⟨denote treeTable (.builtin "set.update.loop" ⟨[.ref 89, .ref 90], []⟩), _, _, _⟩)); rw [PySem.W.Fast.te10295753902157049106, PySem.W.Fast.te11892475500146522536, PySem.W.Fast.te14364793385576792824]; kernel_rfl)) (fun w os => by cases b <;> ((show segGoT treeTable pw _ 28 ann 1 100 _ _ = some (_, ⟨denote treeTable (.builtin "set.update.loop" ⟨[.ref 89, .ref 90], []⟩), _, _, _⟩)); rw [PySem.W.Fast.te10295753902157049106, PySem.W.Fast.te11892475500146522536, PySem.W.Fast.te14364793385576792824]; kernel_rfl)))) (bo w) w os
theorem g5 : ∀ (w : World) (os : OsState), segRunT treeTable pw w 28 ann 1 67 (st39 (bo w) w os) (th5c25 w os) = some (.next, st40 (bo w) w os, cE, ⟨19, 0, 19, 6⟩) := fun w os => (fun (b : Bool) => (byRow2 "special-get-raises" (P := fun w => ∀ os : OsState, segRunT treeTable pw w 28 ann 1 67 (st39 b w os) (th5c25 w os) = some (.next, st40 b w os, cE, ⟨19, 0, 19, 6⟩)) (fun w os => by cases b <;> (rw [PySem.W.Fast.te10110043849684766642, PySem.W.Fast.te14364793385576792824]; kernel_rfl)) (fun w os => by cases b <;> (rw [PySem.W.Fast.te10110043849684766642, PySem.W.Fast.te14364793385576792824]; kernel_rfl)))) (bo w) w os
theorem g6 : ∀ (w : World) (os : OsState), segRunT treeTable pw w 28 ann 1 486 (st40 (bo w) w os) (th6) = some (.next, st41 (bo w) w os, cE, ⟨32, 0, 40, 20⟩) := fun w os => (fun (b : Bool) => (show segRunT treeTable pw w 28 ann 1 486 (st40 b w os) (th6) = some (.next, st41 b w os, cE, ⟨32, 0, 40, 20⟩) from by cases b <;> (rw [PySem.W.Fast.te10110043849684766642, PySem.W.Fast.te14364793385576792824]; kernel_rfl))) (bo w)
theorem g7 : ∀ (w : World) (os : OsState), segRunT treeTable pw w 28 ann 1 727 (st41 (bo w) w os) (th7) = some (.next, st42 (bo w) w os, cE, ⟨41, 0, 122, 93⟩) := fun w os => (fun (b : Bool) => (show segRunT treeTable pw w 28 ann 1 727 (st41 b w os) (th7) = some (.next, st42 b w os, cE, ⟨41, 0, 122, 93⟩) from by cases b <;> (rw [PySem.W.Fast.te10110043849684766642, PySem.W.Fast.te14364793385576792824]; kernel_rfl))) (bo w)
theorem g8 : ∀ (w : World) (os : OsState), segRunT treeTable pw w 28 ann 1 143 (st42 (bo w) w os) (th8) = some (.next, st43 (bo w) w os, cE, ⟨161, 0, 193, 82⟩) := fun w os => (fun (b : Bool) => (show segRunT treeTable pw w 28 ann 1 143 (st42 b w os) (th8) = some (.next, st43 b w os, cE, ⟨161, 0, 193, 82⟩) from by cases b <;> (rw [PySem.W.Fast.te10110043849684766642, PySem.W.Fast.te14364793385576792824]; kernel_rfl))) (bo w)
end
end Mine
end
section
open PySem PySem.W PySem.Calls PyProof.Rows
set_option Elab.async false
set_option maxRecDepth 100000
set_option maxHeartbeats 0
set_option linter.unusedVariables false
namespace Mine
noncomputable section
noncomputable def atEnd (r : SharedT × Thread) : Option SharedT := match r.2.atExitBegin with
  | some [] => some r.1
  | _ => none
theorem impEnd {tb : String → Option Builtin} {p : Program} {w : World} {n : Nat} {s s' : SharedT} {t : Thread} (h : (impGoT tb p w n s t).bind atEnd = some s') : importEnds tb p w (n + 1) s.abs t = some s'.abs := by
  obtain ⟨⟨s2, t2⟩, h1, h2⟩ := Option.bind_eq_some_iff.mp h
  have h3 := impGo_of h1
  refine imp_go h3 ?_
  unfold atEnd at h2
  unfold importEnds
  dsimp only at h2 ⊢
  split at h2
  · rename_i e; rw [e]; cases h2; rfl
  · cases h2
noncomputable def s00 (os : OsState) : SharedT := ⟨.nil, 0, lf, ⟨[]⟩, dr, 1, os⟩
theorem open0 : ∀ (w : World) (os : OsState), (impGoT treeTable (opening pw) w 798 (s00 os) (start (opening pw)).2).bind atEnd = some (st0 (bo w) w os) :=
  fun w os => (fun (b : Bool) => (show (impGoT treeTable (opening pw) w 798 (s00 os) (start (opening pw)).2).bind atEnd = some (st0 b w os) from by
    rw [PySem.W.Fast.te14789777615569096658, PySem.W.Fast.te14364793385576792824, PySem.W.Fast.te1435165496053646825]; kernel_rfl)) (bo w)
end
end Mine
end
section
open PySem PySem.W PySem.Calls PyProof.Rows
set_option Elab.async false
set_option maxRecDepth 100000
set_option maxHeartbeats 0
set_option linter.unusedVariables false
namespace Mine
noncomputable section
noncomputable def bp (P : Params) : Bool := !P.followText "set-order"
noncomputable def HE (P : Params) : Heap := absHeap (tr0 (bp P) P) 28 lf
noncomputable def HF (P : Params) : Heap := absHeap (tr1 (bp P) P) 28 lf
noncomputable def HL (P : Params) : Heap := absHeap (tr43 (bp P) P) 292 lf
theorem fence : ∀ w : World, (fun os => (fenceModules? pw ⟨HE w.params, ⟨[]⟩, dr, 276, os⟩).map (fun s => (s.heap, s.gens, s.drawn, s.toks))) = fun _ => some (HF w.params, ⟨[]⟩, dr, 276) := fun w => by
  rw [PySem.W.Fast.te14289696077712309145]; kernel_rfl
end
end Mine
end
section
open PySem PySem.W PySem.Calls PyProof.Rows
set_option Elab.async false
set_option maxRecDepth 100000
set_option maxHeartbeats 0
set_option linter.unusedVariables false
namespace Mine
noncomputable section
theorem startS : (start (opening pw)).1 = (s00 (start (opening pw)).1.os).abs := by kernel_rfl
theorem opened1 (w : World) : importEnds treeTable (opening pw) w 799 (start (opening pw)).1 (start (opening pw)).2 = some ⟨HE w.params, ⟨[]⟩, dr, 276, (start (opening pw)).1.os⟩ := by
  have h := impEnd (open0 w (start (opening pw)).1.os)
  rw [← startS] at h
  exact h
theorem opened : ∀ w : World, (fencedOpening treeTable pw w 13000).map (fun s => (s.heap, s.gens, s.drawn, s.toks)) = some (HF w.params, ⟨[]⟩, dr, 276) :=
  open_cut (p := pw) (M := 799) (He := HE) (ge := ⟨[]⟩) (de := dr) (ke := 276) opened1 (by decide) fence
end
end Mine
end
section
open PySem PySem.W PySem.Calls PyProof.Rows
set_option Elab.async false
set_option maxRecDepth 100000
set_option maxHeartbeats 0
set_option linter.unusedVariables false
namespace Mine
noncomputable section
noncomputable def goT (tb : String → Option Builtin) (p : Program) (w : World) (n₀ : Nat) (ann : Option Value) : Nat → SharedT → Thread → Option (SharedT × Thread)
  | 0, s, t => some (s, t)
  | n + 1, s, t => match through t with
    | true => none
    | false => match stepOk n₀ ann t with
      | false => none
      | true => match stepT (denote tb) p w s t with
        | some (s', t') => goT tb p w n₀ ann n s' t'
        | none => none
theorem goT_of {tb : String → Option Builtin} {p : Program} {w : World} {n₀ : Nat} {ann : Option Value} : ∀ {n : Nat} {s s' : SharedT} {t t' : Thread}, goT tb p w n₀ ann n s t = some (s', t') → topGo tb p w n₀ ann n s.abs t = some (s'.abs, t')
  | 0, s, s', t, t', h => by
    cases h; rfl
  | n + 1, s, s', t, t', h => by
    unfold goT at h
    unfold topGo
    cases ht : through t with
    | true => rw [ht] at h; cases h
    | false =>
      rw [ht] at h
      cases hk : stepOk n₀ ann t with
      | false => rw [hk] at h; cases h
      | true =>
        rw [hk] at h
        cases hs : stepT (denote tb) p w s t with
        | none => rw [hs] at h; cases h
        | some r => obtain ⟨s₂, t₂⟩ := r; rw [hs] at h; rw [stepT_spec hs]; exact goT_of h
theorem pre0 : ∀ (w : World) (os : OsState), goT treeTable pw w 28 ann 12 (st1 (bo w) w os) (topStub pw) = some (st2 (bo w) w os, ⟨denote treeTable cE, cE, ⟨0, 0, 0, 0⟩, B0⟩) :=
  fun w os => (fun (b : Bool) => (show goT treeTable pw w 28 ann 12 (st1 b w os) (topStub pw) = some (st2 b w os, ⟨denote treeTable cE, cE, ⟨0, 0, 0, 0⟩, B0⟩) from by kernel_rfl)) (bo w)
theorem block0 : ∀ (w : World) (os : OsState), segRunT treeTable pw w 28 ann 1 1 (st2 (bo w) w os) (blockOf (behindTheImports pw) env0 cE ⟨0, 0, 0, 0⟩ B0) = some (.next, st2 (bo w) w os, cE, ⟨0, 0, 0, 0⟩) :=
  fun w os => by kernel_rfl
theorem fin0 (w : World) (s : Shared) : topRun treeTable pw w 28 ann 2 s ⟨doneF .next, cE, ⟨161, 0, 193, 82⟩, B0⟩ = some s := by kernel_rfl
theorem bodyIs : behindTheImports pw = sts0 ++ (sts1 ++ (sts2 ++ (sts3 ++ (sts4 ++ (sts5 ++ (sts6 ++ (sts7 ++ (sts8 ++ [])))))))) := by kernel_rfl
theorem sizes : ∀ w : World, ((HF w.params).isNs mainGlobals && (⟨[]⟩ : Array GenState).size == 0, (HF w.params).objs.size, (HF w.params).nsMap mainGlobals "__annotations__") = (true, 28, ann) := fun w => by kernel_rfl
end
end Mine
end
section
open PySem PySem.W PySem.Calls PyProof.Rows
set_option Elab.async false
set_option maxRecDepth 100000
set_option maxHeartbeats 0
set_option linter.unusedVariables false
namespace Mine
noncomputable section
theorem run0 (w : World) (os : OsState) : segRun treeTable pw w 28 ann 1 69 (st2 (bo w) w os).abs (piecesOf sts0 env0 cE ⟨0, 0, 0, 0⟩ B0) = some (.next, (st3 (bo w) w os).abs, cE, ⟨6, 0, 12, 46⟩) := segRun_of (g0 w os)
theorem run1 (w : World) (os : OsState) : segRun treeTable pw w 28 ann 1 (58 + (117 + (115 + 71))) (st3 (bo w) w os).abs (piecesOf sts1 env0 cE ⟨6, 0, 12, 46⟩ B0) = some (.next, (st7 (bo w) w os).abs, cE, ⟨13, 0, 13, 6⟩) := seg_go (segGo_of (g1c0 w os)) (seg_go (segGo_of (g1c1 w os)) (seg_go (segGo_of (g1c2 w os)) (segRun_of (g1 w os))))
theorem run2 (w : World) (os : OsState) : segRun treeTable pw w 28 ann 1 30 (st7 (bo w) w os).abs (piecesOf sts2 env0 cE ⟨13, 0, 13, 6⟩ B0) = some (.next, (st8 (bo w) w os).abs, cE, ⟨14, 0, 15, 30⟩) := segRun_of (g2 w os)
theorem run3 (w : World) (os : OsState) : segRun treeTable pw w 28 ann 1 (446 + (102 + (100 + 127))) (st8 (bo w) w os).abs (piecesOf sts3 env0 cE ⟨14, 0, 15, 30⟩ B0) = some (.next, (st12 (bo w) w os).abs, cE, ⟨16, 0, 16, 6⟩) := seg_go (segGo_of (g3c0 w os)) (seg_go (segGo_of (g3c1 w os)) (seg_go (segGo_of (g3c2 w os)) (segRun_of (g3 w os))))
theorem run4 (w : World) (os : OsState) : segRun treeTable pw w 28 ann 1 30 (st12 (bo w) w os).abs (piecesOf sts4 env0 cE ⟨16, 0, 16, 6⟩ B0) = some (.next, (st13 (bo w) w os).abs, cE, ⟨17, 0, 18, 30⟩) := segRun_of (g4 w os)
theorem run5 (w : World) (os : OsState) : segRun treeTable pw w 28 ann 1 (87 + (306 + (306 + (306 + (306 + (306 + (161 + (102 + (100 + (100 + (102 + (100 + (100 + (100 + (100 + (100 + (100 + (100 + (100 + (100 + (100 + (100 + (102 + (100 + (100 + (100 + 67)))))))))))))))))))))))))) (st13 (bo w) w os).abs (piecesOf sts5 env0 cE ⟨17, 0, 18, 30⟩ B0) = some (.next, (st40 (bo w) w os).abs, cE, ⟨19, 0, 19, 6⟩) := seg_go (segGo_of (g5c0 w os)) (seg_go (segGo_of (g5c1 w os)) (seg_go (segGo_of (g5c2 w os)) (seg_go (segGo_of (g5c3 w os)) (seg_go (segGo_of (g5c4 w os)) (seg_go (segGo_of (g5c5 w os)) (seg_go (segGo_of (g5c6 w os)) (seg_go (segGo_of (g5c7 w os)) (seg_go (segGo_of (g5c8 w os)) (seg_go (segGo_of (g5c9 w os)) (seg_go (segGo_of (g5c10 w os)) (seg_go (segGo_of (g5c11 w os)) (seg_go (segGo_of (g5c12 w os)) (seg_go (segGo_of (g5c13 w os)) (seg_go (segGo_of (g5c14 w os)) (seg_go (segGo_of (g5c15 w os)) (seg_go (segGo_of (g5c16 w os)) (seg_go (segGo_of (g5c17 w os)) (seg_go (segGo_of (g5c18 w os)) (seg_go (segGo_of (g5c19 w os)) (seg_go (segGo_of (g5c20 w os)) (seg_go (segGo_of (g5c21 w os)) (seg_go (segGo_of (g5c22 w os)) (seg_go (segGo_of (g5c23 w os)) (seg_go (segGo_of (g5c24 w os)) (seg_go (segGo_of (g5c25 w os)) (segRun_of (g5 w os)))))))))))))))))))))))))))
theorem run6 (w : World) (os : OsState) : segRun treeTable pw w 28 ann 1 486 (st40 (bo w) w os).abs (piecesOf sts6 env0 cE ⟨19, 0, 19, 6⟩ B0) = some (.next, (st41 (bo w) w os).abs, cE, ⟨32, 0, 40, 20⟩) := segRun_of (g6 w os)
theorem run7 (w : World) (os : OsState) : segRun treeTable pw w 28 ann 1 727 (st41 (bo w) w os).abs (piecesOf sts7 env0 cE ⟨32, 0, 40, 20⟩ B0) = some (.next, (st42 (bo w) w os).abs, cE, ⟨41, 0, 122, 93⟩) := segRun_of (g7 w os)
theorem run8 (w : World) (os : OsState) : segRun treeTable pw w 28 ann 1 143 (st42 (bo w) w os).abs (piecesOf sts8 env0 cE ⟨41, 0, 122, 93⟩ B0) = some (.next, (st43 (bo w) w os).abs, cE, ⟨161, 0, 193, 82⟩) := segRun_of (g8 w os)
theorem runs (w : World) (os : OsState) : topRun treeTable pw w 28 ann (12 + (1 + (69 + ((58 + (117 + (115 + 71))) + (30 + ((446 + (102 + (100 + 127))) + (30 + ((87 + (306 + (306 + (306 + (306 + (306 + (161 + (102 + (100 + (100 + (102 + (100 + (100 + (100 + (100 + (100 + (100 + (100 + (100 + (100 + (100 + (100 + (102 + (100 + (100 + (100 + 67)))))))))))))))))))))))))) + (486 + (727 + (143 + 2))))))))))) (st1 (bo w) w os).abs (topStub pw) = some (st43 (bo w) w os).abs := by
  refine go_top (goT_of (pre0 w os)) (piece_block (segRun_of (block0 w os)) ?_)
  rw [bodyIs]
  exact piece_app (run0 w os) (piece_app (run1 w os) (piece_app (run2 w os) (piece_app (run3 w os) (piece_app (run4 w os) (piece_app (run5 w os) (piece_app (run6 w os) (piece_app (run7 w os) (piece_app (run8 w os) (fin0 w _)))))))))
end
end Mine
end
section
open PySem PySem.W PySem.Calls PyProof.Rows
set_option Elab.async false
set_option maxRecDepth 100000
set_option maxHeartbeats 0
set_option linter.unusedVariables false
namespace Mine
noncomputable section
noncomputable def qv : Program := { pw with main := { pw.main with body := [top 0, top 26] } }
noncomputable def looseN : List Str := ["_wall", "in_table_c4", "c7_set", "in_table_c7", "c8_set", "in_table_c8", "c9_set", "in_table_c9", "_twin_re_1", "_twin_re_2", "CRLF", "quotedata", "tspecials", "_name_disallowed_re", "_value_disallowed_re", "_formatparam", "Headers", "_law_kind", "_law_heap", "_law_rounds", "_law_same"]
noncomputable def XtT : Shared → Bool := fun _ => true
theorem looks1 : ∀ (w : World) (os : OsState), (staticsOk (importedModules pw.main.body) (HF w.params) (HL w.params) && namesBound pw (HL w.params) && gensDone ⟨HL w.params, ⟨[]⟩, dr, 954, os⟩ && laidKept (HF w.params) (HL w.params)) = true := fun w os => by kernel_rfl
end
end Mine
end
section
open PySem PySem.W PySem.Calls PyProof.Rows
set_option Elab.async false
set_option maxRecDepth 100000
set_option maxHeartbeats 0
set_option linter.unusedVariables false
namespace Mine
noncomputable section
theorem looks2 : ∀ (w : World) (os : OsState), openSeen qv looseN (importedModules pw.main.body) XtT true ⟨HL w.params, ⟨[]⟩, dr, 954, os⟩ = openGood qv looseN := fun w os => by
  rw [PySem.W.Fast.te4187177175401517315]; kernel_rfl
end
end Mine
end
section
open PySem PySem.W PySem.Calls PyProof.Rows
set_option Elab.async false
set_option maxRecDepth 100000
set_option maxHeartbeats 0
set_option linter.unusedVariables false
namespace Mine
noncomputable section
noncomputable def KF (P : Params) : Frag := [(0, ob0 (bp P) P), (1, ob1 (bp P) P), (2, ob2 (bp P) P), (3, ob252 (bp P) P), (4, ob4 (bp P) P), (5, ob5 (bp P) P), (6, ob6 (bp P) P), (7, ob7 (bp P) P), (8, ob8 (bp P) P), (9, ob9 (bp P) P), (10, ob10 (bp P) P), (11, ob27 (bp P) P), (12, ob12 (bp P) P), (13, ob13 (bp P) P), (14, ob14 (bp P) P), (15, ob7 (bp P) P), (16, ob15 (bp P) P), (17, ob16 (bp P) P), (18, ob17 (bp P) P), (19, ob18 (bp P) P), (20, ob19 (bp P) P), (21, ob20 (bp P) P), (22, ob21 (bp P) P), (23, ob22 (bp P) P), (24, ob23 (bp P) P), (25, ob24 (bp P) P), (26, ob25 (bp P) P), (27, ob26 (bp P) P), (28, ob7 (bp P) P), (29, ob253 (bp P) P), (30, ob28 (bp P) P), (31, ob29 (bp P) P), (32, ob7 (bp P) P), (33, ob8 (bp P) P), (34, ob32 (bp P) P), (35, ob7 (bp P) P), (36, ob33 (bp P) P), (37, ob34 (bp P) P), (38, ob35 (bp P) P), (39, ob7 (bp P) P), (40, ob8 (bp P) P), (41, ob36 (bp P) P), (42, ob7 (bp P) P), (43, ob37 (bp P) P), (44, ob38 (bp P) P), (45, ob39 (bp P) P), (46, ob40 (bp P) P), (47, ob48 (bp P) P), (48, ob49 (bp P) P), (49, ob7 (bp P) P), (50, ob50 (bp P) P), (51, ob7 (bp P) P), (52, ob8 (bp P) P), (53, ob53 (bp P) P), (54, ob7 (bp P) P), (55, ob54 (bp P) P), (56, ob55 (bp P) P), (57, ob56 (bp P) P), (58, ob57 (bp P) P), (59, ob58 (bp P) P), (60, ob59 (bp P) P), (61, ob60 (bp P) P), (62, ob7 (bp P) P), (63, ob61 (bp P) P), (64, ob62 (bp P) P), (65, ob63 (bp P) P), (66, ob64 (bp P) P), (67, ob65 (bp P) P), (68, ob7 (bp P) P), (69, ob66 (bp P) P), (70, ob67 (bp P) P), (71, ob74 (bp P) P), (72, ob75 (bp P) P), (73, ob7 (bp P) P), (74, ob76 (bp P) P), (75, ob7 (bp P) P), (76, ob8 (bp P) P), (77, ob79 (bp P) P), (78, ob7 (bp P) P), (79, ob80 (bp P) P), (80, ob81 (bp P) P), (81, ob82 (bp P) P), (82, ob83 (bp P) P), (83, ob84 (bp P) P), (84, ob97 (bp P) P), (85, ob98 (bp P) P), (86, ob7 (bp P) P), (87, ob99 (bp P) P), (88, ob100 (bp P) P), (89, ob141 (bp P) P), (90, ob142 (bp P) P), (91, ob7 (bp P) P), (92, ob143 (bp P) P), (93, ob7 (bp P) P), (94, ob8 (bp P) P), (95, ob146 (bp P) P), (96, ob7 (bp P) P), (97, ob147 (bp P) P), (98, ob148 (bp P) P), (99, ob149 (bp P) P), (100, ob150 (bp P) P), (101, ob6 (bp P) P), (102, ob151 (bp P) P), (103, ob152 (bp P) P), (104, ob153 (bp P) P), (105, ob154 (bp P) P), (106, ob6 (bp P) P), (107, ob151 (bp P) P), (108, ob155 (bp P) P), (109, ob156 (bp P) P), (110, ob7 (bp P) P), (111, ob8 (bp P) P), (112, ob157 (bp P) P), (113, ob7 (bp P) P), (114, ob158 (bp P) P), (115, ob159 (bp P) P), (116, ob160 (bp P) P), (117, ob161 (bp P) P), (118, ob6 (bp P) P), (119, ob151 (bp P) P), (120, ob162 (bp P) P), (121, ob163 (bp P) P), (122, ob164 (bp P) P), (123, ob6 (bp P) P), (124, ob151 (bp P) P), (125, ob165 (bp P) P), (126, ob166 (bp P) P), (127, ob167 (bp P) P), (128, ob6 (bp P) P), (129, ob151 (bp P) P), (130, ob168 (bp P) P), (131, ob169 (bp P) P), (132, ob170 (bp P) P), (133, ob7 (bp P) P), (134, ob8 (bp P) P), (135, ob171 (bp P) P), (136, ob7 (bp P) P), (137, ob172 (bp P) P), (138, ob173 (bp P) P), (139, ob174 (bp P) P), (140, ob7 (bp P) P), (141, ob177 (bp P) P), (142, ob178 (bp P) P), (143, ob7 (bp P) P), (144, ob179 (bp P) P), (145, ob180 (bp P) P), (146, ob181 (bp P) P), (147, ob151 (bp P) P), (148, ob7 (bp P) P), (149, ob8 (bp P) P), (150, ob182 (bp P) P), (151, ob7 (bp P) P), (152, ob183 (bp P) P), (153, ob184 (bp P) P), (154, ob185 (bp P) P), (155, ob7 (bp P) P), (156, ob8 (bp P) P), (157, ob186 (bp P) P), (158, ob7 (bp P) P), (159, ob187 (bp P) P), (160, ob188 (bp P) P), (161, ob189 (bp P) P), (162, ob7 (bp P) P), (163, ob8 (bp P) P), (164, ob190 (bp P) P), (165, ob7 (bp P) P), (166, ob191 (bp P) P), (167, ob192 (bp P) P), (168, ob193 (bp P) P), (169, ob7 (bp P) P), (170, ob8 (bp P) P), (171, ob194 (bp P) P), (172, ob7 (bp P) P), (173, ob195 (bp P) P), (174, ob196 (bp P) P), (175, ob197 (bp P) P), (176, ob7 (bp P) P), (177, ob8 (bp P) P), (178, ob198 (bp P) P), (179, ob199 (bp P) P), (180, ob200 (bp P) P), (181, ob7 (bp P) P), (182, ob8 (bp P) P), (183, ob201 (bp P) P), (184, ob7 (bp P) P), (185, ob202 (bp P) P), (186, ob203 (bp P) P), (187, ob204 (bp P) P), (188, ob7 (bp P) P), (189, ob8 (bp P) P), (190, ob205 (bp P) P), (191, ob7 (bp P) P), (192, ob206 (bp P) P), (193, ob207 (bp P) P), (194, ob208 (bp P) P), (195, ob7 (bp P) P), (196, ob8 (bp P) P), (197, ob209 (bp P) P), (198, ob210 (bp P) P), (199, ob211 (bp P) P), (200, ob151 (bp P) P), (201, ob7 (bp P) P), (202, ob8 (bp P) P), (203, ob212 (bp P) P), (204, ob7 (bp P) P), (205, ob213 (bp P) P), (206, ob214 (bp P) P), (207, ob215 (bp P) P), (208, ob7 (bp P) P), (209, ob8 (bp P) P), (210, ob216 (bp P) P), (211, ob217 (bp P) P), (212, ob218 (bp P) P), (213, ob7 (bp P) P), (214, ob8 (bp P) P), (215, ob219 (bp P) P), (216, ob220 (bp P) P), (217, ob221 (bp P) P), (218, ob7 (bp P) P), (219, ob8 (bp P) P), (220, ob222 (bp P) P), (221, ob7 (bp P) P), (222, ob223 (bp P) P), (223, ob224 (bp P) P), (224, ob225 (bp P) P), (225, ob7 (bp P) P), (226, ob8 (bp P) P), (227, ob226 (bp P) P), (228, ob7 (bp P) P), (229, ob227 (bp P) P), (230, ob228 (bp P) P), (231, ob229 (bp P) P), (232, ob7 (bp P) P), (233, ob8 (bp P) P), (234, ob230 (bp P) P), (235, ob231 (bp P) P), (236, ob232 (bp P) P), (237, ob7 (bp P) P), (238, ob8 (bp P) P), (239, ob233 (bp P) P), (240, ob7 (bp P) P), (241, ob234 (bp P) P), (242, ob235 (bp P) P), (243, ob236 (bp P) P), (244, ob7 (bp P) P), (245, ob8 (bp P) P), (246, ob237 (bp P) P), (247, ob7 (bp P) P), (248, ob238 (bp P) P), (249, ob239 (bp P) P), (250, ob240 (bp P) P), (251, ob7 (bp P) P), (252, ob8 (bp P) P), (253, ob241 (bp P) P), (254, ob7 (bp P) P), (255, ob242 (bp P) P), (256, ob243 (bp P) P), (257, ob244 (bp P) P), (258, ob245 (bp P) P), (259, ob246 (bp P) P), (260, ob247 (bp P) P), (261, ob248 (bp P) P), (262, ob249 (bp P) P), (263, ob250 (bp P) P), (264, ob251 (bp P) P), (265, ob7 (bp P) P), (266, ob8 (bp P) P), (267, ob254 (bp P) P), (268, ob7 (bp P) P), (269, ob255 (bp P) P), (270, ob256 (bp P) P), (271, ob257 (bp P) P), (272, ob7 (bp P) P), (273, ob8 (bp P) P), (274, ob258 (bp P) P), (275, ob259 (bp P) P), (276, ob260 (bp P) P), (277, ob7 (bp P) P), (278, ob8 (bp P) P), (279, ob261 (bp P) P), (280, ob262 (bp P) P), (281, ob263 (bp P) P), (282, ob7 (bp P) P), (283, ob8 (bp P) P), (284, ob264 (bp P) P), (285, ob265 (bp P) P), (286, ob266 (bp P) P), (287, ob7 (bp P) P), (288, ob8 (bp P) P), (289, ob267 (bp P) P), (290, ob268 (bp P) P), (291, ob269 (bp P) P)]
noncomputable def YP (w : World) (h : Heap) : Prop := ∀ b o, (HL w.params).get? b = some o → h.get? b = some o
theorem kf0 : ∀ w : World, ((KF w.params).map (·.1)).map (HL w.params).get? = (KF w.params).map (fun p => some p.2) := fun w => by kernel_rfl
theorem kf_in {w : World} {h : Heap} (Y : YP w h) : (KF w.params).In h := fun a o e => Y a o (Frag.in_of rfl (kf0 w) a o e)
end
end Mine
end
section
open PySem PySem.W PySem.Calls PyProof.Rows
set_option Elab.async false
set_option maxRecDepth 100000
set_option maxHeartbeats 0
set_option linter.unusedVariables false
namespace Mine
noncomputable section
theorem left : LeftO pw qv looseN XtT (fun s => s.heap) (fun w => HL w.params) 13000 :=
  LeftO.of_pieces (p := pw) (q := qv) (N := 13000) (H₀ := HF) (H₁ := HL) (gs₀ := ⟨[]⟩) (gs₁ := ⟨[]⟩) (d₀ := dr) (d₁ := dr) (k₀ := 276) (k₁ := 954) (m₀ := 28) (ann := ann) opened sizes (fun w os => runs w os) (by decide +kernel)
    (fun w => funext fun os => looks_pair (looks1 w os) (looks_pair (looks2 w os) rfl))
noncomputable def lawD : DefRec := ⟨"law", fnP (top 26), fnB (top 26), fnS (top 26), ⟨161, 0, 193, 82⟩⟩
noncomputable abbrev lrow : OpenRow := rwS.row
theorem hdefL : defOf qv lrow.name = some (lawD, []) := by kernel_rfl
theorem hpL : lrow.prog.theDef lrow.name = some (lawD.params, lawD.body, lawD.scope) := by kernel_rfl
theorem hkL : kwWritten? lawD.params.kwonlyargs lawD.params.kw_defaults = some [] := by kernel_rfl
theorem headL (walk : WalkO qv looseN (fun _ _ => True) YP lrow.toRowW lawD [] fun f vs => PySem.call f vs) : PySem.Challenge.rw_re0107_01.Holds := by
  rw [rw_eq]
  o_law
  exact PySem.W.holds_open (r := lrow) (q := qv) (loose := looseN) (Xt := XtT) (XP := fun _ _ => True) (Yf := fun s => s.heap) (Ya := fun w => HL w.params) (YP := YP) (N := 13000)
    left (fun w s e => by intro b o h; rw [show s.heap = HL w.params from e]; exact h) (fun w h h' y k b o e => k b o (y b o e))
    (fun s _ => trivial) (fun _ _ _ _ _ => trivial) hdefL hpL hkL (fun s _ => recFacts_nil rfl) (by rfl) (by assumption) (by decide +kernel) ⟨rfl, rfl, rfl, rfl, rfl, by decide +kernel⟩
    ⟨[.list []], by decide +kernel, by decide +kernel⟩ walk
end
end Mine
end
section
open PySem PySem.W PySem.Calls PyProof.Rows PySem.W.X PySem.W.XRun
set_option Elab.async false
set_option maxRecDepth 100000
set_option maxHeartbeats 0
set_option linter.unusedVariables false
namespace Mine
structure Ext (s s' : Shared) : Prop where
  keep : ∀ b o, s.heap.get? b = some o → s'.heap.get? b = some o
  gens : s'.gens = s.gens
  drawn : s'.drawn = s.drawn
  os : s'.os = s.os
structure But (a : Addr) (s s' : Shared) : Prop where
  keep : ∀ b o, b ≠ a → s.heap.get? b = some o → s'.heap.get? b = some o
  gens : s'.gens = s.gens
  drawn : s'.drawn = s.drawn
  os : s'.os = s.os
theorem Ext.refl (s : Shared) : Ext s s := ⟨fun _ _ e => e, rfl, rfl, rfl⟩
theorem Ext.trans {a b c : Shared} (x : Ext a b) (y : Ext b c) : Ext a c := ⟨fun p o e => y.keep p o (x.keep p o e), y.gens.trans x.gens, y.drawn.trans x.drawn, y.os.trans x.os⟩
theorem Ext.but {b s s' : Shared} {a : Addr} (x : Ext b s) (y : But a s s') (f : b.heap.get? a = none) : Ext b s' :=
  ⟨fun p o e => y.keep p o (fun z => by subst z; rw [f] at e; cases e) (x.keep p o e), y.gens.trans x.gens, y.drawn.trans x.drawn, y.os.trans x.os⟩
theorem Ext.toks (s : Shared) (t : Nat) : Ext s { s with toks := t } := ⟨fun _ _ e => e, rfl, rfl, rfl⟩
theorem Ext.push (s : Shared) (o : Obj) (t : Nat) : Ext s { s with heap := s.heap.push o, toks := t } := ⟨fun _ _ e => Heap.get?_push_of_some _ e, rfl, rfl, rfl⟩
theorem Ext.mem {h h' : Heap} {news : List (Addr × Obj)} {g : Array GenState} {d : Drawn} {t t' : Nat} {os : OsState} (D : Mem h h' [] news) : Ext ⟨h, g, d, t, os⟩ ⟨h', g, d, t', os⟩ :=
  ⟨fun b o e => D.keep b o e (by rw [show away [] b = true from rfl, Bool.or_true]), rfl, rfl, rfl⟩
theorem fresh_at (s : Shared) : s.heap.get? s.heap.objs.size = none := Heap.get?_none_of_le (Nat.le_refl _)
theorem fresh_ne {s : Shared} {a b : Addr} {o : Obj} (f : s.heap.get? a = none) (e : s.heap.get? b = some o) : b ≠ a := fun z => by subst z; rw [f] at e; cases e
noncomputable abbrev A0 : Around := { handled := none, depth := 800, frames := none, guards := none, units := 800 }
theorem weakA {α : Type} {M : Model} {A A' : Around} {t : Sem α} {Q : α → Shared → Prop} {E : Value → Shared → Prop} {s : Shared} (h : wpAny M A t Q E s) (h1 : A'.handled = A.handled) (h2 : A'.depth ≤ A.depth)
    (h3 : A.frames = none) (h4 : A.guards = none) (h5 : A'.units ≤ A.units) : wpAny M A' t Q E s :=
  fun Γ p hΓ => h Γ p (show Γ.In A from by
    obtain ⟨q1, q2, q3, q4, q5⟩ := hΓ
    exact ⟨q1.trans h1, Nat.le_trans q2 h2, fun l hl => (by rw [h3] at hl; cases hl), fun g hg => (by rw [h4] at hg; cases hg), Nat.le_trans q5 h5⟩)
structure Room (A : Around) (n : Nat) : Prop where
  hd : A.handled = none
  dp : A.depth + n ≤ 800
  un : A.units + 10 * n ≤ 800
theorem Room.le {A : Around} {n m : Nat} (R : Room A n) (h : m ≤ n) : Room A m := ⟨R.hd, by have := R.dp; omega, by have := R.un; omega⟩
theorem Room.deeper {A : Around} {n : Nat} (R : Room A (n + 1)) (env : Env) : Room (A.deeper env) n := ⟨R.hd, by have := R.dp; show A.depth + 1 + n ≤ 800; omega, by have := R.un; show A.units + 3 + 10 * n ≤ 800; omega⟩
theorem Room.in1 {A : Around} {n : Nat} (R : Room A (n + 1)) : Room A.in1 n := ⟨R.hd, by have := R.dp; show A.depth + n ≤ 800; omega, by have := R.un; show A.units + 1 + 10 * n ≤ 800; omega⟩
theorem Room.limit {A : Around} {n : Nat} (R : Room A n) : A.depth < recursionLimit := by have := R.dp; show A.depth < 1000; omega
theorem Room.line {A : Around} {n : Nat} (R : Room A n) : A.units < cLine := by have := R.un; show A.units < 9900; omega
noncomputable abbrev NoE : Value → Shared → Prop := fun _ _ => False
noncomputable abbrev WP {α : Type} (w : World) (A : Around) (t : Sem α) (Q : α → Shared → Prop) (s : Shared) : Prop := wpAny (model pw w) A t Q NoE s
section
variable {α : Type} {w : World} {A : Around} {s : Shared}
theorem Room.leaf {A : Around} {t : Sem α} {Q : α → Shared → Prop} {n : Nat} (R : Room A n) (h : WP w A0 t Q s) : WP w A t Q s :=
  weakA h R.hd (by have := R.dp; show A.depth ≤ 800; omega) rfl rfl (by have := R.un; show A.units ≤ 800; omega)
theorem WP.mono {t : Sem α} {Q Q' : α → Shared → Prop} (h : WP w A t Q s) (k : ∀ a s, Q a s → Q' a s) : WP w A t Q' s := wpAny_mono h k fun _ _ e => e
end
theorem YP.keeps {w : World} {s s' : Shared} (T : YP w s.heap) (x : Ext s s') : YP w s'.heap := fun b o e => x.keep b o (T b o e)
theorem YP.get {w : World} {h : Heap} (T : YP w h) {a : Addr} {o : Obj} (e : (HL w.params).get? a = some o) : h.get? a = some o := T a o e
theorem gNs {w : World} : (HL w.params).isNs mainGlobals = true := by kernel_rfl
theorem bNs {w : World} : (HL w.params).isNs builtinsNs = true := by kernel_rfl
theorem cNs {w : World} : (HL w.params).isNs cStatics = true := by kernel_rfl
theorem YP.g {w : World} {h : Heap} (T : YP w h) : h.Ns mainGlobals ((HL w.params).nsMap mainGlobals) := (Heap.Ns.of_isNs gNs).keeps T
theorem YP.b {w : World} {h : Heap} (T : YP w h) : h.Ns builtinsNs ((HL w.params).nsMap builtinsNs) := (Heap.Ns.of_isNs bNs).keeps T
theorem noLim {w : World} : (HL w.params).nsMap cStatics "sys.recursionlimit" = none := by kernel_rfl
theorem YP.lim {w : World} {h : Heap} (T : YP w h) : h.NoLimit := ⟨_, (Heap.Ns.of_isNs cNs).keeps T, noLim⟩
noncomputable def Loc (h : Heap) (L : Addr) (l : List (Str × Value)) : Prop := ∃ m, h.Ns L m ∧ ∀ x v, l.lookup x = some v → m x = some v
theorem Loc.keeps {s s' : Shared} {L : Addr} {l : List (Str × Value)} (F : Loc s.heap L l) (x : Ext s s') : Loc s'.heap L l := let ⟨m, a, b⟩ := F; ⟨m, a.keeps x.keep, b⟩
theorem Loc.get {h : Heap} {L : Addr} {l : List (Str × Value)} (F : Loc h L l) : ∃ o, h.get? L = some o := let ⟨_, ⟨o, _, _, e, _⟩, _⟩ := F; ⟨o, e⟩
theorem Loc.but {s s' : Shared} {L a : Addr} {l : List (Str × Value)} (F : Loc s.heap L l) (x : But a s s') (ne : L ≠ a) : Loc s'.heap L l :=
  let ⟨m, ⟨o, es, ep, e, r⟩, b⟩ := F
  ⟨m, ⟨o, es, ep, x.keep L o ne e, r⟩, b⟩
theorem Loc.sub {h : Heap} {L : Addr} {l l' : List (Str × Value)} (F : Loc h L l) (k : ∀ x v, l'.lookup x = some v → l.lookup x = some v) : Loc h L l' := let ⟨m, a, b⟩ := F; ⟨m, a, fun x v e => b x v (k x v e)⟩
theorem lk_here {x : Str} {v : Value} {l : List (Str × Value)} : List.lookup x ((x, v) :: l) = some v := by simp [List.lookup]
theorem lk_next {x y : Str} {v u : Value} {l : List (Str × Value)} (h : (x == y) = false) (k : List.lookup x l = some v) : List.lookup x ((y, u) :: l) = some v := by simp only [List.lookup, h]; exact k
section
variable {w : World} {A : Around} {s : Shared} {nm : Str} {scope : Scope} {L a : Addr} {cd : Value} {l : List (Str × Value)} {x : Str} {pos : Pos} {v : Value}
theorem evL {Q : Value → Shared → Prop} (F : Loc s.heap L l) (hx : l.lookup x = some v) (h : Q v s) (hk : scope.kind = .function := by kernel_rfl!)
    (hl : (envOf nm scope L a cd).kindOf x = some .local := by kernel_rfl!) (hd : (x == ("__debug__" : Str)) = false := by kernel_rfl!) : WP w A (eval (.Name x pos) (envOf nm scope L a cd)) Q s :=
  let ⟨m, hn, hm⟩ := F
  wpAny_Name (wpAny_loadName_local hk hl hn (hm x v hx) h) hd
theorem evG {Q : Value → Shared → Prop} (T : YP w s.heap) (hv : (HL w.params).nsMap mainGlobals x = some v) (h : Q v s) (hk : scope.kind = .function := by kernel_rfl!)
    (hl : (envOf nm scope L a cd).kindOf x = some .globalImplicit := by kernel_rfl!) (hd : (x == ("__debug__" : Str)) = false := by kernel_rfl!) : WP w A (eval (.Name x pos) (envOf nm scope L a cd)) Q s :=
  Name_function_global hk hl (loadGlobal_global (env := envOf nm scope L a cd) T.g hv h) hd
theorem evB {Q : Value → Shared → Prop} (T : YP w s.heap) (hm : (HL w.params).nsMap mainGlobals x = none) (hv : (HL w.params).nsMap builtinsNs x = some v) (h : Q v s) (hk : scope.kind = .function := by kernel_rfl!)
    (hl : (envOf nm scope L a cd).kindOf x = some .globalImplicit := by kernel_rfl!) (hd : (x == ("__debug__" : Str)) = false := by kernel_rfl!) : WP w A (eval (.Name x pos) (envOf nm scope L a cd)) Q s :=
  Name_function_global hk hl (loadGlobal_builtin (env := envOf nm scope L a cd) T.g hm T.b hv h) hd
theorem stL {Q : Unit → Shared → Prop} (F : Loc s.heap L l) (h : ∀ s', But L s s' → Loc s'.heap L ((x, v) :: l) → Q () s') (hk : scope.kind = .function := by kernel_rfl!)
    (hl : (envOf nm scope L a cd).kindOf x = some .local := by kernel_rfl!) : WP w A (storeName (envOf nm scope L a cd) x v) Q s :=
  let ⟨m, hn, hm⟩ := F
  wpAny_storeName_local hl hn (fun h' hn' hs => h _ ⟨fun b o ne e => (hs.2 b ne).trans e, rfl, rfl, rfl⟩ ⟨_, hn', fun y u e => by
    by_cases hy : y = x
    · subst hy
      rw [lk_here] at e
      rw [if_pos rfl]; exact e
    · rw [if_neg hy]
      refine hm y u ?_
      rw [← e]
      simp only [List.lookup, beq_eq_false_iff_ne.mpr hy]⟩)
    (by show (scope.kind == .class || (scope.kind == .module && L != mainGlobals)) = false; rw [hk]; rfl)
end
theorem callF {w : World} {A : Around} {s : Shared} {n : Nat} {a : Addr} {o : Obj} {fd : FuncData} {body : List Stmt} {pos : List Value} {kw : List (Str × Value)} {binds : List (Str × Value)} {Q : Value → Shared → Prop}
    (R : Room A n) (T : YP w s.heap) (ho : s.heap.get? a = some o) (hd : o.data = .func fd) (hb : fd.body = .stmts body) (hcd : s.heap.CodeRec fd.code fd.qualname)
    (hbind : bindArgs fd ⟨pos, kw⟩ = pure binds) (hloc : (binds.all fun x => decide (fd.scope.names.lookup x.1 = some .local)) = true)
    (h : ∀ L s₁, Ext s s₁ → s.heap.get? L = none → Loc s₁.heap L binds.reverse →
      WP w (A.deeper (envOf fd.qualname fd.scope L a fd.code)) (execs body (envOf fd.qualname fd.scope L a fd.code)) (fun f s' => Q (match f with | .ret v => v | _ => .none) s') s₁)
    (hco : fd.scope.isCoroutine = false := by kernel_rfl!) (hgen : fd.scope.isGenerator = false := by kernel_rfl!) (hk : fd.scope.kind = .function := by kernel_rfl!)
    (hcell : (fd.scope.names.all fun x => decide (x.2 ≠ .cell)) = true := by kernel_rfl!) (hg : fd.globals = mainGlobals := by rfl) (hc : fd.closure = [] := by rfl) (hbi : fd.builtins = builtinsNs := by rfl) :
    WP w A (call (.ref a) pos kw) Q s := by
  refine wpAny_call (codeAny_call_function R.limit ho hd hco hgen hb hcd ?_)
  rw [hbind]
  refine wpAny_pure (wpAny_newFunctionEnv (fun x hx => of_decide_eq_true (List.all_eq_true.mp hcell x hx)) (locs hloc) (fun h₁ hns hsb => ⟨?_, ?_⟩) hk)
  · exact T.lim.fresh _ hsb
  · rw [hg, hc, hbi]
    show codeAny _ _ (.func body (envOf fd.qualname fd.scope s.heap.objs.size a fd.code)) _ _
    refine codeAny_func (wpAny_mono (h s.heap.objs.size { s with heap := h₁, toks := s.toks + binds.length } ⟨fun b o e => hsb.extBut b o (Nat.ne_of_lt (Heap.lt_size e)) (Heap.get?_push_of_some _ e), rfl, rfl, rfl⟩ (fresh_at s) ⟨_, hns, fun _ _ e => e⟩) (fun f s' q => q) fun _ _ e => e.elim)
end Mine
end
section
open PySem PySem.W PySem.Calls PyProof.Rows PySem.W.X PySem.W.XRun
set_option Elab.async false
set_option maxRecDepth 100000
set_option maxHeartbeats 0
set_option linter.unusedVariables false
namespace Mine
noncomputable section
noncomputable def fd45 : FuncData := { name := ⟨⟨[105, 110, 95, 116, 97, 98, 108, 101, 95, 99, 52]⟩⟩, qualname := ⟨⟨[105, 110, 95, 116, 97, 98, 108, 101, 95, 99, 52]⟩⟩, params := fnP (top 3), body := .stmts (fnB (top 3)), scope := fnS (top 3), globals := 3, closure := [], defaults := .none, kwdefaults := .none, doc := .none, pyModule := .str ⟨⟨[99, 112, 121, 51, 49, 51, 46, 115, 116, 114, 105, 110, 103, 112, 114, 101, 112]⟩⟩ 289, annotations := none, code := .ref 44, closureTuple := .none, builtins := 0 }
theorem fo45 (w : World) : (HL w.params).get? 45 = some ⟨.type "function", none, .func fd45, ⟨[]⟩⟩ := by kernel_rfl
theorem co45 (w : World) : (HL w.params).get? 44 = some (ob38 (bp w.params) w.params) := by kernel_rfl
theorem fc45 {w : World} {h : Heap} (T : YP w h) : h.CodeRec fd45.code fd45.qualname := ⟨44, _, _, _, rfl, T _ _ (co45 w), rfl, rfl⟩
noncomputable def fd57 : FuncData := { name := ⟨⟨[105, 110, 95, 116, 97, 98, 108, 101, 95, 99, 55]⟩⟩, qualname := ⟨⟨[105, 110, 95, 116, 97, 98, 108, 101, 95, 99, 55]⟩⟩, params := fnP (top 5), body := .stmts (fnB (top 5)), scope := fnS (top 5), globals := 3, closure := [], defaults := .none, kwdefaults := .none, doc := .none, pyModule := .str ⟨⟨[99, 112, 121, 51, 49, 51, 46, 115, 116, 114, 105, 110, 103, 112, 114, 101, 112]⟩⟩ 289, annotations := none, code := .ref 56, closureTuple := .none, builtins := 0 }
theorem fo57 (w : World) : (HL w.params).get? 57 = some ⟨.type "function", none, .func fd57, ⟨[]⟩⟩ := by kernel_rfl
theorem co57 (w : World) : (HL w.params).get? 56 = some (ob55 (bp w.params) w.params) := by kernel_rfl
theorem fc57 {w : World} {h : Heap} (T : YP w h) : h.CodeRec fd57.code fd57.qualname := ⟨56, _, _, _, rfl, T _ _ (co57 w), rfl, rfl⟩
noncomputable def fd81 : FuncData := { name := ⟨⟨[105, 110, 95, 116, 97, 98, 108, 101, 95, 99, 56]⟩⟩, qualname := ⟨⟨[105, 110, 95, 116, 97, 98, 108, 101, 95, 99, 56]⟩⟩, params := fnP (top 7), body := .stmts (fnB (top 7)), scope := fnS (top 7), globals := 3, closure := [], defaults := .none, kwdefaults := .none, doc := .none, pyModule := .str ⟨⟨[99, 112, 121, 51, 49, 51, 46, 115, 116, 114, 105, 110, 103, 112, 114, 101, 112]⟩⟩ 289, annotations := none, code := .ref 80, closureTuple := .none, builtins := 0 }
theorem fo81 (w : World) : (HL w.params).get? 81 = some ⟨.type "function", none, .func fd81, ⟨[]⟩⟩ := by kernel_rfl
theorem co81 (w : World) : (HL w.params).get? 80 = some (ob81 (bp w.params) w.params) := by kernel_rfl
theorem fc81 {w : World} {h : Heap} (T : YP w h) : h.CodeRec fd81.code fd81.qualname := ⟨80, _, _, _, rfl, T _ _ (co81 w), rfl, rfl⟩
noncomputable def fd99 : FuncData := { name := ⟨⟨[105, 110, 95, 116, 97, 98, 108, 101, 95, 99, 57]⟩⟩, qualname := ⟨⟨[105, 110, 95, 116, 97, 98, 108, 101, 95, 99, 57]⟩⟩, params := fnP (top 9), body := .stmts (fnB (top 9)), scope := fnS (top 9), globals := 3, closure := [], defaults := .none, kwdefaults := .none, doc := .none, pyModule := .str ⟨⟨[99, 112, 121, 51, 49, 51, 46, 115, 116, 114, 105, 110, 103, 112, 114, 101, 112]⟩⟩ 289, annotations := none, code := .ref 98, closureTuple := .none, builtins := 0 }
theorem fo99 (w : World) : (HL w.params).get? 99 = some ⟨.type "function", none, .func fd99, ⟨[]⟩⟩ := by kernel_rfl
theorem co99 (w : World) : (HL w.params).get? 98 = some (ob148 (bp w.params) w.params) := by kernel_rfl
theorem fc99 {w : World} {h : Heap} (T : YP w h) : h.CodeRec fd99.code fd99.qualname := ⟨98, _, _, _, rfl, T _ _ (co99 w), rfl, rfl⟩
noncomputable def fd116 : FuncData := { name := ⟨⟨[113, 117, 111, 116, 101, 100, 97, 116, 97]⟩⟩, qualname := ⟨⟨[113, 117, 111, 116, 101, 100, 97, 116, 97]⟩⟩, params := fnP (top 14), body := .stmts (fnB (top 14)), scope := fnS (top 14), globals := 3, closure := [], defaults := .none, kwdefaults := .none, doc := .none, pyModule := .str ⟨⟨[99, 112, 121, 51, 49, 51, 46, 115, 109, 116, 112, 108, 105, 98]⟩⟩ 589, annotations := none, code := .ref 115, closureTuple := .none, builtins := 0 }
theorem fo116 (w : World) : (HL w.params).get? 116 = some ⟨.type "function", none, .func fd116, ⟨[]⟩⟩ := by kernel_rfl
theorem co116 (w : World) : (HL w.params).get? 115 = some (ob159 (bp w.params) w.params) := by kernel_rfl
theorem fc116 {w : World} {h : Heap} (T : YP w h) : h.CodeRec fd116.code fd116.qualname := ⟨115, _, _, _, rfl, T _ _ (co116 w), rfl, rfl⟩
noncomputable def fd154 : FuncData := { name := ⟨⟨[95, 95, 105, 110, 105, 116, 95, 95]⟩⟩, qualname := ⟨⟨[72, 101, 97, 100, 101, 114, 115, 46, 95, 95, 105, 110, 105, 116, 95, 95]⟩⟩, params := fnP (meth 0), body := .stmts (fnB (meth 0)), scope := fnS (meth 0), globals := 3, closure := [], defaults := .ref 147, kwdefaults := .none, doc := .none, pyModule := .str ⟨⟨[99, 112, 121, 51, 49, 51, 46, 119, 115, 103, 105, 114, 101, 102, 46, 104, 101, 97, 100, 101, 114, 115]⟩⟩ 658, annotations := none, code := .ref 153, closureTuple := .none, builtins := 0 }
theorem fo154 (w : World) : (HL w.params).get? 154 = some ⟨.type "function", none, .func fd154, ⟨[]⟩⟩ := by kernel_rfl
theorem co154 (w : World) : (HL w.params).get? 153 = some (ob184 (bp w.params) w.params) := by kernel_rfl
theorem fc154 {w : World} {h : Heap} (T : YP w h) : h.CodeRec fd154.code fd154.qualname := ⟨153, _, _, _, rfl, T _ _ (co154 w), rfl, rfl⟩
noncomputable def fd161 : FuncData := { name := ⟨⟨[95, 99, 111, 110, 118, 101, 114, 116, 95, 115, 116, 114, 105, 110, 103, 95, 116, 121, 112, 101]⟩⟩, qualname := ⟨⟨[72, 101, 97, 100, 101, 114, 115, 46, 95, 99, 111, 110, 118, 101, 114, 116, 95, 115, 116, 114, 105, 110, 103, 95, 116, 121, 112, 101]⟩⟩, params := fnP (meth 1), body := .stmts (fnB (meth 1)), scope := fnS (meth 1), globals := 3, closure := [], defaults := .none, kwdefaults := .none, doc := .none, pyModule := .str ⟨⟨[99, 112, 121, 51, 49, 51, 46, 119, 115, 103, 105, 114, 101, 102, 46, 104, 101, 97, 100, 101, 114, 115]⟩⟩ 658, annotations := none, code := .ref 160, closureTuple := .none, builtins := 0 }
theorem fo161 (w : World) : (HL w.params).get? 161 = some ⟨.type "function", none, .func fd161, ⟨[]⟩⟩ := by kernel_rfl
theorem co161 (w : World) : (HL w.params).get? 160 = some (ob188 (bp w.params) w.params) := by kernel_rfl
theorem fc161 {w : World} {h : Heap} (T : YP w h) : h.CodeRec fd161.code fd161.qualname := ⟨160, _, _, _, rfl, T _ _ (co161 w), rfl, rfl⟩
noncomputable def fd199 : FuncData := { name := ⟨⟨[103, 101, 116, 95, 97, 108, 108]⟩⟩, qualname := ⟨⟨[72, 101, 97, 100, 101, 114, 115, 46, 103, 101, 116, 95, 97, 108, 108]⟩⟩, params := fnP (meth 7), body := .stmts (fnB (meth 7)), scope := fnS (meth 4), globals := 3, closure := [], defaults := .none, kwdefaults := .none, doc := .none, pyModule := .str ⟨⟨[99, 112, 121, 51, 49, 51, 46, 119, 115, 103, 105, 114, 101, 102, 46, 104, 101, 97, 100, 101, 114, 115]⟩⟩ 658, annotations := none, code := .ref 198, closureTuple := .none, builtins := 0 }
theorem fo199 (w : World) : (HL w.params).get? 199 = some ⟨.type "function", none, .func fd199, ⟨[]⟩⟩ := by kernel_rfl
theorem co199 (w : World) : (HL w.params).get? 198 = some (ob210 (bp w.params) w.params) := by kernel_rfl
theorem fc199 {w : World} {h : Heap} (T : YP w h) : h.CodeRec fd199.code fd199.qualname := ⟨198, _, _, _, rfl, T _ _ (co199 w), rfl, rfl⟩
noncomputable def fd217 : FuncData := { name := ⟨⟨[118, 97, 108, 117, 101, 115]⟩⟩, qualname := ⟨⟨[72, 101, 97, 100, 101, 114, 115, 46, 118, 97, 108, 117, 101, 115]⟩⟩, params := fnP (meth 10), body := .stmts (fnB (meth 10)), scope := fnS (meth 9), globals := 3, closure := [], defaults := .none, kwdefaults := .none, doc := .none, pyModule := .str ⟨⟨[99, 112, 121, 51, 49, 51, 46, 119, 115, 103, 105, 114, 101, 102, 46, 104, 101, 97, 100, 101, 114, 115]⟩⟩ 658, annotations := none, code := .ref 216, closureTuple := .none, builtins := 0 }
theorem fo217 (w : World) : (HL w.params).get? 217 = some ⟨.type "function", none, .func fd217, ⟨[]⟩⟩ := by kernel_rfl
theorem co217 (w : World) : (HL w.params).get? 216 = some (ob220 (bp w.params) w.params) := by kernel_rfl
theorem fc217 {w : World} {h : Heap} (T : YP w h) : h.CodeRec fd217.code fd217.qualname := ⟨216, _, _, _, rfl, T _ _ (co217 w), rfl, rfl⟩
noncomputable def fd224 : FuncData := { name := ⟨⟨[105, 116, 101, 109, 115]⟩⟩, qualname := ⟨⟨[72, 101, 97, 100, 101, 114, 115, 46, 105, 116, 101, 109, 115]⟩⟩, params := fnP (meth 11), body := .stmts (fnB (meth 11)), scope := fnS (meth 11), globals := 3, closure := [], defaults := .none, kwdefaults := .none, doc := .none, pyModule := .str ⟨⟨[99, 112, 121, 51, 49, 51, 46, 119, 115, 103, 105, 114, 101, 102, 46, 104, 101, 97, 100, 101, 114, 115]⟩⟩ 658, annotations := none, code := .ref 223, closureTuple := .none, builtins := 0 }
theorem fo224 (w : World) : (HL w.params).get? 224 = some ⟨.type "function", none, .func fd224, ⟨[]⟩⟩ := by kernel_rfl
theorem co224 (w : World) : (HL w.params).get? 223 = some (ob224 (bp w.params) w.params) := by kernel_rfl
theorem fc224 {w : World} {h : Heap} (T : YP w h) : h.CodeRec fd224.code fd224.qualname := ⟨223, _, _, _, rfl, T _ _ (co224 w), rfl, rfl⟩
noncomputable def fd257 : FuncData := { name := ⟨⟨[97, 100, 100, 95, 104, 101, 97, 100, 101, 114]⟩⟩, qualname := ⟨⟨[72, 101, 97, 100, 101, 114, 115, 46, 97, 100, 100, 95, 104, 101, 97, 100, 101, 114]⟩⟩, params := fnP (meth 16), body := .stmts (fnB (meth 16)), scope := fnS (meth 16), globals := 3, closure := [], defaults := .none, kwdefaults := .none, doc := .none, pyModule := .str ⟨⟨[99, 112, 121, 51, 49, 51, 46, 119, 115, 103, 105, 114, 101, 102, 46, 104, 101, 97, 100, 101, 114, 115]⟩⟩ 658, annotations := none, code := .ref 256, closureTuple := .none, builtins := 0 }
theorem fo257 (w : World) : (HL w.params).get? 257 = some ⟨.type "function", none, .func fd257, ⟨[]⟩⟩ := by kernel_rfl
theorem co257 (w : World) : (HL w.params).get? 256 = some (ob243 (bp w.params) w.params) := by kernel_rfl
theorem fc257 {w : World} {h : Heap} (T : YP w h) : h.CodeRec fd257.code fd257.qualname := ⟨256, _, _, _, rfl, T _ _ (co257 w), rfl, rfl⟩
noncomputable def fd271 : FuncData := { name := ⟨⟨[95, 108, 97, 119, 95, 107, 105, 110, 100]⟩⟩, qualname := ⟨⟨[95, 108, 97, 119, 95, 107, 105, 110, 100]⟩⟩, params := fnP (top 22), body := .stmts (fnB (top 22)), scope := fnS (top 22), globals := 3, closure := [], defaults := .none, kwdefaults := .none, doc := .none, pyModule := .str ⟨⟨[108, 97, 119, 95, 114, 101, 48, 49, 48, 55, 95, 48, 49]⟩⟩ 921, annotations := none, code := .ref 270, closureTuple := .none, builtins := 0 }
theorem fo271 (w : World) : (HL w.params).get? 271 = some ⟨.type "function", none, .func fd271, ⟨[]⟩⟩ := by kernel_rfl
theorem co271 (w : World) : (HL w.params).get? 270 = some (ob256 (bp w.params) w.params) := by kernel_rfl
theorem fc271 {w : World} {h : Heap} (T : YP w h) : h.CodeRec fd271.code fd271.qualname := ⟨270, _, _, _, rfl, T _ _ (co271 w), rfl, rfl⟩
noncomputable def fd276 : FuncData := { name := ⟨⟨[95, 108, 97, 119, 95, 104, 101, 97, 112]⟩⟩, qualname := ⟨⟨[95, 108, 97, 119, 95, 104, 101, 97, 112]⟩⟩, params := fnP (top 23), body := .stmts (fnB (top 23)), scope := fnS (top 23), globals := 3, closure := [], defaults := .none, kwdefaults := .none, doc := .none, pyModule := .str ⟨⟨[108, 97, 119, 95, 114, 101, 48, 49, 48, 55, 95, 48, 49]⟩⟩ 921, annotations := none, code := .ref 275, closureTuple := .none, builtins := 0 }
theorem fo276 (w : World) : (HL w.params).get? 276 = some ⟨.type "function", none, .func fd276, ⟨[]⟩⟩ := by kernel_rfl
theorem co276 (w : World) : (HL w.params).get? 275 = some (ob259 (bp w.params) w.params) := by kernel_rfl
theorem fc276 {w : World} {h : Heap} (T : YP w h) : h.CodeRec fd276.code fd276.qualname := ⟨275, _, _, _, rfl, T _ _ (co276 w), rfl, rfl⟩
noncomputable def fd281 : FuncData := { name := ⟨⟨[95, 108, 97, 119, 95, 114, 111, 117, 110, 100, 115]⟩⟩, qualname := ⟨⟨[95, 108, 97, 119, 95, 114, 111, 117, 110, 100, 115]⟩⟩, params := fnP (top 24), body := .stmts (fnB (top 24)), scope := fnS (top 24), globals := 3, closure := [], defaults := .none, kwdefaults := .none, doc := .none, pyModule := .str ⟨⟨[108, 97, 119, 95, 114, 101, 48, 49, 48, 55, 95, 48, 49]⟩⟩ 921, annotations := none, code := .ref 280, closureTuple := .none, builtins := 0 }
theorem fo281 (w : World) : (HL w.params).get? 281 = some ⟨.type "function", none, .func fd281, ⟨[]⟩⟩ := by kernel_rfl
theorem co281 (w : World) : (HL w.params).get? 280 = some (ob262 (bp w.params) w.params) := by kernel_rfl
theorem fc281 {w : World} {h : Heap} (T : YP w h) : h.CodeRec fd281.code fd281.qualname := ⟨280, _, _, _, rfl, T _ _ (co281 w), rfl, rfl⟩
noncomputable def fd286 : FuncData := { name := ⟨⟨[95, 108, 97, 119, 95, 115, 97, 109, 101]⟩⟩, qualname := ⟨⟨[95, 108, 97, 119, 95, 115, 97, 109, 101]⟩⟩, params := fnP (top 25), body := .stmts (fnB (top 25)), scope := fnS (top 25), globals := 3, closure := [], defaults := .none, kwdefaults := .none, doc := .none, pyModule := .str ⟨⟨[108, 97, 119, 95, 114, 101, 48, 49, 48, 55, 95, 48, 49]⟩⟩ 921, annotations := none, code := .ref 285, closureTuple := .none, builtins := 0 }
theorem fo286 (w : World) : (HL w.params).get? 286 = some ⟨.type "function", none, .func fd286, ⟨[]⟩⟩ := by kernel_rfl
theorem co286 (w : World) : (HL w.params).get? 285 = some (ob265 (bp w.params) w.params) := by kernel_rfl
theorem fc286 {w : World} {h : Heap} (T : YP w h) : h.CodeRec fd286.code fd286.qualname := ⟨285, _, _, _, rfl, T _ _ (co286 w), rfl, rfl⟩
noncomputable def fd291 : FuncData := { name := ⟨⟨[108, 97, 119]⟩⟩, qualname := ⟨⟨[108, 97, 119]⟩⟩, params := fnP (top 26), body := .stmts (fnB (top 26)), scope := fnS (top 26), globals := 3, closure := [], defaults := .none, kwdefaults := .none, doc := .none, pyModule := .str ⟨⟨[108, 97, 119, 95, 114, 101, 48, 49, 48, 55, 95, 48, 49]⟩⟩ 921, annotations := none, code := .ref 290, closureTuple := .none, builtins := 0 }
theorem fo291 (w : World) : (HL w.params).get? 291 = some ⟨.type "function", none, .func fd291, ⟨[]⟩⟩ := by kernel_rfl
theorem co291 (w : World) : (HL w.params).get? 290 = some (ob268 (bp w.params) w.params) := by kernel_rfl
theorem fc291 {w : World} {h : Heap} (T : YP w h) : h.CodeRec fd291.code fd291.qualname := ⟨290, _, _, _, rfl, T _ _ (co291 w), rfl, rfl⟩
noncomputable def sl47 : List (Int × Value) := [(12272, .int 12272 302), (12273, .int 12273 304), (12274, .int 12274 306), (12275, .int 12275 308), (12276, .int 12276 310), (12277, .int 12277 312), (12278, .int 12278 314), (12279, .int 12279 316), (12280, .int 12280 318), (12281, .int 12281 320), (12282, .int 12282 322), (12283, .int 12283 324)]
theorem so47 (w : World) : (HL w.params).get? 47 = some ⟨.type "set", none, .set ⟨sl47⟩ 13 { mask := 31, place := ⟨[16, 17, 18, 19, 20, 21, 22, 23, 24, 25, 26, 27]⟩, dummies := ⟨[]⟩, finger := 0, led := bp w.params, moves := 1, plain := true }, ⟨[]⟩⟩ := by kernel_rfl
noncomputable def sl71 : List (Int × Value) := [(832, .int 832 334), (833, .int 833 335), (8234, .int 8234 343), (8235, .int 8235 344), (8236, .int 8236 345), (8237, .int 8237 346), (8206, .int 8206 336), (8207, .int 8207 337), (8238, .int 8238 347), (8298, .int 8298 353), (8299, .int 8299 354), (8300, .int 8300 355), (8301, .int 8301 356), (8302, .int 8302 357), (8303, .int 8303 358)]
theorem so71 (w : World) : (HL w.params).get? 71 = some ⟨.type "set", none, .set ⟨sl71⟩ 16 { mask := 31, place := ⟨[0, 1, 10, 11, 12, 13, 14, 15, 16, 17, 18, 19, 20, 21, 22]⟩, dummies := ⟨[]⟩, finger := 0, led := bp w.params, moves := 1, plain := true }, ⟨[]⟩⟩ := by kernel_rfl
noncomputable def sl89 : List (Int × Value) := [(917505, .int 917505 382), (917536, .int 917536 388), (917537, .int 917537 389), (917538, .int 917538 390), (917539, .int 917539 391), (917540, .int 917540 392), (917541, .int 917541 393), (917542, .int 917542 394), (917543, .int 917543 395), (917544, .int 917544 396), (917545, .int 917545 397), (917546, .int 917546 398), (917547, .int 917547 399), (917548, .int 917548 400), (917549, .int 917549 401), (917550, .int 917550 402), (917551, .int 917551 403), (917552, .int 917552 404), (917553, .int 917553 405), (917554, .int 917554 406), (917555, .int 917555 407), (917556, .int 917556 408), (917557, .int 917557 409), (917558, .int 917558 410), (917559, .int 917559 411), (917560, .int 917560 412), (917561, .int 917561 413), (917562, .int 917562 414), (917563, .int 917563 415), (917564, .int 917564 416), (917565, .int 917565 417), (917566, .int 917566 418), (917567, .int 917567 419), (917568, .int 917568 420), (917569, .int 917569 421), (917570, .int 917570 422), (917571, .int 917571 423), (917572, .int 917572 424), (917573, .int 917573 425), (917574, .int 917574 426), (917575, .int 917575 427), (917576, .int 917576 428), (917577, .int 917577 429), (917578, .int 917578 430), (917579, .int 917579 431), (917580, .int 917580 432), (917581, .int 917581 433), (917582, .int 917582 434), (917583, .int 917583 435), (917584, .int 917584 436), (917585, .int 917585 437), (917586, .int 917586 438), (917587, .int 917587 439), (917588, .int 917588 440), (917589, .int 917589 441), (917590, .int 917590 442), (917591, .int 917591 443), (917592, .int 917592 444), (917593, .int 917593 445), (917594, .int 917594 446), (917595, .int 917595 447), (917596, .int 917596 448), (917597, .int 917597 449), (917598, .int 917598 450), (917599, .int 917599 451), (917600, .int 917600 452), (917601, .int 917601 453), (917602, .int 917602 454), (917603, .int 917603 455), (917604, .int 917604 456), (917605, .int 917605 457), (917606, .int 917606 458), (917607, .int 917607 459), (917608, .int 917608 460), (917609, .int 917609 461), (917610, .int 917610 462), (917611, .int 917611 463), (917612, .int 917612 464), (917613, .int 917613 465), (917614, .int 917614 466), (917615, .int 917615 467), (917616, .int 917616 468), (917617, .int 917617 469), (917618, .int 917618 470), (917619, .int 917619 471), (917620, .int 917620 472), (917621, .int 917621 473), (917622, .int 917622 474), (917623, .int 917623 475), (917624, .int 917624 476), (917625, .int 917625 477), (917626, .int 917626 478), (917627, .int 917627 479), (917628, .int 917628 480), (917629, .int 917629 481), (917630, .int 917630 482), (917631, .int 917631 483)]
theorem so89 (w : World) : (HL w.params).get? 89 = some ⟨.type "set", none, .set ⟨sl89⟩ 100 { mask := 511, place := ⟨[1, 32, 33, 34, 35, 36, 37, 38, 39, 40, 41, 42, 43, 44, 45, 46, 47, 48, 49, 50, 51, 52, 53, 54, 55, 56, 57, 58, 59, 60, 61, 62, 63, 64, 65, 66, 67, 68, 69, 70, 71, 72, 73, 74, 75, 76, 77, 78, 79, 80, 81, 82, 83, 84, 85, 86, 87, 88, 89, 90, 91, 92, 93, 94, 95, 96, 97, 98, 99, 100, 101, 102, 103, 104, 105, 106, 107, 108, 109, 110, 111, 112, 113, 114, 115, 116, 117, 118, 119, 120, 121, 122, 123, 124, 125, 126, 127]⟩, dummies := ⟨[]⟩, finger := 0, led := bp w.params, moves := 3, plain := true }, ⟨[]⟩⟩ := by kernel_rfl
end
end Mine
end
section
open PySem PySem.W PySem.Calls PyProof.Rows PySem.W.X PySem.W.XRun
set_option Elab.async false
set_option maxRecDepth 100000
set_option maxHeartbeats 0
set_option linter.unusedVariables false
namespace Mine
section
variable {w : World} {A : Around} {s : Shared} {env : Env} {x : Str} {p pos : Pos} {e e₁ e₂ : Expr} {Q : Value → Shared → Prop}
theorem c1b {id : String} (hn : ∀ Q' : Value → Shared → Prop, Q' (.builtin id) s → WP w A (eval (.Name x p) env) Q' s) (he : WP w A (eval e env) (fun v s₁ => WP w A (call (.builtin id) [v]) Q s₁) s)
    (hs : starEach [e] env = [(false, eval e env)] := by kernel_rfl!) : WP w A (eval (.Call (.Name x p) [e] [] pos) env) Q s :=
  Call_Name1 (hn _ (PySem.callWith_builtin1 he)) hs
theorem c1f {a : Addr} {o : Obj} {fd : FuncData} (hn : ∀ Q' : Value → Shared → Prop, Q' (.ref a) s → WP w A (eval (.Name x p) env) Q' s) (hd : o.data = .func fd)
    (he : WP w A (eval e env) (fun v s₁ => s₁.heap.get? a = some o ∧ WP w A (call (.ref a) [v]) Q s₁) s)
    (hs : starEach [e] env = [(false, eval e env)] := by kernel_rfl!) : WP w A (eval (.Call (.Name x p) [e] [] pos) env) Q s :=
  Call_Name1 (hn _ (Calls.callWith_function (o := o) (fd := fd) (Calls.evalArgs_plain (Calls.spliced_cons (wpAny_mono he (fun v s₁ h₁ => Calls.spliced_nil ⟨⟨h₁.1, hd⟩, h₁.2⟩) fun _ _ x => x))))) hs
end
theorem WIf {w : World} {A : Around} {s : Shared} {env : Env} {test : Expr} {body orelse : List Stmt} {pos : Pos} {Q : Flow → Shared → Prop}
    (h : WP w A (isTrue test env (eval test env)) (fun b s₂ => (b = true → WP w A (execs body env) Q s₂) ∧ (b = false → WP w A (execs orelse env) Q s₂)) s) :
    WP w A (exec (.If test body orelse pos) env) Q s :=
  wpAny_If (wpAny_mono h (fun b s₂ h₂ => by
    cases b
    · rw [if_neg Bool.false_ne_true]; exact h₂.2 rfl
    · rw [if_pos rfl]; exact h₂.1 rfl) fun _ _ e => e)
noncomputable def setOk (l : List (Int × Value)) : Bool := l.all fun e => match e.2 with
  | .int n _ => e.1 == hashInt n
  | _ => false
theorem setOf_of {w : World} {h : Heap} {a : Addr} {l : List (Int × Value)} {ep : Nat} {t : SetTable} (e : h.get? a = some ⟨.type "set", none, .set ⟨l⟩ ep t, ⟨[]⟩⟩) (ok : setOk l = true) (hz : l.length < scanBound)
    (hf : t.fits l.length = true) : h.SetOf (intKind pw w) a (fun k => l.any fun e => Value.isInt k e.2) l.length := by
  refine ⟨_, ⟨l⟩, ep, t, e, ⟨rfl, rfl, rfl⟩, rfl, fun x hx => ?_, fun k => ?_, hz, hf, rfl⟩
  · have := List.all_eq_true.mp ok x hx
    split at this
    · rename_i n u hn
      rw [hn]
      exact ⟨⟨n, by show Value.isInt n (.int n u) = true; simp [Value.isInt], eq_of_beq this⟩, rfl⟩
    · cases this
  · show (l.any _) = true ↔ _
    rw [List.any_eq_true]
    rfl
theorem set47 {w : World} {h : Heap} (T : YP w h) : h.SetOf (intKind pw w) 47 (fun k => sl47.any fun e => Value.isInt k e.2) sl47.length := setOf_of (T _ _ (so47 w)) (by decide +kernel) (by decide +kernel) (by kernel_rfl)
theorem set71 {w : World} {h : Heap} (T : YP w h) : h.SetOf (intKind pw w) 71 (fun k => sl71.any fun e => Value.isInt k e.2) sl71.length := setOf_of (T _ _ (so71 w)) (by decide +kernel) (by decide +kernel) (by kernel_rfl)
theorem set89 {w : World} {h : Heap} (T : YP w h) : h.SetOf (intKind pw w) 89 (fun k => sl89.any fun e => Value.isInt k e.2) sl89.length := setOf_of (T _ _ (so89 w)) (by decide +kernel) (by decide +kernel) (by kernel_rfl)
section
variable {w : World} {A : Around} {s : Shared} {Q : Value → Shared → Prop} {c : Nat} {t : Tok}
theorem in7 (R : Room A 3) (T : YP w s.heap) (h : ∀ s', Ext s s' → Q (.bool (sl47.any fun e => Value.isInt (c : Int) e.2)) s') : WP w A (call (.ref 57) [.str ⟨#[c]⟩ t]) Q s := by
  refine callF (fd := fd57) (body := fnB (top 5)) (binds := [("code", .str ⟨#[c]⟩ t)]) R T (T _ _ (fo57 w)) rfl rfl (fc57 T) (by kernel_rfl!) (by kernel_rfl!) fun L s₁ x f F => ?_
  have T₁ := T.keeps x
  conv in (fnB (top 5)) => whnf
  refine wpAny_execs_cons (wpAny_Return_some (wpAny_Compare1 ?_ (by kernel_rfl!)))
  refine c1b (id := "ord") (fun Q' q => evB T₁ (by kernel_rfl!) (by kernel_rfl!) q) (evL F lk_here (P.ord_of_char ?_))
  refine evG (T₁.keeps (Ext.toks _ _)) (v := .ref 47) (by kernel_rfl!) ?_
  refine wpAny_inSet_of (knd := intKind pw w) (k := (c : Int)) (by simp [intKind, Value.isInt]) rfl (set47 (T₁.keeps (Ext.toks _ _))) ?_
  exact h _ ((x.trans (Ext.toks _ _)).trans (Ext.toks _ _))
theorem in8 (R : Room A 3) (T : YP w s.heap) (h : ∀ s', Ext s s' → Q (.bool (sl71.any fun e => Value.isInt (c : Int) e.2)) s') : WP w A (call (.ref 81) [.str ⟨#[c]⟩ t]) Q s := by
  refine callF (fd := fd81) (body := fnB (top 7)) (binds := [("code", .str ⟨#[c]⟩ t)]) R T (T _ _ (fo81 w)) rfl rfl (fc81 T) (by kernel_rfl!) (by kernel_rfl!) fun L s₁ x f F => ?_
  have T₁ := T.keeps x
  conv in (fnB (top 7)) => whnf
  refine wpAny_execs_cons (wpAny_Return_some (wpAny_Compare1 ?_ (by kernel_rfl!)))
  refine c1b (id := "ord") (fun Q' q => evB T₁ (by kernel_rfl!) (by kernel_rfl!) q) (evL F lk_here (P.ord_of_char ?_))
  refine evG (T₁.keeps (Ext.toks _ _)) (v := .ref 71) (by kernel_rfl!) ?_
  refine wpAny_inSet_of (knd := intKind pw w) (k := (c : Int)) (by simp [intKind, Value.isInt]) rfl (set71 (T₁.keeps (Ext.toks _ _))) ?_
  exact h _ ((x.trans (Ext.toks _ _)).trans (Ext.toks _ _))
theorem in9 (R : Room A 3) (T : YP w s.heap) (h : ∀ s', Ext s s' → Q (.bool (sl89.any fun e => Value.isInt (c : Int) e.2)) s') : WP w A (call (.ref 99) [.str ⟨#[c]⟩ t]) Q s := by
  refine callF (fd := fd99) (body := fnB (top 9)) (binds := [("code", .str ⟨#[c]⟩ t)]) R T (T _ _ (fo99 w)) rfl rfl (fc99 T) (by kernel_rfl!) (by kernel_rfl!) fun L s₁ x f F => ?_
  have T₁ := T.keeps x
  conv in (fnB (top 9)) => whnf
  refine wpAny_execs_cons (wpAny_Return_some (wpAny_Compare1 ?_ (by kernel_rfl!)))
  refine c1b (id := "ord") (fun Q' q => evB T₁ (by kernel_rfl!) (by kernel_rfl!) q) (evL F lk_here (P.ord_of_char ?_))
  refine evG (T₁.keeps (Ext.toks _ _)) (v := .ref 89) (by kernel_rfl!) ?_
  refine wpAny_inSet_of (knd := intKind pw w) (k := (c : Int)) (by simp [intKind, Value.isInt]) rfl (set89 (T₁.keeps (Ext.toks _ _))) ?_
  exact h _ ((x.trans (Ext.toks _ _)).trans (Ext.toks _ _))
noncomputable def t4 (c : Nat) : Bool := if c < 64976 then false else if c < 65008 then true else [65534, 65535].any (· == Builtin.bitAnd (c : Int) 65535)
theorem in4 (R : Room A 3) (T : YP w s.heap) (h : ∀ s', Ext s s' → Q (.bool (t4 c)) s') : WP w A (call (.ref 45) [.str ⟨#[c]⟩ t]) Q s := by
  refine callF (fd := fd45) (body := fnB (top 3)) (binds := [("code", .str ⟨#[c]⟩ t)]) R T (T _ _ (fo45 w)) rfl rfl (fc45 T) (by kernel_rfl!) (by kernel_rfl!) fun L s₁ x f F => ?_
  have T₁ := T.keeps x
  conv in (fnB (top 3)) => whnf
  refine wpAny_execs_cons (wpAny_Assign_Name ?_ (by kernel_rfl!))
  refine c1b (id := "ord") (fun Q' q => evB T₁ (by kernel_rfl!) (by kernel_rfl!) q) (evL F lk_here (P.ord_of_char ?_))
  refine stL (F.keeps (Ext.toks _ _)) fun s₂ b₂ F₂ => ?_
  have x₂ : Ext s s₂ := (x.trans (Ext.toks _ _)).but b₂ f
  have T₂ := T.keeps x₂
  dsimp only
  refine wpAny_execs_cons (WIf (wpAny_isTrue_Compare1 ?_ (by kernel_rfl!)))
  refine evL F₂ lk_here ?_
  refine wpAny_Constant_int ?_
  refine wpAny_lt_int ?_
  refine wpAny_truthy_bool ?_
  have x₃ : Ext s { s₂ with toks := s₂.toks + 1 } := x₂.trans (Ext.toks _ _)
  have F₃ := F₂.keeps (s' := { s₂ with toks := s₂.toks + 1 }) (Ext.toks _ _)
  refine ⟨fun h1 => ?_, fun h1 => ?_⟩
  · refine wpAny_execs_cons (wpAny_Return_some (wpAny_Constant_bool ?_))
    have : t4 c = false := by have := of_decide_eq_true h1; unfold t4; rw [if_pos (by omega)]
    rw [← this]
    exact h _ x₃
  · refine wpAny_execs_nil ?_
    dsimp only
    refine wpAny_execs_cons (WIf (wpAny_isTrue_Compare1 ?_ (by kernel_rfl!)))
    refine evL F₃ lk_here ?_
    refine wpAny_Constant_int ?_
    refine wpAny_lt_int ?_
    refine wpAny_truthy_bool ?_
    have x₄ := x₃.trans (Ext.toks _ (s₂.toks + 1 + 1))
    have F₄ := F₃.keeps (Ext.toks _ (s₂.toks + 1 + 1))
    refine ⟨fun h2 => ?_, fun h2 => ?_⟩
    · refine wpAny_execs_cons (wpAny_Return_some (wpAny_Constant_bool ?_))
      have : t4 c = true := by have := of_decide_eq_false h1; have := of_decide_eq_true h2; unfold t4; rw [if_neg (by omega), if_pos (by omega)]
      rw [← this]
      exact h _ x₄
    · refine wpAny_execs_nil ?_
      dsimp only
      refine wpAny_execs_cons (wpAny_Return_some (wpAny_Compare1 ?_ (by kernel_rfl!)))
      refine wpAny_BinOp ?_
      refine c1b (id := "ord") (fun Q' q => evB (T.keeps x₄) (by kernel_rfl!) (by kernel_rfl!) q) (evL F₄ (lk_next (by kernel_rfl!) lk_here) (P.ord_of_char ?_))
      refine wpAny_Constant_int ?_
      refine and_int ?_
      refine Tuple_ (args_cons (wpAny_Constant_int (args_cons (wpAny_Constant_int (args_nil ?_)) (by kernel_rfl!))) (by kernel_rfl!))
      refine wpAny_newTuple ?_
      refine in_tuple_ints ⟨_, Heap.get?_push_size _ rfl, rfl, _, rfl⟩ (.cons _ _ (.cons _ _ .nil)) ?_
      have : t4 c = [65534, 65535].any (· == Builtin.bitAnd (c : Int) 65535) := by have := of_decide_eq_false h1; have := of_decide_eq_false h2; unfold t4; rw [if_neg (by omega), if_neg (by omega)]
      rw [← this]
      exact h _ ⟨fun b o e => Heap.get?_push_of_some _ (x₄.keep b o e), x₄.gens, x₄.drawn, x₄.os⟩
noncomputable def signs : List Nat := (List.range 32).map (64976 + ·) ++ (List.range 12).map (12272 + ·) ++ (List.range 5).map (8234 + ·) ++ (List.range 96).map (917536 + ·)
noncomputable def kd (c : Nat) : Nat := if 64976 ≤ c ∧ c < 65008 then 112 else if 12272 ≤ c ∧ c < 12284 then 113 else if 8234 ≤ c ∧ c < 8239 then 114 else 115
theorem k4 : ∀ c ∈ signs, t4 c = decide (kd c = 112) := by
  have : (signs.all fun c => t4 c == decide (kd c = 112)) = true := by decide +kernel
  exact fun c hc => eq_of_beq (List.all_eq_true.mp this c hc)
theorem k7 : ∀ c ∈ signs, (sl47.any fun e => Value.isInt (c : Int) e.2) = decide (kd c = 113) := by
  have : (signs.all fun c => (sl47.any fun e => Value.isInt (c : Int) e.2) == decide (kd c = 113)) = true := by decide +kernel
  exact fun c hc => eq_of_beq (List.all_eq_true.mp this c hc)
theorem k8 : ∀ c ∈ signs, (sl71.any fun e => Value.isInt (c : Int) e.2) = decide (kd c = 114) := by
  have : (signs.all fun c => (sl71.any fun e => Value.isInt (c : Int) e.2) == decide (kd c = 114)) = true := by decide +kernel
  exact fun c hc => eq_of_beq (List.all_eq_true.mp this c hc)
theorem k9 : ∀ c ∈ signs, (sl89.any fun e => Value.isInt (c : Int) e.2) = decide (kd c = 115) := by
  have : (signs.all fun c => (sl89.any fun e => Value.isInt (c : Int) e.2) == decide (kd c = 115)) = true := by decide +kernel
  exact fun c hc => eq_of_beq (List.all_eq_true.mp this c hc)
theorem kd_cases (c : Nat) : kd c = 112 ∨ kd c = 113 ∨ kd c = 114 ∨ kd c = 115 := by
  unfold kd
  split
  · exact .inl rfl
  · split
    · exact .inr (.inl rfl)
    · split
      · exact .inr (.inr (.inl rfl))
      · exact .inr (.inr (.inr rfl))
theorem sP : Str.ofString "p" = ⟨#[112]⟩ := by decide +kernel
theorem sQ : Str.ofString "q" = ⟨#[113]⟩ := by decide +kernel
theorem sR : Str.ofString "r" = ⟨#[114]⟩ := by decide +kernel
theorem sS : Str.ofString "s" = ⟨#[115]⟩ := by decide +kernel
theorem kindOf (R : Room A 5) (T : YP w s.heap) (hc : c ∈ signs) (h : ∀ s' t', Ext s s' → Q (.str ⟨#[kd c]⟩ t') s') : WP w A (call (.ref 271) [.str ⟨#[c]⟩ t]) Q s := by
  refine callF (fd := fd271) (body := fnB (top 22)) (binds := [("sign", .str ⟨#[c]⟩ t)]) R T (T _ _ (fo271 w)) rfl rfl (fc271 T) (by kernel_rfl!) (by kernel_rfl!) fun L s₁ x f F => ?_
  have T₁ := T.keeps x
  have R₁ := (R.deeper (envOf fd271.qualname fd271.scope L 271 fd271.code)).le (m := 3) (by omega)
  conv in (fnB (top 22)) => whnf
  refine wpAny_execs_cons (WIf (wpAny_isTrue_value ?_))
  refine c1f (a := 45) (fun Q' q => evG T₁ (by kernel_rfl!) q) rfl (evL F lk_here ⟨T₁ _ _ (fo45 w), in4 R₁ T₁ fun s₂ x₂ => wpAny_truthy_bool ?_⟩)
  have T₂ := T₁.keeps x₂
  have F₂ := F.keeps x₂
  rw [k4 c hc]
  refine ⟨fun e => ?_, fun e4 => ?_⟩
  · refine wpAny_execs_cons (wpAny_Return_some (wpAny_Constant_str ?_))
    rw [sP, ← of_decide_eq_true e]
    exact h _ _ ((x.trans x₂).trans (Ext.toks _ _))
  · refine wpAny_execs_nil ?_
    dsimp only
    refine wpAny_execs_cons (WIf (wpAny_isTrue_value ?_))
    refine c1f (a := 57) (fun Q' q => evG T₂ (by kernel_rfl!) q) rfl (evL F₂ lk_here ⟨T₂ _ _ (fo57 w), in7 R₁ T₂ fun s₃ x₃ => wpAny_truthy_bool ?_⟩)
    have T₃ := T₂.keeps x₃
    have F₃ := F₂.keeps x₃
    rw [k7 c hc]
    refine ⟨fun e => ?_, fun e7 => ?_⟩
    · refine wpAny_execs_cons (wpAny_Return_some (wpAny_Constant_str ?_))
      rw [sQ, ← of_decide_eq_true e]
      exact h _ _ (((x.trans x₂).trans x₃).trans (Ext.toks _ _))
    · refine wpAny_execs_nil ?_
      dsimp only
      refine wpAny_execs_cons (WIf (wpAny_isTrue_value ?_))
      refine c1f (a := 81) (fun Q' q => evG T₃ (by kernel_rfl!) q) rfl (evL F₃ lk_here ⟨T₃ _ _ (fo81 w), in8 R₁ T₃ fun s₄ x₄ => wpAny_truthy_bool ?_⟩)
      have T₄ := T₃.keeps x₄
      have F₄ := F₃.keeps x₄
      rw [k8 c hc]
      refine ⟨fun e => ?_, fun e8 => ?_⟩
      · refine wpAny_execs_cons (wpAny_Return_some (wpAny_Constant_str ?_))
        rw [sR, ← of_decide_eq_true e]
        exact h _ _ ((((x.trans x₂).trans x₃).trans x₄).trans (Ext.toks _ _))
      · refine wpAny_execs_nil ?_
        dsimp only
        refine wpAny_execs_cons (WIf (wpAny_isTrue_value ?_))
        refine c1f (a := 99) (fun Q' q => evG T₄ (by kernel_rfl!) q) rfl (evL F₄ lk_here ⟨T₄ _ _ (fo99 w), in9 R₁ T₄ fun s₅ x₅ => wpAny_truthy_bool ?_⟩)
        rw [k9 c hc]
        refine ⟨fun e => ?_, fun e9 => ?_⟩
        · refine wpAny_execs_cons (wpAny_Return_some (wpAny_Constant_str ?_))
          rw [sS, ← of_decide_eq_true e]
          exact h _ _ (((((x.trans x₂).trans x₃).trans x₄).trans x₅).trans (Ext.toks _ _))
        · exfalso
          have := of_decide_eq_false e4
          have := of_decide_eq_false e7
          have := of_decide_eq_false e8
          have := of_decide_eq_false e9
          have := kd_cases c
          omega
end
end Mine
end
section
open PySem PySem.W PySem.Calls PyProof.Rows PySem.W.X PySem.W.XRun
set_option Elab.async false
set_option maxRecDepth 100000
set_option maxHeartbeats 0
set_option linter.unusedVariables false
namespace Mine
local macro_rules | `(tactic| x_close) => `(tactic| exact ⟨by kernel_rfl!, Ext.mem (by assumption)⟩)
section
variable {w : World} {h : Heap} {d : Drawn} {tk : Nat} {os : OsState} {t : Tok}
theorem quote1 (KX : (KF w.params).In h) : WP w A0 (call (.ref 116) [.str ⟨#[46]⟩ t]) (fun v s' => v.isStr ⟨#[46, 46]⟩ = true ∧ Ext ⟨h, #[], d, tk, os⟩ s') ⟨h, #[], d, tk, os⟩ := by unfold WP; x_run
theorem quote2 (KX : (KF w.params).In h) : WP w A0 (call (.ref 116) [.str ⟨#[46, 46]⟩ t]) (fun v s' => v.isStr ⟨#[46, 46, 46]⟩ = true ∧ Ext ⟨h, #[], d, tk, os⟩ s') ⟨h, #[], d, tk, os⟩ := by unfold WP; x_run
theorem quote3 (KX : (KF w.params).In h) : WP w A0 (call (.ref 116) [.str ⟨#[46, 46, 46]⟩ t]) (fun v s' => v.isStr ⟨#[46, 46, 46, 46]⟩ = true ∧ Ext ⟨h, #[], d, tk, os⟩ s') ⟨h, #[], d, tk, os⟩ := by unfold WP; x_run
theorem quote4 (KX : (KF w.params).In h) : WP w A0 (call (.ref 116) [.str ⟨#[46, 46, 46, 46]⟩ t]) (fun v s' => v.isStr ⟨#[46, 46, 46, 46, 46]⟩ = true ∧ Ext ⟨h, #[], d, tk, os⟩ s') ⟨h, #[], d, tk, os⟩ := by unfold WP; x_run
theorem quote5 (KX : (KF w.params).In h) : WP w A0 (call (.ref 116) [.str ⟨#[46, 46, 46, 46, 46]⟩ t]) (fun v s' => v.isStr ⟨#[46, 46, 46, 46, 46, 46]⟩ = true ∧ Ext ⟨h, #[], d, tk, os⟩ s') ⟨h, #[], d, tk, os⟩ := by unfold WP; x_run
end
end Mine
end
section
open PySem PySem.W PySem.Calls PyProof.Rows PySem.W.X PySem.W.XRun
set_option Elab.async false
set_option maxRecDepth 100000
set_option maxHeartbeats 0
set_option linter.unusedVariables false
namespace Mine
noncomputable def isLst (o : Obj) : Bool := match o.cls, o.data with
  | .type t, .seq _ _ => t == "list"
  | _, _ => false
noncomputable def methNames : List Str := ["get_all", "add_header", "items", "values", "_convert_string_type"]
noncomputable def isNone2 : Option (Option Value) → Bool
  | some none => true
  | _ => false
structure HInst (h : Heap) (x l : Addr) : Prop where
  ex : ∃ ox dx od, h.get? x = some ox ∧ ox.cls = .ref 260 ∧ notCls ox = true ∧ ox.dict = some dx ∧ h.get? dx = some od ∧ od.cls = .type "dict" ∧ lookIn "_headers" od = some (some (.ref l)) ∧ (methNames.all fun n => isNone2 (lookIn n od)) = true
theorem HInst.keeps {s s' : Shared} {x l : Addr} (I : HInst s.heap x l) (e : Ext s s') : HInst s'.heap x l :=
  let ⟨ox, dx, od, h1, h2, h3, h4, h5, h6⟩ := I.ex
  ⟨⟨ox, dx, od, e.keep _ _ h1, h2, h3, h4, e.keep _ _ h5, h6⟩⟩
theorem HInst.but {s s' : Shared} {x l a : Addr} {items : Array Value} (I : HInst s.heap x l) (hl : s.heap.IsList a items) (e : But a s s') : HInst s'.heap x l := by
  obtain ⟨ox, dx, od, h1, h2, h3, h4, h5, h6, h7⟩ := I.ex
  obtain ⟨o, ho, hc, _⟩ := hl
  have n1 : x ≠ a := fun z => by subst z; rw [h1] at ho; cases ho; rw [h2] at hc; cases hc
  have n2 : dx ≠ a := fun z => by subst z; rw [h5] at ho; cases ho; rw [h6] at hc; simp at hc
  exact ⟨⟨ox, dx, od, e.keep _ _ n1 h1, h2, h3, h4, e.keep _ _ n2 h5, h6, h7⟩⟩
noncomputable def HI0 (h₀ h : Heap) (x l : Addr) : Prop := ∃ ox dx od, (h.get? x = some ox ∧ ox.cls = .ref 260 ∧ notCls ox = true ∧ ox.dict = some dx ∧ h.get? dx = some od ∧ od.cls = .type "dict" ∧ lookIn "_headers" od = some (some (.ref l)) ∧ (methNames.all fun n => isNone2 (lookIn n od)) = true) ∧ h₀.get? x = none ∧ h₀.get? dx = none
theorem hdrs_end {h h' : Heap} {news : List (Addr × Obj)} {a b l : Addr} {oa ob ol : Obj} {n : Nat} (D : Mem h h' [] news) (ha : (a, oa) ∈ news) (e1 : oa.cls = .ref 260) (e2 : notCls oa = true) (e3 : oa.dict = some b)
    (hb : (b, ob) ∈ news) (e4 : ob.cls = .type "dict") (e5 : lookIn "_headers" ob = some (some (.ref l))) (e6 : (methNames.all fun n => isNone2 (lookIn n ob)) = true) (hl : (l, ol) ∈ news) (e7 : ol = { cls := .type "list", data := .seq #[] n }) : HI0 h h' a l ∧ h'.PlainList l #[] ∧ h.get? l = none :=
  ⟨⟨oa, b, ob, ⟨(D.nw _ ha).1, e1, e2, e3, (D.nw _ hb).1, e4, e5, e6⟩, (D.nw _ ha).2, (D.nw _ hb).2⟩, ⟨n, e7 ▸ (D.nw _ hl).1⟩, (D.nw _ hl).2⟩
local macro_rules | `(tactic| x_close) => `(tactic| exact ⟨_, _, rfl, Ext.mem (by assumption), hdrs_end (by assumption) (by k_mem) rfl rfl rfl (by k_mem) rfl rfl (by kernel_rfl!) (by k_mem) rfl⟩)
section
variable {w : World} {h : Heap} {d : Drawn} {tk : Nat} {os : OsState} {t : Tok}
theorem hdrs0 (KX : (KF w.params).In h) : WP w A0 (call (.ref 260) []) (fun v s' => ∃ a l, v = .ref a ∧ Ext ⟨h, #[], d, tk, os⟩ s' ∧ HI0 h s'.heap a l ∧ s'.heap.PlainList l #[] ∧ h.get? l = none) ⟨h, #[], d, tk, os⟩ := by unfold WP; x_run
end
end Mine
end
section
open PySem PySem.W PySem.Calls PyProof.Rows PySem.W.X PySem.W.XRun
set_option Elab.async false
set_option maxRecDepth 100000
set_option maxHeartbeats 0
set_option linter.unusedVariables false
namespace Mine
noncomputable def codeV : Array Nat := #[14, 14, 4, 1, 1, 9, 4294966783, 0, 0, 2147483648, 0, 0, 0, 0, 0, 13, 11, 9, 4294966783, 0, 0, 2147483648, 0, 0, 0, 0, 0, 1]
theorem inV (c : Nat) (hc : c = 46 ∨ 256 ≤ c) (seen : Sre.Seen) : ∃ seen', Sre.inSet codeV c 28 5 true seen = .ok (false, seen') := by
  have e5 : Sre.ops[codeV.getD 5 0]? = some .CHARSET := by kernel_rfl
  have e14 : Sre.ops[codeV.getD 14 0]? = some .FAILURE := by kernel_rfl
  refine ⟨(seen.add (codeV.getD 5 0)).add (codeV.getD 14 0), ?_⟩
  rw [Sre.inSet]
  simp only [Nat.add_zero, e5]
  have : (decide (c < 256) && (codeV.getD (5 + (1 + c / 32)) 0).testBit (c % 32)) = false := by
    rcases hc with rfl | h
    · decide +kernel
    · have : ¬ c < 256 := by omega
      simp [this]
  rw [this]
  simp only [Bool.false_eq_true, if_false]
  rw [Sre.inSet]
  simp only [Nat.add_zero, e14, Bool.not_true]
theorem admV (m : Sre.M) (hcode : m.code = codeV) (ht : ∀ i, i < m.lim → m.text.getD i 0 = 46 ∨ 256 ≤ m.text.getD i 0) : ∀ (fuel s : Nat) (seen : Sre.Seen), ∃ seen', Sre.M.admitted m fuel s seen = .ok (none, seen')
  | 0, s, seen => ⟨seen, rfl⟩
  | fuel + 1, s, seen => by
    rw [Sre.M.admitted]
    by_cases h : s ≥ m.lim
    · rw [if_pos h]; exact ⟨seen, rfl⟩
    · rw [if_neg h, hcode]
      obtain ⟨s1, e1⟩ := inV (m.text.getD s 0) (ht s (by omega)) seen
      rw [show codeV.size = 28 from rfl, e1]
      exact admV m hcode ht fuel (s + 1) s1
theorem attV (m : Sre.M) (hcode : m.code = codeV) (hf : m.frames = []) (ho : m.outcome = none) (ht : ∀ i, i < m.lim → m.text.getD i 0 = 46 ∨ 256 ≤ m.text.getD i 0) :
    (m.attemptFrom 0 true).answer = some false ∧ (m.attemptFrom 0 true).frames = [] ∧ (m.attemptFrom 0 true).outcome = none := by
  obtain ⟨s1, e1⟩ := admV m hcode ht (m.lim + 1 - 0) 0 m.seen
  have hF : m.hasFirstSet = true := by unfold Sre.M.hasFirstSet; rw [hcode]; kernel_rfl
  unfold Sre.M.attemptFrom
  rw [hF, e1]
  exact ⟨rfl, hf, ho⟩
theorem srchV (text : Array Nat) (ht : ∀ i, i < text.size → text.getD i 0 = 46 ∨ 256 ≤ text.getD i 0) (h1 : 1 ≤ text.size) :
    (Sre.forSearch codeV text 0 0 text.size false).answer = some false ∧ (Sre.forSearch codeV text 0 0 text.size false).frames = [] ∧ (Sre.forSearch codeV text 0 0 text.size false).outcome = none := by
  unfold Sre.forSearch
  have hh : (Sre.header codeV) = (1, 15) := by kernel_rfl
  simp only [hh]
  rw [if_neg (by simp only [Bool.or_eq_true, decide_eq_true_eq]; omega)]
  exact attV _ rfl rfl rfl ht
theorem driveV {w : World} {A : Around} {s : Shared} {m : Sre.M} {Q : Option Sre.M → Shared → Prop} (h1 : m.answer = some false) (h2 : m.frames = []) (h3 : m.outcome = none) (h : Q none s) :
    WP w A (Builtin.Re.reRunToEnd m) Q s := by
  have e : m.runFor Builtin.Re.reTurnSteps = { m with outcome := some .failed } := by
    show Sre.M.runFor 4 m = _
    have s1 : m.step = { m with outcome := some .failed } := by
      unfold Sre.M.step
      rw [h3, h1, h2]
      rfl
    rw [Sre.M.runFor, h3]
    simp only [Option.isSome_none, Bool.false_eq_true, if_false, s1]
    rw [Sre.M.runFor]
    rfl
  unfold Builtin.Re.reRunToEnd
  have d : Builtin.Re.reDrive (2 ^ 64) m = pure { m with outcome := some .failed } := by
    rw [show (2 ^ 64 : Nat) = (2 ^ 64 - 1) + 1 from rfl, Builtin.Re.reDrive]
    rw [e]
    rfl
  rw [d]
  refine wpAny_bind (wpAny_pure ?_)
  refine wpAny_bind (wpAny_forIn_list (fun i b => _) (fun _ _ s' => s' = s) _ (fun x rest b s' hs => ?_) (fun b s' hs => ?_) _ _ rfl)
  · subst hs
    split
    · exact wpAny_bind (wpAny_rule (wpAny_pure rfl))
    · exact wpAny_pure rfl
  · subst hs
    exact wpAny_pure h
theorem slot_search : Slot "re.Pattern" "search" "re.Pattern.search" :=
  .of (owner := "re.Pattern") (n := "search") (by rw [typeLookup_type, builtinLookup_eq_fast]; kernel_rfl) (by decide +kernel) (by decide +kernel) (by decide +kernel)
    (by first | exact .inl (by decide +kernel) | exact .inr (by decide +kernel)) (by rw [isSubtype_type]; kernel_rfl)
theorem entry_search : entryFor table "re.Pattern.search" = some Builtin.«re.Pattern.search» := entryFor_of_fast (by kernel_rfl)
theorem args_search (a b : Value) : argsOk "re.Pattern.search" ⟨[a, b], []⟩ := by
  unfold argsOk; kernel_rfl
theorem po131 (w : World) : (HL w.params).get? 131 = some ⟨.type "re.Pattern", none, .fields ⟨[.str ⟨⟨[91, 92, 120, 48, 48, 45, 92, 120, 48, 56, 92, 120, 48, 65, 45, 92, 120, 49, 70, 92, 120, 55, 70, 93]⟩⟩ 721, .int 32 752, .int 0 0, .none, .none, .ref 130, .int 0 0]⟩, ⟨[]⟩⟩ := by kernel_rfl
theorem po130 (w : World) : (HL w.params).get? 130 = some ⟨.type "tuple", none, .seq ⟨codeV.toList.map fun (n : Nat) => Value.int n 0⟩ 0, ⟨[]⟩⟩ := by kernel_rfl
section
variable {w : World} {A : Around} {s : Shared} {Q : Value → Shared → Prop} {x : Str} {t : Tok}
theorem searchV (T : YP w s.heap) (ht : ∀ i, i < x.cps.size → x.cps.getD i 0 = 46 ∨ 256 ≤ x.cps.getD i 0) (h1 : 1 ≤ x.cps.size) (h2 : x.cps.size ≤ 1000) (h : Q .none s) :
    WP w A (call (.builtin "re.Pattern.search") [.ref 131, .str x t]) Q s := by
  refine wpAny_call_entry slot_search ⟨_, T _ _ (po131 w), rfl⟩ entry_search ?_ (args_search _ _)
  unfold Builtin.«re.Pattern.search» Builtin.Re.reTarget
  refine wpAny_bind ?_
  have e : Builtin.Re.reNamed "re.Pattern.search" "search" ["string", "pos", "endpos"] 1 [.str x t] [] = pure [some (.str x t), none, none] := by kernel_rfl
  show wpAny _ _ (Builtin.Re.reNamed "re.Pattern.search" "search" ["string", "pos", "endpos"] 1 [.str x t] [] >>= _) _ _ _
  rw [e]
  refine wpAny_bind (wpAny_pure ?_)
  dsimp only
  refine wpAny_bind (wpAny_pure (wpAny_bind (wpAny_pure (wpAny_bind (wpAny_fieldsOf (T _ _ (po131 w)) rfl ?_)))))
  refine wpAny_bind (wpAny_of_eq (a := (x.cps, 0)) (by kernel_rfl) ?_)
  dsimp only
  rw [if_neg (by decide +kernel), if_neg (by decide +kernel)]
  refine wpAny_bind (wpAny_of_eq (a := ()) (by kernel_rfl) ?_)
  refine wpAny_bind ?_
  show wpAny _ _ (Builtin.Re.reRawItems (.ref 130)) _ _ _
  unfold Builtin.Re.reRawItems
  refine wpAny_bind (wpAny_seqItems (T _ _ (po130 w)) rfl (wpAny_pure ?_))
  refine wpAny_pure ?_
  dsimp only
  have ec : (Array.map (fun x : Int => x.toNat) (Array.map Builtin.Re.reRawOf ((some (⟨codeV.toList.map fun (n : Nat) => Value.int n 0⟩ : Array Value)).getD #[]))) = codeV := by kernel_rfl
  rw [ec]
  have el : min (2 ^ 63 - 1 : Int).toNat x.cps.size = x.cps.size := by
    have : (2 ^ 63 - 1 : Int).toNat = 9223372036854775807 := by decide +kernel
    rw [this]; omega
  have e0 : min (0 : Int).toNat x.cps.size = 0 := by simp
  have eg : Builtin.Re.reRawNat ((⟨[.str ⟨⟨[91, 92, 120, 48, 48, 45, 92, 120, 48, 56, 92, 120, 48, 65, 45, 92, 120, 49, 70, 92, 120, 55, 70, 93]⟩⟩ 721, .int 32 752, .int 0 0, .none, .none, .ref 130, .int 0 0]⟩ : Array Value).getD 2 .none) = 0 := by kernel_rfl
  rw [el, e0, eg]
  obtain ⟨a1, a2, a3⟩ := srchV x.cps ht h1
  unfold Builtin.Re.reAnswer
  refine wpAny_bind (driveV a1 a2 a3 ?_)
  exact wpAny_pure ⟨_, rfl, h⟩
end
end Mine
end
section
open PySem PySem.W PySem.Calls PyProof.Rows PySem.W.X PySem.W.XRun
set_option Elab.async false
set_option maxRecDepth 100000
set_option maxHeartbeats 0
set_option linter.unusedVariables false
namespace Mine
section
variable {w : World} {A : Around} {s : Shared} {env : Env} {x : Str} {p pos : Pos} {e e₁ e₂ : Expr} {Q : Value → Shared → Prop}
theorem c1t {T : String} (hn : ∀ Q' : Value → Shared → Prop, Q' (.type T) s → WP w A (eval (.Name x p) env) Q' s) (he : WP w A (eval e env) (fun v s₁ => WP w A (call (.type T) [v]) Q s₁) s)
    (hs : starEach [e] env = [(false, eval e env)] := by kernel_rfl!) : WP w A (eval (.Call (.Name x p) [e] [] pos) env) Q s :=
  Call_Name1 (hn _ (PySem.callWith_type1 he)) hs
theorem WIfE {test body orelse : Expr} (h : WP w A (isTrue test env (eval test env)) (fun b s₁ => (b = true → WP w A (eval body env) Q s₁) ∧ (b = false → WP w A (eval orelse env) Q s₁)) s) :
    WP w A (eval (.IfExp test body orelse pos) env) Q s :=
  wpAny_IfExp (wpAny_mono h (fun b s₂ h₂ => by
    cases b
    · rw [if_neg Bool.false_ne_true]; exact h₂.2 rfl
    · rw [if_pos rfl]; exact h₂.1 rfl) fun _ _ e => e)
theorem m1b {o : Expr} {name : Str} {apos : Pos} {T id : String} (pa : PlainAttrs T) (slot : Slot T name id) (hty : typeOf (.builtin id) = pure (.type "method_descriptor"))
    (h : WP w A (eval o env) (fun ov s₁ => s₁.TypeIs ov T ∧ (∀ a, ov = .ref a → ∃ ob, s₁.heap.get? a = some ob ∧ ob.dict = none) ∧ WP w A (eval e env) (fun v s₂ => WP w A (call (.builtin id) [ov, v]) Q s₂) s₁) s)
    (hbase : attributeBase o name env (eval o env) = eval o env := by kernel_rfl!) (hs : starEach [e] env = [(false, eval e env)] := by kernel_rfl!) (hline : (apos.endLine == pos.line) = true := by kernel_rfl!) :
    WP w A (eval (.Call (.Attribute o name apos) [e] [] pos) env) Q s :=
  wpAny_Call_method hbase (by rw [hs]; rfl) hline pa slot hty (wpAny_mono h (fun ov s₁ h₁ => ⟨h₁.1, h₁.2.1, by
    rw [hs]
    exact Calls.callWith_builtin rfl (Calls.evalArgs_plain (Calls.spliced_cons (wpAny_mono h₁.2.2 (fun v s₂ h₂ => Calls.spliced_nil h₂) fun _ _ e => e)))⟩) fun _ _ e => e)
end
theorem pa_re : PlainAttrs "re.Pattern" :=
  ⟨⟨"object.__getattribute__", by rw [typeLookup_type, builtinLookup_eq_fast]; kernel_rfl, by decide +kernel⟩, by rw [typeLookup_type, builtinLookup_eq_fast]; kernel_rfl⟩
theorem ty_search : typeOf (.builtin "re.Pattern.search") = pure (.type "method_descriptor") := by show builtinType _ = _; rw [builtinType_eq_fast]; kernel_rfl
noncomputable def codeN : Array Nat := #[14, 10, 4, 1, 1, 22, 0, 31, 16, 127, 0, 13, 7, 22, 0, 31, 16, 127, 0, 1]
theorem inN (c : Nat) (hc : 32 ≤ c ∧ c ≠ 127) (seen : Sre.Seen) : ∃ seen', Sre.inSet codeN c 20 5 true seen = .ok (false, seen') := by
  have e5 : Sre.ops[codeN.getD 5 0]? = some .RANGE := by kernel_rfl
  have e8 : Sre.ops[codeN.getD 8 0]? = some .LITERAL := by kernel_rfl
  have e10 : Sre.ops[codeN.getD 10 0]? = some .FAILURE := by kernel_rfl
  refine ⟨((seen.add (codeN.getD 5 0)).add (codeN.getD 8 0)).add (codeN.getD 10 0), ?_⟩
  rw [Sre.inSet]
  simp only [Nat.add_zero, e5]
  have a1 : (decide (codeN.getD (5 + 1) 0 ≤ c) && decide (c ≤ codeN.getD (5 + 2) 0)) = false := by
    have : codeN.getD (5 + 2) 0 = 31 := by kernel_rfl
    rw [this, decide_eq_false (by omega : ¬ c ≤ 31), Bool.and_false]
  rw [a1]
  simp only [Bool.false_eq_true, if_false]
  rw [Sre.inSet]
  simp only [Nat.add_zero, e8]
  have a2 : (c == codeN.getD (5 + 3 + 1) 0) = false := by
    have : codeN.getD (5 + 3 + 1) 0 = 127 := by kernel_rfl
    rw [this]; exact beq_eq_false_iff_ne.mpr hc.2
  rw [a2]
  simp only [Bool.false_eq_true, if_false]
  rw [Sre.inSet]
  simp only [Nat.add_zero, e10, Bool.not_true]
theorem admN (m : Sre.M) (hcode : m.code = codeN) (ht : ∀ i, i < m.lim → 32 ≤ m.text.getD i 0 ∧ m.text.getD i 0 ≠ 127) : ∀ (fuel s : Nat) (seen : Sre.Seen), ∃ seen', Sre.M.admitted m fuel s seen = .ok (none, seen')
  | 0, s, seen => ⟨seen, rfl⟩
  | fuel + 1, s, seen => by
    rw [Sre.M.admitted]
    by_cases h : s ≥ m.lim
    · rw [if_pos h]; exact ⟨seen, rfl⟩
    · rw [if_neg h, hcode]
      obtain ⟨s1, e1⟩ := inN (m.text.getD s 0) (ht s (by omega)) seen
      rw [show codeN.size = 20 from rfl, e1]
      exact admN m hcode ht fuel (s + 1) s1
theorem attN (m : Sre.M) (hcode : m.code = codeN) (hf : m.frames = []) (ho : m.outcome = none) (ht : ∀ i, i < m.lim → 32 ≤ m.text.getD i 0 ∧ m.text.getD i 0 ≠ 127) :
    (m.attemptFrom 0 true).answer = some false ∧ (m.attemptFrom 0 true).frames = [] ∧ (m.attemptFrom 0 true).outcome = none := by
  obtain ⟨s1, e1⟩ := admN m hcode ht (m.lim + 1 - 0) 0 m.seen
  have hF : m.hasFirstSet = true := by unfold Sre.M.hasFirstSet; rw [hcode]; kernel_rfl
  unfold Sre.M.attemptFrom
  rw [hF, e1]
  exact ⟨rfl, hf, ho⟩
theorem srchN (text : Array Nat) (ht : ∀ i, i < text.size → 32 ≤ text.getD i 0 ∧ text.getD i 0 ≠ 127) (h1 : 1 ≤ text.size) :
    (Sre.forSearch codeN text 0 0 text.size false).answer = some false ∧ (Sre.forSearch codeN text 0 0 text.size false).frames = [] ∧ (Sre.forSearch codeN text 0 0 text.size false).outcome = none := by
  unfold Sre.forSearch
  have hh : (Sre.header codeN) = (1, 11) := by kernel_rfl
  simp only [hh]
  rw [if_neg (by simp only [Bool.or_eq_true, decide_eq_true_eq]; omega)]
  exact attN _ rfl rfl rfl ht
theorem po126 (w : World) : (HL w.params).get? 126 = some ⟨.type "re.Pattern", none, .fields ⟨[.str ⟨⟨[91, 92, 120, 48, 48, 45, 92, 120, 49, 70, 92, 120, 55, 70, 93]⟩⟩ 695, .int 32 718, .int 0 0, .none, .none, .ref 125, .int 0 0]⟩, ⟨[]⟩⟩ := by kernel_rfl
theorem po125 (w : World) : (HL w.params).get? 125 = some ⟨.type "tuple", none, .seq ⟨codeN.toList.map fun (n : Nat) => Value.int n 0⟩ 0, ⟨[]⟩⟩ := by kernel_rfl
section
variable {w : World} {A : Around} {s : Shared} {Q : Value → Shared → Prop} {x : Str} {t : Tok}
theorem searchN (T : YP w s.heap) (ht : ∀ i, i < x.cps.size → 32 ≤ x.cps.getD i 0 ∧ x.cps.getD i 0 ≠ 127) (h1 : 1 ≤ x.cps.size) (h2 : x.cps.size ≤ 1000) (h : Q .none s) :
    WP w A (call (.builtin "re.Pattern.search") [.ref 126, .str x t]) Q s := by
  refine wpAny_call_entry slot_search ⟨_, T _ _ (po126 w), rfl⟩ entry_search ?_ (args_search _ _)
  unfold Builtin.«re.Pattern.search» Builtin.Re.reTarget
  refine wpAny_bind ?_
  have e : Builtin.Re.reNamed "re.Pattern.search" "search" ["string", "pos", "endpos"] 1 [.str x t] [] = pure [some (.str x t), none, none] := by kernel_rfl
  show wpAny _ _ (Builtin.Re.reNamed "re.Pattern.search" "search" ["string", "pos", "endpos"] 1 [.str x t] [] >>= _) _ _ _
  rw [e]
  refine wpAny_bind (wpAny_pure ?_)
  dsimp only
  refine wpAny_bind (wpAny_pure (wpAny_bind (wpAny_pure (wpAny_bind (wpAny_fieldsOf (T _ _ (po126 w)) rfl ?_)))))
  refine wpAny_bind (wpAny_of_eq (a := (x.cps, 0)) (by kernel_rfl) ?_)
  dsimp only
  rw [if_neg (by decide +kernel), if_neg (by decide +kernel)]
  refine wpAny_bind (wpAny_of_eq (a := ()) (by kernel_rfl) ?_)
  refine wpAny_bind ?_
  show wpAny _ _ (Builtin.Re.reRawItems (.ref 125)) _ _ _
  unfold Builtin.Re.reRawItems
  refine wpAny_bind (wpAny_seqItems (T _ _ (po125 w)) rfl (wpAny_pure ?_))
  refine wpAny_pure ?_
  dsimp only
  have ec : (Array.map (fun x : Int => x.toNat) (Array.map Builtin.Re.reRawOf ((some (⟨codeN.toList.map fun (n : Nat) => Value.int n 0⟩ : Array Value)).getD #[]))) = codeN := by kernel_rfl
  rw [ec]
  have el : min (2 ^ 63 - 1 : Int).toNat x.cps.size = x.cps.size := by
    have : (2 ^ 63 - 1 : Int).toNat = 9223372036854775807 := by decide +kernel
    rw [this]; omega
  have e0 : min (0 : Int).toNat x.cps.size = 0 := by simp
  have eg : Builtin.Re.reRawNat ((⟨[.str ⟨⟨[91, 92, 120, 48, 48, 45, 92, 120, 49, 70, 92, 120, 55, 70, 93]⟩⟩ 695, .int 32 718, .int 0 0, .none, .none, .ref 125, .int 0 0]⟩ : Array Value).getD 2 .none) = 0 := by kernel_rfl
  rw [el, e0, eg]
  obtain ⟨a1, a2, a3⟩ := srchN x.cps ht h1
  unfold Builtin.Re.reAnswer
  refine wpAny_bind (driveV a1 a2 a3 ?_)
  exact wpAny_pure ⟨_, rfl, h⟩
end
section
variable {w : World} {A : Around} {s : Shared} {Q : Value → Shared → Prop} {x : Str} {t : Tok} {self : Value}
theorem convV (R : Room A 3) (T : YP w s.heap) (ht : ∀ i, i < x.cps.size → x.cps.getD i 0 = 46 ∨ 256 ≤ x.cps.getD i 0) (h1 : 1 ≤ x.cps.size) (h2 : x.cps.size ≤ 1000) (h : ∀ s', Ext s s' → Q (.str x t) s') :
    WP w A (call (.ref 161) [self, .str x t] [("name", .bool false)]) Q s := by
  refine callF (fd := fd161) (body := fnB (meth 1)) (binds := [("self", self), ("value", .str x t), ("name", .bool false)]) R T (T _ _ (fo161 w)) rfl rfl (fc161 T) (by kernel_rfl!) (by kernel_rfl!) fun L s₁ x₁ f F => ?_
  have T₁ := T.keeps x₁
  conv in (fnB (meth 1)) => whnf
  refine wpAny_execs_cons (WIf (wpAny_isTrue_Compare1 ?_ (by kernel_rfl!)))
  refine c1t (T := "type") (fun Q' q => evB T₁ (by kernel_rfl!) (by kernel_rfl!) q) (evL F (lk_next (by kernel_rfl!) lk_here) (call_type_of (Tx := "str") rfl (by decide +kernel) ?_))
  refine evB (v := .type "str") T₁ (by kernel_rfl!) (by kernel_rfl!) ?_
  refine wpAny_is_self rfl (wpAny_truthy_bool ⟨fun _ => ?_, fun e => (by cases e)⟩)
  refine wpAny_execs_cons (wpAny_Assign_Name ?_ (by kernel_rfl!))
  refine WIfE (wpAny_isTrue_value (evL F lk_here (wpAny_truthy_bool ⟨fun e => (by cases e), fun _ => ?_⟩)))
  refine evG (v := .ref 131) T₁ (by kernel_rfl!) ?_
  refine stL F fun s₂ b₂ F₂ => ?_
  have x₂ : Ext s s₂ := x₁.but b₂ f
  have T₂ := T.keeps x₂
  dsimp only
  refine wpAny_execs_cons (WIf (wpAny_isTrue_value ?_))
  refine m1b pa_re slot_search ty_search (evL F₂ lk_here ⟨⟨_, T₂ _ _ (po131 w), rfl⟩, fun a ea => ?_, evL F₂ (lk_next (by kernel_rfl!) (lk_next (by kernel_rfl!) lk_here)) (searchV T₂ ht h1 h2 ?_)⟩)
  · cases ea
    exact ⟨_, T₂ _ _ (po131 w), rfl⟩
  · refine wpAny_of_eq (a := false) (by kernel_rfl) ⟨fun e => (by cases e), fun _ => ?_⟩
    refine wpAny_execs_nil ?_
    dsimp only
    refine wpAny_execs_cons (wpAny_Return_some (evL F₂ (lk_next (by kernel_rfl!) (lk_next (by kernel_rfl!) lk_here)) ?_))
    exact h _ x₂
theorem convN (R : Room A 3) (T : YP w s.heap) (ht : ∀ i, i < x.cps.size → 32 ≤ x.cps.getD i 0 ∧ x.cps.getD i 0 ≠ 127) (h1 : 1 ≤ x.cps.size) (h2 : x.cps.size ≤ 1000) (h : ∀ s', Ext s s' → Q (.str x t) s') :
    WP w A (call (.ref 161) [self, .str x t] [("name", .bool true)]) Q s := by
  refine callF (fd := fd161) (body := fnB (meth 1)) (binds := [("self", self), ("value", .str x t), ("name", .bool true)]) R T (T _ _ (fo161 w)) rfl rfl (fc161 T) (by kernel_rfl!) (by kernel_rfl!) fun L s₁ x₁ f F => ?_
  have T₁ := T.keeps x₁
  conv in (fnB (meth 1)) => whnf
  refine wpAny_execs_cons (WIf (wpAny_isTrue_Compare1 ?_ (by kernel_rfl!)))
  refine c1t (T := "type") (fun Q' q => evB T₁ (by kernel_rfl!) (by kernel_rfl!) q) (evL F (lk_next (by kernel_rfl!) lk_here) (call_type_of (Tx := "str") rfl (by decide +kernel) ?_))
  refine evB (v := .type "str") T₁ (by kernel_rfl!) (by kernel_rfl!) ?_
  refine wpAny_is_self rfl (wpAny_truthy_bool ⟨fun _ => ?_, fun e => (by cases e)⟩)
  refine wpAny_execs_cons (wpAny_Assign_Name ?_ (by kernel_rfl!))
  refine WIfE (wpAny_isTrue_value (evL F lk_here (wpAny_truthy_bool ⟨fun _ => ?_, fun e => (by cases e)⟩)))
  refine evG (v := .ref 126) T₁ (by kernel_rfl!) ?_
  refine stL F fun s₂ b₂ F₂ => ?_
  have x₂ : Ext s s₂ := x₁.but b₂ f
  have T₂ := T.keeps x₂
  dsimp only
  refine wpAny_execs_cons (WIf (wpAny_isTrue_value ?_))
  refine m1b pa_re slot_search ty_search (evL F₂ lk_here ⟨⟨_, T₂ _ _ (po126 w), rfl⟩, fun a ea => ?_, evL F₂ (lk_next (by kernel_rfl!) (lk_next (by kernel_rfl!) lk_here)) (searchN T₂ ht h1 h2 ?_)⟩)
  · cases ea
    exact ⟨_, T₂ _ _ (po126 w), rfl⟩
  · refine wpAny_of_eq (a := false) (by kernel_rfl) ⟨fun e => (by cases e), fun _ => ?_⟩
    refine wpAny_execs_nil ?_
    dsimp only
    refine wpAny_execs_cons (wpAny_Return_some (evL F₂ (lk_next (by kernel_rfl!) (lk_next (by kernel_rfl!) lk_here)) ?_))
    exact h _ x₂
end
end Mine
end
section
open PySem PySem.W PySem.Calls PyProof.Rows PySem.W.X PySem.W.XRun
set_option Elab.async false
set_option maxRecDepth 100000
set_option maxHeartbeats 0
set_option linter.unusedVariables false
namespace Mine
theorem HInst.at {h : Heap} {x l : Addr} (I : HInst h x l) : ∃ ox od, InstAt h x ox 260 (some od) ∧ lookIn "_headers" od = some (some (.ref l)) ∧ ∀ n ∈ methNames, lookIn n od = some none := by
  obtain ⟨ox, dx, od, h1, h2, h3, h4, h5, h6, h7, h8⟩ := I.ex
  refine ⟨ox, od, ⟨h1, h2, h3, by rw [h4]; exact h5⟩, h7, fun n hn => ?_⟩
  have := List.all_eq_true.mp h8 n hn
  revert this
  generalize lookIn n od = r
  intro this
  match r, this with
  | some none, _ => rfl
section
variable {w : World} {A : Around} {s : Shared} {env : Env} {x l f : Addr} {name : Str} {pl : Sem Bool}
theorem gmI {Q : Value × List Value → Shared → Prop} (T : YP w s.heap) (I : HInst s.heap x l) (hn : name ∈ methNames) (hf : findIn (KF w.params) (.ref 260) name = some (some (.ref f))) (ht : typeIn (KF w.params) (.ref f) = some (.type "function"))
    (h : Q (.ref f, [.ref x]) s) : WP w A (getMethod (.ref x) name pl) Q s := by
  obtain ⟨ox, od, I', _, hno⟩ := I.at
  exact method_fn (kf_in T) I' (by kernel_rfl!) (by kernel_rfl!) hf ht (by show (lookIn name od).map _ = _; rw [hno name hn]; rfl) h
theorem gaI {Q : Value → Shared → Prop} {ex : Bool} (T : YP w s.heap) (I : HInst s.heap x l) (h : Q (.ref l) { s with toks := s.toks + 1 }) : WP w A (getAttr (.ref x) "_headers" ex) Q s := by
  obtain ⟨ox, od, I', ho, _⟩ := I.at
  exact get_value (kf_in T) I' (by kernel_rfl!) (findObj_own (attr := none) (by kernel_rfl!) (by kernel_rfl!) (by kernel_rfl!) ho) rfl h
theorem mI {o : Expr} {args : List Expr} {kws : List Keyword} {apos pos : Pos} {Q : Value → Shared → Prop}
    (hn : name ∈ methNames) (hf : ∀ w : World, findIn (KF w.params) (.ref 260) name = some (some (.ref f))) (ht : ∀ w : World, typeIn (KF w.params) (.ref f) = some (.type "function"))
    (h : WP w A (eval o env) (fun ov s₁ => ∃ x l, ov = .ref x ∧ YP w s₁.heap ∧ HInst s₁.heap x l ∧ WP w A (callWith pos (.ref f) [.ref x] (backTo pos (starEach args env)) (backToKw pos (keywordEach kws env))) Q s₁) s)
    (hbase : attributeBase o name env (eval o env) = eval o env := by kernel_rfl!)
    (hform : methodCallForm (args.length + kws.length) (backTo pos (starEach args env)) (backToKw pos (keywordEach kws env)) = true := by kernel_rfl!)
    (hline : (apos.endLine == pos.line) = true := by kernel_rfl!) :
    WP w A (eval (.Call (.Attribute o name apos) args kws pos) env) Q s := by
  rw [arm_eval_Call, hbase]
  refine wpAny_bind (wpAny_mono h (fun ov s₁ h₁ => ?_) fun _ _ e => e)
  obtain ⟨x, l, rfl, T, I, hc⟩ := h₁
  refine wpAny_bind (wpAny_standAt ?_)
  have hpos : methodCallPos true o env apos pos = pure pos := by unfold methodCallPos; simp [hline]
  unfold methodCall
  rw [hform]
  refine wpAny_bind (wpAny_holding (gmI T I hn (hf w) (ht w) ?_))
  exact wpAny_bind (wpAny_of_eq hpos hc)
end
end Mine
end
section
open PySem PySem.W PySem.Calls PyProof.Rows PySem.W.X PySem.W.XRun
set_option Elab.async false
set_option maxRecDepth 100000
set_option maxHeartbeats 0
set_option linter.unusedVariables false
namespace Mine
structure Rd (env : Env) (l : List (Str × Value)) (h : Heap) : Prop where
  ns : ∃ m, h.Ns env.locals m ∧ ∀ x v, l.lookup x = some v → env.kindOf x = some .local → m x = some v
  cell : ∀ x v c, l.lookup x = some v → env.kindOf x = some .cell → env.cells.lookup x = some c → h.IsCell c (some v)
noncomputable def Own (env : Env) (a : Addr) : Prop := a = env.locals ∨ ∃ n, env.cells.lookup n = some a
structure Fm (env : Env) (l : List (Str × Value)) (s : Shared) : Prop where
  rd : Rd env l s.heap
  has : ∀ n c, env.cells.lookup n = some c → ∃ u, s.heap.IsCell c u
  apart : env.cells.Pairwise fun x y => x.2 ≠ y.2
  above : ∀ n c, (n, c) ∈ env.cells → env.locals < c
structure Step (env : Env) (s s' : Shared) : Prop where
  keep : ∀ b o, ¬ Own env b → s.heap.get? b = some o → s'.heap.get? b = some o
  gens : s'.gens = s.gens
  drawn : s'.drawn = s.drawn
  os : s'.os = s.os
noncomputable def Fresh (env : Env) (s : Shared) : Prop := ∀ a, Own env a → s.heap.get? a = none
theorem Rd.keeps {env : Env} {l : List (Str × Value)} {s s' : Shared} (F : Rd env l s.heap) (x : Ext s s') : Rd env l s'.heap :=
  ⟨let ⟨m, a, b⟩ := F.ns; ⟨m, a.keeps x.keep, b⟩, fun n v c h1 h2 h3 => (F.cell n v c h1 h2 h3).keeps x.keep⟩
theorem Fm.keeps {env : Env} {l : List (Str × Value)} {s s' : Shared} (F : Fm env l s) (x : Ext s s') : Fm env l s' :=
  ⟨F.rd.keeps x, fun n c h => let ⟨u, e⟩ := F.has n c h; ⟨u, e.keeps x.keep⟩, F.apart, F.above⟩
theorem Fm.own {env : Env} {l : List (Str × Value)} {s : Shared} (F : Fm env l s) {a : Addr} (h : Own env a) : ∃ o, s.heap.get? a = some o := by
  rcases h with h | ⟨n, h⟩
  · obtain ⟨m, ⟨o, es, ep, e, r⟩, b⟩ := F.rd.ns
    exact ⟨o, h ▸ e⟩
  · obtain ⟨u, o, e, _⟩ := F.has n a h
    exact ⟨o, e⟩
theorem Fm.not_own {env : Env} {l : List (Str × Value)} {s : Shared} (F : Fm env l s) {a : Addr} (h : s.heap.get? a = none) : ¬ Own env a := fun o => by
  obtain ⟨ob, e⟩ := F.own o
  rw [h] at e; cases e
theorem Fresh.not_own {env : Env} {s : Shared} (F : Fresh env s) {a : Addr} {o : Obj} (h : s.heap.get? a = some o) : ¬ Own env a := fun x => by
  rw [F a x] at h; cases h
theorem Step.of {env : Env} {s s' : Shared} (x : Ext s s') : Step env s s' := ⟨fun b o _ e => x.keep b o e, x.gens, x.drawn, x.os⟩
theorem Step.trans {env : Env} {a b c : Shared} (x : Step env a b) (y : Step env b c) : Step env a c :=
  ⟨fun p o n e => y.keep p o n (x.keep p o n e), y.gens.trans x.gens, y.drawn.trans x.drawn, y.os.trans x.os⟩
theorem Ext.step {env : Env} {b s s' : Shared} (x : Ext b s) (y : Step env s s') (f : Fresh env b) : Ext b s' :=
  ⟨fun p o e => y.keep p o (f.not_own e) (x.keep p o e), y.gens.trans x.gens, y.drawn.trans x.drawn, y.os.trans x.os⟩
theorem Fm.but {env : Env} {l : List (Str × Value)} {s s' : Shared} {a : Addr} (F : Fm env l s) (x : But a s s') (n : ¬ Own env a) : Fm env l s' := by
  have k : ∀ b o, Own env b → s.heap.get? b = some o → s'.heap.get? b = some o := fun b o hb e => x.keep b o (fun z => n (z ▸ hb)) e
  refine ⟨⟨?_, ?_⟩, fun p c h => ?_, F.apart, F.above⟩
  · obtain ⟨m, ⟨o, es, ep, e, r⟩, b⟩ := F.rd.ns
    exact ⟨m, ⟨o, es, ep, k _ o (.inl rfl) e, r⟩, b⟩
  · intro y v c h1 h2 h3
    obtain ⟨o, e, d⟩ := F.rd.cell y v c h1 h2 h3
    exact ⟨o, k _ o (.inr ⟨y, h3⟩) e, d⟩
  · obtain ⟨u, o, e, d⟩ := F.has p c h
    exact ⟨u, o, k _ o (.inr ⟨p, h⟩) e, d⟩
section
variable {w : World} {A : Around} {s : Shared} {env : Env} {l : List (Str × Value)} {x : Str} {pos : Pos} {v : Value}
theorem lN {Q : Value → Shared → Prop} (F : Rd env l s.heap) (hx : l.lookup x = some v) (h : Q v s) (hk : env.scope.kind = .function := by kernel_rfl!)
    (hl : (env.kindOf x == some .local || (env.kindOf x == some .cell && (env.cells.lookup x).isSome)) = true := by kernel_rfl!) : WP w A (loadName env x) Q s := by
  by_cases h1 : env.kindOf x = some .local
  · obtain ⟨m, hn, hm⟩ := F.ns
    exact wpAny_loadName_local hk h1 hn (hm x v hx h1) h
  · rw [beq_eq_false_iff_ne.mpr h1, Bool.false_or, Bool.and_eq_true] at hl
    obtain ⟨c, hc⟩ := Option.isSome_iff_exists.mp hl.2
    exact wpAny_loadName_cell hk (eq_of_beq hl.1) hc (F.cell x v c hx (eq_of_beq hl.1) hc) h
theorem eN {Q : Value → Shared → Prop} (F : Rd env l s.heap) (hx : l.lookup x = some v) (h : Q v s) (hk : env.scope.kind = .function := by kernel_rfl!)
    (hl : (env.kindOf x == some .local || (env.kindOf x == some .cell && (env.cells.lookup x).isSome)) = true := by kernel_rfl!) (hd : (x == ("__debug__" : Str)) = false := by kernel_rfl!) :
    WP w A (eval (.Name x pos) env) Q s := wpAny_Name (lN F hx h hk hl) hd
theorem eG {Q : Value → Shared → Prop} (T : YP w s.heap) (hv : (HL w.params).nsMap mainGlobals x = some v) (h : Q v s) (hk : env.scope.kind = .function := by kernel_rfl!)
    (hl : env.kindOf x = some .globalImplicit := by kernel_rfl!) (hd : (x == ("__debug__" : Str)) = false := by kernel_rfl!) (hg : env.globals = mainGlobals := by rfl) : WP w A (eval (.Name x pos) env) Q s :=
  Name_function_global hk hl (loadGlobal_global (hg ▸ T.g) hv h) hd
theorem eB {Q : Value → Shared → Prop} (T : YP w s.heap) (hm : (HL w.params).nsMap mainGlobals x = none) (hv : (HL w.params).nsMap builtinsNs x = some v) (h : Q v s) (hk : env.scope.kind = .function := by kernel_rfl!)
    (hl : env.kindOf x = some .globalImplicit := by kernel_rfl!) (hd : (x == ("__debug__" : Str)) = false := by kernel_rfl!) (hg : env.globals = mainGlobals := by rfl) (hb : env.builtins = builtinsNs := by rfl) : WP w A (eval (.Name x pos) env) Q s :=
  Name_function_global hk hl (loadGlobal_builtin (hg ▸ T.g) hm (hb ▸ T.b) hv h) hd
theorem lk_other {x y : Str} {v u : Value} (hy : y ≠ x) (e : List.lookup y ((x, u) :: l) = some v) : List.lookup y l = some v := by
  rw [← e]
  simp only [List.lookup, beq_eq_false_iff_ne.mpr hy]
theorem sN {Q : Unit → Shared → Prop} (F : Fm env l s) (h : ∀ s', Step env s s' → Fm env ((x, v) :: l) s' → Q () s') (hk : env.scope.kind = .function := by kernel_rfl!)
    (hl : (env.kindOf x == some .local || (env.kindOf x == some .cell && (env.cells.lookup x).isSome)) = true := by kernel_rfl!) : WP w A (storeName env x v) Q s := by
  by_cases h1 : env.kindOf x = some .local
  · obtain ⟨m, hn, hm⟩ := F.rd.ns
    refine wpAny_storeName_local h1 hn (fun h' hn' hs => h _ ⟨fun b o ne e => (hs.2 b (fun z => ne (.inl z))).trans e, rfl, rfl, rfl⟩ ⟨⟨⟨_, hn', fun y u e k => ?_⟩, fun y u c e k hc => ?_⟩, fun n c hm => ?_, F.apart, F.above⟩) (by rw [hk]; rfl)
    · by_cases hy : y = x
      · subst hy
        rw [lk_here] at e
        rw [if_pos rfl]; exact e
      · rw [if_neg hy]
        exact hm y u (lk_other hy e) k
    · have hy : y ≠ x := fun z => by subst z; rw [h1] at k; cases k
      exact (F.rd.cell y u c (lk_other hy e) k hc).sameBut hs (Nat.ne_of_gt (F.above y c (mem_of_lookup hc)))
    · obtain ⟨u, e⟩ := F.has n c hm
      exact ⟨u, e.sameBut hs (Nat.ne_of_gt (F.above n c (mem_of_lookup hm)))⟩
  · rw [beq_eq_false_iff_ne.mpr h1, Bool.false_or, Bool.and_eq_true] at hl
    obtain ⟨c, hc⟩ := Option.isSome_iff_exists.mp hl.2
    have hm := mem_of_lookup hc
    obtain ⟨u₀, hu⟩ := F.has x c hc
    have hLc := F.above x c hm
    refine wpAny_storeName_cell hk (eq_of_beq hl.1) hc hu fun h' hc' hs => h _ ⟨fun b o ne e => (hs.2 b (fun z => ne (.inr ⟨x, z ▸ hc⟩))).trans e, rfl, rfl, rfl⟩ ⟨⟨?_, fun y u c' e k hk' => ?_⟩, fun n c' hn => ?_, F.apart, F.above⟩
    · obtain ⟨m, hn, hm'⟩ := F.rd.ns
      refine ⟨m, hn.sameBut hs (Nat.ne_of_lt hLc), fun y u e k => hm' y u (lk_other (fun z => ?_) e) k⟩
      subst z
      exact h1 k
    · by_cases hy : y = x
      · subst hy
        rw [lk_here] at e
        rw [hc] at hk'
        cases hk'
        cases e
        exact hc'
      · exact (F.rd.cell y u c' (lk_other hy e) k hk').sameBut hs fun z => hy (name_of_addr F.apart (mem_of_lookup hk') (z ▸ hm))
    · by_cases hcc : c' = c
      · subst hcc; exact ⟨_, hc'⟩
      · obtain ⟨u, e⟩ := F.has n c' hn
        exact ⟨u, e.sameBut hs hcc⟩
end
theorem bindL_lk {k : Str → Option NameKind} {x : Str} (hx : k x = some .local) : ∀ (b : List (Str × Value)) (m : Str → Option Value), bindL k b m x = (b.reverse.lookup x).or (m x)
  | [], m => rfl
  | (n, v) :: r, m => by
    unfold bindL
    rw [bindL_lk hx r, List.reverse_cons, List.lookup_append, Option.or_assoc]
    congr 1
    by_cases hn : x = n
    · subst hn
      rw [if_pos hx, if_pos rfl]; simp [List.lookup]
    · have : List.lookup x [(n, v)] = none := by simp [List.lookup, beq_eq_false_iff_ne.mpr hn]
      rw [this]
      split
      · show (if x = n then some v else m x) = _
        rw [if_neg hn]; rfl
      · rfl
theorem bindC_lk {k : Str → Option NameKind} {x : Str} (hx : k x = some .cell) : ∀ (b : List (Str × Value)) (m : Str → Option Value), bindC k b m x = (b.reverse.lookup x).or (m x)
  | [], m => rfl
  | (n, v) :: r, m => by
    unfold bindC
    rw [bindC_lk hx r, List.reverse_cons, List.lookup_append, Option.or_assoc]
    congr 1
    by_cases hn : x = n
    · subst hn
      rw [if_neg (by rw [hx]; decide), if_pos rfl]; simp [List.lookup]
    · have : List.lookup x [(n, v)] = none := by simp [List.lookup, beq_eq_false_iff_ne.mpr hn]
      rw [this]
      split
      · rfl
      · show (if x = n then some v else m x) = _
        rw [if_neg hn]; rfl
noncomputable def envC (fd : FuncData) (L a : Addr) : Env := newEnv fd.scope L fd.globals (cellsFrom (L + 1) fd.scope.names []) (fd.qualname ++ ".<locals>.") (some a) fd.code none fd.builtins
theorem callC {w : World} {A : Around} {s : Shared} {n : Nat} {a : Addr} {o : Obj} {fd : FuncData} {body : List Stmt} {pos : List Value} {kw : List (Str × Value)} {Q : Value → Shared → Prop}
    (binds : List (Str × Value)) (R : Room A (n + 1)) (T : YP w s.heap) (ho : s.heap.get? a = some o) (hd : o.data = .func fd) (hb : fd.body = .stmts body) (hcd : s.heap.CodeRec fd.code fd.qualname)
    (hbind : bindArgs fd ⟨pos, kw⟩ = pure binds)
    (hkind : ∀ L, (binds.all fun x => decide (fd.scope.names.lookup x.1 = some .local) || (decide (fd.scope.names.lookup x.1 = some .cell) && ((cellsFrom (L + 1) fd.scope.names []).lookup x.1).isSome)) = true)
    (h : ∀ L s₁, Ext s s₁ → Fresh (envC fd L a) s → Fm (envC fd L a) binds.reverse s₁ → YP w s₁.heap →
      Room (A.deeper (envC fd L a)) n → WP w (A.deeper (envC fd L a)) (execs body (envC fd L a)) (fun f s' => Q (match f with | .ret v => v | _ => .none) s') s₁)
    (hco : fd.scope.isCoroutine = false := by kernel_rfl!) (hgen : fd.scope.isGenerator = false := by kernel_rfl!) (hk : fd.scope.kind = .function := by kernel_rfl!)
    (hc : fd.closure = [] := by rfl) :
    WP w A (call (.ref a) pos kw) Q s := by
  refine wpAny_call (codeAny_call_function R.limit ho hd hco hgen hb hcd ?_)
  rw [hbind, hc]
  refine wpAny_pure (wpAny_newFunctionEnv_cells hk (fun x hx => ?_) fun env he s' x => ?_)
  · have := List.all_eq_true.mp (hkind s.heap.objs.size) x hx
    rw [Bool.or_eq_true, Bool.and_eq_true] at this
    rcases this with h1 | h1
    · exact .inl (of_decide_eq_true h1)
    · exact .inr ⟨of_decide_eq_true h1.1, h1.2⟩
  · subst he
    have e : Ext s s' := by
      obtain ⟨h', tk, rfl⟩ := x.toInCall.same
      exact ⟨x.toInCall.keep, rfl, rfl, rfl⟩
    have T' := T.keeps e
    refine ⟨T'.lim, codeAny_func (wpAny_mono (h s.heap.objs.size s' e ?_ ?_ T' (R.deeper _)) (fun f s' q => q) fun _ _ e => e.elim)⟩
    · intro b hb
      rcases hb with hb | ⟨n, hb⟩
      · exact Heap.get?_none_of_le (Nat.le_of_eq hb.symm)
      · exact Heap.get?_none_of_le (Nat.le_of_lt (x.above n b (mem_of_lookup hb)))
    · refine ⟨⟨⟨_, x.toInCall.ns, fun y v e k => ?_⟩, fun y v c e k hc => ?_⟩, fun n c hm => ?_, x.apart, x.above⟩
      · have k' := bindL_lk (x := y) k binds fun _ => none
        rw [e] at k'
        exact k'
      · have := x.cell y c hc
        have k' := bindC_lk (x := y) k binds fun _ => none
        rw [e] at k'
        have k' : bindC (envC fd s.heap.objs.size a).kindOf binds (fun _ => none) y = some v := k'
        rw [← k']
        exact this
      · exact ⟨_, x.cell n c hm⟩
end Mine
end
section
open PySem PySem.W PySem.Calls PyProof.Rows PySem.W.X PySem.W.XRun
set_option Elab.async false
set_option maxRecDepth 100000
set_option maxHeartbeats 0
set_option linter.unusedVariables false
namespace Mine
noncomputable def Kp (h h' : Heap) : Prop := ∀ b o, h.get? b = some o → h'.get? b = some o
theorem Kp.trans {a b c : Heap} (x : Kp a b) (y : Kp b c) : Kp a c := fun p o e => y p o (x p o e)
theorem YP.kp {w : World} {h h' : Heap} (T : YP w h) (x : Kp h h') : YP w h' := fun b o e => x b o (T b o e)
theorem Rd.kp {env : Env} {l : List (Str × Value)} {h h' : Heap} (F : Rd env l h) (x : Kp h h') : Rd env l h' :=
  ⟨let ⟨m, a, b⟩ := F.ns; ⟨m, a.keeps x, b⟩, fun n v c h1 h2 h3 => (F.cell n v c h1 h2 h3).keeps x⟩
noncomputable def Wk (w : World) (A : Around) (xv : Value) (n : Nat) (P : Nat → Value → Prop) (s : Shared) : Prop :=
  WP w A (pyIter xv) (fun it s₂ => ∃ I fp wr St, it = .ref I ∧ Walks pw w A I fp wr n P St ∧ St 0 s₂.heap ∧ (∀ b ∈ fp, b < s₂.heap.objs.size) ∧ (∀ b ∈ wr, s.heap.get? b = none) ∧ Ext s s₂) s
theorem wk_list {w : World} {A : Around} {s : Shared} {a : Addr} {items : Array Value} (hh : A.handled = none) (hl : s.heap.IsList a items) : Wk w A (.ref a) items.size (fun i v => items[i]? = some v) s := by
  refine wpAny_pyIter_list hl ⟨s.heap.objs.size, [s.heap.objs.size, a], [s.heap.objs.size], _, rfl, Walks.list hh _ a ?_ items, ?_, ?_, ?_, ?_⟩
  · obtain ⟨o, e, _⟩ := hl
    exact Nat.ne_of_lt (Heap.lt_size e)
  · exact ⟨⟨_, Heap.get?_push_size _ rfl, rfl, rfl⟩, hl.at fun o e => Heap.get?_push_of_some _ e⟩
  · intro b hb
    show b < (s.heap.push _).objs.size
    rw [Heap.size_push]
    obtain ⟨o, e, _⟩ := hl
    have := Heap.lt_size e
    simp at hb
    rcases hb with rfl | rfl
    · exact Nat.lt_succ_self _
    · exact Nat.lt_succ_of_lt this
  · intro b hb
    simp at hb
    subst hb
    exact fresh_at s
  · exact Ext.push s _ s.toks
theorem lk_hereA {α : Type} {x : Str} {v : α} {l : List (Str × α)} : List.lookup x ((x, v) :: l) = some v := by simp [List.lookup]
noncomputable def cloOf (names : List (Str × NameKind)) (env : Env) : List (Str × Addr) → List (Str × Addr) :=
  fun acc => names.foldl (fun cs x => if x.2 == .free then (match env.cells.lookup x.1 with | some c => (x.1, c) :: cs | none => cs) else cs) acc
theorem clo_eq {env : Env} : ∀ (names : List (Str × NameKind)) (acc : List (Str × Addr)), (names.all fun y => !(y.2 == .free) || (env.cells.lookup y.1).isSome) = true →
    (forIn names acc fun x r => (match x with | (name, kind) => if (kind == NameKind.free) = true then (do let y ← cellOf env name; pure (ForInStep.yield ((name, y) :: r))) else pure (ForInStep.yield r) : Sem (ForInStep (List (Str × Addr))))) = pure (cloOf names env acc)
  | [], acc, _ => rfl
  | (n, k) :: r, acc, h => by
    rw [List.all_cons, Bool.and_eq_true] at h
    rw [List.forIn_cons]
    unfold cloOf
    rw [List.foldl_cons]
    dsimp only
    by_cases hk : (k == NameKind.free) = true
    · rw [if_pos hk, if_pos hk]
      have h1 := h.1
      dsimp only at h1
      rw [hk, Bool.not_true, Bool.false_or] at h1
      obtain ⟨c, hc⟩ := Option.isSome_iff_exists.mp h1
      unfold cellOf
      rw [hc]
      exact clo_eq r _ h.2
    · rw [if_neg hk, if_neg hk]
      exact clo_eq r _ h.2
theorem clo_for {env : Env} {scope : Scope} (h : (scope.names.all fun y => !(y.2 == .free) || (env.cells.lookup y.1).isSome) = true) : closureFor scope env = pure (cloOf scope.names env []) := by
  have := clo_eq scope.names [] h
  simp only [closureFor]
  have e : (forIn scope.names [] fun x r => if (x.2 == NameKind.free) = true then (do let y ← cellOf env x.1; pure (ForInStep.yield ((x.1, y) :: r))) else pure (ForInStep.yield r) : Sem (List (Str × Addr))) = pure (cloOf scope.names env []) := this
  rw [e]
  rfl
theorem clo_sub {env : Env} : ∀ (names : List (Str × NameKind)) (acc : List (Str × Addr)), (∀ y c, acc.lookup y = some c → env.cells.lookup y = some c) → ∀ y c, (cloOf names env acc).lookup y = some c → env.cells.lookup y = some c
  | [], acc, h => h
  | (n, k) :: r, acc, h => by
    unfold cloOf
    rw [List.foldl_cons]
    dsimp only
    refine clo_sub r _ ?_
    split
    · split
      · rename_i c0 hc
        intro y c e
        by_cases hy : y = n
        · subst hy
          rw [lk_hereA] at e
          cases e; exact hc
        · refine h y c ?_
          rw [← e]; simp only [List.lookup, beq_eq_false_iff_ne.mpr hy]
      · exact h
    · exact h
theorem rl_lk {env : Env} {y : Str} {kk : NameKind} : ∀ {names : List (Str × NameKind)},
    (names.map fun (n, k) => if (k == NameKind.free && env.scope.kind == .function && env.kindOf n == some .cell) then (n, NameKind.cell) else (n, k)).lookup y = some kk →
    names.lookup y = some kk ∨ (kk = .cell ∧ env.kindOf y = some .cell)
  | [], h => by simp at h
  | (n, k) :: r, h => by
    have ih := @rl_lk env y kk r
    rw [List.map_cons] at h
    by_cases hy : y = n
    · subst hy
      by_cases hc : (k == NameKind.free && env.scope.kind == .function && env.kindOf y == some .cell) = true
      · dsimp only at h
        rw [if_pos hc, lk_hereA] at h
        cases h
        simp only [Bool.and_eq_true] at hc
        exact .inr ⟨rfl, eq_of_beq hc.2⟩
      · dsimp only at h
        rw [if_neg hc, lk_hereA] at h
        exact .inl (by rw [lk_hereA]; exact h)
    · have e : List.lookup y ((n, k) :: r) = List.lookup y r := by simp only [List.lookup, beq_eq_false_iff_ne.mpr hy]
      rw [e]
      refine ih ?_
      rw [← h]
      dsimp only
      split <;> simp only [List.lookup, beq_eq_false_iff_ne.mpr hy]
noncomputable def compTest (ifs : List Expr) (env : Env) : Sem Bool :=
  forIn ifs true fun c r => if r = true then do let ok ← isTrue c env (eval c env); pure (ForInStep.yield ok) else pure (ForInStep.yield r)
noncomputable abbrev kE (scope : Scope) (C : Addr) (env : Env) : Env := compEnvC scope (cloOf scope.names env []) C env
theorem Rd.inner {env : Env} {scope : Scope} {x : Str} {C : Addr} {v : Value} {h : Heap} {m : Str → Option Value} {lo : List (Str × Value)} (F : Rd env lo h) (hn : h.Ns C m) (hm : m x = some v)
    (hcell : ∀ y ∈ scope.names, y.2 ≠ .cell) (hx : scope.names.lookup x = some .local) (hlo : (lo.all fun e => e.1 == x || !(scope.names.lookup e.1 == some .local)) = true) :
    Rd (kE scope C env) ((x, v) :: lo) h := by
  refine ⟨⟨m, hn, fun y u e k => ?_⟩, fun y u c e k hc => ?_⟩
  · by_cases hy : y = x
    · subst hy
      rw [lk_here] at e
      rw [hm]; exact e
    · have e' := lk_other hy e
      have k' : scope.names.lookup y = some .local := by
        rcases rl_lk k with h1 | h1
        · exact h1
        · cases h1.1
      have := List.all_eq_true.mp hlo (y, u) (mem_of_lookup e')
      dsimp only at this
      rw [k', beq_eq_false_iff_ne.mpr hy] at this
      exact absurd this (by decide)
  · have hy : y ≠ x := fun z => by
      subst z
      have := lookup_relabel_local (env := env) hx
      have k : (relabel scope env).names.lookup y = some .cell := k
      unfold relabel at k
      rw [this] at k; cases k
    have hk : env.kindOf y = some .cell := by
      rcases rl_lk k with h1 | h1
      · exact absurd rfl (hcell _ (mem_of_lookup h1))
      · exact h1.2
    exact F.cell y u c (lk_other hy e) hk (clo_sub _ _ (fun _ _ e => by cases e) y c hc)
theorem keeps_ext {s s' : Shared} (x : Ext s s') : Keeps s s' := by
  obtain ⟨h, g, d, t, o⟩ := s
  obtain ⟨h', g', d', t', o'⟩ := s'
  obtain ⟨k, e1, e2, e3⟩ := x
  dsimp only at k e1 e2 e3
  subst e1 e2 e3
  exact ⟨h', t', rfl, k⟩
theorem lC {w : World} {A : Around} {s : Shared} {env : Env} {elt iter : Expr} {x : Str} {px : Pos} {ifs : List Expr} {scope : Scope} {pos : Pos} {Q : Value → Shared → Prop} {lo : List (Str × Value)}
    (p : Value → Bool) (G : Value → Value → Prop) (F : Rd env lo s.heap)
    (h : WP w A (eval iter env) (fun xv s₁ => ∃ n P, Ext s s₁ ∧ Wk w A xv n P s₁ ∧ n ≤ sizeLine ∧
      (∀ C i v s₂, P i v → Kp s₁.heap s₂.heap → Rd (kE scope C env) ((x, v) :: lo) s₂.heap → WP w A (compTest ifs (kE scope C env)) (fun ok s₃ => ok = p v ∧ Ext s₂ s₃) s₂) ∧
      (∀ C i v s₂, P i v → p v = true → Kp s₁.heap s₂.heap → Rd (kE scope C env) ((x, v) :: lo) s₂.heap → WP w A (eval elt (kE scope C env)) (fun y s₃ => G v y ∧ Ext s₂ s₃) s₂) ∧
      (∀ D ys s' (vs : List Value), s₁.heap.get? D = none → s'.heap.PlainList D ys → vs.length = n → (∀ j v, vs[j]? = some v → P j v) → Paired G (vs.filter p) ys.toList → Ext s₁ s' → Q (.ref D) s')) s)
    (hfree : (scope.names.all fun y => !(y.2 == .free) || (env.cells.lookup y.1).isSome) = true := by kernel_rfl!)
    (hcell : (scope.names.all fun y => !(y.2 == .cell)) = true := by kernel_rfl!) (hkind : scope.kind = .function := by kernel_rfl!)
    (hnames : (scope.names.all fun y => !(y.2 == .local) || (scope.names.lookup y.1 == some .local)) = true := by kernel_rfl!) (hx : scope.names.lookup x = some .local := by kernel_rfl!)
    (hlo : (lo.all fun e => e.1 == x || !(scope.names.lookup e.1 == some .local)) = true := by kernel_rfl!)
    (hs : ∀ x, foldedSetIterable iter env x = pure x := by intro _; rfl) :
    WP w A (eval (.ListComp elt [⟨.Name x px, iter, ifs, 0⟩] scope pos) env) Q s := by
  have hc : ∀ y ∈ scope.names, y.2 ≠ .cell := fun y hy e => by
    have := List.all_eq_true.mp hcell y hy
    rw [e] at this; cases this
  refine wpAny_ListComp_free (cl := cloOf scope.names env []) p G (clo_for hfree) hc hkind (fun y hy e => ?_) hx (wpAny_mono h (fun xv s₁ h₁ => ?_) fun _ _ e => e) hs
  · have := List.all_eq_true.mp hnames y hy
    rw [e] at this
    exact eq_of_beq this
  · obtain ⟨n, P, e₁, W, hn, h1, h2, h3⟩ := h₁
    refine wpAny_mono W (fun it s₂ h₂ => ?_) fun _ _ e => e
    obtain ⟨I, fp, wr, St, rfl, W', hst, hfp, hwr, e₂⟩ := h₂
    have kp : ∀ {s₃ : Shared}, (∀ b o, b ∉ wr → s₂.heap.get? b = some o → s₃.heap.get? b = some o) → Kp s₁.heap s₃.heap := fun k b o e =>
      k b o (fun hb => by rw [hwr b hb] at e; cases e) (e₂.keep b o e)
    refine ⟨I, fp, wr, n, P, St, rfl, W', hn, hst, hfp, ⟨fun C i v s₃ m₃ E' hC hP hN hm hk ht => ?_, fun C i v s₃ m₃ E' hC hP hp hN hm hk ht => ?_⟩, fun D h' tk ys vs hD hl hpl hlen hP hF hk => ?_⟩
    · refine wpAny_mono (h1 C i v s₃ hP (kp hk) (((F.keeps e₁).kp (kp hk)).inner hN hm hc hx hlo)) (fun ok s₄ h₄ => ⟨h₄.1, keeps_ext h₄.2⟩) fun _ _ e => e.elim
    · refine wpAny_mono (h2 C i v s₃ hP hp (kp hk) (((F.keeps e₁).kp (kp hk)).inner hN hm hc hx hlo)) (fun ok s₄ h₄ => ⟨h₄.1, keeps_ext h₄.2⟩) fun _ _ e => e.elim
    · refine h3 D ys _ vs ?_ hpl hlen hP hF ⟨kp (s₃ := { s₂ with heap := h', toks := tk }) hk, e₂.gens, e₂.drawn, e₂.os⟩
      cases e : s₁.heap.get? D with
      | none => rfl
      | some o => rw [e₂.keep _ _ e] at hD; cases hD
theorem ct0 {w : World} {A : Around} {s : Shared} {env : Env} {Q : Bool → Shared → Prop} (h : Q true s) : WP w A (compTest [] env) Q s := wpAny_pure h
theorem ct1 {w : World} {A : Around} {s : Shared} {env : Env} {c : Expr} {Q : Bool → Shared → Prop} (h : WP w A (isTrue c env (eval c env)) Q s) : WP w A (compTest [c] env) Q s := by
  unfold compTest
  rw [List.forIn_cons, if_pos rfl]
  refine wpAny_bind (wpAny_bind (wpAny_mono h (fun ok s' q => wpAny_pure ?_) fun _ _ e => e))
  exact wpAny_pure q
end Mine
end
section
open PySem PySem.W PySem.Calls PyProof.Rows PySem.W.X PySem.W.XRun
set_option Elab.async false
set_option maxRecDepth 100000
set_option maxHeartbeats 0
set_option linter.unusedVariables false
namespace Mine
structure RowAt (h : Heap) (v : Value) (r : Nat × Str) : Prop where
  ex : ∃ a t u, v = .ref a ∧ IsTup h a #[.str ⟨#[r.1]⟩ t, .str r.2 u]
structure RowsAt (h : Heap) (l : Addr) (rows : List (Nat × Str)) : Prop where
  ex : ∃ items, h.PlainList l items ∧ Paired (RowAt h) items.toList rows
theorem IsTup.kp {h h' : Heap} {a : Addr} {i : Array Value} (x : IsTup h a i) (k : Kp h h') : IsTup h' a i := let ⟨o, e, r⟩ := x; ⟨o, k _ _ e, r⟩
theorem RowAt.kp {h h' : Heap} {v : Value} {r : Nat × Str} (x : RowAt h v r) (k : Kp h h') : RowAt h' v r := let ⟨a, t, u, e, y⟩ := x.ex; ⟨a, t, u, e, IsTup.kp y k⟩
theorem Paired.imp {α β : Type} {F G : α → β → Prop} (k : ∀ a b, F a b → G a b) : ∀ {l : List α} {m : List β}, Paired F l m → Paired G l m
  | _, _, .nil => .nil
  | _, _, .cons h t => .cons (k _ _ h) (Paired.imp k t)
theorem Paired.get {α β : Type} {F : α → β → Prop} : ∀ {l : List α} {m : List β}, Paired F l m → ∀ (i : Nat) (a : α), l[i]? = some a → ∃ b, m[i]? = some b ∧ F a b
  | _, _, .nil, i, a, h => by simp at h
  | _, _, .cons h t, 0, a, e => by simp at e; subst e; exact ⟨_, rfl, h⟩
  | _, _, .cons h t, i + 1, a, e => by simp at e; obtain ⟨b, hb, k⟩ := Paired.get t i a e; exact ⟨b, by simpa using hb, k⟩
theorem RowsAt.kp {h h' : Heap} {l : Addr} {rows : List (Nat × Str)} (x : RowsAt h l rows) (k : Kp h h') : RowsAt h' l rows :=
  let ⟨i, e, p⟩ := x.ex; ⟨i, e.at fun o e => k _ o e, Paired.imp (fun _ _ y => y.kp k) p⟩
theorem Paired.filt {α β γ : Type} {F : α → β → Prop} {G : α → γ → Prop} {H : β → γ → Prop} {p : α → Bool} {q : β → Bool} (hp : ∀ a b, F a b → p a = q b) (hH : ∀ a b c, F a b → G a c → H b c) :
    ∀ {l : List α} {m : List β}, Paired F l m → ∀ {n : List γ}, Paired G (l.filter p) n → Paired H (m.filter q) n
  | _, _, .nil, _, h => by cases h; exact .nil
  | a :: l, b :: m, .cons h t, n, k => by
    rw [List.filter_cons] at k ⊢
    rw [← hp a b h]
    cases hb : p a with
    | false =>
      rw [hb] at k
      exact Paired.filt hp hH t k
    | true =>
      rw [hb, if_pos rfl] at k
      rw [if_pos rfl]
      cases k with
      | cons k1 k2 => exact .cons (hH _ _ _ h k1) (Paired.filt hp hH t k2)
noncomputable def rowKind (h : Heap) (v : Value) : Nat :=
  match v with
  | .ref a => match h.get? a with
    | some o => match o.data with
      | .seq items _ => match items.toList with
        | Value.str x _ :: _ => x.cps.getD 0 0
        | _ => 0
      | _ => 0
    | none => 0
  | _ => 0
theorem RowAt.kind {h : Heap} {v : Value} {r : Nat × Str} (x : RowAt h v r) : rowKind h v = r.1 := by
  obtain ⟨a, t, u, rfl, o, e, hc, n, hd⟩ := x.ex
  unfold rowKind
  dsimp only
  rw [e]
  dsimp only
  rw [hd]
  rfl
theorem RowAt.uniq {h : Heap} {v : Value} {r r' : Nat × Str} (x : RowAt h v r) (y : RowAt h v r') : r.2 = r'.2 := by
  obtain ⟨a, t, u, rfl, o, e, hc, n, hd⟩ := x.ex
  obtain ⟨a', t', u', e1, o', e', hc', n', hd'⟩ := y.ex
  cases e1
  rw [e] at e'
  cases e'
  rw [hd] at hd'
  injection hd' with h1 h2
  have h1 : [Value.str ⟨#[r.1]⟩ t, Value.str r.2 u] = [Value.str ⟨#[r'.1]⟩ t', Value.str r'.2 u'] := congrArg Array.toList h1
  injection h1 with h3 h4
  injection h4 with h5 h6
  injection h5
theorem beq1 (a b : Nat) : ((⟨#[a]⟩ : Str) == ⟨#[b]⟩) = (a == b) := by
  by_cases h : a = b
  · subst h
    rw [beq_self_eq_true, beq_self_eq_true]
  · rw [beq_eq_false_iff_ne.mpr h, beq_eq_false_iff_ne.mpr (fun e => h (by injection e with e; have e := congrArg Array.toList e; injection e))]
theorem cw11 {w : World} {A : Around} {s : Shared} {pos : Pos} {a : Addr} {o : Obj} {fd : FuncData} {first : List Value} {x y : Sem Value} {k : Str} {Q : Value → Shared → Prop} (hd : o.data = .func fd)
    (h : WP w A x (fun v s₁ => WP w A y (fun u s₂ => s₂.heap.get? a = some o ∧ WP w A (call (.ref a) (first ++ [v]) [(k, u)]) Q s₂) s₁) s) :
    WP w A (callWith pos (.ref a) first [(false, x)] [(some k, y)]) Q s :=
  callWith_function_kw (o := o) (fd := fd) (evalArgs_kw rfl (Calls.spliced_cons (wpAny_mono h (fun v s₁ h₁ => Calls.spliced_nil (by
    show wpAny _ _ (evalAll [y]) _ _ _
    unfold evalAll
    refine wpAny_bind (wpAny_mono h₁ (fun u s₂ h₂ => ?_) fun _ _ e => e)
    refine wpAny_bind (wpAny_holding ?_)
    unfold evalAll
    exact wpAny_pure (wpAny_pure ⟨⟨h₂.1, hd⟩, h₂.2⟩))) fun _ _ e => e)))
theorem lowUp : ∀ c ∈ [80, 81, 82, 83], Txt.lower ⟨#[c]⟩ = ⟨#[c + 32]⟩ := by decide +kernel
theorem lowLow : ∀ c ∈ [112, 113, 114, 115], Txt.lower ⟨#[c]⟩ = ⟨#[c]⟩ := by decide +kernel
theorem upLow : ∀ c ∈ [112, 113, 114, 115], Txt.upper ⟨#[c]⟩ = ⟨#[c - 32]⟩ := by decide +kernel
section
variable {w : World} {A : Around} {s : Shared} {Q : Value → Shared → Prop} {x l : Addr} {c : Nat} {t : Tok} {rows : List (Nat × Str)}
theorem getAll (R : Room A 5) (T : YP w s.heap) (I : HInst s.heap x l) (H : RowsAt s.heap l rows) (hr : ∀ r ∈ rows, r.1 ∈ [112, 113, 114, 115]) (hsz : rows.length ≤ 100) (hc : c ∈ [80, 81, 82, 83])
    (h : ∀ D ys s', Ext s s' → s.heap.get? D = none → s'.heap.PlainList D ys → Paired (fun (r : Nat × Str) v => ∃ t, v = .str r.2 t) (rows.filter fun r => r.1 == c + 32) ys.toList → Q (.ref D) s') :
    WP w A (call (.ref 199) [.ref x, .str ⟨#[c]⟩ t]) Q s := by
  refine callC (fd := fd199) (body := fnB (meth 7)) (n := 4) [("self", .ref x), ("name", .str ⟨#[c]⟩ t)] R T (T _ _ (fo199 w)) rfl rfl (fc199 T) (by kernel_rfl!) (fun L => by kernel_rfl!) fun L s₁ x₁ f F T₁ R₁ => ?_
  conv in (fnB (meth 7)) => whnf
  refine wpAny_execs_cons (wpAny_Assign_Name ?_ (by kernel_rfl!))
  refine mI (f := 161) (by decide +kernel) (fun w => by kernel_rfl!) (fun w => by kernel_rfl!) (eN F.rd (lk_next (by kernel_rfl!) lk_here) ⟨x, l, rfl, T₁, I.keeps x₁, ?_⟩)
  refine cw11 (o := ⟨.type "function", none, .func fd161, ⟨[]⟩⟩) (fd := fd161) rfl ?_
  refine Call_method0 (by kernel_rfl!) (by kernel_rfl!) (eN F.rd lk_here (SB.lower (by rw [lowUp c hc]; rfl) ?_))
  rw [lowUp c hc]
  refine wpAny_bind (wpAny_Constant_bool (wpAny_bind (wpAny_standAt (wpAny_pure ?_))))
  refine ⟨T₁ _ _ (fo161 w), ?_⟩
  have x₂ : Ext s { s₁ with toks := s₁.toks + 1 } := x₁.trans (Ext.toks _ _)
  refine convN (R₁.le (by decide)) (T₁.keeps (Ext.toks _ _)) (fun i hi => ?_) (by show 1 ≤ 1; decide) (by show 1 ≤ 1000; decide) fun s₃ x₃ => ?_
  · have : i = 0 := by have : i < 1 := hi; omega
    subst this
    show 32 ≤ c + 32 ∧ c + 32 ≠ 127
    simp at hc
    omega
  refine sN (F.keeps ((Ext.toks _ _).trans x₃)) fun s₄ st F₄ => ?_
  have x₄ : Ext s s₄ := (x₂.trans x₃).step st f
  have T₄ := T.keeps x₄
  dsimp only
  refine wpAny_execs_cons (wpAny_Return_some ?_)
  have H₄ := H.kp x₄.keep
  obtain ⟨items, hi, hp⟩ := H₄.ex
  have hz : items.size = rows.length := by rw [← Paired.length hp]; simp
  refine lC (fun v => rowKind s₄.heap v == c + 32) (fun v y => ∀ r, RowAt s₄.heap v r → ∃ t, y = .str r.2 t) F₄.rd ?_
  refine Attribute_Name_ (eN F₄.rd (lk_next (by kernel_rfl!) (lk_next (by kernel_rfl!) lk_here)) (gaI T₄ (I.keeps x₄) ?_))
  have x₅ : Ext s₄ { s₄ with toks := s₄.toks + 1 } := Ext.toks _ _
  refine ⟨items.size, _, x₅, wk_list R₁.hd hi.isList, by rw [hz]; exact Nat.le_trans hsz (by decide +kernel), fun C i v s₆ hv k₆ F₆ => ?_, fun C i v s₆ hv hpv k₆ F₆ => ?_, fun D ys s₆ vs hD hl hn hvs hP x₆ => ?_⟩
  · obtain ⟨r, hr', hrow⟩ := Paired.get hp i v (by simpa using hv)
    obtain ⟨a, t', u', rfl, htup⟩ := (hrow.kp k₆).ex
    have hk := hr r (List.mem_of_getElem? hr')
    refine ct1 (wpAny_isTrue_Compare1 ?_ (by kernel_rfl!))
    refine Call_method0 (by kernel_rfl!) (by kernel_rfl!) ?_
    refine Subscript_ (eN F₆ lk_here (wpAny_Constant_int (item_tuple (j := 0) htup (by decide) (by decide) (by kernel_rfl!) rfl (SB.lower (by rw [lowLow _ hk]; rfl) ?_))))
    rw [lowLow _ hk]
    refine eN (F₆.keeps (s' := { s₆ with toks := s₆.toks + 1 }) (Ext.toks _ _)) (lk_next (by kernel_rfl!) lk_here) (eq_str (wpAny_truthy_bool ⟨?_, Ext.toks _ _⟩))
    rw [hrow.kind, beq1]
  · obtain ⟨r, hr', hrow⟩ := Paired.get hp i v (by simpa using hv)
    obtain ⟨a, t', u', rfl, htup⟩ := (hrow.kp k₆).ex
    refine Subscript_ (eN F₆ lk_here (wpAny_Constant_int (item_tuple (j := 1) htup (by decide) (by decide) (by kernel_rfl!) rfl ⟨fun r' hr' => ⟨u', ?_⟩, Ext.toks _ _⟩)))
    rw [hrow.uniq hr']
    rfl
  · have hvs' : vs = items.toList := list_of_places hn hvs
    subst hvs'
    refine h D ys s₆ (x₄.trans (x₅.trans x₆)) ?_ hl ?_
    · cases e : s.heap.get? D with
      | none => rfl
      | some o => rw [show s₄.heap.get? D = some o from x₄.keep _ _ e] at hD; cases hD
    · exact Paired.filt (fun v r k => by rw [k.kind]) (fun v r y k g => g r k) hp hP
end
end Mine
end
section
open PySem PySem.W PySem.Calls PyProof.Rows PySem.W.X PySem.W.XRun
set_option Elab.async false
set_option maxRecDepth 100000
set_option maxHeartbeats 0
set_option linter.unusedVariables false
namespace Mine
theorem Heap.push2 {s : Shared} {a b : Obj} : Ext s { s with heap := (s.heap.push a).push b } := ⟨fun _ _ e => Heap.get?_push_of_some _ (Heap.get?_push_of_some _ e), rfl, rfl, rfl⟩
theorem push2_at {h : Heap} {a b : Obj} (hb : b.isFreed = false) : ((h.push a).push b).get? (h.objs.size + 1) = some b := by
  have := Heap.get?_push_size (h.push a) hb
  rwa [Heap.size_push] at this
theorem subA {w : World} {A : Around} {s : Shared} {env : Env} {value slice : Expr} {pos : Pos} {Q : Value → Shared → Prop}
    (h : WP w A (eval value env) (fun o s₁ => WP w A (eval slice env) (fun i s₂ => ∃ T id, s₂.TypeIs o T ∧ typeLookup (.type T) "__getitem__" = pure (some (.builtin id)) ∧ WP w A (getItem o i) Q s₂) s₁) s)
    (hs : ∀ o i, ∃ k, subscripted slice false o i = operate k (getItem o i) := by intro o i; exact ⟨_, rfl⟩) :
    WP w A (eval (.Subscript value slice pos) env) Q s := by
  refine Subscript_ (wpAny_mono h (fun o s₁ h₁ => wpAny_mono h₁ (fun i s₂ h₂ => ?_) fun _ _ e => e) fun _ _ e => e)
  obtain ⟨T, id, hT, hl, hg⟩ := h₂
  unfold subscriptTail
  refine wpAny_bind ?_
  rw [getitemInPython_of_ne hT.not_modules]
  refine wpAny_bind (wpAny_specialOf hT hl ?_)
  have fin : wpAny (model pw w) A (subscripted slice false o i) (fun r s₃ => wpAny (model pw w) A (letTemporaryGo value o r >>= fun _ => pure r) Q NoE s₃) NoE s₂ := by
    obtain ⟨k, hk⟩ := hs o i
    rw [hk]
    exact wpAny_operating (wpAny_mono hg (fun r s₃ h₃ => wpAny_bind (wpAny_letTemporaryGo (wpAny_pure h₃))) fun _ _ x => x)
  first
    | exact wpAny_pure (wpAny_bind fin)
    | exact wpAny_bind (wpAny_pure (wpAny_bind fin))
    | exact wpAny_bind fin
theorem subLS {w : World} {A : Around} {s : Shared} {env : Env} {value : Expr} {lower upper : Option Expr} {p pos : Pos} {Q : Value → Shared → Prop}
    (h : WP w A (eval value env) (fun o s₁ => WP w A (evalPart lower env) (fun vl s₂ => WP w A (evalPart upper env) (fun vu s₃ =>
      ∃ l items lo hi, o = .ref l ∧ s₃.heap.IsList l items ∧ items.size ≤ sizeLine ∧ IsPart vl lo ∧ IsPart vu hi ∧
        ∀ D s', Ext s₃ s' → s₃.heap.get? D = none → s'.heap.PlainList D (slicePick items lo hi none) → Q (.ref D) s') s₂) s₁) s) :
    WP w A (eval (.Subscript value (.Slice lower upper none p) pos) env) Q s := by
  refine subA (wpAny_mono h (fun o s₁ h₁ => wpAny_Slice (wpAny_mono h₁ (fun vl s₂ h₂ => wpAny_mono h₂ (fun vu s₃ h₃ => ?_) fun _ _ e => e) fun _ _ e => e)) fun _ _ e => e)
  obtain ⟨l, items, lo, hi, rfl, hl, hsz, pl, pu, hQ⟩ := h₃
  rw [evalPart_none]
  refine wpAny_pure ⟨"list", _, (hl.push _).typeIs, list_getitem_lookup, wpAny_getItem_list_slice (hl.push _) (Heap.IsSliceOf.new ..) pl pu .none (by simp) ?_ hsz⟩
  rw [Heap.size_push]
  exact hQ _ _ ⟨fun _ _ e => Heap.get?_push_of_some _ (Heap.get?_push_of_some _ e), rfl, rfl, rfl⟩ (Heap.get?_none_of_le (Nat.le_succ _)) ⟨_, push2_at rfl⟩
section
variable {w : World} {A : Around} {s : Shared} {Q : Value → Shared → Prop} {x l : Addr} {rows : List (Nat × Str)}
theorem itemsM (R : Room A 5) (T : YP w s.heap) (I : HInst s.heap x l) (H : RowsAt s.heap l rows) (hsz : rows.length ≤ 100)
    (h : ∀ D s', Ext s s' → s.heap.get? D = none → RowsAt s'.heap D rows → Q (.ref D) s') :
    WP w A (call (.ref 224) [.ref x]) Q s := by
  refine callC (fd := fd224) (body := fnB (meth 11)) (n := 4) [("self", .ref x)] R T (T _ _ (fo224 w)) rfl rfl (fc224 T) (by kernel_rfl!) (fun L => by kernel_rfl!) fun L s₁ x₁ f F T₁ R₁ => ?_
  conv in (fnB (meth 11)) => whnf
  have H₁ := H.kp x₁.keep
  obtain ⟨items, hi, hp⟩ := H₁.ex
  have hz : items.size = rows.length := by rw [← Paired.length hp]; simp
  refine wpAny_execs_cons (wpAny_Return_some (subLS ?_))
  refine Attribute_Name_ (eN F.rd lk_here (gaI T₁ (I.keeps x₁) ?_))
  refine wpAny_evalPart_none (wpAny_evalPart_none ⟨l, items, none, none, rfl, hi.isList, by rw [hz]; exact Nat.le_trans hsz (by decide +kernel), .none, .none, fun D s₂ x₂ hD hl => ?_⟩)
  rw [slicePick_all] at hl
  have x₃ : Ext s₁ s₂ := (Ext.toks _ _).trans x₂
  refine h _ _ (x₁.trans x₃) ?_ ⟨items, hl, Paired.imp (fun _ _ y => y.kp x₃.keep) hp⟩
  cases e : s.heap.get? D with
  | none => rfl
  | some o => rw [show s₁.heap.get? D = some o from x₁.keep _ _ e] at hD; cases hD
end
end Mine
end
section
open PySem PySem.W PySem.Calls PyProof.Rows PySem.W.X PySem.W.XRun
set_option Elab.async false
set_option maxRecDepth 100000
set_option maxHeartbeats 0
set_option linter.unusedVariables false
namespace Mine
theorem IsTup.tuple {h : Heap} {a : Addr} {i : Array Value} (x : IsTup h a i) : h.IsTuple a i := let ⟨o, e, c, n, d⟩ := x; ⟨o, e, c, n, d⟩
section
variable {w : World} {A : Around} {s : Shared} {Q : Value → Shared → Prop} {l : Addr} {rows : List (Nat × Str)} {env : Env}
theorem lC2 {iter : Expr} {a b : Str} {pa pb pe tp : Pos} {kk : Nat} {scope : Scope} {pos : Pos} (hh : A.handled = none) (hr : rows.length ≤ 100)
    (h : WP w A (eval iter env) (fun xv s₁ => Ext s s₁ ∧ ∃ l, xv = .ref l ∧ RowsAt s₁.heap l rows ∧
      ∀ D ys s', s₁.heap.get? D = none → s'.heap.PlainList D ys → Paired (fun (r : Nat × Str) v => ∃ t, v = .str r.2 t) rows ys.toList → Ext s₁ s' → Q (.ref D) s') s)
    (hfree : (scope.names.all fun y => !(y.2 == .free) || (env.cells.lookup y.1).isSome) = true := by kernel_rfl!)
    (hcell : (scope.names.all fun y => !(y.2 == .cell)) = true := by kernel_rfl!) (hkind : scope.kind = .function := by kernel_rfl!)
    (hnames : (scope.names.all fun y => !(y.2 == .local) || (scope.names.lookup y.1 == some .local)) = true := by kernel_rfl!)
    (ha : scope.names.lookup a = some .local := by kernel_rfl!) (hb : scope.names.lookup b = some .local := by kernel_rfl!) (hd : (b == ("__debug__" : Str)) = false := by kernel_rfl!)
    (hs : ∀ x, foldedSetIterable iter env x = pure x := by intro _; rfl) :
    WP w A (eval (.ListComp (.Name b pe) [⟨.Tuple [.Name a pa, .Name b pb] kk tp, iter, [], 0⟩] scope pos) env) Q s := by
  have hc : ∀ y ∈ scope.names, y.2 ≠ .cell := fun y hy e => by
    have := List.all_eq_true.mp hcell y hy
    rw [e] at this; cases this
  have hn : ∀ y ∈ scope.names, y.2 = .local → scope.names.lookup y.1 = some .local := fun y hy e => by
    have := List.all_eq_true.mp hnames y hy
    rw [e] at this
    exact eq_of_beq this
  unfold WP
  rw [eval_ListComp]
  refine wpAny_comprehension_free (use := none) rfl hs (clo_for hfree) hkind hn (wpAny_mono h (fun xv s₁ h₁ => ?_) fun _ _ e => e)
  obtain ⟨x₁, l, rfl, H, hQ⟩ := h₁
  obtain ⟨items, hi₀, hp⟩ := H.ex
  have hi := hi₀.isList
  have hz : items.size = rows.length := by rw [← Paired.length hp]; simp
  refine wpAny_pyIter_list hi ?_
  generalize hs₂ : ({ s₁ with heap := s₁.heap.push { cls := .type "list_iterator", data := .fields #[.ref l, .int 0 0] } } : Shared) = s₂
  have x₂ : Ext s₁ s₂ := by subst hs₂; exact ⟨fun _ _ e => Heap.get?_push_of_some _ e, rfl, rfl, rfl⟩
  have hit : s₂.heap.IsListIter s₁.heap.objs.size l 0 := by subst hs₂; exact ⟨_, Heap.get?_push_size _ rfl, rfl, rfl⟩
  have hIl : l ≠ s₁.heap.objs.size := by obtain ⟨o, e, _⟩ := hi; exact Nat.ne_of_lt (Heap.lt_size e)
  have fI := fresh_at s₁
  have hI : s₁.heap.objs.size < s₂.heap.objs.size := by obtain ⟨o, e, _⟩ := hit; exact Heap.lt_size e
  generalize s₁.heap.objs.size = I at hit hIl fI hI ⊢
  clear hs₂
  refine wpAny_newObj_type (wpAny_newFunctionEnv hc (by intro y hy; simp at hy) (fun h₁ hns₁ hsb₁ => ?_) hkind)
  dsimp only at hns₁ hsb₁ ⊢
  generalize hH2 : s₂.heap.push { cls := .type "list", dict := none, data := .seq ([] : List Value).toArray } = H2 at hns₁ hsb₁ ⊢
  have hC : H2.objs.size = s₂.heap.objs.size + 1 := by rw [← hH2, Heap.size_push]
  have below : ∀ b, b < s₂.heap.objs.size → b ≠ H2.objs.size ∧ b ≠ s₂.heap.objs.size := fun b hb => ⟨by rw [hC]; exact Nat.ne_of_lt (Nat.lt_succ_of_lt hb), Nat.ne_of_lt hb⟩
  have hDC : s₂.heap.objs.size ≠ H2.objs.size := by rw [hC]; exact Nat.ne_of_lt (Nat.lt_succ_self _)
  have old : ∀ b o, s₂.heap.get? b = some o → h₁.get? b = some o := fun b o e => hsb₁.extBut b o (below b (Heap.lt_size e)).1 (Heap.get?_push_of_some _ (hH2 ▸ Heap.get?_push_of_some _ e))
  have hacc : h₁.PlainList s₂.heap.objs.size #[] := ⟨_, hsb₁.extBut _ _ hDC (Heap.get?_push_of_some _ (hH2 ▸ Heap.get?_push_size _ rfl))⟩
  have fD : s₂.heap.get? s₂.heap.objs.size = none := fresh_at s₂
  have fC : s₂.heap.get? H2.objs.size = none := Heap.get?_none_of_le (by rw [hC]; exact Nat.le_succ _)
  have loop : ∀ s₃ : Shared, s₃ = { s₂ with heap := h₁, toks := s₂.toks + ([] : List (Str × Value)).length } →
      codeAny (model pw w) A (.compLoop (.ListComp (.Name b pe) [⟨.Tuple [.Name a pa, .Name b pb] kk tp, iter, [], 0⟩] scope pos) 0 (.ref I) (.ref s₂.heap.objs.size) (kE scope H2.objs.size env))
        (compPost (model pw w) A NoE none Q (.ref s₂.heap.objs.size) H2.objs.size) s₃ := by
    rintro s₃ rfl
    have fD₁ : s₁.heap.get? s₂.heap.objs.size = none := by
      cases e : s₁.heap.get? s₂.heap.objs.size with
      | none => rfl
      | some o => rw [x₂.keep _ _ e] at fD; cases fD
    have fC₁ : s₁.heap.get? H2.objs.size = none := by
      cases e : s₁.heap.get? H2.objs.size with
      | none => rfl
      | some o => rw [x₂.keep _ _ e] at fC; cases fC
    have hID := (below I hI).2
    have hIC := (below I hI).1
    refine kcp_loop (fun n s' => ∃ i ys m', i ≤ rows.length ∧ n = rows.length + 1 - i ∧ s'.heap.IsListIter I l i ∧ s'.heap.PlainList s₂.heap.objs.size ys ∧
      Paired (fun (r : Nat × Str) v => ∃ t, v = .str r.2 t) (rows.take i) ys.toList ∧ s'.heap.Ns H2.objs.size m' ∧ Ext s₁ s') ?_ (rows.length + 1)
      ⟨0, #[], _, Nat.zero_le _, rfl, hit.at fun o e => old _ _ e, hacc, by rw [List.take_zero]; exact .nil, hns₁, ⟨fun b o e => old b o (x₂.keep b o e), x₂.gens, x₂.drawn, x₂.os⟩⟩
    rintro n s' ⟨i, ys, m', hir, rfl, hI', hD', hP', hN', x'⟩
    have hl' := hi.at fun o e => x'.keep _ _ e
    by_cases hlt : i < rows.length
    · obtain ⟨r, hr'⟩ : ∃ r, rows[i]? = some r := ⟨_, List.getElem?_eq_getElem hlt⟩
      obtain ⟨v, hv⟩ : ∃ v, items[i]? = some v := ⟨items[i]'(by omega), by simp [hz, hlt]⟩
      obtain ⟨r', hr'', hrow⟩ := Paired.get hp i v (by simpa using hv)
      rw [hr'] at hr''; cases hr''
      refine wpAny_pyNext_list_item hI' hl' hv fun h₂ hI₂ hs₂ => ?_
      have k₂ : Kp s₁.heap h₂ := fun b o e => hs₂.extBut b o (fun z => by subst z; rw [fI] at e; cases e) (x'.keep b o e)
      obtain ⟨T, t1, t2, rfl, htup⟩ := (hrow.kp k₂).ex
      refine wpAny_letOwnedTupleGo_listiter hI₂ ?_
      refine kcp_assign hh (IsTup.tuple htup) (lookup_relabel_local ha) (lookup_relabel_local hb) (by simp [compEnvC, relabel, hkind]) (hN'.at' fun o e => hs₂.extBut _ o (Ne.symm hIC) e) fun h₃ tk hN₃ hk₃ => ?_
      refine wpAny_Name (wpAny_loadName_local (by simp [compEnvC, relabel, hkind]) (lookup_relabel_local hb) hN₃ (v := .str r.2 t2) (by simp) ?_) hd
      have hD₃ : h₃.PlainList s₂.heap.objs.size ys := hD'.at fun o e => hk₃ _ o hDC (hs₂.extBut _ o (Ne.symm hID) e)
      have hys : ys.size ≤ sizeLine := by
        have e1 := Paired.length hP'
        rw [List.length_take] at e1
        have e4 : ys.toList.length = ys.size := by simp
        have : 100 ≤ sizeLine := by decide +kernel
        omega
      refine wpAny_list_append_plain (hsz := hys) hD₃ fun h₄ hl₄ hs₄ => ?_
      refine ⟨rows.length + 1 - (i + 1), by omega, i + 1, ys.push (.str r.2 t2), _, hlt, rfl, ?_, hl₄, ?_, hN₃.sameBut hs₄ (Ne.symm hDC), ?_⟩
      · exact hI₂.at fun o e => hs₄.extBut _ o hID (hk₃ _ o hIC e)
      · rw [List.take_add_one, hr', Array.toList_push]
        exact Paired.snoc hP' ⟨_, rfl⟩
      · exact ⟨fun b o e => hs₄.extBut b o (fun z => by subst z; rw [fD₁] at e; cases e) (hk₃ b o (fun z => by have z : b = H2.objs.size := z; subst z; rw [fC₁] at e; cases e) (k₂ b o e)), x'.gens, x'.drawn, x'.os⟩
    · have hin : i = rows.length := by omega
      subst hin
      refine wpAny_pyNext_list_end hh hI' hl' (by rw [← hz]; simp) fun h₂ he₂ => ?_
      refine ⟨m', hN'.at' fun o e => he₂ _ o (Ne.symm hIC) e, fun h₃ hs₃ => ?_⟩
      refine hQ _ ys _ fD₁ ((hD'.at fun o e => he₂ _ o (Ne.symm hID) e).at fun o e => hs₃.extBut _ o hDC e) (by rw [List.take_length] at hP'; exact hP') ⟨fun b o e => hs₃.extBut b o (fun z => by subst z; rw [fC₁] at e; cases e) (he₂ b o (fun z => by subst z; rw [fI] at e; cases e) (x'.keep b o e)), x'.gens, x'.drawn, x'.os⟩
  exact codeAny_compStart_list (loop _ rfl) (wpAny_pyIter_listiter (hit.at fun o e => old _ _ e) (loop _ rfl))
theorem valuesM {x : Addr} (R : Room A 5) (T : YP w s.heap) (I : HInst s.heap x l) (H : RowsAt s.heap l rows) (hsz : rows.length ≤ 100)
    (h : ∀ D ys s', Ext s s' → s.heap.get? D = none → s'.heap.PlainList D ys → Paired (fun (r : Nat × Str) v => ∃ t, v = .str r.2 t) rows ys.toList → Q (.ref D) s') :
    WP w A (call (.ref 217) [.ref x]) Q s := by
  refine callC (fd := fd217) (body := fnB (meth 10)) (n := 4) [("self", .ref x)] R T (T _ _ (fo217 w)) rfl rfl (fc217 T) (by kernel_rfl!) (fun L => by kernel_rfl!) fun L s₁ x₁ f F T₁ R₁ => ?_
  conv in (fnB (meth 10)) => whnf
  refine wpAny_execs_cons (wpAny_Return_some (lC2 R₁.hd hsz ?_))
  refine Attribute_Name_ (eN F.rd lk_here (gaI T₁ (I.keeps x₁) ?_))
  refine ⟨Ext.toks _ _, l, rfl, H.kp x₁.keep, fun D ys s₂ hD hl hP x₂ => ?_⟩
  refine h D ys s₂ (x₁.trans ((Ext.toks _ _).trans x₂)) ?_ hl hP
  cases e : s.heap.get? D with
  | none => rfl
  | some o => rw [show s₁.heap.get? D = some o from x₁.keep _ _ e] at hD; cases hD
end
end Mine
end
section
open PySem PySem.W PySem.Calls PyProof.Rows PySem.W.X PySem.W.XRun
set_option Elab.async false
set_option maxRecDepth 100000
set_option maxHeartbeats 0
set_option linter.unusedVariables false
namespace Mine
structure Mv (W : Addr → Prop) (s s' : Shared) : Prop where
  keep : ∀ b o, ¬ W b → s.heap.get? b = some o → s'.heap.get? b = some o
  gens : s'.gens = s.gens
  drawn : s'.drawn = s.drawn
  os : s'.os = s.os
theorem Mv.refl {W : Addr → Prop} (s : Shared) : Mv W s s := ⟨fun _ _ _ e => e, rfl, rfl, rfl⟩
theorem Mv.trans {W : Addr → Prop} {a b c : Shared} (x : Mv W a b) (y : Mv W b c) : Mv W a c :=
  ⟨fun p o n e => y.keep p o n (x.keep p o n e), y.gens.trans x.gens, y.drawn.trans x.drawn, y.os.trans x.os⟩
theorem Ext.mv {W : Addr → Prop} {s s' : Shared} (x : Ext s s') : Mv W s s' := ⟨fun b o _ e => x.keep b o e, x.gens, x.drawn, x.os⟩
theorem But.mv {W : Addr → Prop} {a : Addr} {s s' : Shared} (x : But a s s') (h : W a) : Mv W s s' := ⟨fun b o n e => x.keep b o (fun z => n (z ▸ h)) e, x.gens, x.drawn, x.os⟩
theorem Step.mv {W : Addr → Prop} {env : Env} {s s' : Shared} (x : Step env s s') (h : ∀ a, Own env a → W a) : Mv W s s' := ⟨fun b o n e => x.keep b o (fun z => n (h b z)) e, x.gens, x.drawn, x.os⟩
theorem Mv.mono {W W' : Addr → Prop} {s s' : Shared} (x : Mv W s s') (h : ∀ a, W a → W' a) : Mv W' s s' := ⟨fun b o n e => x.keep b o (fun z => n (h b z)) e, x.gens, x.drawn, x.os⟩
theorem Ext.then {W : Addr → Prop} {b s s' : Shared} (x : Ext b s) (y : Mv W s s') (f : ∀ a, W a → b.heap.get? a = none) : Ext b s' :=
  ⟨fun p o e => y.keep p o (fun z => by rw [f p z] at e; cases e) (x.keep p o e), y.gens.trans x.gens, y.drawn.trans x.drawn, y.os.trans x.os⟩
theorem none_back {s s' : Shared} {a : Addr} (x : Ext s s') (h : s'.heap.get? a = none) : s.heap.get? a = none := by
  cases e : s.heap.get? a with
  | none => rfl
  | some o => rw [x.keep _ _ e] at h; cases h
theorem none_backM {W : Addr → Prop} {s s' : Shared} {a : Addr} (x : Mv W s s') (n : ¬ W a) (h : s'.heap.get? a = none) : s.heap.get? a = none := by
  cases e : s.heap.get? a with
  | none => rfl
  | some o => rw [x.keep _ _ n e] at h; cases h
theorem Fm.mv {W : Addr → Prop} {env : Env} {l : List (Str × Value)} {s s' : Shared} (F : Fm env l s) (x : Mv W s s') (n : ∀ a, Own env a → ¬ W a) : Fm env l s' := by
  have k : ∀ b o, Own env b → s.heap.get? b = some o → s'.heap.get? b = some o := fun b o hb e => x.keep b o (n b hb) e
  refine ⟨⟨?_, ?_⟩, fun p c h => ?_, F.apart, F.above⟩
  · obtain ⟨m, ⟨o, es, ep, e, r⟩, b⟩ := F.rd.ns
    exact ⟨m, ⟨o, es, ep, k _ o (.inl rfl) e, r⟩, b⟩
  · intro y v c h1 h2 h3
    obtain ⟨o, e, d⟩ := F.rd.cell y v c h1 h2 h3
    exact ⟨o, k _ o (.inr ⟨y, h3⟩) e, d⟩
  · obtain ⟨u, o, e, d⟩ := F.has p c h
    exact ⟨u, o, k _ o (.inr ⟨p, h⟩) e, d⟩
noncomputable def Sub (l' l : List (Str × Value)) : Prop := ∀ y u, l'.lookup y = some u → l.lookup y = some u
theorem sub_nil {l : List (Str × Value)} : Sub [] l := fun y u e => by cases e
theorem sub_cons {l l' : List (Str × Value)} {a : Str} {v : Value} (h : l.lookup a = some v) (k : Sub l' l) : Sub ((a, v) :: l') l := fun y u e => by
  by_cases hy : y = a
  · subst hy
    rw [lk_here] at e
    rw [h]; exact e
  · exact k y u (lk_other hy e)
theorem Rd.sub {env : Env} {l l' : List (Str × Value)} {h : Heap} (F : Rd env l h) (k : Sub l' l) : Rd env l' h :=
  ⟨let ⟨m, a, b⟩ := F.ns; ⟨m, a, fun x v e kk => b x v (k x v e) kk⟩, fun n v c h1 h2 h3 => F.cell n v c (k n v h1) h2 h3⟩
theorem Fm.sub {env : Env} {l l' : List (Str × Value)} {s : Shared} (F : Fm env l s) (k : Sub l' l) : Fm env l' s := ⟨F.rd.sub k, F.has, F.apart, F.above⟩
noncomputable def Strs (h : Heap) (a : Addr) (ss : List Str) : Prop := ∃ vs : List Value, h.PlainList a vs.toArray ∧ StrsAre vs ss
theorem Strs.kp {h h' : Heap} {a : Addr} {ss : List Str} (x : Strs h a ss) (k : ∀ o, h.get? a = some o → h'.get? a = some o) : Strs h' a ss := let ⟨vs, e, p⟩ := x; ⟨vs, e.at k, p⟩
theorem Strs.keeps {s s' : Shared} {a : Addr} {ss : List Str} (x : Strs s.heap a ss) (k : Ext s s') : Strs s'.heap a ss := x.kp fun o e => k.keep _ o e
theorem Strs.some {h : Heap} {a : Addr} {ss : List Str} (x : Strs h a ss) : ∃ o, h.get? a = .some o := let ⟨vs, ⟨n, e⟩, p⟩ := x; ⟨_, e⟩
theorem PlainList.some {h : Heap} {a : Addr} {i : Array Value} (x : h.PlainList a i) : ∃ o, h.get? a = .some o := let ⟨n, e⟩ := x; ⟨_, e⟩
theorem strs_paired {α : Type} {f : α → Str} : ∀ {rs : List α} {ys : List Value}, Paired (fun r v => ∃ t, v = Value.str (f r) t) rs ys → StrsAre ys (rs.map f)
  | _, _, .nil => .nil
  | _, _, .cons ⟨t, e⟩ r => by subst e; exact .cons _ _ (strs_paired r)
theorem callK {w : World} {A : Around} {s : Shared} {n : Nat} {a : Addr} {o : Obj} {fd : FuncData} {body : List Stmt} {pos : List Value} {kw : List (Str × Value)} {Q : Value → Shared → Prop}
    (binds : Addr → List (Str × Value)) (R : Room A (n + 1)) (T : YP w s.heap) (ho : s.heap.get? a = some o) (hd : o.data = .func fd) (hb : fd.body = .stmts body) (hcd : s.heap.CodeRec fd.code fd.qualname)
    (hbind : bindArgs fd ⟨pos, kw⟩ = (alloc { cls := .type "dict", data := .dict #[] } >>= fun d => pure (binds d)))
    (hkind : ∀ d L, ((binds d).all fun x => decide (fd.scope.names.lookup x.1 = some .local) || (decide (fd.scope.names.lookup x.1 = some .cell) && ((cellsFrom (L + 1) fd.scope.names []).lookup x.1).isSome)) = true)
    (h : ∀ d L s₁, Ext s s₁ → s.heap.get? d = none → s₁.heap.get? d = some { cls := .type "dict", data := .dict #[] } → ¬ Own (envC fd L a) d → Fresh (envC fd L a) s → Fm (envC fd L a) (binds d).reverse s₁ → YP w s₁.heap →
      Room (A.deeper (envC fd L a)) n → WP w (A.deeper (envC fd L a)) (execs body (envC fd L a)) (fun f s' => Q (match f with | .ret v => v | _ => .none) s') s₁)
    (hco : fd.scope.isCoroutine = false := by kernel_rfl!) (hgen : fd.scope.isGenerator = false := by kernel_rfl!) (hk : fd.scope.kind = .function := by kernel_rfl!)
    (hc : fd.closure = [] := by rfl) :
    WP w A (call (.ref a) pos kw) Q s := by
  refine wpAny_call (codeAny_call_function R.limit ho hd hco hgen hb hcd ?_)
  rw [hbind, hc]
  refine wpAny_bind (wpAny_alloc (wpAny_pure ?_))
  have fd0 := fresh_at s
  generalize hs0 : ({ s with heap := s.heap.push { cls := .type "dict", data := .dict #[] } } : Shared) = s0
  have x0 : Ext s s0 := by subst hs0; exact ⟨fun _ _ e => Heap.get?_push_of_some _ e, rfl, rfl, rfl⟩
  have d0 : s0.heap.get? s.heap.objs.size = some { cls := .type "dict", data := .dict #[] } := by subst hs0; exact Heap.get?_push_size _ rfl
  generalize s.heap.objs.size = d at fd0 d0 ⊢
  clear hs0
  refine wpAny_newFunctionEnv_cells hk (fun x hx => ?_) fun env he s' x => ?_
  · have := List.all_eq_true.mp (hkind d s0.heap.objs.size) x hx
    rw [Bool.or_eq_true, Bool.and_eq_true] at this
    rcases this with h1 | h1
    · exact .inl (of_decide_eq_true h1)
    · exact .inr ⟨of_decide_eq_true h1.1, h1.2⟩
  · subst he
    have e : Ext s0 s' := by
      obtain ⟨h', tk, rfl⟩ := x.toInCall.same
      exact ⟨x.toInCall.keep, rfl, rfl, rfl⟩
    have T' := T.keeps (x0.trans e)
    have fr0 : Fresh (envC fd s0.heap.objs.size a) s0 := by
      intro b hb
      rcases hb with hb | ⟨n, hb⟩
      · exact Heap.get?_none_of_le (Nat.le_of_eq hb.symm)
      · exact Heap.get?_none_of_le (Nat.le_of_lt (x.above n b (mem_of_lookup hb)))
    refine ⟨T'.lim, codeAny_func (wpAny_mono (h d s0.heap.objs.size s' (x0.trans e) fd0 (e.keep _ _ d0) (fr0.not_own d0) (fun b hb => none_back x0 (fr0 b hb)) ?_ T' (R.deeper _)) (fun f s' q => q) fun _ _ e => e.elim)⟩
    refine ⟨⟨⟨_, x.toInCall.ns, fun y v e k => ?_⟩, fun y v c e k hc => ?_⟩, fun n c hm => ?_, x.apart, x.above⟩
    · have k' := bindL_lk (x := y) k (binds d) fun _ => none
      rw [e] at k'
      exact k'
    · have := x.cell y c hc
      have k' := bindC_lk (x := y) k (binds d) fun _ => none
      rw [e] at k'
      have k' : bindC (envC fd s0.heap.objs.size a).kindOf (binds d) (fun _ => none) y = some v := k'
      rw [← k']
      exact this
    · exact ⟨_, x.cell n c hm⟩
end Mine
end
section
open PySem PySem.W PySem.Calls PyProof.Rows PySem.W.X PySem.W.XRun
set_option Elab.async false
set_option maxRecDepth 100000
set_option maxHeartbeats 0
set_option linter.unusedVariables false
namespace Mine
theorem Fm.nsKeep {env : Env} {l : List (Str × Value)} {s s' : Shared} {m : Str → Option Value} (F : Fm env l s) (hm : ∀ x v, l.lookup x = some v → env.kindOf x = some .local → m x = some v) (hn : s'.heap.Ns env.locals m)
    (k : ∀ b o, b ≠ env.locals → s.heap.get? b = some o → s'.heap.get? b = some o) : Fm env l s' := by
  refine ⟨⟨⟨m, hn, hm⟩, fun y v c h1 h2 h3 => ?_⟩, fun p c h => ?_, F.apart, F.above⟩
  · obtain ⟨o, e, d⟩ := F.rd.cell y v c h1 h2 h3
    exact ⟨o, k _ o (Nat.ne_of_gt (F.above y c (mem_of_lookup h3))) e, d⟩
  · obtain ⟨u, o, e, d⟩ := F.has p c h
    exact ⟨u, o, k _ o (Nat.ne_of_gt (F.above p c (mem_of_lookup h))) e, d⟩
theorem dict0 {w : World} {h : Heap} {d : Addr} (e : h.get? d = some { cls := .type "dict", data := .dict #[] }) : h.DictAt (strKind pw w) d [] 0 :=
  ⟨_, #[], e, ⟨rfl, rfl, rfl⟩, rfl, fun x hx => by simp at hx, .nil, .nil⟩
section
variable {w : World} {A : Around} {s : Shared} {env : Env} {x : Str} {p pos : Pos} {e e₁ e₂ : Expr} {Q : Value → Shared → Prop}
theorem lM {o : Expr} {name : Str} {apos : Pos} {id : String} (slot : Slot "list" name id) (hty : typeOf (.builtin id) = pure (.type "method_descriptor"))
    (h : WP w A (eval o env) (fun ov s₁ => ∃ a items, ov = .ref a ∧ s₁.heap.PlainList a items ∧ WP w A (eval e env) (fun v s₂ => WP w A (call (.builtin id) [.ref a, v]) Q s₂) s₁) s)
    (hbase : attributeBase o name env (eval o env) = eval o env := by kernel_rfl!) (hs : starEach [e] env = [(false, eval e env)] := by kernel_rfl!) (hline : (apos.endLine == pos.line) = true := by kernel_rfl!) :
    WP w A (eval (.Call (.Attribute o name apos) [e] [] pos) env) Q s :=
  m1b PySem.F.plainAttrs_list slot hty (wpAny_mono h (fun ov s₁ h₁ => by
    obtain ⟨a, items, rfl, hl, h₂⟩ := h₁
    exact ⟨hl.isList.typeIs, fun b eb => (by cases eb; obtain ⟨n, hn⟩ := hl; exact ⟨_, hn, rfl⟩), h₂⟩) fun _ _ e => e) hbase hs hline
theorem append_ {a : Addr} {items : Array Value} {v : Value} (hl : s.heap.PlainList a items) (hsz : items.size ≤ 1000) (h : ∀ s', But a s s' → s'.heap.PlainList a (items.push v) → Q .none s') :
    WP w A (call (.builtin "list.append") [.ref a, v]) Q s :=
  wpAny_list_append_plain hl (fun h' hl' hs => h _ ⟨fun b o ne e => (hs.2 b ne).trans e, rfl, rfl, rfl⟩ hl') (Nat.le_trans hsz (by decide +kernel))
end
section
variable {w : World} {A : Around} {s : Shared} {Q : Value → Shared → Prop} {x l : Addr} {c : Nat} {t u : Tok} {v : Str} {rows : List (Nat × Str)}
theorem addH (R : Room A 6) (T : YP w s.heap) (I : HInst s.heap x l) (H : RowsAt s.heap l rows) (hsz : rows.length ≤ 100) (hc : c ∈ [112, 113, 114, 115])
    (hv : ∀ i, i < v.cps.size → v.cps.getD i 0 = 46 ∨ 256 ≤ v.cps.getD i 0) (h1 : 1 ≤ v.cps.size) (h2 : v.cps.size ≤ 1000)
    (h : ∀ s', But l s s' → RowsAt s'.heap l (rows ++ [(c, v)]) → Q .none s') :
    WP w A (call (.ref 257) [.ref x, .str ⟨#[c]⟩ t, .str v u]) Q s := by
  refine callK (fd := fd257) (body := fnB (meth 16)) (n := 5) (fun d => [("self", .ref x), ("_name", .str ⟨#[c]⟩ t), ("_value", .str v u), ("_params", .ref d)]) R T (T _ _ (fo257 w)) rfl rfl (fc257 T) (by kernel_rfl!) (fun d L => by kernel_rfl!) fun d L s₁ x₁ fd hd nd f F T₁ R₁ => ?_
  conv in (fnB (meth 16)) => whnf
  refine wpAny_execs_cons (wpAny_Assign_Name (List_ (args_nil (wpAny_newList ?_))) (by kernel_rfl!))
  have fp := fresh_at s₁
  generalize hs2 : ({ s₁ with heap := s₁.heap.push { cls := .type "list", data := .seq ([] : List Value).toArray } } : Shared) = s₂
  have x₂ : Ext s₁ s₂ := by subst hs2; exact ⟨fun _ _ e => Heap.get?_push_of_some _ e, rfl, rfl, rfl⟩
  have p₂ : s₂.heap.PlainList s₁.heap.objs.size #[] := by subst hs2; exact ⟨_, Heap.get?_push_size _ rfl⟩
  generalize s₁.heap.objs.size = P at fp p₂ ⊢
  clear hs2
  have nP : ¬ Own (envC fd257 L 257) P := F.not_own fp
  have F₂ := F.keeps x₂
  refine sN F₂ fun s₃ x₃ F₃ => ?_
  have p₃ := p₂.at fun o e => x₃.keep _ _ nP e
  have e₃ : Ext s s₃ := (x₁.trans x₂).step x₃ f
  have d₃ := x₃.keep _ _ nd (x₂.keep _ _ hd)
  dsimp only
  refine wpAny_execs_cons (WIf (wpAny_isTrue_Compare1 ?_ (by kernel_rfl!)))
  refine eN F₃.rd (lk_next (by kernel_rfl!) (lk_next (by kernel_rfl!) lk_here)) (wpAny_Constant_none (isNot_none (wpAny_truthy_bool ⟨fun _ => ?_, fun e => (by cases e)⟩)))
  refine wpAny_execs_cons (wpAny_Assign_Name ?_ (by kernel_rfl!))
  refine mI (f := 161) (by decide +kernel) (fun w => by kernel_rfl!) (fun w => by kernel_rfl!) (eN F₃.rd (lk_next (by kernel_rfl!) (lk_next (by kernel_rfl!) (lk_next (by kernel_rfl!) (lk_next (by kernel_rfl!) lk_here)))) ⟨x, l, rfl, T.keeps e₃, I.keeps e₃, ?_⟩)
  refine cw11 (o := ⟨.type "function", none, .func fd161, ⟨[]⟩⟩) (fd := fd161) rfl ?_
  refine eN F₃.rd (lk_next (by kernel_rfl!) (lk_next (by kernel_rfl!) lk_here)) ?_
  refine wpAny_bind (wpAny_Constant_bool (wpAny_bind (wpAny_standAt (wpAny_pure ?_))))
  refine ⟨T.keeps e₃ _ _ (fo161 w), ?_⟩
  refine convV (R₁.le (by decide)) (T.keeps e₃) hv h1 h2 fun s₄ x₄ => ?_
  refine sN (F₃.keeps x₄) fun s₅ x₅ F₅ => ?_
  have p₅ := (p₃.at fun o e => x₄.keep _ _ e).at fun o e => x₅.keep _ _ nP e
  have e₅ : Ext s s₅ := (e₃.trans x₄).step x₅ f
  have d₅ := x₅.keep _ _ nd (x₄.keep _ _ d₃)
  dsimp only
  refine wpAny_execs_cons (wpAny_Expr ?_)
  refine lM PySem.F.slot_list_append PySem.F.type_list_append (eN F₅.rd (lk_next (by kernel_rfl!) lk_here) ⟨P, _, rfl, p₅, eN F₅.rd lk_here (append_ p₅ (by decide) fun s₆ x₆ p₆ => ?_)⟩)
  have F₆ := F₅.but x₆ nP
  have fpS : s.heap.get? P = none := none_back x₁ fp
  have e₆ : Ext s s₆ := e₅.but x₆ fpS
  have d₆ := x₆.keep _ _ (fun e => by subst e; rw [fp] at hd; cases hd) d₅
  dsimp only
  refine wpAny_execs_nil ?_
  dsimp only
  obtain ⟨m, hns, hmm⟩ := F₆.rd.ns
  have nd6 : d ≠ (envC fd257 L 257).locals := fun e => nd (.inl e)
  refine wpAny_execs_cons (wpAny_For_items_locals (knd := strKind pw w) (kvs := []) (d := d) (ep := 0) R₁.hd (by kernel_rfl!) (by kernel_rfl!) (by kernel_rfl!) nd6 ?_ (dict0 d₆) hns (by kernel_rfl!) (by kernel_rfl!)
    (fun Q' q => eN F₆.rd (lk_next (by kernel_rfl!) (lk_next (by kernel_rfl!) lk_here)) q) (fun i m' => m' = m) rfl (fun i k v key m₁ s₁ hk => by simp at hk) fun h₇ tk₇ m₇ hn₇ hm₇ hk₇ => ?_)
  · refine beq_eq_false_iff_ne.mpr fun e => ?_
    have sm : ((HL w.params).get? sysModules).isSome = true := by kernel_rfl
    obtain ⟨o, ho⟩ := Option.isSome_iff_exists.mp sm
    rw [e, T _ _ ho] at fd
    cases fd
  subst hm₇
  have F₇ := F₆.nsKeep (s' := { s₆ with heap := h₇, toks := tk₇ }) hmm hn₇ hk₇
  have x₇ : Step (envC fd257 L 257) s₆ { s₆ with heap := h₇, toks := tk₇ } := ⟨fun b o n e => hk₇ b o (fun z => n (.inl z)) e, rfl, rfl, rfl⟩
  generalize hs7 : ({ s₆ with heap := h₇, toks := tk₇ } : Shared) = s₇ at F₇ x₇ ⊢
  clear hs7 hn₇ hk₇ hns hmm
  have p₇ := p₆.at fun o e => x₇.keep _ _ nP e
  have e₇ : Ext s s₇ := e₆.step x₇ f
  dsimp only
  refine wpAny_execs_cons (wpAny_Expr ?_)
  refine lM PySem.F.slot_list_append PySem.F.type_list_append ?_
  refine Attribute_Name_ (eN F₇.rd (lk_next (by kernel_rfl!) (lk_next (by kernel_rfl!) (lk_next (by kernel_rfl!) (lk_next (by kernel_rfl!) (lk_next (by kernel_rfl!) lk_here))))) (gaI (T.keeps e₇) (I.keeps e₇) ?_))
  obtain ⟨items, hi, hp⟩ := (H.kp e₇.keep).ex
  have hz : items.size = rows.length := by rw [← Paired.length hp]; simp
  refine ⟨l, items, rfl, hi, ?_⟩
  have F₈ := F₇.keeps (s' := { s₇ with toks := s₇.toks + 1 }) (Ext.toks _ _)
  have e₈ : Ext s { s₇ with toks := s₇.toks + 1 } := e₇.trans (Ext.toks _ _)
  generalize hs8 : ({ s₇ with toks := s₇.toks + 1 } : Shared) = s₈ at F₈ e₈ ⊢
  have hh8 : s₈.heap = s₇.heap := by subst hs8; rfl
  rw [← hh8] at p₇ hi hp
  clear hs8 hh8
  refine Tuple_ (args_cons ?_ (by kernel_rfl!))
  refine mI (f := 161) (by decide +kernel) (fun w => by kernel_rfl!) (fun w => by kernel_rfl!) (eN F₈.rd (lk_next (by kernel_rfl!) (lk_next (by kernel_rfl!) (lk_next (by kernel_rfl!) (lk_next (by kernel_rfl!) (lk_next (by kernel_rfl!) lk_here))))) ⟨x, l, rfl, T.keeps e₈, I.keeps e₈, ?_⟩)
  refine cw11 (o := ⟨.type "function", none, .func fd161, ⟨[]⟩⟩) (fd := fd161) rfl ?_
  refine eN F₈.rd (lk_next (by kernel_rfl!) (lk_next (by kernel_rfl!) (lk_next (by kernel_rfl!) (lk_next (by kernel_rfl!) lk_here)))) ?_
  refine wpAny_bind (wpAny_Constant_bool (wpAny_bind (wpAny_standAt (wpAny_pure ?_))))
  refine ⟨T.keeps e₈ _ _ (fo161 w), ?_⟩
  refine convN (R₁.le (by decide)) (T.keeps e₈) (fun i hi => ?_) (by show 1 ≤ 1; decide) (by show 1 ≤ 1000; decide) fun s₉ x₉ => ?_
  · have : i = 0 := by have : i < 1 := hi; omega
    subst this
    show 32 ≤ c ∧ c ≠ 127
    simp at hc
    omega
  have p₉ := p₇.at fun o e => x₉.keep _ _ e
  refine args_cons ?_ (by kernel_rfl!)
  refine Call_method1 (by kernel_rfl!) (by kernel_rfl!) (by kernel_rfl!) (wpAny_Constant_str ?_)
  refine SB.join (eN ((F₈.keeps x₉).keeps (Ext.toks _ _)).rd (lk_next (by kernel_rfl!) lk_here) ⟨P, [(v, u)], rfl, p₉.isList, [v], rfl, ?_, fun t' k => args_nil (wpAny_newTuple ?_)⟩)
  · exact joinOk_of_weight (by show (([v].map fun x => x.length).sum) + 1 ≤ 1048576; simp; exact Nat.le_trans (show v.cps.size ≤ 1000 from h2) (by decide)) (by decide +kernel)
  have ej : Txt.join (Str.ofString "; ") [v] = v := rfl
  rw [ej]
  generalize hs10 : ({ heap := s₉.heap.push { cls := .type "tuple", data := .seq ([.str ⟨#[c]⟩ t, .str v t'] : List Value).toArray }, gens := s₉.gens, drawn := s₉.drawn, toks := k, os := s₉.os } : Shared) = s₁₀
  have fU := fresh_at s₉
  have x₁₀ : Ext s₉ s₁₀ := by subst hs10; exact ⟨fun b o e => Heap.get?_push_of_some _ e, rfl, rfl, rfl⟩
  have u₁₀ : IsTup s₁₀.heap s₉.heap.objs.size #[.str ⟨#[c]⟩ t, .str v t'] := by subst hs10; exact ⟨_, Heap.get?_push_size _ rfl, rfl, _, rfl⟩
  generalize s₉.heap.objs.size = U at fU u₁₀ ⊢
  clear hs10
  have e₁₀ : Ext s s₁₀ := (e₈.trans x₉).trans x₁₀
  have k₁₀ : Ext s₈ s₁₀ := x₉.trans x₁₀
  refine append_ (hi.at fun o e => k₁₀.keep _ _ e) (by rw [hz]; omega) fun s₁₁ x₁₁ l₁₁ => ?_
  dsimp only
  refine wpAny_execs_nil ?_
  dsimp only
  have lU : U ≠ l := fun z => by
    subst z
    obtain ⟨n, hn⟩ := hi
    rw [x₉.keep _ _ hn] at fU; cases fU
  refine h s₁₁ ⟨fun b o ne e => x₁₁.keep b o ne (e₁₀.keep b o e), x₁₁.gens.trans e₁₀.gens, x₁₁.drawn.trans e₁₀.drawn, x₁₁.os.trans e₁₀.os⟩ ⟨_, l₁₁, ?_⟩
  have kl : ∀ v r, RowAt s₈.heap v r → RowAt s₁₁.heap v r := fun v r hr => by
    obtain ⟨a, t, u, ev, o, e, hc', hd'⟩ := hr.ex
    have ne : a ≠ l := fun z => by
      subst z
      obtain ⟨n, hn⟩ := hi
      rw [e] at hn; cases hn; simp at hc'
    exact ⟨a, t, u, ev, o, x₁₁.keep _ _ ne (k₁₀.keep _ _ e), hc', hd'⟩
  rw [Array.toList_push]
  refine Paired.snoc (Paired.imp kl hp) ⟨U, t, t', rfl, ?_⟩
  obtain ⟨o, e, r⟩ := u₁₀
  exact ⟨o, x₁₁.keep _ _ lU e, r⟩
end
end Mine
end
section
open PySem PySem.W PySem.Calls PyProof.Rows PySem.W.X PySem.W.XRun
set_option Elab.async false
set_option maxRecDepth 100000
set_option maxHeartbeats 0
set_option linter.unusedVariables false
namespace Mine
noncomputable def isF (o : Obj) : Bool := match o.cls, o.data with
  | .type t, .fields _ => ["list_iterator", "tuple_iterator", "range_iterator", "str_ascii_iterator", "enumerate"].contains t
  | _, _ => false
structure Kt (s s' : Shared) : Prop where
  keep : ∀ b o, s.heap.get? b = some o → isF o = false → s'.heap.get? b = some o
  gens : s'.gens = s.gens
  drawn : s'.drawn = s.drawn
  os : s'.os = s.os
theorem Ext.kt {s s' : Shared} (x : Ext s s') : Kt s s' := ⟨fun b o e _ => x.keep b o e, x.gens, x.drawn, x.os⟩
theorem isF_seq {o : Obj} {its : Array Value} {n : Nat} (h : o.data = .seq its n) : isF o = false := by unfold isF; rw [h]; cases o.cls <;> rfl
theorem isF_dict {o : Obj} {es : Array DictEntry} {n : Nat} (h : o.data = .dict es n) : isF o = false := by unfold isF; rw [h]; cases o.cls <;> rfl
theorem isF_cell {o : Obj} {v : Option Value} (h : o.data = .cell v) : isF o = false := by unfold isF; rw [h]; cases o.cls <;> rfl
theorem isF_ref {o : Obj} {a : Addr} (h : o.cls = .ref a) : isF o = false := by unfold isF; rw [h]
theorem isF_dictc {o : Obj} (h : o.cls = .type "dict") : isF o = false := by unfold isF; rw [h]; cases o.data <;> rfl
theorem plain_kt {s s' : Shared} {a : Addr} {i : Array Value} (x : s.heap.PlainList a i) (k : Kt s s') : s'.heap.PlainList a i := let ⟨n, e⟩ := x; ⟨n, k.keep _ _ e (isF_seq (n := n) rfl)⟩
theorem Strs.kt {s s' : Shared} {a : Addr} {ss : List Str} (x : Strs s.heap a ss) (k : Kt s s') : Strs s'.heap a ss := let ⟨vs, e, p⟩ := x; ⟨vs, plain_kt e k, p⟩
theorem IsTup.kt {s s' : Shared} {a : Addr} {i : Array Value} (x : IsTup s.heap a i) (k : Kt s s') : IsTup s'.heap a i := let ⟨o, e, c, n, d⟩ := x; ⟨o, k.keep _ _ e (isF_seq d), c, n, d⟩
theorem RowAt.kt {s s' : Shared} {v : Value} {r : Nat × Str} (x : RowAt s.heap v r) (k : Kt s s') : RowAt s'.heap v r := let ⟨a, t, u, e, y⟩ := x.ex; ⟨a, t, u, e, IsTup.kt y k⟩
theorem RowsAt.kt {s s' : Shared} {l : Addr} {rows : List (Nat × Str)} (x : RowsAt s.heap l rows) (k : Kt s s') : RowsAt s'.heap l rows :=
  let ⟨i, e, p⟩ := x.ex; ⟨i, plain_kt e k, Paired.imp (fun _ _ y => y.kt k) p⟩
theorem HInst.kt {s s' : Shared} {x l : Addr} (I : HInst s.heap x l) (k : Kt s s') : HInst s'.heap x l :=
  let ⟨ox, dx, od, h1, h2, h3, h4, h5, h6, h7⟩ := I.ex
  ⟨⟨ox, dx, od, k.keep _ _ h1 (isF_ref h2), h2, h3, h4, k.keep _ _ h5 (isF_dictc h6), h6, h7⟩⟩
theorem Fm.kt {env : Env} {l : List (Str × Value)} {s s' : Shared} (F : Fm env l s) (k : Kt s s') : Fm env l s' := by
  refine ⟨⟨?_, ?_⟩, fun p c h => ?_, F.apart, F.above⟩
  · obtain ⟨m, ⟨o, es, ep, e, d, r⟩, b⟩ := F.rd.ns
    exact ⟨m, ⟨o, es, ep, k.keep _ _ e (isF_dict d), d, r⟩, b⟩
  · intro y v c h1 h2 h3
    obtain ⟨o, e, d⟩ := F.rd.cell y v c h1 h2 h3
    exact ⟨o, k.keep _ _ e (isF_cell d), d⟩
  · obtain ⟨u, o, e, d⟩ := F.has p c h
    exact ⟨u, o, k.keep _ _ e (isF_cell d), d⟩
noncomputable def Wk2 (w : World) (A : Around) (xv : Value) (n : Nat) (P : Nat → Value → Prop) (src : List Addr) (s : Shared) : Prop :=
  WP w A (pyIter xv) (fun it s₂ => ∃ I fp wr St, it = .ref I ∧ Walks pw w A I fp wr n P St ∧ St 0 s₂.heap ∧ (∀ b ∈ fp, b < s₂.heap.objs.size) ∧ (∀ b ∈ wr, s.heap.get? b = none) ∧
    (∀ b ∈ fp, b ∈ src ∨ s.heap.get? b = none) ∧ (∀ i h, St i h → ∀ b ∈ wr, ∃ o, h.get? b = some o ∧ isF o = true) ∧ Ext s s₂) s
theorem Wk2.wk {w : World} {A : Around} {xv : Value} {n : Nat} {P : Nat → Value → Prop} {src : List Addr} {s : Shared} (h : Wk2 w A xv n P src s) : Wk w A xv n P s :=
  wpAny_mono h (fun it s₂ ⟨I, fp, wr, St_, h1, h2, h3, h4, h5, h6, h7, h8⟩ => ⟨I, fp, wr, St_, h1, h2, h3, h4, h5, h8⟩) fun _ _ e => e
theorem wk2_list {w : World} {A : Around} {s : Shared} {a : Addr} {items : Array Value} (hh : A.handled = none) (hl : s.heap.IsList a items) : Wk2 w A (.ref a) items.size (fun i v => items[i]? = some v) [a] s := by
  refine wpAny_pyIter_list hl ⟨s.heap.objs.size, [s.heap.objs.size, a], [s.heap.objs.size], _, rfl, Walks.list hh _ a ?_ items, ?_, ?_, ?_, ?_, ?_, ?_⟩
  · obtain ⟨o, e, _⟩ := hl
    exact Nat.ne_of_lt (Heap.lt_size e)
  · exact ⟨⟨_, Heap.get?_push_size _ rfl, rfl, rfl⟩, hl.at fun o e => Heap.get?_push_of_some _ e⟩
  · intro b hb
    show b < (s.heap.push _).objs.size
    rw [Heap.size_push]
    obtain ⟨o, e, _⟩ := hl
    have := Heap.lt_size e
    simp at hb
    rcases hb with rfl | rfl
    · exact Nat.lt_succ_self _
    · exact Nat.lt_succ_of_lt this
  · intro b hb
    simp at hb
    subst hb
    exact fresh_at s
  · intro b hb
    simp at hb
    rcases hb with rfl | rfl
    · exact .inr (fresh_at s)
    · exact .inl (by simp)
  · intro i h st b hb
    simp at hb
    subst hb
    obtain ⟨o, e, c, d⟩ := st.1
    exact ⟨o, e, by unfold isF; rw [c, d]; rfl⟩
  · exact Ext.push s _ s.toks
theorem wk2_ascii {w : World} {A : Around} {s : Shared} {x : Str} {t : Tok} (hh : A.handled = none) (ha : x.cps.all (· < 128) = true) : Wk2 w A (.str x t) x.cps.size (SignAt x) [] s := by
  refine wpAny_pyIter_ascii ha ⟨s.heap.objs.size, [s.heap.objs.size], [s.heap.objs.size], _, rfl, Walks.strAscii hh _ x t, ?_, ?_, ?_, ?_, ?_, ?_⟩
  · exact ⟨_, Heap.get?_push_size _ rfl, rfl, rfl⟩
  · intro b hb
    show b < (s.heap.push _).objs.size
    rw [Heap.size_push]
    simp at hb
    subst hb
    exact Nat.lt_succ_self _
  · intro b hb
    simp at hb
    subst hb
    exact fresh_at s
  · intro b hb
    simp at hb
    subst hb
    exact .inr (fresh_at s)
  · intro i h st b hb
    simp at hb
    subst hb
    obtain ⟨o, e, c, d⟩ := st
    exact ⟨o, e, by unfold isF; rw [c, d]; rfl⟩
  · exact ⟨fun _ _ e => Heap.get?_push_of_some _ e, rfl, rfl, rfl⟩
theorem wk2_range {w : World} {A : Around} {s : Shared} {r : Addr} {n : Nat} {t u v : Tok} (hh : A.handled = none) (hr : IsRange s.heap r 0 n 1 t u v) (hn : n ≤ 1000) :
    Wk2 w A (.ref r) n (fun i v => ∃ t, v = .int i t) [] s := by
  have hsz : Builtin.Range.rangeSize 0 n 1 = (n : Int) := by rw [rangeSize_one]; split <;> omega
  refine wpAny_pyIter_range hr (small_one (by decide) (by decide) (by omega) (by omega)) ?_
  rw [hsz]
  have W := Walks.range (prog := pw) (w := w) hh s.heap.objs.size 0 1 n
  refine ⟨s.heap.objs.size, [s.heap.objs.size], [s.heap.objs.size], _, rfl, ⟨W.sub, W.frame, fun i s Q E hi st hQ => W.item i s Q E hi st fun v h' tk hP => hQ v h' tk ?_, W.done, W.self⟩, ?_, ?_, ?_, ?_, ?_, ?_⟩
  · obtain ⟨t, e⟩ := hP
    exact ⟨t, by rw [e]; congr 1; omega⟩
  · exact Heap.get?_push_size _ rfl
  · intro b hb
    show b < (s.heap.push _).objs.size
    rw [Heap.size_push]
    simp at hb
    subst hb
    exact Nat.lt_succ_self _
  · intro b hb
    simp at hb
    subst hb
    exact fresh_at s
  · intro b hb
    simp at hb
    subst hb
    exact .inr (fresh_at s)
  · intro i h st b hb
    simp at hb
    subst hb
    exact ⟨_, st, rfl⟩
  · exact Ext.push s _ s.toks
theorem forL {w : World} {A : Around} {s : Shared} {env : Env} {target iter : Expr} {body : List Stmt} {pos : Pos} {Q : Flow → Shared → Prop} (W : Addr → Prop) (J : Nat → Shared → Prop)
    (h : WP w A (eval iter env) (fun xv s₁ => ∃ n P src, Wk2 w A xv n P src s₁ ∧ (∀ b, W b → b ∉ src ∧ ∃ o, s₁.heap.get? b = some o) ∧ J 0 s₁ ∧ (∀ i s' s'', J i s' → Kt s' s'' → J i s'') ∧
      (∀ i v s', i < n → P i v → Mv W s₁ s' → J i s' → WP w A (assign target env v) (fun _ s₂ => WP w A (execs body env) (fun f s₃ => match f with
        | .next | .cont => Mv W s' s₃ ∧ J (i + 1) s₃
        | .brk => False
        | .ret v => Q (.ret v) s₃) s₂) s') ∧
      (∀ s', Mv W s₁ s' → J n s' → Q .next s')) s)
    (hs : ∀ x, foldedSetIterable iter env x = pure x := by intro _; rfl) (ht : ∀ it v, letOwnedTupleGo target it v = pure () := by intro _ _; rfl) :
    WP w A (exec (.For target iter body [] pos) env) Q s := by
  refine wpAny_For (wpAny_mono h (fun xv s₁ h₁ => ?_) fun _ _ e => e) hs
  obtain ⟨n, P, src, K, hW, j0, jk, turn, fin⟩ := h₁
  refine wpAny_mono K (fun it s₂ h₂ => ?_) fun _ _ e => e
  obtain ⟨I, fp, wr, St, rfl, Wl, st0, -, hwr, hfp, hF, x₂⟩ := h₂
  have nfp : ∀ b ∈ fp, ¬ W b := fun b hb hw => by
    obtain ⟨h1, o, h2⟩ := hW b hw
    rcases hfp b hb with h | h
    · exact h1 h
    · rw [h] at h2; cases h2
  have mvn : ∀ {s' : Shared} {h' : Heap} {tk : Nat}, Mv W s₁ s' → (∀ b o, b ∉ wr → s'.heap.get? b = some o → h'.get? b = some o) → Mv W s₁ { s' with heap := h', toks := tk } := fun m k =>
    ⟨fun b o nb e => k b o (fun hb => by rw [hwr b hb] at e; cases e) (m.keep b o nb e), m.gens, m.drawn, m.os⟩
  have ktn : ∀ {s' : Shared} {h' : Heap} {tk i : Nat}, St i s'.heap → (∀ b o, b ∉ wr → s'.heap.get? b = some o → h'.get? b = some o) → Kt s' { s' with heap := h', toks := tk } := fun st k =>
    ⟨fun b o e hf => k b o (fun hb => by
      obtain ⟨o', e', hf'⟩ := hF _ _ st b hb
      rw [e] at e'; cases e'; rw [hf] at hf'; cases hf') e, rfl, rfl, rfl⟩
  refine codeAny_forLoop (ht := fun v => ht _ v) (fun k s' => ∃ i, i ≤ n ∧ k = n + 1 - i ∧ Mv W s₁ s' ∧ St i s'.heap ∧ J i s') ?_ (n + 1) ⟨0, Nat.zero_le _, rfl, x₂.mv, st0, jk 0 _ _ j0 x₂.kt⟩
  rintro k s' ⟨i, hi, rfl, m, st, j⟩
  by_cases hlt : i < n
  · refine Wl.item i _ _ _ hlt st fun v h₁ tk₁ hP st₁ hk₁ => ?_
    have m₁ := mvn (tk := tk₁) m hk₁
    have j₁ := jk i _ _ j (ktn (tk := tk₁) st hk₁)
    refine wpAny_mono (turn i v _ hlt hP m₁ j₁) (fun _ s₃ h₃ => wpAny_mono h₃ (fun f s₄ h₄ => ?_) fun _ _ e => e.elim) fun _ _ e => e.elim
    have go : Mv W { s' with heap := h₁, toks := tk₁ } s₄ ∧ J (i + 1) s₄ → ∃ m, m < n + 1 - i ∧ ∃ i, i ≤ n ∧ m = n + 1 - i ∧ Mv W s₁ s₄ ∧ St i s₄.heap ∧ J i s₄ := fun h₅ =>
      ⟨n + 1 - (i + 1), by omega, i + 1, hlt, rfl, m₁.trans h₅.1, Wl.frame _ _ _ st₁ fun b hb o e => h₅.1.keep b o (nfp b hb) e, h₅.2⟩
    cases f with
    | next => exact go h₄
    | cont => exact go h₄
    | brk => exact h₄.elim
    | ret v => exact h₄
  · have hin : i = n := by omega
    subst hin
    refine Wl.done _ _ _ st fun h₁ tk₁ hk₁ => wpAny_execs_nil ?_
    exact fin _ (mvn m hk₁) (jk i _ _ j (ktn st hk₁))
end Mine
end
section
open PySem PySem.W PySem.Calls PyProof.Rows PySem.W.X PySem.W.XRun
set_option Elab.async false
set_option maxRecDepth 100000
set_option maxHeartbeats 0
set_option linter.unusedVariables false
namespace Mine
theorem args_maxk (a v : Value) : argsOk "max" ⟨[a], [(Str.ofString "key", v)]⟩ := by unfold argsOk; kernel_rfl
theorem upd_but {s : Shared} {a : Addr} {f : Obj → Obj} {tk : Nat} : But a s { s with heap := s.heap.update a f, toks := tk } :=
  ⟨fun b o ne e => by show (s.heap.update a f).get? b = some o; rw [Heap.get?_update_ne _ _ _ _ ne]; exact e, rfl, rfl, rfl⟩
section
variable {w : World} {A : Around} {b₀ : Shared} {l I S : Addr} {vs : List Value} {ys : List Str} {R : Result → Shared → Prop}
theorem maxLoop (hh : A.handled = none) (hlI : l ≠ I) (hlS : l ≠ S) (hSI : S ≠ I) (hy : StrsAre vs ys) (hyz : ∀ y ∈ ys, y.length ≤ 1000) (fS : b₀.heap.get? S = none) (fI : b₀.heap.get? I = none)
    (hR : ∀ x t s', Ext b₀ s' → x ∈ ys → (∀ y ∈ ys, y.length ≤ x.length) → R (.ok (.ret (.str x t))) s') :
    ∀ (r j : Nat) (s : Shared) (x : Str) (t tb : Tok) (c : Nat), vs.length - j = r → j ≤ vs.length → Ext b₀ s → s.heap.IsList l vs.toArray → s.heap.IsListIter I l j →
      s.heap.get? S = some (seqObj "list" #[.str x t, .int x.length tb] c) → x ∈ ys → (∀ i y, i < j → ys[i]? = some y → y.length ≤ x.length) →
      codeAny (model pw w) A (.builtin "max.loop" ⟨[.ref I, .builtin "len", .ref S], []⟩) R s := by
  have hname : (toString "max" ++ toString ".loop" : String) = "max.loop" := by decide
  have W := Walks.list (prog := pw) (w := w) (A := A.in1) hh I l hlI vs.toArray
  have hsz : vs.toArray.size = vs.length := List.size_toArray ..
  have hlen : vs.length = ys.length := by
    have : ∀ {a : List Value} {b : List Str}, StrsAre a b → a.length = b.length := fun h => by induction h with | nil => rfl | cons y t h ih => simp [ih]
    exact this hy
  intro r
  induction r with
  | zero =>
    intro j s x t tb c hr hj x₀ hl hit hS hx hb
    have hin : j = vs.length := by omega
    subst hin
    refine codeAny_builtin PySem.F.entry_max_loop ?_
    rw [Around.under_plainId PySem.F.plain_max_loop _]
    show wpAny _ A.in1 (seqItems? (.ref S) >>= _) _ _ _
    refine wpAny_bind (wpAny_seqItems hS rfl ?_)
    show wpAny _ A.in1 (tryCatch (pyNext (.ref I)) _ >>= _) _ _ _
    refine wpAny_bind (wpAny_tryCatch (W.done _ _ _ ⟨by rw [hsz]; exact hit, hl⟩ fun h' tk' hk' => ?_))
    have x₁ : Ext b₀ { s with heap := h', toks := tk' } := ⟨fun b o e => hk' b o (fun hb => by simp at hb; subst hb; rw [fI] at e; cases e) (x₀.keep b o e), x₀.gens, x₀.drawn, x₀.os⟩
    have hS' := hk' S _ (by simpa using hSI) hS
    show wpAny _ A.in1 (updateSeq S (fun _ => #[]) >>= _) _ _ _
    refine wpAny_bind ?_
    refine wpAny_updateSeq hS' rfl (wpAny_bind (wpAny_letGo (wpAny_pure ?_)))
    refine hR x t _ (x₁.but upd_but fS) hx fun y hy' => ?_
    obtain ⟨i, hi, e⟩ := List.mem_iff_getElem.mp hy'
    exact hb i y (by omega) (by rw [List.getElem?_eq_getElem hi, e])
  | succ r ih =>
    intro j s x t tb c hr hj x₀ hl hit hS hx hb
    have hlt : j < vs.length := by omega
    refine codeAny_builtin PySem.F.entry_max_loop ?_
    rw [Around.under_plainId PySem.F.plain_max_loop _]
    show wpAny _ A.in1 (seqItems? (.ref S) >>= _) _ _ _
    refine wpAny_bind (wpAny_seqItems hS rfl ?_)
    show wpAny _ A.in1 (tryCatch (pyNext (.ref I)) _ >>= _) _ _ _
    refine wpAny_bind (wpAny_tryCatch (W.item j _ _ _ (by rw [hsz]; exact hlt) ⟨hit, hl⟩ fun v h' tk' hP hst' hk' => ?_))
    have hv : vs[j]? = some v := by simpa using hP
    obtain ⟨y, ty, rfl, hyj⟩ : ∃ y ty, v = .str y ty ∧ ys[j]? = some y := by
      have : ∀ {a : List Value} {b : List Str}, StrsAre a b → ∀ (j : Nat) v, a[j]? = some v → ∃ y ty, v = .str y ty ∧ b[j]? = some y := fun h => by
        induction h with
        | nil => intro j v h; simp at h
        | cons y t h ih =>
          intro j v hv
          cases j with
          | zero => simp at hv; exact ⟨y, t, hv.symm, rfl⟩
          | succ j => simp at hv; simpa using ih j v hv
      exact this hy j v hv
    have hym := List.mem_of_getElem? hyj
    have x₁ : Ext b₀ { s with heap := h', toks := tk' } := ⟨fun b o e => hk' b o (fun hb => by simp at hb; subst hb; rw [fI] at e; cases e) (x₀.keep b o e), x₀.gens, x₀.drawn, x₀.os⟩
    have hS' := hk' S _ (by simpa using hSI) hS
    have hl' := hst'.2
    have hit' := hst'.1
    show wpAny _ A.in1 (tryCatch (holding [.str y ty] (call (.builtin "len") [.str y ty])) _ >>= _) _ _ _
    refine wpAny_bind (wpAny_tryCatch (wpAny_holding (len_str (by have := hyz y hym; omega) ?_)))
    show wpAny _ A.in1 (tryCatch (holding [.str y ty, .int y.length (tk' + 1)] (richCompare .Gt (.int y.length (tk' + 1)) (.int x.length tb) >>= _)) _ >>= _) _ _ _
    refine wpAny_bind (wpAny_tryCatch (wpAny_holding (wpAny_bind (CmpOf.ints_gt (prog := pw) (w := w) (A := A.in1) (P := fun i v => ∃ t, v = .int (if i = 1 then (y.length : Int) else x.length) t) (fun i => if i = 1 then (y.length : Int) else x.length) (fun i v h => h) 1 0 _ _ _ _ _ ⟨_, rfl⟩ ⟨_, rfl⟩ ?_))))
    refine wpAny_bind (wpAny_holding (wpAny_truthy_bool ?_))
    refine wpAny_bind (wpAny_letGo (wpAny_pure ?_))
    by_cases hb' : (y.length : Int) > x.length
    · simp only [if_true, hb', decide_true, Nat.zero_ne_one, if_false]
      refine wpAny_bind ?_
      refine wpAny_updateSeq hS' rfl (wpAny_bind (wpAny_letGo ?_))
      rw [hname]
      obtain ⟨c2, hc2⟩ : ∃ c2, (h'.update S (Obj.mapSeq fun _ => #[.str y ty, .int y.length (tk' + 1)])).get? S = some (seqObj "list" #[.str y ty, .int y.length (tk' + 1)] c2) := ⟨_, get?_update_seq hS' fun _ => #[.str y ty, .int y.length (tk' + 1)]⟩
      have bt : But S { s with heap := h', toks := tk' } { s with heap := h'.update S (Obj.mapSeq fun _ => #[.str y ty, .int y.length (tk' + 1)]), toks := tk' + 1 + 1 } := upd_but
      refine wpAny_pure ⟨plainId_quiet PySem.F.plain_max_loop _, ih (j + 1) _ y ty _ c2 (by omega) hlt (x₁.but bt fS) (hl'.at fun o e => bt.keep _ _ hlS e) (hit'.at fun o e => bt.keep _ _ hSI.symm e) hc2 hym fun i y' hi hy' => ?_⟩
      by_cases e : i = j
      · subst e
        rw [hyj] at hy'; cases hy'; exact Nat.le_refl _
      · have := hb i y' (by omega) hy'
        omega
    · simp only [if_true, hb', decide_false, Nat.zero_ne_one, if_false, Bool.false_eq_true]
      refine wpAny_bind (wpAny_letGo ?_)
      rw [hname]
      refine wpAny_pure ⟨plainId_quiet PySem.F.plain_max_loop _, ih (j + 1) _ x t tb c (by omega) hlt (x₁.trans (Ext.toks _ _)) hl' hit' hS' hx fun i y' hi hy' => ?_⟩
      by_cases e : i = j
      · subst e
        rw [hyj] at hy'; cases hy'; omega
      · exact hb i y' (by omega) hy'
end
theorem strs_len {a : List Value} {b : List Str} (h : StrsAre a b) : a.length = b.length := by induction h with | nil => rfl | cons y t h ih => simp [ih]
theorem strs_get {a : List Value} {b : List Str} (h : StrsAre a b) : ∀ (j : Nat) v, a[j]? = some v → ∃ y ty, v = .str y ty ∧ b[j]? = some y := by
  induction h with
  | nil => intro j v h; simp at h
  | cons y t h ih =>
    intro j v hv
    cases j with
    | zero => simp at hv; exact ⟨y, t, hv.symm, rfl⟩
    | succ j => simp at hv; simpa using ih j v hv
theorem maxK {w : World} {A : Around} {s : Shared} {l : Addr} {ys : List Str} {Q : Value → Shared → Prop} (hh : A.handled = none) (hl : Strs s.heap l ys) (hne : ys ≠ []) (hyz : ∀ y ∈ ys, y.length ≤ 1000)
    (hQ : ∀ x t s', Ext s s' → x ∈ ys → (∀ y ∈ ys, y.length ≤ x.length) → Q (.str x t) s') : WP w A (call (.builtin "max") [.ref l] [(Str.ofString "key", .builtin "len")]) Q s := by
  have hname : (toString "max" ++ toString ".loop" : String) = "max.loop" := by decide
  obtain ⟨vs, hl, hy⟩ := hl
  have hlen := strs_len hy
  have hpos : 0 < vs.length := by rw [hlen]; exact List.length_pos_iff.mpr hne
  refine kmb_tree PySem.F.kind_max PySem.F.plain_max PySem.F.entry_max (args_maxk _ _) ?_
  show wpAny _ A.in1 (Builtin.Builtins.bindParams "max" ["key", "default"] 0 ⟨[], [(Str.ofString "key", .builtin "len")]⟩ >>= _) _ _ s
  refine wpAny_bind (wpAny_of_eq (show Builtin.Builtins.bindParams "max" ["key", "default"] 0 ⟨[], [(Str.ofString "key", .builtin "len")]⟩ = pure [some (.builtin "len"), none] from rfl) ?_)
  refine wpAny_bind (wpAny_pure ?_)
  refine wpAny_bind (wpAny_pyIter_list hl.isList ?_)
  refine wpAny_bind (wpAny_newList ?_ (Nat.zero_le _))
  rw [hname]
  have fI := fresh_at s
  have hll : l < s.heap.objs.size := by obtain ⟨n, e⟩ := hl; exact Heap.lt_size e
  have hlI : l ≠ s.heap.objs.size := Nat.ne_of_lt hll
  generalize hs₁ : ({ s with heap := s.heap.push { cls := .type "list_iterator", data := .fields #[.ref l, .int 0 0] } } : Shared) = s₁
  have x₁ : Ext s s₁ := by subst hs₁; exact ⟨fun _ _ e => Heap.get?_push_of_some _ e, rfl, rfl, rfl⟩
  have hit₁ : s₁.heap.IsListIter s.heap.objs.size l 0 := by subst hs₁; exact ⟨_, Heap.get?_push_size _ rfl, rfl, rfl⟩
  generalize s.heap.objs.size = I at fI hlI hit₁ ⊢
  clear hs₁
  have fS₁ := fresh_at s₁
  have hlS : l ≠ s₁.heap.objs.size := by obtain ⟨n, e⟩ := hl; exact Nat.ne_of_lt (Heap.lt_size (x₁.keep _ _ e))
  have hSI : s₁.heap.objs.size ≠ I := by obtain ⟨o, e, _⟩ := hit₁; exact Nat.ne_of_gt (Heap.lt_size e)
  generalize hs₂ : ({ s₁ with heap := s₁.heap.push { cls := .type "list", data := .seq ([] : List Value).toArray } } : Shared) = s₂
  have x₂ : Ext s₁ s₂ := by subst hs₂; exact ⟨fun _ _ e => Heap.get?_push_of_some _ e, rfl, rfl, rfl⟩
  have hS₂ : s₂.heap.get? s₁.heap.objs.size = some (seqObj "list" #[] 0) := by subst hs₂; exact Heap.get?_push_size _ rfl
  generalize s₁.heap.objs.size = S at fS₁ hlS hSI hS₂ ⊢
  clear hs₂
  have fS : s.heap.get? S = none := none_back x₁ fS₁
  refine wpAny_pure ⟨plainId_quiet PySem.F.plain_max_loop _, ?_⟩
  have W := Walks.list (prog := pw) (w := w) (A := A.in1) hh I l hlI vs.toArray
  have hsz : vs.toArray.size = vs.length := List.size_toArray ..
  refine codeAny_builtin PySem.F.entry_max_loop ?_
  rw [Around.under_plainId PySem.F.plain_max_loop _]
  show wpAny _ A.in1 (seqItems? (.ref S) >>= _) _ _ _
  refine wpAny_bind (wpAny_seqItems hS₂ rfl ?_)
  show wpAny _ A.in1 (tryCatch (pyNext (.ref I)) _ >>= _) _ _ _
  refine wpAny_bind (wpAny_tryCatch (W.item 0 _ _ _ (by rw [hsz]; exact hpos) ⟨hit₁.at fun o e => x₂.keep _ _ e, (hl.at fun o e => (x₁.trans x₂).keep _ _ e).isList⟩ fun v h' tk' hP hst' hk' => ?_))
  have hv : vs[0]? = some v := by simpa using hP
  obtain ⟨y, ty, rfl, hyj⟩ := strs_get hy 0 v hv
  have hym := List.mem_of_getElem? hyj
  have x₃ : Ext s { s₂ with heap := h', toks := tk' } := ⟨fun b o e => hk' b o (fun hb => by simp at hb; subst hb; rw [fI] at e; cases e) ((x₁.trans x₂).keep b o e), (x₁.trans x₂).gens, (x₁.trans x₂).drawn, (x₁.trans x₂).os⟩
  have hS' := hk' S _ (by simpa using hSI) hS₂
  show wpAny _ A.in1 (tryCatch (holding [.str y ty] (call (.builtin "len") [.str y ty])) _ >>= _) _ _ _
  refine wpAny_bind (wpAny_tryCatch (wpAny_holding (len_str (by have := hyz y hym; omega) ?_)))
  show wpAny _ A.in1 (updateSeq S (fun _ => #[.str y ty, .int y.length (tk' + 1)]) >>= _) _ _ _
  refine wpAny_bind ?_
  refine wpAny_updateSeq hS' rfl ?_
  rw [hname]
  obtain ⟨c2, hc2⟩ : ∃ c2, (h'.update S (Obj.mapSeq fun _ => #[.str y ty, .int y.length (tk' + 1)])).get? S = some (seqObj "list" #[.str y ty, .int y.length (tk' + 1)] c2) := ⟨_, get?_update_seq hS' fun _ => #[.str y ty, .int y.length (tk' + 1)]⟩
  have bt : But S { s₂ with heap := h', toks := tk' } { s₂ with heap := h'.update S (Obj.mapSeq fun _ => #[.str y ty, .int y.length (tk' + 1)]), toks := tk' + 1 + 1 } := upd_but
  refine wpAny_pure ⟨plainId_quiet PySem.F.plain_max_loop _, maxLoop hh hlI hlS hSI hy hyz fS fI (fun x t s' e hx hb => hQ x t s' e hx hb) _ 1 _ y ty _ c2 rfl hpos (x₃.but bt fS) (hst'.2.at fun o e => bt.keep _ _ hlS e) (hst'.1.at fun o e => bt.keep _ _ hSI.symm e) hc2 hym fun i y' hi hy' => ?_⟩
  have e : i = 0 := by omega
  subst e
  rw [hyj] at hy'; cases hy'; exact Nat.le_refl _
end Mine
end
section
open PySem PySem.W PySem.Calls PyProof.Rows PySem.W.X PySem.W.XRun
set_option Elab.async false
set_option maxRecDepth 100000
set_option maxHeartbeats 0
set_option linter.unusedVariables false
namespace Mine
theorem type_call : typeLookup (.type "type") "__call__" = pure (some (.builtin "type.__call__")) := by rw [typeLookup_type, builtinLookup_eq_fast]; kernel_rfl
noncomputable def isCd : PySem.Data → Bool
  | .cls _ => true
  | _ => false
theorem isCd_of {d : PySem.Data} (h : isCd d = true) : ∃ cd, d = .cls cd := by
  cases d <;> first | exact ⟨_, rfl⟩ | cases h
theorem co260 (w : World) : ∃ o, (HL w.params).get? 260 = some o ∧ o.cls = .type "type" ∧ ∃ cd, o.data = .cls cd := by
  have h1 : ((HL w.params).get? 260).map (fun o => o.cls) = some (.type "type") := by kernel_rfl
  have h2 : ((HL w.params).get? 260).map (fun o => isCd o.data) = some true := by kernel_rfl
  cases e : (HL w.params).get? 260 with
  | none => rw [e] at h1; cases h1
  | some o =>
    rw [e] at h1 h2
    exact ⟨o, rfl, Option.some.inj h1, isCd_of (Option.some.inj h2)⟩
section
variable {w : World} {A : Around} {s : Shared} {env : Env} {x : Str} {p pos : Pos} {Q : Value → Shared → Prop}
theorem hdrsN (R : Room A 1) (T : YP w s.heap) (hg : s.gens = #[]) (h : ∀ a l s', Ext s s' → HI0 s.heap s'.heap a l → s'.heap.PlainList l #[] → s.heap.get? l = none → Q (.ref a) s') :
    WP w A (call (.ref 260) []) Q s := by
  obtain ⟨hp, g, d, tk, os⟩ := s
  dsimp only at hg
  subst hg
  refine R.leaf ((hdrs0 (kf_in T)).mono fun v s' q => ?_)
  obtain ⟨a, l, rfl, e, I, hl, h1⟩ := q
  exact h a l s' e I hl h1
theorem c0h (hn : ∀ Q' : Value → Shared → Prop, Q' (.ref 260) s → WP w A (eval (.Name x p) env) Q' s) (T : YP w s.heap) (h : WP w A (call (.ref 260) []) Q s) :
    WP w A (eval (.Call (.Name x p) [] [] pos) env) Q s := by
  refine Call_Name0 (hn _ ?_)
  obtain ⟨o, e, hc, cd, hd⟩ := co260 w
  have he := T _ _ e
  unfold callWith
  refine wpAny_bind (wpAny_holding (evalArgs_nil3 (wpAny_bind (wpAny_standAt ?_))))
  refine wpAny_bind (m := keeperOf (.ref 260)) ?_
  unfold keeperOf
  refine wpAny_bind (wpAny_load he ?_)
  rw [hd]
  dsimp only
  refine wpAny_bind (wpAny_specialOf ⟨_, he, hc⟩ type_call ?_)
  rw [if_pos (by kernel_rfl)]
  refine wpAny_pure ?_
  show wpAny _ _ (call (.ref 260) [] [] >>= fun r => do holding [r] point; pure r) _ _ _
  exact wpAny_bind (wpAny_mono h (fun r s' hr => wpAny_bind (wpAny_holding (wpAny_point (wpAny_pure hr)))) fun _ _ x => x)
end
structure HI (N : Addr → Prop) (h : Heap) (x l : Addr) : Prop where
  ex : ∃ ox dx od, (h.get? x = some ox ∧ ox.cls = .ref 260 ∧ notCls ox = true ∧ ox.dict = some dx ∧ h.get? dx = some od ∧ od.cls = .type "dict" ∧ lookIn "_headers" od = some (some (.ref l)) ∧ (methNames.all fun n => isNone2 (lookIn n od)) = true) ∧ ¬ N x ∧ ¬ N dx
theorem HI.inst {N : Addr → Prop} {h : Heap} {x l : Addr} (I : HI N h x l) : HInst h x l := let ⟨ox, dx, od, h1, _⟩ := I.ex; ⟨⟨ox, dx, od, h1⟩⟩
theorem HI.of {N : Addr → Prop} {h₀ h : Heap} {x l : Addr} (I : HI0 h₀ h x l) (k : ∀ a, h₀.get? a = none → ¬ N a) : HI N h x l := let ⟨ox, dx, od, h1, h2, h3⟩ := I; ⟨⟨ox, dx, od, h1, k _ h2, k _ h3⟩⟩
theorem HI.mono {N N' : Addr → Prop} {h : Heap} {x l : Addr} (I : HI N h x l) (k : ∀ a, N' a → N a) : HI N' h x l := let ⟨ox, dx, od, h1, h2, h3⟩ := I.ex; ⟨⟨ox, dx, od, h1, fun z => h2 (k _ z), fun z => h3 (k _ z)⟩⟩
theorem HI.keeps {N : Addr → Prop} {s s' : Shared} {x l : Addr} (I : HI N s.heap x l) (e : Ext s s') : HI N s'.heap x l :=
  let ⟨ox, dx, od, ⟨h1, h2, h3, h4, h5, h6⟩, h⟩ := I.ex
  ⟨⟨ox, dx, od, ⟨e.keep _ _ h1, h2, h3, h4, e.keep _ _ h5, h6⟩, h⟩⟩
theorem HI.step {N : Addr → Prop} {env : Env} {s s' : Shared} {x l : Addr} (I : HI N s.heap x l) (e : Step env s s') (kN : ∀ a, Own env a → N a) : HI N s'.heap x l :=
  let ⟨ox, dx, od, ⟨h1, h2, h3, h4, h5, h6⟩, n1, n2⟩ := I.ex
  ⟨⟨ox, dx, od, ⟨e.keep _ _ (fun z => n1 (kN _ z)) h1, h2, h3, h4, e.keep _ _ (fun z => n2 (kN _ z)) h5, h6⟩, n1, n2⟩⟩
theorem HI.kt {N : Addr → Prop} {s s' : Shared} {x l : Addr} (I : HI N s.heap x l) (k : Kt s s') : HI N s'.heap x l :=
  let ⟨ox, dx, od, ⟨h1, h2, h3, h4, h5, h6, h7⟩, h⟩ := I.ex
  ⟨⟨ox, dx, od, ⟨k.keep _ _ h1 (isF_ref h2), h2, h3, h4, k.keep _ _ h5 (isF_dictc h6), h6, h7⟩, h⟩⟩
theorem HI.but {N : Addr → Prop} {s s' : Shared} {x l a : Addr} {items : Array Value} (I : HI N s.heap x l) (hl : s.heap.IsList a items) (e : But a s s') : HI N s'.heap x l := by
  obtain ⟨ox, dx, od, ⟨h1, h2, h3, h4, h5, h6, h7⟩, hn⟩ := I.ex
  obtain ⟨o, ho, hc, _⟩ := hl
  have n1 : x ≠ a := fun z => by subst z; rw [h1] at ho; cases ho; rw [h2] at hc; cases hc
  have n2 : dx ≠ a := fun z => by subst z; rw [h5] at ho; cases ho; rw [h6] at hc; simp at hc
  exact ⟨⟨ox, dx, od, ⟨e.keep _ _ n1 h1, h2, h3, h4, e.keep _ _ n2 h5, h6, h7⟩, hn⟩⟩
end Mine
end
section
set_option linter.unusedVariables false
namespace Mine
section
variable (kd : Nat → Nat) (D : Nat → Nat → Bool) (ks : List Nat)
noncomputable def levF (H : Nat → Nat) (k : Nat) : List Nat → Nat → Nat
  | [], m => m
  | o :: r, m => levF H k r (if D k o then max m (H o) else m)
noncomputable def lev (H : Nat → Nat) (k : Nat) : Nat := levF D H k ks 0
noncomputable def upd (H : Nat → Nat) (k n : Nat) : Nat → Nat := fun o => if o = k then n else H o
noncomputable def Rw (H : Nat → Nat) : List Nat → List (Nat × Nat)
  | [] => []
  | a :: u => (lev D ks H (kd a) + 1, a) :: Rw (upd H (kd a) (lev D ks H (kd a) + 1)) u
noncomputable def Sw (H : Nat → Nat) : List Nat → Nat → Nat
  | [] => H
  | a :: u => Sw (upd H (kd a) (lev D ks H (kd a) + 1)) u
noncomputable def sameL : List Nat → List Nat → Bool
  | [], _ => true
  | a :: u, v => if (v.take (v.idxOf a)).any (fun b => D (kd b) (kd a)) then false else sameL u (v.take (v.idxOf a) ++ v.drop (v.idxOf a + 1))
noncomputable def inP (x y : Nat) (a : Nat) : Bool := kd a == x || kd a == y
end
section
variable {kd : Nat → Nat} {D : Nat → Nat → Bool} {ks : List Nat}
theorem levF_congr {H H' : Nat → Nat} {k : Nat} (h : ∀ o, D k o = true → H o = H' o) : ∀ (l : List Nat) (m : Nat), levF D H k l m = levF D H' k l m
  | [], m => rfl
  | o :: r, m => by
    unfold levF
    cases e : D k o with
    | true => rw [h o e]; exact levF_congr h r _
    | false => exact levF_congr h r _
theorem levF_ge {H : Nat → Nat} {k : Nat} : ∀ (l : List Nat) (m : Nat), m ≤ levF D H k l m
  | [], m => Nat.le_refl _
  | o :: r, m => by
    unfold levF
    refine Nat.le_trans ?_ (levF_ge r _)
    split
    · exact Nat.le_max_left _ _
    · exact Nat.le_refl _
theorem levF_mem {H : Nat → Nat} {k o : Nat} (hd : D k o = true) : ∀ (l : List Nat) (m : Nat), o ∈ l → H o ≤ levF D H k l m
  | p :: r, m, h => by
    unfold levF
    rcases List.mem_cons.mp h with h | h
    · subst h
      rw [hd, if_pos rfl]
      exact Nat.le_trans (Nat.le_max_right _ _) (levF_ge r _)
    · exact levF_mem hd r _ h
theorem levF_or {H : Nat → Nat} {k : Nat} : ∀ (l : List Nat) (m : Nat), levF D H k l m = m ∨ ∃ o ∈ l, D k o = true ∧ levF D H k l m = H o
  | [], m => .inl rfl
  | p :: r, m => by
    unfold levF
    rcases levF_or r (if D k p then max m (H p) else m) with h | ⟨o, ho, h1, h2⟩
    · rw [h]
      split
      · rename_i hd
        by_cases hm : H p ≤ m
        · exact .inl (Nat.max_eq_left hm)
        · exact .inr ⟨p, List.mem_cons_self, hd, Nat.max_eq_right (by omega)⟩
      · exact .inl rfl
    · exact .inr ⟨o, List.mem_cons_of_mem _ ho, h1, h2⟩
theorem upd_self {H : Nat → Nat} {k n : Nat} : upd H k n k = n := by simp [upd]
theorem upd_ne {H : Nat → Nat} {k n o : Nat} (h : o ≠ k) : upd H k n o = H o := by simp [upd, h]
theorem upd_comm {H : Nat → Nat} {a b n m : Nat} (h : a ≠ b) : upd (upd H a n) b m = upd (upd H b m) a n := by
  funext o
  unfold upd
  by_cases h1 : o = a
  · subst h1; simp [h]
  · by_cases h2 : o = b
    · subst h2; simp [h1]
    · simp [h1, h2]
theorem lev_upd {H : Nat → Nat} {k j n : Nat} (h : D k j = false) : lev D ks (upd H j n) k = lev D ks H k :=
  levF_congr (fun o ho => upd_ne (fun e => by subst e; rw [h] at ho; cases ho)) _ _
variable (hs : ∀ x y, D x y = D y x) (hr : ∀ a, D (kd a) (kd a) = true)
include hs hr
theorem Rw_swap (a : Nat) (v2 : List Nat) : ∀ (v1 : List Nat) (H : Nat → Nat), (∀ b ∈ v1, D (kd b) (kd a) = false) → (Rw kd D ks H (v1 ++ a :: v2)).Perm (Rw kd D ks H (a :: (v1 ++ v2)))
  | [], H, h => List.Perm.refl _
  | b :: v1, H, h => by
    have hba := h b List.mem_cons_self
    have hab : D (kd a) (kd b) = false := by rw [hs]; exact hba
    have hne : kd a ≠ kd b := fun e => by rw [e, hr] at hab; cases hab
    have ih := Rw_swap a v2 v1 (upd H (kd b) (lev D ks H (kd b) + 1)) (fun c hc => h c (List.mem_cons_of_mem _ hc))
    show ((lev D ks H (kd b) + 1, b) :: Rw kd D ks (upd H (kd b) (lev D ks H (kd b) + 1)) (v1 ++ a :: v2)).Perm
      ((lev D ks H (kd a) + 1, a) :: (lev D ks (upd H (kd a) (lev D ks H (kd a) + 1)) (kd b) + 1, b) :: Rw kd D ks (upd (upd H (kd a) (lev D ks H (kd a) + 1)) (kd b) (lev D ks (upd H (kd a) (lev D ks H (kd a) + 1)) (kd b) + 1)) (v1 ++ v2))
    rw [lev_upd hba]
    refine (List.Perm.cons _ ih).trans ?_
    show ((lev D ks H (kd b) + 1, b) :: (lev D ks (upd H (kd b) (lev D ks H (kd b) + 1)) (kd a) + 1, a) :: Rw kd D ks (upd (upd H (kd b) (lev D ks H (kd b) + 1)) (kd a) (lev D ks (upd H (kd b) (lev D ks H (kd b) + 1)) (kd a) + 1)) (v1 ++ v2)).Perm _
    rw [lev_upd hab, upd_comm (Ne.symm hne)]
    exact List.Perm.swap _ _ _
omit hs hr in
theorem split_at {a : Nat} {v : List Nat} (h : a ∈ v) : v = v.take (v.idxOf a) ++ a :: v.drop (v.idxOf a + 1) := by
  have hl := List.idxOf_lt_length_iff.mpr h
  have e := List.drop_eq_getElem_cons hl
  rw [List.getElem_idxOf hl] at e
  rw [← e, List.take_append_drop]
theorem same_perm : ∀ (u v : List Nat) (H : Nat → Nat), u.Perm v → sameL kd D u v = true → (Rw kd D ks H u).Perm (Rw kd D ks H v)
  | [], v, H, hp, _ => by rw [List.nil_perm.mp hp]
  | a :: u, v, H, hp, h => by
    have hm : a ∈ v := hp.mem_iff.mp List.mem_cons_self
    have e := split_at hm
    unfold sameL at h
    split at h
    · cases h
    · rename_i hn
      have hn' : ∀ b ∈ v.take (v.idxOf a), D (kd b) (kd a) = false := fun b hb => by
        cases e : D (kd b) (kd a) with
        | false => rfl
        | true => exact absurd (List.any_eq_true.mpr ⟨b, hb, e⟩) hn
      generalize v.take (v.idxOf a) = v1 at *
      generalize v.drop (v.idxOf a + 1) = v2 at *
      subst e
      have hp' : u.Perm (v1 ++ v2) := List.Perm.cons_inv (hp.trans List.perm_middle)
      exact (List.Perm.cons _ (same_perm u (v1 ++ v2) _ hp' h)).trans (Rw_swap hs hr a v2 v1 H hn').symm
omit hr in
theorem same_proj : ∀ (u v : List Nat), u.Perm v → sameL kd D u v = true → ∀ x y, D x x = true → D y y = true → D x y = true → u.filter (inP kd x y) = v.filter (inP kd x y)
  | [], v, hp, _, x, y, _, _, _ => by rw [List.nil_perm.mp hp]
  | a :: u, v, hp, h, x, y, hx, hy, hxy => by
    have hm : a ∈ v := hp.mem_iff.mp List.mem_cons_self
    have e := split_at hm
    unfold sameL at h
    split at h
    · cases h
    · rename_i hn
      have hn' : ∀ b ∈ v.take (v.idxOf a), D (kd b) (kd a) = false := fun b hb => by
        cases e : D (kd b) (kd a) with
        | false => rfl
        | true => exact absurd (List.any_eq_true.mpr ⟨b, hb, e⟩) hn
      generalize v.take (v.idxOf a) = v1 at *
      generalize v.drop (v.idxOf a + 1) = v2 at *
      subst e
      have hp' : u.Perm (v1 ++ v2) := List.Perm.cons_inv (hp.trans List.perm_middle)
      have ih := same_proj u (v1 ++ v2) hp' h x y hx hy hxy
      rw [List.filter_append] at ih
      rw [List.filter_append, List.filter_cons, List.filter_cons]
      by_cases ha : inP kd x y a = true
      · rw [if_pos ha, if_pos ha]
        have h1 : v1.filter (inP kd x y) = [] := by
          rw [List.filter_eq_nil_iff]
          intro b hb hb'
          have hba := hn' b hb
          have hyx : D y x = true := by rw [hs]; exact hxy
          unfold inP at ha hb'
          rw [Bool.or_eq_true, beq_iff_eq, beq_iff_eq] at ha hb'
          rcases ha with ha | ha <;> rcases hb' with hb' | hb' <;> rw [ha, hb'] at hba <;> simp_all
        rw [h1] at ih ⊢
        rw [List.nil_append] at ih ⊢
        rw [ih]
      · rw [if_neg ha, if_neg ha]
        exact ih
theorem proj_same : ∀ (u v : List Nat), (∀ a b, D (kd a) (kd b) = true → u.filter (inP kd (kd a) (kd b)) = v.filter (inP kd (kd a) (kd b))) → sameL kd D u v = true
  | [], v, _ => rfl
  | a :: u, v, h => by
    have ha := h a a (hr a)
    have hm : a ∈ v := by
      have : a ∈ (a :: u).filter (inP kd (kd a) (kd a)) := List.mem_filter.mpr ⟨List.mem_cons_self, by simp [inP]⟩
      rw [ha] at this
      exact (List.mem_filter.mp this).1
    have e := split_at hm
    have hna : a ∉ v.take (v.idxOf a) := by
      intro hin
      obtain ⟨i, hi, he⟩ := List.mem_iff_getElem.mp hin
      have hl := List.length_take_le (v.idxOf a) v
      have := List.not_of_lt_findIdx (p := (· == a)) (xs := v) (i := i) (by show i < v.idxOf a; omega)
      rw [List.getElem_take] at he
      simp [he] at this
    have hn' : ∀ b ∈ v.take (v.idxOf a), D (kd b) (kd a) = false := fun b hb => by
      cases hd : D (kd b) (kd a) with
      | false => rfl
      | true =>
        exfalso
        have hh := h a b (by rw [hs]; exact hd)
        generalize v.take (v.idxOf a) = v1 at *
        generalize v.drop (v.idxOf a + 1) = v2 at *
        rw [e, List.filter_cons, if_pos (by simp [inP]), List.filter_append] at hh
        cases hf : v1.filter (inP kd (kd a) (kd b)) with
        | nil =>
          rw [List.filter_eq_nil_iff] at hf
          exact hf b hb (by simp [inP])
        | cons c r =>
          rw [hf, List.cons_append] at hh
          injection hh with h1 h2
          have : c ∈ v1.filter (inP kd (kd a) (kd b)) := by rw [hf]; exact List.mem_cons_self
          exact hna (by rw [h1]; exact (List.mem_filter.mp this).1)
    unfold sameL
    rw [if_neg (by
      intro hh
      obtain ⟨b, hb, hd⟩ := List.any_eq_true.mp hh
      rw [hn' b hb] at hd; cases hd)]
    generalize v.take (v.idxOf a) = v1 at *
    generalize v.drop (v.idxOf a + 1) = v2 at *
    refine proj_same u (v1 ++ v2) fun c d hcd => ?_
    have hh := h c d hcd
    rw [e, List.filter_cons, List.filter_append, List.filter_cons] at hh
    rw [List.filter_append]
    by_cases hin : inP kd (kd c) (kd d) a = true
    · rw [if_pos hin, if_pos hin] at hh
      have h1 : v1.filter (inP kd (kd c) (kd d)) = [] := by
        rw [List.filter_eq_nil_iff]
        intro b hb hb'
        have hba := hn' b hb
        have hdc : D (kd d) (kd c) = true := by rw [hs]; exact hcd
        have hc := hr c
        have hd := hr d
        unfold inP at hin hb'
        rw [Bool.or_eq_true, beq_iff_eq, beq_iff_eq] at hin hb'
        rcases hin with hin | hin <;> rcases hb' with hb' | hb' <;> rw [hin, hb'] at hba <;> simp_all
      rw [h1] at hh ⊢
      rw [List.nil_append] at hh ⊢
      injection hh
    · rw [if_neg hin, if_neg hin] at hh
      exact hh
end
end Mine
end
section
set_option linter.unusedVariables false
set_option linter.unusedSectionVars false
namespace Mine
section
variable {kd : Nat → Nat} {D : Nat → Nat → Bool} {ks : List Nat}
theorem Rw_snd : ∀ (u : List Nat) (H : Nat → Nat), (Rw kd D ks H u).map Prod.snd = u
  | [], H => rfl
  | a :: u, H => by unfold Rw; rw [List.map_cons, Rw_snd u]
theorem Rw_len (u : List Nat) (H : Nat → Nat) : (Rw kd D ks H u).length = u.length := by
  have := congrArg List.length (Rw_snd (kd := kd) (D := D) (ks := ks) u H)
  rwa [List.length_map] at this
theorem Rw_app : ∀ (u v : List Nat) (H : Nat → Nat), Rw kd D ks H (u ++ v) = Rw kd D ks H u ++ Rw kd D ks (Sw kd D ks H u) v
  | [], v, H => rfl
  | a :: u, v, H => by
    show _ :: Rw kd D ks _ (u ++ v) = _ :: (Rw kd D ks _ u ++ _)
    rw [Rw_app u v]; rfl
theorem Sw_app : ∀ (u v : List Nat) (H : Nat → Nat), Sw kd D ks H (u ++ v) = Sw kd D ks (Sw kd D ks H u) v
  | [], v, H => rfl
  | a :: u, v, H => by
    show Sw kd D ks _ (u ++ v) = _
    rw [Sw_app u v]; rfl
variable (hr : ∀ a, D (kd a) (kd a) = true) (hk : ∀ a, kd a ∈ ks)
include hr hk
theorem Rw_above : ∀ (u : List Nat) (H : Nat → Nat) (q : Nat × Nat), q ∈ Rw kd D ks H u → ∀ k ∈ ks, D (kd q.2) k = true → H k < q.1
  | a :: u, H, q, hq, k, hkk, hd => by
    rcases List.mem_cons.mp hq with rfl | hq
    · exact Nat.lt_succ_of_le (levF_mem hd _ _ hkk)
    · refine Nat.lt_of_le_of_lt ?_ (Rw_above u _ q hq k hkk hd)
      by_cases h : k = kd a
      · subst h
        rw [upd_self]
        exact Nat.le_succ_of_le (levF_mem (hr a) _ _ hkk)
      · rw [upd_ne h]; exact Nat.le_refl _
theorem Rw_pair (hs : ∀ x y, D x y = D y x) : ∀ (u : List Nat) (H : Nat → Nat), (Rw kd D ks H u).Pairwise fun p q => D (kd p.2) (kd q.2) = true → p.1 < q.1
  | [], H => .nil
  | a :: u, H => by
    refine .cons (fun q hq hd => ?_) (Rw_pair hs u _)
    have := Rw_above hr hk u _ q hq (kd a) (hk a) (by rw [hs]; exact hd)
    rw [upd_self] at this
    exact this
omit hr hk in
theorem Rw_below : ∀ (u : List Nat) (H : Nat → Nat) (j : Nat) (q : Nat × Nat), (Rw kd D ks H u)[j]? = some q →
    q.1 = 1 ∨ (∃ k ∈ ks, D (kd q.2) k = true ∧ q.1 = H k + 1) ∨ ∃ i p, i < j ∧ (Rw kd D ks H u)[i]? = some p ∧ D (kd q.2) (kd p.2) = true ∧ p.1 + 1 = q.1
  | [], H, j, q, h => by simp [Rw] at h
  | a :: u, H, 0, q, h => by
    simp [Rw] at h
    subst h
    rcases levF_or (H := H) (D := D) (k := kd a) ks 0 with h | ⟨o, ho, h1, h2⟩
    · refine .inl ?_
      show levF D H (kd a) ks 0 + 1 = 1
      rw [h]
    · exact .inr (.inl ⟨o, ho, h1, by show levF D H (kd a) ks 0 + 1 = H o + 1; rw [h2]⟩)
  | a :: u, H, j + 1, q, h => by
    have h' : (Rw kd D ks (upd H (kd a) (lev D ks H (kd a) + 1)) u)[j]? = some q := by simpa [Rw] using h
    rcases Rw_below u _ j q h' with h | ⟨k, hkk, hd, e⟩ | ⟨i, p, hi, hp, hd, e⟩
    · exact .inl h
    · by_cases hka : k = kd a
      · subst hka
        rw [upd_self] at e
        exact .inr (.inr ⟨0, (lev D ks H (kd a) + 1, a), Nat.succ_pos _, rfl, hd, e.symm⟩)
      · rw [upd_ne hka] at e
        exact .inr (.inl ⟨k, hkk, hd, e⟩)
    · exact .inr (.inr ⟨i + 1, p, Nat.succ_lt_succ hi, by simpa [Rw] using hp, hd, e⟩)
end
theorem sorted_eq : ∀ (l m : List (Nat × Nat)), l.Perm m → l.Pairwise (fun p q => p.1 < q.1) → m.Pairwise (fun p q => p.1 ≤ q.1) → l = m
  | [], m, h, _, _ => (List.nil_perm.mp h).symm
  | p :: l, [], h, _, _ => by have := h.length_eq; simp at this
  | p :: l, q :: m, h, hl, hm => by
    have e : p = q := by
      have h1 : p ∈ q :: m := h.mem_iff.mp List.mem_cons_self
      have h2 : q ∈ p :: l := h.mem_iff.mpr List.mem_cons_self
      rcases List.mem_cons.mp h1 with h1 | h1
      · exact h1
      · rcases List.mem_cons.mp h2 with h2 | h2
        · exact h2.symm
        · have a1 := (List.pairwise_cons.mp hm).1 p h1
          have a2 := (List.pairwise_cons.mp hl).1 q h2
          omega
    subst e
    rw [sorted_eq l m (List.Perm.cons_inv h) (List.pairwise_cons.mp hl).2 (List.pairwise_cons.mp hm).2]
section
variable {kd : Nat → Nat} {D : Nat → Nat → Bool} {ks : List Nat}
variable (hs : ∀ x y, D x y = D y x) (hr : ∀ a, D (kd a) (kd a) = true) (hk : ∀ a, kd a ∈ ks)
noncomputable def inR (kd : Nat → Nat) (x y : Nat) (p : Nat × Nat) : Bool := inP kd x y p.2
omit kd D ks hs hr hk in
theorem proj_map {kd : Nat → Nat} (x y : Nat) (l : List (Nat × Nat)) : (l.filter (inR kd x y)).map Prod.snd = (l.map Prod.snd).filter (inP kd x y) := by
  rw [List.filter_map]; rfl
include hs hr hk
theorem Rw_strict {x y : Nat} (hx : D x x = true) (hy : D y y = true) (hxy : D x y = true) (u : List Nat) (H : Nat → Nat) :
    ((Rw kd D ks H u).filter (inR kd x y)).Pairwise fun p q => p.1 < q.1 := by
  have h1 := (Rw_pair hr hk hs u H).filter (inR kd x y)
  refine List.Pairwise.imp_of_mem ?_ h1
  intro p q hp hq h
  refine h ?_
  have hp := (List.mem_filter.mp hp).2
  have hq := (List.mem_filter.mp hq).2
  have hyx : D y x = true := by rw [hs]; exact hxy
  unfold inR inP at hp hq
  rw [Bool.or_eq_true, beq_iff_eq, beq_iff_eq] at hp hq
  rcases hp with hp | hp <;> rcases hq with hq | hq <;> rw [hp, hq] <;> assumption
theorem proj_sorted {x y : Nat} (hx : D x x = true) (hy : D y y = true) (hxy : D x y = true) {u : List Nat} {H : Nat → Nat} {wl : List (Nat × Nat)} (hp : (Rw kd D ks H u).Perm wl) (hw : wl.Pairwise fun p q => p.1 ≤ q.1) :
    u.filter (inP kd x y) = (wl.map Prod.snd).filter (inP kd x y) := by
  have e := sorted_eq _ _ (hp.filter (inR kd x y)) (Rw_strict hs hr hk hx hy hxy u H) (hw.filter _)
  have e' := congrArg (List.map Prod.snd) e
  rw [proj_map, proj_map, Rw_snd] at e'
  exact e'
theorem proj_perm {x y : Nat} (hx : D x x = true) (hy : D y y = true) (hxy : D x y = true) {u v : List Nat} {H : Nat → Nat} (hp : (Rw kd D ks H u).Perm (Rw kd D ks H v)) :
    u.filter (inP kd x y) = v.filter (inP kd x y) := by
  have e := sorted_eq _ _ (hp.filter (inR kd x y)) (Rw_strict hs hr hk hx hy hxy u H) ((Rw_strict hs hr hk hx hy hxy v H).imp fun h => Nat.le_of_lt h)
  have e' := congrArg (List.map Prod.snd) e
  rw [proj_map, proj_map, Rw_snd, Rw_snd] at e'
  exact e'
theorem same_rounds {u : List Nat} {H : Nat → Nat} {wl : List (Nat × Nat)} (hp : (Rw kd D ks H u).Perm wl) (hw : wl.Pairwise fun p q => p.1 ≤ q.1) : sameL kd D u (wl.map Prod.snd) = true :=
  proj_same hs hr u _ fun a b h => proj_sorted hs hr hk (hr a) (hr b) h hp hw
theorem rows_same {u v : List Nat} {H : Nat → Nat} (hp : u.Perm v) : (Rw kd D ks H u).Perm (Rw kd D ks H v) ↔ sameL kd D u v = true :=
  ⟨fun h => proj_same hs hr u v fun a b hd => proj_perm hs hr hk (hr a) (hr b) hd h, fun h => same_perm hs hr u v H hp h⟩
end
noncomputable def rowL (p : Nat × Nat) : List Nat := List.replicate (p.1 + 1) 46 ++ [p.2]
noncomputable def unrow (l : List Nat) : Nat × Nat := (l.length - 2, l.getLastD 0)
theorem unrow_row (p : Nat × Nat) : unrow (rowL p) = p := by
  unfold unrow rowL
  simp
theorem perm_rows {l m : List (Nat × Nat)} : (l.map rowL).Perm (m.map rowL) ↔ l.Perm m := by
  refine ⟨fun h => ?_, fun h => h.map _⟩
  have := h.map unrow
  rw [List.map_map, List.map_map] at this
  have e : (unrow ∘ rowL) = id := funext fun p => unrow_row p
  rw [e, List.map_id, List.map_id] at this
  exact this
noncomputable def rel (kd : Nat → Nat) (tied : List (Nat × Nat)) (u : List Nat) : List (List Nat) := tied.map fun p => u.filter (inP kd p.1 p.2)
noncomputable def bnd (tied : List (Nat × Nat)) (x y : Nat) : Bool := tied.contains (x, y) || tied.contains (y, x)
theorem bnd_symm (tied : List (Nat × Nat)) (x y : Nat) : bnd tied x y = bnd tied y x := Bool.or_comm _ _
theorem inP_swap (kd : Nat → Nat) (x y : Nat) : inP kd x y = inP kd y x := funext fun a => Bool.or_comm _ _
theorem rel_same {kd : Nat → Nat} {tied : List (Nat × Nat)} (h4 : ∀ p ∈ tied, bnd tied p.1 p.1 = true ∧ bnd tied p.2 p.2 = true) (hr : ∀ a, bnd tied (kd a) (kd a) = true) {u v : List Nat} (hp : u.Perm v) :
    rel kd tied u = rel kd tied v ↔ sameL kd (bnd tied) u v = true := by
  refine ⟨fun h => proj_same (bnd_symm tied) hr u v fun a b hd => ?_, fun h => ?_⟩
  · have hall : ∀ p ∈ tied, u.filter (inP kd p.1 p.2) = v.filter (inP kd p.1 p.2) := List.map_inj_left.mp h
    unfold bnd at hd
    rw [Bool.or_eq_true, List.contains_iff_mem, List.contains_iff_mem] at hd
    rcases hd with hd | hd
    · exact hall _ hd
    · rw [inP_swap]; exact hall _ hd
  · refine List.map_inj_left.mpr fun p hpm => ?_
    refine same_proj (bnd_symm tied) u v hp h p.1 p.2 (h4 p hpm).1 (h4 p hpm).2 ?_
    unfold bnd
    rw [Bool.or_eq_true, List.contains_iff_mem]
    exact .inl hpm
end Mine
end
section
open PySem PySem.W PySem.Calls PyProof.Rows PySem.W.X PySem.W.XRun
set_option Elab.async false
set_option maxRecDepth 100000
set_option maxHeartbeats 0
set_option linter.unusedVariables false
namespace Mine
noncomputable def sg (c : Nat) : Str := ⟨#[c]⟩
noncomputable def dots (n : Nat) : Str := ⟨(List.replicate n 46).toArray⟩
noncomputable def rowS (p : Nat × Nat) : Str := ⟨(rowL p).toArray⟩
noncomputable def hrow (p : Nat × Nat) : Nat × Str := (kd p.2, rowS p)
noncomputable abbrev ks4 : List Nat := [112, 113, 114, 115]
noncomputable def H0 : Nat → Nat := fun _ => 0
theorem kd_mem (c : Nat) : kd c ∈ ks4 := by rcases kd_cases c with h | h | h | h <;> rw [h] <;> decide
theorem kd_sign : ∀ c ∈ signs, 256 ≤ c := by decide +kernel
theorem dots_len (n : Nat) : (dots n).length = n := by show (List.replicate n 46).toArray.size = n; simp
theorem dots_inj {n m : Nat} (h : (dots n).length = (dots m).length) : dots n = dots m := by rw [dots_len, dots_len] at h; rw [h]
theorem row_split (p : Nat × Nat) : rowS p = ⟨(List.replicate (p.1 + 1) 46 ++ [p.2]).toArray⟩ := rfl
theorem dots_sg (n c : Nat) : dots (n + 1) ++ sg c = rowS (n, c) := by
  show (⟨(List.replicate (n + 1) 46).toArray ++ #[c]⟩ : Str) = ⟨(List.replicate (n + 1) 46 ++ [c]).toArray⟩
  exact congrArg Str.mk (Array.ext' (by simp))
theorem cut_row : ∀ (n c : Nat), n ≤ 6 → Txt.slice (rowS (n, c)) none (some (-1)) = dots (n + 1)
  | 0, c, _ => by kernel_rfl
  | 1, c, _ => by kernel_rfl
  | 2, c, _ => by kernel_rfl
  | 3, c, _ => by kernel_rfl
  | 4, c, _ => by kernel_rfl
  | 5, c, _ => by kernel_rfl
  | 6, c, _ => by kernel_rfl
  | n + 7, c, h => by omega
section
variable {D : Nat → Nat → Bool}
theorem last_row : ∀ (u : List Nat) (H : Nat → Nat) (o : Nat), ((Rw kd D ks4 H u).filter fun p => kd p.2 == o) = [] ∧ Sw kd D ks4 H u o = H o ∨
    ∃ l a, ((Rw kd D ks4 H u).filter fun p => kd p.2 == o) = l ++ [(Sw kd D ks4 H u o, a)] ∧ 1 ≤ Sw kd D ks4 H u o
  | [], H, o => .inl ⟨rfl, rfl⟩
  | c :: u, H, o => by
    have e : ((Rw kd D ks4 H (c :: u)).filter fun p => kd p.2 == o) = if (kd c == o) = true then (lev D ks4 H (kd c) + 1, c) :: ((Rw kd D ks4 (upd H (kd c) (lev D ks4 H (kd c) + 1)) u).filter fun p => kd p.2 == o) else ((Rw kd D ks4 (upd H (kd c) (lev D ks4 H (kd c) + 1)) u).filter fun p => kd p.2 == o) := List.filter_cons
    rw [e]
    have ih := last_row u (upd H (kd c) (lev D ks4 H (kd c) + 1)) o
    by_cases hk : kd c = o
    · subst hk
      rw [if_pos (by simp)]
      right
      rcases ih with ⟨h1, h2⟩ | ⟨l, a, h1, h2⟩
      · rw [upd_self] at h2
        refine ⟨[], c, ?_, ?_⟩
        · show _ = [] ++ [(Sw kd D ks4 (upd H (kd c) (lev D ks4 H (kd c) + 1)) u (kd c), c)]
          rw [h1, h2]; rfl
        · show 1 ≤ Sw kd D ks4 (upd H (kd c) (lev D ks4 H (kd c) + 1)) u (kd c)
          rw [h2]; omega
      · refine ⟨(lev D ks4 H (kd c) + 1, c) :: l, a, ?_, h2⟩
        rw [h1]; rfl
    · rw [if_neg (by simpa using hk)]
      rw [upd_ne (Ne.symm hk)] at ih
      exact ih
theorem Sw_le : ∀ (u : List Nat) (H : Nat → Nat) (n : Nat), (∀ o, H o ≤ n) → ∀ o, Sw kd D ks4 H u o ≤ n + u.length
  | [], H, n, h, o => h o
  | c :: u, H, n, h, o => by
    have hl : lev D ks4 H (kd c) ≤ n := by
      rcases levF_or (D := D) (H := H) (k := kd c) ks4 0 with e | ⟨o, _, _, e⟩
      · show levF D H (kd c) ks4 0 ≤ n; rw [e]; exact Nat.zero_le _
      · show levF D H (kd c) ks4 0 ≤ n; rw [e]; exact h o
    have := Sw_le u (upd H (kd c) (lev D ks4 H (kd c) + 1)) (n + 1) (fun o => by
      by_cases e : o = kd c
      · subst e; rw [upd_self]; omega
      · rw [upd_ne e]; have := h o; omega) o
    show Sw kd D ks4 _ u o ≤ n + (u.length + 1)
    omega
theorem lev_le {H : Nat → Nat} {n k : Nat} (h : ∀ o, H o ≤ n) : lev D ks4 H k ≤ n := by
  rcases levF_or (D := D) (H := H) (k := k) ks4 0 with e | ⟨o, _, _, e⟩
  · show levF D H k ks4 0 ≤ n; rw [e]; exact Nat.zero_le _
  · show levF D H k ks4 0 ≤ n; rw [e]; exact h o
theorem Rw_le : ∀ (u : List Nat) (H : Nat → Nat) (n : Nat), (∀ o, H o ≤ n) → ∀ p ∈ Rw kd D ks4 H u, p.1 ≤ n + u.length
  | c :: u, H, n, h, p, hp => by
    have hl : lev D ks4 H (kd c) ≤ n := lev_le h
    rcases List.mem_cons.mp hp with rfl | hp
    · show lev D ks4 H (kd c) + 1 ≤ n + (u.length + 1); omega
    · have := Rw_le u (upd H (kd c) (lev D ks4 H (kd c) + 1)) (n + 1) (fun o => by
        by_cases e : o = kd c
        · subst e; rw [upd_self]; omega
        · rw [upd_ne e]; have := h o; omega) p hp
      show p.1 ≤ n + (u.length + 1)
      omega
noncomputable def topL (D : Nat → Nat → Bool) (H : Nat → Nat) (k o : Nat) : List Str := if D k o = true then (if H o = 0 then [] else [dots (H o + 1)]) else []
noncomputable def topsL (D : Nat → Nat → Bool) (H : Nat → Nat) (k : Nat) (l : List Nat) : List Str := dots 1 :: l.flatMap (topL D H k)
theorem tops_max {H : Nat → Nat} {k : Nat} {x : Str} (hx : x ∈ topsL D H k ks4) (hm : ∀ y ∈ topsL D H k ks4, y.length ≤ x.length) : x = dots (lev D ks4 H k + 1) := by
  have shape : ∀ y ∈ topsL D H k ks4, ∃ m, y = dots (m + 1) ∧ m ≤ lev D ks4 H k := by
    intro y hy
    rcases List.mem_cons.mp hy with rfl | hy
    · exact ⟨0, rfl, Nat.zero_le _⟩
    · obtain ⟨o, ho, hy⟩ := List.mem_flatMap.mp hy
      unfold topL at hy
      split at hy
      · rename_i hd
        split at hy
        · simp at hy
        · simp at hy
          exact ⟨H o, hy, levF_mem hd _ _ ho⟩
      · simp at hy
  have top : dots (lev D ks4 H k + 1) ∈ topsL D H k ks4 := by
    rcases levF_or (D := D) (H := H) (k := k) ks4 0 with e | ⟨o, ho, hd, e⟩
    · have e : lev D ks4 H k = 0 := e
      rw [e]; exact List.mem_cons_self
    · have e : lev D ks4 H k = H o := e
      by_cases hz : H o = 0
      · rw [e, hz]; exact List.mem_cons_self
      · refine List.mem_cons_of_mem _ (List.mem_flatMap.mpr ⟨o, ho, ?_⟩)
        unfold topL
        rw [if_pos hd, if_neg hz, e]
        simp
  obtain ⟨m, rfl, hle⟩ := shape x hx
  have := hm _ top
  rw [dots_len, dots_len] at this
  have : m = lev D ks4 H k := by omega
  rw [this]
theorem tops_len {H : Nat → Nat} {k : Nat} (l : List Nat) : (topsL D H k l).length ≤ l.length + 1 := by
  unfold topsL
  rw [List.length_cons]
  have : ∀ l : List Nat, (l.flatMap (topL D H k)).length ≤ l.length := by
    intro l
    induction l with
    | nil => simp
    | cons o r ih =>
      rw [List.flatMap_cons, List.length_append, List.length_cons]
      have : (topL D H k o).length ≤ 1 := by unfold topL; split <;> (try split) <;> simp
      omega
  have := this l
  omega
end
theorem isStr_of {v : Value} {x : Str} (h : v.isStr x = true) : ∃ t, v = .str x t := by
  cases v <;> first | (rename_i y t; exact ⟨t, by rw [eq_of_beq (show (y == x) = true from h)]⟩) | cases h
section
variable {w : World} {A : Around} {s : Shared} {env : Env} {Q : Value → Shared → Prop}
theorem quoteN {n : Nat} {t : Tok} (R : Room A 1) (T : YP w s.heap) (hg : s.gens = #[]) (h1 : 1 ≤ n) (h5 : n ≤ 5) (h : ∀ s' t', Ext s s' → Q (.str (dots (n + 1)) t') s') : WP w A (call (.ref 116) [.str (dots n) t]) Q s := by
  obtain ⟨hp, g, d, tk, os⟩ := s
  dsimp only at hg
  subst hg
  have fin : ∀ {x : Str} (v : Value) (s' : Shared), v.isStr x = true ∧ Ext ⟨hp, #[], d, tk, os⟩ s' → x = dots (n + 1) → Q v s' := fun v s' q e => by
    obtain ⟨t', rfl⟩ := isStr_of q.1
    subst e
    exact h s' t' q.2
  refine R.leaf ?_
  match n, h1, h5 with
  | 1, _, _ => exact (quote1 (t := t) (kf_in T)).mono fun v s' q => fin v s' q rfl
  | 2, _, _ => exact (quote2 (t := t) (kf_in T)).mono fun v s' q => fin v s' q rfl
  | 3, _, _ => exact (quote3 (t := t) (kf_in T)).mono fun v s' q => fin v s' q rfl
  | 4, _, _ => exact (quote4 (t := t) (kf_in T)).mono fun v s' q => fin v s' q rfl
  | 5, _, _ => exact (quote5 (t := t) (kf_in T)).mono fun v s' q => fin v s' q rfl
theorem extend_ {P b : Addr} {items its2 : Array Value} (hl : s.heap.PlainList P items) (hb : s.heap.PlainList b its2) (hsz : items.size + its2.size ≤ 1000) (h : ∀ s', But P s s' → s'.heap.PlainList P (items ++ its2) → Q .none s') :
    WP w A (call (.builtin "list.extend") [.ref P, .ref b]) Q s := by
  obtain ⟨n, hm⟩ := hl
  obtain ⟨n2, hb⟩ := hb
  have hsz' : items.size + its2.size ≤ sizeLine := Nat.le_trans hsz (by decide +kernel)
  refine call_meets PySem.F.slot_list_extend ⟨_, hm, rfl⟩ PySem.F.entry_list_extend (PySem.F.args_list_extend_2 _ _) (AutoSeq1.list_extend_list_list_0 P items n b its2 n2 (extend_door hsz') (Nat.le_trans (Nat.le_add_right _ _) hsz')) ⟨hm, hb, ?_⟩
  exact h _ upd_but ⟨_, get?_update_seq hm fun x => x ++ its2⟩
theorem cutS {value : Expr} {lower upper : Option Expr} {p pos : Pos}
    (h : WP w A (eval value env) (fun o s₁ => WP w A (evalPart lower env) (fun vl s₂ => WP w A (evalPart upper env) (fun vu s₃ => ∃ x t l u, o = .str x t ∧ vl = partValue l ∧ vu = partValue u ∧ x.length ≤ 1000 ∧
      ∀ s' t', Ext s₃ s' → Q (.str (Txt.slice x (l.map (·.1)) (u.map (·.1))) t') s') s₂) s₁) s)
    (ht : ∀ o r, letTemporaryGo value o r = pure () := by intro _ _; rfl) :
    WP w A (eval (.Subscript value (.Slice lower upper none p) pos) env) Q s := by
  refine wpAny_Subscript_str_slice (wpAny_mono h (fun o s₁ h₁ => wpAny_mono h₁ (fun vl s₂ h₂ => wpAny_mono h₂ (fun vu s₃ h₃ => ?_) fun _ _ e => e) fun _ _ e => e) fun _ _ e => e) ht
  obtain ⟨x, t, l, u, rfl, rfl, rfl, hx, hQ⟩ := h₃
  refine ⟨x, t, l, u, rfl, rfl, rfl, post_val_or_str ⟨Nat.le_trans (Txt.slice_le x _ _) (Nat.le_trans hx (by decide +kernel)), fun t' k => hQ _ t' ⟨fun _ _ e => Heap.get?_push_of_some _ e, rfl, rfl, rfl⟩⟩⟩
end
end Mine
end
section
open PySem PySem.W PySem.Calls PyProof.Rows PySem.W.X PySem.W.XRun
set_option Elab.async false
set_option maxRecDepth 100000
set_option maxHeartbeats 0
set_option linter.unusedVariables false
namespace Mine
section
variable {w : World} {A : Around} {s : Shared} {env : Env} {Q : Value → Shared → Prop} {x l : Addr} {D : Nat → Nat → Bool} {u : List Nat} {L o : Nat} {t : Tok}
theorem plus1 (h : ∀ p ∈ Rw kd D ks4 H0 u, p.1 ≤ 6) {o : Nat} : ∀ {a : Nat × Nat} {l : List (Nat × Nat)}, ((Rw kd D ks4 H0 u).filter fun p => kd p.2 == o) = l ++ [a] → a.1 ≤ 6 := fun {a l} e =>
  h a (List.mem_filter.mp (by rw [e]; exact List.mem_append_right _ (List.mem_singleton.mpr rfl))).1
theorem Paired.snocInv {α β : Type} {F : α → β → Prop} : ∀ {l : List α} {a : α} {m : List β}, Paired F (l ++ [a]) m → ∃ m' b, m = m' ++ [b] ∧ F a b
  | [], a, _, .cons h .nil => ⟨[], _, rfl, h⟩
  | c :: l, a, _, .cons (b := d) h t => by
    obtain ⟨m', b, e, k⟩ := Paired.snocInv t
    exact ⟨d :: m', b, by rw [e]; rfl, k⟩
theorem bKw {id : String} {xm kw : Str} {pm pos kp : Pos} {e ek : Expr} (hn : ∀ Q' : Value → Shared → Prop, Q' (.builtin id) s → WP w A (eval (.Name xm pm) env) Q' s)
    (h : WP w A (eval e env) (fun v s₁ => WP w A (eval ek env) (fun k s₂ => WP w A (call (.builtin id) [v] [(kw, k)]) Q s₂) s₁) s)
    (hs : starEach [e] env = [(false, eval e env)] := by kernel_rfl!) :
    WP w A (eval (.Call (.Name xm pm) [e] [⟨some kw, ek, kp⟩] pos) env) Q s := by
  refine wpAny_Call_Name_kw (hn _ ?_)
  rw [hs]
  refine callWith_builtin_kwB rfl rfl (evalArgs_kwB rfl (Calls.spliced_cons (wpAny_mono h (fun v s₁ h₁ => Calls.spliced_nil ?_) fun _ _ e => e)))
  show wpAny _ _ (evalAll [do let v ← eval ek env; standAt pos; pure v]) _ _ _
  unfold evalAll
  refine wpAny_bind (wpAny_bind (wpAny_mono h₁ (fun u s₂ h₂ => ?_) fun _ _ e => e))
  refine wpAny_bind (wpAny_standAt (wpAny_pure ?_))
  refine wpAny_bind (wpAny_holding ?_)
  unfold evalAll
  exact wpAny_pure (wpAny_pure h₂)
theorem rowS_inj {p q : Nat × Nat} (h : rowS p = rowS q) : p = q := by
  have e : rowL p = rowL q := by
    have := congrArg (fun x : Str => x.cps.toList) h
    simpa [rowS] using this
  rw [← unrow_row p, e, unrow_row]
theorem rowS_len (p : Nat × Nat) : (rowS p).length = p.1 + 2 := by
  show (rowL p).toArray.size = _
  unfold rowL
  simp
theorem rowS_chars (p : Nat × Nat) (hc : 256 ≤ p.2) (i : Nat) (hi : i < (rowS p).cps.size) : (rowS p).cps.getD i 0 = 46 ∨ 256 ≤ (rowS p).cps.getD i 0 := by
  have hi' : i < (rowL p).length := by have : (rowS p).cps.size = (rowL p).length := by simp [rowS]
                                       omega
  have e : (rowS p).cps.getD i 0 = (rowL p)[i] := by
    have : i < (rowS p).cps.size := hi
    rw [Array.getD_eq_getD_getElem?, Array.getElem?_eq_getElem this]
    simp [rowS]
  rw [e]
  have hm : (rowL p)[i] ∈ rowL p := List.getElem_mem hi'
  generalize (rowL p)[i] = z at hm
  unfold rowL at hm
  rcases List.mem_append.mp hm with hm | hm
  · exact .inl (List.eq_of_mem_replicate hm)
  · exact .inr (by rw [List.mem_singleton.mp hm]; exact hc)
theorem StrsAre.append {a b : List Value} {x y : List Str} (h : StrsAre a x) (k : StrsAre b y) : StrsAre (a ++ b) (x ++ y) := by
  induction h with
  | nil => exact k
  | cons z t h ih => exact .cons z t ih
theorem cw1 {pos : Pos} {a : Addr} {o : Obj} {fd : FuncData} {first : List Value} {x : Sem Value} (hd : o.data = .func fd)
    (h : WP w A x (fun v s₁ => s₁.heap.get? a = some o ∧ WP w A (call (.ref a) (first ++ [v])) Q s₁) s) :
    WP w A (callWith pos (.ref a) first [(false, x)] []) Q s :=
  Calls.callWith_function (o := o) (fd := fd) (Calls.evalArgs_plain (Calls.spliced_cons (wpAny_mono h (fun v s₁ h₁ => Calls.spliced_nil ⟨⟨h₁.1, hd⟩, h₁.2⟩) fun _ _ e => e)))
theorem cw2 {pos : Pos} {a : Addr} {o : Obj} {fd : FuncData} {first : List Value} {x y : Sem Value} (hd : o.data = .func fd)
    (h : WP w A x (fun v s₁ => WP w A y (fun u s₂ => s₂.heap.get? a = some o ∧ WP w A (call (.ref a) (first ++ [v, u])) Q s₂) s₁) s) :
    WP w A (callWith pos (.ref a) first [(false, x), (false, y)] []) Q s :=
  Calls.callWith_function (o := o) (fd := fd) (Calls.evalArgs_plain (Calls.spliced_cons (wpAny_mono h (fun v s₁ h₁ => Calls.spliced_cons (wpAny_mono h₁ (fun u s₂ h₂ => Calls.spliced_nil ⟨⟨h₂.1, hd⟩, h₂.2⟩) fun _ _ e => e)) fun _ _ e => e)))
theorem Fm.own_not_seq {lo : List (Str × Value)} (F : Fm env lo s) {a : Addr} {o : Obj} {its : Array Value} {n : Nat} (e : s.heap.get? a = some o) (d : o.data = .seq its n) : ¬ Own env a := fun h => by
  rcases h with h | ⟨nm, h⟩
  · obtain ⟨m, ⟨o', es, ep, e', d', r⟩, b⟩ := F.rd.ns
    rw [← h, e] at e'; cases e'; rw [d] at d'; cases d'
  · obtain ⟨u, o', e', d'⟩ := F.has nm a h
    rw [e] at e'; cases e'; rw [d] at d'; cases d'
theorem plain_step {lo : List (Str × Value)} {s' : Shared} {a : Addr} {i : Array Value} (x : s.heap.PlainList a i) (F : Fm env lo s) (st : Step env s s') : s'.heap.PlainList a i :=
  let ⟨n, e⟩ := x; ⟨n, st.keep _ _ (F.own_not_seq (n := n) e rfl) e⟩
theorem Strs.step {lo : List (Str × Value)} {s' : Shared} {a : Addr} {ss : List Str} (x : Strs s.heap a ss) (F : Fm env lo s) (st : Step env s s') : Strs s'.heap a ss := let ⟨vs, e, p⟩ := x; ⟨vs, plain_step e F st, p⟩
theorem RowAt.step {lo : List (Str × Value)} {s' : Shared} {v : Value} {r : Nat × Str} (x : RowAt s.heap v r) (F : Fm env lo s) (st : Step env s s') : RowAt s'.heap v r :=
  let ⟨a, t, u, e, o, y, c, n, d⟩ := x.ex; ⟨a, t, u, e, o, st.keep _ _ (F.own_not_seq y d) y, c, n, d⟩
theorem RowsAt.step {lo : List (Str × Value)} {s' : Shared} {l : Addr} {rows : List (Nat × Str)} (x : RowsAt s.heap l rows) (F : Fm env lo s) (st : Step env s s') : RowsAt s'.heap l rows :=
  let ⟨i, e, p⟩ := x.ex; ⟨i, plain_step e F st, Paired.imp (fun _ _ y => y.step F st) p⟩
theorem Strs.but {s' : Shared} {a b : Addr} {ss : List Str} (x : Strs s.heap a ss) (e : But b s s') (ne : a ≠ b) : Strs s'.heap a ss := x.kp fun o h => e.keep _ _ ne h
theorem RowAt.but {s' : Shared} {v : Value} {r : Nat × Str} {b : Addr} {i : Array Value} (x : RowAt s.heap v r) (hb : s.heap.PlainList b i) (e : But b s s') : RowAt s'.heap v r := by
  obtain ⟨a, t, u, ev, o, y, c, n, d⟩ := x.ex
  exact ⟨a, t, u, ev, o, e.keep _ _ (fun z => by
    subst z
    obtain ⟨m, hm⟩ := hb
    rw [y] at hm; cases hm; simp at c) y, c, n, d⟩
theorem RowsAt.but {s' : Shared} {l b : Addr} {rows : List (Nat × Str)} {i : Array Value} (x : RowsAt s.heap l rows) (hb : s.heap.PlainList b i) (e : But b s s') (ne : l ≠ b) : RowsAt s'.heap l rows :=
  let ⟨i, y, p⟩ := x.ex; ⟨i, y.at fun o h => e.keep _ _ ne h, Paired.imp (fun _ _ z => z.but hb e) p⟩
theorem Mv.then {W W' : Addr → Prop} {a b c : Shared} (x : Mv W a b) (y : Mv W' b c) (h : ∀ p, W' p → W p ∨ a.heap.get? p = none) : Mv W a c :=
  ⟨fun p o n e => y.keep p o (fun z => by
    rcases h p z with h | h
    · exact n h
    · rw [h] at e; cases e) (x.keep p o n e), y.gens.trans x.gens, y.drawn.trans x.drawn, y.os.trans x.os⟩
theorem lawHeap {wa ba : Addr} {bs : List Str} (R : Room A 9) (T : YP w s.heap) (hg : s.gens = #[]) (hw : Strs s.heap wa (u.map sg)) (hu : ∀ c ∈ u, c ∈ signs) (hz : u.length ≤ 5) (hb : Strs s.heap ba bs)
    (hbs : ∀ x ∈ ks4, ∀ y ∈ ks4, (bs.any (· == ⟨#[x, y]⟩)) = D x y)
    (h : ∀ x l s', Ext s s' → HI (fun a => ∃ o, s.heap.get? a = some o) s'.heap x l → RowsAt s'.heap l ((Rw kd D ks4 H0 u).map hrow) → Q (.ref x) s') :
    WP w A (call (.ref 276) [.ref wa, .ref ba]) Q s := by
  refine callC (fd := fd276) (body := fnB (top 23)) (n := 8) [("word", .ref wa), ("bound", .ref ba)] R T (T _ _ (fo276 w)) rfl rfl (fc276 T) (by kernel_rfl!) (fun L => by kernel_rfl!) fun L s₁ x₁ f F T₁ R₁ => ?_
  conv in (fnB (top 23)) => whnf
  refine wpAny_execs_cons (wpAny_Assign_Name (c0h (fun Q' q => eG T₁ (by kernel_rfl!) q) T₁ (hdrsN (R₁.le (by decide)) T₁ (x₁.gens.trans hg) fun x l s₂ x₂ I₂ l₂ fl => ?_)) (by kernel_rfl!))
  have F₂ := F.keeps x₂
  have nl : ¬ Own (envC fd276 L 276) l := F.not_own fl
  refine sN F₂ fun s₃ x₃ F₃ => ?_
  dsimp only
  have e₃ : Ext s s₃ := (x₁.trans x₂).step x₃ f
  have I₃ : HI (fun a => Own (envC fd276 L 276) a ∨ ∃ o, s.heap.get? a = some o) s₃.heap x l := (HI.of I₂ (fun a ha hn => by
    rcases hn with hn | ⟨o, hn⟩
    · exact F.not_own ha hn
    · rw [x₁.keep _ _ hn] at ha; cases ha)).step x₃ fun _ h => .inl h
  have l₃ := l₂.at fun o e => x₃.keep _ _ nl e
  refine wpAny_execs_cons (forL (fun b => Own (envC fd276 L 276) b ∨ b = l) (fun i s' => Fm (envC fd276 L 276) [("heap", .ref x), ("bound", .ref ba), ("word", .ref wa)] s' ∧ HI (fun a => Own (envC fd276 L 276) a ∨ ∃ o, s.heap.get? a = some o) s'.heap x l ∧ RowsAt s'.heap l ((Rw kd D ks4 H0 (u.take i)).map hrow)) (eN F₃.rd (lk_next (by kernel_rfl!) (lk_next (by kernel_rfl!) lk_here)) ?_))
  obtain ⟨vs, pv, hv⟩ := hw
  refine ⟨_, _, _, wk2_list R₁.hd (pv.at fun o e => e₃.keep _ _ e).isList, fun b hb => ?_, ⟨F₃.sub (sub_cons lk_here (sub_cons (lk_next (by kernel_rfl!) lk_here) (sub_cons (lk_next (by kernel_rfl!) (lk_next (by kernel_rfl!) lk_here)) sub_nil))), I₃, ⟨_, l₃, .nil⟩⟩, fun i s' s'' j k => ⟨j.1.kt k, j.2.1.kt k, j.2.2.kt k⟩, fun i v s' hi hP m j => ?_, fun s' m j => ?_⟩
  · rcases hb with hb | rfl
    · exact ⟨by rw [List.mem_singleton]; exact fun z => (f.not_own pv.isList.choose_spec.1) (z ▸ hb), F₃.own hb⟩
    · exact ⟨by rw [List.mem_singleton]; exact fun z => (by obtain ⟨n, e⟩ := pv; rw [← z, none_back x₁ fl] at e; cases e), PlainList.some l₃⟩
  · have hv' : vs[i]? = some v := by simpa using hP
    obtain ⟨y, t, rfl, hy⟩ := strs_get hv i v hv'
    obtain ⟨c, hc, rfl⟩ : ∃ c, u[i]? = some c ∧ sg c = y := by simpa using hy
    have hcs := hu c (List.mem_of_getElem? hc)
    obtain ⟨jF, jI, jR⟩ := j
    have wf : ∀ a, (Own (envC fd276 L 276) a ∨ a = l) → s.heap.get? a = none := fun a ha => by
      rcases ha with ha | rfl
      · exact f a ha
      · exact none_back x₁ fl
    have eA : Ext s s' := e₃.then m wf
    have lenR : ((Rw kd D ks4 H0 (u.take i)).map hrow).length ≤ 5 := by rw [List.length_map, Rw_len, List.length_take]; omega
    refine wpAny_assign_Name (sN jF fun s₅ x₅ F₅ => ?_)
    have e₅ : Ext s s₅ := eA.step x₅ f
    have I₅ := jI.step x₅ fun _ h => .inl h
    have R₅ : RowsAt s₅.heap l ((Rw kd D ks4 H0 (u.take i)).map hrow) := jR.step jF x₅
    refine wpAny_execs_cons (wpAny_Assign_Name (c1f (a := 271) (fun Q' q => eG (T.keeps e₅) (by kernel_rfl!) q) rfl (eN F₅.rd lk_here ⟨T.keeps e₅ _ _ (fo271 w), kindOf (R₁.le (by decide)) (T.keeps e₅) hcs fun s₆ t₆ x₆ => ?_⟩)) (by kernel_rfl!))
    refine sN (F₅.keeps x₆) fun s₇ x₇ F₇ => ?_
    dsimp only
    have e₇ : Ext s s₇ := (e₅.trans x₆).step x₇ f
    have I₇ := (I₅.keeps x₆).step x₇ (fun _ h => .inl h)
    have R₇ := (R₅.kp x₆.keep).step (F₅.keeps x₆) x₇
    refine wpAny_execs_cons (wpAny_Assign_Name (List_ (args_cons (wpAny_Constant_str (args_nil (wpAny_newList ?_))) (by kernel_rfl!))) (by kernel_rfl!))
    have fP := fresh_at s₇
    generalize hs8 : ({ heap := s₇.heap.push { cls := .type "list", data := .seq ([.str (Str.ofString ".") s₇.toks] : List Value).toArray }, gens := s₇.gens, drawn := s₇.drawn, toks := s₇.toks + 1, os := s₇.os } : Shared) = s₈
    have x₈ : Ext s₇ s₈ := by subst hs8; exact ⟨fun _ _ e => Heap.get?_push_of_some _ e, rfl, rfl, rfl⟩
    have p₈ : Strs s₈.heap s₇.heap.objs.size (topsL D (Sw kd D ks4 H0 (u.take i)) (kd c) (ks4.take 0)) := by subst hs8; exact ⟨_, ⟨_, Heap.get?_push_size _ rfl⟩, .cons _ _ .nil⟩
    generalize s₇.heap.objs.size = P at fP p₈ ⊢
    clear hs8
    refine sN (F₇.keeps x₈) fun s₉ x₉ F₉ => ?_
    dsimp only
    have e₉ : Ext s s₉ := (e₇.trans x₈).step x₉ f
    have p₉ := p₈.step (F₇.keeps x₈) x₉
    have I₉ := (I₇.keeps x₈).step x₉ (fun _ h => .inl h)
    have R₉ := (R₇.kp x₈.keep).step (F₇.keeps x₈) x₉
    have lP : l ≠ P := fun z => by
      obtain ⟨i, ⟨n, e⟩, _⟩ := R₇.ex
      rw [← z, e] at fP; cases fP
    have fPs : s.heap.get? P = none := none_back e₇ fP
    refine wpAny_execs_cons (forL (fun b => Own (envC fd276 L 276) b ∨ b = P) (fun q s' => Fm (envC fd276 L 276) [("tops", .ref P), ("kind", .str ⟨#[kd c]⟩ t₆), ("sign", .str ⟨#[c]⟩ t), ("heap", .ref x), ("bound", .ref ba), ("word", .ref wa)] s' ∧ HI (fun a => Own (envC fd276 L 276) a ∨ ∃ o, s.heap.get? a = some o) s'.heap x l ∧
      RowsAt s'.heap l ((Rw kd D ks4 H0 (u.take i)).map hrow) ∧ Strs s'.heap P (topsL D (Sw kd D ks4 H0 (u.take i)) (kd c) (ks4.take q))) (wpAny_Constant_str ?_))
    refine ⟨_, _, _, wk2_ascii R₁.hd (by decide +kernel), fun b hb => ⟨by simp, ?_⟩, ⟨(F₉.keeps (Ext.toks _ _)).sub ?_, I₉, R₉, p₉⟩, fun i s' s'' j k => ⟨j.1.kt k, j.2.1.kt k, j.2.2.1.kt k, j.2.2.2.kt k⟩, fun q v s₁₀ hq hP' m₁₀ j => ?_, fun s₁₀ m₁₀ j => ?_⟩
    · rcases hb with hb | rfl
      · exact F₉.own hb
      · exact p₉.some
    · exact sub_cons lk_here (sub_cons (lk_next (by kernel_rfl!) lk_here) (sub_cons (lk_next (by kernel_rfl!) (lk_next (by kernel_rfl!) lk_here)) (sub_cons (lk_next (by kernel_rfl!) (lk_next (by kernel_rfl!) (lk_next (by kernel_rfl!) lk_here))) (sub_cons (lk_next (by kernel_rfl!) (lk_next (by kernel_rfl!) (lk_next (by kernel_rfl!) (lk_next (by kernel_rfl!) lk_here)))) (sub_cons (lk_next (by kernel_rfl!) (lk_next (by kernel_rfl!) (lk_next (by kernel_rfl!) (lk_next (by kernel_rfl!) (lk_next (by kernel_rfl!) lk_here))))) sub_nil)))))
    · have hcp : (Str.ofString "pqrs").cps = #[112, 113, 114, 115] := by decide +kernel
      obtain ⟨o, t₇, ho, rfl⟩ := hP'
      have ho' : ks4[q]? = some o := by rw [hcp] at ho; simpa using ho
      have hom : o ∈ ks4 := List.mem_of_getElem? ho'
      obtain ⟨kF, kI, kR, kP⟩ := j
      have wf2 : ∀ a, (Own (envC fd276 L 276) a ∨ a = P) → s.heap.get? a = none := fun a ha => by
        rcases ha with ha | rfl
        · exact f a ha
        · exact fPs
      have e₁₀ : Ext s s₁₀ := (e₉.trans (Ext.toks _ _)).then m₁₀ wf2
      refine wpAny_assign_Name (sN kF fun s₁₁ x₁₁ F₁₁ => ?_)
      have e₁₁ : Ext s s₁₁ := e₁₀.step x₁₁ f
      have I₁₁ := kI.step x₁₁ fun _ h => .inl h
      have R₁₁ := kR.step kF x₁₁
      have P₁₁ := kP.step kF x₁₁
      obtain ⟨bv, pb, hbv⟩ := hb
      refine wpAny_execs_cons (WIf (wpAny_isTrue_Compare1 (wpAny_BinOp (eN F₁₁.rd (lk_next (by kernel_rfl!) (lk_next (by kernel_rfl!) lk_here)) (eN F₁₁.rd lk_here (SB.add (fun t₁₂ k₁₂ => ?_) (by show 1 + 1 ≤ sizeLine; decide +kernel))))) (by kernel_rfl!)))
      refine eN (F₁₁.keeps (Ext.toks _ _)).rd (lk_next (by kernel_rfl!) (lk_next (by kernel_rfl!) (lk_next (by kernel_rfl!) (lk_next (by kernel_rfl!) (lk_next (by kernel_rfl!) lk_here))))) ?_
      refine in_list_strs (pb.at fun o e => e₁₁.keep _ _ e).isList hbv ?_
      have hD : (bs.any fun x => x == (⟨#[kd c]⟩ ++ ⟨#[o]⟩ : Str)) = D (kd c) o := hbs (kd c) (kd_mem c) o hom
      rw [hD]
      have x₁₂ : Ext s₁₁ { s₁₁ with toks := k₁₂ } := Ext.toks _ _
      generalize hs12 : ({ s₁₁ with toks := k₁₂ } : Shared) = s₁₂ at x₁₂ ⊢
      clear hs12
      have e₁₂ := e₁₁.trans x₁₂
      have F₁₂ := F₁₁.keeps x₁₂
      have I₁₂ := I₁₁.keeps x₁₂
      have R₁₂ := R₁₁.kp x₁₂.keep
      have P₁₂ := P₁₁.keeps x₁₂
      have tk : topsL D (Sw kd D ks4 H0 (u.take i)) (kd c) (ks4.take (q + 1)) = topsL D (Sw kd D ks4 H0 (u.take i)) (kd c) (ks4.take q) ++ topL D (Sw kd D ks4 H0 (u.take i)) (kd c) o := by
        unfold topsL
        rw [List.take_add_one, ho', List.flatMap_append]
        simp
      have subF : ∀ {s' : Shared}, Fm (envC fd276 L 276) (("other", .str ⟨#[o]⟩ t₇) :: [("tops", .ref P), ("kind", .str ⟨#[kd c]⟩ t₆), ("sign", .str ⟨#[c]⟩ t), ("heap", .ref x), ("bound", .ref ba), ("word", .ref wa)]) s' →
          Fm (envC fd276 L 276) [("tops", .ref P), ("kind", .str ⟨#[kd c]⟩ t₆), ("sign", .str ⟨#[c]⟩ t), ("heap", .ref x), ("bound", .ref ba), ("word", .ref wa)] s' := fun F => F.sub (sub_cons (lk_next (by kernel_rfl!) lk_here) (sub_cons (lk_next (by kernel_rfl!) (lk_next (by kernel_rfl!) lk_here)) (sub_cons (lk_next (by kernel_rfl!) (lk_next (by kernel_rfl!) (lk_next (by kernel_rfl!) lk_here))) (sub_cons (lk_next (by kernel_rfl!) (lk_next (by kernel_rfl!) (lk_next (by kernel_rfl!) (lk_next (by kernel_rfl!) lk_here)))) (sub_cons (lk_next (by kernel_rfl!) (lk_next (by kernel_rfl!) (lk_next (by kernel_rfl!) (lk_next (by kernel_rfl!) (lk_next (by kernel_rfl!) lk_here))))) (sub_cons (lk_next (by kernel_rfl!) (lk_next (by kernel_rfl!) (lk_next (by kernel_rfl!) (lk_next (by kernel_rfl!) (lk_next (by kernel_rfl!) (lk_next (by kernel_rfl!) lk_here)))))) sub_nil))))))
      refine wpAny_truthy_bool ⟨fun hd => ?_, fun hd => ?_⟩
      · refine wpAny_execs_cons (wpAny_Expr ?_)
        obtain ⟨pvs, ppl, pst⟩ := P₁₂
        refine lM PySem.F.slot_list_extend PySem.F.type_list_extend (eN F₁₂.rd (lk_next (by kernel_rfl!) lk_here) ⟨P, _, rfl, ppl, ?_⟩)
        refine lC (fun _ => true) (fun v y => ∀ p t, p.1 ≤ 6 → v = .str (rowS p) t → ∃ t', y = .str (dots (p.1 + 1)) t') (F₁₂.rd.sub sub_nil) ?_
        refine subLS ?_
        refine mI (f := 199) (by decide +kernel) (fun w => (by kernel_rfl!)) (fun w => (by kernel_rfl!)) (eN F₁₂.rd (lk_next (by kernel_rfl!) (lk_next (by kernel_rfl!) (lk_next (by kernel_rfl!) (lk_next (by kernel_rfl!) lk_here)))) ⟨x, l, rfl, T.keeps e₁₂, I₁₂.inst, ?_⟩)
        refine cw1 (o := ⟨.type "function", none, .func fd199, ⟨[]⟩⟩) (fd := fd199) rfl ?_
        refine Call_method0 (by kernel_rfl!) (by kernel_rfl!) (eN F₁₂.rd lk_here (SB.upper (by rw [upLow o hom]; rfl) ?_))
        rw [upLow o hom]
        refine ⟨T.keeps (e₁₂.trans (Ext.toks _ _)) _ _ (fo199 w), ?_⟩
        have hRle : ∀ p ∈ Rw kd D ks4 H0 (u.take i), p.1 ≤ 5 := fun p hp => by
          have := Rw_le (D := D) (u.take i) H0 0 (fun _ => Nat.le_refl _) p hp
          rw [List.length_take] at this
          omega
        refine getAll (rows := (Rw kd D ks4 H0 (u.take i)).map hrow) (R₁.le (by decide)) (T.keeps (e₁₂.trans (Ext.toks _ _))) I₁₂.inst R₁₂ (fun r hr => ?_) (by omega) ?_ fun G ys s₁₃ x₁₃ fG hG pG => ?_
        · obtain ⟨p, _, rfl⟩ := List.mem_map.mp hr
          exact kd_mem p.2
        · simp at hom
          rcases hom with rfl | rfl | rfl | rfl <;> decide
        have x₁₃' : Ext s₁₂ s₁₃ := (Ext.toks _ _).trans x₁₃
        have flt : ((Rw kd D ks4 H0 (u.take i)).map hrow).filter (fun r => r.1 == o - 32 + 32) = ((Rw kd D ks4 H0 (u.take i)).filter fun p => kd p.2 == o).map hrow := by
          rw [List.filter_map]
          congr 1
          have : o - 32 + 32 = o := by simp at hom; omega
          rw [this]; rfl
        rw [flt] at pG
        refine wpAny_evalPart_some (wpAny_UnaryOp (wpAny_Constant_int (neg_int ?_)))
        have hys : ys.size ≤ 5 := by
          have := Paired.length pG
          have h2 := List.length_filter_le (fun p => kd p.2 == o) (Rw kd D ks4 H0 (u.take i))
          rw [Rw_len, List.length_take] at h2
          rw [List.length_map] at this
          have e : ys.toList.length = ys.size := by simp
          omega
        refine wpAny_evalPart_none ⟨G, ys, some (-1), none, rfl, hG.isList, Nat.le_trans hys (by decide +kernel), .int _ _, .none, fun G2 s₁₄ x₁₄ fG2 hG2 => ?_⟩
        have hZ : slicePick ys (some (-1)) none none = (ys.toList.drop (ys.size - 1)).toArray := slicePick_last ys 1 (by decide)
        rw [hZ] at hG2
        obtain ⟨Z, eZ, hZc⟩ : ∃ Z : List Value, ys.toList.drop (ys.size - 1) = Z ∧ ((Sw kd D ks4 H0 (u.take i) o = 0 ∧ Z = []) ∨ (∃ a t₀, Z = [.str (rowS (Sw kd D ks4 H0 (u.take i) o, a)) t₀] ∧ 1 ≤ Sw kd D ks4 H0 (u.take i) o)) := by
          refine ⟨_, rfl, ?_⟩
          rcases last_row (D := D) (u.take i) H0 o with ⟨h1, h2⟩ | ⟨l', a, h1, h2⟩
          · left
            rw [h1] at pG
            refine ⟨h2, ?_⟩
            cases hyl : ys.toList with
            | nil => simp
            | cons q r => rw [hyl] at pG; cases pG
          · right
            rw [h1, List.map_append] at pG
            obtain ⟨m', b, e1, t₀, e2⟩ := Paired.snocInv pG
            refine ⟨a, t₀, ?_, h2⟩
            have : ys.size - 1 = m'.length := by
              have e : ys.toList.length = ys.size := by simp
              rw [← e, e1]; simp
            rw [this, e1, List.drop_left, e2]
            rfl
        rw [eZ] at hG2
        have hSle : Sw kd D ks4 H0 (u.take i) o ≤ 5 := by
          have := Sw_le (D := D) (u.take i) H0 0 (fun _ => Nat.le_refl _) o
          rw [List.length_take] at this
          omega
        refine ⟨Z.toArray.size, _, ((Ext.toks _ _).trans x₁₃').trans ((Ext.toks _ _).trans x₁₄), (wk2_list R₁.hd hG2.isList).wk, ?_, fun C i' v s₁₅ hv' k₁₅ F₁₅ => ct0 ⟨rfl, Ext.refl _⟩, fun C i' v s₁₅ hv' _ k₁₅ F₁₅ => ?_, fun G3 ys' s₁₅ vs' fG3 hG3 hlen hvs' hP₁₅ x₁₅ => ?_⟩
        · have : Z.length ≤ 1 := by rcases hZc with ⟨_, rfl⟩ | ⟨a, t₀, rfl, _⟩ <;> simp
          exact Nat.le_trans (show Z.toArray.size ≤ 1 by simpa using this) (by decide +kernel)
        · rcases hZc with ⟨_, rfl⟩ | ⟨a, t₀, rfl, _⟩
          · simp at hv'
          · obtain rfl : v = .str (rowS (Sw kd D ks4 H0 (u.take i) o, a)) t₀ := by
              cases i' with
              | zero => simpa using hv'.symm
              | succ k => simp at hv'
            refine cutS (eN F₁₅ lk_here (wpAny_evalPart_none (wpAny_evalPart_some (wpAny_UnaryOp (wpAny_Constant_int (neg_int ?_))))))
            refine ⟨_, t₀, none, some (-1, _), rfl, rfl, rfl, ?_, fun s' t' x => ⟨fun p tp hp e => ⟨t', ?_⟩, ⟨fun b o e => x.keep b o e, x.gens, x.drawn, x.os⟩⟩⟩
            · rw [rowS_len]; exact Nat.le_trans (Nat.add_le_add_right hSle 2) (by decide)
            · have ep : (Sw kd D ks4 H0 (u.take i) o, a) = p := rowS_inj (by injection e)
              subst ep
              show Value.str (Txt.slice (rowS _) none (some (-1))) t' = _
              rw [cut_row _ _ (Nat.le_succ_of_le hSle)]
        · have hvs'' : vs' = Z := by
            have := list_of_places hlen hvs'
            simpa using this
          subst hvs''
          rw [List.filter_eq_self.mpr (fun _ _ => rfl)] at hP₁₅
          have hys' : StrsAre ys'.toList (topL D (Sw kd D ks4 H0 (u.take i)) (kd c) o) := by
            unfold topL
            rw [if_pos hd]
            rcases hZc with ⟨hS0, rfl⟩ | ⟨a, t₀, rfl, hS1⟩
            · rw [if_pos hS0]
              cases e : ys'.toList with
              | nil => exact .nil
              | cons a b => rw [e] at hP₁₅; cases hP₁₅
            · rw [if_neg (by omega)]
              cases e : ys'.toList with
              | nil => rw [e] at hP₁₅; cases hP₁₅
              | cons y b =>
                rw [e] at hP₁₅
                cases hP₁₅ with
                | cons h1 h2 =>
                  cases h2
                  obtain ⟨t', rfl⟩ := h1 _ t₀ (Nat.le_succ_of_le hSle) rfl
                  exact .cons _ _ .nil
          have y₁₅ : Ext s₁₂ s₁₅ := (((Ext.toks _ _).trans x₁₃').trans ((Ext.toks _ _).trans x₁₄)).trans x₁₅
          have sz1 : pvs.length ≤ 5 := by
            rw [strs_len pst]
            have := tops_len (D := D) (H := Sw kd D ks4 H0 (u.take i)) (k := kd c) (ks4.take q)
            have h4 : (ks4.take q).length ≤ 4 := by rw [List.length_take]; exact Nat.min_le_right _ _
            omega
          have sz2 : ys'.size ≤ 1 := by
            have h1 := strs_len hys'
            have e : ys'.toList.length = ys'.size := by simp
            have : (topL D (Sw kd D ks4 H0 (u.take i)) (kd c) o).length ≤ 1 := by unfold topL; split <;> (try split) <;> simp
            omega
          have sz3 : pvs.toArray.size = pvs.length := by simp
          refine extend_ (ppl.at fun o e => y₁₅.keep _ _ e) hG3 (by omega) fun s₁₆ x₁₆ h₁₆ => ?_
          dsimp only
          refine wpAny_execs_nil ?_
          dsimp only
          refine wpAny_execs_nil ?_
          dsimp only
          have nP : ¬ Own (envC fd276 L 276) P := by
            obtain ⟨n, e⟩ := ppl
            exact F₁₂.own_not_seq (n := n) e rfl
          have pl₁₅ := ppl.at fun o e => y₁₅.keep _ _ e
          refine ⟨(x₁₁.mv fun a h => .inl h).trans ((x₁₂.trans y₁₅).mv.trans (x₁₆.mv (.inr rfl))), subF ((F₁₂.keeps y₁₅).but x₁₆ nP), (I₁₂.keeps y₁₅).but pl₁₅.isList x₁₆, (R₁₂.kp y₁₅.keep).but pl₁₅ x₁₆ lP, ?_⟩
          rw [tk]
          refine ⟨pvs ++ ys'.toList, ?_, StrsAre.append pst hys'⟩
          have : (pvs ++ ys'.toList).toArray = pvs.toArray ++ ys' := by simp
          rw [this]; exact h₁₆
      · refine wpAny_execs_nil ?_
        dsimp only
        refine wpAny_execs_nil ?_
        dsimp only
        refine ⟨(x₁₁.mv fun a h => .inl h).trans x₁₂.mv, subF F₁₂, I₁₂, R₁₂, ?_⟩
        rw [tk]
        have : topL D (Sw kd D ks4 H0 (u.take i)) (kd c) o = [] := by unfold topL; rw [if_neg (by rw [hd]; decide)]
        rw [this, List.append_nil]
        exact P₁₂
    · obtain ⟨kF, kI, kR, kP⟩ := j
      have wf2 : ∀ a, (Own (envC fd276 L 276) a ∨ a = P) → s.heap.get? a = none := fun a ha => by
        rcases ha with ha | rfl
        · exact f a ha
        · exact fPs
      have e₁₀ : Ext s s₁₀ := (e₉.trans (Ext.toks _ _)).then m₁₀ wf2
      dsimp only
      refine wpAny_execs_cons (wpAny_Expr ?_)
      refine mI (f := 257) (by decide +kernel) (fun w => (by kernel_rfl!)) (fun w => (by kernel_rfl!)) (eN kF.rd (lk_next (by kernel_rfl!) (lk_next (by kernel_rfl!) (lk_next (by kernel_rfl!) lk_here))) ⟨x, l, rfl, T.keeps e₁₀, kI.inst, ?_⟩)
      refine cw2 (o := ⟨.type "function", none, .func fd257, ⟨[]⟩⟩) (fd := fd257) rfl ?_
      refine eN kF.rd (lk_next (by kernel_rfl!) lk_here) ?_
      refine wpAny_BinOp ?_
      refine c1f (a := 116) (o := ⟨.type "function", none, .func fd116, ⟨[]⟩⟩) (fd := fd116) (fun Q' q => eG (T.keeps e₁₀) (by kernel_rfl!) q) rfl ?_
      refine bKw (fun Q' q => eB (T.keeps e₁₀) (by kernel_rfl!) (by kernel_rfl!) q) (eN kF.rd lk_here (eB (T.keeps e₁₀) (by kernel_rfl!) (by kernel_rfl!) (maxK R₁.hd kP (List.cons_ne_nil _ _) (fun y hy => ?_) fun y ty s₁₁ x₁₁ hy hmax => ?_)))
      · have : ∀ y ∈ topsL D (Sw kd D ks4 H0 (u.take i)) (kd c) ks4, ∃ m, y = dots m ∧ m ≤ 1000 := by
          intro y hy
          rcases List.mem_cons.mp hy with rfl | hy
          · exact ⟨1, rfl, by decide⟩
          · obtain ⟨o, _, ho⟩ := List.mem_flatMap.mp hy
            unfold topL at ho
            have hSle := Sw_le (D := D) (u.take i) H0 0 (fun _ => Nat.le_refl _) o
            rw [List.length_take] at hSle
            split at ho
            · split at ho
              · simp at ho
              · simp at ho
                exact ⟨_, ho, by omega⟩
            · simp at ho
        obtain ⟨m, rfl, hm⟩ := this y hy
        rw [dots_len]; exact hm
      have ey := tops_max hy hmax
      subst ey
      have iu : i < u.length := (List.getElem?_eq_some_iff.mp hc).1
      have hlev : lev D ks4 (Sw kd D ks4 H0 (u.take i)) (kd c) ≤ 4 := by
        refine Nat.le_trans (lev_le (n := i) fun o => ?_) (by omega)
        have := Sw_le (D := D) (u.take i) H0 0 (fun _ => Nat.le_refl _) o
        rw [List.length_take] at this
        omega
      have e₁₁ := e₁₀.trans x₁₁
      refine ⟨T.keeps e₁₁ _ _ (fo116 w), quoteN (R₁.le (by decide)) (T.keeps e₁₁) (e₁₁.gens.trans hg) (by omega) (by omega) fun s₁₂ t₁₂ x₁₂ => ?_⟩
      refine eN (kF.keeps (x₁₁.trans x₁₂)).rd (lk_next (by kernel_rfl!) (lk_next (by kernel_rfl!) lk_here)) (SB.add (fun t₁₃ k₁₃ => ?_) (by rw [dots_len]; exact Nat.le_trans (show _ + 1 ≤ 1000 by omega) (by decide +kernel)))
      have er : dots (lev D ks4 (Sw kd D ks4 H0 (u.take i)) (kd c) + 1 + 1) ++ (⟨#[c]⟩ : Str) = rowS (lev D ks4 (Sw kd D ks4 H0 (u.take i)) (kd c) + 1, c) := dots_sg _ _
      rw [er]
      have y₁₃ : Ext s₁₀ { s₁₂ with toks := k₁₃ } := (x₁₁.trans x₁₂).trans (Ext.toks _ _)
      generalize hs13 : ({ s₁₂ with toks := k₁₃ } : Shared) = s₁₃ at y₁₃ ⊢
      clear hs13
      have e₁₃ := e₁₀.trans y₁₃
      have R₁₃ := kR.kp y₁₃.keep
      refine ⟨T.keeps e₁₃ _ _ (fo257 w), addH (R₁.le (by decide)) (T.keeps e₁₃) (kI.keeps y₁₃).inst R₁₃ (by omega) (kd_mem c) (rowS_chars _ (kd_sign c hcs)) ?_ ?_ fun s₁₄ b₁₄ R₁₄ => ?_⟩
      · have := rowS_len (lev D ks4 (Sw kd D ks4 H0 (u.take i)) (kd c) + 1, c)
        show 1 ≤ (rowS _).length
        omega
      · have := rowS_len (lev D ks4 (Sw kd D ks4 H0 (u.take i)) (kd c) + 1, c)
        show (rowS _).length ≤ 1000
        omega
      dsimp only
      refine wpAny_execs_nil ?_
      dsimp only
      have nPo : ¬ Own (envC fd276 L 276) P := F₇.not_own fP
      have mA : Mv (fun b => Own (envC fd276 L 276) b ∨ b = l) s' s₇ := ((x₅.mv fun _ h => .inl h).trans x₆.mv).trans (x₇.mv fun _ h => .inl h)
      have fP' : s'.heap.get? P = none := none_backM mA (fun h => h.elim nPo (fun z => lP z.symm)) fP
      have mC := (((mA.trans x₈.mv).trans (x₉.mv fun _ h => .inl h)).trans (Ext.toks _ _).mv).then m₁₀ (fun p hp => hp.elim (fun h => .inl (.inl h)) (fun z => .inr (z ▸ fP')))
      obtain ⟨il, hil, _⟩ := R₁₃.ex
      refine ⟨(mC.trans y₁₃.mv).trans (b₁₄.mv (.inr rfl)), (((kF.keeps y₁₃).but b₁₄ nl).sub (sub_cons (lk_next (by kernel_rfl!) (lk_next (by kernel_rfl!) (lk_next (by kernel_rfl!) lk_here))) (sub_cons (lk_next (by kernel_rfl!) (lk_next (by kernel_rfl!) (lk_next (by kernel_rfl!) (lk_next (by kernel_rfl!) lk_here)))) (sub_cons (lk_next (by kernel_rfl!) (lk_next (by kernel_rfl!) (lk_next (by kernel_rfl!) (lk_next (by kernel_rfl!) (lk_next (by kernel_rfl!) lk_here))))) sub_nil)))), (kI.keeps y₁₃).but hil.isList b₁₄, ?_⟩
      have er2 : (Rw kd D ks4 H0 (u.take (i + 1))).map hrow = (Rw kd D ks4 H0 (u.take i)).map hrow ++ [(kd c, rowS (lev D ks4 (Sw kd D ks4 H0 (u.take i)) (kd c) + 1, c))] := by
        rw [List.take_add_one, hc, Option.toList_some, Rw_app, List.map_append]
        rfl
      rw [er2]
      exact R₁₄
  · obtain ⟨jF, jI, jR⟩ := j
    dsimp only
    have hn : vs.toArray.size = u.length := by
      have := strs_len hv
      rw [List.length_map] at this
      simpa using this
    rw [hn, List.take_length] at jR
    refine wpAny_execs_cons (wpAny_Return_some (eN jF.rd lk_here (h x l s' (e₃.then m fun a ha => ?_) (jI.mono fun _ h => .inr h) jR)))
    rcases ha with ha | rfl
    · exact f a ha
    · exact none_back x₁ fl
end
end Mine
end
section
open PySem PySem.W PySem.Calls PyProof.Rows PySem.W.X PySem.W.XRun
set_option Elab.async false
set_option maxRecDepth 100000
set_option maxHeartbeats 0
set_option linter.unusedVariables false
namespace Mine
noncomputable abbrev kC (scope : Scope) (x : Str) (C X : Addr) (env : Env) : Env := compEnvC scope ((x, X) :: cloOf scope.names env []) C env
theorem Rd.innerC {env : Env} {scope : Scope} {x : Str} {C X : Addr} {v : Value} {h : Heap} {m : Str → Option Value} {lo : List (Str × Value)} (F : Rd env lo h) (hn : h.Ns C m) (hX : h.IsCell X (some v))
    (hx : scope.names.lookup x = some .cell) (honly : (scope.names.all fun y => !(y.2 == .cell) || y.1 == x) = true) (hlo : (lo.all fun e => e.1 == x || !(scope.names.lookup e.1 == some .local)) = true) :
    Rd (kC scope x C X env) ((x, v) :: lo) h := by
  refine ⟨⟨m, hn, fun y u e k => ?_⟩, fun y u c e k hc => ?_⟩
  · have k' : scope.names.lookup y = some .local := by
      rcases rl_lk k with h1 | h1
      · exact h1
      · cases h1.1
    have hy : y ≠ x := fun z => by subst z; rw [hx] at k'; cases k'
    have e' := lk_other hy e
    have := List.all_eq_true.mp hlo (y, u) (mem_of_lookup e')
    dsimp only at this
    rw [k', beq_eq_false_iff_ne.mpr hy] at this
    exact absurd this (by decide)
  · have hc : List.lookup y ((x, X) :: cloOf scope.names env []) = some c := hc
    by_cases hy : y = x
    · subst hy
      rw [lk_here] at e
      rw [lk_hereA] at hc
      cases e; cases hc
      exact hX
    · have hc' : List.lookup y (cloOf scope.names env []) = some c := by
        rw [← hc]; simp only [List.lookup, beq_eq_false_iff_ne.mpr hy]
      have hk : env.kindOf y = some .cell := by
        rcases rl_lk k with h1 | h1
        · have := List.all_eq_true.mp honly (y, .cell) (mem_of_lookup h1)
          dsimp only at this
          rw [beq_eq_false_iff_ne.mpr hy] at this
          exact absurd this (by decide)
        · exact h1.2
      exact F.cell y u c (lk_other hy e) hk (clo_sub _ _ (fun _ _ e => by cases e) y c hc')
theorem lk_rl_cell {env : Env} : ∀ {names : List (Str × NameKind)} {x : Str}, names.lookup x = some .cell →
    (names.map fun (n, k) => if (k == NameKind.free && env.scope.kind == .function && env.kindOf n == some .cell) then (n, NameKind.cell) else (n, k)).lookup x = some .cell
  | [], _, h => by simp at h
  | (n, k) :: r, x, h => by
    rw [List.map_cons]
    by_cases hy : x = n
    · subst hy
      rw [lk_hereA] at h
      cases h
      dsimp only
      split <;> rw [lk_hereA]
    · have e : List.lookup x ((n, k) :: r) = List.lookup x r := by simp only [List.lookup, beq_eq_false_iff_ne.mpr hy]
      rw [e] at h
      have ih := @lk_rl_cell env r x h
      dsimp only
      split <;> (simp only [List.lookup, beq_eq_false_iff_ne.mpr hy]; exact ih)
theorem lCc {w : World} {A : Around} {s : Shared} {env : Env} {elt iter : Expr} {x : Str} {px : Pos} {ifs : List Expr} {scope : Scope} {pos : Pos} {Q : Value → Shared → Prop} {lo : List (Str × Value)}
    (p : Value → Bool) (G : Value → Value → Prop) (F : Rd env lo s.heap)
    (h : WP w A (eval iter env) (fun xv s₁ => ∃ n P, Ext s s₁ ∧ Wk w A xv n P s₁ ∧ n ≤ sizeLine ∧
      (∀ C X i v s₂, P i v → Ext s₁ s₂ → Rd (kC scope x C X env) ((x, v) :: lo) s₂.heap → WP w A (compTest ifs (kC scope x C X env)) (fun ok s₃ => ok = p v ∧ Ext s₂ s₃) s₂) ∧
      (∀ C X i v s₂, P i v → p v = true → Ext s₁ s₂ → Rd (kC scope x C X env) ((x, v) :: lo) s₂.heap → WP w A (eval elt (kC scope x C X env)) (fun y s₃ => G v y ∧ Ext s₂ s₃) s₂) ∧
      (∀ D ys s' (vs : List Value), s₁.heap.get? D = none → s'.heap.PlainList D ys → vs.length = n → (∀ j v, vs[j]? = some v → P j v) → Paired G (vs.filter p) ys.toList → Ext s₁ s' → Q (.ref D) s')) s)
    (hfree : (scope.names.all fun y => !(y.2 == .free) || (env.cells.lookup y.1).isSome) = true := by kernel_rfl!)
    (hkind : scope.kind = .function := by kernel_rfl!)
    (hnames : (scope.names.all fun y => !(y.2 == .local) || (scope.names.lookup y.1 == some .local)) = true := by kernel_rfl!) (hx : scope.names.lookup x = some .cell := by kernel_rfl!)
    (honly : (scope.names.all fun y => !(y.2 == .cell) || y.1 == x) = true := by kernel_rfl!)
    (hcf : ∀ n acc, cellsFrom n scope.names acc = (x, n) :: acc := by intro _ _; rfl) (hpc : ∀ h, pushCells h scope.names = h.push { cls := .type "cell", data := .cell none } := by intro _; rfl)
    (hlo : (lo.all fun e => e.1 == x || !(scope.names.lookup e.1 == some .local)) = true := by kernel_rfl!)
    (hs : ∀ x, foldedSetIterable iter env x = pure x := by intro _; rfl) :
    WP w A (eval (.ListComp elt [⟨.Name x px, iter, ifs, 0⟩] scope pos) env) Q s := by
  have hnm : ∀ y ∈ scope.names, y.2 = .local → scope.names.lookup y.1 = some .local := fun y hy e => by
    have := List.all_eq_true.mp hnames y hy
    rw [e] at this
    exact eq_of_beq this
  unfold WP
  rw [eval_ListComp]
  refine wpAny_comprehension_free (use := none) rfl hs (clo_for hfree) hkind hnm (wpAny_mono h (fun xv s₁ h₁ => ?_) fun _ _ e => e)
  obtain ⟨n, P, e₁, Wk, hn, h1, h2, h3⟩ := h₁
  have F₁ := F.keeps e₁
  refine wpAny_mono Wk (fun it s₂ h₂ => ?_) fun _ _ e => e
  obtain ⟨I, fp, wr, St_, rfl, W, st0, hfp, hwr, x₂⟩ := h₂
  refine wpAny_newObj_type ?_
  have fD := fresh_at s₂
  generalize hs3 : ({ s₂ with heap := s₂.heap.push { cls := .type "list", dict := none, data := .seq ([] : List Value).toArray } } : Shared) = s₃
  have x₃ : Ext s₂ s₃ := by subst hs3; exact ⟨fun _ _ e => Heap.get?_push_of_some _ e, rfl, rfl, rfl⟩
  have hD₃ : s₃.heap.PlainList s₂.heap.objs.size #[] := by subst hs3; exact ⟨_, Heap.get?_push_size _ rfl⟩
  generalize s₂.heap.objs.size = D at fD hD₃ hfp ⊢
  clear hs3
  have hDs : D < s₃.heap.objs.size := by obtain ⟨n, e⟩ := hD₃; exact Heap.lt_size e
  simp only [newFunctionEnv, Option.isSome_some, if_true]
  refine wpAny_bind (wpAny_alloc ?_)
  refine wpAny_bind (wpAny_layCells _ (fun name kind cells => by cases hkc : kind == NameKind.cell <;> simp [hkc]) _ _ _ _ ?_)
  rw [hcf, hpc]
  refine wpAny_bind (wpAny_pure ?_)
  refine wpAny_pure ?_
  have hCz : ({ s₃ with heap := s₃.heap.push { cls := .type "dict", data := .dict #[] } } : Shared).heap.objs.size = s₃.heap.objs.size + 1 := Heap.size_push ..
  rw [hCz]
  show codeAny (model pw w) A (.compStart (.ListComp elt [⟨.Name x px, iter, ifs, 0⟩] scope pos) 0 (.ref I) (.ref D) (kC scope x s₃.heap.objs.size (s₃.heap.objs.size + 1) env)) (compPost (model pw w) A NoE none Q (.ref D) s₃.heap.objs.size)
    { s₃ with heap := (s₃.heap.push { cls := .type "dict", data := .dict #[] }).push { cls := .type "cell", data := .cell none } }
  generalize hs4 : ({ s₃ with heap := (s₃.heap.push { cls := .type "dict", data := .dict #[] }).push { cls := .type "cell", data := .cell none } } : Shared) = s₄
  have x₄ : Ext s₃ s₄ := by subst hs4; exact ⟨fun _ _ e => Heap.get?_push_of_some _ (Heap.get?_push_of_some _ e), rfl, rfl, rfl⟩
  have hn₄ : s₄.heap.Ns s₃.heap.objs.size fun _ => none := by subst hs4; exact (Heap.Ns.new s₃.heap (.type "dict")).push _
  have hX₄ : s₄.heap.IsCell (s₃.heap.objs.size + 1) none := by
    subst hs4
    refine ⟨{ cls := .type "cell", data := .cell none }, ?_, rfl⟩
    exact push2_at rfl
  have fC := fresh_at s₃
  have fX : s₃.heap.get? (s₃.heap.objs.size + 1) = none := Heap.get?_none_of_le (Nat.le_succ _)
  have hCX : s₃.heap.objs.size ≠ s₃.heap.objs.size + 1 := Nat.ne_of_lt (Nat.lt_succ_self _)
  have hCf : s₃.heap.objs.size ∉ fp := fun hb => Nat.lt_irrefl _ (Nat.lt_trans (hfp _ hb) hDs)
  have hXf : s₃.heap.objs.size + 1 ∉ fp := fun hb => Nat.lt_irrefl _ (Nat.lt_trans (Nat.lt_of_succ_lt (hfp _ hb)) hDs)
  have hDf : D ∉ fp := fun hb => Nat.lt_irrefl _ (hfp _ hb)
  have hDC : D ≠ s₃.heap.objs.size := Nat.ne_of_lt hDs
  have hDX : D ≠ s₃.heap.objs.size + 1 := Nat.ne_of_lt (Nat.lt_succ_of_lt hDs)
  generalize s₃.heap.objs.size + 1 = X at hX₄ fX hCX hXf hDX ⊢
  generalize s₃.heap.objs.size = C at hn₄ fC hCX hCf hDC ⊢
  clear hs4 hCz
  have fD₁ : s₁.heap.get? D = none := none_back x₂ fD
  have fC₁ : s₁.heap.get? C = none := none_back (x₂.trans x₃) fC
  have fX₁ : s₁.heap.get? X = none := none_back (x₂.trans x₃) fX
  have hCw : C ∉ wr := fun h => hCf (W.sub _ h)
  have hXw : X ∉ wr := fun h => hXf (W.sub _ h)
  have hDw : D ∉ wr := fun h => hDf (W.sub _ h)
  have loop : codeAny (model pw w) A (.compLoop (.ListComp elt [⟨.Name x px, iter, ifs, 0⟩] scope pos) 0 (.ref I) (.ref D) (kC scope x C X env)) (compPost (model pw w) A NoE none Q (.ref D) C) s₄ := by
    refine codeAny_compLoop_tests (fun k s' => ∃ m' ys u, ∃ vs : List Value, St_ vs.length s'.heap ∧ s'.heap.PlainList D ys ∧ s'.heap.Ns C m' ∧ s'.heap.IsCell X u ∧ (∀ j v, vs[j]? = some v → P j v) ∧
      Paired G (vs.filter p) ys.toList ∧ vs.length ≤ n ∧ k = n + 1 - vs.length ∧ Ext s₁ s') ?_ (n + 1)
      ⟨_, #[], none, [], W.frame _ _ _ st0 (fun b hb o e => (x₃.trans x₄).keep b o e), hD₃.at fun o e => x₄.keep _ _ e, hn₄, hX₄, by simp, .nil, Nat.zero_le _, rfl, (x₂.trans x₃).trans x₄⟩
    rintro k s' ⟨m', ys, u, vs, st', hD', hn', hX', hP, hG, hi, rfl, x'⟩
    by_cases hlt : vs.length < n
    · refine W.item vs.length _ _ _ hlt st' fun v h₁ tk₁ hPv st₁ hk₁ => ?_
      have y₁ : Ext s₁ { s' with heap := h₁, toks := tk₁ } := ⟨fun b o e => hk₁ b o (fun hb => by rw [hwr b hb] at e; cases e) (x'.keep b o e), x'.gens, x'.drawn, x'.os⟩
      have hX₁ : h₁.IsCell X u := let ⟨o, e, d⟩ := hX'; ⟨o, hk₁ _ _ hXw e, d⟩
      refine wpAny_assign_Name (wpAny_storeName_cell (env := kC scope x C X env) hkind (lk_rl_cell hx) lk_hereA hX₁ fun h₂ hc₂ hs₂ => ?_)
      have nX : ∀ b o, s₁.heap.get? b = some o → b ≠ X := fun b o e z => by rw [z, fX₁] at e; cases e
      have y₂ : Ext s₁ { s' with heap := h₂, toks := tk₁ } := ⟨fun b o e => hs₂.extBut b o (nX b o e) (y₁.keep b o e), y₁.gens, y₁.drawn, y₁.os⟩
      have st₂ : St_ (vs.length + 1) h₂ := W.frame _ _ _ st₁ fun b hb o e => hs₂.extBut b o (fun z => hXf (z ▸ hb)) e
      have hD₂ : h₂.PlainList D ys := hD'.at fun o e => hs₂.extBut _ o hDX (hk₁ _ o hDw e)
      have hn₂ : h₂.Ns C m' := hn'.at' fun o e => hs₂.extBut _ o hCX (hk₁ _ o hCw e)
      have inr : ∀ {s'' : Shared}, Ext ⟨h₂, s'.gens, s'.drawn, tk₁, s'.os⟩ s'' → Rd (kC scope x C X env) ((x, v) :: lo) s''.heap := fun z => ((F₁.keeps y₂).innerC hn₂ hc₂ hx honly hlo).keeps z
      refine wpAny_mono (h1 C X vs.length v _ hPv y₂ (inr (Ext.refl _))) (fun ok s₅ h₅ => ?_) fun _ _ e => e.elim
      obtain ⟨rfl, x₅⟩ := h₅
      have hP' : ∀ j u, (vs ++ [v])[j]? = some u → P j u := fun j u hj => by
        rcases Nat.lt_trichotomy j vs.length with h | h | h
        · exact hP j u (by rwa [List.getElem?_append_left h] at hj)
        · subst h; simp at hj; subst hj; exact hPv
        · have hnone : (vs ++ [v])[j]? = none := List.getElem?_eq_none (by rw [List.length_append, List.length_singleton]; omega)
          rw [hnone] at hj; cases hj
      have hvl : (vs ++ [v]).length = vs.length + 1 := by simp
      have hX₂ : h₂.IsCell X (some v) := hc₂
      have st₅ : St_ (vs.length + 1) s₅.heap := W.frame _ _ _ st₂ fun b hb o e => x₅.keep b o e
      cases hpv : p v with
      | false =>
        rw [if_neg (by decide)]
        refine ⟨n + 1 - (vs.length + 1), by omega, m', ys, some v, vs ++ [v], by rw [hvl]; exact st₅, hD₂.at fun o e => x₅.keep _ _ e, hn₂.keeps x₅.keep, hX₂.keeps x₅.keep, hP', ?_, by omega, by omega, y₂.trans x₅⟩
        rw [List.filter_append]; simpa [hpv] using hG
      | true =>
        rw [if_pos rfl]
        refine wpAny_mono (h2 C X vs.length v _ hPv hpv (y₂.trans x₅) (inr x₅)) (fun y s₆ h₆ => ?_) fun _ _ e => e.elim
        obtain ⟨hGy, x₆⟩ := h₆
        have x₅₆ := x₅.trans x₆
        have hys : ys.size ≤ sizeLine := by
          have e1 := hG.length
          have e2 : (vs.filter p).length ≤ vs.length := List.length_filter_le _ _
          have e4 : ys.toList.length = ys.size := by simp
          omega
        refine wpAny_list_append_plain (hsz := hys) (hD₂.at fun o e => x₅₆.keep _ _ e) fun h₇ hl₇ hs₇ => ?_
        refine ⟨n + 1 - (vs.length + 1), by omega, m', ys.push y, some v, vs ++ [v], ?_, hl₇, (hn₂.keeps x₅₆.keep).sameBut hs₇ (Ne.symm hDC), (hX₂.keeps x₅₆.keep).sameBut hs₇ (Ne.symm hDX), hP', ?_, by omega, by omega, ?_⟩
        · rw [hvl]
          exact W.frame _ _ _ st₅ fun b hb o e => hs₇.extBut b o (fun z => hDf (z ▸ hb)) (x₆.keep b o e)
        · rw [List.filter_append, Array.toList_push]
          have : [v].filter p = [v] := by simp [hpv]
          rw [this]
          exact Paired.snoc hG hGy
        · exact ⟨fun b o e => hs₇.extBut b o (fun z => by rw [z, fD₁] at e; cases e) ((y₂.trans x₅₆).keep b o e), (y₂.trans x₅₆).gens, (y₂.trans x₅₆).drawn, (y₂.trans x₅₆).os⟩
    · have hin : vs.length = n := by omega
      refine W.done _ _ _ (hin ▸ st') fun h₁ tk₁ hk₁ => ?_
      refine ⟨m', hn'.at' fun o e => hk₁ _ o hCw e, fun h₂ hs₂ => ?_⟩
      refine h3 D ys _ vs fD₁ ((hD'.at fun o e => hk₁ _ o hDw e).at fun o e => hs₂.extBut _ o hDC e) hin hP hG ⟨fun b o e => hs₂.extBut b o (fun z => by rw [z, fC₁] at e; cases e) (hk₁ b o (fun hb => by rw [hwr b hb] at e; cases e) (x'.keep b o e)), x'.gens, x'.drawn, x'.os⟩
  exact codeAny_compStart_list loop (W.self _ _ _ _ (W.frame _ _ _ st0 fun b hb o e => (x₃.trans x₄).keep b o e) loop)
end Mine
end
section
set_option linter.unusedVariables false
set_option linter.unusedSectionVars false
namespace Mine
noncomputable def leftAt (hs : List Nat) (r : Nat) : List Nat := (List.range hs.length).filter fun j => decide (r < hs.getD j 0)
structure Lv (D : Nat → Nat → Bool) (hs cs : List Nat) : Prop where
  up : ∀ i j, i < j → j < hs.length → D (cs.getD i 0) (cs.getD j 0) = true → hs.getD i 0 < hs.getD j 0
  dn : ∀ j, j < hs.length → hs.getD j 0 = 1 ∨ ∃ i, i < j ∧ D (cs.getD i 0) (cs.getD j 0) = true ∧ hs.getD i 0 + 1 = hs.getD j 0
noncomputable def freeOf (D : Nat → Nat → Bool) (cs left : List Nat) : List Nat :=
  left.filter fun j => (left.filter fun i => decide (i < j) && D (cs.getD i 0) (cs.getD j 0)).isEmpty
theorem mem_left {hs : List Nat} {r j : Nat} : j ∈ leftAt hs r ↔ j < hs.length ∧ r < hs.getD j 0 := by
  unfold leftAt
  rw [List.mem_filter, List.mem_range, decide_eq_true_eq]
theorem free_eq {D : Nat → Nat → Bool} {hs cs : List Nat} (L : Lv D hs cs) (r : Nat) : freeOf D cs (leftAt hs r) = (leftAt hs r).filter fun j => hs.getD j 0 == r + 1 := by
  unfold freeOf
  refine List.filter_congr fun j hj => ?_
  obtain ⟨hjn, hjr⟩ := mem_left.mp hj
  by_cases h : hs.getD j 0 = r + 1
  · have : (leftAt hs r).filter (fun i => decide (i < j) && D (cs.getD i 0) (cs.getD j 0)) = [] := by
      rw [List.filter_eq_nil_iff]
      intro i hi hp
      rw [Bool.and_eq_true, decide_eq_true_eq] at hp
      have := L.up i j hp.1 hjn hp.2
      have := (mem_left.mp hi).2
      omega
    rw [this, h]; simp
  · have h2 : (hs.getD j 0 == r + 1) = false := by simpa using h
    rw [h2]
    rcases L.dn j hjn with e | ⟨i, hij, hd, e⟩
    · omega
    · have hi : i ∈ leftAt hs r := mem_left.mpr ⟨by omega, by omega⟩
      have : i ∈ (leftAt hs r).filter (fun i => decide (i < j) && D (cs.getD i 0) (cs.getD j 0)) := List.mem_filter.mpr ⟨hi, by rw [Bool.and_eq_true, decide_eq_true_eq]; exact ⟨hij, hd⟩⟩
      cases e : (leftAt hs r).filter (fun i => decide (i < j) && D (cs.getD i 0) (cs.getD j 0)) with
      | nil => rw [e] at this; cases this
      | cons a b => rfl
theorem left_step {D : Nat → Nat → Bool} {hs cs : List Nat} (L : Lv D hs cs) (r : Nat) : (leftAt hs r).filter (fun j => !((freeOf D cs (leftAt hs r)).contains j)) = leftAt hs (r + 1) := by
  rw [free_eq L]
  have : leftAt hs (r + 1) = (leftAt hs r).filter fun j => decide (r + 1 < hs.getD j 0) := by
    unfold leftAt
    rw [List.filter_filter]
    refine List.filter_congr fun j _ => ?_
    by_cases h : r + 1 < hs.getD j 0
    · have : r < hs.getD j 0 := by omega
      rw [decide_eq_true h, decide_eq_true this]; rfl
    · rw [decide_eq_false h]; rfl
  rw [this]
  refine List.filter_congr fun j hj => ?_
  have hjr := (mem_left.mp hj).2
  by_cases h : hs.getD j 0 = r + 1
  · have h1 : ((leftAt hs r).filter fun j => hs.getD j 0 == r + 1).contains j = true := by
      rw [List.contains_iff_mem, List.mem_filter]; exact ⟨hj, by simpa using h⟩
    rw [h1, decide_eq_false (by omega)]; rfl
  · have h1 : ((leftAt hs r).filter fun j => hs.getD j 0 == r + 1).contains j = false := by
      cases e : ((leftAt hs r).filter fun j => hs.getD j 0 == r + 1).contains j with
      | false => rfl
      | true =>
        rw [List.contains_iff_mem, List.mem_filter] at e
        exact absurd (by simpa using e.2) h
    rw [h1, decide_eq_true (by omega)]; rfl
theorem left_all {D : Nat → Nat → Bool} {hs cs : List Nat} (L : Lv D hs cs) : leftAt hs 0 = List.range hs.length := by
  unfold leftAt
  refine List.filter_eq_self.mpr fun j hj => ?_
  rw [List.mem_range] at hj
  rw [decide_eq_true_eq]
  rcases L.dn j hj with e | ⟨i, _, _, e⟩ <;> omega
noncomputable def part (hs : List Nat) (r q : Nat) : List Nat := (List.range hs.length).map fun j => min (hs.getD j 0) (if j < q then r + 1 else r)
theorem part_zero (hs : List Nat) : part hs 0 0 = List.replicate hs.length 0 := by
  unfold part
  refine List.ext_getElem (by simp) fun i h1 h2 => ?_
  simp
theorem part_full (hs : List Nat) (r q : Nat) (hq : hs.length ≤ q) : part hs r q = part hs (r + 1) 0 := by
  unfold part
  refine List.map_inj_left.mpr fun j hj => ?_
  rw [List.mem_range] at hj
  rw [if_pos (by omega), if_neg (by omega)]
theorem part_get {hs : List Nat} {r q j : Nat} (hj : j < hs.length) : (part hs r q)[j]? = some (min (hs.getD j 0) (if j < q then r + 1 else r)) := by
  unfold part
  rw [List.getElem?_map, List.getElem?_range hj]; rfl
theorem part_step {hs : List Nat} {r q : Nat} (hq : q < hs.length) : (part hs r q).set q (min (hs.getD q 0) r + if (leftAt hs r).contains q = true then 1 else 0) = part hs r (q + 1) := by
  refine List.ext_getElem? fun j => ?_
  by_cases hj : j < hs.length
  · rw [part_get hj]
    by_cases e : j = q
    · subst e
      rw [List.getElem?_set_self (by simp [part]; exact hj), if_pos (show j < j + 1 by omega)]
      congr 1
      by_cases h : r < hs.getD j 0
      · rw [if_pos (by rw [List.contains_iff_mem]; exact mem_left.mpr ⟨hj, h⟩)]; omega
      · rw [if_neg (by rw [List.contains_iff_mem]; exact fun m => h (mem_left.mp m).2)]; omega
    · rw [List.getElem?_set_ne (Ne.symm e), part_get hj]
      by_cases h : j < q
      · rw [if_pos h, if_pos (by omega)]
      · rw [if_neg h, if_neg (by omega)]
  · rw [List.getElem?_eq_none (by simp [part]; omega), List.getElem?_eq_none (by simp [part]; omega)]
theorem part_done {hs : List Nat} {r : Nat} (h : leftAt hs r = []) : part hs r 0 = hs := by
  refine List.ext_getElem? fun j => ?_
  by_cases hj : j < hs.length
  · rw [part_get hj, if_neg (by omega)]
    have : ¬ r < hs.getD j 0 := fun hr => by
      have := mem_left.mpr ⟨hj, hr⟩
      rw [h] at this; cases this
    rw [Nat.min_eq_left (by omega)]
    rw [List.getElem?_eq_getElem hj, List.getD_eq_getElem?_getD, List.getElem?_eq_getElem hj]; rfl
  · rw [List.getElem?_eq_none (by simp [part]; omega), List.getElem?_eq_none (by omega)]
theorem left_stop {hs : List Nat} {r m : Nat} (hm : ∀ h ∈ hs, h ≤ m) (hr : m ≤ r) : leftAt hs r = [] := by
  unfold leftAt
  rw [List.filter_eq_nil_iff]
  intro j hj
  rw [List.mem_range] at hj
  have : hs.getD j 0 ∈ hs := by
    rw [List.getD_eq_getElem?_getD, List.getElem?_eq_getElem hj]; exact List.getElem_mem hj
  have := hm _ this
  rw [decide_eq_true_eq]; omega
section
variable {kd : Nat → Nat} {D : Nat → Nat → Bool} {ks : List Nat}
theorem Rw_lv (hs : ∀ x y, D x y = D y x) (hr : ∀ a, D (kd a) (kd a) = true) (hk : ∀ a, kd a ∈ ks) (u : List Nat) :
    Lv D ((Rw kd D ks (fun _ => 0) u).map Prod.fst) (u.map kd) := by
  have hu : ∀ j p, (Rw kd D ks (fun _ => 0) u)[j]? = some p → (u.map kd).getD j 0 = kd p.2 := fun j p e => by
    have h1 := congrArg (fun l => l[j]?) (Rw_snd (kd := kd) (D := D) (ks := ks) u fun _ => 0)
    simp only [List.getElem?_map, e, Option.map_some] at h1
    rw [List.getD_eq_getElem?_getD, List.getElem?_map, ← h1]; rfl
  have hg : ∀ j, j < ((Rw kd D ks (fun _ => 0) u).map Prod.fst).length → ∃ p, (Rw kd D ks (fun _ => 0) u)[j]? = some p ∧ ((Rw kd D ks (fun _ => 0) u).map Prod.fst).getD j 0 = p.1 := fun j hj => by
    rw [List.length_map] at hj
    refine ⟨_, List.getElem?_eq_getElem hj, ?_⟩
    rw [List.getD_eq_getElem?_getD, List.getElem?_map, List.getElem?_eq_getElem hj]; rfl
  refine ⟨fun i j hij hj hd => ?_, fun j hj => ?_⟩
  · obtain ⟨p, hp, ep⟩ := hg i (by omega)
    obtain ⟨q, hq, eq⟩ := hg j hj
    rw [ep, eq]
    rw [hu i p hp, hu j q hq] at hd
    obtain ⟨hi', ei⟩ := List.getElem?_eq_some_iff.mp hp
    obtain ⟨hj', ej⟩ := List.getElem?_eq_some_iff.mp hq
    have := List.pairwise_iff_getElem.mp (Rw_pair hr hk hs u fun _ => 0) i j hi' hj' hij
    rw [ei, ej] at this
    exact this hd
  · obtain ⟨q, hq, eq⟩ := hg j hj
    rw [eq]
    rcases Rw_below u _ j q hq with h | ⟨k, _, _, h⟩ | ⟨i, p, hij, hp, hd, e⟩
    · exact .inl h
    · exact .inl h
    · refine .inr ⟨i, hij, ?_, ?_⟩
      · rw [hu i p hp, hu j q hq, hs]; exact hd
      · obtain ⟨p', hp', ep⟩ := hg i (by omega)
        rw [hp] at hp'; cases hp'
        rw [ep, e]
end
end Mine
end
section
open PySem PySem.W PySem.Calls PyProof.Rows PySem.W.X PySem.W.XRun PySem.SeqAt
set_option Elab.async false
set_option maxRecDepth 100000
set_option maxHeartbeats 0
set_option linter.unusedVariables false
namespace Mine
noncomputable def toI (l : List Nat) : List Int := List.map (fun (n : Nat) => (n : Int)) l
noncomputable def Nats (h : Heap) (a : Addr) (l : List Nat) : Prop := ∃ vs : List Value, h.IsList a vs.toArray ∧ IntsAre vs (toI l)
theorem Nats.kp {h h' : Heap} {a : Addr} {l : List Nat} (x : Nats h a l) (k : ∀ o, h.get? a = some o → h'.get? a = some o) : Nats h' a l := let ⟨vs, e, p⟩ := x; ⟨vs, e.at k, p⟩
theorem Nats.keeps {s s' : Shared} {a : Addr} {l : List Nat} (x : Nats s.heap a l) (k : Ext s s') : Nats s'.heap a l := x.kp fun o e => k.keep _ o e
theorem Nats.some {h : Heap} {a : Addr} {l : List Nat} (x : Nats h a l) : ∃ o, h.get? a = .some o := let ⟨vs, ⟨o, e, _⟩, p⟩ := x; ⟨o, e⟩
theorem list_kt {s s' : Shared} {a : Addr} {i : Array Value} (x : s.heap.IsList a i) (k : Kt s s') : s'.heap.IsList a i := let ⟨o, e, c, n, d⟩ := x; ⟨o, k.keep _ _ e (isF_seq d), c, n, d⟩
theorem Nats.kt {s s' : Shared} {a : Addr} {l : List Nat} (x : Nats s.heap a l) (k : Kt s s') : Nats s'.heap a l := let ⟨vs, e, p⟩ := x; ⟨vs, list_kt e k, p⟩
section
variable {w : World} {A : Around} {s : Shared} {env : Env} {Q : Value → Shared → Prop}
theorem list_own {lo : List (Str × Value)} {a : Addr} {i : Array Value} (F : Fm env lo s) (x : s.heap.IsList a i) : ¬ Own env a := let ⟨o, e, c, n, d⟩ := x; F.own_not_seq e d
theorem list_step {lo : List (Str × Value)} {s' : Shared} {a : Addr} {i : Array Value} (x : s.heap.IsList a i) (F : Fm env lo s) (st : Step env s s') : s'.heap.IsList a i :=
  x.at fun o e => st.keep _ _ (list_own F x) e
theorem Nats.step {lo : List (Str × Value)} {s' : Shared} {a : Addr} {l : List Nat} (x : Nats s.heap a l) (F : Fm env lo s) (st : Step env s s') : Nats s'.heap a l := let ⟨vs, e, p⟩ := x; ⟨vs, list_step e F st, p⟩
theorem Nats.but {s' : Shared} {a b : Addr} {l : List Nat} (x : Nats s.heap a l) (e : But b s s') (ne : a ≠ b) : Nats s'.heap a l := x.kp fun o h => e.keep _ _ ne h
theorem ints_len {a : List Value} {b : List Int} (h : IntsAre a b) : a.length = b.length := by induction h with | nil => rfl | cons y t h ih => simp [ih]
theorem ints_get {a : List Value} {b : List Int} (h : IntsAre a b) : ∀ (j : Nat) v, a[j]? = some v → ∃ y ty, v = .int y ty ∧ b[j]? = some y := by
  induction h with
  | nil => intro j v h; simp at h
  | cons y t h ih =>
    intro j v hv
    cases j with
    | zero => simp at hv; exact ⟨y, t, hv.symm, rfl⟩
    | succ j => simp at hv; simpa using ih j v hv
theorem nats_get {vs : List Value} {l : List Nat} (h : IntsAre vs (toI l)) (j : Nat) (v : Value) (e : vs[j]? = some v) : ∃ (y : Nat) (ty : Tok), v = .int y ty ∧ l[j]? = some y := by
  obtain ⟨y, ty, rfl, hy⟩ := ints_get h j v e
  unfold toI at hy
  rw [List.getElem?_map] at hy
  cases hl : l[j]? with
  | none => rw [hl] at hy; cases hy
  | some n => rw [hl] at hy; cases hy; exact ⟨n, ty, rfl, rfl⟩
theorem mulL {l : Addr} {items : Array Value} {n : Int} {u : Tok} (hl : s.heap.PlainList l items) (hn : items.size * n.toNat ≤ 1000) (hn1 : 0 ≤ n) (hn2 : n ≤ 1000)
    (h : ∀ D s', Ext s s' → s.heap.get? D = none → s'.heap.PlainList D (List.foldl (fun x1 x2 => x1 ++ x2) #[] (List.replicate (if items.isEmpty = true then 0 else n.toNat) items)) → Q (.ref D) s') :
    WP w A (binaryOp .Mult (.ref l) (.int n u)) Q s := by
  obtain ⟨k, hl⟩ := hl
  refine wpAny_binaryOp_repeat_ref (T := "list") (U := "int") (by decide) ⟨_, hl, rfl⟩ (fun s' => typeIs_int s' _ u) noFill_list_mul PySem.F.fills_int_mul PySem.F.slot_int_rmul repeat_list PySem.F.slot_int_index.lookup
    (call_meets PySem.F.slot_int_rmul (typeIs_int s _ u) PySem.F.entry_int_rmul (PySem.F.args_int_rmul_2 _ _) (int___rmul___int_list _ u l items k)
      ⟨hl, rfl, ⟨_, hl, rfl⟩, call_meets PySem.F.slot_list_mul ⟨_, hl, rfl⟩ PySem.F.entry_list_mul (PySem.F.args_list_mul_2 _ _)
        (AutoListH.list___mul___list_int_3 l items k n u (by simp [Builtin.List.listFitsIndex]; omega) (by omega) (by simp [Builtin.List.listTooLong, sizeLine]; omega))
        ⟨hl, h s.heap.objs.size _ ⟨fun _ _ e => Heap.get?_push_of_some _ e, rfl, rfl, rfl⟩ (fresh_at s) ⟨_, Heap.get?_push_size _ rfl⟩⟩⟩)
theorem addL {l b : Addr} {i1 i2 : Array Value} (hl : s.heap.IsList l i1) (hb : s.heap.IsList b i2) (hsz : i1.size + i2.size ≤ 1000)
    (h : ∀ D s', Ext s s' → s.heap.get? D = none → s'.heap.PlainList D (i1 ++ i2) → Q (.ref D) s') : WP w A (binaryOp .Add (.ref l) (.ref b)) Q s := by
  obtain ⟨⟨cls, dd, data, sl⟩, ho, hc, n, hd⟩ := id hl
  obtain ⟨⟨cls2, dd2, data2, sl2⟩, ho2, hc2, n2, hd2⟩ := id hb
  simp only at hc hd hc2 hd2
  subst hc hd hc2 hd2
  exact concat_meets ⟨_, ho, rfl⟩ ⟨_, ho2, rfl⟩ noFill_list_add seq_list_add PySem.F.slot_list_add PySem.F.entry_list_add (PySem.F.args_list_add_2 _ _)
    (list_addW l b i1 i2 n n2 dd dd2 sl sl2 (Nat.le_trans hsz (by decide +kernel))) ⟨ho, ho2, h s.heap.objs.size _ ⟨fun _ _ e => Heap.get?_push_of_some _ e, rfl, rfl, rfl⟩ (fresh_at s) ⟨_, Heap.get?_push_size _ rfl⟩⟩
theorem rangeL {r : Addr} {n : Nat} {t u v : Tok} (hh : A.handled = none) (hr : IsRange s.heap r 0 n 1 t u v) (hn : n ≤ 1000)
    (h : ∀ D s', Ext s s' → s.heap.get? D = none → Nats s'.heap D (List.range n) → Q (.ref D) s') : WP w A (call (.type "list") [.ref r]) Q s := by
  refine call_list_range (n := n) hh hr (small_one (by decide) (by decide) (by omega) (by omega)) (by rw [rangeSize_one]; split <;> omega) (by omega) fun h' tk acc' c' hk hS hacc => ?_
  refine h _ _ ⟨hk, rfl, rfl, rfl⟩ (fresh_at s) ⟨acc'.toList, ⟨_, hS, rfl, c', by simp⟩, ?_⟩
  obtain ⟨hz, hi⟩ := hacc
  have : ∀ (l : List Value) (m : Nat), (∀ j v, l[j]? = some v → ∃ t, v = Value.int ((m + j : Nat) : Int) t) → IntsAre l (toI ((List.range l.length).map (m + ·))) := by
    intro l
    induction l with
    | nil => intro m _; exact .nil
    | cons a l ih =>
      intro m hg
      obtain ⟨t, e⟩ := hg 0 a rfl
      subst e
      have := ih (m + 1) fun j v e => by
        obtain ⟨t, e'⟩ := hg (j + 1) v (by simpa using e)
        exact ⟨t, by rw [e']; congr 2; omega⟩
      rw [List.length_cons, List.range_succ_eq_map]
      simp only [List.map_cons, List.map_map, Nat.add_zero, toI] at this ⊢
      refine .cons _ _ ?_
      have e2 : (fun n : Nat => (n : Int)) ∘ ((fun x => m + x) ∘ Nat.succ) = (fun n : Nat => (n : Int)) ∘ fun x => m + 1 + x := by
        funext x; simp [Function.comp]; omega
      rw [e2]
      exact this
  have h2 := this acc'.toList 0 fun j v e => by
    obtain ⟨t, e'⟩ := hi j v (by simpa using e)
    exact ⟨t, by rw [e']; congr 1; omega⟩
  have e3 : acc'.toList.length = n := by simpa using hz
  rw [e3] at h2
  simpa using h2
theorem eqv_nil_ints (l : List Int) : PyData.eqv (.list (l.map .int)) (.list []) = l.isEmpty := by cases l <;> rfl
theorem ints_shaped (l : List Int) : shaped (.list (l.map .int)) = true := by
  have h1 : ∀ l : List Int, PyData.canLayAll0 (l.map .int) = true := by
    intro l
    induction l with
    | nil => rfl
    | cons a l ih => rw [List.map_cons, PyData.canLayAll0, ih]; rfl
  have h2 : ∀ l : List Int, PyData.depthAll (l.map .int) = 0 := by
    intro l
    induction l with
    | nil => rfl
    | cons a l ih => rw [List.map_cons, PyData.depthAll, ih]; rfl
  unfold shaped
  rw [PyData.canLay0, h1, PyData.depth, h2]
  rfl
theorem ints_reads {a : Addr} {vs : List Value} {l : List Int} {h : Heap} (x : h.IsList a vs.toArray) (y : IntsAre vs l) : ∃ as, Reads h (.ref a) (.list (l.map .int)) as := by
  obtain ⟨o, e, c, n, d⟩ := x
  exact ⟨_, .list e c d (y.reads h)⟩
theorem Room.eq {n : Nat} (R : Room A n) : A.units + 64 < cLine := by have := R.un; show A.units + 64 < 9900; omega
theorem eqNil {n : Nat} {a b : Addr} {l : List Nat} (R : Room A n) (hl : Nats s.heap a l) (hb : s.heap.IsList b #[]) (h : Q (.bool l.isEmpty) s) : WP w A (compareOp .Eq (.ref a) (.ref b)) Q s := by
  obtain ⟨vs, x, y⟩ := hl
  obtain ⟨as, ra⟩ := ints_reads x y
  obtain ⟨bs, rb⟩ := ints_reads (vs := []) (l := []) hb .nil
  refine compareEq_shaped ra rb (ints_shaped _) (ints_shaped _) R.eq ?_
  show Q (.bool (PyData.eqv (.list ((toI l).map .int)) (.list []))) s
  rw [eqv_nil_ints]
  cases l <;> exact h
theorem neNil {n : Nat} {a b : Addr} {l : List Nat} (R : Room A n) (hl : Nats s.heap a l) (hb : s.heap.IsList b #[]) (h : Q (.bool (!l.isEmpty)) s) : WP w A (compareOp .NotEq (.ref a) (.ref b)) Q s := by
  obtain ⟨vs, x, y⟩ := hl
  obtain ⟨as, ra⟩ := ints_reads x y
  obtain ⟨bs, rb⟩ := ints_reads (vs := []) (l := []) hb .nil
  refine compareNe_shaped ra rb (ints_shaped _) (ints_shaped _) R.eq ?_
  show Q (.bool (!PyData.eqv (.list ((toI l).map .int)) (.list []))) s
  rw [eqv_nil_ints]
  cases l <;> exact h
theorem nilL {pos : Pos} (h : ∀ D s', Ext s s' → s.heap.get? D = none → s'.heap.PlainList D #[] → Q (.ref D) s') : WP w A (eval (.List [] pos) env) Q s :=
  List_ (args_nil (wpAny_newList (h _ _ ⟨fun _ _ e => Heap.get?_push_of_some _ e, rfl, rfl, rfl⟩ (fresh_at s) ⟨_, Heap.get?_push_size _ rfl⟩)))
end
end Mine
end
section
open PySem PySem.W PySem.Calls PyProof.Rows PySem.W.X PySem.W.XRun PySem.SeqAt
set_option Elab.async false
set_option maxRecDepth 100000
set_option maxHeartbeats 0
set_option linter.unusedVariables false
namespace Mine
section
variable {w : World} {A : Around} {s : Shared} {env : Env} {Q : Value → Shared → Prop} {D : Nat → Nat → Bool}
theorem whileL {test : Expr} {body : List Stmt} {pos : Pos} {Q : Flow → Shared → Prop} (I : Nat → Shared → Prop) (n : Nat) (h : I n s)
    (turn : ∀ n s, I n s → WP w A (isTrue test env (eval test env)) (fun b s₂ => (b = true → WP w A (execs body env) (fun f s₃ => match f with
      | .next | .cont => ∃ m, m < n ∧ I m s₃
      | .brk => False
      | .ret v => Q (.ret v) s₃) s₂) ∧ (b = false → Q .next s₂)) s) :
    WP w A (exec (.While test body [] pos) env) Q s := by
  refine wpAny_While (codeAny_whileLoop I (fun n s hi => wpAny_mono (turn n s hi) (fun b s₂ h₂ => ?_) fun _ _ e => e.elim) n h)
  cases b with
  | true =>
    rw [if_pos rfl]
    refine wpAny_mono (h₂.1 rfl) (fun f s₃ h₃ => ?_) fun _ _ e => e.elim
    cases f with
    | next => exact h₃
    | cont => exact h₃
    | brk => exact h₃.elim
    | ret v => exact h₃
  | false =>
    rw [if_neg (by decide)]
    exact wpAny_execs_nil (h₂.2 rfl)
theorem rangeC {n : Int} {t : Tok} (h : ∀ r s' t' u v, Ext s s' → s.heap.get? r = none → IsRange s'.heap r 0 n 1 t' u v → Q (.ref r) s') : WP w A (call (.type "range") [.int n t]) Q s :=
  call_range_1 (h _ _ _ _ _ ⟨fun _ _ e => Heap.get?_push_of_some _ e, rfl, rfl, rfl⟩ (fresh_at s) (IsRange.new ..))
theorem lenS {a : Addr} {ss : List Str} (hl : Strs s.heap a ss) (hz : ss.length ≤ 1000) (h : ∀ s' t, Ext s s' → Q (.int (ss.length : Nat) t) s') : WP w A (call (.builtin "len") [.ref a]) Q s := by
  obtain ⟨vs, p, q⟩ := hl
  exact len_strsA p.isList q (by omega) (h _ _ (Ext.toks _ _))
theorem rep_zero (n : Nat) (t : Tok) : ∃ vs : List Value, List.foldl (fun x1 x2 => x1 ++ x2) #[] (List.replicate n (#[Value.int 0 t] : Array Value)) = vs.toArray ∧ IntsAre vs (toI (List.replicate n 0)) := by
  have : ∀ (n : Nat) (acc : List Value), List.foldl (fun x1 x2 => x1 ++ x2) acc.toArray (List.replicate n (#[Value.int 0 t] : Array Value)) = (acc ++ List.replicate n (Value.int 0 t)).toArray := by
    intro n
    induction n with
    | zero => intro acc; simp
    | succ n ih =>
      intro acc
      rw [List.replicate_succ, List.foldl_cons]
      have e : acc.toArray ++ (#[Value.int 0 t] : Array Value) = (acc ++ [Value.int 0 t]).toArray := by simp
      rw [e, ih, List.append_assoc]; rfl
  refine ⟨List.replicate n (Value.int 0 t), by simpa using this n [], ?_⟩
  induction n with
  | zero => exact .nil
  | succ n ih => exact .cons _ _ ih
noncomputable def pI (q : Nat → Bool) : Value → Bool
  | .int j _ => q j.toNat
  | _ => false
theorem nats_filter {q : Nat → Bool} : ∀ {vs : List Value} {l : List Nat}, IntsAre vs (toI l) → IntsAre (vs.filter (pI q)) (toI (l.filter q))
  | [], [], _ => .nil
  | v :: vs, n :: l, h => by
    cases h with
    | cons _ t h =>
      rw [List.filter_cons, List.filter_cons]
      have e : pI q (.int (n : Nat) t) = q n := by show q ((n : Int).toNat) = q n; rw [Int.toNat_natCast]
      rw [e]
      split
      · exact .cons _ _ (nats_filter h)
      · exact nats_filter h
theorem paired_eq {α : Type} : ∀ {l m : List α}, Paired (fun v y => y = v) l m → m = l
  | _, _, .nil => rfl
  | _, _, .cons h t => by rw [h, paired_eq t]
theorem getD_sg {cs : List Nat} {i : Nat} (h : i < cs.length) : (cs.map sg).getD i Str.empty = sg (cs.getD i 0) := by
  rw [List.getD_eq_getElem?_getD, List.getD_eq_getElem?_getD, List.getElem?_map, List.getElem?_eq_getElem h]; rfl
theorem getD_mem {cs : List Nat} {i : Nat} (h : i < cs.length) : cs.getD i 0 ∈ cs := by
  rw [List.getD_eq_getElem?_getD, List.getElem?_eq_getElem h]; exact List.getElem_mem h
theorem nats_at : ∀ {vs : List Value} {l : List Nat}, IntsAre vs (toI l) → ∀ (j y : Nat), l[j]? = some y → ∃ t, vs[j]? = some (.int (y : Nat) t)
  | [], [], _, j, y, e => by simp at e
  | v :: vs, n :: l, h, j, y, e => by
    cases h with
    | cons _ t h =>
      cases j with
      | zero => simp at e; subst e; exact ⟨t, rfl⟩
      | succ j => simpa using nats_at h j y (by simpa using e)
theorem nats_set {y : Nat} {t : Tok} : ∀ {vs : List Value} {l : List Nat}, IntsAre vs (toI l) → ∀ (j : Nat), IntsAre (vs.set j (.int (y : Nat) t)) (toI (l.set j y))
  | [], [], _, j => IntsAre.nil
  | v :: vs, n :: l, h, j => by
    cases h with
    | cons _ t' h =>
      cases j with
      | zero => exact .cons _ _ h
      | succ j => exact .cons _ _ (nats_set h j)
theorem nats_any (k : Nat) : ∀ l : List Nat, ((toI l).any fun x => x == (k : Int)) = l.contains k
  | [] => rfl
  | n :: l => by
    have ih := nats_any k l
    show (((n : Int) == (k : Int)) || (toI l).any fun x => x == (k : Int)) = _
    rw [ih, List.contains_cons]
    congr 1
    by_cases h : n = k
    · subst h; simp
    · have h1 : ((n : Int) == (k : Int)) = false := by simp; omega
      have h2 : (k == n) = false := by simp; omega
      rw [h1, h2]
theorem lawRounds {ka ba : Addr} {cs hs : List Nat} {bs : List Str} (R : Room A 8) (T : YP w s.heap) (hk : Strs s.heap ka (cs.map sg)) (hkm : ∀ c ∈ cs, c ∈ ks4) (hb : Strs s.heap ba bs)
    (hbs : ∀ x ∈ ks4, ∀ y ∈ ks4, (bs.any (· == ⟨#[x, y]⟩)) = D x y) (L : Lv D hs cs) (hlen : hs.length = cs.length) (hz : cs.length ≤ 5) (hm : ∀ h ∈ hs, h ≤ 5)
    (h : ∀ r s', Ext s s' → Nats s'.heap r hs → Q (.ref r) s') :
    WP w A (call (.ref 281) [.ref ka, .ref ba]) Q s := by
  refine callC (fd := fd281) (body := fnB (top 24)) (n := 7) [("kinds", .ref ka), ("bound", .ref ba)] R T (T _ _ (fo281 w)) rfl rfl (fc281 T) (by kernel_rfl!) (fun L => (by kernel_rfl!)) fun La s₁ x₁ f F T₁ R₁ => ?_
  conv in (fnB (top 24)) => whnf
  have hkl : (cs.map sg).length = hs.length := by rw [List.length_map, hlen]
  refine wpAny_execs_cons (wpAny_Assign_Name (wpAny_BinOp (List_ (args_cons (wpAny_Constant_int (args_nil (wpAny_newList ?_))) (by kernel_rfl!)))) (by kernel_rfl!))
  have fz := fresh_at s₁
  generalize hs2 : ({ heap := s₁.heap.push { cls := .type "list", data := .seq ([.int 0 s₁.toks] : List Value).toArray }, gens := s₁.gens, drawn := s₁.drawn, toks := s₁.toks + 1, os := s₁.os } : Shared) = s₂
  have x₂ : Ext s₁ s₂ := by subst hs2; exact ⟨fun _ _ e => Heap.get?_push_of_some _ e, rfl, rfl, rfl⟩
  have z₂ : s₂.heap.PlainList s₁.heap.objs.size #[.int 0 s₁.toks] := by subst hs2; exact ⟨_, Heap.get?_push_size _ rfl⟩
  generalize s₁.heap.objs.size = Z at fz z₂ ⊢
  generalize s₁.toks = tz at z₂ ⊢
  clear hs2
  have e₂ := x₁.trans x₂
  refine c1b (id := "len") (fun Q' q => eB (T.keeps e₂) (by kernel_rfl!) (by kernel_rfl!) q) (eN (F.keeps x₂).rd (lk_next (by kernel_rfl!) lk_here) (lenS (hk.keeps e₂) (by omega) fun s₃ t₃ x₃ => ?_))
  rw [hkl]
  refine mulL (z₂.at fun o e => x₃.keep _ _ e) (by simp; omega) (by omega) (by omega) fun ra s₄ x₄ fr hr => ?_
  have e₄ := (e₂.trans x₃).trans x₄
  have hR₄ : Nats s₄.heap ra (part hs 0 0) := by
    obtain ⟨vs, e, hi⟩ := rep_zero hs.length tz
    rw [part_zero]
    refine ⟨vs, ?_, hi⟩
    have : (if (#[Value.int 0 tz] : Array Value).isEmpty = true then 0 else ((hs.length : Nat) : Int).toNat) = hs.length := by simp
    rw [this, e] at hr
    exact hr.isList
  have F₄ := F.keeps ((x₂.trans x₃).trans x₄)
  have fr₀ : s.heap.get? ra = none := none_back (e₂.trans x₃) fr
  refine sN F₄ fun s₅ x₅ F₅ => ?_
  dsimp only
  have e₅ : Ext s s₅ := e₄.step x₅ f
  have hR₅ := hR₄.step F₄ x₅
  refine wpAny_execs_cons (wpAny_Assign_Name ?_ (by kernel_rfl!))
  refine c1t (T := "list") (fun Q' q => eB (T.keeps e₅) (by kernel_rfl!) (by kernel_rfl!) q) ?_
  refine c1t (T := "range") (fun Q' q => eB (T.keeps e₅) (by kernel_rfl!) (by kernel_rfl!) q) ?_
  refine c1b (id := "len") (fun Q' q => eB (T.keeps e₅) (by kernel_rfl!) (by kernel_rfl!) q) (eN F₅.rd (lk_next (by kernel_rfl!) (lk_next (by kernel_rfl!) lk_here)) (lenS (hk.keeps e₅) (by omega) fun s₆ t₆ x₆ => ?_))
  rw [hkl]
  refine rangeC fun rg s₇ ta tb tc x₇ frg hrg => ?_
  refine rangeL R₁.hd hrg (by omega) fun la s₈ x₈ fl hl => ?_
  have x₆₈ := (x₆.trans x₇).trans x₈
  have F₈ := F₅.keeps x₆₈
  refine sN F₈ fun s₉ x₉ F₉ => ?_
  dsimp only
  have e₉ : Ext s s₉ := (e₅.trans x₆₈).step x₉ f
  have hR₉ := (hR₅.keeps x₆₈).step F₈ x₉
  have hL₉ : Nats s₉.heap la (leftAt hs 0) := by rw [left_all L]; exact hl.step F₈ x₉
  have ne₉ : la ≠ ra := fun z => by
    obtain ⟨o, e⟩ := hR₅.some
    rw [z, (x₆.trans x₇).keep _ _ e] at fl; cases fl
  refine wpAny_execs_cons (whileL (fun k st => ∃ r la, k = 6 - r ∧ r ≤ 5 ∧ Fm (envC fd281 La 281) [("left", .ref la), ("rounds", .ref ra), ("bound", .ref ba), ("kinds", .ref ka)] st ∧ Ext s st ∧
    Nats st.heap la (leftAt hs r) ∧ Nats st.heap ra (part hs r 0) ∧ la ≠ ra) 6 ⟨0, la, rfl, Nat.zero_le _, F₉.sub (sub_cons lk_here (sub_cons (lk_next (by kernel_rfl!) lk_here) (sub_cons (lk_next (by kernel_rfl!) (lk_next (by kernel_rfl!) lk_here)) (sub_cons (lk_next (by kernel_rfl!) (lk_next (by kernel_rfl!) (lk_next (by kernel_rfl!) lk_here))) sub_nil)))), e₉, hL₉, hR₉, ne₉⟩ ?_)
  clear hL₉ hR₉ ne₉ e₉ F₉ x₉ F₈ x₆₈ hl fl x₈ hrg frg x₇ hR₅ e₅ F₅ x₅ x₆ s₉ s₈ s₇ s₆ s₅ la rg
  rintro k st ⟨r, la, rfl, hr5, F₉, e₉, hL₉, hR₉, ne₉⟩
  refine wpAny_isTrue_Compare1 (eN F₉.rd lk_here (nilL fun N s₁₀ x₁₀ fN hN => ?_)) (by kernel_rfl!)
  refine neNil R₁ (hL₉.keeps x₁₀) hN.isList (wpAny_truthy_bool ?_)
  have F₁₀ := F₉.keeps x₁₀
  have e₁₀ := e₉.trans x₁₀
  have hL₁₀ := hL₉.keeps x₁₀
  have hR₁₀ := hR₉.keeps x₁₀
  cases he : (leftAt hs r).isEmpty with
  | true =>
    have hnil : leftAt hs r = [] := List.isEmpty_iff.mp he
    rw [part_done hnil] at hR₁₀
    refine ⟨fun e => (by cases e), fun _ => ?_⟩
    dsimp only
    refine wpAny_execs_cons (wpAny_Return_some (eN F₁₀.rd (lk_next (by kernel_rfl!) lk_here) (h ra s₁₀ e₁₀ hR₁₀)))
  | false =>
    refine ⟨fun _ => ?_, fun e => (by cases e)⟩
    have hr4 : r < 5 := by
      rcases Nat.lt_or_ge r 5 with h | h
      · exact h
      · rw [left_stop hm h] at he; cases he
    refine wpAny_execs_cons (wpAny_Assign_Name ?_ (by kernel_rfl!))
    refine lCc (pI fun j => ((leftAt hs r).filter fun i => decide (i < j) && D (cs.getD i 0) (cs.getD j 0)).isEmpty) (fun v y => y = v) (F₁₀.rd.sub (l' := [("left", .ref la), ("kinds", .ref ka), ("bound", .ref ba)]) (sub_cons lk_here (sub_cons (lk_next (by kernel_rfl!) (lk_next (by kernel_rfl!) (lk_next (by kernel_rfl!) lk_here))) (sub_cons (lk_next (by kernel_rfl!) (lk_next (by kernel_rfl!) lk_here)) sub_nil)))) ?_
    obtain ⟨lvs, hl, hli⟩ := hL₁₀
    refine eN F₁₀.rd lk_here ?_
    have lz : lvs.length ≤ 5 := by
      have := ints_len hli
      unfold toI at this
      rw [List.length_map] at this
      have h2 : (leftAt hs r).length ≤ hs.length := by unfold leftAt; exact Nat.le_trans (List.length_filter_le _ _) (by simp)
      omega
    have nz : lvs.toArray.size ≤ sizeLine := Nat.le_trans (show lvs.toArray.size ≤ 1000 by simp; omega) (by decide +kernel)
    refine ⟨_, _, Ext.refl _, (wk2_list R₁.hd hl).wk, nz, fun C X i v s₁₁ hv x₁₁ F₁₁ => ?_, fun C X i v s₁₁ hv _ x₁₁ F₁₁ => eN F₁₁ lk_here ⟨rfl, Ext.refl _⟩, fun fa ys s₁₁ vs fF hfa hvn hvs hP x₁₁ => ?_⟩
    · obtain ⟨j, tj, rfl, hj⟩ := nats_get hli i v (by simpa using hv)
      have hjn := (mem_left.mp (List.mem_of_getElem? hj)).1
      have e₁₁ := e₁₀.trans x₁₁
      refine ct1 (wpAny_isTrue_Compare1 ?_ (by kernel_rfl!))
      refine lC (pI fun i => decide (i < j) && D (cs.getD i 0) (cs.getD j 0)) (fun v y => y = v) F₁₁ ?_
      refine eN F₁₁ (lk_next (by kernel_rfl!) lk_here) ?_
      have hl₁₁ := hl.at fun o e => x₁₁.keep _ _ e
      refine ⟨_, _, Ext.refl _, (wk2_list R₁.hd hl₁₁).wk, nz, fun C' i' v s₁₂ hv' k₁₂ F₁₂ => ?_, fun C' i' v s₁₂ hv' _ k₁₂ F₁₂ => eN F₁₂ lk_here ⟨rfl, Ext.refl _⟩, fun da ys s₁₂ vs fd hda hvn hvs hP x₁₂ => ?_⟩
      · obtain ⟨i2, ti, rfl, hi2⟩ := nats_get hli i' v (by simpa using hv')
        have hin := (mem_left.mp (List.mem_of_getElem? hi2)).1
        refine ct1 (isTrue_and ?_)
        refine wpAny_isTrue_Compare1 (eN F₁₂ lk_here (eN F₁₂ (lk_next (by kernel_rfl!) lk_here) (wpAny_lt_int (wpAny_truthy_bool ?_)))) (by kernel_rfl!)
        have ep : pI (fun i => decide (i < j) && D (cs.getD i 0) (cs.getD j 0)) (Value.int (i2 : Nat) ti) = (decide (i2 < j) && D (cs.getD i2 0) (cs.getD j 0)) := by
          show (decide ((i2 : Int).toNat < j) && D (cs.getD (i2 : Int).toNat 0) (cs.getD j 0)) = _
          rw [Int.toNat_natCast]
        rw [ep]
        by_cases hij : i2 < j
        · have : decide ((i2 : Int) < (j : Int)) = true := decide_eq_true (by omega)
          rw [this, if_pos rfl, decide_eq_true hij, Bool.true_and]
          have kk : Kp s.heap s₁₂.heap := fun b o e => k₁₂ b o (e₁₁.keep b o e)
          obtain ⟨kvs, pk, kst⟩ := hk
          obtain ⟨bvs, pb, bst⟩ := hb
          refine isTrue_and (wpAny_isTrue_Compare1 (wpAny_BinOp ?_) (by kernel_rfl!))
          refine Subscript_ (eN F₁₂ (lk_next (by kernel_rfl!) (lk_next (by kernel_rfl!) (lk_next (by kernel_rfl!) lk_here))) (eN F₁₂ lk_here (item_strsA (pk.at fun o e => kk _ o e).isList kst (by omega) (by omega) (by omega) fun t₁₃ => ?_)))
          rw [Int.toNat_natCast, getD_sg (by omega)]
          refine Subscript_ (eN F₁₂ (lk_next (by kernel_rfl!) (lk_next (by kernel_rfl!) (lk_next (by kernel_rfl!) lk_here))) (eN F₁₂ (lk_next (by kernel_rfl!) lk_here) (item_strsA (pk.at fun o e => kk _ o e).isList kst (by omega) (by omega) (by omega) fun t₁₄ => ?_)))
          rw [Int.toNat_natCast, getD_sg (by omega)]
          refine SB.add (fun t₁₅ k₁₅ => ?_) (by show 1 + 1 ≤ sizeLine; decide +kernel)
          refine eN (F₁₂.keeps (s' := { s₁₂ with toks := k₁₅ }) (Ext.toks _ _)) (lk_next (by kernel_rfl!) (lk_next (by kernel_rfl!) (lk_next (by kernel_rfl!) (lk_next (by kernel_rfl!) lk_here)))) ?_
          refine in_list_strs (pb.at fun o e => kk _ o e).isList bst (wpAny_truthy_bool ?_)
          have hD : (bs.any fun x => x == (sg (cs.getD i2 0) ++ sg (cs.getD j 0) : Str)) = D (cs.getD i2 0) (cs.getD j 0) := hbs _ (hkm _ (getD_mem (by omega))) _ (hkm _ (getD_mem (by omega)))
          rw [hD]
          cases hDv : D (cs.getD i2 0) (cs.getD j 0) with
          | true =>
            rw [if_pos rfl]
            exact isTrue_and_nil ⟨rfl, Ext.toks _ _⟩
          | false =>
            rw [if_neg (by decide)]
            exact ⟨rfl, Ext.toks _ _⟩
        · have : decide ((i2 : Int) < (j : Int)) = false := decide_eq_false (by omega)
          rw [this, if_neg (by decide), decide_eq_false hij, Bool.false_and]
          exact ⟨rfl, Ext.refl _⟩
      · have hvs' : vs = lvs := by
          have := list_of_places hvn hvs
          simpa using this
        subst hvs'
        have hy := paired_eq hP
        have hN : Nats s₁₂.heap da ((leftAt hs r).filter fun i => decide (i < j) && D (cs.getD i 0) (cs.getD j 0)) := ⟨ys.toList, by simpa using hda.isList, by rw [hy]; exact nats_filter hli⟩
        refine nilL fun N2 s₁₃ x₁₃ fN2 hN2 => ?_
        refine eqNil R₁ (hN.keeps x₁₃) hN2.isList (wpAny_truthy_bool ⟨?_, x₁₂.trans x₁₃⟩)
        show _ = ((leftAt hs r).filter fun i => decide (i < (j : Int).toNat) && D (cs.getD i 0) (cs.getD (j : Int).toNat 0)).isEmpty
        rw [Int.toNat_natCast]
    · have hvs' : vs = lvs := by
        have := list_of_places hvn hvs
        simpa using this
      subst hvs'
      have hy := paired_eq hP
      have hN : Nats s₁₁.heap fa (freeOf D cs (leftAt hs r)) := ⟨ys.toList, by simpa using hfa.isList, by rw [hy]; exact nats_filter hli⟩
      have F₁₁ := F₁₀.keeps x₁₁
      have e₁₁ := e₁₀.trans x₁₁
      have hL₁₁ : Nats s₁₁.heap la (leftAt hs r) := ⟨vs, hl.at fun o e => x₁₁.keep _ _ e, hli⟩
      have hR₁₁ := hR₁₀.keeps x₁₁
      have nfa : fa ≠ ra := fun z => by
        obtain ⟨o, e⟩ := hR₁₀.some
        rw [z, e] at fF; cases fF
      refine sN F₁₁ fun s₁₂ x₁₂ F₁₂ => ?_
      dsimp only
      have e₁₂ : Ext s s₁₂ := e₁₁.step x₁₂ f
      have hL₁₂ := hL₁₁.step F₁₁ x₁₂
      have hR₁₂ := hR₁₁.step F₁₁ x₁₂
      have hF₁₂ := hN.step F₁₁ x₁₂
      refine wpAny_execs_cons (forL (fun b => Own (envC fd281 La 281) b ∨ b = ra) (fun q st => Fm (envC fd281 La 281) [("free", .ref fa), ("left", .ref la), ("rounds", .ref ra), ("bound", .ref ba), ("kinds", .ref ka)] st ∧ Nats st.heap la (leftAt hs r) ∧ Nats st.heap ra (part hs r q) ∧
        Nats st.heap fa (freeOf D cs (leftAt hs r))) ?_)
      refine c1t (T := "range") (fun Q' q => eB (T.keeps e₁₂) (by kernel_rfl!) (by kernel_rfl!) q) ?_
      refine c1b (id := "len") (fun Q' q => eB (T.keeps e₁₂) (by kernel_rfl!) (by kernel_rfl!) q) (eN F₁₂.rd (lk_next (by kernel_rfl!) (lk_next (by kernel_rfl!) (lk_next (by kernel_rfl!) (lk_next (by kernel_rfl!) lk_here)))) (lenS (hk.keeps e₁₂) (by omega) fun s₁₃ t₁₃ x₁₃ => ?_))
      rw [hkl]
      refine rangeC fun rg s₁₄ ta tb tc x₁₄ frg hrg => ?_
      have y₁₄ := x₁₃.trans x₁₄
      have F₁₄ := F₁₂.keeps y₁₄
      refine ⟨_, _, _, wk2_range R₁.hd hrg (by omega), fun b hb => ⟨by simp, ?_⟩, ⟨F₁₄.sub (sub_cons lk_here (sub_cons (lk_next (by kernel_rfl!) lk_here) (sub_cons (lk_next (by kernel_rfl!) (lk_next (by kernel_rfl!) lk_here)) (sub_cons (lk_next (by kernel_rfl!) (lk_next (by kernel_rfl!) (lk_next (by kernel_rfl!) lk_here))) (sub_cons (lk_next (by kernel_rfl!) (lk_next (by kernel_rfl!) (lk_next (by kernel_rfl!) (lk_next (by kernel_rfl!) lk_here)))) sub_nil))))), hL₁₂.keeps y₁₄, hR₁₂.keeps y₁₄, hF₁₂.keeps y₁₄⟩,
        fun i s' s'' j k => ⟨j.1.kt k, j.2.1.kt k, j.2.2.1.kt k, j.2.2.2.kt k⟩, fun q v s₁₅ hq hP' m₁₅ j => ?_, fun s₁₅ m₁₅ j => ?_⟩
      · rcases hb with hb | rfl
        · exact F₁₄.own hb
        · exact (hR₁₂.keeps y₁₄).some
      · obtain ⟨tq, rfl⟩ := hP'
        obtain ⟨jF, jL, jR, jf⟩ := j
        refine wpAny_assign_Name (sN jF fun s₁₆ x₁₆ F₁₆ => ?_)
        have kL := jL.step jF x₁₆
        have kR := jR.step jF x₁₆
        have kf := jf.step jF x₁₆
        refine wpAny_execs_cons (wpAny_AugAssign_Subscript ?_)
        refine eN F₁₆.rd (lk_next (by kernel_rfl!) (lk_next (by kernel_rfl!) (lk_next (by kernel_rfl!) lk_here))) (eN F₁₆.rd lk_here ?_)
        obtain ⟨rvs, hrl, hri⟩ := kR
        have hqn : q < hs.length := hq
        obtain ⟨t₁₇, hx⟩ := nats_at hri q _ (part_get hqn)
        rw [if_neg (Nat.lt_irrefl q)] at hx
        refine wpAny_getItem_list hrl (by omega) (by omega) (x := .int ((min (hs.getD q 0) r : Nat) : Int) t₁₇) (by simpa using hx) ?_
        obtain ⟨lvs2, hl2, hli2⟩ := kL
        have fin : ∀ (b : Nat) (s₁₇ : Shared) (tv : Tok), Ext s₁₆ s₁₇ → b = (if (leftAt hs r).contains q = true then 1 else 0) →
            WP w (A.deeper (envC fd281 La 281)) (inplaceOp .Add (.int ((min (hs.getD q 0) r : Nat) : Int) t₁₇) (.int (b : Nat) tv)) (fun new s₅ => WP w (A.deeper (envC fd281 La 281)) (setItem (.ref ra) (.int (q : Nat) tq) new) (fun _ s₃ =>
              Mv (fun b => Own (envC fd281 La 281) b ∨ b = ra) s₁₅ s₃ ∧ Fm (envC fd281 La 281) [("free", .ref fa), ("left", .ref la), ("rounds", .ref ra), ("bound", .ref ba), ("kinds", .ref ka)] s₃ ∧ Nats s₃.heap la (leftAt hs r) ∧
              Nats s₃.heap ra (part hs r (q + 1)) ∧ Nats s₃.heap fa (freeOf D cs (leftAt hs r))) s₅) s₁₇ := by
          intro b s₁₇ tv x₁₇ hbv
          refine iadd_int ?_
          have hr17 : (s₁₇.heap).IsList ra rvs.toArray := hrl.at fun o e => x₁₇.keep _ _ e
          have hrz : rvs.length = hs.length := by
            have := ints_len hri
            unfold toI part at this
            simpa using this
          refine wpAny_setItem_list (s := { s₁₇ with toks := s₁₇.toks + 1 }) hr17 (by omega) (by omega) (by simp; omega) fun h' hl' hs' => ?_
          have bt : But ra s₁₇ { s₁₇ with heap := h', toks := s₁₇.toks + 1 } := ⟨fun b o ne e => (hs'.2 b ne).trans e, rfl, rfl, rfl⟩
          refine ⟨(x₁₆.mv fun _ h => .inl h).trans (x₁₇.mv.trans (bt.mv (.inr rfl))), ((F₁₆.keeps x₁₇).but bt (list_own F₁₆ hrl)).sub (sub_cons (lk_next (by kernel_rfl!) lk_here) (sub_cons (lk_next (by kernel_rfl!) (lk_next (by kernel_rfl!) lk_here)) (sub_cons (lk_next (by kernel_rfl!) (lk_next (by kernel_rfl!) (lk_next (by kernel_rfl!) lk_here))) (sub_cons (lk_next (by kernel_rfl!) (lk_next (by kernel_rfl!) (lk_next (by kernel_rfl!) (lk_next (by kernel_rfl!) lk_here)))) (sub_cons (lk_next (by kernel_rfl!) (lk_next (by kernel_rfl!) (lk_next (by kernel_rfl!) (lk_next (by kernel_rfl!) (lk_next (by kernel_rfl!) lk_here))))) sub_nil))))), ?_, ?_, ?_⟩
          · exact Nats.but (s := s₁₇) ⟨lvs2, hl2.at fun o e => x₁₇.keep _ _ e, hli2⟩ bt ne₉
          · have := nats_set (y := min (hs.getD q 0) r + b) (t := s₁₇.toks) hri q
            rw [hbv, part_step hqn] at this
            refine ⟨_, ?_, this⟩
            have e2 : (rvs.toArray.setIfInBounds (q : Int).toNat (.int (((min (hs.getD q 0) r : Nat) : Int) + (b : Nat)) s₁₇.toks)) = (rvs.set q (.int ((min (hs.getD q 0) r + (if (leftAt hs r).contains q = true then 1 else 0) : Nat) : Int) s₁₇.toks)).toArray := by
              rw [Int.toNat_natCast, hbv]
              simp
            rw [← e2]; exact hl'
          · exact Nats.but (s := s₁₇) (kf.keeps x₁₇) bt nfa
        refine WIfE (wpAny_isTrue_Compare1 (eN F₁₆.rd lk_here (eN F₁₆.rd (lk_next (by kernel_rfl!) (lk_next (by kernel_rfl!) lk_here)) (in_list_ints hl2 hli2 (wpAny_truthy_bool ?_)))) (by kernel_rfl!))
        rw [nats_any]
        refine ⟨fun hc => ?_, fun hc => ?_⟩
        · refine wpAny_Constant_int ((fin 1 _ _ (Ext.toks _ _) (by rw [if_pos hc])).mono fun new s₅ h₅ => h₅.mono fun _ s₃ h₃ => ?_)
          dsimp only
          exact wpAny_execs_nil h₃
        · refine wpAny_Constant_int ((fin 0 _ _ (Ext.toks _ _) (by rw [if_neg (by rw [hc]; decide)])).mono fun new s₅ h₅ => h₅.mono fun _ s₃ h₃ => ?_)
          dsimp only
          exact wpAny_execs_nil h₃
      · obtain ⟨jF, jL, jR, jf⟩ := j
        rw [part_full hs r _ (Nat.le_refl _)] at jR
        have e₁₅ : Ext s s₁₅ := (e₁₂.trans y₁₄).then m₁₅ fun a ha => by
          rcases ha with ha | rfl
          · exact f a ha
          · exact fr₀
        dsimp only
        refine wpAny_execs_cons (wpAny_Assign_Name ?_ (by kernel_rfl!))
        obtain ⟨fvs, hfl, hfi⟩ := jf
        obtain ⟨lvs2, hl2, hli2⟩ := jL
        have lz2 : lvs2.length ≤ 5 := by
          have := ints_len hli2
          have h3 := ints_len hli
          omega
        refine lC (pI fun j => !(freeOf D cs (leftAt hs r)).contains j) (fun v y => y = v) (jF.rd.sub (l' := [("free", .ref fa)]) (sub_cons lk_here sub_nil)) ?_
        refine eN jF.rd (lk_next (by kernel_rfl!) lk_here) ?_
        refine ⟨_, _, Ext.refl _, (wk2_list R₁.hd hl2).wk, Nat.le_trans (show lvs2.toArray.size ≤ 1000 by simp; omega) (by decide +kernel), fun C i v s₁₆ hv k₁₆ F₁₆ => ?_, fun C i v s₁₆ hv _ k₁₆ F₁₆ => eN F₁₆ lk_here ⟨rfl, Ext.refl _⟩, fun lb ys s₁₆ vs' flb hlb hvn' hvs' hP x₁₆ => ?_⟩
        · obtain ⟨j, tj, rfl, hj⟩ := nats_get hli2 i v (by simpa using hv)
          refine ct1 (wpAny_isTrue_Compare1 (eN F₁₆ lk_here (eN F₁₆ (lk_next (by kernel_rfl!) lk_here) (notin_list_ints (hfl.at fun o e => k₁₆ _ o e) hfi (wpAny_truthy_bool ?_)))) (by kernel_rfl!))
          rw [nats_any]
          refine ⟨?_, Ext.refl _⟩
          show _ = !(freeOf D cs (leftAt hs r)).contains (j : Int).toNat
          rw [Int.toNat_natCast]
        · have hvs'' : vs' = lvs2 := by
            have := list_of_places hvn' hvs'
            simpa using this
          subst hvs''
          have hy := paired_eq hP
          have hN2 : Nats s₁₆.heap lb (leftAt hs (r + 1)) := ⟨ys.toList, by simpa using hlb.isList, by rw [hy, ← left_step L]; exact nats_filter hli2⟩
          have nlb : lb ≠ ra := fun z => by
            obtain ⟨o, e⟩ := jR.some
            rw [z, e] at flb; cases flb
          refine sN (jF.keeps x₁₆) fun s₁₇ x₁₇ F₁₇ => ?_
          dsimp only
          refine wpAny_execs_nil ?_
          dsimp only
          exact ⟨6 - (r + 1), by omega, r + 1, lb, rfl, by omega, F₁₇.sub (sub_cons lk_here (sub_cons (lk_next (by kernel_rfl!) (lk_next (by kernel_rfl!) (lk_next (by kernel_rfl!) lk_here))) (sub_cons (lk_next (by kernel_rfl!) (lk_next (by kernel_rfl!) (lk_next (by kernel_rfl!) (lk_next (by kernel_rfl!) lk_here)))) (sub_cons (lk_next (by kernel_rfl!) (lk_next (by kernel_rfl!) (lk_next (by kernel_rfl!) (lk_next (by kernel_rfl!) (lk_next (by kernel_rfl!) lk_here))))) sub_nil)))), (e₁₅.trans x₁₆).step x₁₇ f, hN2.step (jF.keeps x₁₆) x₁₇, (jR.keeps x₁₆).step (jF.keeps x₁₆) x₁₇, nlb⟩
end
end Mine
end
section
open PySem PySem.W PySem.Calls PyProof.Rows PySem.W.X PySem.W.XRun PySem.SeqAt
set_option Elab.async false
set_option maxRecDepth 100000
set_option maxHeartbeats 0
set_option linter.unusedVariables false
namespace Mine
noncomputable def Drw (w : World) (h : Heap) (d : Addr) (u : List Nat) : Prop := ∃ f, h.MapOf (strKind pw w) d f ∧ ∀ c ∈ u, ∃ t, f (sg c) = some (.str (sg (kd c)) t)
theorem Drw.kp {w : World} {h h' : Heap} {d : Addr} {u : List Nat} (x : Drw w h d u) (k : ∀ o, h.get? d = some o → h'.get? d = some o) : Drw w h' d u :=
  let ⟨f, ⟨o, es, ep, e, r⟩, p⟩ := x; ⟨f, ⟨o, es, ep, k _ e, r⟩, p⟩
section
variable {w : World} {A : Around} {s : Shared} {env : Env} {Q : Value → Shared → Prop}
theorem drwGet {u : List Nat} {value slice : Expr} {pos : Pos}
    (h : WP w A (eval value env) (fun o s₁ => WP w A (eval slice env) (fun i s₂ => ∃ d c t, o = .ref d ∧ i = .str (sg c) t ∧ Drw w s₂.heap d u ∧ c ∈ u ∧ ∀ s' t', Ext s₂ s' → Q (.str (sg (kd c)) t') s') s₁) s)
    (hs : ∀ o i, ∃ k, subscripted slice false o i = operate k (getItem o i) := by intro o i; exact ⟨_, rfl⟩) :
    WP w A (eval (.Subscript value slice pos) env) Q s := by
  refine subA (wpAny_mono h (fun o s₁ h₁ => wpAny_mono h₁ (fun i s₂ h₂ => ?_) fun _ _ e => e) fun _ _ e => e) hs
  obtain ⟨d, c, t, rfl, rfl, ⟨f, hm, hf⟩, hc, hQ⟩ := h₂
  obtain ⟨t', ht⟩ := hf c hc
  refine ⟨"dict", _, hm.typeIs, slot_dict_getitem.lookup, wpAny_getItem_of (knd := strKind pw w) (k := sg c) ?_ hm ht (hQ _ _ (Ext.toks _ _))⟩
  show Value.isStrOf (sg c) (.str (sg c) t) = true
  simp [Value.isStrOf]
theorem copyL {a : Addr} {items : Array Value} (hl : s.heap.IsList a items) (hz : items.size ≤ 1000) (h : ∀ D s', Ext s s' → s.heap.get? D = none → s'.heap.PlainList D items → Q (.ref D) s') : WP w A (call (.type "list") [.ref a]) Q s := by
  obtain ⟨o, e, c, n, d⟩ := hl
  exact call_list_seq a (.inl rfl) e c d (fun h' c' hk hD => h _ _ ⟨hk, rfl, rfl, rfl⟩ (fresh_at s) ⟨c', hD⟩) (Nat.le_trans hz (by decide +kernel))
theorem indexS {l : Addr} {vs : List Value} {ss : List Str} {k : Str} {t : Tok} (hl : s.heap.IsList l vs.toArray) (hi : StrsAre vs ss) (hz : ss.length ≤ 1000) (hk : k ∈ ss) (h : ∀ s' t, Ext s s' → Q (.int (ss.idxOf k : Nat) t) s') :
    WP w A (call (.builtin "list.index") [.ref l, .str k t]) Q s := by
  obtain ⟨⟨cls, dd, data, sl⟩, ho, hc, n, hd⟩ := id hl
  simp only at hc hd
  subst hc hd
  have hlen := strs_len hi
  have hj : ss.idxOf k < ss.length := List.idxOf_lt_length_iff.mpr hk
  have at_ : ∀ (j : Nat) (hj : j < vs.length), isStrOf k vs[j] = (ss[j]'(by omega) == k) := fun j hj => by
    obtain ⟨y, ty, e, hy⟩ := strs_get hi j vs[j] (List.getElem?_eq_getElem hj)
    rw [e]
    have : ss[j]'(by omega) = y := by
      have := List.getElem?_eq_getElem (l := ss) (i := j) (by omega)
      rw [hy] at this; exact (Option.some.inj this).symm
    rw [this]; rfl
  refine call_meets PySem.F.slot_list_index ⟨_, ho, rfl⟩ PySem.F.entry_list_index (PySem.F.args_list_index_2 _ _)
    (list_indexAt l vs.toArray n dd sl (.str k t) (isStrOf k) (ss.idxOf k) (by simp; omega) (by omega) ?_ ?_) ⟨ho, fun y hy => (eq_isStrOf k t hi y (by simpa using hy)).at _ _, h _ _ (Ext.toks _ _)⟩
  · show isStrOf k vs[ss.idxOf k] = true
    rw [at_ _ (by omega)]
    simp
  · intro j hjs hlt
    show isStrOf k vs[j] = false
    rw [at_ j (by simpa using hjs)]
    have := List.not_of_lt_findIdx (p := (· == k)) (xs := ss) (i := j) hlt
    simpa using this
theorem strs_shaped {ss : List Str} (h : ss.all PyData.strOk = true) : shaped (.list (ss.map .str)) = true := by
  unfold shaped
  rw [PyData.canLay0, canLayAll_strs', h, PyData.depth, depthAll_strs']
  rfl
theorem neNilS {n : Nat} {a b : Addr} {ss : List Str} (R : Room A n) (hl : Strs s.heap a ss) (hs : ss.all PyData.strOk = true) (hb : s.heap.IsList b #[]) (h : Q (.bool (!ss.isEmpty)) s) : WP w A (compareOp .NotEq (.ref a) (.ref b)) Q s := by
  obtain ⟨vs, ⟨m, e⟩, y⟩ := hl
  obtain ⟨bs, rb⟩ := ints_reads (vs := []) (l := []) hb .nil
  refine compareNe_shaped (Reads.list e rfl rfl (y.reads _)) rb (strs_shaped hs) (ints_shaped _) R.eq ?_
  have : PyData.eqv (.list (ss.map .str)) (.list (([] : List Int).map .int)) = ss.isEmpty := by cases ss <;> rfl
  rw [this]; exact h
end
end Mine
end
section
open PySem PySem.W PySem.Calls PyProof.Rows PySem.W.X PySem.W.XRun PySem.SeqAt
set_option Elab.async false
set_option maxRecDepth 100000
set_option maxHeartbeats 0
set_option linter.unusedVariables false
namespace Mine
section
variable {w : World} {A : Around} {s : Shared} {env : Env} {Q : Value → Shared → Prop} {D : Nat → Nat → Bool}
theorem sg_inj {a b : Nat} (h : sg a = sg b) : a = b := by
  have := congrArg (fun x : Str => x.cps.toList) h
  simpa [sg] using this
theorem idx_sg (c : Nat) : ∀ l : List Nat, (l.map sg).idxOf (sg c) = l.idxOf c
  | [] => rfl
  | a :: l => by
    rw [List.map_cons, List.idxOf_cons, List.idxOf_cons, idx_sg c l]
    have : (sg a == sg c) = (a == c) := by
      by_cases h : a = c
      · subst h; simp
      · rw [beq_eq_false_iff_ne.mpr h, beq_eq_false_iff_ne.mpr (fun e => h (sg_inj e))]
    rw [this]
noncomputable def pS (q : Nat → Bool) : Value → Bool
  | .str x _ => q (x.cps.getD 0 0)
  | _ => false
theorem strs_filter {q : Nat → Bool} : ∀ {vs : List Value} {l : List Nat}, StrsAre vs (l.map sg) → StrsAre (vs.filter (pS q)) ((l.filter q).map sg)
  | [], [], _ => .nil
  | v :: vs, n :: l, h => by
    cases h with
    | cons _ t h =>
      rw [List.filter_cons, List.filter_cons]
      have e : pS q (.str (sg n) t) = q n := rfl
      rw [e]
      split
      · exact .cons _ _ (strs_filter h)
      · exact strs_filter h
theorem strs_take {vs : List Value} {ss : List Str} (h : StrsAre vs ss) : ∀ k, StrsAre (vs.take k) (ss.take k) := by
  induction h with
  | nil => intro k; simp; exact .nil
  | cons y t h ih =>
    intro k
    cases k with
    | zero => exact .nil
    | succ k => exact .cons _ _ (ih k)
theorem strs_drop {vs : List Value} {ss : List Str} (h : StrsAre vs ss) : ∀ k, StrsAre (vs.drop k) (ss.drop k) := by
  induction h with
  | nil => intro k; simp; exact .nil
  | cons y t h ih =>
    intro k
    cases k with
    | zero => exact .cons _ _ h
    | succ k => exact ih k
theorem sg_ok {l : List Nat} (h : ∀ c ∈ l, c ∈ signs) : (l.map sg).all PyData.strOk = true := by
  rw [List.all_map, List.all_eq_true]
  intro c hc
  have : ∀ c ∈ signs, c < 1114112 := by decide +kernel
  have h2 := this c (h c hc)
  show (#[c] : Array Nat).all (· < 0x110000) = true
  simp; omega
theorem sg_get {l : List Nat} {vs : List Value} (h : StrsAre vs (l.map sg)) {i : Nat} {v : Value} (e : vs[i]? = some v) : ∃ c t, v = .str (sg c) t ∧ l[i]? = some c := by
  obtain ⟨y, t, rfl, hy⟩ := strs_get h i v e
  obtain ⟨c, hc, rfl⟩ : ∃ c, l[i]? = some c ∧ sg c = y := by simpa using hy
  exact ⟨c, t, rfl, hc⟩
theorem filt_any {q : Nat → Bool} (l : List Nat) : (!((l.filter q).map sg).isEmpty) = l.any q := by
  induction l with
  | nil => rfl
  | cons a l ih =>
    rw [List.filter_cons, List.any_cons]
    cases e : q a with
    | true => rfl
    | false => simpa using ih
theorem same_cons (kd : Nat → Nat) (c : Nat) (u v : List Nat) : sameL kd D (c :: u) v = (if (v.take (v.idxOf c)).any (fun b => D (kd b) (kd c)) then false else sameL kd D u (v.take (v.idxOf c) ++ v.drop (v.idxOf c + 1))) := rfl
theorem lawSame {wa oa da ba : Addr} {u v us : List Nat} {bs : List Str} (R : Room A 8) (T : YP w s.heap) (hw : Strs s.heap wa (u.map sg)) (ho : Strs s.heap oa (v.map sg)) (hd : Drw w s.heap da us) (hus : ∀ c ∈ u, c ∈ us) (hcs : ∀ c ∈ u, c ∈ signs)
    (hb : Strs s.heap ba bs) (hbs : ∀ x ∈ ks4, ∀ y ∈ ks4, (bs.any (· == ⟨#[x, y]⟩)) = D x y) (hp : u.Perm v) (hz : u.length ≤ 5)
    (h : ∀ s', Ext s s' → Q (.bool (sameL kd D u v)) s') :
    WP w A (call (.ref 286) [.ref wa, .ref oa, .ref da, .ref ba]) Q s := by
  refine callC (fd := fd286) (body := fnB (top 25)) (n := 7) [("word", .ref wa), ("other", .ref oa), ("drawn", .ref da), ("bound", .ref ba)] R T (T _ _ (fo286 w)) rfl rfl (fc286 T) (by kernel_rfl!) (fun L => (by kernel_rfl!)) fun La s₁ x₁ f F T₁ R₁ => ?_
  conv in (fnB (top 25)) => whnf
  refine wpAny_execs_cons (wpAny_Assign_Name ?_ (by kernel_rfl!))
  obtain ⟨ovs, po, sto⟩ := ho
  have oz : ovs.length ≤ 5 := by
    have := strs_len sto
    rw [List.length_map, ← hp.length_eq] at this
    omega
  refine c1t (T := "list") (fun Q' q => eB T₁ (by kernel_rfl!) (by kernel_rfl!) q) (eN F.rd (lk_next (by kernel_rfl!) (lk_next (by kernel_rfl!) lk_here)) (copyL (po.at fun o e => x₁.keep _ _ e).isList (by simp; omega) fun la s₂ x₂ fl hl => ?_))
  have F₂ := F.keeps x₂
  refine sN F₂ fun s₃ x₃ F₃ => ?_
  dsimp only
  have e₃ : Ext s s₃ := (x₁.trans x₂).step x₃ f
  have hl₃ : Strs s₃.heap la (v.map sg) := ⟨ovs, plain_step hl F₂ x₃, sto⟩
  obtain ⟨wvs, pw_, stw⟩ := hw
  refine wpAny_execs_cons (forL (Own (envC fd286 La 286)) (fun i st => ∃ la vi, Fm (envC fd286 La 286) [("left", .ref la), ("bound", .ref ba), ("drawn", .ref da), ("word", .ref wa)] st ∧ Strs st.heap la (vi.map sg) ∧ (u.drop i).Perm vi ∧ sameL kd D u v = sameL kd D (u.drop i) vi) (eN F₃.rd (lk_next (by kernel_rfl!) (lk_next (by kernel_rfl!) (lk_next (by kernel_rfl!) (lk_next (by kernel_rfl!) lk_here)))) ?_))
  refine ⟨_, _, _, wk2_list R₁.hd (pw_.at fun o e => e₃.keep _ _ e).isList, fun b hb => ⟨by rw [List.mem_singleton]; exact fun z => (by obtain ⟨n, e⟩ := pw_; exact f.not_own e (z ▸ hb)), F₃.own hb⟩,
    ⟨la, v, F₃.sub (sub_cons lk_here (sub_cons (lk_next (by kernel_rfl!) lk_here) (sub_cons (lk_next (by kernel_rfl!) (lk_next (by kernel_rfl!) lk_here)) (sub_cons (lk_next (by kernel_rfl!) (lk_next (by kernel_rfl!) (lk_next (by kernel_rfl!) (lk_next (by kernel_rfl!) lk_here)))) sub_nil)))), hl₃, hp, rfl⟩, fun i s' s'' ⟨la, vi, j1, j2, j3⟩ k => ⟨la, vi, j1.kt k, j2.kt k, j3⟩, fun i y s₄ hi hP m₄ j => ?_, fun s₄ m₄ j => ?_⟩
  · obtain ⟨la, vi, jF, jL, jp, js⟩ := j
    obtain ⟨c, tc, rfl, hc⟩ := sg_get stw (i := i) (by simpa using hP)
    have e₄ : Ext s s₄ := e₃.then m₄ fun a ha => f a ha
    have hcu := List.mem_of_getElem? hc
    obtain ⟨hci, ece⟩ := List.getElem?_eq_some_iff.mp hc
    have hdr : u.drop i = c :: u.drop (i + 1) := by rw [List.drop_eq_getElem_cons hci, ece]
    have hcv : c ∈ vi := jp.mem_iff.mp (by rw [hdr]; exact List.mem_cons_self)
    have hsub : ∀ b ∈ vi, b ∈ u := fun b hb => List.mem_of_mem_drop (jp.mem_iff.mpr hb)
    have vz : vi.length ≤ 5 := by rw [← jp.length_eq, List.length_drop]; omega
    refine wpAny_assign_Name (sN jF fun s₅ x₅ F₅ => ?_)
    have e₅ : Ext s s₅ := e₄.step x₅ f
    obtain ⟨vs, pl, stl⟩ := jL.step jF x₅
    have vsz : vs.length = vi.length := by have := strs_len stl; rwa [List.length_map] at this
    refine wpAny_execs_cons (wpAny_Assign_Name ?_ (by kernel_rfl!))
    refine lM PySem.F.slot_list_index PySem.F.type_list_index (eN F₅.rd (lk_next (by kernel_rfl!) lk_here) ⟨la, _, rfl, pl, eN F₅.rd lk_here (indexS pl.isList stl (by simp; omega) (List.mem_map.mpr ⟨c, hcv, rfl⟩) fun s₆ t₆ x₆ => ?_)⟩)
    rw [idx_sg]
    have F₆ := F₅.keeps x₆
    refine sN F₆ fun s₇ x₇ F₇ => ?_
    dsimp only
    have e₇ : Ext s s₇ := (e₅.trans x₆).step x₇ f
    have pl₇ := plain_step (pl.at fun o e => x₆.keep _ _ e) F₆ x₇
    have m₇ : Mv (Own (envC fd286 La 286)) s₄ s₇ := ((x₅.mv fun _ h => h).trans x₆.mv).trans (x₇.mv fun _ h => h)
    have hk : vi.idxOf c < vi.length := List.idxOf_lt_length_iff.mpr hcv
    have d₇ := hd.kp fun o e => e₇.keep _ _ e
    obtain ⟨bvs, pb, bst⟩ := hb
    refine wpAny_execs_cons (WIf (wpAny_isTrue_Compare1 ?_ (by kernel_rfl!)))
    refine lC (pS fun b => D (kd b) (kd c)) (fun v y => y = v) (F₇.rd.sub (l' := [("sign", .str (sg c) tc), ("drawn", .ref da), ("bound", .ref ba)]) (sub_cons (lk_next (by kernel_rfl!) lk_here) (sub_cons (lk_next (by kernel_rfl!) (lk_next (by kernel_rfl!) (lk_next (by kernel_rfl!) (lk_next (by kernel_rfl!) lk_here)))) (sub_cons (lk_next (by kernel_rfl!) (lk_next (by kernel_rfl!) (lk_next (by kernel_rfl!) lk_here))) sub_nil)))) ?_
    refine subLS (eN F₇.rd (lk_next (by kernel_rfl!) (lk_next (by kernel_rfl!) lk_here)) (wpAny_evalPart_none (wpAny_evalPart_some (eN F₇.rd lk_here ⟨la, _, none, some ((vi.idxOf c : Nat) : Int), rfl, pl₇.isList, Nat.le_trans (show vs.toArray.size ≤ 1000 by simp; omega) (by decide +kernel), .none, .int _ _, fun D1 s₈ x₈ fD1 hD1 => ?_⟩))))
    rw [slicePick_upto'] at hD1
    refine ⟨_, _, x₈, (wk2_list R₁.hd hD1.isList).wk, Nat.le_trans (show _ ≤ 1000 by simp; omega) (by decide +kernel), fun C i' y s₉ hy k₉ F₉ => ?_, fun C i' y s₉ hy _ k₉ F₉ => eN F₉ lk_here ⟨rfl, Ext.refl _⟩, fun D2 ys s₉ vs' fD2 hD2 hvn hvs hP₉ x₉ => ?_⟩
    · obtain ⟨b, tb, rfl, hbi⟩ := sg_get (l := vi.take (vi.idxOf c)) (by rw [List.map_take]; exact strs_take stl _) (i := i') (v := y) (by simpa using hy)
      have hbv : b ∈ vi := List.mem_of_mem_take (List.mem_of_getElem? hbi)
      have kk : Kp s.heap s₉.heap := fun p o e => k₉ p o (x₈.keep _ _ (e₇.keep _ _ e))
      have d₉ := hd.kp fun o e => kk _ o e
      refine ct1 (wpAny_isTrue_Compare1 (wpAny_BinOp ?_) (by kernel_rfl!))
      refine drwGet (u := us) (eN F₉ (lk_next (by kernel_rfl!) (lk_next (by kernel_rfl!) lk_here)) (eN F₉ lk_here ⟨da, b, tb, rfl, rfl, d₉, hus b (hsub b hbv), fun s₁₀ t₁₀ x₁₀ => ?_⟩))
      have F₁₀ := F₉.keeps x₁₀
      refine drwGet (u := us) (eN F₁₀ (lk_next (by kernel_rfl!) (lk_next (by kernel_rfl!) lk_here)) (eN F₁₀ (lk_next (by kernel_rfl!) lk_here) ⟨da, c, tc, rfl, rfl, d₉.kp fun o e => x₁₀.keep _ _ e, hus c hcu, fun s₁₁ t₁₁ x₁₁ => ?_⟩))
      refine SB.add (fun t₁₂ k₁₂ => ?_) (by show 1 + 1 ≤ sizeLine; decide +kernel)
      have x₁₂ := (x₁₀.trans x₁₁).trans (Ext.toks s₁₁ k₁₂)
      refine eN (F₉.keeps x₁₂) (lk_next (by kernel_rfl!) (lk_next (by kernel_rfl!) (lk_next (by kernel_rfl!) lk_here))) (in_list_strs (pb.at fun o e => x₁₂.keep _ _ (kk _ o e)).isList bst (wpAny_truthy_bool ⟨?_, x₁₂⟩))
      exact hbs _ (kd_mem b) _ (kd_mem c)
    · have hvs' : vs' = (vs.take (vi.idxOf c)) := by
        have := list_of_places hvn hvs
        simpa using this
      subst hvs'
      have hyy := paired_eq hP₉
      have st2 : StrsAre (vs.take (vi.idxOf c)) ((vi.take (vi.idxOf c)).map sg) := by rw [List.map_take]; exact strs_take stl _
      have hS : Strs s₉.heap D2 (((vi.take (vi.idxOf c)).filter fun b => D (kd b) (kd c)).map sg) := ⟨ys.toList, by simpa using hD2, by rw [hyy]; exact strs_filter st2⟩
      refine nilL fun N s₁₀ x₁₀ fN hN => ?_
      refine neNilS R₁ (hS.keeps x₁₀) (sg_ok fun b hb => hcs b (hsub b (List.mem_of_mem_take (List.mem_filter.mp hb).1))) hN.isList (wpAny_truthy_bool ?_)
      rw [filt_any]
      have y₁₀ := (x₈.trans x₉).trans x₁₀
      refine ⟨fun ha => ?_, fun ha => ?_⟩
      · refine wpAny_execs_cons (wpAny_Return_some (wpAny_Constant_bool ?_))
        have : sameL kd D u v = false := by rw [js, hdr, same_cons, if_pos ha]
        have := h s₁₀ (e₇.trans y₁₀)
        rw [‹sameL kd D u v = false›] at this
        exact this
      · refine wpAny_execs_nil ?_
        dsimp only
        have F₁₀ := F₇.keeps y₁₀
        have pl₁₀ := pl₇.at fun o e => y₁₀.keep _ _ e
        refine wpAny_execs_cons (wpAny_Assign_Name (wpAny_BinOp ?_) (by kernel_rfl!))
        refine subLS (eN F₁₀.rd (lk_next (by kernel_rfl!) (lk_next (by kernel_rfl!) lk_here)) (wpAny_evalPart_none (wpAny_evalPart_some (eN F₁₀.rd lk_here ⟨la, _, none, some ((vi.idxOf c : Nat) : Int), rfl, pl₁₀.isList, Nat.le_trans (show vs.toArray.size ≤ 1000 by simp; omega) (by decide +kernel), .none, .int _ _, fun D3 s₁₁ x₁₁ fD3 hD3 => ?_⟩))))
        rw [slicePick_upto'] at hD3
        have F₁₁ := F₁₀.keeps x₁₁
        have pl₁₁ := pl₁₀.at fun o e => x₁₁.keep _ _ e
        refine subLS (eN F₁₁.rd (lk_next (by kernel_rfl!) (lk_next (by kernel_rfl!) lk_here)) (wpAny_evalPart_some (wpAny_BinOp (eN F₁₁.rd lk_here (wpAny_Constant_int (add_int (wpAny_evalPart_none ⟨la, _, some (((vi.idxOf c : Nat) : Int) + 1), none, rfl, pl₁₁.isList, Nat.le_trans (show vs.toArray.size ≤ 1000 by simp; omega) (by decide +kernel), .int _ _, .none, fun D4 s₁₂ x₁₂ fD4 hD4 => ?_⟩)))))))
        have ek : (((vi.idxOf c : Nat) : Int) + 1) = ((vi.idxOf c + 1 : Nat) : Int) := by push_cast; rfl
        rw [ek, slicePick_from'] at hD4
        have x₁₂' : Ext s₁₁ s₁₂ := ((Ext.toks s₁₁ _).trans (Ext.toks _ _)).trans x₁₂
        refine addL (hD3.at fun o e => x₁₂'.keep _ _ e).isList hD4.isList (by simp; omega) fun lb s₁₃ x₁₃ flb hlb => ?_
        have y₁₃ := (x₁₁.trans x₁₂').trans x₁₃
        have F₁₃ := F₁₀.keeps y₁₃
        refine sN F₁₃ fun s₁₄ x₁₄ F₁₄ => ?_
        dsimp only
        refine wpAny_execs_nil ?_
        dsimp only
        refine ⟨(m₇.trans (y₁₀.trans y₁₃).mv).trans (x₁₄.mv fun _ h => h), lb, vi.take (vi.idxOf c) ++ vi.drop (vi.idxOf c + 1), F₁₄.sub (sub_cons lk_here (sub_cons (lk_next (by kernel_rfl!) (lk_next (by kernel_rfl!) (lk_next (by kernel_rfl!) (lk_next (by kernel_rfl!) lk_here)))) (sub_cons (lk_next (by kernel_rfl!) (lk_next (by kernel_rfl!) (lk_next (by kernel_rfl!) (lk_next (by kernel_rfl!) (lk_next (by kernel_rfl!) lk_here))))) (sub_cons (lk_next (by kernel_rfl!) (lk_next (by kernel_rfl!) (lk_next (by kernel_rfl!) (lk_next (by kernel_rfl!) (lk_next (by kernel_rfl!) (lk_next (by kernel_rfl!) lk_here)))))) sub_nil)))), ?_, ?_, ?_⟩
        · refine Strs.step ⟨vs.take (vi.idxOf c) ++ vs.drop (vi.idxOf c + 1), ?_, ?_⟩ F₁₃ x₁₄
          · simpa using hlb
          · rw [List.map_append, List.map_take, List.map_drop]
            exact StrsAre.append (strs_take stl _) (strs_drop stl _)
        · have e1 := split_at hcv
          rw [hdr] at jp
          rw [e1] at jp
          exact List.Perm.cons_inv (jp.trans List.perm_middle)
        · rw [js, hdr, same_cons, if_neg (by rw [ha]; decide)]
  · obtain ⟨la, vi, jF, jL, jp, js⟩ := j
    dsimp only
    have hn : wvs.toArray.size = u.length := by
      have := strs_len stw
      rw [List.length_map] at this
      simpa using this
    rw [hn, List.drop_length] at js
    refine wpAny_execs_cons (wpAny_Return_some (wpAny_Constant_bool ?_))
    have := h s₄ (e₃.then m₄ fun a ha => f a ha)
    rw [js] at this
    exact this
end
end Mine
end
section
open PySem PySem.W PySem.Calls PyProof.Rows PySem.W.X PySem.W.XRun PySem.SeqAt
set_option Elab.async false
set_option maxRecDepth 100000
set_option maxHeartbeats 0
set_option linter.unusedVariables false
namespace Mine
theorem WP.to {α : Type} {w : World} {A : Around} {t : Sem α} {Q : α → Shared → Prop} {E : Value → Shared → Prop} {s : Shared} (h : WP w A t Q s) : wpAny (model pw w) A t Q E s := wpAny_mono h (fun _ _ q => q) fun _ _ e => e.elim
theorem alive_ {M : Model} {A : Around} {E : Value → Shared → Prop} {s : Shared} {a : Addr} {Q : Option Obj → Shared → Prop} (h : Q (s.heap.get? a) s) : wpAny M A (loadIfAlive a) Q E s := fun Γ p hΓ => by
  unfold loadIfAlive
  rw [Sem.wp_loadIfAlive]
  exact h
noncomputable def ZO (f0 : Value) (b : Bool) (TI TO : Addr) : Obj := { cls := .type "zip", dict := none, data := .fields #[f0, .bool b, .bool false, .ref TI, .ref TO], slots := #[] }
structure ZB (h : Heap) (z TI TO i1 i2 l1 l2 : Addr) (xs ys : Array Value) (k : Nat) : Prop where
  zo : ∃ (T : Nat) (b : Bool) (o : Obj), h.get? z = some (ZO (rawInt T) b TI TO) ∧ h.get? T = some o ∧ T ≠ z ∧ T ≠ i1 ∧ T ≠ i2 ∧ o.cls = .type "tuple"
  ti : IsPair h TI (.ref i1) (.ref i2)
  it1 : h.IsListIter i1 l1 k
  it2 : h.IsListIter i2 l2 k
  ls1 : h.IsList l1 xs
  ls2 : h.IsList l2 ys
section
variable {w : World} {A : Around} {s : Shared} {z TI TO i1 i2 l1 l2 : Addr} {xs ys : Array Value} {k : Nat}
theorem zipFree {f0 : Nat} {b : Bool} {o : Obj} {Q : Bool → Shared → Prop} {E : Value → Shared → Prop} (hz : s.heap.get? z = some (ZO (rawInt f0) b TI TO)) (ho : s.heap.get? f0 = some o)
    (h : ∀ h', h'.get? z = some (ZO (rawInt f0) true TI TO) → Heap.SameBut z s.heap h' → Q false { s with heap := h' }) : wpAny (model pw w) A (Builtin.SmallTypes.ownedTupleIsFree (.ref z)) Q E s := by
  unfold Builtin.SmallTypes.ownedTupleIsFree
  refine wpAny_bind (wpAny_field hz rfl (x := rawInt f0) rfl ?_)
  show wpAny _ _ (loadIfAlive ((f0 : Int).toNat) >>= _) _ _ _
  rw [Int.toNat_natCast]
  refine wpAny_bind (alive_ ?_)
  rw [ho]
  refine wpAny_bind (wpAny_field hz rfl (x := .bool b) rfl ?_)
  cases b with
  | true =>
    exact wpAny_pure (h s.heap hz ⟨rfl, fun _ _ => rfl⟩)
  | false =>
    refine wpAny_bind (wpAny_setField_rec hz (by simp) fun h₁ hz₁ hs₁ => ?_)
    exact wpAny_pure (h h₁ hz₁ hs₁)
theorem zipNextB {Q : Value → Shared → Prop} (D : ZipApart z TI TO i1 i2 l1 l2) (H : ZB s.heap z TI TO i1 i2 l1 l2 xs ys k) {x y : Value} (hx : xs[k]? = some x) (hy : ys[k]? = some y)
    (hQ : ∀ r s', s.heap.get? r = none → IsPair s'.heap r x y → ZB s'.heap z TI TO i1 i2 l1 l2 xs ys (k + 1) → Mv (fun c => c = z ∨ c = TO ∨ c = i1 ∨ c = i2) s s' → Q (.ref r) s') :
    WP w A (Builtin.«zip.__next__» ⟨[.ref z], []⟩) (fun fin s' => ∃ v, fin = .done (.ret v) ∧ Q v s') s := by
  obtain ⟨T, b, o, hz, hT, nT1, nT2, nT3, hTc⟩ := H.zo
  show wpAny _ _ (field (.ref z) 2 >>= _) _ _ _
  refine wpAny_bind (wpAny_field hz rfl (x := .bool false) rfl ?_)
  show wpAny _ _ (field (.ref z) 3 >>= _) _ _ _
  refine wpAny_bind (wpAny_field hz rfl (x := .ref TI) rfl ?_)
  refine wpAny_bind (wpAny_seqItems H.ti rfl ?_)
  show wpAny _ _ (Builtin.SmallTypes.ownedTupleIsFree (.ref z) >>= _) _ _ _
  refine wpAny_bind (zipFree hz hT fun h₁ hz₁ hs₁ => ?_)
  rw [if_neg (by decide)]
  refine wpAny_bind ?_
  rw [← Array.forIn_toList]
  simp only [List.forIn_cons, List.forIn_nil]
  refine wpAny_bind (wpAny_bind (wpAny_holding ?_))
  show wpAny _ _ (Builtin.SmallTypes.nextOf (.ref i1) >>= _) _ _ _
  refine wpAny_bind (wpAny_nextOf_list_item (H.it1.extBut hs₁.extBut D.i1z) (H.ls1.extBut hs₁.extBut D.l1z) hx fun h₂ h1₂ hs₂ => wpAny_pure ?_)
  refine wpAny_pure ?_
  dsimp only
  refine wpAny_bind (wpAny_bind (wpAny_holding ?_))
  show wpAny _ _ (Builtin.SmallTypes.nextOf (.ref i2) >>= _) _ _ _
  refine wpAny_bind (wpAny_nextOf_list_item ((H.it2.extBut hs₁.extBut D.i2z).extBut hs₂.extBut D.i12.symm) ((H.ls2.extBut hs₁.extBut D.l2z).extBut hs₂.extBut D.l2i1) hy fun h₃ h2₃ hs₃ => wpAny_pure ?_)
  refine wpAny_pure ?_
  dsimp only
  refine wpAny_pure ?_
  dsimp only
  refine wpAny_bind (wpAny_newTuple ?_ (by show 2 ≤ sizeLine; decide +kernel))
  refine wpAny_pure ⟨_, rfl, ?_⟩
  have up : ∀ c o, c ≠ z → c ≠ i1 → c ≠ i2 → s.heap.get? c = some o → h₃.get? c = some o := fun c o c1 c3 c4 e => hs₃.extBut _ _ c4 (hs₂.extBut _ _ c3 (hs₁.extBut _ _ c1 e))
  have fr : s.heap.get? h₃.objs.size = none := by rw [hs₃.1, hs₂.1, hs₁.1]; exact fresh_at s
  have hz₃ : h₃.get? z = some (ZO (rawInt T) true TI TO) := hs₃.extBut _ _ D.i2z.symm (hs₂.extBut _ _ D.i1z.symm hz₁)
  refine hQ _ _ fr (Heap.get?_push_size _ rfl) ⟨⟨T, true, o, Heap.get?_push_of_some _ hz₃, Heap.get?_push_of_some _ (up _ _ nT1 nT2 nT3 hT), nT1, nT2, nT3, hTc⟩, Heap.get?_push_of_some _ (up _ _ D.TIz D.TIi1 D.TIi2 H.ti), ?_, ?_, ?_, ?_⟩
    ⟨fun c o nc e => Heap.get?_push_of_some _ (up c o (fun z => nc (.inl z)) (fun z => nc (.inr (.inr (.inl z)))) (fun z => nc (.inr (.inr (.inr z)))) e), rfl, rfl, rfl⟩
  · exact (h1₂.extBut hs₃.extBut D.i12).at fun o e => Heap.get?_push_of_some _ e
  · exact h2₃.at fun o e => Heap.get?_push_of_some _ e
  · exact H.ls1.at fun o e => Heap.get?_push_of_some _ (up _ o D.l1z D.l1i1 D.l1i2 e)
  · exact H.ls2.at fun o e => Heap.get?_push_of_some _ (up _ o D.l2z D.l2i1 D.l2i2 e)
theorem zipEndB {E : Value → Shared → Prop} {Q : Fin → Shared → Prop} (hh : A.handled = none) (D : ZipApart z TI TO i1 i2 l1 l2) (H : ZB s.heap z TI TO i1 i2 l1 l2 xs ys k) (hx : xs[k]? = none)
    (hE : ∀ s' e, Mv (fun c => c = z ∨ c = TO ∨ c = i1 ∨ c = i2) s s' → (∃ o, s'.heap.get? e = some o ∧ o.cls = .type "StopIteration") → E (.ref e) s') :
    wpAny (model pw w) A (Builtin.«zip.__next__» ⟨[.ref z], []⟩) Q E s := by
  obtain ⟨T, b, o, hz, hT, nT1, nT2, nT3, hTc⟩ := H.zo
  show wpAny _ _ (field (.ref z) 2 >>= _) _ _ _
  refine wpAny_bind (wpAny_field hz rfl (x := .bool false) rfl ?_)
  show wpAny _ _ (field (.ref z) 3 >>= _) _ _ _
  refine wpAny_bind (wpAny_field hz rfl (x := .ref TI) rfl ?_)
  refine wpAny_bind (wpAny_seqItems H.ti rfl ?_)
  show wpAny _ _ (Builtin.SmallTypes.ownedTupleIsFree (.ref z) >>= _) _ _ _
  refine wpAny_bind (zipFree hz hT fun h₁ hz₁ hs₁ => ?_)
  rw [if_neg (by decide)]
  refine wpAny_bind ?_
  rw [← Array.forIn_toList]
  simp only [List.forIn_cons, List.forIn_nil]
  refine wpAny_bind (wpAny_bind (wpAny_holding ?_))
  show wpAny _ _ (Builtin.SmallTypes.nextOf (.ref i1) >>= _) _ _ _
  refine wpAny_bind (wpAny_nextOf_list_end hh (H.it1.extBut hs₁.extBut D.i1z) (H.ls1.extBut hs₁.extBut D.l1z) hx fun h₂ e hs₂ he => ?_)
  exact hE _ _ ⟨fun c o nc x => hs₂ _ _ (fun z => nc (.inr (.inr (.inl z)))) (hs₁.extBut _ _ (fun z => nc (.inl z)) x), rfl, rfl, rfl⟩ he
theorem nextB {Q : Option Value → Shared → Prop} (D : ZipApart z TI TO i1 i2 l1 l2) (H : ZB s.heap z TI TO i1 i2 l1 l2 xs ys k) {x y : Value} (hx : xs[k]? = some x) (hy : ys[k]? = some y)
    (hQ : ∀ r s', s.heap.get? r = none → IsPair s'.heap r x y → ZB s'.heap z TI TO i1 i2 l1 l2 xs ys (k + 1) → Mv (fun c => c = z ∨ c = TO ∨ c = i1 ∨ c = i2) s s' → Q (some (.ref r)) s') :
    WP w A (pyNext (.ref z)) Q s := by
  obtain ⟨T, b, o, hz, _⟩ := H.zo
  have hT : s.TypeIs (.ref z) "zip" := ⟨_, hz, rfl⟩
  unfold pyNext
  exact wpAny_bind (wpAny_attempt (wpAny_callSpecial?_slot (name := Str.ofString "__next__") hT PySem.F.slot_zip_next
    (wpAny_call_entry PySem.F.slot_zip_next hT PySem.F.entry_zip_next
      ((zipNextB (Q := fun v s' => wpAny (model pw w) A (pure (some v) : Sem (Option Value)) Q NoE s') D H hx hy fun r s' a1 a2 a3 a4 => wpAny_pure (hQ r s' a1 a2 a3 a4)).to) (PySem.F.args_zip_next_1 _))))
theorem endB {Q : Option Value → Shared → Prop} (hh : A.handled = none) (D : ZipApart z TI TO i1 i2 l1 l2) (H : ZB s.heap z TI TO i1 i2 l1 l2 xs ys k) (hx : xs[k]? = none)
    (hQ : ∀ s', Mv (fun c => c = z ∨ c = TO ∨ c = i1 ∨ c = i2) s s' → Q none s') : WP w A (pyNext (.ref z)) Q s := by
  obtain ⟨T, b, o, hz, _⟩ := H.zo
  have hT : s.TypeIs (.ref z) "zip" := ⟨_, hz, rfl⟩
  unfold pyNext
  refine wpAny_bind (wpAny_attempt (wpAny_callSpecial?_slot (name := Str.ofString "__next__") hT PySem.F.slot_zip_next
    (wpAny_call_entry PySem.F.slot_zip_next hT PySem.F.entry_zip_next (zipEndB hh D H hx fun s' e m he => ?_) (PySem.F.args_zip_next_1 _))))
  obtain ⟨o, ho, hc⟩ := he
  refine wpAny_bind (wpAny_isInstance (T := "StopIteration") (b := true) ⟨o, ho, hc⟩ isSubtype_stop ?_)
  exact wpAny_pure (hQ _ m)
end
theorem valueAt_stored {K : Type} [DecidableEq K] (k : K) (v : Value) (x : K) : ∀ kvs : List (K × Value), valueAt (stored kvs k v) x = if x = k then some v else valueAt kvs x := by
  have hmap : ∀ kvs : List (K × Value), (kvs.any fun kv => kv.1 = k) = true → valueAt (kvs.map (fun kv => if kv.1 = k then (kv.1, v) else kv)) x = if x = k then some v else valueAt kvs x := by
    intro kvs
    unfold valueAt
    induction kvs with
    | nil => intro h; cases h
    | cons a r ih =>
      intro h
      rw [List.map_cons, List.find?_cons, List.find?_cons]
      by_cases ha : a.1 = k
      · rw [if_pos ha]
        by_cases hx : x = k
        · subst hx
          rw [ha]; simp
        · have h1 : ¬ a.1 = x := fun e => hx (by rw [← e, ha])
          have h2 : ¬ k = x := fun e => hx e.symm
          simp only [h1, decide_false, hx, if_false]
          by_cases hr : (r.any fun kv => kv.1 = k) = true
          · have := ih hr
            rw [if_neg hx] at this
            exact this
          · have : r.map (fun kv => if kv.1 = k then (kv.1, v) else kv) = r := by
              refine (List.map_congr_left fun b hb => ?_).trans (List.map_id r)
              by_cases e : b.1 = k
              · exact absurd (List.any_eq_true.mpr ⟨b, hb, by simpa using e⟩) hr
              · rw [if_neg e]; rfl
            rw [this]
      · rw [if_neg ha]
        have hr : (r.any fun kv => kv.1 = k) = true := by simpa [ha] using h
        have := ih hr
        by_cases hx : a.1 = x
        · have hxk : ¬ x = k := fun e => ha (by rw [hx, e])
          simp [hx, hxk]
        · simp only [hx, decide_false]
          exact this
  intro kvs
  unfold stored
  split
  · rename_i h
    exact hmap kvs h
  · rename_i h
    unfold valueAt
    rw [List.find?_append]
    by_cases hx : x = k
    · subst hx
      have : kvs.find? (fun kv => kv.1 = x) = none := by
        rw [List.find?_eq_none]
        intro a ha e
        exact h (List.any_eq_true.mpr ⟨a, ha, e⟩)
      rw [this]; simp
    · have : [(k, v)].find? (fun kv => kv.1 = x) = none := by simp [Ne.symm hx]
      rw [this]; simp [hx]
end Mine
end
section
open PySem PySem.W PySem.Calls PyProof.Rows PySem.W.X PySem.W.XRun PySem.SeqAt
set_option Elab.async false
set_option maxRecDepth 100000
set_option maxHeartbeats 0
set_option linter.unusedVariables false
namespace Mine
theorem plain_upd : plainId "dict.update.loop" = true := by decide +kernel
theorem entry_upd : entryFor table "dict.update.loop" = some Builtin.«dict.update.loop» := entryFor_of_tree (by kernel_rfl)
section
variable {w : World} {A : Around} {b₀ : Shared} {d z TI TO i1 i2 l1 l2 : Addr} {xv yv : List Value} {us : List Nat} {R : Result → Shared → Prop}
noncomputable def JD (w : World) (d : Addr) (us : List Nat) (k : Nat) (h : Heap) : Prop := ∃ kvs, h.DictOf (strKind pw w) d kvs ∧ kvs.length ≤ k ∧ ∀ j c, j < k → us[j]? = some c → ∃ t, valueAt kvs (sg c) = some (.str (sg (kd c)) t)
theorem updTurn {k c : Nat} {s : Shared} {t1 t2 : Tok} (hd : JD w d us k s.heap) (hc : us[k]? = some c) (hk : k ≤ 100)
    (N : ∀ Q : Option Value → Shared → Prop, (∀ r s', s.heap.get? r = none → IsPair s'.heap r (.str (sg c) t1) (.str (sg (kd c)) t2) → ZB s'.heap z TI TO i1 i2 l1 l2 xv.toArray yv.toArray (k + 1) → JD w d us k s'.heap → Ext b₀ s' → Q (some (.ref r)) s') → WP w A.in1 (pyNext (.ref z)) Q s)
    (fd : b₀.heap.get? d = none) (nd : d ≠ z ∧ d ≠ TI ∧ d ≠ i1 ∧ d ≠ i2 ∧ d ≠ l1 ∧ d ≠ l2)
    (go : ∀ s', Ext b₀ s' → ZB s'.heap z TI TO i1 i2 l1 l2 xv.toArray yv.toArray (k + 1) → JD w d us (k + 1) s'.heap → codeAny (model pw w) A (.builtin "dict.update.loop" ⟨[.ref d, .ref z, rawInt (k + 1 : Nat), .none], []⟩) R s') :
    codeAny (model pw w) A (.builtin "dict.update.loop" ⟨[.ref d, .ref z, rawInt k, .none], []⟩) R s := by
  refine codeAny_builtin entry_upd ?_
  rw [Around.under_plainId plain_upd _]
  unfold Builtin.«dict.update.loop»
  dsimp only
  refine wpAny_bind (N _ fun r s₁ fr hp hz hj x₁ => ?_).to
  dsimp only
  have hT : s₁.TypeIs (.ref r) "tuple" := ⟨_, hp, rfl⟩
  refine wpAny_bind (wpAny_holding ?_)
  refine wpAny_bind (wpAny_tryCatch ?_)
  unfold Builtin.Dict.pairItems
  refine wpAny_bind (wpAny_typeOf hT ?_)
  rw [if_pos (by decide)]
  refine wpAny_bind (wpAny_seqItems hp rfl (wpAny_pure ?_))
  show wpAny _ _ (holding [.str (sg c) t1, .str (sg (kd c)) t2] (dictSet d (.str (sg c) t1) (.str (sg (kd c)) t2))) _ _ _
  refine wpAny_holding ?_
  obtain ⟨kvs, hdk, hle, hv⟩ := hj
  refine wpAny_dictSet_pairs (knd := strKind pw w) (k := sg c) ?_ hdk (fun h' hd' hs' => ?_) (Nat.le_trans hle (Nat.le_trans hk (by decide +kernel)))
  · show Value.isStrOf (sg c) (.str (sg c) t1) = true
    simp [Value.isStrOf]
  obtain ⟨nd1, nd2, nd3, nd4, nd5, nd6⟩ := nd
  have bt : But d s₁ { s₁ with heap := h', toks := s₁.toks + 1 } := ⟨fun b o ne e => (hs'.2 b ne).trans e, rfl, rfl, rfl⟩
  have ek : rawInt ((k : Int) + 1) = rawInt ((k + 1 : Nat) : Int) := by congr 1
  rw [ek]
  obtain ⟨T, b, o, hzo, hTo, nT1, nT2, nT3, hTc⟩ := hz.zo
  have nTd : T ≠ d := fun e => by
    subst e
    obtain ⟨o', es, ep, e', hex, _⟩ := hdk
    rw [hTo] at e'; cases e'
    have := hex.1
    rw [hTc] at this
    simp at this
  refine wpAny_pure ⟨plainId_quiet plain_upd _, go _ (x₁.but bt fd) ⟨⟨T, b, o, bt.keep _ _ (Ne.symm nd1) hzo, bt.keep _ _ nTd hTo, nT1, nT2, nT3, hTc⟩, bt.keep _ _ (Ne.symm nd2) hz.ti, hz.it1.at fun o e => bt.keep _ _ (Ne.symm nd3) e,
    hz.it2.at fun o e => bt.keep _ _ (Ne.symm nd4) e, hz.ls1.at fun o e => bt.keep _ _ (Ne.symm nd5) e, hz.ls2.at fun o e => bt.keep _ _ (Ne.symm nd6) e⟩ ⟨_, hd', Nat.le_trans (stored_length_le _ _ _) (Nat.succ_le_succ hle), fun j c' hj hc' => ?_⟩⟩
  rw [valueAt_stored]
  by_cases e : sg c' = sg c
  · rw [if_pos e]
    have : c' = c := sg_inj e
    subst this
    exact ⟨_, rfl⟩
  · rw [if_neg e]
    have : j ≠ k := fun z => by
      subst z
      rw [hc] at hc'; cases hc'; exact e rfl
    exact hv j c' (by omega) hc'
theorem updLoop (hh : A.handled = none) (D : ZipApart z TI TO i1 i2 l1 l2) (hx : StrsAre xv (us.map sg)) (hy : StrsAre yv ((us.map kd).map sg)) (hz : us.length ≤ 100)
    (ff : ∀ c, (c = z ∨ c = TO ∨ c = i1 ∨ c = i2) → b₀.heap.get? c = none) (fd : b₀.heap.get? d = none) (nd : d ≠ z ∧ d ≠ TI ∧ d ≠ i1 ∧ d ≠ i2 ∧ d ≠ l1 ∧ d ≠ l2) (ndt : d ≠ TO)
    (hR : ∀ s', Ext b₀ s' → JD w d us us.length s'.heap → R (.ok (.ret .none)) s') :
    ∀ (r k : Nat) (s : Shared), us.length - k = r → k ≤ us.length → Ext b₀ s → ZB s.heap z TI TO i1 i2 l1 l2 xv.toArray yv.toArray k → JD w d us k s.heap →
      codeAny (model pw w) A (.builtin "dict.update.loop" ⟨[.ref d, .ref z, rawInt k, .none], []⟩) R s := by
  have hxl : xv.length = us.length := by have := strs_len hx; simpa using this
  have hyl : yv.length = us.length := by have := strs_len hy; simpa using this
  have jd : ∀ {k : Nat} {s s' : Shared}, JD w d us k s.heap → Mv (fun c => c = z ∨ c = TO ∨ c = i1 ∨ c = i2) s s' → JD w d us k s'.heap := fun ⟨kvs, ⟨o, es, ep, e, r⟩, h⟩ m =>
    ⟨kvs, ⟨o, es, ep, m.keep _ _ (fun h => by rcases h with h | h | h | h; exact nd.1 h; exact ndt h; exact nd.2.2.1 h; exact nd.2.2.2.1 h) e, r⟩, h⟩
  intro r
  induction r with
  | zero =>
    intro k s hr hk x₀ H J
    have hke : k = us.length := by omega
    subst hke
    refine codeAny_builtin entry_upd ?_
    rw [Around.under_plainId plain_upd _]
    unfold Builtin.«dict.update.loop»
    dsimp only
    refine wpAny_bind (endB (A := A.in1) hh D H (by simp; omega) fun s' m => ?_).to
    dsimp only
    show wpAny _ _ (Builtin.Dict.addKeywords d [] >>= _) _ _ _
    exact wpAny_bind (wpAny_pure (wpAny_pure (hR _ (x₀.then m ff) (jd J m))))
  | succ r ih =>
    intro k s hr hk x₀ H J
    have hlt : k < us.length := by omega
    have hc : us[k]? = some us[k] := List.getElem?_eq_getElem hlt
    obtain ⟨c1, t1, ex, hc1⟩ := sg_get hx (List.getElem?_eq_getElem (show k < xv.length by omega))
    obtain ⟨c2, t2, ey, hc2⟩ := sg_get (l := us.map kd) hy (List.getElem?_eq_getElem (show k < yv.length by omega))
    rw [hc] at hc1; cases hc1
    rw [List.getElem?_map, hc] at hc2; cases hc2
    refine updTurn (c := us[k]) (t1 := t1) (t2 := t2) J hc (by omega) (fun Q hQ => ?_) fd nd fun s' x' H' J' => ih (k + 1) s' (by omega) hlt x' H' J'
    refine nextB (A := A.in1) D H (x := .str (sg us[k]) t1) (y := .str (sg (kd us[k])) t2) (by rw [List.getElem?_toArray, List.getElem?_eq_getElem (show k < xv.length by omega), ex]) (by rw [List.getElem?_toArray, List.getElem?_eq_getElem (show k < yv.length by omega), ey]) fun r' s' fr hp H' m => ?_
    exact hQ r' s' fr hp H' (jd J m) (x₀.then m ff)
end
end Mine
end
section
open PySem PySem.W PySem.Calls PyProof.Rows PySem.W.X PySem.W.XRun PySem.SeqAt
set_option Elab.async false
set_option maxRecDepth 100000
set_option maxHeartbeats 0
set_option linter.unusedVariables false
namespace Mine
theorem zip_entry : entryFor table "zip.__getattribute__" = some Builtin.«object.__getattribute__» :=
  entryFor_alias (id' := "object.__getattribute__") (by kernel_rfl) (by decide +kernel) (by decide +kernel) (by kernel_rfl)
theorem zip_nokeys : typeLookup (.type "zip") "keys" = pure none := by rw [typeLookup_type, builtinLookup_eq_fast]; kernel_rfl
theorem zip_nohook : typeLookup (.type "zip") "__getattr__" = pure none := by rw [typeLookup_type, builtinLookup_eq_fast]; kernel_rfl
theorem zip_miss (a : Addr) (vs : Array Value) (u : Tok) :
    Meets (Builtin.«object.__getattribute__» ⟨[.ref a, .str (Str.ofString "keys") u], []⟩) (fun A R s => s.heap.get? a = some { cls := .type "zip", dict := none, data := .fields vs, slots := #[] } ∧ raisesAttr (.ref a) (Str.ofString "keys") A R s) :=
  Meets.of_wp fun prog w A R s hs => by
    obtain ⟨hp, g, d, tk, os⟩ := s
    obtain ⟨hx, hs⟩ := hs
    have hT : (⟨hp, g, d, tk, os⟩ : Shared).TypeIs (.ref a) "zip" := ⟨_, hx, rfl⟩
    have hmiss := zip_nokeys
    unfold Builtin.«object.__getattribute__»
    repeat (any_goals (first | assumption | wp_step))
    exact wpAny_raiseAttrError hs.1 hs.2 (attrMsg_fits (by decide +kernel) (by decide +kernel))
section
variable {w : World} {A : Around} {s : Shared}
theorem zipKeys {a : Addr} {vs : Array Value} {Q : Option Value → Shared → Prop} (hA : A.handled = none) (hx : s.heap.get? a = some { cls := .type "zip", dict := none, data := .fields vs, slots := #[] })
    (h : ∀ s', Ext s s' → Q none s') : WP w A (getAttr? (.ref a) "keys") Q s := by
  obtain ⟨hp, g, d, tk, os⟩ := s
  have hT : ∀ tk', (⟨hp, g, d, tk', os⟩ : Shared).TypeIs (.ref a) "zip" := fun _ => ⟨_, hx, rfl⟩
  have f1 := sub_AttributeError
  have f3 := PySem.F.slot_zip_getattribute.lookup
  have f4 := PySem.F.slot_zip_getattribute.bind (.ref a)
  have f5 := zip_nohook
  unfold getAttr? getAttrBy? getAttrBy WP
  repeat (any_goals (first | assumption | exact hT _ | ((with_reducible show wpAny _ _ (call (Value.builtin "zip.__getattribute__") _ _) _ _ _); refine call_meets PySem.F.slot_zip_getattribute (hT _) zip_entry (PySem.F.args_zip_getattribute_2 _ _) (zip_miss a vs _) ⟨hx, hA, fun h' tk' e hx' => ?_⟩) | wp_step))
  obtain ⟨t', u', he⟩ := hx'.there
  show wpAny _ _ (getattributeRaised _ _ _ _ _ _ _) _ _ _
  unfold getattributeRaised
  repeat (any_goals (first | assumption | wp_step))
  exact h _ ⟨hx'.keeps, rfl, rfl, rfl⟩
theorem dictZip {Q : Value → Shared → Prop} {wl kl : Addr} {us : List Nat} (hh : A.handled = none) (hx : Strs s.heap wl (us.map sg)) (hy : Strs s.heap kl ((us.map kd).map sg)) (hz1 : 1 ≤ us.length) (hz : us.length ≤ 100)
    (h : ∀ D s', Ext s s' → s.heap.get? D = none → Drw w s'.heap D us → Q (.ref D) s') : WP w A (call (.type "zip") [.ref wl, .ref kl]) (fun z s₁ => WP w A (call (.type "dict") [z]) Q s₁) s := by
  obtain ⟨xv, px, hx⟩ := hx
  obtain ⟨yv, py, hy⟩ := hy
  refine call_zip_2 px.isList py.isList fun h₁ hzz hTI hTO hi1 hi2 hsz hk => ?_
  have x₁ : Ext s { s with heap := h₁ } := ⟨hk, rfl, rfl, rfl⟩
  have wlt : wl < s.heap.objs.size := by obtain ⟨n, e⟩ := px; exact Heap.lt_size e
  have klt : kl < s.heap.objs.size := by obtain ⟨n, e⟩ := py; exact Heap.lt_size e
  have px₁ := px.at fun o e => hk _ o e
  have py₁ := py.at fun o e => hk _ o e
  have fr : ∀ n, s.heap.objs.size ≤ n → s.heap.get? n = none := fun n hn => Heap.get?_none_of_le hn
  generalize hN : s.heap.objs.size = N at *
  have Dz : ZipApart (N + 4) (N + 2) (N + 3) N (N + 1) wl kl := ⟨Nat.ne_of_lt (by omega), Nat.ne_of_lt (by omega), Nat.ne_of_lt (by omega), Nat.ne_of_lt (by omega), Nat.ne_of_lt (by omega), Nat.ne_of_gt (by omega), Nat.ne_of_gt (by omega), Nat.ne_of_gt (by omega), Nat.ne_of_gt (by omega), Nat.ne_of_lt (by omega), Nat.ne_of_lt (Nat.lt_of_lt_of_le wlt (Nat.le_add_right N 4)), Nat.ne_of_lt (Nat.lt_of_lt_of_le wlt (Nat.le_add_right N 3)), Nat.ne_of_lt wlt, Nat.ne_of_lt (Nat.lt_of_lt_of_le wlt (Nat.le_add_right N 1)), Nat.ne_of_lt (Nat.lt_of_lt_of_le klt (Nat.le_add_right N 4)), Nat.ne_of_lt (Nat.lt_of_lt_of_le klt (Nat.le_add_right N 3)), Nat.ne_of_lt klt, Nat.ne_of_lt (Nat.lt_of_lt_of_le klt (Nat.le_add_right N 1))⟩
  generalize hs1 : ({ s with heap := h₁ } : Shared) = s₁ at x₁ ⊢
  have eh : s₁.heap = h₁ := by subst hs1; rfl
  rw [← eh] at hzz hTI hTO hi1 hi2 hsz px₁ py₁
  refine callType_codes (Q₁ := fun obj s₂ => obj = .ref s₁.heap.objs.size ∧ s₂ = { s₁ with heap := s₁.heap.push { cls := .type "dict", data := .dict #[] } }) PySem.F.kt_called_dict (PySem.F.kt_typeCall_dict_1 _) PySem.F.entry_dict_init (kt_code_dict_new _ ⟨rfl, rfl⟩) ?_
  rintro obj s₂ ⟨rfl, rfl⟩
  have hnew : (s₁.heap.push { cls := .type "dict", data := .dict #[] }).DictOf (strKind pw w) s₁.heap.objs.size [] := Heap.DictOf.new s₁.heap
  refine ⟨hnew.typeIs, PySem.F.args_dict_init_2 _ _, ?_⟩
  have fD₁ := fresh_at s₁
  have dN : s₁.heap.objs.size = N + 5 := hsz
  generalize hs3 : ({ s₁ with heap := s₁.heap.push { cls := .type "dict", data := .dict #[] } } : Shared) = s₃
  have x₃ : Ext s₁ s₃ := by subst hs3; exact ⟨fun _ _ e => Heap.get?_push_of_some _ e, rfl, rfl, rfl⟩
  have hnew₃ : s₃.heap.DictOf (strKind pw w) s₁.heap.objs.size [] := by subst hs3; exact hnew
  generalize s₁.heap.objs.size = d at fD₁ dN hnew₃ ⊢
  clear hs3 hnew
  have fD : s.heap.get? d = none := none_back x₁ fD₁
  unfold Builtin.«dict.__init__»
  refine wpAny_bind ?_
  unfold Builtin.Dict.selfAndRest
  refine wpAny_bind (wpAny_notOrdered_dict hnew₃.typeIs ?_)
  show wpAny _ _ (pure (d, [Value.ref (N + 4)])) _ _ _
  refine wpAny_pure ?_
  show wpAny _ _ (Builtin.Dict.updateFrom "dict.__init__" d (.ref (N + 4)) [] .none) _ _ _
  unfold Builtin.Dict.updateFrom
  have hT : s₃.TypeIs (.ref (N + 4)) "zip" := ⟨_, x₃.keep _ _ hzz, rfl⟩
  refine wpAny_bind (wpAny_typeOf hT ?_)
  rw [if_pos (by decide)]
  refine wpAny_bind (zipKeys (A := A.in1.in1) hh (x₃.keep _ _ hzz) fun s₄ x₄ => ?_).to
  rw [if_pos (by decide)]
  refine wpAny_bind (wpAny_rule ?_)
  refine wpAny_bind (wpAny_pyIter_zip (x₄.keep _ _ (x₃.keep _ _ hzz)) ?_)
  have x₄' : Ext s₁ s₄ := x₃.trans x₄
  have hd₄ : s₄.heap.DictOf (strKind pw w) d [] := let ⟨o, es, ep, e, r⟩ := hnew₃; ⟨o, es, ep, x₄.keep _ _ e, r⟩
  have e₄ : Ext s s₄ := x₁.trans x₄'
  have nd : d ≠ N + 4 ∧ d ≠ N + 2 ∧ d ≠ N ∧ d ≠ N + 1 ∧ d ≠ wl ∧ d ≠ kl := ⟨Nat.ne_of_gt (by omega), Nat.ne_of_gt (by omega), Nat.ne_of_gt (by omega), Nat.ne_of_gt (by omega),
    fun z => (by obtain ⟨n, e⟩ := px; rw [z] at fD; rw [e] at fD; cases fD), fun z => (by obtain ⟨n, e⟩ := py; rw [z] at fD; rw [e] at fD; cases fD)⟩
  have ndt : d ≠ N + 3 := Nat.ne_of_gt (by omega)
  have ff : ∀ c, (c = N + 4 ∨ c = N + 3 ∨ c = N ∨ c = N + 1) → s.heap.get? c = none := fun c hc => by
    rcases hc with rfl | rfl | rfl | rfl
    · exact fr _ (Nat.le_add_right _ _)
    · exact fr _ (Nat.le_add_right _ _)
    · exact fr _ (Nat.le_refl _)
    · exact fr _ (Nat.le_add_right _ _)
  have hc : us[0]? = some us[0] := List.getElem?_eq_getElem (by omega)
  have hxl : xv.length = us.length := by have := strs_len hx; simpa using this
  have hyl : yv.length = us.length := by have := strs_len hy; simpa using this
  obtain ⟨c1, t1, ex, hc1⟩ := sg_get hx (List.getElem?_eq_getElem (show 0 < xv.length by omega))
  obtain ⟨c2, t2, ey, hc2⟩ := sg_get (l := us.map kd) hy (List.getElem?_eq_getElem (show 0 < yv.length by omega))
  rw [hc] at hc1; cases hc1
  rw [List.getElem?_map, hc] at hc2; cases hc2
  refine wpAny_pure ⟨plainId_quiet plain_upd _, ?_⟩
  have go : ∀ s', Ext s s' → ZB s'.heap (N + 4) (N + 2) (N + 3) N (N + 1) wl kl xv.toArray yv.toArray (0 + 1) → JD w d us (0 + 1) s'.heap → codeAny (model pw w) A.in1 (.builtin "dict.update.loop" ⟨[.ref d, .ref (N + 4), rawInt (0 + 1 : Nat), .none], []⟩) (wants (fun r s₂ => r = Value.none ∧ Q (Value.ref d) s₂) NoE) s' := by
    intro s' x' H' J'
    refine updLoop (b₀ := s) (A := A.in1) hh Dz hx hy hz ff fD nd ndt (fun s'' x'' J'' => ?_) _ _ s' rfl hz1 x' H' J'
    obtain ⟨kvs, hdk, _, hv⟩ := J''
    refine ⟨rfl, h d s'' x'' fD ⟨valueAt kvs, hdk.mapOf, fun c hc => ?_⟩⟩
    obtain ⟨j, hj, e⟩ := List.mem_iff_getElem.mp hc
    exact hv j c hj (by rw [List.getElem?_eq_getElem hj, e])
  refine updTurn (b₀ := s) (A := A.in1) (c := us[0]) (t1 := t1) (t2 := t2) (k := 0) ⟨[], hd₄, Nat.le_refl _, fun j c hj => absurd hj (Nat.not_lt_zero j)⟩ hc (by omega) (fun Q' hQ' => ?_) fD nd go
  refine wpAny_pyNext_zip_item (A := A.in1.in1) Dz (x₄'.keep _ _ hzz) (x₄'.keep _ _ hTI) (x₄'.keep _ _ hTO) (hi1.at fun o e => x₄'.keep _ _ e) (hi2.at fun o e => x₄'.keep _ _ e) (px₁.at fun o e => x₄'.keep _ _ e).isList (py₁.at fun o e => x₄'.keep _ _ e).isList
    (by rw [List.getElem?_toArray, List.getElem?_eq_getElem (show 0 < xv.length by omega), ex]) (by rw [List.getElem?_toArray, List.getElem?_eq_getElem (show 0 < yv.length by omega), ey]) fun h₅ a1 a2 a3 a4 a5 a6 a7 => ?_
  have m₅ : Mv (fun c => c = N + 4 ∨ c = N + 3 ∨ c = N ∨ c = N + 1) s₄ { s₄ with heap := h₅ } := ⟨fun c o nc e => a7 c o (fun z => nc (.inl z)) (fun z => nc (.inr (.inl z))) (fun z => nc (.inr (.inr (.inl z)))) (fun z => nc (.inr (.inr (.inr z)))) e, rfl, rfl, rfl⟩
  have lt4 : ∀ {c o}, s₄.heap.get? c = some o → s₄.heap.objs.size ≠ c := fun e => Nat.ne_of_gt (Heap.lt_size e)
  refine hQ' s₄.heap.objs.size _ (fresh_at s₄) a5 ⟨⟨s₄.heap.objs.size, false, _, a1, a5, lt4 (x₄'.keep _ _ hzz), ?_, ?_, rfl⟩, a7 _ _ Dz.TIz Dz.TITO Dz.TIi1 Dz.TIi2 (x₄'.keep _ _ hTI), a3, a4, ?_, ?_⟩ ?_ (e₄.then m₅ ff)
  · obtain ⟨o, e, _⟩ := hi1; exact lt4 (x₄'.keep _ _ e)
  · obtain ⟨o, e, _⟩ := hi2; exact lt4 (x₄'.keep _ _ e)
  · exact (px₁.isList).at fun o e => a7 _ o Dz.l1z Dz.l1TO Dz.l1i1 Dz.l1i2 (x₄'.keep _ _ e)
  · exact (py₁.isList).at fun o e => a7 _ o Dz.l2z Dz.l2TO Dz.l2i1 Dz.l2i2 (x₄'.keep _ _ e)
  · obtain ⟨o, es, ep, e, r⟩ := hd₄
    exact ⟨[], ⟨o, es, ep, a7 _ _ nd.1 ndt nd.2.2.1 nd.2.2.2.1 e, r⟩, Nat.le_refl _, fun j c hj => absurd hj (Nat.not_lt_zero j)⟩
end
end Mine
end
section
open PySem PySem.W PySem.Calls PyProof.Rows PySem.W.X PySem.W.XRun PySem.SeqAt
set_option Elab.async false
set_option maxRecDepth 100000
set_option maxHeartbeats 0
set_option linter.unusedVariables false
namespace Mine
section
variable {w : World} {A : Around} {s : Shared} {env : Env}
theorem assign2 {a b : Str} {pa pb tp : Pos} {kk : Nat} {T : Addr} {x y : Value} {l : List (Str × Value)} {Q : Unit → Shared → Prop} (hh : A.handled = none) (F : Fm env l s) (ht : s.heap.IsTuple T #[x, y])
    (h : ∀ s', Step env s s' → Fm env ((b, y) :: (a, x) :: l) s' → Q () s') (hk : env.scope.kind = .function := by kernel_rfl!)
    (hla : (env.kindOf a == some .local || (env.kindOf a == some .cell && (env.cells.lookup a).isSome)) = true := by kernel_rfl!)
    (hlb : (env.kindOf b == some .local || (env.kindOf b == some .cell && (env.cells.lookup b).isSome)) = true := by kernel_rfl!) :
    WP w A (assign (.Tuple [.Name a pa, .Name b pb] kk tp) env (.ref T)) Q s := by
  refine wpAny_assign_Tuple hh ht rfl rfl fun h₁ he₁ => ?_
  show wpAny _ _ (assignInOrder [assign (.Name a pa) env, assign (.Name b pb) env] [x, y]) _ _ _
  have fT := fresh_at s
  have x₁ : Step env s { s with heap := h₁ } := ⟨fun c o n e => he₁ c o (fun z => by subst z; rw [fT] at e; cases e) e, rfl, rfl, rfl⟩
  have F₁ : Fm env l { s with heap := h₁ } := by
    refine F.but (a := s.heap.objs.size) ⟨fun c o n e => he₁ c o n e, rfl, rfl, rfl⟩ (F.not_own fT)
  refine assignInOrder_cons (wpAny_assign_Name (sN F₁ (fun s₂ x₂ F₂ => ?_) hk hla))
  refine assignInOrder_cons (wpAny_assign_Name (sN F₂ (fun s₃ x₃ F₃ => ?_) hk hlb))
  exact assignInOrder_nil (h s₃ ((x₁.trans x₂).trans x₃) F₃)
theorem forE {ea eb : Expr} {kk : Nat} {tp : Pos} {iter : Expr} {body : List Stmt} {pos : Pos} {Q : Flow → Shared → Prop} (hh : A.handled = none) (W : Addr → Prop) (J : Nat → Shared → Prop)
    (h : WP w A (eval iter env) (fun xv s₁ => ∃ e it l items, xv = .ref e ∧ e ≠ it ∧ l ≠ e ∧ l ≠ it ∧ IsEnum s₁.heap e it 0 .none ∧ s₁.heap.IsListIter it l 0 ∧ s₁.heap.IsList l items ∧ (∀ b, W b → b ≠ e ∧ b ≠ it ∧ b ≠ l) ∧ J 0 s₁ ∧
      (∀ i s' s'', J i s' → Kt s' s'' → J i s'') ∧
      (∀ i x t T s', items[i]? = some x → s'.heap.IsTuple T #[.int (i : Nat) t, x] → (∀ b, b = e ∨ b = it → b ≠ T) → Mv (fun b => W b ∨ b = e ∨ b = it) s₁ s' → J i s' → WP w A (assign (.Tuple [ea, eb] kk tp) env (.ref T)) (fun _ s₂ => WP w A (execs body env) (fun f s₃ => match f with
        | .next | .cont => Mv W s' s₃ ∧ J (i + 1) s₃
        | .brk => False
        | .ret v => Q (.ret v) s₃) s₂) s') ∧
      (∀ s', Mv (fun b => W b ∨ b = e ∨ b = it) s₁ s' → J items.size s' → Q .next s')) s)
    (hs : ∀ x, foldedSetIterable iter env x = pure x := by intro _; rfl) :
    WP w A (exec (.For (.Tuple [ea, eb] kk tp) iter body [] pos) env) Q s := by
  refine wpAny_For (wpAny_mono h (fun xv s₁ h₁ => ?_) fun _ _ e => e) hs
  obtain ⟨e, it, l, items, rfl, n1, n2, n3, he, hi, hl, hW, j0, jk, turn, fin⟩ := h₁
  have Wl := WalksT.enumerate (prog := pw) (w := w) hh e it l n1 n2 n3 items
  have st0 : (∃ old, IsEnum s₁.heap e it ((0 : Nat) : Int) old) ∧ s₁.heap.IsListIter it l 0 ∧ s₁.heap.IsList l items := ⟨⟨_, he⟩, hi, hl⟩
  refine Wl.self 0 _ _ _ st0 ?_
  have mvn : ∀ {s' : Shared} {h' : Heap} {tk : Nat}, Mv (fun b => W b ∨ b = e ∨ b = it) s₁ s' → (∀ b o, b ∉ [e, it] → s'.heap.get? b = some o → h'.get? b = some o) → Mv (fun b => W b ∨ b = e ∨ b = it) s₁ { s' with heap := h', toks := tk } := fun m k =>
    ⟨fun b o nb x => k b o (fun hb => nb (.inr (by simpa using hb))) (m.keep b o nb x), m.gens, m.drawn, m.os⟩
  refine codeAny_forLoop_any (fun k s' => ∃ i, i ≤ items.size ∧ k = items.size + 1 - i ∧ Mv (fun b => W b ∨ b = e ∨ b = it) s₁ s' ∧ ((∃ old, IsEnum s'.heap e it (i : Int) old) ∧ s'.heap.IsListIter it l i ∧ s'.heap.IsList l items) ∧ J i s') ?_ (items.size + 1)
    ⟨0, Nat.zero_le _, rfl, Mv.refl _, st0, j0⟩
  rintro k s' ⟨i, hile, rfl, m, st, j⟩
  by_cases hlt : i < items.size
  · refine Wl.item i _ _ _ hlt st fun T vals h₁ tk₁ hP hfT hT hM hk₁ => ?_
    obtain ⟨t, x, hx, rfl⟩ := hP
    have kt₁ : Kt s' { s' with heap := h₁, toks := tk₁ } := ⟨fun b o y hf => hk₁ b o (fun hb => by
      obtain ⟨⟨old, he'⟩, ⟨oi, hoi, hci, hdi⟩, _⟩ := st
      rcases List.mem_cons.mp hb with rfl | hb
      · rw [he'] at y; cases y; cases hf
      · rw [List.mem_singleton.mp hb] at y
        rw [hoi] at y; cases y
        unfold isF at hf; rw [hci, hdi] at hf; cases hf) y, rfl, rfl, rfl⟩
    have aT := Wl.apart _ _ _ hM
    refine Wl.go _ _ _ i T { s' with heap := h₁, toks := tk₁ } _ _ hM fun h₂ st₂ hk₂ => ?_
    have hT₂ : h₂.IsTuple T #[.int (i : Nat) t, x] := hT.at fun o y => hk₂ _ o aT y
    have kt₂ : Kt { s' with heap := h₁, toks := tk₁ } { s' with heap := h₂, toks := tk₁ } := ⟨fun b o y hf => hk₂ b o (fun hb => by
      obtain ⟨⟨xx, he'⟩, ⟨oi, hoi, hci, hdi⟩, _⟩ := hM
      rcases List.mem_cons.mp hb with rfl | hb
      · have y : h₁.get? b = some o := y
        rw [he'] at y; cases y; cases hf
      · have y : h₁.get? b = some o := y
        rw [List.mem_singleton.mp hb, hoi] at y; cases y
        unfold isF at hf; rw [hci, hdi] at hf; cases hf) y, rfl, rfl, rfl⟩
    have m₂ := mvn (tk := tk₁) (mvn (tk := tk₁) m hk₁) hk₂
    have j₂ := jk i _ _ (jk i _ _ j kt₁) kt₂
    refine wpAny_mono (turn i x t T _ hx hT₂ (fun b hb z => aT (by subst z; simpa using hb)) m₂ j₂) (fun _ s₃ h₃ => wpAny_mono h₃ (fun f s₄ h₄ => ?_) fun _ _ e => e.elim) fun _ _ e => e.elim
    have go : Mv W { s' with heap := h₂, toks := tk₁ } s₄ ∧ J (i + 1) s₄ → ∃ m, m < items.size + 1 - i ∧ ∃ i, i ≤ items.size ∧ m = items.size + 1 - i ∧ Mv (fun b => W b ∨ b = e ∨ b = it) s₁ s₄ ∧ ((∃ old, IsEnum s₄.heap e it (i : Int) old) ∧ s₄.heap.IsListIter it l i ∧ s₄.heap.IsList l items) ∧ J i s₄ := fun h₅ =>
      ⟨items.size + 1 - (i + 1), by omega, i + 1, hlt, rfl, m₂.trans (h₅.1.mono fun _ h => .inl h), Wl.frame _ _ _ st₂ (fun b hb o y => h₅.1.keep b o (fun hw => by
        obtain ⟨q1, q2, q3⟩ := hW b hw
        simp at hb
        rcases hb with hb | hb | hb
        · exact q1 hb
        · exact q2 hb
        · exact q3 hb) y), h₅.2⟩
    cases f with
    | next => exact go h₄
    | cont => exact go h₄
    | brk => exact h₄.elim
    | ret v => exact h₄
  · have hin : i = items.size := by omega
    subst hin
    refine Wl.done _ _ _ st fun h₁ tk₁ hk₁ => wpAny_execs_nil ?_
    refine fin _ (mvn m hk₁) (jk _ _ _ j ⟨fun b o y hf => hk₁ b o (fun hb => ?_) y, rfl, rfl, rfl⟩)
    obtain ⟨⟨old, he'⟩, ⟨oi, hoi, hci, hdi⟩, _⟩ := st
    rcases List.mem_cons.mp hb with rfl | hb
    · rw [he'] at y; cases y; cases hf
    · rw [List.mem_singleton.mp hb] at y
      rw [hoi] at y; cases y
      unfold isF at hf; rw [hci, hdi] at hf; cases hf
end
end Mine
end
section
open PySem PySem.W PySem.Calls PyProof.Rows PySem.W.X PySem.W.XRun PySem.SeqAt
set_option Elab.async false
set_option maxRecDepth 100000
set_option maxHeartbeats 0
set_option linter.unusedVariables false
namespace Mine
section
variable {w : World} {A : Around} {s : Shared} {env : Env} {Q : Value → Shared → Prop}
theorem sumL {l : Addr} {items : Array Value} (hh : A.handled = none) (hl : s.heap.IsList l items) (hi : ∀ v ∈ items.toList, ∃ n t, v = Value.int n t) (h : ∀ z t s', Ext s s' → Q (.int z t) s') : WP w A (call (.builtin "sum") [.ref l]) Q s := by
  refine call_sum_walkG (wpAny_pyIter_list hl ?_)
  have hlI : l ≠ s.heap.objs.size := by obtain ⟨o, e, _⟩ := hl; exact Nat.ne_of_lt (Heap.lt_size e)
  have fI := fresh_at s
  refine ⟨s.heap.objs.size, [s.heap.objs.size, l], [s.heap.objs.size], items.size, _, _, fun i => match items[i]? with | some (.int n _) => n | _ => 0, rfl, Walks.list (A := A.in1) hh _ l hlI items, ⟨⟨_, Heap.get?_push_size _ rfl, rfl, rfl⟩, hl.at fun o e => Heap.get?_push_of_some _ e⟩, ?_, ?_, ?_⟩
  · intro b hb
    show b < (s.heap.push _).objs.size
    rw [Heap.size_push]
    obtain ⟨o, e, _⟩ := hl
    have := Heap.lt_size e
    simp at hb
    rcases hb with rfl | rfl
    · exact Nat.lt_succ_self _
    · exact Nat.lt_succ_of_lt this
  · intro i v hv
    obtain ⟨n, t, rfl⟩ := hi v (by
      obtain ⟨hlt, e⟩ := Array.getElem?_eq_some_iff.mp hv
      rw [← e]; exact Array.getElem_mem_toList hlt)
    exact ⟨t, by dsimp only; rw [show items[i]? = some (Value.int n t) from hv]⟩
  · intro h' tk t' hk
    refine h _ _ _ ⟨fun b o e => hk b o (fun hb => by simp at hb; subst hb; rw [fI] at e; cases e) (Heap.get?_push_of_some _ e), rfl, rfl, rfl⟩
theorem ints_of : ∀ {l : List Value}, (∀ v ∈ l, ∃ n t, v = Value.int n t) → ∃ ns, IntsAre l ns
  | [], _ => ⟨[], .nil⟩
  | v :: l, h => by
    obtain ⟨n, t, rfl⟩ := h v List.mem_cons_self
    obtain ⟨ns, k⟩ := ints_of fun v hv => h v (List.mem_cons_of_mem _ hv)
    exact ⟨_, .cons n t k⟩
theorem slice_mem {items : Array Value} {lo hi st : Option Int} {v : Value} (h : v ∈ (slicePick items lo hi st).toList) : v ∈ items.toList := by
  unfold slicePick at h
  rw [List.toList_toArray, List.mem_filterMap] at h
  obtain ⟨i, _, e⟩ := h
  obtain ⟨hlt, e⟩ := Array.getElem?_eq_some_iff.mp e
  rw [← e]; exact Array.getElem_mem_toList hlt
theorem subL3 {value : Expr} {lower upper step : Option Expr} {p pos : Pos}
    (h : WP w A (eval value env) (fun o s₁ => WP w A (evalPart lower env) (fun vl s₂ => WP w A (evalPart upper env) (fun vu s₃ => WP w A (evalPart step env) (fun vs s₄ =>
      ∃ l items lo hi st, o = .ref l ∧ s₄.heap.IsList l items ∧ items.size ≤ sizeLine ∧ IsPart vl lo ∧ IsPart vu hi ∧ IsPart vs st ∧ st ≠ some 0 ∧
        ∀ D s', Ext s₄ s' → s₄.heap.get? D = none → s'.heap.PlainList D (slicePick items lo hi st) → Q (.ref D) s') s₃) s₂) s₁) s)
    (hs : ∀ o i, ∃ k, subscripted (.Slice lower upper step p) false o i = operate k (getItem o i) := by intro o i; exact ⟨_, rfl⟩) :
    WP w A (eval (.Subscript value (.Slice lower upper step p) pos) env) Q s := by
  refine subA (hs := hs) (wpAny_mono h (fun o s₁ h₁ => wpAny_Slice (wpAny_mono h₁ (fun vl s₂ h₂ => wpAny_mono h₂ (fun vu s₃ h₃ => wpAny_mono h₃ (fun vs s₄ h₄ => ?_) fun _ _ e => e) fun _ _ e => e) fun _ _ e => e)) fun _ _ e => e)
  obtain ⟨l, items, lo, hi, st, rfl, hl, hsz, pl, pu, ps, h0, hQ⟩ := h₄
  refine ⟨"list", _, (hl.push _).typeIs, list_getitem_lookup, wpAny_getItem_list_slice (hl.push _) (Heap.IsSliceOf.new ..) pl pu ps h0 ?_ hsz⟩
  rw [Heap.size_push]
  exact hQ _ _ ⟨fun _ _ e => Heap.get?_push_of_some _ (Heap.get?_push_of_some _ e), rfl, rfl, rfl⟩ (Heap.get?_none_of_le (Nat.le_succ _)) ⟨_, push2_at rfl⟩
theorem sumMod {iter : Expr} {x : Str} {px p p1 p2 p3 p4 p5 pos pos2 : Pos} {scope : Scope} (hh : A.handled = none) (hn : ∀ (s : Shared) (Q' : Value → Shared → Prop), YP w s.heap → Q' (.builtin "sum") s → WP w A (eval (.Name (Str.ofString "sum") p) env) Q' s) (T : YP w s.heap)
    (F : Rd env [] s.heap)
    (h : WP w A (eval iter env) (fun xv s₁ => ∃ l items, Ext s s₁ ∧ xv = .ref l ∧ s₁.heap.IsList l items ∧ items.size ≤ 1000 ∧ (∀ v ∈ items.toList, ∃ n t, v = Value.int n t)) s)
    (hQ : ∀ z t s', Ext s s' → Q (.int z t) s')
    (hcell : (scope.names.all fun y => !(y.2 == .cell)) = true := by kernel_rfl!) (hfree : (scope.names.all fun y => !(y.2 == .free) || (env.cells.lookup y.1).isSome) = true := by kernel_rfl!) (hkind : scope.kind = .function := by kernel_rfl!)
    (hnames : (scope.names.all fun y => !(y.2 == .local) || (scope.names.lookup y.1 == some .local)) = true := by kernel_rfl!) (hx : scope.names.lookup x = some .local := by kernel_rfl!)
    (hs : ∀ v, foldedSetIterable iter env v = pure v := by intro _; rfl)
    (hdbg : (x == ("__debug__" : Str)) = false := by kernel_rfl!) (hst : ∀ e : Expr, e = .ListComp (.BinOp (.Name x p1) .Mod (.BinOp (.Constant (.int 10) 0 p2) .Pow (.Constant (.int 6) 0 p3) p4) p5) [⟨.Name x px, iter, [], 0⟩] scope pos2 → starEach [e] env = [(false, eval e env)] := by rintro _ rfl; rfl) :
    WP w A (eval (.Call (.Name (Str.ofString "sum") p) [.ListComp (.BinOp (.Name x p1) .Mod (.BinOp (.Constant (.int 10) 0 p2) .Pow (.Constant (.int 6) 0 p3) p4) p5) [⟨.Name x px, iter, [], 0⟩] scope pos2] [] pos) env) Q s := by
  refine c1b (id := "sum") (fun Q' q => hn s Q' T q) ?_ (hst _ rfl)
  refine lC (fun _ => true) (fun v y => ∃ n t, y = Value.int n t) F (wpAny_mono h (fun xv s₁ h₁ => ?_) fun _ _ e => e) hfree hcell hkind hnames hx rfl hs
  obtain ⟨l, items, x₁, rfl, hl, hz, hi⟩ := h₁
  refine ⟨_, _, x₁, (wk2_list hh hl).wk, Nat.le_trans hz (by decide +kernel), fun C i v s₂ hv k₂ F₂ => ct0 ⟨rfl, Ext.refl _⟩, fun C i v s₂ hv _ k₂ F₂ => ?_, fun D ys s₂ vs hD hl₂ hvn hvs hP x₂ => ?_⟩
  · obtain ⟨hlt, e⟩ := Array.getElem?_eq_some_iff.mp hv
    obtain ⟨n, t, rfl⟩ := hi v (by rw [← e]; exact Array.getElem_mem_toList hlt)
    have hkx : (kE scope C env).kindOf x = some .local := lookup_relabel_local hx
    refine wpAny_BinOp (eN F₂ lk_here ?_ hkind (by rw [hkx]; rfl) hdbg)
    refine wpAny_BinOp (wpAny_Constant_int (wpAny_Constant_int (pow_int (by decide) (by decide +kernel) ?_)))
    exact mod_int' (by decide) ⟨⟨_, _, rfl⟩, (((Ext.toks _ _).trans (Ext.toks _ _)).trans (Ext.toks _ _)).trans (Ext.toks _ _)⟩
  · refine sumL hh hl₂.isList (fun v hv => ?_) fun z t s₃ x₃ => hQ z t s₃ ((x₁.trans x₂).trans x₃)
    have : ∀ {l m : List Value}, Paired (fun v y => ∃ n t, y = Value.int n t) l m → ∀ v ∈ m, ∃ n t, v = Value.int n t := fun h => by
      induction h with
      | nil => intro v hv; cases hv
      | cons h t ih => intro v hv; rcases List.mem_cons.mp hv with rfl | hv; exact h; exact ih v hv
    exact this hP v hv
theorem appS {a : Addr} {ss : List Str} {y : Str} {t : Tok} (hl : Strs s.heap a ss) (hz : ss.length ≤ 1000) (h : ∀ s', But a s s' → Strs s'.heap a (ss ++ [y]) → Q .none s') : WP w A (call (.builtin "list.append") [.ref a, .str y t]) Q s := by
  obtain ⟨vs, p, st⟩ := hl
  refine append_ p (by have := strs_len st; simp; omega) fun s' b hl' => h s' b ⟨vs ++ [.str y t], by simpa using hl', StrsAre.append st (.cons _ _ .nil)⟩
end
end Mine
end
section
open PySem PySem.W PySem.Calls PyProof.Rows PySem.W.X PySem.W.XRun PySem.SeqAt
set_option Elab.async false
set_option maxRecDepth 100000
set_option maxHeartbeats 0
set_option linter.unusedVariables false
namespace Mine
noncomputable def lawTail (k : Nat) : List Stmt := (fnB (top 26)).drop k
noncomputable abbrev eL (L : Addr) : Env := envC fd291 L 291
theorem sign_of (r N : Int) (h0 : 0 ≤ r) (h4 : r < 4) (n0 : 0 ≤ N) (n96 : N < 96) (t0 t1 t2 t3 : Tok) :
    ∃ (c : Nat) (t : Tok), c ∈ signs ∧ kd c = 112 + r.toNat ∧ c < 1000000 ∧ (#[Value.int (64976 + N.fmod 32) t0, Value.int (12272 + N.fmod 12) t1, Value.int (8234 + N.fmod 5) t2, Value.int (917536 + N) t3] : Array Value)[r.toNat]? = some (.int (c : Nat) t) := by
  have mem : ∀ c : Nat, (64976 ≤ c ∧ c < 64976 + 32) ∨ (12272 ≤ c ∧ c < 12272 + 12) ∨ (8234 ≤ c ∧ c < 8234 + 5) ∨ (917536 ≤ c ∧ c < 917536 + 96) → c ∈ signs := by
    intro c hc
    unfold signs
    simp only [List.mem_append, List.mem_map, List.mem_range]
    rcases hc with ⟨h1, h2⟩ | ⟨h1, h2⟩ | ⟨h1, h2⟩ | ⟨h1, h2⟩
    · exact .inl (.inl (.inl ⟨c - 64976, by omega, by omega⟩))
    · exact .inl (.inl (.inr ⟨c - 12272, by omega, by omega⟩))
    · exact .inl (.inr ⟨c - 8234, by omega, by omega⟩)
    · exact .inr ⟨c - 917536, by omega, by omega⟩
  have f : ∀ m : Int, 0 < m → 0 ≤ N.fmod m ∧ N.fmod m < m := fun m hm => ⟨Int.fmod_nonneg_of_pos _ hm, Int.fmod_lt_of_pos _ hm⟩
  obtain ⟨a1, a2⟩ := f 32 (by decide)
  obtain ⟨b1, b2⟩ := f 12 (by decide)
  obtain ⟨c1, c2⟩ := f 5 (by decide)
  have key : ∀ (z : Int) (c : Nat), z = (c : Int) → ∀ t, Value.int z t = Value.int (c : Nat) t := fun z c e t => by rw [e]
  rcases (show r = 0 ∨ r = 1 ∨ r = 2 ∨ r = 3 by omega) with rfl | rfl | rfl | rfl
  · refine ⟨(64976 + N.fmod 32).toNat, t0, mem _ (by omega), ?_, by omega, congrArg some (key _ _ (by omega) t0)⟩
    show kd _ = 112
    unfold kd
    rw [if_pos (by omega)]
  · refine ⟨(12272 + N.fmod 12).toNat, t1, mem _ (by omega), ?_, by omega, congrArg some (key _ _ (by omega) t1)⟩
    show kd _ = 113
    unfold kd
    rw [if_neg (by omega), if_pos (by omega)]
  · refine ⟨(8234 + N.fmod 5).toNat, t2, mem _ (by omega), ?_, by omega, congrArg some (key _ _ (by omega) t2)⟩
    show kd _ = 114
    unfold kd
    rw [if_neg (by omega), if_neg (by omega), if_pos (by omega)]
  · refine ⟨(917536 + N).toNat, t3, mem _ (by omega), ?_, by omega, congrArg some (key _ _ (by omega) t3)⟩
    show kd _ = 115
    unfold kd
    rw [if_neg (by omega), if_neg (by omega), if_neg (by omega)]
theorem letter_of (r : Int) (h0 : 0 ≤ r) (h4 : r < 4) : (seqIndex? r (Str.ofString "pqrs").length).bind ((Str.ofString "pqrs").cps[·]?) = some (112 + r.toNat) := by
  rcases (show r = 0 ∨ r = 1 ∨ r = 2 ∨ r = 3 by omega) with rfl | rfl | rfl | rfl <;> decide +kernel
section
variable {w : World} {A : Around} {b s : Shared} {Q : Flow → Shared → Prop} {L sa : Addr} {items : Array Value}
section
variable {env : Env} {l : List (Str × Value)} {x : Str} {N c m : Int} {tn : Tok} {Q : Value → Shared → Prop} {p1 p2 p3 p4 p5 : Pos}
theorem addMod (F : Rd env l s.heap) (hx : l.lookup x = some (.int N tn)) (hm : m ≠ 0) (h : ∀ s' t', Ext s s' → Q (.int (c + N.fmod m) t') s') (hk : env.scope.kind = .function := by kernel_rfl!)
    (hl : (env.kindOf x == some .local || (env.kindOf x == some .cell && (env.cells.lookup x).isSome)) = true := by kernel_rfl!) (hd : (x == ("__debug__" : Str)) = false := by kernel_rfl!) :
    WP w A (eval (.BinOp (.Constant (.int c) 0 p1) .Add (.BinOp (.Name x p2) .Mod (.Constant (.int m) 0 p3) p4) p5) env) Q s :=
  wpAny_BinOp (wpAny_Constant_int (wpAny_BinOp (eN F hx (wpAny_Constant_int (mod_int' hm (add_int (h _ _ (((Ext.toks _ _).trans (Ext.toks _ _)).trans ((Ext.toks _ _).trans (Ext.toks _ _)))))))  hk hl hd)))
theorem addN (F : Rd env l s.heap) (hx : l.lookup x = some (.int N tn)) (h : ∀ s' t', Ext s s' → Q (.int (c + N) t') s') (hk : env.scope.kind = .function := by kernel_rfl!)
    (hl : (env.kindOf x == some .local || (env.kindOf x == some .cell && (env.cells.lookup x).isSome)) = true := by kernel_rfl!) (hd : (x == ("__debug__" : Str)) = false := by kernel_rfl!) :
    WP w A (eval (.BinOp (.Constant (.int c) 0 p1) .Add (.Name x p2) p5) env) Q s :=
  wpAny_BinOp (wpAny_Constant_int (eN F hx (add_int (h _ _ ((Ext.toks _ _).trans (Ext.toks _ _)))) hk hl hd))
theorem divMod (F : Rd env l s.heap) (hx : l.lookup x = some (.int N tn)) (hc : c ≠ 0) (hs : c.natAbs < 1073741824) (hm : m ≠ 0) (h : ∀ s' t', Ext s s' → Q (.int ((N.fdiv c).fmod m) t') s') (hk : env.scope.kind = .function := by kernel_rfl!)
    (hl : (env.kindOf x == some .local || (env.kindOf x == some .cell && (env.cells.lookup x).isSome)) = true := by kernel_rfl!) (hd : (x == ("__debug__" : Str)) = false := by kernel_rfl!) :
    WP w A (eval (.BinOp (.BinOp (.Name x p1) .FloorDiv (.Constant (.int c) 0 p2) p3) .Mod (.Constant (.int m) 0 p4) p5) env) Q s :=
  wpAny_BinOp (wpAny_BinOp (eN F hx (wpAny_Constant_int (floordiv_int hc (wpAny_Constant_int (mod_int' hm (h _ _ (((Ext.toks _ _).trans (Ext.toks _ _)).trans ((Ext.toks _ _).trans (Ext.toks _ _)))))) (Or.inl (PyProof.noPylong_small hs)))) hk hl hd))
theorem modN (F : Rd env l s.heap) (hx : l.lookup x = some (.int N tn)) (hm : m ≠ 0) (h : ∀ s' t', Ext s s' → Q (.int (N.fmod m) t') s') (hk : env.scope.kind = .function := by kernel_rfl!)
    (hl : (env.kindOf x == some .local || (env.kindOf x == some .cell && (env.cells.lookup x).isSome)) = true := by kernel_rfl!) (hd : (x == ("__debug__" : Str)) = false := by kernel_rfl!) :
    WP w A (eval (.BinOp (.Name x p1) .Mod (.Constant (.int m) 0 p2) p3) env) Q s :=
  wpAny_BinOp (eN F hx (wpAny_Constant_int (mod_int' hm (h _ _ ((Ext.toks _ _).trans (Ext.toks _ _))))) hk hl hd)
end
theorem stA (T : YP w b.heap) (f : Fresh (eL L) b) (R : Room A 12) (x : Ext b s) (F : Fm (eL L) [("script", .ref sa)] s) (hS : b.heap.IsList sa items) (hI : ∀ v ∈ items.toList, ∃ n t, v = Value.int n t) (hz : items.size ≤ 1000)
    (h : ∀ (s' : Shared) (wl kl pl : Addr) (us ps : List Nat), Ext b s' → Fm (eL L) [("places", .ref pl), ("kinds", .ref kl), ("word", .ref wl), ("script", .ref sa)] s' → Strs s'.heap wl (us.map sg) → Strs s'.heap kl ((us.map kd).map sg) → Nats s'.heap pl ps →
      us.length = 5 → (∀ c ∈ us, c ∈ signs) → ps.length = 5 → (∀ p ∈ ps, p < 5) → WP w A (execs (lawTail 4) (eL L)) Q s') :
    WP w A (execs (fnB (top 26)) (eL L)) Q s := by
  unfold lawTail at h
  conv in (fnB (top 26)) => whnf
  refine wpAny_execs_cons (wpAny_Assign_Name (nilL fun wl s₁ x₁ fw hw => ?_) (by kernel_rfl!))
  refine sN (F.keeps x₁) fun s₂ x₂ F₂ => ?_
  dsimp only
  refine wpAny_execs_cons (wpAny_Assign_Name (nilL fun kl s₃ x₃ fk hk => ?_) (by kernel_rfl!))
  refine sN (F₂.keeps x₃) fun s₄ x₄ F₄ => ?_
  dsimp only
  refine wpAny_execs_cons (wpAny_Assign_Name (nilL fun pl s₅ x₅ fp hp => ?_) (by kernel_rfl!))
  refine sN (F₄.keeps x₅) fun s₆ x₆ F₆ => ?_
  dsimp only
  have e₂ : Ext b s₂ := (x.trans x₁).step x₂ f
  have e₄ : Ext b s₄ := (e₂.trans x₃).step x₄ f
  have e₆ : Ext b s₆ := (e₄.trans x₅).step x₆ f
  have w₂ := plain_step hw (F.keeps x₁) x₂
  have w₄ := plain_step (w₂.at fun o e => x₃.keep _ _ e) (F₂.keeps x₃) x₄
  have w₆ := plain_step (w₄.at fun o e => x₅.keep _ _ e) (F₄.keeps x₅) x₆
  have k₄ := plain_step hk (F₂.keeps x₃) x₄
  have k₆ := plain_step (k₄.at fun o e => x₅.keep _ _ e) (F₄.keeps x₅) x₆
  have p₆ := plain_step hp (F₄.keeps x₅) x₆
  have fw₀ : b.heap.get? wl = none := none_back x fw
  have fk₀ : b.heap.get? kl = none := none_back e₂ fk
  have fp₀ : b.heap.get? pl = none := none_back e₄ fp
  have nkw : kl ≠ wl := fun z => by obtain ⟨n, e⟩ := w₂; rw [z, e] at fk; cases fk
  have npw : pl ≠ wl := fun z => by obtain ⟨n, e⟩ := w₄; rw [z, e] at fp; cases fp
  have npk : pl ≠ kl := fun z => by obtain ⟨n, e⟩ := k₄; rw [z, e] at fp; cases fp
  have wf : ∀ a, (Own (eL L) a ∨ a = wl ∨ a = kl ∨ a = pl) → b.heap.get? a = none := fun a ha => by
    rcases ha with ha | rfl | rfl | rfl
    · exact f a ha
    · exact fw₀
    · exact fk₀
    · exact fp₀
  refine wpAny_execs_cons (forE R.hd (fun a => Own (eL L) a ∨ a = wl ∨ a = kl ∨ a = pl) (fun i st => ∃ us ps : List Nat, us.length = i ∧ ps.length = i ∧ (∀ c ∈ us, c ∈ signs) ∧ (∀ p ∈ ps, p < 5) ∧
    Fm (eL L) [("places", .ref pl), ("kinds", .ref kl), ("word", .ref wl), ("script", .ref sa)] st ∧ Strs st.heap wl (us.map sg) ∧ Strs st.heap kl ((us.map kd).map sg) ∧ (∃ pv : List Value, st.heap.PlainList pl pv.toArray ∧ IntsAre pv (toI ps))) ?_)
  refine c1t (T := "enumerate") (fun Q' q => eB (T.keeps e₆) (by kernel_rfl!) (by kernel_rfl!) q) ?_
  refine List_ (args_cons (wpAny_Constant_int ?_) (by kernel_rfl!))
  refine args_cons (wpAny_Constant_int ?_) (by kernel_rfl!)
  refine args_cons (wpAny_Constant_int ?_) (by kernel_rfl!)
  refine args_cons (wpAny_Constant_int ?_) (by kernel_rfl!)
  refine args_cons (wpAny_Constant_int ?_) (by kernel_rfl!)
  refine args_nil (wpAny_newList ?_)
  have F₇ := F₆
  generalize hs7 : ({ heap := s₆.heap.push { cls := .type "list", data := .seq ([.int 384 s₆.toks, .int 1154 (s₆.toks + 1), .int 769 (s₆.toks + 1 + 1), .int 3 (s₆.toks + 1 + 1 + 1), .int 4 (s₆.toks + 1 + 1 + 1 + 1)] : List Value).toArray }, gens := s₆.gens, drawn := s₆.drawn, toks := s₆.toks + 1 + 1 + 1 + 1 + 1, os := s₆.os } : Shared) = s₇
  have x₇ : Ext s₆ s₇ := by subst hs7; exact ⟨fun _ _ e => Heap.get?_push_of_some _ e, rfl, rfl, rfl⟩
  have fE := fresh_at s₆
  obtain ⟨eit, hE⟩ : ∃ eit : Array Value, s₇.heap.IsList s₆.heap.objs.size eit ∧ eit.size = 5 ∧ ∀ v ∈ eit.toList, ∃ n t, v = Value.int n t := by
    subst hs7
    refine ⟨_, ⟨_, Heap.get?_push_size _ rfl, rfl, _, rfl⟩, rfl, ?_⟩
    intro v hv
    simp at hv
    rcases hv with rfl | rfl | rfl | rfl | rfl <;> exact ⟨_, _, rfl⟩
  generalize s₆.heap.objs.size = El at fE hE ⊢
  clear hs7 F₇
  obtain ⟨hEl, hE5, hEi⟩ := hE
  have F₇ := F₆.keeps x₇
  have e₇ := e₆.trans x₇
  refine call_enumerate_list hEl fun h₈ hen hit hsz hk₈ => ?_
  have x₈ : Ext s₇ { s₇ with heap := h₈ } := ⟨hk₈, rfl, rfl, rfl⟩
  have fe : s₇.heap.get? (s₇.heap.objs.size + 1) = none := Heap.get?_none_of_le (Nat.le_succ _)
  have fi := fresh_at s₇
  have F₈ := F₇.keeps x₈
  have ltE : El < s₇.heap.objs.size := by obtain ⟨o, e, _⟩ := hEl; exact Heap.lt_size e
  have ex : ∀ a, (Own (eL L) a ∨ a = wl ∨ a = kl ∨ a = pl) → ∃ o, s₆.heap.get? a = some o := fun a ha => by
    rcases ha with ha | rfl | rfl | rfl
    · exact F₆.own ha
    · exact PlainList.some w₆
    · exact PlainList.some k₆
    · exact PlainList.some p₆
  have j0 : ∃ us ps : List Nat, us.length = 0 ∧ ps.length = 0 ∧ (∀ c ∈ us, c ∈ signs) ∧ (∀ p ∈ ps, p < 5) ∧
    Fm (eL L) [("places", .ref pl), ("kinds", .ref kl), ("word", .ref wl), ("script", .ref sa)] { s₇ with heap := h₈ } ∧ Strs h₈ wl (us.map sg) ∧ Strs h₈ kl ((us.map kd).map sg) ∧ (∃ pv : List Value, h₈.PlainList pl pv.toArray ∧ IntsAre pv (toI ps)) :=
    ⟨[], [], rfl, rfl, fun c hc => absurd hc List.not_mem_nil, fun p hp => absurd hp List.not_mem_nil, F₈.sub (sub_cons lk_here (sub_cons (lk_next (by kernel_rfl!) lk_here) (sub_cons (lk_next (by kernel_rfl!) (lk_next (by kernel_rfl!) lk_here)) (sub_cons (lk_next (by kernel_rfl!) (lk_next (by kernel_rfl!) (lk_next (by kernel_rfl!) lk_here))) sub_nil)))), ⟨[], (w₆.at fun o e => x₇.keep _ _ e).at fun o e => hk₈ _ o e, .nil⟩,
      ⟨[], (k₆.at fun o e => x₇.keep _ _ e).at fun o e => hk₈ _ o e, .nil⟩, ⟨[], (p₆.at fun o e => x₇.keep _ _ e).at fun o e => hk₈ _ o e, .nil⟩⟩
  have hW : ∀ a, (Own (eL L) a ∨ a = wl ∨ a = kl ∨ a = pl) → a ≠ s₇.heap.objs.size + 1 ∧ a ≠ s₇.heap.objs.size ∧ a ≠ El := fun a ha => by
    obtain ⟨o, ho⟩ := ex a ha
    refine ⟨fun z => ?_, fun z => ?_, fun z => ?_⟩
    · rw [z] at ho; rw [x₇.keep _ _ ho] at fe; cases fe
    · rw [z] at ho; rw [x₇.keep _ _ ho] at fi; cases fi
    · rw [z] at ho; rw [ho] at fE; cases fE
  have fe₀ : b.heap.get? (s₇.heap.objs.size + 1) = none := none_back e₇ fe
  have fi₀ : b.heap.get? s₇.heap.objs.size = none := none_back e₇ fi
  have d1 : s₇.heap.objs.size + 1 ≠ s₇.heap.objs.size := Nat.ne_of_gt (Nat.lt_succ_self _)
  have d2 : El ≠ s₇.heap.objs.size + 1 := Nat.ne_of_lt (Nat.lt_succ_of_lt ltE)
  have d3 : El ≠ s₇.heap.objs.size := Nat.ne_of_lt ltE
  generalize s₇.heap.objs.size + 1 = en at hen hW fe fe₀ d1 d2 ⊢
  generalize s₇.heap.objs.size = ei at hen hit hW fi fi₀ d1 d3 ⊢
  refine ⟨en, ei, El, eit, rfl, d1, d2, d3, hen, hit, hEl.at fun o e => hk₈ _ o e, hW, j0,
    fun i s' s'' ⟨us, ps, j1, j2, j3, j4, j5, j6, j7, pv, j8, j9⟩ k => ⟨us, ps, j1, j2, j3, j4, j5.kt k, j6.kt k, j7.kt k, pv, plain_kt j8 k, j9⟩, fun i xv t Tt s₉ hx hT _ m₉ j => ?_, fun s₉ m₉ j => ?_⟩
  · obtain ⟨us, ps, j1, j2, j3, j4, j5, j6, j7, pv, j8, j9⟩ := j
    have e₉ : Ext b s₉ := (e₇.trans x₈).then m₉ fun a ha => by
      rcases ha with ha | rfl | rfl
      · exact wf a ha
      · exact fe₀
      · exact fi₀
    have i5 : i < 5 := by rw [← hE5]; exact (Array.getElem?_eq_some_iff.mp hx).1
    obtain ⟨ow, tw, rfl⟩ := hEi xv (by
      obtain ⟨hlt, e⟩ := Array.getElem?_eq_some_iff.mp hx
      rw [← e]; exact Array.getElem_mem_toList hlt)
    refine assign2 R.hd j5 hT fun s₁₀ x₁₀ F₁₀ => ?_
    have e₁₀ : Ext b s₁₀ := e₉.step x₁₀ f
    refine wpAny_execs_cons (wpAny_Assign_Name (wpAny_BinOp (eN F₁₀.rd lk_here ?_)) (by kernel_rfl!))
    refine sumMod R.hd (fun s' Q' T' q => eB T' (by kernel_rfl!) (by kernel_rfl!) q) (T.keeps e₁₀) (F₁₀.rd.sub sub_nil) ?_ fun z tz s₁₁ x₁₁ => ?_
    · refine subL3 (eN F₁₀.rd (lk_next (by kernel_rfl!) (lk_next (by kernel_rfl!) (lk_next (by kernel_rfl!) (lk_next (by kernel_rfl!) (lk_next (by kernel_rfl!) lk_here))))) (wpAny_evalPart_some (eN F₁₀.rd (lk_next (by kernel_rfl!) lk_here) (wpAny_evalPart_some (wpAny_Constant_int (wpAny_evalPart_some (wpAny_Constant_int ?_)))))))
      refine ⟨sa, items, some (i : Nat), some 24, some 6, rfl, hS.at fun o e => e₁₀.keep _ _ e, Nat.le_trans hz (by decide +kernel), .int _ _, .int _ _, .int _ _, by decide, fun Dl s' x' fD hD => ?_⟩
      exact ⟨Dl, _, ((Ext.toks _ _).trans (Ext.toks _ _)).trans x', rfl, hD.isList, Nat.le_trans (slicePick_size_le _ _ _ _) hz, fun v hv => hI v (slice_mem hv)⟩
    refine add_int ?_
    have F₁₁ := F₁₀.keeps (x₁₁.trans (Ext.toks s₁₁ (s₁₁.toks + 1)))
    refine sN F₁₁ fun s₁₂ x₁₂ F₁₂ => ?_
    dsimp only
    have w₁₂ := ((j6.step j5 x₁₀).keeps (x₁₁.trans (Ext.toks s₁₁ (s₁₁.toks + 1)))).step F₁₁ x₁₂
    have k₁₂ := ((j7.step j5 x₁₀).keeps (x₁₁.trans (Ext.toks s₁₁ (s₁₁.toks + 1)))).step F₁₁ x₁₂
    have p₁₂ := plain_step ((plain_step j8 j5 x₁₀).at fun o e => (x₁₁.trans (Ext.toks s₁₁ (s₁₁.toks + 1))).keep _ _ e) F₁₁ x₁₂
    have m₁₂ : Mv (fun a => Own (eL L) a ∨ a = wl ∨ a = kl ∨ a = pl) s₉ s₁₂ := ((x₁₀.mv fun _ h => .inl h).trans (x₁₁.trans (Ext.toks s₁₁ (s₁₁.toks + 1))).mv).trans (x₁₂.mv fun _ h => .inl h)
    have e₁₂ : Ext b s₁₂ := e₉.then m₁₂ wf
    generalize hX : ow + z = X at F₁₂
    refine wpAny_execs_cons (wpAny_Assign_Name (divMod F₁₂.rd lk_here (by decide) (by decide) (by decide) fun s₁₃ tn y₁₃ => ?_) (by kernel_rfl!))
    have F₁₃ := F₁₂.keeps y₁₃
    refine sN F₁₃ fun s₁₄ x₁₄ F₁₄ => ?_
    dsimp only
    have w₁₄ := (w₁₂.keeps y₁₃).step F₁₃ x₁₄
    have k₁₄ := (k₁₂.keeps y₁₃).step F₁₃ x₁₄
    have p₁₄ := plain_step (p₁₂.at fun o e => y₁₃.keep _ _ e) F₁₃ x₁₄
    have m₁₄ := (m₁₂.trans y₁₃.mv).trans (x₁₄.mv fun _ h => .inl h)
    have e₁₄ : Ext b s₁₄ := e₉.then m₁₄ wf
    have hN0 : 0 ≤ (X.fdiv 4).fmod 96 := Int.fmod_nonneg_of_pos _ (by decide)
    have hN1 : (X.fdiv 4).fmod 96 < 96 := Int.fmod_lt_of_pos _ (by decide)
    generalize (X.fdiv 4).fmod 96 = N at F₁₄ hN0 hN1
    have hr0 : 0 ≤ X.fmod 4 := Int.fmod_nonneg_of_pos _ (by decide)
    have hr1 : X.fmod 4 < 4 := Int.fmod_lt_of_pos _ (by decide)
    refine wpAny_execs_cons (wpAny_Expr ?_)
    obtain ⟨wvs, wpl, wst⟩ := w₁₄
    refine lM PySem.F.slot_list_append PySem.F.type_list_append (eN F₁₄.rd (lk_next (by kernel_rfl!) (lk_next (by kernel_rfl!) (lk_next (by kernel_rfl!) (lk_next (by kernel_rfl!) (lk_next (by kernel_rfl!) (lk_next (by kernel_rfl!) lk_here)))))) ⟨wl, _, rfl, wpl, ?_⟩)
    refine c1b (id := "chr") (fun Q' q => eB (T.keeps e₁₄) (by kernel_rfl!) (by kernel_rfl!) q) ?_
    refine subA ?_
    refine List_ (args_cons (addMod F₁₄.rd lk_here (by decide) fun s₁₅ t0 x₁₅ => ?_) (by kernel_rfl!))
    refine args_cons (addMod (F₁₄.keeps x₁₅).rd lk_here (by decide) fun s₁₆ t1 x₁₆ => ?_) (by kernel_rfl!)
    refine args_cons (addMod (F₁₄.keeps (x₁₅.trans x₁₆)).rd lk_here (by decide) fun s₁₇ t2 x₁₇ => ?_) (by kernel_rfl!)
    refine args_cons (addN (F₁₄.keeps ((x₁₅.trans x₁₆).trans x₁₇)).rd lk_here fun s₁₈ t3 x₁₈ => ?_) (by kernel_rfl!)
    refine args_nil (wpAny_newList ?_)
    have y₁₈ := ((x₁₅.trans x₁₆).trans x₁₇).trans x₁₈
    obtain ⟨c, tc, hcs, hck, hcb, hci⟩ := sign_of (X.fmod 4) N hr0 hr1 hN0 hN1 t0 t1 t2 t3
    generalize hs19 : ({ s₁₈ with heap := s₁₈.heap.push { cls := .type "list", data := .seq ([.int (64976 + N.fmod 32) t0, .int (12272 + N.fmod 12) t1, .int (8234 + N.fmod 5) t2, .int (917536 + N) t3] : List Value).toArray } } : Shared) = s₁₉
    have x₁₉ : Ext s₁₈ s₁₉ := by subst hs19; exact ⟨fun _ _ e => Heap.get?_push_of_some _ e, rfl, rfl, rfl⟩
    have l₁₉ : s₁₉.heap.IsList s₁₈.heap.objs.size #[.int (64976 + N.fmod 32) t0, .int (12272 + N.fmod 12) t1, .int (8234 + N.fmod 5) t2, .int (917536 + N) t3] := by subst hs19; exact ⟨_, Heap.get?_push_size _ rfl, rfl, _, rfl⟩
    generalize s₁₈.heap.objs.size = Dl at l₁₉ ⊢
    clear hs19
    have y₁₉ := y₁₈.trans x₁₉
    refine modN (F₁₄.keeps y₁₉).rd (lk_next (by kernel_rfl!) lk_here) (by decide) fun s₂₀ t4 x₂₀ => ?_
    have l₂₀ := l₁₉.at fun o e => x₂₀.keep _ _ e
    refine ⟨"list", _, l₂₀.typeIs, list_getitem_lookup, wpAny_getItem_list l₂₀ hr0 (by omega) hci ?_⟩
    refine P.chr_of_int (by rw [Bool.or_eq_false_iff]; exact ⟨decide_eq_false (by omega), decide_eq_false (by omega)⟩) ?_
    rw [Int.toNat_natCast]
    have y₂₁ : Ext s₁₄ { s₂₀ with toks := s₂₀.toks + 1 } := (y₁₉.trans x₂₀).trans (Ext.toks _ _)
    generalize hs21 : ({ s₂₀ with toks := s₂₀.toks + 1 } : Shared) = s₂₁ at y₂₁ ⊢
    clear hs21
    refine appS (ss := us.map sg) ⟨wvs, wpl.at fun o e => y₂₁.keep _ _ e, wst⟩ (by simp; omega) fun s₂₂ b₂₂ w₂₂ => ?_
    dsimp only
    have F₂₂ := (F₁₄.keeps y₂₁).but b₂₂ (list_own (F₁₄.keeps y₂₁) (wpl.at fun o e => y₂₁.keep _ _ e).isList)
    have k₂₂ := (k₁₄.keeps y₂₁).but b₂₂ nkw
    have p₂₂ := (p₁₄.at fun o e => y₂₁.keep _ _ e).at fun o e => b₂₂.keep _ _ npw e
    have m₂₂ := (m₁₄.trans y₂₁.mv).trans (b₂₂.mv (.inr (.inl rfl)))
    have e₂₂ : Ext b s₂₂ := e₉.then m₂₂ wf
    refine wpAny_execs_cons (wpAny_Expr ?_)
    obtain ⟨kvs, kpl, kst⟩ := k₂₂
    refine lM PySem.F.slot_list_append PySem.F.type_list_append (eN F₂₂.rd (lk_next (by kernel_rfl!) (lk_next (by kernel_rfl!) (lk_next (by kernel_rfl!) (lk_next (by kernel_rfl!) (lk_next (by kernel_rfl!) lk_here))))) ⟨kl, _, rfl, kpl, ?_⟩)
    refine subA (wpAny_Constant_str ?_)
    have y₂₃ : Ext s₂₂ { s₂₂ with toks := s₂₂.toks + 1 } := Ext.toks _ _
    refine modN (F₂₂.keeps y₂₃).rd (lk_next (by kernel_rfl!) lk_here) (by decide) fun s₂₄ t5 x₂₄ => ?_
    refine ⟨"str", _, typeIs_str _ _ _, PySem.F.slot_str_getitem.lookup, P.getItem_str (by rw [Bool.or_eq_false_iff]; exact ⟨decide_eq_false (by omega), decide_eq_false (by omega)⟩) (letter_of _ hr0 hr1) ?_⟩
    have y₂₅ : Ext s₂₂ { s₂₄ with toks := s₂₄.toks + 1 } := (y₂₃.trans x₂₄).trans (Ext.toks _ _)
    generalize hs25 : ({ s₂₄ with toks := s₂₄.toks + 1 } : Shared) = s₂₅ at y₂₅ ⊢
    clear hs25
    refine appS (ss := (us.map kd).map sg) ⟨kvs, kpl.at fun o e => y₂₅.keep _ _ e, kst⟩ (by simp; omega) fun s₂₆ b₂₆ k₂₆ => ?_
    dsimp only
    have F₂₆ := (F₂₂.keeps y₂₅).but b₂₆ (list_own (F₂₂.keeps y₂₅) (kpl.at fun o e => y₂₅.keep _ _ e).isList)
    have w₂₆ := (w₂₂.keeps y₂₅).but b₂₆ (Ne.symm nkw)
    have p₂₆ := (p₂₂.at fun o e => y₂₅.keep _ _ e).at fun o e => b₂₆.keep _ _ npk e
    have m₂₆ := (m₂₂.trans y₂₅.mv).trans (b₂₆.mv (.inr (.inr (.inl rfl))))
    refine wpAny_execs_cons (wpAny_Expr ?_)
    refine lM PySem.F.slot_list_append PySem.F.type_list_append (eN F₂₆.rd (lk_next (by kernel_rfl!) (lk_next (by kernel_rfl!) (lk_next (by kernel_rfl!) (lk_next (by kernel_rfl!) lk_here)))) ⟨pl, _, rfl, p₂₆, ?_⟩)
    have hP0 : 0 ≤ (X.fdiv 384).fmod 5 := Int.fmod_nonneg_of_pos _ (by decide)
    have hP1 : (X.fdiv 384).fmod 5 < 5 := Int.fmod_lt_of_pos _ (by decide)
    refine divMod F₂₆.rd (lk_next (by kernel_rfl!) lk_here) (by decide) (by decide) (by decide) fun s₂₇ t6 x₂₇ => ?_
    have pz : pv.length ≤ 5 := by
      have := ints_len j9
      unfold toI at this
      rw [List.length_map] at this
      omega
    refine append_ (p₂₆.at fun o e => x₂₇.keep _ _ e) (by simp; omega) fun s₂₈ b₂₈ p₂₈ => ?_
    dsimp only
    refine wpAny_execs_nil ?_
    dsimp only
    have F₂₈ := (F₂₆.keeps x₂₇).but b₂₈ (list_own (F₂₆.keeps x₂₇) (p₂₆.at fun o e => x₂₇.keep _ _ e).isList)
    refine ⟨(m₂₆.trans x₂₇.mv).trans (b₂₈.mv (.inr (.inr (.inr rfl)))), us ++ [c], ps ++ [((X.fdiv 384).fmod 5).toNat], by simp; omega, by simp; omega, fun d hd => ?_, fun q hq => ?_,
      F₂₈.sub (sub_cons (lk_next (by kernel_rfl!) (lk_next (by kernel_rfl!) (lk_next (by kernel_rfl!) (lk_next (by kernel_rfl!) lk_here)))) (sub_cons (lk_next (by kernel_rfl!) (lk_next (by kernel_rfl!) (lk_next (by kernel_rfl!) (lk_next (by kernel_rfl!) (lk_next (by kernel_rfl!) lk_here))))) (sub_cons (lk_next (by kernel_rfl!) (lk_next (by kernel_rfl!) (lk_next (by kernel_rfl!) (lk_next (by kernel_rfl!) (lk_next (by kernel_rfl!) (lk_next (by kernel_rfl!) lk_here)))))) (sub_cons (lk_next (by kernel_rfl!) (lk_next (by kernel_rfl!) (lk_next (by kernel_rfl!) (lk_next (by kernel_rfl!) (lk_next (by kernel_rfl!) (lk_next (by kernel_rfl!) (lk_next (by kernel_rfl!) lk_here))))))) sub_nil)))), ?_, ?_, ?_⟩
    · rcases List.mem_append.mp hd with hd | hd
      · exact j3 d hd
      · rw [List.mem_singleton.mp hd]; exact hcs
    · rcases List.mem_append.mp hq with hq | hq
      · exact j4 q hq
      · rw [List.mem_singleton.mp hq]; omega
    · have := (w₂₆.keeps x₂₇).but b₂₈ (Ne.symm npw)
      rw [List.map_append]
      exact this
    · have := (k₂₆.keeps x₂₇).but b₂₈ (Ne.symm npk)
      rw [List.map_append, List.map_append]
      rw [← hck] at this
      exact this
    · refine ⟨pv ++ [.int ((X.fdiv 384).fmod 5) t6], by simpa using p₂₈, ?_⟩
      have e1 : toI (ps ++ [((X.fdiv 384).fmod 5).toNat]) = toI ps ++ [(X.fdiv 384).fmod 5] := by
        unfold toI
        rw [List.map_append, List.map_singleton, Int.toNat_of_nonneg hP0]
      rw [e1]
      exact IntsAre.append j9 (.cons _ _ .nil)
  · obtain ⟨us, ps, j1, j2, j3, j4, j5, j6, j7, pv, j8, j9⟩ := j
    rw [hE5] at j1 j2
    have e₉ : Ext b s₉ := (e₇.trans x₈).then m₉ fun a ha => by
      rcases ha with ha | rfl | rfl
      · exact wf a ha
      · exact fe₀
      · exact fi₀
    exact h s₉ wl kl pl us ps e₉ j5 j6 j7 ⟨pv, j8.isList, j9⟩ j1 j3 j2 j4
end
end Mine
end
section
open PySem PySem.W PySem.Calls PyProof.Rows PySem.W.X PySem.W.XRun PySem.SeqAt
set_option Elab.async false
set_option maxRecDepth 100000
set_option maxHeartbeats 0
set_option linter.unusedVariables false
namespace Mine
noncomputable def pr (p : Nat × Nat) : Str := ⟨#[p.1, p.2]⟩
noncomputable def base4 : List (Nat × Nat) := [(112, 112), (113, 113), (114, 114), (115, 115)]
noncomputable def pairs6 : List (Nat × Nat) := [(112, 113), (112, 114), (112, 115), (113, 114), (113, 115), (114, 115)]
noncomputable def tiedOf (q : Nat → Bool) : List (Nat × Nat) := base4 ++ ((List.range 6).filter q).map fun k => pairs6.getD k (0, 0)
structure Tied (tied : List (Nat × Nat)) : Prop where
  refl : ∀ k ∈ ks4, (k, k) ∈ tied
  mem : ∀ p ∈ tied, p.1 ∈ ks4 ∧ p.2 ∈ ks4
  len : tied.length ≤ 10
theorem tied_of (q : Nat → Bool) : Tied (tiedOf q) := by
  have hp : ∀ k < 6, (pairs6.getD k (0, 0)).1 ∈ ks4 ∧ (pairs6.getD k (0, 0)).2 ∈ ks4 := by decide
  have hb : ∀ p ∈ base4, p.1 ∈ ks4 ∧ p.2 ∈ ks4 := by decide
  have hr : ∀ k ∈ ks4, (k, k) ∈ base4 := by decide
  refine ⟨fun k hk => List.mem_append_left _ (hr k hk), fun p h => ?_, ?_⟩
  · rcases List.mem_append.mp h with h | h
    · exact hb p h
    · obtain ⟨k, hk, rfl⟩ := List.mem_map.mp h
      exact hp k (List.mem_range.mp (List.mem_filter.mp hk).1)
  · unfold tiedOf
    rw [List.length_append, List.length_map]
    have := List.length_filter_le q (List.range 6)
    rw [List.length_range] at this
    show 4 + _ ≤ 10
    omega
theorem pr_beq (p : Nat × Nat) (x y : Nat) : (pr p == (⟨#[x, y]⟩ : Str)) = (p == (x, y)) := by
  by_cases h : p = (x, y)
  · subst h; simp [pr]
  · rw [beq_eq_false_iff_ne.mpr h, beq_eq_false_iff_ne.mpr fun e => h ?_]
    have := congrArg (fun s : Str => s.cps.toList) e
    simp [pr] at this
    exact Prod.ext this.1 this.2
noncomputable def bndS (tied : List (Nat × Nat)) : List Str := tied.map pr ++ tied.map fun p => pr (p.2, p.1)
theorem bnd_any (tied : List (Nat × Nat)) (x y : Nat) : ((bndS tied).any (· == ⟨#[x, y]⟩)) = bnd tied x y := by
  unfold bndS bnd
  rw [List.any_append]
  have h1 : ∀ l : List (Nat × Nat), ((l.map pr).any (· == (⟨#[x, y]⟩ : Str))) = l.contains (x, y) := by
    intro l
    induction l with
    | nil => rfl
    | cons a l ih => rw [List.map_cons, List.any_cons, ih, pr_beq, List.contains_cons]; congr 1; exact Bool.beq_comm
  have h2 : ∀ l : List (Nat × Nat), ((l.map fun p => pr (p.2, p.1)).any (· == (⟨#[x, y]⟩ : Str))) = l.contains (y, x) := by
    intro l
    induction l with
    | nil => rfl
    | cons a l ih =>
      rw [List.map_cons, List.any_cons, ih, pr_beq, List.contains_cons]
      congr 1
      obtain ⟨a1, a2⟩ := a
      by_cases h : (a2, a1) = (x, y)
      · cases h; simp
      · rw [beq_eq_false_iff_ne.mpr h, beq_eq_false_iff_ne.mpr fun e => h (by cases e; rfl)]
  rw [h1, h2]
theorem Walks.bnd_ {w : World} {A : Around} {I : Addr} {fp wr : List Addr} {n : Nat} {P : Nat → Value → Prop} {S : Nat → Heap → Prop} (W : Walks pw w A I fp wr n P S) : Walks pw w A I fp wr n (fun i v => i < n ∧ P i v) S :=
  ⟨W.sub, W.frame, fun i s Q E hi st hQ => W.item i s Q E hi st fun v h' tk hP => hQ v h' tk ⟨hi, hP⟩, W.done, W.self⟩
theorem Wk.bnd_ {w : World} {A : Around} {xv : Value} {n : Nat} {P : Nat → Value → Prop} {s : Shared} (h : Wk w A xv n P s) : Wk w A xv n (fun i v => i < n ∧ P i v) s :=
  wpAny_mono h (fun it s₂ ⟨I, fp, wr, S, h1, h2, h3, h4, h5, h6⟩ => ⟨I, fp, wr, S, h1, Walks.bnd_ h2, h3, h4, h5, h6⟩) fun _ _ e => e
section
variable {w : World} {A : Around} {b s : Shared} {Q : Flow → Shared → Prop} {L sa : Addr} {items : Array Value} {wl kl pl : Addr} {us ps : List Nat}
theorem strs_paired_filter {q : Nat → Bool} {g : Nat → Str} : ∀ {vs : List Value} {l : List Nat} {ys : List Value}, IntsAre vs (toI l) → Paired (fun v y => ∀ (k : Nat) t, v = Value.int (k : Nat) t → ∃ t', y = Value.str (g k) t') (vs.filter (pI q)) ys → StrsAre ys ((l.filter q).map g)
  | [], [], ys, _, hp => by cases hp; exact .nil
  | v :: vs, n :: l, ys, h, hp => by
    cases h with
    | cons _ t h =>
      rw [List.filter_cons] at hp ⊢
      have e : pI q (.int (n : Nat) t) = q n := by show q ((n : Int).toNat) = q n; rw [Int.toNat_natCast]
      rw [e] at hp
      cases hq : q n with
      | false =>
        rw [hq] at hp
        rw [if_neg (by decide)]
        exact strs_paired_filter h hp
      | true =>
        rw [hq, if_pos rfl] at hp
        rw [if_pos rfl]
        cases hp with
        | cons h1 h2 =>
          obtain ⟨t', rfl⟩ := h1 n t rfl
          exact .cons _ _ (strs_paired_filter h h2)
theorem range_ints : ∀ {vs : List Value} {n : Nat}, vs.length = n → (∀ (j : Nat) (v : Value), vs[j]? = some v → ∃ t, v = Value.int (j : Nat) t) → IntsAre vs (toI (List.range n)) := by
  have : ∀ (l : List Value) (m : Nat), (∀ (j : Nat) (v : Value), l[j]? = some v → ∃ t, v = Value.int ((m + j : Nat) : Int) t) → IntsAre l (toI ((List.range l.length).map (m + ·))) := by
    intro l
    induction l with
    | nil => intro m _; exact .nil
    | cons a l ih =>
      intro m hg
      obtain ⟨t, e⟩ := hg 0 a rfl
      subst e
      have := ih (m + 1) fun j v e => by
        obtain ⟨t, e'⟩ := hg (j + 1) v (by simpa using e)
        exact ⟨t, by rw [e']; congr 2; omega⟩
      rw [List.length_cons, List.range_succ_eq_map]
      simp only [List.map_cons, List.map_map, Nat.add_zero, toI] at this ⊢
      refine .cons _ _ ?_
      have e2 : (fun n : Nat => (n : Int)) ∘ ((fun x => m + x) ∘ Nat.succ) = (fun n : Nat => (n : Int)) ∘ fun x => m + 1 + x := by
        funext x; simp [Function.comp]; omega
      rw [e2]
      exact this
  intro vs n hn hg
  subst hn
  have h2 := this vs 0 fun j v e => by
    obtain ⟨t, e'⟩ := hg j v e
    exact ⟨t, by rw [e']; congr 2; omega⟩
  simpa using h2
noncomputable def mulPair (l : List (Nat × Nat)) : List Str := l.map pr
theorem strs_map_paired {f : Nat × Nat → Str} : ∀ {l : List (Nat × Nat)} {vs ys : List Value}, StrsAre vs (l.map pr) → Paired (fun v y => ∀ p t, v = Value.str (pr p) t → ∃ t', y = Value.str (f p) t') vs ys → StrsAre ys (l.map f)
  | [], _, _, h, hp => by cases h; cases hp; exact .nil
  | a :: l, _, _, h, hp => by
    cases h with
    | cons _ t h =>
      cases hp with
      | cons h1 h2 =>
        obtain ⟨t', rfl⟩ := h1 a t rfl
        exact .cons _ _ (strs_map_paired h h2)
theorem stB (T : YP w b.heap) (f : Fresh (eL L) b) (R : Room A 12) (x : Ext b s) (F : Fm (eL L) [("places", .ref pl), ("kinds", .ref kl), ("word", .ref wl), ("script", .ref sa)] s) (hS : b.heap.IsList sa items) (hI : ∀ v ∈ items.toList, ∃ n t, v = Value.int n t) (hz : items.size ≤ 1000)
    (hw : Strs s.heap wl (us.map sg)) (hk : Strs s.heap kl ((us.map kd).map sg)) (hp : Nats s.heap pl ps) (h5 : us.length = 5)
    (h : ∀ (s' : Shared) (da tl bl : Addr) (tied : List (Nat × Nat)), Ext b s' → Fm (eL L) [("bound", .ref bl), ("tied", .ref tl), ("drawn", .ref da), ("places", .ref pl), ("word", .ref wl)] s' → Strs s'.heap wl (us.map sg) → Nats s'.heap pl ps →
      Drw w s'.heap da us → ¬ Own (eL L) da → Tied tied → Strs s'.heap tl (tied.map pr) → Strs s'.heap bl (bndS tied) → WP w A (execs (lawTail 9) (eL L)) Q s') :
    WP w A (execs (lawTail 4) (eL L)) Q s := by
  unfold lawTail at h ⊢
  conv in (List.drop 4 (fnB (top 26))) => whnf
  refine wpAny_execs_cons (wpAny_Assign_Name ?_ (by kernel_rfl!))
  have T₀ := T.keeps x
  refine c1t (T := "dict") (fun Q' q => eB T₀ (by kernel_rfl!) (by kernel_rfl!) q) ?_
  refine Call_Name2 (eB (v := .type "zip") T₀ (by kernel_rfl!) (by kernel_rfl!) ?_) (by kernel_rfl!)
  refine PyProof.Rows.callWith_type rfl (Calls.evalArgs_plain (Calls.spliced_cons (eN F.rd (lk_next (by kernel_rfl!) (lk_next (by kernel_rfl!) lk_here)) (Calls.spliced_cons (eN F.rd (lk_next (by kernel_rfl!) lk_here) (Calls.spliced_nil ?_))))))
  refine dictZip R.hd hw hk (by omega) (by omega) fun da s₁ x₁ fda hda => ?_
  have F₁ := F.keeps x₁
  refine sN F₁ fun s₂ x₂ F₂ => ?_
  dsimp only
  have e₁ := x.trans x₁
  have e₂ : Ext b s₂ := e₁.step x₂ f
  have w₂ := (hw.keeps x₁).step F₁ x₂
  have p₂ := (hp.keeps x₁).step F₁ x₂
  have nda : ¬ Own (eL L) da := F.not_own fda
  have d₂ : Drw w s₂.heap da us := hda.kp fun o e => x₂.keep _ _ nda e
  clear hw hk hp hda
  refine wpAny_execs_cons (wpAny_Assign_Name (wpAny_BinOp (wpAny_Constant_int ?_)) (by kernel_rfl!))
  have F₃ := F₂.keeps (Ext.toks s₂ (s₂.toks + 1))
  have e₃ := e₂.trans (Ext.toks s₂ (s₂.toks + 1))
  refine sumMod R.hd (fun s' Q' T' q => eB T' (by kernel_rfl!) (by kernel_rfl!) q) (T.keeps e₃) (F₃.rd.sub sub_nil) ?_ fun z tz s₄ x₄ => ?_
  · refine subL3 (eN F₃.rd (lk_next (by kernel_rfl!) (lk_next (by kernel_rfl!) (lk_next (by kernel_rfl!) (lk_next (by kernel_rfl!) lk_here)))) (wpAny_evalPart_some (wpAny_Constant_int (wpAny_evalPart_some (wpAny_Constant_int (wpAny_evalPart_some (wpAny_Constant_int ?_)))))))
    refine ⟨sa, items, some 5, some 24, some 6, rfl, hS.at fun o e => e₃.keep _ _ e, Nat.le_trans hz (by decide +kernel), .int _ _, .int _ _, .int _ _, by decide, fun Dl s' x' fD hD => ?_⟩
    exact ⟨Dl, _, ((Ext.toks _ _).trans ((Ext.toks _ _).trans (Ext.toks _ _))).trans x', rfl, hD.isList, Nat.le_trans (slicePick_size_le _ _ _ _) hz, fun v hv => hI v (slice_mem hv)⟩
  refine add_int ?_
  have y₅ : Ext s₂ { s₄ with toks := s₄.toks + 1 } := ((Ext.toks s₂ (s₂.toks + 1)).trans x₄).trans (Ext.toks _ _)
  generalize hs5 : ({ s₄ with toks := s₄.toks + 1 } : Shared) = s₅ at y₅ ⊢
  clear hs5
  generalize hties : 41 + z = ties
  refine sN (F₂.keeps y₅) fun s₆ x₆ F₆ => ?_
  dsimp only
  have e₆ : Ext b s₆ := (e₂.trans y₅).step x₆ f
  have w₆ := (w₂.keeps y₅).step (F₂.keeps y₅) x₆
  have p₆ := (p₂.keeps y₅).step (F₂.keeps y₅) x₆
  have d₆ : Drw w s₆.heap da us := d₂.kp fun o e => x₆.keep _ _ nda (y₅.keep _ _ e)
  refine wpAny_execs_cons (wpAny_Assign_Name (List_ (args_cons (wpAny_Constant_str ?_) (by kernel_rfl!))) (by kernel_rfl!))
  refine args_cons (wpAny_Constant_str ?_) (by kernel_rfl!)
  refine args_cons (wpAny_Constant_str ?_) (by kernel_rfl!)
  refine args_cons (wpAny_Constant_str ?_) (by kernel_rfl!)
  refine args_cons (wpAny_Constant_str ?_) (by kernel_rfl!)
  refine args_cons (wpAny_Constant_str ?_) (by kernel_rfl!)
  refine args_nil (wpAny_newList ?_)
  have fpr := fresh_at s₆
  generalize hs7 : ({ heap := s₆.heap.push _, gens := s₆.gens, drawn := s₆.drawn, toks := _, os := s₆.os } : Shared) = s₇
  have x₇ : Ext s₆ s₇ := by subst hs7; exact ⟨fun _ _ e => Heap.get?_push_of_some _ e, rfl, rfl, rfl⟩
  have l₇ : Strs s₇.heap s₆.heap.objs.size (pairs6.map pr) := by
    subst hs7
    exact ⟨_, ⟨_, Heap.get?_push_size _ rfl⟩, .cons _ _ (.cons _ _ (.cons _ _ (.cons _ _ (.cons _ _ (.cons _ _ .nil)))))⟩
  generalize s₆.heap.objs.size = pa at fpr l₇ ⊢
  clear hs7
  have F₇ := F₆.keeps x₇
  refine sN F₇ fun s₈ x₈ F₈ => ?_
  dsimp only
  have e₈ : Ext b s₈ := (e₆.trans x₇).step x₈ f
  have l₈ := l₇.step F₇ x₈
  have w₈ := (w₆.keeps x₇).step F₇ x₈
  have p₈ := (p₆.keeps x₇).step F₇ x₈
  have d₈ : Drw w s₈.heap da us := d₆.kp fun o e => x₈.keep _ _ nda (x₇.keep _ _ e)
  refine wpAny_execs_cons (wpAny_Assign_Name (wpAny_BinOp (List_ (args_cons (wpAny_Constant_str ?_) (by kernel_rfl!)))) (by kernel_rfl!))
  refine args_cons (wpAny_Constant_str ?_) (by kernel_rfl!)
  refine args_cons (wpAny_Constant_str ?_) (by kernel_rfl!)
  refine args_cons (wpAny_Constant_str ?_) (by kernel_rfl!)
  refine args_nil (wpAny_newList ?_)
  generalize hs9 : ({ heap := s₈.heap.push _, gens := s₈.gens, drawn := s₈.drawn, toks := _, os := s₈.os } : Shared) = s₉
  have x₉ : Ext s₈ s₉ := by subst hs9; exact ⟨fun _ _ e => Heap.get?_push_of_some _ e, rfl, rfl, rfl⟩
  have l₉ : Strs s₉.heap s₈.heap.objs.size (base4.map pr) := by
    subst hs9
    exact ⟨_, ⟨_, Heap.get?_push_size _ rfl⟩, .cons _ _ (.cons _ _ (.cons _ _ (.cons _ _ .nil)))⟩
  generalize s₈.heap.objs.size = b4 at l₉ ⊢
  clear hs9
  have F₉ := F₈.keeps x₉
  have e₉ := e₈.trans x₉
  have l₈' := l₈.keeps x₉
  have w₉ := w₈.keeps x₉
  have p₉ := p₈.keeps x₉
  have d₉ : Drw w s₉.heap da us := d₈.kp fun o e => x₉.keep _ _ e
  have hib : Builtin.Int.intBits 2 = 2 := by decide +kernel
  have h2k : ∀ k < 6, ((2 : Int) ^ k ≠ 0 ∧ ((2 : Int) ^ k).natAbs < 1073741824) := by decide +kernel
  refine lC (pI fun k => ((ties.fdiv (2 ^ k)).fmod 2 == 1)) (fun v y => ∀ (k : Nat) t, v = Value.int (k : Nat) t → ∃ t', y = Value.str (pr (pairs6.getD k (0, 0))) t') (F₉.rd.sub (l' := [("pairs", .ref pa), ("ties", .int ties (s₄.toks))]) ?_) ?_
  · exact sub_cons lk_here (sub_cons (lk_next (by kernel_rfl!) lk_here) sub_nil)
  refine c1t (T := "range") (fun Q' q => eB (T.keeps e₉) (by kernel_rfl!) (by kernel_rfl!) q) (wpAny_Constant_int (rangeC fun rg s₁₀ ta tb tc x₁₀ frg hrg => ?_))
  have y₁₀ : Ext s₉ s₁₀ := (Ext.toks _ _).trans x₁₀
  obtain ⟨pvs, ppl, pst⟩ := l₈'
  refine ⟨6, _, y₁₀, Wk.bnd_ (wk2_range (n := 6) R.hd hrg (by decide)).wk, by decide +kernel, fun C i v s₁₁ hv k₁₁ F₁₁ => ?_, fun C i v s₁₁ hv _ k₁₁ F₁₁ => ?_, fun D2 ys s₁₁ vs hD hD2 hvn hvs hP₁₁ x₁₁ => ?_⟩
  · obtain ⟨hi6, tk, rfl⟩ := hv
    refine ct1 (wpAny_isTrue_Compare1 (wpAny_BinOp (wpAny_BinOp (eN F₁₁ (lk_next (by kernel_rfl!) (lk_next (by kernel_rfl!) lk_here)) (wpAny_BinOp (wpAny_Constant_int (eN (F₁₁.keeps (s' := { s₁₁ with toks := s₁₁.toks + 1 }) (Ext.toks _ _)) lk_here (pow_int (by omega) (by rw [hib]; omega) ?_))))))) (by kernel_rfl!))
    obtain ⟨hne, hlt⟩ := h2k i hi6
    refine floordiv_int (by rw [Int.toNat_natCast]; exact hne) (wpAny_Constant_int (mod_int' (by decide) (wpAny_Constant_int (eq_int (wpAny_truthy_bool ⟨rfl, ?_⟩))))) (Or.inl (PyProof.noPylong_small (by rw [Int.toNat_natCast]; exact hlt)))
    exact ((((Ext.toks _ _).trans (Ext.toks _ _)).trans ((Ext.toks _ _).trans (Ext.toks _ _))).trans ((Ext.toks _ _).trans (Ext.toks _ _)))
  · obtain ⟨hi6, tk, rfl⟩ := hv
    refine Subscript_ (eN F₁₁ (lk_next (by kernel_rfl!) lk_here) (eN F₁₁ lk_here (item_strsA ((ppl.at fun o e => y₁₀.keep _ _ e).at fun o e => k₁₁ _ o e).isList pst (by omega) (by show (i : Int) < 6; omega) (by omega) fun t' => ⟨fun k t e => ?_, Ext.refl _⟩)))
    have ek : i = k := by injection e with e _; omega
    subst ek
    refine ⟨t', ?_⟩
    rw [Int.toNat_natCast]
    have : ∀ k < 6, (pairs6.map pr).getD k Str.empty = pr (pairs6.getD k (0, 0)) := by decide +kernel
    rw [this i hi6]
  · have hri := range_ints hvn (fun j v e => (hvs j v e).2)
    have hst := strs_paired_filter hri hP₁₁
    have y₁₁ := y₁₀.trans x₁₁
    obtain ⟨bvs, bpl, bst⟩ := l₉
    have hbz : bvs.length = 4 := strs_len bst
    have hyz : ys.size ≤ 6 := by
      have := strs_len hst
      rw [List.length_map] at this
      have h2 := List.length_filter_le (fun k => ((ties.fdiv (2 ^ k)).fmod 2 == 1)) (List.range 6)
      rw [List.length_range] at h2
      have e : ys.toList.length = ys.size := by simp
      omega
    refine addL (bpl.at fun o e => y₁₁.keep _ _ e).isList hD2.isList (by simp; omega) fun tl s₁₂ x₁₂ ftl htl => ?_
    have y₁₂ := y₁₁.trans x₁₂
    generalize htd : tiedOf (fun k => ((ties.fdiv (2 ^ k)).fmod 2 == 1)) = tied
    have hTd : Tied tied := by rw [← htd]; exact tied_of _
    have ht₁₂ : Strs s₁₂.heap tl (tied.map pr) := by
      refine ⟨bvs ++ ys.toList, ?_, ?_⟩
      · have e : (bvs ++ ys.toList).toArray = bvs.toArray ++ ys := by simp
        rw [e]; exact htl
      rw [← htd]
      unfold tiedOf
      rw [List.map_append, List.map_map]
      exact StrsAre.append bst hst
    have F₁₂ := F₉.keeps y₁₂
    refine sN F₁₂ fun s₁₃ x₁₃ F₁₃ => ?_
    dsimp only
    have e₁₃ : Ext b s₁₃ := (e₉.trans y₁₂).step x₁₃ f
    have w₁₃ := (w₉.keeps y₁₂).step F₁₂ x₁₃
    have p₁₃ := (p₉.keeps y₁₂).step F₁₂ x₁₃
    have t₁₃ := ht₁₂.step F₁₂ x₁₃
    have d₁₃ : Drw w s₁₃.heap da us := d₉.kp fun o e => x₁₃.keep _ _ nda (y₁₂.keep _ _ e)
    refine wpAny_execs_cons (wpAny_Assign_Name (wpAny_BinOp (eN F₁₃.rd lk_here ?_)) (by kernel_rfl!))
    refine lC (fun _ => true) (fun v y => ∀ p t, v = Value.str (pr p) t → ∃ t', y = Value.str (pr (p.2, p.1)) t') (F₁₃.rd.sub sub_nil) ?_
    obtain ⟨tvs, tpl, tst⟩ := t₁₃
    have htz : tvs.length ≤ 10 := by
      have := strs_len tst
      rw [List.length_map] at this
      have := hTd.len
      omega
    refine eN F₁₃.rd lk_here ⟨_, _, Ext.refl _, (wk2_list R.hd tpl.isList).wk, Nat.le_trans (show tvs.toArray.size ≤ 1000 by simp; omega) (by decide +kernel), fun C i v s₁₄ hv k₁₄ F₁₄ => ct0 ⟨rfl, Ext.refl _⟩, fun C i v s₁₄ hv _ k₁₄ F₁₄ => ?_, fun D3 zs s₁₄ vs₂ hD3 hzs hvn₂ hvs₂ hP₁₄ x₁₄ => ?_⟩
    · obtain ⟨y, ty, rfl, hy⟩ := strs_get tst i v (by simpa using hv)
      obtain ⟨p, hp, rfl⟩ : ∃ p, tied[i]? = some p ∧ pr p = y := by simpa using hy
      refine wpAny_BinOp (subA (eN F₁₄ lk_here (wpAny_Constant_int ⟨"str", _, typeIs_str _ _ _, PySem.F.slot_str_getitem.lookup, P.getItem_str (c := p.2) (by decide) (by rfl) ?_⟩)))
      have F₁₅ := F₁₄.keeps (s := s₁₄) (s' := { s₁₄ with toks := s₁₄.toks + 1 + 1 }) (Ext.toks _ _)
      refine subA (eN F₁₅ lk_here (wpAny_Constant_int ⟨"str", _, typeIs_str _ _ _, PySem.F.slot_str_getitem.lookup, P.getItem_str (c := p.1) (by decide) (by rfl) ?_⟩))
      refine SB.add (fun t' k => ⟨fun p' t e => ⟨t', ?_⟩, (((Ext.toks _ _).trans (Ext.toks _ _)).trans ((Ext.toks _ _).trans (Ext.toks _ _))).trans (Ext.toks _ _)⟩) (by show 1 + 1 ≤ sizeLine; decide +kernel)
      have : p = p' := by
        have e : pr p = pr p' := by injection e
        have h1 := pr_beq p p'.1 p'.2
        have h2 : (⟨#[p'.1, p'.2]⟩ : Str) = pr p' := rfl
        rw [h2, e, beq_self_eq_true] at h1
        exact eq_of_beq h1.symm
      subst this
      rfl
    · have hvs' : vs₂ = tvs := by
        have := list_of_places hvn₂ hvs₂
        simpa using this
      subst hvs'
      rw [List.filter_eq_self.mpr (fun _ _ => rfl)] at hP₁₄
      have zst := strs_map_paired tst hP₁₄
      have zz : zs.size ≤ 10 := by
        have := strs_len zst
        rw [List.length_map] at this
        have := hTd.len
        have e : zs.toList.length = zs.size := by simp
        omega
      refine addL (tpl.at fun o e => x₁₄.keep _ _ e).isList hzs.isList (by simp; omega) fun bl s₁₅ x₁₅ fbl hbl => ?_
      have hb₁₅ : ∀ bl (s₁₅ : Shared), s₁₅.heap.PlainList bl (vs₂.toArray ++ zs) → Strs s₁₅.heap bl (bndS tied) := fun bl s₁₅ hbl => by
        have e : (vs₂ ++ zs.toList).toArray = vs₂.toArray ++ zs := by simp
        exact ⟨vs₂ ++ zs.toList, by rw [e]; exact hbl, StrsAre.append tst zst⟩
      have y₁₅ := x₁₄.trans x₁₅
      have F₁₅ := F₁₃.keeps y₁₅
      refine sN F₁₅ fun s₁₆ x₁₆ F₁₆ => ?_
      dsimp only
      refine h s₁₆ da tl bl tied ((e₁₃.trans y₁₅).step x₁₆ f) (F₁₆.sub (sub_cons lk_here (sub_cons (lk_next (by kernel_rfl!) lk_here) (sub_cons (lk_next (by kernel_rfl!) (lk_next (by kernel_rfl!) (lk_next (by kernel_rfl!) (lk_next (by kernel_rfl!) lk_here)))) (sub_cons (lk_next (by kernel_rfl!) (lk_next (by kernel_rfl!) (lk_next (by kernel_rfl!) (lk_next (by kernel_rfl!) (lk_next (by kernel_rfl!) lk_here))))) (sub_cons (lk_next (by kernel_rfl!) (lk_next (by kernel_rfl!) (lk_next (by kernel_rfl!) (lk_next (by kernel_rfl!) (lk_next (by kernel_rfl!) (lk_next (by kernel_rfl!) (lk_next (by kernel_rfl!) lk_here))))))) sub_nil)))))) ((w₁₃.keeps y₁₅).step F₁₅ x₁₆) ((p₁₃.keeps y₁₅).step F₁₅ x₁₆)
        (d₁₃.kp fun o e => x₁₆.keep _ _ nda (y₁₅.keep _ _ e)) nda hTd (Strs.step ⟨vs₂, tpl.at fun o e => y₁₅.keep _ _ e, tst⟩ F₁₅ x₁₆) (Strs.step (hb₁₅ bl s₁₅ hbl) F₁₅ x₁₆)
end
end Mine
end
section
open PySem PySem.W PySem.Calls PyProof.Rows PySem.W.X PySem.W.XRun PySem.SeqAt
set_option Elab.async false
set_option maxRecDepth 100000
set_option maxHeartbeats 0
set_option linter.unusedVariables false
namespace Mine
theorem swap_perm (m : List Nat) (k : Nat) (hk : 0 < k) (hl : k < m.length) (a b : Nat) (ha : m[k]? = some a) (hb : m[k - 1]? = some b) :
    m.Perm ((m.take (k - 1) ++ [a, b]) ++ m.drop (k + 1)) := by
  have e : m = (m.take (k - 1) ++ [b, a]) ++ m.drop (k + 1) := by
    have h1 : m.drop (k - 1) = b :: m.drop k := by
      obtain ⟨h, e⟩ := List.getElem?_eq_some_iff.mp hb
      rw [List.drop_eq_getElem_cons h, e, Nat.sub_add_cancel hk]
    have h2 : m.drop k = a :: m.drop (k + 1) := by
      obtain ⟨h, e⟩ := List.getElem?_eq_some_iff.mp ha
      rw [List.drop_eq_getElem_cons h, e]
    conv => lhs; rw [← List.take_append_drop (k - 1) m, h1, h2]
    simp
  conv => lhs; rw [e]
  exact List.Perm.append_right _ (List.Perm.append_left _ (List.Perm.swap a b []))
section
variable {w : World} {A : Around} {s : Shared} {Q : Flow → Shared → Prop} {L wl pl da tl bl : Addr} {us ps : List Nat}
theorem stC (R : Room A 12) (F : Fm (eL L) [("bound", .ref bl), ("tied", .ref tl), ("drawn", .ref da), ("places", .ref pl), ("word", .ref wl)] s)
    (hw : Strs s.heap wl (us.map sg)) (hp : Nats s.heap pl ps) (h5 : us.length = 5) (hpl : ps.length = 5) (hps : ∀ p ∈ ps, p < 5)
    (h : ∀ (s' : Shared) (ml : Addr) (mv : List Nat), Mv (Own (eL L)) s s' → Fm (eL L) [("moved", .ref ml), ("bound", .ref bl), ("tied", .ref tl), ("drawn", .ref da), ("word", .ref wl)] s' → Strs s'.heap ml (mv.map sg) →
      us.Perm mv → WP w A (execs (lawTail 11) (eL L)) Q s') :
    WP w A (execs (lawTail 9) (eL L)) Q s := by
  unfold lawTail at h ⊢
  conv in (List.drop 9 (fnB (top 26))) => whnf
  refine wpAny_execs_cons (wpAny_Assign_Name ?_ (by kernel_rfl!))
  obtain ⟨wvs, wpl, wst⟩ := hw
  have wz : wvs.length = 5 := by have := strs_len wst; rw [List.length_map] at this; omega
  refine subL3 (eN F.rd (lk_next (by kernel_rfl!) (lk_next (by kernel_rfl!) (lk_next (by kernel_rfl!) (lk_next (by kernel_rfl!) lk_here)))) (wpAny_evalPart_none (wpAny_evalPart_none (wpAny_evalPart_none ⟨wl, _, none, none, none, rfl, wpl.isList, Nat.le_trans (show wvs.toArray.size ≤ 1000 by simp; omega) (by decide +kernel), .none, .none, .none, by decide, fun ml s₁ x₁ fm hm => ?_⟩))))
  rw [slicePick_all] at hm
  have F₁ := F.keeps x₁
  refine sN F₁ fun s₂ x₂ F₂ => ?_
  dsimp only
  have m₂ : Mv (Own (eL L)) s s₂ := x₁.mv.trans (x₂.mv fun _ h => h)
  have mm₂ : Strs s₂.heap ml (us.map sg) := Strs.step ⟨wvs, hm, wst⟩ F₁ x₂
  obtain ⟨pvs, ppl, pst⟩ := (hp.keeps x₁).step F₁ x₂
  have pz : pvs.length = 5 := by have := ints_len pst; unfold toI at this; rw [List.length_map] at this; omega
  refine wpAny_execs_cons (forL (Own (eL L)) (fun i st => ∃ ml mv, Fm (eL L) [("moved", .ref ml), ("bound", .ref bl), ("tied", .ref tl), ("drawn", .ref da), ("word", .ref wl)] st ∧ Strs st.heap ml (mv.map sg) ∧ us.Perm mv) (eN F₂.rd (lk_next (by kernel_rfl!) (lk_next (by kernel_rfl!) (lk_next (by kernel_rfl!) (lk_next (by kernel_rfl!) lk_here)))) ?_))
  refine ⟨_, _, _, wk2_list R.hd ppl, fun b hb => ⟨by rw [List.mem_singleton]; exact fun z => list_own F₂ ppl (z ▸ hb), F₂.own hb⟩,
    ⟨ml, us, F₂.sub (sub_cons lk_here (sub_cons (lk_next (by kernel_rfl!) lk_here) (sub_cons (lk_next (by kernel_rfl!) (lk_next (by kernel_rfl!) lk_here)) (sub_cons (lk_next (by kernel_rfl!) (lk_next (by kernel_rfl!) (lk_next (by kernel_rfl!) lk_here))) (sub_cons (lk_next (by kernel_rfl!) (lk_next (by kernel_rfl!) (lk_next (by kernel_rfl!) (lk_next (by kernel_rfl!) (lk_next (by kernel_rfl!) lk_here))))) sub_nil))))), mm₂, .refl _⟩, fun i s' s'' ⟨ml, mv, j1, j2, j3⟩ k => ⟨ml, mv, j1.kt k, j2.kt k, j3⟩, fun i v s₃ hi hP m₃ j => ?_, fun s₃ m₃ j => ?_⟩
  · obtain ⟨ml, mv, jF, jM, jp⟩ := j
    obtain ⟨k, tk, rfl, hk⟩ := nats_get pst i v (by simpa using hP)
    have hk5 := hps k (List.mem_of_getElem? hk)
    have mz : mv.length = 5 := by rw [← jp.length_eq]; exact h5
    refine wpAny_assign_Name (sN jF fun s₄ x₄ F₄ => ?_)
    obtain ⟨mvs, mpl, mst⟩ := jM.step jF x₄
    have mvz : mvs.length = 5 := by have := strs_len mst; rw [List.length_map] at this; omega
    refine wpAny_execs_cons (WIf (wpAny_isTrue_Compare1 (eN F₄.rd lk_here (wpAny_Constant_int (gt_int (wpAny_truthy_bool ⟨fun hc => ?_, fun hc => ?_⟩)))) (by kernel_rfl!)))
    · have hk0 : 0 < k := by have := of_decide_eq_true hc; omega
      have y₅ : Ext s₄ { s₄ with toks := s₄.toks + 1 } := Ext.toks _ _
      generalize hs5 : ({ s₄ with toks := s₄.toks + 1 } : Shared) = s₅ at y₅ ⊢
      clear hs5
      have F₅ := F₄.keeps y₅
      have mpl₅ := mpl.at fun o e => y₅.keep _ _ e
      refine wpAny_execs_cons (wpAny_Assign_Name (wpAny_BinOp (wpAny_BinOp ?_)) (by kernel_rfl!))
      have e1 : ((k : Nat) : Int) - 1 = ((k - 1 : Nat) : Int) := by omega
      refine subLS (eN F₅.rd (lk_next (by kernel_rfl!) lk_here) (wpAny_evalPart_none (wpAny_evalPart_some (wpAny_BinOp (eN F₅.rd lk_here (wpAny_Constant_int (sub_int ⟨ml, _, none, some ((k : Nat) - 1), rfl, mpl₅.isList, Nat.le_trans (show mvs.toArray.size ≤ 1000 by simp; omega) (by decide +kernel), .none, .int _ _, fun D1 s₆ x₆ fD1 hD1 => ?_⟩)))))))
      rw [e1, slicePick_upto'] at hD1
      have y₆ : Ext s₅ s₆ := ((Ext.toks s₅ _).trans (Ext.toks _ _)).trans x₆
      have F₆ := F₅.keeps y₆
      have mpl₆ := mpl₅.at fun o e => y₆.keep _ _ e
      obtain ⟨a, ha⟩ : ∃ a, mv[k]? = some a := ⟨_, List.getElem?_eq_getElem (by omega)⟩
      obtain ⟨b, hb⟩ : ∃ b, mv[k - 1]? = some b := ⟨_, List.getElem?_eq_getElem (by omega)⟩
      have ga : (mv.map sg).getD k Str.empty = sg a := by simp [List.getD, ha]
      have gb : (mv.map sg).getD (k - 1) Str.empty = sg b := by simp [List.getD, hb]
      refine List_ (args_cons (Subscript_ (eN F₆.rd (lk_next (by kernel_rfl!) lk_here) (eN F₆.rd lk_here (item_strsA mpl₆.isList mst (by omega) (by rw [List.length_map]; omega) (by omega) fun t₁ => ?_)))) (by kernel_rfl!))
      rw [Int.toNat_natCast, ga]
      refine args_cons (Subscript_ (eN F₆.rd (lk_next (by kernel_rfl!) lk_here) (wpAny_BinOp (eN F₆.rd lk_here (wpAny_Constant_int (sub_int (item_strsA (mpl₆.at fun o e => e).isList mst (by omega) (by rw [List.length_map]; omega) (by omega) fun t₂ => ?_))))))) (by kernel_rfl!)
      have e2 : (((k : Nat) : Int) - 1).toNat = k - 1 := by omega
      rw [e2, gb]
      refine args_nil (wpAny_newList ?_)
      generalize hs7 : ({ heap := s₆.heap.push _, gens := s₆.gens, drawn := s₆.drawn, toks := _, os := s₆.os } : Shared) = s₇
      have x₇ : Ext s₆ s₇ := by subst hs7; exact ⟨fun _ _ e => Heap.get?_push_of_some _ e, rfl, rfl, rfl⟩
      have l₇ : s₇.heap.PlainList s₆.heap.objs.size #[.str (sg a) t₁, .str (sg b) t₂] := by
        subst hs7
        exact ⟨_, Heap.get?_push_size _ rfl⟩
      generalize s₆.heap.objs.size = D2 at l₇ ⊢
      clear hs7
      refine addL (hD1.at fun o e => x₇.keep _ _ e).isList l₇.isList (by simp; omega) fun D3 s₈ x₈ fD3 hD3 => ?_
      have y₈ := (y₆.trans x₇).trans x₈
      have F₈ := F₅.keeps y₈
      have mpl₈ := mpl₅.at fun o e => y₈.keep _ _ e
      refine subLS (eN F₈.rd (lk_next (by kernel_rfl!) lk_here) (wpAny_evalPart_some (wpAny_BinOp (eN F₈.rd lk_here (wpAny_Constant_int (add_int (wpAny_evalPart_none ⟨ml, _, some ((k : Nat) + 1), none, rfl, mpl₈.isList, Nat.le_trans (show mvs.toArray.size ≤ 1000 by simp; omega) (by decide +kernel), .int _ _, .none, fun D4 s₉ x₉ fD4 hD4 => ?_⟩)))))))
      have ek : ((k : Nat) : Int) + 1 = ((k + 1 : Nat) : Int) := by push_cast; rfl
      rw [ek, slicePick_from'] at hD4
      have x₉' : Ext s₈ s₉ := ((Ext.toks s₈ _).trans (Ext.toks _ _)).trans x₉
      refine addL (hD3.at fun o e => x₉'.keep _ _ e).isList hD4.isList (by simp; omega) fun mb s₁₀ x₁₀ fmb hmb => ?_
      have y₁₀ := (y₈.trans x₉').trans x₁₀
      have F₁₀ := F₅.keeps y₁₀
      refine sN F₁₀ fun s₁₁ x₁₁ F₁₁ => ?_
      dsimp only
      refine wpAny_execs_nil ?_
      dsimp only
      refine wpAny_execs_nil ?_
      dsimp only
      refine ⟨((x₄.mv fun _ h => h).trans (y₅.trans y₁₀).mv).trans (x₁₁.mv fun _ h => h), mb, (mv.take (k - 1) ++ [a, b]) ++ mv.drop (k + 1), F₁₁.sub (sub_cons lk_here (sub_cons (lk_next (by kernel_rfl!) (lk_next (by kernel_rfl!) (lk_next (by kernel_rfl!) lk_here))) (sub_cons (lk_next (by kernel_rfl!) (lk_next (by kernel_rfl!) (lk_next (by kernel_rfl!) (lk_next (by kernel_rfl!) lk_here)))) (sub_cons (lk_next (by kernel_rfl!) (lk_next (by kernel_rfl!) (lk_next (by kernel_rfl!) (lk_next (by kernel_rfl!) (lk_next (by kernel_rfl!) lk_here))))) (sub_cons (lk_next (by kernel_rfl!) (lk_next (by kernel_rfl!) (lk_next (by kernel_rfl!) (lk_next (by kernel_rfl!) (lk_next (by kernel_rfl!) (lk_next (by kernel_rfl!) lk_here)))))) sub_nil))))), ?_, ?_⟩
      · refine Strs.step ⟨(mvs.take (k - 1) ++ [.str (sg a) t₁, .str (sg b) t₂]) ++ mvs.drop (k + 1), ?_, ?_⟩ F₁₀ x₁₁
        · simpa using hmb
        · rw [List.map_append, List.map_append, List.map_take, List.map_drop]
          exact StrsAre.append (StrsAre.append (strs_take mst _) (.cons _ _ (.cons _ _ .nil))) (strs_drop mst _)
      · exact jp.trans (swap_perm mv k hk0 (by omega) a b ha hb)
    · refine wpAny_execs_nil ?_
      dsimp only
      refine wpAny_execs_nil ?_
      dsimp only
      have F₅ := F₄.keeps (Ext.toks s₄ (s₄.toks + 1))
      exact ⟨(x₄.mv fun _ h => h).trans (Ext.toks _ _).mv, ml, mv, F₅.sub (sub_cons (lk_next (by kernel_rfl!) lk_here) (sub_cons (lk_next (by kernel_rfl!) (lk_next (by kernel_rfl!) lk_here)) (sub_cons (lk_next (by kernel_rfl!) (lk_next (by kernel_rfl!) (lk_next (by kernel_rfl!) lk_here))) (sub_cons (lk_next (by kernel_rfl!) (lk_next (by kernel_rfl!) (lk_next (by kernel_rfl!) (lk_next (by kernel_rfl!) lk_here)))) (sub_cons (lk_next (by kernel_rfl!) (lk_next (by kernel_rfl!) (lk_next (by kernel_rfl!) (lk_next (by kernel_rfl!) (lk_next (by kernel_rfl!) lk_here))))) sub_nil))))), ⟨mvs, mpl.at fun o e => e, mst⟩, jp⟩
  · obtain ⟨ml, mv, jF, jM, jp⟩ := j
    dsimp only
    exact h s₃ ml mv (m₂.trans m₃) jF jM jp
end
end Mine
end
section
open PySem PySem.W PySem.Calls PyProof.Rows PySem.W.X PySem.W.XRun PySem.SeqAt
set_option Elab.async false
set_option maxRecDepth 100000
set_option maxHeartbeats 0
set_option linter.unusedVariables false
namespace Mine
theorem Paired.imp2 {α β : Type} {F G : α → β → Prop} (k : ∀ a b, F a b → G a b) {l : List α} {m : List β} (h : Paired F l m) : Paired G l m := Paired.imp k h
theorem lCcO {w : World} {A : Around} {s : Shared} {env : Env} {elt iter : Expr} {x : Str} {px : Pos} {ifs : List Expr} {scope : Scope} {pos : Pos} {Q : Value → Shared → Prop} {lo : List (Str × Value)}
    (p : Value → Bool) (G : Value → Obj → Prop) (F : Rd env lo s.heap)
    (h : WP w A (eval iter env) (fun xv s₁ => ∃ n P src, Ext s s₁ ∧ Wk2 w A xv n P src s₁ ∧ n ≤ sizeLine ∧
      (∀ C X i v s₂, P i v → Ext s₁ s₂ → Rd (kC scope x C X env) ((x, v) :: lo) s₂.heap → WP w A (compTest ifs (kC scope x C X env)) (fun ok s₃ => ok = p v ∧ Ext s₂ s₃) s₂) ∧
      (∀ C X i v s₂, P i v → p v = true → Ext s₁ s₂ → Rd (kC scope x C X env) ((x, v) :: lo) s₂.heap → WP w A (eval elt (kC scope x C X env)) (fun y s₃ => (∃ T o, y = .ref T ∧ s₂.heap.get? T = none ∧ s₃.heap.get? T = some o ∧ G v o) ∧ Ext s₂ s₃) s₂) ∧
      (∀ D ys s' (vs : List Value), s₁.heap.get? D = none → s'.heap.PlainList D ys → vs.length = n → (∀ j v, vs[j]? = some v → P j v) → Paired (fun v y => ∃ T o, y = .ref T ∧ s₁.heap.get? T = none ∧ s'.heap.get? T = some o ∧ G v o) (vs.filter p) ys.toList → Ext s₁ s' → Q (.ref D) s')) s)
    (hfree : (scope.names.all fun y => !(y.2 == .free) || (env.cells.lookup y.1).isSome) = true := by kernel_rfl!)
    (hkind : scope.kind = .function := by kernel_rfl!)
    (hnames : (scope.names.all fun y => !(y.2 == .local) || (scope.names.lookup y.1 == some .local)) = true := by kernel_rfl!) (hx : scope.names.lookup x = some .cell := by kernel_rfl!)
    (honly : (scope.names.all fun y => !(y.2 == .cell) || y.1 == x) = true := by kernel_rfl!)
    (hcf : ∀ n acc, cellsFrom n scope.names acc = (x, n) :: acc := by intro _ _; rfl) (hpc : ∀ h, pushCells h scope.names = h.push { cls := .type "cell", data := .cell none } := by intro _; rfl)
    (hlo : (lo.all fun e => e.1 == x || !(scope.names.lookup e.1 == some .local)) = true := by kernel_rfl!)
    (hs : ∀ x, foldedSetIterable iter env x = pure x := by intro _; rfl) :
    WP w A (eval (.ListComp elt [⟨.Name x px, iter, ifs, 0⟩] scope pos) env) Q s := by
  have hnm : ∀ y ∈ scope.names, y.2 = .local → scope.names.lookup y.1 = some .local := fun y hy e => by
    have := List.all_eq_true.mp hnames y hy
    rw [e] at this
    exact eq_of_beq this
  unfold WP
  rw [eval_ListComp]
  refine wpAny_comprehension_free (use := none) rfl hs (clo_for hfree) hkind hnm (wpAny_mono h (fun xv s₁ h₁ => ?_) fun _ _ e => e)
  obtain ⟨n, P, src, e₁, Wk, hn, h1, h2, h3⟩ := h₁
  have F₁ := F.keeps e₁
  refine wpAny_mono Wk (fun it s₂ h₂ => ?_) fun _ _ e => e
  obtain ⟨I, fp, wr, St_, rfl, W, st0, hfp, hwr, -, hF, x₂⟩ := h₂
  refine wpAny_newObj_type ?_
  have fD := fresh_at s₂
  generalize hs3 : ({ s₂ with heap := s₂.heap.push { cls := .type "list", dict := none, data := .seq ([] : List Value).toArray } } : Shared) = s₃
  have x₃ : Ext s₂ s₃ := by subst hs3; exact ⟨fun _ _ e => Heap.get?_push_of_some _ e, rfl, rfl, rfl⟩
  have hD₃ : s₃.heap.PlainList s₂.heap.objs.size #[] := by subst hs3; exact ⟨_, Heap.get?_push_size _ rfl⟩
  generalize s₂.heap.objs.size = D at fD hD₃ hfp ⊢
  clear hs3
  have hDs : D < s₃.heap.objs.size := by obtain ⟨n, e⟩ := hD₃; exact Heap.lt_size e
  simp only [newFunctionEnv, Option.isSome_some, if_true]
  refine wpAny_bind (wpAny_alloc ?_)
  refine wpAny_bind (wpAny_layCells _ (fun name kind cells => by cases hkc : kind == NameKind.cell <;> simp [hkc]) _ _ _ _ ?_)
  rw [hcf, hpc]
  refine wpAny_bind (wpAny_pure ?_)
  refine wpAny_pure ?_
  have hCz : ({ s₃ with heap := s₃.heap.push { cls := .type "dict", data := .dict #[] } } : Shared).heap.objs.size = s₃.heap.objs.size + 1 := Heap.size_push ..
  rw [hCz]
  show codeAny (model pw w) A (.compStart (.ListComp elt [⟨.Name x px, iter, ifs, 0⟩] scope pos) 0 (.ref I) (.ref D) (kC scope x s₃.heap.objs.size (s₃.heap.objs.size + 1) env)) (compPost (model pw w) A NoE none Q (.ref D) s₃.heap.objs.size)
    { s₃ with heap := (s₃.heap.push { cls := .type "dict", data := .dict #[] }).push { cls := .type "cell", data := .cell none } }
  generalize hs4 : ({ s₃ with heap := (s₃.heap.push { cls := .type "dict", data := .dict #[] }).push { cls := .type "cell", data := .cell none } } : Shared) = s₄
  have x₄ : Ext s₃ s₄ := by subst hs4; exact ⟨fun _ _ e => Heap.get?_push_of_some _ (Heap.get?_push_of_some _ e), rfl, rfl, rfl⟩
  have hn₄ : s₄.heap.Ns s₃.heap.objs.size fun _ => none := by subst hs4; exact (Heap.Ns.new s₃.heap (.type "dict")).push _
  have hX₄ : s₄.heap.IsCell (s₃.heap.objs.size + 1) none := by
    subst hs4
    refine ⟨{ cls := .type "cell", data := .cell none }, ?_, rfl⟩
    exact push2_at rfl
  have fC := fresh_at s₃
  have fX : s₃.heap.get? (s₃.heap.objs.size + 1) = none := Heap.get?_none_of_le (Nat.le_succ _)
  have hCX : s₃.heap.objs.size ≠ s₃.heap.objs.size + 1 := Nat.ne_of_lt (Nat.lt_succ_self _)
  have hCf : s₃.heap.objs.size ∉ fp := fun hb => Nat.lt_irrefl _ (Nat.lt_trans (hfp _ hb) hDs)
  have hXf : s₃.heap.objs.size + 1 ∉ fp := fun hb => Nat.lt_irrefl _ (Nat.lt_trans (Nat.lt_of_succ_lt (hfp _ hb)) hDs)
  have hDf : D ∉ fp := fun hb => Nat.lt_irrefl _ (hfp _ hb)
  have hDC : D ≠ s₃.heap.objs.size := Nat.ne_of_lt hDs
  have hDX : D ≠ s₃.heap.objs.size + 1 := Nat.ne_of_lt (Nat.lt_succ_of_lt hDs)
  generalize s₃.heap.objs.size + 1 = X at hX₄ fX hCX hXf hDX ⊢
  generalize s₃.heap.objs.size = C at hn₄ fC hCX hCf hDC ⊢
  clear hs4 hCz
  have fD₁ : s₁.heap.get? D = none := none_back x₂ fD
  have fC₁ : s₁.heap.get? C = none := none_back (x₂.trans x₃) fC
  have fX₁ : s₁.heap.get? X = none := none_back (x₂.trans x₃) fX
  have hCw : C ∉ wr := fun h => hCf (W.sub _ h)
  have hXw : X ∉ wr := fun h => hXf (W.sub _ h)
  have hDw : D ∉ wr := fun h => hDf (W.sub _ h)
  have loop : codeAny (model pw w) A (.compLoop (.ListComp elt [⟨.Name x px, iter, ifs, 0⟩] scope pos) 0 (.ref I) (.ref D) (kC scope x C X env)) (compPost (model pw w) A NoE none Q (.ref D) C) s₄ := by
    refine codeAny_compLoop_tests (fun k s' => ∃ m' ys u, ∃ vs : List Value, St_ vs.length s'.heap ∧ s'.heap.PlainList D ys ∧ s'.heap.Ns C m' ∧ s'.heap.IsCell X u ∧ (∀ j v, vs[j]? = some v → P j v) ∧
      Paired (fun v y => ∃ T o, y = .ref T ∧ s₁.heap.get? T = none ∧ T ≠ D ∧ T ≠ C ∧ T ≠ X ∧ T ∉ wr ∧ s'.heap.get? T = some o ∧ G v o) (vs.filter p) ys.toList ∧ vs.length ≤ n ∧ k = n + 1 - vs.length ∧ Ext s₁ s') ?_ (n + 1)
      ⟨_, #[], none, [], W.frame _ _ _ st0 (fun b hb o e => (x₃.trans x₄).keep b o e), hD₃.at fun o e => x₄.keep _ _ e, hn₄, hX₄, by simp, .nil, Nat.zero_le _, rfl, (x₂.trans x₃).trans x₄⟩
    rintro k s' ⟨m', ys, u, vs, st', hD', hn', hX', hP, hG, hi, rfl, x'⟩
    by_cases hlt : vs.length < n
    · refine W.item vs.length _ _ _ hlt st' fun v h₁ tk₁ hPv st₁ hk₁ => ?_
      have kp : ∀ {ha hb : Heap} {vs : List Value} {ys : List Value}, (∀ T o, T ≠ D → T ≠ C → T ≠ X → T ∉ wr → ha.get? T = some o → hb.get? T = some o) →
          Paired (fun v y => ∃ T o, y = .ref T ∧ s₁.heap.get? T = none ∧ T ≠ D ∧ T ≠ C ∧ T ≠ X ∧ T ∉ wr ∧ ha.get? T = some o ∧ G v o) vs ys → Paired (fun v y => ∃ T o, y = .ref T ∧ s₁.heap.get? T = none ∧ T ≠ D ∧ T ≠ C ∧ T ≠ X ∧ T ∉ wr ∧ hb.get? T = some o ∧ G v o) vs ys :=
        fun k h => Paired.imp (fun v y ⟨T, o, e, n0, n1, n2, n3, n4, ho, g⟩ => ⟨T, o, e, n0, n1, n2, n3, n4, k T o n1 n2 n3 n4 ho, g⟩) h
      have y₁ : Ext s₁ { s' with heap := h₁, toks := tk₁ } := ⟨fun b o e => hk₁ b o (fun hb => by rw [hwr b hb] at e; cases e) (x'.keep b o e), x'.gens, x'.drawn, x'.os⟩
      have hX₁ : h₁.IsCell X u := let ⟨o, e, d⟩ := hX'; ⟨o, hk₁ _ _ hXw e, d⟩
      refine wpAny_assign_Name (wpAny_storeName_cell (env := kC scope x C X env) hkind (lk_rl_cell hx) lk_hereA hX₁ fun h₂ hc₂ hs₂ => ?_)
      have nX : ∀ b o, s₁.heap.get? b = some o → b ≠ X := fun b o e z => by rw [z, fX₁] at e; cases e
      have y₂ : Ext s₁ { s' with heap := h₂, toks := tk₁ } := ⟨fun b o e => hs₂.extBut b o (nX b o e) (y₁.keep b o e), y₁.gens, y₁.drawn, y₁.os⟩
      have st₂ : St_ (vs.length + 1) h₂ := W.frame _ _ _ st₁ fun b hb o e => hs₂.extBut b o (fun z => hXf (z ▸ hb)) e
      have hD₂ : h₂.PlainList D ys := hD'.at fun o e => hs₂.extBut _ o hDX (hk₁ _ o hDw e)
      have hn₂ : h₂.Ns C m' := hn'.at' fun o e => hs₂.extBut _ o hCX (hk₁ _ o hCw e)
      have inr : ∀ {s'' : Shared}, Ext ⟨h₂, s'.gens, s'.drawn, tk₁, s'.os⟩ s'' → Rd (kC scope x C X env) ((x, v) :: lo) s''.heap := fun z => ((F₁.keeps y₂).innerC hn₂ hc₂ hx honly hlo).keeps z
      refine wpAny_mono (h1 C X vs.length v _ hPv y₂ (inr (Ext.refl _))) (fun ok s₅ h₅ => ?_) fun _ _ e => e.elim
      obtain ⟨rfl, x₅⟩ := h₅
      have hP' : ∀ j u, (vs ++ [v])[j]? = some u → P j u := fun j u hj => by
        rcases Nat.lt_trichotomy j vs.length with h | h | h
        · exact hP j u (by rwa [List.getElem?_append_left h] at hj)
        · subst h; simp at hj; subst hj; exact hPv
        · have hnone : (vs ++ [v])[j]? = none := List.getElem?_eq_none (by rw [List.length_append, List.length_singleton]; omega)
          rw [hnone] at hj; cases hj
      have hvl : (vs ++ [v]).length = vs.length + 1 := by simp
      have hX₂ : h₂.IsCell X (some v) := hc₂
      have st₅ : St_ (vs.length + 1) s₅.heap := W.frame _ _ _ st₂ fun b hb o e => x₅.keep b o e
      have hG₅ := kp (hb := s₅.heap) (fun T o n1 n2 n3 n4 e => x₅.keep _ _ (hs₂.extBut _ o n3 (hk₁ _ o n4 e))) hG
      cases hpv : p v with
      | false =>
        rw [if_neg (by decide)]
        refine ⟨n + 1 - (vs.length + 1), by omega, m', ys, some v, vs ++ [v], by rw [hvl]; exact st₅, hD₂.at fun o e => x₅.keep _ _ e, hn₂.keeps x₅.keep, hX₂.keeps x₅.keep, hP', ?_, by omega, by omega, y₂.trans x₅⟩
        rw [List.filter_append]; simpa [hpv] using hG₅
      | true =>
        rw [if_pos rfl]
        refine wpAny_mono (h2 C X vs.length v _ hPv hpv (y₂.trans x₅) (inr x₅)) (fun y s₆ h₆ => ?_) fun _ _ e => e.elim
        obtain ⟨⟨Ty, oy, rfl, fTy, hTy, hGy⟩, x₆⟩ := h₆
        have x₅₆ := x₅.trans x₆
        have nD : Ty ≠ D := fun z => by obtain ⟨n, e⟩ := hD₂; rw [z, x₅.keep _ _ e] at fTy; cases fTy
        have nC : Ty ≠ C := fun z => by obtain ⟨o, es, ep, e, r⟩ := hn₂; rw [z, x₅.keep _ _ e] at fTy; cases fTy
        have nX' : Ty ≠ X := fun z => by obtain ⟨o, e, r⟩ := hX₂; rw [z, x₅.keep _ _ e] at fTy; cases fTy
        have nW : Ty ∉ wr := fun z => by obtain ⟨o, e, r⟩ := hF _ _ st₅ _ z; rw [e] at fTy; cases fTy
        have hys : ys.size ≤ sizeLine := by
          have e1 := hG.length
          have e2 : (vs.filter p).length ≤ vs.length := List.length_filter_le _ _
          have e4 : ys.toList.length = ys.size := by simp
          omega
        refine wpAny_list_append_plain (hsz := hys) (hD₂.at fun o e => x₅₆.keep _ _ e) fun h₇ hl₇ hs₇ => ?_
        refine ⟨n + 1 - (vs.length + 1), by omega, m', ys.push (.ref Ty), some v, vs ++ [v], ?_, hl₇, (hn₂.keeps x₅₆.keep).sameBut hs₇ (Ne.symm hDC), (hX₂.keeps x₅₆.keep).sameBut hs₇ (Ne.symm hDX), hP', ?_, by omega, by omega, ?_⟩
        · rw [hvl]
          exact W.frame _ _ _ st₅ fun b hb o e => hs₇.extBut b o (fun z => hDf (z ▸ hb)) (x₆.keep b o e)
        · rw [List.filter_append, Array.toList_push]
          have : [v].filter p = [v] := by simp [hpv]
          rw [this]
          refine Paired.snoc (kp (fun T o n1 n2 n3 n4 e => hs₇.extBut _ o n1 (x₆.keep _ _ e)) hG₅) ⟨Ty, oy, rfl, none_back (y₂.trans x₅) fTy, nD, nC, nX', nW, hs₇.extBut _ _ nD hTy, hGy⟩
        · exact ⟨fun b o e => hs₇.extBut b o (fun z => by rw [z, fD₁] at e; cases e) ((y₂.trans x₅₆).keep b o e), (y₂.trans x₅₆).gens, (y₂.trans x₅₆).drawn, (y₂.trans x₅₆).os⟩
    · have hin : vs.length = n := by omega
      refine W.done _ _ _ (hin ▸ st') fun h₁ tk₁ hk₁ => ?_
      refine ⟨m', hn'.at' fun o e => hk₁ _ o hCw e, fun h₂ hs₂ => ?_⟩
      have hGz : Paired (fun v y => ∃ T o, y = .ref T ∧ s₁.heap.get? T = none ∧ h₂.get? T = some o ∧ G v o) (vs.filter p) ys.toList :=
        Paired.imp (fun v y ⟨T, o, e, n0, n1, n2, n3, n4, ho, g⟩ => ⟨T, o, e, n0, hs₂.extBut _ o n2 (hk₁ _ o n4 ho), g⟩) hG
      refine h3 D ys _ vs fD₁ ((hD'.at fun o e => hk₁ _ o hDw e).at fun o e => hs₂.extBut _ o hDC e) hin hP hGz ⟨fun b o e => hs₂.extBut b o (fun z => by rw [z, fC₁] at e; cases e) (hk₁ b o (fun hb => by rw [hwr b hb] at e; cases e) (x'.keep b o e)), x'.gens, x'.drawn, x'.os⟩
  exact codeAny_compStart_list loop (W.self _ _ _ _ (W.frame _ _ _ st0 fun b hb o e => (x₃.trans x₄).keep b o e) loop)
theorem lCO {w : World} {A : Around} {s : Shared} {env : Env} {elt iter : Expr} {x : Str} {px : Pos} {ifs : List Expr} {scope : Scope} {pos : Pos} {Q : Value → Shared → Prop} {lo : List (Str × Value)}
    (p : Value → Bool) (G : Value → Obj → Prop) (F : Rd env lo s.heap)
    (h : WP w A (eval iter env) (fun xv s₁ => ∃ n P src, Ext s s₁ ∧ Wk2 w A xv n P src s₁ ∧ n ≤ sizeLine ∧
      (∀ C i v s₂, P i v → Ext s₁ s₂ → Rd (kE scope C env) ((x, v) :: lo) s₂.heap → WP w A (compTest ifs (kE scope C env)) (fun ok s₃ => ok = p v ∧ Ext s₂ s₃) s₂) ∧
      (∀ C i v s₂, P i v → p v = true → Ext s₁ s₂ → Rd (kE scope C env) ((x, v) :: lo) s₂.heap → WP w A (eval elt (kE scope C env)) (fun y s₃ => (∃ T o, y = .ref T ∧ s₂.heap.get? T = none ∧ s₃.heap.get? T = some o ∧ G v o) ∧ Ext s₂ s₃) s₂) ∧
      (∀ D ys s' (vs : List Value), s₁.heap.get? D = none → s'.heap.PlainList D ys → vs.length = n → (∀ j v, vs[j]? = some v → P j v) → Paired (fun v y => ∃ T o, y = .ref T ∧ s₁.heap.get? T = none ∧ s'.heap.get? T = some o ∧ G v o) (vs.filter p) ys.toList → Ext s₁ s' → Q (.ref D) s')) s)
    (hfree : (scope.names.all fun y => !(y.2 == .free) || (env.cells.lookup y.1).isSome) = true := by kernel_rfl!)
    (hkind : scope.kind = .function := by kernel_rfl!)
    (hnames : (scope.names.all fun y => !(y.2 == .local) || (scope.names.lookup y.1 == some .local)) = true := by kernel_rfl!) (hx : scope.names.lookup x = some .local := by kernel_rfl!)
    (hcell : (scope.names.all fun y => !(y.2 == .cell)) = true := by kernel_rfl!)
    (hcf : ∀ n acc, cellsFrom n scope.names acc = acc := by intro _ _; rfl) (hpc : ∀ h, pushCells h scope.names = h := by intro _; rfl)
    (hlo : (lo.all fun e => e.1 == x || !(scope.names.lookup e.1 == some .local)) = true := by kernel_rfl!)
    (hs : ∀ x, foldedSetIterable iter env x = pure x := by intro _; rfl) :
    WP w A (eval (.ListComp elt [⟨.Name x px, iter, ifs, 0⟩] scope pos) env) Q s := by
  have hnm : ∀ y ∈ scope.names, y.2 = .local → scope.names.lookup y.1 = some .local := fun y hy e => by
    have := List.all_eq_true.mp hnames y hy
    rw [e] at this
    exact eq_of_beq this
  have hcc : ∀ y ∈ scope.names, y.2 ≠ .cell := fun y hy e => by
    have := List.all_eq_true.mp hcell y hy
    rw [e] at this; cases this
  unfold WP
  rw [eval_ListComp]
  refine wpAny_comprehension_free (use := none) rfl hs (clo_for hfree) hkind hnm (wpAny_mono h (fun xv s₁ h₁ => ?_) fun _ _ e => e)
  obtain ⟨n, P, src, e₁, Wk, hn, h1, h2, h3⟩ := h₁
  have F₁ := F.keeps e₁
  refine wpAny_mono Wk (fun it s₂ h₂ => ?_) fun _ _ e => e
  obtain ⟨I, fp, wr, St_, rfl, W, st0, hfp, hwr, -, hF, x₂⟩ := h₂
  refine wpAny_newObj_type ?_
  have fD := fresh_at s₂
  generalize hs3 : ({ s₂ with heap := s₂.heap.push { cls := .type "list", dict := none, data := .seq ([] : List Value).toArray } } : Shared) = s₃
  have x₃ : Ext s₂ s₃ := by subst hs3; exact ⟨fun _ _ e => Heap.get?_push_of_some _ e, rfl, rfl, rfl⟩
  have hD₃ : s₃.heap.PlainList s₂.heap.objs.size #[] := by subst hs3; exact ⟨_, Heap.get?_push_size _ rfl⟩
  generalize s₂.heap.objs.size = D at fD hD₃ hfp ⊢
  clear hs3
  have hDs : D < s₃.heap.objs.size := by obtain ⟨n, e⟩ := hD₃; exact Heap.lt_size e
  simp only [newFunctionEnv, Option.isSome_some, if_true]
  refine wpAny_bind (wpAny_alloc ?_)
  refine wpAny_bind (wpAny_layCells _ (fun name kind cells => by cases hkc : kind == NameKind.cell <;> simp [hkc]) _ _ _ _ ?_)
  rw [hcf, hpc]
  refine wpAny_bind (wpAny_pure ?_)
  refine wpAny_pure ?_
  show codeAny (model pw w) A (.compStart (.ListComp elt [⟨.Name x px, iter, ifs, 0⟩] scope pos) 0 (.ref I) (.ref D) (kE scope s₃.heap.objs.size env)) (compPost (model pw w) A NoE none Q (.ref D) s₃.heap.objs.size)
    { s₃ with heap := s₃.heap.push { cls := .type "dict", data := .dict #[] } }
  generalize hs4 : ({ s₃ with heap := s₃.heap.push { cls := .type "dict", data := .dict #[] } } : Shared) = s₄
  have x₄ : Ext s₃ s₄ := by subst hs4; exact ⟨fun _ _ e => Heap.get?_push_of_some _ e, rfl, rfl, rfl⟩
  have hn₄ : s₄.heap.Ns s₃.heap.objs.size fun _ => none := by subst hs4; exact Heap.Ns.new s₃.heap (.type "dict")
  have fC := fresh_at s₃
  have hCf : s₃.heap.objs.size ∉ fp := fun hb => Nat.lt_irrefl _ (Nat.lt_trans (hfp _ hb) hDs)
  have hDf : D ∉ fp := fun hb => Nat.lt_irrefl _ (hfp _ hb)
  have hDC : D ≠ s₃.heap.objs.size := Nat.ne_of_lt hDs
  generalize s₃.heap.objs.size = C at hn₄ fC hCf hDC ⊢
  clear hs4
  have fD₁ : s₁.heap.get? D = none := none_back x₂ fD
  have fC₁ : s₁.heap.get? C = none := none_back (x₂.trans x₃) fC
  have hCw : C ∉ wr := fun h => hCf (W.sub _ h)
  have hDw : D ∉ wr := fun h => hDf (W.sub _ h)
  have loop : codeAny (model pw w) A (.compLoop (.ListComp elt [⟨.Name x px, iter, ifs, 0⟩] scope pos) 0 (.ref I) (.ref D) (kE scope C env)) (compPost (model pw w) A NoE none Q (.ref D) C) s₄ := by
    refine codeAny_compLoop_tests (fun k s' => ∃ m' ys, ∃ vs : List Value, St_ vs.length s'.heap ∧ s'.heap.PlainList D ys ∧ s'.heap.Ns C m' ∧ (∀ j v, vs[j]? = some v → P j v) ∧
      Paired (fun v y => ∃ T o, y = .ref T ∧ s₁.heap.get? T = none ∧ T ≠ D ∧ T ≠ C ∧ T ∉ wr ∧ s'.heap.get? T = some o ∧ G v o) (vs.filter p) ys.toList ∧ vs.length ≤ n ∧ k = n + 1 - vs.length ∧ Ext s₁ s') ?_ (n + 1)
      ⟨_, #[], [], W.frame _ _ _ st0 (fun b hb o e => (x₃.trans x₄).keep b o e), hD₃.at fun o e => x₄.keep _ _ e, hn₄, by simp, .nil, Nat.zero_le _, rfl, (x₂.trans x₃).trans x₄⟩
    rintro k s' ⟨m', ys, vs, st', hD', hn', hP, hG, hi, rfl, x'⟩
    by_cases hlt : vs.length < n
    · refine W.item vs.length _ _ _ hlt st' fun v h₁ tk₁ hPv st₁ hk₁ => ?_
      have kp : ∀ {ha hb : Heap} {vs : List Value} {ys : List Value}, (∀ T o, T ≠ D → T ≠ C → T ∉ wr → ha.get? T = some o → hb.get? T = some o) →
          Paired (fun v y => ∃ T o, y = .ref T ∧ s₁.heap.get? T = none ∧ T ≠ D ∧ T ≠ C ∧ T ∉ wr ∧ ha.get? T = some o ∧ G v o) vs ys → Paired (fun v y => ∃ T o, y = .ref T ∧ s₁.heap.get? T = none ∧ T ≠ D ∧ T ≠ C ∧ T ∉ wr ∧ hb.get? T = some o ∧ G v o) vs ys :=
        fun k h => Paired.imp (fun v y ⟨T, o, e, n0, n1, n2, n4, ho, g⟩ => ⟨T, o, e, n0, n1, n2, n4, k T o n1 n2 n4 ho, g⟩) h
      have y₁ : Ext s₁ { s' with heap := h₁, toks := tk₁ } := ⟨fun b o e => hk₁ b o (fun hb => by rw [hwr b hb] at e; cases e) (x'.keep b o e), x'.gens, x'.drawn, x'.os⟩
      refine wpAny_assign_Name (wpAny_storeName_local (env := kE scope C env) (lookup_relabel_local hx) (hn'.at' fun o e => hk₁ _ o hCw e) (fun h₂ hn₂ hs₂ => ?_) (by show (scope.kind == .class || (scope.kind == .module && _)) = false; rw [hkind]; rfl))
      replace hs₂ : Heap.SameBut C h₁ h₂ := hs₂
      replace hn₂ : h₂.Ns C _ := hn₂
      dsimp only
      have y₂ : Ext s₁ { s' with heap := h₂, toks := tk₁ + 1 } := ⟨fun b o e => hs₂.extBut b o (fun z => by rw [z, fC₁] at e; cases e) (y₁.keep b o e), y₁.gens, y₁.drawn, y₁.os⟩
      have st₂ : St_ (vs.length + 1) h₂ := W.frame _ _ _ st₁ fun b hb o e => hs₂.extBut b o (fun z => hCf (z ▸ hb)) e
      have hD₂ : h₂.PlainList D ys := hD'.at fun o e => hs₂.extBut _ o hDC (hk₁ _ o hDw e)
      have inr : ∀ {s'' : Shared}, Ext ⟨h₂, s'.gens, s'.drawn, tk₁ + 1, s'.os⟩ s'' → Rd (kE scope C env) ((x, v) :: lo) s''.heap := fun z => ((F₁.keeps y₂).inner hn₂ (by simp) hcc hx hlo).keeps z
      refine wpAny_mono (h1 C vs.length v _ hPv y₂ (inr (Ext.refl _))) (fun ok s₅ h₅ => ?_) fun _ _ e => e.elim
      obtain ⟨rfl, x₅⟩ := h₅
      have hP' : ∀ j u, (vs ++ [v])[j]? = some u → P j u := fun j u hj => by
        rcases Nat.lt_trichotomy j vs.length with h | h | h
        · exact hP j u (by rwa [List.getElem?_append_left h] at hj)
        · subst h; simp at hj; subst hj; exact hPv
        · have hnone : (vs ++ [v])[j]? = none := List.getElem?_eq_none (by rw [List.length_append, List.length_singleton]; omega)
          rw [hnone] at hj; cases hj
      have hvl : (vs ++ [v]).length = vs.length + 1 := by simp
      have st₅ : St_ (vs.length + 1) s₅.heap := W.frame _ _ _ st₂ fun b hb o e => x₅.keep b o e
      have hG₅ := kp (hb := s₅.heap) (fun T o n1 n2 n4 e => x₅.keep _ _ (hs₂.extBut _ o n2 (hk₁ _ o n4 e))) hG
      cases hpv : p v with
      | false =>
        rw [if_neg (by decide)]
        refine ⟨n + 1 - (vs.length + 1), by omega, _, ys, vs ++ [v], by rw [hvl]; exact st₅, hD₂.at fun o e => x₅.keep _ _ e, hn₂.keeps x₅.keep, hP', ?_, by omega, by omega, y₂.trans x₅⟩
        rw [List.filter_append]; simpa [hpv] using hG₅
      | true =>
        rw [if_pos rfl]
        refine wpAny_mono (h2 C vs.length v _ hPv hpv (y₂.trans x₅) (inr x₅)) (fun y s₆ h₆ => ?_) fun _ _ e => e.elim
        obtain ⟨⟨Ty, oy, rfl, fTy, hTy, hGy⟩, x₆⟩ := h₆
        have x₅₆ := x₅.trans x₆
        have nD : Ty ≠ D := fun z => by obtain ⟨n, e⟩ := hD₂; rw [z, x₅.keep _ _ e] at fTy; cases fTy
        have nC : Ty ≠ C := fun z => by obtain ⟨o, es, ep, e, r⟩ := hn₂; rw [z, x₅.keep _ _ e] at fTy; cases fTy
        have nW : Ty ∉ wr := fun z => by obtain ⟨o, e, r⟩ := hF _ _ st₅ _ z; rw [e] at fTy; cases fTy
        have hys : ys.size ≤ sizeLine := by
          have e1 := hG.length
          have e2 : (vs.filter p).length ≤ vs.length := List.length_filter_le _ _
          have e4 : ys.toList.length = ys.size := by simp
          omega
        refine wpAny_list_append_plain (hsz := hys) (hD₂.at fun o e => x₅₆.keep _ _ e) fun h₇ hl₇ hs₇ => ?_
        refine ⟨n + 1 - (vs.length + 1), by omega, _, ys.push (.ref Ty), vs ++ [v], ?_, hl₇, (hn₂.keeps x₅₆.keep).sameBut hs₇ (Ne.symm hDC), hP', ?_, by omega, by omega, ?_⟩
        · rw [hvl]
          exact W.frame _ _ _ st₅ fun b hb o e => hs₇.extBut b o (fun z => hDf (z ▸ hb)) (x₆.keep b o e)
        · rw [List.filter_append, Array.toList_push]
          have : [v].filter p = [v] := by simp [hpv]
          rw [this]
          refine Paired.snoc (kp (fun T o n1 n2 n4 e => hs₇.extBut _ o n1 (x₆.keep _ _ e)) hG₅) ⟨Ty, oy, rfl, none_back (y₂.trans x₅) fTy, nD, nC, nW, hs₇.extBut _ _ nD hTy, hGy⟩
        · exact ⟨fun b o e => hs₇.extBut b o (fun z => by rw [z, fD₁] at e; cases e) ((y₂.trans x₅₆).keep b o e), (y₂.trans x₅₆).gens, (y₂.trans x₅₆).drawn, (y₂.trans x₅₆).os⟩
    · have hin : vs.length = n := by omega
      refine W.done _ _ _ (hin ▸ st') fun h₁ tk₁ hk₁ => ?_
      refine ⟨m', hn'.at' fun o e => hk₁ _ o hCw e, fun h₂ hs₂ => ?_⟩
      have hGz : Paired (fun v y => ∃ T o, y = .ref T ∧ s₁.heap.get? T = none ∧ h₂.get? T = some o ∧ G v o) (vs.filter p) ys.toList :=
        Paired.imp (fun v y ⟨T, o, e, n0, n1, n2, n4, ho, g⟩ => ⟨T, o, e, n0, hs₂.extBut _ o n2 (hk₁ _ o n4 ho), g⟩) hG
      refine h3 D ys _ vs fD₁ ((hD'.at fun o e => hk₁ _ o hDw e).at fun o e => hs₂.extBut _ o hDC e) hin hP hGz ⟨fun b o e => hs₂.extBut b o (fun z => by rw [z, fC₁] at e; cases e) (hk₁ b o (fun hb => by rw [hwr b hb] at e; cases e) (x'.keep b o e)), x'.gens, x'.drawn, x'.os⟩
  exact codeAny_compStart_list loop (W.self _ _ _ _ (W.frame _ _ _ st0 fun b hb o e => (x₃.trans x₄).keep b o e) loop)
end Mine
end
section
open PySem PySem.W PySem.Calls PyProof.Rows PySem.W.X PySem.W.XRun PySem.SeqAt
set_option Elab.async false
set_option maxRecDepth 100000
set_option maxHeartbeats 0
set_option linter.unusedVariables false
namespace Mine
theorem rising_pw : ∀ (l : List Str) (p : Str), risingS p l = true → (p :: l).Pairwise (fun a b => a.cps.toList ≤ b.cps.toList)
  | [], p, _ => by simp
  | x :: r, p, h => by
    unfold risingS at h
    rw [Bool.and_eq_true] at h
    have ih := rising_pw r x h.2
    have h1 : p.cps.toList ≤ x.cps.toList := by
      have := h.1
      rw [ltCps_eq] at this
      have h2 : ¬ x.cps.toList < p.cps.toList := by simpa using this
      exact List.not_lt.mp h2
    refine List.pairwise_cons.mpr ⟨fun y hy => ?_, ih⟩
    rcases List.mem_cons.mp hy with rfl | hy
    · exact h1
    · exact List.le_trans h1 ((List.pairwise_cons.mp ih).1 y hy)
theorem sorted_pw (l : List Str) (h : sortedS l = true) : l.Pairwise (fun a b => a.cps.toList ≤ b.cps.toList) := by
  cases l with
  | nil => simp
  | cons x r => exact rising_pw r x h
theorem sorted_uniq {a b : List Str} (ha : sortedS a = true) (hb : sortedS b = true) (p : a.Perm b) : a = b :=
  List.Perm.eq_of_pairwise (fun x y _ _ h1 h2 => by
    have e : x.cps.toList = y.cps.toList := List.le_antisymm h1 h2
    cases x; cases y
    congr 1
    exact Array.toList_inj.mp e) (sorted_pw a ha) (sorted_pw b hb) p
noncomputable def rowD (r : Nat × Str) : PyData := .tuple [.str ⟨#[r.1]⟩, .str r.2]
theorem RowAt.reads {h : Heap} {v : Value} {r : Nat × Str} (x : RowAt h v r) : Reads h v (rowD r) [] := by
  obtain ⟨a, t, u, rfl, o, ho, hc, n, hd⟩ := x.ex
  exact .tuple ho hc hd (.cons (as := []) (.str _ _) (.cons (as := []) (.str _ _) .nil))
theorem reads_rows {h : Heap} : ∀ {l : List Value} {rows : List (Nat × Str)}, Paired (RowAt h) l rows → ReadsAll h l (rows.map rowD) []
  | _, _, .nil => .nil
  | _, _, .cons x r => .cons (as := []) x.reads (reads_rows r)
theorem rows_lay : ∀ (rows : List (Nat × Str)), (∀ r ∈ rows, PyData.strOk ⟨#[r.1]⟩ = true ∧ PyData.strOk r.2 = true) → PyData.canLayAll0 (rows.map rowD) = true ∧ PyData.depthAll (rows.map rowD) ≤ 1
  | [], _ => ⟨rfl, by decide⟩
  | r :: rows, h => by
    obtain ⟨h1, h2⟩ := rows_lay rows fun r hr => h r (List.mem_cons_of_mem _ hr)
    obtain ⟨h3, h4⟩ := h r List.mem_cons_self
    rw [List.map_cons, PyData.canLayAll0, PyData.depthAll, h1]
    refine ⟨?_, ?_⟩
    · show (PyData.strOk _ && (PyData.strOk _ && true) && true) = true
      rw [h3, h4]; rfl
    · show max (max 0 (max 0 0) + 1) _ ≤ 1
      exact Nat.max_le.mpr ⟨by decide, h2⟩
theorem rows_shaped {rows : List (Nat × Str)} (h : ∀ r ∈ rows, PyData.strOk ⟨#[r.1]⟩ = true ∧ PyData.strOk r.2 = true) : shaped (.list (rows.map rowD)) = true := by
  obtain ⟨h1, h2⟩ := rows_lay rows h
  unfold shaped
  rw [PyData.canLay0, h1, PyData.depth]
  show (true && decide _) = true
  simp; omega
theorem neRows {w : World} {A : Around} {s : Shared} {n : Nat} {a b : Addr} {rows : List (Nat × Str)} {Q : Value → Shared → Prop} (R : Room A n) (ha : RowsAt s.heap a rows) (hb : RowsAt s.heap b rows)
    (hs : ∀ r ∈ rows, PyData.strOk ⟨#[r.1]⟩ = true ∧ PyData.strOk r.2 = true) (h : Q (.bool false) s) : WP w A (compareOp .NotEq (.ref a) (.ref b)) Q s := by
  obtain ⟨ia, ⟨na, ea⟩, pa⟩ := ha.ex
  obtain ⟨ib, ⟨nb, eb⟩, pb⟩ := hb.ex
  refine compareNe_shaped (.list ea rfl rfl (reads_rows pa)) (.list eb rfl rfl (reads_rows pb)) (rows_shaped hs) (rows_shaped hs) R.eq ?_
  have hl : (PyData.list (rows.map rowD)).canLay0 = true := canLay_of_shaped (rows_shaped hs)
  rw [eqv_refl _ hl]
  exact h
theorem eqv_strs : ∀ (a b : List Str), PyData.eqvAll (a.map .str) (b.map .str) = decide (a = b)
  | [], [] => rfl
  | [], _ :: _ => rfl
  | _ :: _, [] => rfl
  | x :: a, y :: b => by
    rw [List.map_cons, List.map_cons, PyData.eqvAll, eqv_strs a b, PyData.eqv]
    by_cases hx : x = y
    · subst hx
      by_cases ha : a = b
      · subst ha; simp
      · simp [ha]
    · simp [hx]
noncomputable def strsD (ss : List Str) : PyData := .list (ss.map .str)
theorem eqv_lls : ∀ (a b : List (List Str)), PyData.eqvAll (a.map strsD) (b.map strsD) = decide (a = b)
  | [], [] => rfl
  | [], _ :: _ => rfl
  | _ :: _, [] => rfl
  | x :: a, y :: b => by
    rw [List.map_cons, List.map_cons, PyData.eqvAll, eqv_lls a b]
    have : PyData.eqv (strsD x) (strsD y) = decide (x = y) := eqv_strs x y
    rw [this]
    by_cases hx : x = y
    · subst hx
      by_cases ha : a = b
      · subst ha; simp
      · simp [ha]
    · simp [hx]
noncomputable def StrsF (N : Addr → Prop) (h : Heap) (v : Value) (ss : List Str) : Prop := ∃ b, v = .ref b ∧ ¬ N b ∧ Strs h b ss
noncomputable def LL (N : Addr → Prop) (h : Heap) (a : Addr) (sss : List (List Str)) : Prop := ∃ vs : List Value, h.PlainList a vs.toArray ∧ Paired (StrsF N h) vs sss
noncomputable def LLF (N : Addr → Prop) (h : Heap) (v : Value) (sss : List (List Str)) : Prop := ∃ b, v = .ref b ∧ ¬ N b ∧ LL N h b sss
theorem StrsF.mv {N : Addr → Prop} {s s' : Shared} {v : Value} {ss : List Str} (x : StrsF N s.heap v ss) (m : Mv N s s') : StrsF N s'.heap v ss :=
  let ⟨b, e, n, h⟩ := x; ⟨b, e, n, h.kp fun o e => m.keep _ _ n e⟩
theorem LL.inner {N : Addr → Prop} {s s' : Shared} {vs : List Value} {sss : List (List Str)} (x : Paired (StrsF N s.heap) vs sss) (m : Mv N s s') : Paired (StrsF N s'.heap) vs sss := Paired.imp (fun _ _ y => y.mv m) x
theorem LLF.mv {N : Addr → Prop} {s s' : Shared} {v : Value} {sss : List (List Str)} (x : LLF N s.heap v sss) (m : Mv N s s') : LLF N s'.heap v sss :=
  let ⟨b, e, n, vs, h, p⟩ := x; ⟨b, e, n, vs, h.at fun o e => m.keep _ _ n e, LL.inner p m⟩
theorem StrsF.kt {N : Addr → Prop} {s s' : Shared} {v : Value} {ss : List Str} (x : StrsF N s.heap v ss) (k : Kt s s') : StrsF N s'.heap v ss :=
  let ⟨b, e, n, h⟩ := x; ⟨b, e, n, h.kt k⟩
theorem LLF.kt {N : Addr → Prop} {s s' : Shared} {v : Value} {sss : List (List Str)} (x : LLF N s.heap v sss) (k : Kt s s') : LLF N s'.heap v sss :=
  let ⟨b, e, n, vs, h, p⟩ := x; ⟨b, e, n, vs, plain_kt h k, Paired.imp (fun _ _ y => y.kt k) p⟩
theorem reads_lls {N : Addr → Prop} {h : Heap} : ∀ {vs : List Value} {sss : List (List Str)}, Paired (StrsF N h) vs sss → ∃ as, ReadsAll h vs (sss.map strsD) as
  | _, _, .nil => ⟨_, .nil⟩
  | _, _, .cons ⟨b, e, n, ws, ⟨m, hb⟩, st⟩ r => by
    obtain ⟨as, ih⟩ := reads_lls r
    subst e
    exact ⟨_, .cons (.list hb rfl rfl (st.reads h)) ih⟩
theorem lls_lay : ∀ (sss : List (List Str)), (∀ ss ∈ sss, ss.all PyData.strOk = true) → PyData.canLayAll0 (sss.map strsD) = true ∧ PyData.depthAll (sss.map strsD) ≤ 1
  | [], _ => ⟨rfl, by decide⟩
  | ss :: sss, h => by
    obtain ⟨h1, h2⟩ := lls_lay sss fun r hr => h r (List.mem_cons_of_mem _ hr)
    have h3 := h ss List.mem_cons_self
    rw [List.map_cons, PyData.canLayAll0, PyData.depthAll, h1]
    refine ⟨?_, ?_⟩
    · show (PyData.canLayAll0 (ss.map .str) && true) = true
      rw [canLayAll_strs', h3]; rfl
    · show max (PyData.depthAll (ss.map .str) + 1) _ ≤ 1
      rw [depthAll_strs']
      exact Nat.max_le.mpr ⟨by decide, h2⟩
theorem lls_shaped {sss : List (List Str)} (h : ∀ ss ∈ sss, ss.all PyData.strOk = true) : shaped (.list (sss.map strsD)) = true := by
  obtain ⟨h1, h2⟩ := lls_lay sss h
  unfold shaped
  rw [PyData.canLay0, h1, PyData.depth]
  show (true && decide _) = true
  simp; omega
theorem eqStrs {w : World} {A : Around} {s : Shared} {n : Nat} {a b : Addr} {x y : List Str} {Q : Value → Shared → Prop} (R : Room A n) (ha : Strs s.heap a x) (hb : Strs s.heap b y) (hx : x.all PyData.strOk = true) (hy : y.all PyData.strOk = true)
    (h : Q (.bool (decide (x = y))) s) : WP w A (compareOp .Eq (.ref a) (.ref b)) Q s := by
  obtain ⟨va, ⟨na, ea⟩, pa⟩ := ha
  obtain ⟨vb, ⟨nb, eb⟩, pb⟩ := hb
  refine compareEq_shaped (.list ea rfl rfl (pa.reads _)) (.list eb rfl rfl (pb.reads _)) (strs_shaped hx) (strs_shaped hy) R.eq ?_
  have : PyData.eqv (.list (x.map .str)) (.list (y.map .str)) = decide (x = y) := eqv_strs x y
  rw [this]; exact h
theorem eqLLs {w : World} {A : Around} {s : Shared} {n : Nat} {N : Addr → Prop} {a b : Addr} {x y : List (List Str)} {Q : Value → Shared → Prop} (R : Room A n) (ha : LL N s.heap a x) (hb : LL N s.heap b y) (hx : ∀ ss ∈ x, ss.all PyData.strOk = true) (hy : ∀ ss ∈ y, ss.all PyData.strOk = true)
    (h : Q (.bool (decide (x = y))) s) : WP w A (compareOp .Eq (.ref a) (.ref b)) Q s := by
  obtain ⟨va, ⟨na, ea⟩, pa⟩ := ha
  obtain ⟨vb, ⟨nb, eb⟩, pb⟩ := hb
  obtain ⟨as, ra⟩ := reads_lls pa
  obtain ⟨bs, rb⟩ := reads_lls pb
  refine compareEq_shaped (.list ea rfl rfl ra) (.list eb rfl rfl rb) (lls_shaped hx) (lls_shaped hy) R.eq ?_
  have : PyData.eqv (.list (x.map strsD)) (.list (y.map strsD)) = decide (x = y) := eqv_lls x y
  rw [this]; exact h
end Mine
end
section
open PySem PySem.W PySem.Calls PyProof.Rows PySem.W.X PySem.W.XRun PySem.SeqAt
set_option Elab.async false
set_option maxRecDepth 100000
set_option maxHeartbeats 0
set_option linter.unusedVariables false
namespace Mine
section
variable {w : World} {A : Around} {s : Shared} {env : Env} {Q : Value → Shared → Prop}
theorem mulDot {n : Nat} {t u : Tok} (hn : n ≤ 5) (h : ∀ t' k, Q (.str (dots (n + 1)) t') { s with toks := k }) : WP w A (binaryOp .Mult (.str (Str.ofString ".") t) (.int ((n : Int) + 1) u)) Q s := by
  have e : Txt.mul (Str.ofString ".") ((n : Int) + 1) = dots (n + 1) := by
    rcases (show n = 0 ∨ n = 1 ∨ n = 2 ∨ n = 3 ∨ n = 4 ∨ n = 5 by omega) with rfl | rfl | rfl | rfl | rfl | rfl <;> decide +kernel
  refine SB.mul ?_ fun t' k => ?_
  · rcases (show n = 0 ∨ n = 1 ∨ n = 2 ∨ n = 3 ∨ n = 4 ∨ n = 5 by omega) with rfl | rfl | rfl | rfl | rfl | rfl <;>
      exact ⟨by decide +kernel, fun _ _ => by decide +kernel, fun _ _ => by decide +kernel⟩
  · rw [e]; exact h t' k
theorem inPair {p : Nat × Nat} {k : Nat} {t u : Tok} (hp : p.1 ∈ ks4 ∧ p.2 ∈ ks4) (hk : k ∈ ks4) (h : Q (.bool (k == p.1 || k == p.2)) s) : WP w A (compareOp .In (.str (sg k) u) (.str (pr p) t)) Q s := by
  have e : ∀ k ∈ ks4, ∀ a ∈ ks4, ∀ b ∈ ks4, (!(Builtin.Str.occurrences (pr (a, b)) (sg k) 0 (pr (a, b)).length 1).isEmpty) = (k == a || k == b) := by decide +kernel
  refine PyProof.Rows.in_str ?_
  have := e k hk p.1 hp.1 p.2 hp.2
  rw [show (p.1, p.2) = p from rfl] at this
  rw [this]; exact h
theorem callN2 {a : Addr} {o : Obj} {fd : FuncData} {x : Str} {p pos : Pos} {e₁ e₂ : Expr} (hn : ∀ Q' : Value → Shared → Prop, Q' (.ref a) s → WP w A (eval (.Name x p) env) Q' s) (hd : o.data = .func fd)
    (h : WP w A (eval e₁ env) (fun v s₁ => WP w A (eval e₂ env) (fun u s₂ => s₂.heap.get? a = some o ∧ WP w A (call (.ref a) [v, u]) Q s₂) s₁) s)
    (hs : starEach [e₁, e₂] env = [(false, eval e₁ env), (false, eval e₂ env)] := by kernel_rfl!) : WP w A (eval (.Call (.Name x p) [e₁, e₂] [] pos) env) Q s :=
  Call_Name2 (hn _ (cw2 (first := []) hd h)) hs
theorem callN4 {a : Addr} {o : Obj} {fd : FuncData} {x : Str} {p pos : Pos} {e₁ e₂ e₃ e₄ : Expr} (hn : ∀ Q' : Value → Shared → Prop, Q' (.ref a) s → WP w A (eval (.Name x p) env) Q' s) (hd : o.data = .func fd)
    (h : WP w A (eval e₁ env) (fun v s₁ => WP w A (eval e₂ env) (fun u s₂ => WP w A (eval e₃ env) (fun v' s₃ => WP w A (eval e₄ env) (fun u' s₄ => s₄.heap.get? a = some o ∧ WP w A (call (.ref a) [v, u, v', u']) Q s₄) s₃) s₂) s₁) s)
    (hs : starEach [e₁, e₂, e₃, e₄] env = [(false, eval e₁ env), (false, eval e₂ env), (false, eval e₃ env), (false, eval e₄ env)] := by kernel_rfl!) : WP w A (eval (.Call (.Name x p) [e₁, e₂, e₃, e₄] [] pos) env) Q s := by
  refine Call_Name (by rw [hs]) (hn _ ?_)
  exact Calls.callWith_function (o := o) (fd := fd) (Calls.evalArgs_plain (Calls.spliced_cons (wpAny_mono h (fun v s₁ h₁ => Calls.spliced_cons (wpAny_mono h₁ (fun u s₂ h₂ => Calls.spliced_cons (wpAny_mono h₂ (fun v' s₃ h₃ => Calls.spliced_cons (wpAny_mono h₃ (fun u' s₄ h₄ => Calls.spliced_nil ⟨⟨h₄.1, hd⟩, h₄.2⟩) fun _ _ e => e)) fun _ _ e => e)) fun _ _ e => e)) fun _ _ e => e)))
theorem cw0 {pos : Pos} {a : Addr} {o : Obj} {fd : FuncData} {first : List Value} (hd : o.data = .func fd)
    (h : s.heap.get? a = some o ∧ WP w A (call (.ref a) first) Q s) :
    WP w A (callWith pos (.ref a) first [] []) Q s :=
  Calls.callWith_function (o := o) (fd := fd) (evalArgs_nil3 ⟨⟨h.1, hd⟩, by have := h.2; rw [← List.append_nil first] at this; exact this⟩)
theorem sortedL {l : Addr} {ss : List Str} (hl : Strs s.heap l ss) (hz : ss.length < 64) (h : ∀ D ss' s', Ext s s' → s.heap.get? D = none → Strs s'.heap D ss' → ss'.Perm ss → sortedS ss' = true → Q (.ref D) s') :
    WP w A (call (.builtin "sorted") [.ref l]) Q s := by
  obtain ⟨vs, pl, st⟩ := hl
  refine sorted_strs pl.isList st (by rw [strs_len st]; exact hz) fun out ss' a1 a2 a3 => ?_
  obtain ⟨e, he⟩ := sortedAll_at s.heap vs out
  exact h _ ss' _ ⟨fun _ _ => sortedAll_old, rfl, rfl, rfl⟩ (Heap.get?_none_of_le (Nat.le_succ _)) ⟨out.toList, ⟨e, by simpa using he⟩, a1⟩ a2 a3
theorem Paired.of_get {α β : Type} {F : α → β → Prop} : ∀ {l : List α} {m : List β}, l.length = m.length → (∀ (j : Nat) (a : α) (b : β), l[j]? = some a → m[j]? = some b → F a b) → Paired F l m
  | [], [], _, _ => .nil
  | [], _ :: _, h, _ => by simp at h
  | _ :: _, [], h, _ => by simp at h
  | a :: l, b :: m, h, k => .cons (k 0 a b rfl rfl) (Paired.of_get (by simpa using h) fun j x y h1 h2 => k (j + 1) x y (by simpa using h1) (by simpa using h2))
end
noncomputable def relS (u : List Nat) (p : Nat × Nat) : List Str := (u.filter (inP kd p.1 p.2)).map sg
noncomputable def relT (tied : List (Nat × Nat)) (u : List Nat) : List (List Str) := tied.map (relS u)
end Mine
end
section
open PySem PySem.W PySem.Calls PyProof.Rows PySem.W.X PySem.W.XRun PySem.SeqAt
set_option Elab.async false
set_option maxRecDepth 100000
set_option maxHeartbeats 0
set_option linter.unusedVariables false
namespace Mine
theorem Paired.two {α β : Type} {F : α → β → Prop} {l : List α} {a b : β} (h : Paired F l [a, b]) : ∃ x y, l = [x, y] ∧ F x a ∧ F y b := by
  cases h with
  | cons h1 h => cases h with
    | cons h2 h => cases h; exact ⟨_, _, rfl, h1, h2⟩
theorem Paired.twoL {α β : Type} {F : α → β → Prop} {m : List β} {a b : α} (h : Paired F [a, b] m) : ∃ x y, m = [x, y] ∧ F a x ∧ F b y := by
  cases h with
  | cons h1 h => cases h with
    | cons h2 h => cases h; exact ⟨_, _, rfl, h1, h2⟩
theorem pr_inj {p q : Nat × Nat} (h : pr p = pr q) : p = q := by
  have := pr_beq p q.1 q.2
  have h2 : (⟨#[q.1, q.2]⟩ : Str) = pr q := rfl
  rw [h2, h, beq_self_eq_true] at this
  exact eq_of_beq this.symm
theorem row_ok (D : Nat → Nat → Bool) {u : List Nat} (hu : ∀ c ∈ u, c ∈ signs) (hz : u.length ≤ 5) : ∀ r ∈ (Rw kd D ks4 H0 u).map hrow, PyData.strOk ⟨#[r.1]⟩ = true ∧ PyData.strOk r.2 = true := by
  have hlt : ∀ c ∈ signs, c < 1114112 := by decide +kernel
  have hk : ∀ k ∈ ks4, k < 1114112 := by decide
  intro r hr
  obtain ⟨p, hp, rfl⟩ := List.mem_map.mp hr
  have hc : p.2 ∈ u := by
    have := List.mem_map_of_mem (f := Prod.snd) hp
    rwa [Rw_snd] at this
  refine ⟨?_, ?_⟩
  · have := hk _ (kd_mem p.2)
    show (#[kd p.2] : Array Nat).all (· < 0x110000) = true
    simp; omega
  · have := hlt _ (hu _ hc)
    show ((rowL p).toArray : Array Nat).all (· < 0x110000) = true
    unfold rowL
    simp
    omega
theorem Wk2.bnd_ {w : World} {A : Around} {xv : Value} {n : Nat} {P : Nat → Value → Prop} {src : List Addr} {s : Shared} (h : Wk2 w A xv n P src s) : Wk2 w A xv n (fun i v => i < n ∧ P i v) src s :=
  wpAny_mono h (fun it s₂ ⟨I, fp, wr, S, h1, h2, h3⟩ => ⟨I, fp, wr, S, h1, Walks.bnd_ h2, h3⟩) fun _ _ e => e
section
variable {w : World} {A : Around} {b s : Shared} {Q : Flow → Shared → Prop} {L wl da tl bl ml : Addr} {us mv : List Nat} {tied : List (Nat × Nat)}
theorem stD (T : YP w b.heap) (f : Fresh (eL L) b) (R : Room A 12) (hg : b.gens = #[]) (x : Ext b s) (F : Fm (eL L) [("moved", .ref ml), ("bound", .ref bl), ("tied", .ref tl), ("drawn", .ref da), ("word", .ref wl)] s)
    (hw : Strs s.heap wl (us.map sg)) (hm : Strs s.heap ml (mv.map sg)) (hp : us.Perm mv) (hd : Drw w s.heap da us) (nda : ¬ Own (eL L) da) (dlive : ∃ o, s.heap.get? da = some o) (hT : Tied tied) (ht : Strs s.heap tl (tied.map pr)) (hb : Strs s.heap bl (bndS tied)) (h5 : us.length = 5) (hcs : ∀ c ∈ us, c ∈ signs)
    (h : ∀ (s' : Shared) (N : Addr → Prop) (fa ra : Addr) (fvs rvs : List Value) (f0 f1 : List Str), Ext b s' → Fm (eL L) [("relayed", .ref ra), ("fallen", .ref fa), ("moved", .ref ml), ("bound", .ref bl), ("drawn", .ref da), ("word", .ref wl)] s' →
      Strs s'.heap wl (us.map sg) → Strs s'.heap ml (mv.map sg) → Drw w s'.heap da us → Strs s'.heap bl (bndS tied) → (∀ a, Own (eL L) a → N a) → ¬ Own (eL L) fa → ¬ Own (eL L) ra → s'.heap.PlainList fa fvs.toArray → s'.heap.PlainList ra rvs.toArray →
      Paired (StrsF N s'.heap) fvs [f0, f1] → Paired (LLF N s'.heap) rvs [relT tied us, relT tied mv] → f0.Perm ((Rw kd (bnd tied) ks4 H0 us).map rowS) → f1.Perm ((Rw kd (bnd tied) ks4 H0 mv).map rowS) → sortedS f0 = true → sortedS f1 = true →
      WP w A (execs (lawTail 14) (eL L)) Q s') :
    WP w A (execs (lawTail 11) (eL L)) Q s := by
  unfold lawTail at h ⊢
  conv in (List.drop 11 (fnB (top 26))) => whnf
  have hbs : ∀ x ∈ ks4, ∀ y ∈ ks4, ((bndS tied).any (· == ⟨#[x, y]⟩)) = bnd tied x y := fun x _ y _ => bnd_any tied x y
  have hrD : ∀ a, bnd tied (kd a) (kd a) = true := fun a => by
    have := hT.refl _ (kd_mem a)
    unfold bnd
    rw [List.contains_iff_mem.mpr this]; rfl
  refine wpAny_execs_cons (wpAny_Assign_Name (nilL fun fa s₁ x₁ ff hf => ?_) (by kernel_rfl!))
  have F₁ := F.keeps x₁
  refine sN F₁ fun s₂ x₂ F₂ => ?_
  dsimp only
  refine wpAny_execs_cons (wpAny_Assign_Name (nilL fun ra s₃ x₃ fr hr => ?_) (by kernel_rfl!))
  have F₃ := F₂.keeps x₃
  refine sN F₃ fun s₄ x₄ F₄ => ?_
  dsimp only
  have e₂ : Ext b s₂ := (x.trans x₁).step x₂ f
  have e₄ : Ext b s₄ := (e₂.trans x₃).step x₄ f
  have f₂ := plain_step hf F₁ x₂
  have f₄ := plain_step (f₂.at fun o e => x₃.keep _ _ e) F₃ x₄
  have r₄ := plain_step hr F₃ x₄
  have w₂ := (hw.keeps x₁).step F₁ x₂
  have m₂ := (hm.keeps x₁).step F₁ x₂
  have t₂ := (ht.keeps x₁).step F₁ x₂
  have b₂ := (hb.keeps x₁).step F₁ x₂
  have d₂ : Drw w s₂.heap da us := hd.kp fun o e => x₂.keep _ _ nda (x₁.keep _ _ e)
  have dl₂ : ∃ o, s₂.heap.get? da = some o := let ⟨o, e⟩ := dlive; ⟨o, x₂.keep _ _ nda (x₁.keep _ _ e)⟩
  have w₄ := (w₂.keeps x₃).step F₃ x₄
  have m₄ := (m₂.keeps x₃).step F₃ x₄
  have t₄ := (t₂.keeps x₃).step F₃ x₄
  have b₄ := (b₂.keeps x₃).step F₃ x₄
  have d₄ : Drw w s₄.heap da us := d₂.kp fun o e => x₄.keep _ _ nda (x₃.keep _ _ e)
  have ne : ∀ a, (∃ o, s.heap.get? a = some o) → (∃ o, s₂.heap.get? a = some o) → a ≠ fa ∧ a ≠ ra := fun a ⟨o, e⟩ ⟨o', e'⟩ =>
    ⟨fun z => (by rw [z, ff] at e; cases e), fun z => (by rw [z, fr] at e'; cases e')⟩
  have nar : fa ≠ ra := fun z => by obtain ⟨n, e⟩ := f₂; rw [z, fr] at e; cases e
  have nfo : ¬ Own (eL L) fa := F.not_own ff
  have nro : ¬ Own (eL L) ra := F₂.not_own fr
  have hN : ∃ N : Addr → Prop, N = fun a => Own (eL L) a ∨ a = fa ∨ a = ra := ⟨_, rfl⟩
  obtain ⟨N, hN⟩ := hN
  have iN : ∀ a, Own (eL L) a → N a := fun a h => by rw [hN]; exact .inl h
  have iF : N fa := by rw [hN]; exact .inr (.inl rfl)
  have iR : N ra := by rw [hN]; exact .inr (.inr rfl)
  have nN : ∀ a, ¬ Own (eL L) a → a ≠ fa ∧ a ≠ ra → ¬ N a := fun a h1 h2 h3 => by
    rw [hN] at h3
    rcases h3 with h3 | h3 | h3
    · exact h1 h3
    · exact h2.1 h3
    · exact h2.2 h3
  have cN : ∀ a, N a → Own (eL L) a ∨ a = fa ∨ a = ra := fun a ha => by rw [hN] at ha; exact ha
  have fN : ∀ a, N a → b.heap.get? a = none := fun a ha => by
    rw [hN] at ha
    rcases ha with ha | rfl | rfl
    · exact f a ha
    · exact none_back x ff
    · exact none_back e₂ fr
  have lN : ∀ a, N a → ∃ o, s₄.heap.get? a = some o := fun a ha => by
    rw [hN] at ha
    rcases ha with ha | rfl | rfl
    · exact F₄.own ha
    · exact PlainList.some f₄
    · exact PlainList.some r₄
  have sown : ∀ {s : Shared} {lo} {a : Addr} {ss : List Str}, Fm (eL L) lo s → Strs s.heap a ss → ¬ Own (eL L) a := fun F ⟨vs, p, _⟩ => list_own F p.isList
  have nw : ¬ N wl := nN _ (sown F hw) (ne _ hw.some w₂.some)
  have nm : ¬ N ml := nN _ (sown F hm) (ne _ hm.some m₂.some)
  have nt : ¬ N tl := nN _ (sown F ht) (ne _ ht.some t₂.some)
  have nb : ¬ N bl := nN _ (sown F hb) (ne _ hb.some b₂.some)
  have nd : ¬ N da := nN _ nda (ne _ dlive dl₂)
  clear hN ne nN sown x₁ x₂ x₃ x₄ F F₁ F₂ F₃ w₂ m₂ t₂ b₂ d₂ dl₂ hw hm hd ht hb hf hr f₂ dlive
  refine wpAny_execs_cons (forL N (fun i st => ∃ (fss : List (List Str)) (fvs rvs : List Value), Fm (eL L) [("relayed", .ref ra), ("fallen", .ref fa), ("moved", .ref ml), ("bound", .ref bl), ("tied", .ref tl), ("drawn", .ref da), ("word", .ref wl)] st ∧
    st.heap.PlainList fa fvs.toArray ∧ st.heap.PlainList ra rvs.toArray ∧ Paired (StrsF N st.heap) fvs fss ∧ Paired (LLF N st.heap) rvs (([us, mv].take i).map (relT tied)) ∧
    Paired (fun u ss => ss.Perm ((Rw kd (bnd tied) ks4 H0 u).map rowS) ∧ sortedS ss = true) ([us, mv].take i) fss) (List_ (args_cons (eN F₄.rd (lk_next (by kernel_rfl!) (lk_next (by kernel_rfl!) (lk_next (by kernel_rfl!) (lk_next (by kernel_rfl!) (lk_next (by kernel_rfl!) (lk_next (by kernel_rfl!) lk_here)))))) ?_) (by kernel_rfl!))))
  refine args_cons (eN F₄.rd (lk_next (by kernel_rfl!) (lk_next (by kernel_rfl!) lk_here)) ?_) (by kernel_rfl!)
  refine args_nil (wpAny_newList ?_)
  have fLt := fresh_at s₄
  generalize hs5 : ({ heap := s₄.heap.push _, gens := s₄.gens, drawn := s₄.drawn, toks := _, os := s₄.os } : Shared) = s₅
  have x₅ : Ext s₄ s₅ := by subst hs5; exact ⟨fun _ _ e => Heap.get?_push_of_some _ e, rfl, rfl, rfl⟩
  have l₅ : s₅.heap.PlainList s₄.heap.objs.size #[.ref wl, .ref ml] := by subst hs5; exact ⟨_, Heap.get?_push_size _ rfl⟩
  generalize s₄.heap.objs.size = Lt at fLt l₅ ⊢
  clear hs5
  have e₅ := e₄.trans x₅
  have F₅ := F₄.keeps x₅
  refine ⟨_, _, _, wk2_list R.hd l₅.isList, fun a ha => ?_, ⟨[], [], [], F₅.sub (sub_cons lk_here (sub_cons (lk_next (by kernel_rfl!) lk_here) (sub_cons (lk_next (by kernel_rfl!) (lk_next (by kernel_rfl!) lk_here)) (sub_cons (lk_next (by kernel_rfl!) (lk_next (by kernel_rfl!) (lk_next (by kernel_rfl!) lk_here))) (sub_cons (lk_next (by kernel_rfl!) (lk_next (by kernel_rfl!) (lk_next (by kernel_rfl!) (lk_next (by kernel_rfl!) lk_here)))) (sub_cons (lk_next (by kernel_rfl!) (lk_next (by kernel_rfl!) (lk_next (by kernel_rfl!) (lk_next (by kernel_rfl!) (lk_next (by kernel_rfl!) lk_here))))) (sub_cons (lk_next (by kernel_rfl!) (lk_next (by kernel_rfl!) (lk_next (by kernel_rfl!) (lk_next (by kernel_rfl!) (lk_next (by kernel_rfl!) (lk_next (by kernel_rfl!) lk_here)))))) sub_nil)))))) ), f₄.at fun o e => x₅.keep _ _ e, r₄.at fun o e => x₅.keep _ _ e, .nil, .nil, .nil⟩,
    fun i s' s'' ⟨fss, fvs, rvs, j1, j2, j3, j4, j5, j6⟩ k => ⟨fss, fvs, rvs, j1.kt k, plain_kt j2 k, plain_kt j3 k, Paired.imp (fun _ _ y => y.kt k) j4, Paired.imp (fun _ _ y => y.kt k) j5, j6⟩, fun i v s₆ hi hP m₆ j => ?_, fun s₆ m₆ j => ?_⟩
  · obtain ⟨o, ho⟩ := lN a ha
    refine ⟨fun hz => ?_, ⟨o, x₅.keep _ _ ho⟩⟩
    rw [List.mem_singleton] at hz
    subst hz
    rw [fLt] at ho; cases ho
  · obtain ⟨fss, fvs, rvs, j1, j2, j3, j4, j5, j6⟩ := j
    have hrw : ∀ p : Nat × Nat, rowS p = rowS p := fun _ => rfl
    obtain ⟨va, u, rfl, hu, hva, pu, nva, hi2⟩ : ∃ va u, v = .ref va ∧ [us, mv][i]? = some u ∧ Strs s₅.heap va (u.map sg) ∧ us.Perm u ∧ ¬ N va ∧ i < 2 := by
      rcases i with _ | _ | i
      · exact ⟨wl, us, by simpa using hP.symm, rfl, w₄.keeps x₅, .refl _, nw, by decide⟩
      · exact ⟨ml, mv, by simpa using hP.symm, rfl, m₄.keeps x₅, hp, nm, by decide⟩
      · simp at hP
    have e₆ : Ext b s₆ := e₅.then m₆ fN
    have k₆ : ∀ a, ¬ N a → ∀ o, s₄.heap.get? a = some o → s₆.heap.get? a = some o := fun a na o e => m₆.keep _ _ na (x₅.keep _ _ e)
    have uz : u.length = 5 := by rw [← pu.length_eq]; exact h5
    have ucs : ∀ c ∈ u, c ∈ signs := fun c hc => hcs c (pu.mem_iff.mpr hc)
    have uus : ∀ c ∈ u, c ∈ us := fun c hc => pu.mem_iff.mpr hc
    have v₆ : Strs s₆.heap va (u.map sg) := hva.kp fun o e => m₆.keep _ _ nva e
    have fz : fvs.length ≤ 2 := by
      have h1 := Paired.length j4
      have h2 := Paired.length j6
      rw [List.length_take] at h2
      simp at h2
      omega
    have rz : rvs.length ≤ 2 := by
      have h1 := Paired.length j5
      rw [List.length_map, List.length_take] at h1
      simp at h1
      omega
    refine wpAny_assign_Name (sN j1 fun s₇ x₇ F₇ => ?_)
    have m₇ : Mv N s₆ s₇ := x₇.mv iN
    have e₇ : Ext b s₇ := e₆.step x₇ f
    have v₇ := v₆.step j1 x₇
    have T₇ := T.keeps e₇
    have b₇ := b₄.kp fun o e => m₇.keep _ _ nb (k₆ _ nb o e)
    refine wpAny_execs_cons (wpAny_Assign_Name (callN2 (a := 276) (o := ⟨.type "function", none, .func fd276, ⟨[]⟩⟩) (fd := fd276) (fun Q' q => eG T₇ (by kernel_rfl!) q) rfl (eN F₇.rd lk_here (eN F₇.rd (lk_next (by kernel_rfl!) (lk_next (by kernel_rfl!) (lk_next (by kernel_rfl!) (lk_next (by kernel_rfl!) lk_here)))) ⟨T₇ _ _ (fo276 w),
      lawHeap (D := bnd tied) (u := u) (R.le (by decide)) T₇ (e₇.gens.trans hg) v₇ ucs (by omega) b₇ hbs fun hx hl s₈ x₈ I₈ R₈ => ?_⟩))) (by kernel_rfl!))
    have F₈ := F₇.keeps x₈
    refine sN F₈ fun s₉ x₉ F₉ => ?_
    dsimp only
    have I₉ := I₈.step x₉ fun a ha => F₇.own ha
    have R₉ := R₈.step F₈ x₉
    have m₉ : Mv N s₆ s₉ := (m₇.trans x₈.mv).trans (x₉.mv iN)
    have e₉ : Ext b s₉ := e₆.then m₉ fN
    have T₉ := T.keeps e₉
    have v₉ := (v₇.keeps x₈).step F₈ x₉
    have b₉ := b₄.kp fun o e => m₉.keep _ _ nb (k₆ _ nb o e)
    have d₉ : Drw w s₉.heap da us := d₄.kp fun o e => m₉.keep _ _ nd (k₆ _ nd o e)
    clear I₈ R₈ F₈
    refine wpAny_execs_cons (wpAny_Assign_Name (callN2 (a := 281) (o := ⟨.type "function", none, .func fd281, ⟨[]⟩⟩) (fd := fd281) (fun Q' q => eG T₉ (by kernel_rfl!) q) rfl ?_) (by kernel_rfl!))
    obtain ⟨vvs, vpl, vst⟩ := v₉
    have vz : vvs.length = 5 := by have := strs_len vst; rw [List.length_map] at this; omega
    refine lC (fun _ => true) (fun v y => ∀ c t, v = Value.str (sg c) t → ∃ t', y = Value.str (sg (kd c)) t') (F₉.rd.sub (l' := [("drawn", .ref da)]) (sub_cons (lk_next (by kernel_rfl!) (lk_next (by kernel_rfl!) (lk_next (by kernel_rfl!) (lk_next (by kernel_rfl!) (lk_next (by kernel_rfl!) (lk_next (by kernel_rfl!) (lk_next (by kernel_rfl!) lk_here))))))) sub_nil)) ?_
    refine eN F₉.rd (lk_next (by kernel_rfl!) lk_here) ⟨_, _, Ext.refl _, (wk2_list R.hd vpl.isList).wk, Nat.le_trans (show vvs.toArray.size ≤ 1000 by simp; omega) (by decide +kernel), fun C i' v s₁₀ hv k₁₀ F₁₀ => ct0 ⟨rfl, Ext.refl _⟩, fun C i' v s₁₀ hv _ k₁₀ F₁₀ => ?_, fun Dk ys s₁₀ vs hDk hDl hvn hvs hP₁₀ x₁₀ => ?_⟩
    · obtain ⟨c, tc, rfl, hc⟩ := sg_get vst (i := i') (v := v) (by simpa using hv)
      refine drwGet (u := us) (eN F₁₀ (lk_next (by kernel_rfl!) lk_here) (eN F₁₀ lk_here ⟨da, c, tc, rfl, rfl, d₉.kp fun o e => k₁₀ _ o e, uus c (List.mem_of_getElem? hc), fun s₁₁ t₁₁ x₁₁ => ⟨fun c' t' e => ⟨t₁₁, ?_⟩, x₁₁⟩⟩))
      have : c = c' := sg_inj (by injection e)
      rw [this]
    have hvs' : vs = vvs := by
      have := list_of_places hvn hvs
      simpa using this
    subst hvs'
    rw [List.filter_eq_self.mpr (fun _ _ => rfl)] at hP₁₀
    have kst : StrsAre ys.toList ((u.map kd).map sg) := by
      have : ∀ {vs ys : List Value} {l : List Nat}, StrsAre vs (l.map sg) → Paired (fun v y => ∀ c t, v = Value.str (sg c) t → ∃ t', y = Value.str (sg (kd c)) t') vs ys → StrsAre ys ((l.map kd).map sg) := by
        intro vs ys l h1 h2
        induction l generalizing vs ys with
        | nil => cases h1; cases h2; exact .nil
        | cons a l ih =>
          cases h1 with
          | cons _ t h1 =>
            cases h2 with
            | cons h3 h4 =>
              obtain ⟨t', rfl⟩ := h3 a t rfl
              exact .cons _ _ (ih h1 h4)
      exact this vst hP₁₀
    have hk₁₀ : Strs s₁₀.heap Dk ((u.map kd).map sg) := ⟨ys.toList, by simpa using hDl, kst⟩
    have m₁₀ := m₉.trans x₁₀.mv
    have e₁₀ := e₉.trans x₁₀
    have hRle : ∀ p ∈ Rw kd (bnd tied) ks4 H0 u, p.1 ≤ 5 := fun p hp => by
      have := Rw_le (D := bnd tied) u H0 0 (fun _ => Nat.le_refl _) p hp
      omega
    have hRn : (Rw kd (bnd tied) ks4 H0 u).length = 5 := by rw [Rw_len]; exact uz
    refine eN (F₉.keeps x₁₀).rd (lk_next (by kernel_rfl!) (lk_next (by kernel_rfl!) (lk_next (by kernel_rfl!) (lk_next (by kernel_rfl!) (lk_next (by kernel_rfl!) lk_here))))) ⟨T.keeps e₁₀ _ _ (fo281 w), lawRounds (D := bnd tied) (cs := u.map kd) (hs := (Rw kd (bnd tied) ks4 H0 u).map Prod.fst) (R.le (by decide)) (T.keeps e₁₀) hk₁₀
      (fun c hc => by obtain ⟨c', _, rfl⟩ := List.mem_map.mp hc; exact kd_mem c') (b₉.keeps x₁₀) hbs (Rw_lv (bnd_symm tied) hrD kd_mem u) (by rw [List.length_map, List.length_map, hRn, uz]) (by rw [List.length_map]; omega)
      (fun n hn => by obtain ⟨p, hp, rfl⟩ := List.mem_map.mp hn; exact hRle p hp) fun rl s₁₁ x₁₁ hrl => ?_⟩
    have y₁₁ := x₁₀.trans x₁₁
    have F₁₁ := F₉.keeps y₁₁
    refine sN F₁₁ fun s₁₂ x₁₂ F₁₂ => ?_
    dsimp only
    have I₁₂ := (I₉.keeps y₁₁).step x₁₂ fun a ha => F₇.own ha
    have R₁₂ := (R₉.kp y₁₁.keep).step F₁₁ x₁₂
    have m₁₂ : Mv N s₆ s₁₂ := (m₉.trans y₁₁.mv).trans (x₁₂.mv iN)
    have e₁₂ : Ext b s₁₂ := e₆.then m₁₂ fN
    have T₁₂ := T.keeps e₁₂
    have vpl₁₂ := plain_step (vpl.at fun o e => y₁₁.keep _ _ e) F₁₁ x₁₂
    have d₁₂ : Drw w s₁₂.heap da us := d₄.kp fun o e => m₁₂.keep _ _ nd (k₆ _ nd o e)
    obtain ⟨nvs, npl, nst⟩ := hrl.step F₁₁ x₁₂
    clear I₉ R₉ F₁₁ hk₁₀ hP₁₀ b₉ T₉ F₉ d₉
    have nsz : nvs.length = 5 := by have := ints_len nst; unfold toI at this; rw [List.length_map, List.length_map, hRn] at this; exact this
    refine wpAny_execs_cons (WIf (wpAny_isTrue_Compare1 (mI (f := 224) (by decide +kernel) (fun w => (by kernel_rfl!)) (fun w => (by kernel_rfl!)) (eN F₁₂.rd (lk_next (by kernel_rfl!) lk_here) ⟨hx, hl, rfl, T₁₂, I₁₂.inst, cw0 (o := ⟨.type "function", none, .func fd224, ⟨[]⟩⟩) (fd := fd224) rfl ⟨T₁₂ _ _ (fo224 w),
      itemsM (R.le (by decide)) T₁₂ I₁₂.inst R₁₂ (by rw [List.length_map]; omega) fun Di s₁₃ x₁₃ fDi hDi => ?_⟩⟩)) (by kernel_rfl!)))
    have F₁₃ := F₁₂.keeps x₁₃
    refine lCO (fun _ => true) (fun v o => ∀ (j : Nat) t, v = Value.int (j : Nat) t → ∀ r, ((Rw kd (bnd tied) ks4 H0 u).map hrow)[j]? = some r → o.cls = .type "tuple" ∧ ∃ n t1 t2, o.data = .seq #[.str ⟨#[r.1]⟩ t1, .str r.2 t2] n)
      (F₁₃.rd.sub (l' := [("drawn", .ref da), ("rounds", .ref rl), ("signs", .ref va)]) (sub_cons (lk_next (by kernel_rfl!) (lk_next (by kernel_rfl!) (lk_next (by kernel_rfl!) (lk_next (by kernel_rfl!) (lk_next (by kernel_rfl!) (lk_next (by kernel_rfl!) (lk_next (by kernel_rfl!) (lk_next (by kernel_rfl!) lk_here)))))))) (sub_cons lk_here (sub_cons (lk_next (by kernel_rfl!) (lk_next (by kernel_rfl!) lk_here)) sub_nil)))) ?_
    refine c1t (T := "range") (fun Q' q => eB (T₁₂.keeps x₁₃) (by kernel_rfl!) (by kernel_rfl!) q) (wpAny_Constant_int (rangeC fun rg s₁₄ ta tb tc x₁₄ frg hrg => ?_))
    have y₁₄ : Ext s₁₃ s₁₄ := (Ext.toks _ _).trans x₁₄
    have z₁₄ := x₁₃.trans y₁₄
    refine ⟨5, _, _, y₁₄, (wk2_range (n := 5) R.hd hrg (by decide)).bnd_, by decide +kernel, fun C i' v s₁₅ hv k₁₅ G₁₅ => ct0 ⟨rfl, Ext.refl _⟩, fun C i' v s₁₅ hv _ k₁₅ G₁₅ => ?_, fun D2 ys2 s₁₅ vs2 hD2 hl2 hvn2 hvs2 hP₁₅ x₁₅ => ?_⟩
    · obtain ⟨hi5, tj, rfl⟩ := hv
      obtain ⟨c, hc⟩ : ∃ c, u[i']? = some c := ⟨_, List.getElem?_eq_getElem (by omega)⟩
      have hcE : (u.map sg).getD ((i' : Nat) : Int).toNat Str.empty = sg c := by rw [Int.toNat_natCast]; simp [List.getD, hc]
      obtain ⟨nv, hnv⟩ : ∃ nv, nvs[i']? = some nv := ⟨_, List.getElem?_eq_getElem (by omega)⟩
      obtain ⟨n, tn, rfl, hn⟩ := nats_get nst i' nv hnv
      obtain ⟨p, hp5⟩ : ∃ p, (Rw kd (bnd tied) ks4 H0 u)[i']? = some p := ⟨_, List.getElem?_eq_getElem (by omega)⟩
      have hp1 : p.1 = n := by rw [List.getElem?_map, hp5] at hn; simpa using hn
      have hp2 : p.2 = c := by
        have := congrArg (fun l => l[i']?) (Rw_snd (kd := kd) (D := bnd tied) (ks := ks4) u H0)
        simp only [List.getElem?_map, hp5, hc] at this
        simpa using this
      have hn5 : n ≤ 5 := by rw [← hp1]; exact hRle p (List.mem_of_getElem? hp5)
      have q₁₅ : ∀ a o, s₁₂.heap.get? a = some o → s₁₅.heap.get? a = some o := fun a o e => k₁₅.keep _ _ (z₁₄.keep _ _ e)
      refine Tuple_ (args_cons (drwGet (u := us) (eN G₁₅ (lk_next (by kernel_rfl!) lk_here) (Subscript_ (eN G₁₅ (lk_next (by kernel_rfl!) (lk_next (by kernel_rfl!) (lk_next (by kernel_rfl!) lk_here))) (eN G₁₅ lk_here (item_strsA (vpl₁₂.at fun o e => q₁₅ _ o e).isList vst (by omega) (by rw [List.length_map]; omega) (by omega) fun t₁ => ?_)))))) (by kernel_rfl!))
      rw [hcE]
      refine ⟨da, c, t₁, rfl, rfl, d₁₂.kp fun o e => q₁₅ _ o e, uus c (List.mem_of_getElem? hc), fun s₁₆ t₂ x₁₆ => ?_⟩
      refine args_cons (wpAny_BinOp (wpAny_BinOp (wpAny_Constant_str (wpAny_BinOp (subA (eN (G₁₅.keeps (x₁₆.trans (Ext.toks _ (s₁₆.toks + 1)))) (lk_next (by kernel_rfl!) (lk_next (by kernel_rfl!) lk_here)) (eN (G₁₅.keeps (x₁₆.trans (Ext.toks _ (s₁₆.toks + 1)))) lk_here ?_))))))) (by kernel_rfl!)
      have y₁₇ : Ext s₁₅ { s₁₆ with toks := s₁₆.toks + 1 } := x₁₆.trans (Ext.toks _ _)
      generalize hs17 : ({ s₁₆ with toks := s₁₆.toks + 1 } : Shared) = s₁₇ at y₁₇ ⊢
      clear hs17
      have hnv' : nvs.toArray[((i' : Nat) : Int).toNat]? = some (.int (n : Nat) tn) := by rw [Int.toNat_natCast]; simpa using hnv
      have npl₁₇ := npl.at fun o e => y₁₇.keep _ _ (q₁₅ _ o e)
      refine ⟨"list", _, npl₁₇.typeIs, list_getitem_lookup, wpAny_getItem_list npl₁₇ (by omega) (by omega) hnv' ?_⟩
      refine wpAny_Constant_int (add_int (mulDot hn5 fun t₃ k₃ => ?_))
      have y₁₈ : Ext s₁₅ { s₁₇ with toks := k₃ } := y₁₇.trans (Ext.toks _ _)
      generalize hs18 : ({ s₁₇ with toks := k₃ } : Shared) = s₁₈ at y₁₈ ⊢
      clear hs18
      refine Subscript_ (eN (G₁₅.keeps y₁₈) (lk_next (by kernel_rfl!) (lk_next (by kernel_rfl!) (lk_next (by kernel_rfl!) lk_here))) (eN (G₁₅.keeps y₁₈) lk_here (item_strsA (vpl₁₂.at fun o e => y₁₈.keep _ _ (q₁₅ _ o e)).isList vst (by omega) (by rw [List.length_map]; omega) (by omega) fun t₄ => ?_)))
      rw [hcE]
      refine SB.add (fun t₅ k₅ => ?_) (by rw [dots_len]; exact Nat.le_trans (show _ + 1 ≤ 1000 by omega) (by decide +kernel))
      have er : dots (n + 1) ++ sg c = rowS p := by
        rw [← hp1, ← hp2]; exact dots_sg _ _
      rw [er]
      have y₁₉ : Ext s₁₅ { s₁₈ with toks := k₅ } := y₁₈.trans (Ext.toks _ _)
      generalize hs19 : ({ s₁₈ with toks := k₅ } : Shared) = s₁₉ at y₁₉ ⊢
      clear hs19
      refine args_nil (wpAny_newTuple ?_)
      refine ⟨⟨_, _, rfl, none_back y₁₉ (fresh_at s₁₉), Heap.get?_push_size _ rfl, fun j t e r hr => ?_⟩, y₁₉.trans ⟨fun _ _ e => Heap.get?_push_of_some _ e, rfl, rfl, rfl⟩⟩
      have ej : i' = j := by injection e with e _; omega
      subst ej
      rw [List.getElem?_map, hp5] at hr
      cases hr
      refine ⟨rfl, 0, t₂, t₅, ?_⟩
      show Data.seq #[.str (sg (kd c)) t₂, .str (rowS p) t₅] 0 = Data.seq #[.str (sg (kd p.2)) t₂, .str (rowS p) t₅] 0
      rw [hp2]
    have rowsD : RowsAt s₁₅.heap D2 ((Rw kd (bnd tied) ks4 H0 u).map hrow) := by
      rw [List.filter_eq_self.mpr (fun _ _ => rfl)] at hP₁₅
      have hl5 : ys2.toList.length = 5 := by rw [← Paired.length hP₁₅]; exact hvn2
      refine ⟨⟨ys2, hl2, Paired.of_get (by rw [hl5, List.length_map, hRn]) fun j y r hy hr => ?_⟩⟩
      have hj5 : j < 5 := by rw [← hl5]; exact (List.getElem?_eq_some_iff.mp hy).1
      obtain ⟨v, hv⟩ : ∃ v, vs2[j]? = some v := ⟨_, List.getElem?_eq_getElem (by omega)⟩
      obtain ⟨-, tv, rfl⟩ := hvs2 j v hv
      obtain ⟨y', hy', T, o, rfl, -, ho, hG⟩ := Paired.get hP₁₅ j _ hv
      rw [hy] at hy'
      cases hy'
      obtain ⟨hc, n, t1, t2, hdd⟩ := hG j tv rfl r hr
      exact ⟨⟨T, t1, t2, rfl, o, ho, hc, n, hdd⟩⟩
    refine neRows R ((hDi.kp (y₁₄.trans x₁₅).keep)) rowsD (row_ok (bnd tied) ucs (by omega)) (wpAny_truthy_bool ⟨fun hc => absurd hc (by decide), fun _ => ?_⟩)
    refine wpAny_execs_nil ?_
    dsimp only
    have y₁₅ := z₁₄.trans x₁₅
    have F₁₅ := F₁₂.keeps y₁₅
    have m₁₅ := m₁₂.trans y₁₅.mv
    have e₁₅ := e₁₂.trans y₁₅
    have T₁₅ := T.keeps e₁₅
    have I₁₅ := I₁₂.keeps y₁₅
    have R₁₅ := R₁₂.kp y₁₅.keep
    have o₁₅ : Mv (Own (eL L)) s₆ s₁₅ := (((((x₇.mv fun _ h => h).trans x₈.mv).trans (x₉.mv fun _ h => h)).trans y₁₁.mv).trans (x₁₂.mv fun _ h => h)).trans y₁₅.mv
    have fl₁₅ := j2.at fun o e => o₁₅.keep _ _ nfo e
    have rl₁₅ := j3.at fun o e => o₁₅.keep _ _ nro e
    have lN₁₅ : ∀ a, N a → ∃ o, s₁₅.heap.get? a = some o := fun a ha => by
      rcases cN a ha with ha | rfl | rfl
      · exact F₁₅.own ha
      · exact PlainList.some fl₁₅
      · exact PlainList.some rl₁₅
    refine wpAny_execs_cons (wpAny_Expr ?_)
    refine lM PySem.F.slot_list_append PySem.F.type_list_append (eN F₁₅.rd (lk_next (by kernel_rfl!) (lk_next (by kernel_rfl!) (lk_next (by kernel_rfl!) (lk_next (by kernel_rfl!) lk_here)))) ⟨fa, _, rfl, fl₁₅, ?_⟩)
    refine c1b (id := "sorted") (fun Q' q => eB T₁₅ (by kernel_rfl!) (by kernel_rfl!) q) (mI (f := 217) (by decide +kernel) (fun w => (by kernel_rfl!)) (fun w => (by kernel_rfl!)) (eN F₁₅.rd (lk_next (by kernel_rfl!) lk_here) ⟨hx, hl, rfl, T₁₅, I₁₅.inst, cw0 (o := ⟨.type "function", none, .func fd217, ⟨[]⟩⟩) (fd := fd217) rfl ⟨T₁₅ _ _ (fo217 w),
      valuesM (R.le (by decide)) T₁₅ I₁₅.inst R₁₅ (by rw [List.length_map]; omega) fun Dv zs s₁₆ x₁₆ fDv hDv pDv => ?_⟩⟩))
    have zst : StrsAre zs.toList ((Rw kd (bnd tied) ks4 H0 u).map rowS) := by
      have := strs_paired (f := fun r : Nat × Str => r.2) pDv
      rwa [List.map_map] at this
    refine sortedL (ss := (Rw kd (bnd tied) ks4 H0 u).map rowS) ⟨zs.toList, by simpa using hDv, zst⟩ (by rw [List.length_map, hRn]; decide) fun Ds ss' s₁₇ x₁₇ fDs hDs hpm hso => ?_
    have y₁₇ := x₁₆.trans x₁₇
    refine append_ (fl₁₅.at fun o e => y₁₇.keep _ _ e) (by simp; omega) fun s₁₈ b₁₈ fl₁₈ => ?_
    dsimp only
    have nDs : ¬ N Ds := fun z => by obtain ⟨o, ho⟩ := lN₁₅ _ z; rw [x₁₆.keep _ _ ho] at fDs; cases fDs
    have hDs₁₈ := hDs.but b₁₈ (fun z => nDs (z ▸ iF))
    have F₁₈ := (F₁₅.keeps y₁₇).but b₁₈ nfo
    have m₁₈ : Mv N s₆ s₁₈ := (m₁₅.trans y₁₇.mv).trans (b₁₈.mv iF)
    have e₁₈ : Ext b s₁₈ := e₆.then m₁₈ fN
    have rl₁₈ := (rl₁₅.at fun o e => y₁₇.keep _ _ e).at fun o e => b₁₈.keep _ _ (Ne.symm nar) e
    have lN₁₈ : ∀ a, N a → ∃ o, s₁₈.heap.get? a = some o := fun a ha => by
      rcases cN a ha with ha | rfl | rfl
      · exact F₁₈.own ha
      · exact PlainList.some fl₁₈
      · exact PlainList.some rl₁₈
    obtain ⟨tvs, tpl, tst⟩ := t₄.kp fun o e => m₁₈.keep _ _ nt (k₆ _ nt o e)
    obtain ⟨uvs, upl, ust⟩ := hva.kp fun o e => m₁₈.keep _ _ nva (m₆.keep _ _ nva e)
    have uvz : uvs.length = 5 := by have := strs_len ust; rw [List.length_map] at this; omega
    have tvz : tvs.length ≤ 10 := by
      have := strs_len tst
      rw [List.length_map] at this
      have := hT.len
      omega
    clear m₁₅ R₁₅ I₁₅ pDv hDv R₁₂ I₁₂
    refine wpAny_execs_cons (wpAny_Expr ?_)
    refine lM PySem.F.slot_list_append PySem.F.type_list_append (eN F₁₈.rd (lk_next (by kernel_rfl!) (lk_next (by kernel_rfl!) (lk_next (by kernel_rfl!) lk_here))) ⟨ra, _, rfl, rl₁₈, ?_⟩)
    refine lCcO (fun _ => true) (fun v o => ∀ p t, v = Value.str (pr p) t → ∃ (vs : List Value) (n : Nat), o = { cls := .type "list", data := .seq vs.toArray n } ∧ StrsAre vs (relS u p)) (F₁₈.rd.sub (l' := [("signs", .ref va)]) (sub_cons (lk_next (by kernel_rfl!) (lk_next (by kernel_rfl!) lk_here)) sub_nil)) ?_
    refine eN F₁₈.rd (lk_next (by kernel_rfl!) (lk_next (by kernel_rfl!) (lk_next (by kernel_rfl!) (lk_next (by kernel_rfl!) (lk_next (by kernel_rfl!) (lk_next (by kernel_rfl!) (lk_next (by kernel_rfl!) lk_here))))))) ⟨_, _, _, Ext.refl _, wk2_list R.hd tpl.isList, Nat.le_trans (show tvs.toArray.size ≤ 1000 by simp; omega) (by decide +kernel), fun C X i' v s₁₉ hv k₁₉ G₁₉ => ct0 ⟨rfl, Ext.refl _⟩, fun C X i' v s₁₉ hv _ k₁₉ G₁₉ => ?_, fun Dr ys3 s₁₉ vs3 hDr hlr hvn3 hvs3 hP₁₉ x₁₉ => ?_⟩
    · obtain ⟨y, ty, rfl, hy⟩ := strs_get tst i' v (by simpa using hv)
      obtain ⟨p, hp', rfl⟩ : ∃ p, tied[i']? = some p ∧ pr p = y := by simpa using hy
      have hpm := hT.mem p (List.mem_of_getElem? hp')
      have upl₁₉ := upl.at fun o e => k₁₉.keep _ _ e
      refine lC (pS (inP kd p.1 p.2)) (fun v y => y = v) (G₁₉.sub (l' := [("pair", .str (pr p) ty)]) (sub_cons lk_here sub_nil)) ?_
      refine eN G₁₉ (lk_next (by kernel_rfl!) lk_here) ⟨_, _, Ext.refl _, (wk2_list R.hd upl₁₉.isList).wk, Nat.le_trans (show uvs.toArray.size ≤ 1000 by simp; omega) (by decide +kernel), fun C' i'' v s₂₀ hv k₂₀ G₂₀ => ?_, fun C' i'' v s₂₀ hv _ k₂₀ G₂₀ => eN G₂₀ lk_here ⟨rfl, Ext.refl _⟩, fun D4 ys4 s₂₀ vs4 hD4 hl4 hvn4 hvs4 hP₂₀ x₂₀ => ?_⟩
      · obtain ⟨c, tc, rfl, hc⟩ := sg_get ust (i := i'') (v := v) (by simpa using hv)
        have T' : YP w s₂₀.heap := (T.keeps (e₁₈.trans k₁₉)).kp k₂₀
        refine ct1 (wpAny_isTrue_Compare1 (c1f (a := 271) (fun Q' q => eG T' (by kernel_rfl!) q) rfl (eN G₂₀ lk_here ⟨T' _ _ (fo271 w), kindOf (R.le (by decide)) T' (ucs c (List.mem_of_getElem? hc)) fun s₂₁ t₂₁ x₂₁ => eN (G₂₀.keeps x₂₁) (lk_next (by kernel_rfl!) lk_here) (inPair hpm (kd_mem c) (wpAny_truthy_bool ⟨rfl, x₂₁⟩))⟩)) (by kernel_rfl!))
      · have hvs4' : vs4 = uvs := by
          have := list_of_places hvn4 hvs4
          simpa using this
        subst hvs4'
        have hyy := paired_eq hP₂₀
        obtain ⟨n4, e4⟩ := hl4
        refine ⟨⟨D4, _, rfl, hD4, e4, fun p' t e' => ⟨ys4.toList, n4, by simp, ?_⟩⟩, x₂₀⟩
        have ep : p = p' := pr_inj (by injection e')
        subst ep
        rw [hyy]
        exact strs_filter ust
    have hvs3' : vs3 = tvs := by
      have := list_of_places hvn3 hvs3
      simpa using this
    subst hvs3'
    rw [List.filter_eq_self.mpr (fun _ _ => rfl)] at hP₁₉
    have hlen3 : ys3.toList.length = tied.length := by
      rw [← Paired.length hP₁₉, strs_len tst, List.length_map]
    have LL₁₉ : Paired (StrsF N s₁₉.heap) ys3.toList (relT tied u) := by
      refine Paired.of_get (by rw [hlen3]; unfold relT; rw [List.length_map]) fun j y ss hy hss => ?_
      obtain ⟨p, hp', rfl⟩ : ∃ p, tied[j]? = some p ∧ relS u p = ss := by
        unfold relT at hss
        simpa using hss
      obtain ⟨v, hv⟩ : ∃ v, vs3[j]? = some v := ⟨_, List.getElem?_eq_getElem (by
        have := strs_len tst
        rw [List.length_map] at this
        have := (List.getElem?_eq_some_iff.mp hp').1
        omega)⟩
      obtain ⟨y', ty, rfl, hy'⟩ := strs_get tst j v hv
      have ey : y' = pr p := by rw [List.getElem?_map, hp'] at hy'; simpa using hy'.symm
      subst ey
      obtain ⟨z, hz, Tz, o, rfl, fz', ho, hG⟩ := Paired.get hP₁₉ j _ hv
      rw [hy] at hz
      cases hz
      obtain ⟨ws, n, rfl, hws⟩ := hG p ty rfl
      refine ⟨Tz, rfl, fun hn => ?_, ws, ⟨n, ?_⟩, hws⟩
      · obtain ⟨o', ho'⟩ := lN₁₈ _ hn
        rw [fz'] at ho'; cases ho'
      · exact ho
    have nDr : ¬ N Dr := fun z => by obtain ⟨o, ho⟩ := lN₁₈ _ z; rw [hDr] at ho; cases ho
    refine append_ (rl₁₈.at fun o e => x₁₉.keep _ _ e) (by simp; omega) fun s₂₀ b₂₀ rl₂₀ => ?_
    dsimp only
    refine wpAny_execs_nil ?_
    dsimp only
    have F₂₀ := (F₁₈.keeps x₁₉).but b₂₀ nro
    have mm : Mv N s₁₉ s₂₀ := b₂₀.mv iR
    have m₂₀ : Mv N s₆ s₂₀ := (m₁₈.trans x₁₉.mv).trans mm
    have tk : [us, mv].take (i + 1) = [us, mv].take i ++ [u] := by rw [List.take_add_one, hu]; rfl
    refine ⟨m₂₀, fss ++ [ss'], fvs ++ [.ref Ds], rvs ++ [.ref Dr], F₂₀.sub (sub_cons (lk_next (by kernel_rfl!) (lk_next (by kernel_rfl!) (lk_next (by kernel_rfl!) lk_here))) (sub_cons (lk_next (by kernel_rfl!) (lk_next (by kernel_rfl!) (lk_next (by kernel_rfl!) (lk_next (by kernel_rfl!) lk_here)))) (sub_cons (lk_next (by kernel_rfl!) (lk_next (by kernel_rfl!) (lk_next (by kernel_rfl!) (lk_next (by kernel_rfl!) (lk_next (by kernel_rfl!) lk_here))))) (sub_cons (lk_next (by kernel_rfl!) (lk_next (by kernel_rfl!) (lk_next (by kernel_rfl!) (lk_next (by kernel_rfl!) (lk_next (by kernel_rfl!) (lk_next (by kernel_rfl!) lk_here)))))) (sub_cons (lk_next (by kernel_rfl!) (lk_next (by kernel_rfl!) (lk_next (by kernel_rfl!) (lk_next (by kernel_rfl!) (lk_next (by kernel_rfl!) (lk_next (by kernel_rfl!) (lk_next (by kernel_rfl!) lk_here))))))) (sub_cons (lk_next (by kernel_rfl!) (lk_next (by kernel_rfl!) (lk_next (by kernel_rfl!) (lk_next (by kernel_rfl!) (lk_next (by kernel_rfl!) (lk_next (by kernel_rfl!) (lk_next (by kernel_rfl!) (lk_next (by kernel_rfl!) lk_here)))))))) (sub_cons (lk_next (by kernel_rfl!) (lk_next (by kernel_rfl!) (lk_next (by kernel_rfl!) (lk_next (by kernel_rfl!) (lk_next (by kernel_rfl!) (lk_next (by kernel_rfl!) (lk_next (by kernel_rfl!) (lk_next (by kernel_rfl!) (lk_next (by kernel_rfl!) lk_here))))))))) sub_nil))))))), ?_, ?_, ?_, ?_, ?_⟩
    · have := (fl₁₈.at fun o e => x₁₉.keep _ _ e).at fun o e => b₂₀.keep _ _ nar e
      simpa using this
    · simpa using rl₂₀
    · exact Paired.snoc (Paired.imp (fun _ _ y => y.mv m₂₀) j4) ⟨Ds, rfl, nDs, (hDs₁₈.keeps x₁₉).kp fun o e => mm.keep _ _ nDs e⟩
    · rw [tk, List.map_append]
      exact Paired.snoc (Paired.imp (fun _ _ y => y.mv m₂₀) j5) ⟨Dr, rfl, nDr, ys3.toList, by simpa using hlr.at fun o e => mm.keep _ _ nDr e, LL.inner LL₁₉ mm⟩
    · rw [tk]
      exact Paired.snoc j6 ⟨hpm, hso⟩
  · obtain ⟨fss, fvs, rvs, j1, j2, j3, j4, j5, j6⟩ := j
    dsimp only
    have e₆ := e₅.then m₆ fN
    have kk : ∀ a, ¬ N a → ∀ o, s₄.heap.get? a = some o → s₆.heap.get? a = some o := fun a na o e => m₆.keep _ _ na (x₅.keep _ _ e)
    obtain ⟨f0, f1, rfl, p0, p1⟩ := Paired.twoL (a := us) (b := mv) j6
    exact h s₆ N fa ra fvs rvs f0 f1 e₆ (j1.sub (sub_cons lk_here (sub_cons (lk_next (by kernel_rfl!) lk_here) (sub_cons (lk_next (by kernel_rfl!) (lk_next (by kernel_rfl!) lk_here)) (sub_cons (lk_next (by kernel_rfl!) (lk_next (by kernel_rfl!) (lk_next (by kernel_rfl!) lk_here))) (sub_cons (lk_next (by kernel_rfl!) (lk_next (by kernel_rfl!) (lk_next (by kernel_rfl!) (lk_next (by kernel_rfl!) (lk_next (by kernel_rfl!) lk_here))))) (sub_cons (lk_next (by kernel_rfl!) (lk_next (by kernel_rfl!) (lk_next (by kernel_rfl!) (lk_next (by kernel_rfl!) (lk_next (by kernel_rfl!) (lk_next (by kernel_rfl!) lk_here)))))) sub_nil))))))) (w₄.kp (kk _ nw)) (m₄.kp (kk _ nm)) (d₄.kp (kk _ nd)) (b₄.kp (kk _ nb)) iN nfo nro j2 j3 j4 j5 p0.1 p1.1 p0.2 p1.2
end
end Mine
end
section
open PySem PySem.W PySem.Calls PyProof.Rows PySem.W.X PySem.W.XRun PySem.SeqAt
set_option Elab.async false
set_option maxRecDepth 100000
set_option maxHeartbeats 0
set_option linter.unusedVariables false
namespace Mine
noncomputable def liveBut (h : Heap) (L : Addr) : List (Addr × Obj) := (List.range h.objs.size).filterMap fun a => if a = L then none else (h.get? a).map fun o => (a, o)
theorem mem_live {h : Heap} {L a : Addr} {o : Obj} : (a, o) ∈ liveBut h L ↔ a ≠ L ∧ h.get? a = some o := by
  unfold liveBut
  rw [List.mem_filterMap]
  refine ⟨fun ⟨x, hx, e⟩ => ?_, fun ⟨h1, h2⟩ => ⟨a, List.mem_range.mpr (Heap.lt_size h2), by rw [if_neg h1, h2]; rfl⟩⟩
  by_cases hxL : x = L
  · rw [if_pos hxL] at e; cases e
  · rw [if_neg hxL] at e
    cases ho : h.get? x with
    | none => rw [ho] at e; cases e
    | some o' =>
      rw [ho] at e
      cases e
      exact ⟨hxL, ho⟩
theorem ksk_strs {vs : List Value} {ss : List Str} {out : List Value} (hS : StrsAre vs ss) (h : KskOut false (ss.map fun x => ((x.length : Nat) : Int)) vs out) :
    ∃ ss', StrsAre out ss' ∧ ss'.Perm ss ∧ ss'.Pairwise fun x y => x.length ≤ y.length := by
  obtain ⟨ps, hp, rfl, hw⟩ := h
  have hz : ∀ {vs : List Value} {ss : List Str}, StrsAre vs ss → ∀ p ∈ (ss.map fun x => ((x.length : Nat) : Int)).zip vs, ∃ x t, p.2 = .str x t ∧ p.1 = ((x.length : Nat) : Int) := by
    intro vs ss h
    induction h with
    | nil => intro p hp; simp at hp
    | cons x t h ih =>
      intro p hp
      rw [List.map_cons, List.zip_cons_cons] at hp
      rcases List.mem_cons.mp hp with rfl | hp
      · exact ⟨x, t, rfl, rfl⟩
      · exact ih p hp
  have hall : ∀ p ∈ ps, ∃ x t, p.2 = .str x t ∧ p.1 = ((x.length : Nat) : Int) := fun p h => hz hS p (hp.mem_iff.mp h)
  have hlen : vs.length ≤ (ss.map fun x => ((x.length : Nat) : Int)).length := by rw [List.length_map, strs_len hS]; exact Nat.le_refl _
  refine ⟨(ps.map Prod.snd).map strOf, strsAre_map _ fun v hv => ?_, ?_, ?_⟩
  · obtain ⟨p, h1, rfl⟩ := List.mem_map.mp hv
    obtain ⟨x, t, e, _⟩ := hall p h1
    exact ⟨x, t, e⟩
  · have := (hp.map Prod.snd).map strOf
    rw [List.map_snd_zip hlen, hS.strs] at this
    exact this
  · rw [List.map_map, List.pairwise_map]
    refine hw.imp_of_mem fun {p q} h1 h2 h3 => ?_
    obtain ⟨x, t, e1, e2⟩ := hall p h1
    obtain ⟨y, u, e3, e4⟩ := hall q h2
    show (strOf p.2).length ≤ (strOf q.2).length
    rw [e1, e3]
    rw [e2, e4] at h3
    have h3 : ((x.length : Nat) : Int) ≤ ((y.length : Nat) : Int) := h3
    show x.length ≤ y.length
    omega
theorem sortedLen {w : World} {A : Around} {s : Shared} {env : Env} {lo : List (Str × Value)} {l : Addr} {ss : List Str} {Q : Value → Shared → Prop} (F : Fm env lo s) (hl : Strs s.heap l ss) (hz : ss.length < 64) (hy : ∀ y ∈ ss, y.length ≤ 1000)
    (h : ∀ D ss' s', Step env s s' → Fm env lo s' → Strs s'.heap D ss' → ss'.Perm ss → (ss'.Pairwise fun x y => x.length ≤ y.length) → Q (.ref D) s') :
    WP w A (call (.builtin "sorted") [.ref l] [(Str.ofString "key", .builtin "len")]) Q s := by
  obtain ⟨vs, pl, st⟩ := hl
  obtain ⟨m, hn, hb⟩ := F.rd.ns
  have F0 : Fr {} env.locals s.heap m := ⟨hn, fun b o e => by have := Heap.lt_size e; exact absurd this (Nat.not_lt_zero _), Nat.zero_le _⟩
  have N0 : News {} env.locals s.heap (liveBut s.heap env.locals) := fun p hp => by
    obtain ⟨h1, h2⟩ := mem_live.mp (show (p.1, p.2) ∈ _ from hp)
    exact ⟨h2, h1, Heap.get?_none_of_le (Nat.zero_le _)⟩
  refine ksk_sorted (kz := ss.map fun x => ((x.length : Nat) : Int)) (b := false) (f := .builtin "len") F0 N0 pl.isList (by rw [List.length_map, strs_len st]) (by rw [strs_len st]; exact hz) (ksk_s1 _ _) (fun x => ksk_l1 _ _) (fun x => ksk_t4 "len" x)
    (fun i v k hv hk hp tk own F1 N1 => ?_) fun D h' tk out c F1 N1 hD hout => ?_
  · obtain ⟨y, ty, rfl, hyi⟩ := strs_get st i v hv
    have hk' : k = ((y.length : Nat) : Int) := by rw [List.getElem?_map, hyi] at hk; simpa using hk.symm
    subst hk'
    have hyl := hy y (List.mem_of_getElem? hyi)
    exact P.len_str (by omega) (KskEnd.intro F1 N1 fun p hp => hp)
  · obtain ⟨ss', h1, h2, h3⟩ := ksk_strs st hout
    have keep : ∀ a o, a ≠ env.locals → s.heap.get? a = some o → h'.get? a = some o := fun a o ne e => (N1 (a, o) (List.mem_cons_of_mem _ (mem_live.mpr ⟨ne, e⟩))).1
    have x : Step env s { s with heap := h', toks := tk } := ⟨fun b o n e => keep b o (fun z => n (.inl z)) e, rfl, rfl, rfl⟩
    refine h D ss' _ x ⟨⟨⟨m, F1.ns, hb⟩, fun y v c h1 h2 h3 => ?_⟩, fun p c h => ?_, F.apart, F.above⟩ ⟨out.toList, ⟨c, ?_⟩, h1⟩ h2 h3
    · obtain ⟨o, e, d⟩ := F.rd.cell y v c h1 h2 h3
      exact ⟨o, keep _ _ (Nat.ne_of_gt (F.above y c (mem_of_lookup h3))) e, d⟩
    · obtain ⟨u, o, e, d⟩ := F.has p c h
      exact ⟨u, o, keep _ _ (Nat.ne_of_gt (F.above p c (mem_of_lookup h))) e, d⟩
    · have := (N1 (D, seqObj "list" out c) List.mem_cons_self).1
      simpa using this
noncomputable def unS (x : Str) : Nat × Nat := unrow x.cps.toList
theorem unS_row (p : Nat × Nat) : unS (rowS p) = p := by
  show unrow ((rowL p).toArray.toList) = p
  exact unrow_row p
theorem rows_list {l : List (Nat × Nat)} {ss : List Str} (h : ss.Perm (l.map rowS)) : ∃ wl : List (Nat × Nat), ss = wl.map rowS ∧ wl.Perm l := by
  refine ⟨ss.map unS, ?_, ?_⟩
  · rw [List.map_map]
    have : ∀ x ∈ ss, (rowS ∘ unS) x = x := fun x hx => by
      obtain ⟨p, _, rfl⟩ := List.mem_map.mp (h.mem_iff.mp hx)
      show rowS (unS (rowS p)) = rowS p
      rw [unS_row]
    have h2 : ss.map (rowS ∘ unS) = ss.map id := List.map_congr_left this
    rw [h2, List.map_id]
  · have := h.map unS
    rw [List.map_map] at this
    have e : unS ∘ rowS = id := funext unS_row
    rw [e, List.map_id] at this
    exact this
theorem permS {l m : List (Nat × Nat)} : (l.map rowS).Perm (m.map rowS) ↔ l.Perm m := by
  refine ⟨fun h => ?_, fun h => h.map _⟩
  have := h.map unS
  rw [List.map_map, List.map_map] at this
  have e : unS ∘ rowS = id := funext unS_row
  rw [e, List.map_id, List.map_id] at this
  exact this
section
variable {tied : List (Nat × Nat)} (hT : Tied tied)
include hT
theorem Tied.kd_refl : ∀ a, bnd tied (kd a) (kd a) = true := fun a => by
  have := hT.refl _ (kd_mem a)
  unfold bnd
  rw [List.contains_iff_mem.mpr this]; rfl
theorem fallen_same {us mv : List Nat} {f0 f1 : List Str} (hp : us.Perm mv) (p0 : f0.Perm ((Rw kd (bnd tied) ks4 H0 us).map rowS)) (p1 : f1.Perm ((Rw kd (bnd tied) ks4 H0 mv).map rowS)) (s0 : sortedS f0 = true) (s1 : sortedS f1 = true) :
    decide (f0 = f1) = sameL kd (bnd tied) us mv := by
  have h := rows_same (kd := kd) (D := bnd tied) (ks := ks4) (bnd_symm tied) hT.kd_refl kd_mem (H := H0) hp
  by_cases e : f0 = f1
  · rw [decide_eq_true e]
    subst e
    exact (h.mp (permS.mp (p0.symm.trans p1))).symm
  · rw [decide_eq_false e]
    cases hs : sameL kd (bnd tied) us mv with
    | false => rfl
    | true => exact absurd (sorted_uniq s0 s1 (p0.trans ((permS.mpr (h.mpr hs)).trans p1.symm))) e
theorem relayed_same {us mv : List Nat} (hp : us.Perm mv) : decide (relT tied us = relT tied mv) = sameL kd (bnd tied) us mv := by
  have h := rel_same (kd := kd) (tied := tied) (fun p h => by
    have hm := hT.mem p h
    have r : ∀ k ∈ ks4, bnd tied k k = true := fun k hk => by
      unfold bnd
      rw [List.contains_iff_mem.mpr (hT.refl k hk)]; rfl
    exact ⟨r _ hm.1, r _ hm.2⟩) hT.kd_refl hp
  have e : ∀ u, relT tied u = (rel kd tied u).map (List.map sg) := fun u => by
    unfold relT rel
    rw [List.map_map]
    rfl
  have inj : ∀ a b : List (List Nat), a.map (List.map sg) = b.map (List.map sg) → a = b := by
    have i1 : ∀ a b : List Nat, a.map sg = b.map sg → a = b := by
      intro a
      induction a with
      | nil => intro b h; cases b with | nil => rfl | cons _ _ => simp at h
      | cons x a ih =>
        intro b h
        cases b with
        | nil => simp at h
        | cons y b =>
          rw [List.map_cons, List.map_cons] at h
          injection h with h1 h2
          rw [sg_inj h1, ih b h2]
    intro a
    induction a with
    | nil => intro b h; cases b with | nil => rfl | cons _ _ => simp at h
    | cons x a ih =>
      intro b h
      cases b with
      | nil => simp at h
      | cons y b =>
        rw [List.map_cons, List.map_cons] at h
        injection h with h1 h2
        rw [i1 _ _ h1, ih b h2]
  by_cases q : relT tied us = relT tied mv
  · rw [decide_eq_true q]
    rw [e, e] at q
    exact (h.mp (inj _ _ q)).symm
  · rw [decide_eq_false q]
    cases hs : sameL kd (bnd tied) us mv with
    | false => rfl
    | true => exact absurd (by rw [e, e, h.mpr hs]) q
end
end Mine
end
section
open PySem PySem.W PySem.Calls PyProof.Rows PySem.W.X PySem.W.XRun PySem.SeqAt
set_option Elab.async false
set_option maxRecDepth 100000
set_option maxHeartbeats 0
set_option linter.unusedVariables false
namespace Mine
theorem lCA {w : World} {A : Around} {s : Shared} {env : Env} {elt iter : Expr} {x y : Str} {px py : Pos} {ifs : List Expr} {scope : Scope} {pos spos : Pos} {Q : Flow → Shared → Prop} {lo lr : List (Str × Value)}
    (p : Value → Bool) (G : Value → Value → Prop) (F₀ : Fm env lo s)
    (h : WP w A (eval iter env) (fun xv s₁ => ∃ n P, Fm env lo s₁ ∧ Sub lr lo ∧ Wk w A xv n P s₁ ∧ n ≤ sizeLine ∧
      (∀ C i v s₂, P i v → Kp s₁.heap s₂.heap → Rd (kE scope C env) ((x, v) :: lr) s₂.heap → WP w A (compTest ifs (kE scope C env)) (fun ok s₃ => ok = p v ∧ Ext s₂ s₃) s₂) ∧
      (∀ C i v s₂, P i v → p v = true → Kp s₁.heap s₂.heap → Rd (kE scope C env) ((x, v) :: lr) s₂.heap → WP w A (eval elt (kE scope C env)) (fun y s₃ => G v y ∧ Ext s₂ s₃) s₂) ∧
      (∀ D ys s' (vs : List Value), s₁.heap.get? D = none → s'.heap.PlainList D ys → vs.length = n → (∀ j v, vs[j]? = some v → P j v) → Paired G (vs.filter p) ys.toList → Step env s₁ s' → Fm env ((y, .ref D) :: lo) s' → Q .next s')) s)
    (hsw : swapsWith (.ListComp elt [⟨.Name x px, iter, ifs, 0⟩] scope pos) (some (.Name y py)) spos.line env = pure true := by kernel_rfl!)
    (hy : (env.kindOf y == some .local) = true := by kernel_rfl!) (hke : env.scope.kind = .function := by kernel_rfl!)
    (hfree : (scope.names.all fun y => !(y.2 == .free) || (env.cells.lookup y.1).isSome) = true := by kernel_rfl!)
    (hcell : (scope.names.all fun y => !(y.2 == .cell)) = true := by kernel_rfl!) (hkind : scope.kind = .function := by kernel_rfl!)
    (hnames : (scope.names.all fun y => !(y.2 == .local) || (scope.names.lookup y.1 == some .local)) = true := by kernel_rfl!) (hx : scope.names.lookup x = some .local := by kernel_rfl!)
    (hlo : (lr.all fun e => e.1 == x || !(scope.names.lookup e.1 == some .local)) = true := by kernel_rfl!)
    (hs : ∀ x, foldedSetIterable iter env x = pure x := by intro _; rfl) :
    WP w A (exec (.Assign [.Name y py] (.ListComp elt [⟨.Name x px, iter, ifs, 0⟩] scope pos) spos) env) Q s := by
  have hc : ∀ y ∈ scope.names, y.2 ≠ .cell := fun y hy e => by
    have := List.all_eq_true.mp hcell y hy
    rw [e] at this; cases this
  have hy1 := eq_of_beq hy
  refine wpAny_Assign_ListComp_free (cl := cloOf scope.names env []) p G hsw (clo_for hfree) hc hkind (fun y hy e => ?_) hx hy1 (by rw [hke]; rfl) (wpAny_mono h (fun xv s₁ h₁ => ?_) fun _ _ e => e) hs
  · have := List.all_eq_true.mp hnames y hy
    rw [e] at this
    exact eq_of_beq this
  · obtain ⟨n, P, F, hsub, W, hn, h1, h2, h3⟩ := h₁
    refine wpAny_mono W (fun it s₂ h₂ => ?_) fun _ _ e => e
    obtain ⟨I, fp, wr, St, rfl, W', hst, hfp, hwr, e₂⟩ := h₂
    have kp : ∀ {s₃ : Shared}, (∀ b o, b ∉ wr → s₂.heap.get? b = some o → s₃.heap.get? b = some o) → Kp s₁.heap s₃.heap := fun k b o e =>
      k b o (fun hb => by rw [hwr b hb] at e; cases e) (e₂.keep b o e)
    obtain ⟨m, hns, hm⟩ := F.rd.ns
    have hLw : env.locals ∉ wr := fun hb => by obtain ⟨o, es, ep, e, _⟩ := hns; rw [hwr _ hb] at e; cases e
    refine ⟨I, fp, wr, n, P, St, m, rfl, W', hn, hst, hfp, hLw, hns.keeps e₂.keep, ⟨fun C i v s₃ m₃ E' hC hP hN hm hk ht => ?_, fun C i v s₃ m₃ E' hC hP hp hN hm hk ht => ?_⟩, fun D h' tk ys vs hD hl hpl hlen hP hF hN hk => ?_⟩
    · refine wpAny_mono (h1 C i v s₃ hP (kp hk) (((F.rd.sub hsub).kp (kp hk)).inner hN hm hc hx hlo)) (fun ok s₄ h₄ => ⟨h₄.1, keeps_ext h₄.2⟩) fun _ _ e => e.elim
    · refine wpAny_mono (h2 C i v s₃ hP hp (kp hk) (((F.rd.sub hsub).kp (kp hk)).inner hN hm hc hx hlo)) (fun ok s₄ h₄ => ⟨h₄.1, keeps_ext h₄.2⟩) fun _ _ e => e.elim
    · have kk : ∀ b o, b ≠ env.locals → s₁.heap.get? b = some o → h'.get? b = some o := fun b o nb e => hk b o nb (fun hb => by rw [hwr b hb] at e; cases e) (e₂.keep _ _ e)
      refine h3 D ys _ vs (none_back e₂ hD) hpl hlen hP hF ⟨fun b o nb e => kk b o (fun z => nb (.inl z)) e, e₂.gens, e₂.drawn, e₂.os⟩ ⟨⟨⟨_, hN, fun z u e k => ?_⟩, fun z u c e k hc => ?_⟩, fun n c hm => ?_, F.apart, F.above⟩
      · by_cases hz : z = y
        · subst hz
          rw [lk_here] at e
          rw [if_pos rfl]; exact e
        · rw [if_neg hz]
          exact hm z u (lk_other hz e) k
      · have hz : z ≠ y := fun q => by subst q; rw [hy1] at k; cases k
        obtain ⟨o, ho, d⟩ := F.rd.cell z u c (lk_other hz e) k hc
        exact ⟨o, kk _ _ (Nat.ne_of_gt (F.above z c (mem_of_lookup hc))) ho, d⟩
      · obtain ⟨u, o, ho, d⟩ := F.has n c hm
        exact ⟨u, o, kk _ _ (Nat.ne_of_gt (F.above n c (mem_of_lookup hm))) ho, d⟩
theorem last_sign (p : Nat × Nat) : (seqIndex? (-1) (rowS p).length).bind ((rowS p).cps[·]?) = some p.2 := by
  have h1 : seqIndex? (-1) (rowS p).length = some (p.1 + 1) := by
    rw [rowS_len]
    unfold seqIndex?
    have e : (if (-1 : Int) < 0 then (-1 : Int) + ((p.1 + 2 : Nat) : Int) else -1) = ((p.1 + 1 : Nat) : Int) := by
      rw [if_pos (by decide)]; omega
    simp only [e]
    rw [if_pos (by
      rw [Bool.and_eq_true, decide_eq_true_eq, decide_eq_true_eq]
      omega)]
    rw [Int.toNat_natCast]
  rw [h1]
  show ((rowL p).toArray)[p.1 + 1]? = some p.2
  unfold rowL
  simp
section
variable {w : World} {A : Around} {b s : Shared} {Q : Flow → Shared → Prop} {L wl da bl ml : Addr} {us mv : List Nat} {tied : List (Nat × Nat)} {N : Addr → Prop} {fa ra : Addr} {fvs rvs : List Value} {f0 f1 : List Str}
theorem stE (T : YP w b.heap) (f : Fresh (eL L) b) (R : Room A 12) (x : Ext b s) (F : Fm (eL L) [("relayed", .ref ra), ("fallen", .ref fa), ("moved", .ref ml), ("bound", .ref bl), ("drawn", .ref da), ("word", .ref wl)] s)
    (hw : Strs s.heap wl (us.map sg)) (hm : Strs s.heap ml (mv.map sg)) (hd : Drw w s.heap da us) (hb : Strs s.heap bl (bndS tied)) (iN : ∀ a, Own (eL L) a → N a) (nda : ¬ Own (eL L) da) (nfo : ¬ Own (eL L) fa) (nro : ¬ Own (eL L) ra)
    (hfa : s.heap.PlainList fa fvs.toArray) (hra : s.heap.PlainList ra rvs.toArray) (hf : Paired (StrsF N s.heap) fvs [f0, f1]) (hr : Paired (LLF N s.heap) rvs [relT tied us, relT tied mv])
    (p0 : f0.Perm ((Rw kd (bnd tied) ks4 H0 us).map rowS)) (p1 : f1.Perm ((Rw kd (bnd tied) ks4 H0 mv).map rowS)) (q0 : sortedS f0 = true) (q1 : sortedS f1 = true)
    (hp : us.Perm mv) (hT : Tied tied) (h5 : us.length = 5) (hcs : ∀ c ∈ us, c ∈ signs)
    (h : ∀ s', Ext b s' → Q (.ret (.bool true)) s') :
    WP w A (execs (lawTail 14) (eL L)) Q s := by
  unfold lawTail
  conv in (List.drop 14 (fnB (top 26))) => whnf
  have hbs : ∀ x ∈ ks4, ∀ y ∈ ks4, ((bndS tied).any (· == ⟨#[x, y]⟩)) = bnd tied x y := fun x _ y _ => bnd_any tied x y
  have z5 : mv.length = 5 := by rw [← hp.length_eq]; exact h5
  have mcs : ∀ c ∈ mv, c ∈ signs := fun c hc => hcs c (hp.mem_iff.mpr hc)
  have T₀ := T.keeps x
  refine wpAny_execs_cons (wpAny_Assign_Name (callN4 (a := 286) (o := ⟨.type "function", none, .func fd286, ⟨[]⟩⟩) (fd := fd286) (fun Q' q => eG T₀ (by kernel_rfl!) q) rfl (eN F.rd (lk_next (by kernel_rfl!) (lk_next (by kernel_rfl!) (lk_next (by kernel_rfl!) (lk_next (by kernel_rfl!) (lk_next (by kernel_rfl!) lk_here))))) (eN F.rd (lk_next (by kernel_rfl!) (lk_next (by kernel_rfl!) lk_here)) (eN F.rd (lk_next (by kernel_rfl!) (lk_next (by kernel_rfl!) (lk_next (by kernel_rfl!) (lk_next (by kernel_rfl!) lk_here)))) (eN F.rd (lk_next (by kernel_rfl!) (lk_next (by kernel_rfl!) (lk_next (by kernel_rfl!) lk_here))) ⟨T₀ _ _ (fo286 w),
    lawSame (D := bnd tied) (us := us) (R.le (by decide)) T₀ hw hm hd (fun c hc => hc) hcs hb hbs hp (by omega) fun s₁ x₁ => ?_⟩))))) (by kernel_rfl!))
  have F₁ := F.keeps x₁
  refine sN F₁ fun s₂ x₂ F₂ => ?_
  dsimp only
  have o₂ : Mv (Own (eL L)) s s₂ := x₁.mv.trans (x₂.mv fun _ h => h)
  have e₂ : Ext b s₂ := (x.trans x₁).step x₂ f
  obtain ⟨va, vb, rfl, ⟨a0, rfl, n0, ha0⟩, ⟨a1, rfl, n1, ha1⟩⟩ := Paired.two hf
  obtain ⟨wa, wb, rfl, ⟨r0, rfl, k0, hr0⟩, ⟨r1, rfl, k1, hr1⟩⟩ := Paired.two hr
  have T₂ := T.keeps e₂
  have nown : ∀ a, ¬ N a → ¬ Own (eL L) a := fun a h1 h2 => h1 (iN a h2)
  have fa₂ := hfa.at fun o e => o₂.keep _ _ nfo e
  have a0₂ : Strs s₂.heap a0 f0 := ha0.kp fun o e => o₂.keep _ _ (nown _ n0) e
  have z0 : f0.length = 5 := by rw [p0.length_eq, List.length_map, Rw_len]; exact h5
  have hRle : ∀ p ∈ Rw kd (bnd tied) ks4 H0 us, p.1 ≤ 5 := fun p hp => by
    have := Rw_le (D := bnd tied) us H0 0 (fun _ => Nat.le_refl _) p hp
    omega
  refine wpAny_execs_cons (lCA (lr := []) (fun _ => true) (fun v y => ∀ p t, v = Value.str (rowS p) t → ∃ t', y = Value.str (sg p.2) t') F₂ ?_)
  refine bKw (id := "sorted") (fun Q' q => eB T₂ (by kernel_rfl!) (by kernel_rfl!) q) (subA (eN F₂.rd (lk_next (by kernel_rfl!) (lk_next (by kernel_rfl!) lk_here)) (wpAny_Constant_int ⟨"list", _, fa₂.isList.typeIs, list_getitem_lookup, wpAny_getItem_list fa₂.isList (by decide) (by decide) (by rfl) ?_⟩)))
  refine eB (v := .builtin "len") (T₂.keeps (Ext.toks _ (s₂.toks + 1))) (by kernel_rfl!) (by kernel_rfl!) ?_
  have F₃ := F₂.keeps (Ext.toks _ (s₂.toks + 1))
  refine sortedLen (ss := f0) F₃ (a0₂.keeps (Ext.toks _ _)) (by omega) (fun y hy => ?_) fun D ss' s₄ x₄ F₄ hD pD wD => ?_
  · obtain ⟨p, hp', rfl⟩ := List.mem_map.mp (p0.mem_iff.mp hy)
    rw [rowS_len]
    have := hRle p hp'
    omega
  obtain ⟨wl', rfl, wp⟩ := rows_list (pD.trans p0)
  obtain ⟨dvs, dpl, dst⟩ := hD
  have dz : dvs.length = 5 := by have := strs_len dst; rw [this, pD.length_eq]; exact z0
  refine ⟨_, _, F₄, sub_nil, (wk2_list R.hd dpl.isList).wk, Nat.le_trans (show dvs.toArray.size ≤ 1000 by simp; omega) (by decide +kernel), fun C i v s₅ hv k₅ G₅ => ct0 ⟨rfl, Ext.refl _⟩, fun C i v s₅ hv _ k₅ G₅ => ?_, fun Dr ys s₅ vs hDr hlr hvn hvs hP₅ x₅ F₅ => ?_⟩
  · obtain ⟨y, ty, rfl, hy⟩ := strs_get dst i v (by simpa using hv)
    obtain ⟨p, hp', rfl⟩ : ∃ p, wl'[i]? = some p ∧ rowS p = y := by simpa using hy
    refine subA (eN G₅ lk_here (wpAny_UnaryOp (wpAny_Constant_int (neg_int ⟨"str", _, typeIs_str _ _ _, PySem.F.slot_str_getitem.lookup, P.getItem_str (c := p.2) (by decide) (last_sign p) ?_⟩))))
    refine ⟨fun p' t e => ?_, ((Ext.toks _ _).trans (Ext.toks _ _)).trans (Ext.toks _ _)⟩
    have ep : p = p' := rowS_inj (by injection e)
    subst ep
    exact ⟨_, rfl⟩
  have hvs' : vs = dvs := by
    have := list_of_places hvn hvs
    simpa using this
  subst hvs'
  rw [List.filter_eq_self.mpr (fun _ _ => rfl)] at hP₅
  have yst : StrsAre ys.toList ((wl'.map Prod.snd).map sg) := by
    have : ∀ {vs ys : List Value} {l : List (Nat × Nat)}, StrsAre vs (l.map rowS) → Paired (fun v y => ∀ p t, v = Value.str (rowS p) t → ∃ t', y = Value.str (sg p.2) t') vs ys → StrsAre ys ((l.map Prod.snd).map sg) := by
      intro vs ys l h1 h2
      induction l generalizing vs ys with
      | nil => cases h1; cases h2; exact .nil
      | cons a l ih =>
        cases h1 with
        | cons _ t h1 =>
          cases h2 with
          | cons h3 h4 =>
            obtain ⟨t', rfl⟩ := h3 a t rfl
            exact .cons _ _ (ih h1 h4)
    exact this dst hP₅
  dsimp only
  have o₅ : Mv (Own (eL L)) s s₅ := ((o₂.trans (Ext.toks _ (s₂.toks + 1)).mv).trans (x₄.mv fun _ h => h)).trans (x₅.mv fun _ h => h)
  have e₅ : Ext b s₅ := ((e₂.trans (Ext.toks _ (s₂.toks + 1))).step x₄ f).step x₅ f
  have sown : ∀ {s : Shared} {lo} {a : Addr} {ss : List Str}, Fm (eL L) lo s → Strs s.heap a ss → ¬ Own (eL L) a := fun F ⟨vs, p, _⟩ => list_own F p.isList
  have w₅ := hw.kp fun o e => o₅.keep _ _ (sown F hw) e
  have b₅ := hb.kp fun o e => o₅.keep _ _ (sown F hb) e
  have d₅ := hd.kp fun o e => o₅.keep _ _ nda e
  have T₅ := T.keeps e₅
  have upw : us.Perm (wl'.map Prod.snd) := by
    have := (wp.map Prod.snd).symm
    rwa [Rw_snd] at this
  have hwl : wl'.Pairwise fun p q => p.1 ≤ q.1 := by
    rw [List.pairwise_map] at wD
    refine wD.imp fun {p q} h => ?_
    rw [rowS_len, rowS_len] at h
    omega
  have hsr : sameL kd (bnd tied) us (wl'.map Prod.snd) = true := same_rounds (D := bnd tied) (ks := ks4) (bnd_symm tied) hT.kd_refl kd_mem (H := H0) wp.symm hwl
  refine wpAny_execs_cons (WIf (wpAny_isTrue_Not (wpAny_isTrue_value (callN4 (a := 286) (o := ⟨.type "function", none, .func fd286, ⟨[]⟩⟩) (fd := fd286) (fun Q' q => eG T₅ (by kernel_rfl!) q) rfl (eN F₅.rd (lk_next (by kernel_rfl!) (lk_next (by kernel_rfl!) (lk_next (by kernel_rfl!) (lk_next (by kernel_rfl!) (lk_next (by kernel_rfl!) (lk_next (by kernel_rfl!) (lk_next (by kernel_rfl!) lk_here))))))) (eN F₅.rd lk_here (eN F₅.rd (lk_next (by kernel_rfl!) (lk_next (by kernel_rfl!) (lk_next (by kernel_rfl!) (lk_next (by kernel_rfl!) (lk_next (by kernel_rfl!) (lk_next (by kernel_rfl!) lk_here)))))) (eN F₅.rd (lk_next (by kernel_rfl!) (lk_next (by kernel_rfl!) (lk_next (by kernel_rfl!) (lk_next (by kernel_rfl!) (lk_next (by kernel_rfl!) lk_here))))) ⟨T₅ _ _ (fo286 w),
    lawSame (D := bnd tied) (us := us) (v := wl'.map Prod.snd) (R.le (by decide)) T₅ w₅ ⟨ys.toList, by simpa using hlr, yst⟩ d₅ (fun c hc => hc) hcs b₅ hbs upw (by omega) fun s₆ x₆ => ?_⟩))))) (by kernel_rfl!))))
  rw [hsr]
  refine wpAny_truthy_bool ⟨fun hc => absurd hc (by decide), fun _ => ?_⟩
  refine wpAny_execs_nil ?_
  dsimp only
  have F₆ := F₅.keeps x₆
  have o₆ := o₅.trans x₆.mv (W := Own (eL L))
  have n₆ : Mv N s s₆ := o₆.mono iN
  have e₆ := e₅.trans x₆
  have fa₆ := hfa.at fun o e => o₆.keep _ _ nfo e
  have ra₆ := hra.at fun o e => o₆.keep _ _ nro e
  have a0₆ : Strs s₆.heap a0 f0 := ha0.kp fun o e => n₆.keep _ _ n0 e
  have a1₆ : Strs s₆.heap a1 f1 := ha1.kp fun o e => n₆.keep _ _ n1 e
  have LLmv : ∀ {r : Addr} {sss : List (List Str)}, ¬ N r → LL N s.heap r sss → LL N s₆.heap r sss := fun hn ⟨vs, h1, h2⟩ => ⟨vs, h1.at fun o e => n₆.keep _ _ hn e, LL.inner h2 n₆⟩
  have r0₆ := LLmv k0 hr0
  have r1₆ := LLmv k1 hr1
  have LLx : ∀ {s s' : Shared} {r : Addr} {sss : List (List Str)}, Ext s s' → LL N s.heap r sss → LL N s'.heap r sss := fun x ⟨vs, h1, h2⟩ => ⟨vs, h1.at fun o e => x.keep _ _ e, LL.inner h2 x.mv⟩
  have ok : ∀ {u : List Nat} {ff : List Str}, (∀ c ∈ u, c ∈ signs) → u.length = 5 → ff.Perm ((Rw kd (bnd tied) ks4 H0 u).map rowS) → ff.all PyData.strOk = true := fun hu hz hp => by
    rw [List.all_eq_true]
    intro y hy
    obtain ⟨p, hp', rfl⟩ := List.mem_map.mp (hp.mem_iff.mp hy)
    exact (row_ok (bnd tied) hu (by omega) (hrow p) (List.mem_map_of_mem hp')).2
  have okr : ∀ {u : List Nat}, (∀ c ∈ u, c ∈ signs) → ∀ ss ∈ relT tied u, ss.all PyData.strOk = true := fun hu ss hss => by
    obtain ⟨p, _, rfl⟩ := List.mem_map.mp hss
    exact sg_ok fun c hc => hu c (List.mem_filter.mp hc).1
  generalize hS : sameL kd (bnd tied) us mv = S at F₆
  have hf1 := fallen_same hT hp p0 p1 q0 q1
  have hf2 := relayed_same hT hp
  rw [hS] at hf1 hf2
  refine wpAny_execs_cons (wpAny_Return_some (BoolOp_and (wpAny_Compare1 (wpAny_Compare1 (subA (eN F₆.rd (lk_next (by kernel_rfl!) (lk_next (by kernel_rfl!) (lk_next (by kernel_rfl!) lk_here))) (wpAny_Constant_int ⟨"list", _, fa₆.isList.typeIs, list_getitem_lookup, wpAny_getItem_list fa₆.isList (by decide) (by decide) (by rfl) ?_⟩))) (by kernel_rfl!)) (by kernel_rfl!))))
  have y₇ : Ext s₆ { s₆ with toks := s₆.toks + 1 } := Ext.toks _ _
  generalize hs7 : ({ s₆ with toks := s₆.toks + 1 } : Shared) = s₇ at y₇ ⊢
  clear hs7
  have fa₇ := fa₆.at fun o e => y₇.keep _ _ e
  refine subA (eN (F₆.keeps y₇).rd (lk_next (by kernel_rfl!) (lk_next (by kernel_rfl!) (lk_next (by kernel_rfl!) lk_here))) (wpAny_Constant_int ⟨"list", _, fa₇.isList.typeIs, list_getitem_lookup, wpAny_getItem_list fa₇.isList (by decide) (by decide) (by rfl) ?_⟩))
  have y₈ : Ext s₆ { s₇ with toks := s₇.toks + 1 } := y₇.trans (Ext.toks _ _)
  generalize hs8 : ({ s₇ with toks := s₇.toks + 1 } : Shared) = s₈ at y₈ ⊢
  clear hs8
  refine eqStrs (x := f0) (y := f1) R (a0₆.keeps y₈) (a1₆.keeps y₈) (ok hcs h5 p0) (ok mcs z5 p1) ?_
  refine eN (F₆.keeps y₈).rd (lk_next (by kernel_rfl!) lk_here) (PyProof.Rows.eq_bool ?_)
  rw [hf1, beq_self_eq_true]
  refine wpAny_truthy_bool ?_
  rw [if_pos rfl]
  have ra₈ := ra₆.at fun o e => y₈.keep _ _ e
  refine BoolOp_one (wpAny_Compare1 (wpAny_Compare1 (subA (eN (F₆.keeps y₈).rd (lk_next (by kernel_rfl!) (lk_next (by kernel_rfl!) lk_here)) (wpAny_Constant_int ⟨"list", _, ra₈.isList.typeIs, list_getitem_lookup, wpAny_getItem_list ra₈.isList (by decide) (by decide) (by rfl) ?_⟩))) (by kernel_rfl!)) (by kernel_rfl!))
  have y₉ : Ext s₆ { s₈ with toks := s₈.toks + 1 } := y₈.trans (Ext.toks _ _)
  generalize hs9 : ({ s₈ with toks := s₈.toks + 1 } : Shared) = s₉ at y₉ ⊢
  clear hs9
  have ra₉ := ra₆.at fun o e => y₉.keep _ _ e
  refine subA (eN (F₆.keeps y₉).rd (lk_next (by kernel_rfl!) (lk_next (by kernel_rfl!) lk_here)) (wpAny_Constant_int ⟨"list", _, ra₉.isList.typeIs, list_getitem_lookup, wpAny_getItem_list ra₉.isList (by decide) (by decide) (by rfl) ?_⟩))
  have y₁₀ : Ext s₆ { s₉ with toks := s₉.toks + 1 } := y₉.trans (Ext.toks _ _)
  generalize hs10 : ({ s₉ with toks := s₉.toks + 1 } : Shared) = s₁₀ at y₁₀ ⊢
  clear hs10
  refine eqLLs (N := N) (x := relT tied us) (y := relT tied mv) R (LLx y₁₀ r0₆) (LLx y₁₀ r1₆) (okr hcs) (okr mcs) ?_
  refine eN (F₆.keeps y₁₀).rd (lk_next (by kernel_rfl!) lk_here) (PyProof.Rows.eq_bool ?_)
  rw [hf2, beq_self_eq_true]
  exact h s₁₀ (e₆.trans y₁₀)
end
end Mine
end
section
open PySem PySem.W PySem.Calls PyProof.Rows PySem.W.X PySem.W.XRun PySem.SeqAt
set_option Elab.async false
set_option maxRecDepth 100000
set_option maxHeartbeats 0
set_option linter.unusedVariables false
namespace Mine
theorem Drw.live {w : World} {h : Heap} {d : Addr} {u : List Nat} (x : Drw w h d u) : ∃ o, h.get? d = some o := let ⟨f, ⟨o, es, ep, e, r⟩, p⟩ := x; ⟨o, e⟩
theorem lawMain {w : World} {A : Around} {s : Shared} {sa : Addr} {items : Array Value} {Q : Value → Shared → Prop} (T : YP w s.heap) (R : Room A 13) (hg : s.gens = #[]) (hS : s.heap.IsList sa items) (hI : ∀ v ∈ items.toList, ∃ n t, v = Value.int n t) (hz : items.size ≤ 1000)
    (h : ∀ s', Ext s s' → Q (.bool true) s') : WP w A (call (.ref 291) [.ref sa]) Q s := by
  refine callC (fd := fd291) (body := fnB (top 26)) (n := 12) [("script", .ref sa)] R T (T _ _ (fo291 w)) rfl rfl (fc291 T) (by kernel_rfl!) (fun L => (by kernel_rfl!)) fun L s₁ x₁ f F T₁ R₁ => ?_
  refine stA T f R₁ x₁ F hS hI hz fun s₂ wl kl pl us ps x₂ F₂ w₂ k₂ p₂ h5 hcs hpl hps => ?_
  refine stB T f R₁ x₂ F₂ hS hI hz w₂ k₂ p₂ h5 fun s₃ da tl bl tied x₃ F₃ w₃ p₃ d₃ nda hT t₃ b₃ => ?_
  refine stC R₁ F₃ w₃ p₃ h5 hpl hps fun s₄ ml mv m₄ F₄ mm₄ hp => ?_
  have x₄ : Ext s s₄ := x₃.then m₄ fun a ha => f a ha
  have sown : ∀ {s : Shared} {lo} {a : Addr} {ss : List Str}, Fm (eL L) lo s → Strs s.heap a ss → ¬ Own (eL L) a := fun F ⟨vs, p, _⟩ => list_own F p.isList
  have d₄ := d₃.kp fun o e => m₄.keep _ _ nda e
  refine stD T f R₁ hg x₄ F₄ (w₃.kp fun o e => m₄.keep _ _ (sown F₃ w₃) e) mm₄ hp d₄ nda d₄.live hT (t₃.kp fun o e => m₄.keep _ _ (sown F₃ t₃) e) (b₃.kp fun o e => m₄.keep _ _ (sown F₃ b₃) e) h5 hcs
    fun s₅ N fa ra fvs rvs f0 f1 x₅ F₅ w₅ m₅ d₅ b₅ iN nfo nro hfa hra hf hr p0 p1 q0 q1 => ?_
  exact stE T f R₁ x₅ F₅ w₅ m₅ d₅ b₅ iN nda nfo nro hfa hra hf hr p0 p1 q0 q1 hp hT h5 hcs fun s₆ x₆ => h s₆ x₆
end Mine
end
section
open PySem PySem.W PySem.Calls PyProof.Rows
set_option Elab.async false
set_option maxRecDepth 100000
set_option maxHeartbeats 0
set_option linter.unusedVariables false
namespace Mine
theorem walk : WalkO qv looseN (fun _ _ => True) YP lrow.toRowW lawD [] fun f vs => PySem.call f vs := by
  intro w s₀ s₁ mg mb G Y fa o pm cd doc dV kV ho hd hcd hD hmg hg args vals as hpre hlay hrd hwl hlo
  have KX := kf_in Y
  refine Ground.open G ?_
  intro T B D TE TW
  wrow_args hpre hlay hrd hwl hlo
  all_goals x_fa T KX hmg
  rename_i ns hs1 hlay hL1 hr1 hl2 as4 as3 sa vs as0 hL ra wl1 r0 hI hr hn63 htr
  have hlen : ns.length ≤ 63 := by omega
  have hvl := ints_len hI
  show wpAny (model pw w) callerA (call (.ref 291) [.ref sa]) _ _ _
  refine WP.to (lawMain Y ⟨rfl, by decide, by decide⟩ hg hL (fun v hv => ?_) (by simp; omega) fun s' x => ?_)
  · obtain ⟨j, hj⟩ := List.mem_iff_getElem?.mp hv
    obtain ⟨y, ty, e, _⟩ := ints_get hI j v (by simpa using hj)
    exact ⟨y, ty, e⟩
  · refine ⟨.inl ⟨.bool true, .bool true, [], rfl, fun cls => ?_, .bool true, ?_, unshared_nil⟩, .of_keep x.keep, x.os, .of_eq (x.gens.trans hg)⟩
    · rfl
    · wrow_post
end Mine
end
theorem PySem.Challenge.cw_re0107_01_holds : PySem.Challenge.rw_re0107_01.Holds := by
  exact Mine.headL Mine.walk
