import PyProof.Rows.All
import PyProof.ByEvalTree
import PyProof.TupleOfSeq
import Open.Tops
import Wide.FinOn
import OpenK.AllK
import Wide.All
import Lean
import PySem.Challenge.RW_ik0098_01
set_option Elab.async false
set_option linter.all false
set_option genInjectivity false
set_option genSizeOf false
set_option maxRecDepth 100000
set_option maxHeartbeats 8000000
set_option rowWalk.seconds 0
open PySem PySem.W PyProof.Rows
open PySem.Calls
local macro_rules | `(tactic| k_all) => `(tactic| assumption)
local macro_rules | `(tactic| walk_at $s:str) => `(tactic| k_extra $s)
section
set_option maxHeartbeats 0
namespace Mine
noncomputable def shortDoc (d : Str) : Stmt → Stmt
 | .ClassDef n bs ks (.Expr (.Constant (.str _) k q) r :: body) ds tp sc ts bi st pos => .ClassDef n bs ks (.Expr (.Constant (.str d) k q) r :: body) ds tp sc ts bi st pos
 | s => s
end Mine
end
section
set_option maxRecDepth 1000000
set_option maxHeartbeats 0
namespace Mine
noncomputable def anyQ {α : Type} (xs : Array α) (p : α → Bool) (i : Nat := 0) (j : Nat := xs.size) : Bool := match Nat.beq i 0 with
 | true => match Nat.ble xs.size j with
  | true => xs.toList.any p
  | false => xs.any p i j
 | false => xs.any p i j
theorem anyQ_eq : @Array.any Nat = @anyQ Nat := by
 funext xs p i j
 unfold anyQ
 cases h : Nat.beq i 0 with
 | false => rfl
 | true =>
  cases h' : Nat.ble xs.size j with
  | false => rfl
  | true =>
   have h1 : i = 0 := Nat.eq_of_beq_eq_true h
   have h2 : xs.size ≤ j := Nat.le_of_ble_eq_true h'
   subst h1
   show xs.any p 0 j = xs.toList.any p
   rw [Array.any_toList]
   rw [Bool.eq_iff_iff, Array.any_iff_exists, Array.any_iff_exists]
   constructor
   ·rintro ⟨k, hk, _, _, hp⟩; exact ⟨k, hk, Nat.zero_le _, hk, hp⟩
   ·rintro ⟨k, hk, _, _, hp⟩; exact ⟨k, hk, Nat.zero_le _, Nat.lt_of_lt_of_le hk h2, hp⟩
noncomputable abbrev AnyTy := (as : Array Nat) → (p : Nat → Bool) → (start : optParam Nat 0) → (stop : optParam Nat as.size) → Bool
noncomputable def ap (F : AnyTy → Builtin) (a : AnyTy) : Builtin := F @a
inductive EqT {α : Sort u} (a : α) : α → Type where
 | refl : EqT a a
theorem EqT.eq {α : Sort u} {a b : α} (h : EqT a b) : a = b := by cases h; rfl
structure TnF where
 F : AnyTy → Builtin
 h : EqT PySem.W.Fast.tw4202317264376624991 (ap F (@Array.any Nat))
noncomputable def tnF : TnF := ⟨_, by
 delta PySem.W.Fast.tw4202317264376624991
 generalize @Array.any Nat = a
 exact EqT.refl⟩
noncomputable def typeNewQ : Builtin := ap tnF.F (@anyQ Nat)
theorem typeNewQ_eq : PySem.W.Fast.tw4202317264376624991 = typeNewQ := by
 unfold typeNewQ
 rw [← anyQ_eq]
 exact tnF.h.eq

noncomputable def tbQ (id : String) : Option Builtin := @ite _ (id = "type.__new__") (PySem.W.S.strDecS id "type.__new__") (some typeNewQ) (PySem.W.Fast.tw14364793385576792824 id)
theorem tree_new : PySem.treeTable "type.__new__" = some Builtin.«type.__new__» := by with_unfolding_all rfl
theorem tbQ_eq : PySem.W.Fast.tw14364793385576792824 = tbQ := by
 funext id
 unfold tbQ
 split
 ·rename_i h
  subst h
  rw [← typeNewQ_eq, ← PySem.W.Fast.te4202317264376624991, ← PySem.W.Fast.te14364793385576792824, tree_new]
 ·rfl
end Mine
end
section
set_option maxRecDepth 1000000
set_option maxHeartbeats 0
namespace Mine
noncomputable def docOf : Stmt → Str
 | .ClassDef _ _ _ (.Expr (.Constant (.str s) _ _) _ :: _) _ _ _ _ _ _ _ => s
 | _ => Str.empty
noncomputable def sts10 : List Stmt := (PySem.Challenge.pw_ik0098_01.main.body.drop 10).take 1
noncomputable def DOC : Str := docOf (sts10.headD (.Pass default))
structure DocT where
 l : List Char
 h : EqT DOC (Str.ofString (String.ofList l))
noncomputable def docT : DocT := ⟨_, by
 show EqT (docOf _) _
 with_unfolding_all exact EqT.refl⟩
noncomputable def docN : List Nat := docT.l.map Char.toNat
noncomputable def DOC' : Str := ⟨docN.toArray⟩
theorem doc_eq : DOC = DOC' := by rw [docT.h.eq, PySem.W.Fast.ofString_ofList]; rfl
end Mine
end
section
set_option maxRecDepth 1000000
set_option maxHeartbeats 0
namespace Mine
noncomputable def bodyZ : List Stmt := PySem.Challenge.pw_ik0098_01.main.body
noncomputable def stAt (k : Nat) : Stmt := bodyZ.getD k (.Pass default)
noncomputable def cAt (k j : Nat) : Stmt := match stAt k with | .ClassDef _ _ _ b .. => b.getD j (.Pass default) | x => x
structure FL (x : Stmt) where
 n : Str
 ps : Arguments
 b : List Stmt
 dl : List Expr
 rt : Option Expr
 tp : List TypeParam
 sc : Scope
 ts : Option Scope
 tx : Str
 po : Pos
 h : EqT x (.FunctionDef n ps b dl rt tp sc ts tx po)
noncomputable def F0 : FL (stAt 0) := ⟨_, _, _, _, _, _, _, _, _, _, by with_unfolding_all exact EqT.refl⟩
noncomputable def F2 : FL (stAt 2) := ⟨_, _, _, _, _, _, _, _, _, _, by with_unfolding_all exact EqT.refl⟩
noncomputable def F3 : FL (stAt 3) := ⟨_, _, _, _, _, _, _, _, _, _, by with_unfolding_all exact EqT.refl⟩
noncomputable def F4 : FL (stAt 4) := ⟨_, _, _, _, _, _, _, _, _, _, by with_unfolding_all exact EqT.refl⟩
noncomputable def F5 : FL (stAt 5) := ⟨_, _, _, _, _, _, _, _, _, _, by with_unfolding_all exact EqT.refl⟩
noncomputable def F7x0 : FL (cAt 7 0) := ⟨_, _, _, _, _, _, _, _, _, _, by with_unfolding_all exact EqT.refl⟩
noncomputable def F7x1 : FL (cAt 7 1) := ⟨_, _, _, _, _, _, _, _, _, _, by with_unfolding_all exact EqT.refl⟩
noncomputable def F7x2 : FL (cAt 7 2) := ⟨_, _, _, _, _, _, _, _, _, _, by with_unfolding_all exact EqT.refl⟩
noncomputable def F7x3 : FL (cAt 7 3) := ⟨_, _, _, _, _, _, _, _, _, _, by with_unfolding_all exact EqT.refl⟩
noncomputable def F8x4 : FL (cAt 8 4) := ⟨_, _, _, _, _, _, _, _, _, _, by with_unfolding_all exact EqT.refl⟩
noncomputable def F8x5 : FL (cAt 8 5) := ⟨_, _, _, _, _, _, _, _, _, _, by with_unfolding_all exact EqT.refl⟩
noncomputable def F8x6 : FL (cAt 8 6) := ⟨_, _, _, _, _, _, _, _, _, _, by with_unfolding_all exact EqT.refl⟩
noncomputable def F8x8 : FL (cAt 8 8) := ⟨_, _, _, _, _, _, _, _, _, _, by with_unfolding_all exact EqT.refl⟩
noncomputable def F8x9 : FL (cAt 8 9) := ⟨_, _, _, _, _, _, _, _, _, _, by with_unfolding_all exact EqT.refl⟩
noncomputable def F8x10 : FL (cAt 8 10) := ⟨_, _, _, _, _, _, _, _, _, _, by with_unfolding_all exact EqT.refl⟩
noncomputable def F9 : FL (stAt 9) := ⟨_, _, _, _, _, _, _, _, _, _, by with_unfolding_all exact EqT.refl⟩
noncomputable def F10x1 : FL (cAt 10 1) := ⟨_, _, _, _, _, _, _, _, _, _, by with_unfolding_all exact EqT.refl⟩
noncomputable def F10x2 : FL (cAt 10 2) := ⟨_, _, _, _, _, _, _, _, _, _, by with_unfolding_all exact EqT.refl⟩
noncomputable def F10x3 : FL (cAt 10 3) := ⟨_, _, _, _, _, _, _, _, _, _, by with_unfolding_all exact EqT.refl⟩
noncomputable def F10x4 : FL (cAt 10 4) := ⟨_, _, _, _, _, _, _, _, _, _, by with_unfolding_all exact EqT.refl⟩
noncomputable def F10x5 : FL (cAt 10 5) := ⟨_, _, _, _, _, _, _, _, _, _, by with_unfolding_all exact EqT.refl⟩
noncomputable def F10x6 : FL (cAt 10 6) := ⟨_, _, _, _, _, _, _, _, _, _, by with_unfolding_all exact EqT.refl⟩
noncomputable def F10x7 : FL (cAt 10 7) := ⟨_, _, _, _, _, _, _, _, _, _, by with_unfolding_all exact EqT.refl⟩
noncomputable def F10x8 : FL (cAt 10 8) := ⟨_, _, _, _, _, _, _, _, _, _, by with_unfolding_all exact EqT.refl⟩
noncomputable def F10x9 : FL (cAt 10 9) := ⟨_, _, _, _, _, _, _, _, _, _, by with_unfolding_all exact EqT.refl⟩
noncomputable def F10x10 : FL (cAt 10 10) := ⟨_, _, _, _, _, _, _, _, _, _, by with_unfolding_all exact EqT.refl⟩
noncomputable def F10x11 : FL (cAt 10 11) := ⟨_, _, _, _, _, _, _, _, _, _, by with_unfolding_all exact EqT.refl⟩
noncomputable def F10x12 : FL (cAt 10 12) := ⟨_, _, _, _, _, _, _, _, _, _, by with_unfolding_all exact EqT.refl⟩
noncomputable def F12 : FL (stAt 12) := ⟨_, _, _, _, _, _, _, _, _, _, by with_unfolding_all exact EqT.refl⟩
noncomputable def F14 : FL (stAt 14) := ⟨_, _, _, _, _, _, _, _, _, _, by with_unfolding_all exact EqT.refl⟩
noncomputable def F16 : FL (stAt 16) := ⟨_, _, _, _, _, _, _, _, _, _, by with_unfolding_all exact EqT.refl⟩
noncomputable def F17 : FL (stAt 17) := ⟨_, _, _, _, _, _, _, _, _, _, by with_unfolding_all exact EqT.refl⟩
noncomputable def F18 : FL (stAt 18) := ⟨_, _, _, _, _, _, _, _, _, _, by with_unfolding_all exact EqT.refl⟩
noncomputable def F19 : FL (stAt 19) := ⟨_, _, _, _, _, _, _, _, _, _, by with_unfolding_all exact EqT.refl⟩
noncomputable abbrev EqT.out {α : Type} {a x : α} (_ : EqT a x) : α := x
namespace Z
noncomputable abbrev s (x : String) (t : Nat) : Value := .str (Str.ofString x) t
noncomputable abbrev r (n : Nat) : Value := .ref n
noncomputable abbrev i (x : Int) (t : Nat) : Value := .int x t
noncomputable abbrev b (x : String) : Value := .builtin x
noncomputable abbrev t (x : String) : Value := .type x
noncomputable abbrev y : Value := .bool true
noncomputable abbrev n : Value := .bool false
noncomputable abbrev d (l : List Stmt) (t : Nat) : Value := .str ((PySem.docOf l).getD Str.empty) t
noncomputable def al (j : Nat) : Str := match cAt 8 j with | .Assign _ (.Call _ (_ :: .Constant (.str x) _ _ :: _) _ _) _ => x | _ => Str.empty
noncomputable def cb (k : Nat) : List Stmt := match stAt k with | .ClassDef _ _ _ b .. => b | _ => []
noncomputable abbrev o0 (c : Value) : Obj := { cls := c }
noncomputable abbrev w (o : Obj) (dd : Option Addr) (sl : Array (Option Value)) : Obj := { o with dict := dd, slots := sl }
noncomputable abbrev tu (l : List Value) : Obj := { cls := .type "tuple", data := .seq l.toArray }
noncomputable abbrev sq (c : Value) (l : List Value) : Obj := { cls := c, data := .seq l.toArray }
noncomputable abbrev ce (c : Value) (v : Option Value) : Obj := { cls := c, data := .cell v }
noncomputable abbrev fs (c : Value) (l : List Value) : Obj := { cls := c, data := .fields l.toArray }
noncomputable abbrev di (P : Params) (c : Value) (es : List (String × Nat × Value)) (m : Nat) : Obj := { cls := c, data := .dict (es.map fun e => ⟨PyData.keyHash P (Str.ofString e.1), .str (Str.ofString e.1) e.2.1, e.2.2⟩).toArray m }
noncomputable abbrev co (x q : String) (t : Nat) (li cl a1 a2 a3 : Int) (ra : Nat) (v : Value) (rc : Nat) (v1 v2 v3 v4 : Value) (u : Nat) : Obj := { cls := .type "code", data := .fields #[s x t, s q (t + 1), s "/claim/cut.py" (t + 2), i li 0, i cl 0, i a1 0, i a2 0, i a3 0, r ra, v, i 181 0, r rc, v1, v2, v3, v4, i u 0, i li 0, s "/claim/cut.py" (u + 1)] }
noncomputable abbrev cl (c : Value) (x : String) (bs mro : List Value) (ns : Nat) (q : String) (hd : Bool) : Obj := { cls := c, data := .cls { name := Str.ofString x, bases := bs, mro := mro, ns := ns, qualname := Str.ofString q, hasDict := hd } }
noncomputable abbrev f0 {x : Stmt} (D : FL x) (q : String) : Obj := { cls := .none, data := .func { name := D.n, qualname := Str.ofString q, params := D.ps, body := .stmts D.b, scope := D.sc, globals := 0, closure := [], defaults := .none, kwdefaults := .none } }
noncomputable abbrev f1 {x : Stmt} (D : FL x) (q : String) (g : Nat) (cl : List (Str × Addr)) (dV kV doc pm : Value) (an : Option Addr) (cd ct : Value) (bi : Nat) : Obj := { cls := .type "function", data := .func { name := D.n, qualname := Str.ofString q, params := D.ps, body := .stmts D.b, scope := D.sc, globals := g, closure := cl, defaults := dV, kwdefaults := kV, doc := doc, pyModule := pm, annotations := an, code := cd, closureTuple := ct, builtins := bi } }
end Z
open Z
noncomputable def sur.o_426 (P : Params) : Obj := di P (t "dict") [("__name__", 165, (s "law_ik0098_01" 654)), ("__doc__", 166, .none), ("__package__", 167, .none), ("__loader__", 168, (b "__main__.__loader__#opaque")), ("__spec__", 169, .none), ("__annotations__", 170, (r 6)), ("__builtins__", 171, (r 4)), ("__file__", 173, (s "/claim/cut.py" 172)), ("__cached__", 174, .none), ("_wall", 193, (r 21)), ("heappush", 204, (r 28)), ("heappushpop", 213, (r 35)), ("_siftdown", 225, (r 42)), ("_siftup", 238, (r 49)), ("_tuplegetter", 297, (r 88)), ("Match", 425, (r 163)), ("_calculate_ratio", 433, (r 173)), ("SequenceMatcher", 627, (r 270)), ("cmp_to_key", 639, (r 281)), ("_initial_missing", 640, (r 282)), ("reduce", 653, (r 290)), ("_law_compare", 668, (r 297)), ("_law_heap", 680, (r 304)), ("_law_codes", 692, (r 311)), ("law", 698, (r 316))] 25
noncomputable def sur.o_1 (_ : Params) : Obj := tu []
noncomputable def sur.o_427 (_ : Params) : Obj := fs .none [(i 1 0), (i 0 0), (r 20), (i 5 0), (i 0 0), (r 27), (i 9 0), (i 0 0), (r 34), (i 15 0), (i 0 0), (r 41), (i 26 0), (i 0 0), (r 48), (i 41 0), (i 0 0), (r 55), (i 59 0), (i 0 0), (r 99), (i 102 0), (i 0 0), (r 172), (i 106 0), (i 0 0), (r 179), (i 499 0), (i 0 0), (r 280), (i 526 0), (i 0 0), (r 289), (i 551 0), (i 0 0), (r 296), (i 557 0), (i 0 0), (r 303), (i 566 0), (i 0 0), (r 310), (i 576 0), (i 0 0), (r 315)]
noncomputable def sur.o_3 (_ : Params) : Obj := co "<module>" "<module>" 182 1 0 0 0 0 11 n 12 .none .none .none .none 185
noncomputable def sur.o_4 (_ : Params) : Obj := w (o0 (t "frame")) none #[(some (r 13)), (some (r 3)), (some (r 3)), none, (some (s "__main__" 164)), none, (some (r 0))]
noncomputable def sur.o_7 (_ : Params) : Obj := tu []
noncomputable def sur.o_8 (_ : Params) : Obj := fs .none []
noncomputable def sur.o_9 (_ : Params) : Obj := tu [(s "k" 190)]
noncomputable def sur.o_10 (_ : Params) : Obj := tu []
noncomputable def sur.o_11 (_ : Params) : Obj := f0 F0 "_wall"
noncomputable def sur.o_12 (_ : Params) : Obj := co "_wall" "_wall" 187 1 1 0 0 3 15 y 16 .none (r 17) (r 18) (r 19) 191
noncomputable def sur.o_13 (_ : Params) : Obj := f1 F0 "_wall" 3 [] .none .none .none (s "__main__" 164) none (r 20) .none 0
noncomputable def sur.o_14 (_ : Params) : Obj := tu []
noncomputable def sur.o_15 (_ : Params) : Obj := fs .none []
noncomputable def sur.o_16 (_ : Params) : Obj := tu [(s "heap" 199), (s "item" 200)]
noncomputable def sur.o_17 (_ : Params) : Obj := tu []
noncomputable def sur.o_18 (_ : Params) : Obj := f0 F2 "heappush"
noncomputable def sur.o_19 (_ : Params) : Obj := co "heappush" "heappush" 196 5 2 0 0 3 22 y 23 .none (r 24) (r 25) (r 26) 201
noncomputable def sur.o_20 (_ : Params) : Obj := EqT.out (a := f1 F2 "heappush" 3 [] .none .none (d F2.b 203) (s "cpy313.heapq" 194) none (r 27) .none 0) (by dsimp only [f1, F2]; exact EqT.refl)
noncomputable def sur.o_21 (_ : Params) : Obj := tu []
noncomputable def sur.o_22 (_ : Params) : Obj := fs .none []
noncomputable def sur.o_23 (_ : Params) : Obj := tu [(s "heap" 208), (s "item" 209)]
noncomputable def sur.o_24 (_ : Params) : Obj := tu []
noncomputable def sur.o_25 (_ : Params) : Obj := f0 F3 "heappushpop"
noncomputable def sur.o_26 (_ : Params) : Obj := co "heappushpop" "heappushpop" 205 9 2 0 0 3 29 y 30 .none (r 31) (r 32) (r 33) 210
noncomputable def sur.o_27 (_ : Params) : Obj := EqT.out (a := f1 F3 "heappushpop" 3 [] .none .none (d F3.b 212) (s "cpy313.heapq" 194) none (r 34) .none 0) (by dsimp only [f1, F3]; exact EqT.refl)
noncomputable def sur.o_28 (_ : Params) : Obj := tu []
noncomputable def sur.o_29 (_ : Params) : Obj := fs .none []
noncomputable def sur.o_30 (_ : Params) : Obj := tu [(s "heap" 217), (s "startpos" 218), (s "pos" 219), (s "newitem" 220), (s "parentpos" 221), (s "parent" 222)]
noncomputable def sur.o_31 (_ : Params) : Obj := tu []
noncomputable def sur.o_32 (_ : Params) : Obj := f0 F4 "_siftdown"
noncomputable def sur.o_33 (_ : Params) : Obj := co "_siftdown" "_siftdown" 214 15 3 0 0 3 36 y 37 .none (r 38) (r 39) (r 40) 223
noncomputable def sur.o_34 (_ : Params) : Obj := EqT.out (a := f1 F4 "_siftdown" 3 [] .none .none .none (s "cpy313.heapq" 194) none (r 41) .none 0) (by dsimp only [f1, F4]; exact EqT.refl)
noncomputable def sur.o_35 (_ : Params) : Obj := tu []
noncomputable def sur.o_36 (_ : Params) : Obj := fs .none []
noncomputable def sur.o_37 (_ : Params) : Obj := tu [(s "heap" 229), (s "pos" 230), (s "endpos" 231), (s "startpos" 232), (s "newitem" 233), (s "childpos" 234), (s "rightpos" 235)]
noncomputable def sur.o_38 (_ : Params) : Obj := tu []
noncomputable def sur.o_39 (_ : Params) : Obj := f0 F5 "_siftup"
noncomputable def sur.o_40 (_ : Params) : Obj := co "_siftup" "_siftup" 226 26 2 0 0 3 43 y 44 .none (r 45) (r 46) (r 47) 236
noncomputable def sur.o_41 (_ : Params) : Obj := EqT.out (a := f1 F5 "_siftup" 3 [] .none .none .none (s "cpy313.heapq" 194) none (r 48) .none 0) (by dsimp only [f1, F5]; exact EqT.refl)
noncomputable def sur.o_45 (_ : Params) : Obj := tu []
noncomputable def sur.o_46 (_ : Params) : Obj := fs (t "builtin_function_or_method") [(b "type.__prepare__"), (t "type")]
noncomputable def sur.o_47 (P : Params) : Obj := di P (t "dict") [("__module__", 248, (s "cpy313.difflib" 239)), ("__qualname__", 250, (s "_tuplegetter" 249)), ("__firstlineno__", 252, (i 41 251)), ("__init__", 261, (r 63)), ("__get__", 270, (r 71)), ("__set__", 279, (r 78)), ("__delete__", 287, (r 85)), ("__static_attributes__", 290, (r 86))] 8
noncomputable def sur.o_48 (_ : Params) : Obj := tu []
noncomputable def sur.o_49 (_ : Params) : Obj := fs .none [(i 43 0), (i 4 0), (r 62), (i 47 0), (i 4 0), (r 70), (i 54 0), (i 4 0), (r 77), (i 57 0), (i 4 0), (r 84)]
noncomputable def sur.o_50 (_ : Params) : Obj := co "_tuplegetter" "_tuplegetter" 243 41 0 0 0 0 53 n 54 .none .none .none .none 246
noncomputable def sur.o_51 (_ : Params) : Obj := w (o0 (t "frame")) none #[(some (r 55)), (some (r 3)), (some (r 52)), none, (some (s "cpy313.difflib" 239)), none, (some (r 0))]
noncomputable def sur.o_52 (_ : Params) : Obj := tu []
noncomputable def sur.o_53 (_ : Params) : Obj := fs .none []
noncomputable def sur.o_54 (_ : Params) : Obj := tu [(s "self" 256), (s "index" 257), (s "doc" 258)]
noncomputable def sur.o_55 (_ : Params) : Obj := tu []
noncomputable def sur.o_56 (_ : Params) : Obj := f0 F7x0 "_tuplegetter.__init__"
noncomputable def sur.o_57 (_ : Params) : Obj := co "__init__" "_tuplegetter.__init__" 253 43 3 0 0 3 57 y 58 .none (r 59) (r 60) (r 61) 259
noncomputable def sur.o_58 (_ : Params) : Obj := f1 F7x0 "_tuplegetter.__init__" 3 [] .none .none .none (s "cpy313.difflib" 239) none (r 62) .none 0
noncomputable def sur.o_59 (_ : Params) : Obj := tu [.none]
noncomputable def sur.o_60 (_ : Params) : Obj := tu []
noncomputable def sur.o_61 (_ : Params) : Obj := fs .none []
noncomputable def sur.o_62 (_ : Params) : Obj := tu [(s "self" 265), (s "obj" 266), (s "objtype" 267)]
noncomputable def sur.o_63 (_ : Params) : Obj := tu []
noncomputable def sur.o_64 (_ : Params) : Obj := f0 F7x1 "_tuplegetter.__get__"
noncomputable def sur.o_65 (_ : Params) : Obj := co "__get__" "_tuplegetter.__get__" 262 47 3 0 0 3 65 y 66 .none (r 67) (r 68) (r 69) 268
noncomputable def sur.o_66 (_ : Params) : Obj := f1 F7x1 "_tuplegetter.__get__" 3 [] (r 64) .none .none (s "cpy313.difflib" 239) none (r 70) .none 0
noncomputable def sur.o_67 (_ : Params) : Obj := tu []
noncomputable def sur.o_68 (_ : Params) : Obj := fs .none []
noncomputable def sur.o_69 (_ : Params) : Obj := tu [(s "self" 274), (s "obj" 275), (s "value" 276)]
noncomputable def sur.o_70 (_ : Params) : Obj := tu []
noncomputable def sur.o_71 (_ : Params) : Obj := f0 F7x2 "_tuplegetter.__set__"
noncomputable def sur.o_72 (_ : Params) : Obj := co "__set__" "_tuplegetter.__set__" 271 54 3 0 0 3 72 y 73 .none (r 74) (r 75) (r 76) 277
noncomputable def sur.o_73 (_ : Params) : Obj := f1 F7x2 "_tuplegetter.__set__" 3 [] .none .none .none (s "cpy313.difflib" 239) none (r 77) .none 0
noncomputable def sur.o_74 (_ : Params) : Obj := tu []
noncomputable def sur.o_75 (_ : Params) : Obj := fs .none []
noncomputable def sur.o_76 (_ : Params) : Obj := tu [(s "self" 283), (s "obj" 284)]
noncomputable def sur.o_77 (_ : Params) : Obj := tu []
noncomputable def sur.o_78 (_ : Params) : Obj := f0 F7x3 "_tuplegetter.__delete__"
noncomputable def sur.o_79 (_ : Params) : Obj := co "__delete__" "_tuplegetter.__delete__" 280 57 2 0 0 3 79 y 80 .none (r 81) (r 82) (r 83) 285
noncomputable def sur.o_80 (_ : Params) : Obj := f1 F7x3 "_tuplegetter.__delete__" 3 [] .none .none .none (s "cpy313.difflib" 239) none (r 84) .none 0
noncomputable def sur.o_81 (_ : Params) : Obj := tu [(s "__doc__" 288), (s "index" 289)]
noncomputable def sur.o_82 (P : Params) : Obj := di P (t "dict") [("__module__", 248, (s "cpy313.difflib" 239)), ("__firstlineno__", 252, (i 41 251)), ("__init__", 261, (r 63)), ("__get__", 270, (r 71)), ("__set__", 279, (r 78)), ("__delete__", 287, (r 85)), ("__static_attributes__", 290, (r 86)), ("__dict__", 292, (r 89)), ("__weakref__", 294, (r 90)), ("__doc__", 295, .none)] 4
noncomputable def sur.o_83 (_ : Params) : Obj := w (cl (t "type") "_tuplegetter" [(t "object")] [(r 88), (t "object")] 87 "_tuplegetter" true) none #[none, none, (some (s "_tuplegetter" 241)), (some (s "_tuplegetter" 249)), (some (b "object.__new__")), (some y)]
noncomputable def sur.o_84 (_ : Params) : Obj := fs (t "getset_descriptor") [(s "__dict__" 291), (r 88), (b "function.__dict__"), (b "function.__dict__#set")]
noncomputable def sur.o_85 (_ : Params) : Obj := fs (t "getset_descriptor") [(s "__weakref__" 293), (r 88), (b "ExceptionGroup.__weakref__"), .none]
noncomputable def sur.o_86 (_ : Params) : Obj := fs (t "super") [(r 88), (r 88), (r 88)]
noncomputable def sur.o_87 (_ : Params) : Obj := fs (t "builtin_function_or_method") [(b "object.__init_subclass__"), (r 88)]
noncomputable def sur.o_91 (_ : Params) : Obj := tu [(t "tuple")]
noncomputable def sur.o_92 (_ : Params) : Obj := fs (t "builtin_function_or_method") [(b "type.__prepare__"), (t "type")]
noncomputable def sur.o_93 (P : Params) : Obj := di P (t "dict") [("__module__", 305, (s "cpy313.difflib" 239)), ("__qualname__", 307, (s "Match" 306)), ("__firstlineno__", 309, (i 59 308)), ("__doc__", 311, (d (cb 8) 310)), ("__slots__", 313, (r 101)), ("_fields", 317, (r 102)), ("_field_defaults", 318, (r 103)), ("__new__", 329, (r 110)), ("_make", 351, (r 119)), ("_replace", 362, (r 128)), ("__replace__", 363, (r 128)), ("__repr__", 371, (r 135)), ("_asdict", 378, (r 142)), ("__getnewargs__", 386, (r 149)), ("__match_args__", 390, (r 150)), ("a", 400, (r 152)), ("b", 410, (r 155)), ("size", 420, (r 158)), ("__static_attributes__", 421, (r 160)), ("__classcell__", 422, (r 96))] 20
noncomputable def sur.o_94 (_ : Params) : Obj := ce (t "cell") (some (r 163))
noncomputable def sur.o_95 (_ : Params) : Obj := tu []
noncomputable def sur.o_96 (_ : Params) : Obj := fs .none [(i 65 0), (i 4 0), (r 109), (i 70 0), (i 4 0), (r 116), (i 77 0), (i 4 0), (r 127), (i 88 0), (i 4 0), (r 134), (i 92 0), (i 4 0), (r 141), (i 95 0), (i 4 0), (r 148)]
noncomputable def sur.o_97 (_ : Params) : Obj := co "Match" "Match" 300 59 0 0 0 0 97 n 98 .none .none .none .none 303
noncomputable def sur.o_98 (_ : Params) : Obj := w (o0 (t "frame")) none #[(some (r 99)), (some (r 3)), (some (r 95)), none, (some (s "cpy313.difflib" 239)), none, (some (r 0))]
noncomputable def sur.o_99 (_ : Params) : Obj := tu []
noncomputable def sur.o_100 (_ : Params) : Obj := tu [(s "a" 314), (s "b" 315), (s "size" 316)]
noncomputable def sur.o_101 (P : Params) : Obj := di P (t "dict") [] 0
noncomputable def sur.o_102 (_ : Params) : Obj := tu []
noncomputable def sur.o_103 (_ : Params) : Obj := fs .none []
noncomputable def sur.o_104 (_ : Params) : Obj := tu [(s "_cls" 322), (s "a" 323), (s "b" 324), (s "size" 325)]
noncomputable def sur.o_105 (_ : Params) : Obj := tu []
noncomputable def sur.o_106 (_ : Params) : Obj := f0 F8x4 "Match.__new__"
noncomputable def sur.o_107 (_ : Params) : Obj := co "__new__" "Match.__new__" 319 65 4 0 0 3 104 y 105 .none (r 106) (r 107) (r 108) 326
noncomputable def sur.o_108 (_ : Params) : Obj := EqT.out (a := f1 F8x4 "Match.__new__" 3 [] .none .none (d F8x4.b 328) (s "cpy313.difflib" 239) none (r 109) .none 0) (by dsimp only [f1, F8x4]; exact EqT.refl)
noncomputable def sur.o_109 (_ : Params) : Obj := tu []
noncomputable def sur.o_110 (_ : Params) : Obj := fs .none []
noncomputable def sur.o_111 (_ : Params) : Obj := tu [(s "cls" 333), (s "iterable" 334), (s "result" 335)]
noncomputable def sur.o_112 (_ : Params) : Obj := tu []
noncomputable def sur.o_113 (_ : Params) : Obj := f0 F8x5 "Match._make"
noncomputable def sur.o_114 (_ : Params) : Obj := co "_make" "Match._make" 330 69 2 0 0 3 111 y 112 .none (r 113) (r 114) (r 115) 336
noncomputable def sur.o_115 (_ : Params) : Obj := EqT.out (a := f1 F8x5 "Match._make" 3 [] .none .none (d F8x5.b 338) (s "cpy313.difflib" 239) (some 120) (r 116) .none 0) (by dsimp only [f1, F8x5]; exact EqT.refl)
noncomputable def sur.o_116 (P : Params) : Obj := di P (t "dict") [("__module__", 340, (s "cpy313.difflib" 239)), ("__name__", 343, (s "_make" 342)), ("__qualname__", 346, (s "Match._make" 345)), ("__doc__", 348, (d F8x5.b 338)), ("__annotations__", 350, (r 120))] 5
noncomputable def sur.o_117 (_ : Params) : Obj := w (fs (t "classmethod") [(r 117), n]) (some 118) #[]
noncomputable def sur.o_118 (P : Params) : Obj := di P (t "dict") [] 0
noncomputable def sur.o_119 (_ : Params) : Obj := tu [(r 96)]
noncomputable def sur.o_120 (_ : Params) : Obj := tu [(s "__class__" 355)]
noncomputable def sur.o_121 (_ : Params) : Obj := fs .none []
noncomputable def sur.o_122 (_ : Params) : Obj := tu [(s "self" 356), (s "kwds" 357), (s "result" 358)]
noncomputable def sur.o_123 (_ : Params) : Obj := tu []
noncomputable def sur.o_124 (_ : Params) : Obj := f0 F8x6 "Match._replace"
noncomputable def sur.o_125 (_ : Params) : Obj := co "_replace" "Match._replace" 352 77 1 1 0 11 122 y 123 .none (r 124) (r 125) (r 126) 359
noncomputable def sur.o_126 (_ : Params) : Obj := f1 F8x6 "Match._replace" 3 [(Str.ofString "__class__", 96)] .none .none (d F8x6.b 361) (s "cpy313.difflib" 239) none (r 127) (r 121) 0
noncomputable def sur.o_127 (_ : Params) : Obj := tu []
noncomputable def sur.o_128 (_ : Params) : Obj := fs .none []
noncomputable def sur.o_129 (_ : Params) : Obj := tu [(s "self" 367)]
noncomputable def sur.o_130 (_ : Params) : Obj := tu []
noncomputable def sur.o_131 (_ : Params) : Obj := f0 F8x8 "Match.__repr__"
noncomputable def sur.o_132 (_ : Params) : Obj := co "__repr__" "Match.__repr__" 364 88 1 0 0 3 129 y 130 .none (r 131) (r 132) (r 133) 368
noncomputable def sur.o_133 (_ : Params) : Obj := f1 F8x8 "Match.__repr__" 3 [] .none .none (d F8x8.b 370) (s "cpy313.difflib" 239) none (r 134) .none 0
noncomputable def sur.o_134 (_ : Params) : Obj := tu []
noncomputable def sur.o_135 (_ : Params) : Obj := fs .none []
noncomputable def sur.o_136 (_ : Params) : Obj := tu [(s "self" 375)]
noncomputable def sur.o_137 (_ : Params) : Obj := tu []
noncomputable def sur.o_138 (_ : Params) : Obj := f0 F8x9 "Match._asdict"
noncomputable def sur.o_139 (_ : Params) : Obj := co "_asdict" "Match._asdict" 372 92 1 0 0 3 136 y 137 .none (r 138) (r 139) (r 140) 376
noncomputable def sur.o_140 (_ : Params) : Obj := f1 F8x9 "Match._asdict" 3 [] .none .none .none (s "cpy313.difflib" 239) none (r 141) .none 0
noncomputable def sur.o_141 (_ : Params) : Obj := tu []
noncomputable def sur.o_142 (_ : Params) : Obj := fs .none []
noncomputable def sur.o_143 (_ : Params) : Obj := tu [(s "self" 382)]
noncomputable def sur.o_144 (_ : Params) : Obj := tu []
noncomputable def sur.o_145 (_ : Params) : Obj := f0 F8x10 "Match.__getnewargs__"
noncomputable def sur.o_146 (_ : Params) : Obj := co "__getnewargs__" "Match.__getnewargs__" 379 95 1 0 0 3 143 y 144 .none (r 145) (r 146) (r 147) 383
noncomputable def sur.o_147 (_ : Params) : Obj := f1 F8x10 "Match.__getnewargs__" 3 [] .none .none (d F8x10.b 385) (s "cpy313.difflib" 239) none (r 148) .none 0
noncomputable def sur.o_148 (_ : Params) : Obj := tu [(s "a" 387), (s "b" 388), (s "size" 389)]
noncomputable def sur.o_149 (P : Params) : Obj := di P (t "dict") [("index", 397, (i 0 391)), ("__doc__", 399, (.str (al 12) 392))] 2
noncomputable def sur.o_150 (_ : Params) : Obj := w (o0 (r 88)) (some 151) #[]
noncomputable def sur.o_151 (P : Params) : Obj := di P (t "frame") [("self", 393, (r 152)), ("index", 394, (i 0 391)), ("doc", 395, (.str (al 12) 392))] 3
noncomputable def sur.o_152 (P : Params) : Obj := di P (t "dict") [("index", 407, (i 1 401)), ("__doc__", 409, (.str (al 13) 402))] 2
noncomputable def sur.o_153 (_ : Params) : Obj := w (o0 (r 88)) (some 154) #[]
noncomputable def sur.o_154 (P : Params) : Obj := di P (t "frame") [("self", 403, (r 155)), ("index", 404, (i 1 401)), ("doc", 405, (.str (al 13) 402))] 3
noncomputable def sur.o_155 (P : Params) : Obj := di P (t "dict") [("index", 417, (i 2 411)), ("__doc__", 419, (.str (al 14) 412))] 2
noncomputable def sur.o_156 (_ : Params) : Obj := w (o0 (r 88)) (some 157) #[]
noncomputable def sur.o_157 (P : Params) : Obj := di P (t "frame") [("self", 413, (r 158)), ("index", 414, (i 2 411)), ("doc", 415, (.str (al 14) 412))] 3
noncomputable def sur.o_158 (_ : Params) : Obj := tu []
noncomputable def sur.o_159 (_ : Params) : Obj := sq (t "list") []
noncomputable def sur.o_160 (P : Params) : Obj := di P (t "dict") [("__module__", 305, (s "cpy313.difflib" 239)), ("__firstlineno__", 309, (i 59 308)), ("__doc__", 311, (d (cb 8) 310)), ("__slots__", 313, (r 101)), ("_fields", 317, (r 102)), ("_field_defaults", 318, (r 103)), ("__new__", 329, (r 164)), ("_make", 351, (r 119)), ("_replace", 362, (r 128)), ("__replace__", 363, (r 128)), ("__repr__", 371, (r 135)), ("_asdict", 378, (r 142)), ("__getnewargs__", 386, (r 149)), ("__match_args__", 390, (r 150)), ("a", 400, (r 152)), ("b", 410, (r 155)), ("size", 420, (r 158)), ("__static_attributes__", 421, (r 160))] 2
noncomputable def sur.o_161 (_ : Params) : Obj := w (cl (t "type") "Match" [(t "tuple")] [(r 163), (t "tuple"), (t "object")] 162 "Match" false) none #[(some (r 93)), none, (some (s "Match" 298)), (some (s "Match" 306)), (some .none), (some n)]
noncomputable def sur.o_162 (_ : Params) : Obj := fs (t "staticmethod") [(r 110)]
noncomputable def sur.o_163 (_ : Params) : Obj := fs (t "super") [(r 163), (r 163), (r 163)]
noncomputable def sur.o_164 (_ : Params) : Obj := fs (t "builtin_function_or_method") [(b "object.__init_subclass__"), (r 163)]
noncomputable def sur.o_240 (_ : Params) : Obj := tu []
noncomputable def sur.o_241 (_ : Params) : Obj := fs .none []
noncomputable def sur.o_242 (_ : Params) : Obj := tu [(s "matches" 429), (s "length" 430)]
noncomputable def sur.o_243 (_ : Params) : Obj := tu []
noncomputable def sur.o_244 (_ : Params) : Obj := f0 F9 "_calculate_ratio"
noncomputable def sur.o_245 (_ : Params) : Obj := co "_calculate_ratio" "_calculate_ratio" 426 102 2 0 0 3 167 y 168 .none (r 169) (r 170) (r 171) 431
noncomputable def sur.o_246 (_ : Params) : Obj := f1 F9 "_calculate_ratio" 3 [] .none .none .none (s "cpy313.difflib" 239) none (r 172) .none 0
noncomputable def sur.o_250 (_ : Params) : Obj := tu []
noncomputable def sur.o_251 (_ : Params) : Obj := fs (t "builtin_function_or_method") [(b "type.__prepare__"), (t "type")]
noncomputable def sur.o_252 (P : Params) : Obj := di P (t "dict") [("__module__", 441, (s "cpy313.difflib" 239)), ("__qualname__", 443, (s "SequenceMatcher" 442)), ("__firstlineno__", 445, (i 106 444)), ("__doc__", 447, (.str DOC' 446)), ("__init__", 462, (r 188)), ("set_seqs", 472, (r 195)), ("set_seq1", 481, (r 202)), ("set_seq2", 490, (r 209)), ("_SequenceMatcher__chain_b", 508, (r 216)), ("find_longest_match", 536, (r 224)), ("get_matching_blocks", 563, (r 231)), ("get_opcodes", 578, (r 238)), ("get_grouped_opcodes", 587, (r 246)), ("ratio", 596, (r 253)), ("quick_ratio", 603, (r 260)), ("real_quick_ratio", 610, (r 267)), ("__static_attributes__", 621, (r 268))] 17
noncomputable def sur.o_253 (_ : Params) : Obj := tu []
noncomputable def sur.o_254 (_ : Params) : Obj := fs .none [(i 181 0), (i 4 0), (r 187), (i 209 0), (i 4 0), (r 194), (i 220 0), (i 4 0), (r 201), (i 245 0), (i 4 0), (r 208), (i 272 0), (i 4 0), (r 215), (i 296 0), (i 4 0), (r 223), (i 371 0), (i 4 0), (r 230), (i 419 0), (i 4 0), (r 237), (i 466 0), (i 4 0), (r 245), (i 469 0), (i 4 0), (r 252), (i 493 0), (i 4 0), (r 259), (i 496 0), (i 4 0), (r 266)]
noncomputable def sur.o_255 (_ : Params) : Obj := co "SequenceMatcher" "SequenceMatcher" 436 106 0 0 0 0 177 n 178 .none .none .none .none 439
noncomputable def sur.o_256 (_ : Params) : Obj := w (o0 (t "frame")) none #[(some (r 179)), (some (r 3)), (some (r 176)), none, (some (s "cpy313.difflib" 239)), none, (some (r 0))]
noncomputable def sur.o_257 (_ : Params) : Obj := tu [.none, (s "" 449), (s "" 450), y]
noncomputable def sur.o_258 (_ : Params) : Obj := tu []
noncomputable def sur.o_259 (_ : Params) : Obj := fs .none []
noncomputable def sur.o_260 (_ : Params) : Obj := tu [(s "self" 454), (s "isjunk" 455), (s "a" 456), (s "b" 457), (s "autojunk" 458)]
noncomputable def sur.o_261 (_ : Params) : Obj := tu []
noncomputable def sur.o_262 (_ : Params) : Obj := f0 F10x1 "SequenceMatcher.__init__"
noncomputable def sur.o_263 (_ : Params) : Obj := co "__init__" "SequenceMatcher.__init__" 451 181 5 0 0 3 182 y 183 .none (r 184) (r 185) (r 186) 459
noncomputable def sur.o_264 (_ : Params) : Obj := EqT.out (a := f1 F10x1 "SequenceMatcher.__init__" 3 [] (r 181) .none (d F10x1.b 461) (s "cpy313.difflib" 239) none (r 187) .none 0) (by dsimp only [f1, F10x1]; exact EqT.refl)
noncomputable def sur.o_265 (_ : Params) : Obj := tu []
noncomputable def sur.o_266 (_ : Params) : Obj := fs .none []
noncomputable def sur.o_267 (_ : Params) : Obj := tu [(s "self" 466), (s "a" 467), (s "b" 468)]
noncomputable def sur.o_268 (_ : Params) : Obj := tu []
noncomputable def sur.o_269 (_ : Params) : Obj := f0 F10x2 "SequenceMatcher.set_seqs"
noncomputable def sur.o_270 (_ : Params) : Obj := co "set_seqs" "SequenceMatcher.set_seqs" 463 209 3 0 0 3 189 y 190 .none (r 191) (r 192) (r 193) 469
noncomputable def sur.o_271 (_ : Params) : Obj := EqT.out (a := f1 F10x2 "SequenceMatcher.set_seqs" 3 [] .none .none (d F10x2.b 471) (s "cpy313.difflib" 239) none (r 194) .none 0) (by dsimp only [f1, F10x2]; exact EqT.refl)
noncomputable def sur.o_272 (_ : Params) : Obj := tu []
noncomputable def sur.o_273 (_ : Params) : Obj := fs .none []
noncomputable def sur.o_274 (_ : Params) : Obj := tu [(s "self" 476), (s "a" 477)]
noncomputable def sur.o_275 (_ : Params) : Obj := tu []
noncomputable def sur.o_276 (_ : Params) : Obj := f0 F10x3 "SequenceMatcher.set_seq1"
noncomputable def sur.o_277 (_ : Params) : Obj := co "set_seq1" "SequenceMatcher.set_seq1" 473 220 2 0 0 3 196 y 197 .none (r 198) (r 199) (r 200) 478
noncomputable def sur.o_278 (_ : Params) : Obj := EqT.out (a := f1 F10x3 "SequenceMatcher.set_seq1" 3 [] .none .none (d F10x3.b 480) (s "cpy313.difflib" 239) none (r 201) .none 0) (by dsimp only [f1, F10x3]; exact EqT.refl)
noncomputable def sur.o_279 (_ : Params) : Obj := tu []
noncomputable def sur.o_280 (_ : Params) : Obj := fs .none []
noncomputable def sur.o_281 (_ : Params) : Obj := tu [(s "self" 485), (s "b" 486)]
noncomputable def sur.o_282 (_ : Params) : Obj := tu []
noncomputable def sur.o_283 (_ : Params) : Obj := f0 F10x4 "SequenceMatcher.set_seq2"
noncomputable def sur.o_284 (_ : Params) : Obj := co "set_seq2" "SequenceMatcher.set_seq2" 482 245 2 0 0 3 203 y 204 .none (r 205) (r 206) (r 207) 487
noncomputable def sur.o_285 (_ : Params) : Obj := EqT.out (a := f1 F10x4 "SequenceMatcher.set_seq2" 3 [] .none .none (d F10x4.b 489) (s "cpy313.difflib" 239) none (r 208) .none 0) (by dsimp only [f1, F10x4]; exact EqT.refl)
noncomputable def sur.o_286 (_ : Params) : Obj := tu []
noncomputable def sur.o_287 (_ : Params) : Obj := fs .none []
noncomputable def sur.o_288 (_ : Params) : Obj := tu [(s "self" 494), (s "b" 495), (s "b2j" 496), (s "i" 497), (s "elt" 498), (s "indices" 499), (s "junk" 500), (s "isjunk" 501), (s "popular" 502), (s "n" 503), (s "ntest" 504), (s "idxs" 505)]
noncomputable def sur.o_289 (_ : Params) : Obj := tu []
noncomputable def sur.o_290 (_ : Params) : Obj := f0 F10x5 "SequenceMatcher.__chain_b"
noncomputable def sur.o_291 (_ : Params) : Obj := co "__chain_b" "SequenceMatcher.__chain_b" 491 272 1 0 0 3 210 y 211 .none (r 212) (r 213) (r 214) 506
noncomputable def sur.o_292 (_ : Params) : Obj := EqT.out (a := f1 F10x5 "SequenceMatcher.__chain_b" 3 [] .none .none .none (s "cpy313.difflib" 239) none (r 215) .none 0) (by dsimp only [f1, F10x5]; exact EqT.refl)
noncomputable def sur.o_293 (_ : Params) : Obj := tu [(i 0 509), .none, (i 0 510), .none]
noncomputable def sur.o_294 (_ : Params) : Obj := tu []
noncomputable def sur.o_295 (_ : Params) : Obj := fs .none []
noncomputable def sur.o_296 (_ : Params) : Obj := tu [(s "self" 514), (s "alo" 515), (s "ahi" 516), (s "blo" 517), (s "bhi" 518), (s "a" 519), (s "b" 520), (s "b2j" 521), (s "isbjunk" 522), (s "besti" 523), (s "bestj" 524), (s "bestsize" 525), (s "j2len" 526), (s "nothing" 527), (s "i" 528), (s "j2lenget" 529), (s "newj2len" 530), (s "j" 531), (s "k" 532)]
noncomputable def sur.o_297 (_ : Params) : Obj := tu []
noncomputable def sur.o_298 (_ : Params) : Obj := f0 F10x6 "SequenceMatcher.find_longest_match"
noncomputable def sur.o_299 (_ : Params) : Obj := co "find_longest_match" "SequenceMatcher.find_longest_match" 511 296 5 0 0 3 218 y 219 .none (r 220) (r 221) (r 222) 533
noncomputable def sur.o_300 (_ : Params) : Obj := EqT.out (a := f1 F10x6 "SequenceMatcher.find_longest_match" 3 [] (r 217) .none (d F10x6.b 535) (s "cpy313.difflib" 239) none (r 223) .none 0) (by dsimp only [f1, F10x6]; exact EqT.refl)
noncomputable def sur.o_301 (_ : Params) : Obj := tu []
noncomputable def sur.o_302 (_ : Params) : Obj := fs .none []
noncomputable def sur.o_303 (_ : Params) : Obj := tu [(s "self" 540), (s "la" 541), (s "lb" 542), (s "queue" 543), (s "matching_blocks" 544), (s "alo" 545), (s "ahi" 546), (s "blo" 547), (s "bhi" 548), (s "i" 549), (s "j" 550), (s "k" 551), (s "x" 552), (s "i1" 553), (s "j1" 554), (s "k1" 555), (s "non_adjacent" 556), (s "i2" 557), (s "j2" 558), (s "k2" 559)]
noncomputable def sur.o_304 (_ : Params) : Obj := tu []
noncomputable def sur.o_305 (_ : Params) : Obj := f0 F10x7 "SequenceMatcher.get_matching_blocks"
noncomputable def sur.o_306 (_ : Params) : Obj := co "get_matching_blocks" "SequenceMatcher.get_matching_blocks" 537 371 1 0 0 3 225 y 226 .none (r 227) (r 228) (r 229) 560
noncomputable def sur.o_307 (_ : Params) : Obj := EqT.out (a := f1 F10x7 "SequenceMatcher.get_matching_blocks" 3 [] .none .none (d F10x7.b 562) (s "cpy313.difflib" 239) none (r 230) .none 0) (by dsimp only [f1, F10x7]; exact EqT.refl)
noncomputable def sur.o_308 (_ : Params) : Obj := tu []
noncomputable def sur.o_309 (_ : Params) : Obj := fs .none []
noncomputable def sur.o_310 (_ : Params) : Obj := tu [(s "self" 567), (s "i" 568), (s "j" 569), (s "answer" 570), (s "ai" 571), (s "bj" 572), (s "size" 573), (s "tag" 574)]
noncomputable def sur.o_311 (_ : Params) : Obj := tu []
noncomputable def sur.o_312 (_ : Params) : Obj := f0 F10x8 "SequenceMatcher.get_opcodes"
noncomputable def sur.o_313 (_ : Params) : Obj := co "get_opcodes" "SequenceMatcher.get_opcodes" 564 419 1 0 0 3 232 y 233 .none (r 234) (r 235) (r 236) 575
noncomputable def sur.o_314 (_ : Params) : Obj := EqT.out (a := f1 F10x8 "SequenceMatcher.get_opcodes" 3 [] .none .none (d F10x8.b 577) (s "cpy313.difflib" 239) none (r 237) .none 0) (by dsimp only [f1, F10x8]; exact EqT.refl)
noncomputable def sur.o_315 (_ : Params) : Obj := tu [(i 3 579)]
noncomputable def sur.o_316 (_ : Params) : Obj := tu []
noncomputable def sur.o_317 (_ : Params) : Obj := fs .none []
noncomputable def sur.o_318 (_ : Params) : Obj := tu [(s "self" 583), (s "n" 584)]
noncomputable def sur.o_319 (_ : Params) : Obj := tu []
noncomputable def sur.o_320 (_ : Params) : Obj := f0 F10x9 "SequenceMatcher.get_grouped_opcodes"
noncomputable def sur.o_321 (_ : Params) : Obj := co "get_grouped_opcodes" "SequenceMatcher.get_grouped_opcodes" 580 466 2 0 0 3 240 y 241 .none (r 242) (r 243) (r 244) 585
noncomputable def sur.o_322 (_ : Params) : Obj := f1 F10x9 "SequenceMatcher.get_grouped_opcodes" 3 [] (r 239) .none .none (s "cpy313.difflib" 239) none (r 245) .none 0
noncomputable def sur.o_323 (_ : Params) : Obj := tu []
noncomputable def sur.o_324 (_ : Params) : Obj := fs .none []
noncomputable def sur.o_325 (_ : Params) : Obj := tu [(s "self" 591), (s "matches" 592)]
noncomputable def sur.o_326 (_ : Params) : Obj := tu []
noncomputable def sur.o_327 (_ : Params) : Obj := f0 F10x10 "SequenceMatcher.ratio"
noncomputable def sur.o_328 (_ : Params) : Obj := co "ratio" "SequenceMatcher.ratio" 588 469 1 0 0 3 247 y 248 .none (r 249) (r 250) (r 251) 593
noncomputable def sur.o_329 (_ : Params) : Obj := f1 F10x10 "SequenceMatcher.ratio" 3 [] .none .none (d F10x10.b 595) (s "cpy313.difflib" 239) none (r 252) .none 0
noncomputable def sur.o_330 (_ : Params) : Obj := tu []
noncomputable def sur.o_331 (_ : Params) : Obj := fs .none []
noncomputable def sur.o_332 (_ : Params) : Obj := tu [(s "self" 600)]
noncomputable def sur.o_333 (_ : Params) : Obj := tu []
noncomputable def sur.o_334 (_ : Params) : Obj := f0 F10x11 "SequenceMatcher.quick_ratio"
noncomputable def sur.o_335 (_ : Params) : Obj := co "quick_ratio" "SequenceMatcher.quick_ratio" 597 493 1 0 0 3 254 y 255 .none (r 256) (r 257) (r 258) 601
noncomputable def sur.o_336 (_ : Params) : Obj := f1 F10x11 "SequenceMatcher.quick_ratio" 3 [] .none .none .none (s "cpy313.difflib" 239) none (r 259) .none 0
noncomputable def sur.o_337 (_ : Params) : Obj := tu []
noncomputable def sur.o_338 (_ : Params) : Obj := fs .none []
noncomputable def sur.o_339 (_ : Params) : Obj := tu [(s "self" 607)]
noncomputable def sur.o_340 (_ : Params) : Obj := tu []
noncomputable def sur.o_341 (_ : Params) : Obj := f0 F10x12 "SequenceMatcher.real_quick_ratio"
noncomputable def sur.o_342 (_ : Params) : Obj := co "real_quick_ratio" "SequenceMatcher.real_quick_ratio" 604 496 1 0 0 3 261 y 262 .none (r 263) (r 264) (r 265) 608
noncomputable def sur.o_343 (_ : Params) : Obj := f1 F10x12 "SequenceMatcher.real_quick_ratio" 3 [] .none .none .none (s "cpy313.difflib" 239) none (r 266) .none 0
noncomputable def sur.o_344 (_ : Params) : Obj := tu [(s "a" 611), (s "autojunk" 612), (s "b" 613), (s "b2j" 614), (s "bjunk" 615), (s "bpopular" 616), (s "fullbcount" 617), (s "isjunk" 618), (s "matching_blocks" 619), (s "opcodes" 620)]
noncomputable def sur.o_345 (P : Params) : Obj := di P (t "dict") [("__module__", 441, (s "cpy313.difflib" 239)), ("__firstlineno__", 445, (i 106 444)), ("__doc__", 447, (.str DOC' 446)), ("__init__", 462, (r 188)), ("set_seqs", 472, (r 195)), ("set_seq1", 481, (r 202)), ("set_seq2", 490, (r 209)), ("_SequenceMatcher__chain_b", 508, (r 216)), ("find_longest_match", 536, (r 224)), ("get_matching_blocks", 563, (r 231)), ("get_opcodes", 578, (r 238)), ("get_grouped_opcodes", 587, (r 246)), ("ratio", 596, (r 253)), ("quick_ratio", 603, (r 260)), ("real_quick_ratio", 610, (r 267)), ("__static_attributes__", 621, (r 268)), ("__dict__", 623, (r 271)), ("__weakref__", 625, (r 272))] 3
noncomputable def sur.o_346 (_ : Params) : Obj := w (cl (t "type") "SequenceMatcher" [(t "object")] [(r 270), (t "object")] 269 "SequenceMatcher" true) none #[none, none, (some (s "SequenceMatcher" 434)), (some (s "SequenceMatcher" 442)), (some (b "object.__new__")), (some y)]
noncomputable def sur.o_347 (_ : Params) : Obj := fs (t "getset_descriptor") [(s "__dict__" 622), (r 270), (b "function.__dict__"), (b "function.__dict__#set")]
noncomputable def sur.o_348 (_ : Params) : Obj := fs (t "getset_descriptor") [(s "__weakref__" 624), (r 270), (b "ExceptionGroup.__weakref__"), .none]
noncomputable def sur.o_349 (_ : Params) : Obj := fs (t "super") [(r 270), (r 270), (r 270)]
noncomputable def sur.o_350 (_ : Params) : Obj := fs (t "builtin_function_or_method") [(b "object.__init_subclass__"), (r 270)]
noncomputable def sur.o_428 (_ : Params) : Obj := tu []
noncomputable def sur.o_429 (_ : Params) : Obj := fs .none []
noncomputable def sur.o_430 (_ : Params) : Obj := tu [(s "mycmp" 633), (s "K" 634)]
noncomputable def sur.o_431 (_ : Params) : Obj := tu [(s "mycmp" 635)]
noncomputable def sur.o_432 (_ : Params) : Obj := f0 F12 "cmp_to_key"
noncomputable def sur.o_433 (_ : Params) : Obj := co "cmp_to_key" "cmp_to_key" 630 499 1 0 0 3 275 y 276 .none (r 277) (r 278) (r 279) 636
noncomputable def sur.o_434 (_ : Params) : Obj := EqT.out (a := f1 F12 "cmp_to_key" 3 [] .none .none (d F12.b 638) (s "cpy313.functools" 628) none (r 280) .none 0) (by dsimp only [f1, F12]; exact EqT.refl)
noncomputable def sur.o_435 (_ : Params) : Obj := o0 (t "object")
noncomputable def sur.o_436 (_ : Params) : Obj := tu [(r 282)]
noncomputable def sur.o_437 (_ : Params) : Obj := tu []
noncomputable def sur.o_438 (_ : Params) : Obj := fs .none []
noncomputable def sur.o_439 (_ : Params) : Obj := tu [(s "function" 644), (s "sequence" 645), (s "initial" 646), (s "it" 647), (s "value" 648), (s "element" 649)]
noncomputable def sur.o_440 (_ : Params) : Obj := tu []
noncomputable def sur.o_441 (_ : Params) : Obj := f0 F14 "reduce"
noncomputable def sur.o_442 (_ : Params) : Obj := co "reduce" "reduce" 641 526 3 0 0 3 284 y 285 .none (r 286) (r 287) (r 288) 650
noncomputable def sur.o_443 (_ : Params) : Obj := EqT.out (a := f1 F14 "reduce" 3 [] (r 283) .none (d F14.b 652) (s "cpy313.functools" 628) none (r 289) .none 0) (by dsimp only [f1, F14]; exact EqT.refl)
noncomputable def sur.o_444 (_ : Params) : Obj := tu []
noncomputable def sur.o_445 (_ : Params) : Obj := fs .none []
noncomputable def sur.o_446 (_ : Params) : Obj := tu [(s "values" 659), (s "weight" 660), (s "asked" 661), (s "compare" 662)]
noncomputable def sur.o_447 (_ : Params) : Obj := tu [(s "values" 663), (s "weight" 664), (s "asked" 665)]
noncomputable def sur.o_448 (_ : Params) : Obj := f0 F16 "_law_compare"
noncomputable def sur.o_449 (_ : Params) : Obj := co "_law_compare" "_law_compare" 656 551 3 0 0 3 291 y 292 .none (r 293) (r 294) (r 295) 666
noncomputable def sur.o_450 (_ : Params) : Obj := EqT.out (a := f1 F16 "_law_compare" 3 [] .none .none .none (s "law_ik0098_01" 654) none (r 296) .none 0) (by dsimp only [f1, F16]; exact EqT.refl)
noncomputable def sur.o_451 (_ : Params) : Obj := tu []
noncomputable def sur.o_452 (_ : Params) : Obj := fs .none []
noncomputable def sur.o_453 (_ : Params) : Obj := tu [(s "size" 672), (s "keys" 673), (s "handed" 674), (s "offer" 675)]
noncomputable def sur.o_454 (_ : Params) : Obj := tu [(s "size" 676), (s "handed" 677)]
noncomputable def sur.o_455 (_ : Params) : Obj := f0 F17 "_law_heap"
noncomputable def sur.o_456 (_ : Params) : Obj := co "_law_heap" "_law_heap" 669 557 3 0 0 3 298 y 299 .none (r 300) (r 301) (r 302) 678
noncomputable def sur.o_457 (_ : Params) : Obj := EqT.out (a := f1 F17 "_law_heap" 3 [] .none .none .none (s "law_ik0098_01" 654) none (r 303) .none 0) (by dsimp only [f1, F17]; exact EqT.refl)
noncomputable def sur.o_458 (_ : Params) : Obj := tu []
noncomputable def sur.o_459 (_ : Params) : Obj := fs .none []
noncomputable def sur.o_460 (_ : Params) : Obj := tu [(s "flags" 684), (s "codes" 685), (s "i" 686), (s "j" 687), (s "end" 688), (s "step" 689)]
noncomputable def sur.o_461 (_ : Params) : Obj := tu []
noncomputable def sur.o_462 (_ : Params) : Obj := f0 F18 "_law_codes"
noncomputable def sur.o_463 (_ : Params) : Obj := co "_law_codes" "_law_codes" 681 566 1 0 0 3 305 y 306 .none (r 307) (r 308) (r 309) 690
noncomputable def sur.o_464 (_ : Params) : Obj := EqT.out (a := f1 F18 "_law_codes" 3 [] .none .none .none (s "law_ik0098_01" 654) none (r 310) .none 0) (by dsimp only [f1, F18]; exact EqT.refl)
noncomputable def sur.o_465 (_ : Params) : Obj := tu []
noncomputable def sur.o_466 (_ : Params) : Obj := fs .none []
noncomputable def sur.o_467 (_ : Params) : Obj := f0 F19 "law"
noncomputable def sur.o_468 (_ : Params) : Obj := co "law" "law" 693 576 1 0 0 3 312 y 313 .none .none .none (r 314) 696
noncomputable def sur.o_469 (_ : Params) : Obj := EqT.out (a := f1 F19 "law" 3 [] .none .none .none (s "law_ik0098_01" 654) none (r 315) .none 0) (by dsimp only [f1, F19]; exact EqT.refl)
noncomputable def objs (P : Params) : List Obj := [boot_o_0 P, boot_o_1 P, boot_o_2 P, sur.o_426 P, boot_o_4 P, boot_o_5 P, boot_o_6 P, boot_o_7 P, boot_o_8 P, boot_o_9 P, boot_o_10 P, sur.o_1 P, sur.o_427 P, sur.o_3 P, sur.o_4 P, sur.o_7 P, sur.o_8 P, sur.o_9 P, sur.o_10 P, sur.o_11 P, sur.o_12 P, sur.o_13 P, sur.o_14 P, sur.o_15 P, sur.o_16 P, sur.o_17 P, sur.o_18 P, sur.o_19 P, sur.o_20 P, sur.o_21 P, sur.o_22 P, sur.o_23 P, sur.o_24 P, sur.o_25 P, sur.o_26 P, sur.o_27 P, sur.o_28 P, sur.o_29 P, sur.o_30 P, sur.o_31 P, sur.o_32 P, sur.o_33 P, sur.o_34 P, sur.o_35 P, sur.o_36 P, sur.o_37 P, sur.o_38 P, sur.o_39 P, sur.o_40 P, sur.o_41 P, sur.o_45 P, sur.o_46 P, sur.o_47 P, sur.o_48 P, sur.o_49 P, sur.o_50 P, sur.o_51 P, sur.o_52 P, sur.o_53 P, sur.o_54 P, sur.o_55 P, sur.o_56 P, sur.o_57 P, sur.o_58 P, sur.o_59 P, sur.o_60 P, sur.o_61 P, sur.o_62 P, sur.o_63 P, sur.o_64 P, sur.o_65 P, sur.o_66 P, sur.o_67 P, sur.o_68 P, sur.o_69 P, sur.o_70 P, sur.o_71 P, sur.o_72 P, sur.o_73 P, sur.o_74 P, sur.o_75 P, sur.o_76 P, sur.o_77 P, sur.o_78 P, sur.o_79 P, sur.o_80 P, sur.o_81 P, sur.o_82 P, sur.o_83 P, sur.o_84 P, sur.o_85 P, sur.o_86 P, sur.o_87 P, sur.o_91 P, sur.o_92 P, sur.o_93 P, sur.o_94 P, sur.o_95 P, sur.o_96 P, sur.o_97 P, sur.o_98 P, sur.o_99 P, sur.o_100 P, sur.o_101 P, sur.o_102 P, sur.o_103 P, sur.o_104 P, sur.o_105 P, sur.o_106 P, sur.o_107 P, sur.o_108 P, sur.o_109 P, sur.o_110 P, sur.o_111 P, sur.o_112 P, sur.o_113 P, sur.o_114 P, sur.o_115 P, sur.o_116 P, sur.o_117 P, sur.o_118 P, sur.o_119 P, sur.o_120 P, sur.o_121 P, sur.o_122 P, sur.o_123 P, sur.o_124 P, sur.o_125 P, sur.o_126 P, sur.o_127 P, sur.o_128 P, sur.o_129 P, sur.o_130 P, sur.o_131 P, sur.o_132 P, sur.o_133 P, sur.o_134 P, sur.o_135 P, sur.o_136 P, sur.o_137 P, sur.o_138 P, sur.o_139 P, sur.o_140 P, sur.o_141 P, sur.o_142 P, sur.o_143 P, sur.o_144 P, sur.o_145 P, sur.o_146 P, sur.o_147 P, sur.o_148 P, sur.o_149 P, sur.o_150 P, sur.o_151 P, sur.o_152 P, sur.o_153 P, sur.o_154 P, sur.o_155 P, sur.o_156 P, sur.o_157 P, sur.o_158 P, sur.o_159 P, sur.o_160 P, sur.o_161 P, sur.o_162 P, sur.o_163 P, sur.o_164 P, sur.o_240 P, sur.o_241 P, sur.o_242 P, sur.o_243 P, sur.o_244 P, sur.o_245 P, sur.o_246 P, sur.o_250 P, sur.o_251 P, sur.o_252 P, sur.o_253 P, sur.o_254 P, sur.o_255 P, sur.o_256 P, sur.o_257 P, sur.o_258 P, sur.o_259 P, sur.o_260 P, sur.o_261 P, sur.o_262 P, sur.o_263 P, sur.o_264 P, sur.o_265 P, sur.o_266 P, sur.o_267 P, sur.o_268 P, sur.o_269 P, sur.o_270 P, sur.o_271 P, sur.o_272 P, sur.o_273 P, sur.o_274 P, sur.o_275 P, sur.o_276 P, sur.o_277 P, sur.o_278 P, sur.o_279 P, sur.o_280 P, sur.o_281 P, sur.o_282 P, sur.o_283 P, sur.o_284 P, sur.o_285 P, sur.o_286 P, sur.o_287 P, sur.o_288 P, sur.o_289 P, sur.o_290 P, sur.o_291 P, sur.o_292 P, sur.o_293 P, sur.o_294 P, sur.o_295 P, sur.o_296 P, sur.o_297 P, sur.o_298 P, sur.o_299 P, sur.o_300 P, sur.o_301 P, sur.o_302 P, sur.o_303 P, sur.o_304 P, sur.o_305 P, sur.o_306 P, sur.o_307 P, sur.o_308 P, sur.o_309 P, sur.o_310 P, sur.o_311 P, sur.o_312 P, sur.o_313 P, sur.o_314 P, sur.o_315 P, sur.o_316 P, sur.o_317 P, sur.o_318 P, sur.o_319 P, sur.o_320 P, sur.o_321 P, sur.o_322 P, sur.o_323 P, sur.o_324 P, sur.o_325 P, sur.o_326 P, sur.o_327 P, sur.o_328 P, sur.o_329 P, sur.o_330 P, sur.o_331 P, sur.o_332 P, sur.o_333 P, sur.o_334 P, sur.o_335 P, sur.o_336 P, sur.o_337 P, sur.o_338 P, sur.o_339 P, sur.o_340 P, sur.o_341 P, sur.o_342 P, sur.o_343 P, sur.o_344 P, sur.o_345 P, sur.o_346 P, sur.o_347 P, sur.o_348 P, sur.o_349 P, sur.o_350 P, sur.o_428 P, sur.o_429 P, sur.o_430 P, sur.o_431 P, sur.o_432 P, sur.o_433 P, sur.o_434 P, sur.o_435 P, sur.o_436 P, sur.o_437 P, sur.o_438 P, sur.o_439 P, sur.o_440 P, sur.o_441 P, sur.o_442 P, sur.o_443 P, sur.o_444 P, sur.o_445 P, sur.o_446 P, sur.o_447 P, sur.o_448 P, sur.o_449 P, sur.o_450 P, sur.o_451 P, sur.o_452 P, sur.o_453 P, sur.o_454 P, sur.o_455 P, sur.o_456 P, sur.o_457 P, sur.o_458 P, sur.o_459 P, sur.o_460 P, sur.o_461 P, sur.o_462 P, sur.o_463 P, sur.o_464 P, sur.o_465 P, sur.o_466 P, sur.o_467 P, sur.o_468 P, sur.o_469 P]
noncomputable abbrev Z.e : BT := .nil
noncomputable abbrev Z.N (o : Obj) (a b : BT) : BT := .node o a b
noncomputable abbrev Z.f (o : Obj) : BT := .node o .nil .nil
noncomputable def TZ (P : Params) : BT := (N (boot_o_0 P) (N (boot_o_1 P) (N (sur.o_426 P) (N (boot_o_7 P) (N (sur.o_7 P) (N (sur.o_23 P) (N (sur.o_58 P) (N (sur.o_125 P) (f (sur.o_331 P)) e) (f (sur.o_267 P))) (N (sur.o_93 P) (N (sur.o_157 P) (f (sur.o_440 P)) e) (f (sur.o_299 P)))) (N (sur.o_39 P) (N (sur.o_74 P) (N (sur.o_141 P) (f (sur.o_347 P)) e) (f (sur.o_283 P))) (N (sur.o_109 P) (N (sur.o_251 P) (f (sur.o_456 P)) e) (f (sur.o_315 P))))) (N (sur.o_15 P) (N (sur.o_31 P) (N (sur.o_66 P) (N (sur.o_133 P) (f (sur.o_339 P)) e) (f (sur.o_275 P))) (N (sur.o_101 P) (N (sur.o_240 P) (f (sur.o_448 P)) e) (f (sur.o_307 P)))) (N (sur.o_50 P) (N (sur.o_82 P) (N (sur.o_149 P) (f (sur.o_432 P)) e) (f (sur.o_291 P))) (N (sur.o_117 P) (N (sur.o_259 P) (f (sur.o_464 P)) e) (f (sur.o_323 P)))))) (N (sur.o_1 P) (N (sur.o_11 P) (N (sur.o_27 P) (N (sur.o_62 P) (N (sur.o_129 P) (f (sur.o_335 P)) e) (f (sur.o_271 P))) (N (sur.o_97 P) (N (sur.o_161 P) (f (sur.o_444 P)) e) (f (sur.o_303 P)))) (N (sur.o_46 P) (N (sur.o_78 P) (N (sur.o_145 P) (f (sur.o_428 P)) e) (f (sur.o_287 P))) (N (sur.o_113 P) (N (sur.o_255 P) (f (sur.o_460 P)) e) (f (sur.o_319 P))))) (N (sur.o_19 P) (N (sur.o_35 P) (N (sur.o_70 P) (N (sur.o_137 P) (f (sur.o_343 P)) e) (f (sur.o_279 P))) (N (sur.o_105 P) (N (sur.o_244 P) (f (sur.o_452 P)) e) (f (sur.o_311 P)))) (N (sur.o_54 P) (N (sur.o_86 P) (N (sur.o_153 P) (f (sur.o_436 P)) e) (f (sur.o_295 P))) (N (sur.o_121 P) (N (sur.o_263 P) (f (sur.o_468 P)) e) (f (sur.o_327 P))))))) (N (boot_o_5 P) (N (boot_o_9 P) (N (sur.o_9 P) (N (sur.o_25 P) (N (sur.o_60 P) (N (sur.o_127 P) (f (sur.o_333 P)) e) (f (sur.o_269 P))) (N (sur.o_95 P) (N (sur.o_159 P) (f (sur.o_442 P)) e) (f (sur.o_301 P)))) (N (sur.o_41 P) (N (sur.o_76 P) (N (sur.o_143 P) (f (sur.o_349 P)) e) (f (sur.o_285 P))) (N (sur.o_111 P) (N (sur.o_253 P) (f (sur.o_458 P)) e) (f (sur.o_317 P))))) (N (sur.o_17 P) (N (sur.o_33 P) (N (sur.o_68 P) (N (sur.o_135 P) (f (sur.o_341 P)) e) (f (sur.o_277 P))) (N (sur.o_103 P) (N (sur.o_242 P) (f (sur.o_450 P)) e) (f (sur.o_309 P)))) (N (sur.o_52 P) (N (sur.o_84 P) (N (sur.o_151 P) (f (sur.o_434 P)) e) (f (sur.o_293 P))) (N (sur.o_119 P) (N (sur.o_261 P) (f (sur.o_466 P)) e) (f (sur.o_325 P)))))) (N (sur.o_3 P) (N (sur.o_13 P) (N (sur.o_29 P) (N (sur.o_64 P) (N (sur.o_131 P) (f (sur.o_337 P)) e) (f (sur.o_273 P))) (N (sur.o_99 P) (N (sur.o_163 P) (f (sur.o_446 P)) e) (f (sur.o_305 P)))) (N (sur.o_48 P) (N (sur.o_80 P) (N (sur.o_147 P) (f (sur.o_430 P)) e) (f (sur.o_289 P))) (N (sur.o_115 P) (N (sur.o_257 P) (f (sur.o_462 P)) e) (f (sur.o_321 P))))) (N (sur.o_21 P) (N (sur.o_37 P) (N (sur.o_72 P) (N (sur.o_139 P) (f (sur.o_345 P)) e) (f (sur.o_281 P))) (N (sur.o_107 P) (N (sur.o_246 P) (f (sur.o_454 P)) e) (f (sur.o_313 P)))) (N (sur.o_56 P) (N (sur.o_91 P) (N (sur.o_155 P) (f (sur.o_438 P)) e) (f (sur.o_297 P))) (N (sur.o_123 P) (f (sur.o_265 P)) (f (sur.o_329 P)))))))) (N (boot_o_2 P) (N (boot_o_4 P) (N (boot_o_8 P) (N (sur.o_8 P) (N (sur.o_24 P) (N (sur.o_59 P) (N (sur.o_126 P) (f (sur.o_332 P)) e) (f (sur.o_268 P))) (N (sur.o_94 P) (N (sur.o_158 P) (f (sur.o_441 P)) e) (f (sur.o_300 P)))) (N (sur.o_40 P) (N (sur.o_75 P) (N (sur.o_142 P) (f (sur.o_348 P)) e) (f (sur.o_284 P))) (N (sur.o_110 P) (N (sur.o_252 P) (f (sur.o_457 P)) e) (f (sur.o_316 P))))) (N (sur.o_16 P) (N (sur.o_32 P) (N (sur.o_67 P) (N (sur.o_134 P) (f (sur.o_340 P)) e) (f (sur.o_276 P))) (N (sur.o_102 P) (N (sur.o_241 P) (f (sur.o_449 P)) e) (f (sur.o_308 P)))) (N (sur.o_51 P) (N (sur.o_83 P) (N (sur.o_150 P) (f (sur.o_433 P)) e) (f (sur.o_292 P))) (N (sur.o_118 P) (N (sur.o_260 P) (f (sur.o_465 P)) e) (f (sur.o_324 P)))))) (N (sur.o_427 P) (N (sur.o_12 P) (N (sur.o_28 P) (N (sur.o_63 P) (N (sur.o_130 P) (f (sur.o_336 P)) e) (f (sur.o_272 P))) (N (sur.o_98 P) (N (sur.o_162 P) (f (sur.o_445 P)) e) (f (sur.o_304 P)))) (N (sur.o_47 P) (N (sur.o_79 P) (N (sur.o_146 P) (f (sur.o_429 P)) e) (f (sur.o_288 P))) (N (sur.o_114 P) (N (sur.o_256 P) (f (sur.o_461 P)) e) (f (sur.o_320 P))))) (N (sur.o_20 P) (N (sur.o_36 P) (N (sur.o_71 P) (N (sur.o_138 P) (f (sur.o_344 P)) e) (f (sur.o_280 P))) (N (sur.o_106 P) (N (sur.o_245 P) (f (sur.o_453 P)) e) (f (sur.o_312 P)))) (N (sur.o_55 P) (N (sur.o_87 P) (N (sur.o_154 P) (f (sur.o_437 P)) e) (f (sur.o_296 P))) (N (sur.o_122 P) (N (sur.o_264 P) (f (sur.o_469 P)) e) (f (sur.o_328 P))))))) (N (boot_o_6 P) (N (boot_o_10 P) (N (sur.o_10 P) (N (sur.o_26 P) (N (sur.o_61 P) (N (sur.o_128 P) (f (sur.o_334 P)) e) (f (sur.o_270 P))) (N (sur.o_96 P) (N (sur.o_160 P) (f (sur.o_443 P)) e) (f (sur.o_302 P)))) (N (sur.o_45 P) (N (sur.o_77 P) (N (sur.o_144 P) (f (sur.o_350 P)) e) (f (sur.o_286 P))) (N (sur.o_112 P) (N (sur.o_254 P) (f (sur.o_459 P)) e) (f (sur.o_318 P))))) (N (sur.o_18 P) (N (sur.o_34 P) (N (sur.o_69 P) (N (sur.o_136 P) (f (sur.o_342 P)) e) (f (sur.o_278 P))) (N (sur.o_104 P) (N (sur.o_243 P) (f (sur.o_451 P)) e) (f (sur.o_310 P)))) (N (sur.o_53 P) (N (sur.o_85 P) (N (sur.o_152 P) (f (sur.o_435 P)) e) (f (sur.o_294 P))) (N (sur.o_120 P) (N (sur.o_262 P) (f (sur.o_467 P)) e) (f (sur.o_326 P)))))) (N (sur.o_4 P) (N (sur.o_14 P) (N (sur.o_30 P) (N (sur.o_65 P) (N (sur.o_132 P) (f (sur.o_338 P)) e) (f (sur.o_274 P))) (N (sur.o_100 P) (N (sur.o_164 P) (f (sur.o_447 P)) e) (f (sur.o_306 P)))) (N (sur.o_49 P) (N (sur.o_81 P) (N (sur.o_148 P) (f (sur.o_431 P)) e) (f (sur.o_290 P))) (N (sur.o_116 P) (N (sur.o_258 P) (f (sur.o_463 P)) e) (f (sur.o_322 P))))) (N (sur.o_22 P) (N (sur.o_38 P) (N (sur.o_73 P) (N (sur.o_140 P) (f (sur.o_346 P)) e) (f (sur.o_282 P))) (N (sur.o_108 P) (N (sur.o_250 P) (f (sur.o_455 P)) e) (f (sur.o_314 P)))) (N (sur.o_57 P) (N (sur.o_92 P) (N (sur.o_156 P) (f (sur.o_439 P)) e) (f (sur.o_298 P))) (N (sur.o_124 P) (f (sur.o_266 P)) (f (sur.o_330 P)))))))))
end Mine
end
section
set_option maxRecDepth 1000000
set_option maxHeartbeats 0
noncomputable section
namespace Mine
noncomputable abbrev pw : Program := PySem.Challenge.pw_ik0098_01
noncomputable abbrev body : List Stmt := behindTheImports pw
noncomputable def env : Env := { scope := pw.main.scope, locals := mainNs, globals := mainNs, cells := [], code := .ref 13, frame := some 14 }
noncomputable abbrev ann : Option Value := some (.ref 6)
noncomputable def mkT (l : List Obj) : BT := (l.foldl (fun p o => (p.1.ins p.2 o, p.2 + 1)) (BT.nil, 0)).1
noncomputable def cutD (k : Nat) : Obj → Obj
 | ⟨c, d, .dict es _, sl⟩ => ⟨c, d, .dict ((match es.toList with | e :: r => { e with val := .str (Str.ofString "cpy313.difflib") 239 } :: r | [] => []).take k).toArray k, sl⟩
 | o => o
noncomputable def cutF (k : Nat) : Obj → Obj
 | ⟨c, d, .fields l, sl⟩ => ⟨c, d, .fields (l.toList.take k).toArray, sl⟩
 | o => o
noncomputable def cutT : Nat → BT → BT
 | _, .nil => .nil
 | n, .node v l r => match Nat.ble n 0 with
  | true => .nil
  | false => .node v (cutT (n / 2) l) (cutT ((n - 1) / 2) r)
noncomputable def mid (P : Params) (n k f : Nat) : BT := ((cutT n (TZ P)).set 3 (cutD k)).set 12 (cutF f)
noncomputable def T4 (P : Params) : BT := mkT [boot_o_0 P, boot_o_1 P, boot_o_2 P, boot_o_3 P, boot_o_4 P, boot_o_5 P, boot_o_6 P, boot_o_7 P, boot_o_8 P, boot_o_9 P, boot_o_10 P, Z.tu [], Z.fs .none [], sur.o_3 P, sur.o_4 P]
noncomputable def stsA : List Stmt := pw.main.body.take 10
noncomputable def stsQ : List Stmt := sts10.map (shortDoc DOC')
noncomputable def stsZ : List Stmt := pw.main.body.drop 11
noncomputable abbrev B0 : List Frame := [topFrame ⟨0, 0, 0, 0⟩]
theorem sts10_eq : sts10 = stsQ := by
 have h : sts10 = sts10.map (shortDoc DOC) := by kernel_rfl
 exact h.trans (congrArg (fun d => sts10.map (shortDoc d)) doc_eq)
theorem L0' (w : World) (p : Program) (b : List Stmt) (os : OsState) :
  PySem.W.Fast.tw10110043849684766642 PySem.W.Fast.tw14364793385576792824 p w 11 ann 1 1578 ⟨T4 w.params, 15, {}, ⟨[]⟩, {}, 187, os⟩ (piecesOf stsA env (Code.body b env) ⟨0, 0, 0, 0⟩ B0) =
  some (.next, ⟨mid w.params 174 17 24, 174, {}, ⟨[]⟩, {}, 434, os⟩, Code.body b env, ⟨102, 0, 105, 14⟩) := by
 kernel_rfl
theorem L1' (w : World) (p : Program) (b : List Stmt) (os : OsState) :
  PySem.W.Fast.tw10110043849684766642 tbQ p w 11 ann 1 657 ⟨mid w.params 174 17 24, 174, {}, ⟨[]⟩, {}, 434, os⟩ (piecesOf stsQ env (Code.body b env) ⟨102, 0, 105, 14⟩ B0) =
  some (.next, ⟨mid w.params 275 18 27, 275, {}, ⟨[]⟩, {}, 628, os⟩, Code.body b env, ⟨106, 0, 497, 16⟩) := by
 kernel_rfl
theorem L2' (w : World) (p : Program) (b : List Stmt) (os : OsState) :
  PySem.W.Fast.tw10110043849684766642 PySem.W.Fast.tw14364793385576792824 p w 11 ann 1 244 ⟨mid w.params 275 18 27, 275, {}, ⟨[]⟩, {}, 628, os⟩ (piecesOf stsZ env (Code.body b env) ⟨106, 0, 497, 16⟩ B0) =
  some (.next, ⟨TZ w.params, 317, {}, ⟨[]⟩, {}, 699, os⟩, Code.body b env, ⟨576, 0, 593, 285⟩) := by
 kernel_rfl
theorem L0 (w : World) (p : Program) (b : List Stmt) (os : OsState) :
  segRun treeTable p w 11 ann 1 1578 (SharedT.abs ⟨T4 w.params, 15, {}, ⟨[]⟩, {}, 187, os⟩) (piecesOf stsA env (Code.body b env) ⟨0, 0, 0, 0⟩ B0) =
  some (.next, SharedT.abs ⟨mid w.params 174 17 24, 174, {}, ⟨[]⟩, {}, 434, os⟩, Code.body b env, ⟨102, 0, 105, 14⟩) := by
 refine segRun_of ?_
 rw [PySem.W.Fast.te14364793385576792824, PySem.W.Fast.te10110043849684766642]
 exact L0' w p b os
theorem L1 (w : World) (p : Program) (b : List Stmt) (os : OsState) :
  segRun treeTable p w 11 ann 1 657 (SharedT.abs ⟨mid w.params 174 17 24, 174, {}, ⟨[]⟩, {}, 434, os⟩) (piecesOf sts10 env (Code.body b env) ⟨102, 0, 105, 14⟩ B0) =
  some (.next, SharedT.abs ⟨mid w.params 275 18 27, 275, {}, ⟨[]⟩, {}, 628, os⟩, Code.body b env, ⟨106, 0, 497, 16⟩) := by
 refine segRun_of ?_
 rw [PySem.W.Fast.te14364793385576792824, PySem.W.Fast.te10110043849684766642, tbQ_eq, sts10_eq]
 exact L1' w p b os
theorem L2 (w : World) (p : Program) (b : List Stmt) (os : OsState) :
  segRun treeTable p w 11 ann 1 244 (SharedT.abs ⟨mid w.params 275 18 27, 275, {}, ⟨[]⟩, {}, 628, os⟩) (piecesOf stsZ env (Code.body b env) ⟨106, 0, 497, 16⟩ B0) =
  some (.next, SharedT.abs ⟨TZ w.params, 317, {}, ⟨[]⟩, {}, 699, os⟩, Code.body b env, ⟨576, 0, 593, 285⟩) := by
 refine segRun_of ?_
 rw [PySem.W.Fast.te14364793385576792824, PySem.W.Fast.te10110043849684766642]
 exact L2' w p b os
noncomputable def S0 (w : World) (os : OsState) : Shared := ⟨boot_heap w.params, ⟨[]⟩, boot_drawn, boot_toks, os⟩
noncomputable def Sa (w : World) (os : OsState) : Shared := SharedT.abs ⟨T4 w.params, 15, {}, ⟨[]⟩, {}, 187, os⟩
noncomputable def S1 (w : World) (os : OsState) : Shared := SharedT.abs ⟨TZ w.params, 317, {}, ⟨[]⟩, {}, 699, os⟩
theorem pre_run (w : World) (os : OsState) : topGo treeTable pw w 11 ann 12 (S0 w os) (topStub pw) = some (Sa w os, ⟨denote treeTable (.body body env), .body body env, ⟨0, 0, 0, 0⟩, B0⟩) := by
 kernel_rfl
theorem block_run (w : World) (os : OsState) : segRun treeTable pw w 11 ann 1 1 (Sa w os) (blockOf body env (.body body env) ⟨0, 0, 0, 0⟩ B0) = some (.next, Sa w os, .body body env, ⟨0, 0, 0, 0⟩) := by
 kernel_rfl
theorem body_eq : body = stsA ++ (sts10 ++ (stsZ ++ [])) := by
 kernel_rfl
theorem fin_run (w : World) (os : OsState) : topRun treeTable pw w 11 ann 2 (S1 w os) ⟨doneF .next, .body body env, ⟨576, 0, 593, 285⟩, B0⟩ = some (S1 w os) := by
 kernel_rfl
noncomputable def MM : Nat := 12 + (1 + (1578 + (657 + (244 + 2))))
theorem rest_eq (p : Pos) : restOf body env (.body body env) p B0 = restOf (stsA ++ (sts10 ++ (stsZ ++ []))) env (.body body env) p B0 :=
 congrArg (fun l => restOf l env (.body body env) p B0) body_eq
theorem run_all (w : World) (os : OsState) : topRun treeTable pw w 11 ann MM (S0 w os) (topStub pw) = some (S1 w os) := by
 refine go_top (n := 12) (pre_run w os) ?_
 refine piece_block (n := 1) (block_run w os) ?_
 rw [rest_eq]
 refine piece_app (n := 1578) (L0 w pw body os) ?_
 refine piece_app (n := 657) (L1 w pw body os) ?_
 refine piece_app (n := 244) (L2 w pw body os) ?_
 exact piece_nil (fin_run w os)
noncomputable def vq : Program := { pw with main := { pw.main with body := [0, 1, 2, 3, 4, 5, 6, 9, 11, 12, 15, 16, 17, 18, 19].filterMap fun i => pw.main.body[i]? } }
noncomputable def loose : List Str := [Str.ofString "_tuplegetter", Str.ofString "Match", Str.ofString "SequenceMatcher", Str.ofString "_initial_missing", Str.ofString "reduce"]
noncomputable def H1 (P : Params) : Heap := absHeap (TZ P) 317 {}
theorem open_ : ∀ w : World, (fencedOpening treeTable pw w 6000).map (fun s => (s.heap, s.gens, s.drawn, s.toks)) = some (boot_heap w.params, Array.mk [], boot_drawn, boot_toks) :=
 boot_open (by kernel_rfl) (by decide) (fun s => by kernel_rfl)
theorem size_ : ∀ w : World, ((boot_heap w.params).isNs mainGlobals && (Array.mk [] : Array GenState).size == 0, (boot_heap w.params).objs.size, (boot_heap w.params).nsMap mainGlobals "__annotations__") = (true, 11, ann) := fun w => by kernel_rfl
theorem look_st (w : World) (os : OsState) : (staticsOk (importedModules pw.main.body) (boot_heap w.params) (H1 w.params) && namesBound pw (H1 w.params) && gensDone ⟨H1 w.params, ⟨[]⟩, {}, 699, os⟩ && laidKept (boot_heap w.params) (H1 w.params)) = true := by kernel_rfl
end Mine
end
end
section
set_option maxRecDepth 1000000
set_option maxHeartbeats 0
namespace Mine
noncomputable def lv : List (Str × WData) := []
noncomputable def Xt (s : Shared) : Bool := xlAt vq lv s && recOk (RowW.records PySem.Challenge.rw_ik0098_01.row.toRowW) s
noncomputable abbrev sF (w : World) (os : OsState) : Shared := ⟨H1 w.params, ⟨[]⟩, {}, 699, os⟩
theorem seen_all (w : World) (os : OsState) : openSeen vq loose (importedModules pw.main.body) Xt true (sF w os) = openGood vq loose := by
 kernel_rfl
end Mine
end
section
set_option maxRecDepth 1000000
set_option maxHeartbeats 0
namespace Mine
noncomputable def asK : List Nat := List.range 317
noncomputable def K (P : Params) : Frag := asK.map fun a => (a, ((TZ P).get a).getD default)
theorem asK_eq (P : Params) : asK = (K P).map (·.1) := by
 unfold K
 rw [List.map_map]
 exact (List.map_id _).symm
theorem look_K (w : World) (os : OsState) : X.obsZ asK (sF w os) = X.valZ K 317 699 w := by
 show (asK.map (H1 w.params).get?, (H1 w.params).objs.size, 699) = ((K w.params).map (fun p => some p.2), 317, 699)
 kernel_rfl
theorem left : LeftO pw vq loose Xt (X.obsZ asK) (X.valZ K 317 699) 6000 :=
 LeftO.of_pieces (H₀ := boot_heap) (H₁ := H1) (gs₀ := Array.mk []) (gs₁ := Array.mk []) (d₀ := boot_drawn) (d₁ := {}) (k₀ := boot_toks) (k₁ := 699) (m₀ := 11) (ann := ann) (M := MM)
  open_ size_ (fun w os => run_all w os) (by decide) (fun w => funext fun os => looks_pair (look_st w os) (looks_pair (seen_all w os) (look_K w os)))
noncomputable def KK (P : Params) : Frag := (List.range 317).zip (objs P)
theorem KK_eq : K = KK := by kernel_rfl
theorem KK_in {P : Params} {h : Heap} (x : (K P).In h) : (KK P).In h := by rw [← KK_eq]; exact x
end Mine
end
section
set_option maxRecDepth 1000000
set_option maxHeartbeats 0
namespace Mine
noncomputable def Main : Prop := ∀ (w : World) (s : Shared) (l : Addr) (vs : List Value) (ns : List Int) (mg mb : Str → Option Value), (K w.params).In s.heap → TopRead vq (looseW vq loose) mg mb s.heap →
  s.heap.IsList l vs.toArray → IntsAre vs ns → ns.length ≤ 63 → s.gens = #[] → l = 317 → s.heap.objs.size = 318 → wpAny (model pw w) callerA (call (.ref 316) [.ref l])
   (fun v s' => v = .bool true ∧ OldK s.heap s'.heap ∧ s'.os = s.os ∧ s'.gens = #[]) (fun _ _ => False) s
theorem hc (M : Main) (d : DefRec) (kwd : List (Str × Expr)) (hd : d.name = Str.ofString "law") : WalkX vq loose (XL vq lv) (X.obsZ asK) (X.valZ K 317 699) PySem.Challenge.rw_ik0098_01.row.toRowW d kwd (fun f vs => PySem.call f vs) := by
 intro w s₀ s₁ mg mb G Y fa o pm cd doc dV kV ho hdd hcd hD hmg hg args vals as L hpre hlay hrd hwl hlo
 obtain ⟨_, KX0, ZN, _⟩ := X.z_facts asK_eq Y
 have KX : (K w.params).In s₁.heap := Frag.In.keeps KX0 L.keeps
 refine Ground.open G ?_
 intro T B D TE TW
 clear hD hcd hdd TE TW D B
 have hfa : mg d.name = some (.ref 316) := mg_of KX T.g (by rw [hd]; kernel_rfl)
 rw [hfa] at hmg
 cases hmg
 wrow_args hpre hlay hrd hwl hlo
 obtain ⟨hat, hsz⟩ := X.script_at L
 rw [ZN] at hat hsz
 rename_i ns _ _ _ _ _ _ _ l vs _ hL _ _ _ hI _ hle _
 have hle' : ns.length ≤ 63 := by lia
 refine wpAny_mono (M w s₁ l vs ns mg mb KX (topRead_of T) hL hI hle' hg hat hsz) ?_ ?_
 ·rintro v s' ⟨rfl, hk, hos, hgn⟩
  refine ⟨.inl ⟨_, .bool true, [], rfl, fun _ => rfl, ?_, ?_, ?_⟩, hk, hos, .of_eq hgn⟩
  ·exact .bool true
  ·with_unfolding_all rfl
  ·intro _; exact ⟨.nil, fun _ h => nomatch h⟩
 ·intro e s' h
  exact h.elim
theorem top_holds (M : Mine.Main) : PySem.Challenge.rw_ik0098_01.Holds := by
 refine holds_law (by kernel_rfl) fun said => ?_
 refine holds_openX (q := Mine.vq) (loose := Mine.loose) (Xt := Mine.Xt) (XP := XL Mine.vq Mine.lv) (Yf := X.obsZ Mine.asK) (Ya := X.valZ Mine.K 317 699) (N := 6000) Mine.left (fun s e => xl_of s (Bool.and_eq_true_iff.mp e).1) XL.keeps (by rfl) (by rfl) (by rfl) (fun s e => recFacts_of (Bool.and_eq_true_iff.mp e).2) (by rfl) (by first | assumption | decide +kernel) (by decide +kernel) ⟨rfl, rfl, rfl, rfl, rfl, by decide +kernel⟩ ?hw ?hc
 case hw => exact ⟨[.list []], by decide +kernel, by decide +kernel⟩
 case hc => exact Mine.hc M _ _ (by rfl)
end Mine
end
section
set_option maxRecDepth 1000000
set_option maxHeartbeats 0
namespace Mine
noncomputable def KN (P : Params) : Frag := (nat_lit 0, boot_o_0 P) ::
 (nat_lit 1, boot_o_1 P) ::
 (nat_lit 2, boot_o_2 P) ::
 (nat_lit 3, sur.o_426 P) ::
 (nat_lit 4, boot_o_4 P) ::
 (nat_lit 5, boot_o_5 P) ::
 (nat_lit 6, boot_o_6 P) ::
 (nat_lit 7, boot_o_7 P) ::
 (nat_lit 8, boot_o_8 P) ::
 (nat_lit 9, boot_o_9 P) ::
 (nat_lit 10, boot_o_10 P) ::
 (nat_lit 11, sur.o_1 P) ::
 (nat_lit 12, sur.o_427 P) ::
 (nat_lit 13, sur.o_3 P) ::
 (nat_lit 14, sur.o_4 P) ::
 (nat_lit 15, sur.o_7 P) ::
 (nat_lit 16, sur.o_8 P) ::
 (nat_lit 17, sur.o_9 P) ::
 (nat_lit 18, sur.o_10 P) ::
 (nat_lit 19, sur.o_11 P) ::
 (nat_lit 20, sur.o_12 P) ::
 (nat_lit 21, sur.o_13 P) ::
 (nat_lit 22, sur.o_14 P) ::
 (nat_lit 23, sur.o_15 P) ::
 (nat_lit 24, sur.o_16 P) ::
 (nat_lit 25, sur.o_17 P) ::
 (nat_lit 26, sur.o_18 P) ::
 (nat_lit 27, sur.o_19 P) ::
 (nat_lit 28, sur.o_20 P) ::
 (nat_lit 29, sur.o_21 P) ::
 (nat_lit 30, sur.o_22 P) ::
 (nat_lit 31, sur.o_23 P) ::
 (nat_lit 32, sur.o_24 P) ::
 (nat_lit 33, sur.o_25 P) ::
 (nat_lit 34, sur.o_26 P) ::
 (nat_lit 35, sur.o_27 P) ::
 (nat_lit 36, sur.o_28 P) ::
 (nat_lit 37, sur.o_29 P) ::
 (nat_lit 38, sur.o_30 P) ::
 (nat_lit 39, sur.o_31 P) ::
 (nat_lit 40, sur.o_32 P) ::
 (nat_lit 41, sur.o_33 P) ::
 (nat_lit 42, sur.o_34 P) ::
 (nat_lit 43, sur.o_35 P) ::
 (nat_lit 44, sur.o_36 P) ::
 (nat_lit 45, sur.o_37 P) ::
 (nat_lit 46, sur.o_38 P) ::
 (nat_lit 47, sur.o_39 P) ::
 (nat_lit 48, sur.o_40 P) ::
 (nat_lit 49, sur.o_41 P) ::
 (nat_lit 50, sur.o_45 P) ::
 (nat_lit 51, sur.o_46 P) ::
 (nat_lit 52, sur.o_47 P) ::
 (nat_lit 53, sur.o_48 P) ::
 (nat_lit 54, sur.o_49 P) ::
 (nat_lit 55, sur.o_50 P) ::
 (nat_lit 56, sur.o_51 P) ::
 (nat_lit 57, sur.o_52 P) ::
 (nat_lit 58, sur.o_53 P) ::
 (nat_lit 59, sur.o_54 P) ::
 (nat_lit 60, sur.o_55 P) ::
 (nat_lit 61, sur.o_56 P) ::
 (nat_lit 62, sur.o_57 P) ::
 (nat_lit 63, sur.o_58 P) ::
 (nat_lit 64, sur.o_59 P) ::
 (nat_lit 65, sur.o_60 P) ::
 (nat_lit 66, sur.o_61 P) ::
 (nat_lit 67, sur.o_62 P) ::
 (nat_lit 68, sur.o_63 P) ::
 (nat_lit 69, sur.o_64 P) ::
 (nat_lit 70, sur.o_65 P) ::
 (nat_lit 71, sur.o_66 P) ::
 (nat_lit 72, sur.o_67 P) ::
 (nat_lit 73, sur.o_68 P) ::
 (nat_lit 74, sur.o_69 P) ::
 (nat_lit 75, sur.o_70 P) ::
 (nat_lit 76, sur.o_71 P) ::
 (nat_lit 77, sur.o_72 P) ::
 (nat_lit 78, sur.o_73 P) ::
 (nat_lit 79, sur.o_74 P) ::
 (nat_lit 80, sur.o_75 P) ::
 (nat_lit 81, sur.o_76 P) ::
 (nat_lit 82, sur.o_77 P) ::
 (nat_lit 83, sur.o_78 P) ::
 (nat_lit 84, sur.o_79 P) ::
 (nat_lit 85, sur.o_80 P) ::
 (nat_lit 86, sur.o_81 P) ::
 (nat_lit 87, sur.o_82 P) ::
 (nat_lit 88, sur.o_83 P) ::
 (nat_lit 89, sur.o_84 P) ::
 (nat_lit 90, sur.o_85 P) ::
 (nat_lit 91, sur.o_86 P) ::
 (nat_lit 92, sur.o_87 P) ::
 (nat_lit 93, sur.o_91 P) ::
 (nat_lit 94, sur.o_92 P) ::
 (nat_lit 95, sur.o_93 P) ::
 (nat_lit 96, sur.o_94 P) ::
 (nat_lit 97, sur.o_95 P) ::
 (nat_lit 98, sur.o_96 P) ::
 (nat_lit 99, sur.o_97 P) ::
 (nat_lit 100, sur.o_98 P) ::
 (nat_lit 101, sur.o_99 P) ::
 (nat_lit 102, sur.o_100 P) ::
 (nat_lit 103, sur.o_101 P) ::
 (nat_lit 104, sur.o_102 P) ::
 (nat_lit 105, sur.o_103 P) ::
 (nat_lit 106, sur.o_104 P) ::
 (nat_lit 107, sur.o_105 P) ::
 (nat_lit 108, sur.o_106 P) ::
 (nat_lit 109, sur.o_107 P) ::
 (nat_lit 110, sur.o_108 P) ::
 (nat_lit 111, sur.o_109 P) ::
 (nat_lit 112, sur.o_110 P) ::
 (nat_lit 113, sur.o_111 P) ::
 (nat_lit 114, sur.o_112 P) ::
 (nat_lit 115, sur.o_113 P) ::
 (nat_lit 116, sur.o_114 P) ::
 (nat_lit 117, sur.o_115 P) ::
 (nat_lit 118, sur.o_116 P) ::
 (nat_lit 119, sur.o_117 P) ::
 (nat_lit 120, sur.o_118 P) ::
 (nat_lit 121, sur.o_119 P) ::
 (nat_lit 122, sur.o_120 P) ::
 (nat_lit 123, sur.o_121 P) ::
 (nat_lit 124, sur.o_122 P) ::
 (nat_lit 125, sur.o_123 P) ::
 (nat_lit 126, sur.o_124 P) ::
 (nat_lit 127, sur.o_125 P) ::
 (nat_lit 128, sur.o_126 P) ::
 (nat_lit 129, sur.o_127 P) ::
 (nat_lit 130, sur.o_128 P) ::
 (nat_lit 131, sur.o_129 P) ::
 (nat_lit 132, sur.o_130 P) ::
 (nat_lit 133, sur.o_131 P) ::
 (nat_lit 134, sur.o_132 P) ::
 (nat_lit 135, sur.o_133 P) ::
 (nat_lit 136, sur.o_134 P) ::
 (nat_lit 137, sur.o_135 P) ::
 (nat_lit 138, sur.o_136 P) ::
 (nat_lit 139, sur.o_137 P) ::
 (nat_lit 140, sur.o_138 P) ::
 (nat_lit 141, sur.o_139 P) ::
 (nat_lit 142, sur.o_140 P) ::
 (nat_lit 143, sur.o_141 P) ::
 (nat_lit 144, sur.o_142 P) ::
 (nat_lit 145, sur.o_143 P) ::
 (nat_lit 146, sur.o_144 P) ::
 (nat_lit 147, sur.o_145 P) ::
 (nat_lit 148, sur.o_146 P) ::
 (nat_lit 149, sur.o_147 P) ::
 (nat_lit 150, sur.o_148 P) ::
 (nat_lit 151, sur.o_149 P) ::
 (nat_lit 152, sur.o_150 P) ::
 (nat_lit 153, sur.o_151 P) ::
 (nat_lit 154, sur.o_152 P) ::
 (nat_lit 155, sur.o_153 P) ::
 (nat_lit 156, sur.o_154 P) ::
 (nat_lit 157, sur.o_155 P) ::
 (nat_lit 158, sur.o_156 P) ::
 (nat_lit 159, sur.o_157 P) ::
 (nat_lit 160, sur.o_158 P) ::
 (nat_lit 161, sur.o_159 P) ::
 (nat_lit 162, sur.o_160 P) ::
 (nat_lit 163, sur.o_161 P) ::
 (nat_lit 164, sur.o_162 P) ::
 (nat_lit 165, sur.o_163 P) ::
 (nat_lit 166, sur.o_164 P) ::
 (nat_lit 167, sur.o_240 P) ::
 (nat_lit 168, sur.o_241 P) ::
 (nat_lit 169, sur.o_242 P) ::
 (nat_lit 170, sur.o_243 P) ::
 (nat_lit 171, sur.o_244 P) ::
 (nat_lit 172, sur.o_245 P) ::
 (nat_lit 173, sur.o_246 P) ::
 (nat_lit 174, sur.o_250 P) ::
 (nat_lit 175, sur.o_251 P) ::
 (nat_lit 176, sur.o_252 P) ::
 (nat_lit 177, sur.o_253 P) ::
 (nat_lit 178, sur.o_254 P) ::
 (nat_lit 179, sur.o_255 P) ::
 (nat_lit 180, sur.o_256 P) ::
 (nat_lit 181, sur.o_257 P) ::
 (nat_lit 182, sur.o_258 P) ::
 (nat_lit 183, sur.o_259 P) ::
 (nat_lit 184, sur.o_260 P) ::
 (nat_lit 185, sur.o_261 P) ::
 (nat_lit 186, sur.o_262 P) ::
 (nat_lit 187, sur.o_263 P) ::
 (nat_lit 188, sur.o_264 P) ::
 (nat_lit 189, sur.o_265 P) ::
 (nat_lit 190, sur.o_266 P) ::
 (nat_lit 191, sur.o_267 P) ::
 (nat_lit 192, sur.o_268 P) ::
 (nat_lit 193, sur.o_269 P) ::
 (nat_lit 194, sur.o_270 P) ::
 (nat_lit 195, sur.o_271 P) ::
 (nat_lit 196, sur.o_272 P) ::
 (nat_lit 197, sur.o_273 P) ::
 (nat_lit 198, sur.o_274 P) ::
 (nat_lit 199, sur.o_275 P) ::
 (nat_lit 200, sur.o_276 P) ::
 (nat_lit 201, sur.o_277 P) ::
 (nat_lit 202, sur.o_278 P) ::
 (nat_lit 203, sur.o_279 P) ::
 (nat_lit 204, sur.o_280 P) ::
 (nat_lit 205, sur.o_281 P) ::
 (nat_lit 206, sur.o_282 P) ::
 (nat_lit 207, sur.o_283 P) ::
 (nat_lit 208, sur.o_284 P) ::
 (nat_lit 209, sur.o_285 P) ::
 (nat_lit 210, sur.o_286 P) ::
 (nat_lit 211, sur.o_287 P) ::
 (nat_lit 212, sur.o_288 P) ::
 (nat_lit 213, sur.o_289 P) ::
 (nat_lit 214, sur.o_290 P) ::
 (nat_lit 215, sur.o_291 P) ::
 (nat_lit 216, sur.o_292 P) ::
 (nat_lit 217, sur.o_293 P) ::
 (nat_lit 218, sur.o_294 P) ::
 (nat_lit 219, sur.o_295 P) ::
 (nat_lit 220, sur.o_296 P) ::
 (nat_lit 221, sur.o_297 P) ::
 (nat_lit 222, sur.o_298 P) ::
 (nat_lit 223, sur.o_299 P) ::
 (nat_lit 224, sur.o_300 P) ::
 (nat_lit 225, sur.o_301 P) ::
 (nat_lit 226, sur.o_302 P) ::
 (nat_lit 227, sur.o_303 P) ::
 (nat_lit 228, sur.o_304 P) ::
 (nat_lit 229, sur.o_305 P) ::
 (nat_lit 230, sur.o_306 P) ::
 (nat_lit 231, sur.o_307 P) ::
 (nat_lit 232, sur.o_308 P) ::
 (nat_lit 233, sur.o_309 P) ::
 (nat_lit 234, sur.o_310 P) ::
 (nat_lit 235, sur.o_311 P) ::
 (nat_lit 236, sur.o_312 P) ::
 (nat_lit 237, sur.o_313 P) ::
 (nat_lit 238, sur.o_314 P) ::
 (nat_lit 239, sur.o_315 P) ::
 (nat_lit 240, sur.o_316 P) ::
 (nat_lit 241, sur.o_317 P) ::
 (nat_lit 242, sur.o_318 P) ::
 (nat_lit 243, sur.o_319 P) ::
 (nat_lit 244, sur.o_320 P) ::
 (nat_lit 245, sur.o_321 P) ::
 (nat_lit 246, sur.o_322 P) ::
 (nat_lit 247, sur.o_323 P) ::
 (nat_lit 248, sur.o_324 P) ::
 (nat_lit 249, sur.o_325 P) ::
 (nat_lit 250, sur.o_326 P) ::
 (nat_lit 251, sur.o_327 P) ::
 (nat_lit 252, sur.o_328 P) ::
 (nat_lit 253, sur.o_329 P) ::
 (nat_lit 254, sur.o_330 P) ::
 (nat_lit 255, sur.o_331 P) ::
 (nat_lit 256, sur.o_332 P) ::
 (nat_lit 257, sur.o_333 P) ::
 (nat_lit 258, sur.o_334 P) ::
 (nat_lit 259, sur.o_335 P) ::
 (nat_lit 260, sur.o_336 P) ::
 (nat_lit 261, sur.o_337 P) ::
 (nat_lit 262, sur.o_338 P) ::
 (nat_lit 263, sur.o_339 P) ::
 (nat_lit 264, sur.o_340 P) ::
 (nat_lit 265, sur.o_341 P) ::
 (nat_lit 266, sur.o_342 P) ::
 (nat_lit 267, sur.o_343 P) ::
 (nat_lit 268, sur.o_344 P) ::
 (nat_lit 269, sur.o_345 P) ::
 (nat_lit 270, sur.o_346 P) ::
 (nat_lit 271, sur.o_347 P) ::
 (nat_lit 272, sur.o_348 P) ::
 (nat_lit 273, sur.o_349 P) ::
 (nat_lit 274, sur.o_350 P) ::
 (nat_lit 275, sur.o_428 P) ::
 (nat_lit 277, sur.o_430 P) ::
 (nat_lit 278, sur.o_431 P) ::
 (nat_lit 279, sur.o_432 P) ::
 (nat_lit 280, sur.o_433 P) ::
 (nat_lit 281, sur.o_434 P) ::
 (nat_lit 282, sur.o_435 P) ::
 (nat_lit 283, sur.o_436 P) ::
 (nat_lit 284, sur.o_437 P) ::
 (nat_lit 285, sur.o_438 P) ::
 (nat_lit 286, sur.o_439 P) ::
 (nat_lit 287, sur.o_440 P) ::
 (nat_lit 288, sur.o_441 P) ::
 (nat_lit 289, sur.o_442 P) ::
 (nat_lit 290, sur.o_443 P) ::
 (nat_lit 291, sur.o_444 P) ::
 (nat_lit 293, sur.o_446 P) ::
 (nat_lit 294, sur.o_447 P) ::
 (nat_lit 295, sur.o_448 P) ::
 (nat_lit 296, sur.o_449 P) ::
 (nat_lit 297, sur.o_450 P) ::
 (nat_lit 298, sur.o_451 P) ::
 (nat_lit 300, sur.o_453 P) ::
 (nat_lit 301, sur.o_454 P) ::
 (nat_lit 302, sur.o_455 P) ::
 (nat_lit 303, sur.o_456 P) ::
 (nat_lit 304, sur.o_457 P) ::
 (nat_lit 305, sur.o_458 P) ::
 (nat_lit 306, sur.o_459 P) ::
 (nat_lit 307, sur.o_460 P) ::
 (nat_lit 308, sur.o_461 P) ::
 (nat_lit 309, sur.o_462 P) ::
 (nat_lit 310, sur.o_463 P) ::
 (nat_lit 311, sur.o_464 P) ::
 (nat_lit 312, sur.o_465 P) ::
 (nat_lit 314, sur.o_467 P) ::
 (nat_lit 315, sur.o_468 P) ::
 (nat_lit 316, sur.o_469 P) :: []
noncomputable def hid : List Addr := [276, 292, 299, 313]
theorem KN_eq : KN = fun P => (KK P).filter fun p => !hid.contains p.1 := by kernel_rfl
end Mine
end
section
namespace Mine
noncomputable abbrev prog : Program := PySem.Challenge.rw_ik0098_01.row.prog
noncomputable abbrev AA (d : Nat) : Around := { handled := none, depth := d, frames := none, guards := none, units := 10 * d }
theorem any_weaken {α : Type} {M : Model} {d : Nat} {A : Around} {t : Sem α} {Q : α → Shared → Prop} {E : Value → Shared → Prop} {s : Shared}
  (h : wpAny M (AA d) t Q E s) (hh : A.handled = none) (hd : A.depth ≤ d) (hu : A.units ≤ 10 * d) : wpAny M A t Q E s := by
 intro Γ p hΓ
 obtain ⟨a, b, _, _, e⟩ := hΓ
 exact h Γ p ⟨a.trans hh, Nat.le_trans b hd, fun l hl => (nomatch hl), fun g hg => (nomatch hg), Nat.le_trans e hu⟩
noncomputable abbrev TR (mg mb : Str → Option Value) (h : Heap) : Prop := TopRead vq (looseW vq loose) mg mb h
theorem enter_def {w : World} {mg mb : Str → Option Value} {A : Around} {s : Shared} {g : Heap} {pass : List (Addr × Obj)} {f : Addr} {args : List Value} {binds : List (Str × Value)} {Q E : Value → Shared → Prop}
  {name qual : Str} {params : Arguments} {body : List Stmt} {scope : Scope} {cl : List (Str × Addr)} {dV kV doc pm cdv ct oc : Value} {an od : Option Addr} {osl : Array (Option Value)}
  (X : (KN w.params).In g) (T : TR mg mb g) (st : ∀ b o, g.get? b = some o → s.heap.get? b = some o) (sz : g.objs.size ≤ s.heap.objs.size) (N : ∀ p ∈ pass, s.heap.get? p.1 = some p.2 ∧ g.get? p.1 = none)
  (ho : s.heap.get? f = some ⟨oc, od, .func (fnX name qual params body scope cl dV kV doc pm an cdv ct), osl⟩) (hcd : s.heap.CodeRec cdv qual) (hroom : A.depth < recursionLimit)
  (hbind : BindsTo s (fnX name qual params body scope cl dV kV doc pm an cdv ct) ⟨args, []⟩ binds) (hloc : ∀ y ∈ binds, scope.names.lookup y.1 = some .local)
  (h : ∀ L h₁, Fr g L h₁ (fun y => binds.reverse.lookup y) → News g L h₁ pass → @LE.le Nat _ g.objs.size L →
   wpAny (model prog w) (A.deeper (envX qual scope L f cdv cl)) (execs body (envX qual scope L f cdv cl)) (fun fl s' => Q (match fl with | .ret v => v | _ => .none) s') (fun _ _ => False)
    { s with heap := h₁, toks := s.toks + binds.length })
  (hcell : ∀ x ∈ scope.names, x.2 ≠ .cell) (hco : scope.isCoroutine = false := by rfl) (hgen : scope.isGenerator = false := by rfl) (hk : scope.kind = .function := by rfl) : wpAny (model prog w) A (call (.ref f) args) Q E s := by
 refine wpAny_call ?_
 refine codeAny_call_def (fd := fnX name qual params body scope cl dV kV doc pm an cdv ct) (body := body) (binds := binds) hroom ho rfl (T.nolimit.keeps st) hcd rfl hbind hcell hloc (fun h₁ hns hk₁ => ?_) hco hgen hk
 refine wpAny_mono (h s.heap.objs.size h₁ ⟨hns, fun b o e => hk₁ b o (st b o e), sz⟩ (fun p hp => ⟨hk₁ _ _ (N p hp).1, Nat.ne_of_lt (Heap.lt_size (N p hp).1), (N p hp).2⟩) sz) (fun fl s' q => q) fun _ _ x => x.elim
noncomputable def CallSpec (w : World) (d : Nat) (f : Value) (args : List Value) (pass : List (Addr × Obj)) (pre : Heap → Prop) (post : Value → List (Addr × Obj) → Prop) : Prop :=
 ∀ (mg mb : Str → Option Value) (s : Shared) (g : Heap) (Q E : Value → Shared → Prop), (KN w.params).In g → TR mg mb g → pre g → (∀ b o, g.get? b = some o → s.heap.get? b = some o) → g.objs.size ≤ s.heap.objs.size →
  (∀ p ∈ pass, s.heap.get? p.1 = some p.2 ∧ g.get? p.1 = none) →
  (∀ r pass' h' tk', (∀ b o, g.get? b = some o → h'.get? b = some o) → (∀ p ∈ pass', h'.get? p.1 = some p.2 ∧ g.get? p.1 = none) → post r pass' → Q r { s with heap := h', toks := tk' }) →
  wpAny (model prog w) (AA d) (call f args) Q E s
theorem use_spec {w : World} {d : Nat} {f : Value} {args : List Value} {pass keep : List (Addr × Obj)} {pre : Heap → Prop} {post : Value → List (Addr × Obj) → Prop} (C : CallSpec w d f args pass pre post)
  {mg mb : Str → Option Value} {A : Around} {s : Shared} {h₀ : Heap} {L : Addr} {m : Str → Option Value} {Q E : Value → Shared → Prop} (F : Fr h₀ L s.heap m) (N : News h₀ L s.heap (pass ++ keep)) (X : (KN w.params).In h₀) (T : TR mg mb h₀)
  (off : ∀ p ∈ pass, ∀ q ∈ keep, p.1 ≠ q.1) (hpre : ∀ g, (∀ b o, h₀.get? b = some o → g.get? b = some o) → (∀ q ∈ keep, g.get? q.1 = some q.2) → pre g)
  (hh : A.handled = none) (hd : A.depth ≤ d) (hu : A.units ≤ 10 * d)
  (ret : ∀ r pass' h' tk', Fr h₀ L h' m → News h₀ L h' (pass' ++ keep) → (∀ p ∈ pass', ∀ q ∈ keep, p.1 ≠ q.1) → post r pass' → Q r { s with heap := h', toks := tk' }) : wpAny (model prog w) A (call f args) Q E s := by
 obtain ⟨oL, es, ep, hL, r⟩ := F.ns
 have nP : ∀ b o, h₀.get? b = some o → b ∉ pass.map (·.1) := fun b o e q => by
  obtain ⟨p, hp, rfl⟩ := List.mem_map.mp q
  rw [(N p (List.mem_append_left _ hp)).2.2] at e; cases e
 have st0 : ∀ b o, h₀.get? b = some o → (hideAll s.heap (pass.map (·.1))).get? b = some o := fun b o e => hideAll_get _ (F.keep b o e) (nP b o e)
 have hkeep : ∀ q ∈ keep, (hideAll s.heap (pass.map (·.1))).get? q.1 = some q.2 := fun q hq => hideAll_get _ (N q (List.mem_append_right _ hq)).1 fun z => by
  obtain ⟨p, hp, e⟩ := List.mem_map.mp z
  exact off p hp q hq e
 have nL : L ∉ pass.map (·.1) := fun q => by
  obtain ⟨p, hp, e⟩ := List.mem_map.mp q
  exact (N p (List.mem_append_left _ hp)).2.1 e
 have hLg := hideAll_get (pass.map (·.1)) hL nL
 refine any_weaken (C mg mb s (hideAll s.heap (pass.map (·.1))) Q E (X.keeps st0) (T.keeps st0) (hpre _ st0 hkeep) (fun b o e => of_hideAll _ e) (Nat.le_of_eq (hideAll_size _ _))
  (fun p hp => ⟨(N p (List.mem_append_left _ hp)).1, hideAll_none _ (List.mem_map_of_mem hp)⟩) fun rv pass' h' tk' hk hp hpost => ?_) hh hd hu
 have neq : ∀ p ∈ pass', ∀ b o, (hideAll s.heap (pass.map (·.1))).get? b = some o → p.1 ≠ b := fun p hp' b o e q => by
  have := (hp p hp').2; rw [q, e] at this; cases this
 refine ret rv pass' h' tk' ⟨⟨oL, es, ep, hk _ _ hLg, r⟩, fun b o e => hk _ _ (st0 b o e), F.above⟩ (fun p hp' => ?_) (fun p hp' q hq => neq p hp' _ _ (hkeep q hq)) hpost
 rcases List.mem_append.mp hp' with z | z
 ·refine ⟨(hp p z).1, neq p z _ _ hLg, ?_⟩
  cases e : h₀.get? p.1 with
  | none => rfl
  | some o => exact absurd rfl (neq p z _ _ (st0 _ _ e))
 ·exact ⟨hk _ _ (hkeep p z), (N p (List.mem_append_right _ z)).2⟩
section
variable {M : Model} {A : Around} {E : Value → Shared → Prop} {s : Shared} {env : Env} {h₀ : Heap} {m : Str → Option Value} {news : List (Addr × Obj)}
theorem st_any {x : Str} {v : Value} {Q : Unit → Shared → Prop} (hl : env.kindOf x = some .local) (hp : (env.scope.kind == .class || (env.scope.kind == .module && env.locals != env.globals)) = false)
  (F : Fr h₀ env.locals s.heap m) (N : News h₀ env.locals s.heap news)
  (h : ∀ h' tk, Fr h₀ env.locals h' (fun y => if y = x then some v else m y) → News h₀ env.locals h' news → Q () { s with heap := h', toks := tk }) : wpAny M A (storeName env x v) Q E s :=
 wpAny_storeName_local hl F.ns (fun h' hn hs => h h' _ (F.set hn hs) (N.set hs)) hp
theorem st_int {x : Str} {i j : Int} {t : Tok} {Q : Unit → Shared → Prop} (hl : env.kindOf x = some .local) (hp : (env.scope.kind == .class || (env.scope.kind == .module && env.locals != env.globals)) = false)
  (F : Fr h₀ env.locals s.heap m) (N : News h₀ env.locals s.heap news) (hj : i = j)
  (h : ∀ h' tk t', Fr h₀ env.locals h' (fun y => if y = x then some (.int j t') else m y) → News h₀ env.locals h' news → Q () { s with heap := h', toks := tk }) : wpAny M A (storeName env x (.int i t)) Q E s := by
 subst hj
 exact wpAny_storeName_local hl F.ns (fun h' hn hs => h h' _ t (F.set hn hs) (N.set hs)) hp
end
end Mine
end
section
namespace Mine
inductive TurnW (h₀ : Heap) (L : Addr) (wr : List Addr) (own : List (Addr × Obj)) (J R : (Str → Option Value) → List (Addr × Obj) → Prop) (s₁ : Shared) : Flow → Shared → Prop
 | next {h' : Heap} {tk : Nat} {m' : Str → Option Value} {nx : List (Addr × Obj)} (F : Fr h₀ L h' m') (N : News h₀ L h' (nx ++ own)) (hn : ∀ p ∈ nx, p.1 ∉ wr) (hj : J m' nx) : TurnW h₀ L wr own J R s₁ .next { s₁ with heap := h', toks := tk }
 | cont {h' : Heap} {tk : Nat} {m' : Str → Option Value} {nx : List (Addr × Obj)} (F : Fr h₀ L h' m') (N : News h₀ L h' (nx ++ own)) (hn : ∀ p ∈ nx, p.1 ∉ wr) (hj : J m' nx) : TurnW h₀ L wr own J R s₁ .cont { s₁ with heap := h', toks := tk }
 | brk {h' : Heap} {tk : Nat} {m' : Str → Option Value} {nx : List (Addr × Obj)} (F : Fr h₀ L h' m') (N : News h₀ L h' nx) (hr : R m' nx) : TurnW h₀ L wr own J R s₁ .brk { s₁ with heap := h', toks := tk }
theorem news_swap {h₀ h : Heap} {L : Addr} {a b : List (Addr × Obj)} (N : News h₀ L h (a ++ b)) : News h₀ L h (b ++ a) := fun p hp => N p (List.mem_append.mpr (List.mem_append.mp hp).symm)
section
variable {prog : Program} {w : World} {A : Around} {E : Value → Shared → Prop} {s : Shared} {env : Env} {h₀ : Heap} {target : Expr} {body : List Stmt} {Q : Flow → Shared → Prop}
theorem turns_core {I : Addr} {fp wr : List Addr} {n : Nat} {P Md : Nat → Value → Heap → Prop} {St : Nat → Heap → Prop} {m : Str → Option Value} {news : List (Addr × Obj)} (W : KTurns prog w A target I fp wr n P Md St)
  (J : Nat → (Str → Option Value) → List (Addr × Obj) → Prop) (R : (Str → Option Value) → List (Addr × Obj) → Prop)
  (hLf : env.locals ∉ fp) (hwr : ∀ b ∈ wr, h₀.get? b = none) (hnw : ∀ p ∈ news, p.1 ∉ wr) (hst : St 0 s.heap) (F : Fr h₀ env.locals s.heap m) (N : News h₀ env.locals s.heap news) (h0 : J 0 m news)
  (turn : ∀ i v m₁ news₁ h tk own, i < n → P i v h → (∀ p ∈ own, p.1 ∈ fp) → (∀ b ∈ fp, h₀.get? b = none → ∀ o, h.get? b = some o → (b, o) ∈ own) → St (i + 1) h → (∀ p ∈ news₁, p.1 ∉ wr) → J i m₁ news₁ → Fr h₀ env.locals h m₁ → News h₀ env.locals h (news₁ ++ own) →
   wpAny (model prog w) A (assign target env v) (fun _ s₃ => wpAny (model prog w) A (execs body env) (TurnW h₀ env.locals wr own (J (i + 1)) R { s with heap := h, toks := tk }) E s₃) E { s with heap := h, toks := tk })
  (fin : ∀ m₁ news₁, (∀ p ∈ news₁, p.1 ∉ wr) → J n m₁ news₁ → R m₁ news₁)
  (done : ∀ m₁ news₁ h tk, R m₁ news₁ → Fr h₀ env.locals h m₁ → News h₀ env.locals h news₁ → Q .next { s with heap := h, toks := tk }) :
  TurnsAt prog w A h₀ env target body Q E (.ref I) s := by
 refine ⟨I, fp, wr, n, P, Md, St, m, news, J, rfl, W, hLf, hwr, hnw, hst, F, N, h0, ?_, ?_⟩
 ·intro i v m₁ news₁ h₁ tk₁ own hi hP hJ hn1 hown _ hall hst1 F1 N1
  refine wpAny_mono (turn i v m₁ news₁ h₁ tk₁ own hi hP hown hall hst1 hn1 hJ F1 (news_swap N1)) (fun _ s₃ q => wpAny_mono q (fun f s₄ z => ?_) fun _ _ e => e) fun _ _ e => e
  cases z with
  | next F N hn hj => exact .next ⟨rfl, _, _, _, _, rfl, F, news_swap N, hn, hj⟩
  | cont F N hn hj => exact .cont ⟨rfl, _, _, _, _, rfl, F, news_swap N, hn, hj⟩
  | brk F N r => exact .brk (done _ _ _ _ r F N)
 ·intro h' tk m' news' F' N' hn hJ
  exact done m' news' h' tk (fin m' news' hn hJ) F' N'
theorem for_list {ax : Addr} {items : Array Value} {m : Str → Option Value} {news : List (Addr × Obj)} (J : Nat → (Str → Option Value) → List (Addr × Obj) → Prop) (R : (Str → Option Value) → List (Addr × Obj) → Prop)
  (hh : A.handled = none) (hax : s.heap.IsList ax items) (haL : ax ≠ env.locals) (F : Fr h₀ env.locals s.heap m) (N : News h₀ env.locals s.heap news) (h0 : J 0 m news)
  (turn : ∀ i v I m₁ news₁ h tk own, items[i]? = some v → h₀.get? I = none → (∀ p ∈ own, p.1 ∈ [I, ax]) → (∃ o, (I, o) ∈ own) → (∀ p ∈ news₁, p.1 ∉ [I]) → J i m₁ news₁ → Fr h₀ env.locals h m₁ → News h₀ env.locals h (news₁ ++ own) →
   wpAny (model prog w) A (assign target env v) (fun _ s₃ => wpAny (model prog w) A (execs body env) (TurnW h₀ env.locals [I] own (J (i + 1)) R { s with heap := h, toks := tk }) E s₃) E { s with heap := h, toks := tk })
  (fin : ∀ m₁ news₁, J items.size m₁ news₁ → R m₁ news₁)
  (done : ∀ m₁ news₁ h tk, R m₁ news₁ → Fr h₀ env.locals h m₁ → News h₀ env.locals h news₁ → Q .next { s with heap := h, toks := tk }) :
  wpAny (model prog w) A (pyIter (.ref ax)) (fun it s₂ => TurnsAt prog w A h₀ env target body Q E it s₂) E s := by
 obtain ⟨ol, hol, _⟩ := id hax
 have hlt : ax < s.heap.objs.size := Heap.lt_size hol
 have hne : ax ≠ s.heap.objs.size := Nat.ne_of_lt hlt
 refine wpAny_pyIter_list hax ?_
 have W := KTurns.ofWalks (target := target) (Walks.list (prog := prog) (w := w) (A := A) hh s.heap.objs.size ax hne items) fun i v s Q E st q => letGo_listiter st.1 q
 refine turns_core (s := { s with heap := s.heap.push _ }) W J R ?_ ?_ ?_ ?_ (F.push _) (fun p hp => ⟨Heap.get?_push_of_some _ (N p hp).1, (N p hp).2⟩) h0 ?_ (fun m₁ n₁ _ hj => fin m₁ n₁ hj) ?_
 ·intro hm
  rcases List.mem_cons.mp hm with e | hm
  ·exact absurd F.ns.lt (e ▸ Nat.lt_irrefl _)
  ·exact haL (List.mem_singleton.mp hm).symm
 ·intro b hb
  rw [List.mem_singleton.mp hb]; exact next_is_new F
 ·intro p hp hI
  exact absurd (Heap.lt_size (N p hp).1) ((List.mem_singleton.mp hI) ▸ Nat.lt_irrefl _)
 ·exact ⟨⟨_, Heap.get?_push_size _ rfl, rfl, rfl⟩, hax.at fun o e => Heap.get?_push_of_some _ e⟩
 ·intro i v m₁ news₁ h tk own hi hP hown hall hst1 hn hj F1 N1
  obtain ⟨⟨oi, hoi, _⟩, _⟩ := hst1
  exact turn i v _ m₁ news₁ h tk own hP (next_is_new F) hown ⟨oi, hall _ (.head _) (next_is_new F) _ hoi⟩ hn hj F1 N1
 ·intro m₁ news₁ h tk hr F1 N1
  exact done m₁ news₁ h tk hr F1 N1
theorem for_enum {elts : List Expr} {k : Nat} {pos : Pos} {l : Addr} {items : Array Value} {m : Str → Option Value} {news : List (Addr × Obj)} (J : Nat → (Str → Option Value) → List (Addr × Obj) → Prop) (R : (Str → Option Value) → List (Addr × Obj) → Prop)
  (hh : A.handled = none) (hl : s.heap.IsList l items) (hlL : l ≠ env.locals) (F : Fr h₀ env.locals s.heap m) (N : News h₀ env.locals s.heap news) (h0 : J 0 m news)
  (turn : ∀ i x t T I m₁ news₁ h tk own, items[i]? = some x → h.IsTuple T #[.int (i : Int) t, x] → h₀.get? I = none → h₀.get? (I + 1) = none → (∀ p ∈ own, p.1 ∈ [I + 1, I, l]) → (∃ o, (I, o) ∈ own) → (∃ o, (I + 1, o) ∈ own) → (∀ p ∈ news₁, p.1 ∉ [I + 1, I]) → J i m₁ news₁ → Fr h₀ env.locals h m₁ → News h₀ env.locals h (news₁ ++ own) →
   wpAny (model prog w) A (assign (.Tuple elts k pos) env (.ref T)) (fun _ s₃ => wpAny (model prog w) A (execs body env) (TurnW h₀ env.locals [I + 1, I] own (J (i + 1)) R { s with heap := h, toks := tk }) E s₃) E { s with heap := h, toks := tk })
  (fin : ∀ m₁ news₁, J items.size m₁ news₁ → R m₁ news₁)
  (done : ∀ m₁ news₁ h tk, R m₁ news₁ → Fr h₀ env.locals h m₁ → News h₀ env.locals h news₁ → Q .next { s with heap := h, toks := tk }) :
  wpAny (model prog w) A (call (.type "enumerate") [.ref l]) (fun xv s₁ => wpAny (model prog w) A (pyIter xv) (fun it s₂ => TurnsAt prog w A h₀ env (.Tuple elts k pos) body Q E it s₂) E s₁) E s := by
 obtain ⟨ol, hol, _⟩ := id hl
 have hlt : l < s.heap.objs.size := Heap.lt_size hol
 have hLs : env.locals < s.heap.objs.size := F.ns.lt
 refine call_enumerate_list hl fun h' hE hI hsz hk => ?_
 refine wpAny_pyIter_enum hE ?_
 have W := KTurns.ofWalksU (elts := elts) (k := k) (pos := pos) (WalksT.enumerate (prog := prog) (w := w) hh (s.heap.objs.size + 1) s.heap.objs.size l (Nat.succ_ne_self _) (ktu_ne 1 hlt) (Nat.ne_of_lt hlt) items).toU
 refine turns_core (s := { s with heap := h' }) W J R ?_ ?_ ?_ ?_ (F.keeps hk) (N.grown hk) h0 ?_ (fun m₁ n₁ _ hj => fin m₁ n₁ hj) ?_
 ·intro hI'
  have hb' : env.locals = s.heap.objs.size + 1 ∨ env.locals = s.heap.objs.size ∨ env.locals = l := by simpa using hI'
  rcases hb' with e | e | e
  ·exact ktu_ne 1 hLs e
  ·exact Nat.ne_of_lt hLs e
  ·exact hlL e.symm
 ·intro b hb
  have hb' : b = s.heap.objs.size + 1 ∨ b = s.heap.objs.size := by simpa using hb
  rcases hb' with rfl | rfl
  ·exact ktu_new F (Nat.le_add_right _ _)
  ·exact ktu_new F (Nat.le_refl _)
 ·intro p hp hI'
  have hb' : p.1 = s.heap.objs.size + 1 ∨ p.1 = s.heap.objs.size := by simpa using hI'
  have hlp := Heap.lt_size (N p hp).1
  rcases hb' with e | e
  ·exact ktu_ne 1 hlp e
  ·exact Nat.ne_of_lt hlp e
 ·exact ⟨⟨.none, hE⟩, hI, hl.at fun o e => hk l o e⟩
 ·rintro i v m₁ news₁ h tk own hi ⟨T, vals, rfl, ⟨t, x, hx, rfl⟩, hT⟩ hown hall ⟨⟨old, he⟩, ⟨oi, hoi, _⟩, _⟩ hn hj F1 N1
  have he' : ∃ oe : Obj, h.get? (s.heap.objs.size + 1) = some oe ∧ oe.cls = .type "enumerate" := ⟨_, he, rfl⟩
  obtain ⟨oe, he, _⟩ := he'
  exact turn i x t T _ m₁ news₁ h tk own hx hT (ktu_new F (Nat.le_refl _)) (ktu_new F (Nat.le_add_right _ _)) hown ⟨oi, hall _ (.tail _ (.head _)) (ktu_new F (Nat.le_refl _)) _ hoi⟩ ⟨oe, hall _ (.head _) (ktu_new F (Nat.le_add_right _ _)) _ he⟩ hn hj F1 N1
 ·intro m₁ news₁ h tk hr F1 N1
  exact done m₁ news₁ h tk hr F1 N1
theorem for_range {r : Addr} {a c : Int} {t u v : Tok} {n : Nat} {m : Str → Option Value} {news : List (Addr × Obj)} (J : Nat → (Str → Option Value) → List (Addr × Obj) → Prop) (R : (Str → Option Value) → List (Addr × Obj) → Prop)
  (hh : A.handled = none) (hr : IsRange s.heap r a c 1 t u v) (hsmall : Builtin.Range.small a c 1 = true) (hn : Builtin.Range.rangeSize a c 1 = (n : Int)) (F : Fr h₀ env.locals s.heap m) (N : News h₀ env.locals s.heap news) (h0 : J 0 m news)
  (turn : ∀ i t I m₁ news₁ h tk own, i < n → h₀.get? I = none → (∀ p ∈ own, p.1 ∈ [I]) → (∃ o, (I, o) ∈ own) → (∀ p ∈ news₁, p.1 ∉ [I]) → J i m₁ news₁ → Fr h₀ env.locals h m₁ → News h₀ env.locals h (news₁ ++ own) →
   wpAny (model prog w) A (assign target env (.int (a + (i : Int)) t)) (fun _ s₃ => wpAny (model prog w) A (execs body env) (TurnW h₀ env.locals [I] own (J (i + 1)) R { s with heap := h, toks := tk }) E s₃) E { s with heap := h, toks := tk })
  (fin : ∀ m₁ news₁, J n m₁ news₁ → R m₁ news₁)
  (done : ∀ m₁ news₁ h tk, R m₁ news₁ → Fr h₀ env.locals h m₁ → News h₀ env.locals h news₁ → Q .next { s with heap := h, toks := tk })
  (hgo : ∀ I i v (s : Shared) (Q : Unit → Shared → Prop) (E : Value → Shared → Prop), IsRangeIter s.heap I (a + (i : Nat) * 1) ((n : Int) - (i : Nat)) 1 → Q () s → wpAny (model prog w) A (letOwnedTupleGo target (.ref I) v) Q E s) :
  wpAny (model prog w) A (pyIter (.ref r)) (fun it s₂ => TurnsAt prog w A h₀ env target body Q E it s₂) E s := by
 refine wpAny_pyIter_range hr hsmall ?_
 have W := KTurns.ofWalks (target := target) (Walks.range (prog := prog) (w := w) (A := A) hh s.heap.objs.size a 1 n) fun i v s Q E st q => hgo _ i v s Q E st q
 refine turns_core (s := { s with heap := s.heap.push _ }) W J R ?_ ?_ ?_ ?_ (F.push _) (fun p hp => ⟨Heap.get?_push_of_some _ (N p hp).1, (N p hp).2⟩) h0 ?_ (fun m₁ n₁ _ hj => fin m₁ n₁ hj) ?_
 ·intro hm
  exact absurd F.ns.lt ((List.mem_singleton.mp hm) ▸ Nat.lt_irrefl _)
 ·intro b hb
  rw [List.mem_singleton.mp hb]; exact next_is_new F
 ·intro p hp hI
  exact absurd (Heap.lt_size (N p hp).1) ((List.mem_singleton.mp hI) ▸ Nat.lt_irrefl _)
 ·show IsRangeIter _ _ _ _ _
  rw [hn]; simpa using Heap.get?_push_size _ rfl
 ·rintro i v m₁ news₁ h tk own hi ⟨t, rfl⟩ hown hall hst1 hn' hj F1 N1
  have he' : ∃ oe : Obj, h.get? s.heap.objs.size = some oe := ⟨_, hst1⟩
  obtain ⟨oe, he⟩ := he'
  have e : a + (i : Int) * 1 = a + (i : Int) := by lia
  rw [e]
  exact turn i t _ m₁ news₁ h tk own hi (next_is_new F) hown ⟨oe, hall _ (.head _) (next_is_new F) _ he⟩ hn' hj F1 N1
 ·intro m₁ news₁ h tk hr F1 N1
  exact done m₁ news₁ h tk hr F1 N1
end
end Mine
end
section
namespace Mine
structure Lk where
 key : Int
 ad : Nat
 its : Array Value
 n : Nat
noncomputable abbrev Lk.ob (q : Lk) : Addr × Obj := (q.ad, listOf q.its q.n)
noncomputable def kvOf (ls : List Lk) : List (Int × Value) := ls.map fun q => (q.key, .ref q.ad)
noncomputable def plc (ns : List Int) (i : Nat) (x : Int) : List Nat := (List.range i).filter fun j => decide (ns[j]? = some x)
theorem plc_succ (ns : List Int) (i : Nat) (x : Int) : plc ns (i + 1) x = plc ns i x ++ if ns[i]? = some x then [i] else [] := by
 unfold plc
 rw [List.range_succ, List.filter_append]
 by_cases h : ns[i]? = some x <;> simp [h]
theorem mem_plc {ns : List Int} {i j : Nat} {x : Int} : j ∈ plc ns i x ↔ j < i ∧ ns[j]? = some x := by
 unfold plc
 rw [List.mem_filter, List.mem_range, decide_eq_true_iff]
theorem plc_sorted (ns : List Int) (i : Nat) (x : Int) : (plc ns i x).Pairwise (· < ·) := by
 unfold plc
 exact List.Pairwise.filter _ List.pairwise_lt_range
theorem plc_len (ns : List Int) (i : Nat) (x : Int) : (plc ns i x).length ≤ i := by
 have := List.length_filter_le (fun j => decide (ns[j]? = some x)) (List.range i)
 rw [List.length_range] at this
 exact this
structure Bj (ns : List Int) (i : Nat) (ls : List Lk) : Prop where
 bi : ∀ q ∈ ls, IntsAre q.its.toList ((plc ns i q.key).map fun (j : Nat) => (j : Int))
 bk : ∀ x, x ∈ ls.map (·.key) ↔ plc ns i x ≠ []
 bn : (ls.map (·.key)).Nodup
 ba : (ls.map (·.ad)).Nodup
theorem Bj.start (ns : List Int) : Bj ns 0 [] := ⟨fun _ h => (nomatch h), fun x => by simp [plc], .nil, .nil⟩
theorem Bj.there {ns : List Int} {i : Nat} {p r : List Lk} {q : Lk} (B : Bj ns i (p ++ q :: r)) (hx : ns[i]? = some q.key) (t : Tok) (n' : Nat) : Bj ns (i + 1) (p ++ { q with its := q.its.push (.int (i : Int) t), n := n' } :: r) := by
 have nd := B.bn
 rw [List.map_append, List.map_cons, List.nodup_append] at nd
 have nd2 := List.nodup_cons.mp nd.2.1
 have old : ∀ z, z ∈ p ∨ z ∈ r → z.key ≠ q.key := by
  rintro z (h | h) e
  ·exact nd.2.2 _ (List.mem_map_of_mem h) _ (List.mem_cons_self ..) e
  ·exact nd2.1 (e ▸ List.mem_map_of_mem h)
 have keep : ∀ z, z ∈ p ∨ z ∈ r → IntsAre z.its.toList ((plc ns (i + 1) z.key).map fun (j : Nat) => (j : Int)) := fun z h => by
  have hz : ¬ ns[i]? = some z.key := fun e => old z h (by rw [hx] at e; exact (Option.some.inj e).symm)
  rw [plc_succ, if_neg hz, List.append_nil]
  refine B.bi z ?_
  rcases h with h | h
  ·exact List.mem_append_left _ h
  ·exact List.mem_append_right _ (.tail _ h)
 refine ⟨fun z hz => ?_, fun x => ?_, by have := B.bn; rwa [List.map_append, List.map_cons] at this ⊢, by have := B.ba; rwa [List.map_append, List.map_cons] at this ⊢⟩
 ·rcases List.mem_append.mp hz with h | h
  ·exact keep z (.inl h)
  ·rcases List.mem_cons.mp h with rfl | h
   ·dsimp only
    rw [plc_succ, if_pos hx, List.map_append, Array.toList_push]
    exact (B.bi q (List.mem_append_right _ (.head _))).append (.cons _ _ .nil)
   ·exact keep z (.inr h)
 ·have := B.bk x
  rw [List.map_append, List.map_cons] at this ⊢
  dsimp only
  rw [this, plc_succ]
  by_cases e : ns[i]? = some x
  ·rw [if_pos e]
   have : x = q.key := by rw [hx] at e; exact (Option.some.inj e).symm
   subst this
   have h1 : plc ns i q.key ≠ [] := (B.bk _).mp (by rw [List.map_append, List.map_cons]; simp)
   simp [h1]
  ·rw [if_neg e, List.append_nil]
theorem Bj.new {ns : List Int} {i : Nat} {ls : List Lk} {x : Int} (B : Bj ns i ls) (hx : ns[i]? = some x) (hk : x ∉ ls.map (·.key)) {D : Nat} (hD : ∀ q ∈ ls, q.ad ≠ D) (t : Tok) (n : Nat) : Bj ns (i + 1) (ls ++ [{ key := x, ad := D, its := #[.int (i : Int) t], n := n }]) := by
 have h0 : plc ns i x = [] := by
  by_cases e : plc ns i x = []
  ·exact e
  ·exact absurd ((B.bk x).mpr e) hk
 refine ⟨fun z hz => ?_, fun y => ?_, ?_, ?_⟩
 ·rcases List.mem_append.mp hz with h | h
  ·have hz : ¬ ns[i]? = some z.key := fun e => by
    rw [hx] at e
    exact hk (Option.some.inj e ▸ List.mem_map_of_mem h)
   rw [plc_succ, if_neg hz, List.append_nil]
   exact B.bi z h
  ·rw [List.mem_singleton.mp h]
   dsimp only
   rw [plc_succ, if_pos hx, h0]
   exact .cons _ _ .nil
 ·rw [List.map_append, List.mem_append, B.bk y, plc_succ]
  by_cases e : ns[i]? = some y
  ·rw [if_pos e]
   have : y = x := by rw [hx] at e; exact (Option.some.inj e).symm
   subst this
   simp
  ·rw [if_neg e, List.append_nil]
   have : y ≠ x := fun h => e (h ▸ hx)
   simp [this]
 ·rw [List.map_append, List.nodup_append]
  exact ⟨B.bn, by simp, fun a ha b hb e => hk (by rw [List.map_singleton, List.mem_singleton] at hb; subst hb; exact e ▸ ha)⟩
 ·rw [List.map_append, List.nodup_append]
  refine ⟨B.ba, by simp, fun a ha b hb e => ?_⟩
  rw [List.map_singleton, List.mem_singleton] at hb
  obtain ⟨q, hq, rfl⟩ := List.mem_map.mp ha
  exact hD q hq (e.trans hb)
theorem valueAt_kvOf_none {ls : List Lk} {x : Int} (h : valueAt (kvOf ls) x = none) : x ∉ ls.map (·.key) := by
 induction ls with
 | nil => simp
 | cons q r ih =>
  unfold valueAt kvOf at h
  rw [List.map_cons, List.find?_cons] at h
  by_cases e : q.key = x
  ·simp [e] at h
  ·rw [show decide (q.key = x) = false from decide_eq_false e] at h
   rw [List.map_cons, List.mem_cons]
   rintro (rfl | h2)
   ·exact e rfl
   ·exact ih h h2
theorem valueAt_kvOf_some {ls : List Lk} {x : Int} {v : Value} (h : valueAt (kvOf ls) x = some v) : ∃ p q r, ls = p ++ q :: r ∧ q.key = x ∧ v = .ref q.ad := by
 induction ls with
 | nil => simp [valueAt, kvOf] at h
 | cons q r ih =>
  unfold valueAt kvOf at h
  rw [List.map_cons, List.find?_cons] at h
  by_cases e : q.key = x
  ·simp [e] at h
   exact ⟨[], q, r, rfl, e, h.symm⟩
  ·rw [show decide (q.key = x) = false from decide_eq_false e] at h
   obtain ⟨p, q', r', rfl, h2, h3⟩ := ih h
   exact ⟨q :: p, q', r', rfl, h2, h3⟩
theorem stored_kvOf {ls : List Lk} {x : Int} (h : x ∉ ls.map (·.key)) (D : Nat) (its : Array Value) (n : Nat) : stored (kvOf ls) x (.ref D) = kvOf (ls ++ [{ key := x, ad := D, its := its, n := n }]) := by
 have hany : ¬ ((kvOf ls).any fun kv => decide (kv.1 = x)) = true := by
  rw [List.any_eq_true]
  rintro ⟨kv, hkv, he⟩
  obtain ⟨q, hq, rfl⟩ := List.mem_map.mp hkv
  exact h (of_decide_eq_true he ▸ List.mem_map_of_mem hq)
 rw [stored, if_neg hany]
 simp [kvOf]
noncomputable def B2J (ns : List Int) (kvs : List (Int × Value)) (lists : List (Addr × Obj)) : Prop := ∀ x, (valueAt kvs x = none ∧ plc ns ns.length x = []) ∨ ∃ l its n, valueAt kvs x = some (.ref l) ∧ (l, listOf its n) ∈ lists ∧ IntsAre its.toList ((plc ns ns.length x).map fun (j : Nat) => (j : Int))
theorem Bj.done {ns : List Int} {ls : List Lk} (B : Bj ns ns.length ls) : B2J ns (kvOf ls) (ls.map Lk.ob) := by
 intro x
 cases e : valueAt (kvOf ls) x with
 | none =>
  refine .inl ⟨rfl, ?_⟩
  have := valueAt_kvOf_none e
  rw [B.bk x] at this
  exact Classical.not_not.mp this
 | some v =>
  obtain ⟨p, q, r, rfl, rfl, rfl⟩ := valueAt_kvOf_some e
  exact .inr ⟨q.ad, q.its, q.n, rfl, List.mem_map_of_mem (List.mem_append_right _ (.head _)), B.bi q (List.mem_append_right _ (.head _))⟩
end Mine
end
section
namespace Mine
noncomputable def Hold (p : Prop) : Prop := p
theorem hold_out {p : Prop} (h : Hold p) : p := h
noncomputable abbrev en (P : Params) (x : String) (t : Tok) (v : Value) : DictEntry := { hash := PyData.keyHash P (Str.ofString x), key := .str (Str.ofString x) t, val := v }
noncomputable abbrev E7 (P : Params) (a b : Nat) (t1 t2 t3 t4 t5 t6 t7 : Tok) : List DictEntry := [en P "isjunk" t1 .none, en P "a" t2 (.ref a), en P "b" t3 (.ref b), en P "autojunk" t4 (.bool true), en P "matching_blocks" t5 .none, en P "opcodes" t6 .none, en P "fullbcount" t7 .none]
noncomputable abbrev E8 (P : Params) (a b B : Nat) (t1 t2 t3 t4 t5 t6 t7 t8 : Tok) : List DictEntry := [en P "isjunk" t1 .none, en P "a" t2 (.ref a), en P "b" t3 (.ref b), en P "autojunk" t4 (.bool true), en P "matching_blocks" t5 .none, en P "opcodes" t6 .none, en P "fullbcount" t7 .none, en P "b2j" t8 (.ref B)]
theorem list_ne {h : Heap} {b L : Addr} {xs : Array Value} (hl : h.IsList b xs) (hL : h.objs.size ≤ L) : b ≠ L := by
 obtain ⟨o, e, _⟩ := hl
 exact Nat.ne_of_lt (Nat.lt_of_lt_of_le (Heap.lt_size e) hL)
noncomputable abbrev E10 (P : Params) (a b B J Z : Nat) (mb op : Value) (t1 t2 t3 t4 t5 t6 t7 t8 t9 t10 : Tok) : List DictEntry := [en P "isjunk" t1 .none, en P "a" t2 (.ref a), en P "b" t3 (.ref b), en P "autojunk" t4 (.bool true), en P "matching_blocks" t5 mb, en P "opcodes" t6 op, en P "fullbcount" t7 .none, en P "b2j" t8 (.ref B), en P "bjunk" t9 (.ref J), en P "bpopular" t10 (.ref Z)]
structure SmF (w : World) (I AD B J : Nat) (ns : List Int) (o oj : Obj) (lists : List (Addr × Obj)) : Prop where
 dict : ∃ kvs, o.IsDictOf (PySem.intKind prog w) kvs ∧ B2J ns kvs lists
 lo : (B == sysModules) = false
 junk : oj.SetObjOf (PySem.intKind prog w) (fun _ => false) 0
 ord : @LT.lt Nat _ AD I ∧ @LT.lt Nat _ I B ∧ @LT.lt Nat _ B J
 off : ∀ p ∈ lists, p.1 ≠ AD
section
variable {prog : Program} {w : World} {A : Around} {E : Value → Shared → Prop} {s : Shared} {h₀ : Heap} {L d : Addr} {m : Str → Option Value} {news : List (Addr × Obj)} {g : Obj → List (Addr × Obj)} {o : Obj} {kvs : List (Int × Value)} {k : Int} {dflt : Value}
theorem sd_method {pl : Sem Bool} {Q : Value × List Value → Shared → Prop} (N : News h₀ L s.heap news) (hp : (d, o) ∈ news) (hd : o.IsDictOf (PySem.intKind prog w) kvs) (h : Q (.builtin "dict.setdefault", [.ref d]) s) : wpAny (model prog w) A (getMethod (.ref d) "setdefault" pl) Q E s :=
 have hD := kda_dict N hp hd
 getMethod_builtin hD.typeIs PySem.F.plainAttrs_dict PySem.F.slot_dict_setdefault PySem.F.type_dict_setdefault hD.mapOf.noDict h
theorem sd_call {Q : Value → Shared → Prop} {t : Tok} (F : Fr h₀ L s.heap m) (N : News h₀ L s.heap news) (U : UpdF d o news g) (hd : o.IsDictOf (PySem.intKind prog w) kvs) (lo : (d == sysModules) = false) (hz : kvs.length ≤ sizeLine)
  (there : ∀ v, valueAt kvs k = some v → Q v { s with toks := s.toks + 1 })
  (new : ∀ h' o', valueAt kvs k = none → Fr h₀ L h' m → News h₀ L h' (g o') → o'.IsDictOf (PySem.intKind prog w) (stored kvs k dflt) → Q dflt { s with heap := h', toks := s.toks + 1 }) :
  wpAny (model prog w) A (call (.builtin "dict.setdefault") [.ref d, .int k t, dflt]) Q E s := by
 obtain ⟨pre, post, rfl, hg, a, b⟩ := U.split
 have hm := N (d, o) (List.mem_append_right _ (.head _))
 have hD : s.heap.DictOf (PySem.intKind prog w) d kvs := Heap.dictOf_iff.mpr ⟨o, hm.1, hd⟩
 refine call_meetsIn PySem.F.slot_dict_setdefault hD.typeIs PySem.F.entry_dict_setdefault (PySem.F.args_dict_setdefault_3 _ _ _) (kt_meets_setdefault (PySem.intKind prog w) d (intKind_is _ _ _ _) lo dflt) ⟨kvs, hD, hz, there, fun hn h' hd' hs => ?_⟩
 obtain ⟨o', ho', hd''⟩ := Heap.dictOf_iff.mp hd'
 exact new h' o' hn (F.change hs hm.2.1 hm.2.2) (hg o' ▸ N.setIn a b hs ho') hd''
end
theorem own_ne {own : List (Addr × Obj)} {bs : List Addr} {x : Addr} (h : ∀ p ∈ own, p.1 ∈ bs) (hx : x ∉ bs) : ∀ p ∈ own, p.1 ≠ x := fun p hp e => hx (e ▸ h p hp)
theorem app_ne {p q : List (Addr × Obj)} {x : Addr} (h1 : ∀ z ∈ p, z.1 ≠ x) (h2 : ∀ z ∈ q, z.1 ≠ x) : ∀ z ∈ p ++ q, z.1 ≠ x := fun z hz => (List.mem_append.mp hz).elim (h1 z) (h2 z)
theorem ls_ne {ls : List Lk} {x : Nat} (h : ∀ q ∈ ls, q.ad ≠ x) : ∀ z ∈ ls.map Lk.ob, z.1 ≠ x := fun z hz => by
 obtain ⟨q, hq, rfl⟩ := List.mem_map.mp hz
 exact h q hq
theorem allLt_mem {d : Addr} {l : List (Addr × Obj)} (h : AllLt d l) : ∀ p ∈ l, @LT.lt Nat _ p.1 d := by
 induction l with
 | nil => intro p hp; cases hp
 | cons a l ih =>
  obtain ⟨h1, h2⟩ := h
  intro p hp
  rcases List.mem_cons.mp hp with rfl | hp
  ·exact h1
  ·exact ih h2 p hp
theorem base_ne {g h : Heap} {L b : Addr} {xs : Array Value} {news : List (Addr × Obj)} (hl : g.IsList b xs) (N : News g L h news) : ∀ p ∈ news, p.1 ≠ b := fun p hp e => by
 obtain ⟨o, e1, _⟩ := hl
 have := (N p hp).2.2
 rw [e, e1] at this; cases this
theorem mem_perm5 {z j bo i ad : Addr × Obj} {l : List (Addr × Obj)} : ∀ p ∈ i :: ad :: bo :: j :: l, p ∈ z :: j :: bo :: i :: ad :: l := fun p hp => by
 simp only [List.mem_cons] at hp ⊢
 rcases hp with h | h | h | h | h
 ·exact .inr (.inr (.inr (.inl h)))
 ·exact .inr (.inr (.inr (.inr (.inl h))))
 ·exact .inr (.inr (.inl h))
 ·exact .inr (.inl h)
 ·exact .inr (.inr (.inr (.inr (.inr h))))
theorem off_map {l l' : List (Addr × Obj)} {wr : List Addr} (e : l'.map (·.1) = l.map (·.1)) (h : ∀ p ∈ l, p.1 ∉ wr) : ∀ p ∈ l', p.1 ∉ wr := fun p hp => by
 have : p.1 ∈ l'.map (·.1) := List.mem_map_of_mem hp
 rw [e] at this
 obtain ⟨q, hq, e⟩ := List.mem_map.mp this
 rw [← e]
 exact h q hq
end Mine
end
section
namespace Mine
structure Same (s s' : Shared) : Prop where
 e : s' = { s with heap := s'.heap, toks := s'.toks }
theorem Same.out {s s' : Shared} (h : Same s s') {P : Shared → Prop} (p : P { s with heap := s'.heap, toks := s'.toks }) : P s' := by rw [h.e]; exact p
theorem Same.of {s s' s₂ : Shared} (h : Same s s') (hp : Heap) (tk : Nat) (e : s₂ = { s' with heap := hp, toks := tk }) : Same s s₂ := by
 subst e; exact ⟨by show { s' with heap := hp, toks := tk } = { s with heap := hp, toks := tk }; rw [h.e]⟩
theorem Same.set {s s' : Shared} (h : Same s s') (hp : Heap) (tk : Nat) : ({ s' with heap := hp, toks := tk } : Shared) = { s with heap := hp, toks := tk } := by rw [h.e]
theorem Same.start {s : Shared} (hp : Heap) (tk : Nat) : Same s { s with heap := hp, toks := tk } := ⟨rfl⟩
theorem Same.put {s s' s₂ : Shared} (h : Same s s') (e : s₂ = { s' with heap := s₂.heap, toks := s₂.toks }) : Same s s₂ := h.of _ _ e
theorem go_same {M : Model} {A : Around} {α : Type} {t : Sem α} {Q : α → Shared → Prop} {E : Value → Shared → Prop} {s s₁ : Shared} (e : Same s s₁) (h : ∀ s', Same s s' → s'.heap = s₁.heap → wpAny M A t Q E s') : wpAny M A t Q E s₁ := h s₁ e rfl
section
variable {M : Model} {A : Around} {E : Value → Shared → Prop} {s₀ s : Shared} {h₀ : Heap} {L a : Addr} {m : Str → Option Value} {cn : Str} {cs : Scope} {ccd : Value} {cl : List (Str × Addr)} {x : Str} {v : Value} {Q : Unit → Shared → Prop} {news : List (Addr × Obj)}
theorem ss_any (e : Same s₀ s) (F : Fr h₀ L s.heap m) (N : News h₀ L s.heap news)
  (h : let m' := fun y => if y = x then some v else m y; ∀ s', Same s₀ s' → Fr h₀ L s'.heap m' → News h₀ L s'.heap news → Q () s')
  (hk : cs.kind = .function := by rfl) (hx : (envX cn cs L a ccd cl).kindOf x = some .local := by rfl) : wpAny M A (storeName (envX cn cs L a ccd cl) x v) Q E s :=
 storeX_L F N (fun _ F' N' => h _ (e.of _ _ rfl) F' N') hk hx
theorem ss_int {i j : Int} {t : Tok} (e : Same s₀ s) (F : Fr h₀ L s.heap m) (N : News h₀ L s.heap news) (hj : i = j)
  (h : ∀ t', let m' := fun y => if y = x then some (.int j t') else m y; ∀ s', Same s₀ s' → Fr h₀ L s'.heap m' → News h₀ L s'.heap news → Q () s')
  (hk : cs.kind = .function := by rfl) (hx : (envX cn cs L a ccd cl).kindOf x = some .local := by rfl) : wpAny M A (storeName (envX cn cs L a ccd cl) x (.int i t)) Q E s := by
 subst hj
 exact storeX_L F N (fun _ F' N' => h t _ (e.of _ _ rfl) F' N') hk hx
theorem atomT {α : Type} {t : Sem α} {R : α → Shared → Prop} {h : Heap} {tk : Nat} (e : Same s₀ s) (F : Fr h₀ L h m) (N : News h₀ L h news) (k : ∀ s₁, Same s₀ s₁ → Fr h₀ L s₁.heap m → News h₀ L s₁.heap news → wpAny M A t R E s₁) : wpAny M A t R E { s with heap := h, toks := tk } := k _ (e.of _ _ rfl) F N
theorem ldS {R : Value → Shared → Prop} (F : Fr h₀ L s.heap m) (hv : m x = some v) (h : R v s) (hk : cs.kind = .function := by rfl) (hx : (envX cn cs L a ccd cl).kindOf x = some .local := by rfl) : wpAny M A (loadName (envX cn cs L a ccd cl) x) R E s := wpAny_loadName_local hk hx F.ns hv h
theorem atomS {α : Type} {t : Sem α} {R : α → Shared → Prop} {h : Heap} {tk : Nat} (F : Fr h₀ L h m) (N : News h₀ L h news) (k : ∀ s₁, Same s s₁ → Fr h₀ L s₁.heap m → News h₀ L s₁.heap news → wpAny M A t R E s₁) : wpAny M A t R E { s with heap := h, toks := tk } := k _ ⟨rfl⟩ F N
end
end Mine
end
section
namespace Mine
noncomputable def upd (m : Str → Option Value) (x : Str) (v : Value) (y : Str) : Option Value := if y = x then some v else m y
structure Cx where
 w : World
 A : Around
 E : Value → Shared → Prop
 cn : Str
 cs : Scope
 a : Addr
 cd : Value
 cl : List (Str × Addr)
 L : Addr
 g : Heap
noncomputable abbrev Cx.env (C : Cx) : Env := envX C.cn C.cs C.L C.a C.cd C.cl
structure Cx.St (C : Cx) (s₀ : Shared) (m : Str → Option Value) (N : List (Addr × Obj)) (s : Shared) : Prop where
 e : Same s₀ s
 F : Fr C.g C.L s.heap m
 N : News C.g C.L s.heap N
noncomputable def Cx.Wp (C : Cx) (c : Stmt) (Q : Flow → Shared → Prop) (s : Shared) : Prop := wpAny (model prog C.w) C.A (exec c C.env) Q C.E s
noncomputable def Cx.Ws (C : Cx) (l : List Stmt) (Q : Flow → Shared → Prop) (s : Shared) : Prop := wpAny (model prog C.w) C.A (execs l C.env) Q C.E s
noncomputable def Cx.Nx (C : Cx) (l : List Stmt) (Q : Flow → Shared → Prop) (f : Flow) (s : Shared) : Prop := match f with
 | .next => C.Ws l Q s
 | f => Q f s
noncomputable def Cx.Wt (C : Cx) (e : Expr) (Q : Bool → Shared → Prop) (s : Shared) : Prop := wpAny (model prog C.w) C.A (isTrue e C.env (eval e C.env)) Q C.E s
noncomputable def Cx.lc (C : Cx) (x : Str) : Bool := decide (C.cs.kind = .function) && decide (C.env.kindOf x = some .local) && !(x == ("__debug__" : Str))
section
variable {C : Cx} {s₀ s : Shared} {m : Str → Option Value} {N : List (Addr × Obj)} {Q : Flow → Shared → Prop}
theorem Cx.St.put {hp : Heap} {tk : Nat} (S : C.St s₀ m N s) {m' : Str → Option Value} {N' : List (Addr × Obj)} (F : Fr C.g C.L hp m') (N1 : News C.g C.L hp N') : C.St s₀ m' N' { s with heap := hp, toks := tk } := ⟨S.e.of _ _ rfl, F, N1⟩
theorem Cx.seq {a : Stmt} {l : List Stmt} (h : C.Wp a (C.Nx l Q) s) : C.Ws (a :: l) Q s := wpAny_execs_cons (wpAny_mono h (fun f s' h => by cases f <;> exact h) fun _ _ e => e)
theorem Cx.nil (h : Q .next s) : C.Ws [] Q s := wpAny_execs_nil h
theorem Cx.lc1 {x : Str} (h : C.lc x = true) : C.cs.kind = .function ∧ C.env.kindOf x = some .local ∧ (x == ("__debug__" : Str)) = false := by
 unfold Cx.lc at h
 simp only [Bool.and_eq_true, decide_eq_true_eq, Bool.not_eq_true'] at h
 exact ⟨h.1.1, h.1.2, h.2⟩
noncomputable def Cx.V (C : Cx) (m : Str → Option Value) (e : Expr) (v : Value) : Prop := ∀ (s : Shared) (Q : Value → Shared → Prop), Fr C.g C.L s.heap m → (∀ tk, Q v { s with toks := tk }) → wpAny (model prog C.w) C.A (eval e C.env) Q C.E s
noncomputable def Cx.I (C : Cx) (m : Str → Option Value) (e : Expr) (i : Int) : Prop := ∀ (s : Shared) (Q : Value → Shared → Prop), Fr C.g C.L s.heap m → (∀ t tk, Q (.int i t) { s with toks := tk }) → wpAny (model prog C.w) C.A (eval e C.env) Q C.E s
noncomputable def Cx.T (C : Cx) (m : Str → Option Value) (e : Expr) (p : Prop) : Prop := ∀ (s : Shared) (Q : Bool → Shared → Prop), Fr C.g C.L s.heap m → (p → ∀ tk, Q true { s with toks := tk }) → (¬p → ∀ tk, Q false { s with toks := tk }) → C.Wt e Q s
theorem Cx.V.name {x : Str} {pos : Pos} {v : Value} (hm : m x = some v) (hx : C.lc x = true) : C.V m (.Name x pos) v := fun s _ F h =>
 let ⟨a, b, c⟩ := Cx.lc1 hx
 nameX_L F hm (h s.toks) a b c
theorem Cx.I.name {x : Str} {pos : Pos} {i : Int} {t : Tok} (hm : m x = some (.int i t)) (hx : C.lc x = true) : C.I m (.Name x pos) i := fun s Q F h => Cx.V.name hm hx s Q F (h t)
theorem Cx.I.const {i : Int} {k : Nat} {pos : Pos} : C.I m (.Constant (.int i) k pos) i := fun s _ _ h => wpAny_Constant_int (h _ _)
theorem Cx.I.add {x y : Expr} {i j : Int} {pos : Pos} (hx : C.I m x i) (hy : C.I m y j) : C.I m (.BinOp x .Add y pos) (i + j) := fun s _ F h =>
 wpAny_BinOp (hx s _ F fun _ _ => hy _ _ F fun _ _ => add_int (h _ _))
theorem Cx.I.sub {x y : Expr} {i j : Int} {pos : Pos} (hx : C.I m x i) (hy : C.I m y j) : C.I m (.BinOp x .Sub y pos) (i - j) := fun s _ F h =>
 wpAny_BinOp (hx s _ F fun _ _ => hy _ _ F fun _ _ => sub_int (h _ _))
theorem Cx.T.lt {x y : Expr} {i j : Int} {pos : Pos} (hx : C.I m x i) (hy : C.I m y j) (hm : behindInMarks .Lt y = false := by with_unfolding_all rfl) : C.T m (.Compare x [.Lt] [y] pos) (i < j) := by
 intro s Q F h1 h2
 refine wpAny_isTrue_Compare1 (hx s _ F fun t tk => hy _ _ F fun t' tk' => ?_) hm
 refine lt_int (wpAny_truthy_bool ?_)
 by_cases q : i < j
 ·rw [decide_eq_true q]; exact h1 q _
 ·rw [decide_eq_false q]; exact h2 q _
theorem Cx.T.gt {x y : Expr} {i j : Int} {pos : Pos} (hx : C.I m x i) (hy : C.I m y j) (hm : behindInMarks .Gt y = false := by with_unfolding_all rfl) : C.T m (.Compare x [.Gt] [y] pos) (j < i) := by
 intro s Q F h1 h2
 refine wpAny_isTrue_Compare1 (hx s _ F fun t tk => hy _ _ F fun t' tk' => ?_) hm
 refine gt_int (wpAny_truthy_bool ?_)
 by_cases q : j < i
 ·rw [decide_eq_true q]; exact h1 q _
 ·rw [decide_eq_false q]; exact h2 q _
theorem Cx.T.ge {x y : Expr} {i j : Int} {pos : Pos} (hx : C.I m x i) (hy : C.I m y j) (hm : behindInMarks .GtE y = false := by with_unfolding_all rfl) : C.T m (.Compare x [.GtE] [y] pos) (j ≤ i) := by
 intro s Q F h1 h2
 refine wpAny_isTrue_Compare1 (hx s _ F fun t tk => hy _ _ F fun t' tk' => ?_) hm
 refine ge_int (wpAny_truthy_bool ?_)
 by_cases q : j ≤ i
 ·rw [decide_eq_true q]; exact h1 q _
 ·rw [decide_eq_false q]; exact h2 q _
theorem Cx.T.eq {x y : Expr} {i j : Int} {pos : Pos} (hx : C.I m x i) (hy : C.I m y j) (hm : behindInMarks .Eq y = false := by with_unfolding_all rfl) : C.T m (.Compare x [.Eq] [y] pos) (i = j) := by
 intro s Q F h1 h2
 refine wpAny_isTrue_Compare1 (hx s _ F fun t tk => hy _ _ F fun t' tk' => ?_) hm
 refine eq_int (wpAny_truthy_bool ?_)
 by_cases q : i = j
 ·rw [beq_iff_eq.mpr q]; exact h1 q _
 ·rw [beq_eq_false_iff_ne.mpr q]; exact h2 q _
theorem Cx.T.int {x : Str} {pos : Pos} {i : Int} (hx : C.I m (.Name x pos) i) : C.T m (.Name x pos) (i ≠ 0) := fun s Q F h1 h2 =>
 isTrue_plain (hx s _ F fun t tk => truthy_int (by
  by_cases q : i = 0
  ·subst q; exact h2 (fun z => z rfl) _
  ·rw [show (i != 0) = true from bne_iff_ne.mpr q]; exact h1 q _))
theorem Cx.T.nil {pos : Pos} : C.T m (.BoolOp .And [] pos) True := fun s Q _ h1 _ => isTrue_and_nil (h1 trivial s.toks)
theorem Cx.T.and {x : Expr} {r : List Expr} {p q : Prop} {pos : Pos} (hx : C.T m x p) (hr : C.T m (.BoolOp .And r pos) q) : C.T m (.BoolOp .And (x :: r) pos) (p ∧ q) := fun s Q F h1 h2 =>
 isTrue_and (hx s _ F (fun hp tk => (if_pos rfl).mpr (hr _ _ F (fun hq tk => h1 ⟨hp, hq⟩ tk) fun hq tk => h2 (fun z => hq z.2) tk)) fun hp tk => h2 (fun z => hp z.1) tk)
theorem Cx.T.and1 {x : Expr} {p : Prop} {pos : Pos} (hx : C.T m x p) : C.T m (.BoolOp .And [x] pos) p := fun s Q F h1 h2 =>
 (Cx.T.and hx Cx.T.nil) s Q F (fun h => h1 h.1) fun h => h2 fun z => h ⟨z, trivial⟩
theorem Cx.if_ {e : Expr} {p : Prop} {b o : List Stmt} {pos : Pos} (S : C.St s₀ m N s) (T : C.T m e p) (h1 : p → ∀ s', C.St s₀ m N s' → C.Ws b Q s') (h2 : ¬p → ∀ s', C.St s₀ m N s' → C.Ws o Q s') : C.Wp (.If e b o pos) Q s :=
 wpAny_If (T s _ S.F (fun h tk => h1 h _ (S.put S.F S.N)) fun h tk => h2 h _ (S.put S.F S.N))
theorem Cx.sto {x : Str} {v : Value} {Q : Unit → Shared → Prop} (S : C.St s₀ m N s) (hx : C.lc x = true) (h : ∀ s', C.St s₀ (upd m x v) N s' → Q () s') : wpAny (model prog C.w) C.A (storeName C.env x v) Q C.E s :=
 let ⟨a, b, _⟩ := Cx.lc1 hx
 storeX_L S.F S.N (fun _ F' N' => h _ (S.put F' N')) a b
theorem Cx.asgI {x : Str} {e : Expr} {i : Int} {pos pos' : Pos} (S : C.St s₀ m N s) (H : C.I m e i) (hx : C.lc x = true) (h : ∀ t s', C.St s₀ (upd m x (.int i t)) N s' → Q .next s') (hs : swapsWith e (some (.Name x pos')) pos.line C.env = pure false := by rfl) : C.Wp (.Assign [.Name x pos'] e pos) Q s :=
 wpAny_Assign_Name (H s _ S.F fun t tk => Cx.sto (S.put S.F S.N) hx (h t)) hs
theorem Cx.asgV {x : Str} {e : Expr} {v : Value} {pos pos' : Pos} (S : C.St s₀ m N s) (H : C.V m e v) (hx : C.lc x = true) (h : ∀ s', C.St s₀ (upd m x v) N s' → Q .next s') (hs : swapsWith e (some (.Name x pos')) pos.line C.env = pure false := by rfl) : C.Wp (.Assign [.Name x pos'] e pos) Q s :=
 wpAny_Assign_Name (H s _ S.F fun tk => Cx.sto (S.put S.F S.N) hx h) hs
theorem Cx.retV {e : Expr} {v : Value} {pos : Pos} (S : C.St s₀ m N s) (H : C.V m e v) (h : ∀ s', C.St s₀ m N s' → Q (.ret v) s') : C.Wp (.Return (some e) pos) Q s :=
 wpAny_Return_some (H s _ S.F fun tk => h _ (S.put S.F S.N))
theorem Cx.asgNil {x : Str} {pos pos' pos2 : Pos} (S : C.St s₀ m N s) (hx : C.lc x = true) (h : ∀ D s', (∀ p ∈ N, p.1 < D) → C.St s₀ (upd m x (.ref D)) ((D, listOf #[] 0) :: N) s' → Q .next s') (hs : swapsWith (.List [] pos2) (some (.Name x pos')) pos.line C.env = pure false := by rfl) : C.Wp (.Assign [.Name x pos'] (.List [] pos2) pos) Q s :=
 wpAny_Assign_Name (List_ (args_nil (newList_K S.F S.N (fun l h' F' N' hl => Cx.sto (S.put F' N') hx fun s' S' => h l s' hl S') (by rw [sizeLine_eq]; exact Nat.zero_le _)))) hs
end
inductive Cx.Ex (C : Cx) (s₀ : Shared) (R : (Str → Option Value) → List (Addr × Obj) → Prop) (s : Shared) : Prop
 | mk {m : Str → Option Value} {N : List (Addr × Obj)} (S : C.St s₀ m N s) (r : R m N) : Cx.Ex C s₀ R s
inductive Cx.Tu (C : Cx) (s₀ : Shared) (J : Nat → (Str → Option Value) → List (Addr × Obj) → Prop) (n : Nat) : Flow → Shared → Prop
 | mk {s : Shared} {m : Str → Option Value} {N : List (Addr × Obj)} {n' : Nat} (S : C.St s₀ m N s) (hn : n' < n) (j : J n' m N) : Cx.Tu C s₀ J n .next s
section
variable {C : Cx} {s₀ s : Shared} {m : Str → Option Value} {N : List (Addr × Obj)} {Q : Flow → Shared → Prop}
theorem Cx.while_ {test : Expr} {body : List Stmt} {pos : Pos} (J : Nat → (Str → Option Value) → List (Addr × Obj) → Prop) (R : (Str → Option Value) → List (Addr × Obj) → Prop) {n₀ : Nat} (S : C.St s₀ m N s) (hJ : J n₀ m N)
  (turn : ∀ n m N s, C.St s₀ m N s → J n m N → C.Wt test (fun b s' => if b = true then C.Ws body (C.Tu s₀ J n) s' else C.Ex s₀ R s') s)
  (done : ∀ m N s, C.St s₀ m N s → R m N → Q .next s)
  (hE : PassesOwn (model prog C.w) C.A C.env C.E := by passes_own) : C.Wp (.While test body [] pos) Q s := by
 refine While_inv J S.F S.N hJ (fun n m₁ news₁ h₁ tk₁ F1 N1 J1 => wpAny_mono (turn n m₁ news₁ _ (S.put F1 N1) J1) (fun b s₂ h => ?_) fun _ _ e => e) hE
 cases b with
 | true =>
  simp only [if_true] at h ⊢
  refine wpAny_mono h (fun f s₃ q => ?_) fun _ _ e => e
  obtain ⟨S3, hn, j⟩ := q
  rw [show s₃ = { s with heap := s₃.heap, toks := s₃.toks } by rw [S3.e.e, S.e.e]]
  exact WhileStep.intro S3.F S3.N hn j
 | false =>
  simp only [Bool.false_eq_true, if_false] at h ⊢
  obtain ⟨S2, r⟩ := h
  exact done _ _ _ S2 r
end
end Mine
end
section
namespace Mine
noncomputable def Cx.Is (C : Cx) (m : Str → Option Value) (es : List Expr) (is : List Int) : Prop := ∀ (pos : Pos) (s : Shared) (Q : List Value → Shared → Prop), Fr C.g C.L s.heap m → (∀ vs tk, IntsAre vs is → Q vs { s with toks := tk }) → wpAny (model prog C.w) C.A (spliced (backTo pos (starEach es C.env))) Q C.E s
noncomputable abbrev tupO (vs : List Value) : Obj := { cls := .type "tuple", data := .seq vs.toArray }
theorem Upd.app {d : Addr} {o o' : Obj} {nt rest : List (Addr × Obj)} (h1 : ∀ p ∈ nt, p.1 ≠ d) (h2 : ∀ p ∈ rest, p.1 ≠ d) : Upd d o o' (nt ++ (d, o) :: rest) (nt ++ (d, o') :: rest) := by
 induction nt with
 | nil => exact .head h2
 | cons x nt ih => exact .tail (h1 x (.head _)) (ih fun p hp => h1 p (.tail _ hp))
theorem ints_cons {ws : List Value} {i : Int} {is : List Int} (h : IntsAre ws (i :: is)) : ∃ t w', ws = .int i t :: w' ∧ IntsAre w' is := by
 cases h with
 | cons _ t h => exact ⟨t, _, rfl, h⟩
theorem ints_nil {ws : List Value} (h : IntsAre ws []) : ws = [] := List.length_eq_zero_iff.mp h.length
theorem ints2 {ws : List Value} {i j : Int} (h : IntsAre ws [i, j]) : ∃ t1 t2, ws = [.int i t1, .int j t2] := by
 obtain ⟨t1, _, rfl, h1⟩ := ints_cons h
 obtain ⟨t2, _, rfl, h2⟩ := ints_cons h1
 exact ⟨t1, t2, by rw [ints_nil h2]⟩
theorem ints3 {ws : List Value} {i j k : Int} (h : IntsAre ws [i, j, k]) : ∃ t1 t2 t3, ws = [.int i t1, .int j t2, .int k t3] := by
 obtain ⟨t1, _, rfl, h1⟩ := ints_cons h
 obtain ⟨t2, t3, rfl⟩ := ints2 h1
 exact ⟨t1, t2, t3, rfl⟩
theorem ints4 {ws : List Value} {i j k l : Int} (h : IntsAre ws [i, j, k, l]) : ∃ t1 t2 t3 t4, ws = [.int i t1, .int j t2, .int k t3, .int l t4] := by
 obtain ⟨t1, _, rfl, h1⟩ := ints_cons h
 obtain ⟨t2, t3, t4, rfl⟩ := ints3 h1
 exact ⟨t1, t2, t3, t4, rfl⟩
section
variable {C : Cx} {s₀ s : Shared} {m : Str → Option Value} {N : List (Addr × Obj)} {Q : Flow → Shared → Prop}
theorem Cx.Is.nil : C.Is m [] [] := fun _ s _ _ h => args_nil (h [] s.toks .nil)
theorem Cx.Is.cons {e : Expr} {es : List Expr} {i : Int} {is : List Int} (H : C.I m e i) (R : C.Is m es is) (he : ∀ env, starEach (e :: es) env = (false, eval e env) :: starEach es env := by intro _; rfl) : C.Is m (e :: es) (i :: is) := fun pos s Q F h =>
 args_cons (H s _ F fun t tk => R pos _ _ F fun vs tk' hv => h _ _ (.cons _ _ hv)) (he _)
theorem Cx.Is.length {es : List Expr} {vs : List Value} {is : List Int} (h : IntsAre vs is) : vs.length = is.length := h.length
theorem app_call {its : Array Value} {n a : Nat} {v : Value} {N' : List (Addr × Obj)} {Q : Value → Shared → Prop} (S : C.St s₀ m N s) (U : Upd a (listOf its n) (listOf (its.push v) (n + 1)) N N') (hz : its.size ≤ sizeLine) (h : ∀ s', C.St s₀ m N' s' → Q .none s') : wpAny (model prog C.w) C.A (call (.builtin "list.append") [.ref a, v]) Q C.E s :=
 append_K S.F S.N U (fun h' F' N' => h _ (S.put F' N')) hz
theorem Upd.mem {d : Addr} {o o' : Obj} {l l' : List (Addr × Obj)} (U : Upd d o o' l l') : (d, o) ∈ l := by
 induction U with
 | head => exact .head _
 | tail _ _ ih => exact .tail _ ih
noncomputable def Cx.Es (C : Cx) (m : Str → Option Value) (es : List Expr) (P : List Value → Prop) : Prop := ∀ (pos : Pos) (s : Shared) (Q : List Value → Shared → Prop), Fr C.g C.L s.heap m → (∀ vs tk, P vs → Q vs { s with toks := tk }) → wpAny (model prog C.w) C.A (spliced (backTo pos (starEach es C.env))) Q C.E s
theorem Cx.Es.nil : C.Es m [] (· = []) := fun _ s _ _ h => args_nil (h [] s.toks rfl)
theorem Cx.Es.cons {e : Expr} {es : List Expr} {v : Value} {r : List Value} (H : C.V m e v) (R : C.Es m es (· = r)) (he : ∀ env, starEach (e :: es) env = (false, eval e env) :: starEach es env := by intro _; rfl) : C.Es m (e :: es) (· = v :: r) := fun pos s Q F h =>
 args_cons (H s _ F fun tk => R pos _ _ F fun vs tk' hv => h _ _ (congrArg (v :: ·) hv)) (he _)
theorem Cx.Es.str {x : Str} {k : Nat} {p : Pos} {es : List Expr} {r : List Value} (R : C.Es m es (· = r)) : C.Es m (.Constant (.str x) k p :: es) (fun vs => ∃ t, vs = .str x t :: r) := fun pos s Q F h =>
 args_cons (Constant_str (R pos _ _ F fun vs tk' hv => h _ _ ⟨_, congrArg (_ :: ·) hv⟩)) rfl
theorem Cx.app_tupE {P : List Value → Prop} {x : Str} {a n k : Nat} {its : Array Value} {es : List Expr} {p1 p2 p3 p4 p5 : Pos} {pl : Sem Bool} {N1 : Value → List (Addr × Obj)} (S : C.St s₀ m N s) (hm : m x = some (.ref a)) (H : C.Es m es P)
  (U : ∀ v, Upd a (listOf its n) (listOf (its.push v) (n + 1)) N (N1 v)) (hz : its.size ≤ sizeLine) (hl : ∀ vs, P vs → vs.length ≤ 5)
  (h : ∀ D vs s', P vs → (∀ p ∈ N, @LT.lt Nat _ p.1 D) → C.St s₀ m ((D, tupO vs) :: N1 (.ref D)) s' → Q .next s') (hx : C.lc x = true := by rfl)
  (hs : swapsWith (.Call (.Attribute (.Name x p1) (Str.ofString "append") p2) [.Tuple es k p3] [] p4) none p5.line C.env = pure false := by rfl)
  (hi : interactive C.env = false := by rfl)
  (he : eval (.Call (.Attribute (.Name x p1) (Str.ofString "append") p2) [.Tuple es k p3] [] p4) C.env = (do
   let ov ← eval (.Name x p1) C.env
   standAt p2.atName
   let (f, first) ← holding [ov] (getMethod ov (Str.ofString "append") pl)
   callWith p4 f first (backTo p4 (starEach [.Tuple es k p3] C.env)) []) := by rfl) :
  C.Wp (.Expr (.Call (.Attribute (.Name x p1) (Str.ofString "append") p2) [.Tuple es k p3] [] p4) p5) Q s := by
 refine wpAny_Expr_any (MethodCall_ (Cx.V.name hm hx _ _ S.F fun tk => ?_) he) hi hs
 have Sm := Upd.mem (U .none)
 have hat : @LT.lt Nat _ a s.heap.objs.size := Heap.lt_size (S.N _ Sm).1
 refine listMethod_K S.N Sm PySem.F.slot_list_append PySem.F.type_list_append (callWith_method1 (args_cons (Tuple_ (H _ _ _ S.F fun vs tk' hv => kup_newTuple S.F S.N (fun D h' F' N' hD => args_nil ?_) ?_))))
 ·have hne : D ≠ a := fun e => Nat.lt_irrefl _ (e ▸ hD _ Sm)
  exact app_call (S.put F' N') (.tail hne (U _)) hz fun s' S' => h D vs s' hv hD S'
 ·have := hl _ hv
  rw [sizeLine_eq]; lia
theorem Cx.app_tup {x : Str} {a n k : Nat} {its : Array Value} {es : List Expr} {is : List Int} {p1 p2 p3 p4 p5 : Pos} {pl : Sem Bool} {N1 : Value → List (Addr × Obj)} (S : C.St s₀ m N s) (hm : m x = some (.ref a)) (H : C.Is m es is)
  (U : ∀ v, Upd a (listOf its n) (listOf (its.push v) (n + 1)) N (N1 v)) (hz : its.size ≤ sizeLine) (hl : is.length ≤ 5)
  (h : ∀ D vs s', IntsAre vs is → (∀ p ∈ N, @LT.lt Nat _ p.1 D) → C.St s₀ m ((D, tupO vs) :: N1 (.ref D)) s' → Q .next s') (hx : C.lc x = true := by rfl)
  (hs : swapsWith (.Call (.Attribute (.Name x p1) (Str.ofString "append") p2) [.Tuple es k p3] [] p4) none p5.line C.env = pure false := by rfl)
  (hi : interactive C.env = false := by rfl)
  (he : eval (.Call (.Attribute (.Name x p1) (Str.ofString "append") p2) [.Tuple es k p3] [] p4) C.env = (do
   let ov ← eval (.Name x p1) C.env
   standAt p2.atName
   let (f, first) ← holding [ov] (getMethod ov (Str.ofString "append") pl)
   callWith p4 f first (backTo p4 (starEach [.Tuple es k p3] C.env)) []) := by rfl) :
  C.Wp (.Expr (.Call (.Attribute (.Name x p1) (Str.ofString "append") p2) [.Tuple es k p3] [] p4) p5) Q s :=
 Cx.app_tupE (P := fun vs => IntsAre vs is) S hm H U hz (fun vs h => h.length ▸ hl) h hx hs hi he
theorem Cx.app_ref {x y : Str} {a n : Nat} {v : Value} {its : Array Value} {p1 p2 p3 p4 p5 : Pos} {pl : Sem Bool} {N1 : List (Addr × Obj)} (S : C.St s₀ m N s) (hm : m x = some (.ref a)) (hy : m y = some v)
  (U : Upd a (listOf its n) (listOf (its.push v) (n + 1)) N N1) (hz : its.size ≤ sizeLine)
  (h : ∀ s', C.St s₀ m N1 s' → Q .next s') (hx : C.lc x = true := by rfl) (hx2 : C.lc y = true := by rfl)
  (hs : swapsWith (.Call (.Attribute (.Name x p1) (Str.ofString "append") p2) [.Name y p3] [] p4) none p5.line C.env = pure false := by rfl)
  (hi : interactive C.env = false := by rfl)
  (he : eval (.Call (.Attribute (.Name x p1) (Str.ofString "append") p2) [.Name y p3] [] p4) C.env = (do
   let ov ← eval (.Name x p1) C.env
   standAt p2.atName
   let (f, first) ← holding [ov] (getMethod ov (Str.ofString "append") pl)
   callWith p4 f first (backTo p4 (starEach [.Name y p3] C.env)) []) := by rfl) :
  C.Wp (.Expr (.Call (.Attribute (.Name x p1) (Str.ofString "append") p2) [.Name y p3] [] p4) p5) Q s := by
 refine wpAny_Expr_any (MethodCall_ (Cx.V.name hm hx _ _ S.F fun tk => ?_) he) hi hs
 exact listMethod_K S.N (Upd.mem U) PySem.F.slot_list_append PySem.F.type_list_append (callWith_method1 (args_cons (Cx.V.name hy hx2 _ _ S.F fun tk' => args_nil (app_call (S.put S.F S.N) U hz h))))
noncomputable def upds : List (Str × Value) → (Str → Option Value) → Str → Option Value
 | [], m => m
 | p :: r, m => upds r (upd m p.1 p.2)
theorem sto_all {xs : List Str} : ∀ {vs : List Value} {m : Str → Option Value} {s : Shared} {Q : Unit → Shared → Prop}, C.St s₀ m N s → xs.length = vs.length → (xs.all C.lc) = true → (∀ s', C.St s₀ (upds (xs.zip vs) m) N s' → Q () s') →
  wpAny (model prog C.w) C.A (assignInOrder (xs.map fun n => bindName C.env n) vs) Q C.E s := by
 induction xs with
 | nil =>
  intro vs m s Q S hl hx h
  have e : vs = [] := List.length_eq_zero_iff.mp hl.symm
  subst e
  exact assignInOrder_nil (h _ S)
 | cons x xs ih =>
  intro vs m s Q S hl hx h
  cases vs with
  | nil => cases hl
  | cons v vs =>
   rw [List.all_cons, Bool.and_eq_true] at hx
   rw [List.map_cons]
   refine assignInOrder_cons (bindName_ (Cx.sto S hx.1 fun s' S' => ?_))
   exact ih S' (Nat.succ.inj hl) hx.2 h
theorem Cx.asgT {elts es : List Expr} {is : List Int} {names : List Str} {k k2 : Nat} {tpos p2 pos : Pos} (S : C.St s₀ m N s) (H : C.Is m es is) (hh : C.A.handled = none) (hn : names.length = is.length) (hl : is.length ≤ 5) (hx : (names.reverse.all C.lc) = true)
  (h : ∀ D vs s', IntsAre vs is → (∀ p ∈ N, @LT.lt Nat _ p.1 D) → C.St s₀ (upds (names.reverse.zip vs.reverse) m) ((D, tupO vs) :: N) s' → Q .next s')
  (hs : swapsWithSole [.Tuple elts k tpos] (.Tuple es k2 p2) pos.line C.env = pure false := by rfl)
  (hw : swappedStores [.Tuple elts k tpos] (.Tuple es k2 p2) C.env = pure (some names) := by rfl) :
  C.Wp (.Assign [.Tuple elts k tpos] (.Tuple es k2 p2) pos) Q s := by
 refine Assign_Tuple_swapped (Tuple_ (H _ _ _ S.F fun vs tk' hv => kup_newTuple S.F S.N (fun D h' F' N' hD => ?_) ?_)) hs hw
 ·have hvl := hv.length
  refine unpackItemsN_ F' N' (N'.isTup (.head _)) hh (by rw [hn, List.size_toArray, hvl]) fun h2 F2 N2 => ?_
  exact sto_all (S.put F2 N2) (by rw [List.length_reverse, List.length_reverse, hn, hvl]) hx fun s' S' => h D vs s' hv hD S'
 ·rw [hv.length, sizeLine_eq]; lia
end
end Mine
end
section
namespace Mine
theorem mc_check (P : Params) (D : Nat) : peek (KN P) ⟨prog, P⟩ (checkBuiltinCall "tuple.__new__" ⟨[.ref 163, .ref D], []⟩) = some () := by kernel_rfl
theorem mc_type (P : Params) : peek (KN P) ⟨prog, P⟩ (isType (.ref 163)) = some true := by kernel_rfl
theorem mc_sub (P : Params) : peek (KN P) ⟨prog, P⟩ (isSubtype (.ref 163) (.type "tuple")) = some true := by kernel_rfl
theorem mc_made (P : Params) : peek (KN P) ⟨prog, P⟩ (Bind.madeHere "tuple.__new__" (.ref 163)) = some () := by kernel_rfl
theorem mc_init (P : Params) : peek (KN P) ⟨prog, P⟩ (typeLookup (.ref 163) "__init__") = some (some (.builtin "object.__init__")) := by kernel_rfl
theorem mc_cls (P : Params) : ∃ oc od cd sl, (KN P).lookup 163 = some ⟨oc, od, .cls cd, sl⟩ ∧ cd.hasDel = false := ⟨_, _, _, _, rfl, rfl⟩
noncomputable abbrev matchObj (dx : Addr) (items : Array Value) (n : Nat) : Obj := { cls := .ref 163, dict := some dx, data := .seq items n }
section
variable {w : World} {A : Around} {E : Value → Shared → Prop} {s : Shared} {h₀ : Heap} {L : Addr} {m : Str → Option Value} {news : List (Addr × Obj)}
theorem tnew_run {D : Nat} {items : Array Value} {P : PySem.Fin → Shared → Prop} (X : (KN w.params).In s.heap) (ht : s.heap.IsTuple D items) (hz : items.size ≤ sizeLine)
  (h : ∀ h' : Heap, (∀ b o', s.heap.get? b = some o' → h'.get? b = some o') → P (.done (.ret (.ref (h'.objs.size + 1)))) { s with heap := (h'.push emptyDict).push (matchObj h'.objs.size items 0) }) :
  wpAny (model prog w) A (Builtin.«tuple.__new__» ⟨[.ref 163, .ref D], []⟩) P E s := by
 obtain ⟨o, ho, hc, n, hd⟩ := ht
 obtain ⟨hp, g, d, tk, os⟩ := s
 have l1 : Looks (model prog w) hp (isType (.ref 163)) true := Looks.of_peek X (mc_type w.params)
 have l2 : Looks (model prog w) hp (isSubtype (.ref 163) (.type "tuple")) true := Looks.of_peek X (mc_sub w.params)
 have l3 : Looks (model prog w) hp (Bind.madeHere "tuple.__new__" (.ref 163)) () := Looks.of_peek X (mc_made w.params)
 have l4 : Looks (model prog w) hp (typeLookup (.ref 163) "__init__") (some (.builtin "object.__init__")) := Looks.of_peek X (mc_init w.params)
 unfold Builtin.«tuple.__new__»
 refine wpAny_bind (l1.at ?_)
 rw [if_neg (by decide)]
 refine wpAny_bind (l2.at ?_)
 rw [if_neg (by decide)]
 dsimp only
 refine wpAny_bind (l3.at (wpAny_bind (l4.at ?_)))
 rw [if_pos (by decide +kernel)]
 refine wpAny_bind (wpAny_of_eq (a := ()) (by rfl) (wpAny_bind (wpAny_of_eq (a := ()) (by rfl) ?_)))
 rw [if_neg (by decide)]
 refine wpAny_bind (wpAny_collect_seq (hsz := hz) D (.inr rfl) ho hc hd fun h' hk => wpAny_bind (wpAny_pure (wpAny_bind (wpAny_alloc (wpAny_bind ?_)))))
 unfold newObj
 dsimp only
 have e : items.toList.toArray = items := by simp
 rw [e, if_neg (by lia)]
 have hX := X.keeps hk
 have hsz : (h'.push emptyDict).objs.size = h'.objs.size + 1 := by rw [Heap.size_push]
 obtain ⟨oc, od, cd, sl, hC, hdel⟩ := mc_cls w.params
 have hC1 := X _ _ hC
 unfold newObjAsIs classHasDel
 refine wpAny_bind (wpAny_bind (wpAny_alloc (nd_pure ?_)))
 dsimp only
 have hC2 : ((h'.push emptyDict).push (matchObj h'.objs.size items 0)).get? 163 = some ⟨oc, od, .cls cd, sl⟩ := Heap.get?_push_of_some _ (Heap.get?_push_of_some _ (hk _ _ hC1))
 refine wpAny_bind (wpAny_bind (wpAny_load (s := { heap := (h'.push emptyDict).push (matchObj h'.objs.size items 0), gens := g, drawn := d, toks := tk, os := os }) hC2 (wpAny_pure ?_)))
 rw [hdel]
 have z := h h' hk
 rw [← hsz] at z
 exact wpAny_pure (wpAny_pure z)
theorem tn_entry : entryFor table "tuple.__new__" = some Builtin.«tuple.__new__» := F.entry_tuple_new
theorem tn_plain : plainId "tuple.__new__" = true := by decide +kernel
theorem tnew_call {D : Nat} {items : Array Value} {Q : Value → Shared → Prop} (F : Fr h₀ L s.heap m) (N : News h₀ L s.heap news) (X : (KN w.params).In h₀) (ht : s.heap.IsTuple D items) (hz : items.size ≤ sizeLine)
  (h : ∀ x dx h', Fr h₀ L h' m → News h₀ L h' ((x, matchObj dx items 0) :: (dx, emptyDict) :: news) → (∀ p ∈ news, p.1 < dx) → dx < x → Q (.ref x) { s with heap := h' }) :
  wpAny (model prog w) A (call (.builtin "tuple.__new__") [.ref 163, .ref D]) Q E s := by
 have X' := X.keeps F.keep
 refine wpAny_call (codeAny_call_builtin tn_plain tn_entry ((Looks.of_peek X' (mc_check w.params D)).here (tnew_run X' ht hz fun h' hk => ?_)))
 have F' := F.keeps hk
 have N' := News.push F' (News.grown N hk) emptyDict
 have N2 := News.push (F'.push _) N' (matchObj h'.objs.size items 0)
 rw [Heap.size_push] at N2
 have lt : ∀ p ∈ news, p.1 < h'.objs.size := fun p hp => Heap.lt_size (hk _ _ (N p hp).1)
 exact h _ h'.objs.size _ ((F'.push _).push _) N2 lt (Nat.lt_succ_self _)
end
end Mine
end
section
theorem Mine.wlMtr : True := by
 k_with_none
 trivial
namespace Mine
theorem tuple_of {s : Shared} {h₀ : Heap} {L : Addr} {news : List (Addr × Obj)} {D n : Nat} {items : Array Value} (N : News h₀ L s.heap news) (hm : (D, { cls := .type "tuple", data := .seq items n }) ∈ news) : s.heap.IsTuple D items := ⟨_, (N _ hm).1, rfl, n, rfl⟩
theorem wlMt0 : True := by
 k_with_none
 k_with "getMethod type:tuple" => (k_here; (refine' method_type (v := PySem.Value.builtin "tuple.__new__") ?F ?X ?ht ?hs ?e ?hh ?_; (case F => assumption); (case X => assumption); (case ht => kernel_rfl); (case hs => decide +kernel); (case e => kernel_rfl); (case hh => kernel_rfl); k_whole))
 k_with "call builtin:tuple.__new__" => (k_here; (refine' tnew_call ?F ?N ?X (tuple_of ?N2 ?m) ?z ?_; (case F => assumption); (case N => assumption); (case X => assumption); (case N2 => assumption); (case m => k_mem); (case z => (rw [sizeLine_eq]; exact Nat.le_of_ble_eq_true rfl)); k_whole); intro _ _ _ _ _ _ _)
 trivial
theorem mtnew (w : World) (i j k : Int) (t1 t2 t3 : Tok) :
  CallSpec w 360 (.ref 110) [.ref 163, .int i t1, .int j t2, .int k t3] [] (fun _ => True)
   (fun r pass' => ∃ x dx, r = .ref x ∧ pass' = [(x, matchObj dx #[.int i t1, .int j t2, .int k t3] 0), (dx, emptyDict)] ∧ @LT.lt Nat _ dx x) := by
 unfold CallSpec prog
 k_fill
 intro mg mb s g Q E X T hpre st sz N hret
 refine' enter_def (binds := [(Str.ofString "_cls", .ref 163), (Str.ofString "a", .int i t1), (Str.ofString "b", .int j t2), (Str.ofString "size", .int k t3)]) X T st sz N ?ho ?hcd ?hroom ?hb ?hl ?_ ?hc ?h1 ?h2 ?h3
 case ho => (refine' st _ _ (X _ _ ?e); (case e => k_is))
 case hcd => exact codeRec_of (Frag.In.keeps X st) (by k_is)
 case hroom => decide
 case hb => first | exact BindsTo.of_eq rfl | exact binds_K (Frag.In.keeps X st) rfl (by k_is) rfl rfl rfl
 case hl => exact locs rfl
 case hc => decide
 case h1 => exact rfl
 case h2 => exact rfl
 case h3 => exact rfl
 k_whole
 intro L' h' F' N' hL'
 clear N
 k_steps
 rename Fr _ _ _ _ => F
 rename News _ _ _ _ => N
 rename @LT.lt Nat _ _ _ => l2
 exact hret _ [_, _] _ _ (Fr.keep F) (fun p hp => ⟨(N p (List.mem_append_left (bs := [_]) hp)).1, (N p (List.mem_append_left (bs := [_]) hp)).2.2⟩) ⟨_, _, rfl, rfl, l2⟩
section
variable {w : World} {A : Around} {E : Value → Shared → Prop} {s : Shared} {h₀ : Heap} {L : Addr} {m : Str → Option Value} {news : List (Addr × Obj)}
theorem ml_len (P : Params) : peek (KN P) ⟨prog, P⟩ (typeLookup (.ref 163) "__len__") = some (some (.builtin "tuple.__len__")) := by kernel_rfl
theorem ml_call (P : Params) : peek (KN P) ⟨prog, P⟩ (specialOf (.ref 163) "__call__") = some (some (.builtin "type.__call__")) := by kernel_rfl
theorem ml_isinst (P : Params) : peek (KN P) ⟨prog, P⟩ (isInstance (.ref 163) (.type "type")) = some true := by kernel_rfl
theorem ml_mro (P : Params) : peek (KN P) ⟨prog, P⟩ (mroOf (.ref 163)) = some [.ref 163, .type "tuple", .type "object"] := by kernel_rfl
theorem ml_madeBy (P : Params) : peek (KN P) ⟨prog, P⟩ (Bind.madeBy (.ref 163)) = some none := by kernel_rfl
theorem ml_self (P : Params) : peek (KN P) ⟨prog, P⟩ (isSubtype (.ref 163) (.ref 163)) = some true := by kernel_rfl
theorem m_type {h : Heap} {x dx n : Nat} {items : Array Value} (hx : h.get? x = some (matchObj dx items n)) : Looks (model prog w) h (typeOf (.ref x)) (.ref 163) := (Looks.ld hx).andThen .now
theorem m_special {h : Heap} {x dx n : Nat} {items : Array Value} {name : Str} {r : Option Value} (X : (KN w.params).In h) (hx : h.get? x = some (matchObj dx items n)) (e : peek (KN w.params) ⟨prog, w.params⟩ (typeLookup (.ref 163) name) = some r) : Looks (model prog w) h (specialOf (.ref x) name) r := by
 unfold specialOf
 exact (m_type hx).andThen (Looks.of_peek X e)
theorem m_inst {h : Heap} {x dx n : Nat} {items : Array Value} (X : (KN w.params).In h) (hx : h.get? x = some (matchObj dx items n)) : Looks (model prog w) h (isInstance (.ref x) (.type "tuple")) true := by
 unfold isInstance
 exact (m_type hx).andThen (Looks.of_peek X (mc_sub w.params))
theorem m_items {x dx n : Nat} {items : Array Value} {Q : Array Value → Shared → Prop} (hx : s.heap.get? x = some (matchObj dx items n)) (h : Q items s) : wpAny (model prog w) A (Builtin.Tuple.tupleItemsOf (.ref x)) Q E s := by
 unfold Builtin.Tuple.tupleItemsOf seqItems?
 refine wpAny_bind (wpAny_bind (wpAny_load hx ?_))
 exact wpAny_pure (wpAny_pure h)
theorem m_call {id n : String} {b : Builtin} {x dx k : Nat} {items : Array Value} {rest : List Value} {Q : Value → Shared → Prop} (X : (KN w.params).In s.heap) (hx : s.heap.get? x = some (matchObj dx items k)) (hp : plainId id = true) (hb : entryFor table id = some b) (hk : builtinKind id = some .slot) (hs : splitId id = some ("tuple", n)) (ha : argsOk id ⟨.ref x :: rest, []⟩)
  (hc : wpAny (model prog w) A.in1 (b ⟨.ref x :: rest, []⟩) (fun fin s' => ∃ v, fin = .done (.ret v) ∧ Q v s') E s) : wpAny (model prog w) A (call (.builtin id) (.ref x :: rest)) Q E s := by
 refine wpAny_call (codeAny_call_builtin hp hb (check_slot hk hs (m_inst X hx) ha (wpAny_mono hc (fun fin s' h' => ?_) fun _ _ h' => h')))
 obtain ⟨v, rfl, hv⟩ := h'; exact hv
theorem m_callSpecial {name : Str} {id : String} {x dx k : Nat} {items : Array Value} {args : List Value} {Q : Option Value → Shared → Prop} (X : (KN w.params).In s.heap) (hx : s.heap.get? x = some (matchObj dx items k)) (e : peek (KN w.params) ⟨prog, w.params⟩ (typeLookup (.ref 163) name) = some (some (.builtin id))) (h : Slot "tuple" name id)
  (hc : wpAny (model prog w) A (call (.builtin id) (.ref x :: args)) (fun v => Q (some v)) E s) : wpAny (model prog w) A (callSpecial? (.ref x) name args) Q E s := by
 simp only [callSpecial?]
 refine wpAny_bind ((m_special X hx e).here ?_)
 simp only [h.bind]
 exact wpAny_holding (wpAny_bind (wpAny_pure (wpAny_bind (wpAny_mono hc (fun v s' h' => wpAny_pure h') fun _ _ h' => h'))))
theorem mk_len : builtinKind "tuple.__len__" = some .slot := by decide +kernel
theorem ms_len : splitId "tuple.__len__" = some ("tuple", "__len__") := by decide +kernel
theorem len_match {x dx n : Nat} {items : Array Value} {Q : Value → Shared → Prop} (X : (KN w.params).In s.heap) (hx : s.heap.get? x = some (matchObj dx items n)) (hfit : (items.size : Int) < 2 ^ 63)
  (h : Q (.int items.size (s.toks + 1)) { s with toks := s.toks + 1 + 1 }) : wpAny (model prog w) A (call (.builtin "len") [.ref x]) Q E s := by
 refine Calls.call_function_entry kind_len plain_len entry_len (args_len1 _) ?_
 unfold Builtin.«len»
 refine wpAny_bind (m := oneArg "len" _) (wpAny_pure ?_)
 refine wpAny_bind (m := callSpecial? (.ref x) (Str.ofString "__len__")) (m_callSpecial X hx (ml_len w.params) slot_tuple_len (m_call X hx slot_tuple_len.plain entry_tuple_len mk_len ms_len (args_tuple_len _) ?_))
 show wpAny _ _ (do retInt (← Builtin.Tuple.tupleItemsOf (.ref x)).size) _ _ s
 refine wpAny_bind (m_items hx ?_)
 refine wpAny_bind (wpAny_mkInt (wpAny_pure ⟨_, rfl, ?_⟩))
 refine wpAny_bind (wpAny_holding (wpAny_pure ?_))
 refine wpAny_bind (wpAny_letGo ?_)
 show wpAny _ _ (if ((items.size : Nat) : Int) < 0 then _ else _) _ _ _
 rw [if_neg (by lia)]
 show wpAny _ _ (if ((items.size : Nat) : Int) ≥ 2 ^ 63 then _ else _) _ _ _
 rw [if_neg (by lia)]
 exact wpAny_bind (wpAny_mkInt (wpAny_pure ⟨_, rfl, h⟩))
end
end Mine
end
section
namespace Mine
section
variable {w : World} {A : Around} {E : Value → Shared → Prop} {s : Shared} {h₀ : Heap} {L : Addr} {m : Str → Option Value} {news : List (Addr × Obj)} {mg mb : Str → Option Value}
theorem ml_init (P : Params) : peek (KN P) ⟨prog, P⟩ (typeLookup (.ref 163) "__init__") = some (some (.builtin "object.__init__")) := mc_init P
theorem mu_dep {A : Around} {i : String} {args : Args} (hp : (Code.builtin i args).weight ≤ 10) (hu : (Code.builtin i args).cUnits ≤ 100) : (A.under (.builtin i args)).depth ≤ A.depth + 10 ∧ (A.under (.builtin i args)).units ≤ A.units + 100 ∧ (A.under (.builtin i args)).handled = A.handled := by
 obtain ⟨hd, d, fr, gs, u⟩ := A
 unfold Around.under
 exact ⟨by dsimp only; lia, by dsimp only; lia, rfl⟩
theorem mu_find (P : Params) : findCls (KN P) (.ref 163) (.type "type") "__new__" = some (.get (.builtin "staticmethod.__get__") (.ref 164) .none (.ref 163)) := by kernel_rfl
theorem mu_rec (P : Params) : recIn (KN P) 164 "staticmethod" = some (.ref 110 :: []) := by kernel_rfl
theorem mu_obj (P : Params) : peek (KN P) ⟨prog, P⟩ (isSubtype (.ref 163) (.type "object")) = some true := by kernel_rfl
theorem mu_args (a b c d : Value) : argsOk "object.__init__" ⟨[a, b, c, d], []⟩ := by unfold argsOk; kernel_rfl
theorem match_call {i j k : Int} {t1 t2 t3 : Tok} {Q : Value → Shared → Prop} (F : Fr h₀ L s.heap m) (N : News h₀ L s.heap news) (X : (KN w.params).In h₀) (T : TR mg mb h₀) (hh : A.handled = none) (hd : A.depth ≤ 345) (hu : A.units ≤ 3450)
  (h : ∀ x dx h' tk, Fr h₀ L h' m → News h₀ L h' ((x, matchObj dx #[.int i t1, .int j t2, .int k t3] 0) :: (dx, emptyDict) :: news) → (∀ p ∈ news, p.1 ≠ x ∧ p.1 ≠ dx) → @LT.lt Nat _ dx x → Q (.ref x) { s with heap := h', toks := tk }) :
  wpAny (model prog w) A (call (.ref 163) [.int i t1, .int j t2, .int k t3]) Q E s := by
 have X' := X.keeps F.keep
 obtain ⟨hp, g, d, t, os⟩ := s
 obtain ⟨oc, od, cd, sl, hC, hdel⟩ := mc_cls w.params
 have hC := X' _ _ hC
 have lcall : Looks (model prog w) hp (specialOf (.ref 163) "__call__") (some (.builtin "type.__call__")) := Looks.of_peek X' (ml_call w.params)
 have ltyp : Looks (model prog w) hp (isInstance (.ref 163) (.type "type")) true := Looks.of_peek X' (ml_isinst w.params)
 have lmro : Looks (model prog w) hp (mroOf (.ref 163)) [.ref 163, .type "tuple", .type "object"] := Looks.of_peek X' (ml_mro w.params)
 have lmade : Looks (model prog w) hp (Bind.madeBy (.ref 163)) none := Looks.of_peek X' (ml_madeBy w.params)
 refine wpAny_call (codeAny_of_tree ?_)
 show wpAny _ _ (callAny (.ref 163) _) _ _ _
 refine nd_load hC ?_
 show wpAny _ _ (callAny.viaDunder (.ref 163) _) _ _ _
 unfold callAny.viaDunder
 refine wpAny_bind (lcall.at ?_)
 dsimp only
 rw [tc_bind]
 refine wpAny_bind (wpAny_pure (wpAny_bind (wpAny_pure ?_)))
 refine wpAny_pure (a := Fin.again (.call (.builtin "type.__call__") ⟨[.ref 163, .int i t1, .int j t2, .int k t3], []⟩)) (And.intro rfl ?_)
 refine codeAny_call_builtin_at (Code.quiet_builtin _ (by decide +kernel)) entry_typeCall (check_slot tc_kind tc_split ltyp (tc_args _ _ _) ?_)
 obtain ⟨e1, e2, e3⟩ := mu_dep (A := A) (i := "type.__call__") (args := ⟨[.ref 163, .int i t1, .int j t2, .int k t3], []⟩) (Nat.le_of_ble_eq_true (by kernel_rfl)) (Nat.le_of_ble_eq_true (by kernel_rfl))
 generalize A.under (.builtin "type.__call__" ⟨[.ref 163, .int i t1, .int j t2, .int k t3], []⟩) = A2 at e1 e2 e3
 unfold Builtin.«type.__call__»
 dsimp only
 rw [if_neg (by decide)]
 refine wpAny_bind (lmro.at ?_)
 rw [if_neg (by decide)]
 refine wpAny_bind (lmade.at ?_)
 dsimp only
 refine wpAny_bind (cls_sm (K := KN w.params) (m := m) (mc := .type "type") F X (by kernel_rfl) (by kernel_rfl) (mu_find w.params) (mu_rec w.params) rfl ?_)
 refine wpAny_bind (wpAny_holding ?_)
 refine use_spec (pass := []) (keep := news) (mtnew w i j k t1 t2 t3) (s := ⟨hp, g, d, t + 1, os⟩) (m := m) F N X T (fun _ h => (nomatch h)) (fun _ _ _ => trivial) (e3.trans hh) (by lia) (by lia) ?_
 rintro r pass' h2 tk F2 N2 hoff ⟨x, dx, rfl, rfl, hlt⟩
 have X2 := X.keeps F2.keep
 have hx : h2.get? x = some (matchObj dx #[.int i t1, .int j t2, .int k t3] 0) := (N2 _ (.head _)).1
 have ty := m_type (w := w) hx
 have lself : Looks (model prog w) h2 (isInstance (.ref x) (.ref 163)) true := by
  unfold isInstance
  exact ty.andThen (Looks.of_peek X2 (ml_self w.params))
 have linit : Looks (model prog w) h2 (typeLookup (.ref 163) "__init__") (some (.builtin "object.__init__")) := Looks.of_peek X2 (ml_init w.params)
 have lspec : Looks (model prog w) h2 (specialOf (.ref x) "__init__") (some (.builtin "object.__init__")) := m_special X2 hx (ml_init w.params)
 have lobj : Looks (model prog w) h2 (isInstance (.ref x) (.type "object")) true := by
  unfold isInstance
  exact ty.andThen (Looks.of_peek X2 (mu_obj w.params))
 have lmade2 : Looks (model prog w) h2 (Bind.madeBy (.ref 163)) none := Looks.of_peek X2 (ml_madeBy w.params)
 refine wpAny_bind (lself.at ?_)
 rw [if_neg (by decide)]
 refine wpAny_bind (wpAny_holding ?_)
 unfold callSpecial?
 refine wpAny_bind (lspec.at ?_)
 dsimp only
 rw [oi_bind]
 refine wpAny_holding (wpAny_bind (wpAny_pure (wpAny_bind ?_)))
 show wpAny _ _ (call (.builtin "object.__init__") [.ref x, .int i t1, .int j t2, .int k t3]) _ _ _
 refine wpAny_call (codeAny_call_builtin oi_plain entry_oi ?_)
 refine @check_slot (model prog w) _ _ _ "object.__init__" "object" "__init__" (.ref x) [.int i t1, .int j t2, .int k t3] [] _ oi_kind oi_split lobj (mu_args _ _ _ _) ?_
 unfold Builtin.«object.__init__»
 dsimp only
 refine KFB.if_so rfl ?_
 refine wpAny_bind (ty.at (wpAny_bind (linit.at ?_)))
 dsimp only
 refine wpAny_bind (lmade2.at ?_)
 refine KFB.if_not (by decide +kernel) ?_
 refine KFB.if_not (by decide +kernel) ?_
 refine wpAny_pure ?_
 refine wpAny_pure ?_
 refine KFB.if_not rfl ?_
 refine wpAny_pure ?_
 refine h x dx h2 tk F2 (by simpa using N2) (fun p hp => ⟨?_, ?_⟩) hlt
 ·exact fun e => hoff _ (.head _) p hp e.symm
 ·exact fun e => hoff _ (.tail _ (.head _)) p hp e.symm
end
end Mine
end
section
theorem Mine.wlMvr : True := by
 k_with_none
 trivial
namespace Mine
theorem tup_keep {h₀ h : Heap} {L : Addr} {m : Str → Option Value} {D : Nat} {items : Array Value} (F : Fr h₀ L h m) (ht : h₀.IsTuple D items) : h.IsTuple D items := ht.at fun o e => F.keep _ _ e
theorem wlMv0 : True := by
 k_with_none
 k_with "getMethod type:tuple" => (k_here; (refine' method_type (v := PySem.Value.builtin "tuple.__new__") ?F ?X ?ht ?hs ?e ?hh ?_; (case F => assumption); (case X => assumption); (case ht => kernel_rfl); (case hs => decide +kernel); (case e => kernel_rfl); (case hh => kernel_rfl); k_whole))
 k_with "call builtin:tuple.__new__" => (k_here; (refine' tnew_call ?F ?N ?X (tup_keep ?F2 ?m) ?z ?_; (case F => assumption); (case N => first | assumption | exact News.nil); (case X => assumption); (case F2 => assumption); (case m => assumption); (case z => (rw [sizeLine_eq]; exact Nat.le_of_ble_eq_true rfl)); k_whole); intro _ _ _ _ _ _ _)
 trivial
theorem len_matchN {w : World} {A : Around} {E : Value → Shared → Prop} {s : Shared} {h₀ : Heap} {L : Addr} {m : Str → Option Value} {news : List (Addr × Obj)} {x dx n : Nat} {items : Array Value} {Q : Value → Shared → Prop} (F : Fr h₀ L s.heap m) (N : News h₀ L s.heap news) (X : (KN w.params).In h₀) (hm : (x, matchObj dx items n) ∈ news) (hfit : (items.size : Int) < 2 ^ 63)
  (h : ∀ t tk, Q (.int items.size t) { s with toks := tk }) : wpAny (model prog w) A (call (.builtin "len") [.ref x]) Q E s := len_match (X.keeps F.keep) (N _ hm).1 hfit (h _ _)
theorem wlMv1 : True := by
 k_with "call builtin:len" => (k_here; (refine' len_matchN ?F ?N ?X ?m ?z ?_; (case F => assumption); (case N => assumption); (case X => assumption); (case m => k_mem); (case z => exact (show ((3 : Nat) : Int) < 2 ^ 63 from by decide)); k_whole); intro _ _)
 trivial
theorem mtmake (w : World) (D : Nat) (i j k : Int) (t1 t2 t3 : Tok) :
  CallSpec w 360 (.ref 117) [.ref 163, .ref D] [] (fun g => g.IsTuple D #[.int i t1, .int j t2, .int k t3])
   (fun r pass' => ∃ x dx, r = .ref x ∧ pass' = [(x, matchObj dx #[.int i t1, .int j t2, .int k t3] 0), (dx, emptyDict)] ∧ @LT.lt Nat _ dx x) := by
 unfold CallSpec prog
 k_fill
 intro mg mb s g Q E X T hpre st sz N hret
 refine' enter_def (binds := [(Str.ofString "cls", .ref 163), (Str.ofString "iterable", .ref D)]) X T st sz N ?ho ?hcd ?hroom ?hb ?hl ?_ ?hc ?h1 ?h2 ?h3
 case ho => (refine' st _ _ (X _ _ ?e); (case e => k_is))
 case hcd => exact codeRec_of (Frag.In.keeps X st) (by k_is)
 case hroom => decide
 case hb => first | exact BindsTo.of_eq rfl | exact binds_K (Frag.In.keeps X st) rfl (by k_is) rfl rfl rfl
 case hl => exact locs rfl
 case hc => decide
 case h1 => exact rfl
 case h2 => exact rfl
 case h3 => exact rfl
 k_whole
 intro L' h' F' N' hL'
 clear N
 k_steps
 trace_state
 rename Fr _ _ _ _ => F
 rename News _ _ _ _ => N
 rename @LT.lt Nat _ _ _ => l2
 exact hret _ [_, _] _ _ (Fr.keep F) (fun p hp => ⟨(N p hp).1, (N p hp).2.2⟩) ⟨_, _, rfl, rfl, l2⟩
end Mine
end
section
namespace Mine
section
variable {w : World} {A : Around} {E : Value → Shared → Prop} {s : Shared} {h₀ : Heap} {L : Addr} {m : Str → Option Value} {news : List (Addr × Obj)}
theorem ml_iter (P : Params) : peek (KN P) ⟨prog, P⟩ (typeLookup (.ref 163) "__iter__") = some (some (.builtin "tuple.__iter__")) := by kernel_rfl
theorem mk_iter : builtinKind "tuple.__iter__" = some .slot := by decide +kernel
theorem ms_iter : splitId "tuple.__iter__" = some ("tuple", "__iter__") := by decide +kernel
theorem m_pyIter {x dx n : Nat} {items : Array Value} {Q : Value → Shared → Prop} (X : (KN w.params).In s.heap) (hx : s.heap.get? x = some (matchObj dx items n))
  (hQ : Q (.ref s.heap.objs.size) { s with heap := s.heap.push { cls := .type "tuple_iterator", data := .fields #[.ref x, .int 0 0] } }) : wpAny (model prog w) A (pyIter (.ref x)) Q E s := by
 have ls := m_special X hx (ml_iter w.params)
 have run : ∀ A', wpAny (model prog w) A' (call (.builtin "tuple.__iter__") [.ref x]) (fun it s' => it = .ref s.heap.objs.size ∧ s' = { s with heap := s.heap.push { cls := .type "tuple_iterator", data := .fields #[.ref x, .int 0 0] } }) E s := fun A' => by
  refine m_call X hx F.slot_tuple_iter.plain F.entry_tuple_iter mk_iter ms_iter (F.args_tuple_iter_1 _) ?_
  show wpAny _ _ (do ret (← newFields "tuple_iterator" [.ref x, rawInt 0])) _ _ s
  exact wpAny_bind (wpAny_newObj_type (wpAny_pure ⟨_, rfl, rfl, rfl⟩))
 unfold pyIter
 refine wpAny_bind (ls.here ?_)
 show wpAny _ _ (callSpecialIfBoundUnlessNone? (.ref x) "__iter__" _ >>= _) Q E s
 refine wpAny_bind ?_
 unfold callSpecialIfBoundUnlessNone? bindSpecialIfBound?
 refine wpAny_holding (wpAny_bind (wpAny_bind (ls.here ?_)))
 simp only [F.slot_tuple_iter.bind]
 refine wpAny_bind (wpAny_askSetting (wpAny_ite ?_))
 split
 case' isTrue => refine wpAny_bind (wpAny_pure (wpAny_pure ?_))
 case' isFalse => refine wpAny_tryCatch (wpAny_bind (wpAny_pure (wpAny_pure ?_)))
 all_goals
  dsimp only
  refine KFB.if_not rfl (wpAny_bind (wpAny_mono (run A) ?_ fun _ _ h => h))
  rintro it s' ⟨rfl, rfl⟩
  refine wpAny_pure ?_
  dsimp only
  exact wpAny_bind (wpAny_specialOf (T := "tuple_iterator") ⟨_, Heap.get?_push_size _ rfl, rfl⟩ F.slot_tuple_iterator_next.lookup (wpAny_pure hQ))
noncomputable def ItAt (h : Heap) (it x : Addr) (i : Nat) : Prop := ∃ d sl, h.get? it = some ⟨.type "tuple_iterator", d, .fields #[.ref x, .int i 0], sl⟩
theorem m_next {it x dx i n : Nat} {items : Array Value} {v : Value} {Q : Option Value → Shared → Prop} (hi : ItAt s.heap it x i) (hx : s.heap.get? x = some (matchObj dx items n)) (hv : items[i]? = some v)
  (hQ : ∀ h', ItAt h' it x (i + 1) → Heap.SameBut it s.heap h' → Q (some v) { s with heap := h' }) : wpAny (model prog w) A (pyNext (.ref it)) Q E s := by
 obtain ⟨d, sl, ho⟩ := hi
 have ty : s.TypeIs (.ref it) "tuple_iterator" := ⟨_, ho, rfl⟩
 unfold pyNext
 refine wpAny_bind (wpAny_attempt (wpAny_callSpecial?_slot (name := Str.ofString "__next__") ty F.slot_tuple_iterator_next
  (wpAny_call_entry F.slot_tuple_iterator_next ty F.entry_tuple_iterator_next ?_ (F.args_tuple_iterator_next_1 _))))
 show wpAny _ _ (field (.ref it) 0 >>= _) _ _ s
 refine wpAny_bind (wpAny_field ho rfl (x := .ref x) rfl (KFB.if_not rfl ?_))
 refine wpAny_bind (wpAny_field ho rfl (x := .int i 0) rfl ?_)
 refine wpAny_bind (wpAny_seqItems hx rfl ?_)
 simp only [Int.toNat_natCast, hv]
 refine wpAny_bind (wpAny_setField ho rfl (by simp) (wpAny_pure ⟨v, rfl, wpAny_pure (hQ _ ?_ (Heap.SameBut.update ..))⟩))
 exact ⟨d, sl, (Heap.get?_update_self _ ho rfl).trans (by simp [Obj.mapFields, rawInt])⟩
theorem stop_run {α : Type} {P : α → Shared → Prop} {E' : Value → Shared → Prop} {s : Shared} (hh : A.handled = none)
  (h : ∀ e h', (∃ o, h'.get? e = some o ∧ o.cls = .type "StopIteration") → (∀ b o, s.heap.get? b = some o → h'.get? b = some o) → E' (.ref e) { s with heap := h' }) :
  wpAny (model prog w) A (Builtin.SmallTypes.stopIteration (α := α)) P E' s := by
 unfold Builtin.SmallTypes.stopIteration newExc newTuple
 refine wpAny_bind (wpAny_bind (wpAny_newObj_type ?_ (by size_fits)))
 refine wpAny_bind (wpAny_of_eq (a := Value.none) rfl ?_)
 refine wpAny_newObj_type ?_ (by size_fits)
 unfold raiseNew
 refine wpAny_bind (wpAny_handled ?_)
 rw [hh]
 refine wpAny_bind (wpAny_pure (wpAny_throw ?_))
 exact h _ _ ⟨_, Heap.get?_push_size _ rfl, rfl⟩ fun b o e => Heap.get?_push_of_some _ (Heap.get?_push_of_some _ e)
theorem m_last {it x dx i n : Nat} {items : Array Value} {Q : Option Value → Shared → Prop} (hh : A.handled = none) (hi : ItAt s.heap it x i) (hx : s.heap.get? x = some (matchObj dx items n)) (hv : items[i]? = none)
  (hQ : ∀ h', Heap.ExtBut it s.heap h' → Q none { s with heap := h' }) : wpAny (model prog w) A (pyNext (.ref it)) Q E s := by
 obtain ⟨d, sl, ho⟩ := hi
 have ty : s.TypeIs (.ref it) "tuple_iterator" := ⟨_, ho, rfl⟩
 unfold pyNext
 refine wpAny_bind (wpAny_attempt (wpAny_callSpecial?_slot (name := Str.ofString "__next__") ty F.slot_tuple_iterator_next
  (wpAny_call_entry F.slot_tuple_iterator_next ty F.entry_tuple_iterator_next ?_ (F.args_tuple_iterator_next_1 _))))
 show wpAny _ _ (field (.ref it) 0 >>= _) _ _ s
 refine wpAny_bind (wpAny_field ho rfl (x := .ref x) rfl (KFB.if_not rfl ?_))
 refine wpAny_bind (wpAny_field ho rfl (x := .int i 0) rfl ?_)
 refine wpAny_bind (wpAny_seqItems hx rfl ?_)
 simp only [Int.toNat_natCast, hv]
 refine wpAny_bind (wpAny_rule (wpAny_bind (wpAny_setField ho rfl (by simp) (stop_run hh fun e h' he hk => ?_))))
 dsimp only
 refine wpAny_bind (wpAny_isInstance (T := "StopIteration") (b := true) he isSubtype_stop ?_)
 exact wpAny_pure (hQ _ fun b o hb e => hk b o ((Heap.SameBut.update ..).extBut b o hb e))
theorem m_draw {it x dx n : Nat} {items : Array Value} (hne : x ≠ it) : ∀ (k i : Nat) (s : Shared) (Q : List Value → Shared → Prop), ItAt s.heap it x i → s.heap.get? x = some (matchObj dx items n) → i + k ≤ items.size →
  (∀ h', ItAt h' it x (i + k) → Heap.SameBut it s.heap h' → Q ((items.toList.drop i).take k) { s with heap := h' }) → wpAny (model prog w) A (draw (.ref it) k) Q E s := by
 intro k
 induction k with
 | zero =>
  intro i s Q hi hx hk hQ
  exact wpAny_pure (by simpa using hQ s.heap hi (Heap.SameBut.refl ..))
 | succ k ih =>
  intro i s Q hi hx hk hQ
  have hlt : i < items.size := by lia
  show wpAny _ _ (pyNext (.ref it) >>= _) Q E s
  refine wpAny_bind (m_next hi hx (v := items[i]) (by simp [hlt]) fun h1 hi1 hs1 => ?_)
  refine wpAny_bind (wpAny_holding (ih (i + 1) _ _ hi1 (hs1.extBut _ _ hne hx) (by lia) fun h2 hi2 hs2 => wpAny_pure ?_))
  have z := hQ h2 (by rw [show i + (k + 1) = i + 1 + k by lia]; exact hi2) (hs1.trans hs2)
  rw [List.drop_eq_getElem_cons (by simpa using hlt), List.take_succ_cons] at z
  simpa using z
theorem m_unpack {env : Env} {elts : List Expr} {k1 : Nat} {pos : Pos} {x dx n : Nat} {items : Array Value} {Q : Unit → Shared → Prop} (hh : A.handled = none) (F : Fr h₀ L s.heap m) (N : News h₀ L s.heap news) (X : (KN w.params).In h₀) (hx : s.heap.get? x = some (matchObj dx items n))
  (hn : (assignEach elts env).length = items.size) (hstar : (assignEach elts env).findIdx? (·.1) = none)
  (h : ∀ h', Fr h₀ L h' m → News h₀ L h' news → wpAny (model prog w) A (assignInOrder ((assignEach elts env).map (·.2)) items.toList) Q E { s with heap := h' }) :
  wpAny (model prog w) A (assign (.Tuple elts k1 pos) env (.ref x)) Q E s := by
 have X' := X.keeps F.keep
 have hne : x ≠ s.heap.objs.size := Nat.ne_of_lt (Heap.lt_size hx)
 rw [assign_Tuple]
 refine wpAny_bind (wpAny_standAt ?_)
 unfold unpack
 rw [hn, hstar]
 refine wpAny_bind (wpAny_holding ?_)
 unfold unpackItems
 refine wpAny_bind ?_
 unfold notIterableAtAll
 refine wpAny_bind ((m_special X' hx (ml_iter w.params)).here ?_)
 refine KFB.if_so rfl (wpAny_pure (KFB.if_not rfl ?_))
 refine wpAny_bind (wpAny_holding (m_pyIter X' hx ?_))
 dsimp only
 refine wpAny_bind (wpAny_holding (m_draw hne items.size 0 _ _ ⟨_, _, Heap.get?_push_size _ rfl⟩ (Heap.get?_push_of_some _ hx) (by lia) fun h1 hi1 hs1 => ?_))
 have hall : List.take items.size (List.drop 0 items.toList) = items.toList := by
  rw [List.drop_zero]; exact List.take_of_length_le (by simp)
 rw [hall, if_neg (by simp)]
 rw [Nat.zero_add] at hi1
 refine wpAny_bind (wpAny_holding (m_last hh hi1 (hs1.extBut _ _ hne (Heap.get?_push_of_some _ hx)) (by simp) fun h2 he2 => ?_))
 refine KFB.if_not rfl (wpAny_pure ?_)
 have he : Heap.ExtBut s.heap.objs.size s.heap h2 := fun b o hb e => he2 b o hb (hs1.extBut b o hb (Heap.get?_push_of_some _ e))
 exact h h2 (F.extBut he (Nat.le_refl _)) (N.extBut he (Nat.le_refl _))
end
end Mine
end
section
namespace Mine
section
variable (key : Nat → Int) (n : Nat)
noncomputable def okT {α : Type} : KasT α → (α → Prop) → Prop
 | .ret a, R => R a
 | .ask i j k, R => (i < n ∧ j < n) ∧ okT (k (decide (key i < key j))) R
theorem okT_bind {α β : Type} {f : α → KasT β} {R : β → Prop} : ∀ t : KasT α, okT key n t (fun a => okT key n (f a) R) → okT key n (t.bind f) R
 | .ret _, h => h
 | .ask _ _ k, h => ⟨h.1, okT_bind (k _) h.2⟩
theorem okT_mono {α : Type} {R R' : α → Prop} (hr : ∀ a, R a → R' a) : ∀ t : KasT α, okT key n t R → okT key n t R'
 | .ret _, h => hr _ h
 | .ask _ _ k, h => ⟨h.1, okT_mono hr (k _) h.2⟩
noncomputable def kk (p : Array Nat) (i : Nat) : Int := key (p.getD i 0)
noncomputable def PI (p : Array Nat) : Prop := p.Perm (List.toArray (List.range n))
noncomputable def Asc (p : Array Nat) (k : Nat) : Prop := ∀ i j, i ≤ j → j < k → kk key p i ≤ kk key p j
noncomputable def Dsc (p : Array Nat) (k : Nat) : Prop := ∀ i j, i ≤ j → j < k → kk key p j ≤ kk key p i
variable {key n}
theorem PI.size {p : Array Nat} (h : PI n p) : p.size = n := by
 have := Array.Perm.size_eq h
 simpa using this
theorem PI.lt {p : Array Nat} (h : PI n p) {i : Nat} (hi : i < n) : p.getD i 0 < n := by
 have hs := h.size
 have hm : p[i]'(by lia) ∈ p := Array.getElem_mem _
 have := (Array.Perm.mem_iff h).mp hm
 have e : p.getD i 0 = p[i]'(by lia) := by simp [Array.getD, show i < p.size by lia]
 rw [e]
 simpa using this
theorem kk_congr {p q : Array Nat} {i j : Nat} (h : p[i]? = q[j]?) : kk key p i = kk key q j := by
 unfold kk
 rw [Array.getD_eq_getD_getElem?, Array.getD_eq_getD_getElem?, h]
theorem kk_rev {p : Array Nat} {i j : Nat} (hj : j ≤ p.size) (k : Nat) : kk key (kas_rev p i j) k = if i ≤ k ∧ k < j then kk key p (i + j - 1 - k) else kk key p k := by
 have e := getElem?_mirror_all (xs := p) (i := i) hj k
 unfold kas_rev
 split
 ·rename_i c; rw [if_pos c] at e; exact kk_congr e
 ·rename_i c; rw [if_neg c] at e; exact kk_congr e
theorem PI.rev {p : Array Nat} (h : PI n p) (i j : Nat) : PI n (kas_rev p i j) := (mirror_perm p i j _).trans h
theorem kk_bub {p : Array Nat} {src d : Nat} (hs : src < p.size) (hd : d ≤ src) (k : Nat) : kk key (bubble p src d) k = if k = src - d then kk key p src else if src - d < k ∧ k ≤ src then kk key p (k - 1) else kk key p k := by
 have e := getElem?_bubble hs d hd k
 by_cases h1 : k = src - d
 ·rw [if_pos h1] at e ⊢; exact kk_congr e
 ·rw [if_neg h1] at e ⊢
  by_cases h2 : src - d < k ∧ k ≤ src
  ·rw [if_pos h2] at e ⊢; exact kk_congr e
  ·rw [if_neg h2] at e ⊢; exact kk_congr e
theorem PI.bub {p : Array Nat} (h : PI n p) (src d : Nat) : PI n (bubble p src d) := (bubble_perm p src d).trans h
theorem rev_same {p : Array Nat} {i j : Nat} (hj : j ≤ p.size) {c : Int} (h : ∀ k, i ≤ k → k < j → kk key p k = c) (k : Nat) : kk key (kas_rev p i j) k = kk key p k := by
 rw [kk_rev hj]
 split
 ·rename_i e
  have z : i ≤ i + j - 1 - k ∧ i + j - 1 - k < j := by obtain ⟨e1, e2⟩ := e; clear h hj; omega
  rw [h k e.1 e.2, h _ z.1 z.2]
 ·rfl
theorem asc_ok {p : Array Nat} (hp : PI n p) : ∀ (f m : Nat), 1 ≤ m → m + f ≤ n → Asc key p m → okT key n (kas_asc p f m) (fun r => m ≤ r ∧ r ≤ m + f ∧ Asc key p r ∧ (r < m + f → kk key p r < kk key p (r - 1)))
 | 0, m, _, _, h => ⟨Nat.le_refl _, Nat.le_refl _, h, fun e => absurd e (Nat.lt_irrefl _)⟩
 | f + 1, m, h1, h2, h => by
  refine ⟨⟨hp.lt (by lia), hp.lt (by lia)⟩, ?_⟩
  by_cases c : key (p.getD m 0) < key (p.getD (m - 1) 0)
  ·rw [decide_eq_true c]; dsimp only; rw [if_pos rfl]
   exact ⟨Nat.le_refl _, by lia, h, fun _ => c⟩
  ·rw [decide_eq_false c]; dsimp only; rw [if_neg (by decide)]
   refine okT_mono key n ?_ _ (asc_ok hp f (m + 1) (by lia) (by lia) ?_)
   ·rintro r ⟨a, b, d, e⟩
    exact ⟨by lia, by lia, d, fun l => e (by lia)⟩
   ·intro i j hij hj
    by_cases e : j = m
    ·subst e
     by_cases e2 : i = j
     ·subst e2; exact Int.le_refl _
     ·have h3 := h i (j - 1) (by lia) (by lia)
      have : ¬ kk key p j < kk key p (j - 1) := c
      lia
    ·exact h i j hij (by lia)
theorem desc_ok : ∀ (f : Nat) (p : Array Nat) (m q : Nat), PI n p → q + 1 ≤ m → m + f ≤ n → Dsc key p m → (∀ i, m - (q + 1) ≤ i → i < m → kk key p i = kk key p (m - 1)) →
  okT key n (kas_desc f p m q) (fun r => PI n r.1 ∧ m ≤ r.2.1 ∧ r.2.1 ≤ m + f ∧ Dsc key r.1 r.2.1 ∧ r.2.2 + 1 ≤ r.2.1 ∧ ∀ i, r.2.1 - (r.2.2 + 1) ≤ i → i < r.2.1 → kk key r.1 i = kk key r.1 (r.2.1 - 1))
 | 0, p, m, q, hp, h1, h2, h3, h4 => ⟨hp, Nat.le_refl _, Nat.le_refl _, h3, h1, h4⟩
 | f + 1, p, m, q, hp, h1, h2, h3, h4 => by
  have hs := hp.size
  refine ⟨⟨hp.lt (by lia), hp.lt (by lia)⟩, ?_⟩
  by_cases c : key (p.getD m 0) < key (p.getD (m - 1) 0)
  ·rw [decide_eq_true c]; dsimp only; rw [if_pos rfl]
   have c' : kk key p m < kk key p (m - 1) := c
   have step : ∀ p2 : Array Nat, PI n p2 → (∀ k, kk key p2 k = kk key p k) → okT key n (kas_desc f p2 (m + 1) 0) (fun r => PI n r.1 ∧ m ≤ r.2.1 ∧ r.2.1 ≤ m + (f + 1) ∧ Dsc key r.1 r.2.1 ∧ r.2.2 + 1 ≤ r.2.1 ∧ ∀ i, r.2.1 - (r.2.2 + 1) ≤ i → i < r.2.1 → kk key r.1 i = kk key r.1 (r.2.1 - 1)) := by
    intro p2 hp2 e
    refine okT_mono key n ?_ _ (desc_ok f p2 (m + 1) 0 hp2 (by lia) (by lia) ?_ ?_)
    ·rintro r ⟨a1, a2, a3, a4⟩
     exact ⟨a1, by lia, by lia, a4⟩
    ·intro i j hij hj
     rw [e, e]
     by_cases e1 : j = m
     ·subst e1
      by_cases e2 : i = j
      ·subst e2; exact Int.le_refl _
      ·have := h3 i (j - 1) (by lia) (by lia); lia
     ·exact h3 i j hij (by lia)
    ·intro i h5 h6
     rw [show i = m + 1 - 1 by lia]
   split
   ·exact step _ (hp.rev _ _) (rev_same (by lia) fun k a b => h4 k (by lia) b)
   ·exact step _ hp fun _ => rfl
  ·rw [decide_eq_false c]; dsimp only; rw [if_neg (by decide)]
   have c' : ¬ kk key p m < kk key p (m - 1) := c
   refine ⟨⟨hp.lt (by lia), hp.lt (by lia)⟩, ?_⟩
   by_cases d : key (p.getD (m - 1) 0) < key (p.getD m 0)
   ·rw [decide_eq_true d]; dsimp only; rw [if_pos rfl]
    exact ⟨hp, Nat.le_refl _, by dsimp only; lia, h3, h1, h4⟩
   ·rw [decide_eq_false d]; dsimp only; rw [if_neg (by decide)]
    have d' : ¬ kk key p (m - 1) < kk key p m := d
    have e : kk key p m = kk key p (m - 1) := by lia
    refine okT_mono key n ?_ _ (desc_ok f p (m + 1) (q + 1) hp (by lia) (by lia) ?_ ?_)
    ·rintro r ⟨a1, a2, a3, a4⟩
     exact ⟨a1, by lia, by lia, a4⟩
    ·intro i j hij hj
     by_cases e1 : j = m
     ·subst e1
      by_cases e2 : i = j
      ·subst e2; exact Int.le_refl _
      ·have := h3 i (j - 1) (by lia) (by lia); lia
     ·exact h3 i j hij (by lia)
    ·intro i h5 h6
     rw [show m + 1 - 1 = m by lia, e]
     by_cases e1 : i = m
     ·rw [e1, e]
     ·exact h4 i (by lia) (by lia)
theorem rev_asc {p : Array Nat} {m : Nat} (hm : m ≤ p.size) (h : Dsc key p m) : Asc key (kas_rev p 0 m) m := by
 intro i j hij hj
 rw [kk_rev hm, kk_rev hm, if_pos ⟨Nat.zero_le _, by lia⟩, if_pos ⟨Nat.zero_le _, hj⟩]
 refine h _ _ (Nat.sub_le_sub_left hij _) ?_
 rw [Nat.zero_add]
 exact Nat.lt_of_le_of_lt (Nat.sub_le _ _) (Nat.sub_one_lt_of_lt hj)
noncomputable abbrev Cnt (key : Nat → Int) (n : Nat) (r : Nat × Array Nat) : Prop := PI n r.2 ∧ r.1 ≤ n ∧ 1 ≤ r.1 ∧ Asc key r.2 r.1
theorem tail3_ok {p : Array Nat} {m : Nat} (hp : PI n p) (h1 : 1 ≤ m) (h2 : m ≤ n) (h : Dsc key p m) : okT key n (kas_tail3 m n p) (Cnt key n) := by
 have hs := hp.size
 refine okT_bind key n _ (okT_mono key n ?_ _ (asc_ok (hp.rev 0 m) (n - m) m h1 (by lia) (rev_asc (by lia) h)))
 rintro r ⟨a, b, c, _⟩
 exact ⟨hp.rev 0 m, by dsimp only; lia, by dsimp only; lia, c⟩
theorem descPart_ok {p : Array Nat} {m : Nat} (hp : PI n p) (h1 : 1 ≤ m) (h2 : m + 1 ≤ n) (h : Dsc key p (m + 1)) : okT key n (kas_descPart m n p) (Cnt key n) := by
 refine okT_bind key n _ (okT_mono key n ?_ _ (desc_ok (n - (m + 1)) p (m + 1) 0 hp (by lia) (by lia) h (fun i a b => by rw [show i = m + 1 - 1 by lia])))
 rintro ⟨p', m', q'⟩ ⟨a1, a2, a3, a4, a5, a6⟩
 dsimp only at a1 a2 a3 a4 a5 a6 ⊢
 have hs := a1.size
 split
 ·have e := rev_same (p := p') (i := m' - (q' + 1)) (j := m') (by lia) a6
  refine tail3_ok (a1.rev _ _) (by lia) (by lia) ?_
  intro i j hij hj
  rw [e, e]
  exact a4 i j hij hj
 ·exact tail3_ok a1 (by lia) (by lia) a4
theorem count_ok {p : Array Nat} (hp : PI n p) (hn : 1 ≤ n) : okT key n (kas_count n p) (Cnt key n) := by
 have hs := hp.size
 refine okT_bind key n _ (okT_mono key n ?_ _ (asc_ok hp (n - 1) 1 (Nat.le_refl _) (by lia) (fun i j a b => by rw [show i = j by lia]; exact Int.le_refl _)))
 rintro m ⟨a, b, c, d⟩
 split
 ·rename_i e
  have : m = n := by simpa using e
  exact ⟨hp, by dsimp only; lia, a, c⟩
 ·rename_i e
  have e : m ≠ n := by simpa using e
  have dd := d (by lia)
  split
  ·rename_i g
   refine ⟨⟨hp.lt (by lia), hp.lt (by lia)⟩, ?_⟩
   by_cases x : key (p.getD 0 0) < key (p.getD (m - 1) 0)
   ·rw [decide_eq_true x]; dsimp only; rw [if_pos rfl]
    exact ⟨hp, by dsimp only; lia, a, c⟩
   ·rw [decide_eq_false x]; dsimp only; rw [if_neg (by decide)]
    have x' : ¬ kk key p 0 < kk key p (m - 1) := x
    have alle : ∀ k, 0 ≤ k → k < m → kk key p k = kk key p (m - 1) := fun k _ hk => by
     have l1 := c 0 k (Nat.zero_le _) hk
     have l2 := c k (m - 1) (by lia) (by lia)
     lia
    have r := rev_same (p := p) (i := 0) (j := m) (by lia) alle
    refine descPart_ok (hp.rev 0 m) a (by lia) ?_
    intro i j hij hj
    rw [r, r]
    by_cases e1 : j = m
    ·subst e1
     by_cases e2 : i = j
     ·subst e2; exact Int.le_refl _
     ·have := alle i (Nat.zero_le _) (by lia); lia
    ·have := alle i (Nat.zero_le _) (by lia); have := alle j (Nat.zero_le _) (by lia); lia
  ·have m1 : m = 1 := by lia
   subst m1
   refine descPart_ok hp (Nat.le_refl _) (by lia) ?_
   intro i j hij hj
   by_cases e2 : i = j
   ·subst e2; exact Int.le_refl _
   ·have : i = 0 := by lia
    have : j = 1 := by lia
    subst i j
    exact Int.le_of_lt dd
theorem place_ok {p : Array Nat} {k : Nat} (hp : PI n p) (hk : k < n) (hA : Asc key p k) : ∀ (f l r : Nat), l ≤ r → r ≤ k → r - l ≤ f → (∀ i, i < l → kk key p i ≤ kk key p k) → (∀ i, r ≤ i → i < k → kk key p k < kk key p i) →
  okT key n (kas_place p k f l r) (fun x => x ≤ k ∧ (∀ i, i < x → kk key p i ≤ kk key p k) ∧ ∀ i, x ≤ i → i < k → kk key p k < kk key p i)
 | 0, l, r, h1, h2, h3, h4, h5 => ⟨by lia, h4, fun i a b => h5 i (by lia) b⟩
 | f + 1, l, r, h1, h2, h3, h4, h5 => by
  unfold kas_place
  split
  ·exact ⟨by lia, h4, fun i a b => h5 i (by lia) b⟩
  ·rename_i g
   obtain ⟨m, hm, h6, h7⟩ : ∃ m, (l + r) / 2 = m ∧ l ≤ m ∧ m < r := ⟨_, rfl, by clear h3 h4 h5; lia, by clear h3 h4 h5; lia⟩
   rw [hm]
   clear hm
   have h8 : m < k := Nat.lt_of_lt_of_le h7 h2
   refine ⟨⟨hp.lt hk, hp.lt (Nat.lt_trans h8 hk)⟩, ?_⟩
   by_cases c : key (p.getD k 0) < key (p.getD m 0)
   ·rw [decide_eq_true c]; dsimp only; rw [if_pos rfl]
    refine place_ok hp hk hA f l _ h6 (Nat.le_of_lt h8) (by clear h4 h5; lia) h4 fun i a b => ?_
    exact Int.lt_of_lt_of_le c (hA _ i a b)
   ·rw [decide_eq_false c]; dsimp only; rw [if_neg (by decide)]
    refine place_ok hp hk hA f _ r h7 h2 (by clear h4 h5; lia) (fun i a => ?_) h5
    exact Int.le_trans (hA i m (Nat.le_of_lt_succ a) h8) (Int.not_lt.mp c)
theorem bin_ok : ∀ (f : Nat) (p : Array Nat) (k : Nat), PI n p → k + f ≤ n → Asc key p k → okT key n (kas_bin f p k) (fun p' => PI n p' ∧ Asc key p' (k + f))
 | 0, p, k, hp, _, h => ⟨hp, h⟩
 | f + 1, p, k, hp, h1, h => by
  have hs := hp.size
  refine okT_bind key n _ (okT_mono key n ?_ _ (place_ok hp (by lia) h k 0 k (Nat.zero_le _) (Nat.le_refl _) (by lia) (fun i a => absurd a (Nat.not_lt_zero _)) (fun i a b => by lia)))
  rintro x ⟨hx, lo, hi⟩
  refine okT_mono key n ?_ _ (bin_ok f (bubble p k (k - x)) (k + 1) (hp.bub _ _) (by lia) ?_)
  ·rintro p' ⟨a, b⟩
   exact ⟨a, by rw [show k + (f + 1) = k + 1 + f by lia]; exact b⟩
  ·have e := fun i => kk_bub (key := key) (p := p) (src := k) (d := k - x) (by lia) (by lia) i
   have ex : k - (k - x) = x := by lia
   rw [ex] at e
   intro i j hij hj
   rw [e, e]
   by_cases c1 : i = x
   ·rw [if_pos c1]
    by_cases c2 : j = x
    ·rw [if_pos c2]; exact Int.le_refl _
    ·rw [if_neg c2, if_pos ⟨by lia, by lia⟩]
     exact Int.le_of_lt (hi _ (by lia) (by lia))
   ·rw [if_neg c1]
    by_cases c3 : x < i ∧ i ≤ k
    ·rw [if_pos c3]
     by_cases c2 : j = x
     ·lia
     ·rw [if_neg c2, if_pos ⟨by lia, by lia⟩]
      exact h _ _ (by lia) (by lia)
    ·rw [if_neg c3]
     by_cases c2 : j = x
     ·rw [if_pos c2]
      exact lo i (by lia)
     ·rw [if_neg c2]
      by_cases c4 : x < j ∧ j ≤ k
      ·rw [if_pos c4]
       exact h _ _ (by lia) (by lia)
      ·rw [if_neg c4]
       exact h _ _ hij (by lia)
theorem sort_ok (hn : 1 ≤ n) : okT key n (kas_sort n) (fun p => PI n p ∧ Asc key p n) := by
 refine okT_bind key n _ (okT_mono key n ?_ _ (count_ok (p := List.toArray (List.range n)) (Array.Perm.refl _) hn))
 rintro ⟨m, p⟩ ⟨a, b, c, d⟩
 dsimp only at a b c d ⊢
 split
 ·have e : max m 1 = m := by lia
  rw [e]
  refine okT_mono key n ?_ _ (bin_ok (n - m) p m a (by lia) d)
  rintro p' ⟨x, y⟩
  rw [show m + (n - m) = n by lia] at y
  exact ⟨x, y⟩
 ·have e : m = n := by lia
  subst e
  exact ⟨a, d⟩
end
end Mine
end
section
namespace Mine
section
variable {w : World} {A : Around} {E : Value → Shared → Prop} {s : Shared} {h₀ : Heap} {L : Addr} {m : Str → Option Value} {news : List (Addr × Obj)}
theorem ml_lt (P : Params) : peek (KN P) ⟨prog, P⟩ (typeLookup (.ref 163) "__lt__") = some (some (.builtin "tuple.__lt__")) := by kernel_rfl
theorem mk_lt : builtinKind "tuple.__lt__" = some .slot := by decide +kernel
theorem ms_lt : splitId "tuple.__lt__" = some ("tuple", "__lt__") := by decide +kernel
noncomputable abbrev mObj (dx : Addr) (i j k : Int) (t1 t2 t3 : Tok) (n : Nat) : Obj := matchObj dx #[.int i t1, .int j t2, .int k t3] n
theorem m_lt_run {x y dx dy n n' : Nat} {i j k i' j' k' : Int} {t1 t2 t3 t1' t2' t3' : Tok} {P : PySem.Fin → Shared → Prop} (X : (KN w.params).In s.heap) (hx : s.heap.get? x = some (mObj dx i j k t1 t2 t3 n)) (hy : s.heap.get? y = some (mObj dy i' j' k' t1' t2' t3' n')) (he : i = i' → j = j' ∧ k = k')
  (h : P (.done (.ret (.bool (decide (i < i'))))) s) : wpAny (model prog w) A (Builtin.«tuple.__lt__» ⟨[.ref x, .ref y], []⟩) P E s := by
 show wpAny _ _ (do
  if !(← isInstance (.ref y) (.type "tuple")) then return ← ret .notImplemented
  _) _ _ _
 refine wpAny_bind ((m_inst X hy).here (KFB.if_not rfl ?_))
 refine wpAny_bind (m_items hx (wpAny_bind (m_items hy ?_)))
 show wpAny _ _ (forIn [(Value.int i t1, Value.int i' t1'), (Value.int j t2, Value.int j' t2'), (Value.int k t3, Value.int k' t3')] (none, ()) _ >>= _) _ _ _
 rw [List.forIn_cons]
 refine wpAny_bind (wpAny_bind (wpAny_bind (wpAny_eqBool_int ?_)))
 by_cases hi : i = i'
 ·obtain ⟨rfl, rfl⟩ := he hi
  subst hi
  refine KFB.if_not (by simp) (wpAny_pure ?_)
  dsimp only
  rw [List.forIn_cons]
  refine wpAny_bind (wpAny_bind (wpAny_eqBool_int ?_))
  refine KFB.if_not (by simp) (wpAny_pure ?_)
  dsimp only
  rw [List.forIn_cons]
  refine wpAny_bind (wpAny_bind (wpAny_eqBool_int ?_))
  refine KFB.if_not (by simp) (wpAny_pure ?_)
  dsimp only
  rw [List.forIn_nil]
  refine wpAny_pure (wpAny_pure ?_)
  rw [show decide (i < i) = false by simp] at h
  exact h
 ·refine KFB.if_so (by simpa using hi) ?_
  refine wpAny_bind (wpAny_rule (wpAny_bind ?_))
  refine wpAny_lt_int (wpAny_bind (wpAny_pure (wpAny_pure ?_)))
  exact wpAny_pure (wpAny_pure h)
theorem m_bindLt {x dx n : Nat} {items : Array Value} {y : Value} {Q : Option Value → Shared → Prop} (X : (KN w.params).In s.heap) (hx : s.heap.get? x = some (matchObj dx items n))
  (h : wpAny (model prog w) A (call (.builtin "tuple.__lt__") [.ref x, y]) (fun v => Q (some v)) E s) : wpAny (model prog w) A (callSpecialIfBound? (.ref x) "__lt__" [y]) Q E s := by
 simp only [callSpecialIfBound?, bindSpecialIfBound?]
 have ls := m_special X hx (ml_lt w.params)
 have hb := F.slot_tuple_lt.bind (.ref x)
 refine wpAny_holding (wpAny_bind (wpAny_bind (ls.here ?_)))
 dsimp only
 rw [hb]
 refine wpAny_bind (wpAny_askSetting (wpAny_ite ?_))
 have fin : wpAny (model prog w) A (call (.builtin "tuple.__lt__") ([.ref x] ++ [y]) >>= fun v => pure (some v)) Q E s := wpAny_bind (wpAny_mono h (fun v s' h' => wpAny_pure h') fun _ _ h' => h')
 split
 ·exact wpAny_bind (wpAny_pure (wpAny_pure fin))
 ·exact wpAny_tryCatch (wpAny_bind (wpAny_pure (wpAny_pure fin)))
theorem m_keyLt {x y dx dy n n' : Nat} {i j k i' j' k' : Int} {t1 t2 t3 t1' t2' t3' : Tok} {Q : Bool → Shared → Prop} (hu : A.units < cLine) (X : (KN w.params).In s.heap) (hx : s.heap.get? x = some (mObj dx i j k t1 t2 t3 n)) (hy : s.heap.get? y = some (mObj dy i' j' k' t1' t2' t3' n')) (he : i = i' → j = j' ∧ k = k')
  (h : Q (decide (i < i')) s) : wpAny (model prog w) A (keyLt' oneType' (.ref x) (.ref y)) Q E s := by
 rw [keyLt'_oneType, oneLt'_eq]
 simp only [if_true]
 refine wpAny_bind (wpAny_cRoomFor hu (wpAny_bind (m_bindLt X hx ?_)))
 refine m_call X hx F.slot_tuple_lt.plain F.entry_tuple_lt mk_lt ms_lt (F.args_tuple_lt_2 _ _) (m_lt_run X hx hy he ⟨_, rfl, ?_⟩)
 exact wpAny_truthy_bool h
end
end Mine
end
section
namespace Mine
theorem kasWp_ok {α : Type} {key : Nat → Int} {n : Nat} {cmp : Nat → Nat → (Bool → Shared → Prop) → Shared → Prop} {Q : α → Shared → Prop} {R : α → Prop} {s : Shared} (ask : ∀ i j C, i < n → j < n → C (decide (key i < key j)) s → cmp i j C s) (hq : ∀ a, R a → Q a s) : ∀ t : KasT α, okT key n t R → t.kasWp cmp Q s
 | .ret _, h => hq _ h
 | .ask i j k, h => ask i j _ h.1.1 h.1.2 (kasWp_ok ask hq (k _) h.2)
noncomputable abbrev Tri := Nat × Nat × Nat
inductive LAt {γ : Type} (P : γ → Obj → Prop) (objs : List (Addr × Obj)) (c : γ) (v : Option Value) : Prop
 | mk (x : Nat) (o : Obj) (hv : v = some (Value.ref x)) (hm : (x, o) ∈ objs) (hp : P c o)
structure LAre {γ : Type} (P : γ → Obj → Prop) (objs : List (Addr × Obj)) (vs : List Value) (cs : List γ) : Prop where
 len : vs.length = cs.length
 at_ : ∀ (i : Nat) (c : γ), cs[i]? = some c → LAt P objs c vs[i]?
section
variable {γ : Type} {P : γ → Obj → Prop} {objs objs' : List (Addr × Obj)} {vs : List Value} {cs : List γ}
theorem LAre.sub (h : LAre P objs vs cs) (hs : ∀ p ∈ objs, p ∈ objs') : LAre P objs' vs cs := ⟨h.len, fun i c e => by
 obtain ⟨x, o, a, b, d⟩ := h.at_ i c e
 exact ⟨x, o, a, hs _ b, d⟩⟩
theorem LAre.nil (objs : List (Addr × Obj)) : LAre P objs [] [] := ⟨rfl, fun _ _ e => by cases e⟩
theorem LAre.snoc (h : LAre P objs vs cs) {c : γ} {x : Nat} {o : Obj} (hx : (x, o) ∈ objs) (hp : P c o) : LAre P objs (vs ++ [.ref x]) (cs ++ [c]) := by
 have hl := h.len
 refine ⟨by rw [List.length_append, List.length_append, hl]; rfl, fun i c' e => ?_⟩
 rcases Nat.lt_or_ge i cs.length with hi | hi
 ·rw [List.getElem?_append_left hi] at e
  rw [List.getElem?_append_left (hl ▸ hi)]
  exact h.at_ i c' e
 ·rw [List.getElem?_append_right hi] at e
  rw [List.getElem?_append_right (hl ▸ hi), hl]
  cases hk : i - cs.length with
  | zero =>
   rw [hk] at e
   cases e
   exact ⟨x, o, rfl, hx, hp⟩
  | succ k => rw [hk] at e; cases e
inductive LLast {γ : Type} (P : γ → Obj → Prop) (objs : List (Addr × Obj)) (vs : List Value) (cs : List γ) (c : γ) : Prop
 | mk (p : List Value) (x : Nat) (o : Obj) (hv : vs = p ++ [.ref x]) (hm : (x, o) ∈ objs) (hp : P c o) (h : LAre P objs p cs)
theorem LAre.last {c : γ} (h : LAre P objs vs (cs ++ [c])) : LLast P objs vs cs c := by
 have hl := h.len
 rw [List.length_append] at hl
 obtain ⟨x, o, e, hm, hp⟩ := h.at_ cs.length c List.getElem?_concat_length
 rcases List.eq_nil_or_concat vs with rfl | ⟨p, v, rfl⟩
 ·cases hl
 ·rw [List.concat_eq_append] at hl e h
  rw [List.length_append] at hl
  have hz : p.length = cs.length := Nat.add_right_cancel hl
  rw [← hz, List.getElem?_append_right (Nat.le_refl _), Nat.sub_self] at e
  cases e
  refine ⟨p, x, o, List.concat_eq_append, hm, hp, hz, fun i c' hc => ?_⟩
  have hi := (List.getElem?_eq_some_iff.mp hc).1
  have z := h.at_ i c' (by rw [List.getElem?_append_left hi]; exact hc)
  rwa [List.getElem?_append_left (hz ▸ hi)] at z
end
inductive MIs (c : Tri) : Obj → Prop
 | mk (dx : Nat) (t1 t2 t3 : Tok) (n : Nat) : MIs c (mObj dx (c.1 : Int) (c.2.1 : Int) (c.2.2 : Int) t1 t2 t3 n)
noncomputable abbrev MAre := @LAre Tri MIs
inductive MGet (hh : Heap) (ms : List Tri) (vs : List Value) (i : Nat) : Prop
 | mk (c : Tri) (x dx : Nat) (t1 t2 t3 : Tok) (n : Nat) (hc : ms[i]? = some c) (hv : vs[i]? = some (.ref x)) (hx : hh.get? x = some (mObj dx (c.1 : Int) (c.2.1 : Int) (c.2.2 : Int) t1 t2 t3 n))
section
variable {w : World} {A : Around} {E : Value → Shared → Prop} {s : Shared} {h₀ : Heap} {L : Addr} {m : Str → Option Value} {rest : List (Addr × Obj)}
theorem perm_pick {α : Type} (d : α) (xs : List α) {p : Array Nat} (hp : PI xs.length p) : (p.toList.map fun i => xs.getD i d).Perm xs := by
 have h1 : p.toList.Perm (List.range xs.length) := by
  have := Array.perm_iff_toList_perm.mp hp
  simpa using this
 have h2 : (List.range xs.length).map (fun i => xs.getD i d) = xs := by
  apply List.ext_getElem?
  intro i
  rw [List.getElem?_map]
  by_cases hi : i < xs.length
  ·rw [List.getElem?_range hi]
   simp [hi]
  ·rw [List.getElem?_eq_none (by simpa using hi), List.getElem?_eq_none (by simpa using hi)]
   rfl
 have := h1.map (fun i => xs.getD i d)
 rwa [h2] at this
theorem m_sort_long {D n : Nat} {vs : List Value} {ms : List Tri} {Q : Value → Shared → Prop} (F : Fr h₀ L s.heap m) (N : News h₀ L s.heap ((D, listOf vs.toArray n) :: rest)) (X : (KN w.params).In h₀) (hoff : ∀ p ∈ rest, p.1 ≠ D) (hM : MAre rest vs ms) (hd : ∀ c ∈ ms, ∀ c' ∈ ms, c.1 = c'.1 → c = c') (h2 : 2 ≤ ms.length) (h64 : ms.length < 64) (hu : A.units + 1 < cLine)
  (h : ∀ h' vs' ms' n', Fr h₀ L h' m → News h₀ L h' ((D, listOf vs'.toArray n') :: rest) → MAre rest vs' ms' → ms'.Perm ms → ms'.Pairwise (fun c c' => c.1 ≤ c'.1) → Q .none { s with heap := h' }) :
  wpAny (model prog w) A (call (.builtin "list.sort") [.ref D]) Q E s := by
 have hlen := hM.len
 have get : ∀ {hh : Heap} {e : Obj}, News h₀ L hh ((D, e) :: rest) → ∀ i, i < ms.length → MGet hh ms vs i := fun N' i hi => by
  obtain ⟨x, _, a, b, ⟨dx, t1, t2, t3, n⟩⟩ := hM.at_ i _ (List.getElem?_eq_getElem hi)
  exact ⟨_, x, dx, t1, t2, t3, n, List.getElem?_eq_getElem hi, a, (N' _ (.tail _ b)).1⟩
 refine kas_lsort (vs := vs) (T := .ref 163) (g := fun o => (D, o) :: rest) F N (.head hoff) (by simp) (by lia) (by lia) ?_ (by decide) ?_
 ·intro e1 hh F' N' v hv
  obtain ⟨i, hi, rfl⟩ := List.getElem_of_mem hv
  obtain ⟨c, x, dx, t1, t2, t3, k, _, a, b⟩ := get N' i (by lia)
  rw [List.getElem?_eq_getElem hi] at a
  rw [Option.some.inj a]
  exact m_type b
 ·intro e1 hh F' N'
  have key := sort_ok (key := fun i => ((ms.getD i (0, 0, 0)).1 : Int)) (n := ms.length) (by lia)
  rw [hlen]
  refine kasWp_ok (key := fun i => ((ms.getD i (0, 0, 0)).1 : Int)) (n := ms.length) ?_ ?_ _ key
  ·intro i j C hi hj hC
   obtain ⟨c, x, dx, t1, t2, t3, k, e1, a, b⟩ := get N' i hi
   obtain ⟨c', x', dx', t1', t2', t3', k', e1', a', b'⟩ := get N' j hj
   unfold kas_ask
   have v1 : vs.getD i Value.none = .ref x := by rw [List.getD_eq_getElem?_getD, a]; rfl
   have v2 : vs.getD j Value.none = .ref x' := by rw [List.getD_eq_getElem?_getD, a']; rfl
   have k1 : ms.getD i (0, 0, 0) = c := by rw [List.getD_eq_getElem?_getD, e1]; rfl
   have k2 : ms.getD j (0, 0, 0) = c' := by rw [List.getD_eq_getElem?_getD, e1']; rfl
   rw [v1, v2]
   rw [k1, k2] at hC
   refine m_keyLt hu (X.keeps F'.keep) b b' (fun e => ?_) hC
   have := hd c (List.mem_of_getElem? e1) c' (List.mem_of_getElem? e1') (by lia)
   rw [this]; exact ⟨rfl, rfl⟩
  ·rintro p ⟨hp, hA⟩
   refine KasFin.intro F' N' (.head hoff) fun h' c F2 N2 => ?_
   have hps := hp.size
   refine h h' (p.toList.map fun i => vs.getD i Value.none) (p.toList.map fun i => ms.getD i (0, 0, 0)) c F2 N2 ⟨by simp, fun i c' e => ?_⟩ (perm_pick _ ms hp) ?_
   ·rw [List.getElem?_map] at e
    obtain ⟨j, hj, rfl⟩ := Option.map_eq_some_iff.mp e
    have hjn : j < ms.length := by
     have := (Array.Perm.mem_iff hp).mp (Array.mem_def.mpr (List.mem_of_getElem? hj))
     simpa using this
    obtain ⟨x, o, a, b, d⟩ := hM.at_ j _ (List.getElem?_eq_getElem hjn)
    refine ⟨x, o, ?_, b, ?_⟩
    ·rw [List.getElem?_map, hj, Option.map_some, List.getD_eq_getElem?_getD, a]; rfl
    ·rw [List.getD_eq_getElem?_getD, List.getElem?_eq_getElem hjn]; exact d
   ·rw [List.pairwise_map, List.pairwise_iff_getElem]
    intro i j hi hj hij
    have := hA i j (by lia) (by simp at hj; lia)
    unfold kk at this
    simp only [Array.length_toList] at hi hj
    have e1 : p.getD i 0 = p.toList[i]'(by simpa using hi) := by simp [Array.getD, hi]
    have e2 : p.getD j 0 = p.toList[j]'(by simpa using hj) := by simp [Array.getD, hj]
    rw [e1, e2] at this
    dsimp only at this
    lia
theorem m_sort_short {D n : Nat} {vs : List Value} {Q : Value → Shared → Prop} (F : Fr h₀ L s.heap m) (N : News h₀ L s.heap ((D, listOf vs.toArray n) :: rest)) (hoff : ∀ p ∈ rest, p.1 ≠ D) (h2 : vs.length < 2)
  (h : ∀ h' n', Fr h₀ L h' m → News h₀ L h' ((D, listOf vs.toArray n') :: rest) → Q .none { s with heap := h' }) :
  wpAny (model prog w) A (call (.builtin "list.sort") [.ref D]) Q E s := by
 have nz := N _ (.head _)
 have nr : News h₀ L s.heap rest := fun p hp => N p (.tail _ hp)
 have hz : vs.toArray.size < 2 := by simpa using h2
 refine wpAny_call_entry slot_list_sort ⟨_, nz.1, rfl⟩ entry_list_sort ?_ (args_list_sort _)
 rw [list_sort_plain]
 refine wpAny_bind (listItems_at nz.1 rfl (wpAny_bind (listUpdate_at nz.1 rfl ?_ (by rw [sizeLine_eq]; lia) (Nat.zero_le _))))
 have s1 := Heap.SameBut.update s.heap D (Obj.mapSeq fun _ => (#[] : Array Value))
 obtain ⟨e1, ho1⟩ : ∃ e1, (s.heap.update D (Obj.mapSeq fun _ => (#[] : Array Value))).get? D = some (seqObj "list" #[] e1) := ⟨_, get?_update_seq nz.1 fun _ => #[]⟩
 have F1 := kas_fr F s1 nz.2.1 nz.2.2
 have N1 := kas_news nr s1 hoff
 generalize s.heap.update D (Obj.mapSeq fun _ => (#[] : Array Value)) = h1 at ho1 F1 N1
 refine wpAny_bind (seqEpoch_at ho1 rfl (wpAny_bind (wpAny_newTuple ?_ (by rw [Array.length_toList, sizeLine_eq]; lia))))
 refine wpAny_bind (wpAny_newList ?_ (Nat.zero_le _))
 refine wpAny_holding ?_
 rw [if_pos hz, if_pos hz]
 refine wpAny_bind (wpAny_pure (wpAny_bind (wpAny_pure ?_)))
 dsimp only
 have e2 : (arrOf (SortSt.mk' general' (vs.toArray.zip vs.toArray) #[] 7 none)).map (·.2) = vs.toArray := by
  show (vs.toArray.zip vs.toArray).map (·.2) = vs.toArray
  apply Array.toList_inj.mp
  rw [Array.toList_map, Array.toList_zip]
  exact List.map_snd_zip (Nat.le_refl _)
 have F2 := (F1.push { cls := .type "tuple", data := .seq vs.toArray }).push { cls := .type "list", data := .seq #[] }
 have N2 : News h₀ L ((h1.push { cls := .type "tuple", data := .seq vs.toArray }).push { cls := .type "list", data := .seq #[] }) rest := N1.grown fun b x e => Heap.get?_push_of_some _ (Heap.get?_push_of_some _ e)
 have ho2 : ((h1.push { cls := .type "tuple", data := .seq vs.toArray }).push { cls := .type "list", data := .seq #[] }).get? D = some (seqObj "list" #[] e1) := Heap.get?_push_of_some _ (Heap.get?_push_of_some _ ho1)
 generalize (h1.push { cls := .type "tuple", data := .seq vs.toArray }).push { cls := .type "list", data := .seq #[] } = h2 at F2 N2 ho2
 refine wpAny_bind (seqEpoch_at ho2 rfl ?_)
 rw [e2]
 refine wpAny_bind (listUpdate_at ho2 rfl ?_ (Nat.zero_le _) (by rw [sizeLine_eq]; lia))
 refine KFB.if_not (by simp) (wpAny_pure ⟨_, rfl, ?_⟩)
 have s2 := Heap.SameBut.update h2 D (Obj.mapSeq fun _ => vs.toArray)
 obtain ⟨c2, hc2⟩ : ∃ c2, (h2.update D (Obj.mapSeq fun _ => vs.toArray)).get? D = some (seqObj "list" vs.toArray c2) := ⟨_, get?_update_seq ho2 fun _ => vs.toArray⟩
 refine h _ c2 (kas_fr F2 s2 nz.2.1 nz.2.2) fun p hp => ?_
 rcases List.mem_cons.mp hp with rfl | hp
 ·exact ⟨hc2, nz.2⟩
 ·exact kas_news N2 s2 hoff p hp
theorem m_sort {D n : Nat} {vs : List Value} {ms : List Tri} {Q : Value → Shared → Prop} (F : Fr h₀ L s.heap m) (N : News h₀ L s.heap ((D, listOf vs.toArray n) :: rest)) (X : (KN w.params).In h₀) (hoff : ∀ p ∈ rest, p.1 ≠ D) (hM : MAre rest vs ms) (hd : ∀ c ∈ ms, ∀ c' ∈ ms, c.1 = c'.1 → c = c') (h64 : ms.length < 64) (hu : A.units + 1 < cLine)
  (h : ∀ h' vs' ms' n', Fr h₀ L h' m → News h₀ L h' ((D, listOf vs'.toArray n') :: rest) → MAre rest vs' ms' → ms'.Perm ms → ms'.Pairwise (fun c c' => c.1 ≤ c'.1) → Q .none { s with heap := h' }) :
  wpAny (model prog w) A (call (.builtin "list.sort") [.ref D]) Q E s := by
 have hl := hM.len
 by_cases h2 : 2 ≤ ms.length
 ·exact m_sort_long F N X hoff hM hd h2 h64 hu h
 ·refine m_sort_short F N hoff (by lia) fun h' n' F' N' => h h' vs ms n' F' N' hM (.refl _) ?_
  match ms, h2 with
  | [], _ => exact .nil
  | [a], _ => exact List.pairwise_singleton _ _
  | _ :: _ :: _, h2 => simp at h2
end
end Mine
end
section
namespace Mine
theorem mro_map : mroOf (.type "map") = pure [.type "map", .type "object"] := by rw [mroOf_type]; kernel_rfl
theorem lookup_map_new : typeLookup (.type "map") "__new__" = pure (some (.builtin "map.__new__")) := by rw [typeLookup_type, builtinLookup_eq_fast]; kernel_rfl
theorem slot_map_init : Slot "map" "__init__" "object.__init__" :=
 .of (owner := "object") (n := "__init__") (by rw [typeLookup_type, builtinLookup_eq_fast]; kernel_rfl) (by decide +kernel) (by decide +kernel) (by decide +kernel)
  (by first | exact .inl (by decide +kernel) | exact .inr (by decide +kernel)) (by rw [isSubtype_type]; kernel_rfl)
theorem slot_map_next : Slot "map" "__next__" "map.__next__" :=
 .of (owner := "map") (n := "__next__") (by rw [typeLookup_type, builtinLookup_eq_fast]; kernel_rfl) (by decide +kernel) (by decide +kernel) (by decide +kernel)
  (by first | exact .inl (by decide +kernel) | exact .inr (by decide +kernel)) (by rw [isSubtype_type]; kernel_rfl)
theorem slot_map_iter : Slot "map" "__iter__" "map.__iter__" :=
 .of (owner := "map") (n := "__iter__") (by rw [typeLookup_type, builtinLookup_eq_fast]; kernel_rfl) (by decide +kernel) (by decide +kernel) (by decide +kernel)
  (by first | exact .inl (by decide +kernel) | exact .inr (by decide +kernel)) (by rw [isSubtype_type]; kernel_rfl)
theorem entry_map_next : entryFor table "map.__next__" = some Builtin.«map.__next__» := entryFor_of_tree (by kernel_rfl)
theorem entry_map_new : entryFor table "map.__new__" = some Builtin.«map.__new__» := entryFor_of_tree (by kernel_rfl)
theorem entry_map_iter : entryFor table "map.__iter__" = some Builtin.«dict_keyiterator.__iter__» :=
 entryFor_alias (id' := "dict_keyiterator.__iter__") (by kernel_rfl) (by first | rfl | decide +kernel | (unfold String.splitOn; simp +decide [String.splitOnAux])) (by decide +kernel) (by kernel_rfl)
theorem called_map : TypeCalled "map" "map.__new__" "object.__init__" :=
 ⟨by decide +kernel, by decide +kernel, ⟨_, _, mro_map⟩, madeBy_type mro_map lookup_map_new (by decide +kernel), by decide +kernel, by rw [isSubtype_type]; kernel_rfl, slot_map_init⟩
theorem typeCall_map_2 (a b : Value) : checkTypeCall "map" ⟨[a, b], []⟩ = pure () := by kernel_rfl
theorem newCall_map_2 (a b : Value) : checkBuiltinCall "map.__new__" ⟨[.type "map", a, b], []⟩ = pure () := by kernel_rfl
theorem args_map_next (a : Value) : argsOk "map.__next__" ⟨[a], []⟩ := by unfold argsOk; kernel_rfl
theorem args_map_iter (a : Value) : argsOk "map.__iter__" ⟨[a], []⟩ := by unfold argsOk; kernel_rfl
theorem sub_map : isSubtype (.type "map") (.type "map") = pure true := by rw [isSubtype_type]; kernel_rfl
theorem map_no_len : typeLookup (.type "map") "__len__" = pure none := by rw [typeLookup_type, builtinLookup_eq_fast]; kernel_rfl
theorem map_no_hint : typeLookup (.type "map") "__length_hint__" = pure none := by rw [typeLookup_type, builtinLookup_eq_fast]; kernel_rfl
theorem args_oinit_3 (a b c : Value) : argsOk "object.__init__" ⟨[a, b, c], []⟩ := by unfold argsOk; kernel_rfl
open AutoSeq1 (wpAny_loadPart')
noncomputable abbrev mapObj (T q : Addr) : Obj := { cls := .type "map", data := .fields #[.ref T, .ref q] }
noncomputable abbrev lit0 (l : Addr) : Obj := { cls := .type "list_iterator", data := .fields #[.ref l, .int 0 0] }
noncomputable abbrev tup1 (x : Addr) : Obj := { cls := .type "tuple", data := .seq #[.ref x] }
theorem meets_map_new (q l : Addr) (items : Array Value) :
  Meets (Builtin.«map.__new__» ⟨[.type "map", .ref q, .ref l], []⟩) (fun _ R s => s.heap.IsList l items ∧
   R (.ok (.ret (.ref ((s.heap.push (lit0 l)).push (tup1 s.heap.objs.size)).objs.size)))
    { s with heap := ((s.heap.push (lit0 l)).push (tup1 s.heap.objs.size)).push (mapObj (s.heap.push (lit0 l)).objs.size q) }) :=
 .of_wp fun prog w A R s h => by
  obtain ⟨hp, g, d, tk, os⟩ := s; obtain ⟨hL, h⟩ := h
  have hsub := sub_map
  wp_walk using wpAny_pyIter_list hL
  exact ⟨_, rfl, h⟩
section
variable {w : World} {A : Around} {E : Value → Shared → Prop} {s : Shared} {h₀ : Heap} {L : Addr} {m : Str → Option Value} {news : List (Addr × Obj)}
theorem call_map {q l nn : Nat} {its : Array Value} {Q : Value → Shared → Prop} (F : Fr h₀ L s.heap m) (N : News h₀ L s.heap news) (hl : (l, listOf its nn) ∈ news)
  (h : ∀ mp T It h', Fr h₀ L h' m → News h₀ L h' ((mp, mapObj T q) :: (T, tup1 It) :: (It, lit0 l) :: news) → (∀ p ∈ news, @LT.lt Nat _ p.1 It) → @LT.lt Nat _ It T → @LT.lt Nat _ T mp → Q (.ref mp) { s with heap := h' }) :
  wpAny (model prog w) A (call (.type "map") [.ref q, .ref l]) Q E s := by
 have hL : s.heap.IsList l its := ⟨_, (N _ hl).1, rfl, nn, rfl⟩
 refine callType_new called_map (by decide) (typeCall_map_2 _ _) (newCall_map_2 _ _) (fun obj => args_oinit_3 obj _ _) entry_map_new (meets_map_new q l its) ⟨hL, ?_⟩
 have N1 := News.push F N (lit0 l)
 have F1 := F.push (lit0 l)
 have N2 := News.push F1 N1 (tup1 s.heap.objs.size)
 have F2 := F1.push (tup1 s.heap.objs.size)
 have N3 := News.push F2 N2 (mapObj (s.heap.push (lit0 l)).objs.size q)
 have F3 := F2.push (mapObj (s.heap.push (lit0 l)).objs.size q)
 refine ⟨⟨_, Heap.get?_push_size _ rfl, rfl⟩, h _ _ _ _ F3 N3 (fun p hp => Heap.lt_size (N p hp).1) ?_ ?_⟩
 ·simp only [Heap.size_push]; exact Nat.lt_succ_self _
 ·simp only [Heap.size_push]; exact Nat.lt_succ_self _
theorem map_iter {mp T q : Nat} {Q : Value → Shared → Prop} (hm : s.heap.get? mp = some (mapObj T q)) (h : Q (.ref mp) s) : wpAny (model prog w) A (pyIter (.ref mp)) Q E s := by
 have hT : s.TypeIs (.ref mp) "map" := ⟨_, hm, rfl⟩
 refine wpAny_pyIter_slot hT slot_map_iter (wpAny_call_entry slot_map_iter hT entry_map_iter ?_ (args_map_iter _))
 show wpAny _ _ (ret (.ref mp)) _ _ s
 exact wpAny_pure ⟨_, rfl, "map", _, hT, slot_map_next.lookup, h⟩
theorem next_item {it l i : Nat} {items : Array Value} {x : Value} {Q : Value → Shared → Prop} (hit : s.heap.IsListIter it l i) (hl : s.heap.IsList l items) (hx : items[i]? = some x)
  (hQ : ∀ h', h'.IsListIter it l (i + 1) → Heap.SameBut it s.heap h' → Q x { s with heap := h' }) : wpAny (model prog w) A (Builtin.SmallTypes.nextOf (.ref it)) Q E s := by
 obtain ⟨o, ho, hc, hd⟩ := id hit
 obtain ⟨ol, hol, _, nl, hdl⟩ := hl
 unfold Builtin.SmallTypes.nextOf
 refine wpAny_bind (wpAny_callSpecial?_slot (name := Str.ofString "__next__") hit.typeIs slot_listiter_next
  (wpAny_call_entry slot_listiter_next hit.typeIs entry_listiter_next ?_ (args_listiter_next _)))
 show wpAny _ _ (field (.ref it) 0 >>= _) _ _ s
 refine wpAny_bind (wpAny_field ho hd (x := .ref l) rfl ?_)
 show wpAny _ _ (if (Value.ref l == Value.none) = true then _ else _) _ _ s
 rw [if_neg (show ¬ ((Value.ref l == Value.none) = true) from Bool.false_ne_true)]
 show wpAny _ _ (field (.ref it) 1 >>= _) _ _ s
 refine wpAny_bind (wpAny_field ho hd (x := .int i 0) rfl ?_)
 show wpAny _ _ (seqItems? (.ref l) >>= _) _ _ s
 refine wpAny_bind (wpAny_seqItems hol hdl ?_)
 simp only [Int.toNat_natCast, hx]
 refine wpAny_bind (wpAny_setField ho hd (by simp) (wpAny_pure ⟨x, rfl, wpAny_pure (hQ _ ?_ (Heap.SameBut.update ..))⟩))
 exact ⟨_, Heap.get?_update_self _ ho (Obj.isFreed_of_fields (Obj.data_mapFields hd _)), (Obj.cls_mapFields ..).trans hc, by
  rw [Obj.data_mapFields hd]; simp [rawInt]⟩
theorem map_item {mp T q It l i : Nat} {items : Array Value} {x : Value} {Q : Option Value → Shared → Prop} (hm : s.heap.get? mp = some (mapObj T q)) (ht : s.heap.get? T = some (tup1 It)) (hit : s.heap.IsListIter It l i) (hl : s.heap.IsList l items) (hx : items[i]? = some x) (hne : mp ≠ It)
  (hQ : ∀ h' A', A'.handled = A.handled → A'.depth = A.depth → A'.units ≤ A.units + 9 → h'.IsListIter It l (i + 1) → Heap.SameBut It s.heap h' → wpAny (model prog w) A' (call (.ref q) [x]) (fun v s' => Q (some v) s') (fun _ _ => False) { s with heap := h' }) : wpAny (model prog w) A (pyNext (.ref mp)) Q E s := by
 have hT : s.TypeIs (.ref mp) "map" := ⟨_, hm, rfl⟩
 unfold pyNext
 refine wpAny_bind (wpAny_attempt (wpAny_callSpecial?_slot (name := Str.ofString "__next__") hT slot_map_next
  (wpAny_call_entry slot_map_next hT entry_map_next ?_ (args_map_next _))))
 show wpAny _ _ (field (.ref mp) 0 >>= _) _ _ s
 refine wpAny_bind (wpAny_field hm rfl (x := .ref T) rfl ?_)
 refine wpAny_bind (wpAny_seqItems ht rfl ?_)
 dsimp only
 simp only [← Array.forIn_toList, List.forIn_cons, List.forIn_nil, bind_assoc, pure_bind]
 refine wpAny_bind (wpAny_holding (next_item hit hl hx fun h' hi' hs' => ?_))
 have hm' := hs'.extBut mp _ hne hm
 refine wpAny_bind (wpAny_field hm' rfl (x := .ref q) rfl ?_)
 refine wpAny_bind (wpAny_holding (wpAny_mono (hQ h' _ rfl rfl (by simp only [Around.in1_units]; lia) hi' hs') (fun v s' hv => ?_) fun _ _ f => f.elim))
 exact wpAny_bind (wpAny_letGo (wpAny_pure ⟨v, rfl, wpAny_pure hv⟩))
theorem map_last {mp T q It l i : Nat} {items : Array Value} {Q : Option Value → Shared → Prop} (hh : A.handled = none) (hm : s.heap.get? mp = some (mapObj T q)) (ht : s.heap.get? T = some (tup1 It)) (hit : s.heap.IsListIter It l i) (hl : s.heap.IsList l items) (hx : items[i]? = none)
  (hQ : ∀ h', Heap.ExtBut It s.heap h' → Q none { s with heap := h' }) : wpAny (model prog w) A (pyNext (.ref mp)) Q E s := by
 have hT : s.TypeIs (.ref mp) "map" := ⟨_, hm, rfl⟩
 obtain ⟨o, ho, hc, hd⟩ := id hit
 obtain ⟨ol, hol, _, nl, hdl⟩ := hl
 unfold pyNext
 refine wpAny_bind (wpAny_attempt (wpAny_callSpecial?_slot (name := Str.ofString "__next__") hT slot_map_next
  (wpAny_call_entry slot_map_next hT entry_map_next ?_ (args_map_next _))))
 show wpAny _ _ (field (.ref mp) 0 >>= _) _ _ s
 refine wpAny_bind (wpAny_field hm rfl (x := .ref T) rfl ?_)
 refine wpAny_bind (wpAny_seqItems ht rfl ?_)
 dsimp only
 simp only [← Array.forIn_toList, List.forIn_cons, List.forIn_nil, bind_assoc, pure_bind]
 refine wpAny_bind (wpAny_holding ?_)
 unfold Builtin.SmallTypes.nextOf
 refine wpAny_bind (wpAny_callSpecial?_slot (name := Str.ofString "__next__") hit.typeIs slot_listiter_next
  (wpAny_call_entry slot_listiter_next hit.typeIs entry_listiter_next ?_ (args_listiter_next _)))
 show wpAny _ _ (field (.ref It) 0 >>= _) _ _ s
 refine wpAny_bind (wpAny_field ho hd (x := .ref l) rfl ?_)
 show wpAny _ _ (if (Value.ref l == Value.none) = true then _ else _) _ _ s
 rw [if_neg (show ¬ ((Value.ref l == Value.none) = true) from Bool.false_ne_true)]
 show wpAny _ _ (field (.ref It) 1 >>= _) _ _ s
 refine wpAny_bind (wpAny_field ho hd (x := .int i 0) rfl ?_)
 show wpAny _ _ (seqItems? (.ref l) >>= _) _ _ s
 refine wpAny_bind (wpAny_seqItems hol hdl ?_)
 simp only [Int.toNat_natCast, hx]
 refine wpAny_bind (wpAny_rule (wpAny_bind (wpAny_setField ho hd (by simp) (stop_run hh fun e h' he hk => ?_))))
 dsimp only
 refine wpAny_bind (wpAny_isInstance (T := "StopIteration") (b := true) he isSubtype_stop ?_)
 exact wpAny_pure (hQ _ fun b o hb e => hk b o ((Heap.SameBut.update ..).extBut b o hb e))
end
end Mine
end
section
theorem Mine.wlMkr : True := by
 k_with_none
 trivial
namespace Mine
theorem code_weaken {M : Model} {d : Nat} {A : Around} {c : Code} {R : Result → Shared → Prop} {s : Shared} (h : codeAny M (AA d) c R s) (hh : A.handled = none) (hd : A.depth ≤ d) (hu : A.units ≤ 10 * d) : codeAny M A c R s := by
 intro Γ p hc hΓ
 obtain ⟨a, b, _, _, e⟩ := hΓ
 exact h Γ p hc ⟨a.trans hh, Nat.le_trans b hd, fun l hl => (nomatch hl), fun g hg => (nomatch hg), Nat.le_trans e hu⟩
theorem enter_defC {w : World} {mg mb : Str → Option Value} {A : Around} {s : Shared} {g : Heap} {pass : List (Addr × Obj)} {f : Addr} {args : List Value} {binds : List (Str × Value)} {Q E : Value → Shared → Prop}
  {name qual : Str} {params : Arguments} {body : List Stmt} {scope : Scope} {cl : List (Str × Addr)} {dV kV doc pm cdv ct oc : Value} {an od : Option Addr} {osl : Array (Option Value)}
  (X : (KN w.params).In g) (T : TR mg mb g) (st : ∀ b o, g.get? b = some o → s.heap.get? b = some o) (sz : g.objs.size ≤ s.heap.objs.size) (N : ∀ p ∈ pass, s.heap.get? p.1 = some p.2 ∧ g.get? p.1 = none)
  (ho : s.heap.get? f = some ⟨oc, od, .func (fnX name qual params body scope cl dV kV doc pm an cdv ct), osl⟩) (hcd : s.heap.CodeRec cdv qual) (hroom : A.depth < recursionLimit)
  (hbind : BindsTo s (fnX name qual params body scope cl dV kV doc pm an cdv ct) ⟨args, []⟩ binds) (hloc : ∀ y ∈ binds, scope.names.lookup y.1 = some .local)
  (h : ∀ L h₁, Fr g L h₁ (fun y => binds.reverse.lookup y) → News g L h₁ pass → @LE.le Nat _ g.objs.size L →
   wpAny (model prog w) (A.deeper (envX qual scope L f cdv cl)) (execs body (envX qual scope L f cdv cl)) (fun fl s' => Q (match fl with | .ret v => v | _ => .none) s') (fun _ _ => False)
    { s with heap := h₁, toks := s.toks + binds.length })
  (hcell : ∀ x ∈ scope.names, x.2 ≠ .cell) (hco : scope.isCoroutine = false := by rfl) (hgen : scope.isGenerator = false := by rfl) (hk : scope.kind = .function := by rfl) : codeAny (model prog w) A (.call (.ref f) ⟨args, []⟩) (fun r s' => match r with | .ok (.ret v) => Q v s' | .ok _ => False | .error e => E e s') s := by
 refine codeAny_call_def (fd := fnX name qual params body scope cl dV kV doc pm an cdv ct) (body := body) (binds := binds) hroom ho rfl (T.nolimit.keeps st) hcd rfl hbind hcell hloc (fun h₁ hns hk₁ => ?_) hco hgen hk
 refine wpAny_mono (h s.heap.objs.size h₁ ⟨hns, fun b o e => hk₁ b o (st b o e), sz⟩ (fun p hp => ⟨hk₁ _ _ (N p hp).1, Nat.ne_of_lt (Heap.lt_size (N p hp).1), (N p hp).2⟩) sz) (fun fl s' q => q) fun _ _ x => x.elim
theorem wlMk0 : True := by
 k_with_none
 k_with "getMethod type:tuple" => (k_here; (refine' method_type (v := PySem.Value.builtin "tuple.__new__") ?F ?X ?ht ?hs ?e ?hh ?_; (case F => assumption); (case X => assumption); (case ht => kernel_rfl); (case hs => decide +kernel); (case e => kernel_rfl); (case hh => kernel_rfl); k_whole))
 k_with "call builtin:tuple.__new__" => (k_here; (refine' tnew_call ?F ?N ?X (tup_keep ?F2 ?m) ?z ?_; (case F => assumption); (case N => first | assumption | exact News.nil); (case X => assumption); (case F2 => assumption); (case m => assumption); (case z => (rw [sizeLine_eq]; exact Nat.le_of_ble_eq_true rfl)); k_whole); intro _ _ _ _ _ _ _)
 k_with "call builtin:len" => (k_here; (refine' len_matchN ?F ?N ?X ?m ?z ?_; (case F => assumption); (case N => assumption); (case X => assumption); (case m => k_mem); (case z => exact (show ((3 : Nat) : Int) < 2 ^ 63 from by decide)); k_whole); intro _ _)
 trivial
theorem mtmakeC (w : World) (D : Nat) (i j k : Int) (t1 t2 t3 : Tok) : ∀ (mg mb : Str → Option Value) (s : Shared) (g : Heap) (Q E : Value → Shared → Prop), (KN w.params).In g → TR mg mb g → g.IsTuple D #[.int i t1, .int j t2, .int k t3] → (∀ b o, g.get? b = some o → s.heap.get? b = some o) → g.objs.size ≤ s.heap.objs.size →
  (∀ p ∈ ([] : List (Addr × Obj)), s.heap.get? p.1 = some p.2 ∧ g.get? p.1 = none) →
  (∀ x dx h' tk', (∀ b o, g.get? b = some o → h'.get? b = some o) → h'.get? x = some (matchObj dx #[.int i t1, .int j t2, .int k t3] 0) → g.get? x = none → Q (.ref x) { s with heap := h', toks := tk' }) →
  codeAny (model PySem.Challenge.rw_ik0098_01.row.prog w) (AA 360) (.call (.ref 117) ⟨[.ref 163, .ref D], []⟩) (fun r s' => match r with | .ok (.ret v) => Q v s' | .ok _ => False | .error e => E e s') s := by
 k_fill
 intro mg mb s g Q E X T hpre st sz N hret
 refine' enter_defC (binds := [(Str.ofString "cls", .ref 163), (Str.ofString "iterable", .ref D)]) X T st sz N ?ho ?hcd ?hroom ?hb ?hl ?_ ?hc ?h1 ?h2 ?h3
 case ho => (refine' st _ _ (X _ _ ?e); (case e => k_is))
 case hcd => exact codeRec_of (Frag.In.keeps X st) (by k_is)
 case hroom => decide
 case hb => first | exact BindsTo.of_eq rfl | exact binds_K (Frag.In.keeps X st) rfl (by k_is) rfl rfl rfl
 case hl => exact locs rfl
 case hc => decide
 case h1 => exact rfl
 case h2 => exact rfl
 case h3 => exact rfl
 k_whole
 intro L' h' F' N' hL'
 clear N
 k_steps
 rename Fr _ _ _ _ => F
 rename News _ _ _ _ => N
 rename @LT.lt Nat _ _ _ => l2
 exact hret _ _ _ _ (Fr.keep F) (N _ (.head _)).1 (N _ (.head _)).2.2
noncomputable abbrev tup3 (c : Tri) (t1 t2 t3 : Tok) : Obj := { cls := .type "tuple", data := .seq #[.int (c.1 : Int) t1, .int (c.2.1 : Int) t2, .int (c.2.2 : Int) t3] }
inductive TIs (c : Tri) : Obj → Prop
 | mk (t1 t2 t3 : Tok) : TIs c (tup3 c t1 t2 t3)
noncomputable abbrev TAre := @LAre Tri TIs
section
variable {w : World} {A : Around} {h₀ : Heap} {L : Addr} {m : Str → Option Value} {mg mb : Str → Option Value}
theorem map_loop {S mp Tt q It l nn : Nat} {nvs : List Value} {ms : List Tri} {keep : List (Addr × Obj)} (X : (KN w.params).In h₀) (T : TR mg mb h₀) (hh : A.handled = none) (hd : A.depth ≤ 360) (hu : A.units + 20 ≤ 3600) (hm : (mp, mapObj Tt q) ∈ keep) (ht : (Tt, tup1 It) ∈ keep) (hq : (q, methodObj (.ref 117) (.ref 163)) ∈ keep) (hl : (l, listOf nvs.toArray nn) ∈ keep) (hT : TAre keep nvs ms) (kS : ∀ p ∈ keep, p.1 ≠ S) (kI : ∀ p ∈ keep, p.1 ≠ It) (hSI : It ≠ S) (hIL : It ≠ L) (hI0 : h₀.get? It = none) (res : Value) (hz : nvs.length ≤ 100) (R : Result → Shared → Prop) :
  ∀ (k i : Nat) (s : Shared) (acc : List Value) (c : Nat) (objs : List (Addr × Obj)), nvs.length - i = k → i ≤ nvs.length → Fr h₀ L s.heap m → News h₀ L s.heap ((S, listOf acc.toArray c) :: (objs ++ keep)) → s.heap.IsListIter It l i → MAre objs acc (ms.take i) → (∀ p ∈ objs, p.1 ≠ S ∧ p.1 ≠ It) → (∀ p ∈ objs, ∀ q ∈ keep, p.1 ≠ q.1) →
   (∀ h' tk acc' c' objs', Fr h₀ L h' m → News h₀ L h' ((S, listOf acc'.toArray c') :: (objs' ++ keep)) → MAre objs' acc' ms → (∀ p ∈ objs', p.1 ≠ S) → (∀ p ∈ objs', ∀ q ∈ keep, p.1 ≠ q.1) → R (.ok (.ret res)) { s with heap := h', toks := tk }) →
   codeAny (model prog w) A (.builtin "list.extend.loop" ⟨[.ref S, .ref mp, res], []⟩) R s := by
 have hnm := hT.len
 intro k
 induction k with
 | zero =>
  intro i s acc c objs hk hi F N hit hM ho ho2 hR
  have hin : i = nvs.length := by lia
  subst hin
  refine codeAny_builtin PySem.F.entry_extend_loop ?_
  rw [Around.under_plainId PySem.F.plain_extend_loop _]
  show wpAny _ A.in1 (pyNext (.ref mp) >>= _) _ _ s
  have get : ∀ p ∈ keep, s.heap.get? p.1 = some p.2 := fun p hp => (N p (.tail _ (List.mem_append_right _ hp))).1
  refine wpAny_bind (map_last (items := nvs.toArray) hh (get _ hm) (get _ ht) hit ⟨_, get _ hl, rfl, nn, rfl⟩ (by simp) fun h' he => ?_)
  refine wpAny_pure (hR h' s.toks acc c objs ⟨F.ns.extBut he hIL.symm, fun b o e => he b o (fun z => by rw [z, hI0] at e; cases e) (F.keep b o e), F.above⟩ (fun p hp => ⟨he _ _ ?_ (N p hp).1, (N p hp).2⟩) ?_ (fun p hp => (ho p hp).1) ho2)
  ·rcases List.mem_cons.mp hp with rfl | hp
   ·exact hSI.symm
   rcases List.mem_append.mp hp with hp | hp
   ·exact (ho p hp).2
   ·exact kI p hp
  ·rw [hnm, List.take_length] at hM; exact hM
 | succ k ih =>
  intro i s acc c objs hk hi F N hit hM ho ho2 hR
  have hlt : i < nvs.length := by lia
  refine codeAny_builtin PySem.F.entry_extend_loop ?_
  rw [Around.under_plainId PySem.F.plain_extend_loop _]
  show wpAny _ A.in1 (pyNext (.ref mp) >>= _) _ _ s
  have get : ∀ p ∈ keep, s.heap.get? p.1 = some p.2 := fun p hp => (N p (.tail _ (List.mem_append_right _ hp))).1
  have hilt : i < ms.length := by lia
  have hc := List.getElem?_eq_getElem hilt
  generalize ms[i] = t at hc
  obtain ⟨D, _, eD, hD, ⟨t1, t2, t3⟩⟩ := hT.at_ i t hc
  refine wpAny_bind (map_item (items := nvs.toArray) (x := .ref D) (get _ hm) (get _ ht) hit ⟨_, get _ hl, rfl, nn, rfl⟩ (by simpa using eD) (kI _ hm) fun h1 A' e1 e2 e3 hi1 hs1 => ?_)
  have F1 := kas_fr F hs1 hIL hI0
  have N1 := kas_news N hs1 (fun p hp => by
   rcases List.mem_cons.mp hp with rfl | hp
   ·exact hSI.symm
   rcases List.mem_append.mp hp with hp | hp
   ·exact (ho p hp).2
   ·exact kI p hp)
  have get1 : ∀ p ∈ keep, h1.get? p.1 = some p.2 := fun p hp => (N1 p (.tail _ (List.mem_append_right _ hp))).1
  refine wpAny_call (method_call (get1 _ hq) (code_weaken (mtmakeC w D _ _ _ t1 t2 t3 mg mb { s with heap := h1 } h1 _ _ (X.keeps F1.keep) (T.keeps F1.keep) ⟨_, get1 _ hD, rfl, _, rfl⟩ (fun b o e => e) (Nat.le_refl _) (fun p hp => nomatch hp) ?_) (e1.trans hh) (by rw [e2]; exact hd) (by have : A.in1.units = A.units + 1 := rfl; lia)))
  intro x dx h2 tk2 hk2 hx hxn
  dsimp only
  have F2 := F1.keeps hk2
  have N2 := News.keepsAll N1 hk2
  have ne : ∀ p ∈ (S, listOf acc.toArray c) :: (objs ++ keep), p.1 ≠ x := fun p hp e => by
   have := (N1 p hp).1
   rw [e, hxn] at this; cases this
  have xI : x ≠ It := fun e => by
   obtain ⟨o, g, _⟩ := hi1
   rw [← e, hxn] at g; cases g
  have xL : x ≠ L := fun e => by
   obtain ⟨o, _, _, g, _⟩ := F1.ns
   rw [← e, hxn] at g; cases g
  have x0 : h₀.get? x = none := by
   cases e : h₀.get? x with
   | none => rfl
   | some o => have := F1.keep _ _ e; rw [hxn] at this; cases this
  have hS := (N2 _ (.head _)).1
  have hal := hM.len
  have hsz : acc.length ≤ 100 := by rw [hal, List.length_take]; lia
  show wpAny _ A.in1 (updateSeq S (·.push (.ref x)) >>= _) _ _ _
  refine wpAny_bind (wpAny_updateSeq hS rfl ?_ (by rw [sizeLine_eq]; simp only [List.size_toArray]; lia) (by rw [sizeLine_eq]; simp only [List.size_toArray, Array.size_push]; lia))
  have hs2 := Heap.SameBut.update h2 S (Obj.mapSeq (·.push (Value.ref x)))
  obtain ⟨c2, hc2⟩ : ∃ c2, (h2.update S (Obj.mapSeq (·.push (Value.ref x)))).get? S = some (listOf (acc ++ [Value.ref x]).toArray c2) := by
   have := get?_update_seq (c := "list") hS (·.push (Value.ref x))
   rw [List.push_toArray] at this
   exact ⟨_, this⟩
  have zS := (N2 _ (.head _)).2
  have F3 := kas_fr F2 hs2 zS.1 zS.2
  have N3 : News h₀ L (h2.update S (Obj.mapSeq (·.push (Value.ref x)))) ((S, listOf (acc ++ [Value.ref x]).toArray c2) :: (((x, mObj dx (t.1 : Int) (t.2.1 : Int) (t.2.2 : Int) t1 t2 t3 0) :: objs) ++ keep)) := fun p hp => by
   rcases List.mem_cons.mp hp with rfl | hp
   ·exact ⟨hc2, zS⟩
   rcases List.mem_cons.mp hp with rfl | hp
   ·exact ⟨(hs2.2 x fun e => ne _ (.head _) e.symm).trans hx, xL, x0⟩
   ·have z := N2 p (.tail _ hp)
    refine ⟨(hs2.2 p.1 ?_).trans z.1, z.2⟩
    rcases List.mem_append.mp hp with hp | hp
    ·exact (ho p hp).1
    ·exact kS p hp
  refine wpAny_pure ⟨plainId_quiet PySem.F.plain_extend_loop _, ih (i + 1) _ (acc ++ [.ref x]) c2 _ (by lia) hlt F3 N3 ((hi1.at fun o e => hk2 _ _ e).extBut hs2.extBut hSI) ?_ ?_ ?_ hR⟩
  ·rw [List.take_add_one, hc]
   exact (hM.sub fun p hp => .tail _ hp).snoc (.head _) (.mk _ _ _ _ _)
  ·intro p hp
   rcases List.mem_cons.mp hp with rfl | hp
   ·exact ⟨fun e => ne _ (.head _) e.symm, xI⟩
   ·exact ho p hp
  ·intro p hp r hr
   rcases List.mem_cons.mp hp with rfl | hp
   ·exact fun e => ne r (.tail _ (List.mem_append_right _ hr)) e.symm
   ·exact ho2 p hp r hr
theorem call_list_map {E : Value → Shared → Prop} {s : Shared} {Q : Value → Shared → Prop} {mp Tt q It l nn : Nat} {nvs : List Value} {ms : List Tri} {keep : List (Addr × Obj)} (X : (KN w.params).In h₀) (T : TR mg mb h₀) (hh : A.handled = none) (hd : A.depth ≤ 360) (hu : A.units + 23 ≤ 3600) (F : Fr h₀ L s.heap m) (N : News h₀ L s.heap keep) (hm : (mp, mapObj Tt q) ∈ keep) (ht : (Tt, tup1 It) ∈ keep) (hq : (q, methodObj (.ref 117) (.ref 163)) ∈ keep) (hl : (l, listOf nvs.toArray nn) ∈ keep) (hT : TAre keep nvs ms) (kI : ∀ p ∈ keep, p.1 ≠ It) (hit : s.heap.IsListIter It l 0) (hIL : It ≠ L) (hI0 : h₀.get? It = none) (hz : nvs.length ≤ 100)
  (hQ : ∀ S h' tk acc' c' objs', Fr h₀ L h' m → News h₀ L h' ((S, listOf acc'.toArray c') :: (objs' ++ keep)) → MAre objs' acc' ms → (∀ p ∈ objs', p.1 ≠ S) → (∀ p ∈ objs', ∀ q ∈ keep, p.1 ≠ q.1) → (∀ p ∈ keep, @LT.lt Nat _ p.1 S) → Q (.ref S) { s with heap := h', toks := tk }) :
  wpAny (model prog w) A (call (.type "list") [.ref mp]) Q E s := by
 have lt : ∀ p ∈ keep, p.1 < s.heap.objs.size := fun p hp => Heap.lt_size (N p hp).1
 have lI : It < s.heap.objs.size := by obtain ⟨o, g, _⟩ := hit; exact Heap.lt_size g
 have lm := lt _ hm
 refine callType_codes (Q₁ := fun obj s₁ => obj = .ref s.heap.objs.size ∧ s₁ = { s with heap := s.heap.push { cls := .type "list", data := .seq #[] } }) PySem.F.called_list (PySem.F.typeCall_list_1 _) PySem.F.entry_list_init
  (code_list_new _ ⟨rfl, rfl⟩) fun obj s₁ h₁ => ?_
 obtain ⟨rfl, rfl⟩ := h₁
 have hS : (s.heap.push { cls := .type "list", data := .seq #[] }).get? s.heap.objs.size = some (listOf #[] 0) := Heap.get?_push_size _ rfl
 have N1 : News h₀ L (s.heap.push { cls := .type "list", data := .seq #[] }) ((s.heap.objs.size, listOf #[] 0) :: keep) := News.push F N _
 have F1 := F.push { cls := .type "list", data := .seq #[] }
 have hit1 : (s.heap.push { cls := .type "list", data := .seq #[] }).IsListIter It l 0 := hit.at fun o e => Heap.get?_push_of_some _ e
 refine ⟨⟨_, hS, rfl⟩, PySem.F.args_list_init_2 _ _, ?_⟩
 generalize s.heap.objs.size = S at hS N1 lt lI lm
 have fin : ∀ (s' : Shared), (∃ h' tk, s' = { s with heap := h', toks := tk } ∧ Q (.ref S) { s with heap := h', toks := tk }) → Q (.ref S) s' := by
  rintro s' ⟨h', tk, rfl, h⟩; exact h
 generalize s.heap.push { cls := .type "list", data := .seq #[] } = h1 at hS N1 F1 hit1
 show wpAny _ A.in1.in1 (do let old ← Builtin.List.listItems (.ref S); Builtin.List.listUpdate (.ref S) (fun _ => #[]); letGo old.toList.reverse; Builtin.List.listExtendWith (.ref S) (.ref mp) .none) _ _ _
 refine wpAny_bind ?_
 unfold Builtin.List.listItems
 refine wpAny_bind (wpAny_seqItems hS rfl (wpAny_pure ?_))
 show wpAny _ A.in1.in1 (updateSeq S (fun _ => #[]) >>= fun _ => letGo (#[] : Array Value).toList.reverse >>= fun _ => Builtin.List.listExtendWith (.ref S) (.ref mp) .none) _ _ _
 have z1 := (N1 _ (.head _)).2
 have oth : ∀ {h2 : Heap} {c : Nat} (f : Array Value → Array Value) (xs ys : Array Value), f xs = ys → Fr h₀ L h2 m → News h₀ L h2 ((S, listOf xs c) :: keep) → h2.IsListIter It l 0 → ∃ c', Fr h₀ L (h2.update S (Obj.mapSeq f)) m ∧ News h₀ L (h2.update S (Obj.mapSeq f)) ((S, listOf ys c') :: keep) ∧ (h2.update S (Obj.mapSeq f)).IsListIter It l 0 := by
  rintro h2 c f xs ys rfl F2 N2 hi
  have hs2 := Heap.SameBut.update h2 S (Obj.mapSeq f)
  refine ⟨if (f xs).size == xs.size then c else c + 1, kas_fr F2 hs2 z1.1 z1.2, fun p hp => ?_, hi.extBut hs2.extBut (Nat.ne_of_lt lI)⟩
  rcases List.mem_cons.mp hp with rfl | hp
  ·exact ⟨get?_update_seq (c := "list") (N2 _ (.head _)).1 f, z1⟩
  ·exact ⟨(hs2.2 p.1 (Nat.ne_of_lt (lt p hp))).trans (N2 p (.tail _ hp)).1, (N2 p (.tail _ hp)).2⟩
 refine wpAny_bind (wpAny_updateSeq hS rfl ?_)
 obtain ⟨c1, F2, N2, hit2⟩ := oth (fun _ => #[]) #[] #[] rfl F1 N1 hit1
 generalize h1.update S (Obj.mapSeq fun _ => (#[] : Array Value)) = h2 at F2 N2 hit2
 refine wpAny_bind (wpAny_letGo ?_)
 unfold Builtin.List.listExtendWith
 have hM := (N2 _ (.tail _ hm)).1
 have hmT : ({ s with heap := h2 } : Shared).TypeIs (.ref mp) "map" := ⟨_, hM, rfl⟩
 refine wpAny_bind (wpAny_typeOf hmT ?_)
 have b1 : Builtin.List.listSameRef (.ref S) (.ref mp) = false := by
  have : S ≠ mp := Nat.ne_of_gt lm
  simp [Builtin.List.listSameRef, this]
 have b2 : (Value.type "map" == Value.type "list") = false := by decide
 have b3 : (Value.type "map" == Value.type "tuple") = false := by decide
 simp only [b1, b2, b3, Bool.or_false, Bool.false_eq_true, if_false]
 refine wpAny_bind (map_iter (s := { s with heap := h2 }) hM ?_)
 refine wpAny_bind (wpAny_holding ?_)
 unfold Builtin.List.listLengthHint
 refine wpAny_bind (wpAny_specialOf hmT map_no_len ?_)
 show wpAny _ A.in1.in1 (specialOf (Value.ref mp) (Str.ofString "__length_hint__") >>= _) _ _ _
 refine wpAny_bind (wpAny_specialOf hmT map_no_hint ?_)
 refine wpAny_pure ?_
 show wpAny _ A.in1.in1 (rule "list.extend.makes-room" >>= fun _ => Builtin.List.listTouch (.ref S) >>= fun _ =>
  again (.builtin "list.extend.loop" ⟨[.ref S, .ref mp, .none], []⟩)) _ _ _
 refine wpAny_bind (wpAny_rule ?_)
 refine wpAny_bind ?_
 show wpAny _ A.in1.in1 (updateSeq S (·.push .none) >>= fun _ => updateSeq S (·.pop)) _ _ _
 have hS2 := (N2 _ (.head _)).1
 refine wpAny_bind (wpAny_updateSeq hS2 rfl ?_)
 obtain ⟨c2, F3, N3, hit3⟩ := oth (·.push .none) #[] #[.none] rfl F2 N2 hit2
 generalize h2.update S (Obj.mapSeq (·.push Value.none)) = h3 at F3 N3 hit3
 have hS3 := (N3 _ (.head _)).1
 refine wpAny_updateSeq hS3 rfl ?_
 obtain ⟨c3, F4, N4, hit4⟩ := oth (·.pop) #[.none] #[] rfl F3 N3 hit3
 generalize h3.update S (Obj.mapSeq (·.pop)) = h4 at F4 N4 hit4
 refine wpAny_pure ⟨plainId_quiet PySem.F.plain_extend_loop _, map_loop (A := A.in1) (nvs := nvs) (ms := ms) (keep := keep) X T hh hd (by have : A.in1.units = A.units + 1 := rfl; lia) hm ht hq hl hT (fun p hp => Nat.ne_of_lt (lt p hp)) kI (Nat.ne_of_lt lI) hIL hI0 .none hz _ nvs.length 0 { s with heap := h4 } [] c3 [] rfl (Nat.zero_le _) F4 N4 hit4 (LAre.nil _) (fun p hp => nomatch hp) (fun p hp => nomatch hp) fun h' tk acc' c' objs' F' N' hM' ho' ho2' => ?_⟩
 exact ⟨rfl, hQ S h' tk acc' c' objs' F' N' hM' ho' ho2' lt⟩
theorem list_of_map {E : Value → Shared → Prop} {s : Shared} {Q : Value → Shared → Prop} {mp Tt q It l nn : Nat} {nvs : List Value} {ms : List Tri} {rest : List (Addr × Obj)} (X : (KN w.params).In h₀) (T : TR mg mb h₀) (hh : A.handled = none) (hd : A.depth ≤ 360) (hu : A.units + 23 ≤ 3600) (F : Fr h₀ L s.heap m) (N : News h₀ L s.heap ((mp, mapObj Tt q) :: (Tt, tup1 It) :: (It, lit0 l) :: rest)) (lI : ∀ p ∈ rest, @LT.lt Nat _ p.1 It) (lT : @LT.lt Nat _ It Tt) (lM : @LT.lt Nat _ Tt mp) (hq : (q, methodObj (.ref 117) (.ref 163)) ∈ rest) (hl : (l, listOf nvs.toArray nn) ∈ rest) (hT : TAre rest nvs ms) (hz : nvs.length ≤ 100)
  (hQ : ∀ S h' tk acc' c' objs', Fr h₀ L h' m → News h₀ L h' ((S, listOf acc'.toArray c') :: (objs' ++ rest)) → MAre objs' acc' ms → (∀ p ∈ objs', p.1 ≠ S) → (∀ p ∈ objs', ∀ q ∈ rest, p.1 ≠ q.1) → (∀ p ∈ rest, @LT.lt Nat _ p.1 S) → Q (.ref S) { s with heap := h', toks := tk }) :
  wpAny (model prog w) A (call (.type "list") [.ref mp]) Q E s := by
 have zI := N _ (.tail _ (.tail _ (.head _)))
 refine call_list_map (keep := (mp, mapObj Tt q) :: (Tt, tup1 It) :: rest) X T hh hd hu F (fun p hp => N p ?_) (.head _) (.tail _ (.head _)) (.tail _ (.tail _ hq)) (.tail _ (.tail _ hl)) (hT.sub fun p hp => .tail _ (.tail _ hp)) ?_ ⟨_, zI.1, rfl, rfl⟩ zI.2.1 zI.2.2 hz ?_
 ·rcases List.mem_cons.mp hp with h | hp
  ·exact h ▸ .head _
  rcases List.mem_cons.mp hp with h | hp
  ·exact h ▸ .tail _ (.head _)
  ·exact .tail _ (.tail _ (.tail _ hp))
 ·intro p hp
  rcases List.mem_cons.mp hp with rfl | hp
  ·exact Nat.ne_of_gt (Nat.lt_trans lT lM)
  rcases List.mem_cons.mp hp with rfl | hp
  ·exact Nat.ne_of_gt lT
  ·exact Nat.ne_of_lt (lI p hp)
 ·intro S h' tk acc' c' objs' F' N' hM ho ho2 lt
  refine hQ S h' tk acc' c' objs' F' (fun p hp => N' p ?_) hM ho (fun p hp q hq => ho2 p hp q (.tail _ (.tail _ hq))) fun p hp => lt p (.tail _ (.tail _ hp))
  rcases List.mem_cons.mp hp with h | hp
  ·exact h ▸ .head _
  rcases List.mem_append.mp hp with h | hp
  ·exact .tail _ (List.mem_append_left _ h)
  ·exact .tail _ (List.mem_append_right _ (.tail _ (.tail _ hp)))
end
end Mine
end
section
namespace Mine
noncomputable def nmOf : List Expr → List Str
 | .Name x _ :: r => x :: nmOf r
 | _ => []
noncomputable def Cx.nms (C : Cx) : List Expr → Bool
 | [] => true
 | .Name x _ :: r => C.lc x && C.nms r
 | _ => false
section
variable {C : Cx} {s₀ s : Shared} {m : Str → Option Value} {N : List (Addr × Obj)} {Q : Flow → Shared → Prop}
theorem nms_name {e : Expr} {es : List Expr} (h : C.nms (e :: es) = true) : ∃ x pos, e = .Name x pos ∧ C.lc x = true ∧ C.nms es = true := by
 cases e with
 | Name x pos =>
  have h : (C.lc x && C.nms es) = true := h
  exact ⟨x, pos, rfl, Bool.and_eq_true_iff.mp h⟩
 | _ => cases h
theorem sto_elts {es : List Expr} : ∀ {vs : List Value} {m : Str → Option Value} {s : Shared} {Q : Unit → Shared → Prop}, C.nms es = true → vs.length = es.length → C.St s₀ m N s → (∀ s', C.St s₀ (upds ((nmOf es).zip vs) m) N s' → Q () s') →
  wpAny (model prog C.w) C.A (assignInOrder ((assignEach es C.env).map (·.2)) vs) Q C.E s ∧ (assignEach es C.env).length = es.length ∧ (assignEach es C.env).findIdx? (·.1) = none := by
 induction es with
 | nil =>
  intro vs m s Q hx hl S h
  have e : vs = [] := List.length_eq_zero_iff.mp hl
  subst e
  exact ⟨assignInOrder_nil (h _ S), rfl, rfl⟩
 | cons e es ih =>
  intro vs m s Q hx hl S h
  obtain ⟨x, pos, rfl, h1, h2⟩ := nms_name hx
  cases vs with
  | nil => cases hl
  | cons v vs =>
   have l := Nat.succ.inj hl
   have z2 := (ih (s := s) (m := m) (Q := fun _ _ => True) h2 l S fun _ _ => trivial).2
   rw [show assignEach (.Name x pos :: es) C.env = (false, assign (.Name x pos) C.env) :: assignEach es C.env from rfl]
   exact ⟨assignInOrder_cons (assign_Name (Cx.sto S h1 fun s' S' => (ih h2 l S' h).1)), by rw [List.length_cons, z2.1]; rfl, by rw [List.findIdx?_cons, z2.2]; rfl⟩
theorem Cx.unpT {es : List Expr} {k D nn : Nat} {pos : Pos} {its : Array Value} {Q : Unit → Shared → Prop} (S : C.St s₀ m N s) (hh : C.A.handled = none) (hm : (D, ({ cls := .type "tuple", data := .seq its nn } : Obj)) ∈ N) (hl : its.toList.length = es.length) (hx : C.nms es = true) (h : ∀ s', C.St s₀ (upds ((nmOf es).zip its.toList) m) N s' → Q () s') :
  wpAny (model prog C.w) C.A (assign (.Tuple es k pos) C.env (.ref D)) Q C.E s := by
 have z := (sto_elts (Q := fun _ _ => True) hx hl S fun _ _ => trivial).2
 exact unpackN_ S.F S.N (S.N.isTup hm) hh (by rw [z.1, ← hl, Array.length_toList]) z.2 fun h' F' N' => (sto_elts hx hl (S.put F' N') h).1
theorem Cx.unpM {es : List Expr} {k x dx n : Nat} {pos : Pos} {its : Array Value} {Q : Unit → Shared → Prop} (S : C.St s₀ m N s) (hh : C.A.handled = none) (X : (KN C.w.params).In C.g) (hm : (x, matchObj dx its n) ∈ N) (hl : its.toList.length = es.length) (hx : C.nms es = true) (h : ∀ s', C.St s₀ (upds ((nmOf es).zip its.toList) m) N s' → Q () s') :
  wpAny (model prog C.w) C.A (assign (.Tuple es k pos) C.env (.ref x)) Q C.E s := by
 have z := (sto_elts (Q := fun _ _ => True) hx hl S fun _ _ => trivial).2
 exact m_unpack hh S.F S.N X (S.N _ hm).1 (by rw [z.1, ← hl, Array.length_toList]) z.2 fun h' F' N' => (sto_elts hx hl (S.put F' N') h).1
inductive Cx.Tn (C : Cx) (s₀ : Shared) (I : Addr) (own : List (Addr × Obj)) (J R : (Str → Option Value) → List (Addr × Obj) → Prop) : Flow → Shared → Prop
 | next {s : Shared} {m : Str → Option Value} {N : List (Addr × Obj)} (S : C.St s₀ m (N ++ own) s) (off : ∀ p ∈ N, p.1 ≠ I) (j : J m N) : Cx.Tn C s₀ I own J R .next s
 | cont {s : Shared} {m : Str → Option Value} {N : List (Addr × Obj)} (S : C.St s₀ m (N ++ own) s) (off : ∀ p ∈ N, p.1 ≠ I) (j : J m N) : Cx.Tn C s₀ I own J R .cont s
 | brk {s : Shared} {m : Str → Option Value} {N : List (Addr × Obj)} (S : C.St s₀ m N s) (r : R m N) : Cx.Tn C s₀ I own J R .brk s
theorem same_rec {s₀ s s' : Shared} (e : Same s₀ s) (e' : Same s₀ s') : s' = { s with heap := s'.heap, toks := s'.toks } := by rw [e'.e, e.e]
theorem Cx.Tn.w {I : Addr} {own : List (Addr × Obj)} {J R : (Str → Option Value) → List (Addr × Obj) → Prop} {f : Flow} {s' : Shared} (e : Same s₀ s) (h : C.Tn s₀ I own J R f s') : TurnW C.g C.L [I] own J R s f s' := by
 have mem : ∀ {N : List (Addr × Obj)}, (∀ p ∈ N, p.1 ≠ I) → ∀ p ∈ N, p.1 ∉ [I] := fun h p hp q => h p hp (List.mem_singleton.mp q)
 cases h with
 | next S off j => rw [same_rec e S.e]; exact TurnW.next S.F S.N (mem off) j
 | cont S off j => rw [same_rec e S.e]; exact TurnW.cont S.F S.N (mem off) j
 | brk S r => rw [same_rec e S.e]; exact TurnW.brk S.F S.N r
theorem Cx.doc {x : Str} {k : Nat} {p pos : Pos} (S : C.St s₀ m N s) (h : ∀ s', C.St s₀ m N s' → Q .next s') (hi : interactive C.env = false := by rfl) (hs : swapsWith (.Constant (.str x) k p) none pos.line C.env = pure false := by rfl) : C.Wp (.Expr (.Constant (.str x) k p) pos) Q s :=
 wpAny_Expr_any (Constant_str (h _ (S.put S.F S.N))) hi hs
theorem Cx.go {P : Shared → Prop} (S : C.St s₀ m N s) (h : ∀ s, C.St s₀ m N s → P s) : P s := h s S
theorem Cx.St.sub {N' : List (Addr × Obj)} (S : C.St s₀ m N s) (h : ∀ p ∈ N', p ∈ N) : C.St s₀ m N' s := ⟨S.e, S.F, fun p hp => S.N p (h p hp)⟩
theorem Cx.evN {x : Str} {pos : Pos} {v : Value} (S : C.St s₀ m N s) (hm : m x = some v) (hx : C.lc x = true) (Q : Value → Shared → Prop) (h : ∀ s', C.St s₀ m N s' → Q v s') : wpAny (model prog C.w) C.A (eval (.Name x pos) C.env) Q C.E s :=
 Cx.V.name hm hx _ _ S.F fun tk => h _ (S.put S.F S.N)
theorem Cx.iterL {tgt : Expr} {body : List Stmt} {ax : Addr} {its : Array Value} (J : Nat → (Str → Option Value) → List (Addr × Obj) → Prop) (R : (Str → Option Value) → List (Addr × Obj) → Prop) (S : C.St s₀ m N s) (hh : C.A.handled = none) {nn : Nat} (hax : (ax, ({ cls := .type "list", data := .seq its nn } : Obj)) ∈ N) (h0 : J 0 m N)
  (turn : ∀ i v I own m N s, its[i]? = some v → C.g.get? I = none → (∀ p ∈ own, p.1 = I ∨ p.1 = ax) → (∃ o, (I, o) ∈ own) → (∀ p ∈ N, p.1 ≠ I) → J i m N → C.St s₀ m (N ++ own) s →
   wpAny (model prog C.w) C.A (assign tgt C.env v) (fun _ s' => C.Ws body (C.Tn s₀ I own (J (i + 1)) R) s') C.E s)
  (fin : ∀ m N, J its.size m N → R m N) (done : ∀ m N s, R m N → C.St s₀ m N s → Q .next s) : wpAny (model prog C.w) C.A (pyIter (.ref ax)) (fun it s₂ => TurnsAt prog C.w C.A C.g C.env tgt body Q C.E it s₂) C.E s := by
 refine for_list J R hh ⟨_, (S.N _ hax).1, rfl, nn, rfl⟩ (S.N _ hax).2.1 S.F S.N h0 (fun i v I m₁ news₁ h tk own a b c d e f F1 N1 => ?_) fin fun m₁ news₁ h tk r F1 N1 => done _ _ _ r (S.put F1 N1)
 have S1 : C.St s₀ m₁ (news₁ ++ own) { s with heap := h, toks := tk } := S.put F1 N1
 refine wpAny_mono (turn i v I own m₁ news₁ _ a b (fun p hp => ?_) d (fun p hp q => e p hp (by rw [q]; exact .head _)) f S1) (fun _ s' q => wpAny_mono q (fun fl s'' z => z.w S1.e) fun _ _ x => x) fun _ _ x => x
 rcases List.mem_cons.mp (c p hp) with h | h
 ·exact .inl h
 ·exact .inr (List.mem_singleton.mp h)
theorem Cx.forL {tgt it : Expr} {body : List Stmt} {pos : Pos} {ax : Addr} {its : Array Value} (J : Nat → (Str → Option Value) → List (Addr × Obj) → Prop) (R : (Str → Option Value) → List (Addr × Obj) → Prop) (S : C.St s₀ m N s) (H : ∀ (Q : Value → Shared → Prop), (∀ s', C.St s₀ m N s' → Q (.ref ax) s') → wpAny (model prog C.w) C.A (eval it C.env) Q C.E s) (hh : C.A.handled = none) {nn : Nat} (hax : (ax, ({ cls := .type "list", data := .seq its nn } : Obj)) ∈ N) (h0 : J 0 m N)
  (turn : ∀ i v I own m N s, its[i]? = some v → C.g.get? I = none → (∀ p ∈ own, p.1 = I ∨ p.1 = ax) → (∃ o, (I, o) ∈ own) → (∀ p ∈ N, p.1 ≠ I) → J i m N → C.St s₀ m (N ++ own) s →
   wpAny (model prog C.w) C.A (assign tgt C.env v) (fun _ s' => C.Ws body (C.Tn s₀ I own (J (i + 1)) R) s') C.E s)
  (fin : ∀ m N, J its.size m N → R m N) (done : ∀ m N s, R m N → C.St s₀ m N s → Q .next s)
  (hs : ∀ x, foldedSetIterable it C.env x = pure x := by intro _; rfl) (hE : PassesOwn (model prog C.w) C.A C.env C.E := by passes_own) : C.Wp (.For tgt it body [] pos) Q s := by
 exact For_turns S.F (H _ fun s S => Cx.iterL J R S hh hax h0 turn fin done) hs hE
theorem Cx.forR {tgt it : Expr} {body : List Stmt} {pos : Pos} {a c : Int} {n : Nat} (J : Nat → (Str → Option Value) → List (Addr × Obj) → Prop) (R : (Str → Option Value) → List (Addr × Obj) → Prop) (S : C.St s₀ m N s)
  (H : ∀ (Q : Value → Shared → Prop), (∀ r t u v s', IsRange s'.heap r a c 1 t u v → C.St s₀ m N s' → Q (.ref r) s') → wpAny (model prog C.w) C.A (eval it C.env) Q C.E s) (hh : C.A.handled = none) (hsmall : Builtin.Range.small a c 1 = true) (hn : Builtin.Range.rangeSize a c 1 = (n : Int)) (h0 : J 0 m N)
  (turn : ∀ i t I own m N s, i < n → C.g.get? I = none → (∀ p ∈ own, p.1 = I) → (∃ o, (I, o) ∈ own) → (∀ p ∈ N, p.1 ≠ I) → J i m N → C.St s₀ m (N ++ own) s →
   wpAny (model prog C.w) C.A (assign tgt C.env (.int (a + (i : Int)) t)) (fun _ s' => C.Ws body (C.Tn s₀ I own (J (i + 1)) R) s') C.E s)
  (fin : ∀ m N, J n m N → R m N) (done : ∀ m N s, R m N → C.St s₀ m N s → Q .next s)
  (hgo : ∀ I i v (s : Shared) (Q : Unit → Shared → Prop) (E : Value → Shared → Prop), IsRangeIter s.heap I (a + (i : Nat) * 1) ((n : Int) - (i : Nat)) 1 → Q () s → wpAny (model prog C.w) C.A (letOwnedTupleGo tgt (.ref I) v) Q E s := by intro _ _ _ _ _ _ _ q; exact wpAny_pure q)
  (hs : ∀ x, foldedSetIterable it C.env x = pure x := by intro _; rfl) (hE : PassesOwn (model prog C.w) C.A C.env C.E := by passes_own) : C.Wp (.For tgt it body [] pos) Q s := by
 refine For_turns S.F (H _ fun r t u v s hr S => ?_) hs hE
 refine for_range J R hh hr hsmall hn S.F S.N h0 (fun i t I m₁ news₁ h tk own a b c d e f F1 N1 => ?_) fin (fun m₁ news₁ h tk r F1 N1 => done _ _ _ r (S.put F1 N1)) hgo
 have S1 : C.St s₀ m₁ (news₁ ++ own) { s with heap := h, toks := tk } := S.put F1 N1
 exact wpAny_mono (turn i t I own m₁ news₁ _ a b (fun p hp => List.mem_singleton.mp (c p hp)) d (fun p hp q => e p hp (by rw [q]; exact .head _)) f S1) (fun _ s' q => wpAny_mono q (fun fl s'' z => z.w S1.e) fun _ _ x => x) fun _ _ x => x
theorem Cx.hideT {C : Cx} {s₀ s : Shared} {m : Str → Option Value} {t : Tok} {P : Shared → Prop} (ν : Tok → List (Addr × Obj)) (S : C.St s₀ m (ν t) s) (h : ∀ t s, C.St s₀ m (ν t) s → P s) : P s := h t s S
theorem Cx.hide {C : Cx} {s₀ s : Shared} {m : Str → Option Value} {N : List (Addr × Obj)} {R : (Str → Option Value) → Prop} {P : Shared → Prop} (S : C.St s₀ m N s) (fm : R m) (h : ∀ m s, C.St s₀ m N s → R m → P s) : P s := h m s S fm
theorem Cx.use {d : Nat} {f : Value} {args : List Value} {pass keep : List (Addr × Obj)} {pre : Heap → Prop} {post : Value → List (Addr × Obj) → Prop} {mg mb : Str → Option Value} {Q : Value → Shared → Prop} (S : C.St s₀ m (pass ++ keep) s) (K : CallSpec C.w d f args pass pre post) (X : (KN C.w.params).In C.g) (T : TR mg mb C.g)
  (off : ∀ p ∈ pass, ∀ q ∈ keep, p.1 ≠ q.1) (hpre : ∀ g, (∀ b o, C.g.get? b = some o → g.get? b = some o) → (∀ q ∈ keep, g.get? q.1 = some q.2) → pre g) (hh : C.A.handled = none) (hd : C.A.depth ≤ d) (hu : C.A.units ≤ 10 * d)
  (ret : ∀ r pass' s', C.St s₀ m (pass' ++ keep) s' → (∀ p ∈ pass', ∀ q ∈ keep, p.1 ≠ q.1) → post r pass' → Q r s') : wpAny (model prog C.w) C.A (call f args) Q C.E s :=
 use_spec K S.F S.N X T off hpre hh hd hu fun r pass' h' tk' F N o p => ret r pass' _ (S.put F N) o p
noncomputable def Ret (Q : Value → Shared → Prop) (f : Flow) (s : Shared) : Prop := Q (match f with | .ret v => v | _ => .none) s
noncomputable abbrev cxF (w : World) (d : Nat) (qual : Str) (scope : Scope) (f : Addr) (cdv : Value) (g : Heap) (L : Addr) : Cx :=
 { w := w, A := (AA d).deeper (envX qual scope L f cdv []), E := fun _ _ => False, cn := qual, cs := scope, a := f, cd := cdv, cl := [], L := L, g := g }
theorem spec_def {w : World} {d : Nat} {f : Addr} {args : List Value} {pass : List (Addr × Obj)} {pre : Heap → Prop} {post : Value → List (Addr × Obj) → Prop} {binds : List (Str × Value)}
  {name qual : Str} {params : Arguments} {body : List Stmt} {scope : Scope} {dV kV doc pm cdv ct oc : Value} {an od : Option Addr} {osl : Array (Option Value)}
  (ho : (KN w.params).lookup f = some ⟨oc, od, .func (fnX name qual params body scope [] dV kV doc pm an cdv ct), osl⟩) (hcd : codeIn (KN w.params) cdv qual = true) (hroom : d < recursionLimit)
  (hbind : ∀ s, (KN w.params).In s.heap → BindsTo s (fnX name qual params body scope [] dV kV doc pm an cdv ct) ⟨args, []⟩ binds) (hloc : ∀ y ∈ binds, scope.names.lookup y.1 = some .local)
  (h : ∀ (mg mb : Str → Option Value) (g : Heap) (L : Addr) (s₀ s : Shared) (Q : Flow → Shared → Prop), (KN w.params).In g → TR mg mb g → pre g → @LE.le Nat _ g.objs.size L →
   (cxF w d qual scope f cdv g L).St s₀ (fun y => binds.reverse.lookup y) pass s →
   (∀ fl s' m N pass', (cxF w d qual scope f cdv g L).St s₀ m N s' → (∀ p ∈ pass', p ∈ N) → post (match fl with | .ret v => v | _ => .none) pass' → Q fl s') →
   (cxF w d qual scope f cdv g L).Ws body Q s)
  (hcell : ∀ x ∈ scope.names, x.2 ≠ .cell) (hco : scope.isCoroutine = false := by rfl) (hgen : scope.isGenerator = false := by rfl) (hk : scope.kind = .function := by rfl) : CallSpec w d (.ref f) args pass pre post := by
 intro mg mb s g Q E X T hpre st sz N hret
 refine enter_def (binds := binds) X T st sz N (st _ _ (X _ _ ho)) (codeRec_of (Frag.In.keeps X st) hcd) hroom (hbind s (Frag.In.keeps X st)) hloc (fun L h₁ F1 N1 hL => ?_) hcell hco hgen hk
 refine h mg mb g L s _ _ X T hpre hL ⟨Same.start _ _, F1, N1⟩ fun fl s' m N' pass' S hp hpost => ?_
 rw [S.e.e]
 exact hret _ pass' _ _ (Fr.keep S.F) (fun p q => ⟨(S.N p (hp p q)).1, (S.N p (hp p q)).2.2⟩) hpost
end
end Mine
end
section
namespace Mine
noncomputable abbrev bbm (id : String) (x : Nat) : Obj := { cls := .type "builtin_function_or_method", data := .fields #[.builtin id, .ref x] }
theorem slot_md : Slot "method_descriptor" "__get__" "method_descriptor.__get__" :=
 .of (owner := "method_descriptor") (n := "__get__") (by rw [typeLookup_type, builtinLookup_eq_fast]; kernel_rfl) (by decide +kernel) (by decide +kernel) (by decide +kernel)
  (by first | exact .inl (by decide +kernel) | exact .inr (by decide +kernel)) (by rw [isSubtype_type]; kernel_rfl)
theorem entry_md : entryFor table "method_descriptor.__get__" = some Builtin.«method_descriptor.__get__» := entryFor_of_tree (by kernel_rfl)
theorem args_md (a b c : Value) : argsOk "method_descriptor.__get__" ⟨[a, b, c], []⟩ := by unfold argsOk; kernel_rfl
theorem type_sc : typeOf (.builtin "set.__contains__") = pure (.type "method_descriptor") := by show builtinType _ = _; rw [builtinType_eq_fast]; kernel_rfl
theorem type_dg : typeOf (.builtin "dict.get") = pure (.type "method_descriptor") := by show builtinType _ = _; rw [builtinType_eq_fast]; kernel_rfl
theorem lk_sc : typeLookup (.type "set") "__contains__" = pure (some (.builtin "set.__contains__")) := by rw [typeLookup_type, builtinLookup_eq_fast]; kernel_rfl
theorem lk_dg : typeLookup (.type "dict") "get" = pure (some (.builtin "dict.get")) := by rw [typeLookup_type, builtinLookup_eq_fast]; kernel_rfl
theorem lk_mdset : typeLookup (.type "method_descriptor") "__set__" = pure none := by rw [typeLookup_type, builtinLookup_eq_fast]; kernel_rfl
theorem lk_mddel : typeLookup (.type "method_descriptor") "__delete__" = pure none := by rw [typeLookup_type, builtinLookup_eq_fast]; kernel_rfl
theorem own_sc : isSubtype (.type "set") (.type (".".intercalate ("set.__contains__".cutAt '.').dropLast)) = pure true := by
 have e0 : "set.__contains__".cutAt '.' = ["set", "__contains__"] := by first | rfl | decide +kernel
 have e1 : ".".intercalate ("set.__contains__".cutAt '.').dropLast = "set" := by rw [e0]; decide +kernel
 rw [e1, isSubtype_type]; kernel_rfl
theorem own_dg : isSubtype (.type "dict") (.type (".".intercalate ("dict.get".cutAt '.').dropLast)) = pure true := by
 have e0 : "dict.get".cutAt '.' = ["dict", "get"] := by first | rfl | decide +kernel
 have e1 : ".".intercalate ("dict.get".cutAt '.').dropLast = "dict" := by rw [e0]; decide +kernel
 rw [e1, isSubtype_type]; kernel_rfl
theorem entry_dict_ga' : entryFor table "dict.__getattribute__" = some Builtin.«object.__getattribute__» :=
 entryFor_alias (id' := "object.__getattribute__") (by kernel_rfl) (by first | rfl | decide +kernel) (by decide +kernel) (by kernel_rfl)
section
variable {w : World} {A : Around} {E : Value → Shared → Prop} {h : Heap} {g : Array GenState} {d : Drawn} {t : Nat} {os : OsState} {a : Addr} {o : Obj}
theorem md_set {R : Result → Shared → Prop} (hx : h.get? a = some o) (hc : o.cls = .type "set") (hq : R (.ok (.ret (.ref h.objs.size))) ⟨h.push (bbm "set.__contains__" a), g, d, t, os⟩) :
  codeAny (model prog w) A (.call (.builtin "method_descriptor.__get__") ⟨[.builtin "set.__contains__", .ref a, .type "set"], []⟩) R ⟨h, g, d, t, os⟩ := by
 have hT : (⟨h, g, d, t, os⟩ : Shared).TypeIs (.ref a) "set" := ⟨_, hx, hc⟩
 have hT5 : (⟨h, g, d, t, os⟩ : Shared).TypeIs (.builtin "set.__contains__") "method_descriptor" := type_sc
 have f8 := own_sc
 refine codeAny_call_builtin slot_md.plain entry_md (slot_md.check _ _ _ _ _ _ _ _ hT5 (args_md _ _ _) ?_)
 repeat (any_goals (first | assumption | wp_step))
theorem md_dict {R : Result → Shared → Prop} (hx : h.get? a = some o) (hc : o.cls = .type "dict") (hq : R (.ok (.ret (.ref h.objs.size))) ⟨h.push (bbm "dict.get" a), g, d, t, os⟩) :
  codeAny (model prog w) A (.call (.builtin "method_descriptor.__get__") ⟨[.builtin "dict.get", .ref a, .type "dict"], []⟩) R ⟨h, g, d, t, os⟩ := by
 have hT : (⟨h, g, d, t, os⟩ : Shared).TypeIs (.ref a) "dict" := ⟨_, hx, hc⟩
 have hT5 : (⟨h, g, d, t, os⟩ : Shared).TypeIs (.builtin "dict.get") "method_descriptor" := type_dg
 have f8 := own_dg
 refine codeAny_call_builtin slot_md.plain entry_md (slot_md.check _ _ _ _ _ _ _ _ hT5 (args_md _ _ _) ?_)
 repeat (any_goals (first | assumption | wp_step))
theorem ga_set {tk : Tok} {Q : PySem.Fin → Shared → Prop} {es : Array (Int × Value)} {ep : Nat} {tb : SetTable} {sl : Array (Option Value)} (hx : h.get? a = some ⟨.type "set", none, .set es ep tb, sl⟩) (hq : Q (.done (.ret (.ref h.objs.size))) ⟨h.push (bbm "set.__contains__" a), g, d, t, os⟩) :
  wpAny (model prog w) A (Builtin.«object.__getattribute__» ⟨[.ref a, .str "__contains__" tk], []⟩) Q E ⟨h, g, d, t, os⟩ := by
 have hT : (⟨h, g, d, t, os⟩ : Shared).TypeIs (.ref a) "set" := ⟨_, hx, rfl⟩
 have hT5 : (⟨h, g, d, t, os⟩ : Shared).TypeIs (.builtin "set.__contains__") "method_descriptor" := type_sc
 have f4 := lk_sc
 have f5 := type_sc
 have f6 := slot_md.lookup
 have f7 := lk_mdset
 have f9 := lk_mddel
 repeat (any_goals (first | assumption | wp_step))
 refine md_set hx rfl ?_
 exact wpAny_pure hq
theorem gb_set {tk : Tok} {R : Result → Shared → Prop} {es : Array (Int × Value)} {ep : Nat} {tb : SetTable} {sl : Array (Option Value)} (hx : h.get? a = some ⟨.type "set", none, .set es ep tb, sl⟩) (hq : R (.ok (.ret (.ref h.objs.size))) ⟨h.push (bbm "set.__contains__" a), g, d, t, os⟩) :
  codeAny (model prog w) A (.call (.builtin "set.__getattribute__") ⟨[.ref a, .str "__contains__" tk], []⟩) R ⟨h, g, d, t, os⟩ :=
 codeAny_call_builtin F.slot_set_getattribute.plain F.entry_set_ga (F.slot_set_getattribute.check _ _ _ _ _ _ _ _ (show (⟨h, g, d, t, os⟩ : Shared).TypeIs (.ref a) "set" from ⟨_, hx, rfl⟩) (F.args_set_getattribute_2 _ _) (ga_set hx hq))
theorem attr_set {Q : Value → Shared → Prop} {es : Array (Int × Value)} {ep : Nat} {tb : SetTable} {sl : Array (Option Value)} (hx : h.get? a = some ⟨.type "set", none, .set es ep tb, sl⟩) (hq : Q (.ref h.objs.size) ⟨h.push (bbm "set.__contains__" a), g, d, t + 1, os⟩) :
  wpAny (model prog w) A (getAttr (.ref a) "__contains__" true) Q E ⟨h, g, d, t, os⟩ := by
 have hT : (⟨h, g, d, t + 1, os⟩ : Shared).TypeIs (.ref a) "set" := ⟨_, hx, rfl⟩
 have f2 := F.slot_set_getattribute.lookup
 have f3 := F.slot_set_getattribute.bind (.ref a)
 unfold getAttr
 refine wpAny_bind (wpAny_mkText ?_)
 repeat (any_goals (first | assumption | wp_step))
 refine gb_set hx ?_
 exact handed_on rfl hq
theorem ga_dict {tk : Tok} {Q : PySem.Fin → Shared → Prop} {es : Array DictEntry} {ep : Nat} {sl : Array (Option Value)} (hx : h.get? a = some ⟨.type "dict", none, .dict es ep, sl⟩) (hq : Q (.done (.ret (.ref h.objs.size))) ⟨h.push (bbm "dict.get" a), g, d, t, os⟩) :
  wpAny (model prog w) A (Builtin.«object.__getattribute__» ⟨[.ref a, .str "get" tk], []⟩) Q E ⟨h, g, d, t, os⟩ := by
 have hT : (⟨h, g, d, t, os⟩ : Shared).TypeIs (.ref a) "dict" := ⟨_, hx, rfl⟩
 have hT5 : (⟨h, g, d, t, os⟩ : Shared).TypeIs (.builtin "dict.get") "method_descriptor" := type_dg
 have f4 := lk_dg
 have f5 := type_dg
 have f6 := slot_md.lookup
 have f7 := lk_mdset
 have f9 := lk_mddel
 repeat (any_goals (first | assumption | wp_step))
 refine md_dict hx rfl ?_
 exact wpAny_pure hq
theorem gb_dict {tk : Tok} {R : Result → Shared → Prop} {es : Array DictEntry} {ep : Nat} {sl : Array (Option Value)} (hx : h.get? a = some ⟨.type "dict", none, .dict es ep, sl⟩) (hq : R (.ok (.ret (.ref h.objs.size))) ⟨h.push (bbm "dict.get" a), g, d, t, os⟩) :
  codeAny (model prog w) A (.call (.builtin "dict.__getattribute__") ⟨[.ref a, .str "get" tk], []⟩) R ⟨h, g, d, t, os⟩ :=
 codeAny_call_builtin F.slot_dict_getattribute.plain entry_dict_ga' (F.slot_dict_getattribute.check _ _ _ _ _ _ _ _ (show (⟨h, g, d, t, os⟩ : Shared).TypeIs (.ref a) "dict" from ⟨_, hx, rfl⟩) (F.args_dict_getattribute_2 _ _) (ga_dict hx hq))
theorem attr_dict {Q : Value → Shared → Prop} {es : Array DictEntry} {ep : Nat} {sl : Array (Option Value)} (hx : h.get? a = some ⟨.type "dict", none, .dict es ep, sl⟩) (hq : Q (.ref h.objs.size) ⟨h.push (bbm "dict.get" a), g, d, t + 1, os⟩) :
  wpAny (model prog w) A (getAttr (.ref a) "get" true) Q E ⟨h, g, d, t, os⟩ := by
 have hT : (⟨h, g, d, t + 1, os⟩ : Shared).TypeIs (.ref a) "dict" := ⟨_, hx, rfl⟩
 have f2 := F.slot_dict_getattribute.lookup
 have f3 := F.slot_dict_getattribute.bind (.ref a)
 unfold getAttr
 refine wpAny_bind (wpAny_mkText ?_)
 repeat (any_goals (first | assumption | wp_step))
 refine gb_dict hx ?_
 exact handed_on rfl hq
end
section
variable {w : World} {A : Around} {E : Value → Shared → Prop} {s : Shared} {h₀ : Heap} {L : Addr} {m : Str → Option Value} {news : List (Addr × Obj)}
theorem attr_setN {J : Nat} {oj : Obj} {S : Int → Bool} {n : Nat} {Q : Value → Shared → Prop} (F : Fr h₀ L s.heap m) (N : News h₀ L s.heap news) (hm : (J, oj) ∈ news) (hs : oj.SetObjOf (PySem.intKind prog w) S n) (hb : n < scanBound)
  (h : ∀ x h' tk, Fr h₀ L h' m → News h₀ L h' ((x, bbm "set.__contains__" J) :: news) → (∀ p ∈ news, p.1 < x) → Q (.ref x) { s with heap := h', toks := tk }) : wpAny (model prog w) A (getAttr (.ref J) "__contains__" true) Q E s := by
 obtain ⟨hp, g, d, tk, os⟩ := s
 obtain ⟨o, es, ep, tb, hg, ⟨e1, e2, e3⟩, e4, _⟩ := hs.setOf (N _ hm).1 hb
 obtain ⟨c, dd, dt, sl⟩ := o
 dsimp only at e1 e2 e3 e4
 subst e1 e2 e3 e4
 exact attr_set hg (h _ _ _ (F.push _) (News.push F N _) fun p hp => Heap.lt_size (N p hp).1)
theorem attr_dictN {J : Nat} {oj : Obj} {kvs : List (Int × Value)} {Q : Value → Shared → Prop} (F : Fr h₀ L s.heap m) (N : News h₀ L s.heap news) (hm : (J, oj) ∈ news) (hs : oj.IsDictOf (PySem.intKind prog w) kvs)
  (h : ∀ x h' tk, Fr h₀ L h' m → News h₀ L h' ((x, bbm "dict.get" J) :: news) → (∀ p ∈ news, p.1 < x) → Q (.ref x) { s with heap := h', toks := tk }) : wpAny (model prog w) A (getAttr (.ref J) "get" true) Q E s := by
 obtain ⟨hp, g, d, tk, os⟩ := s
 obtain ⟨es, ep, ⟨e1, e2, e3⟩, e4, _⟩ := hs
 obtain ⟨c, dd, dt, sl⟩ := oj
 dsimp only at e1 e2 e3 e4
 subst e1 e2 e3 e4
 exact attr_dict (N _ hm).1 (h _ _ _ (F.push _) (News.push F N _) fun p hp => Heap.lt_size (N p hp).1)
end
end Mine
end
section
namespace Mine
theorem sub_set_mod : isSubtype (.type "set") (.type "module") = pure false := by rw [isSubtype_type]; kernel_rfl
theorem sub_dict_mod : isSubtype (.type "dict") (.type "module") = pure false := by rw [isSubtype_type]; kernel_rfl
theorem sub_set_type : isSubtype (.type "set") (.type "type") = pure false := by rw [isSubtype_type]; kernel_rfl
theorem sub_dict_type : isSubtype (.type "dict") (.type "type") = pure false := by rw [isSubtype_type]; kernel_rfl
theorem call_bbm {w : World} {A : Around} {E : Value → Shared → Prop} {s : Shared} {id : String} {x J : Nat} {args : List Value} {b : Builtin} {Q : Value → Shared → Prop} (hx : s.heap.get? x = some (bbm id J)) (hc : ∀ A' E' (Q' : Unit → Shared → Prop), Q' () s → wpAny (model prog w) A' (checkBoundCall id ⟨.ref J :: args, []⟩) Q' E' s)
  (hq : plainId id = true) (hb : entryFor table id = some b) (h : wpAny (model prog w) A.in1 (b ⟨.ref J :: args, []⟩) (fun fin s' => match fin with | .done f => wants Q E (.ok f) s' | .again c' => c'.quiet = true ∧ codeAny (model prog w) A c' (wants Q E) s') (fun e s' => wants Q E (.error e) s') s) : wpAny (model prog w) A (call (.ref x) args) Q E s := by
 refine wpAny_call (codeAny_of_tree ?_)
 show wpAny _ A.in1 (callAny (.ref x) ⟨args, []⟩) _ _ s
 simp only [callAny]
 refine wpAny_bind (wpAny_load hx ?_)
 simp only [show (Value.type "builtin_function_or_method" == Value.type "method" || Value.type "builtin_function_or_method" == Value.type "builtin_function_or_method" || Value.type "builtin_function_or_method" == Value.type "method-wrapper") = true by decide, if_true]
 refine KFB.if_so (by decide) (wpAny_bind (hc _ _ _ ?_))
 refine wpAny_bind (wpAny_pure (wpAny_pure ⟨plainId_quiet hq _, codeAny_builtin hb ?_⟩))
 rw [Around.under_plainId hq]
 exact h
theorem chk1_set (J : Nat) (v : Value) : (match Manifest.signature? "set.__contains__" with | some sig => Bind.checkArgs "set.__contains__" { sig with full := s!"{Bind.lastOf "set"}.{Bind.lastOf "set.__contains__"}" } ⟨[.ref J, v], []⟩ | none => pure ()) = pure () := by kernel_rfl
theorem chk1_dict (J : Nat) (v u : Value) : (match Manifest.signature? "dict.get" with | some sig => Bind.checkArgs "dict.get" { sig with full := s!"{Bind.lastOf "dict"}.{Bind.lastOf "dict.get"}" } ⟨[.ref J, v, u], []⟩ | none => pure ()) = pure () := by kernel_rfl
theorem kind_sc : builtinKind "set.__contains__" = some .method := by decide +kernel
theorem kind_dg : builtinKind "dict.get" = some .method := by decide +kernel
theorem va_sc : Manifest.varargsMethods.contains "set.__contains__" = false := by decide +kernel
theorem va_dg : Manifest.varargsMethods.contains "dict.get" = false := by decide +kernel
theorem isT_no {M : Model} {A : Around} {E : Value → Shared → Prop} {s : Shared} {J : Nat} {o : Obj} {Q : Bool → Shared → Prop} (ho : s.heap.get? J = some o) (hn : ∀ c, o.data ≠ .cls c) (h : Q false s) : wpAny M A (isType (.ref J)) Q E s := by
 unfold isType
 refine wpAny_bind (nd_load ho (nd_pure ?_))
 refine wpAny_of_eq (a := false) ?_ h
 revert hn
 generalize o.data = dd
 intro hn
 cases dd <;> first | exact absurd rfl (hn _) | rfl
theorem chk_set {w : World} {A : Around} {E : Value → Shared → Prop} {s : Shared} {J : Nat} {o : Obj} {v : Value} {Q : Unit → Shared → Prop} (ho : s.heap.get? J = some o) (hc : o.cls = .type "set") (hn : ∀ c, o.data ≠ .cls c) (h : Q () s) : wpAny (model prog w) A (checkBoundCall "set.__contains__" ⟨[.ref J, v], []⟩) Q E s := by
 have hT : s.TypeIs (.ref J) "set" := ⟨o, ho, hc⟩
 have h1 := chk1_set J v
 unfold checkBoundCall
 cases hs : Manifest.signature? "set.__contains__" with
 | none => exact wpAny_pure h
 | some sig =>
  rw [hs] at h1
  dsimp only
  rw [kind_sc]
  dsimp only
  refine KFB.if_not rfl (wpAny_bind (wpAny_isInstance (T := "set") (b := false) hT sub_set_mod ?_))
  refine KFB.if_not (by rw [va_sc]; rfl) (wpAny_bind (isT_no ho hn ?_))
  refine KFB.if_not rfl (wpAny_bind (wpAny_typeOf hT ?_))
  dsimp only
  dsimp only at h1
  rw [h1]
  exact wpAny_pure h
theorem chk_dict {w : World} {A : Around} {E : Value → Shared → Prop} {s : Shared} {J : Nat} {o : Obj} {v u : Value} {Q : Unit → Shared → Prop} (ho : s.heap.get? J = some o) (hc : o.cls = .type "dict") (hn : ∀ c, o.data ≠ .cls c) (h : Q () s) : wpAny (model prog w) A (checkBoundCall "dict.get" ⟨[.ref J, v, u], []⟩) Q E s := by
 have hT : s.TypeIs (.ref J) "dict" := ⟨o, ho, hc⟩
 have h1 := chk1_dict J v u
 unfold checkBoundCall
 cases hs : Manifest.signature? "dict.get" with
 | none => exact wpAny_pure h
 | some sig =>
  rw [hs] at h1
  dsimp only
  rw [kind_dg]
  dsimp only
  refine KFB.if_not rfl (wpAny_bind (wpAny_isInstance (T := "dict") (b := false) hT sub_dict_mod ?_))
  refine KFB.if_not (by rw [va_dg]; rfl) (wpAny_bind (isT_no ho hn ?_))
  refine KFB.if_not rfl (wpAny_bind (wpAny_typeOf hT ?_))
  dsimp only
  dsimp only at h1
  rw [h1]
  exact wpAny_pure h
section
variable {w : World} {A : Around} {E : Value → Shared → Prop} {s : Shared} {h₀ : Heap} {L : Addr} {m : Str → Option Value} {news : List (Addr × Obj)}
theorem call_junk {x J : Nat} {oj : Obj} {k : Int} {t : Tok} {Q : Value → Shared → Prop} (N : News h₀ L s.heap news) (hx : (x, bbm "set.__contains__" J) ∈ news) (hm : (J, oj) ∈ news) (hs : oj.SetObjOf (PySem.intKind prog w) (fun _ => false) 0)
  (h : ∀ tk, Q (.bool false) { s with toks := tk }) : wpAny (model prog w) A (call (.ref x) [.int k t]) Q E s := by
 have hS : s.heap.SetOf (PySem.intKind prog w) J (fun _ => false) 0 := hs.setOf (N _ hm).1 (by decide)
 obtain ⟨o, es, ep, tb, hg, ⟨e1, e2, e3⟩, e4, _⟩ := id hS
 refine call_bbm (N _ hx).1 (fun A' E' Q' q => chk_set hg e1 (by rw [e4]; intro c; exact nofun) q) F.slot_set_contains.plain entry_set_contains ?_
 refine wpAny_mono (Q := fun fin s' => ∃ v, fin = .done (.ret v) ∧ Q v s') (E := E) ?_ (fun fin s' h' => by obtain ⟨v, rfl, hv⟩ := h'; exact hv) fun _ _ e => e
 unfold Builtin.«frozenset.__contains__» Builtin.Frozenset.oneOther
 simp only [List.isEmpty_nil, bind_assoc]
 unfold Builtin.Frozenset.addrOf Builtin.Frozenset.withSetAsKey setContains
 refine wpAny_bind (wpAny_pure ?_)
 dsimp only
 refine wpAny_bind (wpAny_pure ?_)
 refine wpAny_bind (wpAny_tryCatch (wpAny_holding (wpAny_bind ((PySem.intKind prog w).pyHash (intKind_is _ _ k t) ?_))))
 refine wpAny_bind (wpAny_setFind_of (s := { s with toks := s.toks + 1 }) (intKind_is prog w k t) rfl hS fun r hr => ?_)
 refine wpAny_pure ?_
 show wpAny _ _ (ret (Value.bool r.isSome)) _ _ _
 rw [hr]
 exact wpAny_pure ⟨_, rfl, h _⟩
theorem call_jget {x J : Nat} {oj : Obj} {kvs : List (Int × Value)} {k : Int} {t : Tok} {dflt : Value} {Q : Value → Shared → Prop} (N : News h₀ L s.heap news) (hx : (x, bbm "dict.get" J) ∈ news) (hm : (J, oj) ∈ news) (hs : oj.IsDictOf (PySem.intKind prog w) kvs) (lo : (J == sysModules) = false)
  (h : ∀ tk, Q ((valueAt kvs k).getD dflt) { s with toks := tk }) : wpAny (model prog w) A (call (.ref x) [.int k t, dflt]) Q E s := by
 have hD : s.heap.DictOf (PySem.intKind prog w) J kvs := Heap.dictOf_iff.mpr ⟨oj, (N _ hm).1, hs⟩
 obtain ⟨es, ep, ⟨e1, e2, e3⟩, e4, _⟩ := id hs
 refine call_bbm (N _ hx).1 (fun A' E' Q' q => chk_dict (N _ hm).1 e1 (by rw [e4]; intro c; exact nofun) q) PySem.F.slot_dict_get.plain PySem.F.entry_dict_get ?_
 exact meets_dict_get_default (PySem.intKind prog w) J (intKind_is prog w k t) lo dflt A (wants Q E) s ⟨_, hD.mapOf, h _⟩
end
end Mine
end
section
namespace Mine
noncomputable def BB (u : Nat) (id : String) (J : Nat) (h : Heap) : Prop := h.get? u = some (bbm id J)
theorem BB.of {h₀ h : Heap} {L : Addr} {news : List (Addr × Obj)} {u J : Nat} {id : String} (N : News h₀ L h news) (hm : (u, bbm id J) ∈ news) : BB u id J h := (N _ hm).1
theorem callWith_bbm {M : Model} {A : Around} {E : Value → Shared → Prop} {s : Shared} {pos : Pos} {u J : Nat} {id : String} {first : List Value} {env : Env} {e : Expr} {rest : List Expr} {Q : Value → Shared → Prop}
  (h : wpAny M A (spliced (backTo pos (starEach (e :: rest) env))) (fun vs s₁ => BB u id J s₁.heap ∧ wpAny M A (call (.ref u) (first ++ vs)) Q E s₁) E s)
  (he : starEach (e :: rest) env = (false, eval e env) :: starEach rest env := by rfl) (hplain : (backTo pos (starEach rest env)).any (·.1) = false := by rfl) :
  wpAny M A (callWith pos (.ref u) first (backTo pos (starEach (e :: rest) env)) []) Q E s := by
 rw [he] at h ⊢
 have h' : wpAny M A (evalArgs (.ref u) true (backTo pos ((false, eval e env) :: starEach rest env)) []) (fun x s₁ => BB u id J s₁.heap ∧ wpAny M A (call (.ref u) (first ++ x.pos) x.kw) Q E s₁) E s := evalArgs_plain h
 have hp : (backTo pos ((false, eval e env) :: starEach rest env)).any (·.1) = false := by
  show (false || (backTo pos (starEach rest env)).any (·.1)) = false
  rw [hplain]; rfl
 unfold callWith
 refine wpAny_bind (wpAny_holding (wpAny_mono h' (fun x s₁ h₁ => wpAny_bind (wpAny_standAt ?_)) fun _ _ z => z))
 obtain ⟨ho, hcall⟩ := h₁
 rw [hp]
 simp only [List.any_nil, Bool.or_false]
 refine wpAny_bind (m := keeperOf (.ref u)) ?_
 unfold keeperOf
 refine wpAny_bind (wpAny_load ho ?_)
 simp only [show (Value.type "builtin_function_or_method" != Value.type "method") = true by decide, show (Value.type "builtin_function_or_method" == Value.type "builtin_function_or_method" || Value.type "builtin_function_or_method" == Value.type "method-wrapper") = true by decide, if_true]
 refine wpAny_pure ?_
 exact wpAny_bind (wpAny_mono hcall (fun r s₂ hr => wpAny_bind (wpAny_holding (wpAny_point (wpAny_pure hr)))) fun _ _ z => z)
end Mine
end
section
namespace Mine
theorem valueAt_stored (kvs : List (Int × Value)) (k : Int) (v : Value) (z : Int) : valueAt (stored kvs k v) z = if z = k then some v else valueAt kvs z := by
 unfold stored valueAt
 by_cases hany : (kvs.any fun kv => decide (kv.1 = k)) = true
 ·rw [if_pos hany]
  induction kvs with
  | nil => simp at hany
  | cons a l ih =>
   rw [List.map_cons, List.find?_cons]
   by_cases ha : a.1 = k
   ·rw [if_pos ha]
    by_cases hz : z = k
    ·subst hz
     simp [ha]
    ·have h1 : decide (a.1 = z) = false := decide_eq_false fun e => hz (e ▸ ha)
     simp only [h1]
     rw [if_neg hz]
     have : ∀ l : List (Int × Value), (List.find? (fun kv => decide (kv.1 = z)) (l.map fun kv => if kv.1 = k then (kv.1, v) else kv)).map (·.2) = (List.find? (fun kv => decide (kv.1 = z)) l).map (·.2) := by
      intro l
      induction l with
      | nil => rfl
      | cons b l ih =>
       rw [List.map_cons, List.find?_cons, List.find?_cons]
       by_cases hb : b.1 = k
       ·rw [if_pos hb]
        have h2 : decide (b.1 = z) = false := decide_eq_false fun e => hz (e ▸ hb)
        simp only [h2]; exact ih
       ·rw [if_neg hb]
        by_cases hbz : b.1 = z
        ·simp [hbz]
        ·simp only [decide_eq_false hbz]; exact ih
     rw [this, List.find?_cons]
     simp only [h1]
   ·rw [if_neg ha]
    have hany' : (l.any fun kv => decide (kv.1 = k)) = true := by
     simpa [ha] using hany
    by_cases hz : a.1 = z
    ·have : z ≠ k := fun e => ha (hz.trans e)
     rw [if_neg this]
     simp [hz]
    ·simp only [decide_eq_false hz]
     rw [ih hany', List.find?_cons]
     simp only [decide_eq_false hz]
 ·rw [if_neg hany, List.find?_append]
  have hn : z = k → List.find? (fun kv => decide (kv.1 = z)) kvs = none := by
   rintro rfl
   rw [List.find?_eq_none]
   intro x hx
   rw [List.any_eq_true] at hany
   intro h
   exact hany ⟨x, hx, h⟩
  by_cases hz : z = k
  ·rw [if_pos hz, hn hz]
   simp [hz]
  ·rw [if_neg hz]
   cases List.find? (fun kv => decide (kv.1 = z)) kvs with
   | some x => rfl
   | none => simp [Ne.symm hz]
section
variable (as bs : List Int) (alo blo bhi : Nat)
noncomputable def BlkZ (i j k : Nat) : Prop := ∀ t, t < k → i + t < as.length ∧ as[i + t]? = bs[j + t]?
noncomputable def sfx : Nat → Nat → Nat
 | 0, _ => 0
 | _ + 1, 0 => 0
 | i + 1, j + 1 => if alo ≤ i ∧ blo ≤ j ∧ i < as.length ∧ as[i]? = bs[j]? then sfx i j + 1 else 0
theorem sfx_ok : ∀ i j, sfx as bs alo blo i j ≤ i - alo ∧ sfx as bs alo blo i j ≤ j - blo ∧ BlkZ as bs (i - sfx as bs alo blo i j) (j - sfx as bs alo blo i j) (sfx as bs alo blo i j)
 | 0, j => by simp [sfx, BlkZ]
 | i + 1, 0 => by simp [sfx, BlkZ]
 | i + 1, j + 1 => by
  unfold sfx
  split
  ·rename_i h
   obtain ⟨h1, h2, h3⟩ := sfx_ok i j
   refine ⟨by lia, by lia, fun t ht => ?_⟩
   by_cases e : t = sfx as bs alo blo i j
   ·have e1 : i + 1 - (sfx as bs alo blo i j + 1) + t = i := by lia
    have e2 : j + 1 - (sfx as bs alo blo i j + 1) + t = j := by lia
    rw [e1, e2]
    exact ⟨h.2.2.1, h.2.2.2⟩
   ·have e1 : i + 1 - (sfx as bs alo blo i j + 1) = i - sfx as bs alo blo i j := by lia
    have e2 : j + 1 - (sfx as bs alo blo i j + 1) = j - sfx as bs alo blo i j := by lia
    rw [e1, e2]
    exact h3 t (by lia)
  ·simp [BlkZ]
theorem sfx_max {i j : Nat} (hi : alo ≤ i) (hj : blo ≤ j) : ∀ k, BlkZ as bs i j k → k ≤ sfx as bs alo blo (i + k) (j + k)
 | 0, _ => Nat.zero_le _
 | k + 1, h => by
  have ih := sfx_max hi hj k fun t ht => h t (by lia)
  obtain ⟨h1, h2⟩ := h k (by lia)
  show k + 1 ≤ sfx as bs alo blo (i + k + 1) (j + k + 1)
  unfold sfx
  rw [if_pos ⟨by lia, by lia, h1, h2⟩]
  lia
theorem sfx_lo (i j : Nat) (h : j ≤ blo) : sfx as bs alo blo i j = 0 := by
 have := (sfx_ok as bs alo blo i j).2.1
 lia
theorem sfx_no {i j : Nat} (h : ¬ as[i]? = bs[j]?) : sfx as bs alo blo (i + 1) (j + 1) = 0 := by
 unfold sfx
 rw [if_neg (fun e => h e.2.2.2)]
theorem sfx_yes {i j : Nat} (h1 : alo ≤ i) (h2 : blo ≤ j) (h3 : i < as.length) (h : as[i]? = bs[j]?) : sfx as bs alo blo (i + 1) (j + 1) = sfx as bs alo blo i j + 1 := by
 show (if alo ≤ i ∧ blo ≤ j ∧ i < as.length ∧ as[i]? = bs[j]? then _ else _) = _
 rw [if_pos ⟨h1, h2, h3, h⟩]
structure Bst (i bi bj bk : Nat) : Prop where
 ia : alo ≤ bi
 ib : bi + bk ≤ i
 ja : blo ≤ bj
 jb : bj + bk ≤ bhi
 blk : BlkZ as bs bi bj bk
 mx : ∀ i' j', i' ≤ i → j' ≤ bhi → sfx as bs alo blo i' j' ≤ bk
structure Bsi (i : Nat) (done : List Nat) (bi bj bk : Nat) : Prop where
 ia : alo ≤ bi
 ib : bi + bk ≤ i + 1
 ja : blo ≤ bj
 jb : bj + bk ≤ bhi
 blk : BlkZ as bs bi bj bk
 mx : ∀ i' j', i' ≤ i → j' ≤ bhi → sfx as bs alo blo i' j' ≤ bk
 row : ∀ j ∈ done, blo ≤ j → j < bhi → sfx as bs alo blo (i + 1) (j + 1) ≤ bk
noncomputable def JR (kvs : List (Int × Value)) (i : Nat) : Prop := ∀ z : Int, (valueAt kvs z = none ∧ ∀ j : Nat, z = (j : Int) → blo ≤ j → j < bhi → sfx as bs alo blo i (j + 1) = 0) ∨
 ∃ (j : Nat) (t : Tok), z = (j : Int) ∧ blo ≤ j ∧ j < bhi ∧ valueAt kvs z = some (.int (sfx as bs alo blo i (j + 1) : Int) t)
noncomputable def NR (kvs : List (Int × Value)) (i : Nat) (done : List Nat) : Prop := ∀ z : Int, (valueAt kvs z = none ∧ ∀ j : Nat, z = (j : Int) → blo ≤ j → j < bhi → j ∉ done) ∨
 ∃ (j : Nat) (t : Tok), z = (j : Int) ∧ j ∈ done ∧ blo ≤ j ∧ j < bhi ∧ valueAt kvs z = some (.int (sfx as bs alo blo (i + 1) (j + 1) : Int) t)
variable {as bs alo blo bhi}
theorem Bst.start (h : blo ≤ bhi) : Bst as bs alo blo bhi alo alo blo 0 := by
 refine ⟨Nat.le_refl _, Nat.le_refl _, Nat.le_refl _, h, fun t h => absurd h (Nat.not_lt_zero _), fun i' j' h1 h2 => ?_⟩
 have := (sfx_ok as bs alo blo i' j').1
 lia
theorem Bst.row {i bi bj bk : Nat} (h : Bst as bs alo blo bhi i bi bj bk) : Bsi as bs alo blo bhi i [] bi bj bk :=
 ⟨h.ia, by have := h.ib; lia, h.ja, h.jb, h.blk, h.mx, fun _ h => (nomatch h)⟩
theorem JR.start : JR as bs alo blo bhi [] alo := fun z => .inl ⟨rfl, fun j _ _ _ => by
 have := (sfx_ok as bs alo blo alo (j + 1)).1
 lia⟩
theorem NR.start (i : Nat) : NR as bs alo blo bhi [] i [] := fun z => .inl ⟨rfl, fun j _ _ _ h => nomatch h⟩
theorem JR.get {kvs : List (Int × Value)} {i j : Nat} (h : JR as bs alo blo bhi kvs i) (h1 : blo ≤ j) (h2 : j < bhi) (t : Tok) : ∃ t', (valueAt kvs ((j : Int) - 1)).getD (.int 0 t) = .int (sfx as bs alo blo i j : Int) t' := by
 rcases h ((j : Int) - 1) with ⟨e, hz⟩ | ⟨j', t', e1, e2, e3, e4⟩
 ·rw [e]
  have : sfx as bs alo blo i j = 0 := by
   by_cases hj : j ≤ blo
   ·exact sfx_lo as bs alo blo i j hj
   ·have := hz (j - 1) (by lia) (by lia) (by lia)
    rwa [show j - 1 + 1 = j by lia] at this
  rw [this]
  exact ⟨t, rfl⟩
 ·rw [e4]
  have : j' + 1 = j := by lia
  rw [this]
  exact ⟨t', rfl⟩
theorem NR.skip {kvs : List (Int × Value)} {i j : Nat} {done : List Nat} (h : NR as bs alo blo bhi kvs i done) (h1 : j < blo) : NR as bs alo blo bhi kvs i (done ++ [j]) := fun z => by
 rcases h z with ⟨e, hz⟩ | ⟨j', t', e1, e2, e3, e4, e5⟩
 ·refine .inl ⟨e, fun j' a b c d => ?_⟩
  rcases List.mem_append.mp d with d | d
  ·exact hz j' a b c d
  ·rw [List.mem_singleton.mp d] at b; lia
 ·exact .inr ⟨j', t', e1, List.mem_append_left _ e2, e3, e4, e5⟩
theorem NR.put {kvs : List (Int × Value)} {i j : Nat} {done : List Nat} (h : NR as bs alo blo bhi kvs i done) (h1 : blo ≤ j) (h2 : j < bhi) (t : Tok) : NR as bs alo blo bhi (stored kvs (j : Int) (.int (sfx as bs alo blo (i + 1) (j + 1) : Int) t)) i (done ++ [j]) := fun z => by
 rw [valueAt_stored]
 by_cases hz : z = (j : Int)
 ·rw [if_pos hz]
  exact .inr ⟨j, t, hz, List.mem_append_right _ (.head _), h1, h2, rfl⟩
 ·rw [if_neg hz]
  rcases h z with ⟨e, hn⟩ | ⟨j', t', e1, e2, e3, e4, e5⟩
  ·refine .inl ⟨e, fun j' a b c d => ?_⟩
   rcases List.mem_append.mp d with d | d
   ·exact hn j' a b c d
   ·rw [List.mem_singleton.mp d] at a; exact hz a
  ·exact .inr ⟨j', t', e1, List.mem_append_left _ e2, e3, e4, e5⟩
theorem NR.over {kvs : List (Int × Value)} {i : Nat} {done : List Nat} (h : NR as bs alo blo bhi kvs i done) (ha : ∀ j, blo ≤ j → j < bhi → as[i]? = bs[j]? → j ∈ done) : JR as bs alo blo bhi kvs (i + 1) := fun z => by
 rcases h z with ⟨e, hn⟩ | ⟨j', t', e1, e2, e3, e4, e5⟩
 ·refine .inl ⟨e, fun j a b c => ?_⟩
  by_cases d : as[i]? = bs[j]?
  ·exact absurd (ha j b c d) (hn j a b c)
  ·exact sfx_no as bs alo blo d
 ·exact .inr ⟨j', t', e1, e3, e4, e5⟩
theorem Bsi.skip {i bi bj bk j : Nat} {done : List Nat} (h : Bsi as bs alo blo bhi i done bi bj bk) (h1 : j < blo) : Bsi as bs alo blo bhi i (done ++ [j]) bi bj bk :=
 ⟨h.ia, h.ib, h.ja, h.jb, h.blk, h.mx, fun j' hj a b => by
  rcases List.mem_append.mp hj with d | d
  ·exact h.row j' d a b
  ·rw [List.mem_singleton.mp d] at a; lia⟩
theorem Bsi.keep {i bi bj bk j : Nat} {done : List Nat} (h : Bsi as bs alo blo bhi i done bi bj bk) (h1 : sfx as bs alo blo (i + 1) (j + 1) ≤ bk) : Bsi as bs alo blo bhi i (done ++ [j]) bi bj bk :=
 ⟨h.ia, h.ib, h.ja, h.jb, h.blk, h.mx, fun j' hj a b => by
  rcases List.mem_append.mp hj with d | d
  ·exact h.row j' d a b
  ·rw [List.mem_singleton.mp d]; exact h1⟩
theorem Bsi.put {i bi bj bk j k : Nat} {done : List Nat} (h : Bsi as bs alo blo bhi i done bi bj bk) (hk : k = sfx as bs alo blo (i + 1) (j + 1)) (hi : alo ≤ i) (hb : blo ≤ j) (h2 : j < bhi) (h1 : bk < k) : Bsi as bs alo blo bhi i (done ++ [j]) (i + 1 - k) (j + 1 - k) k := by
 obtain ⟨a1, a2, a3⟩ := sfx_ok as bs alo blo (i + 1) (j + 1)
 rw [← hk] at a1 a2 a3
 refine ⟨by lia, by lia, by lia, by lia, a3, fun i' j' x y => Nat.le_trans (h.mx i' j' x y) (Nat.le_of_lt h1), fun j' hj a b => ?_⟩
 rcases List.mem_append.mp hj with d | d
 ·exact Nat.le_trans (h.row j' d a b) (Nat.le_of_lt h1)
 ·rw [List.mem_singleton.mp d, ← hk]; exact Nat.le_refl _
theorem Bsi.over {i bi bj bk : Nat} {done : List Nat} (h : Bsi as bs alo blo bhi i done bi bj bk) (ha : ∀ j, blo ≤ j → j < bhi → as[i]? = bs[j]? → j ∈ done) : Bst as bs alo blo bhi (i + 1) bi bj bk := by
 refine ⟨h.ia, h.ib, h.ja, h.jb, h.blk, fun i' j' x y => ?_⟩
 by_cases e : i' ≤ i
 ·exact h.mx i' j' e y
 ·have e : i' = i + 1 := by lia
  subst e
  by_cases c : j' ≤ blo
  ·rw [sfx_lo as bs alo blo _ _ c]; exact Nat.zero_le _
  ·obtain ⟨j, rfl⟩ : ∃ j, j' = j + 1 := ⟨j' - 1, by lia⟩
   by_cases d : as[i]? = bs[j]?
   ·exact h.row j (ha j (by lia) (by lia) d) (by lia) (by lia)
   ·rw [sfx_no as bs alo blo d]; exact Nat.zero_le _
structure BestZ (as bs : List Int) (alo ahi blo bhi i j k : Nat) : Prop where
 ia : alo ≤ i
 ib : i + k ≤ ahi
 ja : blo ≤ j
 jb : j + k ≤ bhi
 blk : BlkZ as bs i j k
 max : ∀ i' j' k', alo ≤ i' → i' + k' ≤ ahi → blo ≤ j' → j' + k' ≤ bhi → BlkZ as bs i' j' k' → k' ≤ k
theorem Bst.best {ahi bi bj bk : Nat} (h : Bst as bs alo blo bhi ahi bi bj bk) : BestZ as bs alo ahi blo bhi bi bj bk :=
 ⟨h.ia, h.ib, h.ja, h.jb, h.blk, fun i' j' k' a b c d e => Nat.le_trans (sfx_max as bs alo blo a c k' e) (h.mx _ _ b d)⟩
theorem BestZ.left {ahi i j k : Nat} (h : BestZ as bs alo ahi blo bhi i j k) (h1 : alo < i) (h2 : blo < j) (hl : i ≤ as.length) : as[i - 1]? ≠ bs[j - 1]? := fun e => by
 have hb := h.ib
 have hj := h.jb
 have := h.max (i - 1) (j - 1) (k + 1) (by lia) (by lia) (by lia) (by lia) fun t ht => by
  by_cases c : t = 0
  ·subst c; exact ⟨by lia, e⟩
  ·have z := h.blk (t - 1) (by lia)
   rw [show i - 1 + t = i + (t - 1) by lia, show j - 1 + t = j + (t - 1) by lia]
   exact z
 lia
theorem BestZ.right {ahi i j k : Nat} (h : BestZ as bs alo ahi blo bhi i j k) (h1 : i + k < ahi) (h2 : j + k < bhi) (hl : i + k < as.length) : as[i + k]? ≠ bs[j + k]? := fun e => by
 have := h.max i j (k + 1) h.ia (by lia) h.ja (by lia) fun t ht => by
  by_cases c : t = k
  ·subst c; exact ⟨hl, e⟩
  ·exact h.blk t (by lia)
 lia
end
end Mine
end
section
theorem Mine.wlFnr : True := by
 k_with_none
 trivial
namespace Mine
theorem wlFn0 : True := by
 k_with_none
 k_with "Nx" => (refine' hold_out ?_)
 k_with "eval Name" => (k_here; k_dflt (refine nameX_L (by k_asm) (by first | rfl | assumption) ?_ rfl rfl); k_whole)
 k_with "getAttr ref" => (k_here; ((with_reducible show wpAny _ _ (getAttr (Value.ref _) (Str.ofString "__contains__") _) _ _ _); refine attr_setN (by k_asm) (by k_asm) (by k_mem) (by assumption) (by decide) ?_); k_whole; intro _ _ _ _ _ _)
 k_with "getAttr ref" => (k_here; ((with_reducible show wpAny _ _ (getAttr (Value.ref _) (Str.ofString "get") _) _ _ _); refine attr_dictN (by k_asm) (by k_asm) (by k_mem) (by assumption) ?_); k_whole; intro _ _ _ _ _ _)
 trivial
section
variable {C : Cx} {s₀ s : Shared} {m : Str → Option Value} {N : List (Addr × Obj)} {Q : Flow → Shared → Prop}
theorem Cx.T.isNone {x : Str} {v : Value} {k : Nat} {p p2 pos : Pos} (hm : m x = some v) (hv : v ≠ .none) (hx : C.lc x = true) : C.T m (.Compare (.Name x p) [.Is] [.Constant .none k p2] pos) False := fun s Q F h1 h2 =>
 wpAny_isTrue_Compare1 (Cx.V.name hm hx s _ F fun tk => wpAny_Constant_none (is_none_ne hv (wpAny_truthy_bool (h2 id _)))) (by with_unfolding_all rfl)
noncomputable def Cx.H (C : Cx) (m : Str → Option Value) (N : List (Addr × Obj)) (e : Expr) (i : Int) : Prop := ∀ (s₀ s : Shared) (Q : Value → Shared → Prop), C.St s₀ m N s → (∀ t s', C.St s₀ m N s' → Q (.int i t) s') → wpAny (model prog C.w) C.A (eval e C.env) Q C.E s
noncomputable def Cx.Th (C : Cx) (m : Str → Option Value) (N : List (Addr × Obj)) (e : Expr) (p : Prop) : Prop := ∀ (s₀ s : Shared) (Q : Bool → Shared → Prop), C.St s₀ m N s → (p → ∀ s', C.St s₀ m N s' → Q true s') → (¬p → ∀ s', C.St s₀ m N s' → Q false s') → C.Wt e Q s
theorem Cx.Th.of {e : Expr} {p : Prop} (T : C.T m e p) : C.Th m N e p := fun s₀ s Q S h1 h2 => T s Q S.F (fun h tk => h1 h _ (S.put S.F S.N)) fun h tk => h2 h _ (S.put S.F S.N)
theorem Cx.Th.and {x : Expr} {r : List Expr} {p q : Prop} {pos : Pos} (hx : C.Th m N x p) (hr : p → C.Th m N (.BoolOp .And r pos) q) : C.Th m N (.BoolOp .And (x :: r) pos) (p ∧ q) := fun s₀ s Q S h1 h2 =>
 isTrue_and (hx s₀ s _ S (fun hp s' S' => (if_pos rfl).mpr (hr hp s₀ _ _ S' (fun hq => h1 ⟨hp, hq⟩) fun hq => h2 fun z => hq z.2)) fun hp s' S' => h2 (fun z => hp z.1) s' S')
theorem Cx.Th.nil {pos : Pos} : C.Th m N (.BoolOp .And [] pos) True := .of Cx.T.nil
theorem Cx.Th.not {x : Expr} {p : Prop} {pos : Pos} (hx : C.Th m N x p) : C.Th m N (.UnaryOp .Not x pos) (¬p) := fun s₀ s Q S h1 h2 =>
 isTrue_not (hx s₀ s _ S (fun hp s' S' => h2 (fun z => z hp) s' S') fun hp s' S' => h1 hp s' S')
theorem Cx.Th.eq {x y : Expr} {i j : Int} {pos : Pos} (hx : C.H m N x i) (hy : C.H m N y j) (hm : behindInMarks .Eq y = false := by with_unfolding_all rfl) : C.Th m N (.Compare x [.Eq] [y] pos) (i = j) := by
 intro s₀ s Q S h1 h2
 refine wpAny_isTrue_Compare1 (hx s₀ s _ S fun t s S => hy s₀ _ _ S fun t' s S => ?_) hm
 refine eq_int (wpAny_truthy_bool ?_)
 by_cases q : i = j
 ·rw [beq_iff_eq.mpr q]; exact h1 q _ S
 ·rw [beq_eq_false_iff_ne.mpr q]; exact h2 q _ S
theorem Cx.H.item {x : Str} {l : Nat} {vs : List Value} {ns : List Int} {e : Expr} {k : Int} {p pos : Pos} (hm : m x = some (.ref l)) (hl : C.g.IsList l vs.toArray) (hi : IntsAre vs ns) (H : C.I m e k) (h0 : 0 ≤ k) (hk : k < (ns.length : Int)) (hz : ns.length < 200) (hx : C.lc x = true)
  (hs : ∀ u, subscripted e false (.ref l) (.int k u) = operate [.ref l, .int k u] (getItem (.ref l) (.int k u)) := by intro _; with_unfolding_all rfl) (hg : ∀ r, letTemporaryGo (.Name x p) (.ref l) r = pure () := by intro _; with_unfolding_all rfl) :
  C.H m N (.Subscript (.Name x p) e pos) (ns.getD k.toNat 0) := fun s₀ s Q S h => by
 refine Subscript_ (Cx.V.name hm hx _ _ S.F fun tk => H _ _ S.F fun u tk' => ?_)
 have hlt : k.toNat < ns.length := by lia
 have e1 := List.getElem?_eq_getElem hlt
 obtain ⟨t, ht⟩ := hi.get _ _ e1
 have e2 : ns.getD k.toNat 0 = ns[k.toNat] := by rw [List.getD_eq_getElem?_getD, e1]; rfl
 exact item_listL (S.F.lst hl) h0 (by lia) ht (e2 ▸ h t _ (S.put S.F S.N)) (hs u) hg
theorem Cx.Th.junk {x : Str} {u J : Nat} {oj : Obj} {e : Expr} {k : Int} {p pos : Pos} (hm : m x = some (.ref u)) (hu : (u, bbm "set.__contains__" J) ∈ N) (hJ : (J, oj) ∈ N) (hs : oj.SetObjOf (PySem.intKind prog C.w) (fun _ => false) 0) (H : C.H m N e k) (hx : C.lc x = true)
  (he : ∀ env, starEach [e] env = [(false, eval e env)] := by intro _; rfl)
  (hc : eval (.Call (.Name x p) [e] [] pos) C.env = (do callWith pos (← eval (.Name x p) C.env) [] (backTo pos (starEach [e] C.env)) (backToKw pos (keywordEach [] C.env))) := by rfl)
  (ht : isTrue (.Call (.Name x p) [e] [] pos) C.env (eval (.Call (.Name x p) [e] [] pos) C.env) = (do let v ← eval (.Call (.Name x p) [e] [] pos) C.env; standAt (Expr.pos (.Call (.Name x p) [e] [] pos)); holding [v] (truthy v)) := by rfl) :
  C.Th m N (.Call (.Name x p) [e] [] pos) False := fun s₀ s Q S h1 h2 => by
 refine isTrue_plain (Call_ (Cx.V.name hm hx _ _ S.F fun tk => ?_) hc) ht
 refine callWith_bbm (u := u) (J := J) (id := "set.__contains__") (args_cons (H s₀ _ _ (S.put S.F S.N) fun t s S => args_nil ⟨BB.of S.N hu, call_junk S.N hu hJ hs fun tk => wpAny_truthy_bool (h2 id _ (S.put S.F S.N))⟩) (he _)) (he _) rfl
theorem Cx.skip {test : Expr} {p : Prop} {body : List Stmt} {pos : Pos} (S : C.St s₀ m N s) (H : C.Th m N test p) (hp : ¬p) (h : ∀ s', C.St s₀ m N s' → Q .next s') (hE : PassesOwn (model prog C.w) C.A C.env C.E := by passes_own) : C.Wp (.While test body [] pos) Q s := by
 refine Cx.while_ (fun _ m' N' => m' = m ∧ N' = N) (fun m' N' => m' = m ∧ N' = N) (n₀ := 0) S ⟨rfl, rfl⟩ (fun n m' N' s1 S1 e => ?_) (fun m' N' s1 S1 e => ?_) hE
 ·obtain ⟨rfl, rfl⟩ := e
  exact H s₀ s1 _ S1 (fun q => (hp q).elim) fun _ s' S' => .mk S' ⟨rfl, rfl⟩
 ·obtain ⟨rfl, rfl⟩ := e
  exact h s1 S1
theorem dg_method {w : World} {A : Around} {E : Value → Shared → Prop} {s : Shared} {h₀ : Heap} {L d : Addr} {news : List (Addr × Obj)} {o : Obj} {kvs : List (Int × Value)} {pl : Sem Bool} {Q : Value × List Value → Shared → Prop} (N : News h₀ L s.heap news) (hp : (d, o) ∈ news) (hd : o.IsDictOf (PySem.intKind prog w) kvs) (h : Q (.builtin "dict.get", [.ref d]) s) : wpAny (model prog w) A (getMethod (.ref d) "get" pl) Q E s :=
 have hD := kda_dict N hp hd
 getMethod_builtin hD.typeIs PySem.F.plainAttrs_dict PySem.F.slot_dict_get PySem.F.type_dict_get hD.mapOf.noDict h
theorem Cx.dget {x y : Str} {e : Expr} {d : Nat} {o : Obj} {kvs : List (Int × Value)} {k : Int} {v : Value} {p1 p2 p3 p4 : Pos} {pl : Sem Bool} (S : C.St s₀ m N s) (hm : m x = some (.ref d)) (hp : (d, o) ∈ N) (hd : o.IsDictOf (PySem.intKind prog C.w) kvs) (lo : (d == sysModules) = false) (H : C.H m N e k) (hy : m y = some v) (hx : C.lc x = true) (hx2 : C.lc y = true)
  (Q : Value → Shared → Prop) (h : ∀ s', C.St s₀ m N s' → Q ((valueAt kvs k).getD v) s')
  (h1 : ∀ env, starEach (e :: [.Name y p3]) env = (false, eval e env) :: starEach [.Name y p3] env := by intro _; rfl)
  (he : eval (.Call (.Attribute (.Name x p1) (Str.ofString "get") p2) [e, .Name y p3] [] p4) C.env = (do
   let ov ← eval (.Name x p1) C.env
   standAt p2.atName
   let (f, first) ← holding [ov] (getMethod ov (Str.ofString "get") pl)
   callWith p4 f first (backTo p4 (starEach [e, .Name y p3] C.env)) []) := by rfl) :
  wpAny (model prog C.w) C.A (eval (.Call (.Attribute (.Name x p1) (Str.ofString "get") p2) [e, .Name y p3] [] p4) C.env) Q C.E s := by
 refine MethodCall_ (Cx.V.name hm hx _ _ S.F fun tk => dg_method S.N hp hd (callWith_method1 ?_ (h1 _))) he
 refine args_cons (H s₀ _ _ (S.put S.F S.N) fun t s S => args_cons (Cx.V.name hy hx2 _ _ S.F fun tk => args_nil ?_)) (h1 _)
 exact kdg_get2 (knd := PySem.intKind _ _) S.N hp hd lo (intKind_is _ _ _ _) _ rfl (h _ (S.put S.F S.N))
theorem Cx.jput {rest : List (Addr × Obj)} {jd nd gx : Nat} {jo no : Obj} {jk nk : List (Int × Value)} {j v : Int} {tj : Tok} {k1 k2 k3 : Nat} {p1 p2 p3 p4 p5 p6 p7 p8 p9 p10 p11 p12 pos : Pos} (S : C.St s₀ m ((nd, no) :: rest) s) (hg : m (Str.ofString "j2lenget") = some (.ref gx)) (hn : m (Str.ofString "newj2len") = some (.ref nd)) (hj : m (Str.ofString "j") = some (.int j tj))
  (mg : (gx, bbm "dict.get" jd) ∈ rest) (mj : (jd, jo) ∈ rest) (hjo : jo.IsDictOf (PySem.intKind prog C.w) jk) (lo : (jd == sysModules) = false) (hv : ∀ t, ∃ t', (valueAt jk (j - 1)).getD (.int 0 t) = .int v t') (off : ∀ p ∈ rest, p.1 ≠ nd) (hno : no.IsDictOf (PySem.intKind prog C.w) nk) (hl : nk.length ≤ sizeLine)
  (h : ∀ t no' s', C.St s₀ (upd m (Str.ofString "k") (.int (v + 1) t)) ((nd, no') :: rest) s' → no'.IsDictOf (PySem.intKind prog C.w) (stored nk j (.int (v + 1) t)) → Q .next s')
  (hx1 : C.lc (Str.ofString "j2lenget") = true := by rfl) (hx2 : C.lc (Str.ofString "newj2len") = true := by rfl) (hx3 : C.lc (Str.ofString "j") = true := by rfl) (hx4 : C.lc (Str.ofString "k") = true := by rfl)
  (hw : swappedStores [.Name (Str.ofString "k") p1, .Subscript (.Name (Str.ofString "newj2len") p2) (.Name (Str.ofString "j") p3) p4] (.BinOp (.Call (.Name (Str.ofString "j2lenget") p5) [.BinOp (.Name (Str.ofString "j") p6) .Sub (.Constant (.int 1) k1 p7) p8, .Constant (.int 0) k2 p9] [] p10) .Add (.Constant (.int 1) k3 p11) p12) C.env = pure none := by rfl)
  (hc : eval (.Call (.Name (Str.ofString "j2lenget") p5) [.BinOp (.Name (Str.ofString "j") p6) .Sub (.Constant (.int 1) k1 p7) p8, .Constant (.int 0) k2 p9] [] p10) C.env = (do callWith p10 (← eval (.Name (Str.ofString "j2lenget") p5) C.env) [] (backTo p10 (starEach [.BinOp (.Name (Str.ofString "j") p6) .Sub (.Constant (.int 1) k1 p7) p8, .Constant (.int 0) k2 p9] C.env)) (backToKw p10 (keywordEach [] C.env))) := by rfl) :
  C.Wp (.Assign [.Name (Str.ofString "k") p1, .Subscript (.Name (Str.ofString "newj2len") p2) (.Name (Str.ofString "j") p3) p4] (.BinOp (.Call (.Name (Str.ofString "j2lenget") p5) [.BinOp (.Name (Str.ofString "j") p6) .Sub (.Constant (.int 1) k1 p7) p8, .Constant (.int 0) k2 p9] [] p10) .Add (.Constant (.int 1) k3 p11) p12) pos) Q s := by
 have mg' : (gx, bbm "dict.get" jd) ∈ (nd, no) :: rest := .tail _ mg
 refine wpAny_Assign_two (wpAny_BinOp (Call_ (Cx.V.name hg hx1 _ _ S.F fun tk => ?_) hc)) rfl hw
 refine callWith_bbm (u := gx) (J := jd) (id := "dict.get") (args_cons (Cx.I.sub (Cx.I.name hj hx3) Cx.I.const _ _ S.F fun t tk => args_cons (Cx.I.const _ _ S.F fun t2 tk2 => args_nil ⟨BB.of S.N mg', call_jget S.N mg' (.tail _ mj) hjo lo fun tk3 => ?_⟩)))
 obtain ⟨t3, e3⟩ := hv t2
 rw [e3]
 refine wpAny_Constant_int (add_int ?_)
 refine assign_Name (Cx.sto (S.put S.F S.N) hx4 fun s S => kas_sub ?_)
 refine Cx.V.name (v := .ref nd) ?_ hx2 _ _ S.F fun tk => Cx.V.name (v := .int j tj) ?_ hx3 _ _ S.F fun tk => ?_
 ·exact hn
 ·exact hj
 refine kda_set (knd := PySem.intKind _ _) S.F S.N (.head off) hno (intKind_is _ _ _ _) hl fun h' o' F' N' hd => h _ _ _ (S.put F' N') hd
end
theorem getD_opt {as bs : List Int} {k l : Int} {i j : Nat} (hk : k.toNat = i) (hl : l.toNat = j) (hi : i < as.length) (hj : j < bs.length) (e : as.getD k.toNat 0 = bs.getD l.toNat 0) : as[i]? = bs[j]? := by
 rw [hk, hl, List.getD_eq_getElem?_getD, List.getD_eq_getElem?_getD, List.getElem?_eq_getElem hi, List.getElem?_eq_getElem hj] at e
 rw [List.getElem?_eq_getElem hi, List.getElem?_eq_getElem hj]
 exact congrArg some e
theorem take_below {l : List Nat} (hs : l.Pairwise (· < ·)) {q j j' : Nat} (h1 : l[q]? = some j) (h2 : j' ∈ l) (h3 : j' < j) : j' ∈ l.take q := by
 obtain ⟨i, hi, rfl⟩ := List.getElem_of_mem h2
 obtain ⟨hq, rfl⟩ := List.getElem?_eq_some_iff.mp h1
 have hiq : i < q := by
  rcases Nat.lt_trichotomy i q with h | h | h
  ·exact h
  ·subst h; lia
  ·have := List.pairwise_iff_getElem.mp hs q i hq hi h
   lia
 exact List.mem_take_iff_getElem.mpr ⟨i, by lia, rfl⟩
theorem Cx.asgDict {C : Cx} {s₀ s : Shared} {m : Str → Option Value} {N : List (Addr × Obj)} {Q : Flow → Shared → Prop} {x : Str} {pos pos' pos2 : Pos} (S : C.St s₀ m N s) (hbig : C.g.NoLimit) (hx : C.lc x = true) (h : ∀ D o s', (∀ p ∈ N, p.1 < D) → (D == sysModules) = false → o.IsDictOf (PySem.intKind prog C.w) [] → C.St s₀ (upd m x (.ref D)) ((D, o) :: N) s' → Q .next s') (hs : swapsWith (.Dict [] [] pos2) (some (.Name x pos')) pos.line C.env = pure false := by rfl) : C.Wp (.Assign [.Name x pos'] (.Dict [] [] pos2) pos) Q s :=
 wpAny_Assign_Name (newDict_K S.F S.N hbig fun d h' o F' N' hl lo _ _ hi _ => Cx.sto (S.put F' N') hx fun s' S' => h d o s' hl lo hi S') hs
structure FF (a b B x No alo ahi blo bhi : Nat) (u1 u2 u3 u4 : Tok) (jd bi bj bk : Nat) (s1 s2 s3 : Tok) (m : Str → Option Value) : Prop where
 a : m (Str.ofString "a") = some (.ref a)
 b : m (Str.ofString "b") = some (.ref b)
 b2j : m (Str.ofString "b2j") = some (.ref B)
 isb : m (Str.ofString "isbjunk") = some (.ref x)
 no : m (Str.ofString "nothing") = some (.ref No)
 alo : m (Str.ofString "alo") = some (.int (alo : Int) u1)
 ahi : m (Str.ofString "ahi") = some (.int (ahi : Int) u2)
 blo : m (Str.ofString "blo") = some (.int (blo : Int) u3)
 bhi : m (Str.ofString "bhi") = some (.int (bhi : Int) u4)
 jd : m (Str.ofString "j2len") = some (.ref jd)
 bi : m (Str.ofString "besti") = some (.int (bi : Int) s1)
 bj : m (Str.ofString "bestj") = some (.int (bj : Int) s2)
 bk : m (Str.ofString "bestsize") = some (.int (bk : Int) s3)
structure FF2 (a b B x No alo ahi blo bhi : Nat) (u1 u2 u3 u4 : Tok) (jd gx nd : Nat) (i : Int) (t : Tok) (bi bj bk : Nat) (s1 s2 s3 : Tok) (m : Str → Option Value) : Prop extends FF a b B x No alo ahi blo bhi u1 u2 u3 u4 jd bi bj bk s1 s2 s3 m where
 i : m (Str.ofString "i") = some (.int i t)
 gx : m (Str.ofString "j2lenget") = some (.ref gx)
 nd : m (Str.ofString "newj2len") = some (.ref nd)
theorem upd_at {m : Str → Option Value} {x y : Str} {v : Value} {o : Option Value} (h : (!(y == x)) = true) (e : m y = o) : upd m x v y = o := by
 have : y ≠ x := fun z => by rw [z] at h; simp at h
 exact (if_neg this).trans e
theorem FF.upd {a b B x No alo ahi blo bhi : Nat} {u1 u2 u3 u4 : Tok} {jd bi bj bk : Nat} {s1 s2 s3 : Tok} {m : Str → Option Value} {y : Str} {v : Value} (h : FF a b B x No alo ahi blo bhi u1 u2 u3 u4 jd bi bj bk s1 s2 s3 m) (hx : ([Str.ofString "a", Str.ofString "b", Str.ofString "b2j", Str.ofString "isbjunk", Str.ofString "nothing", Str.ofString "alo", Str.ofString "ahi", Str.ofString "blo", Str.ofString "bhi", Str.ofString "j2len", Str.ofString "besti", Str.ofString "bestj", Str.ofString "bestsize"].all fun n => !(n == y)) = true) : FF a b B x No alo ahi blo bhi u1 u2 u3 u4 jd bi bj bk s1 s2 s3 (upd m y v) := by
 simp only [List.all_cons, Bool.and_eq_true] at hx
 obtain ⟨h0, h1, h2, h3, h4, h5, h6, h7, h8, h9, h10, h11, h12, _⟩ := hx
 exact ⟨upd_at h0 h.a, upd_at h1 h.b, upd_at h2 h.b2j, upd_at h3 h.isb, upd_at h4 h.no, upd_at h5 h.alo, upd_at h6 h.ahi, upd_at h7 h.blo, upd_at h8 h.bhi, upd_at h9 h.jd, upd_at h10 h.bi, upd_at h11 h.bj, upd_at h12 h.bk⟩
theorem FF2.upd {a b B x No alo ahi blo bhi : Nat} {u1 u2 u3 u4 : Tok} {jd bi bj bk : Nat} {s1 s2 s3 : Tok} {m : Str → Option Value} {gx nd : Nat} {i : Int} {t : Tok} {y : Str} {v : Value} (h : FF2 a b B x No alo ahi blo bhi u1 u2 u3 u4 jd gx nd i t bi bj bk s1 s2 s3 m) (hx : ([Str.ofString "a", Str.ofString "b", Str.ofString "b2j", Str.ofString "isbjunk", Str.ofString "nothing", Str.ofString "alo", Str.ofString "ahi", Str.ofString "blo", Str.ofString "bhi", Str.ofString "j2len", Str.ofString "besti", Str.ofString "bestj", Str.ofString "bestsize"].all fun n => !(n == y)) = true) (h1 : (!(Str.ofString "i" == y)) = true) (h2 : (!(Str.ofString "j2lenget" == y)) = true) (h3 : (!(Str.ofString "newj2len" == y)) = true) : FF2 a b B x No alo ahi blo bhi u1 u2 u3 u4 jd gx nd i t bi bj bk s1 s2 s3 (upd m y v) :=
 ⟨h.toFF.upd hx, upd_at h1 h.i, upd_at h2 h.gx, upd_at h3 h.nd⟩
section
variable {C : Cx} {s : Shared} {Q : Flow → Shared → Prop}
theorem Cx.cont {pos : Pos} (h : Q .cont s) : C.Wp (.Continue pos) Q s := wpAny_Continue h
theorem Cx.brk {pos : Pos} (h : Q .brk s) : C.Wp (.Break pos) Q s := wpAny_Break h
end
inductive FJ (w : World) (as bs : List Int) (alo blo bhi : Nat) (P : Nat → Nat → Nat → Nat → Tok → Tok → Tok → (Str → Option Value) → Prop) (led : List (Addr × Obj)) (r : Nat) (m : Str → Option Value) (N : List (Addr × Obj)) : Prop
 | mk (jd : Nat) (jo : Obj) (jk : List (Int × Value)) (bi bj bk : Nat) (s1 s2 s3 : Tok) (fm : P jd bi bj bk s1 s2 s3 m) (hN : N = (jd, jo) :: led) (hjo : jo.IsDictOf (PySem.intKind prog w) jk) (lo : (jd == sysModules) = false) (hjr : JR as bs alo blo bhi jk (alo + r)) (hb : Bst as bs alo blo bhi (alo + r) bi bj bk)
inductive FN (w : World) (as bs : List Int) (alo blo bhi : Nat) (P : Nat → Nat → Nat → Tok → Tok → Tok → (Str → Option Value) → Prop) (nd : Nat) (rest : List (Addr × Obj)) (i : Nat) (done : List Nat) (q : Nat) (m : Str → Option Value) (N : List (Addr × Obj)) : Prop
 | mk (no : Obj) (nk : List (Int × Value)) (bi bj bk : Nat) (s1 s2 s3 : Tok) (fm : P bi bj bk s1 s2 s3 m) (hN : N = (nd, no) :: rest) (hno : no.IsDictOf (PySem.intKind prog w) nk) (hnr : NR as bs alo blo bhi nk i done) (hbs : Bsi as bs alo blo bhi i done bi bj bk) (hl : nk.length ≤ q)
inductive FE (w : World) (as bs : List Int) (alo blo bhi : Nat) (P : Nat → Nat → Nat → Tok → Tok → Tok → (Str → Option Value) → Prop) (nd : Nat) (rest : List (Addr × Obj)) (i : Nat) (m : Str → Option Value) (N : List (Addr × Obj)) : Prop
 | mk (done : List Nat) (q : Nat) (all : ∀ j, blo ≤ j → j < bhi → as[i]? = bs[j]? → j ∈ done) (h : FN w as bs alo blo bhi P nd rest i done q m N)
inductive FlP (as bs : List Int) (alo ahi blo bhi : Nat) (led : List (Addr × Obj)) (r : Value) (pass' : List (Addr × Obj)) : Prop
 | mk (mx dx i j k : Nat) (s1 s2 s3 : Tok) (hr : r = .ref mx) (hp : pass' = (mx, mObj dx (i : Int) (j : Int) (k : Int) s1 s2 s3 0) :: led) (hb : BestZ as bs alo ahi blo bhi i j k) (off : ∀ p ∈ led, p.1 ≠ mx)
theorem flm (w : World) (I AD a b B J Z : Nat) (vm vo : Value) (t1 t2 t3 t4 t5 t6 t7 t8 t9 t10 : Tok) (va vb : List Value) (as bs : List Int) (ha : IntsAre va as) (hb : IntsAre vb bs) (o oj : Obj) (lists : List (Addr × Obj)) (hf : SmF w I AD B J bs o oj lists)
  (alo ahi blo bhi : Nat) (u1 u2 u3 u4 : Tok) (h1 : alo ≤ ahi) (h2 : ahi ≤ as.length) (h3 : blo ≤ bhi) (h4 : bhi ≤ bs.length) (hz1 : as.length < 200) (hz2 : bs.length < 200) :
  CallSpec w 340 (.ref 224) [.ref I, .int alo u1, .int ahi u2, .int blo u3, .int bhi u4] ((I, instObj 270 AD) :: (AD, dictOf (E10 w.params a b B J Z vm vo t1 t2 t3 t4 t5 t6 t7 t8 t9 t10) 10) :: (B, o) :: (J, oj) :: lists) (fun g => g.IsList a va.toArray ∧ g.IsList b vb.toArray)
   (FlP as bs alo ahi blo bhi ((I, instObj 270 AD) :: (AD, dictOf (E10 w.params a b B J Z vm vo t1 t2 t3 t4 t5 t6 t7 t8 t9 t10) 10) :: (B, o) :: (J, oj) :: lists)) := by
 try (unfold CallSpec prog; k_fill; fail)
 refine' spec_def (binds := [(Str.ofString "self", .ref I), (Str.ofString "alo", .int alo u1), (Str.ofString "ahi", .int ahi u2), (Str.ofString "blo", .int blo u3), (Str.ofString "bhi", .int bhi u4)]) ?ho ?hcd ?hroom ?hb ?hl ?_ ?hc ?h1 ?h2 ?h3
 case ho => k_is
 case hcd => k_is
 case hroom => decide
 case hb => intro s z; first | exact BindsTo.of_eq rfl | exact binds_K z rfl (by k_is) rfl rfl rfl
 case hl => exact locs rfl
 case hc => decide
 case h1 => exact rfl
 case h2 => exact rfl
 case h3 => exact rfl
 intro mg mb g L s₀ s Q X T hpre hL S ret
 obtain ⟨hpa, hpb⟩ := hpre
 obtain ⟨⟨kvs, hkv, hbj⟩, lo, hju, _, _⟩ := hf
 refine Cx.seq (Cx.doc S fun s S => ?_)
 refine Cx.seq ?_
 show wpAny (model prog w) _ (exec _ (envX _ _ _ _ _ _)) _ _ _
 have F : Fr g L s.heap _ := S.F
 have N : News g L s.heap _ := S.N
 k_steps
 unfold Hold
 rename_i x _ _ lx _ _ _ _ _ _ _ _ F1 N1
 obtain ⟨bl, hbl⟩ : ∃ bl, bl = (I, instObj 270 AD) :: (AD, dictOf (E10 w.params a b B J Z vm vo t1 t2 t3 t4 t5 t6 t7 t8 t9 t10) 10) :: (B, o) :: (J, oj) :: lists := ⟨_, rfl⟩
 rw [← hbl] at N1 lx
 have mB : (B, o) ∈ bl := hbl ▸ .tail _ (.tail _ (.head _))
 have mJ : (J, oj) ∈ bl := hbl ▸ .tail _ (.tail _ (.tail _ (.head _)))
 have mL : ∀ p ∈ lists, p ∈ bl := fun p hp => hbl ▸ .tail _ (.tail _ (.tail _ (.tail _ hp)))
 refine Cx.go ((S.put F1 N1).sub (N' := (x, bbm "set.__contains__" J) :: bl) fun p hp => .tail _ hp) fun s S => ?_
 refine Cx.seq (Cx.if_ S (Cx.T.isNone (v := .int (ahi : Int) u2) rfl nofun rfl) (fun z => z.elim) fun _ s S => Cx.nil ?_)
 refine Cx.seq (Cx.if_ S (Cx.T.isNone (v := .int (bhi : Int) u4) rfl nofun rfl) (fun z => z.elim) fun _ s S => Cx.nil ?_)
 refine Cx.seq (Cx.asgT S (.cons (Cx.I.name (i := (alo : Int)) (t := u1) rfl rfl) (.cons (Cx.I.name (i := (blo : Int)) (t := u3) rfl rfl) (.cons Cx.I.const .nil))) rfl rfl (Nat.le_of_ble_eq_true rfl) rfl fun D vs s hv hD S => ?_)
 obtain ⟨r1, r2, r3, rfl⟩ := ints3 hv
 refine Cx.seq (Cx.asgDict (S.sub fun p hp => .tail _ hp) T.nolimit rfl fun jd jo s hjd loj hjo S => ?_)
 refine Cx.seq (Cx.asgNil S rfl fun No s hNo S => ?_)
 obtain ⟨led, hled⟩ : ∃ led, led = (No, listOf #[] 0) :: (x, bbm "set.__contains__" J) :: bl := ⟨_, rfl⟩
 have eNo : (No, listOf #[] 0) ∈ led := hled ▸ .head _
 have ex : (x, bbm "set.__contains__" J) ∈ led := hled ▸ .tail _ (.head _)
 have eB : (B, o) ∈ led := hled ▸ .tail _ (.tail _ mB)
 have eJ : (J, oj) ∈ led := hled ▸ .tail _ (.tail _ mJ)
 have eL : ∀ p ∈ lists, p ∈ led := fun p hp => hled ▸ .tail _ (.tail _ (mL p hp))
 refine Cx.hide (R := FF a b B x No alo ahi blo bhi u1 u2 u3 u4 jd alo blo 0 r1 r2 r3) (S.sub (N' := (jd, jo) :: led) fun p hp => ?_) ⟨rfl, rfl, rfl, rfl, rfl, rfl, rfl, rfl, rfl, rfl, rfl, rfl, rfl⟩ fun m s S fm => ?_
 ·rw [hled] at hp
  rcases List.mem_cons.mp hp with h | h
  ·exact h ▸ .tail _ (.head _)
  rcases List.mem_cons.mp h with h | h
  ·exact h ▸ .head _
  ·exact .tail _ (.tail _ h)
 have hn : Builtin.Range.rangeSize (alo : Int) (ahi : Int) 1 = ((ahi - alo : Nat) : Int) := by
  rw [rangeSize_nat]; lia
 refine Cx.seq (Cx.forR (n := ahi - alo) (FJ w as bs alo blo bhi (FF a b B x No alo ahi blo bhi u1 u2 u3 u4) led) (FJ w as bs alo blo bhi (FF a b B x No alo ahi blo bhi u1 u2 u3 u4) led (ahi - alo)) S (fun Q k => ?range) rfl (small_one (by lia) (by lia) (by lia) (by lia)) hn (.mk jd jo [] alo blo 0 r1 r2 r3 fm rfl hjo loj JR.start (Bst.start h3)) ?turn (fun m N h => h) fun m N s h S => ?done)
 case range =>
  show wpAny (model prog w) _ (eval _ (envX _ _ _ _ _ _)) _ _ _
  have F : Fr g L s.heap m := S.F
  have N : News g L s.heap ((jd, jo) :: led) := S.N
  have f1 := fm.alo
  have f2 := fm.ahi
  k_steps
  exact k _ _ _ _ _ ‹IsRange _ _ _ _ _ _ _ _› (S.put ‹Fr _ _ _ _› ‹News _ _ _ _›)
 case turn =>
  intro r t It own m N s hr hI0 hown hoI hoff hJ S
  obtain ⟨jd, jo, jk, bi, bj, bk, s1, s2, s3, fm, rfl, hjo, loj, hjr, hbst⟩ := hJ
  refine assign_Name (Cx.sto S rfl fun s S => ?_)
  refine Cx.seq ?_
  show wpAny (model prog w) _ (exec _ (envX _ _ _ _ _ _)) _ _ _
  have F : Fr g L s.heap _ := S.F
  have N : News g L s.heap _ := S.N
  have f1 := fm.jd
  k_steps
  unfold Hold
  rename_i gx _ _ _ _ lgx _ F1 N1
  refine Cx.seq (Cx.asgDict (S.put F1 N1) T.nolimit rfl fun nd no s hnd lno hno S => ?_)
  obtain ⟨rest, hrest⟩ : ∃ rest, rest = (gx, bbm "dict.get" jd) :: ((jd, jo) :: (led ++ own)) := ⟨_, rfl⟩
  have hnd' : ∀ p ∈ rest, p.1 < nd := fun p hp => hnd p (hrest ▸ hp)
  have off : ∀ p ∈ rest, p.1 ≠ nd := fun p hp => Nat.ne_of_lt (hnd' p hp)
  have mg : (gx, bbm "dict.get" jd) ∈ rest := hrest ▸ .head _
  have mj : (jd, jo) ∈ rest := hrest ▸ .tail _ (.head _)
  have ml : ∀ p ∈ led, p ∈ rest := fun p hp => hrest ▸ .tail _ (.tail _ (List.mem_append_left _ hp))
  have mo : ∀ p ∈ own, p ∈ rest := fun p hp => hrest ▸ .tail _ (.tail _ (List.mem_append_right _ hp))
  have S : Cx.St _ s₀ _ ((nd, no) :: rest) s := S.sub fun p hp => hrest ▸ hp
  refine Cx.hide (R := FF2 a b B x No alo ahi blo bhi u1 u2 u3 u4 jd gx nd ((alo : Int) + (r : Int)) t bi bj bk s1 s2 s3) S ⟨((fm.upd rfl).upd rfl).upd rfl, rfl, rfl, rfl⟩ fun m s S fm => ?_
  obtain ⟨v0, ev⟩ : ∃ v0, as.getD ((alo : Int) + (r : Int)).toNat 0 = v0 := ⟨_, rfl⟩
  have hv : as[alo + r]? = some v0 := by
   have hlt : alo + r < as.length := by lia
   rw [show ((alo : Int) + (r : Int)).toNat = alo + r by lia, List.getD_eq_getElem?_getD, List.getElem?_eq_getElem hlt] at ev
   rw [List.getElem?_eq_getElem hlt, ← ev]; rfl
  obtain ⟨ax, its, n, eax, hax, hits⟩ : ∃ (ax : Nat) (its : Array Value) (n : Nat), (valueAt kvs v0).getD (.ref No) = .ref ax ∧ (ax, listOf its n) ∈ led ∧ IntsAre its.toList ((plc bs bs.length v0).map fun (j : Nat) => (j : Int)) := by
   rcases hbj v0 with ⟨e, hp⟩ | ⟨l, its, n, e, hm, hi⟩
   ·rw [e, hp]
    exact ⟨No, #[], 0, rfl, eNo, .nil⟩
   ·rw [e]
    exact ⟨l, its, n, rfl, eL _ hm, hi⟩
  have hpl := hits.length
  have pls := plc_sorted bs bs.length v0
  have hsz : its.size = (plc bs bs.length v0).length := by simpa using hpl
  have hplz := plc_len bs bs.length v0
  obtain ⟨P2, hP2⟩ : ∃ P2, P2 = FF2 a b B x No alo ahi blo bhi u1 u2 u3 u4 jd gx nd ((alo : Int) + (r : Int)) t := ⟨_, rfl⟩
  refine Cx.seq (Cx.forL (ax := ax) (fun q => FN w as bs alo blo bhi P2 nd rest (alo + r) ((plc bs bs.length v0).take q) q) (FE w as bs alo blo bhi P2 nd rest (alo + r)) S (fun Q k => Cx.dget S fm.b2j (.tail _ (ml _ eB)) hkv lo (Cx.H.item fm.a hpa ha (Cx.I.name fm.i rfl) (by lia) (by lia) hz1 rfl) fm.no rfl rfl Q fun s' S' => by rw [ev, eax]; exact k s' S') rfl (.tail _ (ml _ hax)) (.mk no [] bi bj bk s1 s2 s3 (hP2 ▸ fm) rfl hno (NR.start _) hbst.row (Nat.le_refl _)) ?turn2 (fun m N h => ?_) fun m N s h S => ?_)
  case turn2 =>
   subst hP2
   intro q v It' own2 m N s hvq hI' hown' hoI' hoff' hJ S
   obtain ⟨no, nk, bi, bj, bk, s1, s2, s3, fm, rfl, hno, hnr, hbs, hnk⟩ := hJ
   obtain ⟨z, tj, rfl, hz⟩ := hits.at q v (by simpa using hvq)
   obtain ⟨j, hj, rfl⟩ : ∃ j : Nat, (plc bs bs.length v0)[q]? = some j ∧ (j : Int) = z := by
    rw [List.getElem?_map] at hz
    obtain ⟨j, a, b⟩ := Option.map_eq_some_iff.mp hz
    exact ⟨j, a, b⟩
   have hql := (List.getElem?_eq_some_iff.mp hj).1
   have htk : (plc bs bs.length v0).take (q + 1) = (plc bs bs.length v0).take q ++ [j] := by
    rw [List.take_add_one, hj]; rfl
   have hjm := mem_plc.mp (List.mem_of_getElem? hj)
   have off2 : ∀ p ∈ rest ++ own2, p.1 ≠ nd := fun p hp => by
    rcases List.mem_append.mp hp with h | h
    ·exact off p h
    rcases hown' p h with h | h
    ·exact h ▸ fun e => hoff' _ (.head _) e.symm
    ·exact h ▸ off _ (ml _ hax)
   refine assign_Name (Cx.sto S rfl fun s S => ?_)
   have fm := fm.upd (y := Str.ofString "j") (v := .int (j : Int) tj) rfl rfl rfl rfl
   refine Cx.seq (Cx.if_ S (Cx.T.lt (Cx.I.name (i := (j : Int)) (t := tj) rfl rfl) (Cx.I.name fm.blo rfl)) (fun hp s S => ?_) (fun hp s S => Cx.nil ?_))
   ·exact Cx.seq (Cx.cont (.cont (N := (nd, no) :: rest) S hoff' (.mk no nk bi bj bk s1 s2 s3 fm rfl hno (by rw [htk]; exact hnr.skip (by lia)) (by rw [htk]; exact hbs.skip (by lia)) (Nat.le_succ_of_le hnk))))
   refine Cx.seq (Cx.if_ S (Cx.T.ge (Cx.I.name (i := (j : Int)) (t := tj) rfl rfl) (Cx.I.name fm.bhi rfl)) (fun hq s S => ?_) (fun hq s S => Cx.nil ?_))
   ·refine Cx.seq (Cx.brk (.brk (N := (nd, no) :: rest) (S.sub fun p hp => List.mem_append_left _ hp) (.mk _ q (fun j' x1 x2 x3 => ?_) (.mk no nk bi bj bk s1 s2 s3 fm rfl hno hnr hbs hnk))))
    have hj' : j' ∈ plc bs bs.length v0 := mem_plc.mpr ⟨by lia, by rw [← x3]; exact hv⟩
    exact take_below pls hj hj' (by lia)
   have hjb : blo ≤ j := by lia
   have hjh : j < bhi := by lia
   have hsf := sfx_yes as bs alo blo (i := alo + r) (j := j) (by lia) hjb (by lia) (by rw [hv]; exact hjm.2.symm)
   have hsl := (sfx_ok as bs alo blo (alo + r) j).1
   have hsl' := (sfx_ok as bs alo blo (alo + r) j).2.1
   have hget : ∀ t, ∃ t', (valueAt jk ((j : Int) - 1)).getD (.int 0 t) = .int (sfx as bs alo blo (alo + r) j : Int) t' := fun t => hjr.get hjb hjh t
   generalize sfx as bs alo blo (alo + r) j = kq at hsf hsl hsl' hget
   refine Cx.seq (Cx.jput (rest := rest ++ own2) S fm.gx fm.nd rfl (List.mem_append_left _ mg) (List.mem_append_left _ mj) hjo loj hget off2 hno (by rw [sizeLine_eq]; lia) fun tk no' s S hd => ?_)
   have fm := fm.upd (y := Str.ofString "k") (v := .int ((kq : Int) + 1) tk) rfl rfl rfl rfl
   rw [show ((kq : Int) + 1) = ((kq + 1 : Nat) : Int) from rfl] at hd
   have hp := hnr.put hjb hjh tk
   rw [hsf, ← htk] at hp
   have hlen : (stored nk (j : Int) (Value.int ((kq + 1 : Nat) : Int) tk)).length ≤ q + 1 := Nat.le_trans (stored_length_le _ _ _) (by lia)
   refine Cx.seq (Cx.if_ S (Cx.T.gt (Cx.I.name (i := (kq : Int) + 1) (t := tk) rfl rfl) (Cx.I.name fm.bk rfl)) (fun hk s S => ?_) (fun hk s S => Cx.nil (Cx.nil ?_)))
   ·refine Cx.seq (Cx.asgT S (.cons (Cx.I.add (Cx.I.sub (Cx.I.name fm.i rfl) (Cx.I.name (i := (kq : Int) + 1) (t := tk) rfl rfl)) Cx.I.const) (.cons (Cx.I.add (Cx.I.sub (Cx.I.name (i := (j : Int)) (t := tj) rfl rfl) (Cx.I.name (i := (kq : Int) + 1) (t := tk) rfl rfl)) Cx.I.const) (.cons (Cx.I.name (i := (kq : Int) + 1) (t := tk) rfl rfl) .nil))) rfl rfl (Nat.le_of_ble_eq_true rfl) rfl fun D vs s hv hD S => ?_)
    rw [show ((alo : Int) + (r : Int) - ((kq : Int) + 1) + 1) = ((alo + r + 1 - (kq + 1) : Nat) : Int) by lia, show ((j : Int) - ((kq : Int) + 1) + 1) = ((j + 1 - (kq + 1) : Nat) : Int) by lia] at hv
    obtain ⟨r1, r2, r3, rfl⟩ := ints3 hv
    exact Cx.nil (Cx.nil (.next (N := (nd, no') :: rest) (S.sub fun p hp => .tail _ hp) (fun p hp => (List.mem_cons.mp hp).elim (fun e => e ▸ hoff' (nd, no) (.head _)) fun h => hoff' p (.tail _ h)) (.mk no' _ _ _ _ _ _ _ ⟨⟨fm.a, fm.b, fm.b2j, fm.isb, fm.no, fm.alo, fm.ahi, fm.blo, fm.bhi, fm.jd, rfl, rfl, rfl⟩, fm.i, fm.gx, fm.nd⟩ rfl hd hp (htk ▸ hbs.put hsf.symm (by lia) hjb hjh (by lia)) hlen)))
   ·exact .next (N := (nd, no') :: rest) S (fun p hp => (List.mem_cons.mp hp).elim (fun e => e ▸ hoff' (nd, no) (.head _)) fun h => hoff' p (.tail _ h)) (.mk no' _ _ _ _ _ _ _ fm rfl hd hp (htk ▸ hbs.keep (by lia)) hlen)
  ·rw [hsz, List.take_length] at h
   exact .mk _ _ (fun j x1 x2 x3 => mem_plc.mpr ⟨by lia, by rw [← x3]; exact hv⟩) h
  ·subst hP2
   obtain ⟨done, tt, hall, ⟨no, nk, bi, bj, bk, s1, s2, s3, fm, rfl, hno, hnr, hbs, hnk⟩⟩ := h
   obtain ⟨oI, hoI⟩ := hoI
   refine Cx.seq (Cx.asgV S (Cx.V.name fm.nd rfl) rfl fun s S => Cx.nil ?_)
   refine .next (N := (nd, no) :: led) (S.sub fun p hp => ?_) (fun p hp => ?_) (.mk nd no nk bi bj bk s1 s2 s3 ⟨fm.a, fm.b, fm.b2j, fm.isb, fm.no, fm.alo, fm.ahi, fm.blo, fm.bhi, rfl, fm.bi, fm.bj, fm.bk⟩ rfl hno lno (hnr.over hall) (hbs.over hall))
   ·rcases List.mem_cons.mp hp with h | h
    ·exact h ▸ .head _
    ·exact .tail _ ((List.mem_append.mp h).elim (ml p) (mo p))
   ·rcases List.mem_cons.mp hp with h | h
    ·exact h ▸ Nat.ne_of_gt (hnd' _ (mo _ hoI))
    ·exact hoff p (.tail _ h)
 case done =>
  obtain ⟨jd, jo, jk, bi, bj, bk, s1, s2, s3, fm, rfl, hjo, loj, hjr, hbst⟩ := h
  rw [show alo + (ahi - alo) = ahi by lia] at hbst
  have hbest := hbst.best
  have f1 := hbest.ia
  have f2 := hbest.ib
  have f3 := hbest.ja
  have f4 := hbest.jb
  have ex' : (x, bbm "set.__contains__" J) ∈ (jd, jo) :: led := .tail _ ex
  have eJ' : (J, oj) ∈ (jd, jo) :: led := .tail _ eJ
  refine Cx.seq (Cx.skip S (.and (.of (Cx.T.gt (Cx.I.name fm.bi rfl) (Cx.I.name fm.alo rfl))) fun e1 => .and (.of (Cx.T.gt (Cx.I.name fm.bj rfl) (Cx.I.name fm.blo rfl))) fun e2 => .and (.not (.junk fm.isb ex' eJ' hju (.item fm.b hpb hb (Cx.I.sub (Cx.I.name fm.bj rfl) Cx.I.const) (by lia) (by lia) hz2 rfl) rfl)) fun _ => .and (.eq (.item fm.a hpa ha (Cx.I.sub (Cx.I.name fm.bi rfl) Cx.I.const) (by lia) (by lia) hz1 rfl) (.item fm.b hpb hb (Cx.I.sub (Cx.I.name fm.bj rfl) Cx.I.const) (by lia) (by lia) hz2 rfl)) fun _ => .nil) (fun z => ?_) fun s S => ?_)
  ·exact hbest.left (by lia) (by lia) (by lia) (getD_opt (by lia) (by lia) (by lia) (by lia) z.2.2.2.1)
  refine Cx.seq (Cx.skip S (.and (.of (Cx.T.lt (Cx.I.add (Cx.I.name fm.bi rfl) (Cx.I.name fm.bk rfl)) (Cx.I.name fm.ahi rfl))) fun e1 => .and (.of (Cx.T.lt (Cx.I.add (Cx.I.name fm.bj rfl) (Cx.I.name fm.bk rfl)) (Cx.I.name fm.bhi rfl))) fun e2 => .and (.not (.junk fm.isb ex' eJ' hju (.item fm.b hpb hb (Cx.I.add (Cx.I.name fm.bj rfl) (Cx.I.name fm.bk rfl)) (by lia) (by lia) hz2 rfl) rfl)) fun _ => .and (.eq (.item fm.a hpa ha (Cx.I.add (Cx.I.name fm.bi rfl) (Cx.I.name fm.bk rfl)) (by lia) (by lia) hz1 rfl) (.item fm.b hpb hb (Cx.I.add (Cx.I.name fm.bj rfl) (Cx.I.name fm.bk rfl)) (by lia) (by lia) hz2 rfl)) fun _ => .nil) (fun z => ?_) fun s S => ?_)
  ·exact hbest.right (by lia) (by lia) (by lia) (getD_opt (by lia) (by lia) (by lia) (by lia) z.2.2.2.1)
  refine Cx.seq (Cx.skip S (.and (.of (Cx.T.gt (Cx.I.name fm.bi rfl) (Cx.I.name fm.alo rfl))) fun e1 => .and (.of (Cx.T.gt (Cx.I.name fm.bj rfl) (Cx.I.name fm.blo rfl))) fun e2 => .and (q := True) (.junk fm.isb ex' eJ' hju (.item fm.b hpb hb (Cx.I.sub (Cx.I.name fm.bj rfl) Cx.I.const) (by lia) (by lia) hz2 rfl) rfl) fun z => z.elim) (fun z => z.2.2.1) fun s S => ?_)
  refine Cx.seq (Cx.skip S (.and (.of (Cx.T.lt (Cx.I.add (Cx.I.name fm.bi rfl) (Cx.I.name fm.bk rfl)) (Cx.I.name fm.ahi rfl))) fun e1 => .and (.of (Cx.T.lt (Cx.I.add (Cx.I.name fm.bj rfl) (Cx.I.name fm.bk rfl)) (Cx.I.name fm.bhi rfl))) fun e2 => .and (q := True) (.junk fm.isb ex' eJ' hju (.item fm.b hpb hb (Cx.I.add (Cx.I.name fm.bj rfl) (Cx.I.name fm.bk rfl)) (by lia) (by lia) hz2 rfl) rfl) fun z => z.elim) (fun z => z.2.2.1) fun s S => ?_)
  refine Cx.seq ?_
  show wpAny (model prog w) _ (exec _ (envX _ _ _ _ _ _)) _ _ _
  have F : Fr g L s.heap m := S.F
  have N : News g L s.heap _ := S.N
  have g1 := fm.bi
  have g2 := fm.bj
  have g3 := fm.bk
  k_steps
  refine match_call F N X T rfl (Nat.le_of_ble_eq_true rfl) (Nat.le_of_ble_eq_true rfl) ?_
  intro mx dx h' tk' F5 N5 hne _
  have mb5 : ∀ p ∈ bl, p ∈ led := fun p hp => hled ▸ .tail _ (.tail _ hp)
  refine ret _ _ _ _ ((mx, mObj dx (bi : Int) (bj : Int) (bk : Int) s1 s2 s3 0) :: bl) (S.put F5 N5) (fun p hp => ?_) ⟨mx, dx, bi, bj, bk, s1, s2, s3, rfl, by rw [hbl], hbest, fun p hp => (hne p (.tail _ (mb5 p (hbl ▸ hp)))).1⟩
  rcases List.mem_cons.mp hp with h | h
  ·exact h ▸ .head _
  ·exact .tail _ (.tail _ (.tail _ (mb5 p h)))
end Mine
end
section
open PySem.W.X
namespace Mine
noncomputable def dnQ : Code → Sem PySem.Fin := PySem.W.Fast.tw11892475500146522536 PySem.W.Fast.tw14364793385576792824
noncomputable def baQ : FuncData → Args → Sem (List (Str × Value)) := PySem.W.Fast.tw9782568553167038054
noncomputable def pnQ : Value → Sem (Option Value) := PySem.W.Fast.tw9404975358583537561
noncomputable abbrev Stk := List (Code × Pos)
structure XO where
 r : Result
 T : BT
 m : Nat
 i : Nat
 ch : Ch
 fits : List Int
 room : List (Stk → Sem PySem.Fin)
inductive XR where
 | ok (o : XO)
 | stop (n a : Nat)
 | stk (k : Stk → Sem PySem.Fin)
structure AO (α : Type) where
 r : Value ⊕ α
 T : BT
 m : Nat
 i : Nat
 ch : Ch
 fits : List Int
 room : List (Stk → Sem PySem.Fin)
inductive AR (α : Type) where
 | ok (o : AO α)
 | stop (n a : Nat)
 | stk (k : Stk → Sem PySem.Fin)
noncomputable def XR.more (fs : List Int) (ks : List (Stk → Sem PySem.Fin)) : XR → XR
 | .ok o => .ok ⟨o.r, o.T, o.m, o.i, o.ch, fs ++ o.fits, ks ++ o.room⟩
 | .stop n a => .stop n a
 | .stk k => .stk k
noncomputable def AR.more {α : Type} (fs : List Int) (ks : List (Stk → Sem PySem.Fin)) : AR α → AR α
 | .ok o => .ok ⟨o.r, o.T, o.m, o.i, o.ch, fs ++ o.fits, ks ++ o.room⟩
 | .stop n a => .stop n a
 | .stk k => .stk k
noncomputable abbrev Run := XV → Code → Kont → BT → Nat → Nat → Ch → XR
noncomputable abbrev Go := XV → Code → Kont → Sem Fin → BT → Nat → Nat → Ch → XR
noncomputable def aA {α β : Type} (r : AR α) (f : AO α → AR β) : AR β := match r with
 | .ok o => f o
 | .stop n a => .stop n a
 | .stk k => .stk k
noncomputable def aX {α : Type} (r : AR α) (f : AO α → XR) : XR := match r with
 | .ok o => f o
 | .stop n a => .stop n a
 | .stk k => .stk k
noncomputable def xA {β : Type} (r : XR) (f : XO → AR β) : AR β := match r with
 | .ok o => f o
 | .stop n a => .stop n a
 | .stk k => .stk k
noncomputable def inrOf {α : Type} : Value ⊕ α → Option α
 | .inr a => some a
 | .inl _ => none
noncomputable def refOf : Value → Option Addr
 | .ref a => some a
 | _ => none
noncomputable def intOf : Value → Option (Int × Tok)
 | .int a t => some (a, t)
 | _ => none
noncomputable def strOf : Value → Option Str
 | .str a _ => some a
 | _ => none
noncomputable def typOf : Value → Option String
 | .type a => some a
 | _ => none
noncomputable def nonOf : Value → Option Unit
 | .none => some ()
 | _ => none
noncomputable def seqOf : Data → Option (Array Value)
 | .seq a _ => some a
 | _ => none
noncomputable def fldOf : Data → Option (Array Value)
 | .fields a => some a
 | _ => none
noncomputable def dicOf : Data → Option (Array DictEntry)
 | .dict a _ => some a
 | _ => none
noncomputable def funOf : Data → Option FuncData
 | .func a => some a
 | _ => none
noncomputable def stmOf : FuncBody → Option (List Stmt)
 | .stmts a => some a
 | _ => none
noncomputable def unc {α : Type} : List α → Option (α × List α)
 | a :: l => some (a, l)
 | [] => none
noncomputable def onlyB {α : Type} (b : Bool) (a : α) : Option α := cond b (some a) none
noncomputable def simB {α : Type} (rec : Sem α → BT → Nat → Nat → Ch → AR α) (run : Run) (V : XV) (t : Sem α) (T : BT) (m i : Nat) (ch : Ch) : AR α := match t with
  | .pure a => .ok ⟨.inr a, T, m, i, ch, [], []⟩
  | .raise e => .ok ⟨.inl e, T, m, i, ch, [], []⟩
  | .rule _ k => rec (k ()) T m i ch
  | .at _ k => rec (k ()) T m i ch
  | .point _ k => rec (k ()) T m i ch
  | .ask k => rec (k ⟨V.prog, V.w.params⟩) T m i ch
  | .load a _ k => (look V T ch a).elim (.stop 1 a) fun o => rec (k o) T m i ch
  | .loadIfAlive a k => (look V T ch a).elim (.stop 1 a) fun o => rec (k (some o)) T m i ch
  | .alloc o k => cond o.isFreed (.stop 2 0) (((T.ins m o).get m).elim (.stop 3 m) fun _ => rec (k (V.n₁ + m)) (T.ins m o) (m + 1) i ch)
  | .update a _ g k => cond (Nat.blt a V.n₁)
   ((nowTab V ch a).elim (.stop 6 a) fun vs => (tabOf (g (tableObj vs))).elim (.stop 4 a) fun vs' => (strip vs.toList vs'.toList).elim (.stop 4 a) fun _ => rec (k ()) T m i (chPut ch a vs'))
   ((T.get (a - V.n₁)).elim (.stop 3 a) fun o => cond (g o).isFreed (.stop 2 a) (rec (k ()) (T.set (a - V.n₁) g) m i ch))
  | .fresh k => rec (k (V.t₀ + i)) T m (i + 1) ch
  | .handled own k => cond own (.stop 7 0) (rec (k V.A₀.handled) T m i ch)
  | .call c' hd _ _ k => cond (okMark hd) (xA (run { V with A₀ := V.A₀.mark hd } c' .base T m i ch) fun o => (rec (k o.r) o.T o.m o.i o.ch).more o.fits o.room) (.stop 8 0)
  | _ => .stop 30 0
noncomputable def simA {α : Type} (run : Run) (V : XV) : Nat → Sem α → BT → Nat → Nat → Ch → AR α
 | 0, _, _, _, _, _ => .stop 40 0
 | f + 1, t, T, m, i, ch => simB (simA run V f) run V t T m i ch
noncomputable def retX (go : Go) (V : XV) (κ : Kont) (r : Result) (T : BT) (m i : Nat) (ch : Ch) : XR := match κ with
 | .base => .ok ⟨r, T, m, i, ch, [], []⟩
 | .ret c _ k κ => go V c κ (k r) T m i ch
 | _ => .stop 20 0
noncomputable def fnOf (o : Obj) : Option (FuncData × List Stmt) := (funOf o.data).bind fun fd => (stmOf fd.body).bind fun b => onlyB (!(fd.scope.isCoroutine || fd.scope.isGenerator)) (fd, b)
noncomputable def codeOk (V : XV) (T : BT) (ch : Ch) (fd : FuncData) : Bool := ((refOf fd.code).bind fun c => (look V T ch c).bind fun o => (fldOf o.data).bind fun vs => (unc vs.toList).bind fun p => (unc p.2).bind fun q => (strOf q.1).bind fun x => onlyB (x.cps.toList == fd.qualname.cps.toList) ()).isSome
noncomputable def limOk (V : XV) (T : BT) (ch : Ch) : Bool := ((look V T ch cStatics).bind fun o => (dicOf o.data).bind fun es => onlyB es.toList.isEmpty ()).isSome
noncomputable def envTree (f : Addr) (fd : FuncData) (binds : List (Str × Value)) : Sem Env := PySem.W.Fast.tw11113344188204177931 fd.scope fd.globals fd.closure binds (fd.qualname ++ ".<locals>.") (some f) fd.code none fd.builtins
noncomputable def enterB (D : Code → Sem PySem.Fin) (go : Go) (V : XV) (b : List Stmt) (κ : Kont) (o' : AO Env) (fs : List Int) (ks : List (Stk → Sem PySem.Fin)) (env : Env) : XR :=
 cond (limOk V o'.T o'.ch) (((go V (.func b env) κ (D (.func b env)) o'.T o'.m o'.i o'.ch).more o'.fits o'.room).more fs ks) (.stop 62 0)
noncomputable def enterA (D : Code → Sem PySem.Fin) (run : Run) (go : Go) (V : XV) (f : Addr) (fd : FuncData) (b : List Stmt) (κ : Kont) (o : AO (List (Str × Value))) (binds : List (Str × Value)) : XR :=
 aX (simA run { V with A₀ := (aroundOf V true κ).in1 } 1000 (envTree f fd binds) o.T o.m o.i o.ch) fun o' => (inrOf o'.r).elim (.stop 60 0) (enterB D go V b κ o' o.fits o.room)
noncomputable def enterX (D : Code → Sem PySem.Fin) (run : Run) (go : Go) (V : XV) (f : Addr) (fd : FuncData) (b : List Stmt) (args : Args) (κ : Kont) (T : BT) (m i : Nat) (ch : Ch) : XR :=
 cond (codeOk V T ch fd && Nat.blt (aroundOf V true κ).depth recursionLimit)
  (aX (simA run { V with A₀ := (aroundOf V true κ).in1 } 1000 (baQ fd args) T m i ch) fun o => (inrOf o.r).elim (.stop 60 0) (enterA D run go V f fd b κ o))
  (.stop 61 f)
noncomputable def firstN : Nat → List Value → Option (List Value)
 | 0, _ => some []
 | n + 1, l => (unc l).bind fun p => (firstN n p.2).bind fun r => some (p.1 :: r)
noncomputable def clsIs (o : Obj) (n : String) : Bool := ((typOf o.cls).bind fun t => onlyB (@decide (t = n) (PySem.W.S.strDecS t n)) ()).isSome
noncomputable def tenSl (o : Obj) : Option Tok := (fldOf o.data).bind fun vs => (unc vs.toList).bind fun p => (nonOf p.1).bind fun _ => (unc p.2).bind fun q => (intOf q.1).bind fun k => (unc q.2).bind fun r => (nonOf r.1).bind fun _ => onlyB (r.2.isEmpty && (clsIs o "slice" && Int.beq' k.1 10)) k.2
noncomputable def listObj (o : Obj) : Option (List Value) := (seqOf o.data).bind fun xs => onlyB (clsIs o "list") xs.toList
noncomputable def sliceA (go : Go) (V : XV) (κ : Kont) (T : BT) (m i : Nat) (ch : Ch) (ys : List Value) : XR :=
 ((T.ins m { cls := .type "list", data := .seq ys.toArray }).get m).elim (.stop 3 m) fun _ => retX go V κ (.ok (.ret (.ref (V.n₁ + m)))) (T.ins m { cls := .type "list", data := .seq ys.toArray }) (m + 1) i ch
noncomputable def sliceX (D : Code → Sem PySem.Fin) (go : Go) (V : XV) (c' : Code) (l sl : Addr) (κ : Kont) (T : BT) (m i : Nat) (ch : Ch) : XR :=
 ((look V T ch sl).bind tenSl).elim (go V c' κ (D c') T m i ch) fun _ => (((look V T ch l).bind listObj).bind (firstN 10)).elim (go V c' κ (D c') T m i ch) (sliceA go V κ T m i ch)
noncomputable def int1 (o : Obj) : Option (Int × Tok) := (seqOf o.data).bind fun xs => (unc xs.toList).bind fun p => (intOf p.1).bind fun a => onlyB p.2.isEmpty a
noncomputable def sumC (run : Run) (V : XV) (c' : Code) (S : Addr) (κ : Kont) (o : AO (Option Value)) (a b : Int) : XR :=
 cond (Nat.blt S V.n₁) (.stop 70 2) (((o.T.get (S - V.n₁)).bind fun oS' => (seqOf oS'.data).bind fun ys => onlyB (Nat.ble ys.size 1) ()).elim (.stop 70 1) fun _ =>
  ((run V c' κ (o.T.set (S - V.n₁) (Obj.mapSeq fun _ => #[.int (a + b) (V.t₀ + o.i)])) o.m (o.i + 1) o.ch).more [b, a + b] []).more o.fits o.room)
noncomputable def sumB (D : Code → Sem PySem.Fin) (run : Run) (go : Go) (V : XV) (c' : Code) (S : Addr) (κ : Kont) (T : BT) (m i : Nat) (ch : Ch) (a : Int) (o : AO (Option Value)) : XR :=
 ((inrOf o.r).bind fun x => x.bind intOf).elim (go V c' κ (D c') T m i ch) fun b => sumC run V c' S κ o a b.1
noncomputable def sumX (D : Code → Sem PySem.Fin) (run : Run) (go : Go) (V : XV) (c' : Code) (I S : Addr) (κ : Kont) (T : BT) (m i : Nat) (ch : Ch) : XR :=
 ((look V T ch S).bind int1).elim (.stop 70 3) fun a => aX (simA run { V with A₀ := (aroundOf V true κ).in1 } 1000 (pnQ (.ref I)) T m i ch) (sumB D run go V c' S κ T m i ch a.1)
noncomputable def slArgs (id : String) (args : Args) : Option (Addr × Addr) := (unc args.pos).bind fun p => (refOf p.1).bind fun a => (unc p.2).bind fun q => (refOf q.1).bind fun b => onlyB ((q.2.isEmpty && args.kw.isEmpty) && @decide (id = "list.__getitem__") (PySem.W.S.strDecS id "list.__getitem__")) (a, b)
noncomputable def zeroV (v : Value) : Option Unit := (intOf v).bind fun a => onlyB (Int.beq' a.1 0 && Nat.beq a.2 0) ()
noncomputable def smArgs (id : String) (args : Args) : Option (Addr × Addr) := (unc args.pos).bind fun p => (refOf p.1).bind fun a => (unc p.2).bind fun q => (refOf q.1).bind fun b => (unc q.2).bind fun r => (zeroV r.1).bind fun _ => (unc r.2).bind fun x => (zeroV x.1).bind fun _ => onlyB ((x.2.isEmpty && args.kw.isEmpty) && @decide (id = "sum.loop") (PySem.W.S.strDecS id "sum.loop")) (a, b)
noncomputable def startX (D : Code → Sem PySem.Fin) (run : Run) (go : Go) (V : XV) (c' : Code) (κ : Kont) (T : BT) (m i : Nat) (ch : Ch) : XR := match c' with
 | .call f args => match f with
  | .ref a => (look V T ch a).elim (.stop 1 a) fun o => (fnOf o).elim (go V c' κ (D c') T m i ch) fun p => enterX D run go V a p.1 p.2 args κ T m i ch
  | .builtin id => (slArgs id args).elim (go V c' κ (D c') T m i ch) fun p => sliceX D go V c' p.1 p.2 κ T m i ch
  | _ => go V c' κ (D c') T m i ch
 | .builtin id args => (smArgs id args).elim (go V c' κ (D c') T m i ch) fun p => sumX D run go V c' p.1 p.2 κ T m i ch
 | _ => go V c' κ (D c') T m i ch
noncomputable def loadOf {α : Type} : Sem α → Option (Obj → Sem α)
 | .load _ _ f => some f
 | _ => none
noncomputable def stkNext (k : Stk → Sem PySem.Fin) (o : Option Obj) : Option (Sem PySem.Fin) := o.bind fun o => (loadOf (k [])).bind fun f => some (f o)
noncomputable def stepX (md : Bool) (run : Run) (go : Go) (V : XV) (c : Code) (κ : Kont) (t : Sem PySem.Fin) (T : BT) (m i : Nat) (ch : Ch) : XR := match t with
 | .pure fin => match fin with
  | .done f => retX go V κ (.ok f) T m i ch
  | .again c' => cond c'.quiet (run V c' κ T m i ch) (.stop 5 0)
 | .raise e => retX go V κ (.error e) T m i ch
 | .rule _ k => go V c κ (k ()) T m i ch
 | .at _ k => go V c κ (k ()) T m i ch
 | .point _ k => go V c κ (k ()) T m i ch
 | .ask k => go V c κ (k ⟨V.prog, V.w.params⟩) T m i ch
 | .load a _ k => (look V T ch a).elim (.stop 1 a) fun o => go V c κ (k o) T m i ch
 | .loadIfAlive a k => (look V T ch a).elim (.stop 1 a) fun o => go V c κ (k (some o)) T m i ch
 | .alloc o k => cond o.isFreed (.stop 2 0) (((T.ins m o).get m).elim (.stop 3 m) fun _ => go V c κ (k (V.n₁ + m)) (T.ins m o) (m + 1) i ch)
 | .update a _ g k => cond (Nat.blt a V.n₁)
   ((nowTab V ch a).elim (.stop 6 a) fun vs => (tabOf (g (tableObj vs))).elim (.stop 4 a) fun vs' => (strip vs.toList vs'.toList).elim (.stop 4 a) fun _ => go V c κ (k ()) T m i (chPut ch a vs'))
   ((T.get (a - V.n₁)).elim (.stop 3 a) fun o => cond (g o).isFreed (.stop 2 a) (go V c κ (k ()) (T.set (a - V.n₁) g) m i ch))
 | .fresh k => go V c κ (k (V.t₀ + i)) T m (i + 1) ch
 | .handled own k => cond own (.stop 7 0) (go V c κ (k (aroundOf V true κ).handled) T m i ch)
 | .call c' hd _ _ k => cond (okMark hd) (run V c' (.ret c hd k κ) T m i ch) (.stop 8 0)
 | .stack k => cond (Nat.blt ((aroundOf V true κ).under c).depth recursionLimit && limOk V T ch) (cond md (.stk k) ((stkNext k (look V T ch cStatics)).elim (.stop 9 1) fun t => (go V c κ t T m i ch).more [] [k])) (.stop 9 0)
 | _ => .stop 30 0
noncomputable def simX (md : Bool) (D : Code → Sem PySem.Fin) : Nat → XV → Code → Kont → Option (Sem PySem.Fin) → BT → Nat → Nat → Ch → XR
 | 0, _, _, _, _, _, _, _, _ => .stop 41 0
 | n + 1, V, c, κ, t, T, m, i, ch => match t with
  | none => startX D (fun V c κ T m i ch => simX md D n V c κ none T m i ch) (fun V c κ t T m i ch => simX md D n V c κ (some t) T m i ch) V c κ T m i ch
  | some t => stepX md (fun V c κ T m i ch => simX md D n V c κ none T m i ch) (fun V c κ t T m i ch => simX md D n V c κ (some t) T m i ch) V c κ t T m i ch
noncomputable def runX (n : Nat) : Run := fun V c κ T m i ch => simX false dnQ n V c κ none T m i ch
noncomputable def runK (D : Code → Sem PySem.Fin) (n : Nat) : Run := fun V c κ T m i ch => simX true D n V c κ none T m i ch
end Mine
end
section
open PySem.W.X
namespace Mine
theorem dn_eq : denote table = dnQ := by
 unfold dnQ
 rw [← PySem.W.Fast.te11892475500146522536, ← PySem.W.Fast.te14364793385576792824, table_eq_tree]
theorem ba_eq : bindArgs = baQ := PySem.W.Fast.te9782568553167038054
theorem pn_eq : pyNext = pnQ := PySem.W.Fast.te9404975358583537561
theorem nf_eq : @newFunctionEnv = @PySem.W.Fast.tw11113344188204177931 := PySem.W.Fast.te11113344188204177931
noncomputable abbrev limPart : Option Value := some (.str (Str.ofString "sys.recursionlimit") 0)
noncomputable def tailZ (st : Stk) : Sem Unit := match PySem.W.X.enterQ 0 with
 | .stack f => f st
 | _ => .unsupported ""
noncomputable def RoomOk (k : Stk → Sem PySem.Fin) : Prop := ∃ κ : Sem Unit → Sem PySem.Fin, (∀ st, k st = κ (tailZ st)) ∧ ∀ g : Obj → Sem Unit, κ (.load cStatics limPart g) = .load cStatics limPart (fun o => κ (g o))
noncomputable def tailL (st : Stk) (o : Obj) : Sem Unit := match tailZ st with
 | .load _ _ f => f o
 | _ => .unsupported ""
theorem tailZ_load (st : Stk) : tailZ st = .load cStatics limPart (tailL st) := rfl
theorem tailL_pure {st : Stk} {o : Obj} {n : Nat} (hd : o.data = .dict #[] n) (h1 : nearF st 0 recursionLimit = false) (h2 : overF st 0 recursionLimit = false) (h3 : warmF st 0 recursionLimit = false) : tailL st o = .pure () := by
 obtain ⟨c, d, dt, sl⟩ := o
 simp only at hd
 subst hd
 show cond (nearF st 0 recursionLimit) _ (cond (overF st 0 recursionLimit) _ (cond (warmF st 0 recursionLimit) _ _)) = _
 rw [h1, h2, h3]
 rfl
theorem tailL_nil {o : Obj} {n : Nat} (hd : o.data = .dict #[] n) : tailL [] o = .pure () := by
 refine tailL_pure hd ?_ ?_ ?_
 ·unfold nearF; rw [oNear.2]; decide
 ·unfold overF; rw [oOver.2]; decide
 ·unfold warmF; rw [oWarm.2]; decide
noncomputable abbrev VR (V : XV) (R : Result → Shared → Prop) : XV := { V with R₀ := R }
theorem around_r (V : XV) (R : Result → Shared → Prop) : ∀ (κ : Kont) (b : Bool), aroundOf (VR V R) b κ = aroundOf V b κ
 | .base, true => rfl
 | .base, false => rfl
 | .ret c hd k κ, true => by show ((aroundOf (VR V R) true κ).under c).mark hd = _; rw [around_r V R κ true]; rfl
 | .ret c hd k κ, false => rfl
 | .gen g c k κ, true => rfl
 | .gen g c k κ, false => by show (aroundOf (VR V R) true κ).under c = _; rw [around_r V R κ true]; rfl
 | .genS g c fs k κ, true => rfl
 | .genS g c fs k κ, false => by show (aroundOf (VR V R) false κ).over c fs = _; rw [around_r V R κ false]; rfl
theorem rep_r {V : XV} {R : Result → Shared → Prop} {h : Heap} {T : BT} {m : Nat} {ch : Ch} (D : Rep V h T m ch) : Rep (VR V R) h T m ch := ⟨D.size, D.own, D.keep, D.ch⟩
theorem rep_v {V : XV} {R : Result → Shared → Prop} {A : Around} {h : Heap} {T : BT} {m : Nat} {ch : Ch} (D : Rep V h T m ch) : Rep { V with A₀ := A, R₀ := R } h T m ch := ⟨D.size, D.own, D.keep, D.ch⟩
theorem rep_a {V : XV} {A : Around} {h : Heap} {T : BT} {m : Nat} {ch : Ch} (D : Rep V h T m ch) : Rep { V with A₀ := A } h T m ch := ⟨D.size, D.own, D.keep, D.ch⟩
theorem rep_b {V : XV} {A : Around} {h : Heap} {T : BT} {m : Nat} {ch : Ch} (D : Rep { V with A₀ := A } h T m ch) : Rep V h T m ch := ⟨D.size, D.own, D.keep, D.ch⟩
theorem ok_r {V : XV} (O : V.Ok) (R : Result → Shared → Prop) : (VR V R).Ok := ⟨O.size, O.kt, O.tabs⟩
theorem ok_a {V : XV} (O : V.Ok) (A : Around) : ({ V with A₀ := A } : XV).Ok := ⟨O.size, O.kt, O.tabs⟩
noncomputable abbrev St (V : XV) (h : Heap) (i : Nat) : Shared := ⟨h, ⟨[]⟩, V.d, V.t₀ + i, V.os⟩
structure XGood (V : XV) (R : Result → Shared → Prop) (o : XO) : Prop where
 f : ∀ x ∈ o.fits, InLong x
 k : ∀ k ∈ o.room, RoomOk k
 g : ∀ h, Rep V h o.T o.m o.ch → R o.r (St V h o.i)
noncomputable def RunOk (run : Run) : Prop := ∀ V (R : Result → Shared → Prop) c κ T m i ch o, V.Ok → run V c κ T m i ch = .ok o → XGood V R o → ∀ h, Rep V h T m ch → codeAny (model V.prog V.w) (aroundOf V true κ) c (endOf (VR V R) κ) (St V h i)
noncomputable def GoOk (go : Go) : Prop := ∀ V (R : Result → Shared → Prop) c κ t T m i ch o, V.Ok → go V c κ t T m i ch = .ok o → XGood V R o → ∀ h, Rep V h T m ch → Means (VR V R) c none κ t (St V h i)
inductive XMore (V : XV) (R : Result → Shared → Prop) (fs : List Int) (ks : List (Stk → Sem PySem.Fin)) (r : XR) : Prop
 | mk (o : XO) (e : r = .ok o) (G : XGood V R o) (f : ∀ x ∈ fs, InLong x) (k : ∀ k ∈ ks, RoomOk k) : XMore V R fs ks r
theorem XR.more_ok {V : XV} {R : Result → Shared → Prop} {fs : List Int} {ks : List (Stk → Sem PySem.Fin)} {r : XR} {o : XO} (h : r.more fs ks = .ok o) (G : XGood V R o) : XMore V R fs ks r := by
 cases r with
 | ok o' => cases h; exact ⟨o', rfl, ⟨fun x hx => G.f x (List.mem_append_right _ hx), fun x hx => G.k x (List.mem_append_right _ hx), G.g⟩, fun x hx => G.f x (List.mem_append_left _ hx), fun x hx => G.k x (List.mem_append_left _ hx)⟩
 | stop => cases h
 | stk => cases h
noncomputable def AGood {α : Type} (V : XV) (Q : α → Shared → Prop) (E : Value → Shared → Prop) (o : AO α) : Prop := ∀ h, Rep V h o.T o.m o.ch →
 match o.r with
 | .inr a => Q a (St V h o.i)
 | .inl e => E e (St V h o.i)
structure AGd {α : Type} (V : XV) (Q : α → Shared → Prop) (E : Value → Shared → Prop) (o : AO α) : Prop where
 f : ∀ x ∈ o.fits, InLong x
 k : ∀ k ∈ o.room, RoomOk k
 g : AGood V Q E o
inductive AMore {α : Type} (V : XV) (Q : α → Shared → Prop) (E : Value → Shared → Prop) (fs : List Int) (ks : List (Stk → Sem PySem.Fin)) (r : AR α) : Prop
 | mk (o : AO α) (e : r = .ok o) (G : AGd V Q E o) (f : ∀ x ∈ fs, InLong x) (k : ∀ k ∈ ks, RoomOk k) : AMore V Q E fs ks r
theorem AR.more_ok {α : Type} {V : XV} {Q : α → Shared → Prop} {E : Value → Shared → Prop} {fs : List Int} {ks : List (Stk → Sem PySem.Fin)} {r : AR α} {o : AO α} (h : r.more fs ks = .ok o) (G : AGd V Q E o) : AMore V Q E fs ks r := by
 cases r with
 | ok o' => cases h; exact ⟨o', rfl, ⟨fun x hx => G.f x (List.mem_append_right _ hx), fun x hx => G.k x (List.mem_append_right _ hx), G.g⟩, fun x hx => G.f x (List.mem_append_left _ hx), fun x hx => G.k x (List.mem_append_left _ hx)⟩
 | stop => cases h
 | stk => cases h
theorem AGd.of {α : Type} {V : XV} {Q : α → Shared → Prop} {E : Value → Shared → Prop} {o : AO α} {a : α} (e : inrOf o.r = some a) (f : ∀ x ∈ o.fits, InLong x) (k : ∀ k ∈ o.room, RoomOk k) (g : ∀ h, Rep V h o.T o.m o.ch → Q a (St V h o.i)) : AGd V Q E o := by
 refine ⟨f, k, fun h D => ?_⟩
 cases hr : o.r with
 | inr b => rw [hr] at e; cases e; exact g h D
 | inl b => rw [hr] at e; cases e
section
variable {α β : Type} {x : Option α} {b : Bool} {n a : Nat}
theorem oA {f : α → AR β} {o : AO β} (H : x.elim (.stop n a) f = .ok o) : ∃ y, x = some y ∧ f y = .ok o := by
 cases x with
 | none => cases H
 | some y => exact ⟨y, rfl, H⟩
theorem oX {f : α → XR} {o : XO} (H : x.elim (.stop n a) f = .ok o) : ∃ y, x = some y ∧ f y = .ok o := by
 cases x with
 | none => cases H
 | some y => exact ⟨y, rfl, H⟩
theorem eX {f : α → XR} {e r : XR} (H : x.elim e f = r) : (∃ y, x = some y ∧ f y = r) ∨ e = r := by
 cases x with
 | none => exact .inr H
 | some y => exact .inl ⟨y, rfl, H⟩
theorem cA {y : AR β} {o : AO β} (H : cond b y (.stop n a) = .ok o) : b = true ∧ y = .ok o := by
 cases b with
 | true => exact ⟨rfl, H⟩
 | false => cases H
theorem cA' {y : AR β} {o : AO β} (H : cond b (.stop n a) y = .ok o) : b = false ∧ y = .ok o := by
 cases b with
 | true => cases H
 | false => exact ⟨rfl, H⟩
theorem cX {y : XR} {o : XO} (H : cond b y (.stop n a) = .ok o) : b = true ∧ y = .ok o := by
 cases b with
 | true => exact ⟨rfl, H⟩
 | false => cases H
theorem cX' {y : XR} {o : XO} (H : cond b (.stop n a) y = .ok o) : b = false ∧ y = .ok o := by
 cases b with
 | true => cases H
 | false => exact ⟨rfl, H⟩
theorem aX_ok {r : AR α} {f : AO α → XR} {o : XO} (H : aX r f = .ok o) : ∃ y, r = .ok y ∧ f y = .ok o := by
 cases r with
 | ok y => exact ⟨y, rfl, H⟩
 | stop => cases H
 | stk => cases H
theorem xA_ok {r : XR} {f : XO → AR β} {o : AO β} (H : xA r f = .ok o) : ∃ y, r = .ok y ∧ f y = .ok o := by
 cases r with
 | ok y => exact ⟨y, rfl, H⟩
 | stop => cases H
 | stk => cases H
theorem bS {f : α → Option β} {y : β} (H : x.bind f = some y) : ∃ z, x = some z ∧ f z = some y := by
 cases x with
 | none => cases H
 | some z => exact ⟨z, rfl, H⟩
theorem tS {f : α → Option β} (H : (x.bind f).isSome = true) : ∃ z, x = some z ∧ (f z).isSome = true := by
 cases x with
 | none => cases H
 | some z => exact ⟨z, rfl, H⟩
theorem onlyS {y z : α} (H : onlyB b y = some z) : b = true ∧ y = z := by
 cases b with
 | true => cases H; exact ⟨rfl, rfl⟩
 | false => cases H
theorem onlyT {y : α} (H : (onlyB b y).isSome = true) : b = true := by
 cases b with
 | true => rfl
 | false => cases H
theorem inr_ok {x : Value ⊕ α} {y : α} (H : inrOf x = some y) : x = .inr y := by
 cases x with
 | inr => cases H; rfl
 | inl => cases H
theorem unc_ok {x : List α} {y : α × List α} (H : unc x = some y) : x = y.1 :: y.2 := by
 cases x with
 | nil => cases H
 | cons => cases H; rfl
end
theorem ref_ok {v : Value} {y : Addr} (H : refOf v = some y) : v = .ref y := by
 cases v with
 | ref => cases H; rfl
 | _ => cases H
theorem int_ok {v : Value} {y : Int × Tok} (H : intOf v = some y) : v = .int y.1 y.2 := by
 cases v with
 | int => cases H; rfl
 | _ => cases H
theorem non_ok {v : Value} {y : Unit} (H : nonOf v = some y) : v = .none := by
 cases v with
 | none => rfl
 | _ => cases H
theorem str_ok {v : Value} {y : Str} (H : strOf v = some y) : ∃ t, v = .str y t := by
 cases v with
 | str => cases H; exact ⟨_, rfl⟩
 | _ => cases H
theorem typ_ok {v : Value} {y : String} (H : typOf v = some y) : v = .type y := by
 cases v with
 | type => cases H; rfl
 | _ => cases H
theorem seq_ok {v : Data} {y : Array Value} (H : seqOf v = some y) : ∃ n, v = .seq y n := by
 cases v with
 | seq => cases H; exact ⟨_, rfl⟩
 | _ => cases H
theorem fld_ok {v : Data} {y : Array Value} (H : fldOf v = some y) : v = .fields y := by
 cases v with
 | fields => cases H; rfl
 | _ => cases H
theorem dic_ok {v : Data} {y : Array DictEntry} (H : dicOf v = some y) : ∃ n, v = .dict y n := by
 cases v with
 | dict => cases H; exact ⟨_, rfl⟩
 | _ => cases H
theorem fun_ok {v : Data} {y : FuncData} (H : funOf v = some y) : v = .func y := by
 cases v with
 | func => cases H; rfl
 | _ => cases H
theorem stm_ok {v : FuncBody} {y : List Stmt} (H : stmOf v = some y) : v = .stmts y := by
 cases v with
 | stmts => cases H; rfl
 | _ => cases H
theorem not_t {b : Bool} (h : (!b) = true) : b = false := by
 cases b with
 | true => cases h
 | false => rfl
theorem wp_if {M : Model} {A : Around} {α : Type} {x y : Sem α} {Q : α → Shared → Prop} {E : Value → Shared → Prop} {s : Shared} {b : Bool} (h : b = true) (t : wpAny M A x Q E s) : wpAny M A (if b = true then x else y) Q E s := by
 rw [if_pos h]; exact t
theorem mark_ne {hd : Option Value} (ok : okMark hd = true) : hd ≠ some byPass := by
 intro e
 subst e
 simp [okMark] at ok
theorem simA_good {α : Type} {run : Run} (hr : RunOk run) {V : XV} (O : V.Ok) {Q : α → Shared → Prop} {E : Value → Shared → Prop} (f : Nat) : ∀ (t : Sem α) T m i ch o h, simA run V f t T m i ch = .ok o →
  AGd V Q E o → Rep V h T m ch → wpAny (model V.prog V.w) V.A₀ t Q E (St V h i) := by
 induction f with
 | zero => intro _ _ _ _ _ _ _ H; cases H
 | succ f ih =>
  intro t T m i ch o h H G D
  replace H : simB (simA run V f) run V t T m i ch = .ok o := H
  generalize simA run V f = rec at H ih
  cases t with
  | pure a => cases H; exact wpAny_pure (G.g h D)
  | raise e => cases H; exact wpAny_throw (G.g h D)
  | rule tag k => intro Γ p hΓ; exact ih _ _ _ _ _ _ _ H G D Γ p hΓ
  | «at» q k => intro Γ p hΓ; exact ih _ _ _ _ _ _ _ H G D Γ _ hΓ
  | point q k => intro Γ p hΓ; exact ih _ _ _ _ _ _ _ H G D Γ _ hΓ
  | ask k => intro Γ p hΓ; exact ih _ _ _ _ _ _ _ H G D Γ p hΓ
  | load a q k =>
   delta simB at H; dsimp only at H
   obtain ⟨ob, e, H⟩ := oA H
   exact wpAny_bind (m := loadPart a q) (f := k) (wpAny_loadPart (D.look O e) (ih _ _ _ _ _ _ _ H G D))
  | loadIfAlive a k =>
   delta simB at H; dsimp only at H
   obtain ⟨ob, e, H⟩ := oA H
   intro Γ p hΓ
   show Sem.wp _ _ (k (h.get? a)) _ _ _ _
   rw [D.look O e]
   exact ih _ _ _ _ _ _ _ H G D Γ p hΓ
  | alloc ob k =>
   delta simB at H; dsimp only at H
   obtain ⟨hfr, H⟩ := cA' H
   obtain ⟨o', e, H⟩ := oA H
   refine wpAny_bind (m := alloc ob) (f := k) (wpAny_alloc ?_)
   rw [show h.objs.size = V.n₁ + m from D.size]
   exact ih _ _ _ _ _ _ (h.push ob) H G (D.alloc O hfr (by rw [e]; rfl))
  | update a q g k =>
   delta simB at H; dsimp only at H
   cases hb : Nat.blt a V.n₁ with
   | false =>
    rw [hb] at H
    obtain ⟨ob, e, H⟩ := oA H
    obtain ⟨hfr, H⟩ := cA' H
    have ho := (D.own _ _ e).2
    rw [Nat.add_sub_cancel' (blt_false hb)] at ho
    exact wpAny_bind (m := updatePart a q g) (f := k) (wpAny_updatePart ho (ih _ _ _ _ _ _ _ H G (D.update O (blt_false hb) e hfr)))
   | true =>
    rw [hb] at H
    obtain ⟨vs, e, H⟩ := oA H
    obtain ⟨vs', e', H⟩ := oA H
    obtain ⟨more, em, H⟩ := oA H
    have z := D.table O e (tabOf_eq e') em
    exact wpAny_bind (m := updatePart a q g) (f := k) (wpAny_updatePart z.1 (ih _ _ _ _ _ _ _ H G z.2))
  | fresh k => intro Γ p hΓ; exact ih _ _ _ _ _ _ _ H G D Γ p hΓ
  | handled own k =>
   cases own with
   | false => exact wpAny_bind (m := handled) (f := k) (wpAny_handled (ih _ _ _ _ _ _ _ H G D))
   | true => cases H
  | call c' hd g l k =>
   delta simB at H; dsimp only at H
   obtain ⟨ok, H⟩ := cA H
   obtain ⟨o1, e, H⟩ := xA_ok H
   obtain ⟨o2, e2, G, hf, hk⟩ := AR.more_ok H G
   refine y_start _ _ _ _ _ _ _ _ _ _ _ _ (mark_ne ok) ?_
   exact hr { V with A₀ := V.A₀.mark hd } (postA V.prog V.w V.A₀ Q E k) c' .base T m i ch o1 (ok_a O _) e ⟨hf, hk, fun h' D2 => ih _ _ _ _ _ _ h' e2 G (rep_b D2)⟩ h (rep_a D)
  | _ => cases H
theorem simA_sound {α : Type} {run : Run} (hr : RunOk run) {V : XV} (O : V.Ok) {Q : α → Shared → Prop} {E : Value → Shared → Prop} (f : Nat) (t : Sem α) (T : BT) (m i : Nat) (ch : Ch) (o : AO α) (h : Heap) (H : simA run V f t T m i ch = .ok o)
  (hf : ∀ x ∈ o.fits, InLong x) (hk : ∀ k ∈ o.room, RoomOk k) (G : AGood V Q E o) (D : Rep V h T m ch) : wpAny (model V.prog V.w) V.A₀ t Q E (St V h i) := simA_good hr O f t T m i ch o h H ⟨hf, hk, G⟩ D
theorem lim_data {V : XV} {T : BT} {ch : Ch} (e : limOk V T ch = true) : ∃ o n, look V T ch cStatics = some o ∧ o.data = .dict #[] n := by
 obtain ⟨o, ho, e⟩ := tS e
 obtain ⟨es, hd, e⟩ := tS e
 obtain ⟨n, hd⟩ := dic_ok hd
 have h0 : es = #[] := Array.ext' (List.isEmpty_iff.mp (onlyT e))
 subst h0
 exact ⟨o, n, ho, hd⟩
theorem lim_ok {V : XV} (O : V.Ok) {h : Heap} {T : BT} {m : Nat} {ch : Ch} (D : Rep V h T m ch) (e : limOk V T ch = true) : h.NoLimit := by
 obtain ⟨o, n, ho, hd⟩ := lim_data e
 exact ⟨fun _ => none, ⟨o, #[], n, D.look O ho, hd, (fun _ he => nomatch he), fun _ => rfl⟩, rfl⟩
theorem code_ok {V : XV} (O : V.Ok) {h : Heap} {T : BT} {m : Nat} {ch : Ch} (D : Rep V h T m ch) {fd : FuncData} (e : codeOk V T ch fd = true) : h.CodeRec fd.code fd.qualname := by
 obtain ⟨c, hc, e⟩ := tS e
 obtain ⟨o, ho, e⟩ := tS e
 obtain ⟨vs, hd, e⟩ := tS e
 obtain ⟨p, hp, e⟩ := tS e
 obtain ⟨q, hq, e⟩ := tS e
 obtain ⟨x, hx, e⟩ := tS e
 obtain ⟨t, hx⟩ := str_ok hx
 have hs : x = fd.qualname := by
  have := eq_of_beq (onlyT e)
  cases x; cases hh : fd.qualname
  rw [hh] at this
  congr
  exact Array.ext' this
 refine ⟨c, o, vs, t, ref_ok hc, D.look O ho, fld_ok hd, ?_⟩
 rw [← Array.getElem?_toList, unc_ok hp, unc_ok hq, hx, hs]; rfl
theorem fn_ok {o : Obj} {fd : FuncData} {b : List Stmt} (e : fnOf o = some (fd, b)) : o.data = .func fd ∧ fd.body = .stmts b ∧ fd.scope.isCoroutine = false ∧ fd.scope.isGenerator = false := by
 obtain ⟨fd', hd, e⟩ := bS e
 obtain ⟨b', hb, e⟩ := bS e
 obtain ⟨hs, e⟩ := onlyS e
 cases e
 have := Bool.or_eq_false_iff.mp (not_t hs)
 exact ⟨fun_ok hd, stm_ok hb, this.1, this.2⟩
theorem cls_is {o : Obj} {n : String} (e : clsIs o n = true) : o.cls = .type n := by
 obtain ⟨t, ht, e⟩ := tS e
 rw [typ_ok ht, @of_decide_eq_true _ (PySem.W.S.strDecS t n) (onlyT e)]
theorem first_is : ∀ (n : Nat) {xs ys : List Value}, firstN n xs = some ys → xs.take n = ys := by
 intro n
 induction n with
 | zero => intro xs ys e; cases e; rfl
 | succ n ih =>
  intro xs ys e
  obtain ⟨p, hp, e⟩ := bS e
  obtain ⟨r, hr, e⟩ := bS e
  cases e
  rw [unc_ok hp, List.take_succ_cons, ih hr]
section
variable {run : Run} {go : Go} (hr : RunOk run) (hg : GoOk go)
include hr hg
theorem enterX_sound {V : XV} {R : Result → Shared → Prop} {f : Addr} {fd : FuncData} {b : List Stmt} {ob : Obj} {args : Args} {κ : Kont} {T : BT} {m i : Nat} {ch : Ch} {o : XO} (O : V.Ok) (H : enterX dnQ run go V f fd b args κ T m i ch = .ok o)
  (hl : look V T ch f = some ob) (hb : fnOf ob = some (fd, b)) (G : XGood V R o) {h : Heap} (D : Rep V h T m ch) :
  codeAny (model V.prog V.w) (aroundOf V true κ) (.call (.ref f) args) (endOf (VR V R) κ) (St V h i) := by
 obtain ⟨hc, H⟩ := cX H
 obtain ⟨oA, eA, H⟩ := aX_ok H
 obtain ⟨binds, hbi, H⟩ := oX H
 obtain ⟨oB, eB, H⟩ := aX_ok H
 obtain ⟨env, hen, H⟩ := oX H
 obtain ⟨hli, H⟩ := cX H
 obtain ⟨o1, H, G, fA, kA⟩ := XR.more_ok H G
 obtain ⟨o2, H, G, fB, kB⟩ := XR.more_ok H G
 have bb := fn_ok hb
 have hcc := Bool.and_eq_true_iff.mp hc
 refine codeAny_call_function (blt_true hcc.2) (D.look O hl) bb.1 bb.2.2.1 bb.2.2.2 bb.2.1 (code_ok O D hcc.1) ?_
 rw [ba_eq]
 refine simA_good hr (V := { V with A₀ := (aroundOf V true κ).in1 }) (ok_a O _) 1000 _ _ _ _ _ oA h eA (.of hbi fA kA fun h1 D1 => ?_) (rep_a D)
 show wpAny _ _ (newFunctionEnv _ _ _ binds _ _ _ _ _) _ _ _
 rw [nf_eq]
 refine simA_good hr (V := { V with A₀ := (aroundOf V true κ).in1 }) (ok_a O _) 1000 _ _ _ _ _ oB h1 eB (.of hen fB kB fun h2 D2 => ?_) D1
 refine ⟨lim_ok O (rep_b D2) hli, y_code _ _ _ _ _ _ ?_⟩
 rw [dn_eq, ← around_r V R]
 exact hg V R (.func b env) κ _ _ _ _ _ o2 O H G h2 (rep_b D2)
theorem go_code {V : XV} {R : Result → Shared → Prop} {c : Code} {κ : Kont} {T : BT} {m i : Nat} {ch : Ch} {o : XO} (O : V.Ok) (H : go V c κ (dnQ c) T m i ch = .ok o) (G : XGood V R o) {h : Heap} (D : Rep V h T m ch) : codeAny (model V.prog V.w) (aroundOf V true κ) c (endOf (VR V R) κ) (St V h i) := by
 have _ := hr
 refine y_code _ _ _ _ _ _ ?_
 rw [dn_eq, ← around_r V R]
 exact hg V R c κ _ _ _ _ _ o O H G h D
theorem ret_sound {V : XV} {R : Result → Shared → Prop} {κ : Kont} {r : Result} {T : BT} {m i : Nat} {ch : Ch} {o : XO} (O : V.Ok) (H : retX go V κ r T m i ch = .ok o) (G : XGood V R o) {h : Heap} (D : Rep V h T m ch) : endOf (VR V R) κ r (St V h i) := by
 have _ := hr
 cases κ with
 | base => cases H; exact G.g h D
 | ret c hd k κ => exact hg V R c κ _ _ _ _ _ o O H G h D
 | gen => cases H
 | genS => cases H
end
theorem call_getitem {prog : Program} {w : World} {A : Around} {R : Result → Shared → Prop} {s : Shared} {l sl : Addr} {items : Array Value} {t : Tok} (hl : s.heap.IsList l items) (hs : s.heap.IsSliceOf sl .none (.int 10 t) .none)
  (h : R (.ok (.ret (.ref s.heap.objs.size))) { s with heap := s.heap.push { cls := .type "list", data := .seq (items.toList.take 10).toArray } }) :
  codeAny (model prog w) A (.call (.builtin "list.__getitem__") ⟨[.ref l, .ref sl], []⟩) R s := by
 obtain ⟨o, ho, hc, ne, hd⟩ := id hl
 obtain ⟨os, hos, hcs, hds⟩ := id hs
 have hTs : s.TypeIs (.ref sl) "slice" := ⟨os, hos, hcs⟩
 refine codeAny_call_builtin slot_list_getitem.plain entry_list_getitem (slot_list_getitem.check _ _ _ _ _ _ _ _ hl.typeIs (args_list_getitem _ _) ?_)
 show wpAny _ _ (Builtin.List.listSubscript? (.ref sl) >>= _) _ _ s
 refine wpAny_bind ?_
 unfold Builtin.List.listSubscript?
 refine wpAny_bind (wpAny_specialOf hTs slice_no_index ?_)
 simp only [Option.isNone_none, if_true]
 refine wpAny_pure ?_
 show wpAny _ _ (typeOf (.ref sl) >>= _) _ _ s
 refine wpAny_bind (wpAny_typeOf hTs ?_)
 rw [if_neg (by decide)]
 rw [listSliceParts_eq]
 refine wpAny_bind (wpAny_bind (wpAny_field hos hds (x := .none) rfl (wpAny_bind (wpAny_listPart .none ?_))))
 rw [if_neg (by decide)]
 refine wpAny_bind (wpAny_field hos hds (x := .none) rfl (wpAny_bind (wpAny_listPart .none ?_)))
 refine wpAny_bind (wpAny_field hos hds (x := .int 10 t) rfl (wpAny_bind (wpAny_listPart (.int 10 t) (wpAny_pure ?_))))
 refine wpAny_bind (m := Builtin.List.listItems (.ref l)) ?_
 unfold Builtin.List.listItems
 refine wpAny_bind (wpAny_seqItems ho hd (wpAny_pure ?_))
 refine wpAny_bind (wpAny_of_eq (sliceIndices_raw none (some 10) none items.size (by simp)) ?_)
 have hp : slicePick items none (some ((10 : Nat) : Int)) none = (items.toList.take 10).toArray := slicePick_upto' items 10
 refine wpAny_bind (wpAny_newObj_type (wpAny_pure ?_) ?_)
 ·rw [← hp] at h
  exact h
 ·show (slicePick items none (some ((10 : Nat) : Int)) none).size ≤ sizeLine
  rw [hp, List.size_toArray, List.length_take]
  exact Nat.le_trans (Nat.min_le_left _ _) (by decide)
theorem ten_sl {os : Obj} {h : Heap} {sl : Addr} {t : Tok} (ho : h.get? sl = some os) (H : tenSl os = some t) : h.IsSliceOf sl .none (.int 10 t) .none := by
 obtain ⟨vs, hd, H⟩ := bS H
 obtain ⟨p, hp, H⟩ := bS H
 obtain ⟨_, n1, H⟩ := bS H
 obtain ⟨q, hq, H⟩ := bS H
 obtain ⟨k, hk, H⟩ := bS H
 obtain ⟨r, hr, H⟩ := bS H
 obtain ⟨_, n2, H⟩ := bS H
 obtain ⟨e, rfl⟩ := onlyS H
 obtain ⟨e1, e2⟩ := Bool.and_eq_true_iff.mp e
 obtain ⟨e3, e4⟩ := Bool.and_eq_true_iff.mp e2
 rw [Int.beq'_eq] at e4
 refine ⟨os, ho, cls_is e3, ?_⟩
 rw [fld_ok hd]
 congr
 exact Array.ext' (by rw [unc_ok hp, unc_ok hq, unc_ok hr, List.isEmpty_iff.mp e1, non_ok n1, non_ok n2, int_ok hk, e4])
theorem args_is {args : Args} {l : List Value} (h : args.kw.isEmpty = true) (e : args.pos = l) : args = ⟨l, []⟩ := by
 obtain ⟨p, k⟩ := args
 cases e
 cases k with
 | nil => rfl
 | cons => cases h
theorem sl_ok {id : String} {args : Args} {y : Addr × Addr} (H : slArgs id args = some y) : id = "list.__getitem__" ∧ args = ⟨[.ref y.1, .ref y.2], []⟩ := by
 obtain ⟨p, hp, H⟩ := bS H
 obtain ⟨a, ha, H⟩ := bS H
 obtain ⟨q, hq, H⟩ := bS H
 obtain ⟨b, hb, H⟩ := bS H
 obtain ⟨e, rfl⟩ := onlyS H
 obtain ⟨e1, e2⟩ := Bool.and_eq_true_iff.mp e
 obtain ⟨e3, e4⟩ := Bool.and_eq_true_iff.mp e1
 exact ⟨@of_decide_eq_true _ (PySem.W.S.strDecS id "list.__getitem__") e2, args_is e4 (by rw [unc_ok hp, unc_ok hq, List.isEmpty_iff.mp e3, ref_ok ha, ref_ok hb])⟩
theorem zero_ok {v : Value} {u : Unit} (H : zeroV v = some u) : v = .int 0 0 := by
 obtain ⟨a, ha, H⟩ := bS H
 obtain ⟨e, _⟩ := onlyS H
 obtain ⟨e1, e2⟩ := Bool.and_eq_true_iff.mp e
 rw [Int.beq'_eq] at e1
 rw [int_ok ha, e1, Nat.eq_of_beq_eq_true e2]
theorem sm_ok {id : String} {args : Args} {y : Addr × Addr} (H : smArgs id args = some y) : id = "sum.loop" ∧ args = ⟨[.ref y.1, .ref y.2, .int 0 0, .int 0 0], []⟩ := by
 obtain ⟨p, hp, H⟩ := bS H
 obtain ⟨a, ha, H⟩ := bS H
 obtain ⟨q, hq, H⟩ := bS H
 obtain ⟨b, hb, H⟩ := bS H
 obtain ⟨r, hr, H⟩ := bS H
 obtain ⟨_, h1, H⟩ := bS H
 obtain ⟨x, hx, H⟩ := bS H
 obtain ⟨_, h2, H⟩ := bS H
 obtain ⟨e, rfl⟩ := onlyS H
 obtain ⟨e1, e2⟩ := Bool.and_eq_true_iff.mp e
 obtain ⟨e3, e4⟩ := Bool.and_eq_true_iff.mp e1
 exact ⟨@of_decide_eq_true _ (PySem.W.S.strDecS id "sum.loop") e2, args_is e4 (by rw [unc_ok hp, unc_ok hq, unc_ok hr, unc_ok hx, List.isEmpty_iff.mp e3, ref_ok ha, ref_ok hb, zero_ok h1, zero_ok h2])⟩
theorem int1_ok {o : Obj} {a : Int × Tok} (H : int1 o = some a) : ∃ n, o.data = .seq #[.int a.1 a.2] n := by
 obtain ⟨xs, hd, H⟩ := bS H
 obtain ⟨n, hd⟩ := seq_ok hd
 obtain ⟨p, hp, H⟩ := bS H
 obtain ⟨b, hi, H⟩ := bS H
 obtain ⟨hnil, rfl⟩ := onlyS H
 have h0 : xs = #[.int b.1 b.2] := Array.ext' (by rw [unc_ok hp, List.isEmpty_iff.mp hnil, int_ok hi])
 exact ⟨n, hd.trans (by rw [h0])⟩
theorem list_ok {o : Obj} {xs : List Value} (H : listObj o = some xs) : ∃ its : Array Value, o.cls = .type "list" ∧ (∃ n, o.data = .seq its n) ∧ its.toList = xs := by
 obtain ⟨its, hd, H⟩ := bS H
 obtain ⟨c, rfl⟩ := onlyS H
 exact ⟨its, cls_is c, seq_ok hd, rfl⟩
section
variable {run : Run} {go : Go} (hr : RunOk run) (hg : GoOk go)
include hr hg
theorem sliceX_sound {V : XV} {R : Result → Shared → Prop} {l sl : Addr} {κ : Kont} {T : BT} {m i : Nat} {ch : Ch} {o : XO} (O : V.Ok) (H : sliceX dnQ go V (.call (.builtin "list.__getitem__") ⟨[.ref l, .ref sl], []⟩) l sl κ T m i ch = .ok o) (G : XGood V R o) {h : Heap} (D : Rep V h T m ch) :
  codeAny (model V.prog V.w) (aroundOf V true κ) (.call (.builtin "list.__getitem__") ⟨[.ref l, .ref sl], []⟩) (endOf (VR V R) κ) (St V h i) := by
 rcases eX H with ⟨t, ht, H⟩ | H
 ·rcases eX H with ⟨ys, hy, H⟩ | H
  ·obtain ⟨z, e, H⟩ := oX H
   obtain ⟨xs, hxs, hys⟩ := bS hy
   obtain ⟨ol, hol, hxs⟩ := bS hxs
   obtain ⟨os, hos, ht⟩ := bS ht
   obtain ⟨its, hc, hd, rfl⟩ := list_ok hxs
   refine call_getitem ⟨ol, D.look O hol, hc, hd⟩ (ten_sl (D.look O hos) ht) ?_
   rw [first_is 10 hys, show (St V h i).heap.objs.size = V.n₁ + m from D.size]
   exact ret_sound hr hg O H G (D.alloc O (o := { cls := .type "list", data := .seq ys.toArray }) rfl (by rw [e]; rfl))
  ·exact go_code hr hg O H G D
 ·exact go_code hr hg O H G D
theorem sumC_sound {V : XV} {R : Result → Shared → Prop} {I S : Addr} {κ : Kont} {T : BT} {m i : Nat} {ch : Ch} {o : XO} {oS : Obj} {a b : Int} {ta tb n : Nat} {oA : AO (Option Value)} (O : V.Ok) (H : sumC run V (.builtin "sum.loop" ⟨[.ref I, .ref S, .int 0 0, .int 0 0], []⟩) S κ oA a b = .ok o)
  (hoS : look V T ch S = some oS) (hd : oS.data = .seq #[.int a ta] n) (eA : simA run { V with A₀ := (aroundOf V true κ).in1 } 1000 (pnQ (.ref I)) T m i ch = .ok oA) (hb : inrOf oA.r = some (some (.int b tb))) (G : XGood V R o) {h : Heap} (D : Rep V h T m ch) :
  codeAny (model V.prog V.w) (aroundOf V true κ) (.builtin "sum.loop" ⟨[.ref I, .ref S, .int 0 0, .int 0 0], []⟩) (endOf (VR V R) κ) (St V h i) := by
 have _ := hg
 obtain ⟨hbl, H⟩ := cX' H
 obtain ⟨_, hz, H⟩ := oX H
 obtain ⟨o1, H, G, fA, kA⟩ := XR.more_ok H G
 obtain ⟨o2, H, G, fB, kB⟩ := XR.more_ok H G
 refine codeAny_builtin F.entry_sum_loop ?_
 rw [Around.under_plainId F.plain_sum_loop _]
 show wpAny _ (aroundOf V true κ).in1 (seqItems? (.ref S) >>= _) _ _ _
 refine wpAny_bind (wpAny_seqItems (D.look O hoS) hd ?_)
 show wpAny _ (aroundOf V true κ).in1 (tryCatch (pyNext (.ref I)) _ >>= _) _ _ _
 rw [pn_eq]
 refine wpAny_bind (wpAny_tryCatch ?_)
 refine simA_good hr (V := { V with A₀ := (aroundOf V true κ).in1 }) (ok_a O _) 1000 _ _ _ _ _ oA h eA (.of hb fA kA fun h1 D1 => ?_) (rep_a D)
 obtain ⟨oS', hS', hz⟩ := bS hz
 obtain ⟨ys, hd', hz⟩ := bS hz
 obtain ⟨n', hd'⟩ := seq_ok hd'
 have hys := (onlyS hz).1
 have hS1 := (D1.own _ _ hS').2
 rw [show V.n₁ + (S - V.n₁) = S from Nat.add_sub_cancel' (blt_false hbl)] at hS1
 have f1 := fB b (.head _)
 have f2 := fB (a + b) (.tail _ (.head _))
 show wpAny _ (aroundOf V true κ).in1 (if (_ : Bool) = true then (mkInt (a + b) >>= _) else _) _ _ _
 refine wp_if (Bool.and_eq_true_iff.mpr ⟨Bool.and_eq_true_iff.mpr ⟨decide_eq_true f1.1, decide_eq_true f1.2⟩, Bool.and_eq_true_iff.mpr ⟨decide_eq_true f2.1, decide_eq_true f2.2⟩⟩) ?_
 refine wpAny_bind (wpAny_mkInt ?_)
 show wpAny _ (aroundOf V true κ).in1 (updateSeq S (fun _ => #[.int (a + b) (V.t₀ + oA.i)]) >>= _) _ _ _
 refine wpAny_bind ?_
 refine wpAny_updateSeq hS1 hd' (wpAny_pure ⟨plainId_quiet F.plain_sum_loop _, ?_⟩) (Nat.le_trans (Nat.le_of_ble_eq_true hys) (by decide)) (by show (1 : Nat) ≤ sizeLine + 1; exact Nat.succ_le_succ (Nat.zero_le _))
 obtain ⟨n2, hd2⟩ := Obj.data_mapSeq hd' (fun _ => #[Value.int (a + b) (V.t₀ + oA.i)])
 exact hr V R _ κ _ _ _ _ o2 O H G _ ((rep_b D1).update O (f := Obj.mapSeq fun _ => #[Value.int (a + b) (V.t₀ + oA.i)]) (blt_false hbl) hS' (Obj.isFreed_of_seq hd2))
theorem sumX_sound {V : XV} {R : Result → Shared → Prop} {I S : Addr} {κ : Kont} {T : BT} {m i : Nat} {ch : Ch} {o : XO} (O : V.Ok) (H : sumX dnQ run go V (.builtin "sum.loop" ⟨[.ref I, .ref S, .int 0 0, .int 0 0], []⟩) I S κ T m i ch = .ok o) (G : XGood V R o) {h : Heap} (D : Rep V h T m ch) :
  codeAny (model V.prog V.w) (aroundOf V true κ) (.builtin "sum.loop" ⟨[.ref I, .ref S, .int 0 0, .int 0 0], []⟩) (endOf (VR V R) κ) (St V h i) := by
 obtain ⟨a, ha, H⟩ := oX H
 obtain ⟨oA, eA, H⟩ := aX_ok H
 obtain ⟨oS, hoS, ha⟩ := bS ha
 obtain ⟨n, hd⟩ := int1_ok ha
 rcases eX H with ⟨b, hb, H⟩ | H
 ·obtain ⟨bv, hbv, hb⟩ := bS hb
  obtain ⟨bw, hbw, hb⟩ := bS hb
  exact sumC_sound hr hg O H hoS hd eA (by rw [hbv, hbw, int_ok hb]) G D
 ·exact go_code hr hg O H G D
theorem startX_sound {V : XV} {R : Result → Shared → Prop} {c : Code} {κ : Kont} {T : BT} {m i : Nat} {ch : Ch} {o : XO} (O : V.Ok) (H : startX dnQ run go V c κ T m i ch = .ok o) (G : XGood V R o) {h : Heap} (D : Rep V h T m ch) :
  codeAny (model V.prog V.w) (aroundOf V true κ) c (endOf (VR V R) κ) (St V h i) := by
 cases c with
 | call f args =>
  cases f with
  | ref a =>
   delta startX at H; dsimp only at H
   obtain ⟨ob, hob, H⟩ := oX H
   rcases eX H with ⟨p, hb, H⟩ | H
   ·exact enterX_sound hr hg O H hob hb G D
   ·exact go_code hr hg O H G D
  | builtin id =>
   delta startX at H; dsimp only at H
   rcases eX H with ⟨p, hb, H⟩ | H
   ·obtain ⟨rfl, rfl⟩ := sl_ok hb
    exact sliceX_sound hr hg O H G D
   ·exact go_code hr hg O H G D
  | _ => exact go_code hr hg O H G D
 | builtin id args =>
  delta startX at H; dsimp only at H
  rcases eX H with ⟨p, hb, H⟩ | H
  ·obtain ⟨rfl, rfl⟩ := sm_ok hb
   exact sumX_sound hr hg O H G D
  ·exact go_code hr hg O H G D
 | _ => exact go_code hr hg O H G D
theorem stepX_sound {V : XV} {R : Result → Shared → Prop} {c : Code} {κ : Kont} {t : Sem PySem.Fin} {T : BT} {m i : Nat} {ch : Ch} {o : XO} (O : V.Ok) (H : stepX false run go V c κ t T m i ch = .ok o)
  (G : XGood V R o) {h : Heap} (D : Rep V h T m ch) :
  Means (VR V R) c none κ t (St V h i) := by
 have rs := fun r (H : retX go V κ r T m i ch = .ok o) => ret_sound hr hg (R := R) O H G D
 let ihP : SimTy := fun c md κ t T m i ch gl => ∀ h, Rep V h T m ch → Means (VR V R) c md κ t ⟨h, ⟨gl⟩, V.d, V.t₀ + i, V.os⟩
 have step : simStep (VR V R) ihP c none κ t T m i ch [] → Means (VR V R) c none κ t (St V h i) := fun x =>
  step_sound (ok_r O R) ihP (fun c md κ t T m i ch gl h hp D => hp h ⟨D.size, D.own, D.keep, D.ch⟩) c none κ t T m i ch [] h x (rep_r D)
 have ih : ∀ {t T m i ch}, go V c κ t T m i ch = .ok o → ihP c none κ t T m i ch [] := fun H h D => hg V R c κ _ _ _ _ _ o O H G h D
 cases t with
 | pure fin =>
  cases fin with
  | done f => exact y_pure _ _ _ _ _ _ _ _ _ (y_done _ _ _ _ _ _ (rs _ H))
  | again c' =>
   delta stepX at H; dsimp only at H
   obtain ⟨hq, H⟩ := cX H
   refine y_pure _ _ _ _ _ _ _ _ _ (y_again _ _ _ _ _ _ hq ?_)
   show codeAny _ (aroundOf (VR V R) true κ) _ _ _
   rw [around_r]
   exact hr V R c' κ _ _ _ _ o O H G h D
 | raise e => exact y_raise _ _ _ _ _ _ _ _ _ (y_err _ _ _ (rs _ H))
 | rule tag k => exact step (ih H)
 | «at» q k => exact step (ih H)
 | point q k => exact step (ih H)
 | ask k => exact step (ih H)
 | load a q k =>
  delta stepX at H; dsimp only at H
  obtain ⟨ob, e, H⟩ := oX H
  refine step ?_
  delta simStep; dsimp only
  rw [show look (VR V R) T ch a = some ob from e]
  exact ih H
 | loadIfAlive a k =>
  delta stepX at H; dsimp only at H
  obtain ⟨ob, e, H⟩ := oX H
  refine step ?_
  delta simStep; dsimp only
  rw [show look (VR V R) T ch a = some ob from e]
  exact ih H
 | alloc ob k =>
  delta stepX at H; dsimp only at H
  obtain ⟨e, H⟩ := cX' H
  obtain ⟨o', e2, H⟩ := oX H
  refine step ?_
  delta simStep; dsimp only
  rw [e, e2]
  exact ih H
 | update a w f k =>
  delta stepX at H; dsimp only at H
  refine step ?_
  delta simStep; dsimp only
  cases e : Nat.blt a V.n₁ with
  | false =>
   rw [e] at H
   obtain ⟨ob, e2, H⟩ := oX H
   obtain ⟨e3, H⟩ := cX' H
   rw [e2]
   dsimp only
   rw [e3]
   exact ih H
  | true =>
   rw [e] at H
   obtain ⟨vs, e2, H⟩ := oX H
   obtain ⟨vs', e3, H⟩ := oX H
   obtain ⟨more, e4, H⟩ := oX H
   rw [show nowTab (VR V R) ch a = some vs from e2]
   dsimp only
   rw [e3]
   dsimp only
   rw [e4]
   exact ih H
 | fresh k => exact step (ih H)
 | handled own k =>
  cases own with
  | false =>
   refine step ?_
   delta simStep; dsimp only
   rw [around_r]
   exact ih H
  | true => cases H
 | call c' hd g l k =>
  delta stepX at H; dsimp only at H
  obtain ⟨ok, H⟩ := cX H
  refine y_call _ _ _ _ _ _ _ _ _ _ _ _ _ (mark_ne ok) ?_
  have z := hr V R c' (.ret c hd k κ) _ _ _ _ o O H G h D
  rw [← around_r V R] at z
  exact z
 | stack k =>
  delta stepX at H; dsimp only at H
  obtain ⟨hu, H⟩ := cX H
  obtain ⟨hd, hl⟩ := Bool.and_eq_true_iff.mp hu
  obtain ⟨t, ht, H⟩ := oX H
  obtain ⟨o1, e1, G1, _, hk⟩ := XR.more_ok H G
  obtain ⟨κ', hk1, hk2⟩ : RoomOk k := hk k (.head _)
  obtain ⟨oS, n, hoS, hdS⟩ := lim_data hl
  have hkl : ∀ st, k st = .load cStatics limPart (fun o => κ' (tailL st o)) := fun st => by rw [hk1, tailZ_load, hk2]
  rw [hoS] at ht
  obtain ⟨f, hf1, ht⟩ := bS (x := loadOf (k [])) ht
  rw [hkl] at hf1
  cases hf1
  cases ht
  dsimp only at e1
  rw [tailL_nil hdS] at e1
  refine y_stack _ _ _ _ _ _ _ _ _ fun p below l => ?_
  rw [around_r] at l
  have hdep := blt_true hd
  rw [hkl]
  refine y_load _ _ _ _ _ _ _ _ _ _ _ _ _ _ _ _ (D.look O hoS) ?_
  rw [tailL_pure hdS (l.near' hdep 0) (l.over hdep 0) (l.warm hdep 0)]
  exact hg V R c κ _ _ _ _ _ o1 O e1 G1 h D
 | _ => cases H
end
theorem simX_sound : ∀ n, RunOk (fun V c κ T m i ch => simX false dnQ n V c κ none T m i ch) ∧ GoOk (fun V c κ t T m i ch => simX false dnQ n V c κ (some t) T m i ch)
 | 0 => ⟨(by intro V R c κ T m i ch o O H; cases H), (by intro V R c κ t T m i ch o O H; cases H)⟩
 | n + 1 => by
  obtain ⟨hr, hg⟩ := simX_sound n
  exact ⟨fun V R c κ T m i ch o O H G h D => startX_sound hr hg O H G D, fun V R c κ t T m i ch o O H G h D => stepX_sound hr hg O H G D⟩
theorem runX_ok (n : Nat) : RunOk (runX n) := (simX_sound n).1
end Mine
end
section
set_option maxRecDepth 1000000
set_option maxHeartbeats 0
open PySem.W.X
namespace Mine
noncomputable def ktK (P : Params) : KT := KT.of (KK P)
noncomputable def fixR (w : World) (row : String) (b : Bool) : World := { w with params := { w.params with followText := fun r => match @decide (r = row) (PySem.W.S.strDecS r row) with | true => b | false => w.params.followText r } }
theorem fixR_eq (w : World) (row : String) : fixR w row (w.params.followText row) = w := by
 unfold fixR
 have : (fun r => match @decide (r = row) (PySem.W.S.strDecS r row) with | true => w.params.followText row | false => w.params.followText r) = w.params.followText := by
  funext r
  split
  ·rename_i h
   rw [@of_decide_eq_true _ (PySem.W.S.strDecS r row) h]
  ·rfl
 rw [this]
noncomputable def fixW (w : World) (b c : Bool) : World := fixR (fixR w "special-get-raises" b) "comprehension-iter-twice" c
theorem fixW_eq (w : World) : ∃ b c, fixW w b c = w := by
 refine ⟨w.params.followText "special-get-raises", w.params.followText "comprehension-iter-twice", ?_⟩
 unfold fixW
 rw [fixR_eq, fixR_eq]
noncomputable def lawF (P : Params) : FuncData × List Stmt := (fnOf (Mine.sur.o_469 P)).getD default
noncomputable def scriptO (od : Option Addr) (sl : Array (Option Value)) (n : Nat) (vs : List Value) : Obj := ⟨.type "list", od, .seq vs.toArray n, sl⟩
noncomputable def V0 (w : World) (s : Shared) (so : Obj) (t : Nat) (A : Around) : XV := ⟨pw, w, s.heap, 318, KT.put 40 (ktK w.params) 317 so, [(276, #[]), (292, #[])], A, fun _ _ => True, s.drawn, t, s.os⟩
noncomputable def execsQ (b : List Stmt) (env : Env) : Sem Flow := PySem.W.Fast.tw12563942051412417395 b env
theorem execs_eq : execs = execsQ := PySem.W.Fast.te12563942051412417395
noncomputable def entryR (w : World) (s : Shared) (so : Obj) : AR Env := simA (runX 1000000) (V0 w s so s.toks callerA.in1) 1000 (envTree 316 (lawF w.params).1 [(Str.ofString "script", .ref 317)]) .nil 0 0 []
structure PO (α : Type) where
 a : α
 T : BT
 m : Nat
 i : Nat
 ch : Ch
noncomputable def AR.plain {α : Type} : AR α → Option (PO α)
 | .ok o => match o.r with
  | .inr a => match o.fits with
   | [] => match o.room with
    | [] => some ⟨a, o.T, o.m, o.i, o.ch⟩
    | _ => none
   | _ => none
  | .inl _ => none
 | _ => none
noncomputable def lawE (P : Params) : Env := { scope := (lawF P).1.scope, locals := 318, globals := 3, cells := [(Str.ofString "refused", 324), (Str.ofString "limits", 323), (Str.ofString "keys", 322), (Str.ofString "made", 321), (Str.ofString "size", 320), (Str.ofString "values", 319)], qual := Str.ofString "law.<locals>.", func := some 316, code := .ref 315, frame := some 318, builtins := 0 }
noncomputable def entryP (w : World) (s : Shared) (so : Obj) : PO Env := ((entryR w s so).plain).getD ⟨lawE w.params, .nil, 0, 0, []⟩
theorem entry_ok (w : World) (s : Shared) (so : Obj) : (entryR w s so).plain = some ⟨lawE w.params, (entryP w s so).T, 7, 1, []⟩ := by kernel_rfl
noncomputable def s1R (w : World) (s : Shared) (so : Obj) : AR Flow := simA (runX 1000000) (V0 w s so s.toks (callerA.deeper (lawE w.params))) 100000 (execsQ ((lawF w.params).2.take 1) (lawE w.params)) (entryP w s so).T 7 1 []
noncomputable abbrev cellO (v : Option Value) : Obj := ⟨.type "cell", none, .cell v, #[]⟩
noncomputable def frame1 (P : Params) (t k : Nat) : Obj := ⟨.type "frame", none, .dict #[⟨PyData.keyHash P (Str.ofString "script"), .str (Str.ofString "script") t, .ref 317⟩, ⟨PyData.keyHash P (Str.ofString "cells"), .str (Str.ofString "cells") k, .ref 335⟩] 2, #[]⟩
noncomputable abbrev listO (vs : List Value) (n : Nat) : Obj := ⟨.type "list", none, .seq vs.toArray n, #[]⟩
noncomputable def garb (r : AR Flow) : Nat → Obj := match r.plain with
 | some o => fun i => (o.T.get i).getD default
 | none => fun _ => default
noncomputable def mkBT (l : List Obj) : BT := (l.foldl (fun (p : BT × Nat) o => (p.1.ins p.2 o, p.2 + 1)) (.nil, 0)).1
noncomputable def mkT1 (ns : Obj) (G : Nat → Obj) (cells : Obj) : BT := mkBT [ns, cellO none, cellO none, cellO none, cellO none, cellO none, cellO none, G 7, G 8, G 9, G 10, G 11, G 12, G 13, G 14, G 15, G 16, cells]
theorem s1_0 (w : World) (b c : Bool) (s : Shared) (od : Option Addr) (sl : Array (Option Value)) (e : Nat) :
  (s1R (fixW w b c) s (scriptO od sl e ([]))).plain = some ⟨.next, mkT1 (frame1 (fixW w b c).params s.toks (s.toks + 13)) (garb (s1R (fixW w b c) s (scriptO od sl e ([])))) (listO [.int 2 (s.toks + 2), .int 4 (s.toks + 3), .int 1 (s.toks + 4), .int 3 (s.toks + 5), .int 3 (s.toks + 6), .int 0 (s.toks + 7), .int 5 (s.toks + 8), .int 4 (s.toks + 9), .int 1 (s.toks + 10), .int 6 (s.toks + 11)] 0), 18, 14, []⟩ := by
 cases b <;> cases c <;> kernel_rfl
theorem s1_1 (w : World) (b c : Bool) (s : Shared) (od : Option Addr) (sl : Array (Option Value)) (e : Nat) (n0 : Int) (u0 : Tok) :
  (s1R (fixW w b c) s (scriptO od sl e (.int n0 u0 :: []))).plain = some ⟨.next, mkT1 (frame1 (fixW w b c).params s.toks (s.toks + 18)) (garb (s1R (fixW w b c) s (scriptO od sl e (.int n0 u0 :: [])))) (listO [.int (Int.fmod n0 1000000) (s.toks + 6), .int 2 (s.toks + 7), .int 4 (s.toks + 8), .int 1 (s.toks + 9), .int 3 (s.toks + 10), .int 3 (s.toks + 11), .int 0 (s.toks + 12), .int 5 (s.toks + 13), .int 4 (s.toks + 14), .int 1 (s.toks + 15)] 0), 18, 19, []⟩ := by
 cases b <;> cases c <;> kernel_rfl
theorem s1_2 (w : World) (b c : Bool) (s : Shared) (od : Option Addr) (sl : Array (Option Value)) (e : Nat) (n0 n1 : Int) (u0 u1 : Tok) :
  (s1R (fixW w b c) s (scriptO od sl e (.int n0 u0 :: .int n1 u1 :: []))).plain = some ⟨.next, mkT1 (frame1 (fixW w b c).params s.toks (s.toks + 23)) (garb (s1R (fixW w b c) s (scriptO od sl e (.int n0 u0 :: .int n1 u1 :: [])))) (listO [.int (Int.fmod n0 1000000) (s.toks + 6), .int (Int.fmod n1 1000000) (s.toks + 11), .int 2 (s.toks + 12), .int 4 (s.toks + 13), .int 1 (s.toks + 14), .int 3 (s.toks + 15), .int 3 (s.toks + 16), .int 0 (s.toks + 17), .int 5 (s.toks + 18), .int 4 (s.toks + 19)] 0), 18, 24, []⟩ := by
 cases b <;> cases c <;> kernel_rfl
theorem s1_3 (w : World) (b c : Bool) (s : Shared) (od : Option Addr) (sl : Array (Option Value)) (e : Nat) (n0 n1 n2 : Int) (u0 u1 u2 : Tok) :
  (s1R (fixW w b c) s (scriptO od sl e (.int n0 u0 :: .int n1 u1 :: .int n2 u2 :: []))).plain = some ⟨.next, mkT1 (frame1 (fixW w b c).params s.toks (s.toks + 28)) (garb (s1R (fixW w b c) s (scriptO od sl e (.int n0 u0 :: .int n1 u1 :: .int n2 u2 :: [])))) (listO [.int (Int.fmod n0 1000000) (s.toks + 6), .int (Int.fmod n1 1000000) (s.toks + 11), .int (Int.fmod n2 1000000) (s.toks + 16), .int 2 (s.toks + 17), .int 4 (s.toks + 18), .int 1 (s.toks + 19), .int 3 (s.toks + 20), .int 3 (s.toks + 21), .int 0 (s.toks + 22), .int 5 (s.toks + 23)] 0), 18, 29, []⟩ := by
 cases b <;> cases c <;> kernel_rfl
theorem s1_4 (w : World) (b c : Bool) (s : Shared) (od : Option Addr) (sl : Array (Option Value)) (e : Nat) (n0 n1 n2 n3 : Int) (u0 u1 u2 u3 : Tok) :
  (s1R (fixW w b c) s (scriptO od sl e (.int n0 u0 :: .int n1 u1 :: .int n2 u2 :: .int n3 u3 :: []))).plain = some ⟨.next, mkT1 (frame1 (fixW w b c).params s.toks (s.toks + 33)) (garb (s1R (fixW w b c) s (scriptO od sl e (.int n0 u0 :: .int n1 u1 :: .int n2 u2 :: .int n3 u3 :: [])))) (listO [.int (Int.fmod n0 1000000) (s.toks + 6), .int (Int.fmod n1 1000000) (s.toks + 11), .int (Int.fmod n2 1000000) (s.toks + 16), .int (Int.fmod n3 1000000) (s.toks + 21), .int 2 (s.toks + 22), .int 4 (s.toks + 23), .int 1 (s.toks + 24), .int 3 (s.toks + 25), .int 3 (s.toks + 26), .int 0 (s.toks + 27)] 0), 18, 34, []⟩ := by
 cases b <;> cases c <;> kernel_rfl
theorem s1_5 (w : World) (b c : Bool) (s : Shared) (od : Option Addr) (sl : Array (Option Value)) (e : Nat) (n0 n1 n2 n3 n4 : Int) (u0 u1 u2 u3 u4 : Tok) :
  (s1R (fixW w b c) s (scriptO od sl e (.int n0 u0 :: .int n1 u1 :: .int n2 u2 :: .int n3 u3 :: .int n4 u4 :: []))).plain = some ⟨.next, mkT1 (frame1 (fixW w b c).params s.toks (s.toks + 38)) (garb (s1R (fixW w b c) s (scriptO od sl e (.int n0 u0 :: .int n1 u1 :: .int n2 u2 :: .int n3 u3 :: .int n4 u4 :: [])))) (listO [.int (Int.fmod n0 1000000) (s.toks + 6), .int (Int.fmod n1 1000000) (s.toks + 11), .int (Int.fmod n2 1000000) (s.toks + 16), .int (Int.fmod n3 1000000) (s.toks + 21), .int (Int.fmod n4 1000000) (s.toks + 26), .int 2 (s.toks + 27), .int 4 (s.toks + 28), .int 1 (s.toks + 29), .int 3 (s.toks + 30), .int 3 (s.toks + 31)] 0), 18, 39, []⟩ := by
 cases b <;> cases c <;> kernel_rfl
theorem s1_6 (w : World) (b c : Bool) (s : Shared) (od : Option Addr) (sl : Array (Option Value)) (e : Nat) (n0 n1 n2 n3 n4 n5 : Int) (u0 u1 u2 u3 u4 u5 : Tok) :
  (s1R (fixW w b c) s (scriptO od sl e (.int n0 u0 :: .int n1 u1 :: .int n2 u2 :: .int n3 u3 :: .int n4 u4 :: .int n5 u5 :: []))).plain = some ⟨.next, mkT1 (frame1 (fixW w b c).params s.toks (s.toks + 43)) (garb (s1R (fixW w b c) s (scriptO od sl e (.int n0 u0 :: .int n1 u1 :: .int n2 u2 :: .int n3 u3 :: .int n4 u4 :: .int n5 u5 :: [])))) (listO [.int (Int.fmod n0 1000000) (s.toks + 6), .int (Int.fmod n1 1000000) (s.toks + 11), .int (Int.fmod n2 1000000) (s.toks + 16), .int (Int.fmod n3 1000000) (s.toks + 21), .int (Int.fmod n4 1000000) (s.toks + 26), .int (Int.fmod n5 1000000) (s.toks + 31), .int 2 (s.toks + 32), .int 4 (s.toks + 33), .int 1 (s.toks + 34), .int 3 (s.toks + 35)] 0), 18, 44, []⟩ := by
 cases b <;> cases c <;> kernel_rfl
theorem s1_7 (w : World) (b c : Bool) (s : Shared) (od : Option Addr) (sl : Array (Option Value)) (e : Nat) (n0 n1 n2 n3 n4 n5 n6 : Int) (u0 u1 u2 u3 u4 u5 u6 : Tok) :
  (s1R (fixW w b c) s (scriptO od sl e (.int n0 u0 :: .int n1 u1 :: .int n2 u2 :: .int n3 u3 :: .int n4 u4 :: .int n5 u5 :: .int n6 u6 :: []))).plain = some ⟨.next, mkT1 (frame1 (fixW w b c).params s.toks (s.toks + 48)) (garb (s1R (fixW w b c) s (scriptO od sl e (.int n0 u0 :: .int n1 u1 :: .int n2 u2 :: .int n3 u3 :: .int n4 u4 :: .int n5 u5 :: .int n6 u6 :: [])))) (listO [.int (Int.fmod n0 1000000) (s.toks + 6), .int (Int.fmod n1 1000000) (s.toks + 11), .int (Int.fmod n2 1000000) (s.toks + 16), .int (Int.fmod n3 1000000) (s.toks + 21), .int (Int.fmod n4 1000000) (s.toks + 26), .int (Int.fmod n5 1000000) (s.toks + 31), .int (Int.fmod n6 1000000) (s.toks + 36), .int 2 (s.toks + 37), .int 4 (s.toks + 38), .int 1 (s.toks + 39)] 0), 18, 49, []⟩ := by
 cases b <;> cases c <;> kernel_rfl
theorem s1_8 (w : World) (b c : Bool) (s : Shared) (od : Option Addr) (sl : Array (Option Value)) (e : Nat) (n0 n1 n2 n3 n4 n5 n6 n7 : Int) (u0 u1 u2 u3 u4 u5 u6 u7 : Tok) :
  (s1R (fixW w b c) s (scriptO od sl e (.int n0 u0 :: .int n1 u1 :: .int n2 u2 :: .int n3 u3 :: .int n4 u4 :: .int n5 u5 :: .int n6 u6 :: .int n7 u7 :: []))).plain = some ⟨.next, mkT1 (frame1 (fixW w b c).params s.toks (s.toks + 53)) (garb (s1R (fixW w b c) s (scriptO od sl e (.int n0 u0 :: .int n1 u1 :: .int n2 u2 :: .int n3 u3 :: .int n4 u4 :: .int n5 u5 :: .int n6 u6 :: .int n7 u7 :: [])))) (listO [.int (Int.fmod n0 1000000) (s.toks + 6), .int (Int.fmod n1 1000000) (s.toks + 11), .int (Int.fmod n2 1000000) (s.toks + 16), .int (Int.fmod n3 1000000) (s.toks + 21), .int (Int.fmod n4 1000000) (s.toks + 26), .int (Int.fmod n5 1000000) (s.toks + 31), .int (Int.fmod n6 1000000) (s.toks + 36), .int (Int.fmod n7 1000000) (s.toks + 41), .int 2 (s.toks + 42), .int 4 (s.toks + 43)] 0), 18, 54, []⟩ := by
 cases b <;> cases c <;> kernel_rfl
theorem s1_9 (w : World) (b c : Bool) (s : Shared) (od : Option Addr) (sl : Array (Option Value)) (e : Nat) (n0 n1 n2 n3 n4 n5 n6 n7 n8 : Int) (u0 u1 u2 u3 u4 u5 u6 u7 u8 : Tok) :
  (s1R (fixW w b c) s (scriptO od sl e (.int n0 u0 :: .int n1 u1 :: .int n2 u2 :: .int n3 u3 :: .int n4 u4 :: .int n5 u5 :: .int n6 u6 :: .int n7 u7 :: .int n8 u8 :: []))).plain = some ⟨.next, mkT1 (frame1 (fixW w b c).params s.toks (s.toks + 58)) (garb (s1R (fixW w b c) s (scriptO od sl e (.int n0 u0 :: .int n1 u1 :: .int n2 u2 :: .int n3 u3 :: .int n4 u4 :: .int n5 u5 :: .int n6 u6 :: .int n7 u7 :: .int n8 u8 :: [])))) (listO [.int (Int.fmod n0 1000000) (s.toks + 6), .int (Int.fmod n1 1000000) (s.toks + 11), .int (Int.fmod n2 1000000) (s.toks + 16), .int (Int.fmod n3 1000000) (s.toks + 21), .int (Int.fmod n4 1000000) (s.toks + 26), .int (Int.fmod n5 1000000) (s.toks + 31), .int (Int.fmod n6 1000000) (s.toks + 36), .int (Int.fmod n7 1000000) (s.toks + 41), .int (Int.fmod n8 1000000) (s.toks + 46), .int 2 (s.toks + 47)] 0), 18, 59, []⟩ := by
 cases b <;> cases c <;> kernel_rfl
theorem s1_10 (w : World) (b c : Bool) (s : Shared) (od : Option Addr) (sl : Array (Option Value)) (e : Nat) (n0 n1 n2 n3 n4 n5 n6 n7 n8 n9 : Int) (u0 u1 u2 u3 u4 u5 u6 u7 u8 u9 : Tok) (r : List Value) :
  (s1R (fixW w b c) s (scriptO od sl e (.int n0 u0 :: .int n1 u1 :: .int n2 u2 :: .int n3 u3 :: .int n4 u4 :: .int n5 u5 :: .int n6 u6 :: .int n7 u7 :: .int n8 u8 :: .int n9 u9 :: r))).plain = some ⟨.next, mkT1 (frame1 (fixW w b c).params s.toks (s.toks + 63)) (garb (s1R (fixW w b c) s (scriptO od sl e (.int n0 u0 :: .int n1 u1 :: .int n2 u2 :: .int n3 u3 :: .int n4 u4 :: .int n5 u5 :: .int n6 u6 :: .int n7 u7 :: .int n8 u8 :: .int n9 u9 :: r)))) (listO [.int (Int.fmod n0 1000000) (s.toks + 6), .int (Int.fmod n1 1000000) (s.toks + 11), .int (Int.fmod n2 1000000) (s.toks + 16), .int (Int.fmod n3 1000000) (s.toks + 21), .int (Int.fmod n4 1000000) (s.toks + 26), .int (Int.fmod n5 1000000) (s.toks + 31), .int (Int.fmod n6 1000000) (s.toks + 36), .int (Int.fmod n7 1000000) (s.toks + 41), .int (Int.fmod n8 1000000) (s.toks + 46), .int (Int.fmod n9 1000000) (s.toks + 51)] 0), 18, 64, []⟩ := by
 cases b <;> cases c <;> kernel_rfl
end Mine
end
section
set_option maxRecDepth 1000000
set_option maxHeartbeats 0
open PySem.W.X
namespace Mine
noncomputable def defOf : Stmt → FuncBody × Arguments × Scope
 | .FunctionDef _ ps b _ _ _ sc _ _ _ => (.stmts b, ps, sc)
 | _ => default
noncomputable def clsOf : Stmt → List Stmt
 | .ClassDef _ _ _ b _ _ _ _ _ _ _ => b
 | _ => []
noncomputable def bodyAt (o : Obj) : List Stmt := ((fnOf o).getD default).2
noncomputable def cmpDef (P : Params) : FuncBody × Arguments × Scope := defOf ((bodyAt (Mine.sur.o_450 P))[0]?.getD default)
noncomputable def ltDef (P : Params) : FuncBody × Arguments × Scope := defOf ((clsOf ((bodyAt (Mine.sur.o_434 P))[1]?.getD default))[3]?.getD default)
noncomputable def tot (c : Nat → Int) : Int := 0 + Int.fdiv (c 0) 7 + Int.fdiv (c 1) 7 + Int.fdiv (c 2) 7 + Int.fdiv (c 3) 7 + Int.fdiv (c 4) 7 + Int.fdiv (c 5) 7 + Int.fdiv (c 6) 7 + Int.fdiv (c 7) 7 + Int.fdiv (c 8) 7 + Int.fdiv (c 9) 7
noncomputable def siz (c : Nat → Int) : Int := 1 + Int.fmod (tot c + 1) 3
noncomputable def wei (c : Nat → Int) : Int := Int.fmod (Int.fdiv (tot c) 3) 4 + 1
noncomputable def KL (P : Params) (c : Nat → Int) (t : Nat) : Frag := [
 (361, cellO (some (.ref 346))),
 (362, cellO (some (.int (wei c) (t + 85)))),
 (363, cellO (some (.ref 354))),
 (370, ⟨.type "code", none, .fields #[.str (Str.ofString "compare") (t + 86), .str (Str.ofString "_law_compare.<locals>.compare") (t + 87), .str (Str.ofString "/claim/cut.py") (t + 88), .int 553 0, .int 2 0, .int 0 0, .int 0 0, .int 19 0, .ref 365, .bool true, .int 181 0, .ref 366, .none, .ref 367, .ref 368, .ref 369, .int ((t + 94 : Nat) : Int) 0, .int 553 0, .str (Str.ofString "/claim/cut.py") (t + 95)], #[]⟩),
 (371, ⟨.type "function", none, .func ⟨Str.ofString "compare", Str.ofString "_law_compare.<locals>.compare", (cmpDef P).2.1, (cmpDef P).1, (cmpDef P).2.2, mainGlobals, [(Str.ofString "weight", 362), (Str.ofString "values", 361), (Str.ofString "asked", 363)], .none, .none, .none, .str (Str.ofString "law_ik0098_01") 654, none, .ref 370, .ref 364, builtinsNs⟩, #[]⟩),
 (373, cellO (some (.ref 371))),
 (395, ⟨.type "code", none, .fields #[.str (Str.ofString "__lt__") (t + 123), .str (Str.ofString "cmp_to_key.<locals>.K.__lt__") (t + 124), .str (Str.ofString "/claim/cut.py") (t + 125), .int 509 0, .int 2 0, .int 0 0, .int 0 0, .int 19 0, .ref 390, .bool true, .int 181 0, .ref 391, .none, .ref 392, .ref 393, .ref 394, .int ((t + 129 : Nat) : Int) 0, .int 509 0, .str (Str.ofString "/claim/cut.py") (t + 130)], #[]⟩),
 (396, ⟨.type "function", none, .func ⟨Str.ofString "__lt__", Str.ofString "cmp_to_key.<locals>.K.__lt__", (ltDef P).2.1, (ltDef P).1, (ltDef P).2.2, mainGlobals, [(Str.ofString "mycmp", 373)], .none, .none, .none, .str (Str.ofString "law_ik0098_01") 654, none, .ref 395, .ref 389, builtinsNs⟩, #[]⟩),
 (431, ⟨.type "dict", none, .dict #[⟨PyData.keyHash P (Str.ofString "__module__"), .str (Str.ofString "__module__") (t + 106), .str (Str.ofString "cpy313.functools") (t + 111)⟩, ⟨PyData.keyHash P (Str.ofString "__firstlineno__"), .str (Str.ofString "__firstlineno__") (t + 110), .int 502 (t + 109)⟩, ⟨PyData.keyHash P (Str.ofString "__slots__"), .str (Str.ofString "__slots__") (t + 114), .ref 381⟩, ⟨PyData.keyHash P (Str.ofString "__init__"), .str (Str.ofString "__init__") (t + 122), .ref 388⟩, ⟨PyData.keyHash P (Str.ofString "__lt__"), .str (Str.ofString "__lt__") (t + 131), .ref 396⟩, ⟨PyData.keyHash P (Str.ofString "__gt__"), .str (Str.ofString "__gt__") (t + 140), .ref 404⟩, ⟨PyData.keyHash P (Str.ofString "__eq__"), .str (Str.ofString "__eq__") (t + 149), .ref 412⟩, ⟨PyData.keyHash P (Str.ofString "__le__"), .str (Str.ofString "__le__") (t + 158), .ref 420⟩, ⟨PyData.keyHash P (Str.ofString "__ge__"), .str (Str.ofString "__ge__") (t + 167), .ref 428⟩, ⟨PyData.keyHash P (Str.ofString "__hash__"), .str (Str.ofString "__hash__") (t + 168), .none⟩, ⟨PyData.keyHash P (Str.ofString "__static_attributes__"), .str (Str.ofString "__static_attributes__") (t + 170), .ref 429⟩, ⟨PyData.keyHash P (Str.ofString "obj"), .str (Str.ofString "obj") (t + 172), .ref 433⟩, ⟨PyData.keyHash P (Str.ofString "__doc__"), .str (Str.ofString "__doc__") (t + 173), .none⟩] 3, #[]⟩),
 (432, ⟨.type "type", none, .cls ⟨Str.ofString "K", [.type "object"], [.ref 432, .type "object"], 431, Str.ofString "cmp_to_key.<locals>.K", false, [Str.ofString "obj"], [], false, none, false⟩, #[some (.ref 374), none, some (.str (Str.ofString "K") (t + 98)), some (.str (Str.ofString "cmp_to_key.<locals>.K") (t + 107)), some (.builtin "object.__new__"), some (.bool false)]⟩),
 (433, ⟨.type "member_descriptor", none, .fields #[.str (Str.ofString "obj") (t + 171), .ref 432, .builtin "proto.slot", .builtin "proto.slot#set", .int 0 0], #[]⟩),
 (440, ⟨.type "dict", none, .dict #[] 0, #[]⟩),
 (441, ⟨.ref 432, some 440, .plain, #[some (.int 0 (t + 179))]⟩),
 (443, ⟨.type "dict", none, .dict #[] 0, #[]⟩),
 (444, ⟨.ref 432, some 443, .plain, #[some (.int 1 (t + 184))]⟩),
 (446, ⟨.type "dict", none, .dict #[] 0, #[]⟩),
 (447, ⟨.ref 432, some 446, .plain, #[some (.int 2 (t + 189))]⟩),
 (449, ⟨.type "dict", none, .dict #[] 0, #[]⟩),
 (450, ⟨.ref 432, some 449, .plain, #[some (.int 3 (t + 194))]⟩),
 (452, ⟨.type "dict", none, .dict #[] 0, #[]⟩),
 (453, ⟨.ref 432, some 452, .plain, #[some (.int 4 (t + 199))]⟩),
 (455, ⟨.type "dict", none, .dict #[] 0, #[]⟩),
 (456, ⟨.ref 432, some 455, .plain, #[some (.int 5 (t + 204))]⟩),
 (458, ⟨.type "dict", none, .dict #[] 0, #[]⟩),
 (459, ⟨.ref 432, some 458, .plain, #[some (.int 6 (t + 209))]⟩),
 (461, ⟨.type "dict", none, .dict #[] 0, #[]⟩),
 (462, ⟨.ref 432, some 461, .plain, #[some (.int 7 (t + 214))]⟩),
 (464, ⟨.type "dict", none, .dict #[] 0, #[]⟩),
 (465, ⟨.ref 432, some 464, .plain, #[some (.int 8 (t + 219))]⟩),
 (467, ⟨.type "dict", none, .dict #[] 0, #[]⟩),
 (468, ⟨.ref 432, some 467, .plain, #[some (.int 9 (t + 224))]⟩)]
noncomputable def ML (P : Params) (c : Nat → Int) (t : Nat) (h1 h2 : Int) (k1 k2 : Nat) : Frag := [
 (318, ⟨.type "frame", none, .dict #[⟨h1, .str (Str.ofString "script") k1, .ref 317⟩, ⟨h2, .str (Str.ofString "cells") k2, .ref 335⟩, ⟨PyData.keyHash P (Str.ofString "total"), .str (Str.ofString "total") (t + 41), .int (tot c) (t + 40)⟩, ⟨PyData.keyHash P (Str.ofString "handed"), .str (Str.ofString "handed") (t + 78), .ref 355⟩, ⟨PyData.keyHash P (Str.ofString "asked"), .str (Str.ofString "asked") (t + 79), .ref 354⟩] 5, #[]⟩),
 (319, cellO (some (.ref 346))),
 (320, cellO (some (.int (siz c) (t + 77)))),
 (321, cellO (some (.ref 432))),
 (322, cellO (some (.ref 438))),
 (323, cellO (none)),
 (324, cellO (none)),
 (346, listO [.int (Int.fmod (c 0) 7) (t + 44), .int (Int.fmod (c 1) 7) (t + 47), .int (Int.fmod (c 2) 7) (t + 50), .int (Int.fmod (c 3) 7) (t + 53), .int (Int.fmod (c 4) 7) (t + 56), .int (Int.fmod (c 5) 7) (t + 59), .int (Int.fmod (c 6) 7) (t + 62), .int (Int.fmod (c 7) 7) (t + 65), .int (Int.fmod (c 8) 7) (t + 68), .int (Int.fmod (c 9) 7) (t + 71)] 10),
 (354, listO [] 0),
 (355, listO [] 0),
 (438, listO [.ref 441, .ref 444, .ref 447, .ref 450, .ref 453, .ref 456, .ref 459, .ref 462, .ref 465, .ref 468] 10)]
noncomputable def CH : Ch := [(292, #[.int 553 0, .int 4 0, .ref 370]), (276, #[.int 502 0, .int 4 0, .ref 379])]
noncomputable def frame2 (h1 h2 : Int) (k1 k2 : Nat) : Obj := ⟨.type "frame", none, .dict #[⟨h1, .str (Str.ofString "script") k1, .ref 317⟩, ⟨h2, .str (Str.ofString "cells") k2, .ref 335⟩] 2, #[]⟩
noncomputable def s2R (w : World) (s : Shared) (so : Obj) (t : Nat) (h1 h2 : Int) (k1 k2 : Nat) (G : Nat → Obj) (c : Nat → Int) (u : Nat → Tok) : AR Flow :=
 simA (runX 1000000) (V0 w s so t (callerA.deeper (lawE w.params))) 100000 (execsQ (((lawF w.params).2.drop 1).take 5) (lawE w.params))
  (mkT1 (frame2 h1 h2 k1 k2) G (listO [.int (c 0) (u 0), .int (c 1) (u 1), .int (c 2) (u 2), .int (c 3) (u 3), .int (c 4) (u 4), .int (c 5) (u 5), .int (c 6) (u 6), .int (c 7) (u 7), .int (c 8) (u 8), .int (c 9) (u 9)] 0)) 18 0 []
noncomputable def isNext : Flow → Bool
 | .next => true
 | _ => false
noncomputable def fitsOf (r : AR Flow) : List Int := match r with
 | .ok o => o.fits
 | _ => [0, 0, 0]
noncomputable def roomOf (r : AR Flow) : List (Stk → Sem PySem.Fin) := match r with
 | .ok o => o.room
 | _ => []
noncomputable def view2 (as : List Addr) (r : AR Flow) : Option (Bool × Nat × Nat × Ch × List Int × List (Stk → Sem PySem.Fin) × List (Option Obj)) := match r with
 | .ok o => match o.r with
  | .inr a => some (isNext a, o.m, o.i, o.ch, o.fits, o.room, as.map fun a => o.T.get (a - 318))
  | .inl _ => none
 | _ => none
noncomputable def kR (w : World) (s : Shared) (so : Obj) (t : Nat) (h1 h2 : Int) (k1 k2 : Nat) (G : Nat → Obj) (c : Nat → Int) (u : Nat → Tok) : Stk → Sem PySem.Fin := (roomOf (s2R w s so t h1 h2 k1 k2 G c u)).headD (fun _ => .unsupported "")
noncomputable def fitsL (c : Nat → Int) : List Int := [Int.fdiv (c 0) 7, 0 + Int.fdiv (c 0) 7, Int.fdiv (c 1) 7, 0 + Int.fdiv (c 0) 7 + Int.fdiv (c 1) 7, Int.fdiv (c 2) 7, 0 + Int.fdiv (c 0) 7 + Int.fdiv (c 1) 7 + Int.fdiv (c 2) 7, Int.fdiv (c 3) 7, 0 + Int.fdiv (c 0) 7 + Int.fdiv (c 1) 7 + Int.fdiv (c 2) 7 + Int.fdiv (c 3) 7, Int.fdiv (c 4) 7, 0 + Int.fdiv (c 0) 7 + Int.fdiv (c 1) 7 + Int.fdiv (c 2) 7 + Int.fdiv (c 3) 7 + Int.fdiv (c 4) 7, Int.fdiv (c 5) 7, 0 + Int.fdiv (c 0) 7 + Int.fdiv (c 1) 7 + Int.fdiv (c 2) 7 + Int.fdiv (c 3) 7 + Int.fdiv (c 4) 7 + Int.fdiv (c 5) 7, Int.fdiv (c 6) 7, 0 + Int.fdiv (c 0) 7 + Int.fdiv (c 1) 7 + Int.fdiv (c 2) 7 + Int.fdiv (c 3) 7 + Int.fdiv (c 4) 7 + Int.fdiv (c 5) 7 + Int.fdiv (c 6) 7, Int.fdiv (c 7) 7, 0 + Int.fdiv (c 0) 7 + Int.fdiv (c 1) 7 + Int.fdiv (c 2) 7 + Int.fdiv (c 3) 7 + Int.fdiv (c 4) 7 + Int.fdiv (c 5) 7 + Int.fdiv (c 6) 7 + Int.fdiv (c 7) 7, Int.fdiv (c 8) 7, 0 + Int.fdiv (c 0) 7 + Int.fdiv (c 1) 7 + Int.fdiv (c 2) 7 + Int.fdiv (c 3) 7 + Int.fdiv (c 4) 7 + Int.fdiv (c 5) 7 + Int.fdiv (c 6) 7 + Int.fdiv (c 7) 7 + Int.fdiv (c 8) 7, Int.fdiv (c 9) 7, 0 + Int.fdiv (c 0) 7 + Int.fdiv (c 1) 7 + Int.fdiv (c 2) 7 + Int.fdiv (c 3) 7 + Int.fdiv (c 4) 7 + Int.fdiv (c 5) 7 + Int.fdiv (c 6) 7 + Int.fdiv (c 7) 7 + Int.fdiv (c 8) 7 + Int.fdiv (c 9) 7]
theorem s2_run (w : World) (b d : Bool) (s : Shared) (so : Obj) (t : Nat) (h1 h2 : Int) (k1 k2 : Nat) (G : Nat → Obj) (c : Nat → Int) (u : Nat → Tok) :
  view2 (((KL (fixW w b d).params c t) ++ (ML (fixW w b d).params c t h1 h2 k1 k2)).map (·.1)) (s2R (fixW w b d) s so t h1 h2 k1 k2 G c u) =
   some (true, 154, 229, CH, fitsL c, [kR (fixW w b d) s so t h1 h2 k1 k2 G c u], ((KL (fixW w b d).params c t) ++ (ML (fixW w b d).params c t h1 h2 k1 k2)).map fun p => some p.2) := by
 cases b <;> cases d <;> kernel_rfl
end Mine
end
section
set_option maxRecDepth 1000000
set_option maxHeartbeats 0
open PySem.W.X
namespace Mine
structure Abs {α : Sort u} {β : Sort v} (a : α) (b : β) where
 F : α → β
 h : EqT b (F a)
noncomputable def bcA : Abs (PySem.W.Fast.tw15066281185411960212 0) (@PySem.W.Fast.tw1785580099245652887) := ⟨_, by
 delta PySem.W.Fast.tw1785580099245652887
 generalize PySem.W.Fast.tw15066281185411960212 0 = a
 exact EqT.refl⟩
noncomputable def xfA : Abs (@PySem.W.Fast.tw1785580099245652887) (@PySem.W.Fast.tw16923920778897380256) := ⟨_, by
 delta PySem.W.Fast.tw16923920778897380256
 generalize @PySem.W.Fast.tw1785580099245652887 = a
 exact EqT.refl⟩
noncomputable def exA : Abs (@PySem.W.Fast.tw16923920778897380256) (@PySem.W.Fast.tw12563942051412417395) := ⟨_, by
 delta PySem.W.Fast.tw12563942051412417395
 generalize @PySem.W.Fast.tw16923920778897380256 = a
 exact EqT.refl⟩
noncomputable def dnA : Abs (@PySem.W.Fast.tw12563942051412417395) (@PySem.W.Fast.tw11892475500146522536) := ⟨_, by
 delta PySem.W.Fast.tw11892475500146522536
 generalize @PySem.W.Fast.tw12563942051412417395 = a
 exact EqT.refl⟩
noncomputable def dnE (E : Sem Unit) : Code → Sem PySem.Fin := dnA.F (exA.F (xfA.F (@Abs.F _ _ _ _ bcA E))) PySem.W.Fast.tw14364793385576792824
noncomputable def kap (w : World) (s : Shared) (so : Obj) (t : Nat) (h1 h2 : Int) (k1 k2 : Nat) (G : Nat → Obj) (c : Nat → Int) (u : Nat → Tok) (E : Sem Unit) : Sem PySem.Fin :=
 match simA (runK (dnE (.stack fun _ => E)) 1000000) (V0 w s so t (callerA.deeper (lawE w.params))) 100000 (execsQ (((lawF w.params).2.drop 1).take 5) (lawE w.params))
  (mkT1 (frame2 h1 h2 k1 k2) G (listO [.int (c 0) (u 0), .int (c 1) (u 1), .int (c 2) (u 2), .int (c 3) (u 3), .int (c 4) (u 4), .int (c 5) (u 5), .int (c 6) (u 6), .int (c 7) (u 7), .int (c 8) (u 8), .int (c 9) (u 9)] 0)) 18 0 [] with
 | .stk k => k []
 | _ => .unsupported ""
theorem kap_load (w : World) (b d : Bool) (s : Shared) (so : Obj) (t : Nat) (h1 h2 : Int) (k1 k2 : Nat) (G : Nat → Obj) (c : Nat → Int) (u : Nat → Tok) (g : Obj → Sem Unit) :
  kap (fixW w b d) s so t h1 h2 k1 k2 G c u (.load cStatics limPart g) = .load cStatics limPart (fun o => kap (fixW w b d) s so t h1 h2 k1 k2 G c u (g o)) := by
 cases b <;> cases d <;> kernel_rfl
noncomputable def tailOf (E : Sem Unit) (st : Stk) : Sem Unit := match E with
 | .stack f => f st
 | _ => .unsupported ""
theorem tail_eq (st : Stk) : tailOf (PySem.W.Fast.tw15066281185411960212 0) st = tailZ st := by
 rw [← PySem.W.Fast.te15066281185411960212, PySem.W.X.enterQ_eq]
 rfl
theorem kR_kap (w : World) (b d : Bool) (s : Shared) (so : Obj) (t : Nat) (h1 h2 : Int) (k1 k2 : Nat) (G : Nat → Obj) (c : Nat → Int) (u : Nat → Tok) (st : Stk) :
  kR (fixW w b d) s so t h1 h2 k1 k2 G c u st = kap (fixW w b d) s so t h1 h2 k1 k2 G c u (tailOf (PySem.W.Fast.tw15066281185411960212 0) st) := by
 cases b <;> cases d <;> kernel_rfl
theorem kR_ok (w : World) (b d : Bool) (s : Shared) (so : Obj) (t : Nat) (h1 h2 : Int) (k1 k2 : Nat) (G : Nat → Obj) (c : Nat → Int) (u : Nat → Tok) : RoomOk (kR (fixW w b d) s so t h1 h2 k1 k2 G c u) :=
 ⟨kap (fixW w b d) s so t h1 h2 k1 k2 G c u, fun st => by rw [kR_kap, tail_eq], fun g => kap_load w b d s so t h1 h2 k1 k2 G c u g⟩
end Mine
end
section
set_option maxRecDepth 1000000
open PySem.W.X
namespace Mine
theorem execs_app (env : Env) (b : List Stmt) : ∀ a : List Stmt, execs (a ++ b) env = (execs a env >>= fun fl => match fl with | .next => execs b env | f => pure f)
 | [] => by
  rw [List.nil_append, execs_nil]
  rfl
 | st :: a => by
  rw [List.cons_append, execs_cons, execs_cons, bind_assoc]
  congr
  funext fl
  cases fl with
  | next => exact execs_app env b a
  | _ => rfl
theorem wpAny_app {M : Model} {A : Around} {env : Env} {a b : List Stmt} {Q : Flow → Shared → Prop} {E : Value → Shared → Prop} {s : Shared}
  (h : wpAny M A (execs a env) (fun fl s' => match fl with | .next => wpAny M A (execs b env) Q E s' | f => Q f s') E s) : wpAny M A (execs (a ++ b) env) Q E s := by
 rw [execs_app]
 refine wpAny_bind (wpAny_mono h (fun fl s' h' => ?_) fun _ _ e => e)
 cases fl <;> first | exact h' | exact wpAny_pure h'
theorem allIn_in {h : Heap} : ∀ {K : Frag}, (K.map (·.1)).Nodup → K.In h → AllIn h K
 | [], _, _ => trivial
 | (a, o) :: K, hn, hi => by
  have hn' := List.nodup_cons.mp hn
  refine ⟨hi a o (by rw [List.lookup_cons, beq_self_eq_true]), allIn_in hn'.2 fun b o' e => hi b o' ?_⟩
  rw [List.lookup_cons]
  by_cases hb : b = a
  ·subst hb
   exact absurd (List.mem_map.mpr ⟨(b, o'), mem_of_lookupK e, rfl⟩) hn'.1
  ·rw [beq_false_of_ne hb]
   exact e
theorem kk_keys (P : Params) : (KK P).map (·.1) = List.range 317 := by kernel_rfl
theorem kk_nodup (P : Params) : ((KK P).map (·.1)).Nodup := (kk_keys P).symm ▸ List.nodup_range
structure KTH (h : Heap) (t : KT) : Prop where
 h : KT.Holds h 1 0 t
theorem kth_gen {h : Heap} {F : Frag} {t : KT} (e : t = KT.of F) (hn : (F.map (·.1)).Nodup) (x : F.In h) : KTH h t := ⟨by rw [e]; exact holds_of (allIn_in hn x)⟩
theorem kth_put {h : Heap} {t : KT} {a : Addr} {o : Obj} (x : KTH h t) (ho : h.get? a = some o) : KTH h (KT.put 40 t a o) := ⟨KT.Holds.put 40 x.h (by rw [Nat.one_mul, Nat.add_zero]; exact ho)⟩
theorem kt_ok {P : Params} {h : Heap} (x : (KK P).In h) : KTH h (ktK P) := kth_gen rfl (kk_nodup P) x
theorem tab_gen {h : Heap} {t : KT} (H : KTH h t) {c P : Addr} {o : Obj} {vs : Array Value} (ec : t.get c = some o) (ho : o = { o with cls := .type "code", data := .fields vs }) (hv : vs[11]? = some (.ref P)) (eP : t.get P = some (tableObj #[])) : ∃ c, h.TableAt c P #[] :=
 table_kt H.h ec ho hv eP
theorem ok_gen {V : XV} (hs : V.h₀.objs.size = V.n₁) (hk : KTH V.h₀ V.kt) (ht : TabsOk V.h₀ V.tabs) : V.Ok := ⟨hs, hk.h, tabs_ok ht⟩
noncomputable def fieldsOf (o : Obj) : Array Value := match o.data with
 | .fields vs => vs
 | _ => #[]
theorem tab276 (P : Params) : (ktK P).get 276 = some (tableObj #[]) := by kernel_rfl
theorem tab292 (P : Params) : (ktK P).get 292 = some (tableObj #[]) := by kernel_rfl
noncomputable def cd280 (P : Params) : Obj := ((ktK P).get 280).getD default
noncomputable def cd296 (P : Params) : Obj := ((ktK P).get 296).getD default
theorem c280 (P : Params) : (ktK P).get 280 = some (cd280 P) := by kernel_rfl
theorem c296 (P : Params) : (ktK P).get 296 = some (cd296 P) := by kernel_rfl
theorem d280 (P : Params) : cd280 P = { cd280 P with cls := .type "code", data := .fields (fieldsOf (cd280 P)) } := by kernel_rfl
theorem d296 (P : Params) : cd296 P = { cd296 P with cls := .type "code", data := .fields (fieldsOf (cd296 P)) } := by kernel_rfl
theorem e280 (P : Params) : (fieldsOf (cd280 P))[11]? = some (.ref 276) := by kernel_rfl
theorem e296 (P : Params) : (fieldsOf (cd296 P))[11]? = some (.ref 292) := by kernel_rfl
theorem t276 {P : Params} {h : Heap} (H : KTH h (ktK P)) : ∃ c, h.TableAt c 276 #[] := by
 have h1 := c280 P
 have h2 := d280 P
 have h3 := e280 P
 have h4 := tab276 P
 generalize cd280 P = o at h1 h2 h3
 generalize ktK P = t at H h1 h4
 exact tab_gen H h1 h2 h3 h4
theorem t292 {P : Params} {h : Heap} (H : KTH h (ktK P)) : ∃ c, h.TableAt c 292 #[] := by
 have h1 := c296 P
 have h2 := d296 P
 have h3 := e296 P
 have h4 := tab292 P
 generalize cd296 P = o at h1 h2 h3
 generalize ktK P = t at H h1 h4
 exact tab_gen H h1 h2 h3 h4
theorem tabs_two {P : Params} {h : Heap} (x : (KK P).In h) : TabsOk h [(276, #[]), (292, #[])] := ⟨t276 (kt_ok x), t292 (kt_ok x), trivial⟩
theorem V0_ok {w : World} {s : Shared} {so : Obj} (t : Nat) (A : Around) (x : (KK w.params).In s.heap) (hso : s.heap.get? 317 = some so) (hsz : s.heap.objs.size = 318) : (V0 w s so t A).Ok := by
 have h1 := tabs_two x
 have h2 := kt_ok x
 unfold V0
 generalize ktK w.params = t at h2 ⊢
 exact ok_gen hsz (kth_put h2 hso) h1
end Mine
end
section
set_option maxRecDepth 1000000
open PySem.W.X
namespace Mine
inductive PlainIs {α : Type} (r : AR α) (p : PO α) : Prop
 | mk (o : AO α) (e0 : r = .ok o) (e1 : o.r = .inr p.a) (e2 : o.T = p.T) (e3 : o.m = p.m) (e4 : o.i = p.i) (e5 : o.ch = p.ch) (e6 : o.fits = []) (e7 : o.room = [])
theorem plain_is {α : Type} {r : AR α} {p : PO α} (h : r.plain = some p) : PlainIs r p := by
 cases r with
 | ok o =>
  obtain ⟨r, T, m, i, ch, fits, room⟩ := o
  cases r with
  | inl => cases h
  | inr a =>
   cases fits with
   | cons => cases h
   | nil =>
    cases room with
    | cons => cases h
    | nil => cases h; exact ⟨_, rfl, rfl, rfl, rfl, rfl, rfl, rfl, rfl⟩
 | stop => cases h
 | stk => cases h
theorem fm_nonneg (a : Int) : 0 ≤ Int.fmod a 1000000 ∧ Int.fmod a 1000000 < 1000000 := ⟨Int.fmod_nonneg_of_pos a (by decide), Int.fmod_lt_of_pos a (by decide)⟩
noncomputable def CB (x : Int) : Prop := 0 ≤ x ∧ x < 1000000
theorem cb_get {l : List Int} (h : ∀ x ∈ l, CB x) (k : Nat) : CB (l.getD k 0) := by
 rw [List.getD_eq_getElem?_getD]
 cases e : l[k]? with
 | none => exact ⟨by decide, by decide⟩
 | some x => exact h x (List.mem_of_getElem? e)
theorem cb_cons {x : Int} {l : List Int} (h : CB x) (hl : ∀ y ∈ l, CB y) : ∀ y ∈ x :: l, CB y := fun y hy => by
 rcases List.mem_cons.mp hy with rfl | hy
 ·exact h
 ·exact hl y hy
theorem cb_nil : ∀ y ∈ ([] : List Int), CB y := fun _ h => nomatch h
noncomputable def Sone (w : World) (s : Shared) (so : Obj) : Prop := ∃ (c : Nat → Int) (u : Nat → Tok) (h1 h2 : Int) (k1 k2 : Nat) (G : Nat → Obj) (i : Nat), (∀ k, CB (c k)) ∧
 (s1R w s so).plain = some ⟨.next, mkT1 (frame2 h1 h2 k1 k2) G (listO [.int (c 0) (u 0), .int (c 1) (u 1), .int (c 2) (u 2), .int (c 3) (u 3), .int (c 4) (u 4), .int (c 5) (u 5), .int (c 6) (u 6), .int (c 7) (u 7), .int (c 8) (u 8), .int (c 9) (u 9)] 0), 18, i, []⟩
theorem s1_intro {w : World} {s : Shared} {so : Obj} (cs : List Int) (us : List Tok) (h1 h2 : Int) (k1 k2 : Nat) (G : Nat → Obj) (i : Nat) (hc : ∀ x ∈ cs, CB x)
  (h : (s1R w s so).plain = some ⟨.next, mkT1 (frame2 h1 h2 k1 k2) G (listO [.int (cs.getD 0 0) (us.getD 0 0), .int (cs.getD 1 0) (us.getD 1 0), .int (cs.getD 2 0) (us.getD 2 0), .int (cs.getD 3 0) (us.getD 3 0), .int (cs.getD 4 0) (us.getD 4 0), .int (cs.getD 5 0) (us.getD 5 0), .int (cs.getD 6 0) (us.getD 6 0), .int (cs.getD 7 0) (us.getD 7 0), .int (cs.getD 8 0) (us.getD 8 0), .int (cs.getD 9 0) (us.getD 9 0)] 0), 18, i, []⟩) : Sone w s so :=
 ⟨fun k => cs.getD k 0, fun k => us.getD k 0, h1, h2, k1, k2, G, i, fun k => cb_get hc k, h⟩
theorem s1_all (w : World) (s : Shared) (od : Option Addr) (sl : Array (Option Value)) (e : Nat) {vs : List Value} {ns : List Int} (hi : IntsAre vs ns) : Sone w s (scriptO od sl e vs) := by
 obtain ⟨b, d, ew⟩ := fixW_eq w
 cases hi with
 | nil => exact (by have h := s1_0 w b d s od sl e  ; rw [ew] at h; exact s1_intro [2, 4, 1, 3, 3, 0, 5, 4, 1, 6] [s.toks + 2, s.toks + 3, s.toks + 4, s.toks + 5, s.toks + 6, s.toks + 7, s.toks + 8, s.toks + 9, s.toks + 10, s.toks + 11] _ _ _ _ _ _ (cb_cons ⟨by decide, by decide⟩ (cb_cons ⟨by decide, by decide⟩ (cb_cons ⟨by decide, by decide⟩ (cb_cons ⟨by decide, by decide⟩ (cb_cons ⟨by decide, by decide⟩ (cb_cons ⟨by decide, by decide⟩ (cb_cons ⟨by decide, by decide⟩ (cb_cons ⟨by decide, by decide⟩ (cb_cons ⟨by decide, by decide⟩ (cb_cons ⟨by decide, by decide⟩ cb_nil)))))))))) h)
 | cons n0 u0 hi =>
  cases hi with
  | nil => exact (by have h := s1_1 w b d s od sl e n0 u0; rw [ew] at h; exact s1_intro [Int.fmod n0 1000000, 2, 4, 1, 3, 3, 0, 5, 4, 1] [s.toks + 6, s.toks + 7, s.toks + 8, s.toks + 9, s.toks + 10, s.toks + 11, s.toks + 12, s.toks + 13, s.toks + 14, s.toks + 15] _ _ _ _ _ _ (cb_cons (fm_nonneg _) (cb_cons ⟨by decide, by decide⟩ (cb_cons ⟨by decide, by decide⟩ (cb_cons ⟨by decide, by decide⟩ (cb_cons ⟨by decide, by decide⟩ (cb_cons ⟨by decide, by decide⟩ (cb_cons ⟨by decide, by decide⟩ (cb_cons ⟨by decide, by decide⟩ (cb_cons ⟨by decide, by decide⟩ (cb_cons ⟨by decide, by decide⟩ cb_nil)))))))))) h)
  | cons n1 u1 hi =>
   cases hi with
   | nil => exact (by have h := s1_2 w b d s od sl e n0 n1 u0 u1; rw [ew] at h; exact s1_intro [Int.fmod n0 1000000, Int.fmod n1 1000000, 2, 4, 1, 3, 3, 0, 5, 4] [s.toks + 6, s.toks + 11, s.toks + 12, s.toks + 13, s.toks + 14, s.toks + 15, s.toks + 16, s.toks + 17, s.toks + 18, s.toks + 19] _ _ _ _ _ _ (cb_cons (fm_nonneg _) (cb_cons (fm_nonneg _) (cb_cons ⟨by decide, by decide⟩ (cb_cons ⟨by decide, by decide⟩ (cb_cons ⟨by decide, by decide⟩ (cb_cons ⟨by decide, by decide⟩ (cb_cons ⟨by decide, by decide⟩ (cb_cons ⟨by decide, by decide⟩ (cb_cons ⟨by decide, by decide⟩ (cb_cons ⟨by decide, by decide⟩ cb_nil)))))))))) h)
   | cons n2 u2 hi =>
    cases hi with
    | nil => exact (by have h := s1_3 w b d s od sl e n0 n1 n2 u0 u1 u2; rw [ew] at h; exact s1_intro [Int.fmod n0 1000000, Int.fmod n1 1000000, Int.fmod n2 1000000, 2, 4, 1, 3, 3, 0, 5] [s.toks + 6, s.toks + 11, s.toks + 16, s.toks + 17, s.toks + 18, s.toks + 19, s.toks + 20, s.toks + 21, s.toks + 22, s.toks + 23] _ _ _ _ _ _ (cb_cons (fm_nonneg _) (cb_cons (fm_nonneg _) (cb_cons (fm_nonneg _) (cb_cons ⟨by decide, by decide⟩ (cb_cons ⟨by decide, by decide⟩ (cb_cons ⟨by decide, by decide⟩ (cb_cons ⟨by decide, by decide⟩ (cb_cons ⟨by decide, by decide⟩ (cb_cons ⟨by decide, by decide⟩ (cb_cons ⟨by decide, by decide⟩ cb_nil)))))))))) h)
    | cons n3 u3 hi =>
     cases hi with
     | nil => exact (by have h := s1_4 w b d s od sl e n0 n1 n2 n3 u0 u1 u2 u3; rw [ew] at h; exact s1_intro [Int.fmod n0 1000000, Int.fmod n1 1000000, Int.fmod n2 1000000, Int.fmod n3 1000000, 2, 4, 1, 3, 3, 0] [s.toks + 6, s.toks + 11, s.toks + 16, s.toks + 21, s.toks + 22, s.toks + 23, s.toks + 24, s.toks + 25, s.toks + 26, s.toks + 27] _ _ _ _ _ _ (cb_cons (fm_nonneg _) (cb_cons (fm_nonneg _) (cb_cons (fm_nonneg _) (cb_cons (fm_nonneg _) (cb_cons ⟨by decide, by decide⟩ (cb_cons ⟨by decide, by decide⟩ (cb_cons ⟨by decide, by decide⟩ (cb_cons ⟨by decide, by decide⟩ (cb_cons ⟨by decide, by decide⟩ (cb_cons ⟨by decide, by decide⟩ cb_nil)))))))))) h)
     | cons n4 u4 hi =>
      cases hi with
      | nil => exact (by have h := s1_5 w b d s od sl e n0 n1 n2 n3 n4 u0 u1 u2 u3 u4; rw [ew] at h; exact s1_intro [Int.fmod n0 1000000, Int.fmod n1 1000000, Int.fmod n2 1000000, Int.fmod n3 1000000, Int.fmod n4 1000000, 2, 4, 1, 3, 3] [s.toks + 6, s.toks + 11, s.toks + 16, s.toks + 21, s.toks + 26, s.toks + 27, s.toks + 28, s.toks + 29, s.toks + 30, s.toks + 31] _ _ _ _ _ _ (cb_cons (fm_nonneg _) (cb_cons (fm_nonneg _) (cb_cons (fm_nonneg _) (cb_cons (fm_nonneg _) (cb_cons (fm_nonneg _) (cb_cons ⟨by decide, by decide⟩ (cb_cons ⟨by decide, by decide⟩ (cb_cons ⟨by decide, by decide⟩ (cb_cons ⟨by decide, by decide⟩ (cb_cons ⟨by decide, by decide⟩ cb_nil)))))))))) h)
      | cons n5 u5 hi =>
       cases hi with
       | nil => exact (by have h := s1_6 w b d s od sl e n0 n1 n2 n3 n4 n5 u0 u1 u2 u3 u4 u5; rw [ew] at h; exact s1_intro [Int.fmod n0 1000000, Int.fmod n1 1000000, Int.fmod n2 1000000, Int.fmod n3 1000000, Int.fmod n4 1000000, Int.fmod n5 1000000, 2, 4, 1, 3] [s.toks + 6, s.toks + 11, s.toks + 16, s.toks + 21, s.toks + 26, s.toks + 31, s.toks + 32, s.toks + 33, s.toks + 34, s.toks + 35] _ _ _ _ _ _ (cb_cons (fm_nonneg _) (cb_cons (fm_nonneg _) (cb_cons (fm_nonneg _) (cb_cons (fm_nonneg _) (cb_cons (fm_nonneg _) (cb_cons (fm_nonneg _) (cb_cons ⟨by decide, by decide⟩ (cb_cons ⟨by decide, by decide⟩ (cb_cons ⟨by decide, by decide⟩ (cb_cons ⟨by decide, by decide⟩ cb_nil)))))))))) h)
       | cons n6 u6 hi =>
        cases hi with
        | nil => exact (by have h := s1_7 w b d s od sl e n0 n1 n2 n3 n4 n5 n6 u0 u1 u2 u3 u4 u5 u6; rw [ew] at h; exact s1_intro [Int.fmod n0 1000000, Int.fmod n1 1000000, Int.fmod n2 1000000, Int.fmod n3 1000000, Int.fmod n4 1000000, Int.fmod n5 1000000, Int.fmod n6 1000000, 2, 4, 1] [s.toks + 6, s.toks + 11, s.toks + 16, s.toks + 21, s.toks + 26, s.toks + 31, s.toks + 36, s.toks + 37, s.toks + 38, s.toks + 39] _ _ _ _ _ _ (cb_cons (fm_nonneg _) (cb_cons (fm_nonneg _) (cb_cons (fm_nonneg _) (cb_cons (fm_nonneg _) (cb_cons (fm_nonneg _) (cb_cons (fm_nonneg _) (cb_cons (fm_nonneg _) (cb_cons ⟨by decide, by decide⟩ (cb_cons ⟨by decide, by decide⟩ (cb_cons ⟨by decide, by decide⟩ cb_nil)))))))))) h)
        | cons n7 u7 hi =>
         cases hi with
         | nil => exact (by have h := s1_8 w b d s od sl e n0 n1 n2 n3 n4 n5 n6 n7 u0 u1 u2 u3 u4 u5 u6 u7; rw [ew] at h; exact s1_intro [Int.fmod n0 1000000, Int.fmod n1 1000000, Int.fmod n2 1000000, Int.fmod n3 1000000, Int.fmod n4 1000000, Int.fmod n5 1000000, Int.fmod n6 1000000, Int.fmod n7 1000000, 2, 4] [s.toks + 6, s.toks + 11, s.toks + 16, s.toks + 21, s.toks + 26, s.toks + 31, s.toks + 36, s.toks + 41, s.toks + 42, s.toks + 43] _ _ _ _ _ _ (cb_cons (fm_nonneg _) (cb_cons (fm_nonneg _) (cb_cons (fm_nonneg _) (cb_cons (fm_nonneg _) (cb_cons (fm_nonneg _) (cb_cons (fm_nonneg _) (cb_cons (fm_nonneg _) (cb_cons (fm_nonneg _) (cb_cons ⟨by decide, by decide⟩ (cb_cons ⟨by decide, by decide⟩ cb_nil)))))))))) h)
         | cons n8 u8 hi =>
          cases hi with
          | nil => exact (by have h := s1_9 w b d s od sl e n0 n1 n2 n3 n4 n5 n6 n7 n8 u0 u1 u2 u3 u4 u5 u6 u7 u8; rw [ew] at h; exact s1_intro [Int.fmod n0 1000000, Int.fmod n1 1000000, Int.fmod n2 1000000, Int.fmod n3 1000000, Int.fmod n4 1000000, Int.fmod n5 1000000, Int.fmod n6 1000000, Int.fmod n7 1000000, Int.fmod n8 1000000, 2] [s.toks + 6, s.toks + 11, s.toks + 16, s.toks + 21, s.toks + 26, s.toks + 31, s.toks + 36, s.toks + 41, s.toks + 46, s.toks + 47] _ _ _ _ _ _ (cb_cons (fm_nonneg _) (cb_cons (fm_nonneg _) (cb_cons (fm_nonneg _) (cb_cons (fm_nonneg _) (cb_cons (fm_nonneg _) (cb_cons (fm_nonneg _) (cb_cons (fm_nonneg _) (cb_cons (fm_nonneg _) (cb_cons (fm_nonneg _) (cb_cons ⟨by decide, by decide⟩ cb_nil)))))))))) h)
          | cons n9 u9 hi =>
           rename_i rv rn
           exact (by have h := s1_10 w b d s od sl e n0 n1 n2 n3 n4 n5 n6 n7 n8 n9 u0 u1 u2 u3 u4 u5 u6 u7 u8 u9 rv; rw [ew] at h; exact s1_intro [Int.fmod n0 1000000, Int.fmod n1 1000000, Int.fmod n2 1000000, Int.fmod n3 1000000, Int.fmod n4 1000000, Int.fmod n5 1000000, Int.fmod n6 1000000, Int.fmod n7 1000000, Int.fmod n8 1000000, Int.fmod n9 1000000] [s.toks + 6, s.toks + 11, s.toks + 16, s.toks + 21, s.toks + 26, s.toks + 31, s.toks + 36, s.toks + 41, s.toks + 46, s.toks + 51] _ _ _ _ _ _ (cb_cons (fm_nonneg _) (cb_cons (fm_nonneg _) (cb_cons (fm_nonneg _) (cb_cons (fm_nonneg _) (cb_cons (fm_nonneg _) (cb_cons (fm_nonneg _) (cb_cons (fm_nonneg _) (cb_cons (fm_nonneg _) (cb_cons (fm_nonneg _) (cb_cons (fm_nonneg _) cb_nil)))))))))) h)
end Mine
end
section
set_option maxRecDepth 1000000
open PySem.W.X
namespace Mine
structure Mid (w : World) (s : Shared) (h : Heap) (c : Nat → Int) (t : Nat) (h1 h2 : Int) (k1 k2 : Nat) : Prop where
 size : h.objs.size = 472
 obj : ∀ p ∈ KL w.params c t ++ ML w.params c t h1 h2 k1 k2, h.get? p.1 = some p.2
 keep : ∀ b o, s.heap.get? b = some o → b ≠ 276 → b ≠ 292 → h.get? b = some o
 t276 : h.get? 276 = some (tableObj #[.int 502 0, .int 4 0, .ref 379])
 t292 : h.get? 292 = some (tableObj #[.int 553 0, .int 4 0, .ref 370])
 cb : ∀ k, CB (c k)
noncomputable def Bdd (n : Nat) (x : Int) : Prop := 0 ≤ x ∧ x ≤ 1000000 * (n : Int)
theorem Bdd.add {n : Nat} {x y : Int} (h : Bdd n x) (k : Bdd 1 y) : Bdd (n + 1) (x + y) := by
 unfold Bdd at h k ⊢; lia
theorem Bdd.long {n : Nat} {x : Int} (h : Bdd n x) (hn : n ≤ 10) : InLong x := by
 unfold Bdd at h; unfold InLong; lia
theorem Bdd.div {x : Int} (h : CB x) : Bdd 1 (Int.fdiv x 7) := by
 rw [Int.fdiv_eq_ediv_of_nonneg _ (by decide)]
 unfold CB at h; unfold Bdd; lia
theorem all_cons {a b : Int} {l : List Int} (ha : InLong a) (hb : InLong b) (h : ∀ x ∈ l, InLong x) : ∀ x ∈ a :: b :: l, InLong x := fun x hx => by
 rcases List.mem_cons.mp hx with rfl | hx
 ·exact ha
 rcases List.mem_cons.mp hx with rfl | hx
 ·exact hb
 ·exact h x hx
theorem fits_ok {c : Nat → Int} (hc : ∀ k, CB (c k)) : ∀ x ∈ fitsL c, InLong x := by
 have d : ∀ k, Bdd 1 (Int.fdiv (c k) 7) := fun k => Bdd.div (hc k)
 have z : Bdd 0 0 := ⟨Int.le_refl _, Int.le_refl _⟩
 have s0 := z.add (d 0)
 have s1 := s0.add (d 1)
 have s2 := s1.add (d 2)
 have s3 := s2.add (d 3)
 have s4 := s3.add (d 4)
 have s5 := s4.add (d 5)
 have s6 := s5.add (d 6)
 have s7 := s6.add (d 7)
 have s8 := s7.add (d 8)
 have s9 := s8.add (d 9)
 exact all_cons ((d 0).long (by decide)) (s0.long (by decide)) (all_cons ((d 1).long (by decide)) (s1.long (by decide)) (all_cons ((d 2).long (by decide)) (s2.long (by decide)) (all_cons ((d 3).long (by decide)) (s3.long (by decide)) (all_cons ((d 4).long (by decide)) (s4.long (by decide)) (all_cons ((d 5).long (by decide)) (s5.long (by decide)) (all_cons ((d 6).long (by decide)) (s6.long (by decide)) (all_cons ((d 7).long (by decide)) (s7.long (by decide)) (all_cons ((d 8).long (by decide)) (s8.long (by decide)) (all_cons ((d 9).long (by decide)) (s9.long (by decide)) (fun _ h => nomatch h))))))))))
inductive V2Is (as : List Addr) (r : AR Flow) (m i : Nat) (ch : Ch) (fs : List Int) (ks : List (Stk → Sem PySem.Fin)) (os : List (Option Obj)) : Prop
 | mk (o : AO Flow) (e0 : r = .ok o) (e1 : o.r = .inr .next) (e2 : o.m = m) (e3 : o.i = i) (e4 : o.ch = ch) (e5 : o.fits = fs) (e6 : o.room = ks) (e7 : as.map (fun a => o.T.get (a - 318)) = os)
theorem view2_is {as : List Addr} {r : AR Flow} {m i : Nat} {ch : Ch} {fs : List Int} {ks : List (Stk → Sem PySem.Fin)} {os : List (Option Obj)} (h : view2 as r = some (true, m, i, ch, fs, ks, os)) : V2Is as r m i ch fs ks os := by
 cases r with
 | ok o =>
  obtain ⟨r, T, m, i, ch, fits, room⟩ := o
  cases r with
  | inl => cases h
  | inr a =>
   have h := Option.some.inj h
   cases a with
   | next => cases h; exact ⟨_, rfl, rfl, rfl, rfl, rfl, rfl, rfl, rfl⟩
   | _ => cases (Prod.mk.inj h).1
 | stop => cases h
 | stk => cases h
theorem map_objs {F : Frag} {T : BT} (h : (F.map (·.1)).map (fun a => T.get (a - 318)) = F.map fun p => some p.2) : ∀ p ∈ F, T.get (p.1 - 318) = some p.2 := by
 intro p hp
 rw [List.map_map] at h
 have := List.map_inj_left.mp h p hp
 exact this
theorem addr_ge (P : Params) (c : Nat → Int) (t : Nat) (h1 h2 : Int) (k1 k2 : Nat) : ((KL P c t ++ ML P c t h1 h2 k1 k2).map (·.1)).all (fun a => Nat.ble 318 a) = true := by kernel_rfl
theorem fdlaw (P : Params) : ∃ oc od osl, Mine.sur.o_469 P = ⟨oc, od, .func (lawF P).1, osl⟩ ∧ (lawF P).1.body = .stmts (lawF P).2 ∧ (lawF P).1.scope.isCoroutine = false ∧ (lawF P).1.scope.isGenerator = false :=
 ⟨(Mine.sur.o_469 P).cls, (Mine.sur.o_469 P).dict, (Mine.sur.o_469 P).slots, by kernel_rfl, by kernel_rfl, by kernel_rfl, by kernel_rfl⟩
theorem law_at (P : Params) : (KK P).lookup 316 = some (Mine.sur.o_469 P) := by kernel_rfl
theorem body_split (P : Params) : (lawF P).2 = (lawF P).2.take 1 ++ (((lawF P).2.drop 1).take 5 ++ (lawF P).2.drop 6) := by kernel_rfl
theorem bind_law (P : Params) : bindArgs (lawF P).1 ⟨[.ref 317], []⟩ = pure [(Str.ofString "script", .ref 317)] := by kernel_rfl
theorem law_codeIn (P : Params) : codeIn (KK P) (lawF P).1.code (lawF P).1.qualname = true := by kernel_rfl
theorem nolimit_of {P : Params} {h : Heap} (x : (KK P).In h) : h.NoLimit := by
 have e : (KK P).lookup 2 = some ⟨.none, none, .dict #[] 0, #[]⟩ := by kernel_rfl
 exact ⟨fun _ => none, ⟨_, #[], 0, x _ _ e, rfl, (fun _ he => by simp at he), fun _ => rfl⟩, rfl⟩
theorem ctab {s : Shared} {w : World} {so : Obj} {t : Nat} {A : Around} {h : Heap} {T : BT} {m : Nat} (D : Rep (V0 w s so t A) h T m CH) :
  h.get? 292 = some (tableObj #[.int 553 0, .int 4 0, .ref 370]) ∧ h.get? 276 = some (tableObj #[.int 502 0, .int 4 0, .ref 379]) :=
 ⟨(D.ch 292 _ rfl).1, (D.ch 276 _ rfl).1⟩
theorem ch_none {b : Addr} (h1 : b ≠ 276) (h2 : b ≠ 292) : chLook CH b = none := by
 unfold CH chLook
 rw [BT.beq_eq, decide_eq_false (Ne.symm h2)]
 dsimp only
 unfold chLook
 rw [BT.beq_eq, decide_eq_false (Ne.symm h1)]
 rfl
section
variable {w : World} {s : Shared} {so : Obj} {t : Nat}
theorem rep_t {t' : Nat} {A A' : Around} {h : Heap} {T : BT} {m : Nat} {ch : Ch} (D : Rep (V0 w s so t A) h T m ch) : Rep (V0 w s so t' A') h T m ch := ⟨D.size, D.own, D.keep, D.ch⟩
theorem own_of {A : Around} {h : Heap} {T : BT} {m : Nat} {ch : Ch} (D : Rep (V0 w s so t A) h T m ch) {F : Frag} (hg : (F.map (·.1)).all (fun a => Nat.ble 318 a) = true)
  (ho : (F.map (·.1)).map (fun a => T.get (a - 318)) = F.map fun p => some p.2) : ∀ p ∈ F, h.get? p.1 = some p.2 := by
 intro p hp
 have e := (D.own _ _ (map_objs ho p hp)).2
 have hge : 318 ≤ p.1 := Nat.le_of_ble_eq_true (List.all_eq_true.mp hg p.1 (List.mem_map_of_mem hp))
 rw [show (V0 w s so t A).n₁ = 318 from rfl, Nat.add_sub_cancel' hge] at e
 exact e
theorem mid_of {A : Around} {h : Heap} {T : BT} {c : Nat → Int} {h1 h2 : Int} {k1 k2 : Nat} (D : Rep (V0 w s so t A) h T 154 CH) (hc : ∀ k, CB (c k))
  (ho : ((KL w.params c t ++ ML w.params c t h1 h2 k1 k2).map (·.1)).map (fun a => T.get (a - 318)) = (KL w.params c t ++ ML w.params c t h1 h2 k1 k2).map fun p => some p.2) : Mid w s h c t h1 h2 k1 k2 where
 size := D.size
 obj := own_of D (addr_ge w.params c t h1 h2 k1 k2) ho
 keep := fun b o e n1 n2 => D.keep b o e (ch_none n1 n2)
 t276 := (D.ch 276 _ rfl).1
 t292 := (D.ch 292 _ rfl).1
 cb := hc
end
theorem pre {w : World} {s : Shared} {vs : List Value} {ns : List Int} {Q : Value → Shared → Prop} (x : (KK w.params).In s.heap) (hl : s.heap.IsList 317 vs.toArray) (hi : IntsAre vs ns) (hg : s.gens = #[]) (hs : s.heap.objs.size = 318)
  (rest : ∀ h tk c t h1 h2 k1 k2, Mid w s h c t h1 h2 k1 k2 → wpAny (model pw w) (callerA.deeper (lawE w.params)) (execs ((lawF w.params).2.drop 6) (lawE w.params)) (fun fl s' => Q (match fl with | .ret v => v | _ => .none) s') (fun _ _ => False) ⟨h, #[], s.drawn, tk, s.os⟩) :
  wpAny (model pw w) callerA (call (.ref 316) [.ref 317]) Q (fun _ _ => False) s := by
 obtain ⟨so', hso, hcls, n, hdat⟩ := hl
 obtain ⟨cl, od, dt, sl⟩ := so'
 simp only at hcls hdat
 subst hcls hdat
 have hso : s.heap.get? 317 = some (scriptO od sl n vs) := hso
 obtain ⟨c, u, h1, h2, k1, k2, G, i, hc, hp1⟩ := s1_all w s od sl n hi
 generalize scriptO od sl n vs = so at hso hp1
 obtain ⟨oc, fod, osl, ho, hb, hco, hgen⟩ := fdlaw w.params
 have hlaw := x _ _ (law_at w.params)
 refine wpAny_call (codeAny_call_function (by decide) hlaw (fd := (lawF w.params).1) (by rw [ho]) hco hgen hb (codeRec_of x (law_codeIn w.params)) ?_)
 rw [bind_law]
 refine wpAny_pure ?_
 obtain ⟨o, e0, e1, e2, e3, e4, e5, e6, e7⟩ := plain_is (entry_ok w s so)
 have O := V0_ok (so := so) s.toks callerA.in1 x hso hs
 have hst : s = St (V0 w s so s.toks callerA.in1) s.heap 0 := by
  cases s
  cases hg
  rfl
 have key : ∀ Q' : Env → Shared → Prop, (∀ h, Rep (V0 w s so s.toks callerA.in1) h o.T o.m o.ch → Q' (lawE w.params) (St (V0 w s so s.toks callerA.in1) h o.i)) → wpAny (model pw w) callerA.in1 (envTree 316 (lawF w.params).1 [(Str.ofString "script", .ref 317)]) Q' (fun e s' => False) s := fun Q' hQ => by
  have z := simA_sound (runX_ok 1000000) O (Q := Q') (E := fun _ _ => False) 1000 (envTree 316 (lawF w.params).1 [(Str.ofString "script", .ref 317)]) .nil 0 0 [] o s.heap e0 (by rw [e6]; exact fun _ h => nomatch h) (by rw [e7]; exact fun _ h => nomatch h)
   (fun h D => by rw [e1]; exact hQ h D) (Rep.start O)
  rw [← hst] at z
  exact z
 show wpAny _ _ (newFunctionEnv _ _ _ _ _ _ _ _ _) _ _ _
 rw [nf_eq]
 refine wpAny_mono (key (fun env s₂ => s₂.heap.NoLimit ∧ codeAny (model pw w) callerA (.func (lawF w.params).2 env) _ s₂) fun h D => ?_) (fun _ _ q => q) fun _ _ z => z.elim
 dsimp only at e2 e3 e4 e5
 rw [e2, e3, e5] at D
 rw [e4]
 refine ⟨(nolimit_of x).keeps fun b o e => D.keep b o e rfl, codeAny_func ?_⟩
 rw [body_split]
 clear key hst O e0 e1 e2 e3 e4 e5 e6 e7
 refine wpAny_app ?_
 rw [execs_eq]
 obtain ⟨o1, f0, f1, f2, f3, f4, f5, f6, f7⟩ := plain_is hp1
 dsimp only at f1 f2 f3 f4 f5
 refine wpAny_mono (simA_sound (runX_ok 1000000) (V0_ok (so := so) s.toks (callerA.deeper (lawE w.params)) x hso hs) (Q := fun fl s' => fl = .next ∧ ∃ h, s' = St (V0 w s so s.toks (callerA.deeper (lawE w.params))) h o1.i ∧ Rep (V0 w s so s.toks (callerA.deeper (lawE w.params))) h o1.T o1.m o1.ch) (E := fun _ _ => False)
  100000 (execsQ ((lawF w.params).2.take 1) (lawE w.params)) _ 7 1 [] o1 h f0 (by rw [f6]; exact fun _ h => nomatch h) (by rw [f7]; exact fun _ h => nomatch h) (fun h D => by rw [f1]; exact ⟨rfl, h, rfl, D⟩) (rep_t D)) ?_ fun _ _ z => z.elim
 rintro fl s' ⟨rfl, h', rfl, D'⟩
 clear D f0 f1 f6 f7 hp1
 rw [f2, f3, f5] at D'
 dsimp only
 rw [← execs_eq]
 refine wpAny_app ?_
 rw [execs_eq]
 obtain ⟨b, d, ew⟩ := fixW_eq w
 have hr := s2_run w b d s so (s.toks + o1.i) h1 h2 k1 k2 G c u
 have hk := kR_ok w b d s so (s.toks + o1.i) h1 h2 k1 k2 G c u
 rw [ew] at hr hk
 obtain ⟨o2, g0, g1, g2, g3, g4, g5, g6, g7⟩ := view2_is hr
 refine wpAny_mono (simA_sound (runX_ok 1000000) (V0_ok (so := so) (s.toks + o1.i) (callerA.deeper (lawE w.params)) x hso hs) (Q := fun fl s' => fl = .next ∧ ∃ h, s' = St (V0 w s so (s.toks + o1.i) (callerA.deeper (lawE w.params))) h o2.i ∧ Rep (V0 w s so (s.toks + o1.i) (callerA.deeper (lawE w.params))) h o2.T o2.m o2.ch) (E := fun _ _ => False)
  100000 (execsQ (((lawF w.params).2.drop 1).take 5) (lawE w.params)) _ 18 0 [] o2 h' g0 (by rw [g5]; exact fits_ok hc) (by rw [g6]; intro k hk'; rw [List.mem_singleton.mp hk']; exact hk) (fun h D => by rw [g1]; exact ⟨rfl, h, rfl, D⟩) (rep_t D')) ?_ fun _ _ z => z.elim
 rintro fl s' ⟨rfl, h'', rfl, D''⟩
 rw [g2, g4] at D''
 dsimp only
 rw [← execs_eq]
 refine wpAny_mono (rest h'' _ c (s.toks + o1.i) h1 h2 k1 k2 (mid_of D'' hc g7)) (fun fl s' q => q) fun _ _ z => z.elim
end Mine
end
section
namespace Mine
noncomputable def qn (x y : _root_.Fin 10) : Int := 16 * (x.val : Int) + (y.val : Int)
structure KW where
 asked : Nat
 addr : _root_.Fin 10 → Addr
 val : _root_.Fin 10 → Int
 more : Heap → Prop
 keeps : ∀ h h', more h → (∀ b o, h.get? b = some o → h'.get? b = some o) → more h'
noncomputable def KW.In (kw : KW) (h : Heap) : Prop := kw.more h
noncomputable def LtOk (w : World) (kw : KW) : Prop := ∀ (mg mb : Str → Option Value) (A : Around) (E : Value → Shared → Prop) (s : Shared) (h₀ : Heap) (L : Addr) (m : Str → Option Value) (news : List (Addr × Obj)) (news' : Value → List (Addr × Obj)) (Q : Value → Shared → Prop)
  (px py : _root_.Fin 10) (ask : Array Value) (n : Nat), A.handled = none → A.depth ≤ 430 → A.units ≤ 4300 → (KN w.params).In h₀ → TR mg mb h₀ → kw.In h₀ → Fr h₀ L s.heap m → News h₀ L s.heap news → ask.size ≤ 1000 →
  (∀ v, Upd kw.asked (listOf ask n) (listOf (ask.push v) (n + 1)) news (news' v)) →
  (∀ h' tk t, Fr h₀ L h' m → News h₀ L h' (news' (.int (qn px py) t)) → kw.val px < kw.val py → Q (.bool true) { s with heap := h', toks := tk }) →
  (∀ h' tk t, Fr h₀ L h' m → News h₀ L h' (news' (.int (qn px py) t)) → ¬ kw.val px < kw.val py → Q (.bool false) { s with heap := h', toks := tk }) →
  wpAny (model prog w) A (compareOp CmpOp.Lt (.ref (kw.addr px)) (.ref (kw.addr py))) Q E s
noncomputable abbrev Pl := _root_.Fin 10
noncomputable def hpush (v : Pl → Int) : List Pl → Pl → List Pl × List (Pl × Pl)
 | [], p => ([p], [])
 | [a], p => if v p < v a then ([p, a], [(p, a)]) else ([a, p], [(p, a)])
 | [a, b], p => if v p < v a then ([p, b, a], [(p, a)]) else ([a, b, p], [(p, a)])
 | h, _ => (h, [])
noncomputable def hpp (v : Pl → Int) : List Pl → Pl → List Pl × Pl × List (Pl × Pl)
 | [a], p => if v a < v p then ([p], a, [(a, p)]) else ([a], p, [(a, p)])
 | [a, b], p => if v a < v p then (if v p < v b then ([p, b], a, [(a, p), (p, b)]) else ([b, p], a, [(a, p), (p, b)])) else ([a, b], p, [(a, p)])
 | [a, b, c], p => if v a < v p then (if v b < v c then (if v p < v b then ([p, b, c], a, [(a, p), (b, c), (p, b)]) else ([b, p, c], a, [(a, p), (b, c), (p, b)]))
   else (if v p < v c then ([p, b, c], a, [(a, p), (b, c), (p, c)]) else ([c, b, p], a, [(a, p), (b, c), (p, c)]))) else ([a, b, c], p, [(a, p)])
 | h, p => (h, p, [])
structure FS where
 heap : List Pl
 qs : List (Pl × Pl)
 out : List Pl
noncomputable def ostep (v : Pl → Int) (z : Nat) (s : FS) (p : Pl) : FS :=
 if s.heap.length < z then ⟨(hpush v s.heap p).1, s.qs ++ (hpush v s.heap p).2, s.out⟩
 else ⟨(hpp v s.heap p).1, s.qs ++ (hpp v s.heap p).2.2, s.out ++ [(hpp v s.heap p).2.1]⟩
noncomputable def krefs (kw : KW) (l : List Pl) : Array Value := (l.map fun p => Value.ref (kw.addr p)).toArray
noncomputable def Grew (a b : Array Value) (qs : List (Pl × Pl)) : Prop := ∃ ts, b.toList = a.toList ++ ts ∧ IntsAre ts (qs.map fun q => qn q.1 q.2)
theorem news_out {g h : Heap} {L : Addr} {news : List (Addr × Obj)} (N : News g L h news) : ∀ p ∈ news, h.get? p.1 = some p.2 ∧ g.get? p.1 = none := fun p hp => ⟨(N p hp).1, (N p hp).2.2⟩
theorem off_nil {pass : List (Addr × Obj)} : ∀ p ∈ pass, ∀ q ∈ ([] : List (Addr × Obj)), p.1 ≠ q.1 := fun _ _ _ h => nomatch h
theorem ints_append : ∀ {a b : List Value} {x y : List Int}, IntsAre a x → IntsAre b y → IntsAre (a ++ b) (x ++ y) := by
 intro a b x y h k
 induction h with
 | nil => exact k
 | cons n t r ih => exact .cons n t ih
theorem Grew.trans {a b c : Array Value} {q r : List (Pl × Pl)} (h : Grew a b q) (k : Grew b c r) : Grew a c (q ++ r) := by
 obtain ⟨t1, e1, i1⟩ := h
 obtain ⟨t2, e2, i2⟩ := k
 exact ⟨t1 ++ t2, by rw [e2, e1, List.append_assoc], by rw [List.map_append]; exact ints_append i1 i2⟩
theorem Grew.size {a b : Array Value} {qs : List (Pl × Pl)} (h : Grew a b qs) : b.size = a.size + qs.length := by
 obtain ⟨ts, e, hi⟩ := h
 have := hi.length
 have e2 := congrArg List.length e
 rw [List.length_append, Array.length_toList, Array.length_toList, this, List.length_map] at e2
 exact e2
theorem grew0 (a : Array Value) : Grew a a [] := ⟨[], (List.append_nil _).symm, .nil⟩
theorem Grew.push {a b : Array Value} {qs : List (Pl × Pl)} (h : Grew a b qs) (x y : Pl) (t : Tok) : Grew a (b.push (.int (qn x y) t)) (qs ++ [(x, y)]) := h.trans ⟨[.int (qn x y) t], Array.toList_push, .cons _ _ .nil⟩
noncomputable def sdL (v : Pl → Int) (p : Pl) : Nat → List Pl → Nat → List (Pl × Pl) → List Pl × List (Pl × Pl)
 | 0, h, k, acc => (h.set k p, acc)
 | n + 1, h, k, acc => if 0 < k then (if v p < v (h.getD ((k - 1) / 2) p) then sdL v p n (h.set k (h.getD ((k - 1) / 2) p)) ((k - 1) / 2) (acc ++ [(p, h.getD ((k - 1) / 2) p)]) else (h.set k p, acc ++ [(p, h.getD ((k - 1) / 2) p)])) else (h.set k p, acc)
noncomputable def suL (v : Pl → Int) (p : Pl) : Nat → List Pl → Nat → List (Pl × Pl) → List Pl × List (Pl × Pl)
 | 0, h, k, acc => sdL v p 3 (h.set k p) k acc
 | n + 1, h, k, acc => if 2 * k + 1 < h.length then (if 2 * k + 1 + 1 < h.length then (if v (h.getD (2 * k + 1) p) < v (h.getD (2 * k + 1 + 1) p) then suL v p n (h.set k (h.getD (2 * k + 1) p)) (2 * k + 1) (acc ++ [(h.getD (2 * k + 1) p, h.getD (2 * k + 1 + 1) p)])
   else suL v p n (h.set k (h.getD (2 * k + 1 + 1) p)) (2 * k + 1 + 1) (acc ++ [(h.getD (2 * k + 1) p, h.getD (2 * k + 1 + 1) p)])) else suL v p n (h.set k (h.getD (2 * k + 1) p)) (2 * k + 1) acc) else sdL v p 3 (h.set k p) k acc
theorem sdL_acc (v : Pl → Int) (p : Pl) : ∀ (n : Nat) (h : List Pl) (k : Nat) (acc : List (Pl × Pl)), sdL v p n h k acc = ((sdL v p n h k []).1, acc ++ (sdL v p n h k []).2) := by
 intro n
 induction n with
 | zero => intro h k acc; show (_, acc) = (_, acc ++ []); rw [List.append_nil]; rfl
 | succ n ih =>
  intro h k acc
  show (ite _ (ite _ _ _) _) = ((ite _ (ite _ (sdL v p n (h.set k (h.getD ((k - 1) / 2) p)) ((k - 1) / 2) ([] ++ [(p, h.getD ((k - 1) / 2) p)])) _) _).1, acc ++ (ite _ (ite _ (sdL v p n (h.set k (h.getD ((k - 1) / 2) p)) ((k - 1) / 2) ([] ++ [(p, h.getD ((k - 1) / 2) p)])) _) _).2)
  by_cases h1 : 0 < k
  ·rw [if_pos h1, if_pos h1]
   by_cases h2 : v p < v (h.getD ((k - 1) / 2) p)
   ·rw [if_pos h2, if_pos h2, ih, ih _ _ ([] ++ _), List.append_assoc, List.nil_append]
   ·rw [if_neg h2, if_neg h2]; rfl
  ·rw [if_neg h1, if_neg h1, List.append_nil]
theorem sdL_lt {v : Pl → Int} {p q : Pl} {n k : Nat} {h : List Pl} {acc : List (Pl × Pl)} (hk : 0 < k) (hq : h[(k - 1) / 2]? = some q) (hv : v p < v q) : sdL v p (n + 1) h k acc = sdL v p n (h.set k q) ((k - 1) / 2) (acc ++ [(p, q)]) := by
 have e : h.getD ((k - 1) / 2) p = q := by rw [List.getD_eq_getElem?_getD, hq]; rfl
 show (ite _ (ite _ _ _) _) = _
 rw [if_pos hk, e, if_pos hv]
theorem sdL_ge {v : Pl → Int} {p q : Pl} {n k : Nat} {h : List Pl} {acc : List (Pl × Pl)} (hk : 0 < k) (hq : h[(k - 1) / 2]? = some q) (hv : ¬ v p < v q) : sdL v p (n + 1) h k acc = (h.set k p, acc ++ [(p, q)]) := by
 have e : h.getD ((k - 1) / 2) p = q := by rw [List.getD_eq_getElem?_getD, hq]; rfl
 show (ite _ (ite _ _ _) _) = _
 rw [if_pos hk, e, if_neg hv]
theorem sdL_zero {v : Pl → Int} {p : Pl} {n k : Nat} {h : List Pl} {acc : List (Pl × Pl)} (hk : ¬ 0 < k) : sdL v p n h k acc = (h.set k p, acc) := by
 cases n with
 | zero => rfl
 | succ n => exact if_neg hk
theorem push_is (v : Pl → Int) (h : List Pl) (p : Pl) (hl : h.length ≤ 2) : sdL v p 3 (h ++ [p]) h.length [] = hpush v h p := by
 match h, hl with
 | [], _ => rfl
 | [_], _ => kernel_rfl
 | [_, _], _ => kernel_rfl
theorem pp_is (v : Pl → Int) (a p : Pl) (t : List Pl) (hl : t.length ≤ 2) (hv : v a < v p) : hpp v (a :: t) p = ((suL v p 3 (p :: t) 0 []).1, a, (a, p) :: (suL v p 3 (p :: t) 0 []).2) := by
 match t, hl with
 | [], _ => exact if_pos hv
 | [b], _ =>
  refine (if_pos hv).trans ?_
  rw [show suL v p 3 [p, b] 0 [] = if v p < v b then ([p, b], [(p, b)]) else ([b, p], [(p, b)]) from rfl]
  by_cases h : v p < v b
  ·rw [if_pos h, if_pos h]
  ·rw [if_neg h, if_neg h]
 | [b, c], _ =>
  refine (if_pos hv).trans ?_
  rw [show suL v p 3 [p, b, c] 0 [] = if v b < v c then (if v p < v b then ([p, b, c], [(b, c), (p, b)]) else ([b, p, c], [(b, c), (p, b)])) else (if v p < v c then ([p, b, c], [(b, c), (p, c)]) else ([c, b, p], [(b, c), (p, c)])) from rfl]
  by_cases h : v b < v c
  ·rw [if_pos h, if_pos h]
   by_cases h2 : v p < v b
   ·rw [if_pos h2, if_pos h2]
   ·rw [if_neg h2, if_neg h2]
  ·rw [if_neg h, if_neg h]
   by_cases h2 : v p < v c
   ·rw [if_pos h2, if_pos h2]
   ·rw [if_neg h2, if_neg h2]
inductive HL (kw : KW) (hp : Nat) (ask0 : Array Value) (h : List Pl) (acc : List (Pl × Pl)) (N : List (Addr × Obj)) : Prop
 | mk (n na : Nat) (ask : Array Value) (hN : N = [(hp, listOf (krefs kw h) n), (kw.asked, listOf ask na)]) (g : Grew ask0 ask acc)
theorem HL.trans {kw : KW} {hp : Nat} {a b : Array Value} {h : List Pl} {q r : List (Pl × Pl)} {N : List (Addr × Obj)} (g : Grew a b q) (x : HL kw hp b h r N) : HL kw hp a h (q ++ r) N := by
 obtain ⟨n, na, ask, e, g2⟩ := x
 exact ⟨n, na, ask, e, g.trans g2⟩
structure HC (C : Cx) (kw : KW) (mg mb : Str → Option Value) : Prop where
 X : (KN C.w.params).In C.g
 T : TR mg mb C.g
 k : kw.In C.g
 L : LtOk C.w kw
 hh : C.A.handled = none
 hd : C.A.depth ≤ 430
 hu : C.A.units ≤ 4300
theorem HC.of {C : Cx} {kw : KW} {mg mb : Str → Option Value} {s₀ s : Shared} {m : Str → Option Value} {N : List (Addr × Obj)} (_ : C.St s₀ m N s) (X : (KN C.w.params).In C.g) (T : TR mg mb C.g) (k : kw.In C.g) (L : LtOk C.w kw) (hh : C.A.handled = none) (hd : C.A.depth ≤ 430) (hu : C.A.units ≤ 4300) : HC C kw mg mb := ⟨X, T, k, L, hh, hd, hu⟩
section
variable {C : Cx} {s₀ s : Shared} {m : Str → Option Value} {N : List (Addr × Obj)} {Q : Flow → Shared → Prop}
noncomputable def Cx.Vh (C : Cx) (m : Str → Option Value) (N : List (Addr × Obj)) (e : Expr) (v : Value) : Prop := ∀ (s₀ s : Shared) (Q : Value → Shared → Prop), C.St s₀ m N s → (∀ s', C.St s₀ m N s' → Q v s') → wpAny (model prog C.w) C.A (eval e C.env) Q C.E s
theorem Cx.Vh.of {e : Expr} {v : Value} (H : C.V m e v) : C.Vh m N e v := fun s₀ s Q S h => H s Q S.F fun tk => h _ (S.put S.F S.N)
theorem Cx.H.of {e : Expr} {i : Int} (H : C.I m e i) : C.H m N e i := fun s₀ s Q S h => H s Q S.F fun t tk => h t _ (S.put S.F S.N)
theorem Cx.I.nameE {x : Str} {pos : Pos} {i : Int} (hm : ∃ t, m x = some (.int i t)) (hx : C.lc x = true) : C.I m (.Name x pos) i := let ⟨_, h⟩ := hm; .name h hx
theorem Cx.I.half {x : Expr} {k n : Nat} {p pos : Pos} (H : C.I m x (k : Int)) : C.I m (.BinOp x .RShift (.Constant (.int 1) n p) pos) ((k / 2 : Nat) : Int) := fun s _ F h =>
 wpAny_BinOp (H s _ F fun _ _ => wpAny_Constant_int (rshift_int (by decide) (by
  rw [show (k : Int).fdiv (2 ^ (1 : Int).toNat) = ((k / 2 : Nat) : Int) from (Int.fdiv_eq_ediv_of_nonneg _ (by decide)).trans (Int.natCast_ediv k 2).symm]
  exact h _ _)))
theorem Cx.I.dbl {x : Expr} {i : Int} {n : Nat} {p pos : Pos} (H : C.I m x i) : C.I m (.BinOp (.Constant (.int 2) n p) .Mult x pos) (2 * i) := fun s _ F h =>
 wpAny_BinOp (wpAny_Constant_int (H _ _ F fun _ _ => mul_int (h _ _)))
theorem Cx.H.sub1 {x : Expr} {i : Int} {n : Nat} {p pos : Pos} (H : C.H m N x i) : C.H m N (.BinOp x .Sub (.Constant (.int 1) n p) pos) (i - 1) := fun s₀ s _ S h =>
 wpAny_BinOp (H s₀ s _ S fun _ s S => wpAny_Constant_int (sub_int (h _ _ (S.put S.F S.N))))
theorem Cx.I.cast {e : Expr} {i j : Int} (H : C.I m e i) (h : i = j) : C.I m e j := h ▸ H
theorem Cx.H.cast {e : Expr} {i j : Int} (H : C.H m N e i) (h : i = j) : C.H m N e j := h ▸ H
theorem Cx.asgVh {x : Str} {e : Expr} {v : Value} {pos pos' : Pos} (S : C.St s₀ m N s) (H : C.Vh m N e v) (hx : C.lc x = true) (h : ∀ s', C.St s₀ (upd m x v) N s' → Q .next s') (hs : swapsWith e (some (.Name x pos')) pos.line C.env = pure false := by rfl) : C.Wp (.Assign [.Name x pos'] e pos) Q s :=
 wpAny_Assign_Name (H s₀ s _ S fun s S => Cx.sto S hx h) hs
theorem Cx.asgH {x : Str} {e : Expr} {i : Int} {pos pos' : Pos} (S : C.St s₀ m N s) (H : C.H m N e i) (hx : C.lc x = true) (h : ∀ t s', C.St s₀ (upd m x (.int i t)) N s' → Q .next s') (hs : swapsWith e (some (.Name x pos')) pos.line C.env = pure false := by rfl) : C.Wp (.Assign [.Name x pos'] e pos) Q s :=
 wpAny_Assign_Name (H s₀ s _ S fun t s S => Cx.sto S hx (h t)) hs
noncomputable def Cx.Tw (C : Cx) (m : Str → Option Value) (N : List (Addr × Obj)) (e : Expr) (y n : List (Addr × Obj) → Prop) : Prop := ∀ (s₀ s : Shared) (Q : Bool → Shared → Prop), C.St s₀ m N s → (∀ N' s', y N' → C.St s₀ m N' s' → Q true s') → (∀ N' s', n N' → C.St s₀ m N' s' → Q false s') → C.Wt e Q s
theorem Cx.Tw.of {e : Expr} {p : Prop} (T : C.Th m N e p) : C.Tw m N e (fun N' => N' = N ∧ p) (fun N' => N' = N ∧ ¬p) := fun s₀ s Q S h1 h2 => T s₀ s Q S (fun hp s S => h1 N s ⟨rfl, hp⟩ S) fun hp s S => h2 N s ⟨rfl, hp⟩ S
theorem Cx.Tw.not {e : Expr} {y n : List (Addr × Obj) → Prop} {pos : Pos} (T : C.Tw m N e y n) : C.Tw m N (.UnaryOp .Not e pos) n y := fun s₀ s Q S h1 h2 => isTrue_not (T s₀ s _ S h2 h1)
theorem Cx.Tw.and {x e : Expr} {p : Prop} {y n : List (Addr × Obj) → Prop} {pos : Pos} (hx : C.Th m N x p) (hr : p → C.Tw m N e y n) : C.Tw m N (.BoolOp .And [x, e] pos) (fun N' => p ∧ y N') (fun N' => N' = N ∧ ¬p ∨ p ∧ n N') := fun s₀ s Q S h1 h2 =>
 isTrue_and (hx s₀ s _ S (fun hp s S => (if_pos rfl).mpr (isTrue_and (hr hp s₀ s _ S (fun N' s' hy S' => (if_pos rfl).mpr (isTrue_and_nil (h1 N' s' ⟨hp, hy⟩ S'))) fun N' s' hn S' => (if_neg nofun).mpr (h2 N' s' (.inr ⟨hp, hn⟩) S')))) fun hp s S => (if_neg nofun).mpr (h2 N s (.inl ⟨rfl, hp⟩) S))
theorem Cx.ifW {e : Expr} {y n : List (Addr × Obj) → Prop} {b o : List Stmt} {pos : Pos} (S : C.St s₀ m N s) (T : C.Tw m N e y n) (h1 : ∀ N' s', y N' → C.St s₀ m N' s' → C.Ws b Q s') (h2 : ∀ N' s', n N' → C.St s₀ m N' s' → C.Ws o Q s') : C.Wp (.If e b o pos) Q s :=
 wpAny_If (T s₀ s _ S h1 h2)
theorem Cx.wtI {e : Expr} {p : Prop} {A B : Shared → Prop} (S : C.St s₀ m N s) (T : C.Th m N e p) (h1 : p → ∀ s', C.St s₀ m N s' → A s') (h2 : ¬p → ∀ s', C.St s₀ m N s' → B s') : C.Wt e (fun b s' => if b = true then A s' else B s') s :=
 T s₀ s _ S (fun hp s' S' => (if_pos rfl).mpr (h1 hp s' S')) fun hp s' S' => (if_neg nofun).mpr (h2 hp s' S')
theorem Cx.wtL {x : Str} {pos : Pos} {a n : Nat} {vs : List Value} {Q : Bool → Shared → Prop} (S : C.St s₀ m N s) (hm : m x = some (.ref a)) (hN : (a, listOf vs.toArray n) ∈ N) (hz : vs.length < 2 ^ 62) (h : ∀ s', C.St s₀ m N s' → Q (!vs.isEmpty) s') (hx : C.lc x = true := by rfl) : C.Wt (.Name x pos) Q s :=
 isTrue_plain (Cx.V.name hm hx _ _ S.F fun tk => kgr_truthy (show News C.g C.L _ N from S.N) hN rfl rfl hz (h _ (S.put S.F S.N)))
noncomputable def Cx.gl (C : Cx) (x : Str) : Bool := decide (C.cs.kind = .function) && decide (C.env.kindOf x = some .globalImplicit) && !(x == ("__debug__" : Str))
theorem Cx.gl1 {x : Str} (h : C.gl x = true) : C.cs.kind = .function ∧ C.env.kindOf x = some .globalImplicit ∧ (x == ("__debug__" : Str)) = false := by
 unfold Cx.gl at h
 simp only [Bool.and_eq_true, decide_eq_true_eq, Bool.not_eq_true'] at h
 exact ⟨h.1.1, h.1.2, h.2⟩
theorem Cx.V.glob {mg mb : Str → Option Value} {x : Str} {v : Value} {pos : Pos} (X : (KN C.w.params).In C.g) (T : TR mg mb C.g) (e : nsIn (KN C.w.params) mainGlobals x = some (some v)) (hx : C.gl x = true) : C.V m (.Name x pos) v := fun s _ F h =>
 let ⟨a, b, c⟩ := Cx.gl1 hx
 nameX_K F X T e (h s.toks) a b c
theorem Cx.V.bltn {mg mb : Str → Option Value} {x : Str} {v : Value} {pos : Pos} (X : (KN C.w.params).In C.g) (T : TR mg mb C.g) (e : nsIn (KN C.w.params) mainGlobals x = some none) (hv : bootBuiltins x = some v) (hn : x ≠ "__name__") (hx : C.gl x = true) : C.V m (.Name x pos) v := fun s _ F h =>
 let ⟨a, b, c⟩ := Cx.gl1 hx
 nameX_B F X T e hv hn (h s.toks) a b c
end
theorem ns_len (P : Params) : nsIn (KN P) mainGlobals (Str.ofString "len") = some none := by kernel_rfl
theorem boot_len : bootBuiltins (Str.ofString "len") = some (.builtin "len") := by boot_by_name
theorem ns_sd (P : Params) : nsIn (KN P) mainGlobals (Str.ofString "_siftdown") = some (some (.ref 42)) := by kernel_rfl
theorem ns_su (P : Params) : nsIn (KN P) mainGlobals (Str.ofString "_siftup") = some (some (.ref 49)) := by kernel_rfl
theorem set_some {l : List Value} : ∀ {k : Nat} {v : Value}, k < l.length → ki_setL l k v = some (l.set k v) := by
 induction l with
 | nil => intro k v h; cases h
 | cons x l ih =>
  intro k v h
  cases k with
  | zero => rfl
  | succ k =>
   show (match ki_setL l k v with | some q => some (x :: q) | none => none) = _
   rw [ih (Nat.lt_of_succ_lt_succ h)]; rfl
section
variable {C : Cx} {s₀ s : Shared} {m : Str → Option Value} {N : List (Addr × Obj)} {Q : Flow → Shared → Prop} {kw : KW} {hp : Nat} {ask0 : Array Value} {h : List Pl} {acc : List (Pl × Pl)}
theorem HL.len {mg mb : Str → Option Value} {x : Str} {p1 p2 pos : Pos} (r : HL kw hp ask0 h acc N) (X : (KN C.w.params).In C.g) (T : TR mg mb C.g) (hm : m x = some (.ref hp)) (hz : h.length ≤ 5) (hx : C.lc x = true) (hg : C.gl (Str.ofString "len") = true)
  (hc : eval (.Call (.Name (Str.ofString "len") p1) [.Name x p2] [] pos) C.env = (do callWith pos (← eval (.Name (Str.ofString "len") p1) C.env) [] (backTo pos (starEach [.Name x p2] C.env)) (backToKw pos (keywordEach [] C.env))) := by rfl) :
  C.H m N (.Call (.Name (Str.ofString "len") p1) [.Name x p2] [] pos) (h.length : Int) := fun s₀ s Q S k => by
 obtain ⟨n, na, ask, rfl, _⟩ := r
 refine Call_ (Cx.V.bltn X T (ns_len _) boot_len (by decide) hg _ _ S.F fun tk => ?_) hc
 refine callWith_builtin1 (args_cons (Cx.V.name hm hx _ _ S.F fun tk => args_nil (len_list ⟨_, (S.N _ (.head _)).1, rfl, _, rfl⟩ ?_ ?_)))
 ·rw [krefs, List.size_toArray, List.length_map]; lia
 ·rw [krefs, List.size_toArray, List.length_map]; exact k _ _ (S.put S.F S.N)
theorem HL.item {x : Str} {e : Expr} {k : Nat} {p : Pl} {p1 pos : Pos} (r : HL kw hp ask0 h acc N) (hm : m x = some (.ref hp)) (H : C.I m e (k : Int)) (hk : h[k]? = some p) (hz : h.length ≤ 5) (hx : C.lc x = true)
  (hs : ∀ u, subscripted e false (.ref hp) (.int (k : Int) u) = operate [.ref hp, .int k u] (getItem (.ref hp) (.int k u)) := by intro _; with_unfolding_all rfl) (hg : ∀ r, letTemporaryGo (.Name x p1) (.ref hp) r = pure () := by intro _; with_unfolding_all rfl) :
  C.Vh m N (.Subscript (.Name x p1) e pos) (.ref (kw.addr p)) := fun s₀ s Q S h1 => by
 obtain ⟨n, na, ask, rfl, _⟩ := r
 have hkl := (List.getElem?_eq_some_iff.mp hk).1
 refine Subscript_ (Cx.V.name hm hx _ _ S.F fun tk => H _ _ S.F fun u tk' => ?_)
 refine item_listL (k := (k : Int)) (l := h.map fun p => Value.ref (kw.addr p)) ⟨_, (S.N _ (.head _)).1, rfl, _, rfl⟩ (by lia) (by lia) ?_ (h1 _ (S.put S.F S.N)) (hs u) hg
 rw [Int.toNat_natCast, List.getElem?_map, hk]; rfl
theorem HL.put {x : Str} {e ev : Expr} {k : Nat} {p : Pl} {p1 p2 pos : Pos} (S : C.St s₀ m N s) (r : HL kw hp ask0 h acc N) (hne : hp ≠ kw.asked) (hm : m x = some (.ref hp)) (Hv : C.Vh m N ev (.ref (kw.addr p))) (H : C.I m e (k : Int)) (hk : k < h.length) (hz : h.length ≤ 5) (hx : C.lc x = true)
  (h1 : ∀ N' s', HL kw hp ask0 (h.set k p) acc N' → C.St s₀ m N' s' → Q .next s') (hs : swapsWith ev (some (.Subscript (.Name x p1) e p2)) pos.line C.env = pure false := by rfl) : C.Wp (.Assign [.Subscript (.Name x p1) e p2] ev pos) Q s := by
 obtain ⟨n, na, ask, rfl, g⟩ := r
 refine wpAny_Assign_Subscript (Hv s₀ s _ S fun s S => Cx.V.name hm hx _ _ S.F fun tk => H _ _ S.F fun t tk => ?_) hs
 refine ki_set (news' := [(hp, listOf (krefs kw (h.set k p)) n), (kw.asked, listOf ask na)]) (q := (h.set k p).map fun p => Value.ref (kw.addr p)) S.F S.N (by lia) (by lia) ?_ (.head fun q hq => by rw [List.mem_singleton.mp hq]; exact hne.symm) fun h' F' N' => h1 _ _ ⟨n, na, ask, rfl, g⟩ (S.put F' N')
 rw [Int.toNat_natCast, List.map_set]
 exact set_some (l := h.map _) (by rw [List.length_map]; exact hk)
theorem HL.lt {mg mb : Str → Option Value} {x y : Expr} {px py : Pl} {pos : Pos} (r : HL kw hp ask0 h acc N) (K : HC C kw mg mb) (hne : hp ≠ kw.asked) (hx : C.Vh m N x (.ref (kw.addr px))) (hy : C.Vh m N y (.ref (kw.addr py))) (hz : ask0.size + acc.length ≤ 1000) (hm : behindInMarks .Lt y = false := by with_unfolding_all rfl) :
  C.Tw m N (.Compare x [.Lt] [y] pos) (fun N' => kw.val px < kw.val py ∧ HL kw hp ask0 h (acc ++ [(px, py)]) N') (fun N' => ¬ kw.val px < kw.val py ∧ HL kw hp ask0 h (acc ++ [(px, py)]) N') := by
 intro s₀ s Q S h1 h2
 obtain ⟨n, na, ask, rfl, g⟩ := r
 refine wpAny_isTrue_Compare1 (hx s₀ s _ S fun s S => hy s₀ _ _ S fun s S => ?_) hm
 refine K.L mg mb C.A C.E _ C.g C.L m _ (fun v => [(hp, listOf (krefs kw h) n), (kw.asked, listOf (ask.push v) (na + 1))]) _ px py ask na K.hh K.hd K.hu K.X K.T K.k S.F S.N (by rw [g.size]; exact hz) (fun v => .tail hne (.head fun q hq => nomatch hq)) (fun h' tk t F' N' hlt => ?_) fun h' tk t F' N' hlt => ?_
 ·exact wpAny_truthy_bool (h1 _ _ ⟨hlt, n, na + 1, _, rfl, g.push px py t⟩ (S.put F' N'))
 ·exact wpAny_truthy_bool (h2 _ _ ⟨hlt, n, na + 1, _, rfl, g.push px py t⟩ (S.put F' N'))
end
inductive Cx.Tv (C : Cx) (s₀ : Shared) (J : Nat → (Str → Option Value) → List (Addr × Obj) → Prop) (R : (Str → Option Value) → List (Addr × Obj) → Prop) (n : Nat) : Flow → Shared → Prop
 | next {s : Shared} {m : Str → Option Value} {N : List (Addr × Obj)} {n' : Nat} (S : C.St s₀ m N s) (hn : n' < n) (j : J n' m N) : Cx.Tv C s₀ J R n .next s
 | cont {s : Shared} {m : Str → Option Value} {N : List (Addr × Obj)} {n' : Nat} (S : C.St s₀ m N s) (hn : n' < n) (j : J n' m N) : Cx.Tv C s₀ J R n .cont s
 | brk {s : Shared} {m : Str → Option Value} {N : List (Addr × Obj)} (S : C.St s₀ m N s) (r : R m N) : Cx.Tv C s₀ J R n .brk s
theorem Cx.whileB {C : Cx} {s₀ s : Shared} {m : Str → Option Value} {N : List (Addr × Obj)} {Q : Flow → Shared → Prop} {test : Expr} {body : List Stmt} {pos : Pos} (J : Nat → (Str → Option Value) → List (Addr × Obj) → Prop) (R : (Str → Option Value) → List (Addr × Obj) → Prop) {n₀ : Nat} (S : C.St s₀ m N s) (hJ : J n₀ m N)
  (turn : ∀ n m N s, C.St s₀ m N s → J n m N → C.Wt test (fun b s' => if b = true then C.Ws body (C.Tv s₀ J R n) s' else C.Ex s₀ R s') s)
  (done : ∀ m N s, C.St s₀ m N s → R m N → Q .next s)
  (hE : PassesOwn (model prog C.w) C.A C.env C.E := by passes_own) : C.Wp (.While test body [] pos) Q s := by
 refine While_inv2 J S.F S.N hJ (fun n m₁ news₁ h₁ tk₁ F1 N1 J1 => wpAny_mono (turn n m₁ news₁ _ (S.put F1 N1) J1) (fun b s₂ h => ?_) fun _ _ e => e) hE
 cases b with
 | true =>
  simp only [if_true] at h ⊢
  refine wpAny_mono h (fun f s₃ q => ?_) fun _ _ e => e
  cases q with
  | next S3 hn j => exact ⟨_, _, _, _, _, same_rec S.e S3.e, S3.F, S3.N, hn, j⟩
  | cont S3 hn j => exact ⟨_, _, _, _, _, same_rec S.e S3.e, S3.F, S3.N, hn, j⟩
  | brk S3 r => exact done _ _ _ S3 r
 | false =>
  simp only [Bool.false_eq_true, if_false] at h ⊢
  obtain ⟨S2, r⟩ := h
  exact done _ _ _ S2 r
inductive Cx.Jm (C : Cx) (s₀ : Shared) (R : (Str → Option Value) → List (Addr × Obj) → Prop) : Flow → Shared → Prop
 | mk {s : Shared} {m : Str → Option Value} {N : List (Addr × Obj)} (S : C.St s₀ m N s) (r : R m N) : Cx.Jm C s₀ R .next s
theorem Cx.ifWJ {C : Cx} {s₀ s : Shared} {m : Str → Option Value} {N : List (Addr × Obj)} {Q : Flow → Shared → Prop} {e : Expr} {y n : List (Addr × Obj) → Prop} {b o : List Stmt} {pos : Pos} (R : (Str → Option Value) → List (Addr × Obj) → Prop) (S : C.St s₀ m N s) (T : C.Tw m N e y n) (h1 : ∀ N' s', y N' → C.St s₀ m N' s' → C.Ws b (C.Jm s₀ R) s') (h2 : ∀ N' s', n N' → C.St s₀ m N' s' → C.Ws o (C.Jm s₀ R) s') (k : ∀ m' N' s', R m' N' → C.St s₀ m' N' s' → Q .next s') : C.Wp (.If e b o pos) Q s :=
 Cx.ifW S T (fun N' s' hy S' => wpAny_mono (h1 N' s' hy S') (fun f s2 j => by cases j with | mk S r => exact k _ _ _ r S) fun _ _ x => x) fun N' s' hn S' => wpAny_mono (h2 N' s' hn S') (fun f s2 j => by cases j with | mk S r => exact k _ _ _ r S) fun _ _ x => x
structure SF (kw : KW) (hp : Nat) (p : Pl) (k : Nat) (m : Str → Option Value) : Prop where
 heap : m (Str.ofString "heap") = some (.ref hp)
 new : m (Str.ofString "newitem") = some (.ref (kw.addr p))
 st : ∃ t, m (Str.ofString "startpos") = some (.int 0 t)
 pos : ∃ t, m (Str.ofString "pos") = some (.int (k : Int) t)
inductive SJ (kw : KW) (hp : Nat) (ask0 : Array Value) (p : Pl) (fin : List Pl × List (Pl × Pl)) (n : Nat) (m : Str → Option Value) (N : List (Addr × Obj)) : Prop
 | mk (h : List Pl) (k : Nat) (acc : List (Pl × Pl)) (fm : SF kw hp p k m) (r : HL kw hp ask0 h acc N) (hn : k ≤ n) (hk : k < h.length) (hl : h.length ≤ 5) (ha : acc.length + n ≤ 3) (e : sdL kw.val p n h k acc = fin)
inductive SR (kw : KW) (hp : Nat) (ask0 : Array Value) (p : Pl) (fin : List Pl × List (Pl × Pl)) (m : Str → Option Value) (N : List (Addr × Obj)) : Prop
 | mk (h : List Pl) (k : Nat) (acc : List (Pl × Pl)) (fm : SF kw hp p k m) (r : HL kw hp ask0 h acc N) (hk : k < h.length) (hl : h.length ≤ 5) (e : (h.set k p, acc) = fin)
theorem sd (w : World) (kw : KW) (h : List Pl) (k : Nat) (p : Pl) (hp : Nat) (n : Nat) (ask : Array Value) (na : Nat) (t t' : Tok) (hk : h[k]? = some p) (hk3 : k ≤ 3) (hl : h.length ≤ 5) (hne : hp ≠ kw.asked) (hL : LtOk w kw) (hz : ask.size ≤ 900) :
  CallSpec w 420 (.ref 42) [.ref hp, .int 0 t, .int (k : Int) t'] [(hp, listOf (krefs kw h) n), (kw.asked, listOf ask na)] kw.In
   (fun r pass' => r = .none ∧ HL kw hp ask (sdL kw.val p 3 h k []).1 (sdL kw.val p 3 h k []).2 pass') := by
 try (unfold CallSpec prog; k_fill; fail)
 refine' spec_def (binds := [(Str.ofString "heap", .ref hp), (Str.ofString "startpos", .int 0 t), (Str.ofString "pos", .int (k : Int) t')]) ?ho ?hcd ?hroom ?hb ?hl ?_ ?hc ?h1 ?h2 ?h3
 case ho => k_is
 case hcd => k_is
 case hroom => decide
 case hb => intro s _; exact BindsTo.of_eq rfl
 case hl => exact locs rfl
 case hc => decide
 case h1 => exact rfl
 case h2 => exact rfl
 case h3 => exact rfl
 intro mg mb g L s₀ s Q X T hpre hL' S ret
 have K := HC.of S X T hpre hL rfl (Nat.le_of_ble_eq_true rfl) (Nat.le_of_ble_eq_true rfl)
 have hkl := (List.getElem?_eq_some_iff.mp hk).1
 refine Cx.seq (Cx.asgVh S (HL.item (h := h) (ask0 := ask) (acc := []) ⟨n, na, ask, rfl, grew0 _⟩ rfl (Cx.I.name rfl rfl) hk hl rfl) rfl fun s S => ?_)
 refine Cx.hide (R := SF kw hp p k) S ⟨rfl, rfl, ⟨_, rfl⟩, ⟨_, rfl⟩⟩ fun m s S fm => ?_
 refine Cx.seq (Cx.whileB (SJ kw hp ask p (sdL kw.val p 3 h k [])) (SR kw hp ask p (sdL kw.val p 3 h k [])) (n₀ := 3) S (.mk h k [] fm ⟨n, na, ask, rfl, grew0 _⟩ hk3 hkl hl (Nat.le_refl _) rfl) (fun n m N s S hJ => ?_) fun m N s S hR => ?_)
 ·obtain ⟨h, k, acc, fm, r, hn, hk, hl, ha, e⟩ := hJ
  refine Cx.wtI S (.of (Cx.T.gt (Cx.I.nameE fm.pos rfl) (Cx.I.nameE fm.st rfl))) (fun hlt s S => ?_) fun hlt s S => ?_
  ·have h0 : 0 < k := Int.ofNat_lt.mp hlt
   obtain ⟨n, rfl⟩ : ∃ n', n = n' + 1 := ⟨n - 1, by lia⟩
   have hq1 : (k - 1) / 2 < h.length := by lia
   have hq := List.getElem?_eq_getElem hq1
   refine Cx.seq (Cx.asgI S (Cx.I.half (k := k - 1) (Cx.I.cast (Cx.I.sub (Cx.I.nameE fm.pos rfl) Cx.I.const) (by lia))) rfl fun t1 s S => ?_)
   refine Cx.seq (Cx.asgVh S (HL.item r fm.heap (Cx.I.name rfl rfl) hq hl rfl) rfl fun s S => ?_)
   refine Cx.seq (Cx.ifW S (HL.lt r K hne (.of (Cx.V.name fm.new rfl)) (.of (Cx.V.name rfl rfl)) (by lia)) (fun N' s hy S => ?_) fun N' s hy S => ?_)
   ·obtain ⟨hv, r⟩ := hy
    refine Cx.seq (HL.put S r hne fm.heap (.of (Cx.V.name rfl rfl)) (Cx.I.nameE fm.pos rfl) hk hl rfl fun N' s r S => ?_)
    refine Cx.seq (Cx.asgI S (Cx.I.name rfl rfl) rfl fun t2 s S => ?_)
    exact Cx.seq (Cx.cont (.cont S (Nat.lt_succ_self n) (.mk _ ((k - 1) / 2) _ ⟨fm.heap, fm.new, fm.st, ⟨_, rfl⟩⟩ r (by lia) (by rw [List.length_set]; exact hq1) (by rw [List.length_set]; exact hl) (by rw [List.length_append]; show _ + 1 + _ ≤ _; lia) ((sdL_lt h0 hq hv).symm.trans e))))
   ·obtain ⟨hv, r⟩ := hy
    exact Cx.nil (Cx.seq (Cx.brk (.brk S (.mk h k _ ⟨fm.heap, fm.new, fm.st, fm.pos⟩ r hk hl ((sdL_ge h0 hq hv).symm.trans e)))))
  ·have h0 : ¬ 0 < k := fun z => hlt (Int.ofNat_lt.mpr z)
   exact .mk S (.mk h k acc fm r hk hl ((sdL_zero h0).symm.trans e))
 ·obtain ⟨h', k', acc, fm, r, hk, hl, e⟩ := hR
  refine Cx.seq (HL.put S r hne fm.heap (.of (Cx.V.name fm.new rfl)) (Cx.I.nameE fm.pos rfl) hk hl rfl fun N' s r S => ?_)
  exact Cx.nil (ret _ _ _ _ _ S (fun _ h => h) ⟨rfl, by rw [← e]; exact r⟩)
theorem HL.sd {C : Cx} {s₀ s : Shared} {m mg mb : Str → Option Value} {N : List (Addr × Obj)} {Q : Flow → Shared → Prop} {kw : KW} {hp : Nat} {ask0 : Array Value} {h : List Pl} {acc : List (Pl × Pl)} {x : Str} {e2 e3 : Expr} {k : Nat} {p : Pl} {p1 p2 p3 pos : Pos} (S : C.St s₀ m N s) (r : HL kw hp ask0 h acc N) (K : HC C kw mg mb) (hne : hp ≠ kw.asked) (hm : m x = some (.ref hp)) (H2 : C.I m e2 0) (H3 : C.H m N e3 (k : Int)) (hk : h[k]? = some p) (hk3 : k ≤ 3) (hl : h.length ≤ 5) (hz : ask0.size + acc.length ≤ 900) (hd : C.A.depth ≤ 420) (hu : C.A.units ≤ 4200)
  (ret : ∀ N' s', HL kw hp ask0 (sdL kw.val p 3 h k acc).1 (sdL kw.val p 3 h k acc).2 N' → C.St s₀ m N' s' → Q .next s') (hx : C.lc x = true := by rfl) (hg : C.gl (Str.ofString "_siftdown") = true := by rfl)
  (h1 : ∀ env, starEach [e2, e3] env = (false, eval e2 env) :: starEach [e3] env := by intro _; rfl) (h2 : ∀ env, starEach [e3] env = (false, eval e3 env) :: starEach [] env := by intro _; rfl)
  (hc : eval (.Call (.Name (Str.ofString "_siftdown") p1) [.Name x p2, e2, e3] [] p3) C.env = (do callWith p3 (← eval (.Name (Str.ofString "_siftdown") p1) C.env) [] (backTo p3 (starEach [.Name x p2, e2, e3] C.env)) (backToKw p3 (keywordEach [] C.env))) := by rfl)
  (hi : interactive C.env = false := by rfl) (hs : swapsWith (.Call (.Name (Str.ofString "_siftdown") p1) [.Name x p2, e2, e3] [] p3) none pos.line C.env = pure false := by rfl) : C.Wp (.Expr (.Call (.Name (Str.ofString "_siftdown") p1) [.Name x p2, e2, e3] [] p3) pos) Q s := by
 refine wpAny_Expr_any (Call_ (Cx.V.glob K.X K.T (ns_sd _) hg _ _ S.F fun tk => ?_) hc) hi hs
 refine callWith_K K.X (by k_is) (args_cons (Cx.V.name hm hx _ _ S.F fun tk => args_cons (H2 _ _ S.F fun t tk => args_cons (H3 s₀ _ _ (S.put S.F S.N) fun t' s S => args_nil ⟨K.X.keeps S.F.keep, ?_⟩) ?_) ?_)) rfl ?_
 ·obtain ⟨n, na, ask, rfl, g⟩ := r
  refine Cx.use (keep := []) S (Mine.sd C.w kw h k p hp n ask na t t' hk hk3 hl hne K.L (by rw [g.size]; exact hz)) K.X K.T off_nil (fun g st _ => kw.keeps _ _ K.k st) K.hh hd hu fun r pass' s S _ hpost => ?_
  obtain ⟨_, hr⟩ := hpost
  refine ret _ _ ?_ (S.sub fun p hp => List.mem_append_left _ hp)
  rw [sdL_acc]
  exact hr.trans g
 ·exact h2 _
 ·exact h1 _
 ·rw [h1, h2]; rfl
structure UF (kw : KW) (hp : Nat) (p : Pl) (k e : Nat) (m : Str → Option Value) : Prop extends SF kw hp p k m where
 child : ∃ t, m (Str.ofString "childpos") = some (.int ((2 * k + 1 : Nat) : Int) t)
 endp : ∃ t, m (Str.ofString "endpos") = some (.int (e : Int) t)
inductive UJ (kw : KW) (hp : Nat) (ask0 : Array Value) (p : Pl) (fin : List Pl × List (Pl × Pl)) (n : Nat) (m : Str → Option Value) (N : List (Addr × Obj)) : Prop
 | mk (h : List Pl) (k : Nat) (acc : List (Pl × Pl)) (fm : UF kw hp p k h.length m) (r : HL kw hp ask0 h acc N) (hn : h.length ≤ k + n) (hk : k < h.length) (hl : h.length ≤ 3) (ha : acc.length + n ≤ 3) (e : suL kw.val p n h k acc = fin)
inductive UK (kw : KW) (hp : Nat) (ask0 : Array Value) (p : Pl) (fin : List Pl × List (Pl × Pl)) (n : Nat) (h : List Pl) (k : Nat) (m : Str → Option Value) (N : List (Addr × Obj)) : Prop
 | mk (c : Nat) (q : Pl) (acc : List (Pl × Pl)) (fm : SF kw hp p k m) (hc : ∃ t, m (Str.ofString "childpos") = some (.int (c : Int) t)) (he : ∃ t, m (Str.ofString "endpos") = some (.int (h.length : Int) t)) (r : HL kw hp ask0 h acc N) (hkc : k < c) (hq : h[c]? = some q) (ha : acc.length + n ≤ 3) (e : suL kw.val p n (h.set k q) c acc = fin)
inductive UR (kw : KW) (hp : Nat) (ask0 : Array Value) (p : Pl) (fin : List Pl × List (Pl × Pl)) (m : Str → Option Value) (N : List (Addr × Obj)) : Prop
 | mk (h : List Pl) (k : Nat) (acc : List (Pl × Pl)) (fm : SF kw hp p k m) (r : HL kw hp ask0 h acc N) (hk : k < h.length) (hl : h.length ≤ 3) (ha : acc.length ≤ 3) (e : sdL kw.val p 3 (h.set k p) k acc = fin)
theorem suL_no {v : Pl → Int} {p : Pl} {n k : Nat} {h : List Pl} {acc : List (Pl × Pl)} (hk : ¬ 2 * k + 1 < h.length) : suL v p n h k acc = sdL v p 3 (h.set k p) k acc := by
 cases n with
 | zero => rfl
 | succ n => exact if_neg hk
theorem getD_some {h : List Pl} {c : Nat} (p : Pl) (hc : c < h.length) : h[c]? = some (h.getD c p) := by rw [List.getD_eq_getElem?_getD, List.getElem?_eq_getElem hc]; rfl
theorem getD_at {h : List Pl} {c : Nat} {p q : Pl} (hq : h[c]? = some q) : h.getD c p = q := by rw [List.getD_eq_getElem?_getD, hq]; rfl
theorem suL_one {v : Pl → Int} {p q : Pl} {n k : Nat} {h : List Pl} {acc : List (Pl × Pl)} (hq : h[2 * k + 1]? = some q) (hk : ¬ 2 * k + 1 + 1 < h.length) : suL v p (n + 1) h k acc = suL v p n (h.set k q) (2 * k + 1) acc := by
 show (ite _ (ite _ _ _) _) = _
 rw [if_pos (List.getElem?_eq_some_iff.mp hq).1, if_neg hk, getD_at hq]
theorem suL_lt {v : Pl → Int} {p q q' : Pl} {n k : Nat} {h : List Pl} {acc : List (Pl × Pl)} (hq : h[2 * k + 1]? = some q) (hq' : h[2 * k + 1 + 1]? = some q') (hv : v q < v q') : suL v p (n + 1) h k acc = suL v p n (h.set k q) (2 * k + 1) (acc ++ [(q, q')]) := by
 show (ite _ (ite _ (ite _ _ _) _) _) = _
 rw [if_pos (List.getElem?_eq_some_iff.mp hq).1, if_pos (List.getElem?_eq_some_iff.mp hq').1, getD_at hq, getD_at hq', if_pos hv]
theorem suL_ge {v : Pl → Int} {p q q' : Pl} {n k : Nat} {h : List Pl} {acc : List (Pl × Pl)} (hq : h[2 * k + 1]? = some q) (hq' : h[2 * k + 1 + 1]? = some q') (hv : ¬ v q < v q') : suL v p (n + 1) h k acc = suL v p n (h.set k q') (2 * k + 1 + 1) (acc ++ [(q, q')]) := by
 show (ite _ (ite _ (ite _ _ _) _) _) = _
 rw [if_pos (List.getElem?_eq_some_iff.mp hq).1, if_pos (List.getElem?_eq_some_iff.mp hq').1, getD_at hq, getD_at hq', if_neg hv]
theorem su (w : World) (kw : KW) (h : List Pl) (p : Pl) (hp : Nat) (n : Nat) (ask : Array Value) (na : Nat) (t : Tok) (hk : h[0]? = some p) (hl : h.length ≤ 3) (hne : hp ≠ kw.asked) (hL : LtOk w kw) (hz : ask.size ≤ 890) :
  CallSpec w 410 (.ref 49) [.ref hp, .int 0 t] [(hp, listOf (krefs kw h) n), (kw.asked, listOf ask na)] kw.In
   (fun r pass' => r = .none ∧ HL kw hp ask (suL kw.val p 3 h 0 []).1 (suL kw.val p 3 h 0 []).2 pass') := by
 try (unfold CallSpec prog; k_fill; fail)
 refine' spec_def (binds := [(Str.ofString "heap", .ref hp), (Str.ofString "pos", .int 0 t)]) ?ho ?hcd ?hroom ?hb ?hl ?_ ?hc ?h1 ?h2 ?h3
 case ho => k_is
 case hcd => k_is
 case hroom => decide
 case hb => intro s _; exact BindsTo.of_eq rfl
 case hl => exact locs rfl
 case hc => decide
 case h1 => exact rfl
 case h2 => exact rfl
 case h3 => exact rfl
 intro mg mb g L s₀ s Q X T hpre hL' S ret
 have K := HC.of S X T hpre hL rfl (Nat.le_of_ble_eq_true rfl) (Nat.le_of_ble_eq_true rfl)
 have hkl := (List.getElem?_eq_some_iff.mp hk).1
 have hl5 : h.length ≤ 5 := Nat.le_trans hl (by decide)
 have r0 : HL kw hp ask h [] [(hp, listOf (krefs kw h) n), (kw.asked, listOf ask na)] := ⟨n, na, ask, rfl, grew0 _⟩
 obtain ⟨fin, hfin⟩ : ∃ f, f = suL kw.val p 3 h 0 [] := ⟨_, rfl⟩
 refine Cx.seq (Cx.asgH S (r0.len X T rfl hl5 rfl rfl) rfl fun t1 s S => ?_)
 refine Cx.seq (Cx.asgV S (Cx.V.name rfl rfl) rfl fun s S => ?_)
 refine Cx.seq (Cx.asgVh S (r0.item (k := 0) rfl (Cx.I.name rfl rfl) hk hl5 rfl) rfl fun s S => ?_)
 refine Cx.seq (Cx.asgI S (Cx.I.add (Cx.I.dbl (Cx.I.name rfl rfl)) Cx.I.const) rfl fun t2 s S => ?_)
 refine Cx.hide (R := UF kw hp p 0 h.length) S ⟨⟨rfl, rfl, ⟨_, rfl⟩, ⟨_, rfl⟩⟩, ⟨_, rfl⟩, ⟨_, rfl⟩⟩ fun m s S fm => ?_
 refine Cx.seq (Cx.whileB (UJ kw hp ask p fin) (UR kw hp ask p fin) (n₀ := 3) S (.mk h 0 [] fm r0 (by lia) hkl hl (Nat.le_refl _) hfin.symm) (fun n m N s S hJ => ?_) fun m N s S hR => ?_)
 ·obtain ⟨h, k, acc, fm, r, hn, hk, hl, ha, e⟩ := hJ
  have hl5 : h.length ≤ 5 := Nat.le_trans hl (by decide)
  refine Cx.wtI S (.of (Cx.T.lt (Cx.I.nameE fm.child rfl) (Cx.I.nameE fm.endp rfl))) (fun hlt s S => ?_) fun hlt s S => ?_
  ·have h0 : 2 * k + 1 < h.length := Int.ofNat_lt.mp hlt
   obtain ⟨n, rfl⟩ : ∃ n', n = n' + 1 := ⟨n - 1, by lia⟩
   have hq := List.getElem?_eq_getElem h0
   refine Cx.seq (Cx.asgI S (Cx.I.cast (j := ((2 * k + 1 + 1 : Nat) : Int)) (Cx.I.add (Cx.I.nameE fm.child rfl) Cx.I.const) rfl) rfl fun t1 s S => ?_)
   refine Cx.seq (Cx.ifWJ (UK kw hp ask p fin n h k) S (Cx.Tw.and (.of (Cx.T.lt (Cx.I.name rfl rfl) (Cx.I.nameE fm.endp rfl))) fun hlt => Cx.Tw.not (r.lt K hne (r.item (k := 2 * k + 1) fm.heap (Cx.I.nameE fm.child rfl) hq hl5 rfl) (r.item (k := 2 * k + 1 + 1) fm.heap (Cx.I.name rfl rfl) (getD_some p (Int.ofNat_lt.mp hlt)) hl5 rfl) (by lia))) (fun N' s hy S => ?_) (fun N' s hy S2 => ?_) fun m N s hK S => ?_)
   ·obtain ⟨hlt, hv, r⟩ := hy
    have hr : 2 * k + 1 + 1 < h.length := Int.ofNat_lt.mp hlt
    exact Cx.seq (Cx.asgI S (Cx.I.name rfl rfl) rfl fun t2 s S => Cx.nil (.mk S (.mk (2 * k + 1 + 1) _ _ ⟨fm.heap, fm.new, fm.st, fm.pos⟩ ⟨_, rfl⟩ fm.endp r (by lia) (getD_some p hr) (by rw [List.length_append]; show _ + 1 + _ ≤ _; lia) ((suL_ge hq (getD_some p hr) hv).symm.trans e))))
   ·rcases hy with ⟨rfl, hlt⟩ | ⟨hlt, hv, r⟩
    ·refine Cx.nil (.mk S2 ?_)
     exact .mk (2 * k + 1) _ _ ⟨fm.heap, fm.new, fm.st, fm.pos⟩ fm.child fm.endp r (by lia) hq (by lia) ((suL_one hq fun z => hlt (Int.ofNat_lt.mpr z)).symm.trans e)
    ·have hr : 2 * k + 1 + 1 < h.length := Int.ofNat_lt.mp hlt
     refine Cx.nil (.mk S2 ?_)
     exact .mk (2 * k + 1) _ _ ⟨fm.heap, fm.new, fm.st, fm.pos⟩ fm.child fm.endp r (by lia) hq (by rw [List.length_append]; show _ + 1 + _ ≤ _; lia) ((suL_lt hq (getD_some p hr) hv).symm.trans e)
   ·obtain ⟨c, q, acc, fm, hc, he, r, hkc, hq, ha, e⟩ := hK
    have hcl := (List.getElem?_eq_some_iff.mp hq).1
    refine Cx.seq (HL.put S r hne fm.heap (r.item fm.heap (Cx.I.nameE hc rfl) hq hl5 rfl) (Cx.I.nameE fm.pos rfl) hk hl5 rfl fun N s r S => ?_)
    refine Cx.seq (Cx.asgI S (Cx.I.nameE hc rfl) rfl fun t2 s S => ?_)
    refine Cx.seq (Cx.asgI S (Cx.I.cast (j := ((2 * c + 1 : Nat) : Int)) (Cx.I.add (Cx.I.dbl (Cx.I.name rfl rfl)) Cx.I.const) rfl) rfl fun t3 s S => ?_)
    exact Cx.nil (.next S (Nat.lt_succ_self n) (.mk _ c _ ⟨⟨fm.heap, fm.new, fm.st, ⟨_, rfl⟩⟩, ⟨_, rfl⟩, by rw [List.length_set]; exact he⟩ r (by rw [List.length_set]; lia) (by rw [List.length_set]; exact hcl) (by rw [List.length_set]; exact hl) ha e))
  ·exact .mk S (.mk h k acc fm.toSF r hk hl (by lia) ((suL_no fun z => hlt (Int.ofNat_lt.mpr z)).symm.trans e))
 ·obtain ⟨h', k', acc, fm, r, hk, hl, ha, e⟩ := hR
  refine Cx.seq (HL.put S r hne fm.heap (.of (Cx.V.name fm.new rfl)) (Cx.I.nameE fm.pos rfl) hk (Nat.le_trans hl (by decide)) rfl fun N' s r S => ?_)
  refine Cx.seq (HL.sd S r K hne fm.heap (Cx.I.nameE fm.st rfl) (.of (Cx.I.nameE fm.pos rfl)) (p := p) (List.getElem?_set_self hk) (by lia) (by rw [List.length_set]; lia) (by lia) (Nat.le_of_ble_eq_true rfl) (Nat.le_of_ble_eq_true rfl) fun N' s r S => ?_)
  exact Cx.nil (ret _ _ _ _ _ S (fun _ h => h) ⟨rfl, by rw [← hfin, ← e]; exact r⟩)
theorem krefs_push (kw : KW) (h : List Pl) (p : Pl) : (krefs kw h).push (.ref (kw.addr p)) = krefs kw (h ++ [p]) := by
 rw [krefs, krefs, List.map_append, List.push_toArray]; rfl
theorem pu (w : World) (kw : KW) (h : List Pl) (p : Pl) (hp : Nat) (n : Nat) (ask : Array Value) (na : Nat) (hl : h.length ≤ 2) (hne : hp ≠ kw.asked) (hL : LtOk w kw) (hz : ask.size ≤ 880) :
  CallSpec w 400 (.ref 28) [.ref hp, .ref (kw.addr p)] [(hp, listOf (krefs kw h) n), (kw.asked, listOf ask na)] kw.In
   (fun r pass' => HL kw hp ask (hpush kw.val h p).1 (hpush kw.val h p).2 pass') := by
 try (unfold CallSpec prog; k_fill; fail)
 refine' spec_def (binds := [(Str.ofString "heap", .ref hp), (Str.ofString "item", .ref (kw.addr p))]) ?ho ?hcd ?hroom ?hb ?hl ?_ ?hc ?h1 ?h2 ?h3
 case ho => k_is
 case hcd => k_is
 case hroom => decide
 case hb => intro s _; exact BindsTo.of_eq rfl
 case hl => exact locs rfl
 case hc => decide
 case h1 => exact rfl
 case h2 => exact rfl
 case h3 => exact rfl
 intro mg mb g L s₀ s Q X T hpre hL' S ret
 have K := HC.of S X T hpre hL rfl (Nat.le_of_ble_eq_true rfl) (Nat.le_of_ble_eq_true rfl)
 refine Cx.seq (Cx.doc S fun s S => ?_)
 refine Cx.seq (Cx.app_ref (N1 := [(hp, listOf (krefs kw (h ++ [p])) (n + 1)), (kw.asked, listOf ask na)]) S rfl rfl (by rw [← krefs_push]; exact .head fun q hq => by rw [List.mem_singleton.mp hq]; exact hne.symm) (by rw [krefs, List.size_toArray, List.length_map, sizeLine_eq]; lia) fun s S => ?_)
 have hl5 : (h ++ [p]).length ≤ 5 := by rw [List.length_append]; show _ + 1 ≤ 5; lia
 have r : HL kw hp ask (h ++ [p]) [] [(hp, listOf (krefs kw (h ++ [p])) (n + 1)), (kw.asked, listOf ask na)] := ⟨_, _, _, rfl, grew0 _⟩
 refine Cx.seq (HL.sd (k := h.length) (p := p) S r K hne rfl Cx.I.const (Cx.H.cast (Cx.H.sub1 (r.len X T rfl hl5 rfl rfl)) (by rw [List.length_append]; show ((h.length + 1 : Nat) : Int) - 1 = _; lia)) List.getElem?_concat_length (by lia) hl5 (by show ask.size + 0 ≤ 900; lia) (Nat.le_of_ble_eq_true rfl) (Nat.le_of_ble_eq_true rfl) fun N' s r S => ?_)
 exact Cx.nil (ret _ _ _ _ _ S (fun _ h => h) (by rw [← push_is kw.val h p hl]; exact r))
theorem HL.su {C : Cx} {s₀ s : Shared} {m mg mb : Str → Option Value} {N : List (Addr × Obj)} {Q : Flow → Shared → Prop} {kw : KW} {hp : Nat} {ask0 : Array Value} {h : List Pl} {acc : List (Pl × Pl)} {x : Str} {e2 : Expr} {p : Pl} {p1 p2 p3 pos : Pos} (S : C.St s₀ m N s) (r : HL kw hp ask0 h acc N) (K : HC C kw mg mb) (hne : hp ≠ kw.asked) (hm : m x = some (.ref hp)) (H2 : C.I m e2 0) (hk : h[0]? = some p) (hl : h.length ≤ 3) (hz : ask0.size + acc.length ≤ 890) (hd : C.A.depth ≤ 410) (hu : C.A.units ≤ 4100)
  (ret : ∀ N' s', HL kw hp ask0 (suL kw.val p 3 h 0 []).1 (acc ++ (suL kw.val p 3 h 0 []).2) N' → C.St s₀ m N' s' → Q .next s') (hx : C.lc x = true := by rfl) (hg : C.gl (Str.ofString "_siftup") = true := by rfl)
  (h1 : ∀ env, starEach [e2] env = [(false, eval e2 env)] := by intro _; rfl)
  (hc : eval (.Call (.Name (Str.ofString "_siftup") p1) [.Name x p2, e2] [] p3) C.env = (do callWith p3 (← eval (.Name (Str.ofString "_siftup") p1) C.env) [] (backTo p3 (starEach [.Name x p2, e2] C.env)) (backToKw p3 (keywordEach [] C.env))) := by rfl)
  (hi : interactive C.env = false := by rfl) (hs : swapsWith (.Call (.Name (Str.ofString "_siftup") p1) [.Name x p2, e2] [] p3) none pos.line C.env = pure false := by rfl) : C.Wp (.Expr (.Call (.Name (Str.ofString "_siftup") p1) [.Name x p2, e2] [] p3) pos) Q s := by
 refine wpAny_Expr_any (Call_ (Cx.V.glob K.X K.T (ns_su _) hg _ _ S.F fun tk => ?_) hc) hi hs
 refine callWith_K K.X (by k_is) (args_cons (Cx.V.name hm hx _ _ S.F fun tk => args_cons (H2 _ _ S.F fun t tk => args_nil ⟨K.X.keeps S.F.keep, ?_⟩) ?_)) rfl ?_
 ·obtain ⟨n, na, ask, rfl, g⟩ := r
  refine Cx.use (keep := []) (S.put (s₀ := s₀) S.F S.N) (Mine.su C.w kw h p hp n ask na t hk hl hne K.L (by rw [g.size]; exact hz)) K.X K.T off_nil (fun g st _ => kw.keeps _ _ K.k st) K.hh hd hu fun r pass' s S _ hpost => ?_
  obtain ⟨_, hr⟩ := hpost
  exact ret _ _ (hr.trans g) (S.sub fun p hp => List.mem_append_left _ hp)
 ·exact h1 _
 ·rw [h1]; rfl
theorem HL.swap {C : Cx} {s₀ s : Shared} {m : Str → Option Value} {N : List (Addr × Obj)} {Q : Flow → Shared → Prop} {kw : KW} {hp : Nat} {ask0 : Array Value} {a p : Pl} {l : List Pl} {acc : List (Pl × Pl)} {x y : Str} {k n1 n2 n3 : Nat} {p1 p2 p3 p4 p5 p6 p7 p8 p9 p10 p11 : Pos} (S : C.St s₀ m N s) (r : HL kw hp ask0 (a :: l) acc N) (hne : hp ≠ kw.asked) (hh : C.A.handled = none) (hl : (a :: l).length ≤ 5) (hm : m x = some (.ref hp)) (hy : m y = some (.ref (kw.addr p))) (hm2 : ∀ v, upd m y v x = some (.ref hp))
  (ret : ∀ N' s', HL kw hp ask0 (p :: l) acc N' → C.St s₀ (upd m y (.ref (kw.addr a))) N' s' → Q .next s') (hx : C.lc x = true := by rfl) (hx2 : C.lc y = true := by rfl)
  (hs : swapsWithSole [.Tuple [.Name y p1, .Subscript (.Name x p2) (.Constant (.int 0) n1 p3) p4] k p5] (.Tuple [.Subscript (.Name x p6) (.Constant (.int 0) n2 p7) p8, .Name y p9] n3 p10) p11.line C.env = pure false := by rfl)
  (hw : swappedStores [.Tuple [.Name y p1, .Subscript (.Name x p2) (.Constant (.int 0) n1 p3) p4] k p5] (.Tuple [.Subscript (.Name x p6) (.Constant (.int 0) n2 p7) p8, .Name y p9] n3 p10) C.env = pure none := by rfl) :
  C.Wp (.Assign [.Tuple [.Name y p1, .Subscript (.Name x p2) (.Constant (.int 0) n1 p3) p4] k p5] (.Tuple [.Subscript (.Name x p6) (.Constant (.int 0) n2 p7) p8, .Name y p9] n3 p10) p11) Q s := by
 refine Assign_Tuple (Tuple_ (args_cons ((show C.Vh m N _ _ from r.item (k := 0) (p := a) hm Cx.I.const rfl hl hx) s₀ s _ S fun s S => args_cons (Cx.V.name hy hx2 _ _ S.F fun tk => args_nil (kup_newTuple S.F S.N (fun D h' F' N' hD => ?_) ?_))))) hs hw
 ·refine unpackN_ F' N' (N'.isTup (.head _)) hh rfl rfl fun h' F' N' => ?_
  refine assignInOrder_cons (assign_Name (Cx.sto ((S.put F' N').sub fun p hp => .tail _ hp) hx2 fun s S => ?_))
  obtain ⟨n, na, ask, rfl, g⟩ := r
  refine assignInOrder_cons (kas_sub (Cx.V.name (hm2 _) hx _ _ S.F fun tk => Cx.I.const _ _ S.F fun t tk => ?_))
  exact ki_set (news' := [(hp, listOf (krefs kw (p :: l)) n), (kw.asked, listOf ask na)]) (q := (p :: l).map fun p => Value.ref (kw.addr p)) S.F S.N (by decide) (by decide) rfl (.head fun q hq => by rw [List.mem_singleton.mp hq]; exact hne.symm) fun h' F' N' => assignInOrder_nil (ret _ _ ⟨n, na, ask, rfl, g⟩ (S.put F' N'))
 ·rw [sizeLine_eq]; exact Nat.le_of_ble_eq_true rfl
theorem HL.some {C : Cx} {m : Str → Option Value} {N : List (Addr × Obj)} {kw : KW} {hp : Nat} {ask0 : Array Value} {a : Pl} {l : List Pl} {acc : List (Pl × Pl)} {x : Str} {pos : Pos} (r : HL kw hp ask0 (a :: l) acc N) (hm : m x = some (.ref hp)) (hl : (a :: l).length ≤ 5) (hx : C.lc x = true) : C.Th m N (.Name x pos) True := fun s₀ s Q S h1 _ => by
 obtain ⟨n, na, ask, rfl, g⟩ := r
 exact Cx.wtL (vs := (a :: l).map fun p => Value.ref (kw.addr p)) S hm (.head _) (by rw [List.length_map]; lia) (fun s S => h1 trivial s S) hx
theorem pp_no (v : Pl → Int) (a p : Pl) (t : List Pl) (hl : t.length ≤ 2) (hv : ¬ v a < v p) : hpp v (a :: t) p = (a :: t, p, [(a, p)]) := by
 match t, hl with
 | [], _ => exact if_neg hv
 | [_], _ => exact if_neg hv
 | [_, _], _ => exact if_neg hv
theorem pp (w : World) (kw : KW) (a : Pl) (l : List Pl) (p : Pl) (hp : Nat) (n : Nat) (ask : Array Value) (na : Nat) (hl : l.length ≤ 2) (hne : hp ≠ kw.asked) (hL : LtOk w kw) (hz : ask.size ≤ 880) :
  CallSpec w 400 (.ref 35) [.ref hp, .ref (kw.addr p)] [(hp, listOf (krefs kw (a :: l)) n), (kw.asked, listOf ask na)] kw.In
   (fun r pass' => r = .ref (kw.addr (hpp kw.val (a :: l) p).2.1) ∧ HL kw hp ask (hpp kw.val (a :: l) p).1 (hpp kw.val (a :: l) p).2.2 pass') := by
 try (unfold CallSpec prog; k_fill; fail)
 refine' spec_def (binds := [(Str.ofString "heap", .ref hp), (Str.ofString "item", .ref (kw.addr p))]) ?ho ?hcd ?hroom ?hb ?hl ?_ ?hc ?h1 ?h2 ?h3
 case ho => k_is
 case hcd => k_is
 case hroom => decide
 case hb => intro s _; exact BindsTo.of_eq rfl
 case hl => exact locs rfl
 case hc => decide
 case h1 => exact rfl
 case h2 => exact rfl
 case h3 => exact rfl
 intro mg mb g L s₀ s Q X T hpre hL' S ret
 have K := HC.of S X T hpre hL rfl (Nat.le_of_ble_eq_true rfl) (Nat.le_of_ble_eq_true rfl)
 have hl5 : (a :: l).length ≤ 5 := by rw [List.length_cons]; lia
 have r : HL kw hp ask (a :: l) [] [(hp, listOf (krefs kw (a :: l)) n), (kw.asked, listOf ask na)] := ⟨_, _, _, rfl, grew0 _⟩
 refine Cx.seq (Cx.doc S fun s S => ?_)
 refine Cx.seq (Cx.ifW S (Cx.Tw.and (r.some rfl hl5 rfl) fun _ => r.lt K hne (r.item (k := 0) (p := a) rfl Cx.I.const rfl hl5 rfl) (.of (Cx.V.name rfl rfl)) (by show ask.size + 0 ≤ 1000; lia)) (fun N' s hy S => ?_) fun N' s hy S => ?_)
 ·obtain ⟨_, hv, r⟩ := hy
  refine Cx.seq (HL.swap S r hne rfl hl5 rfl rfl (fun _ => rfl) fun N' s r S => ?_)
  refine Cx.seq (HL.su S r K hne rfl Cx.I.const (p := p) rfl (by rw [List.length_cons]; lia) (by show ask.size + 1 ≤ 890; lia) (Nat.le_of_ble_eq_true rfl) (Nat.le_of_ble_eq_true rfl) fun N' s r S => ?_)
  refine Cx.nil (Cx.seq (Cx.retV S (Cx.V.name rfl rfl) fun s S => ret _ _ _ _ _ S (fun _ h => h) ?_))
  rw [pp_is kw.val a p l hl hv]
  exact ⟨rfl, r⟩
 ·rcases hy with ⟨_, h⟩ | ⟨_, hv, r⟩
  ·exact absurd trivial h
  refine Cx.nil (Cx.seq (Cx.retV S (Cx.V.name rfl rfl) fun s S => ret _ _ _ _ _ S (fun _ h => h) ?_))
  rw [pp_no kw.val a p l hl hv]
  exact ⟨rfl, r⟩
end Mine
end
section
theorem Mine.wlLtKr : True := by
 k_with_none
 trivial
namespace Mine
noncomputable def valsOf (c : Nat → Int) (t : Nat) : List Value := [.int (Int.fmod (c 0) 7) (t + 44), .int (Int.fmod (c 1) 7) (t + 47), .int (Int.fmod (c 2) 7) (t + 50), .int (Int.fmod (c 3) 7) (t + 53), .int (Int.fmod (c 4) 7) (t + 56), .int (Int.fmod (c 5) 7) (t + 59), .int (Int.fmod (c 6) 7) (t + 62), .int (Int.fmod (c 7) 7) (t + 65), .int (Int.fmod (c 8) 7) (t + 68), .int (Int.fmod (c 9) 7) (t + 71)]
structure KIn (P : Params) (c : Nat → Int) (t : Nat) (h : Heap) : Prop where
 kl : ∀ q ∈ KL P c t, h.get? q.1 = some q.2
 vals : h.get? 346 = some (listO (valsOf c t) 10)
noncomputable def kwOf (P : Params) (c : Nat → Int) (t : Nat) : KW where
 asked := 354
 addr := fun p => 441 + 3 * p.val
 val := fun p => Int.fmod (c p.val) 7
 more := KIn P c t
 keeps := fun _ _ x k => ⟨fun q hq => k _ _ (x.kl q hq), k _ _ x.vals⟩
theorem kl_in {P : Params} {c : Nat → Int} {t : Nat} {h : Heap} (x : KIn P c t h) : (KL P c t).In h := fun _ _ e => x.kl _ (mem_of_lookupK e)
theorem vals_list {P : Params} {c : Nat → Int} {t : Nat} {h : Heap} (x : KIn P c t h) : h.IsList 346 (valsOf c t).toArray := ⟨_, x.vals, rfl, _, rfl⟩
theorem vals_get (c : Nat → Int) (t : Nat) (p : _root_.Fin 10) : (valsOf c t)[p.val]? = some (.int (Int.fmod (c p.val) 7) (t + 44 + 3 * p.val)) := by
 obtain ⟨p, hp⟩ := p
 match p, hp with
 | 0, _ => rfl
 | 1, _ => rfl
 | 2, _ => rfl
 | 3, _ => rfl
 | 4, _ => rfl
 | 5, _ => rfl
 | 6, _ => rfl
 | 7, _ => rfl
 | 8, _ => rfl
 | 9, _ => rfl
 | n + 10, h => exact absurd h (by lia)
theorem key_at (P : Params) (c : Nat → Int) (t : Nat) (p : _root_.Fin 10) : (KL P c t).lookup (441 + 3 * p.val) = some ⟨.ref 432, some (440 + 3 * p.val), .plain, #[some (.int (p.val : Int) (t + 179 + 5 * p.val))]⟩ := by
 obtain ⟨p, hp⟩ := p
 match p, hp with
 | 0, _ => rfl
 | 1, _ => rfl
 | 2, _ => rfl
 | 3, _ => rfl
 | 4, _ => rfl
 | 5, _ => rfl
 | 6, _ => rfl
 | 7, _ => rfl
 | 8, _ => rfl
 | 9, _ => rfl
 | n + 10, h => exact absurd h (by lia)
theorem keyd_at (P : Params) (c : Nat → Int) (t : Nat) (p : _root_.Fin 10) : (KL P c t).lookup (440 + 3 * p.val) = some ⟨.type "dict", none, .dict #[] 0, #[]⟩ := by
 obtain ⟨p, hp⟩ := p
 match p, hp with
 | 0, _ => rfl
 | 1, _ => rfl
 | 2, _ => rfl
 | 3, _ => rfl
 | 4, _ => rfl
 | 5, _ => rfl
 | 6, _ => rfl
 | 7, _ => rfl
 | 8, _ => rfl
 | 9, _ => rfl
 | n + 10, h => exact absurd h (by lia)
theorem vals_item {prog : Program} {w : World} {A : Around} {E : Value → Shared → Prop} {s : Shared} {value slice : PySem.Expr} {P : Params} {c : Nat → Int} {t : Nat} {p : _root_.Fin 10} {u : Tok} {h₀ : Heap} {L : Addr} {m : Str → Option Value} {Q : Value → Shared → Prop}
  (x : KIn P c t h₀) (F : Fr h₀ L s.heap m) (h : Q (.int (Int.fmod (c p.val) 7) (t + 44 + 3 * p.val)) s)
  (hs : subscripted slice false (.ref 346) (.int (p.val : Int) u) = operate [.ref 346, .int (p.val : Int) u] (getItem (.ref 346) (.int (p.val : Int) u)) := by with_unfolding_all rfl) :
  wpAny (model prog w) A (subscriptTail value slice (.ref 346) (.int (p.val : Int) u)) Q E s := by
 have hl : s.heap.IsList 346 (valsOf c t).toArray := (vals_list x).at fun o e => F.keep 346 o e
 exact tail_any hl.typeIs slot_list_getitem.lookup (wpAny_getItem_list hl (by lia) (by have := p.isLt; lia) (by have := vals_get c t p; simpa using this) h) hs
theorem nocell_of {sc : Scope} (h : (sc.names.all fun x => decide (x.2 ≠ NameKind.cell)) = true) : ∀ x ∈ sc.names, x.2 ≠ .cell := fun x hx => of_decide_eq_true (List.all_eq_true.mp h x hx)
theorem wlLtK0 : True := by
 k_with_none
 k_with "eval Name" => (k_here; k_dflt (refine' nameX_FK (K := KL _ _ _) ?F ?X ?c ?v ?_ ?a ?b; (case a => rfl); (case b => rfl); (case F => k_asm); (case X => exact kl_in (by assumption)); (case c => rfl); (case v => rfl); k_whole))
 k_with "subscriptTail" => (k_here; (with_reducible show wpAny _ _ (subscriptTail _ _ (Value.ref 346) (Value.int _ _)) _ _ _); (with_unfolding_all refine' vals_item ?x ?F ?_ ?hs; (case x => assumption); (case F => k_asm); (case hs => with_unfolding_all rfl); k_whole))
 trivial
structure DefT (x : FuncBody × Arguments × Scope) where
 b : List Stmt
 ps : Arguments
 sc : Scope
 h : EqT x (.stmts b, ps, sc)
noncomputable def cmpT (P : Params) : DefT (cmpDef P) := ⟨_, _, _, by with_unfolding_all exact EqT.refl⟩
noncomputable def ltT (P : Params) : DefT (ltDef P) := ⟨_, _, _, by with_unfolding_all exact EqT.refl⟩
theorem cmp_spec (w : World) (c : Nat → Int) (t : Nat) (px py : _root_.Fin 10) (t1 t2 : Tok) (ask : Array Value) (na : Nat) (hz : ask.size ≤ 1000) :
  CallSpec w 440 (.ref 371) [.int (px.val : Int) t1, .int (py.val : Int) t2] [(354, listOf ask na)] (KIn w.params c t)
   (fun r pass' => ∃ tk t', r = .int ((Int.fmod (c px.val) 7 - Int.fmod (c py.val) 7) * wei c) t' ∧ pass' = [(354, listOf (ask.push (.int (qn px py) tk)) (na + 1))]) := by
 unfold CallSpec prog
 k_fill
 intro mg mb s g Q E X T hkw st sz N hret
 have h371 := hkw.kl (371, _) (List.mem_cons_of_mem _ (List.mem_cons_of_mem _ (List.mem_cons_of_mem _ (List.mem_cons_of_mem _ (List.mem_cons_self ..)))))
 rw [(cmpT w.params).h.eq] at h371
 dsimp only [cmpT] at h371
 refine' enter_def (binds := [(Str.ofString "one", .int (px.val : Int) t1), (Str.ofString "two", .int (py.val : Int) t2)]) X T st sz N ?ho ?hcd ?hroom ?hb ?hl ?_ ?hc ?h1 ?h2 ?h3
 case ho => exact st _ _ h371
 case hcd => exact codeRec_of (Frag.In.keeps (kl_in hkw) st) (by kernel_rfl)
 case hroom => decide
 case hb => exact BindsTo.of_eq rfl
 case hl => exact locs rfl
 case hc => decide
 case h1 => exact rfl
 case h2 => exact rfl
 case h3 => exact rfl
 k_whole
 intro L' h' F' N' hL'
 clear N h371
 k_steps
 all_goals (refine' hret _ _ _ _ ?eA ?eB ?eC; (case eA => exact Fr.keep (by assumption)); (case eB => exact news_out (by assumption)); (case eC => exact ⟨_, _, rfl, rfl⟩))
theorem key_inst {P : Params} {c : Nat → Int} {t : Nat} {h : Heap} (x : KIn P c t h) (p : _root_.Fin 10) :
  InstAt h (441 + 3 * p.val) ⟨.ref 432, some (440 + 3 * p.val), .plain, #[some (.int (p.val : Int) (t + 179 + 5 * p.val))]⟩ 432 (some ⟨.type "dict", none, .dict #[] 0, #[]⟩) :=
 InstAt.of_K (kl_in x) (key_at P c t p) (keyd_at P c t p)
theorem fk_get (P : Params) (c : Nat → Int) (t : Nat) : plainGet (KL P c t) 432 (Str.ofString "obj") = true ∧ isClsIn (KL P c t) 432 = true ∧ findIn (KL P c t) (.ref 432) (Str.ofString "obj") = some (some (.ref 433)) ∧
  specialIn (KL P c t) (.ref 433) "__get__" = some (some (.builtin "member_descriptor.__get__")) ∧ takesIn (KL P c t) (.ref 433) = some true ∧ slotIn (KL P c t) 433 432 = some 0 ∧
  findIn (KL P c t) (.ref 432) "__lt__" = some (some (.ref 396)) ∧ isFn (KL P c t) (.ref 396) = true ∧ notFirst (KL P c t) 432 (.ref 432) = true ∧ keepIn (KL P c t) (.ref 371) = true :=
 ⟨by kernel_rfl, by kernel_rfl, by kernel_rfl, by kernel_rfl, by kernel_rfl, by kernel_rfl, by kernel_rfl, by kernel_rfl, by kernel_rfl, by kernel_rfl⟩
theorem key_obj {prog : Program} {w : World} {A : Around} {E : Value → Shared → Prop} {s : Shared} {P : Params} {c : Nat → Int} {t : Nat} {p : _root_.Fin 10} {h₀ : Heap} {L : Addr} {m : Str → Option Value} {expr : Bool} {Q : Value → Shared → Prop}
  (x : KIn P c t h₀) (F : Fr h₀ L s.heap m) (h : Q (.int (p.val : Int) (t + 179 + 5 * p.val)) { s with toks := s.toks + 1 }) : wpAny (model prog w) A (getAttr (.ref (441 + 3 * p.val)) (Str.ofString "obj") expr) Q E s := by
 obtain ⟨f1, f2, f3, f4, f5, f6, _⟩ := fk_get P c t
 exact get_slot (K := KL P c t) F (kl_in x) (key_inst ((kwOf P c t).keeps _ _ x F.keep) p) f1 f2 f3 f4 f5 f6 rfl rfl h
theorem cmp_call {w : World} {c : Nat → Int} {t : Nat} {px py : _root_.Fin 10} {t1 t2 : Tok} {ask : Array Value} {na : Nat} (hz : ask.size ≤ 1000)
  {mg mb : Str → Option Value} {A : Around} {s : Shared} {h₀ : Heap} {L : Addr} {m : Str → Option Value} {Q E : Value → Shared → Prop} (F : Fr h₀ L s.heap m) (N : News h₀ L s.heap [(354, listOf ask na)]) (X : (KN w.params).In h₀) (T : TR mg mb h₀) (x : KIn w.params c t h₀)
  (hh : A.handled = none) (hd : A.depth ≤ 440) (hu : A.units ≤ 4400)
  (ret : ∀ tk tk' t' h', Fr h₀ L h' m → News h₀ L h' [(354, listOf (ask.push (.int (qn px py) tk)) (na + 1))] → Q (.int ((Int.fmod (c px.val) 7 - Int.fmod (c py.val) 7) * wei c) t') { s with heap := h', toks := tk' }) :
  wpAny (model prog w) A (call (.ref 371) [.int (px.val : Int) t1, .int (py.val : Int) t2]) Q E s := by
 refine use_spec (keep := []) (cmp_spec w c t px py t1 t2 ask na hz) F (by simpa using N) X T off_nil (fun g st' _ => (kwOf w.params c t).keeps _ _ x st') hh hd hu fun r pass' h' tk' F' N' _ hp => ?_
 obtain ⟨tk, t', rfl, rfl⟩ := hp
 exact ret tk tk' t' h' F' (by simpa using N')
theorem wlLtK1 : True := by
 k_with "getAttr ref" => (k_here; (refine' key_obj ?x ?F ?_; (case x => assumption); (case F => k_asm); k_whole))
 k_with "callWith ref" => (k_here; (refine' callWith_K (K := KL _ _ _) ?k1 ?k2 ?_; (case k1 => exact kl_in (by assumption)); (case k2 => exact (fk_get _ _ _).2.2.2.2.2.2.2.2.2); k_whole))
 k_with "And" => ((with_reducible show Frag.In (KL _ _ _) _ ∧ _); (refine ⟨Frag.In.keeps (kl_in (by assumption)) (Fr.keep (by k_asm)), ?_⟩); try dsimp only [List.nil_append, List.cons_append])
 k_with "call ref" => (k_here; (refine' cmp_call ?z ?F ?N ?X ?T ?x rfl ?hd ?hu ?_; (case z => assumption); (case F => k_asm); (case N => k_asm); (case X => assumption); (case T => assumption); (case x => assumption); (case hd => exact Nat.le_of_ble_eq_true rfl); (case hu => exact Nat.le_of_ble_eq_true rfl); k_whole); intro _ _ _ _ _ _; (try dsimp only))
 trivial
theorem lt_spec (w : World) (c : Nat → Int) (t : Nat) (px py : _root_.Fin 10) (ask : Array Value) (na : Nat) (hz : ask.size ≤ 1000) :
  CallSpec w 436 (.ref 396) [.ref (441 + 3 * px.val), .ref (441 + 3 * py.val)] [(354, listOf ask na)] (KIn w.params c t)
   (fun r pass' => ∃ tk, r = .bool (decide ((Int.fmod (c px.val) 7 - Int.fmod (c py.val) 7) * wei c < 0)) ∧ pass' = [(354, listOf (ask.push (.int (qn px py) tk)) (na + 1))]) := by
 unfold CallSpec prog
 k_fill
 intro mg mb s g Q E X T hkw st sz N hret
 have h396 := hkw.kl (396, _) (List.mem_cons_of_mem _ (List.mem_cons_of_mem _ (List.mem_cons_of_mem _ (List.mem_cons_of_mem _ (List.mem_cons_of_mem _ (List.mem_cons_of_mem _ (List.mem_cons_of_mem _ (List.mem_cons_self ..))))))))
 rw [(ltT w.params).h.eq] at h396
 dsimp only [ltT] at h396
 refine' enter_def (binds := [(Str.ofString "self", .ref (441 + 3 * px.val)), (Str.ofString "other", .ref (441 + 3 * py.val))]) X T st sz N ?ho ?hcd ?hroom ?hb ?hl ?_ ?hc ?h1 ?h2 ?h3
 case ho => exact st _ _ h396
 case hcd => exact codeRec_of (Frag.In.keeps (kl_in hkw) st) (by kernel_rfl)
 case hroom => decide
 case hb => exact BindsTo.of_eq rfl
 case hl => exact locs rfl
 case hc => decide
 case h1 => exact rfl
 case h2 => exact rfl
 case h3 => exact rfl
 k_whole
 intro L' h' F' N' hL'
 clear N h396
 k_steps
 all_goals (refine' hret _ _ _ _ ?eA ?eB ?eC; (case eA => exact Fr.keep (by assumption)); (case eB => exact news_out (by assumption)); (case eC => exact ⟨_, rfl, rfl⟩))
theorem wei_pos (c : Nat → Int) : 1 ≤ wei c ∧ wei c ≤ 4 := by
 unfold wei
 rw [Int.fmod_eq_emod_of_nonneg _ (by decide)]
 lia
theorem sign_wei {a b w : Int} (h : 1 ≤ w ∧ w ≤ 4) : decide ((a - b) * w < 0) = decide (a < b) := by
 have h4 : w = 1 ∨ w = 2 ∨ w = 3 ∨ w = 4 := by lia
 rw [decide_eq_decide]
 rcases h4 with rfl | rfl | rfl | rfl <;> lia
theorem lt_ok (w : World) (c : Nat → Int) (t : Nat) : LtOk w (kwOf w.params c t) := by
 intro mg mb A E s h₀ L m news news' Q px py ask n hh hd hu X T hk F N hz U h1 h2
 have hk : KIn w.params c t h₀ := hk
 have xs : KIn w.params c t s.heap := (kwOf w.params c t).keeps _ _ hk F.keep
 have hm : (354, listOf ask n) ∈ news := by
  obtain ⟨pre, post, e, _, _, _⟩ := (U .none).split
  rw [e]
  exact List.mem_append_right _ (List.mem_cons_self ..)
 obtain ⟨_, _, _, _, _, _, f7, f8, f9, _⟩ := fk_get w.params c t
 refine cmp_ofLt (cmp_K (K := KL w.params c t) (x := 441 + 3 * px.val) (C := 432) (by have : cLine = 9900 := rfl; lia) F (kl_in hk) (key_inst xs px) (key_inst xs py).type f9 f7 f8 ?_)
 refine use_spec (pass := [(354, listOf ask n)]) (keep := news.filter fun p => decide (p.1 ≠ 354)) (lt_spec w c t px py ask n hz) F (fun p hp => ?_) X T (fun p hp q hq => ?_) (fun g st' _ => (kwOf w.params c t).keeps _ _ hk st') hh (by lia) (by lia) fun r pass' h' tk' F' N' _ hp => ?_
 ·rcases List.mem_append.mp hp with hp | hp
  ·rw [List.mem_singleton.mp hp]; exact N _ hm
  ·exact N _ (List.mem_filter.mp hp).1
 ·rw [List.mem_singleton.mp hp]
  exact Ne.symm (of_decide_eq_true (List.mem_filter.mp hq).2)
 ·obtain ⟨tk, rfl, rfl⟩ := hp
  have N2 : News h₀ L h' (news' (.int (qn px py) tk)) := by
   intro p hp
   obtain ⟨pre, post, e1, e2, n1, n2⟩ := (U (.int (qn px py) tk)).split
   rw [e2] at hp
   refine N' p ?_
   rcases List.mem_append.mp hp with hp | hp
   ·exact List.mem_append_right _ (List.mem_filter.mpr ⟨by rw [e1]; exact List.mem_append_left _ hp, decide_eq_true (n1 p hp)⟩)
   ·rcases List.mem_cons.mp hp with rfl | hp
    ·exact List.mem_append_left _ (List.mem_cons_self ..)
    ·exact List.mem_append_right _ (List.mem_filter.mpr ⟨by rw [e1]; exact List.mem_append_right _ (List.mem_cons_of_mem _ hp), decide_eq_true (n2 p hp)⟩)
  rw [sign_wei (wei_pos c)]
  by_cases hlt : Int.fmod (c px.val) 7 < Int.fmod (c py.val) 7
  ·rw [decide_eq_true hlt]
   exact h1 h' tk' tk F' N2 hlt
  ·rw [decide_eq_false hlt]
   exact h2 h' tk' tk F' N2 hlt
end Mine
end
section
namespace Mine
noncomputable def offDef (P : Params) : FuncBody × Arguments × Scope := defOf ((bodyAt (Mine.sur.o_457 P))[0]?.getD default)
noncomputable def offT (P : Params) : DefT (offDef P) := ⟨_, _, _, by with_unfolding_all exact EqT.refl⟩
noncomputable def offO (P : Params) (cs ch : Addr) (doc pm : Value) (cd : Addr) (ct : Value) : Obj := fnMade (Str.ofString "offer") (Str.ofString "_law_heap.<locals>.offer") (offT P).ps (offT P).b (offT P).sc [(Str.ofString "size", cs), (Str.ofString "handed", ch)] doc pm cd ct
structure OffIn (P : Params) (f cs ch hd : Addr) (z : Nat) (g : Heap) : Prop where
 fn : ∃ doc pm cd ct, g.get? f = some (offO P cs ch doc pm cd ct) ∧ g.CodeRec (.ref cd) (Str.ofString "_law_heap.<locals>.offer")
 cs : ∃ o t, g.get? cs = some o ∧ o.data = .cell (some (.int (z : Int) t))
 ch : ∃ o, g.get? ch = some o ∧ o.data = .cell (some (.ref hd))
theorem OffIn.keeps {P : Params} {f cs ch hd : Addr} {z : Nat} {g h : Heap} (x : OffIn P f cs ch hd z g) (k : ∀ b o, g.get? b = some o → h.get? b = some o) : OffIn P f cs ch hd z h :=
 ⟨x.fn.imp fun _ z => z.imp fun _ z => z.imp fun _ z => z.imp fun _ z => ⟨k _ _ z.1, z.2.keeps k⟩, x.cs.imp fun _ z => z.imp fun _ z => ⟨k _ _ z.1, z.2⟩, x.ch.imp fun _ z => ⟨k _ _ z.1, z.2⟩⟩
inductive OPost (kw : KW) (hp hd : Addr) (z : Nat) (heap : List Pl) (p : Pl) (ask hnd : Array Value) (r : Value) (pass' : List (Addr × Obj)) : Prop
 | mk (hr : r = .ref hp) (n' : Nat) (ask' : Array Value) (na' : Nat) (hnd' : Array Value) (nh' : Nat) (hp : pass' = [(hp, listOf (krefs kw (ostep kw.val z ⟨heap, [], []⟩ p).heap) n'), (kw.asked, listOf ask' na'), (hd, listOf hnd' nh')])
  (hG : Grew ask ask' (ostep kw.val z ⟨heap, [], []⟩ p).qs) (hH : hnd' = hnd ++ krefs kw (ostep kw.val z ⟨heap, [], []⟩ p).out)
theorem OPost.of {kw : KW} {hp hd : Addr} {z : Nat} {heap : List Pl} {p : Pl} {ask hnd : Array Value} (h' : List Pl) (q' : List (Pl × Pl)) (o' : List Pl) {n' na' nh' : Nat} {ask' hnd' : Array Value} (e : ostep kw.val z ⟨heap, [], []⟩ p = ⟨h', q', o'⟩) (hg : Grew ask ask' q') (ho : hnd' = hnd ++ krefs kw o') :
  OPost kw hp hd z heap p ask hnd (.ref hp) [(hp, listOf (krefs kw h') n'), (kw.asked, listOf ask' na'), (hd, listOf hnd' nh')] :=
 ⟨rfl, n', ask', na', hnd', nh', by rw [e], by rw [e]; exact hg, by rw [e]; exact ho⟩
theorem out0 (a : Array Value) (kw : KW) : a = a ++ krefs kw [] := by simp [krefs]
theorem out1 (a : Array Value) (kw : KW) (x : Pl) : a.push (.ref (kw.addr x)) = a ++ krefs kw [x] := by simp [krefs]
noncomputable abbrev cxC (w : World) (d : Nat) (qual : Str) (scope : Scope) (f : Addr) (cdv : Value) (cl : List (Str × Addr)) (g : Heap) (L : Addr) : Cx :=
 { w := w, A := (AA d).deeper (envX qual scope L f cdv cl), E := fun _ _ => False, cn := qual, cs := scope, a := f, cd := cdv, cl := cl, L := L, g := g }
theorem enter_cl {w : World} {d : Nat} {mg mb : Str → Option Value} {s : Shared} {g : Heap} {pass : List (Addr × Obj)} {f : Addr} {args : List Value} {binds : List (Str × Value)} {Q E : Value → Shared → Prop}
  {name qual : Str} {params : Arguments} {body : List Stmt} {scope : Scope} {cl : List (Str × Addr)} {dV kV doc pm cdv ct oc : Value} {an od : Option Addr} {osl : Array (Option Value)}
  (X : (KN w.params).In g) (T : TR mg mb g) (st : ∀ b o, g.get? b = some o → s.heap.get? b = some o) (sz : g.objs.size ≤ s.heap.objs.size) (N : ∀ p ∈ pass, s.heap.get? p.1 = some p.2 ∧ g.get? p.1 = none)
  (ho : g.get? f = some ⟨oc, od, .func (fnX name qual params body scope cl dV kV doc pm an cdv ct), osl⟩) (hcd : g.CodeRec cdv qual) (hroom : d < recursionLimit)
  (hbind : BindsTo s (fnX name qual params body scope cl dV kV doc pm an cdv ct) ⟨args, []⟩ binds) (hloc : ∀ y ∈ binds, scope.names.lookup y.1 = some .local)
  (h : ∀ L s₁, (cxC w d qual scope f cdv cl g L).St s (fun y => binds.reverse.lookup y) pass s₁ → (∀ v s' m N (pass' : List (Addr × Obj)), (cxC w d qual scope f cdv cl g L).St s m N s' → (∀ p ∈ pass', p ∈ N) → (∀ h' tk', (∀ b o, g.get? b = some o → h'.get? b = some o) → (∀ p ∈ pass', h'.get? p.1 = some p.2 ∧ g.get? p.1 = none) → Q v { s with heap := h', toks := tk' }) → Q v s') →
   (cxC w d qual scope f cdv cl g L).Ws body (fun fl s' => Q (match fl with | .ret v => v | _ => .none) s') s₁)
  (hcell : ∀ x ∈ scope.names, x.2 ≠ .cell) (hco : scope.isCoroutine = false := by rfl) (hgen : scope.isGenerator = false := by rfl) (hk : scope.kind = .function := by rfl) : wpAny (model prog w) (AA d) (call (.ref f) args) Q E s := by
 refine enter_def (binds := binds) X T st sz N (st _ _ ho) (hcd.keeps st) hroom hbind hloc (fun L h₁ F1 N1 hL => h L _ ⟨Same.start _ _, F1, N1⟩ fun v s' m N' pass' S hp k => ?_) hcell hco hgen hk
 rw [S.e.e]
 exact k _ _ (Fr.keep S.F) fun p q => ⟨(S.N p (hp p q)).1, (S.N p (hp p q)).2.2⟩
section
variable {C : Cx} {s₀ s : Shared} {m : Str → Option Value} {N : List (Addr × Obj)} {Q : Flow → Shared → Prop}
noncomputable def Cx.fr (C : Cx) (x : Str) : Bool := decide (C.cs.kind = .function) && decide (C.env.kindOf x = some .free) && !(x == ("__debug__" : Str)) && !(x == ("__classdict__" : Str))
theorem Cx.V.free {x : Str} {c : Addr} {o : Obj} {v : Value} {pos : Pos} (hc : C.cl.lookup x = some c) (ho : C.g.get? c = some o) (hd : o.data = .cell (some v)) (hx : C.fr x = true) : C.V m (.Name x pos) v := fun s _ F h => by
 unfold Cx.fr at hx
 simp only [Bool.and_eq_true, decide_eq_true_eq, Bool.not_eq_true'] at hx
 exact wpAny_Name (wpAny_loadName_free hx.1.1.1 hx.1.1.2 hc ⟨_, F.keep _ _ ho, hd⟩ (h s.toks) hx.2) hx.1.2
theorem Cx.I.ofV {e : Expr} {i : Int} {t : Tok} (H : C.V m e (.int i t)) : C.I m e i := fun s Q F h => H s Q F (h t)
theorem Cx.Th.lt {x y : Expr} {i j : Int} {pos : Pos} (hx : C.H m N x i) (hy : C.H m N y j) (hm : behindInMarks .Lt y = false := by with_unfolding_all rfl) : C.Th m N (.Compare x [.Lt] [y] pos) (i < j) := by
 intro s₀ s Q S h1 h2
 refine wpAny_isTrue_Compare1 (hx s₀ s _ S fun t s S => hy s₀ _ _ S fun t' s S => ?_) hm
 refine lt_int (wpAny_truthy_bool ?_)
 by_cases q : i < j
 ·rw [decide_eq_true q]; exact h1 q _ (S.put S.F S.N)
 ·rw [decide_eq_false q]; exact h2 q _ (S.put S.F S.N)
theorem Cx.H.len {mg mb : Str → Option Value} {x : Str} {a n : Nat} {vs : Array Value} {p1 p2 pos : Pos} (X : (KN C.w.params).In C.g) (T : TR mg mb C.g) (hm : m x = some (.ref a)) (hN : (a, listOf vs n) ∈ N) (hz : (vs.size : Int) < 2 ^ 63) (hx : C.lc x = true) (hg : C.gl (Str.ofString "len") = true)
  (hc : eval (.Call (.Name (Str.ofString "len") p1) [.Name x p2] [] pos) C.env = (do callWith pos (← eval (.Name (Str.ofString "len") p1) C.env) [] (backTo pos (starEach [.Name x p2] C.env)) (backToKw pos (keywordEach [] C.env))) := by rfl) :
  C.H m N (.Call (.Name (Str.ofString "len") p1) [.Name x p2] [] pos) (vs.size : Int) := fun s₀ s Q S k => by
 refine Call_ (Cx.V.bltn X T (ns_len _) boot_len (by decide) hg _ _ S.F fun tk => ?_) hc
 exact callWith_builtin1 (args_cons (Cx.V.name hm hx _ _ S.F fun tk => args_nil (len_list ⟨_, (S.N _ hN).1, rfl, _, rfl⟩ hz (k _ _ (S.put S.F S.N)))))
end
theorem ns_hpush (P : Params) : nsIn (KN P) mainGlobals (Str.ofString "heappush") = some (some (.ref 28)) := by kernel_rfl
theorem ns_hpp (P : Params) : nsIn (KN P) mainGlobals (Str.ofString "heappushpop") = some (some (.ref 35)) := by kernel_rfl
theorem off_one {a b c : Addr × Obj} (h1 : a.1 ≠ c.1) (h2 : b.1 ≠ c.1) : ∀ p ∈ [a, b], ∀ q ∈ [c], p.1 ≠ q.1 := fun p hp q hq => by
 rw [List.mem_singleton.mp hq]
 rcases List.mem_cons.mp hp with rfl | hp
 ·exact h1
 ·rw [List.mem_singleton.mp hp]; exact h2
theorem off_all (w : World) (kw : KW) (heap : List Pl) (p : Pl) (f cs ch hp hd : Addr) (z : Nat) (n : Nat) (ask : Array Value) (na : Nat) (hnd : Array Value) (nh : Nat) (hne : hp ≠ kw.asked) (hne1 : hp ≠ hd) (hne2 : kw.asked ≠ hd) (hL : LtOk w kw) (hz : ask.size ≤ 870) (hzh : hnd.size ≤ 100)
  (h1 : 1 ≤ z) (h3 : z ≤ 3) (hl : heap.length ≤ z) :
  CallSpec w 396 (.ref f) [.ref hp, .ref (kw.addr p)] [(hp, listOf (krefs kw heap) n), (kw.asked, listOf ask na), (hd, listOf hnd nh)] (fun g => kw.In g ∧ OffIn w.params f cs ch hd z g)
   (OPost kw hp hd z heap p ask hnd) := by
 try (unfold CallSpec prog; k_fill; fail)
 intro mg mb s g Q E X T hpre st sz N hret
 obtain ⟨hkw, ⟨doc, pm, cd, ct, hfo, hfc⟩, ⟨ocs, tcs, hcs, dcs⟩, och, hch, dch⟩ := hpre
 unfold offO at hfo
 dsimp only [offT] at hfo
 refine' enter_cl (binds := [(Str.ofString "heap", .ref hp), (Str.ofString "key", .ref (kw.addr p))]) X T st sz N hfo hfc ?hroom ?hb ?hl ?_ ?hc ?h1 ?h2 ?h3
 case hroom => decide
 case hb => exact BindsTo.of_eq rfl
 case hl => exact locs rfl
 case hc => decide
 case h1 => exact rfl
 case h2 => exact rfl
 case h3 => exact rfl
 intro L s₁ S ret
 have hsz : (krefs kw heap).size = heap.length := by rw [krefs, List.size_toArray, List.length_map]
 refine Cx.seq (Cx.ifW S (.of (Cx.Th.lt (Cx.H.len X T rfl (.head _) (by rw [hsz]; lia) rfl rfl) (.of (.ofV (Cx.V.free rfl hcs dcs rfl))))) (fun N' s' hy S => ?_) fun N' s' hy S => ?_)
 ·obtain ⟨rfl, hlt⟩ := hy
  rw [hsz] at hlt
  have hlt := Int.ofNat_lt.mp hlt
  refine Cx.seq (wpAny_Expr_any (Call_ (Cx.V.glob X T (ns_hpush _) rfl _ _ S.F fun tk => callWith_K X (by k_is) (args_cons (Cx.V.name rfl rfl _ _ S.F fun tk => args_cons (Cx.V.name rfl rfl _ _ S.F fun tk => args_nil ⟨X.keeps S.F.keep, ?_⟩)))) rfl) rfl rfl)
  refine Cx.use (pass := [(hp, listOf (krefs kw heap) n), (kw.asked, listOf ask na)]) (keep := [(hd, listOf hnd nh)]) (S.put (s₀ := s) S.F S.N) (pu w kw heap p hp n ask na (by lia) hne hL (by lia)) X T (off_one hne1 hne2) (fun g st _ => kw.keeps _ _ hkw st) rfl (Nat.le_of_ble_eq_true rfl) (Nat.le_of_ble_eq_true rfl) fun r pass' s' S _ hr => ?_
  obtain ⟨n', na', ask', rfl, hg⟩ := hr
  refine Cx.nil (Cx.seq (Cx.retV S (Cx.V.name rfl rfl) fun s' S => ret _ _ _ _ _ S (fun _ h => h) fun h' tk' k1 k2 => hret _ _ h' tk' k1 k2 (OPost.of (hpush kw.val heap p).1 _ [] ?_ hg (out0 _ _))))
  exact if_pos hlt
 ·obtain ⟨rfl, hlt⟩ := hy
  rw [hsz] at hlt
  have hlt : ¬ heap.length < z := fun q => hlt (Int.ofNat_lt.mpr q)
  cases heap with
  | nil => exact absurd h1 hlt
  | cons a l =>
   refine Cx.seq (wpAny_Expr_any (MethodCall_ (Cx.V.free rfl hch dch rfl _ _ S.F fun tk => listMethod_K S.N (.tail _ (.tail _ (.head _))) PySem.F.slot_list_append PySem.F.type_list_append (callWith_method1 (args_cons (Call_ (Cx.V.glob X T (ns_hpp _) rfl _ _ S.F fun tk => callWith_K X (by k_is) (args_cons (Cx.V.name rfl rfl _ _ S.F fun tk => args_cons (Cx.V.name rfl rfl _ _ S.F fun tk => args_nil ⟨X.keeps S.F.keep, ?_⟩)))) rfl)))) rfl) rfl rfl)
   refine Cx.use (pass := [(hp, listOf (krefs kw (a :: l)) n), (kw.asked, listOf ask na)]) (keep := [(hd, listOf hnd nh)]) (S.put (s₀ := s) S.F S.N) (pp w kw a l p hp n ask na (by rw [List.length_cons] at hl; lia) hne hL (by lia)) X T (off_one hne1 hne2) (fun g st _ => kw.keeps _ _ hkw st) rfl (Nat.le_of_ble_eq_true rfl) (Nat.le_of_ble_eq_true rfl) fun r pass' s' S _ hr => ?_
   obtain ⟨rfl, n', na', ask', rfl, hg⟩ := hr
   refine args_nil (app_call S (.tail hne1 (.tail hne2 (.head fun _ h => nomatch h))) (by rw [sizeLine_eq]; lia) fun s' S => ?_)
   refine Cx.nil (Cx.seq (Cx.retV S (Cx.V.name rfl rfl) fun s' S => ret _ _ _ _ _ S (fun _ h => h) fun h' tk' k1 k2 => hret _ _ h' tk' k1 k2 (OPost.of (hpp kw.val (a :: l) p).1 _ [(hpp kw.val (a :: l) p).2.1] ?_ hg (out1 _ _ _))))
   exact if_neg hlt
end Mine
end
section
namespace Mine
theorem hpush_len (v : Pl → Int) (h : List Pl) (p : Pl) (hl : h.length ≤ 2) : (hpush v h p).1.length = h.length + 1 := by
 match h, hl with
 | [], _ => rfl
 | [a], _ => simp only [hpush]; split <;> rfl
 | [a, b], _ => simp only [hpush]; split <;> rfl
 | _ :: _ :: _ :: _, hl => simp at hl
theorem hpp_len (v : Pl → Int) (h : List Pl) (p : Pl) (hl : h.length ≤ 3) : (hpp v h p).1.length = h.length := by
 match h, hl with
 | [], _ => rfl
 | [a], _ => simp only [hpp]; split <;> rfl
 | [a, b], _ => simp only [hpp]; split <;> (try split) <;> rfl
 | [a, b, c], _ => simp only [hpp]; split <;> (try split) <;> (try split) <;> rfl
 | _ :: _ :: _ :: _ :: _, hl => simp at hl
theorem ostep_len (v : Pl → Int) (z : Nat) (hz : z ≤ 3) (s : FS) (p : Pl) (hl : s.heap.length ≤ z) : (ostep v z s p).heap.length ≤ z := by
 unfold ostep
 split
 ·rename_i h
  have := hpush_len v s.heap p (by lia)
  show (hpush v s.heap p).1.length ≤ z
  lia
 ·have := hpp_len v s.heap p (by lia)
  show (hpp v s.heap p).1.length ≤ z
  lia
theorem ostep_parts (v : Pl → Int) (z : Nat) (s : FS) (p : Pl) : ostep v z s p = ⟨(ostep v z ⟨s.heap, [], []⟩ p).heap, s.qs ++ (ostep v z ⟨s.heap, [], []⟩ p).qs, s.out ++ (ostep v z ⟨s.heap, [], []⟩ p).out⟩ := by
 unfold ostep
 dsimp only
 split <;> simp
theorem hpush_qs (v : Pl → Int) (h : List Pl) (p : Pl) : (hpush v h p).2.length ≤ 3 := by
 unfold hpush
 split <;> (try split) <;> simp
theorem hpp_qs (v : Pl → Int) (h : List Pl) (p : Pl) : (hpp v h p).2.2.length ≤ 3 := by
 unfold hpp
 split <;> (try split) <;> (try split) <;> (try split) <;> simp
theorem ostep_qs (v : Pl → Int) (z : Nat) (h : List Pl) (p : Pl) : (ostep v z ⟨h, [], []⟩ p).qs.length ≤ 3 ∧ (ostep v z ⟨h, [], []⟩ p).out.length ≤ 1 := by
 unfold ostep
 dsimp only
 split
 ·exact ⟨by simpa using hpush_qs v h p, by simp⟩
 ·exact ⟨by simpa using hpp_qs v h p, by simp⟩
noncomputable def ofold (v : Pl → Int) (z : Nat) (s : FS) (ps : List Pl) : FS := ps.foldl (ostep v z) s
end Mine
end
section
theorem Mine.wlRedAr : True := by
 k_with_none
 trivial
namespace Mine
inductive RPost (kw : KW) (hp hd : Addr) (z : Nat) (ps : List Pl) (ask hnd : Array Value) (r : Value) (pass' : List (Addr × Obj)) : Prop
 | mk (hr : r = .ref hp) (n' : Nat) (ask' : Array Value) (na' : Nat) (hnd' : Array Value) (nh' : Nat) (hp : pass' = [(hp, listOf (krefs kw (ofold kw.val z ⟨[], [], []⟩ ps).heap) n'), (kw.asked, listOf ask' na'), (hd, listOf hnd' nh')])
  (hG : Grew ask ask' (ofold kw.val z ⟨[], [], []⟩ ps).qs) (hH : hnd' = hnd ++ krefs kw (ofold kw.val z ⟨[], [], []⟩ ps).out)
theorem iter_list {w : World} {A : Around} {E : Value → Shared → Prop} {s : Shared} {h₀ : Heap} {L l : Addr} {m : Str → Option Value} {news : List (Addr × Obj)} {items : Array Value} {Q : Value → Shared → Prop} (F : Fr h₀ L s.heap m) (N : News h₀ L s.heap news) (hl : h₀.IsList l items)
  (h : ∀ (I : Addr) h', Fr h₀ L h' m → News h₀ L h' ((I, { cls := .type "list_iterator", data := .fields #[.ref l, .int 0 0] }) :: news) → (∀ p ∈ news, p.1 ≠ I) → Q (.ref I) { s with heap := h' }) :
  wpAny (model prog w) A (call (.builtin "iter") [.ref l]) Q E s := by
 refine call_function_entry (by decide +kernel) (by decide +kernel) kdk_entry_iter (kdk_args_iter _) ?_
 unfold Builtin.«iter»
 refine wpAny_bind (m := someArgs "iter" 1 2 _) (wpAny_of_eq (a := [Value.ref l]) (by first | rfl | kernel_rfl!) ?_)
 show wpAny _ _ (pyIter (.ref l) >>= _) _ _ _
 have hl' : s.heap.IsList l items := let ⟨o, e, r⟩ := hl; ⟨o, F.keep _ _ e, r⟩
 refine wpAny_bind (wpAny_pyIter_list hl' ?_)
 exact wpAny_pure ⟨_, rfl, h _ _ (F.push _) (News.push F N _ rfl) (fun q hq => Nat.ne_of_lt (Heap.lt_size (N q hq).1))⟩
theorem iter_self {w : World} {A : Around} {E : Value → Shared → Prop} {s : Shared} {h₀ : Heap} {L l I : Addr} {news : List (Addr × Obj)} {Q : Value → Shared → Prop} (N : News h₀ L s.heap ((I, { cls := .type "list_iterator", data := .fields #[.ref l, .int 0 0] }) :: news)) (h : Q (.ref I) s) :
  wpAny (model prog w) A (pyIter (.ref I)) Q E s := wpAny_pyIter_listiter (l := l) (i := 0) ⟨_, (N _ (.head _)).1, rfl, rfl⟩ h
theorem wlRedA0 : True := by
 k_with_none
 k_with "call builtin:iter" => (k_here; (refine' iter_list ?F ?N ?l ?_; (case F => assumption); (case N => assumption); (case l => assumption); k_whole); intro _ _ _ _ _)
 k_with "Nx" => (refine' hold_out ?_)
 trivial
theorem krefs_len (kw : KW) (l : List Pl) : (krefs kw l).size = l.length := by rw [krefs, List.size_toArray, List.length_map]
theorem krefs_append (kw : KW) (a b : List Pl) : krefs kw (a ++ b) = krefs kw a ++ krefs kw b := by simp [krefs]
theorem ofold_step (v : Pl → Int) (z : Nat) (s : FS) {ps : List Pl} {i : Nat} {p : Pl} (h : ps[i]? = some p) : ofold v z s (ps.take (i + 1)) = ostep v z (ofold v z s (ps.take i)) p := by
 unfold ofold
 rw [List.take_add_one, h, List.foldl_append]; rfl
theorem ofold_snoc (v : Pl → Int) (z : Nat) (s : FS) (ps : List Pl) (p : Pl) : ofold v z s (ps ++ [p]) = ostep v z (ofold v z s ps) p := by
 unfold ofold
 rw [List.foldl_append]; rfl
theorem rev_ind {P : List Pl → Prop} (h0 : P []) (h1 : ∀ l p, P l → P (l ++ [p])) (l : List Pl) : P l := by
 have : ∀ r : List Pl, P r.reverse := fun r => by
  induction r with
  | nil => exact h0
  | cons a r ih => rw [List.reverse_cons]; exact h1 _ _ ih
 simpa using this l.reverse
theorem ofold_len (v : Pl → Int) (z : Nat) (hz : z ≤ 3) (h1 : 1 ≤ z) (ps : List Pl) : (ofold v z ⟨[], [], []⟩ ps).heap.length ≤ z := by
 refine rev_ind (P := fun ps => (ofold v z ⟨[], [], []⟩ ps).heap.length ≤ z) (Nat.zero_le _) (fun l p ih => ?_) ps
 rw [ofold_snoc]
 exact ostep_len v z hz _ p ih
theorem ofold_bounds (v : Pl → Int) (z : Nat) (ps : List Pl) : (ofold v z ⟨[], [], []⟩ ps).qs.length ≤ 3 * ps.length ∧ (ofold v z ⟨[], [], []⟩ ps).out.length ≤ ps.length := by
 refine rev_ind (P := fun ps => (ofold v z ⟨[], [], []⟩ ps).qs.length ≤ 3 * ps.length ∧ (ofold v z ⟨[], [], []⟩ ps).out.length ≤ ps.length) ⟨Nat.le_refl _, Nat.le_refl _⟩ (fun l p ih => ?_) ps
 rw [ofold_snoc, ostep_parts]
 have := ostep_qs v z (ofold v z ⟨[], [], []⟩ l).heap p
 simp only [List.length_append, List.length_singleton]
 exact ⟨by lia, by lia⟩
theorem fn_fr {h₀ h : Heap} {L q : Addr} {m : Str → Option Value} (X : FnAt q h₀) (F : Fr h₀ L h m) : FnAt q h := let ⟨a, b, c, d, e⟩ := X; ⟨a, b, c, d, F.keep _ _ e⟩
theorem Cx.iterI {C : Cx} {s₀ s : Shared} {m : Str → Option Value} {N : List (Addr × Obj)} {Q : Flow → Shared → Prop} {tgt : PySem.Expr} {body : List Stmt} {ax I : Addr} {its : Array Value} (J : Nat → (Str → Option Value) → List (Addr × Obj) → Prop) (S : C.St s₀ m ((I, { cls := .type "list_iterator", data := .fields #[.ref ax, .int 0 0] }) :: N) s) (hh : C.A.handled = none) (hax : C.g.IsList ax its) (haL : ax ≠ C.L) (hIn : ∀ p ∈ N, p.1 ≠ I) (h0 : J 0 m N)
  (turn : ∀ i v own m N s, its[i]? = some v → (∀ p ∈ own, p.1 = I ∨ p.1 = ax) → (∀ p ∈ N, p.1 ≠ I) → J i m N → C.St s₀ m (N ++ own) s → wpAny (model Mine.prog C.w) C.A (assign tgt C.env v) (fun _ s' => C.Ws body (C.Tn s₀ I own (J (i + 1)) (J its.size)) s') C.E s)
  (done : ∀ m N s, J its.size m N → C.St s₀ m N s → Q .next s) : wpAny (model Mine.prog C.w) C.A (pyIter (.ref I)) (fun it s₂ => TurnsAt Mine.prog C.w C.A C.g C.env tgt body Q C.E it s₂) C.E s := by
 have hm := S.N _ (.head _)
 have hne : ax ≠ I := fun e => by
  obtain ⟨o, e1, _⟩ := hax
  rw [e, hm.2.2] at e1; cases e1
 refine iter_self S.N ?_
 refine turns_core (KTurns.ofWalks (target := tgt) (Walks.list (prog := Mine.prog) (w := C.w) (A := C.A) hh I ax hne its) fun i v s Q E st q => letGo_listiter st.1 q) J (J its.size) (fun hb => ?_) (fun b hb => by rw [List.mem_singleton.mp hb]; exact hm.2.2) (fun p hp hb => hIn p hp (List.mem_singleton.mp hb)) ⟨⟨_, hm.1, rfl, rfl⟩, S.F.lst hax⟩ S.F (fun p hp => S.N p (.tail _ hp)) h0 (fun i v m₁ news₁ h tk own hi hP hown hall hst hn hj F1 N1 => ?_) (fun _ _ _ hj => hj) fun m₁ news₁ h tk r F1 N1 => done _ _ _ r (S.put F1 N1)
 ·rcases List.mem_cons.mp hb with e | hb
  ·exact hm.2.1 e.symm
  ·exact haL (List.mem_singleton.mp hb).symm
 ·have S1 : C.St s₀ m₁ (news₁ ++ own) { s with heap := h, toks := tk } := S.put F1 N1
  exact wpAny_mono (turn i v own m₁ news₁ _ hP (fun p hp => (List.mem_cons.mp (hown p hp)).imp id List.mem_singleton.mp) (fun p hp e => hn p hp (by rw [e]; exact .head _)) hj S1) (fun _ s' q => wpAny_mono q (fun fl s'' z => z.w S1.e) fun _ _ x => x) fun _ _ x => x
structure RF (f hp I : Nat) (m : Str → Option Value) : Prop where
 fn : m (Str.ofString "function") = some (.ref f)
 val : m (Str.ofString "value") = some (.ref hp)
 it : m (Str.ofString "it") = some (.ref I)
inductive RJ (kw : KW) (f hp hd I : Nat) (z : Nat) (ps : List Pl) (ask hnd : Array Value) (i : Nat) (m : Str → Option Value) (N : List (Addr × Obj)) : Prop
 | mk (n' na' nh' : Nat) (ask' hnd' : Array Value) (fm : RF f hp I m) (hN : N = [(hp, listOf (krefs kw (ofold kw.val z ⟨[], [], []⟩ (ps.take i)).heap) n'), (kw.asked, listOf ask' na'), (hd, listOf hnd' nh')])
  (hG : Grew ask ask' (ofold kw.val z ⟨[], [], []⟩ (ps.take i)).qs) (hH : hnd' = hnd ++ krefs kw (ofold kw.val z ⟨[], [], []⟩ (ps.take i)).out)
theorem RJ.next {kw : KW} {f hp hd I : Nat} {z : Nat} {ps : List Pl} {ask hnd ask' hnd' ask2 hnd2 : Array Value} {m' : Str → Option Value} {i n2 na2 nh2 : Nat} {p : Pl} (hp1 : ps[i]? = some p) (hG : Grew ask ask' (ofold kw.val z ⟨[], [], []⟩ (ps.take i)).qs) (hH : hnd' = hnd ++ krefs kw (ofold kw.val z ⟨[], [], []⟩ (ps.take i)).out)
  (hG2 : Grew ask' ask2 (ostep kw.val z ⟨(ofold kw.val z ⟨[], [], []⟩ (ps.take i)).heap, [], []⟩ p).qs) (hH2 : hnd2 = hnd' ++ krefs kw (ostep kw.val z ⟨(ofold kw.val z ⟨[], [], []⟩ (ps.take i)).heap, [], []⟩ p).out) (fm : RF f hp I m') :
  RJ kw f hp hd I z ps ask hnd (i + 1) m' [(hp, listOf (krefs kw (ostep kw.val z ⟨(ofold kw.val z ⟨[], [], []⟩ (ps.take i)).heap, [], []⟩ p).heap) n2), (kw.asked, listOf ask2 na2), (hd, listOf hnd2 nh2)] := by
 have hst2 := (ofold_step kw.val z ⟨[], [], []⟩ hp1).trans (ostep_parts kw.val z (ofold kw.val z ⟨[], [], []⟩ (List.take i ps)) p)
 refine ⟨n2, na2, nh2, ask2, hnd2, fm, ?_, ?_, ?_⟩
 ·rw [hst2]
 ·rw [hst2]; exact hG.trans hG2
 ·rw [hst2, hH2, hH, Array.append_assoc, ← krefs_append]
theorem red (w : World) (kw : KW) (ps : List Pl) (f cs ch hp hd ks : Addr) (z : Nat) (n : Nat) (ask : Array Value) (na : Nat) (hnd : Array Value) (nh : Nat) (hne : hp ≠ kw.asked) (hne1 : hp ≠ hd) (hne2 : kw.asked ≠ hd) (hL : LtOk w kw)
  (hz : ask.size + 3 * ps.length ≤ 870) (hzh : hnd.size + ps.length ≤ 100) (h1 : 1 ≤ z) (h3 : z ≤ 3) :
  CallSpec w 392 (.ref 290) [.ref f, .ref ks, .ref hp] [(hp, listOf #[] n), (kw.asked, listOf ask na), (hd, listOf hnd nh)] (fun g => kw.In g ∧ OffIn w.params f cs ch hd z g ∧ g.IsList ks (krefs kw ps))
   (RPost kw hp hd z ps ask hnd) := by
 try (unfold CallSpec prog; k_fill; fail)
 refine' spec_def (binds := [(Str.ofString "function", .ref f), (Str.ofString "sequence", .ref ks), (Str.ofString "initial", .ref hp)]) ?ho ?hcd ?hroom ?hb ?hl ?_ ?hc ?h1 ?h2 ?h3
 case ho => k_is
 case hcd => k_is
 case hroom => decide
 case hb => intro s z; exact binds_K z rfl (by k_is) rfl rfl rfl
 case hl => exact locs rfl
 case hc => decide
 case h1 => exact rfl
 case h2 => exact rfl
 case h3 => exact rfl
 intro mg mb g L s₀ s Q X T hpre hL' S ret
 obtain ⟨hkw, hOff, hks⟩ := hpre
 refine Cx.seq (Cx.doc S fun s S => ?_)
 refine Cx.seq ?_
 show wpAny (model Mine.prog w) _ (exec _ (envX _ _ _ _ _ _)) _ _ _
 have F : Fr g L s.heap _ := S.F
 have N : News g L s.heap _ := S.N
 k_steps
 unfold Hold
 rename_i I _ hI _ F N
 refine Cx.go (S.put F N) fun s S => ?_
 refine Cx.seq ?_
 show wpAny (model Mine.prog w) _ (exec _ (envX _ _ _ _ _ _)) _ _ _
 have F : Fr g L s.heap _ := S.F
 have N : News g L s.heap _ := S.N
 k_steps
 unfold Hold
 refine Cx.hide (R := RF f hp I) (S.put (s₀ := s₀) ‹Fr g L _ _› ‹News g L _ _›) ⟨rfl, rfl, rfl⟩ fun m s S fm => ?_
 have hkL : ks < g.objs.size := let ⟨_, e, _⟩ := hks; Heap.lt_size e
 have hpl := krefs_len kw ps
 have hfn : FnAt f g := let ⟨_, _, _, _, e, _⟩ := hOff.fn; ⟨_, _, _, _, e⟩
 refine Cx.seq (For_turns S.F (Cx.V.name fm.it rfl _ _ S.F fun tk => Cx.iterI (RJ kw f hp hd I z ps ask hnd) (S.put (s₀ := s₀) S.F S.N) rfl hks (Nat.ne_of_lt (Nat.lt_of_lt_of_le hkL hL')) hI (.mk n na nh ask hnd fm rfl (grew0 _) (out0 _ _)) ?turn fun m N s hJ S => ?done))
 case done =>
  obtain ⟨n', na', nh', ask', hnd', fm, rfl, hG, hH⟩ := hJ
  rw [hpl, List.take_length] at S hG hH
  exact Cx.seq (Cx.retV S (Cx.V.name fm.val rfl) fun s S => ret _ _ _ _ _ S (fun _ h => h) ⟨rfl, n', ask', na', hnd', nh', rfl, hG, hH⟩)
 case turn =>
  intro i v own m N s hv hown hnI hJ S
  obtain ⟨n', na', nh', ask', hnd', fm, rfl, hG, hH⟩ := hJ
  obtain ⟨p, hp1, rfl⟩ : ∃ p, ps[i]? = some p ∧ v = .ref (kw.addr p) := by
   rw [krefs, List.getElem?_toArray, List.getElem?_map] at hv
   obtain ⟨p, a, b⟩ := Option.map_eq_some_iff.mp hv
   exact ⟨p, a, b.symm⟩
  have hil : i < ps.length := (List.getElem?_eq_some_iff.mp hp1).1
  have hB := ofold_bounds kw.val z (ps.take i)
  rw [List.length_take, Nat.min_eq_left (Nat.le_of_lt hil)] at hB
  have hsz1 := hG.size
  have hsz2 : hnd'.size = hnd.size + (ofold kw.val z ⟨[], [], []⟩ (ps.take i)).out.length := by rw [hH, Array.size_append, krefs_len]
  have hsp := off_all w kw (ofold kw.val z ⟨[], [], []⟩ (ps.take i)).heap p f cs ch hp hd z n' ask' na' hnd' nh' hne hne1 hne2 hL (by lia) (by lia) h1 h3 (ofold_len kw.val z h3 h1 (ps.take i))
  have q1 : hp ≠ I := hnI _ (.head _)
  have q2 : kw.asked ≠ I := hnI _ (.tail _ (.head _))
  have q3 : hd ≠ I := hnI _ (.tail _ (.tail _ (.head _)))
  refine assign_Name (Cx.sto S rfl fun s S => ?_)
  refine Cx.hide (R := fun m => RF f hp I m ∧ m (Str.ofString "element") = some (.ref (kw.addr p))) S ⟨⟨fm.fn, fm.val, fm.it⟩, rfl⟩ fun m s S fm => ?_
  obtain ⟨fm, fe⟩ := fm
  refine Cx.seq (wpAny_Assign_Name (Call_ (Cx.V.name fm.fn rfl _ _ S.F fun tk => callWith_F (fn_fr hfn S.F) (args_cons (Cx.V.name fm.val rfl _ _ S.F fun tk => args_cons (Cx.V.name fe rfl _ _ S.F fun tk => args_nil ⟨fn_fr hfn S.F, ?_⟩)))) rfl) rfl)
  refine Cx.use (keep := own) (S.put (s₀ := s₀) S.F S.N) hsp X T (fun a ha q hq e => ?_) (fun g' st' _ => ⟨kw.keeps _ _ hkw st', hOff.keeps st'⟩) rfl (Nat.le_of_ble_eq_true rfl) (Nat.le_of_ble_eq_true rfl) fun r pass' s S _ hpost => ?_
  ·rcases hown q hq with e2 | e2
   ·exact hnI a ha (e.trans e2)
   ·have := (S.N a (List.mem_append_left _ ha)).2.2
    obtain ⟨o, e3, _⟩ := hks
    rw [e, e2, e3] at this; cases this
  obtain ⟨rfl, n2, ask2, na2, hnd2, nh2, rfl, hG2, hH2⟩ := hpost
  refine Cx.sto S rfl fun s S => Cx.nil (.next S (fun q hq => ?_) (RJ.next hp1 hG hH hG2 hH2 ⟨fm.fn, rfl, fm.it⟩))
  rcases List.mem_cons.mp hq with rfl | hq
  ·exact q1
  rcases List.mem_cons.mp hq with rfl | hq
  ·exact q2
  ·rw [List.mem_singleton.mp hq]; exact q3
end Mine
end
section
namespace Mine
section
variable (v : Pl → Int) (z : Nat)
noncomputable abbrev allP : List Pl := List.finRange 10
theorem allP_get : ∀ n (h : n < 10), allP[n]? = some ⟨n, h⟩ := by decide
noncomputable def W (n : Nat) : FS := ofold v z ⟨[], [], []⟩ (allP.take n)
theorem W_zero : W v z 0 = ⟨[], [], []⟩ := rfl
theorem W_succ {n : Nat} (h : n < 10) : W v z (n + 1) = ostep v z (W v z n) ⟨n, h⟩ := ofold_step v z _ (allP_get n h)
theorem hpush_perm (h : List Pl) (p : Pl) (hl : h.length ≤ 2) : (hpush v h p).1.Perm (p :: h) := by
 match h, hl with
 | [], _ => exact .refl _
 | [a], _ =>
  simp only [hpush]; split
  ·exact .refl _
  ·exact .swap _ _ _
 | [a, b], _ =>
  simp only [hpush]; split
  ·exact .cons _ (.swap _ _ _)
  ·exact ((List.Perm.swap p b []).cons a).trans (.swap _ _ _)
 | _ :: _ :: _ :: _, hl => simp at hl
theorem forall1 {α : Type} {P : α → Prop} {a : α} (h1 : P a) : ∀ x ∈ [a], P x := fun x hx => List.mem_singleton.mp hx ▸ h1
theorem forall2 {α : Type} {P : α → Prop} {a b : α} (h1 : P a) (h2 : P b) : ∀ x ∈ [a, b], P x := List.forall_mem_cons.mpr ⟨h1, forall1 h2⟩
theorem forall3 {α : Type} {P : α → Prop} {a b c : α} (h1 : P a) (h2 : P b) (h3 : P c) : ∀ x ∈ [a, b, c], P x := List.forall_mem_cons.mpr ⟨h1, forall2 h2 h3⟩
inductive PP (v : Pl → Int) (p : Pl) : List Pl → List Pl × Pl × List (Pl × Pl) → Prop
 | no {a : Pl} {l : List Pl} (h : ¬ v a < v p) : PP v p (a :: l) (a :: l, p, [(a, p)])
 | a1 {a : Pl} (h : v a < v p) : PP v p [a] ([p], a, [(a, p)])
 | b1 {a b : Pl} (h : v a < v p) (h2 : v p < v b) : PP v p [a, b] ([p, b], a, [(a, p), (p, b)])
 | b2 {a b : Pl} (h : v a < v p) (h2 : ¬ v p < v b) : PP v p [a, b] ([b, p], a, [(a, p), (p, b)])
 | c1 {a b c : Pl} (h : v a < v p) (h2 : v b < v c) (h3 : v p < v b) : PP v p [a, b, c] ([p, b, c], a, [(a, p), (b, c), (p, b)])
 | c2 {a b c : Pl} (h : v a < v p) (h2 : v b < v c) (h3 : ¬ v p < v b) : PP v p [a, b, c] ([b, p, c], a, [(a, p), (b, c), (p, b)])
 | c3 {a b c : Pl} (h : v a < v p) (h2 : ¬ v b < v c) (h3 : v p < v c) : PP v p [a, b, c] ([p, b, c], a, [(a, p), (b, c), (p, c)])
 | c4 {a b c : Pl} (h : v a < v p) (h2 : ¬ v b < v c) (h3 : ¬ v p < v c) : PP v p [a, b, c] ([c, b, p], a, [(a, p), (b, c), (p, c)])
theorem pp_of (p a : Pl) (l : List Pl) (hl : l.length ≤ 2) : PP v p (a :: l) (hpp v (a :: l) p) := by
 by_cases c : v a < v p
 ·match l, hl with
  | [], _ => rw [show hpp v [a] p = _ from if_pos c]; exact .a1 c
  | [b], _ =>
   rw [show hpp v [a, b] p = _ from if_pos c]
   by_cases d : v p < v b
   ·rw [if_pos d]; exact .b1 c d
   ·rw [if_neg d]; exact .b2 c d
  | [b, k], _ =>
   rw [show hpp v [a, b, k] p = _ from if_pos c]
   by_cases d : v b < v k
   ·rw [if_pos d]
    by_cases e : v p < v b
    ·rw [if_pos e]; exact .c1 c d e
    ·rw [if_neg e]; exact .c2 c d e
   ·rw [if_neg d]
    by_cases e : v p < v k
    ·rw [if_pos e]; exact .c3 c d e
    ·rw [if_neg e]; exact .c4 c d e
 ·rw [pp_no v a p l hl c]; exact .no c
theorem pp_len {h : List Pl} (hl : h.length ≤ 3) (h1 : 1 ≤ h.length) (p : Pl) : PP v p h (hpp v h p) := by
 cases h with
 | nil => cases h1
 | cons a l => exact pp_of v p a l (Nat.le_of_succ_le_succ hl)
theorem PP.perm {p : Pl} {h : List Pl} {r : List Pl × Pl × List (Pl × Pl)} (P : PP v p h r) : (r.1 ++ [r.2.1]).Perm (p :: h) := by
 cases P with
 | no => exact List.perm_append_singleton _ _
 | a1 => exact .refl _
 | b1 => exact .cons _ (.swap _ _ _)
 | b2 => exact (List.Perm.swap _ _ _).trans (.cons _ (.swap _ _ _))
 | @c1 a b c => exact .cons _ (List.perm_append_singleton a [b, c])
 | @c2 a b c => exact (List.Perm.swap _ _ _).trans (.cons _ (List.perm_append_singleton a [b, c]))
 | @c3 a b c => exact .cons _ (List.perm_append_singleton a [b, c])
 | @c4 a b c => exact (List.reverse_perm [a, p, b, c]).trans (.swap _ _ _)
theorem hpp_perm (h : List Pl) (p : Pl) (hl : h.length ≤ 3) (h1 : 1 ≤ h.length) : ((hpp v h p).1 ++ [(hpp v h p).2.1]).Perm (p :: h) := (pp_len v hl h1 p).perm
noncomputable def RootLe : List Pl → Prop
 | [] => True
 | a :: r => ∀ x ∈ r, v a ≤ v x
theorem hpush_root (h : List Pl) (p : Pl) (hl : h.length ≤ 2) (hr : RootLe v h) : RootLe v (hpush v h p).1 := by
 match h, hl with
 | [], _ => intro x hx; cases hx
 | [a], _ =>
  simp only [hpush]; split
  ·rename_i q; intro x hx; simp at hx; subst hx; lia
  ·rename_i q; intro x hx; simp at hx; subst hx; lia
 | [a, b], _ =>
  have q0 := hr b (.head _)
  simp only [hpush]; split
  ·rename_i q; intro x hx; simp at hx; rcases hx with rfl | rfl <;> lia
  ·rename_i q; intro x hx; simp at hx; rcases hx with rfl | rfl <;> lia
 | _ :: _ :: _ :: _, hl => simp at hl
theorem PP.root {p : Pl} {h : List Pl} {r : List Pl × Pl × List (Pl × Pl)} (P : PP v p h r) (hr : RootLe v h) : RootLe v r.1 := by
 cases P with
 | no => exact hr
 | a1 => exact fun _ h => nomatch h
 | b1 h h2 => exact forall1 (Int.le_of_lt h2)
 | b2 h h2 => exact forall1 (Int.not_lt.mp h2)
 | c1 h h2 h3 => exact forall2 (Int.le_of_lt h3) (Int.le_of_lt (Int.lt_trans h3 h2))
 | c2 h h2 h3 => exact forall2 (Int.not_lt.mp h3) (Int.le_of_lt h2)
 | c3 h h2 h3 => exact forall2 (Int.le_trans (Int.le_of_lt h3) (Int.not_lt.mp h2)) (Int.le_of_lt h3)
 | c4 h h2 h3 => exact forall2 (Int.not_lt.mp h2) (Int.not_lt.mp h3)
theorem hpp_root (h : List Pl) (p : Pl) (hl : h.length ≤ 3) (hr : RootLe v h) : RootLe v (hpp v h p).1 := by
 cases h with
 | nil => exact True.intro
 | cons a l => exact (pp_of v p a l (Nat.le_of_succ_le_succ hl)).root v hr
theorem PP.out {p : Pl} {h : List Pl} {r : List Pl × Pl × List (Pl × Pl)} (P : PP v p h r) (hr : RootLe v h) : ∀ x ∈ r.1, v r.2.1 ≤ v x := by
 cases P with
 | no h => exact List.forall_mem_cons.mpr ⟨Int.not_lt.mp h, fun x hx => Int.le_trans (Int.not_lt.mp h) (hr x hx)⟩
 | a1 h => exact forall1 (Int.le_of_lt h)
 | b1 h => exact forall2 (Int.le_of_lt h) (hr _ (.head _))
 | b2 h => exact forall2 (hr _ (.head _)) (Int.le_of_lt h)
 | c1 h => exact forall3 (Int.le_of_lt h) (hr _ (.head _)) (hr _ (.tail _ (.head _)))
 | c2 h => exact forall3 (hr _ (.head _)) (Int.le_of_lt h) (hr _ (.tail _ (.head _)))
 | c3 h => exact forall3 (Int.le_of_lt h) (hr _ (.head _)) (hr _ (.tail _ (.head _)))
 | c4 h => exact forall3 (hr _ (.tail _ (.head _))) (hr _ (.head _)) (Int.le_of_lt h)
theorem hpp_out (h : List Pl) (p : Pl) (hl : h.length ≤ 3) (h1 : 1 ≤ h.length) (hr : RootLe v h) : ∀ x ∈ (hpp v h p).1, v (hpp v h p).2.1 ≤ v x := (pp_len v hl h1 p).out v hr
theorem PP.min {p a : Pl} {l h : List Pl} {r : List Pl × Pl × List (Pl × Pl)} (P : PP v p h r) (e : h = a :: l) : v r.2.1 = min (v p) (v a) := by
 cases P with
 | no h => cases e; exact (Int.min_eq_left (Int.not_lt.mp h)).symm
 | a1 h => cases e; exact (Int.min_eq_right (Int.le_of_lt h)).symm
 | b1 h => cases e; exact (Int.min_eq_right (Int.le_of_lt h)).symm
 | b2 h => cases e; exact (Int.min_eq_right (Int.le_of_lt h)).symm
 | c1 h => cases e; exact (Int.min_eq_right (Int.le_of_lt h)).symm
 | c2 h => cases e; exact (Int.min_eq_right (Int.le_of_lt h)).symm
 | c3 h => cases e; exact (Int.min_eq_right (Int.le_of_lt h)).symm
 | c4 h => cases e; exact (Int.min_eq_right (Int.le_of_lt h)).symm
theorem hpp_min (h : List Pl) (a p : Pl) (r : List Pl) (he : h = a :: r) (hl : h.length ≤ 3) : v (hpp v h p).2.1 = min (v p) (v a) := by
 subst he
 exact (pp_of v p a r (Nat.le_of_succ_le_succ hl)).min v rfl
theorem hpp_refused (h : List Pl) (a p : Pl) (r : List Pl) (he : h = a :: r) (hl : h.length ≤ 3) (hv : ¬ v a < v p) : hpp v h p = (h, p, [(a, p)]) := by
 subst he
 exact pp_no v a p r (Nat.le_of_succ_le_succ hl) hv
theorem hpp_ge (h : List Pl) (a p : Pl) (r : List Pl) (he : h = a :: r) (hl : h.length ≤ 3) (hr : RootLe v h) : ∀ x ∈ (hpp v h p).1, v a ≤ v x := by
 subst he
 by_cases q : v a < v p
 ·intro x hx
  have := (hpp_perm v (a :: r) p hl (by simp)).mem_iff (a := x)
  have h2 : x ∈ p :: a :: r := this.mp (List.mem_append_left _ hx)
  rcases List.mem_cons.mp h2 with rfl | h2
  ·lia
  ·rcases List.mem_cons.mp h2 with rfl | h2
   ·lia
   ·exact hr x h2
 ·rw [hpp_refused v _ a p r rfl hl q]
  intro x hx
  rcases List.mem_cons.mp hx with rfl | h2
  ·lia
  ·exact hr x h2
structure Inv (n : Nat) (s : FS) : Prop where
 perm : (s.heap ++ s.out).Perm (allP.take n)
 len : s.heap.length = min n z
 olen : s.out.length = n - z
 root : RootLe v s.heap
 out : ∀ y ∈ s.out, ∀ x ∈ s.heap, v y ≤ v x
theorem root_le {h : List Pl} {a : Pl} {r : List Pl} (e : h = a :: r) (hr : RootLe v h) : ∀ x ∈ h, v a ≤ v x := by
 subst e
 intro x hx
 rcases List.mem_cons.mp hx with rfl | h2
 ·lia
 ·exact hr x h2
theorem take_snoc {n : Nat} (h : n < 10) : allP.take (n + 1) = allP.take n ++ [⟨n, h⟩] := by
 rw [List.take_add_one, allP_get n h]; rfl
theorem inv_W (h1 : 1 ≤ z) (h3 : z ≤ 3) : ∀ n, n ≤ 10 → Inv v z n (W v z n)
 | 0, _ => ⟨.refl _, by simp [W_zero], by simp [W_zero], True.intro, fun y hy => by cases hy⟩
 | n + 1, hn => by
  have I := inv_W h1 h3 n (by lia)
  rw [W_succ v z (show n < 10 by lia)]
  generalize W v z n = s at I
  obtain ⟨ip, il, io, ir, iou⟩ := I
  unfold ostep
  split
  ·rename_i q
   have e0 : s.out = [] := List.eq_nil_of_length_eq_zero (by lia)
   have hl2 : s.heap.length ≤ 2 := by lia
   refine ⟨?_, ?_, ?_, hpush_root v _ _ hl2 ir, ?_⟩
   ·rw [take_snoc (show n < 10 by lia)]
    dsimp only
    rw [e0, List.append_nil] at ip ⊢
    exact (hpush_perm v _ _ hl2).trans ((ip.cons _).trans (List.perm_append_singleton _ _).symm)
   ·have := (hpush_perm v s.heap ⟨n, by lia⟩ hl2).length_eq
    simp only [List.length_cons] at this
    dsimp only
    lia
   ·dsimp only; lia
   ·intro y hy; rw [e0] at hy; cases hy
  ·rename_i q
   have hl3 : s.heap.length ≤ 3 := by lia
   have hl1 : 1 ≤ s.heap.length := by lia
   have hpm := hpp_perm v s.heap ⟨n, by lia⟩ hl3 hl1
   refine ⟨?_, ?_, ?_, hpp_root v _ _ hl3 ir, ?_⟩
   ·rw [take_snoc (show n < 10 by lia)]
    dsimp only
    have e1 : ((hpp v s.heap ⟨n, by lia⟩).1 ++ (s.out ++ [(hpp v s.heap ⟨n, by lia⟩).2.1])).Perm (((hpp v s.heap ⟨n, by lia⟩).1 ++ [(hpp v s.heap ⟨n, by lia⟩).2.1]) ++ s.out) := by
     rw [List.append_assoc]
     exact (List.perm_append_comm).append_left _
    refine e1.trans ((hpm.append_right _).trans ?_)
    exact (ip.cons _).trans (List.perm_append_singleton _ _).symm
   ·have := hpm.length_eq
    simp only [List.length_cons, List.length_append, List.length_nil] at this
    dsimp only
    lia
   ·dsimp only; simp only [List.length_append, List.length_cons, List.length_nil]; lia
   ·intro y hy x hx
    rcases List.mem_append.mp hy with hy | hy
    ·match e : s.heap, hl1 with
     | a :: r, _ =>
      rw [e] at hx hl3 ir
      have := hpp_ge v (a :: r) a ⟨n, by lia⟩ r rfl hl3 ir x hx
      have h2 := iou y hy a (by rw [e]; exact .head _)
      lia
     | [], hh => simp at hh
    ·rw [List.mem_singleton.mp hy]
     exact hpp_out v _ _ hl3 hl1 ir x hx
theorem limit_of (h1 : 1 ≤ z) (h3 : z ≤ 3) {n : Nat} (hn : n ≤ 10) (hz : z ≤ n) {a : Pl} {r : List Pl} (e : (W v z n).heap = a :: r) {ns : List Int} (hp : ns.Perm ((allP.take n).map v)) (hs : ns.Pairwise (· ≤ ·)) : ns[n - z]? = some (v a) := by
 obtain ⟨ip, il, io, ir, iou⟩ := inv_W v z h1 h3 n hn
 let le : Int → Int → Bool := fun x y => decide (x ≤ y)
 have tr : ∀ x y z : Int, le x y = true → le y z = true → le x z = true := fun x y z h1 h2 => decide_eq_true (Int.le_trans (of_decide_eq_true h1) (of_decide_eq_true h2))
 have to : ∀ x y : Int, (le x y || le y x) = true := fun x y => by
  rcases Int.le_total x y with h | h
  ·simp [le, h]
  ·simp [le, h]
 have so : ∀ l : List Int, (l.mergeSort le).Pairwise (· ≤ ·) := fun l => (List.pairwise_mergeSort tr to l).imp fun h => of_decide_eq_true h
 have pe : ∀ l : List Int, (l.mergeSort le).Perm l := fun l => List.mergeSort_perm l le
 have key : ns = (((W v z n).out.map v).mergeSort le) ++ (v a :: ((r.map v).mergeSort le)) := by
  refine List.Perm.eq_of_pairwise (le := (· ≤ ·)) (fun x y _ _ h1 h2 => Int.le_antisymm h1 h2) hs ?_ ?_
  ·rw [List.pairwise_append]
   refine ⟨so _, ?_, ?_⟩
   ·refine List.pairwise_cons.mpr ⟨fun x hx => ?_, so _⟩
    have := (pe (r.map v)).mem_iff.mp hx
    obtain ⟨y, hy, rfl⟩ := List.mem_map.mp this
    exact root_le v e ir y (by rw [e]; exact .tail _ hy)
   ·intro x hx y hy
    have hx' := (pe ((W v z n).out.map v)).mem_iff.mp hx
    obtain ⟨x0, hx0, rfl⟩ := List.mem_map.mp hx'
    rcases List.mem_cons.mp hy with rfl | hy
    ·exact iou _ hx0 a (by rw [e]; exact .head _)
    ·have := (pe (r.map v)).mem_iff.mp hy
     obtain ⟨y0, hy0, rfl⟩ := List.mem_map.mp this
     exact iou _ hx0 y0 (by rw [e]; exact .tail _ hy0)
  ·refine hp.trans ?_
   refine ((ip.map v).symm).trans ?_
   rw [List.map_append, e, List.map_cons]
   refine (List.perm_append_comm).trans ?_
   exact (pe _).symm.append ((pe _).symm.cons _)
 have hol : (((W v z n).out.map v).mergeSort le).length = n - z := by rw [(pe _).length_eq, List.length_map, io]
 rw [key, List.getElem?_append_right (by lia), hol, Nat.sub_self]
 rfl
end
end Mine
end
section
namespace Mine
section
variable (v : Pl → Int) (z : Nat)
noncomputable def root (n : Nat) : Pl := (W v z n).heap.headD 0
noncomputable def refd (p : Pl) : Bool := decide (z ≤ p.val) && !decide (v (root v z p.val) < v p)
theorem heap_cons (h1 : 1 ≤ z) (h3 : z ≤ 3) {n : Nat} (hn : n ≤ 10) (hz : z ≤ n) : ∃ r, (W v z n).heap = root v z n :: r := by
 have I := inv_W v z h1 h3 n hn
 have := I.len
 unfold root
 match e : (W v z n).heap with
 | [] => rw [e] at this; simp at this; lia
 | a :: r => exact ⟨r, rfl⟩
theorem W_lt (h1 : 1 ≤ z) (h3 : z ≤ 3) {n : Nat} (hn : n < 10) (hz : n < z) : W v z (n + 1) = ⟨(hpush v (W v z n).heap ⟨n, hn⟩).1, (W v z n).qs ++ (hpush v (W v z n).heap ⟨n, hn⟩).2, (W v z n).out⟩ := by
 have I := (inv_W v z h1 h3 n (by lia)).len
 rw [W_succ v z hn, ostep, if_pos (by lia)]
theorem W_ge (h1 : 1 ≤ z) (h3 : z ≤ 3) {n : Nat} (hn : n < 10) (hz : z ≤ n) : W v z (n + 1) = ⟨(hpp v (W v z n).heap ⟨n, hn⟩).1, (W v z n).qs ++ (hpp v (W v z n).heap ⟨n, hn⟩).2.2, (W v z n).out ++ [(hpp v (W v z n).heap ⟨n, hn⟩).2.1]⟩ := by
 have I := (inv_W v z h1 h3 n (by lia)).len
 rw [W_succ v z hn, ostep, if_neg (by lia)]
theorem W_ref (h1 : 1 ≤ z) (h3 : z ≤ 3) {n : Nat} (hn : n < 10) (hr : refd v z ⟨n, hn⟩ = true) : W v z (n + 1) = ⟨(W v z n).heap, (W v z n).qs ++ [(root v z n, ⟨n, hn⟩)], (W v z n).out ++ [⟨n, hn⟩]⟩ := by
 unfold refd at hr
 simp only [Bool.and_eq_true, decide_eq_true_eq, Bool.not_eq_true', decide_eq_false_iff_not] at hr
 obtain ⟨r, e⟩ := heap_cons v z h1 h3 (Nat.le_of_lt hn) hr.1
 have I := (inv_W v z h1 h3 n (by lia)).len
 rw [W_ge v z h1 h3 hn hr.1, hpp_refused v _ _ _ r e (by lia) hr.2]
theorem out_vals (h1 : 1 ≤ z) (h3 : z ≤ 3) : ∀ n, n ≤ 10 → (W v z n).out.map v = ((allP.take n).drop z).map fun p => min (v p) (v (root v z p.val))
 | 0, _ => by simp [W_zero]
 | n + 1, hn => by
  have ih := out_vals h1 h3 n (by lia)
  have hlen : (allP.take n).length = n := by rw [List.length_take, List.length_finRange]; lia
  rw [take_snoc (show n < 10 by lia)]
  by_cases hz : z ≤ n
  ·rw [W_ge v z h1 h3 (show n < 10 by lia) hz]
   obtain ⟨r, e⟩ := heap_cons v z h1 h3 (show n ≤ 10 by lia) hz
   have I := (inv_W v z h1 h3 n (by lia)).len
   dsimp only
   rw [List.map_append, ih, List.drop_append_of_le_length (by lia), List.map_append]
   congr 1
   simp only [List.map_cons, List.map_nil]
   rw [hpp_min v _ _ _ r e (by lia)]
  ·rw [W_lt v z h1 h3 (show n < 10 by lia) (by lia)]
   dsimp only
   rw [ih, List.drop_eq_nil_of_le (by lia), List.drop_eq_nil_of_le (by rw [List.length_append, hlen]; simp; lia)]
theorem hpush_q (h : List Pl) (p : Pl) : ∀ q ∈ (hpush v h p).2, q.1 ∈ p :: h ∧ q.2 ∈ p :: h := by
 unfold hpush
 split <;> (try split) <;> (intro q hq; simp at hq; try (subst hq; simp))
theorem PP.q {p : Pl} {h : List Pl} {r : List Pl × Pl × List (Pl × Pl)} (P : PP v p h r) : ∀ q ∈ r.2.2, q.1 ∈ p :: h ∧ q.2 ∈ p :: h := by
 cases P with
 | no => exact forall1 ⟨.tail _ (.head _), .head _⟩
 | a1 => exact forall1 ⟨.tail _ (.head _), .head _⟩
 | b1 => exact forall2 ⟨.tail _ (.head _), .head _⟩ ⟨.head _, .tail _ (.tail _ (.head _))⟩
 | b2 => exact forall2 ⟨.tail _ (.head _), .head _⟩ ⟨.head _, .tail _ (.tail _ (.head _))⟩
 | c1 => exact forall3 ⟨.tail _ (.head _), .head _⟩ ⟨.tail _ (.tail _ (.head _)), .tail _ (.tail _ (.tail _ (.head _)))⟩ ⟨.head _, .tail _ (.tail _ (.head _))⟩
 | c2 => exact forall3 ⟨.tail _ (.head _), .head _⟩ ⟨.tail _ (.tail _ (.head _)), .tail _ (.tail _ (.tail _ (.head _)))⟩ ⟨.head _, .tail _ (.tail _ (.head _))⟩
 | c3 => exact forall3 ⟨.tail _ (.head _), .head _⟩ ⟨.tail _ (.tail _ (.head _)), .tail _ (.tail _ (.tail _ (.head _)))⟩ ⟨.head _, .tail _ (.tail _ (.tail _ (.head _)))⟩
 | c4 => exact forall3 ⟨.tail _ (.head _), .head _⟩ ⟨.tail _ (.tail _ (.head _)), .tail _ (.tail _ (.tail _ (.head _)))⟩ ⟨.head _, .tail _ (.tail _ (.tail _ (.head _)))⟩
theorem hpp_q (h : List Pl) (p : Pl) : ∀ q ∈ (hpp v h p).2.2, q.1 ∈ p :: h ∧ q.2 ∈ p :: h := by
 match h with
 | [] => exact fun _ h => nomatch h
 | [a] => exact (pp_of v p a [] (Nat.zero_le _)).q v
 | [a, b] => exact (pp_of v p a [b] (Nat.le_succ 1)).q v
 | [a, b, c] => exact (pp_of v p a [b, c] (Nat.le_refl 2)).q v
 | _ :: _ :: _ :: _ :: _ => exact fun _ h => nomatch h
theorem heap_ok (h1 : 1 ≤ z) (h3 : z ≤ 3) : ∀ n, n ≤ 10 → ∀ x ∈ (W v z n).heap, refd v z x = false
 | 0, _ => fun x hx => by cases hx
 | n + 1, hn => fun x hx => by
  have ih := heap_ok h1 h3 n (by lia)
  have hn' : n < 10 := by lia
  have I := (inv_W v z h1 h3 n (by lia)).len
  cases hr : refd v z ⟨n, hn'⟩ with
  | true => rw [W_ref v z h1 h3 hn' hr] at hx; exact ih x hx
  | false =>
   have key : x ∈ (⟨n, hn'⟩ : Pl) :: (W v z n).heap := by
    by_cases hz : z ≤ n
    ·rw [W_ge v z h1 h3 hn' hz] at hx
     exact (hpp_perm v _ ⟨n, hn'⟩ (by lia) (by lia)).mem_iff.mp (List.mem_append_left _ hx)
    ·rw [W_lt v z h1 h3 hn' (by lia)] at hx
     exact (hpush_perm v _ ⟨n, hn'⟩ (by lia)).mem_iff.mp hx
   rcases List.mem_cons.mp key with rfl | h
   ·exact hr
   ·exact ih x h
noncomputable def S (n : Nat) : FS := ofold v z ⟨[], [], []⟩ ((allP.take n).filter fun p => !refd v z p)
theorem new_ok (h1 : 1 ≤ z) (h3 : z ≤ 3) {n : Nat} (hn : n < 10) (hr : refd v z ⟨n, hn⟩ = false) : ∀ q ∈ (ostep v z ⟨(W v z n).heap, [], []⟩ ⟨n, hn⟩).qs, refd v z q.2 = false := by
 intro q hq
 have key : q.2 ∈ (⟨n, hn⟩ : Pl) :: (W v z n).heap := by
  unfold ostep at hq
  split at hq
  ·exact (hpush_q v _ _ q (by simpa using hq)).2
  ·exact (hpp_q v _ _ q (by simpa using hq)).2
 rcases List.mem_cons.mp key with e | h
 ·rw [e]; exact hr
 ·exact heap_ok v z h1 h3 n (by lia) _ h
theorem short_is (h1 : 1 ≤ z) (h3 : z ≤ 3) : ∀ n, n ≤ 10 → (S v z n).heap = (W v z n).heap ∧ (S v z n).qs = (W v z n).qs.filter fun q => !refd v z q.2
 | 0, _ => ⟨rfl, rfl⟩
 | n + 1, hn => by
  have hn' : n < 10 := by lia
  obtain ⟨ih1, ih2⟩ := short_is h1 h3 n (by lia)
  cases hr : refd v z ⟨n, hn'⟩ with
  | true =>
   have e : S v z (n + 1) = S v z n := by
    unfold S
    rw [take_snoc hn', List.filter_append]
    simp [hr]
   rw [e, W_ref v z h1 h3 hn' hr]
   refine ⟨ih1, ?_⟩
   rw [ih2, List.filter_append]
   simp [hr]
  | false =>
   have e : S v z (n + 1) = ostep v z (S v z n) ⟨n, hn'⟩ := by
    unfold S
    rw [take_snoc hn', List.filter_append]
    have : [(⟨n, hn'⟩ : Pl)].filter (fun p => !refd v z p) = [⟨n, hn'⟩] := by simp [hr]
    rw [this, ofold_snoc]
   rw [e, W_succ v z hn', ostep_parts, ostep_parts v z (W v z n), ih1, ih2]
   refine ⟨rfl, ?_⟩
   dsimp only
   rw [List.filter_append]
   congr 1
   symm
   rw [List.filter_eq_self]
   intro q hq
   rw [new_ok v z h1 h3 hn' hr q hq]; rfl
theorem against_is (h1 : 1 ≤ z) (h3 : z ≤ 3) : ∀ n, n ≤ 10 → ((W v z n).qs.filter fun q => refd v z q.2) = ((allP.take n).filter fun p => refd v z p).map fun p => (root v z p.val, p)
 | 0, _ => rfl
 | n + 1, hn => by
  have hn' : n < 10 := by lia
  have ih := against_is h1 h3 n (by lia)
  rw [take_snoc hn', List.filter_append]
  cases hr : refd v z ⟨n, hn'⟩ with
  | true =>
   rw [W_ref v z h1 h3 hn' hr]
   dsimp only
   rw [List.filter_append, ih, List.map_append]
   simp [hr]
  | false =>
   rw [W_succ v z hn', ostep_parts]
   dsimp only
   rw [List.filter_append, ih]
   have : ((ostep v z ⟨(W v z n).heap, [], []⟩ ⟨n, hn'⟩).qs.filter fun q => refd v z q.2) = [] := by
    rw [List.filter_eq_nil_iff]
    intro q hq
    rw [new_ok v z h1 h3 hn' hr q hq]; simp
   rw [this]
   simp [hr]
end
end Mine
end
section
namespace Mine
noncomputable abbrev Qu := Pl × Pl
noncomputable def Alt (P : Qu → Prop) : List Qu → Prop
 | x :: y :: l => (P x ∨ P y) ∧ Alt P (y :: l)
 | _ => True
theorem Alt.mono {P Q : Qu → Prop} : ∀ {l : List Qu}, Alt P l → (∀ x ∈ l, P x → Q x) → Alt Q l
 | [], _, _ => True.intro
 | [_], _, _ => True.intro
 | x :: y :: l, h, k => ⟨h.1.elim (fun a => .inl (k _ (.head _) a)) (fun a => .inr (k _ (.tail _ (.head _)) a)), Alt.mono h.2 fun x hx => k x (.tail _ hx)⟩
theorem Alt.append {P : Qu → Prop} : ∀ {l g : List Qu}, Alt P l → (∀ q, l.getLast? = some q → P q) → Alt P g → Alt P (l ++ g)
 | [], _, _, _, h => h
 | [x], [], _, _, _ => True.intro
 | [x], y :: g, _, k, h => ⟨.inl (k x rfl), h⟩
 | x :: y :: l, g, h, k, h2 => ⟨h.1, Alt.append (l := y :: l) h.2 (fun q hq => k q (by rw [List.getLast?_cons_cons]; exact hq)) h2⟩
theorem Alt.all {P : Qu → Prop} : ∀ {l : List Qu}, (∀ x ∈ l, P x) → Alt P l
 | [], _ => True.intro
 | [_], _ => True.intro
 | x :: y :: l, h => ⟨.inl (h x (.head _)), Alt.all fun q hq => h q (.tail _ hq)⟩
noncomputable def Once (s : FS) (q : Qu) : Prop := s.qs.count q = 1 ∧ (q.1 ∉ s.heap.tail ∨ q.2 ∉ s.heap.tail)
section
variable (v : Pl → Int) (z : Nat)
structure Dis (n : Nat) (s : FS) : Prop where
 keys : ∀ q ∈ s.qs, q.1.val < n ∧ q.2.val < n
 alt : Alt (Once s) s.qs
 last : z ≤ n → ∀ q, s.qs.getLast? = some q → Once s q
 all : z ≤ 2 → ∀ q ∈ s.qs, Once s q
 none : n ≤ 1 → s.qs = []
 two : z = 3 → n ≤ 2 → s.qs.length ≤ 1
theorem count_new {n : Nat} {s : FS} (k : ∀ q ∈ s.qs, q.1.val < n ∧ q.2.val < n) {p : Pl} (hp : p.val = n) {q : Qu} (hq : q.1 = p ∨ q.2 = p) : s.qs.count q = 0 := by
 rw [List.count_eq_zero]
 intro hm
 have := k q hm
 rcases hq with rfl | rfl <;> lia
theorem count_old {n : Nat} {p : Pl} (hp : p.val = n) {q : Qu} (hk : q.1.val < n ∧ q.2.val < n) {g : List Qu} (hg : ∀ x ∈ g, x.1 = p ∨ x.2 = p ∨ x ≠ q) : g.count q = 0 := by
 rw [List.count_eq_zero]
 intro hm
 rcases hg q hm with h | h | h
 ·rw [h] at hk; lia
 ·rw [h] at hk; lia
 ·exact h rfl
theorem Once.step {n : Nat} {s s' : FS} {p : Pl} (hp : p.val = n) {q : Qu} (hk : q.1.val < n ∧ q.2.val < n) (h : Once s q) {g : List Qu} (e : s'.qs = s.qs ++ g) (hg : ∀ x ∈ g, x.1 = p ∨ x.2 = p ∨ (x.1 ∈ s.heap.tail ∧ x.2 ∈ s.heap.tail)) (ht : ∀ x ∈ s'.heap.tail, x = p ∨ x ∈ s.heap.tail) : Once s' q := by
 refine ⟨?_, ?_⟩
 ·rw [e, List.count_append, h.1, count_old hp hk fun x hx => ?_]
  rcases hg x hx with a | a | a
  ·exact .inl a
  ·exact .inr (.inl a)
  ·refine .inr (.inr fun e2 => ?_)
   subst e2
   exact h.2.elim (fun c => c a.1) (fun c => c a.2)
 ·refine h.2.imp (fun c hm => ?_) fun c hm => ?_
  ·rcases ht _ hm with a | a
   ·rw [a] at hk; lia
   ·exact c a
  ·rcases ht _ hm with a | a
   ·rw [a] at hk; lia
   ·exact c a
theorem Dis.step {n : Nat} {s s' : FS} {p : Pl} (hp : p.val = n) (hz : z ≤ n) (h1 : 1 ≤ z) (D : Dis z n s) {g : List Qu} (e : s'.qs = s.qs ++ g) (hg : ∀ x ∈ g, x.1 = p ∨ x.2 = p ∨ (x.1 ∈ s.heap.tail ∧ x.2 ∈ s.heap.tail)) (ht : ∀ x ∈ s'.heap.tail, x = p ∨ x ∈ s.heap.tail)
  (hk : ∀ x ∈ g, x.1.val ≤ n ∧ x.2.val ≤ n) (ha : Alt (Once s') g) (hg0 : g ≠ []) (hl : ∀ q, g.getLast? = some q → Once s' q) (hall : z ≤ 2 → ∀ q ∈ g, Once s' q) : Dis z (n + 1) s' := by
 have old : ∀ q ∈ s.qs, Once s q → Once s' q := fun q hq o => o.step hp (D.keys q hq) e hg ht
 refine ⟨fun q hq => ?_, ?_, fun _ q hq => ?_, fun hz q hq => ?_, fun hn => ?_, fun z3 hn => ?_⟩
 ·rw [e] at hq
  rcases List.mem_append.mp hq with h | h
  ·have := D.keys q h; lia
  ·have := hk q h; lia
 ·rw [e]
  exact (D.alt.mono old).append (fun q h => old q (List.mem_of_getLast? h) (D.last hz q h)) ha
 ·rw [e, List.getLast?_append, List.getLast?_eq_some_getLast hg0] at hq
  refine hl q ?_
  rw [List.getLast?_eq_some_getLast hg0]; exact hq
 ·rw [e] at hq
  rcases List.mem_append.mp hq with h | h
  ·exact old q h (D.all hz q h)
  ·exact hall hz q h
 ·lia
 ·lia
theorem once_of {n : Nat} {s : FS} (k : ∀ q ∈ s.qs, q.1.val < n ∧ q.2.val < n) {p : Pl} (hp : p.val = n) {h' o' : List Pl} {g : List Qu} {q : Qu} (hq : q.1 = p ∨ q.2 = p) (hg : g.count q = 1) (ht : q.1 ∉ h'.tail ∨ q.2 ∉ h'.tail) : Once ⟨h', s.qs ++ g, o'⟩ q := by
 refine ⟨?_, ht⟩
 show List.count q (s.qs ++ g) = 1
 rw [List.count_append, count_new k hp hq, hg]
theorem dis1 (h1 : 1 ≤ z) {n : Nat} {s : FS} (D : Dis z n s) {p a : Pl} (hp : p.val = n) (hz : z ≤ n) (e : s.heap = [a]) (ha : a ≠ p) (hav : a.val < n) {h' o' : List Pl} (hh : h' = [p] ∨ h' = [a]) : Dis z (n + 1) ⟨h', s.qs ++ [(a, p)], o'⟩ := by
 have o1 : Once ⟨h', s.qs ++ [(a, p)], o'⟩ (a, p) := once_of D.keys hp (.inr rfl) (by simp) (by rcases hh with rfl | rfl <;> simp)
 refine Dis.step z (p := p) hp hz h1 D (g := [(a, p)]) rfl ?_ ?_ ?_ True.intro (by simp) ?_ ?_
 ·intro x hx; simp at hx; subst hx; exact .inr (.inl rfl)
 ·intro x hx; rcases hh with rfl | rfl <;> cases hx
 ·intro x hx; simp at hx; subst hx; exact ⟨by show a.val ≤ n; lia, by show p.val ≤ n; lia⟩
 ·intro q hq; simp at hq; subst hq; exact o1
 ·intro _ q hq; simp at hq; subst hq; exact o1
theorem dis0 (h1 : 1 ≤ z) {n : Nat} {s : FS} (D : Dis z n s) {p a : Pl} {r : List Pl} (hp : p.val = n) (hz : z ≤ n) (e : s.heap = a :: r) (hr : p ∉ r) (hav : a.val < n) {o' : List Pl} : Dis z (n + 1) ⟨a :: r, s.qs ++ [(a, p)], o'⟩ := by
 have o1 : Once ⟨a :: r, s.qs ++ [(a, p)], o'⟩ (a, p) := once_of D.keys hp (.inr rfl) (by simp) (.inr hr)
 refine Dis.step z (p := p) hp hz h1 D (g := [(a, p)]) rfl ?_ ?_ ?_ True.intro (by simp) ?_ ?_
 ·intro x hx; simp at hx; subst hx; exact .inr (.inl rfl)
 ·intro x hx; rw [e]; exact .inr hx
 ·intro x hx; simp at hx; subst hx; exact ⟨by show a.val ≤ n; lia, by show p.val ≤ n; lia⟩
 ·intro q hq; simp at hq; subst hq; exact o1
 ·intro _ q hq; simp at hq; subst hq; exact o1
theorem of_mem2 {α : Type} {x a b : α} (h : x ∈ [a, b]) : x = a ∨ x = b := (List.mem_cons.mp h).imp id List.mem_singleton.mp
theorem not_mem2 {α : Type} {x a b : α} (h1 : x ≠ a) (h2 : x ≠ b) : x ∉ [a, b] := fun h => (of_mem2 h).elim h1 h2
theorem cnt_1 {q r t : Qu} (h1 : r ≠ q) (h2 : t ≠ q) : [q, r, t].count q = 1 := by rw [List.count_cons_self, List.count_cons_of_ne h1, List.count_cons_of_ne h2]; rfl
theorem cnt_3 {q r t : Qu} (h1 : r ≠ q) (h2 : t ≠ q) : [r, t, q].count q = 1 := by rw [List.count_cons_of_ne h1, List.count_cons_of_ne h2, List.count_cons_self]; rfl
theorem cnt_21 {q r : Qu} (h1 : r ≠ q) : [q, r].count q = 1 := by rw [List.count_cons_self, List.count_cons_of_ne h1]; rfl
theorem cnt_22 {q r : Qu} (h1 : r ≠ q) : [r, q].count q = 1 := by rw [List.count_cons_of_ne h1, List.count_cons_self]; rfl
theorem dis2 (h1 : 1 ≤ z) {n : Nat} {s : FS} (D : Dis z n s) {p a b : Pl} (hp : p.val = n) (hz : z ≤ n) (e : s.heap = [a, b]) (ha : a ≠ p) (hab : a ≠ b) (hav : a.val < n) (hbv : b.val < n) {h' o' : List Pl} (hs : ∀ y ∈ h'.tail, y = p ∨ y = b) (hpb : p ∉ h'.tail ∨ b ∉ h'.tail) :
  Dis z (n + 1) ⟨h', s.qs ++ [(a, p), (p, b)], o'⟩ := by
 have n1 : a ∉ h'.tail := fun h => (hs a h).elim ha hab
 have al : ∀ q ∈ [(a, p), (p, b)], Once ⟨h', s.qs ++ [(a, p), (p, b)], o'⟩ q := forall2 (once_of D.keys hp (.inr rfl) (cnt_21 fun e => ha (congrArg Prod.fst e).symm) (.inl n1)) (once_of D.keys hp (.inl rfl) (cnt_22 fun e => ha (congrArg Prod.fst e)) hpb)
 refine Dis.step z (p := p) hp hz h1 D (g := [(a, p), (p, b)]) rfl (forall2 (.inr (.inl rfl)) (.inl rfl)) (fun y hy => ?_) (forall2 ⟨Nat.le_of_lt hav, Nat.le_of_eq hp⟩ ⟨Nat.le_of_eq hp, Nat.le_of_lt hbv⟩) (Alt.all al) (List.cons_ne_nil _ _) (fun q hq => al q (List.mem_of_getLast? hq)) fun _ => al
 rw [e]
 exact (hs y hy).imp id fun (h : y = b) => h ▸ .head _
theorem dis3 (h1 : 1 ≤ z) {n : Nat} {s : FS} (D : Dis z n s) {p a b c x : Pl} (hp : p.val = n) (hz : z ≤ n) (z3 : z = 3) (e : s.heap = [a, b, c]) (ha : a ≠ p) (hb : b ≠ p) (hab : a ≠ b) (hac : a ≠ c) (hav : a.val < n) (hbv : b.val < n) (hcv : c.val < n) {h' o' : List Pl}
  (hs : ∀ y ∈ h'.tail, y = p ∨ y = b ∨ y = c) (hpx : p ∉ h'.tail ∨ x ∉ h'.tail) (hx : x = b ∨ x = c) : Dis z (n + 1) ⟨h', s.qs ++ [(a, p), (b, c), (p, x)], o'⟩ := by
 have n1 : a ∉ h'.tail := fun h => (hs a h).elim ha fun h => h.elim hab hac
 have o1 : Once ⟨h', s.qs ++ [(a, p), (b, c), (p, x)], o'⟩ (a, p) := once_of D.keys hp (.inr rfl) (cnt_1 (fun e => hab (congrArg Prod.fst e).symm) fun e => ha (congrArg Prod.fst e).symm) (.inl n1)
 have o3 : Once ⟨h', s.qs ++ [(a, p), (b, c), (p, x)], o'⟩ (p, x) := once_of D.keys hp (.inl rfl) (cnt_3 (fun e => ha (congrArg Prod.fst e)) fun e => hb (congrArg Prod.fst e)) hpx
 refine Dis.step z (p := p) hp hz h1 D (g := [(a, p), (b, c), (p, x)]) rfl (forall3 (.inr (.inl rfl)) (.inr (.inr ⟨by rw [e]; exact .head _, by rw [e]; exact .tail _ (.head _)⟩)) (.inl rfl)) (fun y hy => ?_)
  (forall3 ⟨Nat.le_of_lt hav, Nat.le_of_eq hp⟩ ⟨Nat.le_of_lt hbv, Nat.le_of_lt hcv⟩ ⟨Nat.le_of_eq hp, hx.elim (fun h => h ▸ Nat.le_of_lt hbv) fun h => h ▸ Nat.le_of_lt hcv⟩) ⟨.inl o1, .inr o3, True.intro⟩ (List.cons_ne_nil _ _) (fun q hq => by cases hq; exact o3) fun hz2 => by lia
 rw [e]
 exact (hs y hy).imp id fun h => h.elim (fun h => h ▸ .head _) fun h => h ▸ .tail _ (.head _)
theorem dis_step (h1 : 1 ≤ z) (h3 : z ≤ 3) {n : Nat} (hn : n < 10) {s : FS} (D : Dis z n s) (hlen : s.heap.length = min n z) (hnd : s.heap.Nodup) (hlt : ∀ x ∈ s.heap, x.val < n) : Dis z (n + 1) (ostep v z s ⟨n, hn⟩) := by
 generalize hp : (⟨n, hn⟩ : Pl) = p
 have hpv : p.val = n := by rw [← hp]
 have hne : ∀ x ∈ s.heap, x ≠ p := fun x hx e => by
  have := hlt x hx
  rw [e] at this; lia
 match e : s.heap with
 | [] =>
  rw [e] at hlen
  have n0 : n = 0 := by simp at hlen; lia
  have es : ostep v z s p = ⟨[p], s.qs ++ [], s.out⟩ := by unfold ostep; rw [e, if_pos (show [].length < z from h1)]; rfl
  rw [es, D.none (by lia)]
  exact ⟨fun q hq => (nomatch hq), True.intro, fun _ q hq => (nomatch hq), fun _ q hq => (nomatch hq), fun _ => rfl, fun _ _ => Nat.zero_le _⟩
 | [a] =>
  rw [e] at hlen hlt hne
  have ha : a ≠ p := hne a (.head _)
  have ha' : p ≠ a := ha.symm
  have hav : a.val < n := hlt a (.head _)
  simp only [List.length_cons, List.length_nil] at hlen
  by_cases z1 : z = 1
  ·have hnl : ¬ s.heap.length < z := by rw [e]; simp; lia
   by_cases c : v a < v p
   ·have es : ostep v z s p = ⟨[p], s.qs ++ [(a, p)], s.out ++ [a]⟩ := by unfold ostep; rw [if_neg hnl, e]; simp only [hpp, if_pos c]
    rw [es]
    exact dis1 z h1 D hpv (by lia) e ha hav (.inl rfl)
   ·have es : ostep v z s p = ⟨[a], s.qs ++ [(a, p)], s.out ++ [p]⟩ := by unfold ostep; rw [if_neg hnl, e]; simp only [hpp, if_neg c]
    rw [es]
    exact dis1 z h1 D hpv (by lia) e ha hav (.inr rfl)
  ·have n1 : n = 1 := by lia
   have hll : s.heap.length < z := by rw [e]; simp; lia
   have key : ∀ h', (h' = [p, a] ∨ h' = [a, p]) → Dis z (n + 1) ⟨h', s.qs ++ [(p, a)], s.out⟩ := by
    intro h' hh
    have o1 : Once ⟨h', s.qs ++ [(p, a)], s.out⟩ (p, a) := once_of D.keys hpv (.inl rfl) (by simp) (by rcases hh with rfl | rfl <;> simp [ha, ha'])
    rw [D.none (by lia)] at o1 ⊢
    refine ⟨fun q hq => ?_, True.intro, fun _ q hq => ?_, fun _ q hq => ?_, fun _ => by lia, fun _ _ => by simp⟩
    ·simp at hq; subst hq; exact ⟨by dsimp only; lia, by dsimp only; lia⟩
    ·simp at hq; subst hq; exact o1
    ·simp at hq; subst hq; exact o1
   unfold ostep
   rw [if_pos hll, e]
   simp only [hpush]
   by_cases c : v p < v a
   ·rw [if_pos c]; exact key _ (.inl rfl)
   ·rw [if_neg c]; exact key _ (.inr rfl)
 | [a, b] =>
  rw [e] at hlen hlt hne hnd
  have ha : a ≠ p := hne a (.head _)
  have hb : b ≠ p := hne b (.tail _ (.head _))
  have hav : a.val < n := hlt a (.head _)
  have hbv : b.val < n := hlt b (.tail _ (.head _))
  have hab : a ≠ b := by simp at hnd; exact hnd
  simp only [List.length_cons, List.length_nil] at hlen
  by_cases z2 : z = 2
  ·have hnl : ¬ s.heap.length < z := by rw [e]; simp; lia
   unfold ostep
   rw [if_neg hnl, e]
   simp only [hpp]
   by_cases c : v a < v p
   ·rw [if_pos c]
    by_cases c2 : v p < v b
    ·rw [if_pos c2]; exact dis2 z h1 D hpv (by lia) e ha hab hav hbv (fun y hy => .inr (List.mem_singleton.mp hy)) (.inl fun h => hb (List.mem_singleton.mp h).symm)
    ·rw [if_neg c2]; exact dis2 z h1 D hpv (by lia) e ha hab hav hbv (fun y hy => .inl (List.mem_singleton.mp hy)) (.inr fun h => hb (List.mem_singleton.mp h))
   ·rw [if_neg c]
    exact dis0 z h1 D hpv (by lia) e (by simp; exact hb.symm) hav
  ·have n2 : n = 2 := by lia
   have z3 : z = 3 := by lia
   have hll : s.heap.length < z := by rw [e]; simp; lia
   have key : ∀ h', (h' = [p, b, a] ∨ h' = [a, b, p]) → Dis z (n + 1) ⟨h', s.qs ++ [(p, a)], s.out⟩ := by
    intro h' hh
    have ha' := ha.symm
    have hb' := hb.symm
    have hab' := hab.symm
    have o1 : Once ⟨h', s.qs ++ [(p, a)], s.out⟩ (p, a) := once_of D.keys hpv (.inl rfl) (by simp) (by rcases hh with rfl | rfl <;> simp [*])
    refine ⟨fun q hq => ?_, ?_, fun _ q hq => ?_, fun _ q hq => by lia, fun _ => by lia, fun _ _ => by lia⟩
    ·rcases List.mem_append.mp hq with h | h
     ·have := D.keys q h; lia
     ·simp at h; subst h; exact ⟨by dsimp only; lia, by dsimp only; lia⟩
    ·have := D.two z3 (by lia)
     show Alt _ (s.qs ++ [(p, a)])
     match hs : s.qs, this with
     | [], _ => exact True.intro
     | [y], _ => exact ⟨.inr (by rw [hs] at o1; exact o1), True.intro⟩
     | _ :: _ :: _, hh => simp at hh
    ·have hq' : (s.qs ++ [(p, a)]).getLast? = some q := hq
     rw [List.getLast?_append] at hq'
     simp at hq'
     subst hq'; exact o1
   unfold ostep
   rw [if_pos hll, e]
   simp only [hpush]
   by_cases c : v p < v a
   ·rw [if_pos c]; exact key _ (.inl rfl)
   ·rw [if_neg c]; exact key _ (.inr rfl)
 | [a, b, c] =>
  rw [e] at hlen hlt hne hnd
  have ha : a ≠ p := hne a (.head _)
  have hb : b ≠ p := hne b (.tail _ (.head _))
  have hc : c ≠ p := hne c (.tail _ (.tail _ (.head _)))
  have hav : a.val < n := hlt a (.head _)
  have hbv : b.val < n := hlt b (.tail _ (.head _))
  have hcv : c.val < n := hlt c (.tail _ (.tail _ (.head _)))
  simp at hnd
  obtain ⟨⟨hab, hac⟩, hbc⟩ := hnd
  simp only [List.length_cons, List.length_nil] at hlen
  have z3 : z = 3 := by lia
  have hnl : ¬ s.heap.length < z := by rw [e]; simp; lia
  unfold ostep
  rw [if_neg hnl, e]
  simp only [hpp]
  by_cases c0 : v a < v p
  ·rw [if_pos c0]
   by_cases c1 : v b < v c
   ·rw [if_pos c1]
    by_cases c2 : v p < v b
    ·rw [if_pos c2]; exact dis3 z h1 D hpv (by lia) z3 e ha hb hab hac hav hbv hcv (fun y hy => .inr (of_mem2 hy)) (.inl (not_mem2 hb.symm hc.symm)) (.inl rfl)
    ·rw [if_neg c2]; exact dis3 z h1 D hpv (by lia) z3 e ha hb hab hac hav hbv hcv (fun y hy => (of_mem2 hy).imp id .inr) (.inr (not_mem2 hb hbc)) (.inl rfl)
   ·rw [if_neg c1]
    by_cases c2 : v p < v c
    ·rw [if_pos c2]; exact dis3 z h1 D hpv (by lia) z3 e ha hb hab hac hav hbv hcv (fun y hy => .inr (of_mem2 hy)) (.inl (not_mem2 hb.symm hc.symm)) (.inr rfl)
    ·rw [if_neg c2]; exact dis3 z h1 D hpv (by lia) z3 e ha hb hab hac hav hbv hcv (fun y hy => (of_mem2 hy).elim (fun h => .inr (.inl h)) .inl) (.inr (not_mem2 (Ne.symm hbc) hc)) (.inr rfl)
  ·rw [if_neg c0]
   exact dis0 z h1 D hpv (by lia) e (by simp; exact ⟨hb.symm, hc.symm⟩) hav
 | _ :: _ :: _ :: _ :: _ => rw [e] at hlen; simp at hlen; lia
theorem heap_facts (h1 : 1 ≤ z) (h3 : z ≤ 3) {n : Nat} (hn : n ≤ 10) : (W v z n).heap.Nodup ∧ ∀ x ∈ (W v z n).heap, x.val < n := by
 have I := inv_W v z h1 h3 n hn
 have nd : (allP.take n).Nodup := (List.take_sublist _ _).nodup (by decide)
 have nd2 := I.perm.nodup_iff.mpr nd
 refine ⟨(List.nodup_append.mp nd2).1, fun x hx => ?_⟩
 have hm : x ∈ allP.take n := I.perm.mem_iff.mp (List.mem_append_left _ hx)
 obtain ⟨i, hi, rfl⟩ := List.mem_iff_getElem.mp hm
 rw [List.length_take] at hi
 rw [List.getElem_take]
 have : (allP[i]'(by lia)) = ⟨i, by rw [List.length_finRange] at hi; lia⟩ := by simp [allP]
 rw [this]
 show i < n
 lia
theorem dis_S (h1 : 1 ≤ z) (h3 : z ≤ 3) : ∀ n, n ≤ 10 → Dis z n (S v z n)
 | 0, _ => ⟨fun q hq => (nomatch hq), True.intro, fun _ q hq => (nomatch hq), fun _ q hq => (nomatch hq), fun _ => rfl, fun _ _ => Nat.zero_le _⟩
 | n + 1, hn => by
  have hn' : n < 10 := by lia
  have D := dis_S h1 h3 n (by lia)
  have hh := (short_is v z h1 h3 n (by lia)).1
  cases hr : refd v z ⟨n, hn'⟩ with
  | true =>
   have e : S v z (n + 1) = S v z n := by
    unfold S
    rw [take_snoc hn', List.filter_append]
    simp [hr]
   have hz : z ≤ n := by
    unfold refd at hr
    simp only [Bool.and_eq_true, decide_eq_true_eq] at hr
    exact hr.1
   rw [e]
   exact ⟨fun q hq => by have := D.keys q hq; lia, D.alt, fun _ => D.last hz, D.all, fun h => D.none (by lia), fun a b => by lia⟩
  | false =>
   have e : S v z (n + 1) = ostep v z (S v z n) ⟨n, hn'⟩ := by
    unfold S
    rw [take_snoc hn', List.filter_append]
    have : [(⟨n, hn'⟩ : Pl)].filter (fun p => !refd v z p) = [⟨n, hn'⟩] := by simp [hr]
    rw [this, ofold_snoc]
   rw [e]
   have hf := heap_facts v z h1 h3 (show n ≤ 10 by lia)
   have hl := (inv_W v z h1 h3 n (by lia)).len
   exact dis_step v z h1 h3 hn' D (by rw [hh]; exact hl) (by rw [hh]; exact hf.1) (by rw [hh]; exact hf.2)
end
end Mine
end
section
namespace Mine
section
variable (b : List Qu) (f : Qu → Bool)
noncomputable def cnt (j : Nat) : Nat := ((b.take j).filter fun q => !f q).length
noncomputable abbrev unfl : List Qu := b.filter fun q => !f q
theorem unfl_split (j : Nat) : unfl b f = (b.take j).filter (fun q => !f q) ++ (b.drop j).filter fun q => !f q := by
 rw [← List.filter_append, List.take_append_drop]
theorem cnt_succ {j : Nat} {q : Qu} (h : b[j]? = some q) : cnt b f (j + 1) = cnt b f j + if f q then 0 else 1 := by
 unfold cnt
 rw [List.take_add_one, h, List.filter_append, List.length_append]
 congr 1
 cases e : f q <;> simp [e]
theorem cnt_mono {i j : Nat} (h : i ≤ j) : cnt b f i ≤ cnt b f j := by
 unfold cnt
 exact ((List.take_sublist_take_left h).filter _).length_le
theorem cnt_zero : cnt b f 0 = 0 := by simp [cnt]
theorem cnt_len : cnt b f b.length = (unfl b f).length := by unfold cnt; rw [List.take_length]
theorem get_cnt {j : Nat} {q : Qu} (h : b[j]? = some q) (hf : f q = false) : (unfl b f)[cnt b f j]? = some q := by
 rw [unfl_split b f j, List.getElem?_append_right (by unfold cnt; exact Nat.le_refl _)]
 have e : cnt b f j - ((b.take j).filter fun q => !f q).length = 0 := by unfold cnt; lia
 rw [e]
 obtain ⟨hj, rfl⟩ := List.getElem?_eq_some_iff.mp h
 rw [List.drop_eq_getElem_cons hj, List.filter_cons, hf]
 rfl
noncomputable def Blk (i j k : Nat) : Prop := ∀ t, t < k → ∃ q, (unfl b f)[i + t]? = some q ∧ b[j + t]? = some q
noncomputable def Bd (x : Nat) : Prop := ∀ p q, 0 < x → b[x - 1]? = some p → b[x]? = some q → f p = false → f q = false → False
structure Rng (alo ahi blo bhi : Nat) : Prop where
 lo : cnt b f blo = alo
 hi : cnt b f bhi = ahi
 le : blo ≤ bhi
 len : bhi ≤ b.length
 blo : Bd b f blo
 bhi : Bd b f bhi
structure Best (alo ahi blo bhi i j k : Nat) : Prop where
 ia : alo ≤ i
 ib : i + k ≤ ahi
 ja : blo ≤ j
 jb : j + k ≤ bhi
 blk : Blk b f i j k
 max : ∀ i' j' k', alo ≤ i' → i' + k' ≤ ahi → blo ≤ j' → j' + k' ≤ bhi → Blk b f i' j' k' → k' ≤ k
structure Safe : Prop where
 two : ∀ i i' : Nat, (∃ p q, (unfl b f)[i]? = some p ∧ (unfl b f)[i']? = some p ∧ (unfl b f)[i + 1]? = some q ∧ (unfl b f)[i' + 1]? = some q) → i = i'
 one : (∀ i i' : Nat, (∃ p, (unfl b f)[i]? = some p ∧ (unfl b f)[i']? = some p) → i = i') ∨
  (∀ (x : Nat) q, b[x]? = some q → f q = false → (∃ y, x = y + 1 ∧ ∃ p, b[y]? = some p ∧ f p = false) ∨ (∃ p, b[x + 1]? = some p ∧ f p = false))
theorem blk_unfl {i j k : Nat} (B : Blk b f i j k) {t : Nat} (ht : t < k) {q : Qu} (e : b[j + t]? = some q) : f q = false := by
 obtain ⟨q', h1, h2⟩ := B t ht
 rw [e] at h2; cases h2
 have := List.mem_of_getElem? h1
 have := (List.mem_filter.mp this).2
 simpa using this
theorem cnt_run {j k : Nat} (h : ∀ t, t < k → ∃ q, b[j + t]? = some q ∧ f q = false) : ∀ t, t ≤ k → cnt b f (j + t) = cnt b f j + t
 | 0, _ => rfl
 | t + 1, ht => by
  obtain ⟨q, h1, h2⟩ := h t (by lia)
  have ih := cnt_run h t (by lia)
  rw [show j + (t + 1) = j + t + 1 by lia, cnt_succ b f h1, h2, ih]
  simp; lia
theorem blk_of {j k : Nat} (h : ∀ t, t < k → ∃ q, b[j + t]? = some q ∧ f q = false) : Blk b f (cnt b f j) j k := by
 intro t ht
 obtain ⟨q, h1, h2⟩ := h t ht
 refine ⟨q, ?_, h1⟩
 rw [← cnt_run b f h t (by lia)]
 exact get_cnt b f h1 h2
theorem exists_unfl {lo hi : Nat} (hle : lo ≤ hi) (hlen : hi ≤ b.length) (h : cnt b f lo < cnt b f hi) : ∃ x q, lo ≤ x ∧ x < hi ∧ b[x]? = some q ∧ f q = false := by
 induction hi with
 | zero =>
  have : lo = 0 := by lia
  subst this; lia
 | succ n ih =>
  by_cases e : lo = n + 1
  ·subst e; lia
  ·have hn : n < b.length := by lia
   have hq : b[n]? = some b[n] := List.getElem?_eq_getElem hn
   cases hf : f b[n] with
   | false => exact ⟨n, b[n], by lia, by lia, hq, hf⟩
   | true =>
    have c := cnt_succ b f hq
    rw [hf] at c
    simp at c
    obtain ⟨x, q, h1, h2, h3⟩ := ih (by lia) (by lia) (by lia)
    exact ⟨x, q, h1, by lia, h3⟩
theorem best_run (Z : Safe b f) {alo ahi blo bhi i j k : Nat} (R : Rng b f alo ahi blo bhi) (B : Best b f alo ahi blo bhi i j k) (hne : alo < ahi) :
  0 < k ∧ i = cnt b f j ∧ i + k = cnt b f (j + k) ∧ (∀ t, t < k → ∃ q, b[j + t]? = some q ∧ f q = false) ∧ Bd b f j ∧ Bd b f (j + k) := by
 obtain ⟨x, q, hx1, hx2, hxq, hxf⟩ := exists_unfl b f R.le R.len (by rw [R.lo, R.hi]; exact hne)
 have hlo := R.lo
 have hhi := R.hi
 have hun : ∀ t, t < k → ∃ q, b[j + t]? = some q ∧ f q = false := fun t ht => by
  obtain ⟨q, _, h2⟩ := B.blk t ht
  exact ⟨q, h2, blk_unfl b f B.blk ht h2⟩
 have hblk := blk_of b f hun
 have hcr := cnt_run b f hun
 have pair : ∀ y, blo ≤ y → y + 2 ≤ bhi → (∀ t, t < 2 → ∃ q, b[y + t]? = some q ∧ f q = false) → 2 ≤ k := fun y hy1 hy2 hy => by
  refine B.max (cnt b f y) y 2 ?_ ?_ hy1 hy2 (blk_of b f hy)
  ·rw [← hlo]; exact cnt_mono b f hy1
  ·rw [← cnt_run b f hy 2 (Nat.le_refl _), ← hhi]; exact cnt_mono b f hy2
 have k1 : 1 ≤ k := by
  have hy : ∀ t, t < 1 → ∃ q, b[x + t]? = some q ∧ f q = false := fun t ht => by
   have : t = 0 := by lia
   subst this
   exact ⟨q, hxq, hxf⟩
  refine B.max (cnt b f x) x 1 ?_ ?_ hx1 hx2 (blk_of b f hy)
  ·rw [← hlo]; exact cnt_mono b f hx1
  ·rw [← cnt_run b f hy 1 (Nat.le_refl _), ← hhi]; exact cnt_mono b f hx2
 have hal : i = cnt b f j := by
  obtain ⟨p0, a1, a2⟩ := B.blk 0 k1
  obtain ⟨p0', c1, c2⟩ := hblk 0 k1
  have e0 : p0 = p0' := by rw [a2] at c2; exact Option.some.inj c2
  subst e0
  rcases Z.one with h | h
  ·exact h i (cnt b f j) ⟨p0, a1, c1⟩
  ·have k2 : 2 ≤ k := by
    rcases h x q hxq hxf with ⟨y, rfl, p, hp, hpf⟩ | ⟨p, hp, hpf⟩
    ·by_cases e : blo = y + 1
     ·exact (R.blo p q (by lia) (by rw [e]; exact hp) (by rw [e]; exact hxq) hpf hxf).elim
     ·refine pair y (by lia) (by lia) fun t ht => ?_
      match t, ht with
      | 0, _ => exact ⟨p, hp, hpf⟩
      | 1, _ => exact ⟨q, hxq, hxf⟩
    ·by_cases e : bhi = x + 1
     ·exact (R.bhi q p (by lia) (by rw [e]; exact hxq) (by rw [e]; exact hp) hxf hpf).elim
     ·refine pair x (by lia) (by lia) fun t ht => ?_
      match t, ht with
      | 0, _ => exact ⟨q, hxq, hxf⟩
      | 1, _ => exact ⟨p, hp, hpf⟩
   obtain ⟨p1, a3, a4⟩ := B.blk 1 (by lia)
   obtain ⟨p1', c3, c4⟩ := hblk 1 (by lia)
   have e1 : p1 = p1' := by rw [a4] at c4; exact Option.some.inj c4
   subst e1
   exact Z.two i (cnt b f j) ⟨p0, p1, a1, c1, a3, c3⟩
 have hik : i + k = cnt b f (j + k) := by rw [hcr k (Nat.le_refl _), hal]
 refine ⟨k1, hal, hik, hun, ?_, ?_⟩
 ·intro p q0 hj hp hq0 hpf hqf
  by_cases e : blo = j
  ·exact R.blo p q0 (by lia) (by rw [e]; exact hp) (by rw [e]; exact hq0) hpf hqf
  ·have hja := B.ja
   have hjb := B.jb
   have hy : ∀ t, t < k + 1 → ∃ q, b[j - 1 + t]? = some q ∧ f q = false := fun t ht => by
    match t with
    | 0 => exact ⟨p, hp, hpf⟩
    | t + 1 =>
     obtain ⟨q, h1, h2⟩ := hun t (by lia)
     exact ⟨q, by rw [show j - 1 + (t + 1) = j + t by lia]; exact h1, h2⟩
   have := B.max (cnt b f (j - 1)) (j - 1) (k + 1) (by rw [← hlo]; exact cnt_mono b f (by lia)) (by
    rw [← cnt_run b f hy (k + 1) (Nat.le_refl _), ← hhi]; exact cnt_mono b f (by lia)) (by lia) (by lia) (blk_of b f hy)
   lia
 ·intro p q0 hj hp hq0 hpf hqf
  by_cases e : bhi = j + k
  ·exact R.bhi p q0 (by lia) (by rw [e]; exact hp) (by rw [e]; exact hq0) hpf hqf
  ·have hja := B.ja
   have hjb := B.jb
   have hy : ∀ t, t < k + 1 → ∃ q, b[j + t]? = some q ∧ f q = false := fun t ht => by
    by_cases e2 : t = k
    ·subst e2; exact ⟨q0, hq0, hqf⟩
    ·exact hun t (by lia)
   have := B.max (cnt b f j) j (k + 1) (by rw [← hlo]; exact cnt_mono b f (by lia)) (by
    rw [← cnt_run b f hy (k + 1) (Nat.le_refl _), ← hhi]; exact cnt_mono b f (by lia)) (by lia) (by lia) (blk_of b f hy)
   lia
end
end Mine
end
section
namespace Mine
theorem Alt.get {P : Qu → Prop} : ∀ {l : List Qu} {i : Nat} {p q : Qu}, Alt P l → l[i]? = some p → l[i + 1]? = some q → P p ∨ P q
 | [], _, _, _, _, h, _ => by simp at h
 | [_], i, _, _, _, _, h => by simp at h
 | x :: y :: l, 0, p, q, h, h1, h2 => by
  simp at h1 h2; subst h1; subst h2; exact h.1
 | x :: y :: l, i + 1, p, q, h, h1, h2 => Alt.get (l := y :: l) (i := i) h.2 (by simpa using h1) (by simpa using h2)
theorem count_idx {l : List Qu} {x : Qu} : ∀ {i j : Nat}, l.count x = 1 → l[i]? = some x → l[j]? = some x → i = j := by
 induction l with
 | nil => intro i j _ h _; simp at h
 | cons y l ih =>
  intro i j hc hi hj
  by_cases e : y = x
  ·subst e
   have h0 : l.count y = 0 := by simpa using hc
   have hn : y ∉ l := List.count_eq_zero.mp h0
   match i, j, hi, hj with
   | 0, 0, _, _ => rfl
   | 0, j + 1, _, hj => exact absurd (List.mem_of_getElem? (by simpa using hj)) hn
   | i + 1, 0, hi, _ => exact absurd (List.mem_of_getElem? (by simpa using hi)) hn
   | i + 1, j + 1, hi, _ => exact absurd (List.mem_of_getElem? (by simpa using hi)) hn
  ·have h1 : l.count x = 1 := by rw [List.count_cons_of_ne e] at hc; exact hc
   match i, j, hi, hj with
   | 0, _, hi, _ => simp at hi; exact absurd hi e
   | i + 1, 0, _, hj => simp at hj; exact absurd hj e
   | i + 1, j + 1, hi, hj =>
    have e2 := ih h1 (show l[i]? = some x by simpa using hi) (show l[j]? = some x by simpa using hj)
    lia
noncomputable def NoIso (f : Qu → Bool) (l : List Qu) : Prop := ∀ (x : Nat) (q : Qu), l[x]? = some q → f q = false → (∃ y, x = y + 1 ∧ ∃ p, l[y]? = some p ∧ f p = false) ∨ (∃ p, l[x + 1]? = some p ∧ f p = false)
theorem NoIso.append {f : Qu → Bool} {l g : List Qu} (h : NoIso f l) (k : NoIso f g) : NoIso f (l ++ g) := by
 intro x q hx hf
 by_cases c : x < l.length
 ·rw [List.getElem?_append_left c] at hx
  rcases h x q hx hf with ⟨y, rfl, p, hp, hpf⟩ | ⟨p, hp, hpf⟩
  ·exact .inl ⟨y, rfl, p, by rw [List.getElem?_append_left (by lia)]; exact hp, hpf⟩
  ·have := (List.getElem?_eq_some_iff.mp hp).1
   exact .inr ⟨p, by rw [List.getElem?_append_left this]; exact hp, hpf⟩
 ·rw [List.getElem?_append_right (by lia)] at hx
  rcases k _ q hx hf with ⟨y, hy, p, hp, hpf⟩ | ⟨p, hp, hpf⟩
  ·exact .inl ⟨y + l.length, by lia, p, by rw [List.getElem?_append_right (by lia), Nat.add_sub_cancel]; exact hp, hpf⟩
  ·refine .inr ⟨p, ?_, hpf⟩
   rw [List.getElem?_append_right (by lia), show x + 1 - l.length = x - l.length + 1 by lia]; exact hp
theorem NoIso.all {f : Qu → Bool} {l : List Qu} (h : ∀ q ∈ l, f q = false) (hl : 2 ≤ l.length) : NoIso f l := by
 intro x q hx hf
 have hxl := (List.getElem?_eq_some_iff.mp hx).1
 match x, hx with
 | 0, _ => exact .inr ⟨l[1], List.getElem?_eq_getElem (by lia), h _ (List.getElem_mem _)⟩
 | y + 1, _ => exact .inl ⟨y, rfl, l[y], List.getElem?_eq_getElem (by lia), h _ (List.getElem_mem _)⟩
theorem NoIso.flag {f : Qu → Bool} {q : Qu} (h : f q = true) : NoIso f [q] := by
 intro x p hx hf
 match x, hx with
 | 0, hx => simp at hx; subst hx; rw [h] at hf; cases hf
 | _ + 1, hx => simp at hx
section
variable (v : Pl → Int) (z : Nat)
theorem hpush_len_q (h : List Pl) (p : Pl) (hl : h.length ≤ 2) : (hpush v h p).2.length = min h.length 1 := by
 match h, hl with
 | [], _ => rfl
 | [a], _ => simp only [hpush]; split <;> rfl
 | [a, b], _ => simp only [hpush]; split <;> rfl
 | _ :: _ :: _ :: _, hl => simp at hl
theorem hpp_len_q (a b c p : Pl) (ha : v a < v p) : (hpp v [a, b, c] p).2.2.length = 3 := by
 simp only [hpp, if_pos ha]
 (repeat' split) <;> rfl
theorem early (h1 : 1 ≤ z) (h3 : z ≤ 3) : ∀ n, n ≤ z → ∀ q ∈ (W v z n).qs, q.2.val < z
 | 0, _ => fun q hq => by cases hq
 | n + 1, hn => fun q hq => by
  rw [W_lt v z h1 h3 (show n < 10 by lia) (by lia)] at hq
  rcases List.mem_append.mp hq with h | h
  ·exact early h1 h3 n (by lia) q h
  ·have hm := (hpush_q v _ _ q h).2
   rcases List.mem_cons.mp hm with e | hm
   ·rw [e]; show n < z; lia
   ·have := (heap_facts v z h1 h3 (show n ≤ 10 by lia)).2 _ hm
    lia
theorem noIso_W (z3 : z = 3) : ∀ n, 3 ≤ n → n ≤ 10 → NoIso (fun q => refd v z q.2) (W v z n).qs := by
 have h1 : 1 ≤ z := by lia
 have h3 : z ≤ 3 := by lia
 have base : NoIso (fun q => refd v z q.2) (W v z 3).qs := by
  refine NoIso.all (fun q hq => ?_) ?_
  ·have := early v z h1 h3 3 (by lia) q hq
   unfold refd
   simp; lia
  ·have e0 := W_lt v z h1 h3 (show 0 < 10 by lia) (by lia)
   have e1 := W_lt v z h1 h3 (show 1 < 10 by lia) (by lia)
   have e2 := W_lt v z h1 h3 (show 2 < 10 by lia) (by lia)
   have l1 := (inv_W v z h1 h3 1 (by lia)).len
   have l2 := (inv_W v z h1 h3 2 (by lia)).len
   have n2 : (W v z 2).qs.length = (W v z 1).qs.length + min (W v z 1).heap.length 1 := by
    rw [show W v z 2 = _ from e1]
    dsimp only
    rw [List.length_append, hpush_len_q v _ _ (by lia)]
   have n3 : (W v z 3).qs.length = (W v z 2).qs.length + min (W v z 2).heap.length 1 := by
    rw [show W v z 3 = _ from e2]
    dsimp only
    rw [List.length_append, hpush_len_q v _ _ (by lia)]
   lia
 intro n hn
 induction n with
 | zero => lia
 | succ n ih =>
  intro hn10
  by_cases e : n = 2
  ·subst e; exact base
  ·have hn' : n < 10 := by lia
   have ih' := ih (by lia) (by lia)
   cases hr : refd v z ⟨n, hn'⟩ with
   | true =>
    rw [W_ref v z h1 h3 hn' hr]
    exact ih'.append (NoIso.flag (q := (root v z n, ⟨n, hn'⟩)) hr)
   | false =>
    have hs : (W v z (n + 1)).qs = (W v z n).qs ++ (ostep v z ⟨(W v z n).heap, [], []⟩ ⟨n, hn'⟩).qs := by rw [W_succ v z hn', ostep_parts]
    rw [hs]
    refine ih'.append (NoIso.all (fun q hq => new_ok v z h1 h3 hn' hr q hq) ?_)
    have hl := (inv_W v z h1 h3 n (by lia)).len
    have hz : z ≤ n := by lia
    obtain ⟨r, er⟩ := heap_cons v z h1 h3 (show n ≤ 10 by lia) hz
    have hra : v (root v z n) < v ⟨n, hn'⟩ := by
     unfold refd at hr
     simp [hz] at hr
     exact hr
    unfold ostep
    dsimp only
    rw [if_neg (by lia)]
    dsimp only
    rw [er] at hl ⊢
    match r, hl with
    | [], hl => simp at hl; lia
    | [b], hl => simp at hl; lia
    | [b, c], _ =>
     simp only [List.nil_append]
     rw [hpp_len_q v _ _ _ _ hra]; lia
    | _ :: _ :: _ :: _, hl => simp at hl; lia
theorem safe_W (h1 : 1 ≤ z) (h3 : z ≤ 3) : Safe (W v z 10).qs (fun q => refd v z q.2) := by
 have D := dis_S v z h1 h3 10 (Nat.le_refl _)
 have e : (S v z 10).qs = unfl (W v z 10).qs (fun q => refd v z q.2) := (short_is v z h1 h3 10 (Nat.le_refl _)).2
 refine ⟨?_, ?_⟩
 ·rintro i i' ⟨p, q, a1, a2, a3, a4⟩
  rw [← e] at a1 a2 a3 a4
  rcases D.alt.get a1 a3 with h | h
  ·exact count_idx h.1 a1 a2
  ·have := count_idx h.1 a3 a4; lia
 ·by_cases hz : z ≤ 2
  ·refine .inl ?_
   rintro i i' ⟨p, a1, a2⟩
   rw [← e] at a1 a2
   exact count_idx (D.all hz p (List.mem_of_getElem? a1)).1 a1 a2
  ·exact .inr (noIso_W v z (by lia) 10 (by lia) (Nat.le_refl _))
end
end Mine
end
section
namespace Mine
section
variable (b : List Qu) (f : Qu → Bool)
noncomputable def AllF (lo hi : Nat) : Prop := ∀ x q, lo ≤ x → x < hi → b[x]? = some q → f q = true
structure URun (j k : Nat) : Prop where
 pos : 0 < k
 un : ∀ t, t < k → ∃ q, b[j + t]? = some q ∧ f q = false
 b1 : Bd b f j
 b2 : Bd b f (j + k)
inductive Cover (hi : Nat) : Nat → List (Nat × Nat) → Prop
 | nil {x : Nat} : x ≤ hi → AllF b f x hi → Cover hi x []
 | cons {x j k : Nat} {L : List (Nat × Nat)} : x ≤ j → AllF b f x j → URun b f j k → Cover hi (j + k) L → Cover hi x ((j, k) :: L)
theorem Cover.le {hi x : Nat} {L : List (Nat × Nat)} (h : Cover b f hi x L) : x ≤ hi := by
 induction h with
 | nil h _ => exact h
 | cons h _ _ _ ih => lia
theorem allF_trans {x y z : Nat} (h1 : AllF b f x y) (h2 : AllF b f y z) : AllF b f x z := fun w q a c e => by
 by_cases d : w < y
 ·exact h1 w q a d e
 ·exact h2 w q (by lia) c e
theorem Cover.back {hi x y : Nat} {L : List (Nat × Nat)} (h : Cover b f hi x L) (hy : y ≤ x) (ha : AllF b f y x) : Cover b f hi y L := by
 cases h with
 | nil h1 h2 => exact .nil (by lia) (allF_trans b f ha h2)
 | cons h1 h2 h3 h4 => exact .cons (by lia) (allF_trans b f ha h2) h3 h4
theorem Cover.comp {hi x j k : Nat} {L1 L2 : List (Nat × Nat)} (h : Cover b f j x L1) (R : URun b f j k) (h2 : Cover b f hi (j + k) L2) : Cover b f hi x (L1 ++ (j, k) :: L2) := by
 induction h with
 | nil a c => exact .cons a c R h2
 | cons a c d e ih => exact .cons a c d ih
theorem allF_of {lo hi : Nat} (hle : lo ≤ hi) (hlen : hi ≤ b.length) (h : cnt b f lo = cnt b f hi) : AllF b f lo hi := by
 intro x q h1 h2 h3
 cases hf : f q with
 | true => rfl
 | false =>
  have c := cnt_succ b f h3
  rw [hf] at c
  simp at c
  have c1 := cnt_mono b f h1
  have c2 := cnt_mono b f (show x + 1 ≤ hi by lia)
  lia
theorem cnt_allF {lo hi : Nat} (hle : lo ≤ hi) (hlen : hi ≤ b.length) (h : AllF b f lo hi) : cnt b f hi = cnt b f lo := by
 induction hi with
 | zero =>
  have : lo = 0 := by lia
  subst this; rfl
 | succ n ih =>
  by_cases e : lo = n + 1
  ·subst e; rfl
  ·have hq : b[n]? = some b[n] := List.getElem?_eq_getElem (by lia)
   rw [cnt_succ b f hq, h n _ (by lia) (by lia) hq, ih (by lia) (by lia) fun x q a c d => h x q a (by lia) d]
   rfl
theorem Cover.zero {lo hi : Nat} (hle : lo ≤ hi) (hlen : hi ≤ b.length) (h : cnt b f lo = cnt b f hi) : Cover b f hi lo [] := .nil hle (allF_of b f hle hlen h)
theorem best_splits (Z : Safe b f) {alo ahi blo bhi i j k : Nat} (R : Rng b f alo ahi blo bhi) (B : Best b f alo ahi blo bhi i j k) (hk : 0 < k) :
  i = cnt b f j ∧ URun b f j k ∧ Rng b f alo i blo j ∧ Rng b f (i + k) ahi (j + k) bhi ∧ (¬ (alo < i ∧ blo < j) → Cover b f j blo []) ∧ (¬ (i + k < ahi ∧ j + k < bhi) → Cover b f bhi (j + k) []) := by
 have hia := B.ia
 have hib := B.ib
 have hja := B.ja
 have hjb := B.jb
 have hlen := R.len
 have hlo := R.lo
 have hhi := R.hi
 obtain ⟨_, h2, h3, h4, h5, h6⟩ := best_run b f Z R B (by lia)
 refine ⟨h2, ⟨hk, h4, h5, h6⟩, ⟨R.lo, h2.symm, hja, by lia, R.blo, h5⟩, ⟨h3.symm, R.hi, hjb, R.len, h6, R.bhi⟩, fun hn => ?_, fun hn => ?_⟩
 ·refine Cover.zero b f hja (by lia) ?_
  by_cases c : blo < j
  ·have : ¬ alo < i := fun d => hn ⟨d, c⟩
   lia
  ·rw [show blo = j by lia]
 ·refine Cover.zero b f hjb R.len ?_
  by_cases c : j + k < bhi
  ·have : ¬ i + k < ahi := fun d => hn ⟨d, c⟩
   lia
  ·rw [show j + k = bhi by lia]
theorem best_none (Z : Safe b f) {alo ahi blo bhi i j : Nat} (R : Rng b f alo ahi blo bhi) (B : Best b f alo ahi blo bhi i j 0) : Cover b f bhi blo [] := by
 refine Cover.zero b f R.le R.len ?_
 have h1 := R.lo
 have h2 := R.hi
 have h3 := cnt_mono b f R.le
 by_cases c : alo < ahi
 ·exact absurd (best_run b f Z R B c).1 (by lia)
 ·lia
theorem rng_all : Rng b f 0 (unfl b f).length 0 b.length :=
 ⟨cnt_zero b f, cnt_len b f, Nat.zero_le _, Nat.le_refl _, fun _ _ h => absurd h (Nat.lt_irrefl _), fun p q _ _ h => by simp at h⟩
inductive Codes : Nat → List (Bool × Nat × Nat × Nat × Nat) → Prop
 | done : Codes b.length []
 | seg {j e : Nat} {c : Bool} {cs : List (Bool × Nat × Nat × Nat × Nat)} : j < e → e ≤ b.length → (∀ x q, j ≤ x → x < e → b[x]? = some q → f q = c) → (∀ q, b[e]? = some q → f q ≠ c) → Codes e cs → Codes j ((c, cnt b f j, cnt b f e, j, e) :: cs)
theorem Codes.det {j : Nat} {x y : List (Bool × Nat × Nat × Nat × Nat)} (h : Codes b f j x) : Codes b f j y → x = y := by
 induction h generalizing y with
 | done =>
  intro h
  cases h with
  | done => rfl
  | seg a c _ _ _ => lia
 | @seg j e c cs a1 a2 a3 a4 a5 ih =>
  intro h
  cases h with
  | done => lia
  | @seg _ e' c' cs' b1 b2 b3 b4 b5 =>
   have hj : b[j]? = some b[j] := List.getElem?_eq_getElem (by lia)
   have hc : c = c' := (a3 j _ (Nat.le_refl _) a1 hj).symm.trans (b3 j _ (Nat.le_refl _) b1 hj)
   subst hc
   have he : e = e' := by
    rcases Nat.lt_trichotomy e e' with h | h | h
    ·have hq : b[e]? = some b[e] := List.getElem?_eq_getElem (by lia)
     exact absurd (b3 e _ (by lia) h hq) (a4 _ hq)
    ·exact h
    ·have hq : b[e']? = some b[e'] := List.getElem?_eq_getElem (by lia)
     exact absurd (a3 e' _ (by lia) h hq) (b4 _ hq)
   subst he
   rw [ih b5]
noncomputable def opcs : Nat → List (Nat × Nat) → List (Bool × Nat × Nat × Nat × Nat)
 | x, [] => if x < b.length then [(true, cnt b f x, cnt b f x, x, b.length)] else []
 | x, (j, k) :: L => (if x < j then [(true, cnt b f x, cnt b f x, x, j)] else []) ++ (false, cnt b f j, cnt b f j + k, j, j + k) :: opcs (j + k) L
theorem run_un {j k : Nat} (R : URun b f j k) (x : Nat) (q : Qu) (h1 : j ≤ x) (h2 : x < j + k) (h3 : b[x]? = some q) : f q = false := by
 obtain ⟨q', e, hf⟩ := R.un (x - j) (by lia)
 rw [show j + (x - j) = x by lia, h3] at e
 cases e; exact hf
theorem run_end {j k : Nat} (R : URun b f j k) (q : Qu) (h : b[j + k]? = some q) : f q = true := by
 have := R.pos
 obtain ⟨q', e, hf⟩ := R.un (k - 1) (by lia)
 cases hq : f q with
 | true => rfl
 | false => exact (R.b2 q' q (by lia) (by rw [show j + k - 1 = j + (k - 1) by lia]; exact e) h hf hq).elim
theorem run_len {j k : Nat} (R : URun b f j k) : j + k ≤ b.length := by
 have := R.pos
 obtain ⟨q', e, hf⟩ := R.un (k - 1) (by lia)
 have := (List.getElem?_eq_some_iff.mp e).1
 lia
theorem Cover.codes {x : Nat} {L : List (Nat × Nat)} (h : Cover b f b.length x L) : Codes b f x (opcs b f x L) := by
 induction h with
 | @nil x h1 h2 =>
  unfold opcs
  by_cases c : x < b.length
  ·rw [if_pos c]
   have e := cnt_allF b f h1 (Nat.le_refl _) h2
   have := Codes.seg (c := true) c (Nat.le_refl _) h2 (fun q hq => by simp at hq) (.done (b := b) (f := f))
   rw [e] at this
   exact this
  ·rw [if_neg c, show x = b.length by lia]
   exact .done
 | @cons x j k L h1 h2 R hc ih =>
  unfold opcs
  have hp := R.pos
  have hl := run_len b f R
  have hr := cnt_run b f R.un k (Nat.le_refl _)
  have key : Codes b f j ((false, cnt b f j, cnt b f j + k, j, j + k) :: opcs b f (j + k) L) := by
   have := Codes.seg (c := false) (show j < j + k by lia) hl (run_un b f R) (fun q hq => by rw [run_end b f R q hq]; simp) ih
   rw [hr] at this
   exact this
  by_cases c : x < j
  ·rw [if_pos c]
   have e := cnt_allF b f h1 (by lia) h2
   have := Codes.seg (c := true) c (by lia) h2 (fun q hq => by rw [run_un b f R j q (Nat.le_refl _) (by lia) hq]; simp) key
   have e2 : (true, cnt b f x, cnt b f j, x, j) = (true, cnt b f x, cnt b f x, x, j) := by rw [e]
   rw [e2] at this
   exact this
  ·rw [if_neg c, show x = j by lia]
   exact key
end
end Mine
end
section
namespace Mine
noncomputable abbrev RT := Nat × Nat × Nat × Nat
section
variable (b : List Qu) (f : Qu → Bool)
inductive CovAll : List RT → List (Nat × Nat) → Prop
 | nil : CovAll [] []
 | cons {r : RT} {q : List RT} {L M : List (Nat × Nat)} : Cover b f r.2.2.2 r.2.2.1 L → CovAll q M → CovAll (r :: q) (L ++ M)
theorem CovAll.append {q1 q2 : List RT} {M1 M2 : List (Nat × Nat)} (h1 : CovAll b f q1 M1) (h2 : CovAll b f q2 M2) : CovAll b f (q1 ++ q2) (M1 ++ M2) := by
 induction h1 with
 | nil => exact h2
 | cons a _ ih => rw [List.append_assoc]; exact .cons a ih
theorem CovAll.split {q1 q2 : List RT} : ∀ {M : List (Nat × Nat)}, CovAll b f (q1 ++ q2) M → ∃ M1 M2, M = M1 ++ M2 ∧ CovAll b f q1 M1 ∧ CovAll b f q2 M2 := by
 induction q1 with
 | nil => intro M h; exact ⟨[], M, rfl, .nil, h⟩
 | cons r q1 ih =>
  intro M h
  cases h with
  | @cons _ _ L M a c =>
   obtain ⟨M1, M2, rfl, d1, d2⟩ := ih c
   exact ⟨L ++ M1, M2, by rw [List.append_assoc], .cons a d1, d2⟩
theorem CovAll.one {r : RT} {M : List (Nat × Nat)} (h : CovAll b f [r] M) : Cover b f r.2.2.2 r.2.2.1 M := by
 cases h with
 | cons a c => cases c; rw [List.append_nil]; exact a
structure QInv (queue : List RT) (mb : List (Nat × Nat)) : Prop where
 rng : ∀ r ∈ queue, Rng b f r.1 r.2.1 r.2.2.1 r.2.2.2
 all : ∀ M, CovAll b f queue M → ∃ L, Cover b f b.length 0 L ∧ L.Perm (mb ++ M)
 run : ∀ r ∈ mb, URun b f r.1 r.2
theorem qinv_start : QInv b f [(0, (unfl b f).length, 0, b.length)] [] := by
 refine ⟨fun r hr => ?_, fun M h => ?_, fun r hr => nomatch hr⟩
 ·rw [List.mem_singleton.mp hr]; exact rng_all b f
 ·exact ⟨M, h.one, .refl _⟩
theorem qinv_none (Z : Safe b f) {queue : List RT} {mb : List (Nat × Nat)} {r : RT} {i j : Nat} (I : QInv b f (queue ++ [r]) mb) (B : Best b f r.1 r.2.1 r.2.2.1 r.2.2.2 i j 0) : QInv b f queue mb := by
 have R := I.rng r (List.mem_append_right _ (.head _))
 refine ⟨fun x hx => I.rng x (List.mem_append_left _ hx), fun M h => ?_, I.run⟩
 have := I.all (M ++ ([] ++ [])) (h.append b f (.cons (best_none b f Z R B) .nil))
 simpa using this
noncomputable def lrange (r : RT) (i j : Nat) : List RT := if r.1 < i ∧ r.2.2.1 < j then [(r.1, i, r.2.2.1, j)] else []
noncomputable def rrange (r : RT) (i j k : Nat) : List RT := if i + k < r.2.1 ∧ j + k < r.2.2.2 then [(i + k, r.2.1, j + k, r.2.2.2)] else []
theorem qinv_step (Z : Safe b f) {queue : List RT} {mb : List (Nat × Nat)} {r : RT} {i j k : Nat} (I : QInv b f (queue ++ [r]) mb) (B : Best b f r.1 r.2.1 r.2.2.1 r.2.2.2 i j k) (hk : 0 < k) :
  i = cnt b f j ∧ QInv b f (queue ++ (lrange r i j ++ rrange r i j k)) (mb ++ [(j, k)]) := by
 have R := I.rng r (List.mem_append_right _ (.head _))
 obtain ⟨e, U, R1, R2, c1, c2⟩ := best_splits b f Z R B hk
 refine ⟨e, fun x hx => ?_, fun M h => ?_, fun x hx => ?_⟩
 ·rcases List.mem_append.mp hx with h | h
  ·exact I.rng x (List.mem_append_left _ h)
  ·rcases List.mem_append.mp h with h | h
   ·unfold lrange at h
    split at h
    ·rw [List.mem_singleton.mp h]; exact R1
    ·cases h
   ·unfold rrange at h
    split at h
    ·rw [List.mem_singleton.mp h]; exact R2
    ·cases h
 ·obtain ⟨M1, M2, rfl, d1, d2⟩ := h.split b f
  obtain ⟨A, C, rfl, d3, d4⟩ := d2.split b f
  have hA : Cover b f j r.2.2.1 A := by
   unfold lrange at d3
   split at d3
   ·exact d3.one
   ·rename_i hn; cases d3; exact c1 hn
  have hC : Cover b f r.2.2.2 (j + k) C := by
   unfold rrange at d4
   split at d4
   ·exact d4.one
   ·rename_i hn; cases d4; exact c2 hn
  obtain ⟨L, l1, l2⟩ := I.all (M1 ++ ((A ++ (j, k) :: C) ++ [])) (d1.append b f (.cons (hA.comp b f U hC) .nil))
  refine ⟨L, l1, l2.trans ?_⟩
  rw [List.append_nil]
  rw [List.perm_iff_count]
  intro x
  simp only [List.count_append, List.count_cons, List.count_nil]
  lia
 ·rcases List.mem_append.mp hx with h | h
  ·exact I.run x h
  ·rw [List.mem_singleton.mp h]; exact U
theorem qinv_done {mb : List (Nat × Nat)} (I : QInv b f [] mb) : ∃ L, Cover b f b.length 0 L ∧ L.Perm mb := by
 obtain ⟨L, h1, h2⟩ := I.all [] .nil
 exact ⟨L, h1, by simpa using h2⟩
noncomputable def work : List RT → Nat
 | [] => 0
 | r :: q => 2 * (r.2.1 - r.1) + 1 + work q
theorem work_append (p q : List RT) : work (p ++ q) = work p + work q := by
 induction p with
 | nil => simp [work]
 | cons r p ih => simp only [List.cons_append, work, ih]; lia
theorem work_step {r : RT} {i j k : Nat} (h1 : r.1 ≤ i) (h2 : i + k ≤ r.2.1) (hk : 0 < k) (queue : List RT) : work (queue ++ (lrange r i j ++ rrange r i j k)) < work (queue ++ [r]) := by
 simp only [work_append]
 have a1 : work (lrange r i j) ≤ 2 * (i - r.1) + 1 := by unfold lrange; split <;> simp [work]
 have a2 : work (rrange r i j k) ≤ 2 * (r.2.1 - (i + k)) + 1 := by unfold rrange; split <;> simp [work]
 have a3 : work [r] = 2 * (r.2.1 - r.1) + 1 := rfl
 lia
theorem work_none (r : RT) (queue : List RT) : work queue < work (queue ++ [r]) := by
 rw [work_append]
 have a3 : work [r] = 2 * (r.2.1 - r.1) + 1 := rfl
 lia
theorem Cover.sorted {hi x : Nat} {L : List (Nat × Nat)} (h : Cover b f hi x L) : L.Pairwise (fun r r' => r.1 + r.2 < r'.1 ∧ cnt b f r.1 + r.2 ≤ cnt b f r'.1) ∧ ∀ r ∈ L, x ≤ r.1 ∧ URun b f r.1 r.2 := by
 induction h with
 | nil => exact ⟨.nil, fun r hr => nomatch hr⟩
 | @cons x j k L h1 h2 U hc ih =>
  have hp := U.pos
  refine ⟨List.pairwise_cons.mpr ⟨fun r hr => ?_, ih.1⟩, fun r hr => ?_⟩
  ·obtain ⟨a1, a2⟩ := ih.2 r hr
   have hc := cnt_run b f U.un k (Nat.le_refl _)
   have hm := cnt_mono b f a1
   refine ⟨?_, by dsimp only; lia⟩
   dsimp only
   by_cases e : r.1 = j + k
   ·obtain ⟨q, hq, hf⟩ := a2.un 0 a2.pos
    have := run_end b f U q (by rw [← e]; simpa using hq)
    rw [this] at hf; cases hf
   ·lia
  ·rcases List.mem_cons.mp hr with rfl | hr
   ·exact ⟨h1, U⟩
   ·obtain ⟨a1, a2⟩ := ih.2 r hr
    exact ⟨by lia, a2⟩
theorem sorted_is {L mb : List (Nat × Nat)} (h : Cover b f b.length 0 L) (hp : L.Perm mb) {ms : List (Nat × Nat × Nat)} (hm : ms.Perm (mb.map fun r => (cnt b f r.1, r.1, r.2))) (hs : ms.Pairwise (fun x y => x.1 ≤ y.1)) : ms = L.map fun r => (cnt b f r.1, r.1, r.2) := by
 have S := (h.sorted b f).1
 have U := (h.sorted b f).2
 have hpm : ms.Perm (L.map fun r => (cnt b f r.1, r.1, r.2)) := hm.trans (hp.map _).symm
 refine List.Perm.eq_of_pairwise (le := fun x y => x.1 ≤ y.1) ?_ hs ?_ hpm
 ·intro x y hx hy h1 h2
  obtain ⟨r, hr, rfl⟩ := List.mem_map.mp (hpm.mem_iff.mp hx)
  obtain ⟨r', hr', rfl⟩ := List.mem_map.mp hy
  dsimp only at h1 h2
  by_cases e : r = r'
  ·rw [e]
  ·have key : ∀ (l : List (Nat × Nat)), l.Pairwise (fun r r' => r.1 + r.2 < r'.1 ∧ cnt b f r.1 + r.2 ≤ cnt b f r'.1) → ∀ a ∈ l, ∀ c ∈ l, a ≠ c → (cnt b f a.1 + a.2 ≤ cnt b f c.1) ∨ (cnt b f c.1 + c.2 ≤ cnt b f a.1) := by
    intro l hl
    induction hl with
    | nil => intro a ha; cases ha
    | @cons z l hz _ ih =>
     intro a ha c hc hne
     rcases List.mem_cons.mp ha with e1 | ha1
     ·rcases List.mem_cons.mp hc with e2 | hc1
      ·exact absurd (e1.trans e2.symm) hne
      ·exact .inl (e1 ▸ (hz c hc1).2)
     ·rcases List.mem_cons.mp hc with e2 | hc1
      ·exact .inr (e2 ▸ (hz a ha1).2)
      ·exact ih a ha1 c hc1 hne
   have p1 := (U r hr).2.pos
   have p2 := (U r' hr').2.pos
   rcases key L S r hr r' hr' e with h | h <;> lia
 ·rw [List.pairwise_map]
  exact S.imp fun h => by dsimp only; lia
end
end Mine
end
section
namespace Mine
theorem qn_inj {x y x' y' : Pl} (h : qn x y = qn x' y') : x = x' ∧ y = y' := by
 unfold qn at h
 have h1 := x.isLt
 have h2 := y.isLt
 have h3 := x'.isLt
 have h4 := y'.isLt
 exact ⟨Fin.ext (by omega), Fin.ext (by omega)⟩
theorem qn_mod (x y : Pl) : Int.fmod (qn x y) 16 = (y.val : Int) := by
 have h1 := x.isLt
 have h2 := y.isLt
 rw [Int.fmod_eq_emod_of_nonneg _ (by decide)]
 unfold qn
 omega
theorem qn_div (x y : Pl) : Int.fdiv (qn x y) 16 = (x.val : Int) := by
 have h1 := x.isLt
 have h2 := y.isLt
 rw [Int.fdiv_eq_ediv_of_nonneg _ (by decide)]
 unfold qn
 omega
end Mine
end
section
namespace Mine
section
variable {b : List Qu} {f : Qu → Bool} {zq : Qu → Int} (inj : ∀ x y, zq x = zq y → x = y)
include inj
theorem blk_iff {i j k : Nat} : BlkZ ((unfl b f).map zq) (b.map zq) i j k ↔ Blk b f i j k := by
 constructor
 ·intro h t ht
  obtain ⟨h1, h2⟩ := h t ht
  rw [List.length_map] at h1
  rw [List.getElem?_map, List.getElem?_map, List.getElem?_eq_getElem h1, Option.map_some] at h2
  obtain ⟨q, hq, e⟩ := Option.map_eq_some_iff.mp h2.symm
  have := inj _ _ e
  exact ⟨q, by rw [List.getElem?_eq_getElem h1, ← this], hq⟩
 ·intro h t ht
  obtain ⟨q, h1, h2⟩ := h t ht
  refine ⟨by rw [List.length_map]; exact (List.getElem?_eq_some_iff.mp h1).1, ?_⟩
  rw [List.getElem?_map, List.getElem?_map, h1, h2]
theorem best_of {alo ahi blo bhi i j k : Nat} (h : BestZ ((unfl b f).map zq) (b.map zq) alo ahi blo bhi i j k) : Best b f alo ahi blo bhi i j k :=
 ⟨h.ia, h.ib, h.ja, h.jb, (blk_iff inj).mp h.blk, fun i' j' k' a c d e g => h.max i' j' k' a c d e ((blk_iff inj).mpr g)⟩
end
theorem work_len : ∀ q : List RT, q.length ≤ work q
 | [] => Nat.le_refl _
 | r :: q => by have := work_len q; simp only [work, List.length_cons]; lia
end Mine
end
section
theorem Mine.wlGnr : True := by
 k_with_none
 trivial
namespace Mine
theorem wlGn0 : True := by
 k_with_none
 k_with "call ref" => (k_here; (refine' hold_out ?_))
 k_with "eval Name" => (k_here; k_dflt (refine nameX_L (by k_asm) (by first | rfl | assumption) ?_ rfl rfl); k_whole)
 k_with "Nx" => (refine' hold_out ?_)
 k_with "call type:map" => (k_here; (refine' hold_out ?_))
 k_with "call type:list" => (k_here; (refine' hold_out ?_))
 trivial
section
variable {C : Cx} {s₀ s : Shared} {m : Str → Option Value} {N : List (Addr × Obj)} {Q : Flow → Shared → Prop}
theorem Cx.sortM {x : Str} {a n : Nat} {vs : List Value} {ms : List Tri} {rest : List (Addr × Obj)} {p1 p2 p4 p5 : Pos} {pl : Sem Bool} (S : C.St s₀ m ((a, listOf vs.toArray n) :: rest) s) (hm : m x = some (.ref a)) (X : (KN C.w.params).In C.g) (hoff : ∀ p ∈ rest, p.1 ≠ a) (hM : MAre rest vs ms) (hd : ∀ c ∈ ms, ∀ c' ∈ ms, c.1 = c'.1 → c = c') (h64 : ms.length < 64) (hu : C.A.units + 1 < cLine)
  (h : ∀ vs' ms' n' s', C.St s₀ m ((a, listOf vs'.toArray n') :: rest) s' → MAre rest vs' ms' → ms'.Perm ms → ms'.Pairwise (fun c c' => c.1 ≤ c'.1) → Q .next s') (hx : C.lc x = true := by rfl)
  (hs : swapsWith (.Call (.Attribute (.Name x p1) (Str.ofString "sort") p2) [] [] p4) none p5.line C.env = pure false := by rfl)
  (hi : interactive C.env = false := by rfl)
  (he : eval (.Call (.Attribute (.Name x p1) (Str.ofString "sort") p2) [] [] p4) C.env = (do
   let ov ← eval (.Name x p1) C.env
   standAt p2.atName
   let (f, first) ← holding [ov] (getMethod ov (Str.ofString "sort") pl)
   callWith p4 f first (backTo p4 (starEach [] C.env)) []) := by rfl) :
  C.Wp (.Expr (.Call (.Attribute (.Name x p1) (Str.ofString "sort") p2) [] [] p4) p5) Q s := by
 refine wpAny_Expr_any (MethodCall_ (Cx.V.name hm hx _ _ S.F fun tk => ?_) he) hi hs
 exact listMethod_K S.N (.head _) PySem.F.slot_list_sort PySem.F.type_list_sort (callWith_method0 (m_sort S.F S.N X hoff hM hd h64 hu fun h' vs' ms' n' F' N' a b c => h vs' ms' n' _ (S.put F' N') a b c))
theorem Cx.asg3 {x y z : Str} {e : Expr} {i : Int} {p1 p2 p3 pos : Pos} (S : C.St s₀ m N s) (H : C.I m e i) (h : ∀ t s', C.St s₀ (upd (upd (upd m x (.int i t)) y (.int i t)) z (.int i t)) N s' → Q .next s') (hx : C.lc x = true := by rfl) (hy : C.lc y = true := by rfl) (hz : C.lc z = true := by rfl)
  (hw : swappedStores [.Name x p1, .Name y p2, .Name z p3] e C.env = pure none := by rfl) : C.Wp (.Assign [.Name x p1, .Name y p2, .Name z p3] e pos) Q s :=
 wpAny_Assign_three (H s _ S.F fun t tk => assign_Name (Cx.sto (S.put S.F S.N) hx fun _ S => assign_Name (Cx.sto S hy fun _ S => assign_Name (Cx.sto S hz fun _ S => h t _ S)))) rfl hw
theorem Cx.aug {x : Str} {e : Expr} {i j : Int} {t : Tok} {p1 pos : Pos} (S : C.St s₀ m N s) (hm : m x = some (.int i t)) (H : C.I m e j) (h : ∀ t s', C.St s₀ (upd m x (.int (i + j) t)) N s' → Q .next s') (hx : C.lc x = true := by rfl) : C.Wp (.AugAssign (.Name x p1) .Add e pos) Q s :=
 let ⟨a, b, _⟩ := Cx.lc1 hx
 wpAny_AugAssign_Name (wpAny_loadName_local a b S.F.ns hm (H _ _ S.F fun t' tk => iadd_int (Cx.sto (S.put S.F S.N) hx (h _))))
inductive Cx.Jn (C : Cx) (s₀ : Shared) (m : Str → Option Value) (R : List (Addr × Obj) → Prop) : Flow → Shared → Prop
 | mk {s : Shared} {N : List (Addr × Obj)} (S : C.St s₀ m N s) (r : R N) : Cx.Jn C s₀ m R .next s
theorem Cx.ifJ {e : Expr} {p : Prop} {b : List Stmt} {pos : Pos} (R : List (Addr × Obj) → Prop) (S : C.St s₀ m N s) (T : C.T m e p) (h1 : p → ∀ s', C.St s₀ m N s' → C.Ws b (C.Jn s₀ m R) s') (h2 : ¬p → R N) (k : ∀ N' s', R N' → C.St s₀ m N' s' → Q .next s') : C.Wp (.If e b [] pos) Q s :=
 Cx.if_ S T (fun hp s' S' => wpAny_mono (h1 hp s' S') (fun f s2 j => by cases j with | mk S r => exact k _ _ r S) fun _ _ x => x) fun hp s' S' => Cx.nil (k _ _ (h2 hp) S')
theorem Cx.popT {x : Str} {es : List Expr} {k a n D : Nat} {p ws : List Value} {N1 : List (Addr × Obj)} {p1 p2 p3 p4 p5 : Pos} {pl : Sem Bool} (S : C.St s₀ m N s) (hm : m x = some (.ref a)) (hh : C.A.handled = none) (U : Upd a (listOf (p ++ [Value.ref D]).toArray n) (listOf p.toArray (n + 1)) N N1) (hz : p.length < sizeLine) (hD : (D, tupO ws) ∈ N1) (hl : ws.length = es.length)
  (h : ∀ s', C.St s₀ (upds ((nmOf es).zip ws) m) N1 s' → Q .next s') (hes : C.nms es = true := by rfl) (hx : C.lc x = true := by rfl)
  (hs : swapsWithSole [.Tuple es k p1] (.Call (.Attribute (.Name x p2) (Str.ofString "pop") p3) [] [] p4) p5.line C.env = pure false := by rfl)
  (hw : swappedStores [.Tuple es k p1] (.Call (.Attribute (.Name x p2) (Str.ofString "pop") p3) [] [] p4) C.env = pure none := by rfl)
  (he : eval (.Call (.Attribute (.Name x p2) (Str.ofString "pop") p3) [] [] p4) C.env = (do
   let ov ← eval (.Name x p2) C.env
   standAt p3.atName
   let (f, first) ← holding [ov] (getMethod ov (Str.ofString "pop") pl)
   callWith p4 f first (backTo p4 (starEach [] C.env)) []) := by rfl) :
  C.Wp (.Assign [.Tuple es k p1] (.Call (.Attribute (.Name x p2) (Str.ofString "pop") p3) [] [] p4) p5) Q s := by
 refine Assign_Tuple (MethodCall_ (Cx.V.name hm hx _ _ S.F fun tk => ?_) he) hs hw
 refine listMethod_K S.N (Upd.mem U) PySem.F.slot_list_pop PySem.F.type_list_pop (callWith_method0 (kl_pop S.F S.N (kpa_last _ _) U ?_ fun h' F' N' => ?_))
 ·show (p ++ [Value.ref D]).length ≤ sizeLine
  rw [List.length_append]; exact hz
 ·exact Cx.unpT (nn := 0) (S.put F' N') hh hD (by exact hl) hes (by exact h)
end
noncomputable abbrev rI (r : RT) : List Int := [(r.1 : Int), (r.2.1 : Int), (r.2.2.1 : Int), (r.2.2.2 : Int)]
inductive QIs (r : RT) : Obj → Prop
 | mk (ws : List Value) (hw : IntsAre ws (rI r)) : QIs r (tupO ws)
noncomputable abbrev QAre := @LAre RT QIs
inductive QN (QL ML : Nat) (rest ex : List (Addr × Obj)) (ql : List RT) (N : List (Addr × Obj)) : Prop
 | mk (nt : List (Addr × Obj)) (qvs : List Value) (qn : Nat) (e : N = nt ++ (QL, listOf qvs.toArray qn) :: rest) (hq : QAre (nt ++ ex) qvs ql) (hn : ∀ p ∈ nt, @LT.lt Nat _ QL p.1 ∧ @LT.lt Nat _ ML p.1)
theorem QN.app {C : Cx} {s₀ s : Shared} {m : Str → Option Value} {N : List (Addr × Obj)} {QL ML : Nat} {oM : Obj} {rest ex : List (Addr × Obj)} {ql : List RT} {es : List Expr} {r : RT} {k : Nat} {p1 p2 p3 p4 p5 : Pos} {pl : Sem Bool} (S : C.St s₀ m N s) (q : QN QL ML rest ex ql N) (hm : m (Str.ofString "queue") = some (.ref QL)) (H : C.Is m es (rI r)) (hz : ql.length ≤ 100) (hr : ∀ p ∈ rest, p.1 ≠ QL) (hML : (ML, oM) ∈ rest) (hx : C.lc (Str.ofString "queue") = true := by rfl)
  (hs : swapsWith (.Call (.Attribute (.Name (Str.ofString "queue") p1) (Str.ofString "append") p2) [.Tuple es k p3] [] p4) none p5.line C.env = pure false := by rfl)
  (hi : interactive C.env = false := by rfl)
  (he : eval (.Call (.Attribute (.Name (Str.ofString "queue") p1) (Str.ofString "append") p2) [.Tuple es k p3] [] p4) C.env = (do
   let ov ← eval (.Name (Str.ofString "queue") p1) C.env
   standAt p2.atName
   let (f, first) ← holding [ov] (getMethod ov (Str.ofString "append") pl)
   callWith p4 f first (backTo p4 (starEach [.Tuple es k p3] C.env)) []) := by rfl) :
  C.Ws [.Expr (.Call (.Attribute (.Name (Str.ofString "queue") p1) (Str.ofString "append") p2) [.Tuple es k p3] [] p4) p5] (C.Jn s₀ m (QN QL ML rest ex (ql ++ [r]))) s := by
 obtain ⟨nt, qvs, qn, rfl, hq, hn⟩ := q
 have hl := hq.len
 refine Cx.seq (Cx.app_tup (n := qn) (N1 := fun v => nt ++ (QL, listOf (qvs ++ [v]).toArray (qn + 1)) :: rest) S hm H (fun v => ?_) (by rw [List.size_toArray, hl, sizeLine_eq]; lia) (Nat.le_of_ble_eq_true rfl) (fun D vs s' hv hD S' => Cx.nil (.mk S' (.mk ((D, tupO vs) :: nt) (qvs ++ [.ref D]) (qn + 1) rfl ?_ fun p hp => ?_))) hx hs hi he)
 ·rw [← List.push_toArray]
  exact Upd.app (fun p hp => Nat.ne_of_gt (hn p hp).1) hr
 ·exact (hq.sub fun p hp => .tail _ hp).snoc (.head _) ⟨_, hv⟩
 ·rcases List.mem_cons.mp hp with rfl | hp
  ·exact ⟨hD _ (List.mem_append_right _ (.head _)), hD _ (List.mem_append_right _ (.tail _ hML))⟩
  ·exact hn p hp
noncomputable abbrev trs (b : List Qu) (f : Qu → Bool) (mb : List (Nat × Nat)) : List Tri := mb.map fun r => (cnt b f r.1, r.1, r.2)
structure GF (I QL ML : Nat) (la lb : Int) (tla tlb : Tok) (m : Str → Option Value) : Prop where
 self : m (Str.ofString "self") = some (.ref I)
 la : m (Str.ofString "la") = some (.int la tla)
 lb : m (Str.ofString "lb") = some (.int lb tlb)
 queue : m (Str.ofString "queue") = some (.ref QL)
 mb : m (Str.ofString "matching_blocks") = some (.ref ML)
inductive GQ (b : List Qu) (f : Qu → Bool) (I QL ML : Nat) (tla tlb : Tok) (bl : List (Addr × Obj)) (qs : List RT) (m : Str → Option Value) (N : List (Addr × Obj)) : Prop
 | mk (mb : List (Nat × Nat)) (qvs mvs : List Value) (qn mn : Nat) (ex : List (Addr × Obj)) (fm : GF I QL ML ((unfl b f).length : Int) (b.length : Int) tla tlb m) (hN : N = (QL, listOf qvs.toArray qn) :: (ML, listOf mvs.toArray mn) :: (bl ++ ex))
  (e1 : ∀ p ∈ ex, p.1 ≠ QL) (e2 : ∀ p ∈ ex, p.1 ≠ ML) (e3 : ∀ p ∈ bl, ∀ q ∈ ex, p.1 ≠ q.1) (hq : QAre ex qvs qs) (hm : MAre ex mvs (trs b f mb)) (hI : QInv b f qs mb) (hw : mb.length + work qs ≤ 2 * (unfl b f).length + 1)
inductive GJ (b : List Qu) (f : Qu → Bool) (I QL ML : Nat) (tla tlb : Tok) (bl : List (Addr × Obj)) (n : Nat) (m : Str → Option Value) (N : List (Addr × Obj)) : Prop
 | mk (qs : List RT) (q : GQ b f I QL ML tla tlb bl qs m N) (hn : work qs ≤ n)
theorem gq_step {b : List Qu} {f : Qu → Bool} (hZ : Safe b f) {I QL ML : Nat} {tla tlb : Tok} {bl ex : List (Addr × Obj)} (lQ : ∀ p ∈ bl, @LT.lt Nat _ p.1 QL) (q1 : @LT.lt Nat _ QL ML)
  (e1 : ∀ p ∈ ex, p.1 ≠ QL) (e2 : ∀ p ∈ ex, p.1 ≠ ML) (e3 : ∀ p ∈ bl, ∀ q ∈ ex, p.1 ≠ q.1) {mvs : List Value} {mb : List (Nat × Nat)} (hm : MAre ex mvs (trs b f mb)) {qs : List RT} {r : RT} (hI : QInv b f (qs ++ [r]) mb) (hw : mb.length + work (qs ++ [r]) ≤ 2 * (unfl b f).length + 1)
  {mx dx i j k n mn : Nat} {s1 s2 s3 : Tok} (hmx : ∀ p ∈ bl, p.1 ≠ mx) (m1 : mx ≠ QL) (m2 : mx ≠ ML) (hB : Best b f r.1 r.2.1 r.2.2.1 r.2.2.2 i j k) (hk : 0 < k) (hn : work (qs ++ [r]) ≤ n)
  {C : Cx} {s₀ s : Shared} {m : Str → Option Value} {N : List (Addr × Obj)} (S : C.St s₀ m N s) (fm : GF I QL ML ((unfl b f).length : Int) (b.length : Int) tla tlb m) (q : QN QL ML ((ML, listOf (mvs ++ [Value.ref mx]).toArray mn) :: (mx, mObj dx (i : Int) (j : Int) (k : Int) s1 s2 s3 0) :: (bl ++ ex)) ex ((qs ++ lrange r i j) ++ rrange r i j k) N) :
  C.Tu s₀ (GJ b f I QL ML tla tlb bl) n .next s := by
 have hlt := work_step (j := j) hB.ia hB.ib hk qs
 obtain ⟨rfl, hI'⟩ := qinv_step b f hZ hI hB hk
 obtain ⟨nt, qvs, qn, rfl, hq, hnt⟩ := q
 rw [List.append_assoc] at hq
 refine .mk (S.sub (N' := (QL, listOf qvs.toArray qn) :: (ML, listOf (mvs ++ [Value.ref mx]).toArray mn) :: (bl ++ (nt ++ (mx, mObj dx (cnt b f j : Int) (j : Int) (k : Int) s1 s2 s3 0) :: ex))) fun x hx => ?_) (n' := work (qs ++ (lrange r (cnt b f j) j ++ rrange r (cnt b f j) j k))) (Nat.lt_of_lt_of_le hlt hn) (.mk _ (.mk (mb ++ [(j, k)]) qvs _ qn mn _ fm rfl (fun p hp => ?_) (fun p hp => ?_) (fun p hp q hq => ?_) (hq.sub fun p hp => ?_) ?_ hI' ?_) (Nat.le_refl _))
 ·simp only [List.mem_cons, List.mem_append] at hx ⊢
  rcases hx with h | h | h | h | h | h
  ·exact .inr (.inl h)
  ·exact .inr (.inr (.inl h))
  ·exact .inr (.inr (.inr (.inr (.inl h))))
  ·exact .inl h
  ·exact .inr (.inr (.inr (.inl h)))
  ·exact .inr (.inr (.inr (.inr (.inr h))))
 ·rcases List.mem_append.mp hp with h | h
  ·exact Nat.ne_of_gt (hnt p h).1
  rcases List.mem_cons.mp h with rfl | h
  ·exact m1
  ·exact e1 p h
 ·rcases List.mem_append.mp hp with h | h
  ·exact Nat.ne_of_gt (hnt p h).2
  rcases List.mem_cons.mp h with rfl | h
  ·exact m2
  ·exact e2 p h
 ·rcases List.mem_append.mp hq with h | h
  ·exact Nat.ne_of_lt (Nat.lt_trans (lQ p hp) (hnt q h).1)
  rcases List.mem_cons.mp h with rfl | h
  ·exact hmx p hp
  ·exact e3 p hp q h
 ·rcases List.mem_append.mp hp with h | h
  ·exact List.mem_append_left _ h
  ·exact List.mem_append_right _ (.tail _ h)
 ·rw [trs, List.map_append]
  exact (hm.sub fun p hp => List.mem_append_right _ (.tail _ hp)).snoc (c := (cnt b f j, j, k)) (List.mem_append_right _ (.head _)) (.mk _ _ _ _ _)
 ·rw [List.length_append]
  show mb.length + 1 + _ ≤ _
  lia
theorem lr_yes {r : RT} {i j : Nat} (h : (r.1 : Int) < (i : Int) ∧ (r.2.2.1 : Int) < (j : Int)) : lrange r i j = [(r.1, i, r.2.2.1, j)] := if_pos ⟨Int.ofNat_lt.mp h.1, Int.ofNat_lt.mp h.2⟩
theorem lr_no {r : RT} {i j : Nat} (h : ¬((r.1 : Int) < (i : Int) ∧ (r.2.2.1 : Int) < (j : Int))) : lrange r i j = [] := if_neg fun z => h ⟨Int.ofNat_lt.mpr z.1, Int.ofNat_lt.mpr z.2⟩
theorem rr_yes {r : RT} {i j k : Nat} (h : (i : Int) + (k : Int) < (r.2.1 : Int) ∧ (j : Int) + (k : Int) < (r.2.2.2 : Int)) : rrange r i j k = [(i + k, r.2.1, j + k, r.2.2.2)] := if_pos ⟨Int.ofNat_lt.mp h.1, Int.ofNat_lt.mp h.2⟩
theorem rr_no {r : RT} {i j k : Nat} (h : ¬((i : Int) + (k : Int) < (r.2.1 : Int) ∧ (j : Int) + (k : Int) < (r.2.2.2 : Int))) : rrange r i j k = [] := if_neg fun z => h ⟨Int.ofNat_lt.mpr z.1, Int.ofNat_lt.mpr z.2⟩
theorem take_pred {α : Type} {ms : List α} {q : Nat} {c : α} (h0 : 0 < q) (h : ms[q - 1]? = some c) : ms.take q = ms.take (q - 1) ++ [c] := by
 obtain ⟨k, rfl⟩ : ∃ k, q = k + 1 := ⟨q - 1, by lia⟩
 rw [Nat.add_sub_cancel] at h ⊢
 rw [List.take_add_one, h]; rfl
theorem blk_inj {b : List Qu} {f : Qu → Bool} {L mb : List (Nat × Nat)} (h : Cover b f b.length 0 L) (hp : L.Perm mb) : ∀ c ∈ trs b f mb, ∀ c' ∈ trs b f mb, c.1 = c'.1 → c = c' := by
 have S := (h.sorted b f).1
 have U := (h.sorted b f).2
 have key : ∀ (l : List (Nat × Nat)), l.Pairwise (fun r r' => r.1 + r.2 < r'.1 ∧ cnt b f r.1 + r.2 ≤ cnt b f r'.1) → ∀ a ∈ l, ∀ c ∈ l, a ≠ c → (cnt b f a.1 + a.2 ≤ cnt b f c.1) ∨ (cnt b f c.1 + c.2 ≤ cnt b f a.1) := by
  intro l hl
  induction hl with
  | nil => intro a ha; cases ha
  | @cons z l hz _ ih =>
   intro a ha c hc hne
   rcases List.mem_cons.mp ha with e1 | ha1
   ·rcases List.mem_cons.mp hc with e2 | hc1
    ·exact absurd (e1.trans e2.symm) hne
    ·exact .inl (e1 ▸ (hz c hc1).2)
   ·rcases List.mem_cons.mp hc with e2 | hc1
    ·exact .inr (e2 ▸ (hz a ha1).2)
    ·exact ih a ha1 c hc1 hne
 intro c hc c' hc' e
 obtain ⟨r, hr, rfl⟩ := List.mem_map.mp hc
 obtain ⟨r', hr', rfl⟩ := List.mem_map.mp hc'
 dsimp only at e
 have hr := hp.mem_iff.mpr hr
 have hr' := hp.mem_iff.mpr hr'
 by_cases hne : r = r'
 ·rw [hne]
 ·have p1 := (U r hr).2.pos
  have p2 := (U r' hr').2.pos
  rcases key L S r hr r' hr' hne with z | z <;> lia
structure GN (I ML NL : Nat) (la lb : Int) (tla tlb : Tok) (c : Tri) (s1 s2 s3 : Tok) (m : Str → Option Value) : Prop where
 self : m (Str.ofString "self") = some (.ref I)
 la : m (Str.ofString "la") = some (.int la tla)
 lb : m (Str.ofString "lb") = some (.int lb tlb)
 mb : m (Str.ofString "matching_blocks") = some (.ref ML)
 na : m (Str.ofString "non_adjacent") = some (.ref NL)
 i1 : m (Str.ofString "i1") = some (.int (c.1 : Int) s1)
 j1 : m (Str.ofString "j1") = some (.int (c.2.1 : Int) s2)
 k1 : m (Str.ofString "k1") = some (.int (c.2.2 : Int) s3)
inductive MR (NL : Nat) (base : List (Addr × Obj)) (l : List Tri) (N : List (Addr × Obj)) : Prop
 | mk (nvs : List Value) (nn : Nat) (ex : List (Addr × Obj)) (hN : N = ex ++ (NL, listOf nvs.toArray nn) :: base) (hn : ∀ p ∈ ex, @LT.lt Nat _ NL p.1) (hT : TAre ex nvs l)
theorem MR.base {NL : Nat} {base : List (Addr × Obj)} {l : List Tri} {N : List (Addr × Obj)} (r : MR NL base l N) : ∀ p ∈ base, p ∈ N := by
 obtain ⟨nvs, nn, ex, rfl, hn, hT⟩ := r
 exact fun p hp => List.mem_append_right _ (.tail _ hp)
theorem MR.own {NL : Nat} {base : List (Addr × Obj)} {l : List Tri} {N : List (Addr × Obj)} (r : MR NL base l N) : ∃ o, (NL, o) ∈ N := by
 obtain ⟨nvs, nn, ex, rfl, hn, hT⟩ := r
 exact ⟨_, List.mem_append_right _ (.head _)⟩
theorem MR.put {NL D : Nat} {o : Obj} {base : List (Addr × Obj)} {l : List Tri} {N : List (Addr × Obj)} (r : MR NL base l N) (h : @LT.lt Nat _ NL D) : MR NL base l ((D, o) :: N) := by
 obtain ⟨nvs, nn, ex, rfl, hn, hT⟩ := r
 exact .mk nvs nn ((D, o) :: ex) rfl (fun p hp => (List.mem_cons.mp hp).elim (fun e => e ▸ h) (hn p)) (hT.sub fun p hp => .tail _ hp)
inductive MJ (ms : List Tri) (base : List (Addr × Obj)) (I ML NL : Nat) (la lb : Int) (tla tlb : Tok) (t : Nat) (m : Str → Option Value) (N : List (Addr × Obj)) : Prop
 | mk (c : Tri) (s1 s2 s3 : Tok) (fm : GN I ML NL la lb tla tlb c s1 s2 s3 m) (r : MR NL base (ms.take (t - 1)) N) (hc : (t = 0 ∧ c = (0, 0, 0)) ∨ (0 < t ∧ ms[t - 1]? = some c))
structure GN2 (I ML NL : Nat) (la lb : Int) (tla tlb : Tok) (c : Tri) (s1 s2 s3 : Tok) (c' : Tri) (r1 r2 r3 : Tok) (m : Str → Option Value) : Prop extends GN I ML NL la lb tla tlb c s1 s2 s3 m where
 i2 : m (Str.ofString "i2") = some (.int (c'.1 : Int) r1)
 j2 : m (Str.ofString "j2") = some (.int (c'.2.1 : Int) r2)
 k2 : m (Str.ofString "k2") = some (.int (c'.2.2 : Int) r3)
theorem GN.hide {C : Cx} {s₀ s : Shared} {m : Str → Option Value} {N : List (Addr × Obj)} {I ML NL : Nat} {la lb : Int} {tla tlb : Tok} {c : Tri} {s1 s2 s3 : Tok} {c' : Tri} {r1 r2 r3 : Tok} {P : Shared → Prop} (S : C.St s₀ m N s) (fm : GN2 I ML NL la lb tla tlb c s1 s2 s3 c' r1 r2 r3 m) (h : ∀ m s, C.St s₀ m N s → GN2 I ML NL la lb tla tlb c s1 s2 s3 c' r1 r2 r3 m → P s) : P s := h m s S fm
inductive MO (own : List (Addr × Obj)) (Off : Addr → Prop) (NL : Nat) (base : List (Addr × Obj)) (l : List Tri) (N' : List (Addr × Obj)) : Prop
 | mk (N : List (Addr × Obj)) (e : N' = N ++ own) (r : MR NL base l N) (off : ∀ p ∈ N, Off p.1)
theorem snocV {objs : List (Addr × Obj)} {vs : List Value} {ms : List Tri} (h : TAre objs vs ms) {c : Tri} {x : Nat} {ws : List Value} (hx : (x, tupO ws) ∈ objs) (hw : IntsAre ws [(c.1 : Int), (c.2.1 : Int), (c.2.2 : Int)]) : TAre objs (vs ++ [.ref x]) (ms ++ [c]) := by
 obtain ⟨t1, t2, t3, rfl⟩ := ints3 hw
 exact LAre.snoc h hx ⟨t1, t2, t3⟩
theorem MR.app {C : Cx} {s₀ s : Shared} {m : Str → Option Value} {N own : List (Addr × Obj)} {Off : Addr → Prop} {NL : Nat} {base : List (Addr × Obj)} {l : List Tri} {c : Tri} {es : List Expr} {k : Nat} {p1 p2 p3 p4 p5 : Pos} {pl : Sem Bool} {Q : Flow → Shared → Prop} (S : C.St s₀ m (N ++ own) s) (r : MR NL base l N) (off : ∀ p ∈ N, Off p.1) (hm : m (Str.ofString "non_adjacent") = some (.ref NL)) (H : C.Is m es [(c.1 : Int), (c.2.1 : Int), (c.2.2 : Int)]) (hz : l.length ≤ 100) (hr : ∀ p ∈ base ++ own, p.1 ≠ NL) (hO : ∀ D, (∀ p ∈ N ++ own, @LT.lt Nat _ p.1 D) → Off D)
  (h : ∀ N' s', MO own Off NL base (l ++ [c]) N' → C.St s₀ m N' s' → Q .next s') (hx : C.lc (Str.ofString "non_adjacent") = true := by rfl)
  (hs : swapsWith (.Call (.Attribute (.Name (Str.ofString "non_adjacent") p1) (Str.ofString "append") p2) [.Tuple es k p3] [] p4) none p5.line C.env = pure false := by rfl)
  (hi : interactive C.env = false := by rfl)
  (he : eval (.Call (.Attribute (.Name (Str.ofString "non_adjacent") p1) (Str.ofString "append") p2) [.Tuple es k p3] [] p4) C.env = (do
   let ov ← eval (.Name (Str.ofString "non_adjacent") p1) C.env
   standAt p2.atName
   let (f, first) ← holding [ov] (getMethod ov (Str.ofString "append") pl)
   callWith p4 f first (backTo p4 (starEach [.Tuple es k p3] C.env)) []) := by rfl) :
  C.Wp (.Expr (.Call (.Attribute (.Name (Str.ofString "non_adjacent") p1) (Str.ofString "append") p2) [.Tuple es k p3] [] p4) p5) Q s := by
 obtain ⟨nvs, nn, ex, rfl, hn, hT⟩ := r
 have hl := hT.len
 have e0 : ∀ o, (ex ++ (NL, o) :: base) ++ own = ex ++ (NL, o) :: (base ++ own) := fun o => by rw [List.append_assoc, List.cons_append]
 refine Cx.app_tup (n := nn) (N1 := fun v => (ex ++ (NL, listOf (nvs ++ [v]).toArray (nn + 1)) :: base) ++ own) S hm H (fun v => ?_) (by rw [List.size_toArray, hl, sizeLine_eq]; lia) (Nat.le_of_ble_eq_true rfl) (fun D vs s' hv hD S' => h _ _ (.mk ((D, tupO vs) :: (ex ++ (NL, listOf (nvs ++ [Value.ref D]).toArray (nn + 1)) :: base)) rfl (.mk (nvs ++ [Value.ref D]) (nn + 1) ((D, tupO vs) :: ex) rfl (fun p hp => ?_) (snocV (hT.sub fun p hp => .tail _ hp) (.head _) hv)) fun p hp => ?_) S') hx hs hi he
 ·rw [e0, e0, ← List.push_toArray]
  exact Upd.app (fun p hp => Nat.ne_of_gt (hn p hp)) hr
 ·rcases List.mem_cons.mp hp with rfl | hp
  ·exact hD _ (List.mem_append_left _ (List.mem_append_right _ (.head _)))
  ·exact hn p hp
 ·rcases List.mem_cons.mp hp with rfl | hp
  ·exact hO _ hD
  rcases List.mem_append.mp hp with hp | hp
  ·exact off _ (List.mem_append_left _ hp)
  rcases List.mem_cons.mp hp with rfl | hp
  ·exact off (NL, listOf nvs.toArray nn) (List.mem_append_right _ (.head _))
  ·exact off _ (List.mem_append_right _ (.tail _ hp))
theorem GF.hide {C : Cx} {s₀ s : Shared} {m : Str → Option Value} {N : List (Addr × Obj)} {I QL ML : Nat} {la lb : Int} {tla tlb : Tok} {P : Shared → Prop} (S : C.St s₀ m N s) (fm : GF I QL ML la lb tla tlb m) (h : ∀ m s, C.St s₀ m N s → GF I QL ML la lb tla tlb m → P s) : P s := h m s S fm
structure GF4 (I QL ML : Nat) (la lb : Int) (tla tlb : Tok) (v1 v2 v3 v4 : Value) (m : Str → Option Value) : Prop extends GF I QL ML la lb tla tlb m where
 f1 : m (Str.ofString "alo") = some v1
 f2 : m (Str.ofString "ahi") = some v2
 f3 : m (Str.ofString "blo") = some v3
 f4 : m (Str.ofString "bhi") = some v4
theorem GF.hide4 {C : Cx} {s₀ s : Shared} {m : Str → Option Value} {N : List (Addr × Obj)} {I QL ML : Nat} {la lb : Int} {tla tlb : Tok} {v1 v2 v3 v4 : Value} {P : Shared → Prop} (S : C.St s₀ m N s) (fm : GF4 I QL ML la lb tla tlb v1 v2 v3 v4 m) (h : ∀ m s, C.St s₀ m N s → GF4 I QL ML la lb tla tlb v1 v2 v3 v4 m → P s) : P s := h m s S fm
structure GF8 (I QL ML : Nat) (la lb : Int) (tla tlb : Tok) (v1 v2 v3 v4 v5 v6 v7 v8 : Value) (m : Str → Option Value) : Prop extends GF4 I QL ML la lb tla tlb v1 v2 v3 v4 m where
 f5 : m (Str.ofString "i") = some v5
 f6 : m (Str.ofString "j") = some v6
 f7 : m (Str.ofString "k") = some v7
 f8 : m (Str.ofString "x") = some v8
theorem GF.hide8 {C : Cx} {s₀ s : Shared} {m : Str → Option Value} {N : List (Addr × Obj)} {I QL ML : Nat} {la lb : Int} {tla tlb : Tok} {v1 v2 v3 v4 v5 v6 v7 v8 : Value} {P : Shared → Prop} (S : C.St s₀ m N s) (fm : GF8 I QL ML la lb tla tlb v1 v2 v3 v4 v5 v6 v7 v8 m) (h : ∀ m s, C.St s₀ m N s → GF8 I QL ML la lb tla tlb v1 v2 v3 v4 v5 v6 v7 v8 m → P s) : P s := h m s S fm
theorem keep_in {α : Type} {a b : α} {l e : List α} : ∀ x ∈ l ++ a :: b :: e, x ∈ a :: b :: (l ++ e) := fun x hx => by
 rcases List.mem_append.mp hx with h | h
 ·exact .tail _ (.tail _ (List.mem_append_left _ h))
 rcases List.mem_cons.mp h with rfl | h
 ·exact .head _
 rcases List.mem_cons.mp h with rfl | h
 ·exact .tail _ (.head _)
 ·exact .tail _ (.tail _ (List.mem_append_right _ h))
theorem keep_out {α : Type} {a b : α} {l e : List α} : ∀ x ∈ a :: b :: (l ++ e), x ∈ l ++ a :: b :: e := fun x hx => by
 rcases List.mem_cons.mp hx with rfl | h
 ·exact List.mem_append_right _ (.head _)
 rcases List.mem_cons.mp h with rfl | h
 ·exact List.mem_append_right _ (.tail _ (.head _))
 rcases List.mem_append.mp h with h | h
 ·exact List.mem_append_left _ h
 ·exact List.mem_append_right _ (.tail _ (.tail _ h))
theorem lr_len (r : RT) (i j : Nat) : (lrange r i j).length ≤ 1 := by unfold lrange; split <;> simp
theorem gm_start {C : Cx} {s₀ s : Shared} {m : Str → Option Value} {bl : List (Addr × Obj)} {x : Addr × Obj} {oM oQ : Obj} {ws : List Value} {r : RT} {D0 I QL ML : Nat} {la lb : Int} {tla tlb : Tok} {P : Shared → Prop} (S : C.St s₀ m ((ML, oM) :: (QL, oQ) :: (D0, tupO ws) :: x :: bl) s) (hw : IntsAre ws (rI r)) (fm : GF I QL ML la lb tla tlb m)
  (h : ∀ m ws tla tlb s, C.St s₀ m ((QL, oQ) :: (ML, oM) :: (bl ++ [(D0, tupO ws)])) s → IntsAre ws (rI r) → GF I QL ML la lb tla tlb m → P s) : P s := by
 refine h m ws tla tlb s (S.sub fun p hp => ?_) hw fm
 rcases List.mem_cons.mp hp with h | hp
 ·exact h ▸ .tail _ (.head _)
 rcases List.mem_cons.mp hp with h | hp
 ·exact h ▸ .head _
 rcases List.mem_append.mp hp with hp | hp
 ·exact .tail _ (.tail _ (.tail _ (.tail _ hp)))
 ·exact (List.mem_singleton.mp hp) ▸ .tail _ (.tail _ (.head _))
inductive GmP (b : List Qu) (f : Qu → Bool) (AD : Nat) (dict : Nat → Obj) (rest : List (Addr × Obj)) (r : Value) (pass' : List (Addr × Obj)) : Prop
 | mk (S c : Nat) (acc : List Value) (objs : List (Addr × Obj)) (L : List (Nat × Nat)) (hr : r = .ref S) (hp : pass' = (AD, dict S) :: (S, listOf acc.toArray c) :: (rest ++ objs)) (hM : MAre objs acc (trs b f L ++ [((unfl b f).length, b.length, 0)])) (hC : Cover b f b.length 0 L) (hS : S ≠ AD) (off : ∀ p ∈ objs, p.1 ≠ AD)
theorem gmb (w : World) (I AD a bA B J Z : Nat) (vo : Value) (t1 t2 t3 t4 t5 t6 t7 t8 t9 t10 : Tok) (va vb : List Value) (b : List Qu) (f : Qu → Bool) (zq : Qu → Int) (inj : ∀ x y, zq x = zq y → x = y) (hZ : Safe b f) (as bs : List Int) (has : as = (unfl b f).map zq) (hbs : bs = b.map zq) (ha : IntsAre va as) (hb : IntsAre vb bs) (o oj : Obj) (lists : List (Addr × Obj)) (hf : SmF w I AD B J bs o oj lists) (hz1 : (unfl b f).length ≤ 31) (hz2 : b.length < 200) :
  CallSpec w 338 (.ref 231) [.ref I] ((I, instObj 270 AD) :: (AD, (dictOf (E10 w.params a bA B J Z .none vo t1 t2 t3 t4 t5 t6 t7 t8 t9 t10) 10)) :: (B, o) :: (J, oj) :: lists) (fun g => g.IsList a va.toArray ∧ g.IsList bA vb.toArray)
   (GmP b f AD (fun S => dictOf (E10 w.params a bA B J Z (.ref S) vo t1 t2 t3 t4 t5 t6 t7 t8 t9 t10) 10) ((I, instObj 270 AD) :: (B, o) :: (J, oj) :: lists)) := by
 have hla : as.length = (unfl b f).length := by rw [has, List.length_map]
 have hlb : bs.length = b.length := by rw [hbs, List.length_map]
 have hz3 : as.length < 200 := by lia
 have hz4 : bs.length < 200 := by lia
 try (unfold CallSpec prog; k_fill; fail)
 refine' spec_def (binds := [(Str.ofString "self", .ref I)]) ?ho ?hcd ?hroom ?hb ?hl ?_ ?hc ?h1 ?h2 ?h3
 case ho => k_is
 case hcd => k_is
 case hroom => decide
 case hb => intro s _; exact BindsTo.of_eq rfl
 case hl => exact locs rfl
 case hc => decide
 case h1 => exact rfl
 case h2 => exact rfl
 case h3 => exact rfl
 intro mg mb g L s₀ s Q X T hpre hL S ret
 obtain ⟨hpa, hpb⟩ := hpre
 refine Cx.seq (Cx.doc S fun s S => ?_)
 refine Cx.seq ?_
 show wpAny (model prog w) _ (exec _ (envX _ _ _ _ _ _)) _ _ _
 have F : Fr g L s.heap _ := S.F
 have N : News g L s.heap _ := S.N
 k_steps
 unfold Hold
 refine Cx.go (S.put ‹_› ‹_›) fun s S => ?_
 refine Cx.seq ?_
 show wpAny (model prog w) _ (exec _ (envX _ _ _ _ _ _)) _ _ _
 have F : Fr g L s.heap _ := S.F
 have N : News g L s.heap _ := S.N
 k_steps
 unfold Hold
 refine Cx.go (S.put ‹_› ‹_›) fun s S => ?_
 refine Cx.seq ?_
 show wpAny (model prog w) _ (exec _ (envX _ _ _ _ _ _)) _ _ _
 have F : Fr g L s.heap _ := S.F
 have N : News g L s.heap _ := S.N
 k_steps
 unfold Hold
 rename_i D0 _ l1 QL _ l2 _ F N
 rw [hla, hlb] at F N
 refine Cx.go (S.put F N) fun s S => ?_
 refine Cx.seq (Cx.asgNil S rfl fun ML s l3 S => ?_)
 have q1 : @LT.lt Nat _ QL ML := l3 _ (.head _)
 obtain ⟨bl, hbl⟩ : ∃ bl, bl = (I, instObj 270 AD) :: (AD, (dictOf (E10 w.params a bA B J Z .none vo t1 t2 t3 t4 t5 t6 t7 t8 t9 t10) 10)) :: (B, o) :: (J, oj) :: lists := ⟨_, rfl⟩
 have lQ : ∀ p ∈ bl, @LT.lt Nat _ p.1 QL := hbl ▸ allLt_mem l2.2.2
 have lD : ∀ p ∈ bl, @LT.lt Nat _ p.1 D0 := hbl ▸ allLt_mem l1.2
 rw [← hbl] at S
 refine gm_start (r := (0, (unfl b f).length, 0, b.length)) S (.cons _ _ (.cons _ _ (.cons _ _ (.cons _ _ .nil)))) ⟨rfl, rfl, rfl, rfl, rfl⟩ fun m ws tla tlb s S hws fm => ?_
 refine Cx.seq (Cx.while_ (GJ b f I QL ML tla tlb bl) (GQ b f I QL ML tla tlb bl []) (n₀ := 2 * (unfl b f).length + 1) S (.mk [(0, (unfl b f).length, 0, b.length)] (.mk [] [.ref D0] [] 0 0 [(D0, tupO ws)] fm rfl (fun p hp => ?_) (fun p hp => ?_) (fun p hp q hq => ?_) ((LAre.nil _).snoc (vs := []) (cs := []) (.head _) ⟨ws, hws⟩) (LAre.nil _) (qinv_start b f) ?_) ?_) ?turn ?done)
 ·rw [List.mem_singleton.mp hp]; exact Nat.ne_of_lt l2.1
 ·rw [List.mem_singleton.mp hp]; exact Nat.ne_of_lt (Nat.lt_trans l2.1 q1)
 ·rw [List.mem_singleton.mp hq]; exact Nat.ne_of_lt (lD p hp)
 ·simp [work]
 ·simp [work]
 case turn =>
  intro n m N s S hJ
  obtain ⟨qs, ⟨mb, qvs, mvs, qn, mn, ex, fm, rfl, e1, e2, e3, hq, hm, hI, hw⟩, hn⟩ := hJ
  have hql := hq.len
  have hml := hm.len
  rcases List.eq_nil_or_concat qs with rfl | ⟨qs, r, rfl⟩
  ·obtain rfl : qvs = [] := List.length_eq_zero_iff.mp hql
   exact Cx.wtL S fm.queue (.head _) (by decide) fun s' S' => .mk S' (.mk mb [] mvs qn mn ex fm rfl e1 e2 e3 hq hm hI hw)
  rw [List.concat_eq_append] at hq hn hw hI
  obtain ⟨p, D, _, rfl, hD, ⟨ws, hws⟩, hq'⟩ := hq.last
  have hqz := work_len (qs ++ [r])
  have hpl := hq'.len
  have hR := hI.rng r (List.mem_append_right _ (.head _))
  rw [List.length_map] at hml
  rw [List.length_append] at hqz
  have hz9 : qs.length + 1 + mb.length ≤ 63 := by have : [r].length = 1 := rfl; lia
  refine Cx.wtL S fm.queue (.head _) (by rw [List.length_append]; show p.length + 1 < _; lia) fun s S => ?_
  rw [show (!(p ++ [Value.ref D]).isEmpty) = true by simp]
  show Cx.Ws _ _ _ _
  have b1 : ∀ x ∈ bl ++ ex, x.1 ≠ QL := fun x hx => (List.mem_append.mp hx).elim (fun h => Nat.ne_of_lt (lQ x h)) (e1 x)
  have b2 : ∀ x ∈ bl ++ ex, x.1 ≠ ML := fun x hx => (List.mem_append.mp hx).elim (fun h => Nat.ne_of_lt (Nat.lt_trans (lQ x h) q1)) (e2 x)
  obtain ⟨d1, d2, d3, d4, rfl⟩ := ints4 hws
  refine Cx.seq (Cx.popT S fm.queue rfl (.head fun x hx => (List.mem_cons.mp hx).elim (fun h => h ▸ Nat.ne_of_gt q1) (b1 x)) (by rw [sizeLine_eq]; lia) (.tail _ (.tail _ (List.mem_append_right _ hD))) rfl fun s S => ?_)
  refine GF.hide4 S ⟨⟨fm.self, fm.la, fm.lb, fm.queue, fm.mb⟩, rfl, rfl, rfl, rfl⟩ fun m s S fm => ?_
  rw [hbl, List.cons_append, List.cons_append] at S
  have f1 := fm.self
  have f2 := fm.f1
  have f3 := fm.f2
  have f4 := fm.f3
  have f5 := fm.f4
  refine Cx.seq ?_
  show wpAny (model prog w) _ (exec _ (envX _ _ _ _ _ _)) _ _ _
  refine wpAny_Assign_two ?_
  have F : Fr g L s.heap m := S.F
  have N : News g L s.heap _ := S.N
  k_steps
  unfold Hold
  refine Cx.use (keep := (QL, listOf p.toArray (qn + 1)) :: (ML, listOf mvs.toArray mn) :: ex) ((S.put (s₀ := s₀) ‹Fr _ _ _ _› ‹News _ _ _ _›).sub keep_in) (flm w I AD a bA B J Z .none vo t1 t2 t3 t4 t5 t6 t7 t8 t9 t10 va vb as bs ha hb o oj lists hf r.1 r.2.1 r.2.2.1 r.2.2.2 d1 d2 d3 d4 ?g1 ?g2 hR.le (hlb ▸ hR.len) hz3 hz4) X T ?off (fun g' st' _ => ⟨hpa.at fun o e => st' _ _ e, hpb.at fun o e => st' _ _ e⟩) rfl (Nat.le_of_ble_eq_true rfl) (Nat.le_of_ble_eq_true rfl) ?ret
  case g1 => rw [← hR.lo, ← hR.hi]; exact cnt_mono b f hR.le
  case g2 => rw [← hR.hi, hla, ← cnt_len]; exact cnt_mono b f hR.len
  case off =>
   intro x hx y hy
   rw [← hbl] at hx
   rcases List.mem_cons.mp hy with rfl | hy
   ·exact Nat.ne_of_lt (lQ x hx)
   rcases List.mem_cons.mp hy with rfl | hy
   ·exact Nat.ne_of_lt (Nat.lt_trans (lQ x hx) q1)
   exact e3 x hx y hy
  intro res pass' s S hoff hpost
  obtain ⟨mx, dx, i, j, k, s1, s2, s3, rfl, rfl, hbest, hmx⟩ := hpost
  have m1 : mx ≠ QL := hoff _ (.head _) _ (.head _)
  have m2 : mx ≠ ML := hoff _ (.head _) _ (.tail _ (.head _))
  have hB := best_of inj (has ▸ hbs ▸ hbest)
  rw [← hbl] at S hmx
  refine Cx.unpM S rfl X (.head _) rfl rfl fun s S => ?_
  refine assign_Name (Cx.sto S rfl fun s S => ?_)
  refine GF.hide8 (S.sub keep_out) ⟨⟨⟨fm.self, fm.la, fm.lb, fm.queue, fm.mb⟩, f2, f3, f4, f5⟩, rfl, rfl, rfl, rfl⟩ fun m s S fm => ?_
  have b3 : ∀ x ∈ (mx, mObj dx (i : Int) (j : Int) (k : Int) s1 s2 s3 0) :: (bl ++ ex), x.1 ≠ QL := fun x hx => (List.mem_cons.mp hx).elim (fun h => h ▸ m1) (b1 x)
  have b4 : ∀ x ∈ (mx, mObj dx (i : Int) (j : Int) (k : Int) s1 s2 s3 0) :: (bl ++ ex), x.1 ≠ ML := fun x hx => (List.mem_cons.mp hx).elim (fun h => h ▸ m2) (b2 x)
  refine Cx.seq (Cx.if_ S (Cx.T.int (Cx.I.name fm.f7 rfl)) (fun hk s S => ?_) (fun hk s S => ?_))
  ·have hk0 : 0 < k := by lia
   refine Cx.seq (Cx.app_ref (N1 := (QL, listOf p.toArray (qn + 1)) :: (ML, listOf (mvs ++ [Value.ref mx]).toArray (mn + 1)) :: (mx, mObj dx (i : Int) (j : Int) (k : Int) s1 s2 s3 0) :: (bl ++ ex)) S fm.mb fm.f8 (by rw [← List.push_toArray]; exact .tail (Nat.ne_of_lt q1) (.head b4)) (by rw [sizeLine_eq, List.size_toArray]; lia) fun s S => ?_)
   obtain ⟨rest, hrest⟩ : ∃ rest, rest = (ML, listOf (mvs ++ [Value.ref mx]).toArray (mn + 1)) :: (mx, mObj dx (i : Int) (j : Int) (k : Int) s1 s2 s3 0) :: (bl ++ ex) := ⟨_, rfl⟩
   rw [← hrest] at S
   have b5 : ∀ x ∈ rest, x.1 ≠ QL := hrest ▸ fun x hx => (List.mem_cons.mp hx).elim (fun h => h ▸ Nat.ne_of_gt q1) (b3 x)
   have b6 : (ML, listOf (mvs ++ [Value.ref mx]).toArray (mn + 1)) ∈ rest := hrest ▸ .head _
   have q0 : QN QL ML rest ex qs ((QL, listOf p.toArray (qn + 1)) :: rest) := .mk [] p (qn + 1) rfl hq' fun p hp => nomatch hp
   refine Cx.seq (Cx.ifJ (QN QL ML rest ex (qs ++ lrange r i j)) S (Cx.T.and (Cx.T.lt (Cx.I.name fm.f1 rfl) (Cx.I.name fm.f5 rfl)) (Cx.T.and1 (Cx.T.lt (Cx.I.name fm.f3 rfl) (Cx.I.name fm.f6 rfl)))) (fun hp s S => ?_) (fun hp => ?_) fun N s q S => ?_)
   ·rw [lr_yes hp]
    exact QN.app S q0 fm.queue (.cons (Cx.I.name fm.f1 rfl) (.cons (Cx.I.name fm.f5 rfl) (.cons (Cx.I.name fm.f3 rfl) (.cons (Cx.I.name fm.f6 rfl) .nil)))) (by lia) b5 b6
   ·rw [lr_no hp, List.append_nil]; exact q0
   refine Cx.seq (Cx.ifJ (QN QL ML rest ex ((qs ++ lrange r i j) ++ rrange r i j k)) S (Cx.T.and (Cx.T.lt (Cx.I.add (Cx.I.name fm.f5 rfl) (Cx.I.name fm.f7 rfl)) (Cx.I.name fm.f2 rfl)) (Cx.T.and1 (Cx.T.lt (Cx.I.add (Cx.I.name fm.f6 rfl) (Cx.I.name fm.f7 rfl)) (Cx.I.name fm.f4 rfl)))) (fun hp s S => ?_) (fun hp => ?_) fun N2 s2 q2 S2 => ?_)
   ·rw [rr_yes hp]
    exact QN.app S q fm.queue (.cons (Cx.I.add (Cx.I.name fm.f5 rfl) (Cx.I.name fm.f7 rfl)) (.cons (Cx.I.name fm.f2 rfl) (.cons (Cx.I.add (Cx.I.name fm.f6 rfl) (Cx.I.name fm.f7 rfl)) (.cons (Cx.I.name fm.f4 rfl) .nil)))) (by have := lr_len r i j; rw [List.length_append]; lia) b5 b6
   ·rw [rr_no hp, List.append_nil]; exact q
   subst hrest
   exact Cx.nil (Cx.nil (gq_step hZ lQ q1 e1 e2 e3 hm hI hw hmx m1 m2 hB hk0 hn S2 fm.toGF q2))
  ·obtain rfl : k = 0 := by lia
   refine Cx.nil (Cx.nil (.mk (S.sub (N' := (QL, listOf p.toArray (qn + 1)) :: (ML, listOf mvs.toArray mn) :: (bl ++ ex)) fun x hx => ?_) (Nat.lt_of_lt_of_le (work_none r qs) hn) (.mk qs (.mk mb p mvs (qn + 1) mn ex fm.toGF rfl e1 e2 e3 hq' hm (qinv_none b f hZ hI hB) (by have := work_none r qs; lia)) (Nat.le_refl _))))
   rcases List.mem_cons.mp hx with h | h
   ·exact h ▸ .head _
   rcases List.mem_cons.mp h with h | h
   ·exact h ▸ .tail _ (.head _)
   ·exact .tail _ (.tail _ (.tail _ h))
 case done =>
  intro m N s S hq
  obtain ⟨mb, qvs, mvs, qn, mn, ex, fm, rfl, e1, e2, e3, hq, hm, hI, hw⟩ := hq
  obtain ⟨Lc, hC, hperm⟩ := qinv_done b f hI
  have hml := hm.len
  rw [List.length_map] at hml
  have hmz : mb.length ≤ 63 := by lia
  refine Cx.seq (Cx.sortM (rest := (QL, listOf qvs.toArray qn) :: (bl ++ ex)) (S.sub (N' := (ML, listOf mvs.toArray mn) :: (QL, listOf qvs.toArray qn) :: (bl ++ ex)) fun x hx => ?_) fm.mb X (fun x hx => ?_) (hm.sub fun p hp => .tail _ (List.mem_append_right _ hp)) (blk_inj hC hperm) (by rw [List.length_map]; lia) (Nat.le_of_ble_eq_true rfl) fun vs' ms n' s S hM hp1 hs1 => ?_)
  ·rcases List.mem_cons.mp hx with h | h
   ·exact h ▸ .tail _ (.head _)
   rcases List.mem_cons.mp h with h | h
   ·exact h ▸ .head _
   ·exact .tail _ (.tail _ h)
  ·rcases List.mem_cons.mp hx with h | h
   ·exact h ▸ Nat.ne_of_lt q1
   exact (List.mem_append.mp h).elim (fun h => Nat.ne_of_lt (Nat.lt_trans (lQ x h) q1)) (e2 x)
  have hmsE : ms = trs b f Lc := sorted_is b f hC hperm hp1 hs1
  refine Cx.seq (Cx.asg3 S Cx.I.const fun t0 s S => ?_)
  refine Cx.seq (Cx.asgNil S rfl fun NL s l4 S => ?_)
  have hms : ∀ (t : Nat) (c c' : Tri), ms[t]? = some c → ms[t + 1]? = some c' → c.2.1 + c.2.2 < c'.2.1 := by
   rw [hmsE]
   intro t c c' h1 h2
   rw [List.getElem?_map] at h1 h2
   obtain ⟨r, hr, rfl⟩ := Option.map_eq_some_iff.mp h1
   obtain ⟨r', hr', rfl⟩ := Option.map_eq_some_iff.mp h2
   obtain ⟨z1, rfl⟩ := List.getElem?_eq_some_iff.mp hr
   obtain ⟨z2, rfl⟩ := List.getElem?_eq_some_iff.mp hr'
   exact (List.pairwise_iff_getElem.mp (hC.sorted b f).1 t (t + 1) z1 z2 (by lia)).1
  have hpos : ∀ (t : Nat) (c : Tri), ms[t]? = some c → 0 < c.2.2 := by
   rw [hmsE]
   intro t c h1
   rw [List.getElem?_map] at h1
   obtain ⟨r, hr, rfl⟩ := Option.map_eq_some_iff.mp h1
   exact ((hC.sorted b f).2 r (List.mem_of_getElem? hr)).2.pos
  have hmz2 : ms.length ≤ 63 := by rw [hmsE, trs, List.length_map, hperm.length_eq]; exact hmz
  obtain ⟨base, hbase⟩ : ∃ base, base = (ML, listOf vs'.toArray n') :: (QL, listOf qvs.toArray qn) :: (bl ++ ex) := ⟨_, rfl⟩
  rw [← hbase] at S l4
  have hMb : (ML, listOf vs'.toArray n') ∈ base := hbase ▸ .head _
  have hMM : MAre base vs' ms := hM.sub fun p hp => hbase ▸ .tail _ hp
  have hbN : ∀ p ∈ base, p.1 ≠ NL := fun p hp => Nat.ne_of_lt (l4 p hp)
  have hvl := hM.len
  refine Cx.seq (Cx.forL (MJ ms base I ML NL ((unfl b f).length : Int) (b.length : Int) tla tlb) (MJ ms base I ML NL ((unfl b f).length : Int) (b.length : Int) tla tlb ms.length) S (Cx.evN S fm.mb rfl) rfl (.tail _ hMb) (.mk (0, 0, 0) _ _ _ ⟨fm.self, fm.la, fm.lb, fm.mb, rfl, rfl, rfl, rfl⟩ (.mk [] 0 [] rfl (fun p hp => nomatch hp) (LAre.nil _)) (.inl ⟨rfl, rfl⟩)) ?turn2 (fun m N h => ?_) fun m N s h S => ?done2)
  case turn2 =>
   intro t v It own m N s hv hI0 hown hoI hoff hJ S
   obtain ⟨c, s1, s2, s3, fm, r, hc⟩ := hJ
   rw [List.getElem?_toArray] at hv
   have ht : t < ms.length := hvl ▸ (List.getElem?_eq_some_iff.mp hv).1
   obtain ⟨c', hc'⟩ : ∃ c', ms[t]? = some c' := ⟨_, List.getElem?_eq_getElem ht⟩
   obtain ⟨x, _, hv2, hx, ⟨dx, t1', t2', t3', nx⟩⟩ := hMM.at_ t c' hc'
   rw [hv] at hv2
   cases hv2
   obtain ⟨oN, hoN⟩ := r.own
   obtain ⟨oI, hoI⟩ := hoI
   have hbo : ∀ p ∈ base ++ own, p.1 ≠ NL := fun p hp => by
    rcases List.mem_append.mp hp with h | h
    ·exact hbN p h
    rcases hown p h with h | h
    ·exact h ▸ fun e => hoff _ hoN e.symm
    ·exact h ▸ hbN _ hMb
   have hNe : ∀ D, (∀ p ∈ N ++ own, @LT.lt Nat _ p.1 D) → D ≠ It := fun D h => Nat.ne_of_gt (h _ (List.mem_append_right _ hoI))
   refine Cx.unpM S rfl X (List.mem_append_left _ (r.base _ hx)) rfl rfl fun s S => ?_
   refine GN.hide S ⟨⟨fm.self, fm.la, fm.lb, fm.mb, fm.na, fm.i1, fm.j1, fm.k1⟩, rfl, rfl, rfl⟩ fun m s S fm => ?_
   refine Cx.seq (Cx.if_ S (Cx.T.and (Cx.T.eq (Cx.I.add (Cx.I.name fm.i1 rfl) (Cx.I.name fm.k1 rfl)) (Cx.I.name fm.i2 rfl)) (Cx.T.and1 (Cx.T.eq (Cx.I.add (Cx.I.name fm.j1 rfl) (Cx.I.name fm.k1 rfl)) (Cx.I.name fm.j2 rfl)))) (fun hp s S => ?_) (fun hp s S => ?_))
   ·refine Cx.seq (Cx.aug S fm.k1 (Cx.I.name fm.k2 rfl) fun t0 s S => ?_)
    rcases hc with ⟨rfl, rfl⟩ | ⟨h0, hc⟩
    ·obtain ⟨i', j', k'⟩ := c'
     obtain rfl : i' = 0 := by have := hp.1; simp at this; lia
     obtain rfl : j' = 0 := by have := hp.2; simp at this; lia
     exact Cx.nil (Cx.nil (.next S hoff (.mk (0, 0, k') _ _ _ ⟨fm.self, fm.la, fm.lb, fm.mb, fm.na, fm.i1, fm.j1, congrArg (fun z => some (Value.int z t0)) (Int.zero_add _)⟩ r (.inr ⟨Nat.zero_lt_one, hc'⟩))))
    ·have := hms (t - 1) c c' hc (by rw [Nat.sub_add_cancel h0]; exact hc')
     exact absurd hp.2 (by lia)
   ·refine Cx.seq (Cx.ifJ (MO own (· ≠ It) NL base (ms.take t)) S (Cx.T.int (Cx.I.name fm.k1 rfl)) (fun hk s S => ?_) (fun hk => ?_) fun N2 s r2 S => ?_)
    ·rcases hc with ⟨rfl, rfl⟩ | ⟨h0, hc⟩
     ·exact absurd rfl hk
     refine Cx.seq (MR.app (Off := (· ≠ It)) S r hoff fm.na (.cons (Cx.I.name fm.i1 rfl) (.cons (Cx.I.name fm.j1 rfl) (.cons (Cx.I.name fm.k1 rfl) .nil))) (by rw [List.length_take]; lia) hbo hNe fun N' s r S => Cx.nil (.mk S ?_))
     rw [take_pred h0 hc]; exact r
    ·rcases hc with ⟨rfl, rfl⟩ | ⟨h0, hc⟩
     ·exact .mk N rfl r hoff
     ·exact absurd (hpos _ _ hc) (by have := Classical.not_not.mp hk; lia)
    ·obtain ⟨N3, rfl, r3, off3⟩ := r2
     obtain ⟨o3, ho3⟩ := r3.own
     refine Cx.seq (Cx.asgT S (.cons (Cx.I.name fm.i2 rfl) (.cons (Cx.I.name fm.j2 rfl) (.cons (Cx.I.name fm.k2 rfl) .nil))) rfl rfl (Nat.le_of_ble_eq_true rfl) rfl fun D vs s hv hD S => ?_)
     obtain ⟨r1, r2, r4, rfl⟩ := ints3 hv
     exact Cx.nil (Cx.nil (.next (N := (D, _) :: N3) S (fun p hp => (List.mem_cons.mp hp).elim (fun e => e ▸ Nat.ne_of_gt (hD _ (List.mem_append_right _ hoI))) (off3 p)) (.mk c' _ _ _ ⟨fm.self, fm.la, fm.lb, fm.mb, fm.na, rfl, rfl, rfl⟩ (r3.put (hD _ (List.mem_append_left _ ho3))) (.inr ⟨Nat.succ_pos t, hc'⟩))))
  ·rwa [List.size_toArray, hvl] at h
  case done2 =>
   obtain ⟨c, s1, s2, s3, fm, r, hc⟩ := h
   rw [← List.append_nil N] at S
   have hb0 : ∀ p ∈ base ++ [], p.1 ≠ NL := by rw [List.append_nil]; exact hbN
   refine Cx.seq (Cx.ifJ (MO [] (fun _ => True) NL base ms) S (Cx.T.int (Cx.I.name fm.k1 rfl)) (fun hk s S => ?_) (fun hk => ?_) fun N2 s r2 S => ?_)
   ·rcases hc with ⟨_, rfl⟩ | ⟨h0, hc⟩
    ·exact absurd rfl hk
    refine Cx.seq (MR.app (Off := fun _ => True) S r (fun _ _ => trivial) fm.na (.cons (Cx.I.name fm.i1 rfl) (.cons (Cx.I.name fm.j1 rfl) (.cons (Cx.I.name fm.k1 rfl) .nil))) (by rw [List.length_take]; lia) hb0 (fun _ _ => trivial) fun N' s r S => Cx.nil (.mk S ?_))
    rw [← take_pred h0 hc, List.take_length] at r; exact r
   ·rcases hc with ⟨h0, rfl⟩ | ⟨h0, hc⟩
    ·have : ms = [] := List.length_eq_zero_iff.mp h0
     subst this
     exact .mk N rfl r fun _ _ => trivial
    ·exact absurd (hpos _ _ hc) (by have := Classical.not_not.mp hk; lia)
   obtain ⟨N3, rfl, r3, off3⟩ := r2
   refine Cx.seq (MR.app (Off := fun _ => True) (c := ((unfl b f).length, b.length, 0)) S r3 (fun _ _ => trivial) fm.na (.cons (Cx.I.name fm.la rfl) (.cons (Cx.I.name fm.lb rfl) (.cons Cx.I.const .nil))) (by lia) hb0 (fun _ _ => trivial) fun N' s r S => ?_)
   obtain ⟨N4, rfl, ⟨nvs, nn, ex4, rfl, hn4, hT4⟩, _⟩ := r
   rw [List.append_nil] at S
   have hT5 : TAre (ex4 ++ (NL, listOf nvs.toArray nn) :: base) nvs (ms ++ [((unfl b f).length, b.length, 0)]) := hT4.sub fun p hp => List.mem_append_left _ hp
   have hNL : (NL, listOf nvs.toArray nn) ∈ ex4 ++ (NL, listOf nvs.toArray nn) :: base := List.mem_append_right _ (.head _)
   have hbt : ∀ p ∈ bl, p ∈ ex4 ++ (NL, listOf nvs.toArray nn) :: base := fun p hp => List.mem_append_right _ (.tail _ (hbase ▸ .tail _ (.tail _ (List.mem_append_left _ hp))))
   generalize ex4 ++ (NL, listOf nvs.toArray nn) :: base = tl at S hT5 hNL hbt
   have f1 := fm.self
   have f2 := fm.na
   refine Cx.seq ?_
   show wpAny (model prog w) _ (exec _ (envX _ _ _ _ _ _)) _ _ _
   have F : Fr g L s.heap m := S.F
   have N : News g L s.heap tl := S.N
   k_steps
   unfold Hold
   rename Fr _ _ _ _ => F7
   rename News _ _ _ _ => N7
   refine call_map F7 N7 (.tail _ hNL) fun mp Tt It h8 F8 N8 lI lT lM => ?_
   k_steps
   unfold Hold
   refine list_of_map (ms := ms ++ [((unfl b f).length, b.length, 0)]) X T rfl (Nat.le_of_ble_eq_true rfl) (Nat.le_of_ble_eq_true rfl) F8 N8 lI lT lM (.head _) (.tail _ hNL) (hT5.sub fun p hp => .tail _ hp) (by rw [hT5.len, List.length_append]; show _ + 1 ≤ _; lia) ?_
   intro Sr h9 tk9 acc c9 objs F9 N9 hM9 oS oR lS
   have zAD : (AD, dictOf (E10 w.params a bA B J Z .none vo t1 t2 t3 t4 t5 t6 t7 t8 t9 t10) 10) ∈ tl := hbt _ (hbl ▸ .tail _ (.head _))
   have N10 : News g L h9 ((AD, (dictOf (E10 w.params a bA B J Z .none vo t1 t2 t3 t4 t5 t6 t7 t8 t9 t10) 10)) :: (Sr, listOf acc.toArray c9) :: (I, instObj 270 AD) :: (B, o) :: (J, oj) :: (lists ++ objs)) := by
    have z : News g L h9 bl := fun p hp => N9 p (.tail _ (List.mem_append_right _ (.tail _ (hbt p hp))))
    rw [hbl] at z
    intro p hp
    rcases List.mem_cons.mp hp with rfl | hp
    ·exact z _ (.tail _ (.head _))
    rcases List.mem_cons.mp hp with rfl | hp
    ·exact N9 _ (.head _)
    rcases List.mem_cons.mp hp with rfl | hp
    ·exact z _ (.head _)
    rcases List.mem_cons.mp hp with rfl | hp
    ·exact z _ (.tail _ (.tail _ (.head _)))
    rcases List.mem_cons.mp hp with rfl | hp
    ·exact z _ (.tail _ (.tail _ (.tail _ (.head _))))
    rcases List.mem_append.mp hp with h | h
    ·exact z _ (.tail _ (.tail _ (.tail _ (.tail _ h))))
    ·exact N9 _ (.tail _ (List.mem_append_left _ h))
   have w1 : @LT.lt Nat _ AD I := hf.ord.1
   have w2 : @LT.lt Nat _ AD B := Nat.lt_trans w1 hf.ord.2.1
   have w3 : @LT.lt Nat _ AD J := Nat.lt_trans w2 hf.ord.2.2
   have w4 : @LT.lt Nat _ AD Sr := lS _ (.tail _ zAD)
   have w5 : ∀ p ∈ lists ++ objs, p.1 ≠ AD := fun p hp => (List.mem_append.mp hp).elim (fun h => hf.off p h) fun h => oR p h _ (.tail _ zAD)
   clear N9 N8 F8 N7 N F
   k_steps
   unfold Hold
   rename Fr g L _ m => F10
   refine Cx.go (S.put F10 ‹News _ _ _ _›) fun s S => ?_
   refine Cx.seq ?_
   show wpAny (model prog w) _ (exec _ (envX _ _ _ _ _ _)) _ _ _
   have F : Fr g L s.heap m := S.F
   have N : News g L s.heap _ := S.N
   k_steps
   unfold Hold
   exact ret _ _ _ _ _ (S.put F N) (fun p hp => hp) ⟨Sr, c9, acc, objs, Lc, rfl, rfl, hmsE ▸ hM9, hC, Nat.ne_of_gt w4, fun p hp => w5 p (List.mem_append_right _ hp)⟩
end Mine
end
section
theorem Mine.wlOnr : True := by
 k_with_none
 trivial
namespace Mine
theorem wlOn0 : True := by
 k_with_none
 k_with "Nx" => (refine' hold_out ?_)
 k_with "eval Name" => (k_here; k_dflt (refine nameX_L (by k_asm) (by first | rfl | assumption) ?_ rfl rfl); k_whole)
 k_with "call ref" => (k_here; (refine' hold_out ?_))
 trivial
section
variable {C : Cx} {s₀ s : Shared} {m : Str → Option Value} {N : List (Addr × Obj)} {Q : Flow → Shared → Prop}
theorem Cx.asg2 {x y : Str} {e : Expr} {i : Int} {p1 p2 pos : Pos} (S : C.St s₀ m N s) (H : C.I m e i) (h : ∀ t s', C.St s₀ (upd (upd m x (.int i t)) y (.int i t)) N s' → Q .next s') (hx : C.lc x = true := by rfl) (hy : C.lc y = true := by rfl)
  (hw : swappedStores [.Name x p1, .Name y p2] e C.env = pure none := by rfl) : C.Wp (.Assign [.Name x p1, .Name y p2] e pos) Q s :=
 wpAny_Assign_two (H s _ S.F fun t tk => assign_Name (Cx.sto (S.put S.F S.N) hx fun _ S => assign_Name (Cx.sto S hy fun _ S => h t _ S))) rfl hw
theorem Cx.asgStr {x v : Str} {k : Nat} {p pos pos' : Pos} (S : C.St s₀ m N s) (hx : C.lc x = true) (h : ∀ t s', C.St s₀ (upd m x (.str v t)) N s' → Q .next s') (hs : swapsWith (.Constant (.str v) k p) (some (.Name x pos')) pos.line C.env = pure false := by rfl) : C.Wp (.Assign [.Name x pos'] (.Constant (.str v) k p) pos) Q s :=
 wpAny_Assign_Name (Constant_str (Cx.sto (S.put S.F S.N) hx (h _))) hs
theorem Cx.T.str {x v : Str} {t : Tok} {pos : Pos} (hm : m x = some (.str v t)) (hz : ¬ (v.length : Int) ≥ 2 ^ 63) (hx : C.lc x = true) : C.T m (.Name x pos) ((v.length : Int) ≠ 0) := fun s Q F h1 h2 =>
 isTrue_plain (Cx.V.name hm hx s _ F fun tk => PySem.P.truthy_str hz (by
  by_cases q : (v.length : Int) = 0
  ·rw [show ((v.length : Int) != 0) = false by rw [q]; rfl]; exact h2 (fun z => z q) _
  ·rw [show ((v.length : Int) != 0) = true from bne_iff_ne.mpr q]; exact h1 q _))
theorem Cx.ifM {e : Expr} {p : Prop} {b o : List Stmt} {pos : Pos} (R : (Str → Option Value) → List (Addr × Obj) → Prop) (S : C.St s₀ m N s) (T : C.T m e p) (h1 : p → ∀ s', C.St s₀ m N s' → C.Ws b (C.Jm s₀ R) s') (h2 : ¬p → ∀ s', C.St s₀ m N s' → C.Ws o (C.Jm s₀ R) s') (k : ∀ m' N' s', R m' N' → C.St s₀ m' N' s' → Q .next s') : C.Wp (.If e b o pos) Q s :=
 Cx.if_ S T (fun hp s' S' => wpAny_mono (h1 hp s' S') (fun f s2 j => by cases j with | mk S r => exact k _ _ _ r S) fun _ _ x => x) (fun hp s' S' => wpAny_mono (h2 hp s' S') (fun f s2 j => by cases j with | mk S r => exact k _ _ _ r S) fun _ _ x => x)
end
inductive LR (NL : Nat) (base : List (Addr × Obj)) (T : List (Addr × Obj) → List Value → Prop) (N : List (Addr × Obj)) : Prop
 | mk (vs : List Value) (n : Nat) (ex : List (Addr × Obj)) (hN : N = ex ++ (NL, listOf vs.toArray n) :: base) (hn : ∀ p ∈ ex, @LT.lt Nat _ NL p.1) (hT : T ex vs)
inductive LO (own : List (Addr × Obj)) (Off : Addr → Prop) (NL : Nat) (base : List (Addr × Obj)) (T : List (Addr × Obj) → List Value → Prop) (N' : List (Addr × Obj)) : Prop
 | mk (N : List (Addr × Obj)) (e : N' = N ++ own) (r : LR NL base T N) (off : ∀ p ∈ N, Off p.1)
theorem LR.base {NL : Nat} {base : List (Addr × Obj)} {T : List (Addr × Obj) → List Value → Prop} {N : List (Addr × Obj)} (r : LR NL base T N) : ∀ p ∈ base, p ∈ N := by
 obtain ⟨nvs, nn, ex, rfl, hn, hT⟩ := r
 exact fun p hp => List.mem_append_right _ (.tail _ hp)
theorem LR.own {NL : Nat} {base : List (Addr × Obj)} {T : List (Addr × Obj) → List Value → Prop} {N : List (Addr × Obj)} (r : LR NL base T N) : ∃ o, (NL, o) ∈ N := by
 obtain ⟨nvs, nn, ex, rfl, hn, hT⟩ := r
 exact ⟨_, List.mem_append_right _ (.head _)⟩
theorem LR.put {NL D : Nat} {o : Obj} {base : List (Addr × Obj)} {T : List (Addr × Obj) → List Value → Prop} {N : List (Addr × Obj)} (r : LR NL base T N) (h : @LT.lt Nat _ NL D) (hT' : ∀ ex vs, T ex vs → T ((D, o) :: ex) vs) : LR NL base T ((D, o) :: N) := by
 obtain ⟨nvs, nn, ex, rfl, hn, hT⟩ := r
 exact .mk nvs nn ((D, o) :: ex) rfl (fun p hp => (List.mem_cons.mp hp).elim (fun e => e ▸ h) (hn p)) (hT' _ _ hT)
theorem LR.imp {NL : Nat} {base : List (Addr × Obj)} {T T' : List (Addr × Obj) → List Value → Prop} {N : List (Addr × Obj)} (r : LR NL base T N) (h : ∀ ex vs, T ex vs → T' ex vs) : LR NL base T' N := by
 obtain ⟨nvs, nn, ex, e, hn, hT⟩ := r
 exact .mk nvs nn ex e hn (h _ _ hT)
theorem LR.app {C : Cx} {s₀ s : Shared} {m : Str → Option Value} {N own : List (Addr × Obj)} {Off : Addr → Prop} {NL : Nat} {base : List (Addr × Obj)} {T T' : List (Addr × Obj) → List Value → Prop} {P : List Value → Prop} {x : Str} {es : List Expr} {k : Nat} {p1 p2 p3 p4 p5 : Pos} {pl : Sem Bool} {Q : Flow → Shared → Prop} (S : C.St s₀ m (N ++ own) s) (r : LR NL base T N) (off : ∀ p ∈ N, Off p.1) (hm : m x = some (.ref NL)) (H : C.Es m es P) (hl : ∀ ws, P ws → ws.length ≤ 5) (hz : ∀ ex vs, T ex vs → vs.length ≤ 1000) (hr : ∀ p ∈ base ++ own, p.1 ≠ NL) (hO : ∀ D, (∀ p ∈ N ++ own, @LT.lt Nat _ p.1 D) → Off D)
  (step : ∀ ex vs D ws, T ex vs → P ws → T' ((D, tupO ws) :: ex) (vs ++ [Value.ref D])) (h : ∀ N' s', LO own Off NL base T' N' → C.St s₀ m N' s' → Q .next s') (hx : C.lc x = true := by rfl)
  (hs : swapsWith (.Call (.Attribute (.Name x p1) (Str.ofString "append") p2) [.Tuple es k p3] [] p4) none p5.line C.env = pure false := by rfl)
  (hi : interactive C.env = false := by rfl)
  (he : eval (.Call (.Attribute (.Name x p1) (Str.ofString "append") p2) [.Tuple es k p3] [] p4) C.env = (do
   let ov ← eval (.Name x p1) C.env
   standAt p2.atName
   let (f, first) ← holding [ov] (getMethod ov (Str.ofString "append") pl)
   callWith p4 f first (backTo p4 (starEach [.Tuple es k p3] C.env)) []) := by rfl) :
  C.Wp (.Expr (.Call (.Attribute (.Name x p1) (Str.ofString "append") p2) [.Tuple es k p3] [] p4) p5) Q s := by
 obtain ⟨nvs, nn, ex, rfl, hn, hT⟩ := r
 have hl2 := hz _ _ hT
 have e0 : ∀ o, (ex ++ (NL, o) :: base) ++ own = ex ++ (NL, o) :: (base ++ own) := fun o => by rw [List.append_assoc, List.cons_append]
 refine Cx.app_tupE (n := nn) (its := nvs.toArray) (N1 := fun v => (ex ++ (NL, listOf (nvs ++ [v]).toArray (nn + 1)) :: base) ++ own) S hm H (fun v => ?_) (by rw [List.size_toArray, sizeLine_eq]; lia) hl (fun D vs s' hv hD S' => h _ _ (.mk ((D, tupO vs) :: (ex ++ (NL, listOf (nvs ++ [Value.ref D]).toArray (nn + 1)) :: base)) rfl (.mk (nvs ++ [Value.ref D]) (nn + 1) ((D, tupO vs) :: ex) rfl (fun p hp => ?_) (step _ _ _ _ hT hv)) fun p hp => ?_) S') hx hs hi he
 ·rw [e0, e0, ← List.push_toArray]
  exact Upd.app (fun p hp => Nat.ne_of_gt (hn p hp)) hr
 ·rcases List.mem_cons.mp hp with rfl | hp
  ·exact hD _ (List.mem_append_left _ (List.mem_append_right _ (.head _)))
  ·exact hn p hp
 ·rcases List.mem_cons.mp hp with rfl | hp
  ·exact hO _ hD
  rcases List.mem_append.mp hp with hp | hp
  ·exact off _ (List.mem_append_left _ hp)
  rcases List.mem_cons.mp hp with rfl | hp
  ·exact off (NL, listOf nvs.toArray nn) (List.mem_append_right _ (.head _))
  ·exact off _ (List.mem_append_right _ (.tail _ hp))
noncomputable abbrev Cde := Bool × Nat × Nat × Nat × Nat
inductive CodeT (o : Obj) (c : Cde) : Prop
 | mk (n : Nat) (t1 t2 t3 t4 t5 : Tok) (e : o = { cls := .type "tuple", data := .seq #[.str (Str.ofString (if c.1 then "insert" else "equal")) t1, .int (c.2.1 : Int) t2, .int (c.2.2.1 : Int) t3, .int (c.2.2.2.1 : Int) t4, .int (c.2.2.2.2 : Int) t5] n })
noncomputable abbrev CAre := @LAre Cde fun c o => CodeT o c
theorem cover_len {b : List Qu} {f : Qu → Bool} {hi x : Nat} {L : List (Nat × Nat)} (h : Cover b f hi x L) : L.length + x ≤ hi := by
 induction h with
 | nil h1 _ => simpa using h1
 | @cons x j k L h1 h2 R _ ih =>
  have := R.pos
  simp only [List.length_cons]; lia
theorem oj_block {b : List Qu} {f : Qu → Bool} {L : List (Nat × Nat)} {t j : Nat} {cs : List Cde} {c : Tri} (ht : t ≤ L.length) (hc : (trs b f L ++ [((unfl b f).length, b.length, 0)])[t]? = some c) (hcs : cs ++ opcs b f j (L.drop t) = opcs b f 0 L) (hcov : Cover b f b.length j (L.drop t)) :
  c.1 = cnt b f j ∧ j ≤ c.2.1 ∧ (0 < c.2.2 → t + 1 ≤ L.length ∧ cnt b f (c.2.1 + c.2.2) = c.1 + c.2.2 ∧ (cs ++ ((if j < c.2.1 then [(true, cnt b f j, cnt b f j, j, c.2.1)] else []) ++ [(false, c.1, c.1 + c.2.2, c.2.1, c.2.1 + c.2.2)])) ++ opcs b f (c.2.1 + c.2.2) (L.drop (t + 1)) = opcs b f 0 L ∧ Cover b f b.length (c.2.1 + c.2.2) (L.drop (t + 1))) ∧
  (c.2.2 = 0 → t + 1 = L.length + 1 ∧ cs ++ (if j < c.2.1 then [(true, cnt b f j, cnt b f j, j, c.2.1)] else []) = opcs b f 0 L) := by
 by_cases h : t < L.length
 ·have hr : L[t]? = some L[t] := List.getElem?_eq_getElem h
  have hd : L.drop t = L[t] :: L.drop (t + 1) := List.drop_eq_getElem_cons h
  generalize L[t] = r at hr hd
  obtain ⟨j', k⟩ := r
  rw [List.getElem?_append_left (by simpa using h), List.getElem?_map, hr] at hc
  obtain rfl := Option.some.inj hc
  rw [hd] at hcs hcov
  cases hcov with
  | cons h1 h2 R hc' =>
   have hp := R.pos
   have hl := run_len b f R
   refine ⟨cnt_allF b f h1 (by lia) h2, h1, fun _ => ⟨h, cnt_run b f R.un k (Nat.le_refl _), ?_, hc'⟩, fun h0 => ?_⟩
   ·rw [← hcs]
    conv => rhs; unfold opcs
    simp
   ·dsimp only at h0; lia
 ·have e : t = L.length := by lia
  subst e
  rw [List.getElem?_append_right (by simp)] at hc
  simp at hc
  obtain rfl := hc
  rw [List.drop_length] at hcs hcov
  cases hcov with
  | nil h1 h2 =>
   have hz := cnt_allF b f h1 (Nat.le_refl _) h2
   rw [cnt_len] at hz
   refine ⟨hz, h1, fun h0 => absurd h0 (Nat.lt_irrefl _), fun _ => ⟨rfl, ?_⟩⟩
   rw [← hcs]
   unfold opcs
   rfl
structure GO (I AL i j : Nat) (s1 s2 : Tok) (m : Str → Option Value) : Prop where
 self : m (Str.ofString "self") = some (.ref I)
 ans : m (Str.ofString "answer") = some (.ref AL)
 i : m (Str.ofString "i") = some (.int (i : Int) s1)
 j : m (Str.ofString "j") = some (.int (j : Int) s2)
structure GO2 (I AL i j : Nat) (s1 s2 : Tok) (c : Tri) (r1 r2 r3 : Tok) (m : Str → Option Value) : Prop extends GO I AL i j s1 s2 m where
 ai : m (Str.ofString "ai") = some (.int (c.1 : Int) r1)
 bj : m (Str.ofString "bj") = some (.int (c.2.1 : Int) r2)
 sz : m (Str.ofString "size") = some (.int (c.2.2 : Int) r3)
noncomputable def CA (cs : List Cde) (k : Nat) (ex : List (Addr × Obj)) (vs : List Value) : Prop := CAre ex vs cs ∧ vs.length ≤ k
inductive OJ (b : List Qu) (f : Qu → Bool) (L : List (Nat × Nat)) (base : List (Addr × Obj)) (I AL : Nat) (t : Nat) (m : Str → Option Value) (N : List (Addr × Obj)) : Prop
 | mk (cs : List Cde) (i j : Nat) (s1 s2 : Tok) (fm : GO I AL i j s1 s2 m) (r : LR AL base (CA cs (2 * t)) N)
  (hc : (t ≤ L.length ∧ i = cnt b f j ∧ cs ++ opcs b f j (L.drop t) = opcs b f 0 L ∧ Cover b f b.length j (L.drop t)) ∨ (t = L.length + 1 ∧ cs = opcs b f 0 L))
inductive GoP (b : List Qu) (f : Qu → Bool) (r : Value) (pass' : List (Addr × Obj)) : Prop
 | mk (AL an : Nat) (avs : List Value) (objs : List (Addr × Obj)) (cs : List Cde) (hr : r = .ref AL) (hp : pass' = (AL, listOf avs.toArray an) :: objs) (hA : CAre objs avs cs) (hC : Codes b f 0 cs)
theorem gop (w : World) (I AD a bA B J Z : Nat) (t1 t2 t3 t4 t5 t6 t7 t8 t9 t10 : Tok) (va vb : List Value) (b : List Qu) (f : Qu → Bool) (zq : Qu → Int) (inj : ∀ x y, zq x = zq y → x = y) (hZ : Safe b f) (as bs : List Int) (has : as = (unfl b f).map zq) (hbs : bs = b.map zq) (ha : IntsAre va as) (hb : IntsAre vb bs) (o oj : Obj) (lists : List (Addr × Obj)) (hf : SmF w I AD B J bs o oj lists) (hz1 : (unfl b f).length ≤ 31) (hz2 : b.length < 200) :
  CallSpec w 336 (.ref 238) [.ref I] ((I, instObj 270 AD) :: (AD, (dictOf (E10 w.params a bA B J Z .none .none t1 t2 t3 t4 t5 t6 t7 t8 t9 t10) 10)) :: (B, o) :: (J, oj) :: lists) (fun g => g.IsList a va.toArray ∧ g.IsList bA vb.toArray)
   (GoP b f) := by
 try (unfold CallSpec prog; k_fill; fail)
 refine' spec_def (binds := [(Str.ofString "self", .ref I)]) ?ho ?hcd ?hroom ?hb ?hl ?_ ?hc ?h1 ?h2 ?h3
 case ho => k_is
 case hcd => k_is
 case hroom => decide
 case hb => intro s _; exact BindsTo.of_eq rfl
 case hl => exact locs rfl
 case hc => decide
 case h1 => exact rfl
 case h2 => exact rfl
 case h3 => exact rfl
 intro mg mb g L s₀ s Q X T hpre hL S ret
 obtain ⟨hpa, hpb⟩ := hpre
 have w1 : @LT.lt Nat _ AD I := hf.ord.1
 have w2 : @LT.lt Nat _ AD B := Nat.lt_trans w1 hf.ord.2.1
 have w3 : @LT.lt Nat _ AD J := Nat.lt_trans w2 hf.ord.2.2
 have w5 : ∀ p ∈ lists, p.1 ≠ AD := hf.off
 refine Cx.seq (Cx.doc S fun s S => ?_)
 refine Cx.seq ?_
 show wpAny (model prog w) _ (exec _ (envX _ _ _ _ _ _)) _ _ _
 have F : Fr g L s.heap _ := S.F
 have N : News g L s.heap _ := S.N
 k_steps
 unfold Hold
 refine Cx.go (S.put ‹_› ‹_›) fun s S => ?_
 refine Cx.seq (Cx.asg2 S Cx.I.const fun t0 s S => ?_)
 refine Cx.seq ?_
 show wpAny (model prog w) _ (exec _ (envX _ _ _ _ _ _)) _ _ _
 refine wpAny_Assign_two (List_ (args_nil (newList_K S.F S.N (fun AL h' F N l0 => ?_) (by rw [sizeLine_eq]; exact Nat.zero_le _))))
 have l0' := allLt_of l0
 unfold AllLt at l0'
 k_steps
 unfold Hold
 obtain ⟨bl, hbl⟩ : ∃ bl, bl = (I, instObj 270 AD) :: (AD, (dictOf (E10 w.params a bA B J Z .none (.ref AL) t1 t2 t3 t4 t5 t6 t7 t8 t9 t10) 10)) :: (B, o) :: (J, oj) :: lists := ⟨_, rfl⟩
 have lB : ∀ p ∈ bl, @LT.lt Nat _ p.1 AL := by
  rw [hbl]
  intro p hp
  rcases List.mem_cons.mp hp with h | hp
  ·exact h ▸ l0 _ (.head _)
  rcases List.mem_cons.mp hp with h | hp
  ·exact h ▸ l0 (AD, (dictOf (E10 w.params a bA B J Z .none .none t1 t2 t3 t4 t5 t6 t7 t8 t9 t10) 10)) (.tail _ (.head _))
  ·exact l0 _ (.tail _ (.tail _ hp))
 refine Cx.hide (R := GO I AL 0 0 t0 t0) ((S.put ‹Fr _ _ _ _› ‹News _ _ _ _›).sub (N' := (AL, listOf #[] 0) :: bl) fun p hp => by rw [hbl] at hp; exact hp) ⟨rfl, rfl, rfl, rfl⟩ fun m s S fm => ?_
 refine Cx.seq ?_
 have f1 := fm.self
 have F : Fr g L s.heap m := S.F
 have N : News g L s.heap _ := S.N
 rw [hbl] at N
 refine For_turns S.F ?_
 show wpAny (model prog w) _ (eval _ (envX _ _ _ _ _ _)) _ _ _
 k_steps
 unfold Hold
 refine Cx.use (keep := [(AL, listOf #[] 0)]) ((S.put (s₀ := s₀) ‹Fr g L _ m› ‹News g L _ _›).sub (N' := bl ++ [(AL, listOf #[] 0)]) fun p hp => ?_) (hbl ▸ gmb w I AD a bA B J Z (.ref AL) t1 t2 t3 t4 t5 t6 t7 t8 t9 t10 va vb b f zq inj hZ as bs has hbs ha hb o oj lists hf hz1 hz2) X T (fun x hx y hy => ?_) (fun g' st' _ => ⟨hpa.at fun o e => st' _ _ e, hpb.at fun o e => st' _ _ e⟩) rfl (Nat.le_of_ble_eq_true rfl) (Nat.le_of_ble_eq_true rfl) fun res pass' s S hoff hpost => ?_
 ·rw [← hbl]
  rcases List.mem_append.mp hp with h | h
  ·exact .tail _ h
  ·exact List.mem_singleton.mp h ▸ .head _
 ·rw [List.mem_singleton.mp hy]; exact Nat.ne_of_lt (lB x hx)
 obtain ⟨Sr, c3, acc, objs, Lc, rfl, hpass, hM, hC, hSA, hoA⟩ := hpost
 have oB : ∀ p ∈ pass', p.1 ≠ AL := fun p hp => hoff p hp _ (.head _)
 have hSm : (Sr, listOf acc.toArray c3) ∈ pass' := hpass ▸ .tail _ (.head _)
 have hMb : MAre pass' acc (trs b f Lc ++ [((unfl b f).length, b.length, 0)]) := hM.sub fun p hp => hpass ▸ .tail _ (.tail _ (List.mem_append_right _ hp))
 have hLz := cover_len hC
 have hsz : acc.toArray.size = Lc.length + 1 := by rw [List.size_toArray, hMb.len, List.length_append, List.length_map]; rfl
 refine Cx.iterL (OJ b f Lc pass' I AL) (OJ b f Lc pass' I AL (Lc.length + 1)) (S.sub (N' := (AL, listOf ([] : List Value).toArray 0) :: pass') fun p hp => ?_) rfl (.tail _ hSm) (.mk [] 0 0 t0 t0 fm (.mk [] 0 [] rfl (fun p hp => nomatch hp) ⟨LAre.nil _, Nat.zero_le _⟩) (.inl ⟨Nat.zero_le _, (cnt_zero b f).symm, rfl, hC⟩)) ?turn (fun m N h => hsz ▸ h) fun m N s h S => ?done
 ·rcases List.mem_cons.mp hp with h | h
  ·exact h ▸ List.mem_append_right _ (.head _)
  ·exact List.mem_append_left _ h
 case turn =>
  intro t v It own m N s hvt hI' hown hoI hoff' hJ S
  obtain ⟨cs, i, j, s1, s2, fm, r, hcur⟩ := hJ
  have htz : t < Lc.length + 1 := by rw [← hsz]; exact (Array.getElem?_eq_some_iff.mp hvt).1
  rcases hcur with ⟨ht, rfl, hcs, hcov⟩ | ⟨ht, _⟩
  case inr => lia
  obtain ⟨c', hc'⟩ : ∃ c', (trs b f Lc ++ [((unfl b f).length, b.length, 0)])[t]? = some c' := ⟨_, List.getElem?_eq_getElem (by simpa using htz)⟩
  obtain ⟨x, _, ev, hx, ⟨dx, t1', t2', t3', n⟩⟩ := hMb.at_ t c' hc'
  rw [List.getElem?_toArray] at hvt
  obtain rfl : v = .ref x := Option.some.inj (hvt.symm.trans ev)
  obtain ⟨k1, k2, k3, k4⟩ := oj_block ht hc' hcs hcov
  obtain ⟨oA, hoA⟩ := r.own
  obtain ⟨oI, hoI⟩ := hoI
  have hbo : ∀ p ∈ pass' ++ own, p.1 ≠ AL := fun p hp => by
   rcases List.mem_append.mp hp with h | h
   ·exact oB p h
   rcases hown p h with h | h
   ·exact h ▸ fun e => hoff' _ hoA e.symm
   ·exact h ▸ oB _ hSm
  have hNe : ∀ {own : List (Addr × Obj)} {N : List (Addr × Obj)}, (It, oI) ∈ own → ∀ D, (∀ p ∈ N ++ own, @LT.lt Nat _ p.1 D) → D ≠ It := fun hm D h => Nat.ne_of_gt (h _ (List.mem_append_right _ hm))
  refine Cx.unpM S rfl X (List.mem_append_left _ (r.base _ hx)) rfl rfl fun s S => ?_
  refine Cx.hide (R := GO2 I AL (cnt b f j) j s1 s2 c' t1' t2' t3') S ⟨⟨fm.self, fm.ans, fm.i, fm.j⟩, rfl, rfl, rfl⟩ fun m s S fm => ?_
  have irr : ¬((cnt b f j : Int) < (c'.1 : Int)) := by rw [k1]; exact Int.lt_irrefl _
  refine Cx.seq (Cx.asgStr S rfl fun ts s S => ?_)
  refine Cx.seq (Cx.ifM (fun m N' => N' = N ++ own ∧ GO2 I AL (cnt b f j) j s1 s2 c' t1' t2' t3' m ∧ ∃ t, m (Str.ofString "tag") = some (.str (if j < c'.2.1 then Str.ofString "insert" else Str.ofString "") t)) S (Cx.T.and (Cx.T.lt (Cx.I.name fm.i rfl) (Cx.I.name fm.ai rfl)) (Cx.T.and1 (Cx.T.lt (Cx.I.name fm.j rfl) (Cx.I.name fm.bj rfl)))) (fun hp => absurd hp.1 irr) (fun _ s S => ?_) fun m N' s hm S => ?_)
  ·refine Cx.seq (Cx.if_ S (Cx.T.lt (Cx.I.name fm.i rfl) (Cx.I.name fm.ai rfl)) (fun hp => absurd hp irr) fun _ s S => ?_)
   refine Cx.seq (Cx.if_ S (Cx.T.lt (Cx.I.name fm.j rfl) (Cx.I.name fm.bj rfl)) (fun hp s S => ?_) fun hp s S => ?_)
   ·exact Cx.seq (Cx.asgStr S rfl fun ts s S => Cx.nil (Cx.nil (Cx.nil (.mk S ⟨rfl, ⟨⟨fm.self, fm.ans, fm.i, fm.j⟩, fm.ai, fm.bj, fm.sz⟩, ts, by rw [if_pos (Int.ofNat_lt.mp hp)]; rfl⟩))))
   ·exact Cx.nil (Cx.nil (Cx.nil (.mk S ⟨rfl, ⟨⟨fm.self, fm.ans, fm.i, fm.j⟩, fm.ai, fm.bj, fm.sz⟩, ts, by rw [if_neg fun z => hp (Int.ofNat_lt.mpr z)]; rfl⟩)))
  obtain ⟨rfl, fm, tt, htag⟩ := hm
  refine Cx.seq (Cx.ifM (fun m' N' => m' = m ∧ LO own (· ≠ It) AL pass' (CA (cs ++ (if j < c'.2.1 then [(true, cnt b f j, cnt b f j, j, c'.2.1)] else [])) (2 * t + 1)) N') S (Cx.T.str htag (by split <;> decide) rfl) (fun hp s S => ?_) (fun hp s S => ?_) fun m' N' s hm S => ?_)
  ·have hj : j < c'.2.1 := by
    by_cases h : j < c'.2.1
    ·exact h
    ·rw [if_neg h] at hp; exact absurd rfl hp
   rw [if_pos hj] at htag ⊢
   refine Cx.seq (LR.app (Off := (· ≠ It)) S r hoff' fm.ans (.cons (Cx.V.name htag rfl) (.cons (Cx.V.name fm.i rfl) (.cons (Cx.V.name fm.ai rfl) (.cons (Cx.V.name fm.j rfl) (.cons (Cx.V.name fm.bj rfl) .nil))))) (fun ws h => ?_) (fun ex vs h => ?_) hbo (hNe hoI) (fun ex vs D ws h hw => ?_) fun N' s r S => Cx.nil (.mk S ⟨rfl, r⟩))
   ·rw [h]; exact Nat.le_refl _
   ·have := h.2; lia
   ·subst hw
    refine ⟨(h.1.sub fun p hp => .tail _ hp).snoc (.head _) ⟨0, tt, s1, t1', s2, t2', ?_⟩, by rw [List.length_append]; exact Nat.succ_le_succ h.2⟩
    rw [k1]; rfl
  ·have hj : ¬ j < c'.2.1 := fun h => hp (by rw [if_pos h]; decide)
   rw [if_neg hj, List.append_nil]
   obtain ⟨vs, n, ex, e, hn, hT⟩ := r
   exact Cx.nil (.mk S ⟨rfl, .mk N rfl (.mk vs n ex e hn ⟨hT.1, Nat.le_succ_of_le hT.2⟩) hoff'⟩)
  obtain ⟨rfl, N2, rfl, r2, off2⟩ := hm
  refine Cx.seq (Cx.asgT S (.cons (Cx.I.add (Cx.I.name fm.ai rfl) (Cx.I.name fm.sz rfl)) (.cons (Cx.I.add (Cx.I.name fm.bj rfl) (Cx.I.name fm.sz rfl)) .nil)) rfl rfl (Nat.le_of_ble_eq_true rfl) rfl fun D vs s hv hD S => ?_)
  obtain ⟨r1, r3, rfl⟩ := ints2 hv
  obtain ⟨o2, ho2⟩ := r2.own
  have r4 := r2.put (o := tupO [.int ((c'.1 : Int) + (c'.2.2 : Int)) r1, .int ((c'.2.1 : Int) + (c'.2.2 : Int)) r3]) (hD _ (List.mem_append_left _ ho2)) (fun ex vs h => (⟨h.1.sub fun p hp => .tail _ hp, h.2⟩ : CA _ _ _ _))
  have off4 : ∀ p ∈ (D, tupO [.int ((c'.1 : Int) + (c'.2.2 : Int)) r1, .int ((c'.2.1 : Int) + (c'.2.2 : Int)) r3]) :: N2, p.1 ≠ It := fun p hp => (List.mem_cons.mp hp).elim (fun e => e ▸ hNe hoI D hD) (off2 p)
  refine Cx.hide (R := fun m => GO I AL (c'.1 + c'.2.2) (c'.2.1 + c'.2.2) r1 r3 m ∧ m (Str.ofString "ai") = some (.int (c'.1 : Int) t1') ∧ m (Str.ofString "bj") = some (.int (c'.2.1 : Int) t2') ∧ m (Str.ofString "size") = some (.int (c'.2.2 : Int) t3')) S ⟨⟨fm.self, fm.ans, rfl, rfl⟩, fm.ai, fm.bj, fm.sz⟩ fun m s S fm => ?_
  obtain ⟨fm, g1, g2, g3⟩ := fm
  refine Cx.seq (Cx.if_ S (Cx.T.int (Cx.I.name g3 rfl)) (fun hk s S => ?_) fun hk s S => ?_)
  ·obtain ⟨y1, y2, y3, y4⟩ := k3 (by lia)
   refine Cx.seq (LR.app (T' := CA (cs ++ ((if j < c'.2.1 then [(true, cnt b f j, cnt b f j, j, c'.2.1)] else []) ++ [(false, c'.1, c'.1 + c'.2.2, c'.2.1, c'.2.1 + c'.2.2)])) (2 * t + 2)) (Off := (· ≠ It)) S r4 off4 fm.ans (.str (.cons (Cx.V.name g1 rfl) (.cons (Cx.V.name fm.i rfl) (.cons (Cx.V.name g2 rfl) (.cons (Cx.V.name fm.j rfl) .nil))))) (fun ws h => ?_) (fun ex vs h => ?_) hbo (hNe hoI) (fun ex vs D ws h hw => ?_) fun N' s r S => ?_)
   ·obtain ⟨_, rfl⟩ := h
    exact Nat.le_refl _
   ·have := h.2; lia
   ·obtain ⟨te, rfl⟩ := hw
    refine ⟨?_, by rw [List.length_append]; exact Nat.succ_le_succ h.2⟩
    rw [← List.append_assoc]
    exact (h.1.sub fun p hp => .tail _ hp).snoc (.head _) ⟨0, te, t1', r1, t2', r3, rfl⟩
   ·obtain ⟨N5, rfl, r5, off5⟩ := r
    exact Cx.nil (Cx.nil (.next S off5 (.mk _ _ _ _ _ fm r5 (.inl ⟨y1, y2.symm, y3, y4⟩))))
  ·obtain ⟨y1, y2⟩ := k4 (by have := Classical.not_not.mp hk; lia)
   obtain ⟨vs, n5, ex, e, hn, hT⟩ := r4
   exact Cx.nil (Cx.nil (.next (N := (D, _) :: N2) S off4 (.mk _ _ _ _ _ fm (.mk vs n5 ex e hn ⟨hT.1, Nat.le_succ_of_le hT.2⟩) (.inr ⟨y1, y2⟩))))
 case done =>
  obtain ⟨cs, i, j, s1, s2, fm, ⟨avs, an, ex, rfl, hn, hT⟩, hcur⟩ := h
  have hcs : cs = opcs b f 0 Lc := by
   rcases hcur with ⟨h, _⟩ | ⟨_, h⟩
   ·lia
   ·exact h
  refine Cx.seq (Cx.retV S (Cx.V.name fm.ans rfl) fun s S => ?_)
  refine ret _ _ _ _ ((AL, listOf avs.toArray an) :: ex) S (fun p hp => ?_) ⟨AL, an, avs, ex, cs, rfl, rfl, hT.1, hcs ▸ hC.codes⟩
  rcases List.mem_cons.mp hp with h | h
  ·exact h ▸ List.mem_append_right _ (.head _)
  ·exact List.mem_append_left _ h
end Mine
end
section
namespace Mine
theorem enter_cells {w : World} {mg mb : Str → Option Value} {A : Around} {s : Shared} {g : Heap} {pass : List (Addr × Obj)} {f : Addr} {args : List Value} {binds : List (Str × Value)} {Q E : Value → Shared → Prop}
  {name qual : Str} {params : Arguments} {body : List Stmt} {scope : Scope} {dV kV doc pm cdv ct oc : Value} {an od : Option Addr} {osl : Array (Option Value)}
  (T : TR mg mb g) (st : ∀ b o, g.get? b = some o → s.heap.get? b = some o) (sz : g.objs.size ≤ s.heap.objs.size) (N : ∀ p ∈ pass, s.heap.get? p.1 = some p.2 ∧ g.get? p.1 = none)
  (ho : s.heap.get? f = some ⟨oc, od, .func (fnX name qual params body scope [] dV kV doc pm an cdv ct), osl⟩) (hcd : s.heap.CodeRec cdv qual) (hroom : A.depth < recursionLimit)
  (hbind : BindsTo s (fnX name qual params body scope [] dV kV doc pm an cdv ct) ⟨args, []⟩ binds)
  (hkind : ∀ n, ∀ x ∈ binds, scope.names.lookup x.1 = some .local ∨ (scope.names.lookup x.1 = some .cell ∧ ((cellsFrom n scope.names []).lookup x.1).isSome = true))
  (hnd : ((cellsFrom 0 scope.names []).map (·.1)).Nodup)
  (h : ∀ L h₁ tk cells, Fr g L h₁ (bindL (envOfC qual scope L f cdv).kindOf binds fun _ => none) → News g L h₁ (cells ++ pass) → CellsAre (bindC (envOfC qual scope L f cdv).kindOf binds fun _ => none) (cellsFrom (L + 1) scope.names []) cells → @LE.le Nat _ g.objs.size L →
   (∀ p ∈ pass, p.1 < L) →
   wpAny (model prog w) (A.deeper (envOfC qual scope L f cdv)) (execs body (envOfC qual scope L f cdv)) (fun fl s' => Q (match fl with | .ret v => v | _ => .none) s') (fun _ _ => False)
    { s with heap := h₁, toks := tk })
  (hco : scope.isCoroutine = false := by rfl) (hgen : scope.isGenerator = false := by rfl) (hk : scope.kind = .function := by rfl) : wpAny (model prog w) A (call (.ref f) args) Q E s := by
 refine wpAny_call ?_
 refine codeAny_call_function hroom ho rfl hco hgen rfl hcd (hbind _ _ _ _ ?_)
 refine wpAny_newFunctionEnv_cells hk (hkind _) fun env' he s' x => ?_
 subst he
 refine ⟨(T.nolimit.keeps st).keeps x.toInCall.keep, codeAny_func ?_⟩
 obtain ⟨h₁, tk, rfl, _⟩ := x.done
 have hk₁ := x.toInCall.keep
 obtain ⟨cells, NC, Y⟩ := Cl.news (h₀ := s.heap) (Nat.le_refl _) fun n c hm => ⟨x.cell n c (lookup_of_mem_nodup (cellsFrom_names scope.names 0 (s.heap.objs.size + 1) [] [] rfl ▸ hnd) hm), x.above n c hm⟩
 refine wpAny_mono (h s.heap.objs.size h₁ tk cells ⟨x.toInCall.ns, fun b o e => hk₁ b o (st b o e), sz⟩ (fun p hp => ?_) Y sz (fun p hp => Heap.lt_size (N p hp).1)) (fun fl s' q => q) fun _ _ y => y.elim
 rcases List.mem_append.mp hp with hp | hp
 ·refine ⟨(NC p hp).1, (NC p hp).2.1, ?_⟩
  cases q : g.get? p.1 with
  | none => rfl
  | some o => have := st _ _ q; rw [(NC p hp).2.2] at this; cases this
 ·exact ⟨hk₁ _ _ (N p hp).1, Nat.ne_of_lt (Heap.lt_size (N p hp).1), (N p hp).2⟩
noncomputable def BMain (h : Heap) (mg : Str → Option Value) : Prop := ∃ bm ob, mg "__builtins__" = some (.ref bm) ∧ bm ≠ builtinsNs ∧ h.get? bm = some ob ∧ ob.cls = .type "module" ∧ ob.dict = some builtinsNs ∧ ob.data = .plain
theorem bmain_of {P : Params} {h : Heap} {mg mb : Str → Option Value} (X : (KN P).In h) (T : TR mg mb h) : BMain h mg := ⟨4, PySem.W.boot_o_4 P, mg_of X T.g (by kernel_rfl), by decide, X _ _ (by kernel_rfl), rfl, rfl, rfl⟩
theorem hd_of {P : Params} {h : Heap} (X : (KN P).In h) : CodeHd h 303 299 := ⟨_, _, _, _, _, _, _, _, _, X 303 _ rfl, rfl, rfl, rfl, rfl, rfl, rfl, rfl, rfl, by decide⟩
section
variable {M : Model} {A : Around} {E : Value → Shared → Prop} {s : Shared} {h₀ : Heap} {L a c P : Addr} {m mg mb : Str → Option Value} {cn : Str} {cs : Scope} {ccd : Value} {cl : List (Str × Addr)} {news : List (Addr × Obj)} {g : Obj → List (Addr × Obj)}
 {name qual : Str} {params : Arguments} {body : List Stmt} {scope : Scope} {ps : Array Value} {pos : Pos} {firstLine : Nat} {clos : List (Str × Addr)}
theorem nest_miss {Q : Value → Shared → Prop} (F : Fr h₀ L s.heap m) (N : News h₀ L s.heap news) (G : h₀.Ns mainGlobals mg) (B : BMain h₀ mg) (C : CodeHd h₀ c P) (hcd : ccd = .ref c) (U : UpdF P (tabObj ps) news g) (ht : TriplesOk ps.toList) (hnf : codeAmong pos ps.toList = none)
  (hcl : closureFor scope (envX cn cs L a ccd cl) = pure clos)
  (h : ∀ f c' oc vs t ctv doc h' tk, Fr h₀ L h' m →
   News h₀ L h' ((f, fnMade name qual params body scope clos doc ((mg "__name__").getD .none) c' ctv) :: (c', oc) :: g (tabObj (ps ++ #[rawInt pos.line, rawInt pos.col, .ref c']))) →
   oc.data = .fields vs → vs[1]? = some (.str qual t) → (∀ q ∈ news, q.1 < c') → c' < f → Q (.ref f) { s with heap := h', toks := tk }) :
  wpAny M A (makeFunction name qual params (.stmts body) scope (envX cn cs L a ccd cl) [] [] [] pos firstLine) Q E s := by
 obtain ⟨own, rest, rfl, hgr, h1, h2⟩ := U.split
 have hm := N (P, tabObj ps) (List.mem_append_right _ (.head _))
 have hgs := G.keeps F.keep
 obtain ⟨bm, ob, b1, b2, b3, b4, b5, b6⟩ := B
 have hgP : mainGlobals ≠ P := fun q => by
  obtain ⟨o, es, ep, e, hd, _⟩ := hgs
  rw [q, hm.1] at e; cases e; cases hd
 have hbP : bm ≠ P := fun q => by
  have e := F.keep _ _ b3
  rw [q, hm.1] at e; cases e; cases b4
 have hbG : bm ≠ mainGlobals := fun q => by
  obtain ⟨o, es, ep, e, hd, _⟩ := G
  rw [q, e] at b3; cases b3; rw [hd] at b6; cases b6
 refine makeFunction_K (mg := mg) hcl rfl hgs hcd (C.keeps F.keep) hm.1 ht hnf hgP ⟨bm, ob, b1, b2, hbG, hbP, F.keep _ _ b3, b4, b5, b6⟩ fun c' ctv doc h' tk hx hge hlt hrec htb => ?_
 obtain ⟨c₂, oc, vs, t, e2, hoc, hd, hv⟩ := hrec
 cases e2
 have hLs : L < s.heap.objs.size := F.ns.lt
 have hLc : L < c' := Nat.lt_of_lt_of_le hLs hge
 have old : ∀ b o, h₀.get? b = some o → h'.get? b = some o := fun b o e => hx b o (fun q => by rw [q, hm.2.2] at e; cases e) (F.keep b o e)
 have fresh : ∀ b, L < b → h₀.get? b = none := fun b hb => Heap.get?_none_of_le (Nat.le_trans F.above (Nat.le_of_lt hb))
 refine h h'.objs.size c' oc vs t ctv doc _ tk ⟨(F.ns.extBut hx hm.2.1.symm).push _, fun b o e => Heap.get?_push_of_some _ (old b o e), F.above⟩ (fun q hq => ?_) hd hv
  (fun q hq => Nat.lt_of_lt_of_le (Heap.lt_size (N q hq).1) hge) hlt
 rcases List.mem_cons.mp hq with rfl | hq
 ·exact ⟨Heap.get?_push_size _ rfl, Nat.ne_of_gt (Nat.lt_trans hLc hlt), fresh _ (Nat.lt_trans hLc hlt)⟩
 ·rcases List.mem_cons.mp hq with rfl | hq
  ·exact ⟨Heap.get?_push_of_some _ hoc, Nat.ne_of_gt hLc, fresh _ hLc⟩
  ·rw [hgr] at hq
   rcases List.mem_append.mp hq with hq | hq
   ·have n := N q (List.mem_append_left _ hq)
    exact ⟨Heap.get?_push_of_some _ (hx _ _ (h1 q hq) n.1), n.2⟩
   ·rcases List.mem_cons.mp hq with rfl | hq
    ·exact ⟨Heap.get?_push_of_some _ htb, hm.2⟩
    ·have n := N q (List.mem_append_right _ (.tail _ hq))
     exact ⟨Heap.get?_push_of_some _ (hx _ _ (h2 q hq) n.1), n.2⟩
theorem nest_found {Q : Value → Shared → Prop} {c' : Addr} (F : Fr h₀ L s.heap m) (N : News h₀ L s.heap news) (G : h₀.Ns mainGlobals mg) (B : BMain h₀ mg) (C : CodeHd h₀ c P) (hcd : ccd = .ref c) (hmem : (P, tabObj ps) ∈ news) (ht : TriplesOk ps.toList) (hf : codeAmong pos ps.toList = some (.ref c'))
  (hcl : closureFor scope (envX cn cs L a ccd cl) = pure clos)
  (h : ∀ f ctv doc h' tk, Fr h₀ L h' m → News h₀ L h' ((f, fnMade name qual params body scope clos doc ((mg "__name__").getD .none) c' ctv) :: news) → (∀ q ∈ news, q.1 < f) → Q (.ref f) { s with heap := h', toks := tk }) :
  wpAny M A (makeFunction name qual params (.stmts body) scope (envX cn cs L a ccd cl) [] [] [] pos firstLine) Q E s := by
 have hm := N (P, tabObj ps) hmem
 have hgs := G.keeps F.keep
 obtain ⟨bm, ob, b1, b2, b3, b4, b5, b6⟩ := B
 have hbP : bm ≠ P := fun q => by
  have e := F.keep _ _ b3
  rw [q, hm.1] at e; cases e; cases b4
 have hbG : bm ≠ mainGlobals := fun q => by
  obtain ⟨o, es, ep, e, hd, _⟩ := G
  rw [q, e] at b3; cases b3; rw [hd] at b6; cases b6
 refine makeFunction_hit (mg := mg) hcl rfl hgs hcd (C.keeps F.keep) hm.1 ht hf ⟨bm, ob, b1, b2, hbG, hbP, F.keep _ _ b3, b4, b5, b6⟩ fun ctv doc h' tk hk hsz => ?_
 have hLs : L < h'.objs.size := Nat.lt_of_lt_of_le F.ns.lt hsz
 have fresh : ∀ b, L < b → h₀.get? b = none := fun b hb => Heap.get?_none_of_le (Nat.le_trans F.above (Nat.le_of_lt hb))
 refine h h'.objs.size ctv doc _ tk ⟨(F.ns.keeps hk).push _, fun b o e => Heap.get?_push_of_some _ (hk b o (F.keep b o e)), F.above⟩ (fun q hq => ?_) (fun q hq => Nat.lt_of_lt_of_le (Heap.lt_size (N q hq).1) hsz)
 rcases List.mem_cons.mp hq with rfl | hq
 ·exact ⟨Heap.get?_push_size _ rfl, Nat.ne_of_gt hLs, fresh _ hLs⟩
 ·exact ⟨Heap.get?_push_of_some _ (hk _ _ (N q hq).1), (N q hq).2⟩
end
end Mine
end
section
theorem Mine.wlLhBr : True := by
 k_with_none
 trivial
namespace Mine
theorem wlLhB0 : True := by
 k_with_none
 k_with "exec FunctionDef" => (k_here; (refine' nestDef_K ?d0 ?k0 ?a0 ?_; (case d0 => exact rfl); (case k0 => exact rfl); (case a0 => exact rfl)); first
  | ((refine' nest_miss ?F ?N ?G ?B ?C ?cd ?U ?t ?n ?cl ?_; (case F => assumption); (case N => assumption); (case G => assumption); (case B => assumption); (case cd => exact rfl); (case C => exact hd_of (by assumption)); (case U => k_updF); (case t => kn_triples); (case n => kn_among); (case cl => exact rfl); k_whole); intro f' c' oc' vs' t' ct' dc' h' tk' F' N' d1' d2' l1 l2; (try dsimp only at N'); revert f' c' oc' vs' t' ct' dc' h' tk' F' N' d1' d2' l1 l2; intro _ _ _ _ _ _ _ _ _ _ _ _ _ _ _)
  | ((refine' nest_found ?F ?N ?G ?B ?C ?cd ?mem ?t ?n ?cl ?_; (case F => assumption); (case N => assumption); (case G => assumption); (case B => assumption); (case cd => exact rfl); (case C => exact hd_of (by assumption)); (case mem => k_mem); (case t => kn_triples); (case n => kn_hit); (case cl => exact rfl); k_whole); intro f' ct' dc' h' tk' F' N' l1; (try dsimp only at N'); revert f' ct' dc' h' tk' F' N' l1; intro _ _ _ _ _ _ _ _))
 trivial
inductive HPost1 (kw : KW) (hd : Nat) (z : Nat) (ps : List Pl) (ask hnd : Array Value) (r : Value) (pass' : List (Addr × Obj)) : Prop
 | mk (lp c : Nat) (oc : Obj) (vs : Array Value) (tq : Tok) (n' : Nat) (ask' : Array Value) (na' : Nat) (hnd' : Array Value) (nh' : Nat) (hr : r = .ref lp)
  (hp : pass' = [(lp, listOf (krefs kw (ofold kw.val z ⟨[], [], []⟩ ps).heap) n'), (kw.asked, listOf ask' na'), (hd, listOf hnd' nh'), (299, tabObj #[rawInt 559, rawInt 4, .ref c]), (c, oc)])
  (d1 : oc.data = .fields vs) (d2 : vs[1]? = some (.str (Str.ofString "_law_heap.<locals>.offer") tq)) (hG : Grew ask ask' (ofold kw.val z ⟨[], [], []⟩ ps).qs) (hH : hnd' = hnd ++ krefs kw (ofold kw.val z ⟨[], [], []⟩ ps).out) (l1 : c < lp) (l2 : 299 < c) (l3 : kw.asked < c) (l4 : hd < c)
theorem lh1 (w : World) (kw : KW) (ps : List Pl) (hd ks : Nat) (z : Nat) (t : Tok) (ask : Array Value) (na : Nat) (hnd : Array Value) (nh : Nat) (hne2 : kw.asked ≠ hd) (hta : 299 ≠ kw.asked) (hth : 299 ≠ hd) (hL : LtOk w kw)
  (hz : ask.size + 3 * ps.length ≤ 870) (hzh : hnd.size + ps.length ≤ 100) (h1 : 1 ≤ z) (h3 : z ≤ 3) :
  CallSpec w 388 (.ref 304) [.int (z : Int) t, .ref ks, .ref hd] [(299, tabObj #[]), (kw.asked, listOf ask na), (hd, listOf hnd nh)] (fun g => kw.In g ∧ g.IsList ks (krefs kw ps))
   (HPost1 kw hd z ps ask hnd) := by
 unfold CallSpec prog
 k_fill
 intro mg mb s g Q E X T hpre st sz N hret
 obtain ⟨hkw, hks⟩ := hpre
 have hG := T.g
 have hB := bmain_of X T
 refine' enter_cells (binds := [(Str.ofString "size", .int (z : Int) t), (Str.ofString "keys", .ref ks), (Str.ofString "handed", .ref hd)]) T st sz N ?ho ?hcd ?hroom ?hb ?hl ?hnd ?_ ?h1 ?h2 ?h3
 case ho => (refine' st _ _ (X _ _ ?e); (case e => k_is))
 case hcd => exact codeRec_of (Frag.In.keeps X st) (by k_is)
 case hroom => decide
 case hb => exact BindsTo.of_eq rfl
 case hl =>
  intro n x hx
  simp only [List.mem_cons, List.not_mem_nil, or_false] at hx
  rcases hx with rfl | rfl | rfl
  ·exact .inr ⟨rfl, rfl⟩
  ·exact .inl rfl
  ·exact .inr ⟨rfl, rfl⟩
 case hnd => decide
 case h1 => exact rfl
 case h2 => exact rfl
 case h3 => exact rfl
 k_whole
 intro L' h' tk cells F' N' Y' hL' hlt'
 clear N
 obtain ⟨o1, o2, e1, d1, d2⟩ := PyProof.Rows.CellsAre.two Y'
 subst e1
 have d1 : o1.data = .cell (some (.ref hd)) := d1
 have d2 : o2.data = .cell (some (.int (z : Int) t)) := d2
 clear Y'
 have q1 : @LT.lt Nat _ 299 L' := hlt' _ (.head _)
 have q2 : @LT.lt Nat _ kw.asked L' := hlt' _ (.tail _ (.head _))
 have q3 : @LT.lt Nat _ hd L' := hlt' _ (.tail _ (.tail _ (.head _)))
 dsimp only [List.cons_append, List.nil_append] at N'
 show wpAny _ ((AA 388).deeper (envX (Str.ofString "_law_heap") _ L' 304 (.ref 303) [(Str.ofString "handed", L' + 1 + 1), (Str.ofString "size", L' + 1)])) (execs _ (envX (Str.ofString "_law_heap") _ L' 304 (.ref 303) [(Str.ofString "handed", L' + 1 + 1), (Str.ofString "size", L' + 1)])) _ _ _
 k_steps
 rename_i f c oc vs tq ct dc _ _ hd1 hd2 lc lcf _ lp hh F N lall
 obtain ⟨l1, l2, l3, l4, l5, l6, l7⟩ := lall
 have n0 : @LT.lt Nat _ L' c := Nat.lt_trans (Nat.lt_succ_self _) (lc _ (.tail _ (.head _)))
 have N2 : News g L' hh [(lp, listOf #[] 0), (f, offO w.params (L' + 1) (L' + 1 + 1) dc ((mg (Str.ofString "__name__")).getD .none) c ct), (c, oc), (L' + 1 + 1, o1), (L' + 1, o2), (299, tabObj #[rawInt 559, rawInt 4, .ref c]), (kw.asked, listOf ask na), (hd, listOf hnd nh)] := N
 clear N
 have N3 : News g L' hh ([(lp, listOf #[] 0), (kw.asked, listOf ask na), (hd, listOf hnd nh)] ++ [(f, offO w.params (L' + 1) (L' + 1 + 1) dc ((mg (Str.ofString "__name__")).getD .none) c ct), (c, oc), (L' + 1 + 1, o1), (L' + 1, o2), (299, tabObj #[rawInt 559, rawInt 4, .ref c])]) := by
  intro p hp
  refine N2 p ?_
  simp only [List.cons_append, List.nil_append, List.mem_cons, List.not_mem_nil, or_false] at hp ⊢
  rcases hp with h | h | h | h | h | h | h | h
  ·exact .inl h
  ·exact .inr (.inr (.inr (.inr (.inr (.inr (.inl h))))))
  ·exact .inr (.inr (.inr (.inr (.inr (.inr (.inr h))))))
  ·exact .inr (.inl h)
  ·exact .inr (.inr (.inl h))
  ·exact .inr (.inr (.inr (.inl h)))
  ·exact .inr (.inr (.inr (.inr (.inl h))))
  ·exact .inr (.inr (.inr (.inr (.inr (.inl h)))))
 have n1 : @LT.lt Nat _ c f := lcf
 have x1 : lp ≠ kw.asked := Nat.ne_of_gt l6
 have x2 : lp ≠ hd := Nat.ne_of_gt l7
 refine' use_spec (red w kw ps f (L' + 1) (L' + 1 + 1) lp hd ks z 0 ask na hnd nh x1 x2 hne2 hL hz hzh h1 h3) F N3 X T ?off ?pre rfl (Nat.le_of_ble_eq_true rfl) (Nat.le_of_ble_eq_true rfl) ?_
 case off =>
  intro p hp q hq
  simp only [List.mem_cons, List.not_mem_nil, or_false] at hp hq
  rcases hp with rfl | rfl | rfl <;> rcases hq with rfl | rfl | rfl | rfl | rfl <;> (show @Ne Nat _ _) <;> lia
 case pre =>
  intro g' st' hk
  refine ⟨kw.keeps _ _ hkw st', ⟨⟨dc, _, c, ct, hk _ (.head _), c, oc, vs, tq, rfl, hk _ (.tail _ (.head _)), hd1, hd2⟩, ⟨o2, t, hk _ (.tail _ (.tail _ (.tail _ (.head _)))), d2⟩, ⟨o1, hk _ (.tail _ (.tail _ (.head _))), d1⟩⟩, ?_⟩
  obtain ⟨o, e, r⟩ := hks
  exact ⟨o, st' _ _ e, r⟩
 intro r' pass' h2 tk2 F2 N2' off' hpost
 obtain ⟨rfl, n', ask', na', hnd', nh', rfl, hG2, hH2⟩ := hpost
 have N4 : ∀ p ∈ [(lp, listOf (krefs kw (ofold kw.val z ⟨[], [], []⟩ ps).heap) n'), (kw.asked, listOf ask' na'), (hd, listOf hnd' nh'), (299, tabObj #[rawInt 559, rawInt 4, .ref c]), (c, oc)], h2.get? p.1 = some p.2 ∧ g.get? p.1 = none := by
  intro p hp
  have z : p ∈ ([(lp, listOf (krefs kw (ofold kw.val z ⟨[], [], []⟩ ps).heap) n'), (kw.asked, listOf ask' na'), (hd, listOf hnd' nh')] ++ [(f, offO w.params (L' + 1) (L' + 1 + 1) dc ((mg (Str.ofString "__name__")).getD .none) c ct), (c, oc), (L' + 1 + 1, o1), (L' + 1, o2), (299, tabObj #[rawInt 559, rawInt 4, .ref c])]) := by
   simp only [List.cons_append, List.nil_append, List.mem_cons, List.not_mem_nil, or_false] at hp ⊢
   rcases hp with h | h | h | h | h
   ·exact .inl h
   ·exact .inr (.inl h)
   ·exact .inr (.inr (.inl h))
   ·exact .inr (.inr (.inr (.inr (.inr (.inr (.inr h))))))
   ·exact .inr (.inr (.inr (.inr (.inl h))))
  exact ⟨(N2' p z).1, (N2' p z).2.2⟩
 exact hret _ _ h2 tk2 F2.keep N4 ⟨lp, c, oc, vs, tq, n', ask', na', hnd', nh', rfl, rfl, hd1, hd2, hG2, hH2, Nat.lt_trans n1 l1, Nat.lt_trans q1 n0, Nat.lt_trans q2 n0, Nat.lt_trans q3 n0⟩
inductive HPost2 (kw : KW) (hd c : Nat) (z : Nat) (ps : List Pl) (ask hnd : Array Value) (r : Value) (pass' : List (Addr × Obj)) : Prop
 | mk (lp : Nat) (n' : Nat) (ask' : Array Value) (na' : Nat) (hnd' : Array Value) (nh' : Nat) (hr : r = .ref lp)
  (hp : pass' = [(lp, listOf (krefs kw (ofold kw.val z ⟨[], [], []⟩ ps).heap) n'), (kw.asked, listOf ask' na'), (hd, listOf hnd' nh'), (299, tabObj #[rawInt 559, rawInt 4, .ref c])])
  (hG : Grew ask ask' (ofold kw.val z ⟨[], [], []⟩ ps).qs) (hH : hnd' = hnd ++ krefs kw (ofold kw.val z ⟨[], [], []⟩ ps).out) (l1 : 299 < lp) (l2 : kw.asked < lp) (l3 : hd < lp)
theorem lh2 (w : World) (kw : KW) (ps : List Pl) (hd ks c : Nat) (z : Nat) (t : Tok) (ask : Array Value) (na : Nat) (hnd : Array Value) (nh : Nat) (hne2 : kw.asked ≠ hd) (hta : 299 ≠ kw.asked) (hth : 299 ≠ hd) (hL : LtOk w kw)
  (hz : ask.size + 3 * ps.length ≤ 870) (hzh : hnd.size + ps.length ≤ 100) (h1 : 1 ≤ z) (h3 : z ≤ 3) :
  CallSpec w 388 (.ref 304) [.int (z : Int) t, .ref ks, .ref hd] [(299, tabObj #[rawInt 559, rawInt 4, .ref c]), (kw.asked, listOf ask na), (hd, listOf hnd nh)] (fun g => kw.In g ∧ g.IsList ks (krefs kw ps) ∧ g.CodeRec (.ref c) (Str.ofString "_law_heap.<locals>.offer"))
   (HPost2 kw hd c z ps ask hnd) := by
 unfold CallSpec prog
 k_fill
 intro mg mb s g Q E X T hpre st sz N hret
 obtain ⟨hkw, hks, hcr⟩ := hpre
 have hG := T.g
 have hB := bmain_of X T
 refine' enter_cells (binds := [(Str.ofString "size", .int (z : Int) t), (Str.ofString "keys", .ref ks), (Str.ofString "handed", .ref hd)]) T st sz N ?ho ?hcd ?hroom ?hb ?hl ?hnd ?_ ?h1 ?h2 ?h3
 case ho => (refine' st _ _ (X _ _ ?e); (case e => k_is))
 case hcd => exact codeRec_of (Frag.In.keeps X st) (by k_is)
 case hroom => decide
 case hb => exact BindsTo.of_eq rfl
 case hl =>
  intro n x hx
  simp only [List.mem_cons, List.not_mem_nil, or_false] at hx
  rcases hx with rfl | rfl | rfl
  ·exact .inr ⟨rfl, rfl⟩
  ·exact .inl rfl
  ·exact .inr ⟨rfl, rfl⟩
 case hnd => decide
 case h1 => exact rfl
 case h2 => exact rfl
 case h3 => exact rfl
 k_whole
 intro L' h' tk cells F' N' Y' hL' hlt'
 clear N
 obtain ⟨o1, o2, e1, d1, d2⟩ := PyProof.Rows.CellsAre.two Y'
 subst e1
 have d1 : o1.data = .cell (some (.ref hd)) := d1
 have d2 : o2.data = .cell (some (.int (z : Int) t)) := d2
 clear Y'
 have q1 : @LT.lt Nat _ 299 L' := hlt' _ (.head _)
 have q2 : @LT.lt Nat _ kw.asked L' := hlt' _ (.tail _ (.head _))
 have q3 : @LT.lt Nat _ hd L' := hlt' _ (.tail _ (.tail _ (.head _)))
 dsimp only [List.cons_append, List.nil_append] at N'
 show wpAny _ ((AA 388).deeper (envX (Str.ofString "_law_heap") _ L' 304 (.ref 303) [(Str.ofString "handed", L' + 1 + 1), (Str.ofString "size", L' + 1)])) (execs _ (envX (Str.ofString "_law_heap") _ L' 304 (.ref 303) [(Str.ofString "handed", L' + 1 + 1), (Str.ofString "size", L' + 1)])) _ _ _
 k_steps
 rename_i f ct dc _ _ lf _ lp hh F N lall
 obtain ⟨l1, l3, l4, l5, l6, l7⟩ := lall
 have n0 : @LT.lt Nat _ L' f := Nat.lt_trans (Nat.lt_succ_self _) (lf _ (.tail _ (.head _)))
 have N2 : News g L' hh [(lp, listOf #[] 0), (f, offO w.params (L' + 1) (L' + 1 + 1) dc ((mg (Str.ofString "__name__")).getD .none) c ct), (L' + 1 + 1, o1), (L' + 1, o2), (299, tabObj #[rawInt 559, rawInt 4, .ref c]), (kw.asked, listOf ask na), (hd, listOf hnd nh)] := N
 clear N
 have N3 : News g L' hh ([(lp, listOf #[] 0), (kw.asked, listOf ask na), (hd, listOf hnd nh)] ++ [(f, offO w.params (L' + 1) (L' + 1 + 1) dc ((mg (Str.ofString "__name__")).getD .none) c ct), (L' + 1 + 1, o1), (L' + 1, o2), (299, tabObj #[rawInt 559, rawInt 4, .ref c])]) := by
  intro p hp
  refine N2 p ?_
  simp only [List.cons_append, List.nil_append, List.mem_cons, List.not_mem_nil, or_false] at hp ⊢
  rcases hp with h | h | h | h | h | h | h
  ·exact .inl h
  ·exact .inr (.inr (.inr (.inr (.inr (.inl h)))))
  ·exact .inr (.inr (.inr (.inr (.inr (.inr h)))))
  ·exact .inr (.inl h)
  ·exact .inr (.inr (.inl h))
  ·exact .inr (.inr (.inr (.inl h)))
  ·exact .inr (.inr (.inr (.inr (.inl h))))
 have x1 : lp ≠ kw.asked := Nat.ne_of_gt l6
 have x2 : lp ≠ hd := Nat.ne_of_gt l7
 refine' use_spec (red w kw ps f (L' + 1) (L' + 1 + 1) lp hd ks z 0 ask na hnd nh x1 x2 hne2 hL hz hzh h1 h3) F N3 X T ?off ?pre rfl (Nat.le_of_ble_eq_true rfl) (Nat.le_of_ble_eq_true rfl) ?_
 case off =>
  intro p hp q hq
  simp only [List.mem_cons, List.not_mem_nil, or_false] at hp hq
  rcases hp with rfl | rfl | rfl <;> rcases hq with rfl | rfl | rfl | rfl <;> (show @Ne Nat _ _) <;> lia
 case pre =>
  intro g' st' hk
  refine ⟨kw.keeps _ _ hkw st', ⟨⟨dc, _, c, ct, hk _ (.head _), hcr.keeps st'⟩, ⟨o2, t, hk _ (.tail _ (.tail _ (.head _))), d2⟩, ⟨o1, hk _ (.tail _ (.head _)), d1⟩⟩, ?_⟩
  obtain ⟨o, e, r⟩ := hks
  exact ⟨o, st' _ _ e, r⟩
 intro r' pass' h2 tk2 F2 N2' off' hpost
 obtain ⟨rfl, n', ask', na', hnd', nh', rfl, hG2, hH2⟩ := hpost
 have N4 : ∀ p ∈ [(lp, listOf (krefs kw (ofold kw.val z ⟨[], [], []⟩ ps).heap) n'), (kw.asked, listOf ask' na'), (hd, listOf hnd' nh'), (299, tabObj #[rawInt 559, rawInt 4, .ref c])], h2.get? p.1 = some p.2 ∧ g.get? p.1 = none := by
  intro p hp
  have z : p ∈ ([(lp, listOf (krefs kw (ofold kw.val z ⟨[], [], []⟩ ps).heap) n'), (kw.asked, listOf ask' na'), (hd, listOf hnd' nh')] ++ [(f, offO w.params (L' + 1) (L' + 1 + 1) dc ((mg (Str.ofString "__name__")).getD .none) c ct), (L' + 1 + 1, o1), (L' + 1, o2), (299, tabObj #[rawInt 559, rawInt 4, .ref c])]) := by
   simp only [List.cons_append, List.nil_append, List.mem_cons, List.not_mem_nil, or_false] at hp ⊢
   rcases hp with h | h | h | h
   ·exact .inl h
   ·exact .inr (.inl h)
   ·exact .inr (.inr (.inl h))
   ·exact .inr (.inr (.inr (.inr (.inr (.inr h)))))
  exact ⟨(N2' p z).1, (N2' p z).2.2⟩
 exact hret _ _ h2 tk2 F2.keep N4 ⟨lp, n', ask', na', hnd', nh', rfl, rfl, hG2, hH2, l5, l6, l7⟩
end Mine
end
section
theorem Mine.wlLcr : True := by
 k_with_none
 trivial
namespace Mine
theorem wlLc0 : True := by
 k_with_none
 k_with "Nx" => (refine' hold_out ?_)
 k_with "eval Name" => (k_here; k_dflt (refine nameX_L (by k_asm) (by first | rfl | assumption) ?_ rfl rfl); k_whole)
 trivial
section
variable {C : Cx} {s₀ s : Shared} {m : Str → Option Value} {N : List (Addr × Obj)} {Q : Flow → Shared → Prop}
theorem Cx.Th.iff {e : Expr} {p q : Prop} (T : C.Th m N e p) (h : p ↔ q) : C.Th m N e q := fun s₀ s Q S h1 h2 => T s₀ s Q S (fun hp => h1 (h.mp hp)) fun hp => h2 fun z => hp (h.mpr z)
theorem Cx.T.eqB {x y : Expr} {c d : Bool} {pos : Pos} (hx : C.V m x (.bool c)) (hy : C.V m y (.bool d)) (hm : behindInMarks .Eq y = false := by with_unfolding_all rfl) : C.T m (.Compare x [.Eq] [y] pos) (c = d) := by
 intro s Q F h1 h2
 refine wpAny_isTrue_Compare1 (hx s _ F fun tk => hy _ _ F fun tk' => ?_) hm
 refine eq_bool (wpAny_truthy_bool ?_)
 by_cases q : c = d
 ·rw [beq_iff_eq.mpr q]; exact h1 q _
 ·rw [beq_eq_false_iff_ne.mpr q]; exact h2 q _
theorem Cx.V.flag {x : Str} {fl : Nat} {b : List Qu} {f : Qu → Bool} {e : Expr} {k : Nat} {c : Bool} {q : Qu} {p pos : Pos} (hm : m x = some (.ref fl)) (hfl : C.g.IsList fl (b.map fun q => Value.bool (f q)).toArray) (hb : b.length ≤ 1000) (H : C.I m e (k : Int)) (hq : b[k]? = some q) (hc : f q = c) (hx : C.lc x = true)
  (hs : ∀ u, subscripted e false (.ref fl) (.int (k : Int) u) = operate [.ref fl, .int k u] (getItem (.ref fl) (.int k u)) := by intro _; with_unfolding_all rfl) (hg : ∀ r, letTemporaryGo (.Name x p) (.ref fl) r = pure () := by intro _; with_unfolding_all rfl) :
  C.V m (.Subscript (.Name x p) e pos) (.bool c) := fun s Q F h => by
 have hk := (List.getElem?_eq_some_iff.mp hq).1
 refine Subscript_ (Cx.V.name hm hx _ _ F fun tk => H _ _ F fun u tk' => ?_)
 refine item_listL (k := (k : Int)) (F.lst hfl) (by lia) (by lia) ?_ (hc ▸ h _) (hs u) hg
 rw [Int.toNat_natCast, List.getElem?_map, hq]; rfl
theorem Cx.T.bool {e : Expr} {c : Bool} (H : C.V m e (.bool c)) (he : ∀ env whole, isTrue e env whole = (do let v ← whole; standAt e.pos; holding [v] (truthy v)) := by intro _ _; rfl) : C.T m e (c = true) := fun s Q F h1 h2 =>
 isTrue_plain (H s _ F fun tk => wpAny_truthy_bool (by cases c with
  | true => exact h1 rfl _
  | false => exact h2 nofun _)) (he _ _)
theorem Cx.V.ife {t x y : Expr} {c : Bool} {v v' : Value} {pos : Pos} (T : C.T m t (c = true)) (hx : c = true → C.V m x v) (hy : c = false → C.V m y v') : C.V m (.IfExp t x y pos) (if c = true then v else v') := fun s Q F h =>
 wpAny_IfExp (T s _ F (fun hp tk => (if_pos rfl).mpr (hx hp _ _ F fun tk' => by have := h tk'; rwa [if_pos hp] at this)) fun hp tk => by
  have e : c = false := by cases c with
   | true => exact absurd rfl hp
   | false => rfl
  exact hy e _ _ F fun tk' => by have := h tk'; rwa [if_neg hp] at this)
theorem Cx.I.ife {t x y : Expr} {c : Bool} {i j : Int} {pos : Pos} (T : C.T m t (c = true)) (hx : C.I m x i) (hy : C.I m y j) : C.I m (.IfExp t x y pos) (if c = true then i else j) := fun s Q F h =>
 wpAny_IfExp (T s _ F (fun hp tk => (if_pos rfl).mpr (hx _ _ F fun t tk' => by have := h t tk'; rwa [if_pos hp] at this)) fun hp tk => hy _ _ F fun t tk' => by have := h t tk'; rwa [if_neg hp] at this)
theorem Cx.Es.ife {t : Expr} {c : Bool} {x y : Str} {k k' : Nat} {p p' pos : Pos} {es : List Expr} {P : List Value → Prop} (T : C.T m t (c = true)) (R : C.Es m es P) : C.Es m (.IfExp t (.Constant (.str x) k p) (.Constant (.str y) k' p') pos :: es) (fun vs => ∃ t r, vs = .str (if c = true then x else y) t :: r ∧ P r) := fun pos s Q F h =>
 args_cons (wpAny_IfExp (T s _ F (fun hp tk => (if_pos rfl).mpr (Constant_str (R pos _ _ F fun vs tk' hv => h _ _ ⟨_, vs, by rw [if_pos hp], hv⟩))) fun hp tk => Constant_str (R pos _ _ F fun vs tk' hv => h _ _ ⟨_, vs, by rw [if_neg hp], hv⟩))) rfl
theorem Cx.Es.int {e : Expr} {es : List Expr} {i : Int} {P : List Value → Prop} (H : C.I m e i) (R : C.Es m es P) (he : ∀ env, starEach (e :: es) env = (false, eval e env) :: starEach es env := by intro _; rfl) : C.Es m (e :: es) (fun vs => ∃ t r, vs = .int i t :: r ∧ P r) := fun pos s Q F h =>
 args_cons (H s _ F fun t tk => R pos _ _ F fun vs tk' hv => h _ _ ⟨t, vs, rfl, hv⟩) (he _)
end
theorem cnt_seg {b : List Qu} {f : Qu → Bool} {j e : Nat} {c : Bool} (hje : j ≤ e) (heb : e ≤ b.length) (h : ∀ x q, j ≤ x → x < e → b[x]? = some q → f q = c) : (cnt b f j : Int) + (if c = true then 0 else (e : Int) - (j : Int)) = (cnt b f e : Int) := by
 cases c with
 | true => rw [if_pos rfl, cnt_allF b f hje heb h]; exact Int.add_zero _
 | false =>
  have := cnt_run b f (j := j) (k := e - j) (fun t ht => ⟨b[j + t], List.getElem?_eq_getElem (by lia), h (j + t) _ (by lia) (by lia) (List.getElem?_eq_getElem (by lia))⟩) (e - j) (Nat.le_refl _)
  rw [show j + (e - j) = e by lia] at this
  rw [if_neg nofun, this]; lia
theorem Cx.I.len {C : Cx} {m mg mb : Str → Option Value} {x : Str} {fl : Nat} {its : Array Value} {p1 p2 pos : Pos} (X : (KN C.w.params).In C.g) (T : TR mg mb C.g) (hm : m x = some (.ref fl)) (hfl : C.g.IsList fl its) (hz : (its.size : Int) < 2 ^ 63) (hx : C.lc x = true) (hg : C.gl (Str.ofString "len") = true)
  (hc : eval (.Call (.Name (Str.ofString "len") p1) [.Name x p2] [] pos) C.env = (do callWith pos (← eval (.Name (Str.ofString "len") p1) C.env) [] (backTo pos (starEach [.Name x p2] C.env)) (backToKw pos (keywordEach [] C.env))) := by rfl) :
  C.I m (.Call (.Name (Str.ofString "len") p1) [.Name x p2] [] pos) its.size := fun s Q F h => by
 refine Call_ (Cx.V.bltn X T (ns_len _) boot_len (by decide) hg _ _ F fun tk => ?_) hc
 exact callWith_builtin1 (args_cons (Cx.V.name hm hx _ _ F fun tk => args_nil (len_list (F.lst hfl) hz (h _ _))))
structure LM (fl D : Nat) (i j : Int) (ti tj : Tok) (m : Str → Option Value) : Prop where
 c : m (Str.ofString "codes") = some (.ref D)
 i : m (Str.ofString "i") = some (.int i ti)
 j : m (Str.ofString "j") = some (.int j tj)
 f : m (Str.ofString "flags") = some (.ref fl)
inductive LJ (b : List Qu) (f : Qu → Bool) (fl D : Nat) (n : Nat) (m : Str → Option Value) (N : List (Addr × Obj)) : Prop
 | mk (j : Nat) (ti tj : Tok) (cs : List Cde) (fm : LM fl D (cnt b f j) j ti tj m) (r : LR D [] (CA cs j) N) (hcs : ∀ rest, Codes b f j rest → Codes b f 0 (cs ++ rest)) (hj : j ≤ b.length) (hn : n = b.length - j)
inductive LK (b : List Qu) (f : Qu → Bool) (fl D : Nat) (j : Nat) (c : Bool) (ti tj : Tok) (N₀ : List (Addr × Obj)) (n : Nat) (m : Str → Option Value) (N : List (Addr × Obj)) : Prop
 | mk (e : Nat) (te : Tok) (fm : LM fl D (cnt b f j) j ti tj m) (he : m (Str.ofString "end") = some (.int (e : Int) te)) (hN : N = N₀) (h1 : j ≤ e) (h2 : e ≤ b.length) (h3 : ∀ x q, j ≤ x → x < e → b[x]? = some q → f q = c) (hn : n = b.length - e)
inductive LE (b : List Qu) (f : Qu → Bool) (fl D : Nat) (j : Nat) (c : Bool) (ti tj : Tok) (N₀ : List (Addr × Obj)) (m : Str → Option Value) (N : List (Addr × Obj)) : Prop
 | mk (e : Nat) (te : Tok) (fm : LM fl D (cnt b f j) j ti tj m) (he : m (Str.ofString "end") = some (.int (e : Int) te)) (hN : N = N₀) (h1 : j ≤ e) (h2 : e ≤ b.length) (h3 : ∀ x q, j ≤ x → x < e → b[x]? = some q → f q = c) (h4 : ∀ q, b[e]? = some q → f q ≠ c)
theorem lc (w : World) (b : List Qu) (f : Qu → Bool) (fl : Nat) (hb : b.length ≤ 1000) :
  CallSpec w 388 (.ref 311) [.ref fl] [] (fun g => g.IsList fl (b.map fun q => Value.bool (f q)).toArray)
   (GoP b f) := by
 try (unfold CallSpec prog; k_fill; fail)
 refine' spec_def (binds := [(Str.ofString "flags", .ref fl)]) ?ho ?hcd ?hroom ?hb ?hl ?_ ?hc ?h1 ?h2 ?h3
 case ho => k_is
 case hcd => k_is
 case hroom => decide
 case hb => intro s _; exact BindsTo.of_eq rfl
 case hl => exact locs rfl
 case hc => decide
 case h1 => exact rfl
 case h2 => exact rfl
 case h3 => exact rfl
 intro mg mb g L s₀ s Q X T hfl hL S ret
 refine Cx.seq ?_
 show wpAny (model prog w) _ (exec _ (envX _ _ _ _ _ _)) _ _ _
 have F : Fr g L s.heap _ := S.F
 have N : News g L s.heap _ := S.N
 k_steps
 unfold Hold
 rename_i D _ _ _ _ _ _ _ _ _ F1 N1
 have eL : (b.map fun q => Value.bool (f q)).toArray.size = b.length := by simp
 have eL2 : ((b.map fun q => Value.bool (f q)).toArray.size : Int) < 2 ^ 63 := by rw [eL]; lia
 refine Cx.hide (R := fun m => ∃ t t', LM fl D (cnt b f 0) ((0 : Nat) : Int) t t' m) ((S.put F1 N1).sub (N' := [(D, listOf ([] : List Value).toArray 0)]) fun p hp => .tail _ hp) ⟨_, _, ⟨rfl, by rw [cnt_zero]; rfl, rfl, rfl⟩⟩ fun m s S fm => ?_
 obtain ⟨t0, t0', fm⟩ := fm
 refine Cx.seq (Cx.while_ (LJ b f fl D) (LJ b f fl D 0) (n₀ := b.length) S (.mk 0 t0 t0' [] fm (.mk [] 0 [] rfl (fun p hp => nomatch hp) ⟨LAre.nil _, Nat.le_refl _⟩) (fun rest h => h) (Nat.zero_le _) rfl) (fun n m N s S hJ => ?_) fun m N s S hJ => ?_)
 ·obtain ⟨j, ti, tj, cs, fm, r, hcs, hj, rfl⟩ := hJ
  refine Cx.wtI S (.of (Cx.T.lt (Cx.I.name fm.j rfl) (Cx.I.len X T fm.f hfl eL2 rfl rfl))) (fun hlt s S => ?_) (fun hlt s S => ?_)
  ·rw [eL] at hlt
   have hjb : j < b.length := Int.ofNat_lt.mp hlt
   obtain ⟨q, hq⟩ : ∃ q, b[j]? = some q := ⟨_, List.getElem?_eq_getElem hjb⟩
   obtain ⟨c, hc⟩ : ∃ c, f q = c := ⟨_, rfl⟩
   refine Cx.seq (Cx.asgI S (Cx.I.name fm.j rfl) rfl fun te s S => ?_)
   refine Cx.seq (Cx.while_ (LK b f fl D j c ti tj N) (LE b f fl D j c ti tj N) (n₀ := b.length - j) S (.mk j te ⟨fm.c, fm.i, fm.j, fm.f⟩ rfl rfl (Nat.le_refl _) hj (fun x q h1 h2 => absurd h2 (Nat.not_lt.mpr h1)) rfl) (fun n2 m2 N2 s2 S2 hK => ?_) fun m2 N2 s2 S2 hK => ?_)
   ·obtain ⟨e, te, fm, he, rfl, h1, h2, h3, rfl⟩ := hK
    refine Cx.wtI S2 (Cx.Th.and (q := ∀ q, b[e]? = some q → f q = c) (.of (Cx.T.lt (Cx.I.name he rfl) (Cx.I.len X T fm.f hfl eL2 rfl rfl))) (fun hlt => ?_)) (fun hp s S => ?_) (fun hp s S => ?_)
    ·rw [eL] at hlt
     have heb : e < b.length := Int.ofNat_lt.mp hlt
     obtain ⟨q', hq'⟩ : ∃ q', b[e]? = some q' := ⟨_, List.getElem?_eq_getElem heb⟩
     exact Cx.Th.iff (.of (Cx.T.and1 (Cx.T.eqB (Cx.V.flag fm.f hfl hb (Cx.I.name he rfl) hq' rfl rfl) (Cx.V.flag fm.f hfl hb (Cx.I.name fm.j rfl) hq hc rfl)))) ⟨fun hp q hq => by rw [hq'] at hq; cases hq; exact hp, fun z => z _ hq'⟩
    ·have hlt := hp.1
     rw [eL] at hlt
     have heb : e < b.length := Int.ofNat_lt.mp hlt
     exact Cx.seq (Cx.aug S he Cx.I.const fun te s S => Cx.nil (.mk S (n' := b.length - (e + 1)) (by lia) (.mk (e + 1) te ⟨fm.c, fm.i, fm.j, fm.f⟩ rfl rfl (Nat.le_succ_of_le h1) heb (fun x q hx1 hx2 hx3 => (Nat.lt_succ_iff_lt_or_eq.mp hx2).elim (fun h => h3 x q hx1 h hx3) fun h => hp.2 q (h ▸ hx3)) rfl)))
    ·refine .mk S (.mk e te fm he rfl h1 h2 h3 fun q' hq' hc' => hp ⟨?_, fun q2 hq2 => by rw [hq'] at hq2; cases hq2; exact hc'⟩)
     rw [eL]; exact Int.ofNat_lt.mpr (List.getElem?_eq_some_iff.mp hq').1
   ·obtain ⟨e, te, fm, he, rfl, h1, h2, h3, h4⟩ := hK
    have hje : j < e := Nat.lt_of_le_of_ne h1 fun z => h4 q (z ▸ hq) hc
    have hcnt := cnt_seg h1 h2 h3
    refine Cx.seq (Cx.asgI S2 (Cx.I.ife (Cx.T.bool (Cx.V.flag fm.f hfl hb (Cx.I.name fm.j rfl) hq hc rfl)) Cx.I.const (Cx.I.sub (Cx.I.name he rfl) (Cx.I.name fm.j rfl))) rfl fun ts s S => ?_)
    generalize (if c = true then (0 : Int) else (e : Int) - (j : Int)) = st at hcnt S
    refine Cx.hide (R := fun m => LM fl D (cnt b f j) j ti tj m ∧ m (Str.ofString "end") = some (.int (e : Int) te) ∧ m (Str.ofString "step") = some (.int st ts)) S ⟨⟨fm.c, fm.i, fm.j, fm.f⟩, he, rfl⟩ fun m s S fm => ?_
    obtain ⟨fm, he, hst⟩ := fm
    rw [← List.append_nil N2] at S
    obtain ⟨oD, hoD⟩ := r.own
    refine Cx.seq (LR.app (T' := CA (cs ++ [(c, cnt b f j, cnt b f e, j, e)]) (j + 1)) (Off := fun _ => True) S r (fun _ _ => trivial) fm.c (.ife (Cx.T.bool (Cx.V.flag fm.f hfl hb (Cx.I.name fm.j rfl) hq hc rfl)) (.int (Cx.I.name fm.i rfl) (.int (Cx.I.add (Cx.I.name fm.i rfl) (Cx.I.name hst rfl)) (.int (Cx.I.name fm.j rfl) (.int (Cx.I.name he rfl) .nil))))) (fun ws h => ?_) (fun ex vs h => ?_) (fun p hp => nomatch hp) (fun _ _ => trivial) (fun ex vs D ws h hw => ?_) fun N' s r S => ?_)
    ·obtain ⟨_, _, rfl, _, _, rfl, _, _, rfl, _, _, rfl, _, _, rfl, rfl⟩ := h
     exact Nat.le_refl _
    ·have := h.2; lia
    ·obtain ⟨u1, _, rfl, u2, _, rfl, u3, _, rfl, u4, _, rfl, u5, _, rfl, rfl⟩ := hw
     exact ⟨(h.1.sub fun p hp => .tail _ hp).snoc (.head _) ⟨0, u1, u2, u3, u4, u5, by rw [hcnt]; cases c <;> rfl⟩, by rw [List.length_append]; exact Nat.succ_le_succ h.2⟩
    obtain ⟨N3, rfl, r3, _⟩ := r
    rw [List.append_nil] at S
    obtain ⟨o3, ho3⟩ := r3.own
    refine Cx.seq (Cx.asgT S (.cons (Cx.I.add (Cx.I.name fm.i rfl) (Cx.I.name hst rfl)) (.cons (Cx.I.name he rfl) .nil)) rfl rfl (Nat.le_of_ble_eq_true rfl) rfl fun D2 vs s hv hD S => ?_)
    rw [hcnt] at hv
    obtain ⟨r1, r2, rfl⟩ := ints2 hv
    refine Cx.nil (.mk S (n' := b.length - e) (by lia) (.mk e r1 r2 _ ⟨fm.c, rfl, rfl, fm.f⟩ ((r3.put (hD _ ho3) fun ex vs h => ⟨h.1.sub fun p hp => .tail _ hp, h.2⟩).imp fun ex vs h => ⟨h.1, Nat.le_trans h.2 hje⟩) (fun rest h => ?_) h2 rfl))
    rw [List.append_assoc]
    exact hcs _ (.seg hje h2 h3 h4 h)
  ·rw [eL] at hlt
   exact .mk S (.mk j ti tj cs fm r hcs hj (by lia))
 ·obtain ⟨j, ti, tj, cs, fm, ⟨vs, n, ex, rfl, hn, hT⟩, hcs, hj, hn0⟩ := hJ
  refine Cx.seq (Cx.retV S (Cx.V.name fm.c rfl) fun s S => ?_)
  have hdone : Codes b f 0 cs := by
   have := hcs [] ((show j = b.length by lia) ▸ .done)
   rwa [List.append_nil] at this
  refine ret _ _ _ _ ((D, listOf vs.toArray n) :: ex) S (fun p hp => ?_) ⟨D, n, vs, ex, cs, rfl, rfl, hT.1, hdone⟩
  rcases List.mem_cons.mp hp with h | h
  ·exact h ▸ List.mem_append_right _ (.head _)
  ·exact List.mem_append_left _ h
end Mine
end
section
namespace Mine
noncomputable abbrev gB (s : Shared) : Heap := hideAll s.heap hid
theorem hid_mem {b : Addr} : b ∈ hid ↔ b = 276 ∨ b = 292 ∨ b = 299 ∨ b = 313 := by simp [hid]
theorem ns_hid {h : Heap} {a : Addr} {m : Str → Option Value} (hn : h.Ns a m) (ha : a ∉ hid) : (hideAll h hid).Ns a m :=
 let ⟨o, es, ep, ho, r⟩ := hn; ⟨o, es, ep, hideAll_get _ ho ha, r⟩
theorem lookup_filter {q : Addr → Bool} : ∀ {K : Frag} {a : Addr} {o : Obj}, (K.filter fun p => q p.1).lookup a = some o → K.lookup a = some o ∧ q a = true
 | [], _, _, e => by cases e
 | (b, x) :: r, a, o, e => by
  rw [List.filter_cons] at e
  rw [List.lookup_cons]
  cases hb : a == b with
  | true =>
   have eb : a = b := eq_of_beq hb
   subst eb
   by_cases hq : q a = true
   ·rw [if_pos hq, List.lookup_cons, hb] at e
    exact ⟨e, hq⟩
   ·rw [if_neg hq] at e
    exact absurd (lookup_filter e).2 hq
  | false =>
   by_cases hq : q b = true
   ·rw [if_pos hq, List.lookup_cons, hb] at e
    exact lookup_filter e
   ·rw [if_neg hq] at e
    exact lookup_filter e
theorem gB_in {P : Params} {s : Shared} (x : (KK P).In s.heap) : (KN P).In (gB s) := by
 intro a o e
 rw [congrFun KN_eq P] at e
 obtain ⟨h1, h2⟩ := lookup_filter (q := fun a => !hid.contains a) e
 exact hideAll_get _ (x _ _ h1) fun hm => by simp [hm] at h2
theorem gB_top {s : Shared} {mg mb : Str → Option Value} (T : TR mg mb s.heap) : TR mg mb (gB s) := by
 refine ⟨ns_hid T.g (by decide), ns_hid T.b (by decide), ?_, T.builtins, T.free⟩
 obtain ⟨mc, h, r⟩ := T.nolimit
 exact ⟨mc, ns_hid h (by decide), r⟩
noncomputable def lawM (c : Nat → Int) (t : Nat) (y : Str) : Option Value := if y = Str.ofString "script" then some (.ref 317) else if y = Str.ofString "cells" then some (.ref 335) else if y = Str.ofString "total" then some (.int (tot c) (t + 40)) else if y = Str.ofString "handed" then some (.ref 355) else if y = Str.ofString "asked" then some (.ref 354) else none
theorem find_cons (h : Int) (n : Str) (t : Tok) (v : Value) (es : List DictEntry) (y : Str) : nsFind (⟨h, .str n t, v⟩ :: es).toArray y = if y = n then some v else nsFind es.toArray y := by
 unfold nsFind findBy
 rw [List.find?_toArray, List.find?_toArray, List.find?_cons]
 dsimp only
 by_cases z : y = n
 ·subst z
  rw [if_pos rfl, show (Value.str y t).isStr y = true from beq_self_eq_true y]; rfl
 ·rw [if_neg z, show (Value.str n t).isStr y = false from beq_false_of_ne fun e => z e.symm]
theorem find5 {n1 n2 n3 n4 n5 : Str} {h1 h2 h3 h4 h5 : Int} {t1 t2 t3 t4 t5 : Tok} {v1 v2 v3 v4 v5 : Value} (y : Str) :
  nsFind #[⟨h1, .str n1 t1, v1⟩, ⟨h2, .str n2 t2, v2⟩, ⟨h3, .str n3 t3, v3⟩, ⟨h4, .str n4 t4, v4⟩, ⟨h5, .str n5 t5, v5⟩] y = if y = n1 then some v1 else if y = n2 then some v2 else if y = n3 then some v3 else if y = n4 then some v4 else if y = n5 then some v5 else none := by
 rw [find_cons, find_cons, find_cons, find_cons, find_cons]; rfl
theorem mid_fr {w : World} {s : Shared} {h : Heap} {c : Nat → Int} {t : Nat} {h1 h2 : Int} {k1 k2 : Nat} (M : Mid w s h c t h1 h2 k1 k2) (hs : s.heap.objs.size = 318) : Fr (gB s) 318 h (lawM c t) := by
 refine ⟨⟨_, _, _, M.obj (318, _) (List.mem_append_right _ (.head _)), rfl, ?_, ?_⟩, fun b o e => ?_, ?_⟩
 ·intro e he
  simp only [List.mem_toArray, List.mem_cons, List.not_mem_nil, or_false] at he
  rcases he with rfl | rfl | rfl | rfl | rfl <;> exact ⟨_, _, rfl⟩
 ·intro y
  exact find5 y
 ·have hn : b ∉ hid := fun hm => by rw [hideAll_none _ hm] at e; cases e
  exact M.keep b o (of_hideAll _ e) (fun z => hn (hid_mem.mpr (.inl z))) fun z => hn (hid_mem.mpr (.inr (.inl z)))
 ·rw [hideAll_size, hs]; exact Nat.le_refl _
theorem addr_gt (P : Params) (c : Nat → Int) (t : Nat) (h1 h2 : Int) (k1 k2 : Nat) : ((KL P c t ++ (ML P c t h1 h2 k1 k2).tail).map (·.1)).all (fun a => Nat.ble 319 a) = true := by kernel_rfl
theorem mid_news {w : World} {s : Shared} {h : Heap} {c : Nat → Int} {t : Nat} {h1 h2 : Int} {k1 k2 : Nat} (M : Mid w s h c t h1 h2 k1 k2) (hs : s.heap.objs.size = 318) : News (gB s) 318 h (KL w.params c t ++ (ML w.params c t h1 h2 k1 k2).tail) := by
 intro p hp
 have hm : p ∈ KL w.params c t ++ ML w.params c t h1 h2 k1 k2 := by
  rcases List.mem_append.mp hp with q | q
  ·exact List.mem_append_left _ q
  ·exact List.mem_append_right _ (List.mem_of_mem_tail q)
 have hge : @LE.le Nat _ 319 p.1 := Nat.le_of_ble_eq_true (List.all_eq_true.mp (addr_gt w.params c t h1 h2 k1 k2) p.1 (List.mem_map.mpr ⟨p, hp, rfl⟩))
 refine ⟨M.obj p hm, Nat.ne_of_gt hge, ?_⟩
 cases e : (gB s).get? p.1 with
 | none => rfl
 | some o =>
  have z : @LT.lt Nat _ p.1 318 := hs ▸ Heap.lt_size (of_hideAll _ e)
  exact absurd z (Nat.not_lt.mpr (Nat.le_of_succ_le hge))
end Mine
end
section
namespace Mine
structure LawT (P : Params) where
 a1 : Stmt
 a2 : Stmt
 a3 : Stmt
 a4 : Stmt
 a5 : Stmt
 a6 : Stmt
 a7 : Stmt
 a8 : Stmt
 a9 : Stmt
 a10 : Stmt
 a11 : Stmt
 k : ScopeKind
 n : List (Str × NameKind)
 mr : List (Str × PySem.Const)
 h : EqT ((lawF P).2.drop 6) [a1, a2, a3, a4, a5, a6, a7, a8, a9, a10, a11]
 hs : EqT (lawF P).1.scope { kind := k, names := n, isGenerator := false, isCoroutine := false, more := mr }
noncomputable def lawT (P : Params) : LawT P := ⟨_, _, _, _, _, _, _, _, _, _, _, _, _, _, by with_unfolding_all exact EqT.refl, by with_unfolding_all exact EqT.refl⟩
theorem lawE_eq (P : Params) : lawE P = envX (Str.ofString "law") (lawF P).1.scope 318 316 (.ref 315) [(Str.ofString "refused", 324), (Str.ofString "limits", 323), (Str.ofString "keys", 322), (Str.ofString "made", 321), (Str.ofString "size", 320), (Str.ofString "values", 319)] := by
 unfold lawE envX
 rw [show (Str.ofString "law.<locals>.") = Str.ofString "law" ++ ".<locals>." by kernel_rfl]
 rfl
noncomputable abbrev AL (P : Params) : Around := callerA.deeper (lawE P)
section
variable {w : World} {A : Around} {s : Shared} {h₀ : Heap} {L : Addr} {m : Str → Option Value} {env : Env} {elt ct : Expr} {x : Str} {scope : Scope} {cl : List (Str × Addr)} {S : List (Addr × Obj) → Prop} {P : Nat → Value → Prop} {Fin : List Value → List (Addr × Obj) → Prop}
theorem comp_inv {n : Nat} (J : Nat → List Value → List (Addr × Obj) → Prop)
  (turn : ∀ i ys news v I oI C oC D m₂ h tk (E' : Value → Shared → Prop), i < n → J i ys news → P i v → LCg.NsObj oC m₂ → m₂ x = some v → Fr h₀ L h m → News h₀ L h ((I, oI) :: (C, oC) :: (D, LCg.lst ys) :: news) → LCg.Off3 I C D news → ((@Ne Nat I C) ∧ (@Ne Nat I D) ∧ (@Ne Nat C D)) →
   wpAny (model prog w) A (eval elt (compEnvC scope cl C env)) (LCg.CompEnd h₀ L m { s with heap := h, toks := tk } I oI C oC D (LCg.lst ys) S (fun y news' => J (i + 1) (ys ++ [y]) news')) E' { s with heap := h, toks := tk })
  (fin : ∀ ys news, J n ys news → Fin ys news) : ∀ k i ys news, i + k = n → J i ys news → LCg.CompRest prog w A h₀ L m env elt x scope cl s S P Fin k i ys news
 | 0, i, ys, news, e, j => by
  have : i = n := by lia
  subst this
  exact fin ys news j
 | k + 1, i, ys, news, e, j => by
  intro v I oI C oC D m₂ h tk E' hp hn hx F N o1 o2
  exact wpAny_mono (turn i ys news v I oI C oC D m₂ h tk E' (by lia) j hp hn hx F N o1 o2) (fun y s₂ q => by
   obtain ⟨h', tk', news', e1, F', N', o', hS, r⟩ := q
   exact ⟨h', tk', news', e1, F', N', o', hS, comp_inv J turn fin k (i + 1) (ys ++ [y]) news' (by lia) r⟩) fun _ _ z => z
theorem comp_invT {n : Nat} (J : Nat → List Value → List (Addr × Obj) → Prop)
  (turn : ∀ i ys news v I oI C oC D m₂ h tk (E' : Value → Shared → Prop), i < n → J i ys news → P i v → LCg.NsObj oC m₂ → m₂ x = some v → Fr h₀ L h m → News h₀ L h ((I, oI) :: (C, oC) :: (D, LCg.lst ys) :: news) → LCg.Off3 I C D news → ((@Ne Nat I C) ∧ (@Ne Nat I D) ∧ (@Ne Nat C D)) →
   wpAny (model prog w) A (isTrue ct (compEnvC scope cl C env) (eval ct (compEnvC scope cl C env))) (fun ok s' => if ok = true then
    wpAny (model prog w) A (eval elt (compEnvC scope cl C env)) (LCg.CompEnd h₀ L m { s with heap := h, toks := tk } I oI C oC D (LCg.lst ys) S (fun y news' => J (i + 1) (ys ++ [y]) news')) E' s'
    else LCg.CompEnd h₀ L m { s with heap := h, toks := tk } I oI C oC D (LCg.lst ys) S (fun _ news' => J (i + 1) ys news') Value.none s') E' { s with heap := h, toks := tk })
  (fin : ∀ ys news, J n ys news → Fin ys news) : ∀ k i ys news, i + k = n → J i ys news → LCt.CompRestT prog w A h₀ L m env ct elt x scope cl s S P Fin k i ys news
 | 0, i, ys, news, e, j => by
  have : i = n := by lia
  subst this
  exact fin ys news j
 | k + 1, i, ys, news, e, j => by
  intro v I oI C oC D m₂ h tk E' hp hn hx F N o1 o2
  refine wpAny_mono (turn i ys news v I oI C oC D m₂ h tk E' (by lia) j hp hn hx F N o1 o2) (fun ok s₂ q => ?_) fun _ _ z => z
  cases ok with
  | true =>
   simp only [if_true] at q ⊢
   exact wpAny_mono q (fun y s₃ q => by
    obtain ⟨h', tk', news', e1, F', N', o', hS, r⟩ := q
    exact ⟨h', tk', news', e1, F', N', o', hS, comp_invT J turn fin k (i + 1) (ys ++ [y]) news' (by lia) r⟩) fun _ _ z => z
  | false =>
   simp only [Bool.false_eq_true, if_false] at q ⊢
   obtain ⟨h', tk', news', e1, F', N', o', hS, r⟩ := q
   exact ⟨h', tk', news', e1, F', N', o', hS, comp_invT J turn fin k (i + 1) ys news' (by lia) r⟩
end
section
variable {M : Model} {A : Around} {E : Value → Shared → Prop} {s : Shared} {K : Frag} {h₀ : Heap} {L C : Addr} {m mg mb : Str → Option Value} {scope : Scope} {cl : List (Str × Addr)} {env : Env} {p : Program} {loose : List Str} {x : Str} {pos : Pos} {v : Value} {Q : Value → Shared → Prop}
theorem cn_K (F : Fr h₀ L s.heap m) (X : K.In h₀) (T : TopRead p loose mg mb h₀) (e : nsIn K mainGlobals x = some (some v)) (h : Q v s) (hg : env.globals = mainGlobals := by rfl)
  (hk : (compEnvC scope cl C env).scope.kind = .function := by rfl) (hx : (compEnvC scope cl C env).kindOf x = some .globalImplicit := by rfl) (hd : (x == ("__debug__" : Str)) = false := by decide) :
  wpAny M A (eval (.Name x pos) (compEnvC scope cl C env)) Q E s :=
 Name_function_global hk hx (loadGlobal_global (env := compEnvC scope cl C env) (show s.heap.Ns env.globals mg from hg ▸ (T.keeps F.keep).g) (mg_of X T.g e) h) hd
theorem cn_B (F : Fr h₀ L s.heap m) (X : K.In h₀) (T : TopRead p loose mg mb h₀) (e : nsIn K mainGlobals x = some none) (hv : bootBuiltins x = some v) (hn : x ≠ "__name__") (h : Q v s) (hg : env.globals = mainGlobals := by rfl) (hb : env.builtins = builtinsNs := by rfl)
  (hk : (compEnvC scope cl C env).scope.kind = .function := by rfl) (hx : (compEnvC scope cl C env).kindOf x = some .globalImplicit := by rfl) (hd : (x == ("__debug__" : Str)) = false := by decide) :
  wpAny M A (eval (.Name x pos) (compEnvC scope cl C env)) Q E s :=
 Name_function_global hk hx (loadGlobal_builtin (env := compEnvC scope cl C env) (show s.heap.Ns env.globals mg from hg ▸ (T.keeps F.keep).g) (mg_none_of X T.g e) (show s.heap.Ns env.builtins mb from hb ▸ (T.keeps F.keep).b) ((T.builtins x hn).trans hv) h) hd
structure HoldX (P : Prop) : Prop where
 h : P
end
section
variable {prog : Program} {w : World} {A : Around} {E : Value → Shared → Prop} {s : Shared} {h₀ h : Heap} {L l : Addr} {news : List (Addr × Obj)} {vs : List Value} {ns : List Int} {value slice : PySem.Expr} {k x : Int} {u : Tok} {Q : Value → Shared → Prop}
theorem in_list {n : Nat} (N : News h₀ L h news) (hm : (l, listOf vs.toArray n) ∈ news) : h.IsList l vs.toArray := ⟨_, (N _ hm).1, rfl, _, rfl⟩
theorem ints_at {i : Nat} (hi : IntsAre vs ns) (hx : ns[i]? = some x) : ∃ t, vs[i]? = some (.int x t) := by
 have hl := hi.length
 have h1 := (List.getElem?_eq_some_iff.mp hx).1
 have hv : vs[i]? = some vs[i] := List.getElem?_eq_getElem (by lia)
 obtain ⟨k, t, e, hk⟩ := IntsAre.at hi i _ hv
 rw [hx] at hk; cases hk
 exact ⟨t, by rw [hv, e]⟩
theorem item_I (hl : s.heap.IsList l vs.toArray) (hi : IntsAre vs ns) (h0 : 0 ≤ k) (hfit : k < 2 ^ 63) (hx : ns[k.toNat]? = some x) (h : ∀ t, Q (.int x t) s)
  (hs : subscripted slice false (.ref l) (.int k u) = operate [.ref l, .int k u] (getItem (.ref l) (.int k u)) := by with_unfolding_all rfl) :
  wpAny (model prog w) A (subscriptTail value slice (.ref l) (.int k u)) Q E s := by
 obtain ⟨t, ht⟩ := ints_at hi hx
 exact tail_any hl.typeIs slot_list_getitem.lookup (wpAny_getItem_list hl h0 hfit (by simpa using ht) (h t)) hs
theorem item_V {x : Value} (hl : s.heap.IsList l vs.toArray) (h0 : 0 ≤ k) (hfit : k < 2 ^ 63) (hx : vs[k.toNat]? = some x) (h : Q x s)
  (hs : subscripted slice false (.ref l) (.int k u) = operate [.ref l, .int k u] (getItem (.ref l) (.int k u)) := by with_unfolding_all rfl) :
  wpAny (model prog w) A (subscriptTail value slice (.ref l) (.int k u)) Q E s :=
 tail_any hl.typeIs slot_list_getitem.lookup (wpAny_getItem_list hl h0 hfit (by simpa using hx) h) hs
theorem item_negI (hl : s.heap.IsList l vs.toArray) (hi : IntsAre vs ns) (h0 : k < 0) (h1 : -(ns.length : Int) ≤ k) (hfit : -(2 ^ 63) ≤ k) (hx : ns[(k + ns.length).toNat]? = some x) (h : ∀ t, Q (.int x t) s)
  (hs : subscripted slice false (.ref l) (.int k u) = operate [.ref l, .int k u] (getItem (.ref l) (.int k u)) := by with_unfolding_all rfl) :
  wpAny (model prog w) A (subscriptTail value slice (.ref l) (.int k u)) Q E s := by
 have e := hi.length
 obtain ⟨t, ht⟩ := ints_at hi hx
 exact tail_any hl.typeIs slot_list_getitem.lookup (wpAny_getItem_list_neg hl h0 (by simpa [e] using h1) hfit (by simpa [e] using ht) (h t)) hs
end
noncomputable def Kept (xs : List Addr) (all all' : List (Addr × Obj)) : Prop := ∀ p ∈ all, p.1 ∉ xs → p ∈ all'
theorem Kept.trans {xs ys : List Addr} {a b c : List (Addr × Obj)} (h : Kept xs a b) (k : Kept ys b c) : Kept (xs ++ ys) a c := fun p hp hn => k p (h p hp fun q => hn (List.mem_append_left _ q)) fun q => hn (List.mem_append_right _ q)
theorem Kept.weak {xs ys : List Addr} {a b : List (Addr × Obj)} (h : Kept xs a b) (k : ∀ x ∈ xs, x ∈ ys) : Kept ys a b := fun p hp hn => h p hp fun q => hn (k _ q)
noncomputable def less (b : Addr) (all : List (Addr × Obj)) : List (Addr × Obj) := all.filter fun p => !Nat.beq p.1 b
theorem less_ne {b : Addr} {all : List (Addr × Obj)} : ∀ p ∈ less b all, p.1 ≠ b := fun p hp e => by
 have := (List.mem_filter.mp hp).2
 rw [e] at this
 simp at this
theorem less_sub {b : Addr} {all : List (Addr × Obj)} : ∀ p ∈ less b all, p ∈ all := fun _ hp => (List.mem_filter.mp hp).1
theorem mem_less {b : Addr} {all : List (Addr × Obj)} {p : Addr × Obj} (hp : p ∈ all) (hn : p.1 ≠ b) : p ∈ less b all := List.mem_filter.mpr ⟨hp, by
 cases e : Nat.beq p.1 b with
 | false => rfl
 | true => exact absurd (Nat.eq_of_beq_eq_true e) hn⟩
theorem nw_cons {g h : Heap} {L : Addr} {p : Addr × Obj} {r : List (Addr × Obj)} {all : List (Addr × Obj)} (N : News g L h all) (hp : p ∈ all) (hr : News g L h r) : News g L h (p :: r) := fun q hq => by
 rcases List.mem_cons.mp hq with rfl | hq
 ·exact N _ hp
 ·exact hr _ hq
theorem nw_less {g h : Heap} {L : Addr} {all : List (Addr × Obj)} (N : News g L h all) (b : Addr) : News g L h (less b all) := fun q hq => N q (less_sub q hq)
theorem off1_mem {D : Addr} : ∀ {l : List (Addr × Obj)}, LCg.Off1 D l → ∀ p ∈ l, p.1 ≠ D
 | [], _, _, h => nomatch h
 | _ :: _, x, p, h => by
  rcases List.mem_cons.mp h with rfl | h
  ·exact x.1
  ·exact off1_mem x.2 p h
theorem less_off {b D : Addr} {all : List (Addr × Obj)} (hb : b ≠ D) (h : ∀ p ∈ less b all, p.1 ≠ D) : ∀ p ∈ all, p.1 ≠ D := fun p hp => by
 by_cases e : p.1 = b
 ·rw [e]; exact hb
 ·exact h p (mem_less hp e)
end Mine
end
section
theorem Mine.wlSt7r : True := by
 k_with_none
 trivial
namespace Mine
theorem wlSt70 : True := by
 k_with_none
 k_with "CompSrc" => (k_here; (refine' HoldX.h ?_))
 k_with "CompEnd" => (k_here; (refine' HoldX.h ?_))
 k_with "eval Name" => (k_here; (with_reducible show wpAny _ _ (eval (Expr.Name _ _) (compEnvC _ _ _ _)) _ _ _); k_dflt (first
  | (refine' lcf_cell ?N ?c ?m ?d ?_ ?a ?b; (case a => rfl); (case b => rfl); (case N => k_asm); (case c => rfl); (case m => k_mem); (case d => first | rfl | assumption); k_whole)
  | refine cn_K (by assumption) (by assumption) (by assumption) (by k_is) ?_
  | refine cn_B (by assumption) (by assumption) (by assumption) (by k_is) (by boot_by_name) (by decide) ?_))
 k_with "subscriptTail Name Slice ref ref" => (k_here; k_dflt (refine' kmk_slice_ints ?F ?N ?l ?p ?q ?i ?m ?c ?_ ?s ?t ?z; (case F => k_asm); (case N => k_asm); (case l => exact in_list (by assumption) (by k_mem)); (case p => kmk_part); (case q => kmk_part); (case i => assumption); (case m => exact kmk_upto (by assumption) (by lia)); (case c => exact rfl); (case s => with_unfolding_all rfl); (case t => kmk_pure); (case z => exact Nat.le_of_ble_eq_true rfl)); intro _ _ _ _ _ _ _ _ _)
 k_with "call builtin:sorted" => (k_here; (with_reducible show wpAny _ _ (call (Value.builtin _) [Value.ref _]) _ _ _); (with_unfolding_all refine' kso_sorted ?k1 ?k2 ?k3 ?k4 ?k5 ?_; (case k1 => k_asm); (case k2 => k_asm); (case k3 => exact in_list (by assumption) (by k_mem)); (case k4 => assumption); (case k5 => lia); k_whole); intro _ _ _ _ _ _ _ _ _ _ _ _ _)
 trivial
noncomputable def JI (N0 : List (Addr × Obj)) (f : Nat → Int) (i : Nat) (ys : List Value) (news : List (Addr × Obj)) : Prop := news = N0 ∧ IntsAre ys ((List.range i).map f)
theorem JI.snoc {N0 : List (Addr × Obj)} {f : Nat → Int} {i : Nat} {ys : List Value} {t : Tok} {x : Int} (hy : IntsAre ys ((List.range i).map f)) (e : x = f i) : JI N0 f (i + 1) (ys ++ [.int x t]) N0 := by
 refine ⟨rfl, ?_⟩
 rw [List.range_succ, List.map_append, e]
 exact ints_append hy (.cons _ _ .nil)
theorem st7 (w : World) (s : Shared) (g : Heap) (mg mb m : Str → Option Value) (c : Nat → Int) (t z : Nat) (tz : Tok) (ns : List Int) (lim : Nat → Int) (all : List (Addr × Obj)) (Q : Flow → Shared → Prop) (E : Value → Shared → Prop) (h1 : 1 ≤ z) (h3 : z ≤ 3) (hns : IntsAre (valsOf c t) ns) (hlen : ns.length = 10)
  (hl1 : ∀ (i : Nat) (n2 : List Int), i < 10 → z ≤ i → n2.Perm (ns.take i) → n2.Pairwise (· ≤ ·) → n2.getD (i - z) 0 = lim i) (hl2 : ∀ i, i < z → lim i = -1) (F : Fr g 318 s.heap m) (N : News g 318 s.heap all)
  (m1 : (319, cellO (some (.ref 346))) ∈ all) (m2 : (320, cellO (some (.int (z : Int) tz))) ∈ all) (m3 : (346, listOf (valsOf c t).toArray 10) ∈ all) (m4 : (323, cellO none) ∈ all)
  (ret : ∀ D ys o h tk all', Fr g 318 h m → News g 318 h all' → Kept [323] all all' → (D, LCg.lst ys) ∈ all' → (323, o) ∈ all' → o.data = .cell (some (.ref D)) → IntsAre ys ((List.range 10).map lim) → (∀ p ∈ all, p.1 ≠ D) → Q .next { s with heap := h, toks := tk }) :
  (KN w.params).In g → TR mg mb g → wpAny (model PySem.Challenge.rw_ik0098_01.row.prog w) (AL w.params) (exec (lawT w.params).a1 (lawE w.params)) Q E s := by
 rw [lawE_eq, (lawT w.params).hs.eq]
 dsimp only [lawT]
 k_fill
 intro X T
 have N1 : News g 318 s.heap ((323, cellO none) :: (319, cellO (some (.ref 346))) :: (320, cellO (some (.int (z : Int) tz))) :: (346, listOf (valsOf c t).toArray 10) :: less 323 all) := nw_cons N m4 (nw_cons N m1 (nw_cons N m2 (nw_cons N m3 (nw_less N 323))))
 clear N
 k_steps
 refine ⟨?_⟩
 rename_i hr F' N' hk
 refine LCg.CompSrc.range (n := 10) (news := (323, cellO none) :: (319, cellO (some (.ref 346))) :: (320, cellO (some (.int (z : Int) tz))) :: (346, listOf (valsOf c t).toArray 10) :: less 323 all) rfl F' N' hr (by rfl) (by rfl) (Nat.le_of_ble_eq_true rfl) (fun g' => ?_)
 refine comp_inv (n := 10) (JI ((323, cellO none) :: (319, cellO (some (.ref 346))) :: (320, cellO (some (.int (z : Int) tz))) :: (346, listOf (valsOf c t).toArray 10) :: less 323 all) lim) ?turn ?fin 10 0 [] _ rfl ⟨rfl, .nil⟩
 case turn =>
  intro i ys news v I oI C oC D m₂ h tk E' hi hj hP hoC hx F1 N1 off ne
  obtain ⟨ti, rfl⟩ := hP
  obtain ⟨rfl, hys⟩ := hj
  clear F' N' hk hr
  dsimp only
  k_steps
  ·refine ⟨?_⟩
   rename_i hz D1 ws H1 F2 N2 l1 hI1 hC1 hL1 D2 v2 n2 c2 H2 F3 N3 l2 hI2 he2 hp2 ho2 hb2 t2
   have e1 : (0 + (i : Int)).toNat = i := by lia
   rw [e1] at hp2
   have e3 : n2.length = i := by rw [hp2.length_eq, List.length_take]; lia
   have e2 : (-(z : Int) + (n2.length : Int)).toNat = i - z := by lia
   refine LCg.CompEnd.intro F3 N3 _ (fun p hp => .tail _ (.tail _ hp)) off trivial (JI.snoc hys ?_)
   rw [e2]; exact hl1 i n2 hi (by lia) hp2 ho2
  ·refine ⟨?_⟩
   rename_i hz
   exact LCg.CompEnd.intro F1 N1 _ (fun p hp => hp) off trivial (JI.snoc hys (hl2 i (by lia)).symm)
 case fin =>
  rintro ys news ⟨rfl, hys⟩
  unfold LCg.FinE
  intro D h tk F2 N2 o2
  refine storeX_C F2 N2 rfl (UpdF.tail (Ne.symm o2.1) (UpdF.head (by
   intro p hp
   rcases List.mem_cons.mp hp with rfl | hp
   ·show (319 : Nat) ≠ 323; decide
   rcases List.mem_cons.mp hp with rfl | hp
   ·show (320 : Nat) ≠ 323; decide
   rcases List.mem_cons.mp hp with rfl | hp
   ·show (346 : Nat) ≠ 323; decide
   exact less_ne p hp))) rfl (fun h' o' F3 N3 hd' => ?_)
  refine ret D ys o' _ _ _ F3 N3 (fun p hp hn => ?_) (.head _) (.tail _ (.head _)) hd' hys (less_off o2.1 fun p hp => off1_mem o2 p (.tail _ (.tail _ (.tail _ (.tail _ hp)))))
  exact .tail _ (.tail _ (.tail _ (.tail _ (.tail _ (mem_less hp (by simpa using hn))))))
end Mine
end
section
theorem Mine.wlSt8r : True := by
 k_with_none
 trivial
namespace Mine
theorem wlSt80 : True := by
 k_with_none
 k_with "CompSrcT" => (k_here; (refine' HoldX.h ?_))
 k_with "CompEnd" => (k_here; (refine' HoldX.h ?_))
 k_with "eval Name" => (k_here; (with_reducible show wpAny _ _ (eval (Expr.Name _ _) (compEnvC _ _ _ _)) _ _ _); k_dflt (first
  | (refine' lcf_cell ?N ?c ?m ?d ?_ ?a ?b; (case a => rfl); (case b => rfl); (case N => k_asm); (case c => rfl); (case m => k_mem); (case d => first | rfl | assumption); k_whole)
  | refine cn_K (by assumption) (by assumption) (by assumption) (by k_is) ?_
  | refine cn_B (by assumption) (by assumption) (by assumption) (by k_is) (by boot_by_name) (by decide) ?_))
 k_with "subscriptTail Name Name ref int" => (k_here; k_dflt (refine' item_I ?hl ?hi ?h0 ?hf ?hx ?_ ?hs; (case hl => exact in_list (by assumption) (by k_mem)); (case hi => assumption); (case h0 => lia); (case hf => lia); (case hx => assumption); (case hs => with_unfolding_all rfl); k_whole); intro _)
 trivial
noncomputable def JF (N0 : List (Addr × Obj)) (p : Nat → Bool) (i : Nat) (ys : List Value) (news : List (Addr × Obj)) : Prop := news = N0 ∧ IntsAre ys (((List.range i).filter p).map fun (n : Nat) => (n : Int))
theorem JF.snoc {N0 : List (Addr × Obj)} {p : Nat → Bool} {i : Nat} {ys : List Value} {t : Tok} {x : Int} (hy : IntsAre ys (((List.range i).filter p).map fun (n : Nat) => (n : Int))) (hp : p i = true) (e : x = (i : Int)) : JF N0 p (i + 1) (ys ++ [.int x t]) N0 := by
 refine ⟨rfl, ?_⟩
 rw [List.range_succ, List.filter_append, List.map_append, e]
 refine ints_append hy ?_
 rw [List.filter_cons, if_pos hp]
 exact .cons _ _ .nil
theorem JF.skip {N0 : List (Addr × Obj)} {p : Nat → Bool} {i : Nat} {ys : List Value} (hy : IntsAre ys (((List.range i).filter p).map fun (n : Nat) => (n : Int))) (hp : p i = false) : JF N0 p (i + 1) ys N0 := by
 refine ⟨rfl, ?_⟩
 rw [List.range_succ, List.filter_append, List.filter_cons, hp]
 simpa using hy
theorem st8 (w : World) (s : Shared) (g : Heap) (mg mb m : Str → Option Value) (c : Nat → Int) (t : Nat) (D7 : Addr) (o7 : Obj) (ys7 : List Value) (ns : List Int) (v lim : Nat → Int) (all : List (Addr × Obj)) (Q : Flow → Shared → Prop) (E : Value → Shared → Prop) (hns : IntsAre (valsOf c t) ns) (hv : ∀ i, i < 10 → ns[i]? = some (v i))
  (hy7 : IntsAre ys7 ((List.range 10).map lim)) (F : Fr g 318 s.heap m) (N : News g 318 s.heap all)
  (m1 : (319, cellO (some (.ref 346))) ∈ all) (m2 : (323, o7) ∈ all) (d7 : o7.data = .cell (some (.ref D7))) (m3 : (346, listOf (valsOf c t).toArray 10) ∈ all) (m4 : (D7, listOf ys7.toArray ys7.length) ∈ all) (hD7 : D7 ≠ 324) (m5 : (324, cellO none) ∈ all)
  (ret : ∀ D ys o h tk all', Fr g 318 h m → News g 318 h all' → Kept [324] all all' → (D, LCg.lst ys) ∈ all' → (324, o) ∈ all' → o.data = .cell (some (.ref D)) → IntsAre ys (((List.range 10).filter fun i => decide (v i ≤ lim i)).map fun (n : Nat) => (n : Int)) → (∀ p ∈ all, p.1 ≠ D) → Q .next { s with heap := h, toks := tk }) :
  (KN w.params).In g → TR mg mb g → wpAny (model PySem.Challenge.rw_ik0098_01.row.prog w) (AL w.params) (exec (lawT w.params).a2 (lawE w.params)) Q E s := by
 rw [lawE_eq, (lawT w.params).hs.eq]
 dsimp only [lawT]
 k_fill
 intro X T
 have N1 : News g 318 s.heap ((324, cellO none) :: (319, cellO (some (.ref 346))) :: (323, o7) :: (346, listOf (valsOf c t).toArray 10) :: (D7, listOf ys7.toArray ys7.length) :: less 324 all) := nw_cons N m5 (nw_cons N m1 (nw_cons N m2 (nw_cons N m3 (nw_cons N m4 (nw_less N 324)))))
 clear N
 k_steps
 refine ⟨?_⟩
 rename_i hr F' N' hk
 refine LCt.CompSrcT.range (n := 10) (news := (324, cellO none) :: (319, cellO (some (.ref 346))) :: (323, o7) :: (346, listOf (valsOf c t).toArray 10) :: (D7, listOf ys7.toArray ys7.length) :: less 324 all) rfl F' N' hr (by rfl) (by rfl) (Nat.le_of_ble_eq_true rfl) (fun g' => ?_)
 refine comp_invT (n := 10) (JF ((324, cellO none) :: (319, cellO (some (.ref 346))) :: (323, o7) :: (346, listOf (valsOf c t).toArray 10) :: (D7, listOf ys7.toArray ys7.length) :: less 324 all) fun i => decide (v i ≤ lim i)) ?turn ?fin 10 0 [] _ rfl ⟨rfl, .nil⟩
 case turn =>
  intro i ys news v' I oI C oC D m₂ h tk E' hi hj hP hoC hx F1 N1 off ne
  obtain ⟨ti, rfl⟩ := hP
  obtain ⟨rfl, hys⟩ := hj
  clear F' N' hk hr
  have e1 : (0 + (i : Int)).toNat = i := by lia
  have x1 : ns[(0 + (i : Int)).toNat]? = some (v i) := by rw [e1]; exact hv i hi
  have x2 : ((List.range 10).map lim)[(0 + (i : Int)).toNat]? = some (lim i) := by rw [e1, List.getElem?_map, List.getElem?_range hi]; rfl
  dsimp only
  k_steps
  ·refine ⟨?_⟩
   exact LCg.CompEnd.intro F1 N1 _ (fun p hp => hp) off trivial (JF.snoc hys (decide_eq_true (by lia)) (by lia))
  ·refine ⟨?_⟩
   exact LCg.CompEnd.intro F1 N1 _ (fun p hp => hp) off trivial (JF.skip hys (decide_eq_false (by lia)))
 case fin =>
  rintro ys news ⟨rfl, hys⟩
  unfold LCg.FinE
  intro D h tk F2 N2 o2
  refine storeX_C F2 N2 rfl (UpdF.tail (Ne.symm o2.1) (UpdF.head (by
   intro p hp
   rcases List.mem_cons.mp hp with rfl | hp
   ·show (319 : Nat) ≠ 324; decide
   rcases List.mem_cons.mp hp with rfl | hp
   ·show (323 : Nat) ≠ 324; decide
   rcases List.mem_cons.mp hp with rfl | hp
   ·show (346 : Nat) ≠ 324; decide
   rcases List.mem_cons.mp hp with rfl | hp
   ·exact hD7
   exact less_ne p hp))) rfl (fun h' o' F3 N3 hd' => ?_)
  refine ret D ys o' _ _ _ F3 N3 (fun p hp hn => ?_) (.head _) (.tail _ (.head _)) hd' hys (less_off o2.1 fun p hp => off1_mem o2 p (.tail _ (.tail _ (.tail _ (.tail _ (.tail _ hp))))))
  exact .tail _ (.tail _ (.tail _ (.tail _ (.tail _ (.tail _ (mem_less hp (by simpa using hn)))))))
end Mine
end
section
theorem Mine.wlSt9r : True := by
 k_with_none
 trivial
namespace Mine
theorem wlSt90 : True := by
 k_with_none
 k_with "CompSrcT" => (k_here; (refine' HoldX.h ?_))
 k_with "CompEnd" => (k_here; (refine' HoldX.h ?_))
 k_with "call ref" => (k_here; (refine' HoldX.h ?_))
 k_with "eval Name" => (k_here; (with_reducible show wpAny _ _ (eval (Expr.Name _ _) (compEnvC _ _ _ _)) _ _ _); k_dflt (first
  | (refine' lcf_cell ?N ?c ?m ?d ?_ ?a ?b; (case a => rfl); (case b => rfl); (case N => k_asm); (case c => rfl); (case m => k_mem); (case d => first | rfl | assumption); k_whole)
  | refine cn_K (by assumption) (by assumption) (by assumption) (by k_is) ?_
  | refine cn_B (by assumption) (by assumption) (by assumption) (by k_is) (by boot_by_name) (by decide) ?_))
 k_with "eval Name" => (k_here; (with_reducible show wpAny _ _ (eval (Expr.Name _ _) (envX _ _ _ _ _ _)) _ _ _); k_dflt (refine' nameX_C ?N ?c ?m ?d ?_ ?a ?b; (case a => rfl); (case b => rfl); (case N => k_asm); (case c => rfl); (case m => k_mem); (case d => first | rfl | assumption); k_whole))
 k_with "compareOp NotIn int ref" => (k_here; k_dflt (refine' notin_list_ints ?hl ?hi ?_; (case hl => exact in_list (by assumption) (by k_mem)); (case hi => assumption); k_whole))
 k_with "subscriptTail Name Name ref int" => (k_here; k_dflt (refine' item_V ?hl ?h0 ?hf ?hx ?_ ?hs; (case hl => exact in_list (by assumption) (by k_mem)); (case h0 => lia); (case hf => lia); (case hx => assumption); (case hs => with_unfolding_all rfl); k_whole))
 trivial
noncomputable def keysL : List Value := (List.range 10).map fun n => Value.ref (441 + 3 * n)
theorem keysL_get {i : Nat} (hi : i < 10) : keysL[i]? = some (.ref (441 + 3 * i)) := by
 unfold keysL
 rw [List.getElem?_map, List.getElem?_range hi]; rfl
theorem range_allP : List.range 10 = allP.map (·.val) := by decide
theorem keys_krefs (P : Params) (c : Nat → Int) (t : Nat) (p : Nat → Bool) : (((List.range 10).filter p).map fun (n : Nat) => Value.ref (441 + 3 * n)).toArray = krefs (kwOf P c t) (allP.filter fun q => p q.val) := by
 rw [range_allP, List.filter_map, List.map_map]
 rfl
noncomputable def JK (N0 : List (Addr × Obj)) (p : Nat → Bool) (i : Nat) (ys : List Value) (news : List (Addr × Obj)) : Prop := news = N0 ∧ ys = ((List.range i).filter p).map fun (n : Nat) => Value.ref (441 + 3 * n)
theorem JK.snoc {N0 : List (Addr × Obj)} {p : Nat → Bool} {i : Nat} {ys : List Value} (hy : ys = ((List.range i).filter p).map fun (n : Nat) => Value.ref (441 + 3 * n)) (hp : p i = true) : JK N0 p (i + 1) (ys ++ [.ref (441 + 3 * i)]) N0 := by
 refine ⟨rfl, ?_⟩
 rw [List.range_succ, List.filter_append, List.map_append, List.filter_cons, if_pos hp, hy]
 rfl
theorem JK.skip {N0 : List (Addr × Obj)} {p : Nat → Bool} {i : Nat} {ys : List Value} (hy : ys = ((List.range i).filter p).map fun (n : Nat) => Value.ref (441 + 3 * n)) (hp : p i = false) : JK N0 p (i + 1) ys N0 := by
 refine ⟨rfl, ?_⟩
 rw [List.range_succ, List.filter_append, List.filter_cons, hp]
 simpa using hy
noncomputable def notIn (rf : List Int) (i : Nat) : Bool := !(rf.any fun x => x == (i : Int))
theorem st9 (w : World) (s : Shared) (g : Heap) (mg mb m : Str → Option Value) (c : Nat → Int) (t z : Nat) (tz : Tok) (D8 : Addr) (o8 : Obj) (ys8 : List Value) (rf : List Int) (all : List (Addr × Obj)) (Q : Flow → Shared → Prop) (E : Value → Shared → Prop)
  (hy8 : IntsAre ys8 rf) (F : Fr g 318 s.heap m) (N : News g 318 s.heap all)
  (m1 : (320, cellO (some (.int (z : Int) tz))) ∈ all) (m2 : (322, cellO (some (.ref 438))) ∈ all) (m3 : (324, o8) ∈ all) (d8 : o8.data = .cell (some (.ref D8))) (m4 : (D8, listOf ys8.toArray ys8.length) ∈ all)
  (m5 : (438, listOf keysL.toArray 10) ∈ all) (m6 : (299, tabObj #[]) ∈ all) (m7 : (354, listOf #[] 0) ∈ all) (kl : ∀ q ∈ KL w.params c t, q ∈ all) (kd : ∀ q ∈ KL w.params c t, q.1 ≠ 299 ∧ q.1 ≠ 354) (m8 : (346, listO (valsOf c t) 10) ∈ all) (h1 : 1 ≤ z) (h3 : z ≤ 3)
  (ret : ∀ lp cc oc vs tq n' ask' na' h tk all', Fr g 318 h (fun y => if y = Str.ofString "short" then some (.ref lp) else m y) → News g 318 h all' → Kept [299, 354] all all' → (lp, listOf (krefs (kwOf w.params c t) (ofold (kwOf w.params c t).val z ⟨[], [], []⟩ (allP.filter fun q => notIn rf q.val)).heap) n') ∈ all' →
   (354, listOf ask' na') ∈ all' → (299, tabObj #[rawInt 559, rawInt 4, .ref cc]) ∈ all' → (cc, oc) ∈ all' → oc.data = .fields vs → vs[1]? = some (.str (Str.ofString "_law_heap.<locals>.offer") tq) → Grew #[] ask' (ofold (kwOf w.params c t).val z ⟨[], [], []⟩ (allP.filter fun q => notIn rf q.val)).qs →
   cc < lp → 354 < cc → (∀ p ∈ all, p.1 ∉ [299, 354] → p.1 ≠ lp ∧ p.1 ≠ cc) → Q .next { s with heap := h, toks := tk }) :
  (KN w.params).In g → TR mg mb g → wpAny (model PySem.Challenge.rw_ik0098_01.row.prog w) (AL w.params) (exec (lawT w.params).a3 (lawE w.params)) Q E s := by
 rw [lawE_eq, (lawT w.params).hs.eq]
 dsimp only [lawT]
 k_fill
 intro X T
 have N1 : News g 318 s.heap ((320, cellO (some (.int (z : Int) tz))) :: (322, cellO (some (.ref 438))) :: (324, o8) :: (D8, listOf ys8.toArray ys8.length) :: (438, listOf keysL.toArray 10) :: all) := nw_cons N m1 (nw_cons N m2 (nw_cons N m3 (nw_cons N m4 (nw_cons N m5 N))))
 clear N
 k_steps
 trace_state
 refine ⟨?_⟩
 rename_i hr F' N' hk
 refine LCt.CompSrcT.range (n := 10) (news := (320, cellO (some (.int (z : Int) tz))) :: (322, cellO (some (.ref 438))) :: (324, o8) :: (D8, listOf ys8.toArray ys8.length) :: (438, listOf keysL.toArray 10) :: all) rfl F' N' hr (by rfl) (by rfl) (Nat.le_of_ble_eq_true rfl) (fun g' => ?_)
 refine comp_invT (n := 10) (JK ((320, cellO (some (.int (z : Int) tz))) :: (322, cellO (some (.ref 438))) :: (324, o8) :: (D8, listOf ys8.toArray ys8.length) :: (438, listOf keysL.toArray 10) :: all) (notIn rf)) ?turn ?fin 10 0 [] _ rfl ⟨rfl, rfl⟩
 case turn =>
  intro i ys news v' I oI C oC D m₂ h tk E' hi hj hP hoC hx F1 N1 off ne
  obtain ⟨ti, rfl⟩ := hP
  obtain ⟨rfl, hys⟩ := hj
  clear F' N' hk hr
  dsimp only
  have e1 : (0 + (i : Int)) = (i : Int) := by lia
  have x1 : keysL[(0 + (i : Int)).toNat]? = some (.ref (441 + 3 * i)) := by rw [e1]; exact keysL_get hi
  k_steps
  ·refine ⟨?_⟩
   rename_i hb
   rw [e1] at hb
   exact LCg.CompEnd.intro F1 N1 _ (fun p hp => hp) off trivial (JK.skip hys (by unfold notIn; rw [hb]; rfl))
  ·refine ⟨?_⟩
   rename_i hb
   rw [e1] at hb
   exact LCg.CompEnd.intro F1 N1 _ (fun p hp => hp) off trivial (JK.snoc hys (by unfold notIn; rw [hb]; rfl))
 case fin =>
  rintro ys news ⟨rfl, hys⟩
  unfold LCg.FinE
  intro D h tk F2 N2 o2
  clear F' N' hk hr
  dsimp only
  k_steps
  refine ⟨?_⟩
  rename_i ld hh F3 N3 lts
  have lt : ∀ p ∈ all, p.1 < ld := kst_ltOf lts.2.2.2.2.2.2
  have oD : ∀ p ∈ all, p.1 ≠ D := fun p hp => off1_mem o2 p (.tail _ (.tail _ (.tail _ (.tail _ (.tail _ hp)))))
  have lld : (354 : Nat) < ld := lt _ m7
  have hks : D < ld := lts.1
  have N4 : News g 318 hh ([(299, tabObj #[]), (354, listOf #[] 0), (ld, listOf #[] 0)] ++ (D, listOf ys.toArray ys.length) :: less 299 (less 354 all)) := by
   intro p hp
   refine N3 p ?_
   simp only [List.cons_append, List.nil_append, List.mem_cons] at hp
   rcases hp with rfl | rfl | rfl | rfl | hp
   ·exact .tail _ (.tail _ (.tail _ (.tail _ (.tail _ (.tail _ (.tail _ m6))))))
   ·exact .tail _ (.tail _ (.tail _ (.tail _ (.tail _ (.tail _ (.tail _ m7))))))
   ·exact .head _
   ·exact .tail _ (.head _)
   ·exact .tail _ (.tail _ (.tail _ (.tail _ (.tail _ (.tail _ (.tail _ (less_sub _ (less_sub _ hp))))))))
  have hk9 : ys.toArray = krefs (kwOf w.params c t) (allP.filter fun q => notIn rf q.val) := by rw [hys]; exact keys_krefs w.params c t (notIn rf)
  have hpl : (allP.filter fun q => notIn rf q.val).length ≤ 10 := List.length_filter_le _ _
  have a354 : (354 : Nat) ≠ D := oD _ m7
  have a299 : (299 : Nat) ≠ D := oD _ m6
  refine use_spec (lh1 w (kwOf w.params c t) (allP.filter fun q => notIn rf q.val) ld D z tz #[] 0 #[] 0 (Nat.ne_of_lt lld) (show (299 : Nat) ≠ 354 by decide) (Nat.ne_of_lt (Nat.lt_trans (by decide) lld)) (lt_ok w c t) ?hz ?hzh h1 h3) F3 N4 X T ?off ?pre rfl (Nat.le_of_ble_eq_true rfl) (Nat.le_of_ble_eq_true rfl) ?_
  case hz => show 0 + 3 * _ ≤ 870; lia
  case hzh => show 0 + _ ≤ 100; lia
  case off =>
   intro p hp q hq
   simp only [List.mem_cons, List.not_mem_nil, or_false] at hp hq
   rcases hp with rfl | rfl | rfl <;> rcases hq with rfl | hq
   ·exact a299
   ·exact fun e => less_ne q hq e.symm
   ·exact a354
   ·exact fun e => less_ne q (less_sub _ hq) e.symm
   ·exact Nat.ne_of_gt hks
   ·exact fun e => Nat.ne_of_lt (lt q (less_sub _ (less_sub _ hq))) e.symm
  case pre =>
   intro g2 st hk2
   refine ⟨⟨fun q hq => hk2 q (.tail _ (mem_less (mem_less (kl q hq) (kd q hq).2) (kd q hq).1)), hk2 (346, _) (.tail _ (mem_less (mem_less m8 (show (346 : Nat) ≠ 354 by decide)) (show (346 : Nat) ≠ 299 by decide)))⟩, ?_⟩
   rw [← hk9]
   exact ⟨_, hk2 (D, _) (.head _), rfl, _, rfl⟩
  intro r' pass' h2 tk2 F5 N5 off5 hpost
  obtain ⟨lp, cc, oc, vs, tq, n', ask', na', hnd', nh', rfl, rfl, hd1, hd2, hG, hH, q1, q2, q3, q4⟩ := hpost
  dsimp only
  refine storeX_L F5 N5 (fun h3' F6 N6 => ?_)
  refine ret lp cc oc vs tq n' ask' na' h3' _ _ F6 N6 (fun p hp hn => ?_) (.head _) (.tail _ (.head _)) (.tail _ (.tail _ (.tail _ (.head _)))) (.tail _ (.tail _ (.tail _ (.tail _ (.head _))))) hd1 hd2 hG q1 (Nat.lt_trans lld q4) (fun p hp hn => ?_)
  ·exact .tail _ (.tail _ (.tail _ (.tail _ (.tail _ (.tail _ (mem_less (mem_less hp fun e => hn (by simp [e])) fun e => hn (by simp [e])))))))
  ·have hm : p ∈ (D, listOf ys.toArray ys.length) :: less 299 (less 354 all) := .tail _ (mem_less (mem_less hp fun e => hn (by simp [e])) fun e => hn (by simp [e]))
   exact ⟨fun e => off5 _ (.head _) p hm e.symm, fun e => off5 _ (.tail _ (.tail _ (.tail _ (.tail _ (.head _))))) p hm e.symm⟩
end Mine
end
section
theorem Mine.wlSt10r : True := by
 k_with_none
 trivial
namespace Mine
theorem wlSt100 : True := by
 k_with_none
 k_with "call ref" => (k_here; (refine' HoldX.h ?_))
 k_with "call builtin:len" => (k_here; (refine' HoldX.h ?_))
 k_with "subscriptTail Name Slice ref ref" => (k_here; (refine' HoldX.h ?_))
 k_with "eval Name" => (k_here; (with_reducible show wpAny _ _ (eval (Expr.Name _ _) (envX _ _ _ _ _ _)) _ _ _); k_dflt (refine' nameX_C ?N ?c ?m ?d ?_ ?a ?b; (case a => rfl); (case b => rfl); (case N => k_asm); (case c => rfl); (case m => k_mem); (case d => first | rfl | assumption); k_whole))
 k_with "eval Name" => (k_here; (with_reducible show wpAny _ _ (eval (Expr.Name _ _) (envX _ _ _ _ _ _)) _ _ _); k_dflt (refine' nameX_L ?F ?v ?_ ?a ?b; (case a => rfl); (case b => rfl); (case F => k_asm); (case v => assumption); k_whole))
 trivial
theorem pick_all (its : Array Value) : slicePick its none none none = its := by
 have e : sliceBounds none none none its.size = (((0 : Nat) : Int), ((its.size : Nat) : Int), 1) := by
  simp only [sliceBounds, Option.getD_none, show (1 : Int) > 0 by decide, if_true]
  rfl
 rw [kmk_pick_nat _ e, List.drop_zero, Nat.sub_zero, ← Array.length_toList, List.take_length]
theorem pick_from (its : Array Value) (n : Nat) (h : n ≤ its.size) : slicePick its (some (n : Int)) none none = (its.toList.drop n).toArray := by
 have e : sliceBounds (some (n : Int)) none none its.size = (((n : Nat) : Int), ((its.size : Nat) : Int), 1) := by
  simp only [sliceBounds, Option.getD_none, show (1 : Int) > 0 by decide, if_true, if_neg (show ¬ ((n : Int) < 0) by lia)]
  congr 1
  lia
 rw [kmk_pick_nat _ e, List.take_of_length_le (by rw [List.length_drop, Array.length_toList]; lia)]
theorem st10 (w : World) (s : Shared) (g : Heap) (mg mb m : Str → Option Value) (ask : Array Value) (na : Nat) (all : List (Addr × Obj)) (Q : Flow → Shared → Prop) (E : Value → Shared → Prop) (hz : ask.size ≤ 1000) (hm : m (Str.ofString "asked") = some (.ref 354)) (F : Fr g 318 s.heap m) (N : News g 318 s.heap all)
  (m1 : (354, listOf ask na) ∈ all)
  (ret : ∀ D n h tk all', Fr g 318 h (fun y => if y = Str.ofString "before" then some (.ref D) else m y) → News g 318 h all' → Kept [] all all' → (D, listOf ask n) ∈ all' → (∀ p ∈ all, p.1 < D) → Q .next { s with heap := h, toks := tk }) :
  (KN w.params).In g → TR mg mb g → wpAny (model PySem.Challenge.rw_ik0098_01.row.prog w) (AL w.params) (exec (lawT w.params).a4 (lawE w.params)) Q E s := by
 rw [lawE_eq, (lawT w.params).hs.eq]
 dsimp only [lawT]
 k_fill
 intro X T
 k_steps
 refine ⟨?_⟩
 refine kmk_slice F N (its := ask) ⟨_, (N _ m1).1, rfl, _, rfl⟩ (by kmk_part) (by kmk_part) (fun D h' F1 N1 l1 => ?_) (by with_unfolding_all rfl) (by kmk_pure) (Nat.le_trans hz (Nat.le_of_ble_eq_true rfl))
 rw [pick_all] at N1
 refine storeX_L F1 N1 (fun h3' F6 N6 => ?_)
 exact ret D 0 h3' _ _ F6 N6 (fun p hp _ => .tail _ hp) (.head _) l1
theorem st12 (w : World) (s : Shared) (g : Heap) (mg mb m : Str → Option Value) (ask : Array Value) (na : Nat) (D10 : Addr) (b10 : Array Value) (n10 : Nat) (all : List (Addr × Obj)) (Q : Flow → Shared → Prop) (E : Value → Shared → Prop) (hz : ask.size ≤ 1000) (hz2 : b10.size ≤ ask.size) (hm : m (Str.ofString "asked") = some (.ref 354)) (hm2 : m (Str.ofString "before") = some (.ref D10)) (F : Fr g 318 s.heap m) (N : News g 318 s.heap all)
  (m1 : (354, listOf ask na) ∈ all) (m2 : (D10, listOf b10 n10) ∈ all)
  (ret : ∀ D n h tk all', Fr g 318 h (fun y => if y = Str.ofString "after" then some (.ref D) else m y) → News g 318 h all' → Kept [] all all' → (D, listOf (ask.toList.drop b10.size).toArray n) ∈ all' → (∀ p ∈ all, p.1 < D) → Q .next { s with heap := h, toks := tk }) :
  (KN w.params).In g → TR mg mb g → wpAny (model PySem.Challenge.rw_ik0098_01.row.prog w) (AL w.params) (exec (lawT w.params).a6 (lawE w.params)) Q E s := by
 rw [lawE_eq, (lawT w.params).hs.eq]
 dsimp only [lawT]
 k_fill
 intro X T
 k_steps
 refine ⟨?_⟩
 refine len_list (items := b10) ⟨_, (N _ m2).1, rfl, _, rfl⟩ (by lia) ?_
 k_steps
 refine ⟨?_⟩
 refine kmk_slice (s := { s with toks := s.toks + 1 + 1 }) F N (its := ask) ⟨_, (N _ m1).1, rfl, _, rfl⟩ (IsPart.int _ _) IsPart.none (fun D h' F1 N1 l1 => ?_) (by with_unfolding_all rfl) (by kmk_pure) (Nat.le_trans hz (Nat.le_of_ble_eq_true rfl))
 rw [pick_from _ _ hz2] at N1
 refine storeX_L F1 N1 (fun h3' F6 N6 => ?_)
 exact ret D 0 h3' _ _ F6 N6 (fun p hp _ => .tail _ hp) (.head _) l1
theorem keys_all (P : Params) (c : Nat → Int) (t : Nat) : keysL.toArray = krefs (kwOf P c t) allP := by rfl
theorem st11 (w : World) (s : Shared) (g : Heap) (mg mb m : Str → Option Value) (c : Nat → Int) (t z : Nat) (tz : Tok) (cc : Addr) (oc : Obj) (vs : Array Value) (tq : Tok) (ask : Array Value) (na : Nat) (all : List (Addr × Obj)) (Q : Flow → Shared → Prop) (E : Value → Shared → Prop) (hz : ask.size ≤ 800) (hm : m (Str.ofString "handed") = some (.ref 355)) (F : Fr g 318 s.heap m) (N : News g 318 s.heap all)
  (m1 : (320, cellO (some (.int (z : Int) tz))) ∈ all) (m2 : (322, cellO (some (.ref 438))) ∈ all) (m5 : (438, listOf keysL.toArray 10) ∈ all) (m6 : (299, tabObj #[rawInt 559, rawInt 4, .ref cc]) ∈ all) (m7 : (354, listOf ask na) ∈ all) (m9 : (355, listOf #[] 0) ∈ all) (kl : ∀ q ∈ KL w.params c t, q ∈ all) (kd : ∀ q ∈ KL w.params c t, q.1 ≠ 299 ∧ q.1 ≠ 354 ∧ q.1 ≠ 355)
  (m8 : (346, listO (valsOf c t) 10) ∈ all) (mc : (cc, oc) ∈ all) (hc1 : cc ≠ 299) (hc2 : cc ≠ 354) (hc3 : cc ≠ 355) (hd1 : oc.data = .fields vs) (hd2 : vs[1]? = some (.str (Str.ofString "_law_heap.<locals>.offer") tq)) (h1 : 1 ≤ z) (h3 : z ≤ 3)
  (ret : ∀ lp n' ask' na' hnd' nh' h tk all', Fr g 318 h (fun y => if y = Str.ofString "whole" then some (.ref lp) else m y) → News g 318 h all' → Kept [299, 354, 355] all all' → (lp, listOf (krefs (kwOf w.params c t) (ofold (kwOf w.params c t).val z ⟨[], [], []⟩ allP).heap) n') ∈ all' →
   (354, listOf ask' na') ∈ all' → (355, listOf hnd' nh') ∈ all' → (299, tabObj #[rawInt 559, rawInt 4, .ref cc]) ∈ all' → Grew ask ask' (ofold (kwOf w.params c t).val z ⟨[], [], []⟩ allP).qs → hnd' = krefs (kwOf w.params c t) (ofold (kwOf w.params c t).val z ⟨[], [], []⟩ allP).out →
   355 < lp → (∀ p ∈ all, p.1 ∉ [299, 354, 355] → p.1 ≠ lp) → Q .next { s with heap := h, toks := tk }) :
  (KN w.params).In g → TR mg mb g → wpAny (model PySem.Challenge.rw_ik0098_01.row.prog w) (AL w.params) (exec (lawT w.params).a5 (lawE w.params)) Q E s := by
 rw [lawE_eq, (lawT w.params).hs.eq]
 dsimp only [lawT]
 k_fill
 intro X T
 have N1 : News g 318 s.heap ((320, cellO (some (.int (z : Int) tz))) :: (322, cellO (some (.ref 438))) :: all) := nw_cons N m1 (nw_cons N m2 N)
 k_steps
 refine ⟨?_⟩
 clear N1
 have N4 : News g 318 s.heap ([(299, tabObj #[rawInt 559, rawInt 4, .ref cc]), (354, listOf ask na), (355, listOf #[] 0)] ++ less 299 (less 354 (less 355 all))) := by
  intro p hp
  simp only [List.cons_append, List.nil_append, List.mem_cons] at hp
  rcases hp with rfl | rfl | rfl | hp
  ·exact N _ m6
  ·exact N _ m7
  ·exact N _ m9
  ·exact N _ (less_sub _ (less_sub _ (less_sub _ hp)))
 have ml : ∀ p ∈ all, p.1 ≠ 299 → p.1 ≠ 354 → p.1 ≠ 355 → p ∈ less 299 (less 354 (less 355 all)) := fun p hp a b d => mem_less (mem_less (mem_less hp d) b) a
 refine use_spec (lh2 w (kwOf w.params c t) allP 355 438 cc z tz ask na #[] 0 (show (354 : Nat) ≠ 355 by decide) (show (299 : Nat) ≠ 354 by decide) (by decide) (lt_ok w c t) ?hz ?hzh h1 h3) F N4 X T ?off ?pre rfl (Nat.le_of_ble_eq_true rfl) (Nat.le_of_ble_eq_true rfl) ?_
 case hz => show ask.size + 3 * 10 ≤ 870; lia
 case hzh => show 0 + 10 ≤ 100; lia
 case off =>
  intro p hp q hq
  simp only [List.mem_cons, List.not_mem_nil, or_false] at hp
  rcases hp with rfl | rfl | rfl
  ·exact fun e => less_ne q hq e.symm
  ·exact fun e => less_ne q (less_sub _ hq) e.symm
  ·exact fun e => less_ne q (less_sub _ (less_sub _ hq)) e.symm
 case pre =>
  intro g2 st hk2
  refine ⟨⟨fun q hq => hk2 q (ml q (kl q hq) (kd q hq).1 (kd q hq).2.1 (kd q hq).2.2), hk2 (346, _) (ml _ m8 (show (346 : Nat) ≠ 299 by decide) (show (346 : Nat) ≠ 354 by decide) (show (346 : Nat) ≠ 355 by decide))⟩, ?_, ?_⟩
  ·rw [← keys_all]
   exact ⟨_, hk2 (438, _) (ml _ m5 (show (438 : Nat) ≠ 299 by decide) (show (438 : Nat) ≠ 354 by decide) (show (438 : Nat) ≠ 355 by decide)), rfl, _, rfl⟩
  ·exact ⟨cc, oc, vs, tq, rfl, hk2 _ (ml _ mc hc1 hc2 hc3), hd1, hd2⟩
 intro r' pass' h2 tk2 F5 N5 off5 hpost
 obtain ⟨lp, n', ask', na', hnd', nh', rfl, rfl, hG, hH, q1, q2, q3⟩ := hpost
 refine storeX_L F5 N5 (fun h3' F6 N6 => ?_)
 refine ret lp n' ask' na' hnd' nh' h3' _ _ F6 N6 (fun p hp hn => ?_) (.head _) (.tail _ (.head _)) (.tail _ (.tail _ (.head _))) (.tail _ (.tail _ (.tail _ (.head _)))) hG (by simpa using hH) q3 (fun p hp hn => ?_)
 ·exact .tail _ (.tail _ (.tail _ (.tail _ (ml _ hp (fun e => hn (by simp [e])) (fun e => hn (by simp [e])) fun e => hn (by simp [e])))))
 ·exact fun e => off5 _ (.head _) p (ml _ hp (fun e => hn (by simp [e])) (fun e => hn (by simp [e])) fun e => hn (by simp [e])) e.symm
end Mine
end
section
theorem Mine.wlSt13r : True := by
 k_with_none
 trivial
namespace Mine
theorem wlSt130 : True := by
 k_with_none
 k_with "CompSrc" => (k_here; (refine' HoldX.h ?_))
 k_with "CompEnd" => (k_here; (refine' HoldX.h ?_))
 k_with "eval Name" => (k_here; (with_reducible show wpAny _ _ (eval (Expr.Name _ _) (compEnvC _ _ _ _)) _ _ _); k_dflt (first
  | (refine' lcf_cell ?N ?c ?m ?d ?_ ?a ?b; (case a => rfl); (case b => rfl); (case N => k_asm); (case c => rfl); (case m => k_mem); (case d => first | rfl | assumption); k_whole)
  | refine cn_K (by assumption) (by assumption) (by assumption) (by k_is) ?_
  | refine cn_B (by assumption) (by assumption) (by assumption) (by k_is) (by boot_by_name) (by decide) ?_))
 k_with "eval Name" => (k_here; (with_reducible show wpAny _ _ (eval (Expr.Name _ _) (envX _ _ _ _ _ _)) _ _ _); k_dflt (refine' nameX_L ?F ?v ?_ ?a ?b; (case a => rfl); (case b => rfl); (case F => k_asm); (case v => assumption); k_whole))
 k_with "compareOp In int ref" => (k_here; k_dflt (refine' in_list_ints ?hl ?hi ?_; (case hl => exact in_list (by assumption) (by k_mem)); (case hi => assumption); k_whole))
 trivial
noncomputable def JB (N0 : List (Addr × Obj)) (qs : List Int) (f : Int → Bool) (i : Nat) (ys : List Value) (news : List (Addr × Obj)) : Prop := news = N0 ∧ ys = (qs.take i).map fun q => Value.bool (f q)
theorem JB.snoc {N0 : List (Addr × Obj)} {qs : List Int} {f : Int → Bool} {i : Nat} {q : Int} {b : Bool} {ys : List Value} (hy : ys = (qs.take i).map fun q => Value.bool (f q)) (hq : qs[i]? = some q) (e : b = f q) : JB N0 qs f (i + 1) (ys ++ [.bool b]) N0 := by
 refine ⟨rfl, ?_⟩
 rw [List.take_add_one, hq, List.map_append, hy, e]
 rfl
theorem st13 (w : World) (s : Shared) (g : Heap) (mg mb m : Str → Option Value) (D8 : Addr) (o8 : Obj) (ys8 : List Value) (rf : List Int) (D12 : Addr) (ts : List Value) (qs : List Int) (n12 : Nat) (all : List (Addr × Obj)) (Q : Flow → Shared → Prop) (E : Value → Shared → Prop)
  (hy8 : IntsAre ys8 rf) (hts : IntsAre ts qs) (hq : qs.length ≤ 1000) (hm : m (Str.ofString "after") = some (.ref D12)) (F : Fr g 318 s.heap m) (N : News g 318 s.heap all)
  (m3 : (324, o8) ∈ all) (d8 : o8.data = .cell (some (.ref D8))) (m4 : (D8, listOf ys8.toArray ys8.length) ∈ all) (m5 : (D12, listOf ts.toArray n12) ∈ all)
  (ret : ∀ D ys h tk all', Fr g 318 h (fun y => if y = Str.ofString "flags" then some (.ref D) else m y) → News g 318 h all' → Kept [] all all' → (D, LCg.lst ys) ∈ all' → ys = (qs.map fun q => Value.bool (rf.any fun x => x == Int.fmod q 16)) → (∀ p ∈ all, p.1 ≠ D) → Q .next { s with heap := h, toks := tk }) :
  (KN w.params).In g → TR mg mb g → wpAny (model PySem.Challenge.rw_ik0098_01.row.prog w) (AL w.params) (exec (lawT w.params).a7 (lawE w.params)) Q E s := by
 rw [lawE_eq, (lawT w.params).hs.eq]
 dsimp only [lawT]
 k_fill
 intro X T
 have N1 : News g 318 s.heap ((324, o8) :: (D8, listOf ys8.toArray ys8.length) :: (D12, listOf ts.toArray n12) :: all) := nw_cons N m3 (nw_cons N m4 (nw_cons N m5 N))
 clear N
 have hl := hts.length
 refine LCg.Assign_ListComp_U (F₀ := F) (by rfl) (by with_unfolding_all rfl) (by with_unfolding_all rfl) (by decide) (by rfl) (by decide) (by rfl) (by rfl) (by rfl) ?_
 refine nameX_L F hm ?_
 refine LCg.CompSrc.ledger (its := ts.toArray) (k := n12) (news := (324, o8) :: (D8, listOf ys8.toArray ys8.length) :: (D12, listOf ts.toArray n12) :: all) rfl F N1 (.tail _ (.tail _ (.head _))) (Nat.le_trans (by simp; lia) (Nat.le_of_ble_eq_true rfl : 1000 ≤ sizeLine)) (fun g' => ?_)
 refine comp_inv (n := ts.toArray.size) (JB ((324, o8) :: (D8, listOf ys8.toArray ys8.length) :: (D12, listOf ts.toArray n12) :: all) qs fun q => rf.any fun x => x == Int.fmod q 16) ?turn ?fin ts.toArray.size 0 [] _ (Nat.zero_add _) ⟨rfl, rfl⟩
 case turn =>
  intro i ys news v' I oI C oC D m₂ h tk E' hi hj hP hoC hx F1 N1' off ne
  obtain ⟨rfl, hys⟩ := hj
  obtain ⟨q, ti, rfl, hqi⟩ := IntsAre.at hts i v' (by simpa using hP)
  clear N1
  dsimp only
  k_steps
  refine ⟨?_⟩
  exact LCg.CompEnd.intro F1 N1' _ (fun p hp => hp) off (.inr ⟨_, .tail _ (.tail _ (.head _)), rfl, _, rfl⟩) (JB.snoc hys hqi rfl)
 case fin =>
  rintro ys news ⟨rfl, hys⟩
  clear N1
  unfold LCg.FinA
  intro D h tk F2 N2 o2
  refine ret D ys h tk _ F2 N2 (fun p hp _ => .tail _ (.tail _ (.tail _ (.tail _ hp)))) (.head _) ?_ (fun p hp => off1_mem o2 p (.tail _ (.tail _ (.tail _ hp))))
  rw [hys, show ts.toArray.size = qs.length by simp [hl], List.take_length]
end Mine
end
section
theorem Mine.wlCnr : True := by
 k_with_none
 trivial
namespace Mine
theorem wlCn0 : True := by
 k_with_none
 k_with "Nx" => (refine' hold_out ?_)
 k_with "eval Name" => (k_here; k_dflt (refine nameX_L (by k_asm) (by first | rfl | assumption) ?_ rfl rfl); k_whole)
 k_with "call type:enumerate" => (k_here; (refine' hold_out ?_))
 trivial
section
variable {C : Cx} {s₀ s : Shared} {m : Str → Option Value} {N : List (Addr × Obj)} {Q : Flow → Shared → Prop}
inductive Cx.Tm (C : Cx) (s₀ : Shared) (wr : List Addr) (own : List (Addr × Obj)) (J : (Str → Option Value) → List (Addr × Obj) → Prop) : Flow → Shared → Prop
 | next {s : Shared} {m : Str → Option Value} {N : List (Addr × Obj)} (S : C.St s₀ m (N ++ own) s) (off : ∀ p ∈ N, p.1 ∉ wr) (j : J m N) : Cx.Tm C s₀ wr own J .next s
theorem Cx.iterE {es : List Expr} {k l : Nat} {pos : Pos} {body : List Stmt} {its : Array Value} (J : Nat → (Str → Option Value) → List (Addr × Obj) → Prop) (S : C.St s₀ m N s) (hh : C.A.handled = none) (hl : C.g.IsList l its) (hlL : l ≠ C.L) (hes : C.nms es = true) (h2 : es.length = 2) (h0 : J 0 m N)
  (turn : ∀ i x t I own m N s, its[i]? = some x → (∀ p ∈ own, p.1 = I + 1 ∨ p.1 = I ∨ p.1 = l) → (∃ o, (I, o) ∈ own) → (∃ o, (I + 1, o) ∈ own) → (∀ p ∈ N, p.1 ∉ [I + 1, I]) → J i m N → C.St s₀ (upds ((nmOf es).zip [.int (i : Int) t, x]) m) (N ++ own) s → C.Ws body (C.Tm s₀ [I + 1, I] own (J (i + 1))) s)
  (done : ∀ m N s, J its.size m N → C.St s₀ m N s → Q .next s) : wpAny (model prog C.w) C.A (call (.type "enumerate") [.ref l]) (fun xv s₁ => wpAny (model prog C.w) C.A (pyIter xv) (fun it s₂ => TurnsAt prog C.w C.A C.g C.env (.Tuple es k pos) body Q C.E it s₂) C.E s₁) C.E s := by
 refine for_enum J (J its.size) hh (S.F.lst hl) hlL S.F S.N h0 (fun i x t T I m₁ news₁ h tk own a hT b b2 c d d2 e f F1 N1 => ?_) (fun _ _ h => h) fun m₁ news₁ h tk r F1 N1 => done _ _ _ r (S.put F1 N1)
 have S1 : C.St s₀ m₁ (news₁ ++ own) { s with heap := h, toks := tk } := S.put F1 N1
 have z := (sto_elts (vs := [.int (i : Int) t, x]) (Q := fun _ _ => True) hes h2.symm S1 fun _ _ => trivial).2
 refine unpackN_ (items := #[.int (i : Int) t, x]) S1.F S1.N hT hh (by rw [z.1, h2]; rfl) z.2 fun h' F' N' => ?_
 refine wpAny_mono (sto_elts (vs := [.int (i : Int) t, x]) hes h2.symm (S1.put F' N') fun s' S' => turn i x t I own m₁ news₁ s' a (fun p hp => ?_) d d2 e f S').1 (fun _ s' q => wpAny_mono q (fun fl s'' z => ?_) fun _ _ x => x) fun _ _ x => x
 ·have := c p hp
  simp only [List.mem_cons, List.not_mem_nil, or_false] at this
  exact this
 ·cases z with
  | next S2 off j => rw [same_rec S1.e S2.e]; exact TurnW.next S2.F S2.N off j
theorem Cx.setdef {x y kx : Str} {B : Nat} {o : Obj} {rest : List (Addr × Obj)} {kvs : List (Int × Value)} {k : Int} {tk : Tok} {p1 p2 p3 p4 p5 p6 pos : Pos} {pl : Sem Bool} (S : C.St s₀ m ((B, o) :: rest) s) (hm : m x = some (.ref B)) (hk : m kx = some (.int k tk)) (hd : o.IsDictOf (PySem.intKind prog C.w) kvs) (lo : (B == sysModules) = false) (off : ∀ p ∈ rest, p.1 ≠ B) (hz : kvs.length ≤ sizeLine)
  (there : ∀ v s', valueAt kvs k = some v → C.St s₀ (upd m y v) ((B, o) :: rest) s' → Q .next s')
  (new : ∀ D o' s', valueAt kvs k = none → (∀ p ∈ (B, o) :: rest, @LT.lt Nat _ p.1 D) → o'.IsDictOf (PySem.intKind prog C.w) (stored kvs k (.ref D)) → C.St s₀ (upd m y (.ref D)) ((D, listOf #[] 0) :: (B, o') :: rest) s' → Q .next s')
  (hx : C.lc x = true := by rfl) (hx2 : C.lc kx = true := by rfl) (hx3 : C.lc y = true := by rfl)
  (hs : swapsWith (.Call (.Attribute (.Name x p1) (Str.ofString "setdefault") p2) [.Name kx p3, .List [] p4] [] p5) (some (.Name y p6)) pos.line C.env = pure false := by rfl)
  (he : eval (.Call (.Attribute (.Name x p1) (Str.ofString "setdefault") p2) [.Name kx p3, .List [] p4] [] p5) C.env = (do
   let ov ← eval (.Name x p1) C.env
   standAt p2.atName
   let (f, first) ← holding [ov] (getMethod ov (Str.ofString "setdefault") pl)
   callWith p5 f first (backTo p5 (starEach [.Name kx p3, .List [] p4] C.env)) []) := by rfl) :
  C.Wp (.Assign [.Name y p6] (.Call (.Attribute (.Name x p1) (Str.ofString "setdefault") p2) [.Name kx p3, .List [] p4] [] p5) pos) Q s := by
 refine wpAny_Assign_Name (MethodCall_ (Cx.V.name hm hx _ _ S.F fun _ => sd_method S.N (.head _) hd (callWith_method1 ?_)) he) hs
 refine args_cons (Cx.V.name hk hx2 _ _ S.F fun _ => args_cons (List_ (args_nil (newList_K S.F S.N (fun D h' F N hD => args_nil ?_) (by rw [sizeLine_eq]; exact Nat.zero_le _)))))
 have hBD : D ≠ B := fun e => Nat.lt_irrefl _ (e ▸ hD _ (.head _))
 refine sd_call F N (.tail hBD (.head off)) hd lo hz (fun v hv => ?_) (fun h2 o' hn F2 N2 ho' => ?_)
 ·exact Cx.sto (S.put F fun p hp => N p (.tail _ hp)) hx3 fun s' S' => there v s' hv S'
 ·exact Cx.sto (S.put F2 N2) hx3 fun s' S' => new D o' s' hn hD ho' S'
end
structure CF (I b B : Nat) (m : Str → Option Value) : Prop where
 self : m (Str.ofString "self") = some (.ref I)
 b : m (Str.ofString "b") = some (.ref b)
 b2j : m (Str.ofString "b2j") = some (.ref B)
inductive CJ (w : World) (ns : List Int) (I AD b B : Nat) (od : Obj) (i : Nat) (m : Str → Option Value) (N : List (Addr × Obj)) : Prop
 | mk (o : Obj) (ls : List Lk) (fm : CF I b B m) (hN : N = (B, o) :: (I, instObj 270 AD) :: (AD, od) :: ls.map Lk.ob) (ho : o.IsDictOf (PySem.intKind prog w) (kvOf ls)) (hb : Bj ns i ls) (hl : ls.length ≤ i) (hne : ∀ q ∈ ls, q.ad ≠ B ∧ q.ad ≠ I ∧ q.ad ≠ AD)
inductive ChP (w : World) (I AD a b : Nat) (t1 t2 t3 t4 t5 t6 t7 : Tok) (ns : List Int) (r : Value) (pass' : List (Addr × Obj)) : Prop
 | mk (B J Z : Nat) (t8 t9 t10 : Tok) (o oj : Obj) (lists : List (Addr × Obj)) (hr : r = .none) (hp : pass' = (I, instObj 270 AD) :: (AD, dictOf (E10 w.params a b B J Z .none .none t1 t2 t3 t4 t5 t6 t7 t8 t9 t10) 10) :: (B, o) :: (J, oj) :: lists) (hf : SmF w I AD B J ns o oj lists)
theorem chain (w : World) (I AD a b : Nat) (hI : @LT.lt Nat _ AD I) (t1 t2 t3 t4 t5 t6 t7 : Tok) (vs : List Value) (ns : List Int) (hi : IntsAre vs ns) (hns : ns.length < 200) :
  CallSpec w 340 (.ref 216) [.ref I] [(I, instObj 270 AD), (AD, dictOf (E7 w.params a b t1 t2 t3 t4 t5 t6 t7) 7)] (fun g => g.IsList b vs.toArray) (ChP w I AD a b t1 t2 t3 t4 t5 t6 t7 ns) := by
 try (unfold CallSpec prog; k_fill; fail)
 refine' spec_def (binds := [(Str.ofString "self", .ref I)]) ?ho ?hcd ?hroom ?hb ?hl ?_ ?hc ?h1 ?h2 ?h3
 case ho => k_is
 case hcd => k_is
 case hroom => decide
 case hb => intro s _; exact BindsTo.of_eq rfl
 case hl => exact locs rfl
 case hc => decide
 case h1 => exact rfl
 case h2 => exact rfl
 case h3 => exact rfl
 intro mg mb g L s₀ s Q X T hpre hL S ret
 refine Cx.seq ?_
 show wpAny (model prog w) _ (exec _ (envX _ _ _ _ _ _)) _ _ _
 have F : Fr g L s.heap _ := S.F
 have N : News g L s.heap _ := S.N
 k_steps
 unfold Hold
 refine Cx.go (S.put ‹_› ‹_›) fun s S => ?_
 refine Cx.seq ?_
 show wpAny (model prog w) _ (exec _ (envX _ _ _ _ _ _)) _ _ _
 refine wpAny_Assign_two (newDict_K S.F S.N T.nolimit fun B h' o F N hB lo _ _ ho _ => ?_)
 have l0 := allLt_of hB
 unfold AllLt AllLt AllLt at l0
 k_steps
 unfold Hold
 have bI : @LT.lt Nat _ I B := hB _ (.head _)
 have bA : @LT.lt Nat _ AD B := hB (AD, dictOf (E7 w.params a b t1 t2 t3 t4 t5 t6 t7) 7) (.tail _ (.head _))
 refine Cx.hideT (fun t8 => (B, o) :: (I, instObj 270 AD) :: (AD, dictOf (E8 w.params a b B t1 t2 t3 t4 t5 t6 t7 t8) 8) :: ([] : List Lk).map Lk.ob) ((S.put (s₀ := s₀) ‹Fr g L _ _› ‹News g L _ _›).sub fun p hp => hp) fun t8 s S => ?_
 refine Cx.hide (R := CF I b B) S ⟨rfl, rfl, rfl⟩ fun m s S fm => ?_
 refine Cx.seq ?_
 have f1 := fm.b
 have F : Fr g L s.heap m := S.F
 have N : News g L s.heap _ := S.N
 refine For_turns S.F ?_
 show wpAny (model prog w) _ (eval _ (envX _ _ _ _ _ _)) _ _ _
 k_steps
 unfold Hold
 refine Cx.iterE (CJ w ns I AD b B (dictOf (E8 w.params a b B t1 t2 t3 t4 t5 t6 t7 t8) 8)) (S.put (s₀ := s₀) F N) rfl hpre (list_ne hpre hL) rfl rfl (.mk o [] fm rfl ho (.start ns) (Nat.le_refl _) fun _ h => nomatch h) ?turn fun m N s hJ S => ?done
 case turn =>
  intro i x t It own m N s hx hown hoI hoI1 hoff hJ S
  obtain ⟨o, ls, fm, rfl, ho, hb, hl, hne⟩ := hJ
  obtain ⟨k, tx, rfl, hk⟩ := hi.at i x (by simpa using hx)
  have nb := base_ne hpre S.N
  have hkl := (List.getElem?_eq_some_iff.mp hk).1
  have hsz : (kvOf ls).length ≤ sizeLine := by
   rw [sizeLine_eq, kvOf, List.length_map]; lia
  have out : ∀ {x : Addr} {o' : Obj}, (x, o') ∈ (B, o) :: (I, instObj 270 AD) :: (AD, dictOf (E8 w.params a b B t1 t2 t3 t4 t5 t6 t7 t8) 8) :: ls.map Lk.ob → ∀ p ∈ own, p.1 ≠ x := fun {x o'} hx p hp e => by
   have h1 := hoff _ hx
   have h2 := nb _ (List.mem_append_left _ hx)
   rcases hown p hp with h | h | h
   ·exact h1 (by rw [← e, h]; exact .head _)
   ·exact h1 (by rw [← e, h]; exact .tail _ (.head _))
   ·exact h2 (by rw [← e, h])
  refine Cx.seq (Cx.setdef (rest := (I, instObj 270 AD) :: (AD, dictOf (E8 w.params a b B t1 t2 t3 t4 t5 t6 t7 t8) 8) :: (ls.map Lk.ob ++ own)) (k := k) (tk := tx) S fm.b2j rfl ho lo (fun p hp => ?_) hsz (fun v s hv S => ?there) (fun D o' s hn hD ho' S => ?new))
  ·rcases List.mem_cons.mp hp with rfl | hp
   ·exact Nat.ne_of_lt bI
   rcases List.mem_cons.mp hp with rfl | hp
   ·exact Nat.ne_of_lt bA
   rcases List.mem_append.mp hp with hp | hp
   ·exact ls_ne (fun q hq => (hne q hq).1) p hp
   ·exact out (.head _) p hp
  case there =>
   obtain ⟨p, ⟨qk, qa, qi, qn⟩, r, rfl, rfl, rfl⟩ := valueAt_kvOf_some hv
   dsimp only at hk ho
   have hq := hne _ (List.mem_append_right _ (.head _))
   have e0 : ∀ z : Lk, (p ++ z :: r).map Lk.ob ++ own = p.map Lk.ob ++ z.ob :: (r.map Lk.ob ++ own) := fun z => by rw [List.map_append, List.map_cons, List.append_assoc, List.cons_append]
   have hba := hb.ba
   rw [List.map_append, List.map_cons, List.nodup_append] at hba
   have hsq : qi.size ≤ 1000 := by
    have h1 : qi.size = (plc ns i qk).length := by
     have := (hb.bi _ (List.mem_append_right _ (.head _))).length
     simpa using this
    have h2 := plc_len ns i qk
    lia
   refine Cx.seq (Cx.app_ref (N1 := (B, o) :: (I, instObj 270 AD) :: (AD, dictOf (E8 w.params a b B t1 t2 t3 t4 t5 t6 t7 t8) 8) :: ((p ++ ⟨qk, qa, qi.push (.int (i : Int) t), qn + 1⟩ :: r).map Lk.ob ++ own)) (a := qa) (n := qn) (its := qi) S rfl rfl ?_ (by rw [sizeLine_eq]; lia) fun s S => Cx.nil (.next (N := (B, o) :: (I, instObj 270 AD) :: (AD, dictOf (E8 w.params a b B t1 t2 t3 t4 t5 t6 t7 t8) 8) :: (p ++ ⟨qk, qa, qi.push (.int (i : Int) t), qn + 1⟩ :: r).map Lk.ob) S (off_map (by simp [Function.comp_def]) hoff) (.mk o _ ⟨fm.self, fm.b, fm.b2j⟩ rfl (by simpa [kvOf] using ho) (hb.there hk t (qn + 1)) (by simp only [List.length_append, List.length_cons] at hl ⊢; lia) fun z hz => ?_)))
   ·rw [e0, e0]
    refine .tail (Ne.symm hq.1) (.tail (Ne.symm hq.2.1) (.tail (Ne.symm hq.2.2) (Upd.app (ls_ne fun z hz e => ?_) (app_ne (ls_ne fun z hz e => ?_) (out (o' := listOf qi qn) (.tail _ (.tail _ (.tail _ (List.mem_map_of_mem (f := Lk.ob) (a := ⟨qk, qa, qi, qn⟩) (List.mem_append_right _ (.head _)))))))))))
    ·exact hba.2.2 _ (List.mem_map_of_mem hz) _ (.head _) e
    ·have h3 : z.ad ∈ r.map (·.ad) := List.mem_map_of_mem hz
     rw [show z.ad = qa from e] at h3
     exact (List.nodup_cons.mp hba.2.1).1 h3
   ·rcases List.mem_append.mp hz with h | h
    ·exact hne z (List.mem_append_left _ h)
    rcases List.mem_cons.mp h with rfl | h
    ·exact hq
    ·exact hne z (List.mem_append_right _ (.tail _ h))
  case new =>
   have hnk := valueAt_kvOf_none hn
   have hlq : ∀ q ∈ ls, q.ad ≠ D := fun q hq => Nat.ne_of_lt (hD q.ob (.tail _ (.tail _ (.tail _ (List.mem_append_left _ (List.mem_map_of_mem hq))))))
   obtain ⟨o1, h1⟩ := hoI
   obtain ⟨o2, h2⟩ := hoI1
   refine Cx.seq (Cx.app_ref (N1 := (D, listOf #[.int (i : Int) t] (0 + 1)) :: (B, o') :: (I, instObj 270 AD) :: (AD, dictOf (E8 w.params a b B t1 t2 t3 t4 t5 t6 t7 t8) 8) :: (ls.map Lk.ob ++ own)) (a := D) (n := 0) (its := #[]) S rfl rfl (.head fun p hp => ?_) (by rw [sizeLine_eq]; exact Nat.zero_le _) fun s S => Cx.nil (.next (N := (B, o') :: (I, instObj 270 AD) :: (AD, dictOf (E8 w.params a b B t1 t2 t3 t4 t5 t6 t7 t8) 8) :: (ls ++ ([⟨k, D, #[.int (i : Int) t], 0 + 1⟩] : List Lk)).map Lk.ob) (S.sub fun p hp => ?_) (fun p hp => ?_) (.mk o' _ ⟨fm.self, fm.b, fm.b2j⟩ rfl (stored_kvOf hnk D _ _ ▸ ho') (hb.new hk hnk hlq t _) (by rw [List.length_append]; exact Nat.succ_le_succ hl) fun z hz => ?_)))
   ·rcases List.mem_cons.mp hp with rfl | hp
    ·exact Nat.ne_of_lt (hD (B, o) (.head _))
    ·exact Nat.ne_of_lt (hD p (.tail _ hp))
   ·rw [List.map_append] at hp
    simp only [List.cons_append, List.mem_cons, List.mem_append, List.map_cons, List.map_nil, List.not_mem_nil, or_false] at hp ⊢
    rcases hp with h | h | h | (h | h) | h
    ·exact .inr (.inl h)
    ·exact .inr (.inr (.inl h))
    ·exact .inr (.inr (.inr (.inl h)))
    ·exact .inr (.inr (.inr (.inr (.inl h))))
    ·exact .inl h
    ·exact .inr (.inr (.inr (.inr (.inr h))))
   ·rw [List.map_append] at hp
    rcases List.mem_cons.mp hp with rfl | hp
    ·exact hoff (B, o) (.head _)
    rcases List.mem_cons.mp hp with rfl | hp
    ·exact hoff _ (.tail _ (.head _))
    rcases List.mem_cons.mp hp with rfl | hp
    ·exact hoff _ (.tail _ (.tail _ (.head _)))
    rcases List.mem_append.mp hp with hp | hp
    ·exact hoff _ (.tail _ (.tail _ (.tail _ hp)))
    ·rw [List.mem_singleton.mp hp]
     have l1 := hD _ (.tail _ (.tail _ (.tail _ (List.mem_append_right _ h1))))
     have l2 := hD _ (.tail _ (.tail _ (.tail _ (List.mem_append_right _ h2))))
     intro e
     rcases List.mem_cons.mp e with e | e
     ·exact Nat.ne_of_gt l2 e
     ·exact Nat.ne_of_gt l1 (List.mem_singleton.mp e)
   ·rcases List.mem_append.mp hz with h | h
    ·exact hne z h
    ·rw [List.mem_singleton.mp h]
     exact ⟨Nat.ne_of_gt (hD (B, o) (.head _)), Nat.ne_of_gt (hD _ (.tail _ (.head _))), Nat.ne_of_gt (hD _ (.tail _ (.tail _ (.head _))))⟩
 case done =>
  obtain ⟨o, ls, fm, rfl, ho, hb, hl, hne⟩ := hJ
  have tA : ∀ p ∈ ls.map Lk.ob, p.1 ≠ AD := ls_ne fun q hq => (hne q hq).2.2
  rw [List.size_toArray, hi.length] at hb
  obtain ⟨tl, htl⟩ : ∃ tl, tl = ls.map Lk.ob := ⟨_, rfl⟩
  rw [← htl] at S tA
  have f1 := fm.self
  have f2 := fm.b
  clear F N
  refine Cx.seq ?_
  show wpAny (model prog w) _ (exec _ (envX _ _ _ _ _ _)) _ _ _
  refine wpAny_Assign_two ?_
  have F : Fr g L s.heap m := S.F
  have N : News g L s.heap _ := S.N
  k_steps
  unfold Hold
  rename_i J _ led hset _ lJ _ _ _ _ _ _
  obtain ⟨oj, hoj⟩ : ∃ oj : Obj, oj = { cls := .type "set", data := .set #[] 0 (SetTable.fresh 0 0 led) } := ⟨_, rfl⟩
  rw [← hoj] at hset
  refine Cx.hideT (fun t9 => (J, oj) :: (B, o) :: (I, instObj 270 AD) :: (AD, dictOf [en w.params "isjunk" t1 .none, en w.params "a" t2 (.ref a), en w.params "b" t3 (.ref b), en w.params "autojunk" t4 (.bool true), en w.params "matching_blocks" t5 .none, en w.params "opcodes" t6 .none, en w.params "fullbcount" t7 .none, en w.params "b2j" t8 (.ref B), en w.params "bjunk" t9 (.ref J)] 9) :: tl) ((S.put (s₀ := s₀) ‹Fr g L _ _› ‹News g L _ _›).sub fun p hp => hoj ▸ hp) fun t9 s S => ?_
  refine Cx.hide (R := CF I b B) S ⟨f1, f2, fm.b2j⟩ fun m s S fm => ?_
  have f1 := fm.self
  have f2 := fm.b
  have w1 : @LT.lt Nat _ AD J := lJ.2.2.1
  have w2 : @LT.lt Nat _ B J := lJ.1
  refine Cx.seq ?_
  show wpAny (model prog w) _ (exec _ (envX _ _ _ _ _ _)) _ _ _
  have F : Fr g L s.heap m := S.F
  have N : News g L s.heap _ := S.N
  k_steps
  unfold Hold
  rename_i _ F2 N2
  refine Cx.hide (R := fun m => CF I b B m ∧ m (Str.ofString "isjunk") = some .none) (S.put (s₀ := s₀) F2 N2) ⟨⟨f1, f2, fm.b2j⟩, rfl⟩ fun m s S fm => ?_
  obtain ⟨fm, f3⟩ := fm
  have f1 := fm.self
  have f2 := fm.b
  refine Cx.seq ?_
  show wpAny (model prog w) _ (exec _ (envX _ _ _ _ _ _)) _ _ _
  have F : Fr g L s.heap m := S.F
  have N : News g L s.heap _ := S.N
  k_steps
  unfold Hold
  refine Cx.go (S.put (s₀ := s₀) F N) fun s S => ?_
  refine Cx.seq ?_
  show wpAny (model prog w) _ (exec _ (envX _ _ _ _ _ _)) _ _ _
  refine wpAny_Assign_two ?_
  have F : Fr g L s.heap m := S.F
  have N : News g L s.heap _ := S.N
  k_steps
  unfold Hold
  rename_i Z _ led2 _ _ lZ _ _ _ _ F2 N2
  refine Cx.hideT (fun t10 => (I, instObj 270 AD) :: (AD, dictOf (E10 w.params a b B J Z .none .none t1 t2 t3 t4 t5 t6 t7 t8 t9 t10) 10) :: (B, o) :: (J, oj) :: tl) ((S.put (s₀ := s₀) F2 N2).sub fun p hp => mem_perm5 p hp) fun t10 s S => ?_
  refine Cx.hide (R := CF I b B) S ⟨f1, f2, fm.b2j⟩ fun m s S fm => ?_
  have f1 := fm.self
  have f2 := fm.b
  refine Cx.seq ?_
  show wpAny (model prog w) _ (exec _ (envX _ _ _ _ _ _)) _ _ _
  have F : Fr g L s.heap m := S.F
  have N : News g L s.heap _ := S.N
  k_steps
  unfold Hold
  rename_i _ F2 N2
  refine Cx.hide (R := fun m => m (Str.ofString "self") = some (.ref I) ∧ ∃ t, m (Str.ofString "n") = some (.int (ns.length : Int) t)) (S.put (s₀ := s₀) F2 N2) ⟨f1, _, rfl⟩ fun m s S fm => ?_
  obtain ⟨f1, tn, f2⟩ := fm
  refine Cx.seq ?_
  show wpAny (model prog w) _ (exec _ (envX _ _ _ _ _ _)) _ _ _
  have F : Fr g L s.heap m := S.F
  have N : News g L s.heap _ := S.N
  k_steps
  unfold Hold
  refine Cx.nil (ret .next _ m _ ((I, instObj 270 AD) :: (AD, dictOf (E10 w.params a b B J Z .none .none t1 t2 t3 t4 t5 t6 t7 t8 t9 t10) 10) :: (B, o) :: (J, oj) :: tl) (S.put (s₀ := s₀) F N) (fun p hp => hp) (.mk B J Z t8 t9 t10 o oj tl rfl rfl ⟨⟨_, ho, htl ▸ hb.done⟩, lo, hset, ⟨hI, bI, w2⟩, tA⟩))
end Mine
end
section
theorem Mine.wlCir : True := by
 k_with_none
 trivial
namespace Mine
theorem wlCi0 : True := by
 k_with_none
 k_with "Nx" => (refine' hold_out ?_)
 k_with "eval Name" => (k_here; k_dflt (refine nameX_L (by k_asm) (by first | rfl | assumption) ?_ rfl rfl); k_whole)
 k_with "call ref" => (k_here; (refine' hold_out ?_))
 trivial
noncomputable abbrev E4 (P : Params) (va vb : Value) (t1 t2 t3 t4 : Tok) : List DictEntry := [en P "isjunk" t1 .none, en P "a" t2 va, en P "b" t3 vb, en P "autojunk" t4 (.bool true)]
noncomputable abbrev E6 (P : Params) (va vb : Value) (t1 t2 t3 t4 t5 t6 : Tok) : List DictEntry := [en P "isjunk" t1 .none, en P "a" t2 va, en P "b" t3 vb, en P "autojunk" t4 (.bool true), en P "matching_blocks" t5 .none, en P "opcodes" t6 .none]
inductive SqP (w : World) (I AD a b : Nat) (t1 t2 t3 t4 : Tok) (ns : List Int) (r : Value) (pass' : List (Addr × Obj)) : Prop
 | mk (t5 t6 t7 : Tok) (h : ChP w I AD a b t1 t2 t3 t4 t5 t6 t7 ns r pass')
theorem ChP.none {w : World} {I AD a b : Nat} {t1 t2 t3 t4 t5 t6 t7 : Tok} {ns : List Int} {r : Value} {pass' : List (Addr × Obj)} (h : ChP w I AD a b t1 t2 t3 t4 t5 t6 t7 ns r pass') : ChP w I AD a b t1 t2 t3 t4 t5 t6 t7 ns .none pass' := by
 cases h with
 | mk B J Z t8 t9 t10 o oj lists hr hp hf => exact .mk B J Z t8 t9 t10 o oj lists rfl hp hf
theorem seq1 (w : World) (I AD a : Nat) (hI : @LT.lt Nat _ AD I) (t1 t2 t3 t4 : Tok) :
  CallSpec w 340 (.ref 202) [.ref I, .ref a] [(I, instObj 270 AD), (AD, dictOf (E4 w.params .none .none t1 t2 t3 t4) 4)] (fun _ => True)
   (fun r pass' => ∃ t5 t6, r = .none ∧ pass' = [(I, instObj 270 AD), (AD, dictOf (E6 w.params (.ref a) .none t1 t2 t3 t4 t5 t6) 6)]) := by
 try (unfold CallSpec prog; k_fill; fail)
 refine' spec_def (binds := [(Str.ofString "self", .ref I), (Str.ofString "a", .ref a)]) ?ho ?hcd ?hroom ?hb ?hl ?_ ?hc ?h1 ?h2 ?h3
 case ho => k_is
 case hcd => k_is
 case hroom => decide
 case hb => intro s _; exact BindsTo.of_eq rfl
 case hl => exact locs rfl
 case hc => decide
 case h1 => exact rfl
 case h2 => exact rfl
 case h3 => exact rfl
 intro mg mb g L s₀ s Q X T hpre hL S ret
 refine Cx.seq (Cx.doc S fun s S => ?_)
 refine Cx.seq ?_
 show wpAny (model prog w) _ (exec _ (envX _ _ _ _ _ _)) _ _ _
 have F : Fr g L s.heap _ := S.F
 have N : News g L s.heap _ := S.N
 k_steps
 unfold Hold
 refine Cx.go (S.put ‹_› ‹_›) fun s S => ?_
 refine Cx.seq ?_
 show wpAny (model prog w) _ (exec _ (envX _ _ _ _ _ _)) _ _ _
 have F : Fr g L s.heap _ := S.F
 have N : News g L s.heap _ := S.N
 k_steps
 unfold Hold
 refine Cx.go (S.put ‹_› ‹_›) fun s S => ?_
 refine Cx.seq ?_
 show wpAny (model prog w) _ (exec _ (envX _ _ _ _ _ _)) _ _ _
 refine wpAny_Assign_two ?_
 have F : Fr g L s.heap _ := S.F
 have N : News g L s.heap _ := S.N
 k_steps
 unfold Hold
 rename_i F1 N1
 exact Cx.nil (ret .next _ _ _ [(I, instObj 270 AD), (AD, dictOf (E6 w.params (.ref a) .none t1 t2 t3 t4 _ _) 6)] (S.put (s₀ := s₀) F1 N1) (fun p hp => hp) ⟨_, _, rfl, rfl⟩)
theorem seq2 (w : World) (I AD a b : Nat) (hI : @LT.lt Nat _ AD I) (t1 t2 t3 t4 t5 t6 : Tok) (vs : List Value) (ns : List Int) (hi : IntsAre vs ns) (hns : ns.length < 200) :
  CallSpec w 338 (.ref 209) [.ref I, .ref b] [(I, instObj 270 AD), (AD, dictOf (E6 w.params (.ref a) .none t1 t2 t3 t4 t5 t6) 6)] (fun g => g.IsList b vs.toArray)
   (fun r pass' => ∃ t7, ChP w I AD a b t1 t2 t3 t4 t5 t6 t7 ns r pass') := by
 try (unfold CallSpec prog; k_fill; fail)
 refine' spec_def (binds := [(Str.ofString "self", .ref I), (Str.ofString "b", .ref b)]) ?ho ?hcd ?hroom ?hb ?hl ?_ ?hc ?h1 ?h2 ?h3
 case ho => k_is
 case hcd => k_is
 case hroom => decide
 case hb => intro s _; exact BindsTo.of_eq rfl
 case hl => exact locs rfl
 case hc => decide
 case h1 => exact rfl
 case h2 => exact rfl
 case h3 => exact rfl
 intro mg mb g L s₀ s Q X T hpre hL S ret
 refine Cx.seq (Cx.doc S fun s S => ?_)
 refine Cx.seq ?_
 show wpAny (model prog w) _ (exec _ (envX _ _ _ _ _ _)) _ _ _
 have F : Fr g L s.heap _ := S.F
 have N : News g L s.heap _ := S.N
 k_steps
 unfold Hold
 refine Cx.go (S.put ‹_› ‹_›) fun s S => ?_
 refine Cx.seq ?_
 show wpAny (model prog w) _ (exec _ (envX _ _ _ _ _ _)) _ _ _
 have F : Fr g L s.heap _ := S.F
 have N : News g L s.heap _ := S.N
 k_steps
 unfold Hold
 refine Cx.go (S.put ‹_› ‹_›) fun s S => ?_
 refine Cx.seq ?_
 show wpAny (model prog w) _ (exec _ (envX _ _ _ _ _ _)) _ _ _
 refine wpAny_Assign_two ?_
 have F : Fr g L s.heap _ := S.F
 have N : News g L s.heap _ := S.N
 k_steps
 unfold Hold
 refine Cx.go (S.put ‹_› ‹_›) fun s S => ?_
 refine Cx.seq ?_
 show wpAny (model prog w) _ (exec _ (envX _ _ _ _ _ _)) _ _ _
 have F : Fr g L s.heap _ := S.F
 have N : News g L s.heap _ := S.N
 k_steps
 unfold Hold
 refine Cx.go (S.put ‹_› ‹_›) fun s S => ?_
 refine Cx.seq ?_
 show wpAny (model prog w) _ (exec _ (envX _ _ _ _ _ _)) _ _ _
 have F : Fr g L s.heap _ := S.F
 have N : News g L s.heap _ := S.N
 k_steps
 unfold Hold
 refine Cx.use (keep := []) (S.put (s₀ := s₀) F N) (chain w I AD a b hI t1 t2 t3 t4 t5 t6 _ vs ns hi hns) X T (fun _ _ _ h => (nomatch h)) (fun g st _ => hpre.at fun o e => st _ _ e) rfl (Nat.le_of_ble_eq_true rfl) (Nat.le_of_ble_eq_true rfl) fun r pass' s S _ hf => ?_
 rw [List.append_nil] at S
 exact Cx.nil (ret .next _ _ _ _ S (fun p hp => hp) ⟨_, hf.none⟩)
theorem seqs (w : World) (I AD a b : Nat) (hI : @LT.lt Nat _ AD I) (t1 t2 t3 t4 : Tok) (vs : List Value) (ns : List Int) (hi : IntsAre vs ns) (hns : ns.length < 200) :
  CallSpec w 336 (.ref 195) [.ref I, .ref a, .ref b] [(I, instObj 270 AD), (AD, dictOf (E4 w.params .none .none t1 t2 t3 t4) 4)] (fun g => g.IsList b vs.toArray)
   (SqP w I AD a b t1 t2 t3 t4 ns) := by
 try (unfold CallSpec prog; k_fill; fail)
 refine' spec_def (binds := [(Str.ofString "self", .ref I), (Str.ofString "a", .ref a), (Str.ofString "b", .ref b)]) ?ho ?hcd ?hroom ?hb ?hl ?_ ?hc ?h1 ?h2 ?h3
 case ho => k_is
 case hcd => k_is
 case hroom => decide
 case hb => intro s _; exact BindsTo.of_eq rfl
 case hl => exact locs rfl
 case hc => decide
 case h1 => exact rfl
 case h2 => exact rfl
 case h3 => exact rfl
 intro mg mb g L s₀ s Q X T hpre hL S ret
 refine Cx.seq (Cx.doc S fun s S => ?_)
 refine Cx.seq ?_
 show wpAny (model prog w) _ (exec _ (envX _ _ _ _ _ _)) _ _ _
 have F : Fr g L s.heap _ := S.F
 have N : News g L s.heap _ := S.N
 k_steps
 unfold Hold
 refine Cx.use (keep := []) (S.put (s₀ := s₀) F N) (seq1 w I AD a hI t1 t2 t3 t4) X T (fun _ _ _ h => (nomatch h)) (fun g st _ => trivial) rfl (Nat.le_of_ble_eq_true rfl) (Nat.le_of_ble_eq_true rfl) fun r pass' s S _ hf => ?_
 obtain ⟨t5, t6, rfl, rfl⟩ := hf
 refine Cx.seq ?_
 show wpAny (model prog w) _ (exec _ (envX _ _ _ _ _ _)) _ _ _
 have F : Fr g L s.heap _ := S.F
 have N : News g L s.heap _ := S.N
 k_steps
 unfold Hold
 refine Cx.use (keep := []) (S.put (s₀ := s₀) F N) (seq2 w I AD a b hI t1 t2 t3 t4 t5 t6 vs ns hi hns) X T (fun _ _ _ h => (nomatch h)) (fun g st _ => hpre.at fun o e => st _ _ e) rfl (Nat.le_of_ble_eq_true rfl) (Nat.le_of_ble_eq_true rfl) fun r pass' s S _ hf => ?_
 obtain ⟨t7, hf⟩ := hf
 rw [List.append_nil] at S
 exact Cx.nil (ret .next _ _ _ _ S (fun p hp => hp) ⟨t5, t6, t7, hf.none⟩)
end Mine
end
section
theorem Mine.wlSir : True := by
 k_with_none
 trivial
namespace Mine
theorem wlSi0 : True := by
 k_with_none
 k_with "Nx" => (refine' hold_out ?_)
 k_with "eval Name" => (k_here; k_dflt (refine nameX_L (by k_asm) (by first | rfl | assumption) ?_ rfl rfl); k_whole)
 k_with "call ref" => (k_here; (refine' hold_out ?_))
 trivial
noncomputable def CodeSpec (w : World) (d : Nat) (f : Value) (args : List Value) (pass : List (Addr × Obj)) (pre : Heap → Prop) (post : Value → List (Addr × Obj) → Prop) : Prop :=
 ∀ (mg mb : Str → Option Value) (s : Shared) (g : Heap) (Q E : Value → Shared → Prop), (KN w.params).In g → TR mg mb g → pre g → (∀ b o, g.get? b = some o → s.heap.get? b = some o) → g.objs.size ≤ s.heap.objs.size →
  (∀ p ∈ pass, s.heap.get? p.1 = some p.2 ∧ g.get? p.1 = none) →
  (∀ r pass' h' tk', (∀ b o, g.get? b = some o → h'.get? b = some o) → (∀ p ∈ pass', h'.get? p.1 = some p.2 ∧ g.get? p.1 = none) → post r pass' → Q r { s with heap := h', toks := tk' }) →
  codeAny (model prog w) (AA d) (.call f ⟨args, []⟩) (fun r s' => match r with | .ok (.ret v) => Q v s' | .ok _ => False | .error e => E e s') s
theorem use_specC {w : World} {d : Nat} {f : Value} {args : List Value} {pass keep : List (Addr × Obj)} {pre : Heap → Prop} {post : Value → List (Addr × Obj) → Prop} (C : CodeSpec w d f args pass pre post)
  {mg mb : Str → Option Value} {A : Around} {s : Shared} {h₀ : Heap} {L : Addr} {m : Str → Option Value} {Q E : Value → Shared → Prop} (F : Fr h₀ L s.heap m) (N : News h₀ L s.heap (pass ++ keep)) (X : (KN w.params).In h₀) (T : TR mg mb h₀)
  (off : ∀ p ∈ pass, ∀ q ∈ keep, p.1 ≠ q.1) (hpre : ∀ g, (∀ b o, h₀.get? b = some o → g.get? b = some o) → (∀ q ∈ keep, g.get? q.1 = some q.2) → pre g)
  (hh : A.handled = none) (hd : A.depth ≤ d) (hu : A.units ≤ 10 * d)
  (ret : ∀ r pass' h' tk', Fr h₀ L h' m → News h₀ L h' (pass' ++ keep) → (∀ p ∈ pass', ∀ q ∈ keep, p.1 ≠ q.1) → post r pass' → Q r { s with heap := h', toks := tk' }) : codeAny (model prog w) A (.call f ⟨args, []⟩) (fun r s' => match r with | .ok (.ret v) => Q v s' | .ok _ => False | .error e => E e s') s := by
 obtain ⟨oL, es, ep, hL, r⟩ := F.ns
 have nP : ∀ b o, h₀.get? b = some o → b ∉ pass.map (·.1) := fun b o e q => by
  obtain ⟨p, hp, rfl⟩ := List.mem_map.mp q
  rw [(N p (List.mem_append_left _ hp)).2.2] at e; cases e
 have st0 : ∀ b o, h₀.get? b = some o → (hideAll s.heap (pass.map (·.1))).get? b = some o := fun b o e => hideAll_get _ (F.keep b o e) (nP b o e)
 have hkeep : ∀ q ∈ keep, (hideAll s.heap (pass.map (·.1))).get? q.1 = some q.2 := fun q hq => hideAll_get _ (N q (List.mem_append_right _ hq)).1 fun z => by
  obtain ⟨p, hp, e⟩ := List.mem_map.mp z
  exact off p hp q hq e
 have nL : L ∉ pass.map (·.1) := fun q => by
  obtain ⟨p, hp, e⟩ := List.mem_map.mp q
  exact (N p (List.mem_append_left _ hp)).2.1 e
 have hLg := hideAll_get (pass.map (·.1)) hL nL
 refine code_weaken (C mg mb s (hideAll s.heap (pass.map (·.1))) Q E (X.keeps st0) (T.keeps st0) (hpre _ st0 hkeep) (fun b o e => of_hideAll _ e) (Nat.le_of_eq (hideAll_size _ _))
  (fun p hp => ⟨(N p (List.mem_append_left _ hp)).1, hideAll_none _ (List.mem_map_of_mem hp)⟩) fun rv pass' h' tk' hk hp hpost => ?_) hh hd hu
 have neq : ∀ p ∈ pass', ∀ b o, (hideAll s.heap (pass.map (·.1))).get? b = some o → p.1 ≠ b := fun p hp' b o e q => by
  have := (hp p hp').2; rw [q, e] at this; cases this
 refine ret rv pass' h' tk' ⟨⟨oL, es, ep, hk _ _ hLg, r⟩, fun b o e => hk _ _ (st0 b o e), F.above⟩ (fun p hp' => ?_) (fun p hp' q hq => neq p hp' _ _ (hkeep q hq)) hpost
 rcases List.mem_append.mp hp' with z | z
 ·refine ⟨(hp p z).1, neq p z _ _ hLg, ?_⟩
  cases e : h₀.get? p.1 with
  | none => rfl
  | some o => exact absurd rfl (neq p z _ _ (st0 _ _ e))
 ·exact ⟨hk _ _ (hkeep p z), (N p (List.mem_append_right _ z)).2⟩
theorem Cx.hideT4 {C : Cx} {s₀ s : Shared} {m : Str → Option Value} {t1 t2 t3 t4 : Tok} {P : Shared → Prop} (ν : Tok → Tok → Tok → Tok → List (Addr × Obj)) (S : C.St s₀ m (ν t1 t2 t3 t4) s) (h : ∀ t1 t2 t3 t4 s, C.St s₀ m (ν t1 t2 t3 t4) s → P s) : P s := h _ _ _ _ s S
theorem spec_defC {w : World} {d : Nat} {f : Addr} {args : List Value} {pass : List (Addr × Obj)} {pre : Heap → Prop} {post : Value → List (Addr × Obj) → Prop} {binds : List (Str × Value)}
  {name qual : Str} {params : Arguments} {body : List Stmt} {scope : Scope} {dV kV doc pm cdv ct oc : Value} {an od : Option Addr} {osl : Array (Option Value)}
  (ho : (KN w.params).lookup f = some ⟨oc, od, .func (fnX name qual params body scope [] dV kV doc pm an cdv ct), osl⟩) (hcd : codeIn (KN w.params) cdv qual = true) (hroom : d < recursionLimit)
  (hbind : ∀ s, (KN w.params).In s.heap → BindsTo s (fnX name qual params body scope [] dV kV doc pm an cdv ct) ⟨args, []⟩ binds) (hloc : ∀ y ∈ binds, scope.names.lookup y.1 = some .local)
  (h : ∀ (mg mb : Str → Option Value) (g : Heap) (L : Addr) (s₀ s : Shared) (Q : Flow → Shared → Prop), (KN w.params).In g → TR mg mb g → pre g → @LE.le Nat _ g.objs.size L →
   (cxF w d qual scope f cdv g L).St s₀ (fun y => binds.reverse.lookup y) pass s →
   (∀ fl s' m N pass', (cxF w d qual scope f cdv g L).St s₀ m N s' → (∀ p ∈ pass', p ∈ N) → post (match fl with | .ret v => v | _ => .none) pass' → Q fl s') →
   (cxF w d qual scope f cdv g L).Ws body Q s)
  (hcell : ∀ x ∈ scope.names, x.2 ≠ .cell) (hco : scope.isCoroutine = false := by rfl) (hgen : scope.isGenerator = false := by rfl) (hk : scope.kind = .function := by rfl) : CodeSpec w d (.ref f) args pass pre post := by
 intro mg mb s g Q E X T hpre st sz N hret
 refine enter_defC (binds := binds) X T st sz N (st _ _ (X _ _ ho)) (codeRec_of (Frag.In.keeps X st) hcd) hroom (hbind s (Frag.In.keeps X st)) hloc (fun L h₁ F1 N1 hL => ?_) hcell hco hgen hk
 refine h mg mb g L s _ _ X T hpre hL ⟨Same.start _ _, F1, N1⟩ fun fl s' m N' pass' S hp hpost => ?_
 rw [S.e.e]
 exact hret _ pass' _ _ (Fr.keep S.F) (fun p q => ⟨(S.N p (hp p q)).1, (S.N p (hp p q)).2.2⟩) hpost
inductive InP (w : World) (I AD a b : Nat) (ns : List Int) (r : Value) (pass' : List (Addr × Obj)) : Prop
 | mk (B J Z : Nat) (t1 t2 t3 t4 t5 t6 t7 t8 t9 t10 : Tok) (o oj : Obj) (lists : List (Addr × Obj)) (hr : r = .none) (hp : pass' = (I, instObj 270 AD) :: (AD, dictOf (E10 w.params a b B J Z .none .none t1 t2 t3 t4 t5 t6 t7 t8 t9 t10) 10) :: (B, o) :: (J, oj) :: lists) (hf : SmF w I AD B J ns o oj lists)
theorem sinitC (w : World) (I AD a b : Nat) (hI : @LT.lt Nat _ AD I) (vs : List Value) (ns : List Int) (hi : IntsAre vs ns) (hns : ns.length < 200) :
  CodeSpec w 334 (.ref 188) [.ref I, .none, .ref a, .ref b] [(I, instObj 270 AD), (AD, dictOf [] 0)] (fun g => g.IsList b vs.toArray)
   (InP w I AD a b ns) := by
 try (unfold CodeSpec prog; k_fill; fail)
 refine' spec_defC (binds := [(Str.ofString "self", .ref I), (Str.ofString "isjunk", .none), (Str.ofString "a", .ref a), (Str.ofString "b", .ref b), (Str.ofString "autojunk", .bool true)]) ?ho ?hcd ?hroom ?hb ?hl ?_ ?hc ?h1 ?h2 ?h3
 case ho => k_is
 case hcd => k_is
 case hroom => decide
 case hb => intro s X; first | exact BindsTo.of_eq rfl | exact binds_K X rfl (by k_is) rfl rfl rfl
 case hl => exact locs rfl
 case hc => decide
 case h1 => exact rfl
 case h2 => exact rfl
 case h3 => exact rfl
 intro mg mb g L s₀ s Q X T hpre hL S ret
 refine Cx.seq (Cx.doc S fun s S => ?_)
 refine Cx.seq ?_
 show wpAny (model prog w) _ (exec _ (envX _ _ _ _ _ _)) _ _ _
 have F : Fr g L s.heap _ := S.F
 have N : News g L s.heap _ := S.N
 k_steps
 unfold Hold
 refine Cx.go (S.put ‹_› ‹_›) fun s S => ?_
 refine Cx.seq ?_
 show wpAny (model prog w) _ (exec _ (envX _ _ _ _ _ _)) _ _ _
 refine wpAny_Assign_two ?_
 have F : Fr g L s.heap _ := S.F
 have N : News g L s.heap _ := S.N
 k_steps
 unfold Hold
 refine Cx.go (S.put ‹_› ‹_›) fun s S => ?_
 refine Cx.seq ?_
 show wpAny (model prog w) _ (exec _ (envX _ _ _ _ _ _)) _ _ _
 have F : Fr g L s.heap _ := S.F
 have N : News g L s.heap _ := S.N
 k_steps
 unfold Hold
 refine Cx.go (S.put ‹_› ‹_›) fun s S => ?_
 refine Cx.seq ?_
 show wpAny (model prog w) _ (exec _ (envX _ _ _ _ _ _)) _ _ _
 have F : Fr g L s.heap _ := S.F
 have N : News g L s.heap _ := S.N
 k_steps
 unfold Hold
 refine Cx.hideT4 (ν := fun t1 t2 t3 t4 => [(I, instObj 270 AD), (AD, dictOf (E4 w.params .none .none t1 t2 t3 t4) 4)]) (S.put (s₀ := s₀) F N) fun t1 t2 t3 t4 s S => ?_
 refine Cx.use (keep := []) (pass := [(I, instObj 270 AD), (AD, dictOf (E4 w.params .none .none t1 t2 t3 t4) 4)]) S (seqs w I AD a b hI t1 t2 t3 t4 vs ns hi hns) X T (fun _ _ _ h => (nomatch h)) (fun g st _ => hpre.at fun o e => st _ _ e) rfl (Nat.le_of_ble_eq_true rfl) (Nat.le_of_ble_eq_true rfl) fun r pass' s S _ hf => ?_
 obtain ⟨t5, t6, t7, ⟨B, J, Z, t8, t9, t10, o, oj, lists, hr, hp, hf⟩⟩ := hf
 rw [List.append_nil] at S
 exact Cx.nil (ret .next _ _ _ _ S (fun p hp => hp) ⟨B, J, Z, t1, t2, t3, t4, t5, t6, t7, t8, t9, t10, o, oj, lists, rfl, hp, hf⟩)
theorem make_spec {w : World} {d C fI : Nat} {pos : List Value} {all : List (Addr × Obj)} {pre : Heap → Prop} {post : Nat → Nat → Value → List (Addr × Obj) → Prop} (S : ∀ x dx : Nat, @LT.lt Nat _ dx x → CodeSpec w d (.ref fI) (.ref x :: pos) [(x, instObj C dx), (dx, dictOf [] 0)] pre (post x dx))
  {mg mb : Str → Option Value} {A : Around} {s : Shared} {h₀ : Heap} {L : Addr} {m : Str → Option Value} {Q E : Value → Shared → Prop} (F : Fr h₀ L s.heap m) (N : News h₀ L s.heap all) (X : (KN w.params).In h₀) (T : TR mg mb h₀)
  (hm : makesIn (KN w.params) C = true) (hi : findIn (KN w.params) (.ref C) "__init__" = some (some (.ref fI))) (hf : isFn (KN w.params) (.ref fI) = true)
  (hpre : ∀ g, (∀ b o, h₀.get? b = some o → g.get? b = some o) → (∀ q ∈ all, g.get? q.1 = some q.2) → pre g) (hnone : ∀ x dx r p, post x dx r p → r = .none)
  (hh : A.handled = none) (hd : A.depth + 10 ≤ d) (hu : A.units + 100 ≤ 10 * d) (hw1 : (Code.builtin "type.__call__" ⟨.ref C :: pos, []⟩).weight ≤ 10) (hw2 : (Code.builtin "type.__call__" ⟨.ref C :: pos, []⟩).cUnits ≤ 100)
  (ret : ∀ (x dx : Nat) r pass' h' tk', @LT.lt Nat _ dx x → Fr h₀ L h' m → News h₀ L h' (pass' ++ all) → (∀ p ∈ pass', ∀ q ∈ all, p.1 ≠ q.1) → post x dx r pass' → Q (.ref x) { s with heap := h', toks := tk' }) :
  wpAny (model prog w) A (call (.ref C) pos) Q E s := by
 refine call_cls F X N (fI := fI) hm hi hf (fun x dx h' F1 N1 l1 l2 => ?_)
 obtain ⟨e1, e2, e3⟩ := mu_dep (A := A) (i := "type.__call__") (args := ⟨.ref C :: pos, []⟩) hw1 hw2
 have ox : ∀ p ∈ all, p.1 ≠ x ∧ p.1 ≠ dx := fun p hp => ⟨Nat.ne_of_lt (Nat.lt_trans (l1 p hp) l2), Nat.ne_of_lt (l1 p hp)⟩
 refine codeAny_mono (use_specC (keep := all) (Q := fun v s' => v = .none ∧ Q (.ref x) s') (E := E) (S x dx l2) F1 N1 X T ?off hpre (e3.trans hh) (Nat.le_trans e1 hd) (Nat.le_trans e2 hu) ?_) ?mono
 case off =>
  intro p hp q hq
  simp only [List.mem_cons, List.not_mem_nil, or_false] at hp
  rcases hp with rfl | rfl
  ·exact (ox q hq).1.symm
  ·exact (ox q hq).2.symm
 case mono =>
  rintro r s' z
  rcases r with e | (v | _ | _ | _)
  ·exact z
  all_goals first | exact z | exact z.elim
 intro r pass' h2 tk2 F2 N2 off hpost
 exact ⟨hnone _ _ _ _ hpost, ret x dx r pass' h2 tk2 l2 F2 N2 off hpost⟩
end Mine
end
section
theorem Mine.wlSt14r : True := by
 k_with_none
 trivial
namespace Mine
theorem wlSt140 : True := by
 k_with_none
 k_with "call ref" => (k_here; (refine' HoldX.h ?_))
 k_with "eval Name" => (k_here; (with_reducible show wpAny _ _ (eval (Expr.Name _ _) (envX _ _ _ _ _ _)) _ _ _); k_dflt (refine' nameX_L ?F ?v ?_ ?a ?b; (case a => rfl); (case b => rfl); (case F => k_asm); (case v => assumption); k_whole))
 trivial
theorem st14 (w : World) (s : Shared) (g : Heap) (mg mb m : Str → Option Value) (D10 D12 : Addr) (n10 n12 : Nat) (va vb : List Value) (b : List Qu) (f : Qu → Bool) (zq : Qu → Int) (inj : ∀ x y, zq x = zq y → x = y) (hZ : Safe b f) (ha : IntsAre va ((unfl b f).map zq)) (hb : IntsAre vb (b.map zq)) (hz1 : (unfl b f).length ≤ 31) (hz2 : b.length < 200)
  (all : List (Addr × Obj)) (Q : Flow → Shared → Prop) (E : Value → Shared → Prop) (hm1 : m (Str.ofString "before") = some (.ref D10)) (hm2 : m (Str.ofString "after") = some (.ref D12)) (F : Fr g 318 s.heap m) (N : News g 318 s.heap all)
  (m1 : (D10, listOf va.toArray n10) ∈ all) (m2 : (D12, listOf vb.toArray n12) ∈ all)
  (ret : ∀ AL an avs objs cs h tk all', Fr g 318 h (fun y => if y = Str.ofString "codes" then some (.ref AL) else m y) → News g 318 h all' → Kept [] all all' → (AL, listOf (List.toArray avs) an) ∈ all' → (∀ p ∈ objs, p ∈ all') → CAre objs avs cs → Codes b f 0 cs → (∀ p ∈ all, p.1 ≠ AL) → (∀ p ∈ all, ∀ q ∈ objs, p.1 ≠ q.1) → Q .next { s with heap := h, toks := tk }) :
  (KN w.params).In g → TR mg mb g → wpAny (model PySem.Challenge.rw_ik0098_01.row.prog w) (AL w.params) (exec (lawT w.params).a8 (lawE w.params)) Q E s := by
 rw [lawE_eq, (lawT w.params).hs.eq]
 dsimp only [lawT]
 k_fill
 intro X T
 k_steps
 refine ⟨?_⟩
 refine make_spec (fI := 188) (d := 334) (fun x dx l2 => sinitC w x dx D10 D12 l2 vb (b.map zq) hb (by rw [List.length_map]; exact hz2)) F N X T (by kernel_rfl) (by kernel_rfl) (by kernel_rfl) (fun g2 _ hk => ⟨_, hk _ m2, rfl, _, rfl⟩) (fun x dx r p h => by cases h; assumption)
  rfl (Nat.le_of_ble_eq_true rfl) (Nat.le_of_ble_eq_true rfl) (Nat.le_of_ble_eq_true (by kernel_rfl)) (Nat.le_of_ble_eq_true (by kernel_rfl)) ?_
 rintro x dx r pass' h2 tk2 l2 F2 N2 off2 ⟨B, J, Z, t1, t2, t3, t4, t5, t6, t7, t8, t9, t10, o, oj, lists, rfl, rfl, hf⟩
 have N3 : News g 318 h2 ((x, instObj 270 dx) :: (dx, dictOf (E10 w.params D10 D12 B J Z .none .none t1 t2 t3 t4 t5 t6 t7 t8 t9 t10) 10) :: (((B, o) :: (J, oj) :: lists) ++ all)) := N2
 generalize hrest : (((B, o) :: (J, oj) :: lists) ++ all) = rest at N3
 clear N
 have N9 := N2
 clear N2
 k_steps
 refine ⟨?_⟩
 subst hrest
 refine use_spec (keep := all) (gop w x dx D10 D12 B J Z t1 t2 t3 t4 t5 t6 t7 t8 t9 t10 va vb b f zq inj hZ ((unfl b f).map zq) (b.map zq) rfl rfl ha hb o oj lists hf hz1 hz2) F2 N9 X T off2 (fun g2 _ hk => ⟨⟨_, hk _ m1, rfl, _, rfl⟩, ⟨_, hk _ m2, rfl, _, rfl⟩⟩) rfl (Nat.le_of_ble_eq_true rfl) (Nat.le_of_ble_eq_true rfl) ?_
 rintro r' pass2 h3 tk3 F5 N5 off5 ⟨AL', an, avs, objs, cs, rfl, rfl, hC, hCo⟩
 refine storeX_L F5 N5 (fun h3' F6 N6 => ?_)
 exact ret AL' an avs objs cs h3' _ _ F6 N6 (fun p hp _ => List.mem_append_right _ hp) (.head _) (fun p hp => .tail _ (List.mem_append_left _ hp)) hC hCo (fun p hp e => off5 _ (.head _) p hp e.symm) (fun p hp q hq e => off5 q (.tail _ hq) p hp e.symm)
end Mine
end
section
namespace Mine
noncomputable abbrev NoE : Value → Shared → Prop := fun _ _ => False
section
variable {prog : Program} {w : World} {A : Around} {s : Shared} {h₀ : Heap} {L : Addr} {m : Str → Option Value}
theorem codeAny_cl {elt : PySem.Expr} {gens : List Comprehension} {scope : Scope} {pos : Pos} {d : Nat} {target : PySem.Expr} {ip : Pos} {it acc : Value} {cenv : Env} {tests : Sem Bool} {X : Sem Unit} {R : Result → Shared → Prop}
  (heq : compTurn (.ListComp elt gens scope pos) d it acc cenv = (standAt ip >>= fun _ => pyNext it >>= fun r => match r with
   | none => pure (.done .next)
   | some v => letOwnedTupleGo target it v >>= fun _ => assign target cenv v >>= fun _ => tests >>= fun ok => if ok = true then X >>= fun _ => again (.compLoop (.ListComp elt gens scope pos) d it acc cenv) else again (.compLoop (.ListComp elt gens scope pos) d it acc cenv)))
  (I : Nat → Shared → Prop)
  (turn : ∀ n s, I n s → wpAny (model prog w) A (pyNext it) (fun r s₁ => match r with
   | none => R (.ok .next) s₁
   | some v => wpAny (model prog w) A (letOwnedTupleGo target it v) (fun _ s₂ => wpAny (model prog w) A (assign target cenv v) (fun _ s₃ => wpAny (model prog w) A tests (fun ok s₄ => if ok = true then wpAny (model prog w) A X (fun _ s₅ => ∃ m, m < n ∧ I m s₅) NoE s₄ else ∃ m, m < n ∧ I m s₄) NoE s₃) NoE s₂) NoE s₁) NoE s)
  (n : Nat) (h : I n s) : codeAny (model prog w) A (.compLoop (.ListComp elt gens scope pos) d it acc cenv) R s := by
 refine codeAny_loop rfl I (fun n s hI => ?_) n h
 have key : wpAny (model prog w) A (compTurn (.ListComp elt gens scope pos) d it acc cenv) (fun fin s' => match fin with | .done f => R (.ok f) s' | .again c' => c' = .compLoop (.ListComp elt gens scope pos) d it acc cenv ∧ ∃ m, m < n ∧ I m s') NoE s := by
  rw [heq]
  refine wpAny_bind (wpAny_standAt (wpAny_bind (wpAny_mono (turn n s hI) (fun r s₁ h₁ => ?_) fun _ _ h' => h')))
  cases r with
  | none => exact wpAny_pure h₁
  | some v =>
   refine wpAny_bind (wpAny_mono h₁ (fun _ s₂ h₂ => wpAny_bind (wpAny_mono h₂ (fun _ s₃ h₃ => wpAny_bind (wpAny_mono h₃ (fun ok s₄ h₄ => ?_) fun _ _ h' => h')) fun _ _ h' => h')) fun _ _ h' => h')
   cases ok with
   | false => exact wpAny_pure ⟨rfl, h₄⟩
   | true => exact wpAny_bind (wpAny_mono h₄ (fun _ s₅ h₅ => wpAny_pure ⟨rfl, h₅⟩) fun _ _ h' => h')
 show wpAny _ A ((compTurn (.ListComp elt gens scope pos) d it acc cenv).onRaise (fun x => do noteFrame x cenv; theTreesLotGoes x)) _ _ s
 exact wpAny_onRaise (wpAny_mono key (fun _ _ q => q) fun _ _ h' => h'.elim)
structure LS (h₀ : Heap) (L : Addr) (m : Str → Option Value) (wr : List Addr) (C D : Addr) (h : Heap) (m₂ : Str → Option Value) (ys : List Value) (news : List (Addr × Obj)) : Prop where
 fr : Fr h₀ L h m
 nw : News h₀ L h news
 ns : h.Ns C m₂
 ls : h.get? D = some (LCg.lst ys)
 off : ∀ p ∈ news, p.1 ≠ C ∧ p.1 ≠ D ∧ p.1 ∉ wr
 cd : C ≠ D
 cL : C ≠ L
 dL : D ≠ L
 c0 : h₀.get? C = none
 d0 : h₀.get? D = none
inductive TE (h₀ : Heap) (L : Addr) (m : Str → Option Value) (wr : List Addr) (C D : Addr) (own : List (Addr × Obj)) (J : (Str → Option Value) → List Value → List (Addr × Obj) → Prop) (s₁ s' : Shared) : Prop
 | mk (h' : Heap) (tk' : Nat) (m' : Str → Option Value) (ys' : List Value) (news' : List (Addr × Obj)) (e : s' = { s₁ with heap := h', toks := tk' }) (S : LS h₀ L m wr C D h' m' ys' news') (O : News h₀ L h' own) (j : J m' ys' news')
inductive TI (h₀ : Heap) (L : Addr) (m : Str → Option Value) (wr : List Addr) (C D : Addr) (n : Nat) (St : Nat → Heap → Prop) (J : Nat → (Str → Option Value) → List Value → List (Addr × Obj) → Prop) (s : Shared) (k : Nat) (s' : Shared) : Prop
 | mk (h' : Heap) (tk i : Nat) (m₁ : Str → Option Value) (ys₁ : List Value) (news₁ : List (Addr × Obj)) (e : s' = { s with heap := h', toks := tk }) (st : St i h') (S : LS h₀ L m wr C D h' m₁ ys₁ news₁) (j : J i m₁ ys₁ news₁) (hi : i ≤ n) (hk : k = n + 1 - i)
theorem comp_loop {target : PySem.Expr} {I C D : Addr} {fp wr : List Addr} {n : Nat} {P Md : Nat → Value → Heap → Prop} {St : Nat → Heap → Prop} (W : KTurns prog w A target I fp wr n P Md St)
  {elt : PySem.Expr} {gens : List Comprehension} {scope : Scope} {pos : Pos} {d : Nat} {ip : Pos} {cenv : Env} {tests : Sem Bool} {X : Sem Unit} {R : Result → Shared → Prop} {m₂ : Str → Option Value} {ys : List Value} {news : List (Addr × Obj)}
  (heq : compTurn (.ListComp elt gens scope pos) d (.ref I) (.ref D) cenv = (standAt ip >>= fun _ => pyNext (.ref I) >>= fun r => match r with
   | none => pure (.done .next)
   | some v => letOwnedTupleGo target (.ref I) v >>= fun _ => assign target cenv v >>= fun _ => tests >>= fun ok => if ok = true then X >>= fun _ => again (.compLoop (.ListComp elt gens scope pos) d (.ref I) (.ref D) cenv) else again (.compLoop (.ListComp elt gens scope pos) d (.ref I) (.ref D) cenv)))
  (J : Nat → (Str → Option Value) → List Value → List (Addr × Obj) → Prop) (hL : L ∉ fp) (hC : C ∉ fp) (hD : D ∉ fp) (hwr : ∀ b ∈ wr, h₀.get? b = none)
  (st : St 0 s.heap) (S : LS h₀ L m wr C D s.heap m₂ ys news) (j : J 0 m₂ ys news)
  (turn : ∀ i v m₁ ys₁ news₁ h tk own, i < n → P i v h → J i m₁ ys₁ news₁ → LS h₀ L m wr C D h m₁ ys₁ news₁ → News h₀ L h own → (∀ p ∈ own, p.1 ∈ fp) → (∀ b ∈ fp, h₀.get? b = none → ∀ o, h.get? b = some o → (b, o) ∈ own) → St (i + 1) h →
   wpAny (model prog w) A (assign target cenv v) (fun _ s₃ => wpAny (model prog w) A tests (fun ok s₄ => if ok = true then wpAny (model prog w) A X (fun _ s₅ => TE h₀ L m wr C D own (J (i + 1)) { s with heap := h, toks := tk } s₅) NoE s₄
    else TE h₀ L m wr C D own (J (i + 1)) { s with heap := h, toks := tk } s₄) NoE s₃) NoE { s with heap := h, toks := tk })
  (done : ∀ h tk m₁ ys₁ news₁, LS h₀ L m wr C D h m₁ ys₁ news₁ → J n m₁ ys₁ news₁ → R (.ok .next) { s with heap := h, toks := tk }) :
  codeAny (model prog w) A (.compLoop (.ListComp elt gens scope pos) d (.ref I) (.ref D) cenv) R s := by
 have old : ∀ b o, h₀.get? b = some o → b ∉ wr := fun b o e hb => by rw [hwr b hb] at e; cases e
 have next : ∀ (h' h₁ : Heap) m₁ ys₁ news₁, LS h₀ L m wr C D h' m₁ ys₁ news₁ → (∀ b o, b ∉ wr → h'.get? b = some o → h₁.get? b = some o) → LS h₀ L m wr C D h₁ m₁ ys₁ news₁ := fun h' h₁ m₁ ys₁ news₁ T hk =>
  ⟨⟨T.fr.ns.at' fun o e => hk _ o (fun q => hL (W.sub _ q)) e, fun b o e => hk b o (old b o e) (T.fr.keep b o e), T.fr.above⟩, fun p hp => ⟨hk _ _ (T.off p hp).2.2 (T.nw p hp).1, (T.nw p hp).2⟩,
   T.ns.at' fun o e => hk _ o (fun q => hC (W.sub _ q)) e, hk _ _ (fun q => hD (W.sub _ q)) T.ls, T.off, T.cd, T.cL, T.dL, T.c0, T.d0⟩
 refine codeAny_cl heq (TI h₀ L m wr C D n St J s) ?_ (n + 1)
  ⟨s.heap, s.toks, 0, m₂, ys, news, rfl, st, S, j, Nat.zero_le _, rfl⟩
 rintro k s' ⟨h', tk, i, m₁, ys₁, news₁, rfl, st', S', j', hi, rfl⟩
 by_cases hlt : i < n
 ·refine W.item i _ _ _ hlt st' fun v h₁ tk₁ hMd hk₁ => ?_
  dsimp only
  refine W.go i v _ _ _ hMd fun h₂ hP st₂ hk₂ => ?_
  have S₂ := next _ _ _ _ _ (next _ _ _ _ _ S' hk₁) hk₂
  have fin : ∀ s₅, TE h₀ L m wr C D (PyProof.Rows.ownOf h₀ fp h₂) (J (i + 1)) { s with heap := h₂, toks := tk₁ } s₅ → ∃ k', k' < n + 1 - i ∧ TI h₀ L m wr C D n St J s k' s₅ := by
   rintro s₅ ⟨h', tk', m', ys', news', rfl, S5, O5, j5⟩
   refine ⟨n + 1 - (i + 1), by lia, h', tk', i + 1, m', ys', news', rfl, W.frame _ _ _ st₂ fun b hb o e => ?_, S5, j5, hlt, rfl⟩
   cases hn : h₀.get? b with
   | some o₀ =>
    have : o₀ = o := by have q := S₂.fr.keep b o₀ hn; rw [e] at q; exact (Option.some.inj q).symm
    exact this ▸ S5.fr.keep b o₀ hn
   | none => exact (O5 _ (mem_ownOf hb hn e)).1
  refine wpAny_mono (turn i v m₁ ys₁ news₁ h₂ tk₁ (PyProof.Rows.ownOf h₀ fp h₂) hlt hP j' S₂ (news_ownOf hL) ownOf_sub (fun b hb hn o e => mem_ownOf hb hn e) st₂) (fun _ s₃ h₃ => wpAny_mono h₃ (fun ok s₄ h₄ => ?_) fun _ _ e => e) fun _ _ e => e
  cases ok with
  | true =>
   simp only [if_true] at h₄ ⊢
   exact wpAny_mono h₄ (fun _ s₅ h₅ => fin s₅ h₅) fun _ _ e => e
  | false =>
   simp only [Bool.false_eq_true, if_false] at h₄ ⊢
   exact fin s₄ h₄
 ·obtain rfl : i = n := Nat.le_antisymm hi (Nat.not_lt.mp hlt)
  refine W.done _ _ _ st' fun h₁ tk₁ hk₁ => ?_
  exact done h₁ tk₁ m₁ ys₁ news₁ (next _ _ _ _ _ S' hk₁) j'
theorem comp_block {elt target iter : PySem.Expr} {ifs : List PySem.Expr} {rest : List Comprehension} {scope : Scope} {cl : List (Str × Addr)} {pos : Pos} {env : Env} {s₂ : Shared} {I : Addr} {fp wr : List Addr} {St : Nat → Heap → Prop} {news : List (Addr × Obj)} {E : Value → Shared → Prop}
  {RR : Value → Addr → Result → Shared → Prop} (hfr : ∀ i h h', St i h → (∀ b ∈ fp, ∀ o, h.get? b = some o → h'.get? b = some o) → St i h') (hself : ∀ i (s : Shared) (Q : Value → Shared → Prop) (E : Value → Shared → Prop), St i s.heap → Q (.ref I) s → wpAny (model prog w) A (pyIter (.ref I)) Q E s)
  (hcell : ∀ y ∈ scope.names, y.2 ≠ .cell) (hkind : scope.kind = .function) (hst : St 0 s₂.heap) (hfp : ∀ b ∈ fp, b < s₂.heap.objs.size) (F : Fr h₀ L s₂.heap m) (N : News h₀ L s₂.heap news) (hwr : ∀ p ∈ news, p.1 ∉ wr)
  (main : ∀ C D h tk m₂, C ∉ fp → D ∉ fp → s₂.heap.objs.size ≤ C → s₂.heap.objs.size ≤ D → St 0 h → LS h₀ L m wr C D h m₂ [] news →
   codeAny (model prog w) A (.compLoop (.ListComp elt (⟨target, iter, ifs, 0⟩ :: rest) scope pos) 0 (.ref I) (.ref D) (compEnvC scope cl C env)) (RR (.ref D) C) { s₂ with heap := h, toks := tk }) :
  wpAny (model prog w) A (newList []) (fun acc s₃ => wpAny (model prog w) A (newFunctionEnv scope env.globals cl [] env.qual none .none (some env)) (fun cenv s₄ =>
   codeAny (model prog w) A (.compStart (.ListComp elt (⟨target, iter, ifs, 0⟩ :: rest) scope pos) 0 (.ref I) acc { cenv with scope := relabel scope env }) (RR acc cenv.locals) s₄) E s₃) E s₂ := by
 refine wpAny_newObj_type (wpAny_newFunctionEnv hcell (by intro y hy; simp at hy) (fun h₁ hns₁ hsb₁ => ?_) hkind)
 dsimp only at hns₁ hsb₁ ⊢
 generalize hH2 : s₂.heap.push { cls := .type "list", dict := none, data := .seq ([] : List Value).toArray } = H2 at hns₁ hsb₁ ⊢
 have hC : H2.objs.size = s₂.heap.objs.size + 1 := by rw [← hH2, Heap.size_push]
 have hDC : s₂.heap.objs.size ≠ H2.objs.size := by rw [hC]; exact Nat.ne_of_lt (Nat.lt_succ_self _)
 have below : ∀ b, b < s₂.heap.objs.size → b ≠ H2.objs.size ∧ b ≠ s₂.heap.objs.size := fun b hb => ⟨by rw [hC]; exact Nat.ne_of_lt (Nat.lt_succ_of_lt hb), Nat.ne_of_lt hb⟩
 have hDf : s₂.heap.objs.size ∉ fp := fun hm => Nat.lt_irrefl _ (hfp _ hm)
 have hCf : H2.objs.size ∉ fp := fun hm => by have := hfp _ hm; rw [hC] at this; exact Nat.lt_irrefl _ (Nat.lt_of_succ_lt this)
 have old : ∀ b o, s₂.heap.get? b = some o → h₁.get? b = some o := fun b o e => hsb₁.extBut b o (below b (Heap.lt_size e)).1 (Heap.get?_push_of_some _ (hH2 ▸ Heap.get?_push_of_some _ e))
 have hacc : h₁.get? s₂.heap.objs.size = some (LCg.lst []) := hsb₁.extBut _ _ hDC (Heap.get?_push_of_some _ (hH2 ▸ Heap.get?_push_size _ rfl))
 have hst₁ : St 0 h₁ := hfr _ _ _ hst fun b _ o e => old b o e
 have fresh : ∀ a, s₂.heap.objs.size ≤ a → s₂.heap.get? a = none := fun a ha => by
  cases e : s₂.heap.get? a with
  | none => rfl
  | some o' => exact absurd (Heap.lt_size e) (Nat.not_lt.mpr ha)
 have fresh₀ : ∀ a, s₂.heap.objs.size ≤ a → h₀.get? a = none := fun a ha => by
  cases e : h₀.get? a with
  | none => rfl
  | some o' => have := F.keep a o' e; rw [fresh a ha] at this; cases this
 have hLlt : L < s₂.heap.objs.size := F.ns.lt
 have loop : ∀ s₃ : Shared, s₃ = { s₂ with heap := h₁, toks := s₂.toks + ([] : List (Str × Value)).length } →
   codeAny (model prog w) A (.compLoop (.ListComp elt (⟨target, iter, ifs, 0⟩ :: rest) scope pos) 0 (.ref I) (.ref s₂.heap.objs.size) (compEnvC scope cl H2.objs.size env)) (RR (.ref s₂.heap.objs.size) H2.objs.size) s₃ := by
  rintro s₃ rfl
  exact main H2.objs.size s₂.heap.objs.size h₁ _ _ hCf hDf (by rw [hC]; exact Nat.le_succ _) (Nat.le_refl _) hst₁
   ⟨F.keeps old, N.grown old, hns₁, hacc, fun p hp => ⟨(below _ (Heap.lt_size (N p hp).1)).1, (below _ (Heap.lt_size (N p hp).1)).2, hwr p hp⟩, hDC.symm, (below L hLlt).1.symm, (below L hLlt).2.symm, fresh₀ _ (by rw [hC]; exact Nat.le_succ _), fresh₀ _ (Nat.le_refl _)⟩
 exact codeAny_compStart_list (loop _ rfl) (hself 0 _ _ _ hst₁ (loop _ rfl))
end
noncomputable abbrev testsOf (ifs : List PySem.Expr) (env : Env) : Sem Bool := forIn ifs true fun c r => if r = true then do let ok ← isTrue c env (eval c env); pure (ForInStep.yield ok) else pure (ForInStep.yield r)
noncomputable abbrev emitOf (elt : PySem.Expr) (acc : Value) (env : Env) : Sem Unit := eval elt env >>= fun v => call (.builtin "list.append") [acc, v] >>= fun _ => pure ()
noncomputable abbrev deepOf (e : PySem.Expr) (g : Comprehension) (acc : Value) (env : Env) : Sem Unit := eval g.iter env >>= fun x => standAt g.iter.pos >>= fun _ => foldedSetIterable g.iter env x >>= fun x => holding [x] (pyIter x) >>= fun it => runOwn (.compStart e 1 it acc env) env >>= fun _ => pure ()
theorem turn_one (elt target iter : PySem.Expr) (ifs : List PySem.Expr) (scope : Scope) (pos : Pos) (it acc : Value) (env : Env) :
  compTurn (.ListComp elt [⟨target, iter, ifs, 0⟩] scope pos) 0 it acc env = (standAt iter.pos >>= fun _ => pyNext it >>= fun r => match r with
   | none => pure (.done .next)
   | some v => letOwnedTupleGo target it v >>= fun _ => assign target env v >>= fun _ => testsOf ifs env >>= fun ok => if ok = true then emitOf elt acc env >>= fun _ => again (.compLoop (.ListComp elt [⟨target, iter, ifs, 0⟩] scope pos) 0 it acc env) else again (.compLoop (.ListComp elt [⟨target, iter, ifs, 0⟩] scope pos) 0 it acc env)) := by rfl
theorem turn_two (elt target iter target2 iter2 : PySem.Expr) (ifs ifs2 : List PySem.Expr) (scope : Scope) (pos : Pos) (it acc : Value) (env : Env) :
  compTurn (.ListComp elt [⟨target, iter, ifs, 0⟩, ⟨target2, iter2, ifs2, 0⟩] scope pos) 0 it acc env = (standAt iter.pos >>= fun _ => pyNext it >>= fun r => match r with
   | none => pure (.done .next)
   | some v => letOwnedTupleGo target it v >>= fun _ => assign target env v >>= fun _ => testsOf ifs env >>= fun ok => if ok = true then deepOf (.ListComp elt [⟨target, iter, ifs, 0⟩, ⟨target2, iter2, ifs2, 0⟩] scope pos) ⟨target2, iter2, ifs2, 0⟩ acc env >>= fun _ => again (.compLoop (.ListComp elt [⟨target, iter, ifs, 0⟩, ⟨target2, iter2, ifs2, 0⟩] scope pos) 0 it acc env)
    else again (.compLoop (.ListComp elt [⟨target, iter, ifs, 0⟩, ⟨target2, iter2, ifs2, 0⟩] scope pos) 0 it acc env)) := by
 simp only [deepOf, bind_assoc, pure_bind]
 rfl
theorem turn_in (elt target iter target2 iter2 : PySem.Expr) (ifs ifs2 : List PySem.Expr) (scope : Scope) (pos : Pos) (it acc : Value) (env : Env) :
  compTurn (.ListComp elt [⟨target, iter, ifs, 0⟩, ⟨target2, iter2, ifs2, 0⟩] scope pos) 1 it acc env = (standAt iter2.pos >>= fun _ => pyNext it >>= fun r => match r with
   | none => pure (.done .next)
   | some v => letOwnedTupleGo target2 it v >>= fun _ => assign target2 env v >>= fun _ => testsOf ifs2 env >>= fun ok => if ok = true then emitOf elt acc env >>= fun _ => again (.compLoop (.ListComp elt [⟨target, iter, ifs, 0⟩, ⟨target2, iter2, ifs2, 0⟩] scope pos) 1 it acc env)
    else again (.compLoop (.ListComp elt [⟨target, iter, ifs, 0⟩, ⟨target2, iter2, ifs2, 0⟩] scope pos) 1 it acc env)) := by rfl
section
variable {prog : Program} {w : World} {A : Around} {s : Shared} {h₀ : Heap} {L : Addr} {m : Str → Option Value} {E : Value → Shared → Prop} {env : Env}
inductive CompEnd (h₀ : Heap) (L : Addr) (m : Str → Option Value) (wr : List Addr) (C D : Addr) (Fin : List Value → List (Addr × Obj) → Prop) (s₂ : Shared) (r : Result) (s' : Shared) : Prop
 | mk (hr : r = .ok .next) (h' : Heap) (tk' : Nat) (m' : Str → Option Value) (ys' : List Value) (news' : List (Addr × Obj)) (e : s' = { s₂ with heap := h', toks := tk' }) (S : LS h₀ L m wr C D h' m' ys' news') (fin : Fin ys' news')
inductive CompAt (prog : Program) (w : World) (A : Around) (h₀ : Heap) (L : Addr) (m : Str → Option Value) (env : Env) (elt target iter : PySem.Expr) (ifs : List PySem.Expr) (rest : List Comprehension) (scope : Scope) (cl : List (Str × Addr)) (pos : Pos)
  (Fin : Shared → Addr → List Value → List (Addr × Obj) → Prop) (it : Value) (s₂ : Shared) : Prop
 | mk (I : Addr) (fp wr : List Addr) (St : Nat → Heap → Prop) (news : List (Addr × Obj)) (hI : it = .ref I) (hfr : ∀ i h h', St i h → (∀ b ∈ fp, ∀ o, h.get? b = some o → h'.get? b = some o) → St i h')
  (hself : ∀ i (s : Shared) (Q : Value → Shared → Prop) (E : Value → Shared → Prop), St i s.heap → Q (.ref I) s → wpAny (model prog w) A (pyIter (.ref I)) Q E s) (hst : St 0 s₂.heap) (hfp : ∀ b ∈ fp, b < s₂.heap.objs.size) (F : Fr h₀ L s₂.heap m) (N : News h₀ L s₂.heap news) (hwr : ∀ p ∈ news, p.1 ∉ wr)
  (main : ∀ C D h tk m₂, C ∉ fp → D ∉ fp → s₂.heap.objs.size ≤ C → s₂.heap.objs.size ≤ D → St 0 h → LS h₀ L m wr C D h m₂ [] news →
   codeAny (model prog w) A (.compLoop (.ListComp elt (⟨target, iter, ifs, 0⟩ :: rest) scope pos) 0 (.ref I) (.ref D) (compEnvC scope cl C env)) (CompEnd h₀ L m wr C D (Fin s₂ D) s₂) { s₂ with heap := h, toks := tk })
theorem Assign_comp {elt target iter : PySem.Expr} {ifs : List PySem.Expr} {rest : List Comprehension} {y : Str} {py : Pos} {scope : Scope} {cl : List (Str × Addr)} {pos spos : Pos} {Q : Flow → Shared → Prop} (hLe : env.locals = L)
  (hsw : swapsWith (.ListComp elt (⟨target, iter, ifs, 0⟩ :: rest) scope pos) (some (.Name y py)) spos.line env = pure true)
  (hclos : closureFor scope env = pure cl) (hcell : ∀ z ∈ scope.names, z.2 ≠ .cell) (hkind : scope.kind = .function)
  (hnames : ∀ z ∈ scope.names, z.2 = .local → scope.names.lookup z.1 = some .local)
  (hy : env.kindOf y = some .local) (hp : (env.scope.kind == .class || (env.scope.kind == .module && env.locals != env.globals)) = false)
  (h : wpAny (model prog w) A (eval iter env) (fun xv s₁ => wpAny (model prog w) A (pyIter xv) (CompAt prog w A h₀ L m env elt target iter ifs rest scope cl pos
   (fun s₂ D ys news => ∀ h' tk', Fr h₀ L h' (fun z => if z = y then some (.ref D) else m z) → News h₀ L h' ((D, LCg.lst ys) :: news) → (∀ p ∈ news, p.1 ≠ D) → Q .next { s₂ with heap := h', toks := tk' })) E s₁) E s)
  (hs : ∀ x, foldedSetIterable iter env x = pure x := by intro _; rfl) :
  wpAny (model prog w) A (exec (.Assign [.Name y py] (.ListComp elt (⟨target, iter, ifs, 0⟩ :: rest) scope pos) spos) env) Q E s := by
 subst hLe
 rw [exec_Assign_Name_used _ _ _ _ hsw]
 refine wpAny_bind (wpAny_standAt (wpAny_bind ?_))
 show wpAny _ A (do let _ ← comprehension (.ListComp elt (⟨target, iter, ifs, 0⟩ :: rest) scope pos) scope env _ (newList []) false (eval iter env) (some (assign (.Name y py) env))) _ _ s
 refine wpAny_bind (wpAny_mono (wpAny_comprehension_free (use := some (assign (.Name y py) env)) (Q := fun _ s' => Q .next s') rfl hs hclos hkind hnames
  (wpAny_mono h (fun xv s₁ h₁ => wpAny_mono h₁ (fun it s₂ h₂ => ?_) fun _ _ e => e) fun _ _ e => e)) (fun _ s' hq => wpAny_pure (wpAny_pure hq)) fun _ _ e => e)
 obtain ⟨I, fp, wr, St, news, rfl, hfr, hself, hst, hfp, F, N, hwr, main⟩ := h₂
 refine comp_block hfr hself hcell hkind hst hfp F N hwr fun C D h tk m₂ c1 c2 c3 c4 st S => codeAny_mono (main C D h tk m₂ c1 c2 c3 c4 st S) ?_
 rintro r s' ⟨rfl, h', tk', m', ys', news', rfl, S', fin⟩
 show wpAny _ A (assign (.Name y py) env (.ref D)) _ _ _
 refine wpAny_assign_Name (wpAny_storeName_local hy S'.fr.ns (fun h₂ hn₂ hs₂ => ?_) hp)
 have hL₀ : h₀.get? env.locals = none := Heap.get?_none_of_le S'.fr.above
 have F₂ : Fr h₀ env.locals h₂ (fun z => if z = y then some (.ref D) else m z) := ⟨hn₂, fun b o e => hs₂.extBut b o (fun q => by rw [q, hL₀] at e; cases e) (S'.fr.keep b o e), S'.fr.above⟩
 refine ⟨m', S'.ns.sameBut hs₂ S'.cL, fun h'' hs'' => fin h'' _ (F₂.change hs'' S'.cL S'.c0) (fun p hp => ?_) fun p hp => (S'.off p hp).2.1⟩
 rcases List.mem_cons.mp hp with rfl | hp
 ·exact ⟨hs''.extBut _ _ S'.cd.symm (hs₂.extBut _ _ S'.dL S'.ls), S'.dL, S'.d0⟩
 ·exact ⟨hs''.extBut _ _ (S'.off p hp).1 (hs₂.extBut _ _ (S'.nw p hp).2.1 (S'.nw p hp).1), (S'.nw p hp).2⟩
theorem Eval_comp {elt target iter : PySem.Expr} {ifs : List PySem.Expr} {rest : List Comprehension} {scope : Scope} {cl : List (Str × Addr)} {pos : Pos} {Q : Value → Shared → Prop}
  (hclos : closureFor scope env = pure cl) (hcell : ∀ z ∈ scope.names, z.2 ≠ .cell) (hkind : scope.kind = .function)
  (hnames : ∀ z ∈ scope.names, z.2 = .local → scope.names.lookup z.1 = some .local)
  (h : wpAny (model prog w) A (eval iter env) (fun xv s₁ => wpAny (model prog w) A (pyIter xv) (CompAt prog w A h₀ L m env elt target iter ifs rest scope cl pos
   (fun s₂ D ys news => ∀ h' tk', Fr h₀ L h' m → News h₀ L h' ((D, LCg.lst ys) :: news) → (∀ p ∈ news, p.1 ≠ D) → Q (.ref D) { s₂ with heap := h', toks := tk' })) E s₁) E s)
  (hs : ∀ x, foldedSetIterable iter env x = pure x := by intro _; rfl) :
  wpAny (model prog w) A (eval (.ListComp elt (⟨target, iter, ifs, 0⟩ :: rest) scope pos) env) Q E s := by
 rw [eval_ListComp]
 refine wpAny_comprehension_free (use := none) rfl hs hclos hkind hnames (wpAny_mono h (fun xv s₁ h₁ => wpAny_mono h₁ (fun it s₂ h₂ => ?_) fun _ _ e => e) fun _ _ e => e)
 obtain ⟨I, fp, wr, St, news, rfl, hfr, hself, hst, hfp, F, N, hwr, main⟩ := h₂
 refine comp_block hfr hself hcell hkind hst hfp F N hwr fun C D h tk m₂ c1 c2 c3 c4 st S => codeAny_mono (main C D h tk m₂ c1 c2 c3 c4 st S) ?_
 rintro r s' ⟨rfl, h', tk', m', ys', news', rfl, S', fin⟩
 refine ⟨m', S'.ns, fun h'' hs'' => fin h'' _ (S'.fr.change hs'' S'.cL S'.c0) (fun p hp => ?_) fun p hp => (S'.off p hp).2.1⟩
 rcases List.mem_cons.mp hp with rfl | hp
 ·exact ⟨hs''.extBut _ _ S'.cd.symm S'.ls, S'.dL, S'.d0⟩
 ·exact ⟨hs''.extBut _ _ (S'.off p hp).1 (S'.nw p hp).1, (S'.nw p hp).2⟩
end
section
variable {prog : Program} {w : World} {A : Around} {s : Shared} {h₀ : Heap} {L : Addr} {m : Str → Option Value} {E : Value → Shared → Prop} {env : Env} {wr : List Addr} {C D : Addr} {m₁ : Str → Option Value} {ys : List Value} {news own : List (Addr × Obj)} {scope : Scope} {cl : List (Str × Addr)}
theorem LS.set {h h' : Heap} {m₂ : Str → Option Value} (S : LS h₀ L m wr C D h m₁ ys news) (hn : h'.Ns C m₂) (hs : Heap.SameBut C h h') : LS h₀ L m wr C D h' m₂ ys news :=
 ⟨S.fr.change hs S.cL S.c0, fun p hp => ⟨hs.extBut _ _ (S.off p hp).1 (S.nw p hp).1, (S.nw p hp).2⟩, hn, hs.extBut _ _ S.cd.symm S.ls, S.off, S.cd, S.cL, S.dL, S.c0, S.d0⟩
theorem LS.keeps {h h' : Heap} (S : LS h₀ L m wr C D h m₁ ys news) (hk : ∀ b o, h.get? b = some o → h'.get? b = some o) : LS h₀ L m wr C D h' m₁ ys news :=
 ⟨S.fr.keeps hk, S.nw.grown hk, S.ns.keeps hk, hk _ _ S.ls, S.off, S.cd, S.cL, S.dL, S.c0, S.d0⟩
theorem own_set {h h' : Heap} (O : News h₀ L h own) (oC : ∀ p ∈ own, p.1 ≠ C) (hs : Heap.SameBut C h h') : News h₀ L h' own := fun p hp => ⟨hs.extBut _ _ (oC p hp) (O p hp).1, (O p hp).2⟩
theorem ls_assign1 {x : Str} {p1 : Pos} {v : Value} {Q : Unit → Shared → Prop} (hkind : scope.kind = .function) (hx : scope.names.lookup x = some .local) (S : LS h₀ L m wr C D s.heap m₁ ys news) (O : News h₀ L s.heap own) (oC : ∀ p ∈ own, p.1 ≠ C)
  (h : ∀ h' tk', LS h₀ L m wr C D h' (fun z => if z = x then some v else m₁ z) ys news → News h₀ L h' own → (∀ b o, b ≠ C → s.heap.get? b = some o → h'.get? b = some o) → Q () { s with heap := h', toks := tk' }) :
  wpAny (model prog w) A (assign (.Name x p1) (compEnvC scope cl C env) v) Q E s := by
 refine wpAny_assign_Name (wpAny_storeName_local (lookup_relabel_local hx) S.ns (fun h₁ hn₁ hs₁ => ?_) (by simp [compEnvC, relabel, hkind]))
 exact h h₁ _ (S.set hn₁ hs₁) (own_set O oC hs₁) fun b o hb e => hs₁.extBut b o hb e
theorem ls_assign2 {x1 x2 : Str} {p1 p2 tp : Pos} {kk : Nat} {T : Addr} {v1 v2 : Value} {Q : Unit → Shared → Prop} (hh : A.handled = none) (hkind : scope.kind = .function) (hx1 : scope.names.lookup x1 = some .local) (hx2 : scope.names.lookup x2 = some .local)
  (hT : s.heap.IsTuple T #[v1, v2]) (S : LS h₀ L m wr C D s.heap m₁ ys news) (O : News h₀ L s.heap own) (oC : ∀ p ∈ own, p.1 ≠ C)
  (h : ∀ h' tk', LS h₀ L m wr C D h' (fun z => if z = x2 then some v2 else if z = x1 then some v1 else m₁ z) ys news → News h₀ L h' own → (∀ b o, b ≠ C → s.heap.get? b = some o → h'.get? b = some o) → Q () { s with heap := h', toks := tk' }) :
  wpAny (model prog w) A (assign (.Tuple [.Name x1 p1, .Name x2 p2] kk tp) (compEnvC scope cl C env) (.ref T)) Q E s := by
 have ht : IsTup s.heap T #[v1, v2] := hT
 refine assign_Tuple_tuple hh ht rfl rfl fun h₅ he => ?_
 have he' : ∀ b o, s.heap.get? b = some o → h₅.get? b = some o := fun b o e => he b o (Nat.ne_of_lt (Heap.lt_size e)) e
 have S5 := S.keeps he'
 have O5 : News h₀ L h₅ own := O.grown he'
 refine assignInOrder_cons (wpAny_assign_Name (wpAny_storeName_local (lookup_relabel_local hx1) S5.ns (fun h₆ hn₆ hs₆ => ?_) (by simp [compEnvC, relabel, hkind])))
 refine assignInOrder_cons (wpAny_assign_Name (wpAny_storeName_local (lookup_relabel_local hx2) hn₆ (fun h₃ hn₃ hs₃ => ?_) (by simp [compEnvC, relabel, hkind])))
 refine assignInOrder_nil ?_
 exact h h₃ _ ((S5.set hn₆ hs₆).set hn₃ hs₃) (own_set (own_set O5 oC hs₆) oC hs₃) fun b o hb e => hs₃.extBut b o hb (hs₆.extBut b o hb (he' b o e))
inductive Led (h₀ : Heap) (L : Addr) (C D : Addr) (h : Heap) (m₁ : Str → Option Value) (ys : List Value) (l : List (Addr × Obj)) : Prop
 | mk (oC : Obj) (hn : LCg.NsObj oC m₁) (N : News h₀ L h ((C, oC) :: (D, LCg.lst ys) :: l))
theorem LS.led {h : Heap} (S : LS h₀ L m wr C D h m₁ ys news) (O : News h₀ L h own) : Led h₀ L C D h m₁ ys (news ++ own) := by
 obtain ⟨oC, e, hn⟩ := LCg.ns_obj S.ns
 refine ⟨oC, hn, fun p hp => ?_⟩
 rcases List.mem_cons.mp hp with rfl | hp
 ·exact ⟨e, S.cL, S.c0⟩
 rcases List.mem_cons.mp hp with rfl | hp
 ·exact ⟨S.ls, S.dL, S.d0⟩
 rcases List.mem_append.mp hp with hp | hp
 ·exact S.nw p hp
 ·exact O p hp
inductive EE (h₀ : Heap) (L : Addr) (m : Str → Option Value) (wr : List Addr) (C D : Addr) (own : List (Addr × Obj)) (J : (Str → Option Value) → List Value → List (Addr × Obj) → Prop) (ys : List Value) (s₁ : Shared) (y : Value) (s' : Shared) : Prop
 | mk (h' : Heap) (tk' : Nat) (m' : Str → Option Value) (news' : List (Addr × Obj)) (e : s' = { s₁ with heap := h', toks := tk' }) (S : LS h₀ L m wr C D h' m' ys news') (O : News h₀ L h' own) (j : J m' (ys ++ [y]) news')
theorem LS.back {h h' : Heap} {oC : Obj} {all news' : List (Addr × Obj)} (S : LS h₀ L m wr C D h m₁ ys news) (F : Fr h₀ L h' m) (N : News h₀ L h' all) (hn : LCg.NsObj oC m₁) (hC : (C, oC) ∈ all) (hD : (D, LCg.lst ys) ∈ all) (hnews : ∀ p ∈ news', p ∈ all) (off : ∀ p ∈ news', p.1 ≠ C ∧ p.1 ≠ D ∧ p.1 ∉ wr) : LS h₀ L m wr C D h' m₁ ys news' :=
 ⟨F, fun p hp => N p (hnews p hp), hn.ns (N _ hC).1, (N _ hD).1, off, S.cd, S.cL, S.dL, S.c0, S.d0⟩
theorem ee_new {h5 h6 : Heap} {tk : Nat} {oC o : Obj} {x : Addr} {y : Value} {pre : List (Addr × Obj)} {J : (Str → Option Value) → List Value → List (Addr × Obj) → Prop} {s₁ : Shared} (S5 : LS h₀ L m wr C D h5 m₁ ys news) (F6 : Fr h₀ L h6 m) (N7 : News h₀ L h6 ((x, o) :: (C, oC) :: (D, LCg.lst ys) :: (pre ++ (news ++ own)))) (hoC : LCg.NsObj oC m₁)
  (xC : @LT.lt Nat _ C x) (xD : @LT.lt Nat _ D x) (xw : x ∉ wr) (j : J m₁ (ys ++ [y]) ((x, o) :: news)) : EE h₀ L m wr C D own J ys s₁ y { s₁ with heap := h6, toks := tk } := by
 refine ⟨h6, _, m₁, (x, o) :: news, rfl, S5.back F6 N7 hoC (.tail _ (.head _)) (.tail _ (.tail _ (.head _))) (fun p hp => ?_) (fun p hp => ?_), fun p hp => N7 p (.tail _ (.tail _ (.tail _ (List.mem_append_right _ (List.mem_append_right _ hp))))), j⟩
 ·rcases List.mem_cons.mp hp with rfl | hp
  ·exact .head _
  ·exact .tail _ (.tail _ (.tail _ (List.mem_append_right _ (List.mem_append_left _ hp))))
 ·rcases List.mem_cons.mp hp with rfl | hp
  ·exact ⟨Nat.ne_of_gt xC, Nat.ne_of_gt xD, xw⟩
  ·exact S5.off p hp
theorem ls_emit {elt : PySem.Expr} {cenv : Env} {J : (Str → Option Value) → List Value → List (Addr × Obj) → Prop} {s₁ : Shared} (hz : ys.length ≤ sizeLine) (oD : ∀ p ∈ own, p.1 ≠ D)
  (h : wpAny (model prog w) A (eval elt cenv) (EE h₀ L m wr C D own J ys s₁) E s) : wpAny (model prog w) A (emitOf elt (.ref D) cenv) (fun _ s₅ => TE h₀ L m wr C D own J s₁ s₅) E s := by
 refine wpAny_bind (wpAny_mono h (fun y s' q => ?_) fun _ _ e => e)
 obtain ⟨h', tk', m', news', rfl, S, O, j⟩ := q
 refine wpAny_bind (append_at (hsz := by rw [List.size_toArray]; exact hz) S.ls fun h₅ hs₅ hD₅ => wpAny_pure ?_)
 refine ⟨h₅, tk', m', ys ++ [y], news', rfl, ⟨S.fr.change hs₅ S.dL S.d0, fun p hp => ⟨hs₅.extBut _ _ (S.off p hp).2.1 (S.nw p hp).1, (S.nw p hp).2⟩, S.ns.sameBut hs₅ S.cd, hD₅.trans (congrArg some (LCg.lst_snoc ys y)), S.off, S.cd, S.cL, S.dL, S.c0, S.d0⟩, own_set O oD hs₅, j⟩
end
end Mine
end
section
theorem Mine.wlSt15r : True := by
 k_with_none
 trivial
namespace Mine
theorem wlSt150 : True := by
 k_with_none
 k_with "call type:zip" => (k_here; (refine' HoldX.h ?_))
 k_with "eval Name" => (k_here; (with_reducible show wpAny _ _ (eval (Expr.Name _ _) (envX _ _ _ _ _ _)) _ _ _); k_dflt (refine' nameX_L ?F ?v ?_ ?a ?b; (case a => rfl); (case b => rfl); (case F => k_asm); (case v => assumption); k_whole))
 k_with "eval Name" => (k_here; (with_reducible show wpAny _ _ (eval (Expr.Name _ _) (compEnvC _ _ _ _)) _ _ _); k_dflt (first
  | (refine' lcf_cell ?N ?c ?m ?d ?_ ?a ?b; (case a => rfl); (case b => rfl); (case N => k_asm); (case c => rfl); (case m => k_mem); (case d => first | rfl | assumption); k_whole)
  | refine cn_K (by assumption) (by assumption) (by assumption) (by k_is) ?_
  | refine cn_B (by assumption) (by assumption) (by assumption) (by k_is) (by boot_by_name) (by decide) ?_))
 k_with "subscriptTail Name BinOp ref int" => (k_here; k_dflt (refine' item_I ?hl ?hi ?h0 ?hf ?hx ?_ ?hs; (case hl => exact in_list (by assumption) (by k_mem)); (case hi => assumption); (case h0 => assumption); (case hf => assumption); (case hx => assumption); (case hs => with_unfolding_all rfl); k_whole); intro _)
 trivial
noncomputable def agD (vq : Int → Int) (q : Int) : Dat := Dat.tuple [Dat.int (vq q), Dat.int (Int.fmod q 16)]
structure JA (N0 : List (Addr × Obj)) (qs : List Int) (f : Int → Bool) (vq : Int → Int) (i : Nat) (_ : Str → Option Value) (ys : List Value) (news : List (Addr × Obj)) : Prop where
 n : ∀ p ∈ N0, p ∈ news
 d : DatAll news ys (((qs.take i).filter f).map (agD vq))
theorem zip_live {h : Heap} {z TI TO i1 i2 l1 l2 : Addr} {j1 j2 : Nat} {xs ys : Array Value} {o : Value} (s : IsZip h z TI TO o ∧ IsPair h TI (.ref i1) (.ref i2) ∧ (∃ a b, IsPair h TO a b) ∧ h.IsListIter i1 l1 j1 ∧ h.IsListIter i2 l2 j2 ∧ h.IsList l1 xs ∧ h.IsList l2 ys) : ∀ b ∈ [z, TI, TO, i1, i2, l1, l2], ∃ o, h.get? b = some o := by
 obtain ⟨s1, s2, ⟨_, _, s3⟩, ⟨_, s4, _⟩, ⟨_, s5, _⟩, ⟨_, s6, _⟩, ⟨_, s7, _⟩⟩ := s
 intro b hb
 simp only [List.mem_cons, List.not_mem_nil, or_false] at hb
 rcases hb with rfl | rfl | rfl | rfl | rfl | rfl | rfl
 ·exact ⟨_, s1⟩
 ·exact ⟨_, s2⟩
 ·exact ⟨_, s3⟩
 ·exact ⟨_, s4⟩
 ·exact ⟨_, s5⟩
 ·exact ⟨_, s6⟩
 ·exact ⟨_, s7⟩
theorem all4 {P : Addr → Prop} {a b c d : Addr} (h1 : P a) (h2 : P b) (h3 : P c) (h4 : P d) : ∀ x ∈ [a, b, c, d], P x := fun x hx => by
 simp only [List.mem_cons, List.not_mem_nil, or_false] at hx
 rcases hx with rfl | rfl | rfl | rfl
 ·exact h1
 ·exact h2
 ·exact h3
 ·exact h4
theorem sub7 {z TI TO i1 i2 l1 l2 : Addr} : ∀ b ∈ [z, TO, i1, i2], b ∈ [z, TI, TO, i1, i2, l1, l2] := all4 (.head _) (.tail _ (.tail _ (.head _))) (.tail _ (.tail _ (.tail _ (.head _)))) (.tail _ (.tail _ (.tail _ (.tail _ (.head _)))))
theorem st15 (w : World) (s : Shared) (g : Heap) (mg mb m : Str → Option Value) (c : Nat → Int) (t : Nat) (ns : List Int) (D12 D13 : Addr) (ts : List Value) (qs : List Int) (f : Int → Bool) (vq : Int → Int) (n12 n13 : Nat) (all : List (Addr × Obj)) (Q : Flow → Shared → Prop) (E : Value → Shared → Prop)
  (hns : IntsAre (valsOf c t) ns) (hts : IntsAre ts qs) (hq : qs.length ≤ 1000) (hvq : ∀ q ∈ qs, 0 ≤ Int.fdiv q 16 ∧ Int.fdiv q 16 < 2 ^ 63 ∧ ns[(Int.fdiv q 16).toNat]? = some (vq q)) (hm : m (Str.ofString "after") = some (.ref D12)) (hm2 : m (Str.ofString "flags") = some (.ref D13)) (F : Fr g 318 s.heap m) (N : News g 318 s.heap all)
  (m1 : (319, cellO (some (.ref 346))) ∈ all) (m3 : (346, listOf (valsOf c t).toArray 10) ∈ all) (m5 : (D12, listOf ts.toArray n12) ∈ all) (m6 : (D13, listOf (qs.map fun q => Value.bool (f q)).toArray n13) ∈ all)
  (ret : ∀ D ys h tk all', Fr g 318 h (fun y => if y = Str.ofString "against" then some (.ref D) else m y) → News g 318 h all' → Kept [] all all' → (D, LCg.lst ys) ∈ all' → DatAll all' ys ((qs.filter f).map (agD vq)) → (∀ p ∈ all, p.1 ≠ D) → Q .next { s with heap := h, toks := tk }) :
  (KN w.params).In g → TR mg mb g → wpAny (model PySem.Challenge.rw_ik0098_01.row.prog w) (AL w.params) (exec (lawT w.params).a9 (lawE w.params)) Q E s := by
 rw [lawE_eq, (lawT w.params).hs.eq]
 dsimp only [lawT]
 k_fill
 intro X T
 refine Assign_comp (h₀ := g) (m := m) (by rfl) (by with_unfolding_all rfl) (by with_unfolding_all rfl) (by decide) (by rfl) (by decide) (by rfl) (by rfl) ?_
 k_steps
 refine ⟨?_⟩
 have hlen := hts.length
 have N0 : News g 318 s.heap ((319, cellO (some (.ref 346))) :: (346, listOf (valsOf c t).toArray 10) :: all) := nw_cons N m1 (nw_cons N m3 N)
 have hl1 : s.heap.IsList D12 ts.toArray := in_list N m5
 have hl2 : s.heap.IsList D13 (qs.map fun q => Value.bool (f q)).toArray := in_list N m6
 refine zip_rows F hl1 hl2 (fun h' z TI TO i1 i2 Ap St0 F1 hk a1 a2 a3 a4 la => ?_)
 refine wpAny_pyIter_zip St0.1 ?_
 have V := WalksT.zip2 (prog := prog) (w := w) (A := AL w.params) rfl z TI TO i1 i2 D12 D13 Ap ts.toArray (qs.map fun q => Value.bool (f q)).toArray
 have lz : ∀ p ∈ ((319, cellO (some (.ref 346))) :: (346, listOf (valsOf c t).toArray 10) :: all), p.1 < s.heap.objs.size := fun p hp => Heap.lt_size (N0 p hp).1
 have n0 : ∀ b, s.heap.objs.size ≤ b → g.get? b = none := fun b hb => ktu_new F hb
 have hge : ∀ b ∈ [z, TO, i1, i2], s.heap.objs.size ≤ b := all4 a1 a2 a3 a4
 have hL1 : (318 : Nat) ≠ D12 := fun e => (N _ m5).2.1 e.symm
 have hL2 : (318 : Nat) ≠ D13 := fun e => (N _ m6).2.1 e.symm
 refine ⟨z, [z, TI, TO, i1, i2, D12, D13], [z, TO, i1, i2], _, (319, cellO (some (.ref 346))) :: (346, listOf (valsOf c t).toArray 10) :: all, rfl, V.frame, V.self, St0, ?fp, F1, N0.grown hk, ?wr, ?main⟩
 case fp =>
  intro b hb
  obtain ⟨o, e⟩ := zip_live St0 b hb
  exact Heap.lt_size e
 case wr => exact fun p hp hb => absurd (lz p hp) (Nat.not_lt.mpr (hge _ hb))
 case main =>
  intro C D h tk m₂ cC cD c1 c2 st S
  refine comp_loop (KTurns.ofWalksU V.toU) (turn_one _ _ _ _ _ _ _ _ _) (JA ((319, cellO (some (.ref 346))) :: (346, listOf (valsOf c t).toArray 10) :: all) qs f vq) ?hL cC cD ?hwr st S ⟨fun p hp => hp, .nil⟩ ?turn ?done
  case hL =>
   intro hb
   simp only [List.mem_cons, List.not_mem_nil, or_false] at hb
   rcases hb with e | e | e | e | e | e | e
   ·exact absurd la.1 (e ▸ Nat.lt_irrefl _)
   ·obtain ⟨o, es, ep, e1, e2, _⟩ := F1.ns
    have e3 : h'.get? TI = some _ := St0.2.1
    rw [← e, e1] at e3
    cases e3
    cases e2
   ·exact absurd la.2.1 (e ▸ Nat.lt_irrefl _)
   ·exact absurd la.2.2.1 (e ▸ Nat.lt_irrefl _)
   ·exact absurd la.2.2.2 (e ▸ Nat.lt_irrefl _)
   ·exact hL1 e
   ·exact hL2 e
  case hwr => exact fun b hb => n0 _ (hge b hb)
  case done =>
   intro h tk m₁ ys₁ news₁ S1 j1
   refine ⟨rfl, h, tk, m₁, ys₁, news₁, rfl, S1, fun h2 tk2 F2 N2 o2 => ?_⟩
   obtain ⟨jN, jD⟩ := j1
   have hmin : min ts.toArray.size (qs.map fun q => Value.bool (f q)).toArray.size = qs.length := by simp [hlen]
   rw [hmin, List.take_length] at jD
   exact ret D ys₁ h2 tk2 _ F2 N2 (fun p hp _ => .tail _ (jN p (.tail _ (.tail _ hp)))) (.head _) (jD.mono fun p hp => .tail _ hp) (fun p hp => o2 p (jN p (.tail _ (.tail _ hp))))
  case turn =>
   intro i v m₁ ys₁ news₁ h tk own hi hP hj S1 O1 hown hmem st1
   obtain ⟨T1, vals, rfl, ⟨x, y, hx, hy, rfl⟩, hT⟩ := hP
   obtain ⟨hN0, hD⟩ := hj
   obtain ⟨q, ti, rfl, hqi⟩ := IntsAre.at hts i x (by simpa using hx)
   have hy' : y = .bool (f q) := by
    have hy2 : ((qs.map fun q => Value.bool (f q)))[i]? = some y := by simpa using hy
    rw [List.getElem?_map, hqi] at hy2
    exact (Option.some.inj hy2).symm
   subst hy'
   obtain ⟨w1, w2, w3⟩ := hvq q (List.mem_of_getElem? hqi)
   refine ls_assign2 rfl (by rfl) (by rfl) (by rfl) hT S1 O1 (fun p hp e => cC (e ▸ hown p hp)) (fun h5 tk5 S5 O5 k5 => ?_)
   refine wpAny_tests_one ?_
   obtain ⟨oC, hoC, N5⟩ := S5.led O5
   have N6 : News g 318 h5 ((C, oC) :: (D, LCg.lst ys₁) :: (319, cellO (some (.ref 346))) :: (346, listOf (valsOf c t).toArray 10) :: (news₁ ++ own)) := by
    intro p hp
    refine N5 p ?_
    rcases List.mem_cons.mp hp with rfl | hp
    ·exact .head _
    rcases List.mem_cons.mp hp with rfl | hp
    ·exact .tail _ (.head _)
    rcases List.mem_cons.mp hp with rfl | hp
    ·exact .tail _ (.tail _ (List.mem_append_left _ (hN0 _ (.head _))))
    rcases List.mem_cons.mp hp with rfl | hp
    ·exact .tail _ (.tail _ (List.mem_append_left _ (hN0 _ (.tail _ (.head _)))))
    exact .tail _ (.tail _ hp)
   have F5 := S5.fr
   have q1 : (fun z => if z = Str.ofString "flag" then some (.bool (f q)) else if z = Str.ofString "question" then some (.int q ti) else m₁ z : Str → Option Value) (Str.ofString "flag") = some (.bool (f q)) := rfl
   have q2 : (fun z => if z = Str.ofString "flag" then some (.bool (f q)) else if z = Str.ofString "question" then some (.int q ti) else m₁ z : Str → Option Value) (Str.ofString "question") = some (.int q ti) := rfl
   generalize (fun z => if z = Str.ofString "flag" then some (.bool (f q)) else if z = Str.ofString "question" then some (.int q ti) else m₁ z : Str → Option Value) = m5 at hoC q1 q2 S5
   clear N N0 F F1 N5
   dsimp only
   have hlenys : ys₁.length ≤ sizeLine := by
    rw [hD.length, List.length_map]
    have h1 : ((qs.take i).filter f).length ≤ (qs.take i).length := List.length_filter_le _ _
    have h2 : (qs.take i).length ≤ qs.length := by rw [List.length_take]; lia
    exact Nat.le_trans (by lia) (Nat.le_of_ble_eq_true rfl : 1000 ≤ sizeLine)
   have oDD : ∀ p ∈ own, p.1 ≠ D := fun p hp e => cD (e ▸ hown p hp)
   k_steps
   ·refine ls_emit hlenys oDD ?_
    k_steps
    rename_i hf t5 D5 h6 F6 N7 l5
    have hmw : ∀ b ∈ [z, TO, i1, i2], b ≠ D5 := fun b hb => by
     obtain ⟨o, e⟩ := zip_live st1 b (sub7 b hb)
     exact Nat.ne_of_lt (kst_ltOf l5.2.2.2.2 _ (List.mem_append_right _ (hmem b (sub7 b hb) (n0 _ (hge b hb)) o e)))
    refine ee_new (pre := [(319, cellO (some (.ref 346))), (346, listOf (valsOf c t).toArray 10)]) S5 F6 N7 hoC l5.1 l5.2.1 (fun hw => hmw _ hw rfl) ⟨fun p hp => .tail _ (hN0 p hp), ?_⟩
    ·rw [List.take_add_one, hqi, List.filter_append, List.map_append]
     refine DatAll.append (hD.mono fun p hp => .tail _ hp) ?_
     show DatAll _ _ (([q].filter f).map (agD vq))
     rw [List.filter_cons, if_pos hf]
     exact DatAll.one (DatIn.tuple (.head _) (.cons (.int _ _) (.cons (.int _ _) .nil)))
   ·rename_i hf
    refine ⟨h5, tk5, m5, ys₁, news₁, rfl, S5, O5, hN0, ?_⟩
    rw [List.take_add_one, hqi]
    simpa [hf] using hD
end Mine
end
section
namespace Mine
section
variable {prog : Program} {w : World} {A : Around} {s : Shared} {E : Value → Shared → Prop} {env : Env}
theorem start_two {elt target iter target2 iter2 : PySem.Expr} {ifs ifs2 : List PySem.Expr} {scope : Scope} {pos : Pos} {it acc : Value} {R : Result → Shared → Prop}
  (h0 : codeAny (model prog w) A (.compLoop (.ListComp elt [⟨target, iter, ifs, 0⟩, ⟨target2, iter2, ifs2, 0⟩] scope pos) 1 it acc env) R s)
  (h : wpAny (model prog w) A (pyIter it) (fun it' s' => codeAny (model prog w) A (.compLoop (.ListComp elt [⟨target, iter, ifs, 0⟩, ⟨target2, iter2, ifs2, 0⟩] scope pos) 1 it' acc env) R s') NoE s) :
  codeAny (model prog w) A (.compStart (.ListComp elt [⟨target, iter, ifs, 0⟩, ⟨target2, iter2, ifs2, 0⟩] scope pos) 1 it acc env) R s := by
 refine codeAny_of_tree ?_
 show wpAny _ _ ((compStart (.ListComp elt [⟨target, iter, ifs, 0⟩, ⟨target2, iter2, ifs2, 0⟩] scope pos) 1 it acc env).onRaise (fun x => do noteFrame x env; standAt theWindowsPlace)) _ _ s
 refine wpAny_notedAt (E := fun e s' => R (.error e) s') ?_
 refine wpAny_mono (E := NoE) ?_ (fun _ _ q => q) fun _ _ q => q.elim
 unfold compStart
 show wpAny _ _ (ask >>= _) _ _ s
 refine wpAny_bind (wpAny_askSetting (wpAny_ite ?_))
 split
 ·first
   | exact wpAny_bind (wpAny_pure (wpAny_pure (And.intro rfl h0)))
   | exact wpAny_pure (And.intro rfl h0)
 ·first
   | exact wpAny_bind (wpAny_rule (wpAny_bind (wpAny_standAt (wpAny_bind (wpAny_mono h (fun it' s' h' => wpAny_pure (And.intro rfl h')) fun _ _ x => x)))))
   | (refine wpAny_bind (wpAny_rule ?_); show wpAny _ _ (standAt iter2.pos >>= _) _ _ s; exact wpAny_bind (wpAny_standAt (wpAny_bind (wpAny_mono h (fun it' s' h' => wpAny_pure (And.intro rfl h')) fun _ _ x => x))))
theorem deep_of {elt target iter target2 iter2 : PySem.Expr} {ifs ifs2 : List PySem.Expr} {scope : Scope} {pos : Pos} {acc : Value} {Q : Unit → Shared → Prop}
  (h : wpAny (model prog w) A (eval iter2 env) (fun x s₁ => wpAny (model prog w) A (pyIter x) (fun it s₂ => (∀ (Q : Value → Shared → Prop) (E : Value → Shared → Prop), Q it s₂ → wpAny (model prog w) A (pyIter it) Q E s₂) ∧
   codeAny (model prog w) A (.compLoop (.ListComp elt [⟨target, iter, ifs, 0⟩, ⟨target2, iter2, ifs2, 0⟩] scope pos) 1 it acc env) (fun r s' => r = .ok .next ∧ Q () s') s₂) E s₁) E s)
  (hs : ∀ x, foldedSetIterable iter2 env x = pure x := by intro _; rfl) :
  wpAny (model prog w) A (deepOf (.ListComp elt [⟨target, iter, ifs, 0⟩, ⟨target2, iter2, ifs2, 0⟩] scope pos) ⟨target2, iter2, ifs2, 0⟩ acc env) Q E s := by
 refine wpAny_bind (wpAny_mono h (fun x s₁ h₁ => wpAny_bind (wpAny_standAt (wpAny_bind (wpAny_of_eq (hs x) (wpAny_bind (wpAny_holding (wpAny_mono h₁ (fun it s₂ h₂ => wpAny_bind ?_) fun _ _ e => e))))))) fun _ _ e => e)
 refine wpAny_onRaise (wpAny_run (codeAny_mono (start_two h₂.2 (h₂.1 _ _ h₂.2)) fun r s' q => ?_))
 obtain ⟨rfl, q⟩ := q
 exact wpAny_pure q
end
end Mine
end
section
theorem Mine.wlSt16r : True := by
 k_with_none
 trivial
namespace Mine
theorem wlSt160 : True := by
 k_with_none
 k_with "compareOp Is ref ref" => (k_here; (refine' HoldX.h ?_))
 k_with "pyIter ref" => (k_here; (refine' HoldX.h ?_))
 k_with "eval Name" => (k_here; (with_reducible show wpAny _ _ (eval (Expr.Name _ _) (envX _ _ _ _ _ _)) _ _ _); k_dflt (refine' nameX_L ?F ?v ?_ ?a ?b; (case a => rfl); (case b => rfl); (case F => k_asm); (case v => assumption); k_whole))
 k_with "eval Name" => (k_here; (with_reducible show wpAny _ _ (eval (Expr.Name _ _) (compEnvC _ _ _ _)) _ _ _); k_dflt (first
  | (refine' lcf_cell ?N ?c ?m ?d ?_ ?a ?b; (case a => rfl); (case b => rfl); (case N => k_asm); (case c => rfl); (case m => k_mem); (case d => first | rfl | assumption); k_whole)
  | refine cn_K (by assumption) (by assumption) (by assumption) (by k_is) ?_
  | refine cn_B (by assumption) (by assumption) (by assumption) (by k_is) (by boot_by_name) (by decide) ?_))
 k_with "subscriptTail Name Name ref int" => (k_here; k_dflt (refine' item_V ?hl ?h0 ?hf ?hx ?_ ?hs; (case hl => exact in_list (by assumption) (by k_mem)); (case h0 => lia); (case hf => lia); (case hx => assumption); (case hs => with_unfolding_all rfl); k_whole))
 trivial
noncomputable def plD (l : List Pl) : Dat := Dat.list (l.map fun p => Dat.int (p.val : Int))
structure JO (N0 : List (Addr × Obj)) (hs : List (List Pl)) (i : Nat) (_ : Str → Option Value) (ys : List Value) (news : List (Addr × Obj)) : Prop where
 n : ∀ p ∈ N0, p ∈ news
 d : DatAll news ys ((hs.take i).map plD)
inductive KeyList (P : Params) (c : Nat → Int) (t : Nat) (all : List (Addr × Obj)) (v : Value) (l : List Pl) : Prop
 | mk (x n : Nat) (hv : v = .ref x) (hm : (x, listOf (krefs (kwOf P c t) l) n) ∈ all)
theorem keys_is {w : World} {A : Around} {E : Value → Shared → Prop} {s : Shared} {i p : Nat} {oi op : Obj} {Q : Value → Shared → Prop} (hi : s.heap.get? (441 + 3 * i) = some oi) (hp : s.heap.get? (441 + 3 * p) = some op) (hc : oi.cls = .ref 432) (h : Q (.bool (decide (i = p))) s) :
  wpAny (model prog w) A (compareOp .Is (.ref (441 + 3 * i)) (.ref (441 + 3 * p))) Q E s := by
 by_cases e : i = p
 ·subst e
  exact wpAny_is_ref_self (by simpa using h)
 ·refine wpAny_is_ref_other (show (441 + 3 * i : Nat) ≠ 441 + 3 * p by lia) hi hp (by rw [hc]; exact fun z => nomatch z) ?_
  simpa [e] using h
theorem dat_ints {news : List (Addr × Obj)} : ∀ {vs : List Value} {ns : List Int}, IntsAre vs ns → DatAll news vs (ns.map Dat.int)
 | _, _, .nil => .nil
 | _, _, .cons _ _ h => .cons (.int _ _) (dat_ints h)
structure J2 (N2 : List (Addr × Obj)) (l : List Pl) (i : Nat) (_ : Str → Option Value) (ys : List Value) (news : List (Addr × Obj)) : Prop where
 n : news = N2
 d : IntsAre ys ((l.take i).map fun p => (p.val : Int))
structure J3 (N3 : List (Addr × Obj)) (key : Value) (zs : List Int) (p : Pl) (i : Nat) (m : Str → Option Value) (ys : List Value) (news : List (Addr × Obj)) : Prop where
 k : m (Str.ofString "key") = some key
 n : news = N3
 d : IntsAre ys (zs ++ if p.val < i then [(p.val : Int)] else [])
theorem LS.list {h₀ h : Heap} {L C D l n : Addr} {m m₁ : Str → Option Value} {wr : List Addr} {ys vs : List Value} {news : List (Addr × Obj)} (S : LS h₀ L m wr C D h m₁ ys news) (hm : (l, listOf vs.toArray n) ∈ news) : h.IsList l vs.toArray := ⟨_, (S.nw _ hm).1, rfl, _, rfl⟩
theorem st16 (w : World) (s : Shared) (g : Heap) (mg mb m : Str → Option Value) (c : Nat → Int) (t : Nat) (v1 v2 v3 : Value) (l1 l2 l3 : List Pl) (all : List (Addr × Obj)) (Q : Flow → Shared → Prop) (E : Value → Shared → Prop)
  (k1 : KeyList w.params c t all v1 l1) (k2 : KeyList w.params c t all v2 l2) (k3 : KeyList w.params c t all v3 l3) (z1 : l1.length ≤ 10) (z2 : l2.length ≤ 10) (z3 : l3.length ≤ 10) (hm1 : m (Str.ofString "short") = some v1) (hm2 : m (Str.ofString "whole") = some v2) (hm3 : m (Str.ofString "handed") = some v3) (F : Fr g 318 s.heap m) (N : News g 318 s.heap all)
  (m1 : (322, cellO (some (.ref 438))) ∈ all) (m5 : (438, listOf keysL.toArray 10) ∈ all) (mk : ∀ p : Pl, ∃ o, (441 + 3 * p.val, o) ∈ all ∧ o.cls = .ref 432)
  (ret : ∀ D ys h tk all', Fr g 318 h (fun y => if y = Str.ofString "kept" then some (.ref D) else m y) → News g 318 h all' → Kept [] all all' → (D, LCg.lst ys) ∈ all' → DatAll all' ys ([l1, l2, l3].map plD) → (∀ p ∈ all, p.1 ≠ D) → Q .next { s with heap := h, toks := tk }) :
  (KN w.params).In g → TR mg mb g → wpAny (model PySem.Challenge.rw_ik0098_01.row.prog w) (AL w.params) (exec (lawT w.params).a10 (lawE w.params)) Q E s := by
 rw [lawE_eq, (lawT w.params).hs.eq]
 dsimp only [lawT]
 k_fill
 intro X T
 refine Assign_comp (h₀ := g) (m := m) (by rfl) (by with_unfolding_all rfl) (by with_unfolding_all rfl) (by decide) (by rfl) (by decide) (by rfl) (by rfl) ?_
 k_steps
 refine ⟨?_⟩
 rename_i TT hh F1 N1 lTT
 have hT : hh.IsTuple TT #[v1, v2, v3] := ⟨_, (N1 _ (.head _)).1, rfl, _, rfl⟩
 refine wpAny_pyIter_tuple hT ?_
 have lTs : TT < hh.objs.size := Heap.lt_size (N1 _ (.head _)).1
 have V := Walks.tuple (prog := prog) (w := w) (A := AL w.params) rfl hh.objs.size TT (Nat.ne_of_lt lTs) #[v1, v2, v3]
 have nL : (318 : Nat) ∉ [hh.objs.size, TT] := by
  intro hb
  simp only [List.mem_cons, List.not_mem_nil, or_false] at hb
  rcases hb with e | e
  ·exact absurd F1.ns.lt (e ▸ Nat.lt_irrefl _)
  ·exact (N1 _ (.head _)).2.1 e.symm
 refine ⟨hh.objs.size, [hh.objs.size, TT], [hh.objs.size], _, all, rfl, V.frame, V.self, ⟨⟨_, Heap.get?_push_size _ rfl, rfl, rfl⟩, hT.push _⟩, ?fp, F1.push _, fun p hp => ⟨Heap.get?_push_of_some _ (N1 _ (.tail _ hp)).1, (N1 _ (.tail _ hp)).2⟩, ?wr, ?main⟩
 case fp =>
  intro b hb
  show b < (hh.push _).objs.size
  rw [Heap.size_push]
  rcases List.mem_cons.mp hb with rfl | hb
  ·exact Nat.lt_succ_self _
  ·rw [List.mem_singleton.mp hb]; exact Nat.lt_succ_of_lt lTs
 case wr =>
  intro p hp hb
  exact absurd (Heap.lt_size (N1 _ (.tail _ hp)).1) (List.mem_singleton.mp hb ▸ Nat.lt_irrefl _)
 case main =>
  intro C D h tk m₂ cC cD c1 c2 st S
  refine comp_loop (KTurns.ofWalks V ?go) (turn_one _ _ _ _ _ _ _ _ _) (JO all [l1, l2, l3]) nL cC cD ?hwr st S ⟨fun p hp => hp, .nil⟩ ?turn ?done
  case go => exact fun i v s Q E _ q => wpAny_pure q
  case hwr =>
   intro b hb
   rw [List.mem_singleton.mp hb]; exact next_is_new F1
  case done =>
   intro h tk m₁ ys₁ news₁ S1 j1
   refine ⟨rfl, h, tk, m₁, ys₁, news₁, rfl, S1, fun h2 tk2 F2 N2 o2 => ?_⟩
   obtain ⟨jN, jD⟩ := j1
   exact ret D ys₁ h2 tk2 _ F2 N2 (fun p hp _ => .tail _ (jN p hp)) (.head _) (jD.mono fun p hp => .tail _ hp) (fun p hp => o2 p (jN p hp))
  case turn =>
   intro i v m₁ ys₁ news₁ h tk own hi hP hj S1 O1 hown hmem st1
   obtain ⟨hN0, hD⟩ := hj
   have hi3 : i < 3 := hi
   obtain ⟨l, hl, hl10, hx, hn, rfl, hmk⟩ : ∃ l, [l1, l2, l3][i]? = some l ∧ l.length ≤ 10 ∧ KeyList w.params c t all v l := by
    match i, hi3 with
    | 0, _ => exact ⟨l1, rfl, z1, (Option.some.inj (show some v1 = some v from hP)) ▸ k1⟩
    | 1, _ => exact ⟨l2, rfl, z2, (Option.some.inj (show some v2 = some v from hP)) ▸ k2⟩
    | 2, _ => exact ⟨l3, rfl, z3, (Option.some.inj (show some v3 = some v from hP)) ▸ k3⟩
   clear hP
   refine ls_assign1 (by rfl) (by rfl) S1 O1 (fun p hp e => cC (e ▸ hown p hp)) (fun h5 tk5 S5 O5 k5 => ?_)
   refine wpAny_tests_nil ?_
   rw [if_pos rfl]
   have hlenys : ys₁.length ≤ sizeLine := by
    rw [hD.length, List.length_map, List.length_take]
    exact Nat.le_trans (Nat.le_trans (Nat.min_le_left _ _) (Nat.le_of_lt hi3)) (Nat.le_of_ble_eq_true rfl)
   refine ls_emit hlenys (fun p hp e => cD (e ▸ hown p hp)) ?_
   obtain ⟨oC, hoC, N5⟩ := S5.led O5
   have F5 := S5.fr
   refine Eval_comp (h₀ := g) (L := 318) (m := m) (by with_unfolding_all rfl) (by decide) (by rfl) (by decide) ?_
   refine LCgL.ld_own N5 (.head _) hoC (by rfl) ?_
   obtain ⟨N2, hN2⟩ : ∃ N2, N2 = (C, oC) :: (D, LCg.lst ys₁) :: (news₁ ++ own) := ⟨_, rfl⟩
   rw [← hN2] at N5
   have mN2 : ∀ p ∈ all, p ∈ N2 := fun p hp => by rw [hN2]; exact .tail _ (.tail _ (List.mem_append_left _ (hN0 p hp)))
   have lt5 : ∀ p ∈ N2, p.1 < h5.objs.size := fun p hp => Heap.lt_size (N5 p hp).1
   have hxl : h5.IsList hx (krefs (kwOf w.params c t) l) := ⟨_, (N5 _ (mN2 _ hmk)).1, rfl, _, rfl⟩
   have hx5 : hx < h5.objs.size := lt5 _ (mN2 _ hmk)
   have hIw : ∀ b ∈ [hh.objs.size], b < h5.objs.size := by
    obtain ⟨⟨oI, eI, _⟩, _⟩ := st1
    intro b hb
    rw [List.mem_singleton.mp hb]
    exact Heap.lt_size (O5 _ (hmem _ (.head _) (next_is_new F1) _ eI)).1
   refine wpAny_pyIter_list hxl ?_
   have V2 := Walks.list (prog := prog) (w := w) (A := AL w.params) rfl h5.objs.size hx (Nat.ne_of_lt hx5) (krefs (kwOf w.params c t) l)
   have nL2 : (318 : Nat) ∉ [h5.objs.size, hx] := by
    intro hb
    simp only [List.mem_cons, List.not_mem_nil, or_false] at hb
    rcases hb with e | e
    ·exact absurd F5.ns.lt (e ▸ Nat.lt_irrefl _)
    ·exact (N5 _ (mN2 _ hmk)).2.1 e.symm
   refine ⟨h5.objs.size, [h5.objs.size, hx], [h5.objs.size], _, N2, rfl, V2.frame, V2.self, ⟨⟨_, Heap.get?_push_size _ rfl, rfl, rfl⟩, hxl.push _⟩, ?fp2, F5.push _, fun p hp => ⟨Heap.get?_push_of_some _ (N5 _ hp).1, (N5 _ hp).2⟩, ?wr2, ?main2⟩
   case fp2 =>
    intro b hb
    show b < (h5.push _).objs.size
    rw [Heap.size_push]
    rcases List.mem_cons.mp hb with rfl | hb
    ·exact Nat.lt_succ_self _
    ·rw [List.mem_singleton.mp hb]; exact Nat.lt_succ_of_lt hx5
   case wr2 =>
    intro p hp hb
    exact absurd (lt5 p hp) (List.mem_singleton.mp hb ▸ Nat.lt_irrefl _)
   case main2 =>
    intro C2 D2 h6 tk6 m6 cC2 cD2 c12 c22 st2 S6
    refine comp_loop (KTurns.ofWalks V2 ?go2) (turn_two _ _ _ _ _ _ _ _ _ _ _ _) (J2 N2 l) nL2 cC2 cD2 ?hwr2 st2 S6 ⟨rfl, .nil⟩ ?turn2 ?done2
    case go2 => exact fun i v s Q E _ q => wpAny_pure q
    case hwr2 =>
     intro b hb
     rw [List.mem_singleton.mp hb]; exact next_is_new F5
    case done2 =>
     intro h9 tk9 m9 ys9 news9 S9 j9
     refine ⟨rfl, h9, tk9, m9, ys9, news9, rfl, S9, fun h2 tk2 F2 N9 o2 => ?_⟩
     obtain ⟨rfl, jys⟩ := j9
     have c23 : h5.objs.size < D2 := by
      have : (h5.push { cls := .type "list_iterator", data := .fields #[.ref hx, .int 0 0] }).objs.size ≤ D2 := c22
      rw [Heap.size_push] at this
      exact this
     have xC : C < D2 := Nat.lt_trans (lt5 (C, oC) (by rw [hN2]; exact .head _)) c23
     have xD : D < D2 := Nat.lt_trans (lt5 (D, _) (by rw [hN2]; exact .tail _ (.head _))) c23
     rw [hN2] at N9
     refine ee_new (pre := []) S5 F2 N9 hoC xC xD (fun hw => absurd (Nat.lt_trans (hIw _ hw) c23) (Nat.lt_irrefl _)) ⟨fun p hp => .tail _ (hN0 p hp), ?_⟩
     rw [List.take_add_one, hl, List.map_append]
     refine DatAll.append (hD.mono fun p hp => .tail _ hp) (DatAll.one (DatIn.list (.head _) ?_))
     have hsz : (krefs (kwOf w.params c t) l).size = l.length := by simp [krefs]
     rw [hsz, List.take_length] at jys
     have := dat_ints (news := (D2, LCg.lst ys9) :: news₁) jys
     rwa [List.map_map] at this
    case turn2 =>
     intro i2 v2' m7 ys7 news7 h7 tk7 own7 hi2 hP2 hj2 S7 O7 hown7 hmem7 st7
     obtain ⟨e7, hys7⟩ := hj2
     rw [e7] at S7
     have hsz : (krefs (kwOf w.params c t) l).size = l.length := by simp [krefs]
     obtain ⟨p, hp, rfl⟩ : ∃ p, l[i2]? = some p ∧ v2' = .ref (441 + 3 * p.val) := by
      have hlt : i2 < l.length := by rw [← hsz]; exact hi2
      refine ⟨l[i2], List.getElem?_eq_getElem hlt, ?_⟩
      have : (krefs (kwOf w.params c t) l)[i2]? = some (.ref (441 + 3 * (l[i2]).val)) := by simp [krefs, kwOf, hlt]
      exact Option.some.inj (hP2.symm.trans this)
     refine ls_assign1 (by rfl) (by rfl) S7 O7 (fun p hp e => cC2 (e ▸ hown7 p hp)) (fun h8 tk8 S8 O8 k8 => ?_)
     refine wpAny_tests_nil ?_
     rw [if_pos rfl]
     have q8 : (fun z => if z = Str.ofString "key" then some (Value.ref (441 + 3 * p.val)) else m7 z : Str → Option Value) (Str.ofString "key") = some (.ref (441 + 3 * p.val)) := rfl
     generalize (fun z => if z = Str.ofString "key" then some (Value.ref (441 + 3 * p.val)) else m7 z : Str → Option Value) = m8 at S8 q8
     refine deep_of ?_
     obtain ⟨oC8, hoC8, N8⟩ := S8.led O8
     have F8 := S8.fr
     clear F1 N1 F5
     k_steps
     refine ⟨?_⟩
     rename_i h9 tk9 ta tb tc hr F9 N9 hk9
     have S9 := S8.keeps hk9
     have O9 : News g 318 h9 own7 := O8.grown hk9
     refine wpAny_pyIter_range hr rfl ?_
     have V3 := LCg.range_walks (prog := prog) (w := w) (A := AL w.params) (I := h9.objs.size) rfl 0 10
     have st3 : IsRangeIter (h9.push { cls := .type "range_iterator", data := .fields #[rawInt 0, rawInt (Builtin.Range.rangeSize 0 10 1), rawInt 1] }) h9.objs.size (0 + ((0 : Nat) : Int) * 1) (((10 : Nat) : Int) - ((0 : Nat) : Int)) 1 := Heap.get?_push_size _ rfl
     refine ⟨fun Q E q => V3.self 0 _ Q E st3 q, ?_⟩
     have up9 : ∀ b o, h9.get? b = some o → (h9.push { cls := .type "range_iterator", data := .fields #[rawInt 0, rawInt (Builtin.Range.rangeSize 0 10 1), rawInt 1] }).get? b = some o := fun b o e => Heap.get?_push_of_some _ e
     generalize (h9.push { cls := .type "range_iterator", data := .fields #[rawInt 0, rawInt (Builtin.Range.rangeSize 0 10 1), rawInt 1] }) = h10 at st3 up9
     have S10 := S9.keeps up9
     have O10 := O9.grown up9
     have lt9 : C2 < h9.objs.size ∧ D2 < h9.objs.size ∧ (318 : Nat) < h9.objs.size := by
      obtain ⟨o, e, _⟩ := LCg.ns_obj S9.ns
      exact ⟨Heap.lt_size e, Heap.lt_size S9.ls, S9.fr.ns.lt⟩
     have ltN : ∀ p ∈ N2 ++ own7, p.1 < h9.objs.size := fun p hp => by
      rcases List.mem_append.mp hp with hp | hp
      ·exact Heap.lt_size (S9.nw p hp).1
      ·exact Heap.lt_size (O9 p hp).1
     have S11 : LS g 318 m [h9.objs.size] C2 D2 h10 m8 ys7 (N2 ++ own7) := ⟨S10.fr, S10.nw.append O10, S10.ns, S10.ls, fun p hp => ⟨?o1, ?o2, fun hb => absurd (ltN p hp) (List.mem_singleton.mp hb ▸ Nat.lt_irrefl _)⟩, S10.cd, S10.cL, S10.dL, S10.c0, S10.d0⟩
     case o1 =>
      rcases List.mem_append.mp hp with hp | hp
      ·exact (S10.off p hp).1
      ·exact fun e => cC2 (e ▸ hown7 p hp)
     case o2 =>
      rcases List.mem_append.mp hp with hp | hp
      ·exact (S10.off p hp).2.1
      ·exact fun e => cD2 (e ▸ hown7 p hp)
     refine comp_loop (KTurns.ofWalks V3 ?go3) (turn_in _ _ _ _ _ _ _ _ _ _ _ _) (J3 (N2 ++ own7) (.ref (441 + 3 * p.val)) ((l.take i2).map fun p => (p.val : Int)) p) ?hL3 ?hC3 ?hD3 ?hwr3 st3 S11 ⟨q8, rfl, by simpa using hys7⟩ ?turn3 ?done3
     case go3 => exact fun i v s Q E _ q => wpAny_pure q
     case hL3 => exact fun hb => absurd lt9.2.2 (List.mem_singleton.mp hb ▸ Nat.lt_irrefl _)
     case hC3 => exact fun hb => absurd lt9.1 (List.mem_singleton.mp hb ▸ Nat.lt_irrefl _)
     case hD3 => exact fun hb => absurd lt9.2.1 (List.mem_singleton.mp hb ▸ Nat.lt_irrefl _)
     case hwr3 =>
      intro b hb
      rw [List.mem_singleton.mp hb]; exact next_is_new S9.fr
     case done3 =>
      intro h12 tk12 m12 ys12 news12 S12 j12
      obtain ⟨_, rfl, jys⟩ := j12
      refine ⟨rfl, h12, _, m12, ys12, N2, rfl, ⟨S12.fr, fun p hp => S12.nw p (List.mem_append_left _ hp), S12.ns, S12.ls, S8.off, S12.cd, S12.cL, S12.dL, S12.c0, S12.d0⟩, fun p hp => S12.nw p (List.mem_append_right _ hp), rfl, ?_⟩
      rw [List.take_add_one, hp, List.map_append]
      rw [if_pos p.isLt] at jys
      exact jys
     case turn3 =>
      intro i3 v3 m13 ys13 news13 h13 tk13 own13 hi3' hP3 hj3 S13 O13 hown13 hmem13 st13
      obtain ⟨t3, rfl⟩ := hP3
      obtain ⟨hkey, e13, hys13⟩ := hj3
      rw [e13] at S13
      refine ls_assign1 (by rfl) (by rfl) S13 O13 (fun p hp e => by have := hown13 p hp; rw [List.mem_singleton] at this; exact absurd lt9.1 (by rw [← e, this]; exact Nat.lt_irrefl _)) (fun h14 tk14 S14 O14 k14 => ?_)
      refine wpAny_tests_one ?_
      have q14 : (fun z => if z = Str.ofString "place" then some (Value.int (0 + (i3 : Int)) t3) else m13 z : Str → Option Value) (Str.ofString "place") = some (.int (0 + (i3 : Int)) t3) := rfl
      have r14 : (fun z => if z = Str.ofString "place" then some (Value.int (0 + (i3 : Int)) t3) else m13 z : Str → Option Value) (Str.ofString "key") = some (.ref (441 + 3 * p.val)) := hkey
      generalize (fun z => if z = Str.ofString "place" then some (Value.int (0 + (i3 : Int)) t3) else m13 z : Str → Option Value) = m14 at S14 q14 r14
      obtain ⟨oC14, hoC14, N14⟩ := S14.led O14
      have F14 := S14.fr
      have mA : ∀ p ∈ all, p ∈ (C2, oC14) :: (D2, LCg.lst ys13) :: ((N2 ++ own7) ++ own13) := fun p hp => .tail _ (.tail _ (List.mem_append_left _ (List.mem_append_left _ (mN2 p hp))))
      have N15 : News g 318 h14 ((C2, oC14) :: (D2, LCg.lst ys13) :: (322, cellO (some (.ref 438))) :: (438, listOf keysL.toArray 10) :: ((N2 ++ own7) ++ own13)) := by
       intro p hp
       refine N14 p ?_
       rcases List.mem_cons.mp hp with rfl | hp
       ·exact .head _
       rcases List.mem_cons.mp hp with rfl | hp
       ·exact .tail _ (.head _)
       rcases List.mem_cons.mp hp with rfl | hp
       ·exact mA _ m1
       rcases List.mem_cons.mp hp with rfl | hp
       ·exact mA _ m5
       exact .tail _ (.tail _ hp)
      have x1 : keysL[(0 + (i3 : Int)).toNat]? = some (.ref (441 + 3 * i3)) := by
       rw [show (0 + (i3 : Int)).toNat = i3 by lia]; exact keysL_get hi3'
      obtain ⟨oi, hoi, hci⟩ := mk ⟨i3, hi3'⟩
      obtain ⟨op, hop, _⟩ := mk p
      have gi : h14.get? (441 + 3 * i3) = some oi := (N14 _ (mA _ hoi)).1
      have gp : h14.get? (441 + 3 * p.val) = some op := (N14 _ (mA _ hop)).1
      clear N14 F9
      dsimp only
      k_steps
      refine ⟨?_⟩
      refine keys_is gi gp hci ?_
      have hz13 : ys13.length ≤ sizeLine := by
       rw [hys13.length, List.length_append, List.length_map, List.length_take]
       refine Nat.le_trans (?_ : _ ≤ 11) (Nat.le_of_ble_eq_true rfl)
       split
       ·rw [List.length_singleton]; lia
       ·rw [List.length_nil]; lia
      k_steps
      ·rename_i hip
       refine ls_emit hz13 (fun p hp e => by have := hown13 p hp; rw [List.mem_singleton] at this; exact absurd lt9.2.1 (by rw [← e, this]; exact Nat.lt_irrefl _)) ?_
       refine LCgL.ld_own N15 (.head _) hoC14 q14 ?_
       refine ⟨h14, _, m14, _, rfl, S14, O14, r14, rfl, ?_⟩
       rw [if_neg (by lia), List.append_nil] at hys13
       rw [if_pos (by lia)]
       refine ints_append hys13 ?_
       rw [show (0 + (i3 : Int)) = (p.val : Int) by lia]
       exact .cons _ _ .nil
      ·rename_i hip
       refine ⟨h14, _, m14, ys13, _, rfl, S14, O14, r14, rfl, ?_⟩
       by_cases hlt : p.val < i3
       ·rw [if_pos (by lia)]; rw [if_pos hlt] at hys13; exact hys13
       ·rw [if_neg (by lia)]; rw [if_neg hlt] at hys13; exact hys13
end Mine
end
section
namespace Mine
noncomputable def cdD (c : Cde) : Dat := Dat.tuple [Dat.str (Str.ofString (if c.1 then "insert" else "equal")), Dat.int (c.2.1 : Int), Dat.int (c.2.2.1 : Int), Dat.int (c.2.2.2.1 : Int), Dat.int (c.2.2.2.2 : Int)]
theorem ok_eq : PyData.strOk (Str.ofString "equal") = true := by decide +kernel
theorem ok_in : PyData.strOk (Str.ofString "insert") = true := by decide +kernel
theorem cdD_ok (c : Cde) : kqdOk 8 (cdD c) = true := by
 obtain ⟨b, x⟩ := c
 cases b
 ·show (PyData.strOk (Str.ofString "equal") && true) = true
  rw [ok_eq]; rfl
 ·show (PyData.strOk (Str.ofString "insert") && true) = true
  rw [ok_in]; rfl
theorem dat_code {news : List (Addr × Obj)} {x : Addr} {o : Obj} {c : Cde} (hm : (x, o) ∈ news) (h : CodeT o c) : DatIn news (.ref x) (cdD c) := by
 obtain ⟨n, t1, t2, t3, t4, t5, rfl⟩ := h
 exact DatIn.tuple hm (.cons (.str _ _) (.cons (.int _ _) (.cons (.int _ _) (.cons (.int _ _) (.cons (.int _ _) .nil)))))
theorem dat_all {news : List (Addr × Obj)} : ∀ {vs : List Value} {ds : List Dat}, vs.length = ds.length → (∀ (i : Nat) (d : Dat), ds[i]? = some d → ∃ v, vs[i]? = some v ∧ DatIn news v d) → DatAll news vs ds
 | [], [], _, _ => .nil
 | [], _ :: _, h, _ => nomatch h
 | _ :: _, [], h, _ => nomatch h
 | v :: vs, d :: ds, h, k => by
  obtain ⟨v', e, hd⟩ := k 0 d rfl
  rw [List.getElem?_cons_zero] at e
  cases e
  exact .cons hd (dat_all (by simpa using h) fun i d' hd' => by simpa using k (i + 1) d' (by simpa using hd'))
theorem dat_care {objs : List (Addr × Obj)} {vs : List Value} {cs : List Cde} (h : CAre objs vs cs) : DatAll objs vs (cs.map cdD) := by
 refine dat_all (by rw [h.len, List.length_map]) fun i d hd => ?_
 rw [List.getElem?_map] at hd
 cases hc : cs[i]? with
 | none => rw [hc] at hd; cases hd
 | some c =>
  rw [hc] at hd
  cases hd
  obtain ⟨x, o, a, b, d⟩ := h.at_ i c hc
  exact ⟨_, a, dat_code b d⟩
theorem codes_ok (cs : List Cde) : ∀ d ∈ cs.map cdD, kqdOk 8 d = true := fun d hd => by
 obtain ⟨c, _, rfl⟩ := List.mem_map.mp hd
 exact cdD_ok c
theorem eq_dat {prog : Program} {w : World} {A : Around} {E : Value → Shared → Prop} {s : Shared} {h₀ : Heap} {L a b : Addr} {news n₁ n₂ : List (Addr × Obj)} {xs ys : List Value} {ka kb : Nat} {ds es : List Dat} {Q : Value → Shared → Prop} (N : News h₀ L s.heap news) (ma : (a, listOf xs.toArray ka) ∈ news) (Da : DatAll n₁ xs ds) (sa : ∀ p ∈ n₁, p ∈ news)
  (mb : (b, listOf ys.toArray kb) ∈ news) (Db : DatAll n₂ ys es) (sb : ∀ p ∈ n₂, p ∈ news) (ha : ∀ d ∈ ds, kqdOk 8 d = true) (hu : A.units + 64 < cLine) (e : ds = es) (h : Q (.bool true) s) : wpAny (model prog w) A (compareOp .Eq (.ref a) (.ref b)) Q E s := by
 subst e
 refine kqd_eq N ma rfl rfl Da sa mb rfl rfl Db sb ha ha hu ?_
 simpa using h
theorem compEnd_new {h₀ h' : Heap} {L : Addr} {m : Str → Option Value} {s₁ : Shared} {I C D x tk : Nat} {oI oC oD o : Obj} {pre news : List (Addr × Obj)} {S : List (Addr × Obj) → Prop} {rest : Value → List (Addr × Obj) → Prop} {y : Value} (F : Fr h₀ L h' m) (N : News h₀ L h' ((x, o) :: (I, oI) :: (C, oC) :: (D, oD) :: (pre ++ news))) (off : LCg.Off3 I C D news)
  (l1 : @LT.lt Nat _ I x) (l2 : @LT.lt Nat _ C x) (l3 : @LT.lt Nat _ D x) (hS : S ((x, o) :: news)) (r : rest y ((x, o) :: news)) : LCg.CompEnd h₀ L m s₁ I oI C oC D oD S rest y { s₁ with heap := h', toks := tk } := by
 refine LCg.CompEnd.intro F N ((x, o) :: news) (fun p hp => ?_) ⟨⟨Nat.ne_of_gt l1, Nat.ne_of_gt l2, Nat.ne_of_gt l3⟩, off⟩ hS r
 rcases List.mem_cons.mp hp with rfl | hp
 ·exact .tail _ (.head _)
 rcases List.mem_cons.mp hp with rfl | hp
 ·exact .tail _ (.tail _ (.head _))
 rcases List.mem_cons.mp hp with rfl | hp
 ·exact .tail _ (.tail _ (.tail _ (.head _)))
 rcases List.mem_cons.mp hp with rfl | hp
 ·exact .head _
 ·exact .tail _ (.tail _ (.tail _ (.tail _ (List.mem_append_right _ hp))))
theorem eq_ints {prog : Program} {w : World} {A : Around} {E : Value → Shared → Prop} {s : Shared} {a b : Addr} {xs ys : List Value} {ns ms : List Int} {Q : Value → Shared → Prop} (ha : s.heap.IsList a xs.toArray) (hb : s.heap.IsList b ys.toArray) (hi : IntsAre xs ns) (hj : IntsAre ys ms) (hu : A.units + 64 < cLine) (e : ns = ms) (h : Q (.bool true) s) :
  wpAny (model prog w) A (compareOp .Eq (.ref a) (.ref b)) Q E s := by
 subst e
 refine ke_eq_ints ha hb hi hj hu ?_
 simpa using h
noncomputable def JV (N0 : List (Addr × Obj)) (ns : List Int) (f : Int → Int) (i : Nat) (ys : List Value) (news : List (Addr × Obj)) : Prop := news = N0 ∧ IntsAre ys ((ns.take i).map f)
theorem JV.snoc {N0 : List (Addr × Obj)} {ns : List Int} {f : Int → Int} {i : Nat} {ys : List Value} {x y : Int} {t : Tok} (hy : IntsAre ys ((ns.take i).map f)) (hx : ns[i]? = some x) (e : y = f x) : JV N0 ns f (i + 1) (ys ++ [.int y t]) N0 := by
 refine ⟨rfl, ?_⟩
 rw [List.take_add_one, hx, List.map_append, e]
 exact ints_append hy (.cons _ _ .nil)
theorem range_z {z : Nat} (h1 : 1 ≤ z) (h3 : z ≤ 3) : Builtin.Range.small (z : Int) 10 1 = true ∧ Builtin.Range.rangeSize (z : Int) 10 1 = ((10 - z : Nat) : Int) := by
 match z, h1, h3 with
 | 1, _, _ => exact ⟨by decide, by decide⟩
 | 2, _, _ => exact ⟨by decide, by decide⟩
 | 3, _, _ => exact ⟨by decide, by decide⟩
 | n + 4, _, h => exact absurd h (by lia)
theorem min_if (x y : Int) : (if y < x then y else x) = min x y := by
 rw [Int.min_def]
 split <;> split <;> lia
end Mine
end
section
theorem Mine.wlSt17r : True := by
 k_with_none
 trivial
namespace Mine
theorem wlSt170 : True := by
 k_with_none
 k_with "call ref" => (k_here; (refine' HoldX.h ?_))
 k_with "compareOp Eq ref ref" => (k_here; (refine' HoldX.h ?_))
 k_with "call builtin:sorted" => (k_here; (refine' HoldX.h ?_))
 k_with "call type:list" => (k_here; (refine' HoldX.h ?_))
 k_with "eval ListComp" => (k_here; (refine' HoldX.h ?_))
 k_with "CompSrc" => (k_here; (refine' HoldX.h ?_))
 k_with "CompEnd" => (k_here; (refine' HoldX.h ?_))
 k_with "eval Name" => (k_here; (with_reducible show wpAny _ _ (eval (Expr.Name _ _) (envX _ _ _ _ _ _)) _ _ _); k_dflt (first
  | (refine' nameX_L ?zzF ?zzv ?_ ?zza ?zzb; (case zza => rfl); (case zzb => rfl); (case zzF => first | assumption | k_asm); (case zzv => assumption); k_whole)
  | (refine' nameX_C ?zzN ?zzc ?zzm ?zzd ?_ ?zza ?zzb; (case zza => rfl); (case zzb => rfl); (case zzN => k_asm); (case zzc => rfl); (case zzm => k_mem); (case zzd => first | rfl | assumption); k_whole)))
 k_with "eval Name" => (k_here; (with_reducible show wpAny _ _ (eval (Expr.Name _ _) (compEnvC _ _ _ _)) _ _ _); k_dflt (first
  | (refine' lcf_cell ?zzN ?zzc ?zzm ?zzd ?_ ?zza ?zzb; (case zza => rfl); (case zzb => rfl); (case zzN => k_asm); (case zzc => rfl); (case zzm => k_mem); (case zzd => first | rfl | assumption); k_whole)
  | refine cn_K (by assumption) (by assumption) (by assumption) (by k_is) ?_
  | refine cn_B (by assumption) (by assumption) (by assumption) (by k_is) (by boot_by_name) (by decide) ?_))
 k_with "subscriptTail Name Name ref int" => (k_here; k_dflt (refine' item_I ?zzhl ?zzhi ?zzh0 ?zzhf ?zzhx ?_ ?zzhs; (case zzhl => exact in_list (by assumption) (by k_mem)); (case zzhi => assumption); (case zzh0 => lia); (case zzhf => lia); (case zzhx => assumption); (case zzhs => with_unfolding_all rfl); k_whole); intro _)
 k_with "subscriptTail Name Constant ref int" => (k_here; k_dflt (refine' item_V ?zzhl ?zzh0 ?zzhf ?zzhx ?_ ?zzhs; (case zzhl => exact in_list (by assumption) (by k_mem)); (case zzh0 => decide); (case zzhf => decide); (case zzhx => rfl); (case zzhs => with_unfolding_all rfl); k_whole))
 trivial
noncomputable def pairD (lv : Int → Int) (x : Int) : Dat := Dat.tuple [Dat.int (lv x), Dat.int x]
noncomputable def JP (N0 : List (Addr × Obj)) (rf : List Int) (lv : Int → Int) (i : Nat) (ys : List Value) (news : List (Addr × Obj)) : Prop := (∀ p ∈ N0, p ∈ news) ∧ DatAll news ys ((rf.take i).map (pairD lv))
theorem pair_ok (rf : List Int) (lv : Int → Int) : ∀ d ∈ rf.map (pairD lv), kqdOk 8 d = true := fun d hd => by
 obtain ⟨c, _, rfl⟩ := List.mem_map.mp hd
 rfl
structure RetT (S : Stmt) where
 c1 : PySem.Expr
 c2 : PySem.Expr
 c3 : PySem.Expr
 c4 : PySem.Expr
 c5 : PySem.Expr
 p1 : Pos
 p2 : Pos
 h : EqT S (.Return (some (.BoolOp .And [c1, c2, c3, c4, c5] p1)) p2)
noncomputable def retT (P : Params) : RetT (lawT P).a11 := ⟨_, _, _, _, _, _, _, by with_unfolding_all exact EqT.refl⟩
noncomputable def Yes (g : Heap) (m : Str → Option Value) (all : List (Addr × Obj)) (s : Shared) (v : Value) (s' : Shared) : Prop := v = .bool true ∧ ∃ h tk all', s' = { s with heap := h, toks := tk } ∧ Fr g 318 h m ∧ News g 318 h all' ∧ ∀ p ∈ all, p ∈ all'
theorem Yes.of {g h : Heap} {m : Str → Option Value} {all all' : List (Addr × Obj)} {s : Shared} {tk : Nat} (F : Fr g 318 h m) (N : News g 318 h all') (k : ∀ p ∈ all, p ∈ all') : Yes g m all s (.bool true) { s with heap := h, toks := tk } := ⟨rfl, h, tk, all', rfl, F, N, k⟩
section
variable (w : World) (s : Shared) (g : Heap) (mg mb m : Str → Option Value) (all : List (Addr × Obj)) (E : Value → Shared → Prop) (F : Fr g 318 s.heap m) (N : News g 318 s.heap all)
include F N
theorem c1_ok (b : List Qu) (f : Qu → Bool) (D13 n13 AL' an : Nat) (avs : List Value) (objs : List (Addr × Obj)) (cs : List Cde) (hb : b.length ≤ 1000) (hm1 : m (Str.ofString "codes") = some (.ref AL')) (hm2 : m (Str.ofString "flags") = some (.ref D13))
  (mf : (D13, listOf (b.map fun q => Value.bool (f q)).toArray n13) ∈ all) (mA : (AL', listOf avs.toArray an) ∈ all) (mO : ∀ p ∈ objs, p ∈ all) (hC : CAre objs avs cs) (hCo : Codes b f 0 cs) :
  (KN w.params).In g → TR mg mb g → wpAny (model PySem.Challenge.rw_ik0098_01.row.prog w) (AL w.params) (eval (retT w.params).c1 (lawE w.params)) (Yes g m all s) E s := by
 rw [lawE_eq, (lawT w.params).hs.eq]
 dsimp only [lawT, retT]
 k_fill
 intro X T
 k_steps
 refine ⟨?_⟩
 refine use_spec (pass := []) (keep := all) (lc w b f D13 hb) F N X T (fun _ h => nomatch h) (fun g2 _ hk => ⟨_, hk _ mf, rfl, _, rfl⟩) rfl (Nat.le_of_ble_eq_true rfl) (Nat.le_of_ble_eq_true rfl) ?_
 rintro r pass1 h1 tk1 F1 N1 off1 ⟨D, n, vs, tups, cs', rfl, rfl, hT, hC'⟩
 have ecs : cs' = cs := Codes.det b f hC' hCo
 subst ecs
 refine eq_dat N1 (List.mem_append_right _ mA) (dat_care hC) (fun p hp => List.mem_append_right _ (mO p hp)) (.head _) (dat_care hT) (fun p hp => .tail _ (List.mem_append_left _ hp)) (codes_ok _) (Nat.le_of_ble_eq_true rfl) rfl ?_
 exact Yes.of F1 N1 fun p hp => List.mem_append_right _ hp
theorem c2_ok (D7 D8 : Addr) (o7 o8 : Obj) (ys7 ys8 : List Value) (lims rf : List Int) (lv : Int → Int) (D15 n15 : Nat) (ys15 : List Value) (hm3 : m (Str.ofString "against") = some (.ref D15))
  (m7 : (323, o7) ∈ all) (d7 : o7.data = .cell (some (.ref D7))) (l7 : (D7, listOf ys7.toArray ys7.length) ∈ all) (i7 : IntsAre ys7 lims) (m8 : (324, o8) ∈ all) (d8 : o8.data = .cell (some (.ref D8))) (l8 : (D8, listOf ys8.toArray ys8.length) ∈ all) (i8 : IntsAre ys8 rf)
  (hlv : ∀ x ∈ rf, 0 ≤ x ∧ x < 10 ∧ lims[x.toNat]? = some (lv x)) (hrf : rf.length ≤ 10) (m15 : (D15, listOf ys15.toArray n15) ∈ all) (da : DatAll all ys15 (rf.map (pairD lv))) :
  (KN w.params).In g → TR mg mb g → wpAny (model PySem.Challenge.rw_ik0098_01.row.prog w) (AL w.params) (eval (retT w.params).c2 (lawE w.params)) (Yes g m all s) E s := by
 rw [lawE_eq, (lawT w.params).hs.eq]
 dsimp only [lawT, retT]
 k_fill
 intro X T
 have N2 : News g 318 s.heap ((323, o7) :: (D7, listOf ys7.toArray ys7.length) :: (324, o8) :: (D8, listOf ys8.toArray ys8.length) :: all) := nw_cons N m7 (nw_cons N l7 (nw_cons N m8 (nw_cons N l8 N)))
 clear N
 k_steps
 refine ⟨?_⟩
 refine LCg.ListComp_U (F₀ := F) (by with_unfolding_all rfl) (by decide) (by rfl) (by decide) (by rfl) ?_
 refine nameX_C N2 rfl (.tail _ (.tail _ (.head _))) d8 ?_
 have hl8 := i8.length
 refine LCg.CompSrc.ledger (its := ys8.toArray) (k := ys8.length) rfl F N2 (.tail _ (.tail _ (.tail _ (.head _)))) (Nat.le_trans (by simp; lia) (Nat.le_of_ble_eq_true rfl : 1000 ≤ sizeLine)) (fun g' => ?_)
 refine comp_inv (n := ys8.toArray.size) (JP ((323, o7) :: (D7, listOf ys7.toArray ys7.length) :: (324, o8) :: (D8, listOf ys8.toArray ys8.length) :: all) rf lv) ?turn ?fin ys8.toArray.size 0 [] _ (Nat.zero_add _) ⟨fun p hp => hp, .nil⟩
 case turn =>
  intro i ys news v' I oI C oC D m₂ h tk E' hi hj hP hoC hx F3 N3 off ne
  obtain ⟨hN0, hD⟩ := hj
  obtain ⟨x, ti, rfl, hxi⟩ := IntsAre.at i8 i v' (by simpa using hP)
  obtain ⟨x0, x1, x2⟩ := hlv x (List.mem_of_getElem? hxi)
  have N4 : News g 318 h ((I, oI) :: (C, oC) :: (D, LCg.lst ys) :: (323, o7) :: (D7, listOf ys7.toArray ys7.length) :: news) := by
   intro p hp
   refine N3 p ?_
   rcases List.mem_cons.mp hp with rfl | hp
   ·exact .head _
   rcases List.mem_cons.mp hp with rfl | hp
   ·exact .tail _ (.head _)
   rcases List.mem_cons.mp hp with rfl | hp
   ·exact .tail _ (.tail _ (.head _))
   rcases List.mem_cons.mp hp with rfl | hp
   ·exact .tail _ (.tail _ (.tail _ (hN0 _ (.head _))))
   rcases List.mem_cons.mp hp with rfl | hp
   ·exact .tail _ (.tail _ (.tail _ (hN0 _ (.tail _ (.head _)))))
   exact .tail _ (.tail _ (.tail _ hp))
  clear N3 N2 F
  dsimp only
  k_steps
  refine ⟨?_⟩
  rename_i t5 D5 h5 F5 N5 l5
  refine compEnd_new (pre := [(323, o7), (D7, listOf ys7.toArray ys7.length)]) F5 N5 off l5.1 l5.2.1 l5.2.2.1 (.inr ⟨_, .tail _ (hN0 _ (.tail _ (.tail _ (.tail _ (.head _))))), rfl, _, rfl⟩) ⟨fun p hp => .tail _ (hN0 p hp), ?_⟩
  rw [List.take_add_one, hxi, List.map_append]
  exact DatAll.append (hD.mono fun p hp => .tail _ hp) (DatAll.one (DatIn.tuple (.head _) (.cons (.int _ _) (.cons (.int _ _) .nil))))
 case fin =>
  rintro ys news ⟨hN0, hD⟩
  clear N2 F
  unfold LCg.FinE
  intro D h tk F2 N2 o2
  have mall : ∀ p ∈ all, p ∈ news := fun p hp => hN0 p (.tail _ (.tail _ (.tail _ (.tail _ hp))))
  refine eq_dat N2 (.tail _ (mall _ m15)) da (fun p hp => .tail _ (mall p hp)) (.head _) hD (fun p hp => .tail _ hp) (pair_ok rf lv) (Nat.le_of_ble_eq_true rfl) (by rw [show ys8.toArray.size = rf.length by simp [hl8], List.take_length]) ?_
  exact Yes.of F2 N2 fun p hp => .tail _ (mall p hp)
theorem c3_ok (DK nK x0 x1 x2 n0 n1 : Nat) (w0 w1 : List Value) (p0 p1 : List Int) (hm4 : m (Str.ofString "kept") = some (.ref DK)) (mK : (DK, listOf [Value.ref x0, .ref x1, .ref x2].toArray nK) ∈ all) (mz0 : (x0, listOf w0.toArray n0) ∈ all) (mz1 : (x1, listOf w1.toArray n1) ∈ all)
  (i0 : IntsAre w0 p0) (i1 : IntsAre w1 p1) (h01 : p0 = p1) :
  (KN w.params).In g → TR mg mb g → wpAny (model PySem.Challenge.rw_ik0098_01.row.prog w) (AL w.params) (eval (retT w.params).c3 (lawE w.params)) (Yes g m all s) E s := by
 rw [lawE_eq, (lawT w.params).hs.eq]
 dsimp only [lawT, retT]
 k_fill
 intro X T
 have N2 : News g 318 s.heap ((DK, listOf [Value.ref x0, .ref x1, .ref x2].toArray nK) :: all) := nw_cons N mK N
 clear N
 k_steps
 refine ⟨?_⟩
 refine eq_ints (in_list N2 (.tail _ mz0)) (in_list N2 (.tail _ mz1)) i0 i1 (Nat.le_of_ble_eq_true rfl) h01 ?_
 exact Yes.of F N2 fun p hp => .tail _ hp
theorem c4_ok (c : Nat → Int) (t z : Nat) (tz : Tok) (ns : List Int) (D7 : Addr) (o7 : Obj) (ys7 : List Value) (lims : List Int) (DK nK x0 x1 x2 n2 : Nat) (w2 : List Value) (p2 : List Int) (hm4 : m (Str.ofString "kept") = some (.ref DK))
  (m1 : (319, cellO (some (.ref 346))) ∈ all) (m2 : (320, cellO (some (.int (z : Int) tz))) ∈ all) (m3 : (346, listOf (valsOf c t).toArray 10) ∈ all) (hns : IntsAre (valsOf c t) ns) (m7 : (323, o7) ∈ all) (d7 : o7.data = .cell (some (.ref D7))) (l7 : (D7, listOf ys7.toArray ys7.length) ∈ all) (i7 : IntsAre ys7 lims)
  (mK : (DK, listOf [Value.ref x0, .ref x1, .ref x2].toArray nK) ∈ all) (mz2 : (x2, listOf w2.toArray n2) ∈ all) (i2 : IntsAre w2 p2) (hp2 : p2.length ≤ 10) (vv : Int → Int) (hvv : ∀ x ∈ p2, 0 ≤ x ∧ x < 10 ∧ ns[x.toNat]? = some (vv x)) (z1 : 1 ≤ z) (z3 : z ≤ 3) (lv2 : Int → Int)
  (hvz : ∀ i : Nat, i < 10 - z → ns[((z : Int) + i).toNat]? = some (vv ((z : Int) + i)) ∧ lims[((z : Int) + i).toNat]? = some (lv2 ((z : Int) + i))) (hmin : p2.map vv = (List.range (10 - z)).map fun (i : Nat) => min (vv ((z : Int) + i)) (lv2 ((z : Int) + i))) :
  (KN w.params).In g → TR mg mb g → wpAny (model PySem.Challenge.rw_ik0098_01.row.prog w) (AL w.params) (eval (retT w.params).c4 (lawE w.params)) (Yes g m all s) E s := by
 rw [lawE_eq, (lawT w.params).hs.eq]
 dsimp only [lawT, retT]
 k_fill
 intro X T
 have N3 : News g 318 s.heap ((DK, listOf [Value.ref x0, .ref x1, .ref x2].toArray nK) :: all) := nw_cons N mK N
 clear N
 k_steps
 refine ⟨?_⟩
 refine LCg.ListComp_U (F₀ := F) (by with_unfolding_all rfl) (by decide) (by rfl) (by decide) (by rfl) ?_
 k_steps
 refine ⟨?_⟩
 have hlz2 := i2.length
 refine LCg.CompSrc.ledger (its := w2.toArray) (k := n2) rfl F N3 (.tail _ mz2) (Nat.le_trans (by simp; lia) (Nat.le_of_ble_eq_true rfl : 1000 ≤ sizeLine)) (fun g' => ?_)
 refine comp_inv (n := w2.toArray.size) (JV ((DK, listOf [Value.ref x0, .ref x1, .ref x2].toArray nK) :: all) p2 vv) ?turn2 ?fin2 w2.toArray.size 0 [] _ (Nat.zero_add _) ⟨rfl, .nil⟩
 case turn2 =>
  intro i ys news v' I oI C oC D m₂ h tk E' hi hj hP hoC hx F3 N5 off ne
  obtain ⟨e5, hys⟩ := hj
  have mN3 : ∀ p ∈ all, p ∈ (DK, listOf [Value.ref x0, .ref x1, .ref x2].toArray nK) :: all := fun p hp => .tail _ hp
  rw [e5] at N5 off
  obtain ⟨x, ti, rfl, hxi⟩ := IntsAre.at i2 i v' (by simpa using hP)
  obtain ⟨y0, y1, y2⟩ := hvv x (List.mem_of_getElem? hxi)
  have N6 : News g 318 h ((I, oI) :: (C, oC) :: (D, LCg.lst ys) :: (319, cellO (some (.ref 346))) :: (346, listOf (valsOf c t).toArray 10) :: (DK, listOf [Value.ref x0, .ref x1, .ref x2].toArray nK) :: all) := by
   intro p hp
   refine N5 p ?_
   rcases List.mem_cons.mp hp with rfl | hp
   ·exact .head _
   rcases List.mem_cons.mp hp with rfl | hp
   ·exact .tail _ (.head _)
   rcases List.mem_cons.mp hp with rfl | hp
   ·exact .tail _ (.tail _ (.head _))
   rcases List.mem_cons.mp hp with rfl | hp
   ·exact .tail _ (.tail _ (.tail _ (mN3 _ m1)))
   rcases List.mem_cons.mp hp with rfl | hp
   ·exact .tail _ (.tail _ (.tail _ (mN3 _ m3)))
   exact .tail _ (.tail _ (.tail _ hp))
  clear N5 N3 F
  dsimp only
  k_steps
  refine ⟨?_⟩
  exact LCg.CompEnd.intro (by assumption) N6 _ (fun p hp => by
   rcases List.mem_cons.mp hp with rfl | hp
   ·exact .head _
   rcases List.mem_cons.mp hp with rfl | hp
   ·exact .tail _ (.head _)
   rcases List.mem_cons.mp hp with rfl | hp
   ·exact .tail _ (.tail _ (.head _))
   exact .tail _ (.tail _ (.tail _ (.tail _ (.tail _ hp))))) off (.inr ⟨_, mN3 _ mz2, rfl, _, rfl⟩) (JV.snoc hys hxi rfl)
 case fin2 =>
  rintro ys news ⟨rfl, hys⟩
  have mN3 : ∀ p ∈ all, p ∈ (DK, listOf [Value.ref x0, .ref x1, .ref x2].toArray nK) :: all := fun p hp => .tail _ hp
  clear N3 F
  unfold LCg.FinE
  intro D h tk F2 N5 o2
  rw [show w2.toArray.size = p2.length by simp [hlz2], List.take_length] at hys
  have N7 : News g 318 h ((319, cellO (some (.ref 346))) :: (320, cellO (some (.int (z : Int) tz))) :: (323, o7) :: (D7, listOf ys7.toArray ys7.length) :: (346, listOf (valsOf c t).toArray 10) :: (D, LCg.lst ys) :: (DK, listOf [Value.ref x0, .ref x1, .ref x2].toArray nK) :: all) := by
   intro p hp
   refine N5 p ?_
   rcases List.mem_cons.mp hp with rfl | hp
   ·exact .tail _ (mN3 _ m1)
   rcases List.mem_cons.mp hp with rfl | hp
   ·exact .tail _ (mN3 _ m2)
   rcases List.mem_cons.mp hp with rfl | hp
   ·exact .tail _ (mN3 _ m7)
   rcases List.mem_cons.mp hp with rfl | hp
   ·exact .tail _ (mN3 _ l7)
   rcases List.mem_cons.mp hp with rfl | hp
   ·exact .tail _ (mN3 _ m3)
   exact hp
  clear N5
  refine LCg.ListComp_U (F₀ := F2) (by with_unfolding_all rfl) (by decide) (by rfl) (by decide) (by rfl) ?_
  k_steps
  refine ⟨?_⟩
  rename_i hr F8 N8 hk8
  obtain ⟨r1, r2⟩ := range_z z1 z3
  refine LCg.CompSrc.range rfl F8 N8 hr r1 r2 (Nat.le_trans (Nat.sub_le 10 z) (Nat.le_of_ble_eq_true rfl)) (fun g' => ?_)
  refine comp_inv (n := 10 - z) (JI ((319, cellO (some (.ref 346))) :: (320, cellO (some (.int (z : Int) tz))) :: (323, o7) :: (D7, listOf ys7.toArray ys7.length) :: (346, listOf (valsOf c t).toArray 10) :: (D, LCg.lst ys) :: (DK, listOf [Value.ref x0, .ref x1, .ref x2].toArray nK) :: all) fun i => min (vv ((z : Int) + i)) (lv2 ((z : Int) + i))) ?turn3 ?fin3 (10 - z) 0 [] _ (Nat.zero_add _) ⟨rfl, .nil⟩
  case turn3 =>
   intro i ys' news' v' I oI C oC D' m₂ h tk E' hi hj hP hoC hx F3 N9 off ne
   obtain ⟨ti, rfl⟩ := hP
   obtain ⟨rfl, hys'⟩ := hj
   obtain ⟨y1, y2⟩ := hvz i hi
   clear F8 N8 hr hk8
   dsimp only
   k_steps
   refine ⟨?_⟩
   refine LCg.CompEnd.intro (by assumption) (by assumption) _ (fun p hp => hp) off trivial (JI.snoc hys' (min_if _ _))
  case fin3 =>
   rintro ys' news' ⟨rfl, hys'⟩
   clear F8 N8 hr hk8
   unfold LCg.FinE
   intro D' h tk F2 N9 o2
   refine eq_ints (in_list N9 (.tail _ (.tail _ (.tail _ (.tail _ (.tail _ (.tail _ (.head _))))))) ) (in_list N9 (.head _)) hys hys' (Nat.le_of_ble_eq_true rfl) hmin ?_
   exact Yes.of F2 N9 fun p hp => .tail _ (.tail _ (.tail _ (.tail _ (.tail _ (.tail _ (.tail _ (mN3 p hp)))))))
theorem c5_ok (DK nK x0 x1 x2 n1 n2 : Nat) (w1 w2 : List Value) (p1 p2 : List Int) (hm4 : m (Str.ofString "kept") = some (.ref DK)) (mK : (DK, listOf [Value.ref x0, .ref x1, .ref x2].toArray nK) ∈ all) (mz1 : (x1, listOf w1.toArray n1) ∈ all) (mz2 : (x2, listOf w2.toArray n2) ∈ all)
  (i1 : IntsAre w1 p1) (i2 : IntsAre w2 p2) (hp : (p1 ++ p2).Perm ((List.range 10).map fun (i : Nat) => (i : Int))) :
  (KN w.params).In g → TR mg mb g → wpAny (model PySem.Challenge.rw_ik0098_01.row.prog w) (AL w.params) (eval (retT w.params).c5 (lawE w.params)) (Yes g m all s) E s := by
 rw [lawE_eq, (lawT w.params).hs.eq]
 dsimp only [lawT, retT]
 k_fill
 intro X T
 have N3 : News g 318 s.heap ((DK, listOf [Value.ref x0, .ref x1, .ref x2].toArray nK) :: (x1, listOf w1.toArray n1) :: (x2, listOf w2.toArray n2) :: all) := nw_cons N mK (nw_cons N mz1 (nw_cons N mz2 N))
 clear N
 have hl12 : p1.length + p2.length = 10 := by
  have := hp.length_eq
  simpa using this
 k_steps
 refine ⟨?_⟩
 rename_i Da wsa ha Fa Na hIa la
 have hk : ∀ p ∈ all, p ∈ (DK, listOf [Value.ref x0, .ref x1, .ref x2].toArray nK) :: (x1, listOf w1.toArray n1) :: (x2, listOf w2.toArray n2) :: all := fun p hp => .tail _ (.tail _ (.tail _ hp))
 refine kso_sorted Fa Na (in_list Na (.head _)) hIa (by rw [List.length_append]; lia) (fun Db vb nb cb hb Fb Nb lb hIb _ hpb hob _ => ?_)
 have hnb : nb = (List.range 10).map fun (i : Nat) => (i : Int) := ksm_same (hpb.trans hp) hob (by decide)
 subst hnb
 clear Fa Na
 k_steps
 refine ⟨?_⟩
 rename_i hr Fc Nc hkc
 refine list_rangeD rfl Fc Nc hr (by rfl) (by rfl : _ = ((10 : Nat) : Int)) (Nat.le_of_ble_eq_true rfl) (fun h' tk ys Fd Nd hkd _ hld _ hcd => ?_)
 have hie : IntsAre ys ((List.range 10).map fun (i : Nat) => (i : Int)) := IntsAre.ofCarried hcd
 refine eq_ints (in_list Nd (.head _)) hld hIb hie (Nat.le_of_ble_eq_true rfl) rfl ?_
 exact Yes.of Fd Nd fun p hp => .tail _ (.tail _ (hk p hp))
end
end Mine
end
section
namespace Mine
section
variable (u : Nat → Int) (z : Nat)
noncomputable abbrev vF (p : Pl) : Int := u p.val
noncomputable def lim (i : Nat) : Int := if z ≤ i then u (root (vF u) z i).val else -1
theorem allP_take : allP.take 10 = allP := by decide
theorem lim_at (h1 : 1 ≤ z) (h3 : z ≤ 3) (i : Nat) (n2 : List Int) (hi : i < 10) (hz : z ≤ i) (hp : n2.Perm ((allP.map (vF u)).take i)) (hs : n2.Pairwise (· ≤ ·)) : n2.getD (i - z) 0 = lim u z i := by
 obtain ⟨r, e⟩ := heap_cons (vF u) z h1 h3 (Nat.le_of_lt hi) hz
 rw [← List.map_take] at hp
 have := limit_of (vF u) z h1 h3 (Nat.le_of_lt hi) hz e hp hs
 rw [List.getD_eq_getElem?_getD, this, lim, if_pos hz]
 rfl
theorem lim_low (i : Nat) (h : i < z) : lim u z i = -1 := by rw [lim, if_neg (by lia)]
theorem refd_lim (hu : ∀ i, 0 ≤ u i) (p : Pl) : decide (u p.val ≤ lim u z p.val) = refd (vF u) z p := by
 unfold refd lim
 by_cases hz : z ≤ p.val
 ·rw [if_pos hz, decide_eq_true hz, Bool.true_and]
  by_cases h : u p.val ≤ u (root (vF u) z p.val).val
  ·rw [decide_eq_true h, decide_eq_false (show ¬ u (root (vF u) z p.val).val < u p.val from by lia)]; rfl
  ·rw [decide_eq_false h, decide_eq_true (show u (root (vF u) z p.val).val < u p.val from by lia)]; rfl
 ·rw [if_neg hz, decide_eq_false hz, Bool.false_and]
  have := hu p.val
  exact decide_eq_false (by lia)
noncomputable def rfL : List Int := ((List.range 10).filter fun i => decide (u i ≤ lim u z i)).map fun (n : Nat) => (n : Int)
theorem range_fin : List.range 10 = allP.map (·.val) := by decide
theorem rfL_eq (hu : ∀ i, 0 ≤ u i) : rfL u z = (allP.filter fun p => refd (vF u) z p).map fun p => (p.val : Int) := by
 unfold rfL
 rw [range_fin, List.filter_map, List.map_map]
 congr 1
 refine List.filter_congr fun p _ => ?_
 exact refd_lim u z hu p
theorem rfL_any (hu : ∀ i, 0 ≤ u i) (p : Pl) : ((rfL u z).any fun x => x == (p.val : Int)) = refd (vF u) z p := by
 rw [rfL_eq u z hu, List.any_map]
 cases e : refd (vF u) z p with
 | true =>
  refine List.any_eq_true.mpr ⟨p, List.mem_filter.mpr ⟨List.mem_finRange p, e⟩, ?_⟩
  simp
 | false =>
  refine List.any_eq_false.mpr fun q hq => ?_
  intro h
  have hv : (q.val : Int) = (p.val : Int) := by simpa using h
  have : q = p := Fin.ext (by lia)
  subst this
  rw [(List.mem_filter.mp hq).2] at e
  cases e
theorem rfL_mem (x : Int) (hx : x ∈ rfL u z) : 0 ≤ x ∧ x < 10 := by
 obtain ⟨n, hn, rfl⟩ := List.mem_map.mp hx
 have := List.mem_range.mp (List.mem_filter.mp hn).1
 lia
theorem rfL_len : (rfL u z).length ≤ 10 := by
 unfold rfL
 rw [List.length_map]
 exact Nat.le_trans (List.length_filter_le _ _) (by rw [List.length_range]; exact Nat.le_refl _)
theorem ofold_q (v : Pl → Int) (z : Nat) : ∀ (ps : List Pl) (s : FS), (ofold v z s ps).qs.length ≤ s.qs.length + 3 * ps.length
 | [], s => by simp [ofold]
 | p :: ps, s => by
  have h := ofold_q v z ps (ostep v z s p)
  have e := ostep_parts v z s p
  have k := (ostep_qs v z s.heap p).1
  have : (ostep v z s p).qs.length ≤ s.qs.length + 3 := by
   rw [e]
   simp only [List.length_append]
   lia
  have e2 : ofold v z s (p :: ps) = ofold v z (ostep v z s p) ps := rfl
  rw [e2, List.length_cons]
  lia
theorem W_len : (W (vF u) z 10).qs.length ≤ 30 := by
 have := ofold_q (vF u) z (allP.take 10) ⟨[], [], []⟩
 rw [allP_take] at this
 unfold W
 rw [allP_take]
 have e : allP.length = 10 := by decide
 rw [e] at this
 simpa using this
theorem S_eq (hu : ∀ i, 0 ≤ u i) : ofold (vF u) z ⟨[], [], []⟩ (allP.filter fun q => !((rfL u z).any fun x => x == (q.val : Int))) = S (vF u) z 10 := by
 unfold S
 rw [allP_take]
 congr 1
 refine List.filter_congr fun p _ => ?_
 rw [rfL_any u z hu p]
theorem W_eq : ofold (vF u) z ⟨[], [], []⟩ allP = W (vF u) z 10 := by
 unfold W
 rw [allP_take]
noncomputable abbrev zq (q : Qu) : Int := qn q.1 q.2
theorem zq_inj : ∀ x y, zq x = zq y → x = y := fun x y h => by
 obtain ⟨a, b⟩ := qn_inj h
 exact Prod.ext a b
noncomputable abbrev fq (q : Qu) : Bool := refd (vF u) z q.2
theorem flag_eq (hu : ∀ i, 0 ≤ u i) (q : Qu) : ((rfL u z).any fun x => x == Int.fmod (zq q) 16) = fq u z q := by
 rw [show Int.fmod (zq q) 16 = (q.2.val : Int) from qn_mod q.1 q.2]
 exact rfL_any u z hu q.2
theorem against_eq (hu : ∀ i, 0 ≤ u i) (h1 : 1 ≤ z) (h3 : z ≤ 3) : (((W (vF u) z 10).qs.map zq).filter fun q => (rfL u z).any fun x => x == Int.fmod q 16).map (fun q => (u (Int.fdiv q 16).toNat, Int.fmod q 16)) = (rfL u z).map fun x => (lim u z x.toNat, x) := by
 have e := against_is (vF u) z h1 h3 10 (Nat.le_refl _)
 rw [allP_take] at e
 have e1 : ((W (vF u) z 10).qs.map zq).filter (fun q => (rfL u z).any fun x => x == Int.fmod q 16) = ((W (vF u) z 10).qs.filter fun q => refd (vF u) z q.2).map zq := by
  rw [List.filter_map]
  congr 1
  refine List.filter_congr fun q _ => ?_
  exact flag_eq u z hu q
 rw [e1, e, rfL_eq u z hu, List.map_map, List.map_map, List.map_map]
 refine List.map_congr_left fun p hp => ?_
 have hr := (List.mem_filter.mp hp).2
 unfold refd at hr
 have hz : z ≤ p.val := by
  simp only [Bool.and_eq_true, decide_eq_true_eq] at hr
  exact hr.1
 show (u (Int.fdiv (qn (root (vF u) z p.val) p) 16).toNat, Int.fmod (qn (root (vF u) z p.val) p) 16) = (lim u z ((p.val : Int)).toNat, (p.val : Int))
 rw [qn_div, qn_mod, Int.toNat_natCast, Int.toNat_natCast, lim, if_pos hz]
theorem out_eq (h1 : 1 ≤ z) (h3 : z ≤ 3) : (W (vF u) z 10).out.map (vF u) = (List.range (10 - z)).map fun i => min (u (z + i)) (lim u z (z + i)) := by
 rw [out_vals (vF u) z h1 h3 10 (Nat.le_refl _), allP_take]
 have key : allP.drop z = (List.range (10 - z)).map fun i => if h : z + i < 10 then (⟨z + i, h⟩ : Pl) else 0 := by
  match z, h1, h3 with
  | 1, _, _ => decide
  | 2, _, _ => decide
  | 3, _, _ => decide
  | n + 4, _, h => exact absurd h (by lia)
 rw [key, List.map_map]
 refine List.map_congr_left fun i hi => ?_
 have hlt : z + i < 10 := by have := List.mem_range.mp hi; lia
 have e : (if h : z + i < 10 then (⟨z + i, h⟩ : Pl) else 0) = ⟨z + i, hlt⟩ := dif_pos hlt
 show min (vF u (if h : z + i < 10 then (⟨z + i, h⟩ : Pl) else 0)) (vF u (root (vF u) z (if h : z + i < 10 then (⟨z + i, h⟩ : Pl) else 0).val)) = _
 rw [e]
 show min (u (z + i)) (u (root (vF u) z (z + i)).val) = min (u (z + i)) (lim u z (z + i))
 rw [lim, if_pos (by lia)]
end
end Mine
end
section
namespace Mine
theorem and_yes {w : World} {A : Around} {E : Value → Shared → Prop} {s : Shared} {g : Heap} {m : Str → Option Value} {all : List (Addr × Obj)} {c d : PySem.Expr} {rest : List PySem.Expr} {pos : Pos} {env : Env} {Q : Value → Shared → Prop} (h : wpAny (model prog w) A (eval c env) (Yes g m all s) E s)
  (k : ∀ h tk all', Fr g 318 h m → News g 318 h all' → (∀ p ∈ all, p ∈ all') → wpAny (model prog w) A (eval (.BoolOp .And (d :: rest) pos) env) Q E { s with heap := h, toks := tk }) : wpAny (model prog w) A (eval (.BoolOp .And (c :: d :: rest) pos) env) Q E s := by
 refine BoolOp_and (wpAny_mono h (fun v s₁ q => ?_) fun _ _ e => e)
 obtain ⟨rfl, h, tk, all', rfl, F, N, kp⟩ := q
 refine wpAny_truthy_bool ?_
 simp only [if_true]
 exact k h tk all' F N kp
structure Fix (P : Params) (c : Nat → Int) (t z : Nat) (tz : Tok) (all : List (Addr × Obj)) : Prop where
 kl : ∀ q ∈ KL P c t, q ∈ all
 c19 : (319, cellO (some (.ref 346))) ∈ all
 c20 : (320, cellO (some (.int (z : Int) tz))) ∈ all
 c22 : (322, cellO (some (.ref 438))) ∈ all
 vals : (346, listOf (valsOf c t).toArray 10) ∈ all
 keys : (438, listOf keysL.toArray 10) ∈ all
 t76 : (276, tabObj #[.int 502 0, .int 4 0, .ref 379]) ∈ all
 t92 : (292, tabObj #[.int 553 0, .int 4 0, .ref 370]) ∈ all
 t13 : (313, tabObj #[]) ∈ all
theorem kl_addr (P : Params) (c : Nat → Int) (t : Nat) : ((KL P c t).map (·.1)).all (fun a => Nat.ble 356 a) = true := by kernel_rfl
theorem kl_ge {P : Params} {c : Nat → Int} {t : Nat} {q : Addr × Obj} (hq : q ∈ KL P c t) : @LE.le Nat _ 356 q.1 := Nat.le_of_ble_eq_true (List.all_eq_true.mp (kl_addr P c t) q.1 (List.mem_map.mpr ⟨q, hq, rfl⟩))
theorem Fix.keep {P : Params} {c : Nat → Int} {t z : Nat} {tz : Tok} {all all' : List (Addr × Obj)} {xs : List Addr} (x : Fix P c t z tz all) (k : Kept xs all all') (hx : ∀ a ∈ xs, a ∈ [323, 324, 299, 354, 355]) : Fix P c t z tz all' := by
 have ok : ∀ (a : Nat) (o : Obj), (a, o) ∈ all → a ∉ [323, 324, 299, 354, 355] → (a, o) ∈ all' := fun a o hm hn => k _ hm fun q => hn (hx _ q)
 exact ⟨fun q hq => ok _ _ (x.kl q hq) (fun hm => by
   have := kl_ge hq
   simp only [List.mem_cons, List.not_mem_nil, or_false] at hm
   have : @LE.le Nat _ 356 q.1 := this
   rcases hm with e | e | e | e | e <;> rw [e] at this <;> exact absurd this (by decide)),
  ok _ _ x.c19 (by decide), ok _ _ x.c20 (by decide), ok _ _ x.c22 (by decide), ok _ _ x.vals (by decide), ok _ _ x.keys (by decide), ok _ _ x.t76 (by decide), ok _ _ x.t92 (by decide), ok _ _ x.t13 (by decide)⟩
theorem ml_mem (P : Params) (c : Nat → Int) (t : Nat) (h1 h2 : Int) (k1 k2 : Nat) : (319, cellO (some (.ref 346))) ∈ (ML P c t h1 h2 k1 k2).tail ∧ (320, cellO (some (.int (siz c) (t + 77)))) ∈ (ML P c t h1 h2 k1 k2).tail ∧ (322, cellO (some (.ref 438))) ∈ (ML P c t h1 h2 k1 k2).tail ∧ (323, cellO none) ∈ (ML P c t h1 h2 k1 k2).tail ∧ (324, cellO none) ∈ (ML P c t h1 h2 k1 k2).tail ∧
  (346, listOf (valsOf c t).toArray 10) ∈ (ML P c t h1 h2 k1 k2).tail ∧ (354, listOf #[] 0) ∈ (ML P c t h1 h2 k1 k2).tail ∧ (355, listOf #[] 0) ∈ (ML P c t h1 h2 k1 k2).tail ∧ (438, listOf keysL.toArray 10) ∈ (ML P c t h1 h2 k1 k2).tail := by
 unfold ML
 exact ⟨.head _, .tail _ (.head _), .tail _ (.tail _ (.tail _ (.head _))), .tail _ (.tail _ (.tail _ (.tail _ (.head _)))), .tail _ (.tail _ (.tail _ (.tail _ (.tail _ (.head _))))), .tail _ (.tail _ (.tail _ (.tail _ (.tail _ (.tail _ (.head _)))))), .tail _ (.tail _ (.tail _ (.tail _ (.tail _ (.tail _ (.tail _ (.head _))))))),
  .tail _ (.tail _ (.tail _ (.tail _ (.tail _ (.tail _ (.tail _ (.tail _ (.head _)))))))), .tail _ (.tail _ (.tail _ (.tail _ (.tail _ (.tail _ (.tail _ (.tail _ (.tail _ (.head _)))))))))⟩
theorem tabs_at (P : Params) : (KK P).lookup 276 = some (tabObj #[]) ∧ (KK P).lookup 292 = some (tabObj #[]) ∧ (KK P).lookup 299 = some (tabObj #[]) ∧ (KK P).lookup 313 = some (tabObj #[]) := ⟨by kernel_rfl, by kernel_rfl, by kernel_rfl, by kernel_rfl⟩
theorem code76 {P : Params} {h : Heap} (x : (KK P).In h) : isCodeTable h 276 := ⟨280, _, _, x 280 _ rfl, rfl, rfl, rfl⟩
theorem code92 {P : Params} {h : Heap} (x : (KK P).In h) : isCodeTable h 292 := ⟨296, _, _, x 296 _ rfl, rfl, rfl, rfl⟩
theorem code99 {P : Params} {h : Heap} (x : (KK P).In h) : isCodeTable h 299 := ⟨303, _, _, x 303 _ rfl, rfl, rfl, rfl⟩
theorem old_end {P : Params} {s h' : Heap} (x : (KK P).In s) {m : Str → Option Value} {all : List (Addr × Obj)} {c : Nat → Int} {t z : Nat} {tz : Tok} {cc : Addr} (F : Fr (hideAll s hid) 318 h' m) (N : News (hideAll s hid) 318 h' all) (X : Fix P c t z tz all) (h99 : (299, tabObj #[rawInt 559, rawInt 4, .ref cc]) ∈ all) : OldK s h' := by
 obtain ⟨a76, a92, a99, a13⟩ := tabs_at P
 have g : ∀ b o, s.get? b = some o → (h'.get? b = some o) ∨ b = 276 ∨ b = 292 ∨ b = 299 := by
  intro b o e
  by_cases hb : b ∈ hid
  ·rcases hid_mem.mp hb with rfl | rfl | rfl | rfl
   ·exact .inr (.inl rfl)
   ·exact .inr (.inr (.inl rfl))
   ·exact .inr (.inr (.inr rfl))
   ·left
    have := x _ _ a13
    rw [this] at e
    cases e
    exact (N _ X.t13).1
  ·exact .inl (F.keep b o (hideAll_get _ e hb))
 have k76 := x _ _ a76
 have k92 := x _ _ a92
 have k99 := x _ _ a99
 refine ⟨fun b o e => ?_, fun b o e => ?_⟩
 ·rcases g b o e with q | rfl | rfl | rfl
  ·exact .inl q
  ·rw [k76] at e
   cases e
   exact .inr (.inl ⟨code76 x, rfl, #[], #[.int 502 0, .int 4 0, .ref 379], rfl, (N _ X.t76).1⟩)
  ·rw [k92] at e
   cases e
   exact .inr (.inl ⟨code92 x, rfl, #[], #[.int 553 0, .int 4 0, .ref 370], rfl, (N _ X.t92).1⟩)
  ·rw [k99] at e
   cases e
   exact .inr (.inl ⟨code99 x, rfl, #[], #[rawInt 559, rawInt 4, .ref cc], rfl, (N _ h99).1⟩)
 ·rcases g b o e with q | rfl | rfl | rfl
  ·exact ⟨_, q⟩
  ·exact ⟨_, (N _ X.t76).1⟩
  ·exact ⟨_, (N _ X.t92).1⟩
  ·exact ⟨_, (N _ h99).1⟩
theorem siz_ok (c : Nat → Int) : ∃ z : Nat, 1 ≤ z ∧ z ≤ 3 ∧ siz c = (z : Int) := by
 have h1 : 0 ≤ Int.fmod (tot c + 1) 3 := Int.fmod_nonneg_of_pos _ (by decide)
 have h2 : Int.fmod (tot c + 1) 3 < 3 := Int.fmod_lt_of_pos _ (by decide)
 refine ⟨(siz c).toNat, ?_, ?_, ?_⟩ <;> unfold siz <;> lia
noncomputable abbrev uV (c : Nat → Int) (i : Nat) : Int := Int.fmod (c i) 7
theorem uV_nonneg (c : Nat → Int) (i : Nat) : 0 ≤ uV c i := Int.fmod_nonneg_of_pos _ (by decide)
theorem vals_ints (c : Nat → Int) (t : Nat) : IntsAre (valsOf c t) (allP.map (vF (uV c))) :=
 ((.cons _ _ (.cons _ _ (.cons _ _ (.cons _ _ (.cons _ _ (.cons _ _ (.cons _ _ (.cons _ _ (.cons _ _ (.cons _ _ .nil)))))))))) : IntsAre (valsOf c t) [uV c 0, uV c 1, uV c 2, uV c 3, uV c 4, uV c 5, uV c 6, uV c 7, uV c 8, uV c 9])
theorem vals_at (c : Nat → Int) (i : Nat) (hi : i < 10) : (allP.map (vF (uV c)))[i]? = some (uV c i) := by
 rw [List.getElem?_map, allP_get i hi]; rfl
theorem lims_at (u : Nat → Int) (z i : Nat) (hi : i < 10) : ((List.range 10).map (lim u z))[i]? = some (lim u z i) := by
 rw [List.getElem?_map, List.getElem?_range hi]; rfl
theorem start {w : World} {s : Shared} {h : Heap} {c : Nat → Int} {t : Nat} {h1 h2 : Int} {k1 k2 : Nat} {z : Nat} (M : Mid w s h c t h1 h2 k1 k2) (x : (KK w.params).In s.heap) (hs : s.heap.objs.size = 318) (hz : siz c = (z : Int)) :
  ∃ all, News (gB s) 318 h all ∧ Fix w.params c t z (t + 77) all ∧ (323, cellO none) ∈ all ∧ (324, cellO none) ∈ all ∧ (354, listOf #[] 0) ∈ all ∧ (355, listOf #[] 0) ∈ all ∧ (299, tabObj #[]) ∈ all := by
 obtain ⟨a76, a92, a99, a13⟩ := tabs_at w.params
 have k99 : h.get? 299 = some (tabObj #[]) := M.keep 299 _ (x _ _ a99) (by decide) (by decide)
 have k13 : h.get? 313 = some (tabObj #[]) := M.keep 313 _ (x _ _ a13) (by decide) (by decide)
 have N0 := mid_news M hs
 obtain ⟨b1, b2, b3, b4, b5, b6, b7, b8, b9⟩ := ml_mem w.params c t h1 h2 k1 k2
 rw [hz] at b2
 refine ⟨(276, tabObj #[.int 502 0, .int 4 0, .ref 379]) :: (292, tabObj #[.int 553 0, .int 4 0, .ref 370]) :: (299, tabObj #[]) :: (313, tabObj #[]) :: (KL w.params c t ++ (ML w.params c t h1 h2 k1 k2).tail), ?_, ?_, ?_, ?_, ?_, ?_, ?_⟩
 ·intro p hp
  have n318 : ∀ a : Nat, a ∈ hid → a ≠ 318 := by decide
  rcases List.mem_cons.mp hp with rfl | hp
  ·exact ⟨M.t276, by decide, hideAll_none _ (by decide)⟩
  rcases List.mem_cons.mp hp with rfl | hp
  ·exact ⟨M.t292, by decide, hideAll_none _ (by decide)⟩
  rcases List.mem_cons.mp hp with rfl | hp
  ·exact ⟨k99, by decide, hideAll_none _ (by decide)⟩
  rcases List.mem_cons.mp hp with rfl | hp
  ·exact ⟨k13, by decide, hideAll_none _ (by decide)⟩
  exact N0 p hp
 ·have up : ∀ p ∈ (ML w.params c t h1 h2 k1 k2).tail, p ∈ (276, tabObj #[.int 502 0, .int 4 0, .ref 379]) :: (292, tabObj #[.int 553 0, .int 4 0, .ref 370]) :: (299, tabObj #[]) :: (313, tabObj #[]) :: (KL w.params c t ++ (ML w.params c t h1 h2 k1 k2).tail) := fun p hp => .tail _ (.tail _ (.tail _ (.tail _ (List.mem_append_right _ hp))))
  exact ⟨fun q hq => .tail _ (.tail _ (.tail _ (.tail _ (List.mem_append_left _ hq)))), up _ b1, up _ b2, up _ b3, up _ b6, up _ b9, .head _, .tail _ (.head _), .tail _ (.tail _ (.tail _ (.head _)))⟩
 ·exact .tail _ (.tail _ (.tail _ (.tail _ (List.mem_append_right _ b4))))
 ·exact .tail _ (.tail _ (.tail _ (.tail _ (List.mem_append_right _ b5))))
 ·exact .tail _ (.tail _ (.tail _ (.tail _ (List.mem_append_right _ b7))))
 ·exact .tail _ (.tail _ (.tail _ (.tail _ (List.mem_append_right _ b8))))
 ·exact .tail _ (.tail _ (.head _))
end Mine
end
section
namespace Mine
theorem upd_eq {m : Str → Option Value} {x : Str} {v : Option Value} : (fun z => if z = x then v else m z) x = v := if_pos rfl
theorem upd_ne {m : Str → Option Value} {x y : Str} {v w : Option Value} (h : y ≠ x) (e : m y = w) : (fun z => if z = x then v else m z) y = w := (if_neg h).trans e
theorem dat_cons {news : List (Addr × Obj)} {ys : List Value} {d : Dat} {ds : List Dat} (h : DatAll news ys (d :: ds)) : ∃ y r, ys = y :: r ∧ DatIn news y d ∧ DatAll news r ds := by
 cases h with
 | cons a b => exact ⟨_, _, rfl, a, b⟩
theorem dat_nil {news : List (Addr × Obj)} {ys : List Value} (h : DatAll news ys []) : ys = [] := by cases h; rfl
theorem dat_int {news : List (Addr × Obj)} {v : Value} {i : Int} (h : DatIn news v (.int i)) : ∃ t, v = .int i t := by cases h; exact ⟨_, rfl⟩
theorem ints_of_dat {news : List (Addr × Obj)} {ns : List Int} : ∀ {vs : List Value}, DatAll news vs (ns.map Dat.int) → IntsAre vs ns := by
 induction ns with
 | nil =>
  intro vs h
  rw [dat_nil h]; exact .nil
 | cons n ns ih =>
  intro vs h
  obtain ⟨y, r, e, a, b⟩ := dat_cons h
  obtain ⟨t, ey⟩ := dat_int a
  rw [e, ey]; exact .cons _ _ (ih b)
inductive PlK (news : List (Addr × Obj)) (l : List Pl) (v : Value) : Prop
 | mk (x n : Nat) (vs : List Value) (hv : v = .ref x) (hm : (x, listOf vs.toArray n) ∈ news) (hi : IntsAre vs (l.map fun p => (p.val : Int)))
theorem dat_pl {news : List (Addr × Obj)} {v : Value} {l : List Pl} (h : DatIn news v (plD l)) : PlK news l v := by
 unfold plD at h
 cases h with
 | list hm hd => exact ⟨_, _, _, rfl, hm, ints_of_dat (by rw [List.map_map]; exact hd)⟩
inductive PlK3 (news : List (Addr × Obj)) (l1 l2 l3 : List Pl) (ys : List Value) : Prop
 | mk (v1 v2 v3 : Value) (e : ys = [v1, v2, v3]) (h1 : PlK news l1 v1) (h2 : PlK news l2 v2) (h3 : PlK news l3 v3)
theorem dat_three {news : List (Addr × Obj)} {ys : List Value} {l1 l2 l3 : List Pl} (h : DatAll news ys ([l1, l2, l3].map plD)) : PlK3 news l1 l2 l3 ys := by
 rw [List.map_cons, List.map_cons, List.map_cons, List.map_nil] at h
 obtain ⟨y1, r1, e1, ha, h⟩ := dat_cons h
 obtain ⟨y2, r2, e2, hb, h⟩ := dat_cons h
 obtain ⟨y3, r3, e3, hc, h⟩ := dat_cons h
 exact ⟨y1, y2, y3, by rw [e1, e2, e3, dat_nil h], dat_pl ha, dat_pl hb, dat_pl hc⟩
noncomputable def Nxt (w : World) (Q : Flow → Shared → Prop) (l : List Stmt) (fl : Flow) (s' : Shared) : Prop := match fl with
 | .next => wpAny (model pw w) (AL w.params) (execs l (lawE w.params)) Q NoE s'
 | f => Q f s'
theorem nxt {w : World} {Q : Flow → Shared → Prop} {a : Stmt} {l : List Stmt} {s : Shared} (h : wpAny (model pw w) (AL w.params) (exec a (lawE w.params)) (Nxt w Q l) NoE s) : wpAny (model pw w) (AL w.params) (execs (a :: l) (lawE w.params)) Q NoE s :=
 wpAny_execs_cons (wpAny_mono h (fun f s' h => by cases f <;> exact h) fun _ _ e => e)
noncomputable def LawQ (s : Shared) (fl : Flow) (s' : Shared) : Prop := (match fl with | .ret v => v | _ => .none) = .bool true ∧ OldK s.heap s'.heap ∧ s'.os = s.os ∧ s'.gens = #[]
theorem law_rest {w : World} {s : Shared} {h : Heap} {tk : Nat} {c : Nat → Int} {t : Nat} {h1 h2 : Int} {k1 k2 : Nat} {mg mb : Str → Option Value} (M : Mid w s h c t h1 h2 k1 k2) (x : (KK w.params).In s.heap) (T : TR mg mb s.heap) (hs : s.heap.objs.size = 318) :
  wpAny (model pw w) (AL w.params) (execs ((lawF w.params).2.drop 6) (lawE w.params)) (fun fl s' => (match fl with | .ret v => v | _ => .none) = .bool true ∧ OldK s.heap s'.heap ∧ s'.os = s.os ∧ s'.gens = #[]) (fun _ _ => False) ⟨h, #[], s.drawn, tk, s.os⟩ := by
 show wpAny (model pw w) (AL w.params) (execs ((lawF w.params).2.drop 6) (lawE w.params)) (LawQ s) NoE ⟨h, #[], s.drawn, tk, s.os⟩
 obtain ⟨z, z1, z3, hz⟩ := siz_ok c
 obtain ⟨all0, N0, X0, a323, a324, a354, a355, a299⟩ := start M x hs hz
 have F0 := mid_fr M hs
 have X := gB_in x
 have TT := gB_top T
 have hns := vals_ints c t
 have hu := uV_nonneg c
 have hA : lawM c t (Str.ofString "asked") = some (.ref 354) := by unfold lawM; rw [if_neg (by decide), if_neg (by decide), if_neg (by decide), if_neg (by decide), if_pos rfl]
 have hH : lawM c t (Str.ofString "handed") = some (.ref 355) := by unfold lawM; rw [if_neg (by decide), if_neg (by decide), if_neg (by decide), if_pos rfl]
 rw [(lawT w.params).h.eq]
 generalize lawM c t = m0 at F0 hA hH
 have kd : ∀ q ∈ KL w.params c t, q.1 ≠ 299 ∧ q.1 ≠ 354 ∧ q.1 ≠ 355 := fun q hq => by
  have := kl_ge hq
  refine ⟨fun e => ?_, fun e => ?_, fun e => ?_⟩ <;> rw [e] at this <;> exact absurd this (by decide)
 -- 7
 refine nxt (st7 w _ (gB s) mg mb _ c t z (t + 77) (allP.map (vF (uV c))) (lim (uV c) z) all0 _ _ z1 z3 hns (by rw [List.length_map]; decide) (lim_at (uV c) z z1 z3) (lim_low (uV c) z) F0 N0 X0.c19 X0.c20 X0.vals a323 ?_ X TT)
 intro D7 ys7 o7 h7 tk7 all7 F7 N7 K7 m7 mo7 do7 hy7 fr7
 have X7 := X0.keep K7 (by decide)
 have d7a : D7 ≠ 324 := (fr7 _ a324).symm
 have d7b : D7 ∉ [299, 354, 355] := by
  simp only [List.mem_cons, List.not_mem_nil, or_false, not_or]
  exact ⟨(fr7 _ a299).symm, (fr7 _ a354).symm, (fr7 _ a355).symm⟩
 replace a324 := K7 _ a324 (by decide)
 replace a354 := K7 _ a354 (by decide)
 replace a355 := K7 _ a355 (by decide)
 replace a299 := K7 _ a299 (by decide)
 clear N0 X0 F0 K7 fr7 a323
 show wpAny _ _ (execs _ _) _ _ _
 -- 8
 refine nxt (st8 w _ (gB s) mg mb _ c t D7 o7 ys7 (allP.map (vF (uV c))) (uV c) (lim (uV c) z) all7 _ _ hns (vals_at c) hy7 F7 N7 X7.c19 mo7 do7 X7.vals m7 d7a a324 ?_ X TT)
 intro D8 ys8 o8 h8 tk8 all8 F8 N8 K8 m8 mo8 do8 hy8 fr8
 have X8 := X7.keep K8 (by decide)
 have d8b : D8 ∉ [299, 354, 355] := by
  simp only [List.mem_cons, List.not_mem_nil, or_false, not_or]
  exact ⟨(fr8 _ a299).symm, (fr8 _ a354).symm, (fr8 _ a355).symm⟩
 replace a354 := K8 _ a354 (by decide)
 replace a355 := K8 _ a355 (by decide)
 replace a299 := K8 _ a299 (by decide)
 replace m7 := K8 _ m7 (by simpa using d7a)
 replace mo7 := K8 _ mo7 (show (323 : Nat) ∉ [324] by decide)
 clear N7 X7 F7 K8 fr8 a324
 show wpAny _ _ (execs _ _) _ _ _
 -- 9
 have hy8' : IntsAre ys8 (rfL (uV c) z) := hy8
 refine nxt (st9 w _ (gB s) mg mb _ c t z (t + 77) D8 o8 ys8 (rfL (uV c) z) all8 _ _ hy8' F8 N8 X8.c20 X8.c22 mo8 do8 m8 X8.keys a299 a354 X8.kl (fun q hq => ⟨(kd q hq).1, (kd q hq).2.1⟩) X8.vals z1 z3 ?_ X TT)
 intro lp9 cc oc vs tq n9 ask9 na9 h9 tk9 all9 F9 N9 K9 ms9 ma9 mt9 mc9 hd1 hd2 G9 lcc lc3 off9
 have X9 := X8.keep K9 (by decide)
 have c355 := off9 _ a355 (by decide)
 replace a355 := K9 _ a355 (by decide)
 have out2 : ∀ {D : Nat}, D ∉ [299, 354, 355] → D ∉ [299, 354] := fun {D} hd hm => hd (by
  simp only [List.mem_cons, List.not_mem_nil, or_false] at hm ⊢
  rcases hm with e | e
  ·exact .inl e
  ·exact .inr (.inl e))
 replace m7 := K9 _ m7 (out2 d7b)
 replace m8 := K9 _ m8 (out2 d8b)
 replace mo7 := K9 _ mo7 (show (323 : Nat) ∉ [299, 354] by decide)
 replace mo8 := K9 _ mo8 (show (324 : Nat) ∉ [299, 354] by decide)
 clear N8 X8 F8 K9 off9 a354 a299
 have e9 : ofold (kwOf w.params c t).val z ⟨[], [], []⟩ (allP.filter fun q => notIn (rfL (uV c) z) q.val) = S (vF (uV c)) z 10 := S_eq (uV c) z hu
 rw [e9] at ms9 G9
 have sh := short_is (vF (uV c)) z z1 z3 10 (Nat.le_refl _)
 obtain ⟨ts9, ea9, ia9⟩ := G9
 have ea9 : ask9.toList = ts9 := ea9
 have hbl := W_len (uV c) z
 have hSl : (S (vF (uV c)) z 10).qs.length ≤ 30 := by
  rw [sh.2]; exact Nat.le_trans (List.length_filter_le _ _) hbl
 have hsz9 : ask9.size ≤ 30 := by
  rw [← Array.length_toList, ea9, ia9.length, List.length_map]; exact hSl
 have hA9 := upd_ne (x := Str.ofString "short") (v := some (.ref lp9)) (by decide) hA
 have hH9 := upd_ne (x := Str.ofString "short") (v := some (.ref lp9)) (by decide) hH
 have hS9 : (fun y => if y = Str.ofString "short" then some (.ref lp9) else m0 y : Str → Option Value) (Str.ofString "short") = some (.ref lp9) := if_pos rfl
 clear hA hH
 generalize (fun y => if y = Str.ofString "short" then some (.ref lp9) else m0 y : Str → Option Value) = m9 at F9 hA9 hH9 hS9
 show wpAny _ _ (execs _ _) _ _ _
 -- 10
 refine nxt (st10 w _ (gB s) mg mb _ ask9 na9 all9 _ _ (Nat.le_trans hsz9 (by decide)) hA9 F9 N9 ma9 ?_ X TT)
 intro D10 n10 h10 tk10 all10 F10 N10 K10 m10 lt10
 have X10 := X9.keep K10 (by decide)
 have d10 : D10 ∉ [299, 354, 355] := by
  have q1 := lt10 _ mt9
  have q2 := lt10 _ ma9
  have q3 := lt10 _ a355
  simp only [List.mem_cons, List.not_mem_nil, or_false, not_or]
  exact ⟨Nat.ne_of_gt q1, Nat.ne_of_gt q2, Nat.ne_of_gt q3⟩
 have up10 : ∀ p ∈ all9, p ∈ all10 := fun p hp => K10 p hp (fun h => nomatch h)
 replace a355 := up10 _ a355
 replace m7 := up10 _ m7
 replace m8 := up10 _ m8
 replace mo7 := up10 _ mo7
 replace mo8 := up10 _ mo8
 replace ms9 := up10 _ ms9
 replace ma9 := up10 _ ma9
 replace mt9 := up10 _ mt9
 replace mc9 := up10 _ mc9
 clear N9 X9 F9 K10 lt10 up10
 have hA10 := upd_ne (x := Str.ofString "before") (v := some (.ref D10)) (by decide) hA9
 have hH10 := upd_ne (x := Str.ofString "before") (v := some (.ref D10)) (by decide) hH9
 have hS10 := upd_ne (x := Str.ofString "before") (v := some (.ref D10)) (by decide) hS9
 have hB10 : (fun y => if y = Str.ofString "before" then some (.ref D10) else m9 y : Str → Option Value) (Str.ofString "before") = some (.ref D10) := if_pos rfl
 clear hA9 hH9 hS9
 generalize (fun y => if y = Str.ofString "before" then some (.ref D10) else m9 y : Str → Option Value) = m10' at F10 hA10 hH10 hS10 hB10
 show wpAny _ _ (execs _ _) _ _ _
 -- 11
 have hcc : cc ≠ 299 ∧ cc ≠ 354 ∧ cc ≠ 355 := ⟨Nat.ne_of_gt (Nat.lt_trans (by decide) lc3), Nat.ne_of_gt lc3, c355.2.symm⟩
 refine nxt (st11 w _ (gB s) mg mb _ c t z (t + 77) cc oc vs tq ask9 na9 all10 _ _ (Nat.le_trans hsz9 (by decide)) hH10 F10 N10 X10.c20 X10.c22 X10.keys mt9 ma9 a355 X10.kl kd X10.vals mc9 hcc.1 hcc.2.1 hcc.2.2 hd1 hd2 z1 z3 ?_ X TT)
 intro lp11 n11 ask11 na11 hnd11 nh11 h11 tk11 all11 F11 N11 K11 mw11 ma11 mh11 mt11 G11 H11 l355 off11
 have X11 := X10.keep K11 (by decide)
 have dlp : lp9 ∉ [299, 354, 355] := by
  simp only [List.mem_cons, List.not_mem_nil, or_false, not_or]
  exact ⟨Nat.ne_of_gt (Nat.lt_trans (Nat.lt_trans (by decide) lc3) lcc), Nat.ne_of_gt (Nat.lt_trans lc3 lcc), c355.1.symm⟩
 replace m7 := K11 _ m7 d7b
 replace m8 := K11 _ m8 d8b
 replace mo7 := K11 _ mo7 (show (323 : Nat) ∉ [299, 354, 355] by decide)
 replace mo8 := K11 _ mo8 (show (324 : Nat) ∉ [299, 354, 355] by decide)
 replace ms9 := K11 _ ms9 dlp
 replace m10 := K11 _ m10 d10
 clear N10 X10 F10 K11 off11 a355 ma9 mt9 mc9
 have e11 : ofold (kwOf w.params c t).val z ⟨[], [], []⟩ allP = W (vF (uV c)) z 10 := W_eq (uV c) z
 rw [e11] at mw11 G11 H11
 obtain ⟨ts11, ea11, ia11⟩ := G11
 have hsz11 : ask9.size ≤ ask11.size ∧ ask11.size ≤ 1000 := by
  have l1 : ask11.size = ask9.size + ts11.length := by rw [← Array.length_toList, ea11, List.length_append, Array.length_toList]
  have l2 : ts11.length = (W (vF (uV c)) z 10).qs.length := by rw [ia11.length, List.length_map]
  lia
 have hA11 := upd_ne (x := Str.ofString "whole") (v := some (.ref lp11)) (by decide) hA10
 have hH11 := upd_ne (x := Str.ofString "whole") (v := some (.ref lp11)) (by decide) hH10
 have hS11 := upd_ne (x := Str.ofString "whole") (v := some (.ref lp11)) (by decide) hS10
 have hB11 := upd_ne (x := Str.ofString "whole") (v := some (.ref lp11)) (by decide) hB10
 have hW11 : (fun y => if y = Str.ofString "whole" then some (.ref lp11) else m10' y : Str → Option Value) (Str.ofString "whole") = some (.ref lp11) := if_pos rfl
 clear hA10 hH10 hS10 hB10
 generalize (fun y => if y = Str.ofString "whole" then some (.ref lp11) else m10' y : Str → Option Value) = m11' at F11 hA11 hH11 hS11 hB11 hW11
 show wpAny _ _ (execs _ _) _ _ _
 -- 12
 refine nxt (st12 w _ (gB s) mg mb _ ask11 na11 D10 ask9 n10 all11 _ _ hsz11.2 hsz11.1 hA11 hB11 F11 N11 ma11 m10 ?_ X TT)
 intro D12 n12 h12 tk12 all12 F12 N12 K12 m12 lt12
 have up12 : ∀ p ∈ all11, p ∈ all12 := fun p hp => K12 p hp (fun h => nomatch h)
 have X12 := X11.keep K12 (by decide)
 have hdrop : ask11.toList.drop ask9.size = ts11 := by rw [ea11, ← Array.length_toList, List.drop_left]
 rw [hdrop] at m12
 replace m7 := up12 _ m7
 replace m8 := up12 _ m8
 replace mo7 := up12 _ mo7
 replace mo8 := up12 _ mo8
 replace ms9 := up12 _ ms9
 replace m10 := up12 _ m10
 replace mw11 := up12 _ mw11
 replace mh11 := up12 _ mh11
 replace mt11 := up12 _ mt11
 clear N11 X11 F11 K12 lt12 up12 ma11
 have hH12 := upd_ne (x := Str.ofString "after") (v := some (.ref D12)) (by decide) hH11
 have hS12 := upd_ne (x := Str.ofString "after") (v := some (.ref D12)) (by decide) hS11
 have hB12 := upd_ne (x := Str.ofString "after") (v := some (.ref D12)) (by decide) hB11
 have hW12 := upd_ne (x := Str.ofString "after") (v := some (.ref D12)) (by decide) hW11
 have hF12 : (fun y => if y = Str.ofString "after" then some (.ref D12) else m11' y : Str → Option Value) (Str.ofString "after") = some (.ref D12) := if_pos rfl
 clear hA11 hH11 hS11 hB11 hW11
 generalize (fun y => if y = Str.ofString "after" then some (.ref D12) else m11' y : Str → Option Value) = m12' at F12 hH12 hS12 hB12 hW12 hF12
 show wpAny _ _ (execs _ _) _ _ _
 -- 13
 have ia11' : IntsAre ts11 ((W (vF (uV c)) z 10).qs.map zq) := ia11
 refine nxt (st13 w _ (gB s) mg mb _ D8 o8 ys8 (rfL (uV c) z) D12 ts11 ((W (vF (uV c)) z 10).qs.map zq) n12 all12 _ _ hy8' ia11' (by rw [List.length_map]; lia) hF12 F12 N12 mo8 do8 m8 m12 ?_ X TT)
 intro D13 ys13 h13 tk13 all13 F13 N13 K13 m13 e13 fr13
 have up13 : ∀ p ∈ all12, p ∈ all13 := fun p hp => K13 p hp (fun h => nomatch h)
 have X13 := X12.keep K13 (by decide)
 subst e13
 have m13' : (D13, listOf ((W (vF (uV c)) z 10).qs.map fun q => Value.bool (fq (uV c) z q)).toArray ((W (vF (uV c)) z 10).qs.map zq).length) ∈ all13 := by
  have e : (((W (vF (uV c)) z 10).qs.map zq).map fun q => Value.bool ((rfL (uV c) z).any fun x => x == Int.fmod q 16)) = (W (vF (uV c)) z 10).qs.map fun q => Value.bool (fq (uV c) z q) := by
   rw [List.map_map]
   refine List.map_congr_left fun q _ => ?_
   exact congrArg Value.bool (flag_eq (uV c) z hu q)
  rw [← e]
  simpa [LCg.lst] using m13
 replace m7 := up13 _ m7
 replace m8 := up13 _ m8
 replace mo7 := up13 _ mo7
 replace mo8 := up13 _ mo8
 replace ms9 := up13 _ ms9
 replace m10 := up13 _ m10
 replace mw11 := up13 _ mw11
 replace mh11 := up13 _ mh11
 replace mt11 := up13 _ mt11
 replace m12 := up13 _ m12
 clear N12 X12 F12 K13 fr13 up13
 have hS13 := upd_ne (x := Str.ofString "flags") (v := some (.ref D13)) (by decide) hS12
 have hB13 := upd_ne (x := Str.ofString "flags") (v := some (.ref D13)) (by decide) hB12
 have hW13 := upd_ne (x := Str.ofString "flags") (v := some (.ref D13)) (by decide) hW12
 have hF13 := upd_ne (x := Str.ofString "flags") (v := some (.ref D13)) (by decide) hF12
 have hH13 := upd_ne (x := Str.ofString "flags") (v := some (.ref D13)) (by decide) hH12
 have hG13 : (fun y => if y = Str.ofString "flags" then some (.ref D13) else m12' y : Str → Option Value) (Str.ofString "flags") = some (.ref D13) := if_pos rfl
 clear hH12 hS12 hB12 hW12 hF12
 generalize (fun y => if y = Str.ofString "flags" then some (.ref D13) else m12' y : Str → Option Value) = m13q at F13 hH13 hS13 hB13 hW13 hF13 hG13
 show wpAny _ _ (execs _ _) _ _ _
 -- 14
 have eS : (S (vF (uV c)) z 10).qs = unfl (W (vF (uV c)) z 10).qs (fq (uV c) z) := sh.2
 rw [eS] at ia9 hSl
 have q9 : ask9 = ts9.toArray := by rw [← ea9, Array.toArray_toList]
 rw [q9] at m10
 refine nxt (st14 w _ (gB s) mg mb _ D10 D12 n10 n12 ts9 ts11 (W (vF (uV c)) z 10).qs (fq (uV c) z) zq zq_inj (safe_W (vF (uV c)) z z1 z3) ia9 ia11' (by lia) (by lia) all13 _ _ hB13 hF13 F13 N13 m10 m12 ?_ X TT)
 intro D14 an14 avs14 objs14 cs14 h14 tk14 all14 F14 N14 K14 m14 mo14 hC14 hCo14 fr14 fro14
 have up14 : ∀ p ∈ all13, p ∈ all14 := fun p hp => K14 p hp (fun h => nomatch h)
 have X14 := X13.keep K14 (by decide)
 replace m7 := up14 _ m7
 replace m8 := up14 _ m8
 replace mo7 := up14 _ mo7
 replace mo8 := up14 _ mo8
 replace ms9 := up14 _ ms9
 replace mw11 := up14 _ mw11
 replace mh11 := up14 _ mh11
 replace mt11 := up14 _ mt11
 replace m12 := up14 _ m12
 replace m13 := up14 _ m13
 replace m13' := up14 _ m13'
 clear N13 X13 F13 K14 fr14 fro14 up14 m10
 have hS14 := upd_ne (x := Str.ofString "codes") (v := some (.ref D14)) (by decide) hS13
 have hW14 := upd_ne (x := Str.ofString "codes") (v := some (.ref D14)) (by decide) hW13
 have hF14 := upd_ne (x := Str.ofString "codes") (v := some (.ref D14)) (by decide) hF13
 have hH14 := upd_ne (x := Str.ofString "codes") (v := some (.ref D14)) (by decide) hH13
 have hG14 := upd_ne (x := Str.ofString "codes") (v := some (.ref D14)) (by decide) hG13
 have hC14' : (fun y => if y = Str.ofString "codes" then some (.ref D14) else m13q y : Str → Option Value) (Str.ofString "codes") = some (.ref D14) := if_pos rfl
 clear hH13 hS13 hB13 hW13 hF13 hG13
 generalize (fun y => if y = Str.ofString "codes" then some (.ref D14) else m13q y : Str → Option Value) = m14q at F14 hH14 hS14 hW14 hF14 hG14 hC14'
 show wpAny _ _ (execs _ _) _ _ _
 -- 15
 have hvq : ∀ q ∈ (W (vF (uV c)) z 10).qs.map zq, 0 ≤ Int.fdiv q 16 ∧ Int.fdiv q 16 < 2 ^ 63 ∧ (allP.map (vF (uV c)))[(Int.fdiv q 16).toNat]? = some (uV c (Int.fdiv q 16).toNat) := by
  intro q hq
  obtain ⟨p, _, rfl⟩ := List.mem_map.mp hq
  have e : Int.fdiv (zq p) 16 = (p.1.val : Int) := qn_div p.1 p.2
  rw [e]
  have hp := p.1.isLt
  exact ⟨by omega, by omega, by rw [Int.toNat_natCast]; exact vals_at c _ hp⟩
 refine nxt (st15 w _ (gB s) mg mb _ c t (allP.map (vF (uV c))) D12 D13 ts11 ((W (vF (uV c)) z 10).qs.map zq) (fun q => (rfL (uV c) z).any fun x => x == Int.fmod q 16) (fun q => uV c (Int.fdiv q 16).toNat) n12 _ all14 _ _ hns ia11' (by rw [List.length_map]; lia) hvq hF14 hG14 F14 N14 X14.c19 X14.vals m12 m13 ?_ X TT)
 intro D15 ys15 h15 tk15 all15 F15 N15 K15 m15 da15 fr15
 have up15 : ∀ p ∈ all14, p ∈ all15 := fun p hp => K15 p hp (fun h => nomatch h)
 have X15 := X14.keep K15 (by decide)
 have eag : ((((W (vF (uV c)) z 10).qs.map zq).filter fun q => (rfL (uV c) z).any fun x => x == Int.fmod q 16).map (agD fun q => uV c (Int.fdiv q 16).toNat)) = (rfL (uV c) z).map (pairD fun x => lim (uV c) z x.toNat) := by
  have e := congrArg (List.map fun p : Int × Int => Dat.tuple [Dat.int p.1, Dat.int p.2]) (against_eq (uV c) z hu z1 z3)
  rw [List.map_map, List.map_map] at e
  exact e
 rw [eag] at da15
 replace m7 := up15 _ m7
 replace m8 := up15 _ m8
 replace mo7 := up15 _ mo7
 replace mo8 := up15 _ mo8
 replace ms9 := up15 _ ms9
 replace mw11 := up15 _ mw11
 replace mh11 := up15 _ mh11
 replace mt11 := up15 _ mt11
 replace m13' := up15 _ m13'
 replace m14 := up15 _ m14
 replace mo14 : ∀ p ∈ objs14, p ∈ all15 := fun p hp => up15 _ (mo14 p hp)
 clear N14 X14 F14 K15 fr15 up15 m12 m13
 have hS15 := upd_ne (x := Str.ofString "against") (v := some (.ref D15)) (by decide) hS14
 have hW15 := upd_ne (x := Str.ofString "against") (v := some (.ref D15)) (by decide) hW14
 have hH15 := upd_ne (x := Str.ofString "against") (v := some (.ref D15)) (by decide) hH14
 have hG15 := upd_ne (x := Str.ofString "against") (v := some (.ref D15)) (by decide) hG14
 have hC15 := upd_ne (x := Str.ofString "against") (v := some (.ref D15)) (by decide) hC14'
 have hA15 : (fun y => if y = Str.ofString "against" then some (.ref D15) else m14q y : Str → Option Value) (Str.ofString "against") = some (.ref D15) := if_pos rfl
 clear hH14 hS14 hW14 hF14 hG14 hC14'
 generalize (fun y => if y = Str.ofString "against" then some (.ref D15) else m14q y : Str → Option Value) = m15q at F15 hH15 hS15 hW15 hG15 hC15 hA15
 show wpAny _ _ (execs _ _) _ _ _
 -- 16
 obtain ⟨ip, il, io, _, _⟩ := inv_W (vF (uV c)) z z1 z3 10 (Nat.le_refl _)
 have hlW : (W (vF (uV c)) z 10).heap.length ≤ 10 := by rw [il]; lia
 have hlO : (W (vF (uV c)) z 10).out.length ≤ 10 := by rw [io]; lia
 have hlS : (S (vF (uV c)) z 10).heap.length ≤ 10 := by rw [sh.1]; exact hlW
 have mk16 : ∀ p : Pl, ∃ o, (441 + 3 * p.val, o) ∈ all15 ∧ o.cls = .ref 432 := fun p => ⟨_, X15.kl _ (mem_of_lookupK (key_at w.params c t p)), rfl⟩
 have mh' : (355, listOf (krefs (kwOf w.params c t) (W (vF (uV c)) z 10).out) nh11) ∈ all15 := H11 ▸ mh11
 refine nxt (st16 w _ (gB s) mg mb _ c t (.ref lp9) (.ref lp11) (.ref 355) (S (vF (uV c)) z 10).heap (W (vF (uV c)) z 10).heap (W (vF (uV c)) z 10).out all15 _ _ ⟨lp9, _, rfl, ms9⟩ ⟨lp11, _, rfl, mw11⟩ ⟨355, _, rfl, mh'⟩ hlS hlW hlO hS15 hW15 hH15 F15 N15 X15.c22 X15.keys mk16 ?_ X TT)
 intro D16 ys16 h16 tk16 all16 F16 N16 K16 m16 da16 fr16
 have up16 : ∀ p ∈ all15, p ∈ all16 := fun p hp => K16 p hp (fun h => nomatch h)
 have X16 := X15.keep K16 (by decide)
 obtain ⟨_, _, _, e16, ⟨x0, n0, w0, rfl, y0, i0⟩, ⟨x1, n1, w1, rfl, y1, i1⟩, ⟨x2, n2, w2, rfl, y2, i2⟩⟩ := dat_three da16
 rw [e16] at m16
 replace m7 := up16 _ m7
 replace m8 := up16 _ m8
 replace mo7 := up16 _ mo7
 replace mo8 := up16 _ mo8
 replace mt11 := up16 _ mt11
 replace m13' := up16 _ m13'
 replace m14 := up16 _ m14
 replace mo14 : ∀ p ∈ objs14, p ∈ all16 := fun p hp => up16 _ (mo14 p hp)
 replace m15 := up16 _ m15
 replace da15 := da15.mono up16
 clear N15 X15 F15 K16 fr16 up16 mk16 mh' mh11 mw11 ms9
 have hG16 := upd_ne (x := Str.ofString "kept") (v := some (.ref D16)) (by decide) hG15
 have hC16 := upd_ne (x := Str.ofString "kept") (v := some (.ref D16)) (by decide) hC15
 have hA16 := upd_ne (x := Str.ofString "kept") (v := some (.ref D16)) (by decide) hA15
 have hK16 : (fun y => if y = Str.ofString "kept" then some (.ref D16) else m15q y : Str → Option Value) (Str.ofString "kept") = some (.ref D16) := if_pos rfl
 clear hH15 hS15 hW15 hG15 hC15 hA15
 generalize (fun y => if y = Str.ofString "kept" then some (.ref D16) else m15q y : Str → Option Value) = m16q at F16 hG16 hC16 hA16 hK16
 show wpAny _ _ (execs _ _) _ _ _
 -- 17
 refine nxt ?_
 rw [(retT w.params).h.eq]
 refine wpAny_Return_some ?_
 refine and_yes (c1_ok w _ (gB s) mg mb _ all16 _ F16 N16 (W (vF (uV c)) z 10).qs (fq (uV c) z) D13 _ D14 an14 avs14 objs14 cs14 (by lia) hC16 hG16 m13' m14 mo14 hC14 hCo14 X TT) (fun ha tka alla Fa Na ka => ?_)
 have Xa : Fix w.params c t z (t + 77) alla := X16.keep (xs := []) (fun p hp _ => ka p hp) (by decide)
 refine and_yes (c2_ok w _ (gB s) mg mb _ alla _ Fa Na D7 D8 o7 o8 ys7 ys8 ((List.range 10).map (lim (uV c) z)) (rfL (uV c) z) (fun x => lim (uV c) z x.toNat) D15 _ ys15 hA16 (ka _ mo7) do7 (ka _ m7) hy7 (ka _ mo8) do8 (ka _ m8) hy8' (fun x hx => ?_) (rfL_len (uV c) z) (ka _ m15) (da15.mono ka) X TT) (fun hb tkb allb Fb Nb kb => ?_)
 ·have hr := rfL_mem (uV c) z x hx
  exact ⟨hr.1, hr.2, lims_at (uV c) z _ (by lia)⟩
 have kab : ∀ p ∈ all16, p ∈ allb := fun p hp => kb p (ka p hp)
 have Xb : Fix w.params c t z (t + 77) allb := Xa.keep (xs := []) (fun p hp _ => kb p hp) (by decide)
 refine and_yes (c3_ok w _ (gB s) mg mb _ allb _ Fb Nb D16 _ x0 x1 x2 n0 n1 w0 w1 _ _ hK16 (kab _ m16) (kab _ y0) (kab _ y1) i0 i1 (by rw [sh.1]) X TT) (fun hc tkc allc Fc Nc kc => ?_)
 have kac : ∀ p ∈ all16, p ∈ allc := fun p hp => kc p (kab p hp)
 have Xc : Fix w.params c t z (t + 77) allc := Xb.keep (xs := []) (fun p hp _ => kc p hp) (by decide)
 refine and_yes (c4_ok w _ (gB s) mg mb _ allc _ Fc Nc c t z (t + 77) (allP.map (vF (uV c))) D7 o7 ys7 ((List.range 10).map (lim (uV c) z)) D16 _ x0 x1 x2 n2 w2 _ hK16 Xc.c19 Xc.c20 Xc.vals hns (kac _ mo7) do7 (kac _ m7) hy7 (kac _ m16) (kac _ y2) i2 (by rw [List.length_map]; exact hlO) (fun x => uV c x.toNat) (fun x hx => ?_) z1 z3 (fun x => lim (uV c) z x.toNat) (fun i hi => ?_) ?_ X TT) (fun hd tkd alld Fd Nd kd' => ?_)
 ·obtain ⟨p, _, rfl⟩ := List.mem_map.mp hx
  have hp := p.isLt
  exact ⟨by omega, by omega, by rw [Int.toNat_natCast]; exact vals_at c _ hp⟩
 ·have e : ((z : Int) + (i : Int)).toNat = z + i := by lia
  rw [e]
  exact ⟨vals_at c _ (by lia), lims_at (uV c) z _ (by lia)⟩
 ·have e := out_eq (uV c) z z1 z3
  rw [List.map_map]
  refine (show _ = _ from ?_ : _)
  have e1 : (W (vF (uV c)) z 10).out.map ((fun x : Int => uV c x.toNat) ∘ fun p : Pl => (p.val : Int)) = (W (vF (uV c)) z 10).out.map (vF (uV c)) := by
   refine List.map_congr_left fun p _ => ?_
   show uV c ((p.val : Int)).toNat = uV c p.val
   rw [Int.toNat_natCast]
  rw [e1, e]
  refine List.map_congr_left fun i _ => ?_
  have e2 : ((z : Int) + (i : Int)).toNat = z + i := by lia
  show min (uV c (z + i)) (lim (uV c) z (z + i)) = min (uV c ((z : Int) + (i : Int)).toNat) (lim (uV c) z ((z : Int) + (i : Int)).toNat)
  rw [e2]
 have kad : ∀ p ∈ all16, p ∈ alld := fun p hp => kd' p (kac p hp)
 refine BoolOp_one (wpAny_mono (c5_ok w _ (gB s) mg mb _ alld _ Fd Nd D16 _ x0 x1 x2 n1 n2 w1 w2 _ _ hK16 (kad _ m16) (kad _ y1) (kad _ y2) i1 i2 ?_ X TT) (fun v s' q => ?_) fun _ _ e => e)
 ·rw [← List.map_append]
  have e := ip.map fun p : Pl => (p.val : Int)
  rw [allP_take] at e
  have e2 : allP.map (fun p : Pl => (p.val : Int)) = (List.range 10).map fun (i : Nat) => (i : Int) := by rw [range_fin, List.map_map]; rfl
  rw [e2] at e
  exact e
 obtain ⟨rfl, he, tke, alle, rfl, Fe, Ne, ke⟩ := q
 have Xe : Fix w.params c t z (t + 77) alle := Xc.keep (xs := []) (fun p hp _ => ke p (kd' p hp)) (by decide)
 exact ⟨rfl, old_end x Fe Ne Xe (ke _ (kad _ mt11)), rfl, rfl⟩
end Mine
end
section
namespace Mine
theorem main_holds : Main := by
 intro w s l vs ns mg mb x T hl hi hle hg hl317 hs
 subst hl317
 have xk : (KK w.params).In s.heap := KK_in x
 exact pre xk hl hi hg hs fun h tk c t h1 h2 k1 k2 M => law_rest M xk T hs
end Mine
theorem PySem.Challenge.cw_ik0098_01_holds : PySem.Challenge.rw_ik0098_01.Holds := by
 exact Mine.top_holds Mine.main_holds
end
