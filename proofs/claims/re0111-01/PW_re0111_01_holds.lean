import PyProof.Rows.All
import Wide.All
import OpenK.AllK
import Wide.FinOn
import PySem.Challenge.RW_re0111_01
set_option Elab.async false

section
open PySem PySem.W PyProof.Rows
namespace Mine
noncomputable def ent (P : Params) (x : Str) (t : Tok) (v : Value) : DictEntry := { hash := PyData.keyHash P x, key := .str x t, val := v }
noncomputable def k3x0 (P : Params) : List DictEntry := [ent P "__name__" 165 (.str "law_re0111_01" 450), ent P "__doc__" 166 .none, ent P "__package__" 167 .none, ent P "__loader__" 168 (.builtin "__main__.__loader__#opaque"), ent P "__spec__" 169 .none, ent P "__annotations__" 170 (.ref 6), ent P "__builtins__" 171 (.ref 4)]
noncomputable def k3x1 (P : Params) : List DictEntry := [ent P "__file__" 173 (.str "/claim/cut.py" 172), ent P "__cached__" 174 .none, ent P "rgb_to_hsv" 206 (.ref 21), ent P "hsv_to_rgb" 220 (.ref 28), ent P "LPAR" 222 (.int 7 221), ent P "RPAR" 224 (.int 8 223), ent P "LSQB" 226 (.int 9 225)]
noncomputable def k3x2 (P : Params) : List DictEntry := [ent P "RSQB" 228 (.int 10 227), ent P "COLON" 230 (.int 11 229), ent P "COMMA" 232 (.int 12 231), ent P "SEMI" 234 (.int 13 233), ent P "PLUS" 236 (.int 14 235), ent P "MINUS" 238 (.int 15 237), ent P "STAR" 240 (.int 16 239)]
noncomputable def k3x3 (P : Params) : List DictEntry := [ent P "SLASH" 242 (.int 17 241), ent P "VBAR" 244 (.int 18 243), ent P "AMPER" 246 (.int 19 245), ent P "LESS" 248 (.int 20 247), ent P "GREATER" 250 (.int 21 249), ent P "EQUAL" 252 (.int 22 251), ent P "DOT" 254 (.int 23 253)]
noncomputable def k3x4 (P : Params) : List DictEntry := [ent P "PERCENT" 256 (.int 24 255), ent P "LBRACE" 258 (.int 25 257), ent P "RBRACE" 260 (.int 26 259), ent P "EQEQUAL" 262 (.int 27 261), ent P "NOTEQUAL" 264 (.int 28 263), ent P "LESSEQUAL" 266 (.int 29 265), ent P "GREATEREQUAL" 268 (.int 30 267)]
noncomputable def k3x5 (P : Params) : List DictEntry := [ent P "TILDE" 270 (.int 31 269), ent P "CIRCUMFLEX" 272 (.int 32 271), ent P "LEFTSHIFT" 274 (.int 33 273), ent P "RIGHTSHIFT" 276 (.int 34 275), ent P "DOUBLESTAR" 278 (.int 35 277), ent P "PLUSEQUAL" 280 (.int 36 279), ent P "MINEQUAL" 282 (.int 37 281)]
noncomputable def k3x6 (P : Params) : List DictEntry := [ent P "STAREQUAL" 284 (.int 38 283), ent P "SLASHEQUAL" 286 (.int 39 285), ent P "PERCENTEQUAL" 288 (.int 40 287), ent P "AMPEREQUAL" 290 (.int 41 289), ent P "VBAREQUAL" 292 (.int 42 291), ent P "CIRCUMFLEXEQUAL" 294 (.int 43 293), ent P "LEFTSHIFTEQUAL" 296 (.int 44 295)]
noncomputable def k3x7 (P : Params) : List DictEntry := [ent P "RIGHTSHIFTEQUAL" 298 (.int 45 297), ent P "DOUBLESTAREQUAL" 300 (.int 46 299), ent P "DOUBLESLASH" 302 (.int 47 301), ent P "DOUBLESLASHEQUAL" 304 (.int 48 303), ent P "AT" 306 (.int 49 305), ent P "ATEQUAL" 308 (.int 50 307), ent P "RARROW" 310 (.int 51 309)]
noncomputable def k3x8 (P : Params) : List DictEntry := [ent P "ELLIPSIS" 312 (.int 52 311), ent P "COLONEQUAL" 314 (.int 53 313), ent P "EXCLAMATION" 316 (.int 54 315), ent P "EXACT_TOKEN_TYPES" 413 (.ref 29), ent P "_MAX_STRING_SIZE" 417 (.int 40 416), ent P "_MOVE_COST" 419 (.int 2 418), ent P "_CASE_COST" 421 (.int 1 420)]
noncomputable def k3x9 (P : Params) : List DictEntry := [ent P "_substitution_cost" 429 (.ref 38), ent P "_levenshtein_distance" 449 (.ref 45), ent P "_law_level" 459 (.ref 52), ent P "_law_seen" 472 (.ref 59), ent P "law" 478 (.ref 64)]
noncomputable def k29x0 (P : Params) : List DictEntry := [ent P "!" 317 (.int 54 315), ent P "!=" 319 (.int 28 263), ent P "%" 321 (.int 24 255), ent P "%=" 323 (.int 40 287), ent P "&" 325 (.int 19 245), ent P "&=" 327 (.int 41 289), ent P "(" 329 (.int 7 221)]
noncomputable def k29x1 (P : Params) : List DictEntry := [ent P ")" 331 (.int 8 223), ent P "*" 333 (.int 16 239), ent P "**" 335 (.int 35 277), ent P "**=" 337 (.int 46 299), ent P "*=" 339 (.int 38 283), ent P "+" 341 (.int 14 235), ent P "+=" 343 (.int 36 279)]
noncomputable def k29x2 (P : Params) : List DictEntry := [ent P "," 345 (.int 12 231), ent P "-" 347 (.int 15 237), ent P "-=" 349 (.int 37 281), ent P "->" 351 (.int 51 309), ent P "." 353 (.int 23 253), ent P "..." 355 (.int 52 311), ent P "/" 357 (.int 17 241)]
noncomputable def k29x3 (P : Params) : List DictEntry := [ent P "//" 359 (.int 47 301), ent P "//=" 361 (.int 48 303), ent P "/=" 363 (.int 39 285), ent P ":" 365 (.int 11 229), ent P ":=" 367 (.int 53 313), ent P ";" 369 (.int 13 233), ent P "<" 371 (.int 20 247)]
noncomputable def k29x4 (P : Params) : List DictEntry := [ent P "<<" 373 (.int 33 273), ent P "<<=" 375 (.int 44 295), ent P "<=" 377 (.int 29 265), ent P "=" 379 (.int 22 251), ent P "==" 381 (.int 27 261), ent P ">" 383 (.int 21 249), ent P ">=" 385 (.int 30 267)]
noncomputable def k29x5 (P : Params) : List DictEntry := [ent P ">>" 386 (.int 34 275), ent P ">>=" 387 (.int 45 297), ent P "@" 388 (.int 49 305), ent P "@=" 389 (.int 50 307), ent P "[" 390 (.int 9 225), ent P "]" 391 (.int 10 227), ent P "^" 392 (.int 32 271)]
noncomputable def k29x6 (P : Params) : List DictEntry := [ent P "^=" 393 (.int 43 293), ent P "{" 394 (.int 25 257), ent P "|" 395 (.int 18 243), ent P "|=" 396 (.int 42 291), ent P "}" 397 (.int 26 259), ent P "~" 398 (.int 31 269)]
noncomputable def KK (P : Params) : Frag := [(3, { cls := .type "dict", data := .dict (List.toArray (k3x0 P ++ k3x1 P ++ k3x2 P ++ k3x3 P ++ k3x4 P ++ k3x5 P ++ k3x6 P ++ k3x7 P ++ k3x8 P ++ k3x9 P)) 68 }),
  (29, { cls := .type "dict", data := .dict (List.toArray (k29x0 P ++ k29x1 P ++ k29x2 P ++ k29x3 P ++ k29x4 P ++ k29x5 P ++ k29x6 P)) 48 })]
end Mine
end

section
open PySem
set_option linter.unusedVariables false
namespace Mine

/-- plain data of the evaluator -/
inductive PV where
  | none
  | bool (b : Bool)
  | int (i : Int)
  | flt (x : UInt64)
  | str (s : Str)
  | tup (l : List PV)
  | list (l : List PV)
  | rng (a b c : Int)
  | ref (a : Addr)
  | bltn (id : String)
  | typ (n : String)
  | mlist (l : List PV)

abbrev Rho := Str → Option PV
abbrev Sc := List (Str × NameKind)

noncomputable def rho0 : Rho := fun _ => Option.none
noncomputable def upd (ρ : Rho) (x : Str) (v : PV) : Rho := fun y => if y = x then some v else ρ y

/-- what stands outside the text at hand -/
structure Gl where
  glob : Str → Option PV
  call : Addr → List PV → Option PV
  item : Addr → Str → Option PV

noncomputable def small (n : Int) : Bool := decide (n.natAbs < 18446744073709551616)

noncomputable def addOp : PV → PV → Option PV
  | .int a, .int b => some (.int (a + b))
  | .flt a, .flt b => some (.flt (Float64.add a b))
  | .flt a, .int n => if small n then some (.flt (Float64.add a (Float64.ofInt n))) else Option.none
  | .int n, .flt a => if small n then some (.flt (Float64.add (Float64.ofInt n) a)) else Option.none
  | .str a, .str b => if a.length + b.length ≤ 1000 then some (.str (a ++ b)) else Option.none
  | .list a, .list b => if a.length + b.length ≤ 1000 then some (.list (a ++ b)) else Option.none
  | _, _ => Option.none
noncomputable def subOp : PV → PV → Option PV
  | .int a, .int b => some (.int (a - b))
  | .flt a, .flt b => some (.flt (Float64.sub a b))
  | .flt a, .int n => if small n then some (.flt (Float64.sub a (Float64.ofInt n))) else Option.none
  | .int n, .flt a => if small n then some (.flt (Float64.sub (Float64.ofInt n) a)) else Option.none
  | _, _ => Option.none
noncomputable def mulOp : PV → PV → Option PV
  | .int a, .int b => if small a && small b then some (.int (a * b)) else Option.none
  | .flt a, .flt b => some (.flt (Float64.mul a b))
  | .flt a, .int n => if small n then some (.flt (Float64.mul a (Float64.ofInt n))) else Option.none
  | .int n, .flt a => if small n then some (.flt (Float64.mul (Float64.ofInt n) a)) else Option.none
  | _, _ => Option.none
noncomputable def divOp : PV → PV → Option PV
  | .int a, .int b =>
    if b == 0 then Option.none
    else if Float64.isInf (Float64.ofFrac (decide (a < 0) != decide (b < 0)) a.natAbs b.natAbs) then Option.none
    else some (.flt (Float64.ofFrac (decide (a < 0) != decide (b < 0)) a.natAbs b.natAbs))
  | .flt a, .flt b => if Float64.isZero b then Option.none else some (.flt (Float64.div a b))
  | .flt a, .int n => if Float64.isInf (Float64.ofInt n) || Float64.isZero (Float64.ofInt n) then Option.none else some (.flt (Float64.div a (Float64.ofInt n)))
  | .int n, .flt b => if Float64.isInf (Float64.ofInt n) || Float64.isZero b then Option.none else some (.flt (Float64.div (Float64.ofInt n) b))
  | _, _ => Option.none
noncomputable def modOp : PV → PV → Option PV
  | .int a, .int b => if b = 0 then Option.none else some (.int (a.fmod b))
  | .flt a, .flt b => if Float64.isZero b then Option.none else some (.flt (Float64.divmod a b).2)
  | _, _ => Option.none
noncomputable def fdivOp : PV → PV → Option PV
  | .int a, .int b => if b ≠ 0 ∧ b.natAbs < 1000000 then some (.int (a.fdiv b)) else Option.none
  | _, _ => Option.none
noncomputable def binOp : Operator → PV → PV → Option PV
  | .Add, a, b => addOp a b
  | .Sub, a, b => subOp a b
  | .Mult, a, b => mulOp a b
  | .Div, a, b => divOp a b
  | .Mod, a, b => modOp a b
  | .FloorDiv, a, b => fdivOp a b
  | _, _, _ => Option.none

noncomputable def cmpII : CmpOp → Int → Int → Option Bool
  | .Lt, a, b => some (decide (a < b))
  | .LtE, a, b => some (decide (a ≤ b))
  | .Gt, a, b => some (decide (a > b))
  | .GtE, a, b => some (decide (a ≥ b))
  | .Eq, a, b => some (a == b)
  | .NotEq, a, b => some (a != b)
  | _, _, _ => Option.none
noncomputable def cmpFF : CmpOp → UInt64 → UInt64 → Option Bool
  | .Lt, a, b => some (Float64.cmp a b == some Ordering.lt)
  | .Gt, a, b => some (Float64.cmp a b == some Ordering.gt)
  | .Eq, a, b => some (Float64.cmp a b == some Ordering.eq)
  | _, _, _ => Option.none
noncomputable def cmpFI : CmpOp → UInt64 → Int → Option Bool
  | .Lt, a, n => some (Float64.cmpInt a n == some Ordering.lt)
  | .Gt, a, n => some (Float64.cmpInt a n == some Ordering.gt)
  | .Eq, a, n => some (Float64.cmpInt a n == some Ordering.eq)
  | _, _, _ => Option.none
noncomputable def cmpIF : CmpOp → Int → UInt64 → Option Bool
  | .Lt, n, a => some (Float64.cmpInt a n == some Ordering.gt)
  | .Gt, n, a => some (Float64.cmpInt a n == some Ordering.lt)
  | .Eq, n, a => some (Float64.cmpInt a n == some Ordering.eq)
  | _, _, _ => Option.none

noncomputable def intsOf : List PV → Option (List Int)
  | [] => some []
  | .int i :: r => (intsOf r).map (i :: ·)
  | _ => Option.none
noncomputable def boolsOf : List PV → Option (List Bool)
  | [] => some []
  | .bool i :: r => (boolsOf r).map (i :: ·)
  | _ => Option.none

noncomputable def listEq (a b : List PV) : Option Bool :=
  match intsOf a, intsOf b with
  | some x, some y => some (decide (x = y))
  | _, _ => match boolsOf a, boolsOf b with
    | some x, some y => some (decide (x = y))
    | _, _ => Option.none

noncomputable def cmpPV : CmpOp → PV → PV → Option Bool
  | op, .int a, .int b => cmpII op a b
  | op, .flt a, .flt b => cmpFF op a b
  | op, .flt a, .int b => cmpFI op a b
  | op, .int a, .flt b => cmpIF op a b
  | .Eq, .str a, .str b => some (decide (a = b))
  | .Eq, .list a, .list b => listEq a b
  | .NotEq, .list a, .list b => (listEq a b).map (!·)
  | .NotIn, .int a, .list l => (intsOf l).map fun ns => !ns.contains a
  | _, _, _ => Option.none

noncomputable def truthPV : PV → Option Bool
  | .bool b => some b
  | .int i => some (i != 0)
  | .str s => if s.length ≤ 1000 then some (s.length != 0) else Option.none
  | _ => Option.none

noncomputable def isNum : PV → Bool
  | .int _ => true
  | .flt _ => true
  | _ => false

noncomputable def pick2 (op : CmpOp) (m x : PV) : Option PV := (cmpPV op x m).map fun b => if b then x else m

noncomputable def minInts : Int → List Int → Int
  | m, [] => m
  | m, x :: r => minInts (if x < m then x else m) r

noncomputable def rangeL (a b c : Int) : List Int := PyProof.Rows.rangeInts a c (Builtin.Range.rangeSize a b c).toNat

/-- what `abs` gives -/
noncomputable def absI (a : Int) : Int := if a < 0 then -a else a

noncomputable def bMax : List PV → Option PV
  | [a, b, c] => if isNum a && isNum b && isNum c then (pick2 .Gt a b).bind fun m => pick2 .Gt m c else Option.none
  | _ => Option.none
noncomputable def bMinL (l : List PV) : Option PV := match intsOf l with
  | some (x :: r) => if l.length ≤ 1000 then some (.int (minInts x r)) else Option.none
  | _ => Option.none
noncomputable def bMin2 : PV → PV → Option PV
  | .int a, .int b => some (.int (if b < a then b else a))
  | _, _ => Option.none
noncomputable def bMin1 : PV → Option PV
  | .list l => bMinL l
  | _ => Option.none
noncomputable def bMin : List PV → Option PV
  | [a, b, c] => if isNum a && isNum b && isNum c then (pick2 .Lt a b).bind fun m => pick2 .Lt m c else Option.none
  | [a, b] => bMin2 a b
  | [a] => bMin1 a
  | _ => Option.none
noncomputable def bLen1 : PV → Option PV
  | .list l => if l.length ≤ 1000 then some (.int l.length) else Option.none
  | .str l => if l.length ≤ 1000 then some (.int l.length) else Option.none
  | _ => Option.none
noncomputable def bSum1 : PV → Option PV
  | .list l => match intsOf l with
    | some ns => if l.length ≤ 1000 then some (.int ns.sum) else Option.none
    | _ => Option.none
  | _ => Option.none
noncomputable def bAbs1 : PV → Option PV
  | .int a => some (.int (absI a))
  | _ => Option.none
noncomputable def only1 (f : PV → Option PV) : List PV → Option PV
  | [a] => f a
  | _ => Option.none

noncomputable def callB (id : String) (vs : List PV) : Option PV :=
  if id = "max" then bMax vs else if id = "min" then bMin vs else if id = "len" then only1 bLen1 vs else if id = "sum" then only1 bSum1 vs else if id = "abs" then only1 bAbs1 vs else Option.none

noncomputable def tInt1 : PV → Option PV
  | .int n => some (.int n)
  | .flt x => match Float64.decode x with
    | .fin sg m e => some (.int (Float64.truncOf sg m e))
    | _ => Option.none
  | _ => Option.none
noncomputable def tList1 : PV → Option PV
  | .rng a b c => if Builtin.Range.small a b c = true ∧ (rangeL a b c).length ≤ 1000 then some (.list ((rangeL a b c).map .int)) else Option.none
  | _ => Option.none
noncomputable def tRangeI : List Int → Option PV
  | [n] => some (.rng 0 n 1)
  | [a, b] => some (.rng a b 1)
  | [a, b, c] => if c ≠ 0 ∧ c.natAbs < 1000000 then some (.rng a b c) else Option.none
  | _ => Option.none
noncomputable def callT (n : String) (vs : List PV) : Option PV :=
  if n = "int" then only1 tInt1 vs else if n = "range" then (intsOf vs).bind tRangeI else if n = "list" then only1 tList1 vs else Option.none

noncomputable def callV (G : Gl) : PV → List PV → Option PV
  | .bltn id, vs => callB id vs
  | .typ n, vs => callT n vs
  | .ref a, vs => G.call a vs
  | _, _ => Option.none

noncomputable def lowerA (s : Str) : Option PV := if s.cps.all (fun c => decide (c < 128)) && decide (s.length ≤ 1000) then some (.str ⟨s.cps.map PyProof.Rows.lo1⟩) else Option.none

noncomputable def itemPV (G : Gl) : PV → PV → Option PV
  | .list l, .int k => if 0 ≤ k ∧ k < 1000 then l[k.toNat]? else Option.none
  | .tup l, .int k => if -1000 < k ∧ k < 1000 then (seqIndex? k l.length).bind (l[·]?) else Option.none
  | .str s, .int k => if -1000 < k ∧ k < 1000 then ((seqIndex? k s.length).bind (s.cps[·]?)).map fun c => .str ⟨#[c]⟩ else Option.none
  | .ref a, .str s => G.item a s
  | _, _ => Option.none

noncomputable def partOf : Option PV → Option (Option Int)
  | Option.none => some Option.none
  | some .none => some Option.none
  | some (.int i) => some (some i)
  | _ => Option.none

noncomputable def slicePV : PV → Option Int → Option Int → Option Int → Option PV
  | .list l, lo, hi, st =>
    if st ≠ some 0 ∧ l.length ≤ 1000 then
      some (.list ((sliceRange (sliceBounds lo hi st l.length).1 (sliceBounds lo hi st l.length).2.1 (sliceBounds lo hi st l.length).2.2).filterMap (l[·]?)))
    else Option.none
  | .str x, lo, hi, Option.none =>
    if x.length ≤ 1000 then some (.str (if ((Builtin.Str.strSliceIndices lo hi 1 x.length).length == x.length) = true then x else ⟨((Builtin.Str.strSliceIndices lo hi 1 x.length).filterMap (x.cps[·]?)).toArray⟩)) else Option.none
  | _, _, _, _ => Option.none

noncomputable def constPV : Const → Option PV
  | .none => some .none
  | .bool b => some (.bool b)
  | .int i => some (.int i)
  | .float x => some (.flt x)
  | .str s => some (.str s)
  | _ => Option.none

noncomputable def nameV (G : Gl) (sc : Sc) (ρ : Rho) (x : Str) : Option PV :=
  match sc.lookup x with
  | some .local => match ρ x with
    | some (.mlist _) => Option.none
    | r => r
  | some .cell => match ρ x with
    | some (.mlist _) => Option.none
    | r => r
  | some .globalImplicit => G.glob x
  | _ => Option.none

noncomputable def itemsOf : PV → Option (List PV)
  | .list l => if l.length ≤ 1000 then some l else Option.none
  | .rng a b c => if Builtin.Range.small a b c = true ∧ (rangeL a b c).length ≤ 1000 then some ((rangeL a b c).map .int) else Option.none
  | _ => Option.none

/-- the names a target binds: one name, or a tuple of names -/
noncomputable def nameT : Expr → Option Str
  | .Name x _ => some x
  | _ => Option.none
noncomputable def namesT : List Expr → Option (List Str)
  | [] => some []
  | .Name x _ :: r => (namesT r).map (x :: ·)
  | _ => Option.none

noncomputable def bindNames (ρ : Rho) : List Str → List PV → Option Rho
  | [], [] => some ρ
  | x :: xs, v :: vs => bindNames (upd ρ x v) xs vs
  | _, _ => Option.none

noncomputable def bindT (ρ : Rho) : Expr → PV → Option Rho
  | .Name x _, v => some (upd ρ x v)
  | .Tuple es _ _, .tup vs => (namesT es).bind fun xs => bindNames ρ xs vs
  | _, _ => Option.none

/-- where a name may be stored -/
noncomputable def storable (sc : Sc) (x : Str) : Bool := sc.lookup x == some .local || sc.lookup x == some .cell

noncomputable def storableT (sc : Sc) : Expr → Bool
  | .Name x _ => storable sc x
  | .Tuple es _ _ => match namesT es with
    | some xs => xs.all (storable sc) && decide (xs.length = 2 ∨ xs.length = 3)
    | Option.none => false
  | _ => false

/-- a comprehension's scope, its free names made cells -/
noncomputable def relab (cs : Sc) (sc : Sc) : Sc := cs.map fun (n, k) => if k == .free && sc.lookup n == some .cell then (n, .cell) else (n, k)

noncomputable def cut (cs : Sc) (ρ : Rho) : Rho := fun y => match cs.lookup y with | some .free => ρ y | _ => Option.none

/-- what a comprehension's scope must be -/
noncomputable def compOk (cs : Scope) (sc : Sc) (target : Expr) : Bool :=
  cs.kind == .function && cs.names.all (fun x => x.2 != .cell && (x.2 != .free || sc.lookup x.1 == some .cell) && (cs.names.lookup x.1 == some x.2)) &&
    match target with
    | .Name x _ => cs.names.lookup x == some .local
    | .Tuple es _ _ => match namesT es with
      | some [x, y] => cs.names.lookup x == some .local && cs.names.lookup y == some .local && x != y
      | _ => false
    | _ => false

noncomputable def compLoop (f : PV → Option (Option PV)) : List PV → Option (List PV)
  | [] => some []
  | v :: r => (f v).bind fun o => (compLoop f r).map fun rest => match o with | some y => y :: rest | Option.none => rest

inductive Fl where
  | next
  | ret (v : PV)

noncomputable def forLoop (f : Rho → PV → Option (Fl × Rho)) : List PV → Rho → Option (Fl × Rho)
  | [], ρ => some (.next, ρ)
  | v :: r, ρ => (f ρ v).bind fun x => match x with
    | (.next, ρ') => forLoop f r ρ'
    | (.ret v, ρ') => some (.ret v, ρ')

noncomputable def whileLoop (test : Rho → Option Bool) (f : Rho → Option (Fl × Rho)) : Nat → Rho → Option (Fl × Rho)
  | 0, _ => Option.none
  | n + 1, ρ => (test ρ).bind fun b => if b then (f ρ).bind fun x => match x with
      | (.next, ρ') => whileLoop test f n ρ'
      | (.ret v, ρ') => some (.ret v, ρ')
    else some (.next, ρ)

/-- no set display -/
noncomputable def noSet : Expr → Bool
  | .Set .. => false
  | _ => true

noncomputable def ifsOk : Expr → List Expr → Bool
  | .Name .., [] => true
  | .Name .., [_] => true
  | _, [] => true
  | _, _ => false

noncomputable def elemE (tr : Expr → Option Bool) (ev : Option PV) : List Expr → Option (Option PV)
  | [] => ev.map some
  | t :: _ => (tr t).bind fun b => if b then ev.map some else some Option.none

/-- the frame's own list under a name -/
noncomputable def ownL (sc : Sc) (ρ : Rho) : Expr → Option (List PV)
  | .Name x _ => if x = ("__debug__" : Str) then Option.none else match sc.lookup x, ρ x with
    | some .local, some (.mlist l) => some l
    | _, _ => Option.none
  | _ => Option.none
noncomputable def baseE (ev : Option PV) : Option (List PV) → Option PV
  | some l => some (.list l)
  | Option.none => ev
noncomputable def lowerV : PV → Option PV
  | .str s => lowerA s
  | _ => Option.none
noncomputable def storeV (sc : Sc) (x : Str) (ml : Bool) (pv : PV) : Option PV :=
  if ml then (match sc.lookup x, pv with
    | some .local, .list l => some (.mlist l)
    | _, _ => Option.none)
  else some pv
noncomputable def nodupT (ts : List Expr) : Bool := match namesT ts with
  | some xs => decide xs.Nodup
  | Option.none => false
noncomputable def setL (l : List PV) (pv : PV) : PV → Option (List PV)
  | .int k => if 0 ≤ k ∧ k < l.length ∧ k < 1000 then some (l.set k.toNat pv) else Option.none
  | _ => Option.none
noncomputable def augOp : Operator → PV → PV → Option PV
  | .Add, .int a, .int b => some (.int (a + b))
  | .Sub, .int a, .int b => some (.int (a - b))
  | _, _, _ => Option.none

noncomputable def isSlice : Expr → Bool
  | .Slice .. => true
  | _ => false

mutual
noncomputable def evalE (G : Gl) : Nat → Sc → Rho → Expr → Option PV
  | 0, _, _, _ => Option.none
  | n + 1, sc, ρ, .Constant c _ _ => constPV c
  | n + 1, sc, ρ, .Name x _ => if x = ("__debug__" : Str) then Option.none else nameV G sc ρ x
  | n + 1, sc, ρ, .BinOp l op r _ => (evalE G n sc ρ l).bind fun a => (evalE G n sc ρ r).bind fun b => binOp op a b
  | n + 1, sc, ρ, .IfExp t a b _ => (truthE G n sc ρ t).bind fun c => if c then evalE G n sc ρ a else evalE G n sc ρ b
  | n + 1, sc, ρ, .BoolOp op vs _ => boolE G n sc ρ op vs
  | n + 1, sc, ρ, .Compare l ops rs _ => if rs.all noSet then (evalE G n sc ρ l).bind fun a => (chainE G n sc ρ a ops rs).map .bool else Option.none
  | n + 1, sc, ρ, .List es _ => if es.length ≤ 1000 then (evalEs G n sc ρ es).map .list else Option.none
  | n + 1, sc, ρ, .Tuple es _ _ => if es.length ≤ 1000 then (evalEs G n sc ρ es).map .tup else Option.none
  | n + 1, sc, ρ, .ListComp elt [⟨target, iter, ifs, 0⟩] cs _ =>
    if compOk cs sc target && ifsOk target ifs then
      (evalE G n sc ρ iter).bind fun it => (itemsOf it).bind fun items =>
        (compLoop (fun v => (bindT (cut cs.names ρ) target v).bind fun ρ' => elemE (fun t => truthE G n (relab cs.names sc) ρ' t) (evalE G n (relab cs.names sc) ρ' elt) ifs) items).map .list
    else Option.none
  | n + 1, sc, ρ, .Call (.Name f _) args [] _ =>
    if f = ("__debug__" : Str) then Option.none else
    (nameV G sc ρ f).bind fun fv => if args.isEmpty || decide (args.length > 20) then Option.none else (evalEs G n sc ρ args).bind fun vs => callV G fv vs
  | n + 1, sc, ρ, .Call (.Attribute (.Name x _) m ap) [] [] cp =>
    if x = ("__debug__" : Str) ∨ (ap.endLine == cp.line) = false ∨ ¬ m = ("lower" : Str) then Option.none else (nameV G sc ρ x).bind lowerV
  | n + 1, sc, ρ, .Subscript v (.Slice lo hi st _) _ =>
    (evalE G n sc ρ v).bind fun a => (partE G n sc ρ lo).bind fun l => (partE G n sc ρ hi).bind fun h => (partE G n sc ρ st).bind fun s => slicePV a l h s
  | n + 1, sc, ρ, .Subscript v i _ => (baseE (evalE G n sc ρ v) (ownL sc ρ v)).bind fun a => (evalE G n sc ρ i).bind fun k => itemPV G a k
  | _, _, _, _ => Option.none
noncomputable def evalEs (G : Gl) : Nat → Sc → Rho → List Expr → Option (List PV)
  | 0, _, _, _ => Option.none
  | n + 1, _, _, [] => some []
  | n + 1, sc, ρ, e :: r => (evalE G n sc ρ e).bind fun v => (evalEs G n sc ρ r).map (v :: ·)
noncomputable def partE (G : Gl) : Nat → Sc → Rho → Option Expr → Option (Option Int)
  | 0, _, _, _ => Option.none
  | n + 1, _, _, Option.none => some Option.none
  | n + 1, sc, ρ, some e => (evalE G n sc ρ e).bind fun v => partOf (some v)
noncomputable def chainE (G : Gl) : Nat → Sc → Rho → PV → List CmpOp → List Expr → Option Bool
  | 0, _, _, _, _, _ => Option.none
  | n + 1, sc, ρ, a, [op], [r] => (evalE G n sc ρ r).bind fun b => cmpPV op a b
  | n + 1, sc, ρ, a, op :: op' :: ops, r :: r' :: rs => (evalE G n sc ρ r).bind fun b => (cmpPV op a b).bind fun c => if c then chainE G n sc ρ b (op' :: ops) (r' :: rs) else some false
  | _, _, _, _, _, _ => Option.none
/-- the value of and | or -/
noncomputable def boolE (G : Gl) : Nat → Sc → Rho → BoolOp → List Expr → Option PV
  | 0, _, _, _, _ => Option.none
  | n + 1, sc, ρ, _, [e] => evalE G n sc ρ e
  | n + 1, sc, ρ, op, e :: r => (evalE G n sc ρ e).bind fun v => (truthPV v).bind fun b => match op, b with
    | .And, false => some v
    | .Or, true => some v
    | _, _ => boolE G n sc ρ op r
  | _, _, _, _, _ => Option.none
noncomputable def truthE (G : Gl) : Nat → Sc → Rho → Expr → Option Bool
  | 0, _, _, _ => Option.none
  | n + 1, sc, ρ, .UnaryOp .Not x _ => (truthE G n sc ρ x).map (!·)
  | n + 1, sc, ρ, .BoolOp op vs _ => allE G n sc ρ op vs
  | n + 1, sc, ρ, .Compare l ops rs _ => if rs.all noSet then (evalE G n sc ρ l).bind fun a => chainE G n sc ρ a ops rs else Option.none
  | n + 1, sc, ρ, .IfExp .. => Option.none
  | n + 1, sc, ρ, e => (evalE G n sc ρ e).bind truthPV
noncomputable def allE (G : Gl) : Nat → Sc → Rho → BoolOp → List Expr → Option Bool
  | 0, _, _, _, _ => Option.none
  | n + 1, _, _, op, [] => some (op == .And)
  | n + 1, sc, ρ, op, e :: r => (truthE G n sc ρ e).bind fun b => match op, b with
    | .And, false => some false
    | .Or, true => some true
    | _, _ => allE G n sc ρ op r
end

/-- `list(..)` makes a list of one's own -/
noncomputable def isListT : Option PV → Bool
  | some p => (match p with
    | .typ n => n == "list"
    | _ => false)
  | Option.none => false
noncomputable def makesL (G : Gl) (sc : Sc) (ρ : Rho) (one : Bool) : Option Str → Bool
  | some f => one && isListT (nameV G sc ρ f)
  | Option.none => false
noncomputable def makesList (G : Gl) (sc : Sc) (ρ : Rho) : Expr → Bool
  | .Call f args kw _ => makesL G sc ρ (args.length == 1 && kw.isEmpty) (nameT f)
  | _ => false

/-- no tuple of constants alone -/
noncomputable def tupOk : Expr → Bool
  | .Tuple vs _ _ => !vs.all (constantsAlone 8) && !vs.all (foldedForSure 8) && !vs.any (fun | .Starred .. => true | _ => false)
  | _ => true

inductive Tg where
  | one (x : Str) (p : Pos)
  | two (x : Str) (p : Pos) (y : Str) (q : Pos)
  | tup (ts : List Expr) (k : Nat) (p : Pos)
  | item (x : Str) (px : Pos) (i : Expr) (p : Pos)
  | no

noncomputable def tgItem (i : Expr) (p : Pos) : Expr → Tg
  | .Name x px => .item x px i p
  | _ => .no
noncomputable def tg1 : Expr → Tg
  | .Name x p => .one x p
  | .Tuple ts k p => .tup ts k p
  | .Subscript v i p => tgItem i p v
  | _ => .no
noncomputable def tg2' (x : Str) (p : Pos) : Expr → Tg
  | .Name y q => .two x p y q
  | _ => .no
noncomputable def tg2 (f : Expr) : Expr → Tg
  | .Name x p => tg2' x p f
  | _ => .no
noncomputable def tgOf : List Expr → Tg
  | [e] => tg1 e
  | [e, f] => tg2 f e
  | _ => .no

noncomputable def assignE (ev : Expr → Option PV) (ml : Bool) (sc : Sc) (ρ : Rho) (v : Expr) : Tg → Option (Fl × Rho)
  | .one x _ => if storable sc x then (ev v).bind fun pv => (storeV sc x ml pv).map fun q => (.next, upd ρ x q) else Option.none
  | .two x _ y _ => if storable sc x && storable sc y && !ml then (ev v).map fun pv => (.next, upd (upd ρ x pv) y pv) else Option.none
  | .tup ts k p => if storableT sc (.Tuple ts k p) && nodupT ts && tupOk v then (ev v).bind fun pv => (bindT ρ (.Tuple ts k p) pv).map fun ρ' => (.next, ρ') else Option.none
  | .item x px i _ => if isSlice i then Option.none else
      (ev v).bind fun pv => (ownL sc ρ (.Name x px)).bind fun l => (ev i).bind fun k => (setL l pv k).map fun l' => (.next, upd ρ x (.mlist l'))
  | .no => Option.none

mutual
noncomputable def execE (G : Gl) : Nat → Sc → Rho → Stmt → Option (Fl × Rho)
  | 0, _, _, _ => Option.none
  | n + 1, sc, ρ, .Return (some e) _ => (evalE G n sc ρ e).map fun v => (.ret v, ρ)
  | n + 1, sc, ρ, .Assign targets v _ => assignE (fun e => evalE G n sc ρ e) (makesList G sc ρ v) sc ρ v (tgOf targets)
  | n + 1, sc, ρ, .AugAssign (.Name x _) op v _ =>
    if storable sc x then (nameV G sc ρ x).bind fun a => (evalE G n sc ρ v).bind fun b => (augOp op a b).map fun c => (.next, upd ρ x c) else Option.none
  | n + 1, sc, ρ, .If t a b _ => (truthE G n sc ρ t).bind fun c => if c then execsE G n sc ρ a else execsE G n sc ρ b
  | n + 1, sc, ρ, .For target iter body [] _ =>
    if storableT sc target then
      (evalE G n sc ρ iter).bind fun it => (itemsOf it).bind fun items =>
        forLoop (fun ρ v => (bindT ρ target v).bind fun ρ' => execsE G n sc ρ' body) items ρ
    else Option.none
  | n + 1, sc, ρ, .While t body [] _ => whileLoop (fun ρ => truthE G n sc ρ t) (fun ρ => execsE G n sc ρ body) n ρ
  | _, _, _, _ => Option.none
noncomputable def execsE (G : Gl) : Nat → Sc → Rho → List Stmt → Option (Fl × Rho)
  | 0, _, _, _ => Option.none
  | n + 1, _, ρ, [] => some (.next, ρ)
  | n + 1, sc, ρ, st :: r => (execE G n sc ρ st).bind fun x => match x with
    | (.next, ρ') => execsE G n sc ρ' r
    | (.ret v, ρ') => some (.ret v, ρ')
end

/-- a number, a text .. or a tuple of such -/
noncomputable def scal : PV → Bool
  | .none => true
  | .bool _ => true
  | .int _ => true
  | .flt _ => true
  | .str _ => true
  | _ => false
noncomputable def flat : PV → Bool
  | .tup l => l.all scal
  | p => scal p

noncomputable def callE (G : Gl) (n : Nat) (sc : Sc) (params : List Str) (body : List Stmt) (args : List PV) : Option PV :=
  (bindNames rho0 params args).bind fun ρ => (execsE G n sc ρ body).bind fun x => match x with
    | (.ret v, _) => if flat v then some v else Option.none
    | _ => Option.none

end Mine
end

section
open PySem
set_option linter.unusedVariables false
namespace Mine
theorem no_some {α : Type} {v : α} {P : Prop} (h : (Option.none : Option α) = some v) : P := nomatch h
theorem no_bool {P : Prop} (h : true = false) : P := nomatch h
section
variable {G : Gl} {n : Nat} {sc : Sc} {ρ : Rho}
theorem ev_Constant {c k p} : evalE G (n + 1) sc ρ (.Constant c k p) = constPV c := rfl
theorem ev_Name {x p} : evalE G (n + 1) sc ρ (.Name x p) = if x = ("__debug__" : Str) then Option.none else nameV G sc ρ x := rfl
theorem ev_BinOp {l op r p} : evalE G (n + 1) sc ρ (.BinOp l op r p) = (evalE G n sc ρ l).bind fun a => (evalE G n sc ρ r).bind fun b => binOp op a b := rfl
theorem ev_IfExp {t a b p} : evalE G (n + 1) sc ρ (.IfExp t a b p) = (truthE G n sc ρ t).bind fun c => if c then evalE G n sc ρ a else evalE G n sc ρ b := rfl
theorem ev_BoolOp {op vs p} : evalE G (n + 1) sc ρ (.BoolOp op vs p) = boolE G n sc ρ op vs := rfl
theorem ev_Compare {l ops rs p} : evalE G (n + 1) sc ρ (.Compare l ops rs p) = if rs.all noSet then (evalE G n sc ρ l).bind fun a => (chainE G n sc ρ a ops rs).map .bool else Option.none := rfl
theorem ev_List {es p} : evalE G (n + 1) sc ρ (.List es p) = if es.length ≤ 1000 then (evalEs G n sc ρ es).map .list else Option.none := rfl
theorem ev_Tuple {es k p} : evalE G (n + 1) sc ρ (.Tuple es k p) = if es.length ≤ 1000 then (evalEs G n sc ρ es).map .tup else Option.none := rfl
theorem ev_ListComp {elt target iter ifs cs p} : evalE G (n + 1) sc ρ (.ListComp elt [⟨target, iter, ifs, 0⟩] cs p) =
    if compOk cs sc target && ifsOk target ifs then
      (evalE G n sc ρ iter).bind fun it => (itemsOf it).bind fun items =>
        (compLoop (fun v => (bindT (cut cs.names ρ) target v).bind fun ρ' => elemE (fun t => truthE G n (relab cs.names sc) ρ' t) (evalE G n (relab cs.names sc) ρ' elt) ifs) items).map .list
    else Option.none := rfl
theorem ev_Call {f q args p} : evalE G (n + 1) sc ρ (.Call (.Name f q) args [] p) = if f = ("__debug__" : Str) then Option.none else
    (nameV G sc ρ f).bind fun fv => if args.isEmpty || decide (args.length > 20) then Option.none else (evalEs G n sc ρ args).bind fun vs => callV G fv vs := rfl
theorem ev_Meth {x q m ap cp} : evalE G (n + 1) sc ρ (.Call (.Attribute (.Name x q) m ap) [] [] cp) =
    if x = ("__debug__" : Str) ∨ (ap.endLine == cp.line) = false ∨ ¬ m = ("lower" : Str) then Option.none else (nameV G sc ρ x).bind lowerV := rfl
theorem ev_Slice {v lo hi st q p} : evalE G (n + 1) sc ρ (.Subscript v (.Slice lo hi st q) p) =
    (evalE G n sc ρ v).bind fun a => (partE G n sc ρ lo).bind fun l => (partE G n sc ρ hi).bind fun h => (partE G n sc ρ st).bind fun s => slicePV a l h s := rfl
theorem ev_Sub {v i p} (hi : isSlice i = false) : evalE G (n + 1) sc ρ (.Subscript v i p) = (baseE (evalE G n sc ρ v) (ownL sc ρ v)).bind fun a => (evalE G n sc ρ i).bind fun k => itemPV G a k := by
  cases i <;> first | rfl | exact no_bool hi
theorem evs_nil : evalEs G (n + 1) sc ρ [] = some [] := rfl
theorem evs_cons {e r} : evalEs G (n + 1) sc ρ (e :: r) = (evalE G n sc ρ e).bind fun v => (evalEs G n sc ρ r).map (v :: ·) := rfl
theorem part_none : partE G (n + 1) sc ρ Option.none = some Option.none := rfl
theorem part_some {e} : partE G (n + 1) sc ρ (some e) = (evalE G n sc ρ e).bind fun v => partOf (some v) := rfl
theorem chain_one {a op r} : chainE G (n + 1) sc ρ a [op] [r] = (evalE G n sc ρ r).bind fun b => cmpPV op a b := rfl
theorem chain_more {a op op' ops r r' rs} : chainE G (n + 1) sc ρ a (op :: op' :: ops) (r :: r' :: rs) = (evalE G n sc ρ r).bind fun b => (cmpPV op a b).bind fun c => if c then chainE G n sc ρ b (op' :: ops) (r' :: rs) else some false := rfl
theorem bool_one {op e} : boolE G (n + 1) sc ρ op [e] = evalE G n sc ρ e := rfl
theorem bool_more {op e f r} : boolE G (n + 1) sc ρ op (e :: f :: r) = (evalE G n sc ρ e).bind fun v => (truthPV v).bind fun b => match op, b with
    | .And, false => some v
    | .Or, true => some v
    | _, _ => boolE G n sc ρ op (f :: r) := rfl
theorem truth_Not {x p} : truthE G (n + 1) sc ρ (.UnaryOp .Not x p) = (truthE G n sc ρ x).map (!·) := rfl
theorem truth_BoolOp {op vs p} : truthE G (n + 1) sc ρ (.BoolOp op vs p) = allE G n sc ρ op vs := rfl
theorem truth_Compare {l ops rs p} : truthE G (n + 1) sc ρ (.Compare l ops rs p) = if rs.all noSet then (evalE G n sc ρ l).bind fun a => chainE G n sc ρ a ops rs else Option.none := rfl
theorem all_nil {op} : allE G (n + 1) sc ρ op [] = some (op == .And) := rfl
theorem all_cons {op e r} : allE G (n + 1) sc ρ op (e :: r) = (truthE G n sc ρ e).bind fun b => match op, b with
    | .And, false => some false
    | .Or, true => some true
    | _, _ => allE G n sc ρ op r := rfl
theorem ex_Return {e p} : execE G (n + 1) sc ρ (.Return (some e) p) = (evalE G n sc ρ e).map fun v => (.ret v, ρ) := rfl
theorem ex_Assign {t v p} : execE G (n + 1) sc ρ (.Assign t v p) = assignE (fun e => evalE G n sc ρ e) (makesList G sc ρ v) sc ρ v (tgOf t) := rfl
theorem ex_Aug {x q op v p} : execE G (n + 1) sc ρ (.AugAssign (.Name x q) op v p) = if storable sc x then (nameV G sc ρ x).bind fun a => (evalE G n sc ρ v).bind fun b => (augOp op a b).map fun c => (.next, upd ρ x c) else Option.none := rfl
theorem ex_If {t a b p} : execE G (n + 1) sc ρ (.If t a b p) = (truthE G n sc ρ t).bind fun c => if c then execsE G n sc ρ a else execsE G n sc ρ b := rfl
theorem ex_For {target iter body p} : execE G (n + 1) sc ρ (.For target iter body [] p) = if storableT sc target then
      (evalE G n sc ρ iter).bind fun it => (itemsOf it).bind fun items =>
        forLoop (fun ρ v => (bindT ρ target v).bind fun ρ' => execsE G n sc ρ' body) items ρ
    else Option.none := rfl
theorem ex_While {t body p} : execE G (n + 1) sc ρ (.While t body [] p) = whileLoop (fun ρ => truthE G n sc ρ t) (fun ρ => execsE G n sc ρ body) n ρ := rfl
theorem exs_nil : execsE G (n + 1) sc ρ [] = some (.next, ρ) := rfl
theorem exs_cons {st r} : execsE G (n + 1) sc ρ (st :: r) = (execE G n sc ρ st).bind fun x => match x with
    | (.next, ρ') => execsE G n sc ρ' r
    | (.ret v, ρ') => some (.ret v, ρ') := rfl
theorem tg_one {x p} : tgOf [.Name x p] = .one x p := rfl
theorem tg_tup {ts k p} : tgOf [.Tuple ts k p] = .tup ts k p := rfl
theorem ml_ListComp {a b c d} : makesList G sc ρ (.ListComp a b c d) = false := rfl
theorem ml_BinOp {a b c d} : makesList G sc ρ (.BinOp a b c d) = false := rfl
theorem ml_Tuple {a b c} : makesList G sc ρ (.Tuple a b c) = false := rfl
theorem ml_Call {f p a q} : makesList G sc ρ (.Call (.Name f p) [a] [] q) = isListT (nameV G sc ρ f) := rfl
theorem lt_typ {n} : isListT (some (.typ n)) = (n == "list") := rfl
theorem lt_bltn {n} : isListT (some (.bltn n)) = false := rfl
theorem lt_ref {n} : isListT (some (.ref n)) = false := rfl
theorem bt_name {x p v} : bindT ρ (.Name x p) v = some (upd ρ x v) := rfl
theorem bt_tup {es k p vs} : bindT ρ (.Tuple es k p) (.tup vs) = (namesT es).bind fun xs => bindNames ρ xs vs := rfl
end
end Mine
end

section
open PySem
set_option linter.unusedVariables false
namespace Mine

noncomputable def findDef (n : Str) : List Stmt → Option (Arguments × List Stmt × Scope)
  | [] => Option.none
  | .FunctionDef m a b _ _ _ sc _ _ _ :: r => if m = n then some (a, b, sc) else findDef n r
  | _ :: r => findDef n r

noncomputable def progBody : List Stmt := PySem.Challenge.pw_re0111_01.main.body

noncomputable def bodyOf (n : Str) : List Stmt := ((findDef n progBody).map fun x => x.2.1).getD []
noncomputable def scopeOf (n : Str) : Sc := ((findDef n progBody).map fun x => x.2.2.names).getD []
noncomputable def paramsOf (n : Str) : List Str := ((findDef n progBody).map fun x => x.1.args.map (·.arg)).getD []

noncomputable def runDef (G : Gl) (fuel : Nat) (n : Str) (args : List PV) : Option PV := callE G fuel (scopeOf n) (paramsOf n) (bodyOf n) args

noncomputable def globT : List (Str × PV) := [
  ("rgb_to_hsv", .ref 21), ("hsv_to_rgb", .ref 28), ("EXACT_TOKEN_TYPES", .ref 29), ("_MAX_STRING_SIZE", .int 40), ("_MOVE_COST", .int 2), ("_CASE_COST", .int 1),
  ("_substitution_cost", .ref 38), ("_levenshtein_distance", .ref 45), ("_law_level", .ref 52), ("_law_seen", .ref 59),
  ("max", .bltn "max"), ("min", .bltn "min"), ("len", .bltn "len"), ("sum", .bltn "sum"), ("abs", .bltn "abs"),
  ("int", .typ "int"), ("list", .typ "list"), ("range", .typ "range")]

noncomputable def itemT : List (Str × PV) := [("(", .int 7), (")", .int 8), ("[", .int 9), ("]", .int 10), (":", .int 11), (",", .int 12), (";", .int 13), ("+", .int 14), ("-", .int 15), ("*", .int 16), ("/", .int 17), ("|", .int 18)]

noncomputable def gItem (a : Addr) (s : Str) : Option PV := if a = 29 then itemT.lookup s else Option.none

/-- no call is known -/
noncomputable def G0 : Gl := { glob := fun x => globT.lookup x, call := fun _ _ => Option.none, item := gItem }
/-- what the defs that call no def give -/
noncomputable def call1 (a : Addr) (vs : List PV) : Option PV :=
  if a = 38 then runDef G0 200 "_substitution_cost" vs
  else if a = 21 then runDef G0 200 "rgb_to_hsv" vs
  else if a = 28 then runDef G0 200 "hsv_to_rgb" vs
  else if a = 52 then runDef G0 200 "_law_level" vs
  else Option.none
noncomputable def G1 : Gl := { G0 with call := call1 }
end Mine
end

section
open PySem PyProof.Rows
set_option linter.unusedVariables false
namespace Mine

abbrev Sub (h h' : Heap) : Prop := ∀ b o, h.get? b = some o → h'.get? b = some o
theorem Sub.refl (h : Heap) : Sub h h := fun _ _ e => e
theorem Sub.trans {a b c : Heap} (x : Sub a b) (y : Sub b c) : Sub a c := fun p o e => y p o (x p o e)
theorem Sub.push (h : Heap) (o : Obj) : Sub h (h.push o) := fun _ _ e => Heap.get?_push_of_some _ e

/-- all but the addresses of X stands -/
noncomputable def KB (X : List Addr) (h h' : Heap) : Prop := ∀ b o, b ∉ X → h.get? b = some o → h'.get? b = some o
theorem KB.of_sub {X : List Addr} {h h' : Heap} (x : Sub h h') : KB X h h' := fun b o _ e => x b o e
theorem KB.refl (X : List Addr) (h : Heap) : KB X h h := fun _ _ _ e => e

/-- no tuple -/
noncomputable def NoTup (o : Obj) : Prop := o.cls = .type "tuple" → ∀ its n, o.data ≠ .seq its n
theorem NoTup.of_cls {o : Obj} (h : o.cls ≠ .type "tuple") : NoTup o := fun q => absurd q h

/-- the hidden addresses bear objects, and no tuples -/
noncomputable def XOK (X : List Addr) (h : Heap) : Prop := ∀ a ∈ X, ∃ o, h.get? a = some o ∧ NoTup o
theorem XOK.sub {X : List Addr} {h h' : Heap} (x : XOK X h) (s : Sub h h') : XOK X h' := fun a ha => let ⟨o, e, q⟩ := x a ha; ⟨o, s a o e, q⟩
theorem XOK.new {X : List Addr} {h : Heap} (x : XOK X h) {a : Addr} (ha : h.get? a = none) : a ∉ X := fun hm => by
  obtain ⟨o, e, _⟩ := x a hm; rw [ha] at e; cases e
theorem NoTup.ns {h : Heap} {a : Addr} {m : Str → Option Value} (x : h.Ns a m) : ∃ o, h.get? a = some o ∧ NoTup o := by
  obtain ⟨o, es, ep, ho, hd, _⟩ := x
  exact ⟨o, ho, fun _ its n q => by rw [hd] at q; cases q⟩
theorem NoTup.cell {h : Heap} {a : Addr} {v : Option Value} (x : h.IsCell a v) : ∃ o, h.get? a = some o ∧ NoTup o := by
  obtain ⟨o, ho, hd⟩ := x
  exact ⟨o, ho, fun _ its n q => by rw [hd] at q; cases q⟩
theorem NoTup.list {h : Heap} {a : Addr} {its : Array Value} (x : h.IsList a its) : ∃ o, h.get? a = some o ∧ NoTup o := by
  obtain ⟨o, ho, hc, _⟩ := x
  exact ⟨o, ho, .of_cls (by rw [hc]; simp)⟩

theorem get_size_none (h : Heap) : h.get? h.objs.size = none := by
  cases e : h.get? h.objs.size with
  | none => rfl
  | some o => exact absurd (Heap.lt_size e) (Nat.lt_irrefl _)
theorem get_none_of_le {h : Heap} {a : Addr} (ha : h.objs.size ≤ a) : h.get? a = none := by
  cases e : h.get? a with
  | none => rfl
  | some o => exact absurd (Heap.lt_size e) (Nat.not_lt.mpr ha)

mutual
noncomputable def Rep (X : List Addr) (h : Heap) : PV → Value → Prop
  | .none, v => v = .none
  | .bool b, v => v = .bool b
  | .int i, v => ∃ t, v = .int i t
  | .flt x, v => ∃ t, v = .float x t
  | .str s, v => ∃ t, v = .str s t
  | .ref a, v => v = .ref a
  | .bltn id, v => v = .builtin id
  | .typ n, v => v = .type n
  | .rng a b c, v => ∃ r t u w, v = .ref r ∧ r ∉ X ∧ IsRange h r a b c t u w
  | .tup l, v => ∃ r vs, v = .ref r ∧ r ∉ X ∧ h.IsTuple r (List.toArray vs) ∧ RepL X h l vs
  | .list l, v => ∃ r vs, v = .ref r ∧ r ∉ X ∧ h.IsList r (List.toArray vs) ∧ RepL X h l vs
  | .mlist _, _ => False
noncomputable def RepL (X : List Addr) (h : Heap) : List PV → List Value → Prop
  | [], vs => vs = []
  | p :: ps, vs => ∃ v r, vs = v :: r ∧ Rep X h p v ∧ RepL X h ps r
end

/-- a relation of hidden sets and heaps along which Rep goes on -/
noncomputable def Goes (X : List Addr) (h : Heap) (Y : List Addr) (h' : Heap) : Prop := ∀ b o, b ∉ X → h.get? b = some o → b ∉ Y ∧ h'.get? b = some o
theorem Goes.sub {X : List Addr} {h h' : Heap} (s : Sub h h') : Goes X h X h' := fun b o hb e => ⟨hb, s b o e⟩
theorem Goes.kb {X : List Addr} {h h' : Heap} (s : KB X h h') : Goes X h X h' := fun b o hb e => ⟨hb, s b o hb e⟩
theorem Goes.less {X Y : List Addr} {h h' : Heap} (hs : ∀ a ∈ Y, a ∈ X) (s : Sub h h') : Goes X h Y h' := fun b o hb e => ⟨fun q => hb (hs b q), s b o e⟩
/-- new hidden addresses -/
theorem Goes.more {X Y : List Addr} {h h' : Heap} (hy : ∀ a ∈ Y, a ∈ X ∨ h.get? a = none) (s : KB X h h') : Goes X h Y h' := fun b o hb e =>
  ⟨fun q => (hy b q).elim hb (fun q => by rw [e] at q; cases q), s b o hb e⟩

mutual
theorem Rep.go {X Y : List Addr} {h h' : Heap} (g : Goes X h Y h') : ∀ (p : PV) (v : Value), Rep X h p v → Rep Y h' p v
  | .none, _, e => by simpa only [Rep] using e
  | .bool _, _, e => by simpa only [Rep] using e
  | .int _, _, e => by simpa only [Rep] using e
  | .flt _, _, e => by simpa only [Rep] using e
  | .str _, _, e => by simpa only [Rep] using e
  | .ref _, _, e => by simpa only [Rep] using e
  | .bltn _, _, e => by simpa only [Rep] using e
  | .typ _, _, e => by simpa only [Rep] using e
  | .rng a b c, v, e => by
    simp only [Rep] at e ⊢
    obtain ⟨r, t, u, w, rfl, hr, hi⟩ := e
    exact ⟨r, t, u, w, rfl, (g r _ hr hi).1, (g r _ hr hi).2⟩
  | .tup l, v, e => by
    simp only [Rep] at e ⊢
    obtain ⟨r, vs, rfl, hr, ⟨o, ho, q⟩, hl⟩ := e
    exact ⟨r, vs, rfl, (g r _ hr ho).1, ⟨o, (g r _ hr ho).2, q⟩, RepL.go g l vs hl⟩
  | .list l, v, e => by
    simp only [Rep] at e ⊢
    obtain ⟨r, vs, rfl, hr, ⟨o, ho, q⟩, hl⟩ := e
    exact ⟨r, vs, rfl, (g r _ hr ho).1, ⟨o, (g r _ hr ho).2, q⟩, RepL.go g l vs hl⟩
  | .mlist _, _, e => by simp only [Rep] at e
theorem RepL.go {X Y : List Addr} {h h' : Heap} (g : Goes X h Y h') : ∀ (p : List PV) (v : List Value), RepL X h p v → RepL Y h' p v
  | [], _, e => by simpa only [RepL] using e
  | p :: ps, v, e => by
    simp only [RepL] at e ⊢
    obtain ⟨x, r, rfl, hx, hr⟩ := e
    exact ⟨x, r, rfl, Rep.go g p x hx, RepL.go g ps r hr⟩
end
theorem Rep.mono {X : List Addr} {h h' : Heap} {p : PV} {v : Value} (e : Rep X h p v) (s : Sub h h') : Rep X h' p v := Rep.go (.sub s) p v e
theorem RepL.mono {X : List Addr} {h h' : Heap} {p : List PV} {v : List Value} (e : RepL X h p v) (s : Sub h h') : RepL X h' p v := RepL.go (.sub s) p v e

theorem RepL.length {X : List Addr} {h : Heap} : ∀ {ps : List PV} {vs : List Value}, RepL X h ps vs → vs.length = ps.length
  | [], _, e => by simp only [RepL] at e; subst e; rfl
  | p :: ps, _, e => by
    simp only [RepL] at e
    obtain ⟨v, r, rfl, _, hr⟩ := e
    simp [RepL.length hr]
theorem RepL.append {X : List Addr} {h : Heap} : ∀ {ps qs : List PV} {vs ws : List Value}, RepL X h ps vs → RepL X h qs ws → RepL X h (ps ++ qs) (vs ++ ws)
  | [], _, _, _, e, f => by simp only [RepL] at e; subst e; exact f
  | p :: ps, _, _, _, e, f => by
    simp only [RepL] at e
    obtain ⟨v, r, rfl, hv, hr⟩ := e
    simp only [List.cons_append, RepL]
    exact ⟨v, _, rfl, hv, RepL.append hr f⟩
theorem RepL.get {X : List Addr} {h : Heap} : ∀ {ps : List PV} {vs : List Value}, RepL X h ps vs → ∀ (k : Nat) (p : PV), ps[k]? = some p → ∃ v, vs[k]? = some v ∧ Rep X h p v
  | [], _, _, k, p, hk => by simp at hk
  | q :: ps, _, e, k, p, hk => by
    simp only [RepL] at e
    obtain ⟨v, r, rfl, hv, hr⟩ := e
    cases k with
    | zero => simp at hk; subst hk; exact ⟨v, rfl, hv⟩
    | succ k => simp at hk; simpa using RepL.get hr k p hk
theorem RepL.get' {X : List Addr} {h : Heap} : ∀ {ps : List PV} {vs : List Value}, RepL X h ps vs → ∀ (k : Nat) (v : Value), vs[k]? = some v → ∃ p, ps[k]? = some p ∧ Rep X h p v
  | [], _, e, k, v, hk => by simp only [RepL] at e; subst e; simp at hk
  | q :: ps, _, e, k, w, hk => by
    simp only [RepL] at e
    obtain ⟨v, r, rfl, hv, hr⟩ := e
    cases k with
    | zero => simp at hk; subst hk; exact ⟨q, rfl, hv⟩
    | succ k => simp at hk; simpa using RepL.get' hr k w hk
theorem RepL.pick {X : List Addr} {h : Heap} {ps : List PV} {vs : List Value} (e : RepL X h ps vs) : ∀ is : List Nat, RepL X h (is.filterMap (ps[·]?)) (is.filterMap (vs[·]?))
  | [] => by simp [RepL]
  | i :: r => by
    have ih := RepL.pick e r
    cases hp : ps[i]? with
    | none =>
      have hv : vs[i]? = Option.none := by
        have := e.length
        simp only [List.getElem?_eq_none_iff] at hp ⊢
        omega
      simpa [List.filterMap_cons, hp, hv] using ih
    | some p =>
      obtain ⟨v, hv, hr⟩ := e.get i p hp
      simp only [List.filterMap_cons, hp, hv, RepL]
      exact ⟨v, _, rfl, hr, ih⟩
theorem RepL.snoc {X : List Addr} {h : Heap} {ps : List PV} {vs : List Value} {p : PV} {v : Value} (e : RepL X h ps vs) (f : Rep X h p v) : RepL X h (ps ++ [p]) (vs ++ [v]) :=
  e.append (by simp only [RepL]; exact ⟨v, [], rfl, f, rfl⟩)
theorem RepL.ints {X : List Addr} {h : Heap} : ∀ {ps : List PV} {vs : List Value} {ns : List Int}, RepL X h ps vs → intsOf ps = some ns → IntsAre vs ns
  | [], _, _, e, f => by simp only [RepL] at e; subst e; simp [intsOf] at f; subst f; exact .nil
  | .int i :: ps, _, _, e, f => by
    simp only [RepL, Rep] at e
    obtain ⟨v, r, rfl, ⟨t, rfl⟩, hr⟩ := e
    simp only [intsOf, Option.map_eq_some_iff] at f
    obtain ⟨ns, hn, rfl⟩ := f
    exact .cons i t (RepL.ints hr hn)
  | .none :: _, _, _, _, f => by simp [intsOf] at f
  | .bool _ :: _, _, _, _, f => by simp [intsOf] at f
  | .flt _ :: _, _, _, _, f => by simp [intsOf] at f
  | .str _ :: _, _, _, _, f => by simp [intsOf] at f
  | .tup _ :: _, _, _, _, f => by simp [intsOf] at f
  | .list _ :: _, _, _, _, f => by simp [intsOf] at f
  | .rng _ _ _ :: _, _, _, _, f => by simp [intsOf] at f
  | .ref _ :: _, _, _, _, f => by simp [intsOf] at f
  | .bltn _ :: _, _, _, _, f => by simp [intsOf] at f
  | .typ _ :: _, _, _, _, f => by simp [intsOf] at f
  | .mlist _ :: _, _, _, _, f => by simp [intsOf] at f
theorem RepL.of_ints {X : List Addr} {h : Heap} : ∀ {vs : List Value} {ns : List Int}, IntsAre vs ns → RepL X h (ns.map .int) vs
  | _, _, .nil => by simp [RepL]
  | _, _, .cons k t r => by
    simp only [List.map_cons, RepL, Rep]
    exact ⟨_, _, rfl, ⟨t, rfl⟩, RepL.of_ints r⟩

theorem small_lt {n : Int} (h : small n = true) : n.natAbs < 2 ^ 1023 := by
  have h1 : n.natAbs < 18446744073709551616 := of_decide_eq_true h
  exact Nat.lt_trans h1 (by decide +kernel)

section
variable {prog : Program} {w : World} {A : Around} {E : Value → Shared → Prop} {s : Shared} {X : List Addr} {Q : Value → Shared → Prop}

/-- what a step that only makes things hands on -/
abbrev Post (X : List Addr) (s : Shared) (r : PV) (Q : Value → Shared → Prop) : Prop :=
  ∀ v h' tk, Sub s.heap h' → Rep X h' r v → Q v { s with heap := h', toks := tk }

theorem Post.int {i : Int} (h : Post X s (.int i) Q) (t tk : Nat) : Q (.int i t) { s with toks := tk } := h _ s.heap tk (.refl _) (by simp only [Rep]; exact ⟨t, rfl⟩)
theorem Post.flt {i : UInt64} (h : Post X s (.flt i) Q) (t tk : Nat) : Q (.float i t) { s with toks := tk } := h _ s.heap tk (.refl _) (by simp only [Rep]; exact ⟨t, rfl⟩)
theorem Post.str {i : Str} (h : Post X s (.str i) Q) (t tk : Nat) : Q (.str i t) { s with toks := tk } := h _ s.heap tk (.refl _) (by simp only [Rep]; exact ⟨t, rfl⟩)
theorem Post.bool {i : Bool} (h : Post X s (.bool i) Q) (tk : Nat) : Q (.bool i) { s with toks := tk } := h _ s.heap tk (.refl _) (by simp only [Rep])
theorem Post.bool' {i : Bool} (h : Post X s (.bool i) Q) : Q (.bool i) s := h _ s.heap s.toks (.refl _) (by simp only [Rep])
theorem Post.same {r : PV} {v : Value} (h : Post X s r Q) (hr : Rep X s.heap r v) : Q v s := h v s.heap s.toks (.refl _) hr
/-- a new list -/
theorem Post.newList {l : List PV} {vs : List Value} (h : Post X s (.list l) Q) (hx : XOK X s.heap) (hr : RepL X s.heap l vs) :
    Q (.ref s.heap.objs.size) { s with heap := s.heap.push { cls := .type "list", data := .seq vs.toArray } } := by
  refine h _ _ s.toks (Sub.push _ _) ?_
  simp only [Rep]
  exact ⟨_, vs, rfl, hx.new (get_size_none _), ⟨_, Heap.get?_push_size _ rfl, rfl, _, rfl⟩, hr.mono (Sub.push _ _)⟩
theorem Post.newTuple {l : List PV} {vs : List Value} (h : Post X s (.tup l) Q) (hx : XOK X s.heap) (hr : RepL X s.heap l vs) :
    Q (.ref s.heap.objs.size) { s with heap := s.heap.push { cls := .type "tuple", data := .seq vs.toArray } } := by
  refine h _ _ s.toks (Sub.push _ _) ?_
  simp only [Rep]
  exact ⟨_, vs, rfl, hx.new (get_size_none _), ⟨_, Heap.get?_push_size _ rfl, rfl, _, rfl⟩, hr.mono (Sub.push _ _)⟩

theorem addOp_sound {a b c : PV} {va vb : Value} (hx : XOK X s.heap) (e : addOp a b = some c) (ha : Rep X s.heap a va) (hb : Rep X s.heap b vb) (h : Post X s c Q) :
    wpAny (model prog w) A (binaryOp .Add va vb) Q E s := by
  unfold addOp at e
  split at e
  · simp only [Rep] at ha hb; obtain ⟨t, rfl⟩ := ha; obtain ⟨u, rfl⟩ := hb; cases e
    exact PyProof.Rows.add_int (h.int _ _)
  · simp only [Rep] at ha hb; obtain ⟨t, rfl⟩ := ha; obtain ⟨u, rfl⟩ := hb; cases e
    exact add_float (h.flt _ _)
  · simp only [Rep] at ha hb; obtain ⟨t, rfl⟩ := ha; obtain ⟨u, rfl⟩ := hb
    split at e
    · cases e; exact add_fi_fits (small_lt (by assumption)) (h.flt _ _)
    · cases e
  · simp only [Rep] at ha hb; obtain ⟨t, rfl⟩ := ha; obtain ⟨u, rfl⟩ := hb
    split at e
    · cases e; exact add_if_fits (small_lt (by assumption)) (h.flt _ _)
    · cases e
  · simp only [Rep] at ha hb; obtain ⟨t, rfl⟩ := ha; obtain ⟨u, rfl⟩ := hb
    split at e
    · rename_i hl
      cases e; exact add_str (fun t' tk => h.str _ _) (Nat.le_trans hl (by decide))
    · cases e
  · simp only [Rep] at ha hb
    obtain ⟨r1, vs, rfl, hr1, hl, hvs⟩ := ha
    obtain ⟨r2, ws, rfl, hr2, hb, hws⟩ := hb
    split at e
    · rename_i hlen
      cases e
      obtain ⟨⟨cls, dd, data, sl⟩, ho, hc, n, hd⟩ := hl
      obtain ⟨⟨cls2, dd2, data2, sl2⟩, ho2, hc2, n2, hd2⟩ := hb
      simp only at hc hd hc2 hd2
      subst hc hd hc2 hd2
      have e : vs.toArray ++ ws.toArray = (vs ++ ws).toArray := by simp
      have hsz : vs.length + ws.length ≤ sizeLine := by rw [hvs.length, hws.length]; exact Nat.le_trans hlen (by decide)
      refine concat_meets ⟨_, ho, rfl⟩ ⟨_, ho2, rfl⟩ noFill_list_add seq_list_add PySem.F.slot_list_add PySem.F.entry_list_add (PySem.F.args_list_add_2 _ _) (list_addW r1 r2 vs.toArray ws.toArray n n2 dd dd2 sl sl2 (by simpa using hsz)) ⟨ho, ho2, ?_⟩
      rw [e]
      exact h.newList hx (hvs.append hws)
    · cases e
  · cases e

theorem subOp_sound {a b c : PV} {va vb : Value} (e : subOp a b = some c) (ha : Rep X s.heap a va) (hb : Rep X s.heap b vb) (h : Post X s c Q) :
    wpAny (model prog w) A (binaryOp .Sub va vb) Q E s := by
  unfold subOp at e
  split at e
  · simp only [Rep] at ha hb; obtain ⟨t, rfl⟩ := ha; obtain ⟨u, rfl⟩ := hb; cases e
    exact PyProof.Rows.sub_int (h.int _ _)
  · simp only [Rep] at ha hb; obtain ⟨t, rfl⟩ := ha; obtain ⟨u, rfl⟩ := hb; cases e
    exact sub_float (h.flt _ _)
  · simp only [Rep] at ha hb; obtain ⟨t, rfl⟩ := ha; obtain ⟨u, rfl⟩ := hb
    split at e
    · cases e; exact sub_fi_fits (small_lt (by assumption)) (h.flt _ _)
    · cases e
  · simp only [Rep] at ha hb; obtain ⟨t, rfl⟩ := ha; obtain ⟨u, rfl⟩ := hb
    split at e
    · cases e; exact sub_if_fits (small_lt (by assumption)) (h.flt _ _)
    · cases e
  · cases e

end
end Mine
end

section
open PySem PyProof.Rows
set_option linter.unusedVariables false
namespace Mine
section
variable {prog : Program} {w : World} {A : Around} {E : Value → Shared → Prop} {s : Shared} {X : List Addr} {Q : Value → Shared → Prop}

theorem small_bits {n : Int} (h : small n = true) : Builtin.Int.intBits n ≤ 64 := by
  have h1 : n.natAbs < 18446744073709551616 := of_decide_eq_true h
  exact intBits_le_64 (by omega) (by omega)

theorem mulOp_sound {a b c : PV} {va vb : Value} (e : mulOp a b = some c) (ha : Rep X s.heap a va) (hb : Rep X s.heap b vb) (h : Post X s c Q) :
    wpAny (model prog w) A (binaryOp .Mult va vb) Q E s := by
  unfold mulOp at e
  split at e
  · simp only [Rep] at ha hb; obtain ⟨t, rfl⟩ := ha; obtain ⟨u, rfl⟩ := hb
    split at e
    · rename_i hs
      cases e
      rw [Bool.and_eq_true] at hs
      exact PyProof.Rows.mul_int (h.int _ _) (IntMulOk.of_left (small_bits hs.1))
    · cases e
  · simp only [Rep] at ha hb; obtain ⟨t, rfl⟩ := ha; obtain ⟨u, rfl⟩ := hb; cases e
    exact mul_float (h.flt _ _)
  · simp only [Rep] at ha hb; obtain ⟨t, rfl⟩ := ha; obtain ⟨u, rfl⟩ := hb
    split at e
    · cases e; exact mul_fi_fits (small_lt (by assumption)) (h.flt _ _)
    · cases e
  · simp only [Rep] at ha hb; obtain ⟨t, rfl⟩ := ha; obtain ⟨u, rfl⟩ := hb
    split at e
    · cases e; exact mul_if_fits (small_lt (by assumption)) (h.flt _ _)
    · cases e
  · cases e

theorem divOp_sound {a b c : PV} {va vb : Value} (e : divOp a b = some c) (ha : Rep X s.heap a va) (hb : Rep X s.heap b vb) (h : Post X s c Q) :
    wpAny (model prog w) A (binaryOp .Div va vb) Q E s := by
  unfold divOp at e
  split at e
  · simp only [Rep] at ha hb; obtain ⟨t, rfl⟩ := ha; obtain ⟨u, rfl⟩ := hb
    split at e
    · cases e
    · split at e
      · cases e
      · cases e; exact AutoIntOps.truediv_2 (by assumption) (by assumption) (h.flt _ _)
  · simp only [Rep] at ha hb; obtain ⟨t, rfl⟩ := ha; obtain ⟨u, rfl⟩ := hb
    split at e
    · cases e
    · rename_i hz
      cases e
      refine AutoFloatOpsIf.truediv ?_
      rw [if_neg hz]
      exact h.flt _ _
  · simp only [Rep] at ha hb; obtain ⟨t, rfl⟩ := ha; obtain ⟨u, rfl⟩ := hb
    split at e
    · cases e
    · rename_i hz
      simp only [Bool.or_eq_true, not_or] at hz
      cases e
      refine AutoFloatOpsIf.truediv_fi ?_
      rw [if_neg hz.1, if_neg hz.2]
      exact h.flt _ _
  · simp only [Rep] at ha hb; obtain ⟨t, rfl⟩ := ha; obtain ⟨u, rfl⟩ := hb
    split at e
    · cases e
    · rename_i hz
      simp only [Bool.or_eq_true, not_or] at hz
      cases e
      exact AutoFloatOps.truediv_if_2 hz.1 hz.2 (h.flt _ _)
  · cases e

theorem modOp_sound {a b c : PV} {va vb : Value} (e : modOp a b = some c) (ha : Rep X s.heap a va) (hb : Rep X s.heap b vb) (h : Post X s c Q) :
    wpAny (model prog w) A (binaryOp .Mod va vb) Q E s := by
  unfold modOp at e
  split at e
  · simp only [Rep] at ha hb; obtain ⟨t, rfl⟩ := ha; obtain ⟨u, rfl⟩ := hb
    split at e
    · cases e
    · cases e; exact PyProof.Rows.mod_int' (by assumption) (h.int _ _)
  · simp only [Rep] at ha hb; obtain ⟨t, rfl⟩ := ha; obtain ⟨u, rfl⟩ := hb
    split at e
    · cases e
    · rename_i hz
      cases e
      exact AutoFloatOps.mod_1 hz (h.flt _ _)
  · cases e

theorem fdivOp_sound {a b c : PV} {va vb : Value} (e : fdivOp a b = some c) (ha : Rep X s.heap a va) (hb : Rep X s.heap b vb) (h : Post X s c Q) :
    wpAny (model prog w) A (binaryOp .FloorDiv va vb) Q E s := by
  unfold fdivOp at e
  split at e
  · simp only [Rep] at ha hb; obtain ⟨t, rfl⟩ := ha; obtain ⟨u, rfl⟩ := hb
    split at e
    · rename_i hb
      cases e; exact PyProof.Rows.floordiv_int hb.1 (h.int _ _) (Or.inl (PyProof.noPylong_small (by omega)))
    · cases e
  · cases e

theorem binOp_sound {op : Operator} {a b c : PV} {va vb : Value} (hx : XOK X s.heap) (e : binOp op a b = some c) (ha : Rep X s.heap a va) (hb : Rep X s.heap b vb) (h : Post X s c Q) :
    wpAny (model prog w) A (binaryOp op va vb) Q E s := by
  unfold binOp at e
  split at e
  · exact addOp_sound hx e ha hb h
  · exact subOp_sound e ha hb h
  · exact mulOp_sound e ha hb h
  · exact divOp_sound e ha hb h
  · exact modOp_sound e ha hb h
  · exact fdivOp_sound e ha hb h
  · cases e

theorem bools_reads {h : Heap} : ∀ {ps : List PV} {vs : List Value} {bs : List Bool}, RepL X h ps vs → boolsOf ps = some bs → ReadsAll h vs (bs.map PyData.bool) []
  | [], _, _, e, f => by simp only [RepL] at e; subst e; simp [boolsOf] at f; subst f; exact .nil
  | .bool b :: ps, _, _, e, f => by
    simp only [RepL, Rep] at e
    obtain ⟨v, r, rfl, rfl, hr⟩ := e
    simp only [boolsOf, Option.map_eq_some_iff] at f
    obtain ⟨ns, hn, rfl⟩ := f
    have := ReadsAll.cons (Reads.bool (h := h) b) (bools_reads hr hn)
    simpa using this
  | .none :: _, _, _, _, f => by simp [boolsOf] at f
  | .int _ :: _, _, _, _, f => by simp [boolsOf] at f
  | .flt _ :: _, _, _, _, f => by simp [boolsOf] at f
  | .str _ :: _, _, _, _, f => by simp [boolsOf] at f
  | .tup _ :: _, _, _, _, f => by simp [boolsOf] at f
  | .list _ :: _, _, _, _, f => by simp [boolsOf] at f
  | .rng _ _ _ :: _, _, _, _, f => by simp [boolsOf] at f
  | .ref _ :: _, _, _, _, f => by simp [boolsOf] at f
  | .bltn _ :: _, _, _, _, f => by simp [boolsOf] at f
  | .typ _ :: _, _, _, _, f => by simp [boolsOf] at f
  | .mlist _ :: _, _, _, _, f => by simp [boolsOf] at f

theorem canLayAll0_bools : ∀ ns : List Bool, PyData.canLayAll0 (ns.map PyData.bool) = true
  | [] => by simp [PyData.canLayAll0]
  | n :: r => by simp [PyData.canLayAll0, PyData.canLay0, canLayAll0_bools r]
theorem depthAll_bools : ∀ ns : List Bool, PyData.depthAll (ns.map PyData.bool) ≤ 1
  | [] => by simp [PyData.depthAll]
  | n :: r => by
    have := depthAll_bools r
    simp only [List.map_cons, PyData.depthAll, PyData.depth]
    omega
theorem shaped_bools (ns : List Bool) : SeqAt.shaped (.list (ns.map PyData.bool)) = true := by
  have h1 := depthAll_bools ns
  have h2 : PyData.depth (.list (ns.map PyData.bool)) ≤ 64 := by simp only [PyData.depth]; omega
  show (PyData.canLay0 (.list (ns.map PyData.bool)) && decide (PyData.depth (.list (ns.map PyData.bool)) ≤ 64)) = true
  rw [Bool.and_eq_true]
  exact ⟨by simp only [PyData.canLay0]; exact canLayAll0_bools ns, decide_eq_true h2⟩
theorem noMix_bools : ∀ ns ms : List Bool, SeqAt.noMixAll (ns.map PyData.bool) (ms.map PyData.bool) = true
  | [], [] => by simp [SeqAt.noMixAll]
  | [], _ :: _ => by simp [SeqAt.noMixAll]
  | _ :: _, [] => by simp [SeqAt.noMixAll]
  | _ :: r, _ :: q => by simp [SeqAt.noMixAll, SeqAt.noMix, noMix_bools r q]
theorem same_bools : ∀ ns ms : List Bool, PySem.Spec.sameAll (ns.map PyData.bool) (ms.map PyData.bool) = decide (ns = ms)
  | [], [] => by simp [PySem.Spec.sameAll]
  | [], _ :: _ => by simp [PySem.Spec.sameAll]
  | _ :: _, [] => by simp [PySem.Spec.sameAll]
  | n :: r, k :: q => by
    simp only [List.map_cons, PySem.Spec.sameAll, PySem.Spec.same, same_bools r q]
    by_cases h : n = k <;> simp [h]
theorem list_reads_bools {h : Heap} {a : Addr} {ps : List PV} {vs : List Value} {bs : List Bool} (hl : h.IsList a vs.toArray) (e : RepL X h ps vs) (f : boolsOf ps = some bs) : Reads h (.ref a) (.list (bs.map PyData.bool)) [a] := by
  obtain ⟨o, ho, hc, n, hd⟩ := hl
  exact Reads.list ho hc hd (by simpa using bools_reads e f)

theorem listEq_sound {a b : List PV} {c : Bool} {x y : Addr} {vs ws : List Value} (e : listEq a b = some c) (hx : s.heap.IsList x vs.toArray) (ha : RepL X s.heap a vs) (hy : s.heap.IsList y ws.toArray) (hb : RepL X s.heap b ws)
    (hu : A.units + 64 < cLine) (h : Q (.bool c) s) : wpAny (model prog w) A (compareOp .Eq (.ref x) (.ref y)) Q E s := by
  unfold listEq at e
  split at e
  · cases e
    exact PySem.W.eq_intsK hx (ha.ints (by assumption)) hy (hb.ints (by assumption)) hu h
  · split at e
    · rename_i p q hp hq
      cases e
      exact eq_dataH_same (list_reads_bools hx ha hp) (list_reads_bools hy hb hq) (shaped_bools _) (shaped_bools _) hu (by simp only [SeqAt.noMix]; exact noMix_bools _ _) (by simp only [PySem.Spec.same]; rw [same_bools]; exact h)
    · cases e
theorem listNe_sound {a b : List PV} {c : Bool} {x y : Addr} {vs ws : List Value} (e : listEq a b = some c) (hx : s.heap.IsList x vs.toArray) (ha : RepL X s.heap a vs) (hy : s.heap.IsList y ws.toArray) (hb : RepL X s.heap b ws)
    (hu : A.units + 64 < cLine) (h : Q (.bool (!c)) s) : wpAny (model prog w) A (compareOp .NotEq (.ref x) (.ref y)) Q E s := by
  unfold listEq at e
  split at e
  · cases e
    exact PySem.W.ne_intsK hx (ha.ints (by assumption)) hy (hb.ints (by assumption)) hu h
  · split at e
    · rename_i p q hp hq
      cases e
      exact ne_dataH_same (list_reads_bools hx ha hp) (list_reads_bools hy hb hq) (shaped_bools _) (shaped_bools _) hu (by simp only [SeqAt.noMix]; exact noMix_bools _ _) (by simp only [PySem.Spec.same]; rw [same_bools]; exact h)
    · cases e

theorem any_isInt {k : Int} : ∀ {vs : List Value} {ns : List Int}, IntsAre vs ns → vs.any (fun v => match v with | .int i _ => i == k | _ => false) = ns.contains k
  | _, _, .nil => rfl
  | _, _, .cons n t h => by
    rw [List.any_cons, any_isInt h, List.contains_cons]
    congr 1
    by_cases e : n = k
    · subst e; simp
    · have e2 : ¬ k = n := fun q => e q.symm
      simp [beq_eq_false_iff_ne.mpr e, beq_eq_false_iff_ne.mpr e2]
theorem mem_ints : ∀ {vs : List Value} {ns : List Int}, IntsAre vs ns → ∀ v ∈ vs, ∃ i t, v = .int i t
  | _, _, .nil, v, hv => by cases hv
  | _, _, .cons n t h, v, hv => by
    rcases List.mem_cons.mp hv with rfl | hv
    · exact ⟨n, t, rfl⟩
    · exact mem_ints h v hv

theorem cmpPV_sound {op : CmpOp} {a b : PV} {c : Bool} {va vb : Value} (e : cmpPV op a b = some c) (ha : Rep X s.heap a va) (hb : Rep X s.heap b vb) (hu : A.units + 64 < cLine) (h : Q (.bool c) s) :
    wpAny (model prog w) A (compareOp op va vb) Q E s := by
  unfold cmpPV at e
  split at e
  · simp only [Rep] at ha hb; obtain ⟨t, rfl⟩ := ha; obtain ⟨u, rfl⟩ := hb
    unfold cmpII at e
    split at e <;> first | cases e
    · exact PyProof.Rows.lt_int h
    · exact PyProof.Rows.le_int h
    · exact PyProof.Rows.gt_int h
    · exact PyProof.Rows.ge_int h
    · exact PyProof.Rows.eq_int h
    · exact PyProof.Rows.ne_int h
  · simp only [Rep] at ha hb; obtain ⟨t, rfl⟩ := ha; obtain ⟨u, rfl⟩ := hb
    unfold cmpFF at e
    split at e <;> first | cases e
    · exact AutoFloatOps.lt_0 h
    · exact AutoFloatOps.gt_0 h
    · exact AutoFloatOps.eq_0 h
  · simp only [Rep] at ha hb; obtain ⟨t, rfl⟩ := ha; obtain ⟨u, rfl⟩ := hb
    unfold cmpFI at e
    split at e <;> first | cases e
    · exact lt_fi h
    · exact gt_fi h
    · exact eq_fi h
  · simp only [Rep] at ha hb; obtain ⟨t, rfl⟩ := ha; obtain ⟨u, rfl⟩ := hb
    unfold cmpIF at e
    split at e <;> first | cases e
    · exact lt_if h
    · exact gt_if h
    · exact eq_if h
  · simp only [Rep] at ha hb; obtain ⟨t, rfl⟩ := ha; obtain ⟨u, rfl⟩ := hb
    cases e
    exact PyProof.Rows.eq_str (by rw [show (_ == _) = decide (_ = _) from rfl] ; exact h)
  · simp only [Rep] at ha hb
    obtain ⟨r1, vs, rfl, hr1, hl, hvs⟩ := ha
    obtain ⟨r2, ws, rfl, hr2, hb, hws⟩ := hb
    exact listEq_sound e hl hvs hb hws hu h
  · simp only [Rep] at ha hb
    obtain ⟨r1, vs, rfl, hr1, hl, hvs⟩ := ha
    obtain ⟨r2, ws, rfl, hr2, hb, hws⟩ := hb
    simp only [Option.map_eq_some_iff] at e
    obtain ⟨d, e, rfl⟩ := e
    exact listNe_sound e hl hvs hb hws hu h
  · simp only [Rep] at ha hb; obtain ⟨t, rfl⟩ := ha
    obtain ⟨r2, ws, rfl, hr2, hb, hws⟩ := hb
    simp only [Option.map_eq_some_iff] at e
    obtain ⟨ns, e, rfl⟩ := e
    have hi := hws.ints e
    rename_i k l
    refine SeqAt.notIn_listAt (fun v => match v with | .int i _ => i == k | _ => false) hb (fun y hy => ?_) ?_
    · obtain ⟨i, u, rfl⟩ := mem_ints hi y (by simpa using hy)
      exact SeqAt.EqAt.int_int _ _ _ _
    · rw [show (ws.toArray.any (fun v => match v with | .int i _ => i == k | _ => false)) = ws.any (fun v => match v with | .int i _ => i == k | _ => false) from by simp, any_isInt hi]; exact h
  · cases e

end
end Mine
end

section
open PySem PyProof.Rows
set_option linter.unusedVariables false
namespace Mine

noncomputable def bestOf (op : CmpOp) : PV → List PV → Option PV
  | m, [] => some m
  | m, x :: r => (pick2 op m x).bind fun m' => bestOf op m' r

theorem num_cmp {op : CmpOp} (hop : op = .Gt ∨ op = .Lt) {a b : PV} (ha : isNum a = true) (hb : isNum b = true) : ∃ c, cmpPV op a b = some c := by
  cases a <;> simp [isNum] at ha <;> cases b <;> simp [isNum] at hb <;> rcases hop with rfl | rfl <;> exact ⟨_, rfl⟩

section
variable {prog : Program} {w : World} {A : Around} {E : Value → Shared → Prop} {s : Shared} {X : List Addr} {Q : Value → Shared → Prop}

theorem num_rep {X Y : List Addr} {h h' : Heap} {a : PV} {v : Value} (ha : isNum a = true) (e : Rep X h a v) : Rep Y h' a v := by
  cases a <;> simp [isNum] at ha <;> simpa only [Rep] using e

/-- a comparison of numbers asks nothing of the heap -/
theorem num_cmp_sound {op : CmpOp} (hop : op = .Gt ∨ op = .Lt) {a b : PV} {c : Bool} {va vb : Value} (e : cmpPV op a b = some c) (na : isNum a = true) (nb : isNum b = true) (ha : Rep X s.heap a va) (hb : Rep X s.heap b vb) (h : Q (.bool c) s) :
    wpAny (model prog w) A (richCompare op va vb) Q E s := by
  have key : wpAny (model prog w) A (compareOp op va vb) Q E s := by
    cases a <;> simp [isNum] at na <;> cases b <;> simp [isNum] at nb <;> simp only [Rep] at ha hb <;> obtain ⟨t, rfl⟩ := ha <;> obtain ⟨u, rfl⟩ := hb <;> rcases hop with rfl | rfl <;> simp only [cmpPV, cmpII, cmpFF, cmpFI, cmpIF, Option.some.injEq] at e <;> subst e
    · exact PyProof.Rows.gt_int h
    · exact PyProof.Rows.lt_int h
    · exact gt_if h
    · exact lt_if h
    · exact gt_fi h
    · exact lt_fi h
    · exact AutoFloatOps.gt_0 h
    · exact AutoFloatOps.lt_0 h
  rcases hop with rfl | rfl <;> exact key

theorem cmpOf_nums {op : CmpOp} (hop : op = .Gt ∨ op = .Lt) {l : List PV} {vs : List Value} (hr : RepL X s.heap l vs) (hn : ∀ p ∈ l, isNum p = true) :
    CmpOf prog w A op (fun i v => vs.toArray[i]? = some v) (fun i j => ((l[i]?).bind fun a => (l[j]?).bind fun b => cmpPV op a b) == some true) := by
  intro i j vi vj s' Q' E' hi hj h
  obtain ⟨p, hp, rp⟩ := hr.get' i vi (by simpa using hi)
  obtain ⟨q, hq, rq⟩ := hr.get' j vj (by simpa using hj)
  have np := hn p (List.mem_of_getElem? hp)
  have nq := hn q (List.mem_of_getElem? hq)
  obtain ⟨c, hc⟩ := num_cmp hop np nq
  refine num_cmp_sound hop hc np nq (num_rep (X := X) (Y := X) np rp) (num_rep nq rq) ?_
  have : (((l[i]?).bind fun a => (l[j]?).bind fun b => cmpPV op a b) == some true) = c := by
    rw [hp, hq]; simp only [Option.bind_some, hc]; cases c <;> rfl
  simpa only [this] using h

theorem bestOf_arg {op : CmpOp} {l : List PV} {c : PV} : ∀ (r : List PV) (k : Nat), l.drop (k + 1) = r → k < l.length → ∀ m, l[argBest (fun i j => ((l[i]?).bind fun a => (l[j]?).bind fun b => cmpPV op a b) == some true) k]? = some m → bestOf op m r = some c →
    l[argBest (fun i j => ((l[i]?).bind fun a => (l[j]?).bind fun b => cmpPV op a b) == some true) (l.length - 1)]? = some c
  | [], k, hd, hk, m, hm, e => by
    simp only [bestOf, Option.some.injEq] at e
    have : l.length - 1 = k := by
      have := congrArg List.length hd
      simp at this
      omega
    rw [this, hm, e]
  | x :: r, k, hd, hk, m, hm, e => by
    have hlen : k + 1 < l.length := by
      have := congrArg List.length hd
      simp at this
      omega
    have hx : l[k + 1]? = some x := by
      have : (l.drop (k + 1))[0]? = some x := by rw [hd]; rfl
      simpa using this
    have hd' : l.drop (k + 1 + 1) = r := by
      have : (l.drop (k + 1)).drop 1 = r := by rw [hd]; rfl
      simpa using this
    simp only [bestOf, pick2, Option.bind_eq_some_iff, Option.map_eq_some_iff] at e
    obtain ⟨m', ⟨b, hb, rfl⟩, e⟩ := e
    refine bestOf_arg r (k + 1) hd' hlen _ ?_ e
    have hc : (((l[k + 1]?).bind fun a => (l[argBest (fun i j => ((l[i]?).bind fun a => (l[j]?).bind fun b => cmpPV op a b) == some true) k]?).bind fun b => cmpPV op a b) == some true) = b := by
      rw [hx, hm]; simp only [Option.bind_some, hb]; cases b <;> rfl
    simp only [argBest]
    cases b with
    | true => rw [if_pos hc]; simpa using hx
    | false => rw [if_neg (by rw [hc]; decide)]; simpa using hm

theorem sub_of_old {h h₂ h' : Heap} {I : Addr} (hI : h.get? I = none) (s₁ : Sub h h₂) (hk : ∀ b o, b ∉ [I] → h₂.get? b = some o → h'.get? b = some o) : Sub h h' := fun b o e =>
  hk b o (fun hm => by rw [List.mem_singleton.mp hm, hI] at e; cases e) (s₁ b o e)

theorem minmax3 {op : CmpOp} {a b c r : PV} {va vb vc : Value} (id : String) (hop : (op = .Gt ∧ id = "max") ∨ (op = .Lt ∧ id = "min")) (hh : A.handled = none) (na : isNum a = true) (nb : isNum b = true) (nc : isNum c = true) (e : bestOf op a [b, c] = some r)
    (ha : Rep X s.heap a va) (hb : Rep X s.heap b vb) (hc : Rep X s.heap c vc) (h : Post X s r Q) : wpAny (model prog w) A (call (.builtin id) [va, vb, vc]) Q E s := by
  have hl : RepL X s.heap [a, b, c] [va, vb, vc] := by simp only [RepL]; exact ⟨_, _, rfl, ha, _, _, rfl, hb, _, _, rfl, hc, rfl⟩
  have hn : ∀ p ∈ [a, b, c], isNum p = true := by simp [na, nb, nc]
  have hT : (s.heap.push { cls := .type "tuple", data := .seq #[va, vb, vc] }).IsTuple s.heap.objs.size #[va, vb, vc] := ⟨_, Heap.get?_push_size _ rfl, rfl, 0, rfl⟩
  have hsz : (s.heap.push { cls := .type "tuple", data := .seq #[va, vb, vc] }).objs.size = s.heap.objs.size + 1 := Heap.size_push ..
  have key : ∀ (A' : Around), A'.handled = none → wpAny (model prog w) A' (pyIter (.ref s.heap.objs.size)) (fun it s₂ => ∃ I fp wr n P St bt, it = .ref I ∧ Walks prog w A' I fp wr n P St ∧ St 0 s₂.heap ∧ (∀ b ∈ fp, b < s₂.heap.objs.size) ∧ 0 < n ∧ CmpOf prog w A' op P bt ∧
      ∀ v h' tk, P (argBest bt (n - 1)) v → (∀ b o, b ∉ wr → s₂.heap.get? b = some o → h'.get? b = some o) → Q v { s₂ with heap := h', toks := tk }) E
      { s with heap := s.heap.push { cls := .type "tuple", data := .seq #[va, vb, vc] } } := by
    intro A' hA'
    refine wpAny_pyIter_tuple hT ?_
    refine ⟨_, [_, s.heap.objs.size], [_], _, _, _, _, rfl, Walks.tuple (A := A') hA' _ s.heap.objs.size (by rw [hsz]; exact Nat.ne_of_lt (Nat.lt_succ_self _)) #[va, vb, vc],
      ⟨⟨_, Heap.get?_push_size _ rfl, rfl, rfl⟩, hT.push _⟩, fun d hd => ?_, by simp, cmpOf_nums (hop.imp (·.1) (·.1)) hl hn, fun v h' tk hP hk => ?_⟩
    · show d < ((s.heap.push _).push _).objs.size
      rw [Heap.size_push, hsz]
      rcases List.mem_cons.mp hd with rfl | hd
      · rw [hsz]; exact Nat.lt_succ_self _
      · rcases List.mem_cons.mp hd with rfl | hd
        · exact Nat.lt_succ_of_lt (Nat.lt_succ_self _)
        · cases hd
    · have hold : Sub s.heap h' := fun d o e => by
        refine hk d o (fun hm => ?_) (Heap.get?_push_of_some _ (Heap.get?_push_of_some _ e))
        rcases List.mem_cons.mp hm with e1 | hm
        · have := Heap.lt_size e; rw [e1, hsz] at this; exact Nat.lt_irrefl _ (Nat.lt_of_succ_lt this)
        · cases hm
      have hb := bestOf_arg (op := op) (l := [a, b, c]) (c := r) [b, c] 0 rfl (by simp) a rfl e
      obtain ⟨v', hv', rv⟩ := hl.get _ r hb
      have : v = v' := by
        have h1 : [va, vb, vc][argBest (fun i j => (([a, b, c][i]?).bind fun a_1 => ([a, b, c][j]?).bind fun b_1 => cmpPV op a_1 b_1) == some true) 2]? = some v := by simpa using hP
        have h2 := hv'
        simp only [List.length_cons, List.length_nil] at h2
        rw [h1] at h2
        exact Option.some.inj h2
      subst this
      exact h v h' tk hold (rv.mono hold)
  rcases hop with ⟨rfl, rfl⟩ | ⟨rfl, rfl⟩
  · exact call_max_three (key A.in1 hh)
  · exact call_min_three (key A.in1 hh)

theorem min2 {a b : Int} {t u : Tok} (hh : A.handled = none) (h : Post X s (.int (if b < a then b else a)) Q) : wpAny (model prog w) A (call (.builtin "min") [.int a t, .int b u]) Q E s := by
  have hl : RepL X s.heap [.int a, .int b] [.int a t, .int b u] := by simp only [RepL, Rep]; exact ⟨_, _, rfl, ⟨t, rfl⟩, _, _, rfl, ⟨u, rfl⟩, rfl⟩
  have hn : ∀ p ∈ [PV.int a, PV.int b], isNum p = true := by simp [isNum]
  have hT : (s.heap.push { cls := .type "tuple", data := .seq #[.int a t, .int b u] }).IsTuple s.heap.objs.size #[.int a t, .int b u] := ⟨_, Heap.get?_push_size _ rfl, rfl, 0, rfl⟩
  have hsz : (s.heap.push { cls := .type "tuple", data := .seq #[.int a t, .int b u] }).objs.size = s.heap.objs.size + 1 := Heap.size_push ..
  refine call_min_two (wpAny_pyIter_tuple hT ?_)
  refine ⟨_, [_, s.heap.objs.size], [_], _, _, _, _, rfl, Walks.tuple (A := A.in1) hh _ s.heap.objs.size (by rw [hsz]; exact Nat.ne_of_lt (Nat.lt_succ_self _)) #[.int a t, .int b u],
      ⟨⟨_, Heap.get?_push_size _ rfl, rfl, rfl⟩, hT.push _⟩, fun d hd => ?_, by simp, cmpOf_nums (.inr rfl) hl hn, fun v h' tk hP hk => ?_⟩
  · show d < ((s.heap.push _).push _).objs.size
    rw [Heap.size_push, hsz]
    rcases List.mem_cons.mp hd with rfl | hd
    · rw [hsz]; exact Nat.lt_succ_self _
    · rcases List.mem_cons.mp hd with rfl | hd
      · exact Nat.lt_succ_of_lt (Nat.lt_succ_self _)
      · cases hd
  · have hold : Sub s.heap h' := fun d o e => by
      refine hk d o (fun hm => ?_) (Heap.get?_push_of_some _ (Heap.get?_push_of_some _ e))
      rcases List.mem_cons.mp hm with e1 | hm
      · have := Heap.lt_size e; rw [e1, hsz] at this; exact Nat.lt_irrefl _ (Nat.lt_of_succ_lt this)
      · cases hm
    have eb : bestOf .Lt (.int a) [.int b] = some (.int (if b < a then b else a)) := by
      simp only [bestOf, pick2, cmpPV, cmpII, Option.map_some, Option.bind_some, Option.some.injEq]
      by_cases hb : b < a <;> simp [hb]
    have hb := bestOf_arg (op := .Lt) (l := [.int a, .int b]) [.int b] 0 rfl (by simp) (.int a) rfl eb
    obtain ⟨v', hv', rv⟩ := hl.get _ _ hb
    have : v = v' := by
      have h2 := hv'
      simp only [List.length_cons, List.length_nil] at h2
      have h1 : [Value.int a t, Value.int b u][argBest (fun i j => (([PV.int a, PV.int b][i]?).bind fun a_1 => ([PV.int a, PV.int b][j]?).bind fun b_1 => cmpPV .Lt a_1 b_1) == some true) 1]? = some v := by simpa using hP
      rw [h1] at h2
      exact Option.some.inj h2
    subst this
    exact h v h' tk hold (rv.mono hold)

theorem bestOf_ints : ∀ (r : List PV) (ns : List Int) (m : Int), intsOf r = some ns → bestOf .Lt (.int m) r = some (.int (minInts m ns))
  | [], ns, m, e => by simp [intsOf] at e; subst e; rfl
  | .int i :: r, ns, m, e => by
    simp only [intsOf, Option.map_eq_some_iff] at e
    obtain ⟨ms, hm, rfl⟩ := e
    have : pick2 .Lt (.int m) (.int i) = some (.int (if i < m then i else m)) := by
      simp only [pick2, cmpPV, cmpII, Option.map_some, Option.some.injEq]
      by_cases hb : i < m <;> simp [hb]
    simp only [bestOf, this, Option.bind_some, minInts]
    exact bestOf_ints r ms _ hm
  | .none :: _, _, _, f => by simp [intsOf] at f
  | .bool _ :: _, _, _, f => by simp [intsOf] at f
  | .flt _ :: _, _, _, f => by simp [intsOf] at f
  | .str _ :: _, _, _, f => by simp [intsOf] at f
  | .tup _ :: _, _, _, f => by simp [intsOf] at f
  | .list _ :: _, _, _, f => by simp [intsOf] at f
  | .rng _ _ _ :: _, _, _, f => by simp [intsOf] at f
  | .ref _ :: _, _, _, f => by simp [intsOf] at f
  | .bltn _ :: _, _, _, f => by simp [intsOf] at f
  | .typ _ :: _, _, _, f => by simp [intsOf] at f
  | .mlist _ :: _, _, _, f => by simp [intsOf] at f

theorem ints_num : ∀ {l : List PV} {ns : List Int}, intsOf l = some ns → ∀ p ∈ l, isNum p = true
  | .int i :: r, ns, e, p, hp => by
    simp only [intsOf, Option.map_eq_some_iff] at e
    obtain ⟨ms, hm, rfl⟩ := e
    rcases List.mem_cons.mp hp with rfl | hp
    · rfl
    · exact ints_num hm p hp
  | [], _, _, p, hp => by cases hp
  | .none :: _, _, f, _, _ => by simp [intsOf] at f
  | .bool _ :: _, _, f, _, _ => by simp [intsOf] at f
  | .flt _ :: _, _, f, _, _ => by simp [intsOf] at f
  | .str _ :: _, _, f, _, _ => by simp [intsOf] at f
  | .tup _ :: _, _, f, _, _ => by simp [intsOf] at f
  | .list _ :: _, _, f, _, _ => by simp [intsOf] at f
  | .rng _ _ _ :: _, _, f, _, _ => by simp [intsOf] at f
  | .ref _ :: _, _, f, _, _ => by simp [intsOf] at f
  | .bltn _ :: _, _, f, _, _ => by simp [intsOf] at f
  | .typ _ :: _, _, f, _, _ => by simp [intsOf] at f
  | .mlist _ :: _, _, f, _, _ => by simp [intsOf] at f

theorem minList {l : List PV} {x : Int} {r : List Int} {v : Value} (hh : A.handled = none) (e : intsOf l = some (x :: r)) (hv : Rep X s.heap (.list l) v) (h : Post X s (.int (minInts x r)) Q) :
    wpAny (model prog w) A (call (.builtin "min") [v]) Q E s := by
  simp only [Rep] at hv
  obtain ⟨ax, vs, rfl, hx, hl, hr⟩ := hv
  have hn := ints_num e
  obtain ⟨p, l', rfl⟩ : ∃ p l', l = p :: l' := by
    cases l with
    | nil => simp [intsOf] at e
    | cons p l' => exact ⟨p, l', rfl⟩
  have hp : p = .int x ∧ intsOf l' = some r := by
    cases p <;> simp [intsOf] at e
    exact ⟨by rw [e.2], e.1⟩
  obtain ⟨rfl, e'⟩ := hp
  have hlt : ax < s.heap.objs.size := by obtain ⟨_, q, _⟩ := hl; exact Heap.lt_size q
  refine call_min_walk (wpAny_pyIter_list hl ?_)
  refine ⟨_, [s.heap.objs.size, ax], [s.heap.objs.size], _, _, _, _, rfl, Walks.list (A := A.in1) hh s.heap.objs.size ax (Nat.ne_of_lt hlt) vs.toArray,
      ⟨⟨_, Heap.get?_push_size _ rfl, rfl, rfl⟩, hl.push _⟩, fun d hd => ?_, ?_, cmpOf_nums (.inr rfl) hr hn, fun v h' tk hP hk => ?_⟩
  · show d < (s.heap.push _).objs.size
    rw [Heap.size_push]
    rcases List.mem_cons.mp hd with rfl | hd
    · exact Nat.lt_succ_self _
    · rw [List.mem_singleton.mp hd]; exact Nat.lt_succ_of_lt hlt
  · have := hr.length; simp at this ⊢; omega
  · have hold : Sub s.heap h' := sub_of_old (get_size_none _) (Sub.push _ _) hk
    have hb := bestOf_arg (op := .Lt) (l := .int x :: l') l' 0 rfl (by simp) (.int x) rfl (bestOf_ints l' r x e')
    obtain ⟨v', hv', rv⟩ := hr.get _ _ hb
    have hlen := hr.length
    have : v = v' := by
      have h1 := hP
      simp only [List.size_toArray, hlen] at h1
      have h3 : vs[argBest (fun i j => (((PV.int x :: l')[i]?).bind fun a_1 => ((PV.int x :: l')[j]?).bind fun b_1 => cmpPV .Lt a_1 b_1) == some true) ((PV.int x :: l').length - 1)]? = some v := by simpa using h1
      rw [h3] at hv'
      exact Option.some.inj hv'
    subst this
    exact h v h' tk hold (rv.mono hold)
end
end Mine
end

section
open PySem PyProof.Rows
set_option linter.unusedVariables false
namespace Mine
section
variable {prog : Program} {w : World} {A : Around} {E : Value → Shared → Prop} {s : Shared} {X : List Addr} {Q : Value → Shared → Prop}

theorem rep1 {p : PV} {vs : List Value} (h : RepL X s.heap [p] vs) : ∃ v, vs = [v] ∧ Rep X s.heap p v := by
  simp only [RepL] at h; obtain ⟨v, r, rfl, hv, rfl⟩ := h; exact ⟨v, rfl, hv⟩
theorem rep2 {p q : PV} {vs : List Value} (h : RepL X s.heap [p, q] vs) : ∃ v u, vs = [v, u] ∧ Rep X s.heap p v ∧ Rep X s.heap q u := by
  simp only [RepL] at h; obtain ⟨v, r, rfl, hv, u, r2, rfl, hu, rfl⟩ := h; exact ⟨v, u, rfl, hv, hu⟩
theorem rep3 {p q z : PV} {vs : List Value} (h : RepL X s.heap [p, q, z] vs) : ∃ v u y, vs = [v, u, y] ∧ Rep X s.heap p v ∧ Rep X s.heap q u ∧ Rep X s.heap z y := by
  simp only [RepL] at h; obtain ⟨v, r, rfl, hv, u, r2, rfl, hu, y, r3, rfl, hy, rfl⟩ := h; exact ⟨v, u, y, rfl, hv, hu, hy⟩

theorem only1_of {f : PV → Option PV} {ps : List PV} {r : PV} (e : only1 f ps = some r) : ∃ p, ps = [p] ∧ f p = some r := by
  cases ps with
  | nil => exact no_some e
  | cons p l => cases l with
    | nil => exact ⟨p, rfl, e⟩
    | cons _ _ => exact no_some e
theorem three_of {f : PV → PV → PV → Option PV} {ps : List PV} {r : PV} {g : List PV → Option PV} (h0 : g [] = Option.none) (h1 : ∀ a, g [a] = Option.none) (h2 : ∀ a b, g [a, b] = Option.none) (h3 : ∀ a b c, g [a, b, c] = f a b c)
    (h4 : ∀ a b c d l, g (a :: b :: c :: d :: l) = Option.none) (e : g ps = some r) : ∃ a b c, ps = [a, b, c] ∧ f a b c = some r := by
  cases ps with
  | nil => exact no_some (h0 ▸ e)
  | cons a l => cases l with
    | nil => exact no_some ((h1 a) ▸ e)
    | cons b l => cases l with
      | nil => exact no_some ((h2 a b) ▸ e)
      | cons c l => cases l with
        | nil => exact ⟨a, b, c, rfl, (h3 a b c) ▸ e⟩
        | cons d l => exact no_some ((h4 a b c d l) ▸ e)
theorem max_sound {ps : List PV} {r : PV} {vs : List Value} (hh : A.handled = none) (e : bMax ps = some r) (hr : RepL X s.heap ps vs) (h : Post X s r Q) :
    wpAny (model prog w) A (call (.builtin "max") vs) Q E s := by
  obtain ⟨a, b, c, rfl, e⟩ := three_of (g := bMax) rfl (fun _ => rfl) (fun _ _ => rfl) (fun _ _ _ => rfl) (fun _ _ _ _ _ => rfl) e
  obtain ⟨va, vb, vc, rfl, ha, hb, hc⟩ := rep3 hr
  have e : (if isNum a && isNum b && isNum c then (pick2 .Gt a b).bind fun m => pick2 .Gt m c else Option.none) = some r := e
  split at e
  · rename_i hn
    simp only [Bool.and_eq_true] at hn
    exact minmax3 "max" (.inl ⟨rfl, rfl⟩) hh hn.1.1 hn.1.2 hn.2 (by simpa [bestOf] using e) ha hb hc h
  · cases e
theorem min_sound {ps : List PV} {r : PV} {vs : List Value} (hh : A.handled = none) (e : bMin ps = some r) (hr : RepL X s.heap ps vs) (h : Post X s r Q) :
    wpAny (model prog w) A (call (.builtin "min") vs) Q E s := by
  cases ps with
  | nil => exact no_some e
  | cons a l => cases l with
    | nil =>
      obtain ⟨va, rfl, ha⟩ := rep1 hr
      have e : bMin1 a = some r := e
      cases a <;> try exact no_some e
      have e : bMinL _ = some r := e
      unfold bMinL at e
      split at e
      · split at e
        · cases e; exact minList hh (by assumption) ha h
        · cases e
      · cases e
    | cons b l => cases l with
      | nil =>
        obtain ⟨va, vb, rfl, ha, hb⟩ := rep2 hr
        have e : bMin2 a b = some r := e
        cases a <;> try exact no_some e
        cases b <;> try exact no_some e
        simp only [Rep] at ha hb; obtain ⟨t, rfl⟩ := ha; obtain ⟨u, rfl⟩ := hb
        cases e
        exact min2 hh h
      | cons c l => cases l with
        | nil =>
          obtain ⟨va, vb, vc, rfl, ha, hb, hc⟩ := rep3 hr
          have e : (if isNum a && isNum b && isNum c then (pick2 .Lt a b).bind fun m => pick2 .Lt m c else Option.none) = some r := e
          split at e
          · rename_i hn
            simp only [Bool.and_eq_true] at hn
            exact minmax3 "min" (.inr ⟨rfl, rfl⟩) hh hn.1.1 hn.1.2 hn.2 (by simpa [bestOf] using e) ha hb hc h
          · cases e
        | cons d l => exact no_some e
theorem len_sound {p r : PV} {v : Value} (e : bLen1 p = some r) (ha : Rep X s.heap p v) (h : Post X s r Q) : wpAny (model prog w) A (call (.builtin "len") [v]) Q E s := by
  cases p <;> try exact no_some e
  · rename_i x
    have e : (if x.length ≤ 1000 then some (PV.int x.length) else Option.none) = some r := e
    simp only [Rep] at ha
    obtain ⟨t, rfl⟩ := ha
    split at e
    · cases e
      exact PyProof.Rows.len_str (by omega) (h.int _ _)
    · cases e
  · rename_i x
    have e : (if x.length ≤ 1000 then some (PV.int x.length) else Option.none) = some r := e
    simp only [Rep] at ha
    obtain ⟨a, vs, rfl, hx, hl, hvs⟩ := ha
    split at e
    · cases e
      have e1 := hvs.length
      rw [← List.size_toArray] at e1
      refine Calls.call_len_list hl (by rw [e1]; omega) ?_
      rw [e1]
      exact h.int _ _
    · cases e
theorem sum_sound {p r : PV} {v : Value} (hh : A.handled = none) (e : bSum1 p = some r) (ha : Rep X s.heap p v) (h : Post X s r Q) : wpAny (model prog w) A (call (.builtin "sum") [v]) Q E s := by
  cases p <;> try exact no_some e
  rename_i l
  have e : (match intsOf l with | some ns => if l.length ≤ 1000 then some (PV.int ns.sum) else Option.none | _ => Option.none) = some r := e
  simp only [Rep] at ha
  obtain ⟨a, vs, rfl, hx, hl, hvs⟩ := ha
  cases hns : intsOf l with
  | none => rw [hns] at e; exact no_some e
  | some ns =>
    rw [hns] at e
    have e : (if l.length ≤ 1000 then some (PV.int ns.sum) else Option.none) = some r := e
    split at e
    · cases e
      have hi := hvs.ints hns
      obtain ⟨xs, hxs⟩ := hi.allInts.items
      have hq : ns.sum = preSum (numAt xs) xs.size := by
        have h1 := hi.numsOf
        have h2 : vs = (intItems xs).toList := by rw [← hxs]
        rw [h2, nums_intItems] at h1
        rw [preSum_eq, List.take_of_length_le (by simp), h1]
      rw [hxs] at hl
      refine sum_intListG hh hl fun h' tk t' hk => ?_
      rw [← hq]
      exact h _ h' tk hk (by simp only [Rep]; exact ⟨t', rfl⟩)
    · cases e
theorem abs_sound {p r : PV} {v : Value} (e : bAbs1 p = some r) (ha : Rep X s.heap p v) (h : Post X s r Q) : wpAny (model prog w) A (call (.builtin "abs") [v]) Q E s := by
  cases p <;> try exact no_some e
  simp only [Rep] at ha
  obtain ⟨t, rfl⟩ := ha
  cases e
  exact PyProof.Rows.call_abs_int fun u tk => h.int _ _
theorem callB_sound {id : String} {ps : List PV} {r : PV} {vs : List Value} (hh : A.handled = none) (e : callB id ps = some r) (hr : RepL X s.heap ps vs) (h : Post X s r Q) :
    wpAny (model prog w) A (call (.builtin id) vs) Q E s := by
  unfold callB at e
  split at e
  · rename_i q; subst q; exact max_sound hh e hr h
  split at e
  · rename_i q; subst q; exact min_sound hh e hr h
  split at e
  · rename_i q; subst q
    obtain ⟨p, rfl, e⟩ := only1_of e
    obtain ⟨va, rfl, ha⟩ := rep1 hr
    exact len_sound e ha h
  split at e
  · rename_i q; subst q
    obtain ⟨p, rfl, e⟩ := only1_of e
    obtain ⟨va, rfl, ha⟩ := rep1 hr
    exact sum_sound hh e ha h
  split at e
  · rename_i q; subst q
    obtain ⟨p, rfl, e⟩ := only1_of e
    obtain ⟨va, rfl, ha⟩ := rep1 hr
    exact abs_sound e ha h
  · cases e

theorem items_ints {a c : Int} {n : Nat} {acc : Array Value} (hi : ItemsOf (fun i v => ∃ t, v = Value.int (a + i * c) t) acc n) {h : Heap} : RepL X h ((rangeInts a c n).map PV.int) acc.toList := by
  obtain ⟨hs, hp⟩ := hi
  have key : ∀ (k : Nat) (l : List Value) (b : Nat), l.length = k → (∀ j v, l[j]? = some v → ∃ t, v = Value.int (a + ((b + j : Nat) : Int) * c) t) → RepL X h ((List.range' b k).map fun i => PV.int (a + (i : Nat) * c)) l := by
    intro k
    induction k with
    | zero => intro l b hl _; have : l = [] := List.eq_nil_of_length_eq_zero hl; subst this; simp [RepL]
    | succ k ih =>
      intro l b hl hv
      cases l with
      | nil => simp at hl
      | cons v l =>
        simp only [List.range'_succ, List.map_cons, RepL, Rep]
        refine ⟨v, l, rfl, ?_, ih l (b + 1) (by simpa using hl) fun j v hj => ?_⟩
        · obtain ⟨t, ht⟩ := hv 0 v rfl; exact ⟨t, by simpa using ht⟩
        · obtain ⟨t, ht⟩ := hv (j + 1) v (by simpa using hj)
          exact ⟨t, by rw [ht]; congr 3; omega⟩
  have := key n acc.toList 0 (by simpa using hs) fun j v hj => by
    obtain ⟨t, ht⟩ := hp j v (by simpa using hj)
    exact ⟨t, by rw [ht]; simp⟩
  rw [← List.range_eq_range'] at this
  simpa [rangeInts, List.map_map, Function.comp_def] using this

theorem int_sound {p r : PV} {v : Value} (e : tInt1 p = some r) (ha : Rep X s.heap p v) (h : Post X s r Q) : wpAny (model prog w) A (call (.type "int") [v]) Q E s := by
  cases p <;> try exact no_some e
  · cases e
    simp only [Rep] at ha; obtain ⟨t, rfl⟩ := ha
    exact call_int_int (h.same (by simp only [Rep]; exact ⟨t, rfl⟩))
  · rename_i x
    simp only [Rep] at ha; obtain ⟨t, rfl⟩ := ha
    have e : (match Float64.decode x with | .fin sg m e => some (PV.int (Float64.truncOf sg m e)) | _ => Option.none) = some r := e
    split at e
    · cases e; exact call_int_float (by assumption) (h.int _ _)
    · cases e
theorem range_sound {ns : List Int} {vs : List Value} {r : PV} (hx : XOK X s.heap) (e : tRangeI ns = some r) (hi : IntsAre vs ns) (h : Post X s r Q) : wpAny (model prog w) A (call (.type "range") vs) Q E s := by
  have hX := hx.new (get_size_none s.heap)
  cases hi with
  | nil => exact no_some e
  | cons a ta hi => cases hi with
    | nil =>
      cases e
      exact call_range_1 (h _ _ _ (Sub.push _ _) (by simp only [Rep]; exact ⟨_, _, _, _, rfl, hX, IsRange.new ..⟩))
    | cons b tb hi => cases hi with
      | nil =>
        cases e
        exact call_range_2 (h _ _ _ (Sub.push _ _) (by simp only [Rep]; exact ⟨_, _, _, _, rfl, hX, IsRange.new ..⟩))
      | cons c tc hi => cases hi with
        | nil =>
          have e : (if c ≠ 0 ∧ c.natAbs < 1000000 then some (PV.rng a b c) else Option.none) = some r := e
          split at e
          · rename_i hc
            cases e
            exact call_range_3 hc.1 (h _ _ _ (Sub.push _ _) (by simp only [Rep]; exact ⟨_, _, _, _, rfl, hX, IsRange.new ..⟩)) (Or.inl (PyProof.noPylong_small (by omega)))
          · cases e
        | cons d td hi => exact no_some e
theorem list_sound {p r : PV} {v : Value} (hx : XOK X s.heap) (hh : A.handled = none) (e : tList1 p = some r) (ha : Rep X s.heap p v) (h : Post X s r Q) : wpAny (model prog w) A (call (.type "list") [v]) Q E s := by
  have hX := hx.new (get_size_none s.heap)
  cases p <;> try exact no_some e
  rename_i a b c
  have e : (if Builtin.Range.small a b c = true ∧ (rangeL a b c).length ≤ 1000 then some (PV.list ((rangeL a b c).map .int)) else Option.none) = some r := e
  simp only [Rep] at ha
  obtain ⟨q, t, u, y, rfl, hq, hrng⟩ := ha
  split at e
  · rename_i hs
    cases e
    have hn := hs.2
    unfold rangeL at hn
    rw [rangeInts_length] at hn
    refine call_list_range hh hrng hs.1 (rangeSize_toNat _ _ _) (by omega) fun h' tk acc' c' hk hg hi => ?_
    refine h _ h' tk hk ?_
    simp only [Rep]
    exact ⟨_, acc'.toList, rfl, hX, ⟨_, hg, rfl, c', by simp⟩, items_ints hi⟩
  · cases e
theorem callT_sound {id : String} {ps : List PV} {r : PV} {vs : List Value} (hx : XOK X s.heap) (hh : A.handled = none) (e : callT id ps = some r) (hr : RepL X s.heap ps vs) (h : Post X s r Q) :
    wpAny (model prog w) A (call (.type id) vs) Q E s := by
  unfold callT at e
  split at e
  · rename_i q; subst q
    obtain ⟨p, rfl, e⟩ := only1_of e
    obtain ⟨va, rfl, ha⟩ := rep1 hr
    exact int_sound e ha h
  split at e
  · rename_i q; subst q
    obtain ⟨ns, hi, e⟩ := Option.bind_eq_some_iff.mp e
    exact range_sound hx e (hr.ints hi) h
  split at e
  · rename_i q; subst q
    obtain ⟨p, rfl, e⟩ := only1_of e
    obtain ⟨va, rfl, ha⟩ := rep1 hr
    exact list_sound hx hh e ha h
  · cases e
end
end Mine
end

section
open PySem PyProof.Rows
set_option linter.unusedVariables false
namespace Mine

structure Room (A : Around) (d : Nat) : Prop where
  handled : A.handled = none
  depth : A.depth + d < recursionLimit
  units : A.units + 100 * d + 100 < cLine

/-- a call of the def at a gives r -/
noncomputable def CallOK (prog : Program) (w : World) (B : Heap) (d : Nat) (a : Addr) (ps : List PV) (r : PV) : Prop :=
  ∀ (A : Around) (s : Shared) (X : List Addr) (vs : List Value) (Q E : Value → Shared → Prop), Room A d → Sub B s.heap → XOK X s.heap → (∀ a ∈ X, B.get? a = none) → RepL X s.heap ps vs → Post X s r Q →
    wpAny (model prog w) A (call (.ref a) vs) Q E s

structure GlOK (prog : Program) (w : World) (G : Gl) (B : Heap) (d : Nat) : Prop where
  glob : ∀ x pv, G.glob x = some pv → ∀ (env : Env) (A : Around) (s : Shared) (X : List Addr) (Q E : Value → Shared → Prop), Sub B s.heap → env.scope.kind = .function → env.globals = mainGlobals → env.builtins = builtinsNs →
    env.kindOf x = some .globalImplicit → (∀ v, Rep X s.heap pv v → Q v s) → wpAny (model prog w) A (loadName env x) Q E s
  call : ∀ a ps r, G.call a ps = some r → CallOK prog w B d a ps r
  fn : ∀ a ps r, G.call a ps = some r → ∃ o fd, B.get? a = some o ∧ o.data = .func fd
  item : ∀ a x pv, G.item a x = some pv → ∀ (A : Around) (s : Shared) (X : List Addr) (Q E : Value → Shared → Prop) (t : Tok), Sub B s.heap → s.TypeIs (.ref a) "dict" ∧
    ((∀ v tk, Rep X s.heap pv v → Q v { s with toks := tk }) → wpAny (model prog w) A (getItem (.ref a) (.str x t)) Q E s)

section
variable {prog : Program} {w : World} {A : Around} {E : Value → Shared → Prop} {s : Shared} {X : List Addr} {Q : Value → Shared → Prop} {G : Gl} {B : Heap} {d : Nat}

theorem subscripted_plain {i : Expr} (hi : isSlice i = false) (o k : Value) : subscripted i false o k = operate [o, k] (getItem o k) := by
  cases i <;> first | rfl | simp [isSlice] at hi

theorem item_sound {value slice : Expr} {a k r : PV} {o i : Value} (GO : GlOK prog w G B d) (hB : Sub B s.heap) (hs : isSlice slice = false) (e : itemPV G a k = some r) (ha : Rep X s.heap a o) (hk : Rep X s.heap k i) (h : Post X s r Q) :
    wpAny (model prog w) A (subscriptTail value slice o i) Q E s := by
  unfold itemPV at e
  split at e
  · simp only [Rep] at ha hk
    obtain ⟨l, vs, rfl, hx, hl, hvs⟩ := ha
    obtain ⟨t, rfl⟩ := hk
    split at e
    · rename_i hb
      obtain ⟨v, hv, rv⟩ := hvs.get _ _ e
      exact tail_any hl.typeIs slot_list_getitem.lookup (wpAny_getItem_list hl hb.1 (by omega) (by simpa using hv) (h.same rv)) (subscripted_plain hs _ _)
    · cases e
  · simp only [Rep] at ha hk
    obtain ⟨l, vs, rfl, hx, hl, hvs⟩ := ha
    obtain ⟨t, rfl⟩ := hk
    split at e
    · rename_i hb
      simp only [Option.bind_eq_some_iff] at e
      obtain ⟨j, hj, e⟩ := e
      obtain ⟨v, hv, rv⟩ := hvs.get _ _ e
      exact tail_any hl.typeIs F.slot_tuple_getitem.lookup (PyProof.Rows.getItem_tuple hl (by omega) (by omega) (by rw [List.size_toArray, hvs.length]; exact hj) (by simpa using hv) (h.same rv)) (subscripted_plain hs _ _)
    · cases e
  · simp only [Rep] at ha hk
    obtain ⟨t, rfl⟩ := ha
    obtain ⟨u, rfl⟩ := hk
    split at e
    · rename_i hb
      simp only [Option.map_eq_some_iff] at e
      obtain ⟨c, hc, rfl⟩ := e
      exact tail_any (typeIs_str _ _ _) F.slot_str_getitem.lookup (PyProof.Rows.getItem_str (by simp only [Bool.or_eq_false_iff, decide_eq_false_iff_not]; constructor <;> omega) hc (h.str _ _)) (subscripted_plain hs _ _)
    · cases e
  · simp only [Rep] at ha hk
    subst ha
    obtain ⟨u, rfl⟩ := hk
    have := GO.item _ _ _ e A s X Q E u hB
    exact tail_any this.1 F.slot_dict_getitem.lookup (this.2 fun v tk hv => h v s.heap tk (.refl _) hv) (subscripted_plain hs _ _)
  · cases e

theorem lowerA_sound {x : Str} {r : PV} {t : Tok} {pos : Pos} (e : lowerA x = some r) (h : Post X s r Q) : MethodOnS prog w A E "lower" (.str x t) pos [] Q s := by
  unfold lowerA at e
  split at e
  · rename_i hb
    cases e
    simp only [Bool.and_eq_true, decide_eq_true_eq] at hb
    refine SBL.lower (by omega) fun _ => ?_
    rw [lower_ascii (fun c hc => ?_)]
    · exact h.str _ _
    · have := hb.1
      simp only [Array.all_eq_true, decide_eq_true_eq] at this
      obtain ⟨i, hi, rfl⟩ := List.mem_iff_getElem.mp hc
      simpa using this i (by simpa using hi)
  · cases e

theorem isPart_of {p : PV} {k : Option Int} {v : Value} (e : partOf (some p) = some k) (hp : Rep X s.heap p v) : IsPart v k := by
  unfold partOf at e
  split at e
  · rename_i q; cases q
  · rename_i q; cases q; cases e; simp only [Rep] at hp; subst hp; exact .none
  · rename_i q; cases q; cases e; simp only [Rep] at hp; obtain ⟨t, rfl⟩ := hp; exact .int _ t
  · cases e

theorem partValue_of {v : Value} {k : Option Int} (h : IsPart v k) : ∃ q : Option (Int × Tok), v = partValue q ∧ q.map (·.1) = k := by
  cases h with
  | none => exact ⟨none, rfl, rfl⟩
  | int i t => exact ⟨some (i, t), rfl, rfl⟩

theorem slice_sound {value : Expr} {lo hi st : Option Expr} {p : Pos} {a r : PV} {o vl vu vs : Value} {l u k : Option Int} (hX : XOK X s.heap) (e : slicePV a l u k = some r) (ha : Rep X s.heap a o) (pl : IsPart vl l) (pu : IsPart vu u) (ps : IsPart vs k)
    (hst : st = none → vs = .none) (h : Post X s r Q) :
    wpAny (model prog w) A (subscriptTail value (.Slice lo hi st p) o (.ref s.heap.objs.size)) Q E { s with heap := s.heap.push { cls := .type "slice", data := .fields #[vl, vu, vs] } } := by
  have hsub : ∀ (o i : Value), ∃ ops, subscripted (.Slice lo hi st p) false o i = operate ops (getItem o i) := by
    intro o i; cases st with
    | none => exact ⟨[i, o], rfl⟩
    | some st => exact ⟨[o, i], rfl⟩
  cases a with
  | list l0 =>
    simp only [slicePV] at e
    simp only [Rep] at ha
    obtain ⟨q, ws, rfl, hx, hl, hvs⟩ := ha
    split at e
    · rename_i hc
      cases e
      obtain ⟨ops, hop⟩ := hsub (.ref q) (.ref s.heap.objs.size)
      refine tail_any (ops := ops) (s := { s with heap := s.heap.push { cls := .type "slice", data := .fields #[vl, vu, vs] } }) (hl.push _).typeIs slot_list_getitem.lookup (wpAny_getItem_list_slice (hl.push _) (Heap.IsSliceOf.new ..) pl pu ps hc.1 ?_ (by rw [List.size_toArray, hvs.length]; exact Nat.le_trans hc.2 (by decide))) hop
      have e1 : slicePick ws.toArray l u k = ((sliceRange (sliceBounds l u k ws.length).1 (sliceBounds l u k ws.length).2.1 (sliceBounds l u k ws.length).2.2).filterMap (ws[·]?)).toArray := by
        unfold slicePick; simp
      rw [e1, hvs.length]
      refine h _ _ s.toks ((Sub.push _ _).trans (Sub.push _ _)) ?_
      simp only [Rep]
      refine ⟨_, _, rfl, fun hm => ?_, ⟨_, Heap.get?_push_size _ rfl, rfl, _, rfl⟩, (hvs.pick _).mono ((Sub.push _ _).trans (Sub.push _ _))⟩
      obtain ⟨o', ho', _⟩ := hX _ hm
      have h2 : (s.heap.push { cls := .type "slice", data := .fields #[vl, vu, vs] }).objs.size < s.heap.objs.size := Heap.lt_size ho'
      rw [Heap.size_push] at h2
      omega
    · cases e
  | str x =>
    cases k with
    | some _ => simp [slicePV] at e
    | none =>
    simp only [slicePV] at e
    simp only [Rep] at ha
    obtain ⟨t, rfl⟩ := ha
    split at e
    · rename_i hlen
      cases e
      obtain ⟨ops, hop⟩ := hsub (.str x t) (.ref s.heap.objs.size)
      obtain ⟨ql, rfl, el⟩ := partValue_of pl
      obtain ⟨qu, rfl, eu⟩ := partValue_of pu
      obtain ⟨qs, rfl, es⟩ := partValue_of ps
      have : qs = none := by cases qs <;> simp at es ⊢
      subst this
      refine tail_any (ops := ops) (s := { s with heap := s.heap.push { cls := .type "slice", data := .fields #[partValue ql, partValue qu, partValue none] } }) (typeIs_str _ _ _) F.slot_str_getitem.lookup (wpAny_getItem_str_slice (l := ql) (u := qu) (st := none) ⟨_, Heap.get?_push_size _ rfl, rfl, rfl⟩ rfl ?_) hop
      have e2 : slicePicked x ql qu none = Builtin.Str.strSliceIndices l u 1 x.length := by unfold slicePicked; rw [el, eu]; rfl
      have e3 : sliceMade x t ql qu none = if ((Builtin.Str.strSliceIndices l u 1 x.length).length == x.length) = true then .val (.str x t) else .str ⟨((Builtin.Str.strSliceIndices l u 1 x.length).filterMap (x.cps[·]?)).toArray⟩ := by
        unfold sliceMade; rw [e2]; rfl
      rw [e3]
      have hle : (Builtin.Str.strSliceIndices l u 1 x.length).length ≤ x.length := by
        unfold Builtin.Str.strSliceIndices
        refine sliceRange_length_le _ _ _ _ (fun _ => ?_) (fun q => absurd (by decide) q)
        dsimp only
        constructor
        · cases l <;> simp <;> omega
        · cases u <;> simp <;> omega
      split
      · rename_i hw
        rw [if_pos hw] at h
        exact h _ _ s.toks (Sub.push _ _) (by simp only [Rep]; exact ⟨t, rfl⟩)
      · rename_i hw
        rw [if_neg hw] at h
        exact ⟨by
          refine Nat.le_trans (?_ : _ ≤ x.length) (Nat.le_trans hlen (by decide))
          show (List.toArray _).size ≤ _
          rw [List.size_toArray]
          exact Nat.le_trans (List.length_filterMap_le _ _) hle, h _ _ _ (Sub.push _ _) (by simp only [Rep]; exact ⟨_, rfl⟩)⟩
    · cases e
  | none => simp [slicePV] at e
  | bool _ => simp [slicePV] at e
  | int _ => simp [slicePV] at e
  | flt _ => simp [slicePV] at e
  | tup _ => simp [slicePV] at e
  | rng _ _ _ => simp [slicePV] at e
  | ref _ => simp [slicePV] at e
  | bltn _ => simp [slicePV] at e
  | typ _ => simp [slicePV] at e
  | mlist _ => simp [slicePV] at e
end
end Mine
end

section
open PySem PyProof.Rows
set_option linter.unusedVariables false
namespace Mine

/-- a plain list -/
noncomputable def Own (h : Heap) (r : Addr) (vs : List Value) : Prop := ∃ n, h.get? r = some { cls := .type "list", dict := none, data := .seq (List.toArray vs) n, slots := #[] }
theorem Own.isList {h : Heap} {r : Addr} {vs : List Value} (o : Own h r vs) : h.IsList r (List.toArray vs) := let ⟨n, e⟩ := o; ⟨_, e, rfl, n, rfl⟩
theorem Own.at {h h' : Heap} {r : Addr} {vs : List Value} (o : Own h r vs) (e : ∀ o, h.get? r = some o → h'.get? r = some o) : Own h' r vs := let ⟨n, q⟩ := o; ⟨n, e _ q⟩

/-- a value, or a list of the frame's own -/
noncomputable def RepM (X : List Addr) (h : Heap) (p : PV) (v : Value) : Prop :=
  match p with
  | .mlist l => ∃ r vs, v = .ref r ∧ r ∈ X ∧ Own h r vs ∧ RepL X h l vs
  | p => Rep X h p v
theorem RepM.of {X : List Addr} {h : Heap} {p : PV} {v : Value} (e : Rep X h p v) : RepM X h p v := by
  cases p <;> first | exact e | (simp only [Rep] at e)

structure EnvOK (X : List Addr) (h : Heap) (env : Env) (ρ : Rho) : Prop where
  kind : env.scope.kind = .function
  glob : env.globals = mainGlobals
  blt : env.builtins = builtinsNs
  loc : env.locals ∈ X
  ns : ∃ m, h.Ns env.locals m ∧ (∀ x pv, env.kindOf x = some .local → ρ x = some pv → ∃ v, m x = some v ∧ RepM X h pv v) ∧
    (∀ x y l l', env.kindOf x = some .local → env.kindOf y = some .local → ρ x = some (.mlist l) → ρ y = some (.mlist l') → m x = m y → x = y)
  cell : ∀ x, env.kindOf x = some .cell → ∃ c v, env.cells.lookup x = some c ∧ c ∈ X ∧ h.IsCell c v ∧ ∀ pv, ρ x = some pv → ∃ v', v = some v' ∧ Rep X h pv v'
  inj : ∀ x y c, env.cells.lookup x = some c → env.cells.lookup y = some c → x = y

theorem isList_ne_ns {h : Heap} {r L : Addr} {its : Array Value} {m : Str → Option Value} (a : h.IsList r its) (b : h.Ns L m) : r ≠ L := by
  rintro rfl
  obtain ⟨o, ho, _, n, hd⟩ := a
  obtain ⟨o', es, ep, ho', hd', _⟩ := b
  rw [ho] at ho'; cases ho'; rw [hd] at hd'; cases hd'
theorem isCell_ne_ns {h : Heap} {r L : Addr} {v : Option Value} {m : Str → Option Value} (a : h.IsCell r v) (b : h.Ns L m) : r ≠ L := by
  rintro rfl
  obtain ⟨o, ho, hd⟩ := a
  obtain ⟨o', es, ep, ho', hd', _⟩ := b
  rw [ho] at ho'; cases ho'; rw [hd] at hd'; cases hd'
theorem isList_ne_cell {h : Heap} {r c : Addr} {its : Array Value} {v : Option Value} (a : h.IsList r its) (b : h.IsCell c v) : r ≠ c := by
  rintro rfl
  obtain ⟨o, ho, _, n, hd⟩ := a
  obtain ⟨o', ho', hd'⟩ := b
  rw [ho] at ho'; cases ho'; rw [hd] at hd'; cases hd'

theorem RepM.go {X Y : List Addr} {h h' : Heap} {p : PV} {v : Value} (g : Goes X h Y h') (hs : ∀ a ∈ X, a ∈ Y) (hl : ∀ r vs, v = .ref r → r ∈ X → Own h r vs → Own h' r vs) (e : RepM X h p v) : RepM Y h' p v := by
  cases p <;> try exact Rep.go g _ _ e
  simp only [RepM] at e ⊢
  obtain ⟨r, vs, rfl, hr, hi, hv⟩ := e
  exact ⟨r, vs, rfl, hs r hr, hl r vs rfl hr hi, RepL.go g _ _ hv⟩

theorem EnvOK.mono {X : List Addr} {h h' : Heap} {env : Env} {ρ : Rho} (e : EnvOK X h env ρ) (s : Sub h h') : EnvOK X h' env ρ where
  kind := e.kind
  glob := e.glob
  blt := e.blt
  loc := e.loc
  ns := by
    obtain ⟨m, hn, hm, hu⟩ := e.ns
    refine ⟨m, hn.keeps s, fun x pv hk hx => ?_, hu⟩
    obtain ⟨v, hv, hr⟩ := hm x pv hk hx
    exact ⟨v, hv, RepM.go (.sub s) (fun _ q => q) (fun r vs _ _ hi => hi.at fun o e => s _ _ e) hr⟩
  cell := fun x hk => by
    obtain ⟨c, v, hc, hX, hi, hp⟩ := e.cell x hk
    refine ⟨c, v, hc, hX, hi.keeps s, fun pv hx => ?_⟩
    obtain ⟨v', hv, hr⟩ := hp pv hx
    exact ⟨v', hv, hr.mono s⟩
  inj := e.inj

section
variable {prog : Program} {w : World} {A : Around} {E : Value → Shared → Prop} {s : Shared} {X : List Addr} {Q : Value → Shared → Prop} {G : Gl} {B : Heap} {d : Nat} {env : Env} {ρ : Rho} {sc : Sc}

theorem nameV_sound {x : Str} {pv : PV} (GO : GlOK prog w G B d) (hB : Sub B s.heap) (hsc : env.scope.names = sc) (EO : EnvOK X s.heap env ρ) (e : nameV G sc ρ x = some pv) (h : ∀ v, Rep X s.heap pv v → Q v s) :
    wpAny (model prog w) A (loadName env x) Q E s := by
  subst hsc
  unfold nameV at e
  split at e
  · rename_i hk
    obtain ⟨m, hn, hm, _⟩ := EO.ns
    have he : ρ x = some pv ∧ ∀ l, pv ≠ .mlist l := by
      split at e
      · cases e
      · rename_i hne; exact ⟨e, fun l q => hne l (by rw [e, q])⟩
    obtain ⟨v, hv, hr⟩ := hm x pv hk he.1
    refine wpAny_loadName_local EO.kind hk hn hv (h v ?_)
    cases pv <;> first | exact hr | exact absurd rfl (he.2 _)
  · rename_i hk
    have he : ρ x = some pv := by
      split at e
      · cases e
      · exact e
    obtain ⟨c, v, hc, hX, hi, hp⟩ := EO.cell x hk
    obtain ⟨v', rfl, hr⟩ := hp pv he
    exact wpAny_loadName_cell EO.kind hk hc hi (h v' hr)
  · rename_i hk
    exact GO.glob x pv e env A s X Q E hB EO.kind EO.glob EO.blt hk h
  · cases e

/-- what one gets of `iter(v)` -/
structure Iter (prog : Program) (w : World) (A : Around) (X : List Addr) (h : Heap) (items : List PV) (I : Addr) (fp : List Addr) (P : Nat → Value → Prop) (St : Nat → Heap → Prop) (h₂ : Heap) : Prop where
  sub : Sub h h₂
  new : h.get? I = none
  walks : Walks prog w A I fp [I] items.length P St
  start : St 0 h₂
  below : ∀ b ∈ fp, b < h₂.objs.size
  there : ∀ i h, St i h → ∃ o, h.get? I = some o
  out : ∀ b ∈ fp, b = I ∨ (b ∉ X ∧ ∃ o, h.get? b = some o)
  rep : ∀ i v p, P i v → items[i]? = some p → Rep X h p v
  own : (∀ i h, St i h → ∃ l j, h.IsListIter I l j) ∨ (∀ p ∈ items, ∃ k, p = .int k)
  kind : ∀ i h, St i h → ∃ o, h.get? I = some o ∧ o.cls ≠ .type "list" ∧ o.cls ≠ .type "tuple" ∧ o.cls ≠ .type "range"

theorem iter_sound {it : PV} {items : List PV} {v : Value} {Q : Value → Shared → Prop} (hh : A.handled = none) (e : itemsOf it = some items) (hv : Rep X s.heap it v)
    (h : ∀ I fp P St h₂, Iter prog w A X s.heap items I fp P St h₂ → Q (.ref I) { s with heap := h₂ }) : wpAny (model prog w) A (pyIter v) Q E s := by
  unfold itemsOf at e
  split at e
  · simp only [Rep] at hv
    obtain ⟨ax, vs, rfl, hx, hl, hr⟩ := hv
    split at e
    · cases e
      have hlt : ax < s.heap.objs.size := by obtain ⟨_, q, _⟩ := hl; exact Heap.lt_size q
      refine wpAny_pyIter_list hl (h s.heap.objs.size [s.heap.objs.size, ax] (fun i v => vs.toArray[i]? = some v) (fun i h => h.IsListIter s.heap.objs.size ax i ∧ h.IsList ax vs.toArray) _ ⟨Sub.push _ _, get_size_none _, ?_, ⟨⟨_, Heap.get?_push_size _ rfl, rfl, rfl⟩, hl.push _⟩, fun b hb => ?_, fun i h st => ?_, fun b hb => ?_, fun i v p hP hp => ?_, (.inl fun i h st => ⟨_, _, st.1⟩), fun i h st => ?_⟩)
      · rw [← show vs.toArray.size = items.length by rw [List.size_toArray]; exact hr.length]
        exact Walks.list (prog := prog) (w := w) (A := A) hh s.heap.objs.size ax (Nat.ne_of_lt hlt) vs.toArray
      · show b < (s.heap.push _).objs.size
        rw [Heap.size_push]
        rcases List.mem_cons.mp hb with rfl | hb
        · exact Nat.lt_succ_self _
        · rw [List.mem_singleton.mp hb]; exact Nat.lt_succ_of_lt hlt
      · obtain ⟨o, q, _⟩ := st.1; exact ⟨o, q⟩
      · rcases List.mem_cons.mp hb with rfl | hb
        · exact .inl rfl
        · rw [List.mem_singleton.mp hb]; obtain ⟨o, q, _⟩ := hl; exact .inr ⟨hx, o, q⟩
      · obtain ⟨v', hv', rv⟩ := hr.get i p hp
        have : v = v' := by
          have h1 : vs[i]? = some v := by simpa using hP
          rw [h1] at hv'; exact Option.some.inj hv'
        subst this; exact rv
      · obtain ⟨o, q, hc, _⟩ := st.1
        exact ⟨o, q, by rw [hc]; simp, by rw [hc]; simp, by rw [hc]; simp⟩
    · cases e
  · simp only [Rep] at hv
    obtain ⟨q, t, u, y, rfl, hq, hrng⟩ := hv
    split at e
    · rename_i a b c hs
      cases e
      have hlen : ((rangeL a b c).map PV.int).length = (Builtin.Range.rangeSize a b c).toNat := by
        rw [List.length_map]; unfold rangeL; rw [rangeInts_length]
      have hst : IsRangeIter (s.heap.push { cls := .type "range_iterator", data := .fields #[rawInt a, rawInt (Builtin.Range.rangeSize a b c), rawInt c] }) s.heap.objs.size (a + ((0 : Nat) : Int) * c) (((Builtin.Range.rangeSize a b c).toNat : Int) - ((0 : Nat) : Int)) c := by
        show (_ : Heap).get? _ = _
        rw [← rangeSize_toNat]; simpa using Heap.get?_push_size _ rfl
      refine wpAny_pyIter_range hrng hs.1 (h s.heap.objs.size [s.heap.objs.size] (fun i v => ∃ t, v = Value.int (a + i * c) t) (fun i h => IsRangeIter h s.heap.objs.size (a + (i : Nat) * c) (((Builtin.Range.rangeSize a b c).toNat : Int) - (i : Nat)) c) _ ⟨Sub.push _ _, get_size_none _, ?_, hst, fun b hb => ?_, fun i h st => ⟨_, st⟩, fun b hb => .inl (List.mem_singleton.mp hb), fun i v p hP hp => ?_, (.inr fun p hp => ?_), fun i h st => ⟨_, st, by simp, by simp, by simp⟩⟩)
      · rw [hlen]
        exact Walks.range (prog := prog) (w := w) (A := A) hh s.heap.objs.size a c (Builtin.Range.rangeSize a b c).toNat
      · rw [List.mem_singleton.mp hb]; show _ < (s.heap.push _).objs.size; rw [Heap.size_push]; exact Nat.lt_succ_self _
      · obtain ⟨t', rfl⟩ := hP
        have hi : i < (Builtin.Range.rangeSize a b c).toNat := by
          have := (List.getElem?_eq_some_iff.mp hp).1
          rwa [hlen] at this
        rw [List.getElem?_map] at hp
        unfold rangeL at hp
        rw [rangeInts_get hi] at hp
        simp only [Option.map_some, Option.some.injEq] at hp
        subst hp
        simp only [Rep]; exact ⟨t', rfl⟩
      · obtain ⟨k, _, rfl⟩ := List.mem_map.mp hp; exact ⟨k, rfl⟩
    · cases e
  · cases e
end
end Mine
end

section
open PySem PyProof.Rows
set_option linter.unusedVariables false
namespace Mine

/-- changed are the frame and the cells of the names xs alone -/
noncomputable def KL (env : Env) (xs : List Str) (h h' : Heap) : Prop := ∀ b o, b ≠ env.locals → (∀ x ∈ xs, env.kindOf x = some .cell → env.cells.lookup x ≠ some b) → h.get? b = some o → h'.get? b = some o

theorem KL.trans {env : Env} {xs : List Str} {a b c : Heap} (x : KL env xs a b) (y : KL env xs b c) : KL env xs a c := fun p o h1 h2 e => y p o h1 h2 (x p o h1 h2 e)
theorem KL.of_sub {env : Env} {xs : List Str} {a b : Heap} (x : Sub a b) : KL env xs a b := fun p o _ _ e => x p o e
theorem KL.more {env : Env} {xs ys : List Str} {a b : Heap} (x : KL env xs a b) (h : ∀ z ∈ xs, z ∈ ys) : KL env ys a b := fun p o h1 h2 e => x p o h1 (fun z hz => h2 z (h z hz)) e

theorem EnvOK.kb {X : List Addr} {h h' : Heap} {env : Env} {xs : List Str} {ρ : Rho} (e : EnvOK X h env ρ) (k : KL env xs h h') : KB X h h' := fun b o hb hg => by
  refine k b o (fun q => hb (q ▸ e.loc)) (fun x _ hk hc => ?_) hg
  obtain ⟨c, v, hc', hX, _⟩ := e.cell x hk
  rw [hc] at hc'; cases hc'; exact hb hX

section
variable {prog : Program} {w : World} {A : Around} {E : Value → Shared → Prop} {s : Shared} {X : List Addr} {B : Heap} {env : Env} {ρ : Rho}

/-- a name of the frame takes a value (of X), or a list of its own -/
theorem store_gen {x : Str} {pv : PV} {v : Value} {Q : Unit → Shared → Prop} (EO : EnvOK X s.heap env ρ) (XO : XOK X s.heap)
    (hk : env.kindOf x = some .local ∨ (env.kindOf x = some .cell ∧ ∀ l, pv ≠ .mlist l)) (hr : RepM X s.heap pv v)
    (hm : ∀ l, pv = .mlist l → ∀ y l', env.kindOf y = some .local → ρ y = some (.mlist l') → ∀ m, s.heap.Ns env.locals m → m y ≠ some v)
    (h : ∀ h' tk, KL env [x] s.heap h' → EnvOK X h' env (upd ρ x pv) → XOK X h' → Q () { s with heap := h', toks := tk }) :
    wpAny (model prog w) A (storeName env x v) Q E s := by
  obtain ⟨m, hn, hmm, hu⟩ := EO.ns
  rcases hk with hk | ⟨hk, hnm⟩
  · refine wpAny_storeName_local hk hn (fun h' hn' hs => ?_) (by rw [EO.kind]; rfl)
    have kl : KL env [x] s.heap h' := fun b o hb _ e => hs.extBut b o hb e
    have kb := EO.kb kl
    have xo : XOK X h' := fun a ha => by
      by_cases hL : a = env.locals
      · subst hL; exact NoTup.ns hn'
      · obtain ⟨o, ho, q⟩ := XO a ha; exact ⟨o, hs.extBut a o hL ho, q⟩
    have lst : ∀ (r : Addr) (vs : List Value), Own s.heap r vs → Own h' r vs := fun r vs hi =>
      hi.at fun o e => hs.extBut r o (isList_ne_ns hi.isList hn) e
    refine h h' _ kl ⟨EO.kind, EO.glob, EO.blt, EO.loc, ⟨_, hn', fun y py hy hp => ?_, fun y z l l' hy hz hpy hpz e => ?_⟩, fun y hy => ?_, EO.inj⟩ xo
    · by_cases hyx : y = x
      · subst hyx
        simp only [upd, if_true, Option.some.injEq] at hp
        subst hp
        exact ⟨v, by simp, RepM.go (.kb kb) (fun _ q => q) (fun r vs _ _ hi => lst r vs hi) hr⟩
      · simp only [upd, hyx, if_false] at hp
        obtain ⟨u, hu', hr'⟩ := hmm y py hy hp
        exact ⟨u, by simpa [hyx] using hu', RepM.go (.kb kb) (fun _ q => q) (fun r vs _ _ hi => lst r vs hi) hr'⟩
    · by_cases hyx : y = x
      · by_cases hzx : z = x
        · rw [hyx, hzx]
        · subst hyx
          simp only [upd, if_true, Option.some.injEq] at hpy
          simp only [upd, hzx, if_false] at hpz
          have e' : some v = m z := by simpa [hzx] using e
          exact absurd e'.symm (hm l hpy z l' hz hpz m hn)
      · by_cases hzx : z = x
        · subst hzx
          simp only [upd, if_true, Option.some.injEq] at hpz
          simp only [upd, hyx, if_false] at hpy
          have e' : m y = some v := by simpa [hyx] using e
          exact absurd e' (hm l' hpz y l hy hpy m hn)
        · simp only [upd, hyx, if_false] at hpy
          simp only [upd, hzx, if_false] at hpz
          have e' : m y = m z := by simpa [hyx, hzx] using e
          exact hu y z l l' hy hz hpy hpz e'
    · obtain ⟨c, u, hc, hX, hi, hp⟩ := EO.cell y hy
      have hcL := isCell_ne_ns hi hn
      refine ⟨c, u, hc, hX, hi.sameBut hs hcL, fun py hpy => ?_⟩
      have hyx : y ≠ x := by rintro rfl; rw [hk] at hy; cases hy
      simp only [upd, hyx, if_false] at hpy
      obtain ⟨v', hv', hr'⟩ := hp py hpy
      exact ⟨v', hv', Rep.go (.kb kb) _ _ hr'⟩
  · obtain ⟨c, u, hc, hX, hi, hp⟩ := EO.cell x hk
    refine wpAny_storeName_cell EO.kind hk hc hi fun h' hi' hs => ?_
    have kl : KL env [x] s.heap h' := fun b o _ hb e => hs.extBut b o (fun q => hb x List.mem_cons_self hk (by rw [q]; exact hc)) e
    have kb := EO.kb kl
    have hcL := isCell_ne_ns hi hn
    have xo : XOK X h' := fun a ha => by
      by_cases hL : a = c
      · subst hL; exact NoTup.cell hi'
      · obtain ⟨o, ho, q⟩ := XO a ha; exact ⟨o, hs.extBut a o hL ho, q⟩
    have lst : ∀ (r : Addr) (vs : List Value), Own s.heap r vs → Own h' r vs := fun r vs hli =>
      hli.at fun o e => hs.extBut r o (isList_ne_cell hli.isList hi) e
    have hrp : Rep X s.heap pv v := by cases pv <;> first | exact hr | exact absurd rfl (hnm _)
    refine h h' s.toks kl ⟨EO.kind, EO.glob, EO.blt, EO.loc, ⟨m, hn.sameBut hs (Ne.symm hcL), fun y py hy hp => ?_, fun y z l l' hy hz hpy hpz e => ?_⟩, fun y hy => ?_, EO.inj⟩ xo
    · have hyx : y ≠ x := by rintro rfl; rw [hk] at hy; cases hy
      simp only [upd, hyx, if_false] at hp
      obtain ⟨u', hu', hr'⟩ := hmm y py hy hp
      exact ⟨u', hu', RepM.go (.kb kb) (fun _ q => q) (fun r vs _ _ hi => lst r vs hi) hr'⟩
    · have hyx : y ≠ x := by rintro rfl; rw [hk] at hy; cases hy
      have hzx : z ≠ x := by rintro rfl; rw [hk] at hz; cases hz
      simp only [upd, hyx, if_false] at hpy
      simp only [upd, hzx, if_false] at hpz
      exact hu y z l l' hy hz hpy hpz e
    · by_cases hyx : y = x
      · subst hyx
        refine ⟨c, some v, hc, hX, hi', fun py hpy => ?_⟩
        simp only [upd, if_true, Option.some.injEq] at hpy
        subst hpy
        exact ⟨v, rfl, Rep.go (.kb kb) _ _ hrp⟩
      · obtain ⟨c', u', hc', hX', hi', hp'⟩ := EO.cell y hy
        have hne : c' ≠ c := by rintro rfl; exact hyx (EO.inj _ _ _ hc' hc)
        refine ⟨c', u', hc', hX', hi'.sameBut hs hne, fun py hpy => ?_⟩
        simp only [upd, hyx, if_false] at hpy
        obtain ⟨v', hv', hr'⟩ := hp' py hpy
        exact ⟨v', hv', Rep.go (.kb kb) _ _ hr'⟩

theorem rep_not_mlist {h : Heap} {p : PV} {v : Value} (e : Rep X h p v) : ∀ l, p ≠ .mlist l := by rintro l rfl; simp only [Rep] at e

theorem store_sound {x : Str} {pv : PV} {v : Value} {sc : Sc} {Q : Unit → Shared → Prop} (EO : EnvOK X s.heap env ρ) (XO : XOK X s.heap) (hsc : env.scope.names = sc) (hk : storable sc x = true) (hr : Rep X s.heap pv v)
    (h : ∀ h' tk, KL env [x] s.heap h' → EnvOK X h' env (upd ρ x pv) → XOK X h' → Q () { s with heap := h', toks := tk }) :
    wpAny (model prog w) A (storeName env x v) Q E s := by
  subst hsc
  have hn := rep_not_mlist hr
  refine store_gen EO XO ?_ (.of hr) (fun l q => absurd q (hn l)) h
  simp only [storable, Bool.or_eq_true, beq_iff_eq] at hk
  exact hk.imp (fun q => q) fun q => ⟨q, hn⟩

theorem assignEach_names : ∀ {es : List Expr} {xs : List Str}, namesT es = some xs → (assignEach es env).length = xs.length ∧ (assignEach es env).findIdx? (·.1) = none
  | [], xs, e => by simp [namesT] at e; subst e; exact ⟨rfl, rfl⟩
  | .Name x p :: r, xs, e => by
    simp only [namesT, Option.map_eq_some_iff] at e
    obtain ⟨ys, hy, rfl⟩ := e
    have := assignEach_names hy
    refine ⟨by show ((assignEach r env).length + 1) = _; rw [this.1]; rfl, ?_⟩
    show List.findIdx? (·.1) ((false, _) :: assignEach r env) = none
    rw [List.findIdx?_cons]
    simp [this.2]
  | .BoolOp .. :: _, _, e => by simp [namesT] at e
  | .NamedExpr .. :: _, _, e => by simp [namesT] at e
  | .BinOp .. :: _, _, e => by simp [namesT] at e
  | .UnaryOp .. :: _, _, e => by simp [namesT] at e
  | .Lambda .. :: _, _, e => by simp [namesT] at e
  | .IfExp .. :: _, _, e => by simp [namesT] at e
  | .Dict .. :: _, _, e => by simp [namesT] at e
  | .Set .. :: _, _, e => by simp [namesT] at e
  | .ListComp .. :: _, _, e => by simp [namesT] at e
  | .SetComp .. :: _, _, e => by simp [namesT] at e
  | .DictComp .. :: _, _, e => by simp [namesT] at e
  | .GeneratorExp .. :: _, _, e => by simp [namesT] at e
  | .Await .. :: _, _, e => by simp [namesT] at e
  | .Yield .. :: _, _, e => by simp [namesT] at e
  | .YieldFrom .. :: _, _, e => by simp [namesT] at e
  | .Compare .. :: _, _, e => by simp [namesT] at e
  | .Call .. :: _, _, e => by simp [namesT] at e
  | .FormattedValue .. :: _, _, e => by simp [namesT] at e
  | .JoinedStr .. :: _, _, e => by simp [namesT] at e
  | .Constant .. :: _, _, e => by simp [namesT] at e
  | .Attribute .. :: _, _, e => by simp [namesT] at e
  | .Subscript .. :: _, _, e => by simp [namesT] at e
  | .Starred .. :: _, _, e => by simp [namesT] at e
  | .List .. :: _, _, e => by simp [namesT] at e
  | .Tuple .. :: _, _, e => by simp [namesT] at e
  | .Slice .. :: _, _, e => by simp [namesT] at e

theorem namesT_cons {e : Expr} {r : List Expr} {xs : List Str} (h : namesT (e :: r) = some xs) : ∃ x p ys, e = .Name x p ∧ namesT r = some ys ∧ xs = x :: ys := by
  cases e <;> simp only [namesT] at h <;> try cases h
  simp only [Option.map_eq_some_iff] at h
  obtain ⟨ys, hy, rfl⟩ := h
  exact ⟨_, _, ys, rfl, hy, rfl⟩

theorem bindNames_length : ∀ {xs : List Str} {ps : List PV} {ρ ρ' : Rho}, bindNames ρ xs ps = some ρ' → ps.length = xs.length
  | [], [], _, _, _ => rfl
  | [], _ :: _, _, _, e => by simp [bindNames] at e
  | _ :: _, [], _, _, e => by simp [bindNames] at e
  | x :: xs, p :: ps, ρ, ρ', e => by
    simp only [bindNames] at e
    simp [bindNames_length e]

theorem inOrder_sound {sc : Sc} {Q : Unit → Shared → Prop} (hsc : env.scope.names = sc) : ∀ (es : List Expr) (xs : List Str) (ps : List PV) (vs : List Value) (s : Shared) (ρ ρ' : Rho), namesT es = some xs → xs.all (storable sc) = true → bindNames ρ xs ps = some ρ' →
    EnvOK X s.heap env ρ → XOK X s.heap → RepL X s.heap ps vs →
    (∀ h' tk, KL env xs s.heap h' → EnvOK X h' env ρ' → XOK X h' → Q () { s with heap := h', toks := tk }) →
    wpAny (model prog w) A (assignInOrder ((assignEach es env).map (·.2)) vs) Q E s
  | [], xs, ps, vs, s, ρ, ρ', hn, hst, hb, EO, XO, hr, h => by
    simp [namesT] at hn; subst hn
    cases ps with
    | nil => simp only [bindNames, Option.some.injEq] at hb; subst hb; exact assignInOrder_nil (h s.heap s.toks (fun _ _ _ _ e => e) EO XO)
    | cons _ _ => simp [bindNames] at hb
  | e :: r, xs, ps, vs, s, ρ, ρ', hn, hst, hb, EO, XO, hr, h => by
    obtain ⟨x, p, ys, rfl, hy, rfl⟩ := namesT_cons hn
    cases ps with
    | nil => simp [bindNames] at hb
    | cons q qs =>
      simp only [bindNames] at hb
      simp only [RepL] at hr
      obtain ⟨v, vr, rfl, hv, hvr⟩ := hr
      simp only [List.all_cons, Bool.and_eq_true] at hst
      show wpAny _ A (assignInOrder (assign (.Name x p) env :: (assignEach r env).map (·.2)) (v :: vr)) Q E s
      refine assignInOrder_cons (wpAny_assign_Name (store_sound EO XO hsc hst.1 hv fun h₁ tk₁ k₁ EO₁ XO₁ => ?_))
      exact inOrder_sound hsc r ys qs vr { s with heap := h₁, toks := tk₁ } _ ρ' hy hst.2 hb EO₁ XO₁ (RepL.go (.kb (EO.kb k₁)) _ _ hvr) fun h₂ tk₂ k₂ EO₂ XO₂ => h h₂ tk₂ ((k₁.more (by simp)).trans (k₂.more fun z hz => List.mem_cons_of_mem _ hz)) EO₂ XO₂

/-- the names that a target binds -/
noncomputable def tnames : Expr → List Str
  | .Name x _ => [x]
  | .Tuple es _ _ => (namesT es).getD []
  | _ => []

theorem assign_sound {target : Expr} {sc : Sc} {p : PV} {v : Value} {ρ' : Rho} {Q : Unit → Shared → Prop} (hh : A.handled = none) (hsc : env.scope.names = sc) (hst : storableT sc target = true) (hb : bindT ρ target p = some ρ')
    (EO : EnvOK X s.heap env ρ) (XO : XOK X s.heap) (hr : Rep X s.heap p v)
    (h : ∀ h' tk, KL env (tnames target) s.heap h' → EnvOK X h' env ρ' → XOK X h' → Q () { s with heap := h', toks := tk }) :
    wpAny (model prog w) A (assign target env v) Q E s := by
  cases target <;> simp only [storableT] at hst <;> first | cases hst | skip
  · rename_i x pos
    simp only [bindT, Option.some.injEq] at hb
    subst hb
    exact wpAny_assign_Name (store_sound EO XO hsc hst hr h)
  · rename_i es k pos
    cases p <;> simp only [bindT] at hb <;> first | cases hb | skip
    rename_i ps
    simp only [Option.bind_eq_some_iff] at hb
    obtain ⟨xs, hxs, hb⟩ := hb
    simp only [Rep] at hr
    obtain ⟨t, vs, rfl, htX, ht, hvs⟩ := hr
    rw [hxs] at hst
    simp only [Bool.and_eq_true] at hst
    have hlen : ps.length = xs.length := bindNames_length hb
    have ha := assignEach_names (env := env) hxs
    refine assign_Tuple_tuple hh ht (by rw [ha.1, List.size_toArray, hvs.length, hlen]) ha.2 fun h₁ he => ?_
    have hs : Sub s.heap h₁ := fun b o e => he b o (Nat.ne_of_lt (Heap.lt_size e)) e
    exact inOrder_sound hsc es xs ps vs { s with heap := h₁ } ρ ρ' hxs hst.1 hb (EO.mono hs) (XO.sub hs) (hvs.mono hs) fun h₂ tk₂ k₂ EO₂ XO₂ => h h₂ tk₂ (by simp only [tnames, hxs, Option.getD_some]; exact (KL.of_sub hs).trans k₂) EO₂ XO₂
end
end Mine
end

section
open PySem PyProof.Rows
set_option linter.unusedVariables false
namespace Mine

noncomputable def ESound (prog : Program) (w : World) (B : Heap) (d : Nat) (e : Expr) (sc : Sc) (ρ : Rho) (pv : PV) : Prop :=
  ∀ (env : Env) (A : Around) (s : Shared) (X : List Addr) (Q E : Value → Shared → Prop), env.scope.names = sc → EnvOK X s.heap env ρ → XOK X s.heap → (∀ a ∈ X, B.get? a = none) → Sub B s.heap → Room A d → Post X s pv Q →
    wpAny (model prog w) A (eval e env) Q E s
/-- what a step that only makes things and tells b hands on -/
abbrev PostB (s : Shared) (b : Bool) (Q : Bool → Shared → Prop) : Prop := ∀ h' tk, Sub s.heap h' → Q b { s with heap := h', toks := tk }
noncomputable def TSound (prog : Program) (w : World) (B : Heap) (d : Nat) (e : Expr) (sc : Sc) (ρ : Rho) (b : Bool) : Prop :=
  ∀ (env : Env) (A : Around) (s : Shared) (X : List Addr) (Q : Bool → Shared → Prop) (E : Value → Shared → Prop), env.scope.names = sc → EnvOK X s.heap env ρ → XOK X s.heap → (∀ a ∈ X, B.get? a = none) → Sub B s.heap → Room A d → PostB s b Q →
    wpAny (model prog w) A (isTrue e env (eval e env)) Q E s

theorem relab_lookup (sc : Sc) (x : Str) : ∀ cs : Sc, (relab cs sc).lookup x = (cs.lookup x).map fun k => if k == .free && sc.lookup x == some .cell then .cell else k
  | [] => rfl
  | (n, k) :: r => by
    have ih := relab_lookup sc x r
    simp only [relab, List.map_cons] at ih ⊢
    by_cases hx : x = n
    · subst hx
      by_cases hc : (k == NameKind.free && sc.lookup x == some NameKind.cell) = true
      · simp only [hc, if_true, List.lookup_cons, beq_self_eq_true, Option.map_some]
      · simp only [Bool.not_eq_true] at hc
        simp only [hc, Bool.false_eq_true, if_false, List.lookup_cons, beq_self_eq_true, Option.map_some]
    · have hb : (x == n) = false := beq_eq_false_iff_ne.mpr hx
      by_cases hc : (k == NameKind.free && sc.lookup n == some NameKind.cell) = true
      · simp only [hc, if_true, List.lookup_cons, hb]; exact ih
      · simp only [Bool.not_eq_true] at hc
        simp only [hc, Bool.false_eq_true, if_false, List.lookup_cons, hb]; exact ih

theorem relabel_names {scope : Scope} {env : Env} {sc : Sc} (hk : env.scope.kind = .function) (hsc : env.scope.names = sc) : (relabel scope env).names = relab scope.names sc := by
  subst hsc
  unfold relabel relab
  simp only
  refine List.map_congr_left fun x _ => ?_
  obtain ⟨n, k⟩ := x
  rw [show env.kindOf n = env.scope.names.lookup n from rfl]
  simp [hk]

theorem closure_aux (env : Env) : ∀ (names : Sc) (acc : List (Str × Addr)), (∀ y ∈ names, y.2 = .free → ∃ c, env.cells.lookup y.1 = some c) →
    ∃ cl : List (Str × Addr), (forIn names acc fun (x : Str × NameKind) (r : List (Str × Addr)) => if (x.2 == .free) = true then (do let c ← cellOf env x.1; pure (ForInStep.yield ((x.1, c) :: r)) : Sem _) else pure (ForInStep.yield r)) = pure cl ∧
      (∀ x c, cl.lookup x = some c → acc.lookup x = some c ∨ env.cells.lookup x = some c) ∧ (∀ y ∈ names, y.2 = .free → ∃ c, cl.lookup y.1 = some c) ∧ (∀ x c, acc.lookup x = some c → ∃ c', cl.lookup x = some c')
  | [], acc, _ => ⟨acc, by rw [List.forIn_nil], fun x c e => .inl e, (fun y hy => by cases hy), fun x c e => ⟨c, e⟩⟩
  | (n, k) :: r, acc, h => by
    have hr : ∀ y ∈ r, y.2 = .free → ∃ c, env.cells.lookup y.1 = some c := fun y hy => h y (List.mem_cons_of_mem _ hy)
    by_cases hk : k = .free
    · subst hk
      obtain ⟨c, hc⟩ := h (n, .free) List.mem_cons_self rfl
      obtain ⟨cl, e, h1, h2, h3⟩ := closure_aux env r ((n, c) :: acc) hr
      have hco : cellOf env n = pure c := by unfold cellOf; rw [hc]
      refine ⟨cl, ?_, fun x a ha => ?_, fun y hy hf => ?_, fun x a ha => ?_⟩
      · rw [List.forIn_cons]
        simp only [beq_self_eq_true, if_true, hco, pure_bind]
        exact e
      · rcases h1 x a ha with q | q
        · rw [List.lookup_cons] at q
          by_cases hx : x = n
          · subst hx; simp only [beq_self_eq_true] at q; cases q; exact .inr hc
          · rw [beq_eq_false_iff_ne.mpr hx] at q; exact .inl q
        · exact .inr q
      · rcases List.mem_cons.mp hy with rfl | hy
        · exact h3 n c (by rw [List.lookup_cons]; simp)
        · exact h2 y hy hf
      · by_cases hx : x = n
        · subst hx; exact h3 x c (by rw [List.lookup_cons]; simp)
        · exact h3 x a (by rw [List.lookup_cons, beq_eq_false_iff_ne.mpr hx]; exact ha)
    · obtain ⟨cl, e, h1, h2, h3⟩ := closure_aux env r acc hr
      have hb : (k == NameKind.free) = false := beq_eq_false_iff_ne.mpr hk
      refine ⟨cl, ?_, h1, fun y hy hf => ?_, h3⟩
      · rw [List.forIn_cons]
        simp only [hb, Bool.false_eq_true, if_false, pure_bind]
        exact e
      · rcases List.mem_cons.mp hy with rfl | hy
        · exact absurd hf hk
        · exact h2 y hy hf

theorem closure_ok {env : Env} {scope : Scope} (h : ∀ y ∈ scope.names, y.2 = .free → ∃ c, env.cells.lookup y.1 = some c) :
    ∃ cl : List (Str × Addr), closureFor scope env = pure cl ∧ (∀ x c, cl.lookup x = some c → env.cells.lookup x = some c) ∧ (∀ y ∈ scope.names, y.2 = .free → ∃ c, cl.lookup y.1 = some c) := by
  obtain ⟨cl, e, h1, h2, _⟩ := closure_aux env scope.names [] h
  refine ⟨cl, ?_, fun x c hx => ?_, h2⟩
  · simp only [closureFor]
    rw [e]
    rfl
  · rcases h1 x c hx with q | q
    · cases q
    · exact q

end Mine
end

section
open PySem PyProof.Rows
set_option linter.unusedVariables false
namespace Mine

/-- one turn of a comprehension -/
noncomputable def TurnOK (prog : Program) (w : World) (B : Heap) (d : Nat) (elt target : Expr) (ifs : List Expr) (cs : Sc) (sc : Sc) (ρ : Rho) (p : PV) (o : Option PV) : Prop :=
  ∃ ρ', bindT (cut cs ρ) target p = some ρ' ∧ match ifs, o with
    | [], some y => ESound prog w B d elt (relab cs sc) ρ' y
    | [t], some y => TSound prog w B d t (relab cs sc) ρ' true ∧ ESound prog w B d elt (relab cs sc) ρ' y
    | [t], none => TSound prog w B d t (relab cs sc) ρ' false
    | _, _ => False

structure CInv (s : Shared) (X : List Addr) (I C D : Addr) (St : Nat → Heap → Prop) (items ps : List PV) (f : PV → Option (Option PV)) (h' : Heap) (i : Nat) : Prop where
  le : i ≤ items.length
  st : St i h'
  sub : Sub s.heap h'
  ns : ∃ m, h'.Ns C m
  acc : ∃ ys qs rs, h'.IsList D (List.toArray ys) ∧ RepL (I :: C :: D :: X) h' qs ys ∧ ys.length ≤ i ∧ compLoop f (items.drop i) = some rs ∧ ps = qs ++ rs

/-- between an item's coming and its end -/
structure CMid (s : Shared) (X : List Addr) (I C D : Addr) (St : Nat → Heap → Prop) (items ps : List PV) (f : PV → Option (Option PV)) (h' : Heap) (i : Nat) (o : Option PV) : Prop where
  lt : i < items.length
  st : St (i + 1) h'
  sub : Sub s.heap h'
  ns : ∃ m, h'.Ns C m
  acc : ∃ ys qs rs, h'.IsList D (List.toArray ys) ∧ RepL (I :: C :: D :: X) h' qs ys ∧ ys.length ≤ i ∧ compLoop f (items.drop (i + 1)) = some rs ∧ ps = qs ++ (match o with | some y => y :: rs | none => rs)

section
variable {prog : Program} {w : World} {A : Around} {E : Value → Shared → Prop} {s : Shared} {X : List Addr} {G : Gl} {B : Heap} {d : Nat} {env : Env} {ρ : Rho} {sc : Sc}

theorem compOk_kind {cs : Scope} {target : Expr} (h : compOk cs sc target = true) : cs.kind = .function := by
  unfold compOk at h; simp only [Bool.and_eq_true, beq_iff_eq] at h; exact h.1.1
theorem compOk_names {cs : Scope} {target : Expr} (h : compOk cs sc target = true) : ∀ y ∈ cs.names, y.2 ≠ .cell ∧ (y.2 = .free → sc.lookup y.1 = some .cell) ∧ cs.names.lookup y.1 = some y.2 := by
  unfold compOk at h; simp only [Bool.and_eq_true, beq_iff_eq] at h
  intro y hy
  have := List.all_eq_true.mp h.1.2 y hy
  simp only [Bool.and_eq_true, Bool.or_eq_true, bne_iff_ne, ne_eq, beq_iff_eq] at this
  exact ⟨this.1.1, fun q => (this.1.2).resolve_left (fun r => r q), this.2⟩
theorem compOk_target {cs : Scope} {target : Expr} (h : compOk cs sc target = true) : storableT (relab cs.names sc) target = true := by
  unfold compOk at h; simp only [Bool.and_eq_true, beq_iff_eq] at h
  have ht := h.2
  have key : ∀ x, cs.names.lookup x = some .local → storable (relab cs.names sc) x = true := fun x hx => by
    unfold storable; rw [relab_lookup, hx]; rfl
  cases target <;> simp only at ht <;> first | cases ht | skip
  · simp only [storableT]; exact key _ (by simpa using ht)
  · rename_i es k p
    simp only [storableT]
    split at ht
    · rename_i x y hn
      rw [hn]
      simp only [Bool.and_eq_true, beq_iff_eq] at ht
      simp [key x ht.1.1, key y ht.1.2]
    · cases ht

theorem compOk_local {cs : Scope} {target : Expr} (h : compOk cs sc target = true) : ∀ x ∈ tnames target, cs.names.lookup x = some .local := by
  unfold compOk at h; simp only [Bool.and_eq_true, beq_iff_eq] at h
  have ht := h.2
  intro x hx
  cases target <;> simp only [tnames] at hx <;> simp only at ht <;> first | cases ht | skip
  · rw [List.mem_singleton.mp hx]; simpa using ht
  · split at ht
    · rename_i u v hn
      rw [hn] at hx
      simp only [Bool.and_eq_true, beq_iff_eq] at ht
      simp only [Option.getD_some, List.mem_cons, List.not_mem_nil, or_false] at hx
      rcases hx with rfl | rfl
      · exact ht.1.1
      · exact ht.1.2
    · cases ht

theorem all3 {P : Addr → Prop} {a b c : Addr} {X : List Addr} (ha : P a) (hb : P b) (hc : P c) (hX : ∀ x ∈ X, P x) : ∀ x ∈ a :: b :: c :: X, P x := by
  intro x hx
  cases hx with
  | head => exact ha
  | tail _ hx => cases hx with
    | head => exact hb
    | tail _ hx => cases hx with
      | head => exact hc
      | tail _ hx => exact hX x hx
theorem not_one {a b : Addr} (h : b ≠ a) : a ∉ [b] := fun q => h (List.mem_singleton.mp q).symm
theorem again_lt {n i : Nat} (h : i + 1 ≤ n) : n + 1 - (i + 1) < n + 1 - i := by omega
theorem snoc_le {α : Type} {l : List α} {x : α} {i : Nat} (h : l.length ≤ i) : (l ++ [x]).length ≤ i + 1 := by
  rw [List.length_append]; exact Nat.succ_le_succ h
theorem push_list {h : Heap} {a : Addr} {l : List Value} {x : Value} (e : h.IsList a (l.toArray.push x)) : h.IsList a (l ++ [x]).toArray := by simpa using e

/-- the comprehension's own frame -/
theorem comp_env {scope : Scope} {cl : List (Str × Addr)} {target : Expr} {I C D : Addr} {h' : Heap} {m : Str → Option Value} (hc : compOk scope sc target = true) (hsc : env.scope.names = sc) (EO : EnvOK X s.heap env ρ)
    (hcl : ∀ x c, cl.lookup x = some c → env.cells.lookup x = some c) (hcl2 : ∀ y ∈ scope.names, y.2 = .free → ∃ c, cl.lookup y.1 = some c) (hI : s.heap.get? I = none) (hC : s.heap.get? C = none) (hD : s.heap.get? D = none) (sub : Sub s.heap h') (hn : h'.Ns C m) :
    EnvOK (I :: C :: D :: X) h' (compEnvC scope cl C env) (cut scope.names ρ) := by
  have hnm : (compEnvC scope cl C env).scope.names = relab scope.names sc := relabel_names EO.kind hsc
  have hkd : ∀ x, (compEnvC scope cl C env).kindOf x = (scope.names.lookup x).map fun k => if k == .free && sc.lookup x == some .cell then .cell else k := fun x => by
    show (compEnvC scope cl C env).scope.names.lookup x = _; rw [hnm, relab_lookup]
  have go : Goes X s.heap (I :: C :: D :: X) h' := .more (all3 (.inr hI) (.inr hC) (.inr hD) fun _ ha => .inl ha) (.of_sub sub)
  refine ⟨(compOk_kind hc : scope.kind = .function), EO.glob, EO.blt, .tail _ (.head _), ⟨m, hn, fun x pv hk hx => ?_, fun x y l l' hk _ hx => ?_⟩, fun x hk => ?_, fun x y c hx hy => EO.inj x y c (hcl x c hx) (hcl y c hy)⟩
  · exfalso
    unfold cut at hx
    rw [hkd] at hk
    split at hx
    · rename_i hf
      rw [hf] at hk
      simp only [Option.map_some, Option.some.injEq] at hk
      split at hk <;> cases hk
    · cases hx
  · exfalso
    unfold cut at hx
    rw [hkd] at hk
    split at hx
    · rename_i hf
      rw [hf] at hk
      simp only [Option.map_some, Option.some.injEq] at hk
      split at hk <;> cases hk
    · cases hx
  · rw [hkd] at hk
    have hf : scope.names.lookup x = some .free ∧ sc.lookup x = some .cell := by
      cases hl : scope.names.lookup x with
      | none => rw [hl] at hk; cases hk
      | some k =>
        have hmem := mem_of_lookup hl
        have hcn := compOk_names hc _ hmem
        rw [hl] at hk
        simp only [Option.map_some, Option.some.injEq] at hk
        split at hk
        · rename_i q
          simp only [Bool.and_eq_true, beq_iff_eq] at q
          exact ⟨by rw [q.1], q.2⟩
        · subst hk; exact absurd rfl hcn.1
    obtain ⟨c, v, hcc, hX, hi, hp⟩ := EO.cell x (by show env.scope.names.lookup x = _; rw [hsc]; exact hf.2)
    obtain ⟨c', hc'⟩ := hcl2 (x, .free) (mem_of_lookup hf.1) rfl
    have : c' = c := by have := hcl x c' hc'; rw [hcc] at this; exact (Option.some.inj this).symm
    subst this
    refine ⟨c', v, hc', .tail _ (.tail _ (.tail _ hX)), hi.keeps sub, fun pv hx => ?_⟩
    have : cut scope.names ρ x = ρ x := by unfold cut; rw [hf.1]
    rw [this] at hx
    obtain ⟨v', hv', hr⟩ := hp pv hx
    exact ⟨v', hv', Rep.go go _ _ hr⟩

theorem compLoop_cons {f : PV → Option (Option PV)} {v : PV} {r : List PV} {ps : List PV} (h : compLoop f (v :: r) = some ps) : ∃ o rest, f v = some o ∧ compLoop f r = some rest ∧ ps = (match o with | some y => y :: rest | none => rest) := by
  simp only [compLoop, Option.bind_eq_some_iff, Option.map_eq_some_iff] at h
  obtain ⟨o, ho, rest, hr, rfl⟩ := h
  exact ⟨o, rest, ho, hr, by cases o <;> rfl⟩

theorem comp_core {elt iter target : Expr} {ifs : List Expr} {scope : Scope} {pos : Pos} {cl : List (Str × Addr)} {R : Value → Addr → Result → Shared → Prop} {items ps : List PV} {f : PV → Option (Option PV)} {I : Addr} {fp : List Addr} {P : Nat → Value → Prop} {St : Nat → Heap → Prop} {h₂ : Heap}
    (RO : Room A d) (IT : Iter prog w A X s.heap items I fp P St h₂) (EO : EnvOK X s.heap env ρ) (XO : XOK X s.heap) (hXB : ∀ a ∈ X, B.get? a = none) (hB : Sub B s.heap)
    (hcl : ∀ x c, cl.lookup x = some c → env.cells.lookup x = some c) (hcl2 : ∀ y ∈ scope.names, y.2 = .free → ∃ c, cl.lookup y.1 = some c)
    (hc : compOk scope sc target = true) (hsc : env.scope.names = sc) (hf : compLoop f items = some ps) (hsz : items.length ≤ 1000)
    (hifs : (∃ x px, target = .Name x px ∧ ifs.length ≤ 1) ∨ (∃ es k px, target = .Tuple es k px ∧ ifs = []))
    (turn : ∀ p o, f p = some o → TurnOK prog w B d elt target ifs scope.names sc ρ p o)
    (fin : ∀ D C h' tk m ys, Sub s.heap h' → s.heap.get? D = none → s.heap.get? C = none → C ≠ D → h'.Ns C m → h'.IsList D (List.toArray ys) → RepL (I :: C :: D :: X) h' ps ys → R (.ref D) C (.ok .next) { s with heap := h', toks := tk }) :
    wpAny (model prog w) A (newList []) (fun acc s₃ => wpAny (model prog w) A (newFunctionEnv scope env.globals cl [] env.qual none .none (some env)) (fun cenv s₄ =>
      codeAny (model prog w) A (.compStart (.ListComp elt [⟨target, iter, ifs, 0⟩] scope pos) 0 (.ref I) acc { cenv with scope := relabel scope env }) (R acc cenv.locals) s₄) E s₃) E { s with heap := h₂ } := by
  have hkind := compOk_kind hc
  have hcell : ∀ y ∈ scope.names, y.2 ≠ .cell := fun y hy => (compOk_names hc y hy).1
  refine wpAny_newObj_type (wpAny_newFunctionEnv hcell (by intro y hy; simp at hy) (fun h₁ hns₁ hsb₁ => ?_) hkind)
  dsimp only at hns₁ hsb₁ ⊢
  generalize hH2 : h₂.push { cls := .type "list", dict := none, data := .seq ([] : List Value).toArray } = H2 at hns₁ hsb₁ ⊢
  have hCs : H2.objs.size = h₂.objs.size + 1 := by rw [← hH2, Heap.size_push]
  have hDC : h₂.objs.size ≠ H2.objs.size := by rw [hCs]; exact Nat.ne_of_lt (Nat.lt_succ_self _)
  have old : Sub h₂ h₁ := fun b o e => by
    have hb := Heap.lt_size e
    exact hsb₁.extBut b o (by rw [hCs]; exact Nat.ne_of_lt (Nat.lt_succ_of_lt hb)) (Heap.get?_push_of_some _ (hH2 ▸ Heap.get?_push_of_some _ e))
  have hacc : h₁.IsList h₂.objs.size (List.toArray []) := ⟨_, hsb₁.extBut _ _ hDC (Heap.get?_push_of_some _ (hH2 ▸ Heap.get?_push_size _ rfl)), rfl, _, rfl⟩
  have fresh : ∀ a, h₂.objs.size ≤ a → s.heap.get? a = none := fun a ha => by
    cases e : s.heap.get? a with
    | none => rfl
    | some o' => exact absurd (Heap.lt_size (IT.sub a o' e)) (Nat.not_lt.mpr ha)
  generalize hCd : H2.objs.size = C at hns₁ hsb₁ hDC hCs ⊢
  generalize hDd : h₂.objs.size = D at hDC hCs hacc fresh ⊢
  have hD : s.heap.get? D = none := fresh D (Nat.le_refl _)
  have hC : s.heap.get? C = none := fresh C (by rw [hCs]; exact Nat.le_succ _)
  have hI := IT.new
  have hCf : C ∉ fp := fun hm => absurd (IT.below _ hm) (by rw [hDd, hCs]; exact Nat.not_lt.mpr (Nat.le_succ _))
  have hDf : D ∉ fp := fun hm => absurd (IT.below _ hm) (by rw [hDd]; exact Nat.lt_irrefl _)
  have hIf : I ∈ fp := IT.walks.sub I (List.mem_singleton.mpr rfl)
  have hIC : I ≠ C := fun q => hCf (q ▸ hIf)
  have hID : I ≠ D := fun q => hDf (q ▸ hIf)
  have inv0 : CInv s X I C D St items ps f h₁ 0 := ⟨Nat.zero_le _, IT.walks.frame _ _ _ IT.start fun b _ o e => old b o e, IT.sub.trans old, ⟨_, hns₁⟩, [], [], ps, hacc, by simp only [RepL], Nat.le_refl _, by simpa using hf, rfl⟩
  have xok : ∀ h' i o, CMid s X I C D St items ps f h' i o → XOK (I :: C :: D :: X) h' := fun h' i o V =>
    all3 (let ⟨o, ho, _, q, _⟩ := IT.kind _ _ V.st; ⟨o, ho, .of_cls q⟩) (let ⟨_, hm⟩ := V.ns; NoTup.ns hm) (let ⟨_, _, _, hl, _⟩ := V.acc; NoTup.list hl) (XO.sub V.sub)
  have newB : ∀ a, s.heap.get? a = none → B.get? a = none := fun a ha => by
    cases e : B.get? a with
    | none => rfl
    | some o => have := hB a o e; rw [ha] at this; cases this
  have xb' : ∀ a ∈ I :: C :: D :: X, B.get? a = none := all3 (newB _ hI) (newB _ hC) (newB _ hD) hXB
  -- what only makes things leaves the middle
  have mmono : ∀ h' h'' i o, CMid s X I C D St items ps f h' i o → Sub h' h'' → CMid s X I C D St items ps f h'' i o := fun h' h'' i o V sb => by
    obtain ⟨m, hn⟩ := V.ns
    obtain ⟨ys, qs, rs, hl, hr, r⟩ := V.acc
    exact ⟨V.lt, IT.walks.frame _ _ _ V.st fun b _ o e => sb b o e, V.sub.trans sb, ⟨m, hn.keeps sb⟩, ys, qs, rs, hl.at fun o e => sb _ _ e, hr.mono sb, r⟩
  -- after the item is bound: the element is reckoned and laid to the list
  have step : ∀ (h' : Heap) (tk i : Nat) (ρ' : Rho) (y : PV) (R' : Shared → Prop) (E' : Value → Shared → Prop), CMid s X I C D St items ps f h' i (some y) → EnvOK (I :: C :: D :: X) h' (compEnvC scope cl C env) ρ' →
      ESound prog w B d elt (relab scope.names sc) ρ' y →
      (∀ h'' tk', CInv s X I C D St items ps f h'' (i + 1) → R' { s with heap := h'', toks := tk' }) →
      wpAny (model prog w) A (eval elt (compEnvC scope cl C env)) (fun x s₄ => wpAny (model prog w) A (call (.builtin "list.append") [.ref D, x]) (fun _ s₅ => R' s₅) E' s₄) E' { s with heap := h', toks := tk } := by
    intro h' tk i ρ' y R' E' V EC hE h
    refine hE _ A _ (I :: C :: D :: X) _ E' (relabel_names EO.kind hsc) EC (xok h' i _ V) xb' (hB.trans V.sub) RO fun x h₄ tk₄ s₄ rx => ?_
    obtain ⟨ys, qs, rs, hl, hr, hlen, hrs, hps⟩ := V.acc
    have hl₄ : h₄.IsList D ys.toArray := hl.at fun o e => s₄ _ _ e
    obtain ⟨m, hn⟩ := V.ns
    have hn₄ : h₄.Ns C m := hn.keeps s₄
    refine wpAny_list_append hl₄ (fun h₅ hl₅ hs₅ => ?_) (by rw [List.size_toArray]; exact Nat.le_trans hlen (Nat.le_trans (Nat.le_of_lt V.lt) (Nat.le_trans hsz (by decide))))
    have sub₅ : Sub s.heap h₅ := fun b o e => hs₅.extBut b o (fun q => by rw [q, hD] at e; cases e) (s₄ b o (V.sub b o e))
    have kb : KB (I :: C :: D :: X) h₄ h₅ := fun b o hb e => hs₅.extBut b o (fun q => hb (q ▸ .tail _ (.tail _ (.head _)))) e
    refine h h₅ tk₄ ⟨V.lt, IT.walks.frame _ _ _ V.st fun b hb o e => hs₅.extBut b o (fun q => hDf (q ▸ hb)) (s₄ b o e), sub₅, ⟨m, hn₄.sameBut hs₅ (Ne.symm hDC)⟩, ys ++ [x], qs ++ [y], rs, push_list hl₅, RepL.go (.kb kb) _ _ ((hr.mono s₄).snoc rx), snoc_le hlen, hrs, hps.trans (List.append_assoc qs [y] rs).symm⟩
  have skip : ∀ h' i, CMid s X I C D St items ps f h' i none → CInv s X I C D St items ps f h' (i + 1) := fun h' i V => by
    obtain ⟨ys, qs, rs, hl, hr, hlen, hrs, hps⟩ := V.acc
    exact ⟨V.lt, V.st, V.sub, V.ns, ys, qs, rs, hl, hr, Nat.le_succ_of_le hlen, hrs, hps⟩
  have stor := compOk_target hc
  -- the loop
  have loop : ∀ s₃ : Shared, s₃ = { s with heap := h₁, toks := s.toks + ([] : List (Str × Value)).length } →
      codeAny (model prog w) A (.compLoop (.ListComp elt [⟨target, iter, ifs, 0⟩] scope pos) 0 (.ref I) (.ref D) (compEnvC scope cl C env)) (R (.ref D) C) s₃ := by
    rintro s₃ rfl
    -- an item is at hand: what is known, and its binding
    have bind : ∀ (h' : Heap) (tk i : Nat) (v : Value) (hb : Heap) (tkb : Nat) (p : PV) (R' : Unit → Shared → Prop) (E' : Value → Shared → Prop), CInv s X I C D St items ps f h' i → items[i]? = some p → P i v → St (i + 1) hb → (∀ b o, b ∉ [I] → h'.get? b = some o → hb.get? b = some o) →
        (∀ h'' tk'' ρ' o, f p = some o → bindT (cut scope.names ρ) target p = some ρ' → EnvOK (I :: C :: D :: X) h'' (compEnvC scope cl C env) ρ' → CMid s X I C D St items ps f h'' i o → R' () { s with heap := h'', toks := tk'' }) →
        wpAny (model prog w) A (assign target (compEnvC scope cl C env) v) R' E' { s with heap := hb, toks := tkb } := by
      intro h' tk i v hb tkb p R' E' V hp hPv hstb hkb h
      have subb : Sub s.heap hb := fun b o e => hkb b o (fun hm => by rw [List.mem_singleton.mp hm, hI] at e; cases e) (V.sub b o e)
      obtain ⟨m, hn⟩ := V.ns
      have hnb : hb.Ns C m := hn.at' fun o e => hkb C o (not_one hIC) e
      obtain ⟨ys, qs, rs, hl, hr, hlen, hrs, hps⟩ := V.acc
      have hlt : i < items.length := (List.getElem?_eq_some_iff.mp hp).1
      have hdrop : items.drop i = p :: items.drop (i + 1) := by
        rw [List.drop_eq_getElem_cons hlt]; congr 1; exact (List.getElem?_eq_some_iff.mp hp).2
      rw [hdrop] at hrs
      obtain ⟨o, rest, ho, hrest, hro⟩ := compLoop_cons hrs
      obtain ⟨ρ', hbind, _⟩ := turn p o ho
      have EC := comp_env (I := I) (C := C) (D := D) hc hsc EO hcl hcl2 hI hC hD subb hnb
      have kb : KB (I :: C :: D :: X) h' hb := fun b o hx e => hkb b o (fun q => hx (List.mem_singleton.mp q ▸ .head _)) e
      have lb : hb.IsList D ys.toArray := hl.at fun o e => hkb D o (not_one hID) e
      have XB : XOK (I :: C :: D :: X) hb := all3 (let ⟨o, ho, _, q, _⟩ := IT.kind _ _ hstb; ⟨o, ho, .of_cls q⟩) (NoTup.ns hnb) (NoTup.list lb) (XO.sub subb)
      have go : Goes X s.heap (I :: C :: D :: X) hb := .more (all3 (.inr hI) (.inr hC) (.inr hD) fun _ ha => .inl ha) (.of_sub subb)
      refine assign_sound (s := { s with heap := hb, toks := tkb }) RO.handled (relabel_names EO.kind hsc) stor hbind EC XB (Rep.go go _ _ (IT.rep i v p hPv hp)) fun h'' tk'' kl EC'' XO'' => ?_
      have keep : ∀ b o, b ≠ C → hb.get? b = some o → h''.get? b = some o := fun b o hbC e => kl b o hbC (fun x hx hk => by
        have hl := compOk_local hc x hx
        have : (compEnvC scope cl C env).kindOf x = some .local := by
          show (compEnvC scope cl C env).scope.names.lookup x = _
          rw [show (compEnvC scope cl C env).scope.names = relab scope.names sc from relabel_names EO.kind hsc, relab_lookup, hl]; rfl
        rw [this] at hk; cases hk) e
      have sub'' : Sub s.heap h'' := fun b o e => keep b o (fun q => by rw [q, hC] at e; cases e) (subb b o e)
      have l'' : h''.IsList D ys.toArray := lb.at fun o e => keep D o hDC e
      have st'' : St (i + 1) h'' := IT.walks.frame _ _ _ hstb fun b hbf o e => keep b o (fun q => hCf (q ▸ hbf)) e
      obtain ⟨m'', hn'', _⟩ := EC''.ns
      have r'' : RepL (I :: C :: D :: X) h'' qs ys := RepL.go (.kb fun b o hx e => (EC.kb kl) b o hx (kb b o hx e)) _ _ hr
      exact h h'' tk'' ρ' o ho hbind EC'' ⟨hlt, st'', sub'', ⟨m'', hn''⟩, ys, qs, rest, l'', r'', hlen, hrest, by rw [hps, hro]⟩
    -- no item is left
    have last : ∀ (h' : Heap) (tk : Nat) (h₃ : Heap) (tk₃ : Nat), CInv s X I C D St items ps f h' items.length → (∀ b o, b ∉ [I] → h'.get? b = some o → h₃.get? b = some o) → R (.ref D) C (.ok .next) { s with heap := h₃, toks := tk₃ } := by
      intro h' tk h₃ tk₃ V hk
      obtain ⟨m, hn⟩ := V.ns
      obtain ⟨ys, qs, rs, hl, hr, hlen, hrs, hps⟩ := V.acc
      have : rs = [] := by
        rw [List.drop_length] at hrs
        simpa [compLoop] using hrs.symm
      subst this
      rw [List.append_nil] at hps
      subst hps
      exact fin D C h₃ tk₃ m ys (fun b o e => hk b o (fun hm => by rw [List.mem_singleton.mp hm, hI] at e; cases e) (V.sub b o e)) hD hC (Ne.symm hDC) (hn.at' fun o e => hk C o (not_one hIC) e)
        (hl.at fun o e => hk D o (not_one hID) e) (RepL.go (.kb fun b o hx e => hk b o (fun q => hx (List.mem_singleton.mp q ▸ .head _)) e) _ _ hr)
    have again : ∀ (h' : Heap) (tk i : Nat), CInv s X I C D St items ps f h' (i + 1) → ∃ m, m < items.length + 1 - i ∧ ∃ h'' tk' j, ({ s with heap := h', toks := tk } : Shared) = { s with heap := h'', toks := tk' } ∧ m = items.length + 1 - j ∧ CInv s X I C D St items ps f h'' j := fun h' tk i V =>
      ⟨items.length + 1 - (i + 1), again_lt V.le, h', tk, i + 1, rfl, rfl, V⟩
    rcases hifs with ⟨x, px, rfl, hlen1⟩ | ⟨es, kk, px, rfl, rfl⟩
    · refine codeAny_compLoop_tests (fun k s' => ∃ h' tk i, s' = { s with heap := h', toks := tk } ∧ k = items.length + 1 - i ∧ CInv s X I C D St items ps f h' i) ?_ (items.length + 1) ⟨h₁, _, 0, rfl, rfl, inv0⟩
      rintro k s' ⟨h', tk, i, rfl, rfl, V⟩
      by_cases hlt : i < items.length
      · refine IT.walks.item i _ _ _ hlt V.st fun v hb tkb hPv hstb hkb => ?_
        refine bind h' tk i v hb tkb items[i] _ _ V (List.getElem?_eq_getElem hlt) hPv hstb hkb fun h'' tk'' ρ' o ho hρ EC M => ?_
        obtain ⟨ρ'', hρ'', T⟩ := turn _ o ho
        rw [hρ] at hρ''; cases hρ''
        match ifs, hlen1, o, T with
        | [], _, some y, T =>
          refine wpAny_tests_nil ?_
          rw [if_pos rfl]
          exact step h'' tk'' i ρ' y _ _ M EC T fun h₃ tk₃ V₃ => again h₃ tk₃ i V₃
        | [t], _, some y, T =>
          refine wpAny_tests_one (T.1 _ A _ (I :: C :: D :: X) _ _ (relabel_names EO.kind hsc) EC (xok h'' i _ M) xb' (hB.trans M.sub) RO fun h₃ tk₃ s₃ => ?_)
          rw [if_pos rfl]
          exact step h₃ tk₃ i ρ' y _ _ (mmono _ _ _ _ M s₃) (EC.mono s₃) T.2 fun h₄ tk₄ V₄ => again h₄ tk₄ i V₄
        | [t], _, none, T =>
          refine wpAny_tests_one (T _ A _ (I :: C :: D :: X) _ _ (relabel_names EO.kind hsc) EC (xok h'' i _ M) xb' (hB.trans M.sub) RO fun h₃ tk₃ s₃ => ?_)
          rw [if_neg Bool.false_ne_true]
          exact again h₃ tk₃ i (skip _ _ (mmono _ _ _ _ M s₃))
      · obtain rfl : i = items.length := Nat.le_antisymm V.le (Nat.not_lt.mp hlt)
        exact IT.walks.done _ _ _ V.st fun h₃ tk₃ hk₃ => last h' tk h₃ tk₃ V hk₃
    · refine LCp.codeAny_compLoop_pair (fun k s' => ∃ h' tk i, s' = { s with heap := h', toks := tk } ∧ k = items.length + 1 - i ∧ CInv s X I C D St items ps f h' i) ?_ (items.length + 1) ⟨h₁, _, 0, rfl, rfl, inv0⟩
      rintro k s' ⟨h', tk, i, rfl, rfl, V⟩
      by_cases hlt : i < items.length
      · refine IT.walks.item i _ _ _ hlt V.st fun v hb tkb hPv hstb hkb => ?_
        have hp : items[i]? = some items[i] := List.getElem?_eq_getElem hlt
        have hrep := IT.rep i v _ hPv hp
        obtain ⟨ys, qs, rs, _, _, _, hrs, _⟩ := V.acc
        have hdrop : items.drop i = items[i] :: items.drop (i + 1) := List.drop_eq_getElem_cons hlt
        rw [hdrop] at hrs
        obtain ⟨o, rest, ho, _, _⟩ := compLoop_cons hrs
        obtain ⟨ρ₀, hρ₀, _⟩ := turn _ o ho
        obtain ⟨l, hl⟩ : ∃ l, items[i] = .tup l := by
          cases hq : items[i] <;> rw [hq] at hρ₀ <;> simp only [bindT] at hρ₀ <;> first | cases hρ₀ | exact ⟨_, rfl⟩
        have hit : ∃ l j, hb.IsListIter I l j := by
          rcases IT.own with q | q
          · exact q _ _ hstb
          · obtain ⟨k, hk⟩ := q items[i] (List.getElem_mem hlt)
            rw [hl] at hk; cases hk
        obtain ⟨lI, jI, hLi⟩ := hit
        rw [hl] at hrep
        simp only [Rep] at hrep
        obtain ⟨r, vs, rfl, _⟩ := hrep
        refine wpAny_letOwnedTupleGo_listiter hLi ?_
        refine bind h' tk i _ hb tkb items[i] _ _ V hp hPv hstb hkb fun h'' tk'' ρ' o ho hρ EC M => ?_
        obtain ⟨ρ'', hρ'', T⟩ := turn _ o ho
        rw [hρ] at hρ''; cases hρ''
        match o, T with
        | some y, T => exact step h'' tk'' i ρ' y _ _ M EC T fun h₃ tk₃ V₃ => again h₃ tk₃ i V₃
      · obtain rfl : i = items.length := Nat.le_antisymm V.le (Nat.not_lt.mp hlt)
        exact IT.walks.done _ _ _ V.st fun h₃ tk₃ hk₃ => last h' tk h₃ tk₃ V hk₃
  exact codeAny_compStart_list (loop _ rfl) (IT.walks.self 0 _ _ _ inv0.st (loop _ rfl))
end
end Mine
end

section
open PySem PyProof.Rows
set_option linter.unusedVariables false
set_option linter.unusedSimpArgs false
namespace Mine

noncomputable def EsSound (prog : Program) (w : World) (B : Heap) (d : Nat) (es : List Expr) (sc : Sc) (ρ : Rho) (ps : List PV) : Prop :=
  ∀ (env : Env) (A : Around) (s : Shared) (X : List Addr) (Q : List Value → Shared → Prop) (E : Value → Shared → Prop) (pos : Pos), env.scope.names = sc → EnvOK X s.heap env ρ → XOK X s.heap → (∀ a ∈ X, B.get? a = none) → Sub B s.heap → Room A d →
    (∀ vs h' tk, Sub s.heap h' → RepL X h' ps vs → Q vs { s with heap := h', toks := tk }) → wpAny (model prog w) A (spliced (backTo pos (starEach es env))) Q E s
noncomputable def PartSound (prog : Program) (w : World) (B : Heap) (d : Nat) (x : Option Expr) (sc : Sc) (ρ : Rho) (k : Option Int) : Prop :=
  ∀ (env : Env) (A : Around) (s : Shared) (X : List Addr) (Q : Value → Shared → Prop) (E : Value → Shared → Prop), env.scope.names = sc → EnvOK X s.heap env ρ → XOK X s.heap → (∀ a ∈ X, B.get? a = none) → Sub B s.heap → Room A d →
    (∀ v h' tk, Sub s.heap h' → IsPart v k → (x = none → v = .none) → Q v { s with heap := h', toks := tk }) → wpAny (model prog w) A (evalPart x env) Q E s
noncomputable def ChainSound (prog : Program) (w : World) (B : Heap) (d : Nat) (ops : List CmpOp) (rs : List Expr) (sc : Sc) (ρ : Rho) (a : PV) (b : Bool) : Prop :=
  ∀ (env : Env) (A : Around) (s : Shared) (X : List Addr) (E : Value → Shared → Prop) (pos : Pos) (va : Value), env.scope.names = sc → EnvOK X s.heap env ρ → XOK X s.heap → (∀ a ∈ X, B.get? a = none) → Sub B s.heap → Room A d → Rep X s.heap a va →
    (∀ (Q : Value → Shared → Prop), Post X s (.bool b) Q → wpAny (model prog w) A (compareChain pos va ops (evalEach rs env)) Q E s) ∧
    (∀ (Q : Bool → Shared → Prop), PostB s b Q → wpAny (model prog w) A (testChain pos va ops (evalEach rs env)) Q E s)
noncomputable def BoolSound (prog : Program) (w : World) (B : Heap) (d : Nat) (op : BoolOp) (vs : List Expr) (sc : Sc) (ρ : Rho) (pv : PV) : Prop :=
  ∀ (env : Env) (A : Around) (s : Shared) (X : List Addr) (Q E : Value → Shared → Prop) (pos : Pos), env.scope.names = sc → EnvOK X s.heap env ρ → XOK X s.heap → (∀ a ∈ X, B.get? a = none) → Sub B s.heap → Room A d → Post X s pv Q →
    wpAny (model prog w) A (boolOp pos op (evalEach vs env)) Q E s
noncomputable def AllSound (prog : Program) (w : World) (B : Heap) (d : Nat) (op : BoolOp) (vs : List Expr) (sc : Sc) (ρ : Rho) (b : Bool) : Prop :=
  ∀ (env : Env) (A : Around) (s : Shared) (X : List Addr) (Q : Bool → Shared → Prop) (E : Value → Shared → Prop), env.scope.names = sc → EnvOK X s.heap env ρ → XOK X s.heap → (∀ a ∈ X, B.get? a = none) → Sub B s.heap → Room A d → PostB s b Q →
    wpAny (model prog w) A (allTrue op vs env) Q E s

/-- all the evaluator says with n of fuel is so -/
structure SN (prog : Program) (w : World) (G : Gl) (B : Heap) (d n : Nat) : Prop where
  e : ∀ e sc ρ pv, evalE G n sc ρ e = some pv → ESound prog w B d e sc ρ pv
  es : ∀ es sc ρ ps, evalEs G n sc ρ es = some ps → EsSound prog w B d es sc ρ ps
  part : ∀ x sc ρ k, partE G n sc ρ x = some k → PartSound prog w B d x sc ρ k
  chain : ∀ ops rs sc ρ a b, chainE G n sc ρ a ops rs = some b → ChainSound prog w B d ops rs sc ρ a b
  bool : ∀ op vs sc ρ pv, boolE G n sc ρ op vs = some pv → BoolSound prog w B d op vs sc ρ pv
  truth : ∀ e sc ρ b, truthE G n sc ρ e = some b → TSound prog w B d e sc ρ b
  all : ∀ op vs sc ρ b, allE G n sc ρ op vs = some b → AllSound prog w B d op vs sc ρ b

section
variable {prog : Program} {w : World} {A : Around} {E : Value → Shared → Prop} {s : Shared} {X : List Addr} {G : Gl} {B : Heap} {d n : Nat} {env : Env} {ρ : Rho} {sc : Sc}

theorem Room.units' (R : Room A d) : A.units + 64 < cLine := by have := R.units; omega

theorem starEach_cons {e : Expr} {r : List Expr} (h : ∀ x p, e ≠ .Starred x p) : starEach (e :: r) env = (false, eval e env) :: starEach r env := by
  cases e <;> first | rfl | exact absurd rfl (h _ _)
theorem evalE_star {e : Expr} {pv : PV} (h : evalE G n sc ρ e = some pv) : ∀ x p, e ≠ .Starred x p := by
  rintro x p rfl; cases n <;> exact no_some h

theorem truth_sound {p : PV} {b : Bool} {v : Value} {Q : Bool → Shared → Prop} (e : truthPV p = some b) (hr : Rep X s.heap p v) (h : PostB s b Q) : wpAny (model prog w) A (truthy v) Q E s := by
  unfold truthPV at e
  split at e
  · simp only [Rep] at hr; subst hr; cases e; exact wpAny_truthy_bool (h s.heap s.toks (.refl _))
  · simp only [Rep] at hr; obtain ⟨t, rfl⟩ := hr; cases e; exact PyProof.Rows.truthy_int (h s.heap s.toks (.refl _))
  · simp only [Rep] at hr; obtain ⟨t, rfl⟩ := hr
    split at e
    · cases e
      rename_i x hl
      refine SBL.truthy (by omega) ?_
      have : ((x.length : Int) != 0) = (x.length != 0) := by
        rw [Bool.eq_iff_iff]; simp
      rw [this]
      exact h s.heap _ (.refl _)
    · cases e
  · cases e

theorem behind_plain {op : CmpOp} {e : Expr} (h : noSet e = true) (t : Sem Value) : markedBehindIn op e t = t := by
  have : behindInMarks op e = false := by cases e <;> first | rfl | exact no_bool h.symm
  unfold markedBehindIn; rw [this]
theorem marked_plain : ∀ (ops : List CmpOp) (rs : List Expr) (ts : List (Sem Value)) (h : rs.all noSet = true), markedEach ops rs ts = ts
  | [], _, _, _ => rfl
  | [_], [], _, _ => rfl
  | [_], [_], [], _ => rfl
  | [op], [e], [t], h => by
    simp only [List.all_cons, List.all_nil, Bool.and_true] at h
    exact congrArg (fun x => [x]) (behind_plain h t)
  | [_], [_], t :: _ :: _, _ => rfl
  | [_], _ :: _ :: _, [], _ => rfl
  | [_], _ :: e :: es, t :: ts, h => rfl
  | _ :: _ :: _, [], _, _ => rfl
  | _ :: _ :: _, _ :: _, [], _ => rfl
  | _ :: o :: ops, e :: es, t :: ts, h => by
    simp only [List.all_cons, Bool.and_eq_true] at h
    exact congrArg (fun x => t :: x) (marked_plain (o :: ops) es ts h.2)

end
end Mine
end

section
open PySem PyProof.Rows
set_option linter.unusedVariables false
set_option linter.unusedSimpArgs false
namespace Mine
section
variable {prog : Program} {w : World} {G : Gl} {B : Heap} {d n : Nat} {ρ : Rho} {sc : Sc}

theorem es_step (S : SN prog w G B d n) (es : List Expr) (ps : List PV) (h : evalEs G (n + 1) sc ρ es = some ps) : EsSound prog w B d es sc ρ ps := by
  intro env A s X Q E pos hsc EO XO hXB hB RO hQ
  cases es with
  | nil =>
    simp only [evs_nil, evs_cons, Option.some.injEq] at h
    subst h
    exact wpAny_items_nil (hQ [] s.heap s.toks (.refl _) (by simp only [RepL]))
  | cons e r =>
    simp only [evs_nil, evs_cons, Option.bind_eq_some_iff, Option.map_eq_some_iff] at h
    obtain ⟨v, hv, rs, hr, rfl⟩ := h
    refine wpAny_items_cons (S.e _ _ _ _ hv env A s X _ E hsc EO XO hXB hB RO fun v1 h₁ tk₁ s₁ r₁ => ?_) (starEach_cons (evalE_star hv))
    refine S.es _ _ _ _ hr env A { s with heap := h₁, toks := tk₁ } X _ E pos hsc (EO.mono s₁) (XO.sub s₁) hXB (hB.trans s₁) RO fun vs h₂ tk₂ s₂ r₂ => ?_
    exact hQ (v1 :: vs) h₂ tk₂ (s₁.trans s₂) (by simp only [RepL]; exact ⟨_, _, rfl, r₁.mono s₂, r₂⟩)

theorem part_step (S : SN prog w G B d n) (x : Option Expr) (k : Option Int) (h : partE G (n + 1) sc ρ x = some k) : PartSound prog w B d x sc ρ k := by
  intro env A s X Q E hsc EO XO hXB hB RO hQ
  cases x with
  | none =>
    simp only [part_none, part_some, Option.some.injEq] at h
    subst h
    rw [evalPart_none]
    exact wpAny_pure (hQ .none s.heap s.toks (.refl _) .none fun _ => rfl)
  | some e =>
    simp only [part_none, part_some, Option.bind_eq_some_iff] at h
    obtain ⟨v, hv, hp⟩ := h
    rw [evalPart_some]
    refine S.e _ _ _ _ hv env A s X _ E hsc EO XO hXB hB RO fun v1 h₁ tk₁ s₁ r₁ => ?_
    exact hQ v1 h₁ tk₁ s₁ (isPart_of (s := { s with heap := h₁ }) hp r₁) nofun

theorem chain_step (S : SN prog w G B d n) (ops : List CmpOp) (rs : List Expr) (a : PV) (b : Bool) (h : chainE G (n + 1) sc ρ a ops rs = some b) : ChainSound prog w B d ops rs sc ρ a b := by
  intro env A s X E pos va hsc EO XO hXB hB RO ha
  have last : ∀ op r, (evalE G n sc ρ r).bind (fun c => cmpPV op a c) = some b →
      (∀ (Q : Value → Shared → Prop), Post X s (.bool b) Q → wpAny (model prog w) A (compareChain pos va [op] (evalEach [r] env)) Q E s) ∧
      (∀ (Q : Bool → Shared → Prop), PostB s b Q → wpAny (model prog w) A (testChain pos va [op] (evalEach [r] env)) Q E s) := by
    intro op r h
    simp only [Option.bind_eq_some_iff] at h
    obtain ⟨c, hc, hb⟩ := h
    refine ⟨fun Q hQ => ?_, fun Q hQ => ?_⟩
    · refine chain_last (S.e _ _ _ _ hc env A s X _ E hsc EO XO hXB hB RO fun v1 h₁ tk₁ s₁ r₁ => ?_)
      exact cmpPV_sound (s := { s with heap := h₁, toks := tk₁ }) hb (ha.mono s₁) r₁ RO.units' (hQ _ h₁ tk₁ s₁ (by simp only [Rep]))
    · refine test_last (S.e _ _ _ _ hc env A s X _ E hsc EO XO hXB hB RO fun v1 h₁ tk₁ s₁ r₁ => ?_)
      exact cmpPV_sound (s := { s with heap := h₁, toks := tk₁ }) hb (ha.mono s₁) r₁ RO.units' (wpAny_truthy_bool (hQ h₁ tk₁ s₁))
  match ops, rs, h with
  | [op], [r], h => exact last op r h
  | op :: op' :: ops, r :: r' :: rs, h =>
    simp only [chain_one, chain_more, Option.bind_eq_some_iff] at h
    obtain ⟨c, hc, t, ht, h⟩ := h
    refine ⟨fun Q hQ => ?_, fun Q hQ => ?_⟩
    · refine chain_link (r' := eval r' env) (rs := evalEach rs env) (S.e _ _ _ _ hc env A s X _ E hsc EO XO hXB hB RO fun v1 h₁ tk₁ s₁ r₁ => ?_)
      refine cmpPV_sound (s := { s with heap := h₁, toks := tk₁ }) ht (ha.mono s₁) r₁ RO.units' (wpAny_truthy_bool ?_)
      cases t with
      | true =>
        rw [if_pos rfl] at h ⊢
        exact (S.chain _ _ _ _ _ _ h env A { s with heap := h₁, toks := tk₁ } X E pos v1 hsc (EO.mono s₁) (XO.sub s₁) hXB (hB.trans s₁) RO r₁).1 Q fun v h₂ tk₂ s₂ r₂ => hQ v h₂ tk₂ (s₁.trans s₂) r₂
      | false =>
        rw [if_neg Bool.false_ne_true] at h ⊢
        cases h
        exact hQ _ h₁ tk₁ s₁ (by simp only [Rep])
    · refine test_link (r' := eval r' env) (rs := evalEach rs env) (S.e _ _ _ _ hc env A s X _ E hsc EO XO hXB hB RO fun v1 h₁ tk₁ s₁ r₁ => ?_)
      refine cmpPV_sound (s := { s with heap := h₁, toks := tk₁ }) ht (ha.mono s₁) r₁ RO.units' (wpAny_truthy_bool ?_)
      cases t with
      | true =>
        rw [if_pos rfl] at h ⊢
        exact (S.chain _ _ _ _ _ _ h env A { s with heap := h₁, toks := tk₁ } X E pos v1 hsc (EO.mono s₁) (XO.sub s₁) hXB (hB.trans s₁) RO r₁).2 Q fun h₂ tk₂ s₂ => hQ h₂ tk₂ (s₁.trans s₂)
      | false =>
        rw [if_neg Bool.false_ne_true] at h ⊢
        cases h
        exact hQ h₁ tk₁ s₁
  | [], [], h => exact no_some h
  | [], _ :: _, h => exact no_some h
  | [_], [], h => exact no_some h
  | _ :: _ :: _, [], h => exact no_some h
  | [_], _ :: _ :: _, h => exact no_some h
  | _ :: _ :: _, [_], h => exact no_some h

theorem boolOp_cons {M : Model} {A : Around} {E : Value → Shared → Prop} {s : Shared} {x y : Sem Value} {rest : List (Sem Value)} {pos : Pos} {op : BoolOp} {Q : Value → Shared → Prop}
    (h : wpAny M A x (fun v s₁ => wpAny M A (truthy v) (fun t s₂ => match op, t with | .And, false => Q v s₂ | .Or, true => Q v s₂ | _, _ => wpAny M A (boolOp pos op (y :: rest)) Q E s₂) E s₁) E s) :
    wpAny M A (boolOp pos op (x :: y :: rest)) Q E s := by
  show wpAny M A (Bind.bind x _) Q E s
  refine wpAny_bind (wpAny_mono h (fun v s₁ h₁ => wpAny_bind (wpAny_standAt (wpAny_bind (wpAny_holding (wpAny_mono h₁ (fun t s₂ h₂ => ?_) fun _ _ e => e))))) fun _ _ e => e)
  cases op <;> cases t <;> first | exact wpAny_pure h₂ | exact h₂

theorem bool_step (S : SN prog w G B d n) (op : BoolOp) (vs : List Expr) (pv : PV) (h : boolE G (n + 1) sc ρ op vs = some pv) : BoolSound prog w B d op vs sc ρ pv := by
  intro env A s X Q E pos hsc EO XO hXB hB RO hQ
  match vs, h with
  | [], h => exact no_some h
  | [e], h =>
    simp only [bool_one, bool_more] at h
    exact S.e _ _ _ _ h env A s X Q E hsc EO XO hXB hB RO hQ
  | e :: e' :: r, h =>
    simp only [bool_one, bool_more, Option.bind_eq_some_iff] at h
    obtain ⟨v, hv, b, hb, h⟩ := h
    show wpAny _ A (boolOp pos op (eval e env :: eval e' env :: evalEach r env)) Q E s
    refine boolOp_cons (S.e _ _ _ _ hv env A s X _ E hsc EO XO hXB hB RO fun v1 h₁ tk₁ s₁ r₁ => truth_sound (s := { s with heap := h₁, toks := tk₁ }) hb r₁ fun h₂ tk₂ s₂ => ?_)
    have rcr : boolE G n sc ρ op (e' :: r) = some pv → wpAny (model prog w) A (boolOp pos op (evalEach (e' :: r) env)) Q E { s with heap := h₂, toks := tk₂ } := fun h =>
      S.bool _ _ _ _ _ h env A { s with heap := h₂, toks := tk₂ } X Q E pos hsc (EO.mono (s₁.trans s₂)) (XO.sub (s₁.trans s₂)) hXB (hB.trans (s₁.trans s₂)) RO fun v h₃ tk₃ s₃ r₃ => hQ v h₃ tk₃ ((s₁.trans s₂).trans s₃) r₃
    cases op <;> cases b <;> simp only at h ⊢
    · cases h; exact hQ v1 h₂ tk₂ (s₁.trans s₂) (r₁.mono s₂)
    · exact rcr h
    · exact rcr h
    · cases h; exact hQ v1 h₂ tk₂ (s₁.trans s₂) (r₁.mono s₂)

theorem all_step (S : SN prog w G B d n) (op : BoolOp) (vs : List Expr) (b : Bool) (h : allE G (n + 1) sc ρ op vs = some b) : AllSound prog w B d op vs sc ρ b := by
  intro env A s X Q E hsc EO XO hXB hB RO hQ
  cases vs with
  | nil =>
    simp only [all_nil, all_cons, Option.some.injEq] at h
    subst h
    exact wpAny_pure (hQ s.heap s.toks (.refl _))
  | cons e r =>
    simp only [all_nil, all_cons, Option.bind_eq_some_iff] at h
    obtain ⟨t, ht, h⟩ := h
    have rcr : ∀ h₁ tk₁, Sub s.heap h₁ → allE G n sc ρ op r = some b → wpAny (model prog w) A (allTrue op r env) Q E { s with heap := h₁, toks := tk₁ } := fun h₁ tk₁ s₁ h =>
      S.all _ _ _ _ _ h env A { s with heap := h₁, toks := tk₁ } X Q E hsc (EO.mono s₁) (XO.sub s₁) hXB (hB.trans s₁) RO fun h₃ tk₃ s₃ => hQ h₃ tk₃ (s₁.trans s₃)
    cases op
    · refine wpAny_allTrue_And_cons (S.truth _ _ _ _ ht env A s X _ E hsc EO XO hXB hB RO fun h₁ tk₁ s₁ => ?_)
      cases t <;> simp only at h
      · rw [if_neg Bool.false_ne_true]; cases h; exact hQ h₁ tk₁ s₁
      · rw [if_pos rfl]; exact rcr h₁ tk₁ s₁ h
    · refine wpAny_allTrue_Or_cons (S.truth _ _ _ _ ht env A s X _ E hsc EO XO hXB hB RO fun h₁ tk₁ s₁ => ?_)
      cases t <;> simp only at h
      · rw [if_neg Bool.false_ne_true]; exact rcr h₁ tk₁ s₁ h
      · rw [if_pos rfl]; cases h; exact hQ h₁ tk₁ s₁

theorem truth_step (S : SN prog w G B d n) (e : Expr) (b : Bool) (h : truthE G (n + 1) sc ρ e = some b) : TSound prog w B d e sc ρ b := by
  intro env A s X Q E hsc EO XO hXB hB RO hQ
  have plain : ∀ (he : isTrue e env (eval e env) = (do let v ← eval e env; standAt e.pos; holding [v] (truthy v))), (evalE G n sc ρ e).bind truthPV = some b → wpAny (model prog w) A (isTrue e env (eval e env)) Q E s := fun he h => by
    simp only [Option.bind_eq_some_iff] at h
    obtain ⟨v, hv, hb⟩ := h
    exact wpAny_isTrue_value (S.e _ _ _ _ hv env A s X _ E hsc EO XO hXB hB RO fun v1 h₁ tk₁ s₁ r₁ => truth_sound (s := { s with heap := h₁, toks := tk₁ }) hb r₁ fun h₂ tk₂ s₂ => hQ h₂ tk₂ (s₁.trans s₂)) he
  cases e
  case UnaryOp op x p =>
    cases op
    case Not =>
      simp only [truth_Not, truth_BoolOp, truth_Compare, Option.map_eq_some_iff] at h
      obtain ⟨t, ht, rfl⟩ := h
      exact wpAny_isTrue_Not (S.truth _ _ _ _ ht env A s X _ E hsc EO XO hXB hB RO fun h₁ tk₁ s₁ => hQ h₁ tk₁ s₁)
    all_goals exact plain rfl h
  case BoolOp op vs p =>
    simp only [truth_Not, truth_BoolOp, truth_Compare] at h
    exact wpAny_isTrue_BoolOp (S.all _ _ _ _ _ h env A s X _ E hsc EO XO hXB hB RO hQ)
  case Compare l ops rs p =>
    simp only [truth_Not, truth_BoolOp, truth_Compare] at h
    split at h
    · rename_i hns
      simp only [Option.bind_eq_some_iff] at h
      obtain ⟨a, ha, h⟩ := h
      rw [arm_isTrue_Compare, marked_plain _ _ _ hns]
      refine wpAny_bind (S.e _ _ _ _ ha env A s X _ E hsc EO XO hXB hB RO fun v1 h₁ tk₁ s₁ r₁ => ?_)
      exact (S.chain _ _ _ _ _ _ h env A { s with heap := h₁, toks := tk₁ } X E p v1 hsc (EO.mono s₁) (XO.sub s₁) hXB (hB.trans s₁) RO r₁).2 Q fun h₂ tk₂ s₂ => hQ h₂ tk₂ (s₁.trans s₂)
    · cases h
  case IfExp => exact no_some h
  all_goals exact plain rfl h
end
end Mine
end

section
open PySem PyProof.Rows
set_option linter.unusedVariables false
set_option linter.unusedSimpArgs false
namespace Mine
section
variable {prog : Program} {w : World} {G : Gl} {B : Heap} {d n : Nat} {ρ : Rho} {sc : Sc}

theorem debug_ne {x : Str} (h : ¬ x = ("__debug__" : Str)) : (x == ("__debug__" : Str)) = false := beq_eq_false_iff_ne.mpr h

theorem const_sound {env : Env} {A : Around} {s : Shared} {X : List Addr} {Q E : Value → Shared → Prop} {c : Const} {k : Nat} {p : Pos} {pv : PV} (h : constPV c = some pv) (hQ : Post X s pv Q) : wpAny (model prog w) A (eval (.Constant c k p) env) Q E s := by
  unfold constPV at h
  split at h
  · cases h; exact wpAny_Constant_none (hQ.same (by simp only [Rep]))
  · cases h; exact wpAny_Constant_bool (hQ.same (by simp only [Rep]))
  · cases h; exact wpAny_Constant_int (hQ.int _ _)
  · cases h; exact fun _ _ _ => hQ.flt _ _
  · cases h; exact wpAny_Constant_str (hQ.str _ _)
  · cases h

/-- a call of a value upon what the arguments give -/
theorem callV_sound {A : Around} {s : Shared} {X : List Addr} {Q E : Value → Shared → Prop} {env : Env} {fv r : PV} {f : Value} {args : List Expr} {ps : List PV} {pos : Pos} (GO : GlOK prog w G B d) (hne : args.isEmpty = false)
    (hstar : ∀ e ∈ args, ∀ x p, e ≠ .Starred x p) (hargs : EsSound prog w B d args sc ρ ps) (hc : callV G fv ps = some r)
    (hsc : env.scope.names = sc) (EO : EnvOK X s.heap env ρ) (XO : XOK X s.heap) (hXB : ∀ a ∈ X, B.get? a = none) (hB : Sub B s.heap) (RO : Room A d) (hf : Rep X s.heap fv f) (hQ : Post X s r Q) :
    wpAny (model prog w) A (callWith pos f [] (backTo pos (starEach args env)) []) Q E s := by
  have hany : ∀ l : List Expr, (∀ e ∈ l, ∀ x p, e ≠ .Starred x p) → (backTo pos (starEach l env)).any (·.1) = false := by
    intro l
    induction l with
    | nil => intro _; rfl
    | cons e r ih =>
      intro h
      rw [starEach_cons (h e List.mem_cons_self)]
      show (false || (backTo pos (starEach r env)).any (·.1)) = false
      rw [Bool.false_or]
      exact ih fun e he => h e (List.mem_cons_of_mem _ he)
  have hp := hany args hstar
  obtain ⟨e, r', rfl⟩ : ∃ e r', args = e :: r' := by
    cases args with
    | nil => simp at hne
    | cons e r => exact ⟨e, r, rfl⟩
  have hst : backTo pos (starEach (e :: r') env) = (false, eval e env) :: backTo pos (starEach r' env) := by
    rw [starEach_cons (hstar e List.mem_cons_self)]; rfl
  have args_ok : ∀ (f : Value) (Q' : Args → Shared → Prop), (∀ vs h' tk, Sub s.heap h' → RepL X h' ps vs → Q' ⟨vs, []⟩ { s with heap := h', toks := tk }) → wpAny (model prog w) A (evalArgs f true (backTo pos (starEach (e :: r') env)) []) Q' E s := fun f Q' h => by
    rw [hst]
    refine Calls.evalArgs_plain ?_
    rw [← hst]
    exact hargs env A s X _ E pos hsc EO XO hXB hB RO h
  cases fv <;> simp only [callV] at hc <;> first | cases hc | skip
  · simp only [Rep] at hf; subst hf
    obtain ⟨o, fd, ho, hfd⟩ := GO.fn _ _ _ hc
    refine Calls.callWith_function (args_ok _ _ fun vs h₁ tk₁ s₁ r₁ => ⟨⟨s₁ _ _ (hB _ _ ho), hfd⟩, ?_⟩)
    exact GO.call _ _ _ hc A { s with heap := h₁, toks := tk₁ } X vs Q E RO (hB.trans s₁) (XO.sub s₁) hXB r₁ fun v h₂ tk₂ s₂ r₂ => hQ v h₂ tk₂ (s₁.trans s₂) r₂
  · simp only [Rep] at hf; subst hf
    refine Calls.callWith_builtin hp (args_ok _ _ fun vs h₁ tk₁ s₁ r₁ => ?_)
    exact callB_sound (s := { s with heap := h₁, toks := tk₁ }) RO.handled hc r₁ fun v h₂ tk₂ s₂ r₂ => hQ v h₂ tk₂ (s₁.trans s₂) r₂
  · simp only [Rep] at hf; subst hf
    refine PyProof.Rows.callWith_type hp (args_ok _ _ fun vs h₁ tk₁ s₁ r₁ => ?_)
    exact callT_sound (s := { s with heap := h₁, toks := tk₁ }) (XO.sub s₁) RO.handled hc r₁ fun v h₂ tk₂ s₂ r₂ => hQ v h₂ tk₂ (s₁.trans s₂) r₂

theorem evalEs_star : ∀ {n : Nat} {es : List Expr} {ps : List PV}, evalEs G n sc ρ es = some ps → ∀ e ∈ es, ∀ x p, e ≠ .Starred x p
  | 0, _, _, h => by exact no_some h
  | n + 1, [], _, _ => fun e he => by cases he
  | n + 1, e :: r, _, h => by
    simp only [evs_nil, evs_cons, Option.bind_eq_some_iff, Option.map_eq_some_iff] at h
    obtain ⟨v, hv, rs, hr, rfl⟩ := h
    intro e' he'
    rcases List.mem_cons.mp he' with rfl | he'
    · exact evalE_star hv
    · exact evalEs_star hr e' he'

theorem evalE_set {n : Nat} {e : Expr} {pv : PV} (h : evalE G n sc ρ e = some pv) : ∀ env x, foldedSetIterable e env x = pure x := by
  intro env x
  cases e <;> first | rfl | (cases n <;> exact no_some h)

/-- a comprehension, its end open -/
theorem comp_eval (S : SN prog w G B d n) {elt target iter : Expr} {ifs : List Expr} {cs : Scope} {p cp : Pos} {pv : PV} {use : Option (Value → Sem Unit)} {A : Around} {s : Shared} {X : List Addr} {Q E : Value → Shared → Prop} {env : Env}
    (h : evalE G (n + 1) sc ρ (.ListComp elt [⟨target, iter, ifs, 0⟩] cs p) = some pv)
    (hsc : env.scope.names = sc) (EO : EnvOK X s.heap env ρ) (XO : XOK X s.heap) (hXB : ∀ a ∈ X, B.get? a = none) (hB : Sub B s.heap) (RO : Room A d)
    (fin : ∀ D C h' tk m, Sub s.heap h' → s.heap.get? C = none → C ≠ D → s.heap.get? D = none → h'.Ns C m → Rep (C :: X) h' pv (.ref D) → compPost (model prog w) A E use Q (.ref D) C (.ok .next) { s with heap := h', toks := tk }) :
    wpAny (model prog w) A (comprehension (.ListComp elt [⟨target, iter, ifs, 0⟩] cs p) cs env cp (newList []) false (eval iter env) use) Q E s := by
  simp only [ev_Constant, ev_Name, ev_BinOp, ev_IfExp, ev_BoolOp, ev_Compare, ev_List, ev_Tuple, ev_ListComp, ev_Call, ev_Meth, ev_Slice] at h
  split at h
  · rename_i hok
    simp only [Bool.and_eq_true] at hok
    simp only [Option.bind_eq_some_iff, Option.map_eq_some_iff] at h
    obtain ⟨it, hit, items, hitems, ps, hps, rfl⟩ := h
    have hc := hok.1
    obtain ⟨cl, hcl, hcl1, hcl2⟩ := closure_ok (env := env) (scope := cs) fun y hy hf => by
      obtain ⟨c, v, hc', _⟩ := EO.cell y.1 (by show env.scope.names.lookup y.1 = _; rw [hsc]; exact (compOk_names hc y hy).2.1 hf)
      exact ⟨c, hc'⟩
    refine wpAny_comprehension_free (use := use) rfl (evalE_set hit env) hcl (compOk_kind hc) (fun y hy hl => by rw [(compOk_names hc y hy).2.2, hl]) ?_
    refine S.e _ _ _ _ hit env A s X _ E hsc EO XO hXB hB RO fun vi h₁ tk₁ s₁ r₁ => ?_
    refine iter_sound (s := { s with heap := h₁, toks := tk₁ }) RO.handled hitems r₁ fun I fp P St h₂ IT => ?_
    have hsz : items.length ≤ 1000 := by
      unfold itemsOf at hitems
      split at hitems
      · split at hitems
        · cases hitems; assumption
        · cases hitems
      · split at hitems
        · rename_i q; cases hitems; rw [List.length_map]; exact q.2
        · cases hitems
      · cases hitems
    refine comp_core (s := { s with heap := h₁, toks := tk₁ }) (R := compPost (model prog w) A E use Q) RO IT (EO.mono s₁) (XO.sub s₁) hXB (hB.trans s₁) hcl1 hcl2 hc hsc hps hsz ?_ ?_ ?_
    · have ht := hok.2
      unfold compOk at hc
      simp only [Bool.and_eq_true] at hc
      have hc2 := hc.2
      cases target <;> simp only at hc2 <;> first | cases hc2 | skip
      · match ifs, ht with
        | [], _ => exact .inl ⟨_, _, rfl, by simp⟩
        | [_], _ => exact .inl ⟨_, _, rfl, by simp⟩
        | _ :: _ :: _, ht => simp [ifsOk] at ht
      · match ifs, ht with
        | [], _ => exact .inr ⟨_, _, _, rfl, rfl⟩
        | _ :: _, ht => simp [ifsOk] at ht
    · intro q o ho
      simp only [Option.bind_eq_some_iff] at ho
      obtain ⟨ρ', hρ', ho⟩ := ho
      refine ⟨ρ', hρ', ?_⟩
      have ht := hok.2
      match ifs, ht, ho with
      | [], _, ho =>
        simp only [elemE, Option.map_eq_some_iff] at ho
        obtain ⟨y, hy, rfl⟩ := ho
        exact S.e _ _ _ _ hy
      | [t], _, ho =>
        simp only [elemE, Option.bind_eq_some_iff] at ho
        obtain ⟨b, hb, ho⟩ := ho
        cases b with
        | true =>
          rw [if_pos rfl] at ho
          simp only [Option.map_eq_some_iff] at ho
          obtain ⟨y, hy, rfl⟩ := ho
          exact ⟨S.truth _ _ _ _ hb, S.e _ _ _ _ hy⟩
        | false =>
          rw [if_neg Bool.false_ne_true] at ho
          cases ho
          exact S.truth _ _ _ _ hb
      | _ :: _ :: _, ht, _ => cases target <;> simp [ifsOk] at ht
    · intro D C h' tk m ys sub hD hC hCD hn hl hr
      have hD0 : s.heap.get? D = none := by
        cases q : s.heap.get? D with
        | none => rfl
        | some o => rw [s₁ _ _ q] at hD; cases hD
      have hC0 : s.heap.get? C = none := by
        cases q : s.heap.get? C with
        | none => rfl
        | some o => rw [s₁ _ _ q] at hC; cases hC
      refine fin D C h' tk m (s₁.trans sub) hC0 hCD hD0 hn ?_
      simp only [Rep]
      refine ⟨D, ys, rfl, fun q => ?_, hl, RepL.go (fun b o hb e => ⟨fun q => hb ?_, e⟩) _ _ hr⟩
      · rcases List.mem_cons.mp q with q | q
        · exact hCD q.symm
        · exact XO.new hD0 q
      · rcases List.mem_cons.mp q with q | q
        · simp [q]
        · simp [q]
  · cases h

theorem evalEs_length : ∀ {n : Nat} {es : List Expr} {ps : List PV}, evalEs G n sc ρ es = some ps → ps.length = es.length
  | 0, _, _, h => by exact no_some h
  | n + 1, [], _, h => by simp only [evs_nil, evs_cons, Option.some.injEq] at h; subst h; rfl
  | n + 1, e :: r, _, h => by
    simp only [evs_nil, evs_cons, Option.bind_eq_some_iff, Option.map_eq_some_iff] at h
    obtain ⟨v, hv, rs, hr, rfl⟩ := h
    simp [evalEs_length hr]

theorem sub_plain {v i : Expr} {p : Pos} (hi : isSlice i = false) : evalE G (n + 1) sc ρ (.Subscript v i p) = (baseE (evalE G n sc ρ v) (ownL sc ρ v)).bind fun a => (evalE G n sc ρ i).bind fun k => itemPV G a k := by
  cases i <;> first | rfl | exact no_bool hi

theorem ownL_some {v : Expr} {l : List PV} (h : ownL sc ρ v = some l) : ∃ x q, v = .Name x q ∧ ¬ x = ("__debug__" : Str) ∧ sc.lookup x = some .local ∧ ρ x = some (.mlist l) := by
  cases v <;> simp only [ownL] at h <;> first | cases h | skip
  rename_i x q
  split at h
  · cases h
  · rename_i hd
    split at h
    · rename_i l' h1 h2
      cases h
      exact ⟨x, q, rfl, hd, h1, h2⟩
    · cases h

/-- the list that stands in the frame under a name -/
theorem own_load {x : Str} {q : Pos} {l : List PV} {env : Env} {A : Around} {s : Shared} {X : List Addr} {Q E : Value → Shared → Prop} (hd : ¬ x = ("__debug__" : Str)) (hsc : env.scope.names = sc) (EO : EnvOK X s.heap env ρ) (hl : sc.lookup x = some .local) (hx : ρ x = some (.mlist l))
    (h : ∀ r vs, r ∈ X → Own s.heap r vs → RepL X s.heap l vs → (∃ m, s.heap.Ns env.locals m ∧ m x = some (.ref r)) → Q (.ref r) s) : wpAny (model prog w) A (eval (.Name x q) env) Q E s := by
  obtain ⟨m, hn, hm, _⟩ := EO.ns
  have hk : env.kindOf x = some .local := by show env.scope.names.lookup x = _; rw [hsc]; exact hl
  obtain ⟨v, hv, hr⟩ := hm x _ hk hx
  simp only [RepM] at hr
  obtain ⟨r, vs, rfl, hrX, hi, hvs⟩ := hr
  exact wpAny_Name (wpAny_loadName_local EO.kind hk hn hv (h r vs hrX hi hvs ⟨m, hn, hv⟩)) (debug_ne hd)

theorem e_step (GO : GlOK prog w G B d) (S : SN prog w G B d n) (e : Expr) (pv : PV) (h : evalE G (n + 1) sc ρ e = some pv) : ESound prog w B d e sc ρ pv := by
  intro env A s X Q E hsc EO XO hXB hB RO hQ
  have hh := h
  cases e
  case Constant c k p => simp only [ev_Constant, ev_Name, ev_BinOp, ev_IfExp, ev_BoolOp, ev_Compare, ev_List, ev_Tuple, ev_ListComp, ev_Call, ev_Meth, ev_Slice] at h; exact const_sound h hQ
  case Name x p =>
    simp only [ev_Constant, ev_Name, ev_BinOp, ev_IfExp, ev_BoolOp, ev_Compare, ev_List, ev_Tuple, ev_ListComp, ev_Call, ev_Meth, ev_Slice] at h
    split at h
    · cases h
    · rename_i hd
      exact wpAny_Name (nameV_sound GO hB hsc EO h fun v hv => hQ.same hv) (debug_ne hd)
  case BinOp l op r p =>
    simp only [ev_Constant, ev_Name, ev_BinOp, ev_IfExp, ev_BoolOp, ev_Compare, ev_List, ev_Tuple, ev_ListComp, ev_Call, ev_Meth, ev_Slice, Option.bind_eq_some_iff] at h
    obtain ⟨a, ha, b, hb, h⟩ := h
    refine wpAny_BinOp (S.e _ _ _ _ ha env A s X _ E hsc EO XO hXB hB RO fun va h₁ tk₁ s₁ r₁ => ?_)
    refine S.e _ _ _ _ hb env A { s with heap := h₁, toks := tk₁ } X _ E hsc (EO.mono s₁) (XO.sub s₁) hXB (hB.trans s₁) RO fun vb h₂ tk₂ s₂ r₂ => ?_
    exact binOp_sound (s := { s with heap := h₂, toks := tk₂ }) (XO.sub (s₁.trans s₂)) h (r₁.mono s₂) r₂ fun v h₃ tk₃ s₃ r₃ => hQ v h₃ tk₃ ((s₁.trans s₂).trans s₃) r₃
  case IfExp t a b p =>
    simp only [ev_Constant, ev_Name, ev_BinOp, ev_IfExp, ev_BoolOp, ev_Compare, ev_List, ev_Tuple, ev_ListComp, ev_Call, ev_Meth, ev_Slice, Option.bind_eq_some_iff] at h
    obtain ⟨c, hc, h⟩ := h
    refine wpAny_IfExp (S.truth _ _ _ _ hc env A s X _ E hsc EO XO hXB hB RO fun h₁ tk₁ s₁ => ?_)
    cases c with
    | true => rw [if_pos rfl] at h ⊢; exact S.e _ _ _ _ h env A { s with heap := h₁, toks := tk₁ } X _ E hsc (EO.mono s₁) (XO.sub s₁) hXB (hB.trans s₁) RO fun v h₂ tk₂ s₂ r₂ => hQ v h₂ tk₂ (s₁.trans s₂) r₂
    | false => rw [if_neg Bool.false_ne_true] at h ⊢; exact S.e _ _ _ _ h env A { s with heap := h₁, toks := tk₁ } X _ E hsc (EO.mono s₁) (XO.sub s₁) hXB (hB.trans s₁) RO fun v h₂ tk₂ s₂ r₂ => hQ v h₂ tk₂ (s₁.trans s₂) r₂
  case BoolOp op vs p =>
    simp only [ev_Constant, ev_Name, ev_BinOp, ev_IfExp, ev_BoolOp, ev_Compare, ev_List, ev_Tuple, ev_ListComp, ev_Call, ev_Meth, ev_Slice] at h
    rw [arm_eval_BoolOp]
    exact S.bool _ _ _ _ _ h env A s X Q E p hsc EO XO hXB hB RO hQ
  case Compare l ops rs p =>
    simp only [ev_Constant, ev_Name, ev_BinOp, ev_IfExp, ev_BoolOp, ev_Compare, ev_List, ev_Tuple, ev_ListComp, ev_Call, ev_Meth, ev_Slice] at h
    split at h
    · rename_i hns
      simp only [Option.bind_eq_some_iff, Option.map_eq_some_iff] at h
      obtain ⟨a, ha, b, hb, rfl⟩ := h
      rw [arm_eval_Compare, marked_plain _ _ _ hns]
      refine wpAny_bind (S.e _ _ _ _ ha env A s X _ E hsc EO XO hXB hB RO fun v1 h₁ tk₁ s₁ r₁ => ?_)
      exact (S.chain _ _ _ _ _ _ hb env A { s with heap := h₁, toks := tk₁ } X E p v1 hsc (EO.mono s₁) (XO.sub s₁) hXB (hB.trans s₁) RO r₁).1 Q fun v h₂ tk₂ s₂ r₂ => hQ v h₂ tk₂ (s₁.trans s₂) r₂
    · cases h
  case List es p =>
    simp only [ev_Constant, ev_Name, ev_BinOp, ev_IfExp, ev_BoolOp, ev_Compare, ev_List, ev_Tuple, ev_ListComp, ev_Call, ev_Meth, ev_Slice] at h
    split at h
    · rename_i hlen
      simp only [Option.map_eq_some_iff] at h
      obtain ⟨ps, hps, rfl⟩ := h
      refine wpAny_List (S.es _ _ _ _ hps env A s X _ E p hsc EO XO hXB hB RO fun vs h₁ tk₁ s₁ r₁ => ⟨?_, ?_⟩)
      · rw [r₁.length, evalEs_length hps]; exact Nat.le_trans hlen (by decide)
      · exact Post.newList (s := { s with heap := h₁, toks := tk₁ }) (fun v h₂ tk₂ s₂ r₂ => hQ v h₂ tk₂ (s₁.trans s₂) r₂) (XO.sub s₁) r₁
    · cases h
  case Tuple es k p =>
    simp only [ev_Constant, ev_Name, ev_BinOp, ev_IfExp, ev_BoolOp, ev_Compare, ev_List, ev_Tuple, ev_ListComp, ev_Call, ev_Meth, ev_Slice] at h
    split at h
    · rename_i hlen
      simp only [Option.map_eq_some_iff] at h
      obtain ⟨ps, hps, rfl⟩ := h
      refine wpAny_Tuple (S.es _ _ _ _ hps env A s X _ E p hsc EO XO hXB hB RO fun vs h₁ tk₁ s₁ r₁ => ⟨?_, ?_⟩)
      · rw [r₁.length, evalEs_length hps]; exact Nat.le_trans hlen (by decide)
      · exact Post.newTuple (s := { s with heap := h₁, toks := tk₁ }) (fun v h₂ tk₂ s₂ r₂ => hQ v h₂ tk₂ (s₁.trans s₂) r₂) (XO.sub s₁) r₁
    · cases h
  case ListComp elt gens cs p =>
    match gens, h with
    | [⟨target, iter, ifs, 0⟩], h =>
      rw [eval_ListComp]
      refine comp_eval S (use := none) h hsc EO XO hXB hB RO fun D C h' tk m sub hC hCD hD hn rep => ⟨m, hn, fun h'' hs => ?_⟩
      exact hQ _ h'' tk (fun b o e => hs.extBut b o (fun q => by rw [q, hC] at e; cases e) (sub b o e)) (Rep.go (fun b o hb e => ⟨fun q => hb (List.mem_cons_of_mem _ q), hs.extBut b o (fun q => hb (by simp [q])) e⟩) _ _ rep)
  case Call f args kw p =>
    cases f
    case Name x q =>
      cases kw with
      | cons _ _ => exact no_some h
      | nil =>
        simp only [ev_Constant, ev_Name, ev_BinOp, ev_IfExp, ev_BoolOp, ev_Compare, ev_List, ev_Tuple, ev_ListComp, ev_Call, ev_Meth, ev_Slice] at h
        split at h
        · cases h
        · rename_i hd
          simp only [Option.bind_eq_some_iff] at h
          obtain ⟨fv, hf, h⟩ := h
          split at h
          · cases h
          · rename_i hne
            simp only [Bool.or_eq_true, not_or, Bool.not_eq_true] at hne
            simp only [Option.bind_eq_some_iff] at h
            obtain ⟨ps, hps, hc⟩ := h
            refine wpAny_Call_NameR (wpAny_Name (nameV_sound GO hB hsc EO hf fun v hv => ?_) (debug_ne hd))
            exact callV_sound GO hne.1 (evalEs_star hps) (S.es _ _ _ _ hps) hc hsc EO XO hXB hB RO hv hQ
    case Attribute o m ap =>
      cases o
      case Name x q =>
        cases args with
        | cons _ _ => exact no_some h
        | nil =>
          cases kw with
          | cons _ _ => exact no_some h
          | nil =>
            simp only [ev_Constant, ev_Name, ev_BinOp, ev_IfExp, ev_BoolOp, ev_Compare, ev_List, ev_Tuple, ev_ListComp, ev_Call, ev_Meth, ev_Slice] at h
            split at h
            · cases h
            · rename_i hd
              simp only [not_or, Bool.not_eq_false, Decidable.not_not] at hd
              obtain ⟨hd, hline, rfl⟩ := hd
              simp only [Option.bind_eq_some_iff] at h
              obtain ⟨v, hv, hl⟩ := h
              refine Call_method0 rfl hline (wpAny_Name (nameV_sound GO hB hsc EO hv fun v' hv' => ?_) (debug_ne hd))
              cases v <;> simp only [lowerV] at hl <;> first | cases hl | skip
              simp only [Rep] at hv'
              obtain ⟨t, rfl⟩ := hv'
              exact lowerA_sound hl hQ
      all_goals exact no_some h
    all_goals exact no_some h
  case Subscript v i p =>
    by_cases hi : isSlice i = true
    · cases i <;> simp only [isSlice] at hi <;> first | cases hi | skip
      rename_i lo hi' st q
      simp only [ev_Constant, ev_Name, ev_BinOp, ev_IfExp, ev_BoolOp, ev_Compare, ev_List, ev_Tuple, ev_ListComp, ev_Call, ev_Meth, ev_Slice, Option.bind_eq_some_iff] at h
      obtain ⟨a, ha, l, hl, u, hu, k, hk, h⟩ := h
      refine Subscript_ (S.e _ _ _ _ ha env A s X _ E hsc EO XO hXB hB RO fun va h₁ tk₁ s₁ r₁ => wpAny_Slice ?_)
      refine S.part _ _ _ _ hl env A { s with heap := h₁, toks := tk₁ } X _ E hsc (EO.mono s₁) (XO.sub s₁) hXB (hB.trans s₁) RO fun vl h₂ tk₂ s₂ pl _ => ?_
      have s12 := s₁.trans s₂
      refine S.part _ _ _ _ hu env A { s with heap := h₂, toks := tk₂ } X _ E hsc (EO.mono s12) (XO.sub s12) hXB (hB.trans s12) RO fun vu h₃ tk₃ s₃ pu _ => ?_
      have s13 := s12.trans s₃
      refine S.part _ _ _ _ hk env A { s with heap := h₃, toks := tk₃ } X _ E hsc (EO.mono s13) (XO.sub s13) hXB (hB.trans s13) RO fun vk h₄ tk₄ s₄ pk hn => ?_
      have s14 := s13.trans s₄
      exact slice_sound (s := { s with heap := h₄, toks := tk₄ }) (XO.sub s14) h (r₁.mono (s₂.trans (s₃.trans s₄))) pl pu pk hn fun v h₅ tk₅ s₅ r₅ => hQ v h₅ tk₅ (s14.trans s₅) r₅
    · simp only [Bool.not_eq_true] at hi
      rw [sub_plain hi] at h
      simp only [Option.bind_eq_some_iff] at h
      obtain ⟨a, ha, k, hk, h⟩ := h
      cases ho : ownL sc ρ v with
      | none =>
        rw [ho] at ha
        simp only [baseE] at ha
        refine Subscript_ (S.e _ _ _ _ ha env A s X _ E hsc EO XO hXB hB RO fun va h₁ tk₁ s₁ r₁ => ?_)
        refine S.e _ _ _ _ hk env A { s with heap := h₁, toks := tk₁ } X _ E hsc (EO.mono s₁) (XO.sub s₁) hXB (hB.trans s₁) RO fun vk h₂ tk₂ s₂ r₂ => ?_
        exact item_sound (s := { s with heap := h₂, toks := tk₂ }) GO (hB.trans (s₁.trans s₂)) hi h (r₁.mono s₂) r₂ fun v h₃ tk₃ s₃ r₃ => hQ v h₃ tk₃ ((s₁.trans s₂).trans s₃) r₃
      | some l =>
        rw [ho] at ha
        simp only [baseE, Option.some.injEq] at ha
        subst ha
        obtain ⟨x, q, rfl, hd, hl, hx⟩ := ownL_some ho
        refine Subscript_ (own_load hd hsc EO hl hx fun r vs hrX hli hvs _ => ?_)
        refine S.e _ _ _ _ hk env A s X _ E hsc EO XO hXB hB RO fun vk h₂ tk₂ s₂ r₂ => ?_
        cases k <;> simp only [itemPV] at h <;> first | cases h | skip
        split at h
        · rename_i hb
          simp only [Rep] at r₂
          obtain ⟨t, rfl⟩ := r₂
          obtain ⟨y, hy, ry⟩ := hvs.get _ _ h
          have hl₂ : h₂.IsList r vs.toArray := (hli.at fun o e => s₂ _ _ e).isList
          exact tail_any (s := { s with heap := h₂, toks := tk₂ }) hl₂.typeIs slot_list_getitem.lookup (wpAny_getItem_list hl₂ hb.1 (by omega) (by simpa using hy) (hQ y h₂ tk₂ s₂ (ry.mono s₂))) (subscripted_plain hi _ _)
        · cases h
  all_goals (exact no_some h)

theorem sn (GO : GlOK prog w G B d) : ∀ n, SN prog w G B d n
  | 0 => ⟨fun e sc ρ pv h => by exact no_some h, fun es sc ρ ps h => by exact no_some h, fun x sc ρ k h => by exact no_some h, fun ops rs sc ρ a b h => by exact no_some h,
    fun op vs sc ρ pv h => by exact no_some h, fun e sc ρ b h => by exact no_some h, fun op vs sc ρ b h => by exact no_some h⟩
  | n + 1 =>
    have S := sn GO n
    ⟨fun e sc ρ pv h => e_step GO S e pv h, fun es sc ρ ps h => es_step S es ps h, fun x sc ρ k h => part_step S x k h, fun ops rs sc ρ a b h => chain_step S ops rs a b h,
      fun op vs sc ρ pv h => bool_step S op vs pv h, fun e sc ρ b h => truth_step S e b h, fun op vs sc ρ b h => all_step S op vs b h⟩
end
end Mine
end

section
open PySem PyProof.Rows
set_option linter.unusedVariables false
set_option linter.unusedSimpArgs false
namespace Mine

noncomputable def FlowRep (X : List Addr) (h : Heap) : Fl → Flow → Prop
  | .next, f => f = .next
  | .ret p, f => ∃ v, f = .ret v ∧ Rep X h p v

/-- what a statement hands on -/
abbrev PostX (s : Shared) (X : List Addr) (env : Env) (fl : Fl) (ρ' : Rho) (Q : Flow → Shared → Prop) : Prop :=
  ∀ f h' tk X', FlowRep X' h' fl f → EnvOK X' h' env ρ' → XOK X' h' → KB X s.heap h' → (∀ a ∈ X', a ∈ X ∨ s.heap.get? a = none) → (∀ a ∈ X, a ∈ X') → Q f { s with heap := h', toks := tk }

noncomputable def XSound (prog : Program) (w : World) (B : Heap) (d : Nat) (st : Stmt) (sc : Sc) (ρ : Rho) (fl : Fl) (ρ' : Rho) : Prop :=
  ∀ (env : Env) (A : Around) (s : Shared) (X : List Addr) (Q : Flow → Shared → Prop) (E : Value → Shared → Prop), env.scope.names = sc → EnvOK X s.heap env ρ → XOK X s.heap → (∀ a ∈ X, B.get? a = none) → Sub B s.heap → Room A d →
    PostX s X env fl ρ' Q → wpAny (model prog w) A (exec st env) Q E s
noncomputable def XsSound (prog : Program) (w : World) (B : Heap) (d : Nat) (sts : List Stmt) (sc : Sc) (ρ : Rho) (fl : Fl) (ρ' : Rho) : Prop :=
  ∀ (env : Env) (A : Around) (s : Shared) (X : List Addr) (Q : Flow → Shared → Prop) (E : Value → Shared → Prop), env.scope.names = sc → EnvOK X s.heap env ρ → XOK X s.heap → (∀ a ∈ X, B.get? a = none) → Sub B s.heap → Room A d →
    PostX s X env fl ρ' Q → wpAny (model prog w) A (execs sts env) Q E s

/-- with more hidden -/
theorem EnvOK.grow {X Y : List Addr} {h h' : Heap} {env : Env} {ρ : Rho} (e : EnvOK X h env ρ) (s : Sub h h') (hs : ∀ a ∈ X, a ∈ Y) (hn : ∀ a ∈ Y, a ∈ X ∨ h.get? a = none) : EnvOK Y h' env ρ where
  kind := e.kind
  glob := e.glob
  blt := e.blt
  loc := hs _ e.loc
  ns := by
    obtain ⟨m, hm, hr, hu⟩ := e.ns
    refine ⟨m, hm.keeps s, fun x pv hk hx => ?_, hu⟩
    obtain ⟨v, hv, hp⟩ := hr x pv hk hx
    exact ⟨v, hv, RepM.go (.more hn (.of_sub s)) hs (fun r vs _ _ hi => hi.at fun o q => s _ _ q) hp⟩
  cell := fun x hk => by
    obtain ⟨c, v, hc, hX, hi, hp⟩ := e.cell x hk
    refine ⟨c, v, hc, hs _ hX, hi.keeps s, fun pv hx => ?_⟩
    obtain ⟨v', hv, hr⟩ := hp pv hx
    exact ⟨v', hv, Rep.go (.more hn (.of_sub s)) _ _ hr⟩
  inj := e.inj

/-- what was hidden for a while and turned is let go -/
theorem EnvOK.drop {C : Addr} {X : List Addr} {h h' : Heap} {env : Env} {ρ : Rho} {mC : Str → Option Value} (e : EnvOK (C :: X) h env ρ) (hs : Heap.SameBut C h h') (hC : h.Ns C mC) (hL : env.locals ≠ C) : EnvOK X h' env ρ := by
  have g : Goes (C :: X) h X h' := fun b o hb e => ⟨fun q => hb (List.mem_cons_of_mem _ q), hs.extBut b o (fun q => hb (by simp [q])) e⟩
  refine ⟨e.kind, e.glob, e.blt, ?_, ?_, fun x hk => ?_, e.inj⟩
  · rcases List.mem_cons.mp e.loc with q | q
    · exact absurd q hL
    · exact q
  · obtain ⟨m, hm, hr, hu⟩ := e.ns
    refine ⟨m, hm.sameBut hs hL, fun x pv hk hx => ?_, hu⟩
    obtain ⟨v, hv, hp⟩ := hr x pv hk hx
    refine ⟨v, hv, ?_⟩
    cases pv <;> try exact Rep.go g _ _ hp
    simp only [RepM] at hp ⊢
    obtain ⟨r, vs, rfl, hrX, hi, hl⟩ := hp
    have hne := isList_ne_ns hi.isList hC
    refine ⟨r, vs, rfl, ?_, hi.at fun o q => hs.extBut r o hne q, RepL.go g _ _ hl⟩
    rcases List.mem_cons.mp hrX with q | q
    · exact absurd q hne
    · exact q
  · obtain ⟨c, v, hc, hX, hi, hp⟩ := e.cell x hk
    have hne := isCell_ne_ns hi hC
    refine ⟨c, v, hc, ?_, hi.sameBut hs hne, fun pv hx => ?_⟩
    · rcases List.mem_cons.mp hX with q | q
      · exact absurd q hne
      · exact q
    · obtain ⟨v', hv, hr⟩ := hp pv hx
      exact ⟨v', hv, Rep.go g _ _ hr⟩

theorem upd_comm {ρ : Rho} {x y : Str} {p q : PV} (h : x ≠ y) : upd (upd ρ x p) y q = upd (upd ρ y q) x p := by
  funext z
  simp only [upd]
  by_cases h1 : z = y <;> by_cases h2 : z = x
  · exact absurd (h2.symm.trans h1) h
  · simp [h1, Ne.symm h]
  · simp [h2, h]
  · simp [h1, h2]

theorem bindNames_upd {x : Str} {v : PV} : ∀ (xs : List Str) (ps : List PV) (ρ : Rho), x ∉ xs → bindNames (upd ρ x v) xs ps = (bindNames ρ xs ps).map fun r => upd r x v
  | [], [], ρ, _ => rfl
  | [], _ :: _, ρ, _ => rfl
  | _ :: _, [], ρ, _ => rfl
  | y :: xs, p :: ps, ρ, h => by
    simp only [bindNames]
    have hne : x ≠ y := fun q => h (by simp [q])
    rw [upd_comm hne, bindNames_upd xs ps _ fun q => h (List.mem_cons_of_mem _ q)]
theorem bindNames_append {x : Str} {v : PV} : ∀ (xs : List Str) (ps : List PV) (ρ : Rho), xs.length = ps.length → bindNames ρ (xs ++ [x]) (ps ++ [v]) = (bindNames ρ xs ps).map fun r => upd r x v
  | [], [], ρ, _ => rfl
  | [], _ :: _, ρ, h => by simp at h
  | _ :: _, [], ρ, h => by simp at h
  | y :: xs, p :: ps, ρ, h => by
    simp only [List.cons_append, bindNames]
    exact bindNames_append xs ps _ (by simpa using h)
theorem bindNames_reverse : ∀ (xs : List Str) (ps : List PV) (ρ ρ' : Rho), xs.Nodup → bindNames ρ xs ps = some ρ' → bindNames ρ xs.reverse ps.reverse = some ρ'
  | [], [], ρ, ρ', _, h => h
  | [], _ :: _, _, _, _, h => by simp [bindNames] at h
  | _ :: _, [], _, _, _, h => by simp [bindNames] at h
  | x :: xs, p :: ps, ρ, ρ', hn, h => by
    simp only [bindNames] at h
    have hlen := bindNames_length h
    rw [List.nodup_cons] at hn
    rw [bindNames_upd xs ps ρ hn.1, Option.map_eq_some_iff] at h
    obtain ⟨r, hr, rfl⟩ := h
    rw [List.reverse_cons, List.reverse_cons, bindNames_append _ _ _ (by simp [hlen]), bindNames_reverse xs ps ρ r hn.2 hr]
    rfl
theorem RepL.reverse {X : List Addr} {h : Heap} : ∀ {ps : List PV} {vs : List Value}, RepL X h ps vs → RepL X h ps.reverse vs.reverse
  | [], _, e => by simp only [RepL] at e; subst e; simp [RepL]
  | p :: ps, _, e => by
    simp only [RepL] at e
    obtain ⟨v, r, rfl, hv, hr⟩ := e
    rw [List.reverse_cons, List.reverse_cons]
    exact (RepL.reverse hr).snoc hv

section
variable {prog : Program} {w : World} {A : Around} {E : Value → Shared → Prop} {G : Gl} {B : Heap} {d n : Nat} {ρ : Rho} {sc : Sc} {env : Env}

theorem inOrderB_sound {X : List Addr} {Q : Unit → Shared → Prop} (hsc : env.scope.names = sc) : ∀ (xs : List Str) (ps : List PV) (vs : List Value) (s : Shared) (ρ ρ' : Rho), xs.all (storable sc) = true → bindNames ρ xs ps = some ρ' →
    EnvOK X s.heap env ρ → XOK X s.heap → RepL X s.heap ps vs →
    (∀ h' tk, KL env xs s.heap h' → EnvOK X h' env ρ' → XOK X h' → Q () { s with heap := h', toks := tk }) →
    wpAny (model prog w) A (assignInOrder (xs.map fun n => bindName env n) vs) Q E s
  | [], ps, vs, s, ρ, ρ', hst, hb, EO, XO, hr, h => by
    cases ps with
    | nil => simp only [bindNames, Option.some.injEq] at hb; subst hb; exact assignInOrder_nil (h s.heap s.toks (fun _ _ _ _ e => e) EO XO)
    | cons _ _ => simp [bindNames] at hb
  | x :: xs, ps, vs, s, ρ, ρ', hst, hb, EO, XO, hr, h => by
    cases ps with
    | nil => simp [bindNames] at hb
    | cons q qs =>
      simp only [bindNames] at hb
      simp only [RepL] at hr
      obtain ⟨v, vr, rfl, hv, hvr⟩ := hr
      simp only [List.all_cons, Bool.and_eq_true] at hst
      refine assignInOrder_cons (wpAny_bindName (store_sound EO XO hsc hst.1 hv fun h₁ tk₁ k₁ EO₁ XO₁ => ?_))
      exact inOrderB_sound hsc xs qs vr { s with heap := h₁, toks := tk₁ } _ ρ' hst.2 hb EO₁ XO₁ (RepL.go (.kb (EO.kb k₁)) _ _ hvr) fun h₂ tk₂ k₂ EO₂ XO₂ => h h₂ tk₂ ((k₁.more (by simp)).trans (k₂.more fun z hz => List.mem_cons_of_mem _ hz)) EO₂ XO₂

theorem swaps_false {v : Expr} {ts : List Expr} {k : Nat} {p : Pos} {line : Nat} : swapsWithSole [.Tuple ts k p] v line env = pure false := by
  cases v <;> rfl
theorem swaps_name {v : Expr} {x : Str} {p : Pos} {line : Nat} : ∃ b, swapsWith v (some (.Name x p)) line env = pure b ∧ (b = true → (∃ elt gens cs q, v = .ListComp elt gens cs q) ∨ (∃ a b c e, v = .SetComp a b c e) ∨ (∃ a b c e f, v = .DictComp a b c e f)) := by
  cases v <;> first | exact ⟨false, rfl, nofun⟩ | exact ⟨_, rfl, fun _ => .inl ⟨_, _, _, _, rfl⟩⟩ | exact ⟨_, rfl, fun _ => .inr (.inl ⟨_, _, _, _, rfl⟩)⟩ | exact ⟨_, rfl, fun _ => .inr (.inr ⟨_, _, _, _, _, rfl⟩)⟩

theorem names_filter {line : Nat} : ∀ {ts : List Expr} {xs : List Str}, namesT ts = some xs →
    (ts.filterMap fun | .Name id pos => if env.kindOf id == some .local && pos.line == line then some id else none | _ => none).length = ts.length →
    (ts.filterMap fun | .Name id pos => if env.kindOf id == some .local && pos.line == line then some id else none | _ => none) = xs
  | [], xs, h, _ => by simp [namesT] at h; subst h; rfl
  | e :: r, xs, h, hl => by
    obtain ⟨x, p, ys, rfl, hy, rfl⟩ := namesT_cons h
    simp only [List.filterMap_cons] at hl ⊢
    by_cases hc : (env.kindOf x == some .local && p.line == line) = true
    · simp only [hc, if_true] at hl ⊢
      rw [names_filter hy (by simpa using hl)]
    · simp only [hc] at hl
      have := List.length_filterMap_le (fun | .Name id pos => if env.kindOf id == some .local && pos.line == line then some id else none | _ => none) r
      simp only [Bool.false_eq_true, if_false, List.length_cons] at hl
      omega

theorem swapped_cases {v : Expr} {ts : List Expr} {k : Nat} {p : Pos} {xs : List Str} (hx : namesT ts = some xs) (hv : tupOk v = true) :
    swappedStores [.Tuple ts k p] v env = pure none ∨ swappedStores [.Tuple ts k p] v env = pure (some xs) := by
  cases v <;> try exact .inl rfl
  rename_i vs k' p'
  simp only [tupOk, Bool.and_eq_true, Bool.not_eq_true'] at hv
  delta swappedStores
  simp only [hv.1.1, hv.1.2, Bool.false_eq_true, if_false]
  split
  · exact .inl rfl
  · split
    · exact .inl rfl
    · split
      · exact .inl rfl
      · rename_i hne
        right
        simp only [Bool.or_eq_true, bne_iff_ne, ne_eq, not_or, Decidable.not_not] at hne
        have e := names_filter (env := env) (line := (Option.map (fun x : Expr => x.pos.line) ts.head?).getD 0) hx hne.1
        exact congrArg (fun q => (pure (some q) : Sem (Option (List Str)))) e

/-- an assignment to one name, whatever is read -/
theorem assign_name_sound (GO : GlOK prog w G B d) {s : Shared} {X : List Addr} {Q : Flow → Shared → Prop} {x : Str} {v : Expr} {p q : Pos} {pv : PV} (hsc : env.scope.names = sc) (EO : EnvOK X s.heap env ρ) (XO : XOK X s.heap) (hXB : ∀ a ∈ X, B.get? a = none) (hB : Sub B s.heap) (RO : Room A d)
    (hx : storable sc x = true) (hv : evalE G n sc ρ v = some pv) (hQ : PostX s X env .next (upd ρ x pv) Q) : wpAny (model prog w) A (exec (.Assign [.Name x p] v q) env) Q E s := by
  have S := sn GO n
  have fin : ∀ (v1 : Value) (h₁ : Heap) (tk₁ : Nat), Sub s.heap h₁ → Rep X h₁ pv v1 → ∀ (Q' : Unit → Shared → Prop) (E' : Value → Shared → Prop), (∀ h' tk, KL env [x] h₁ h' → EnvOK X h' env (upd ρ x pv) → XOK X h' → Q' () { s with heap := h', toks := tk }) → wpAny (model prog w) A (storeName env x v1) Q' E' { s with heap := h₁, toks := tk₁ } :=
    fun v1 h₁ tk₁ s₁ r₁ Q' E' h => store_sound (s := { s with heap := h₁, toks := tk₁ }) (EO.mono s₁) (XO.sub s₁) hsc hx r₁ h
  obtain ⟨b, hb, hbt⟩ := swaps_name (env := env) (v := v) (x := x) (p := p) (line := q.line)
  cases b with
  | false =>
    refine wpAny_Assign_Name (S.e _ _ _ _ hv env A s X _ E hsc EO XO hXB hB RO fun v1 h₁ tk₁ s₁ r₁ => ?_) hb
    exact fin v1 h₁ tk₁ s₁ r₁ _ _ fun h' tk kl EO' XO' => hQ .next h' tk X (by simp only [FlowRep]) EO' XO' (fun b o hbX e => (EO.mono s₁).kb kl b o hbX (s₁ b o e)) (fun a ha => .inl ha) fun a ha => ha
  | true =>
    rw [exec_Assign_Name_used _ _ _ _ hb]
    refine wpAny_bind (wpAny_standAt (wpAny_bind ?_))
    rcases hbt rfl with ⟨elt, gens, cs, cp, rfl⟩ | ⟨_, _, _, _, rfl⟩ | ⟨_, _, _, _, _, rfl⟩
    · cases n with
      | zero => exact no_some hv
      | succ n =>
        match gens, hv with
        | [⟨target, iter, ifs, 0⟩], hv =>
          show wpAny _ A (do let _ ← comprehension (.ListComp elt [⟨target, iter, ifs, 0⟩] cs cp) cs env _ (newList []) false (eval iter env) (some (assign (.Name x p) env))) _ _ s
          refine wpAny_bind (comp_eval (sn GO n) (use := some (assign (.Name x p) env)) hv hsc EO XO hXB hB RO fun D C h' tk m sub hC hCD hD hn rep => ?_)
          have EO' : EnvOK (C :: X) h' env ρ := EO.grow sub (fun a ha => List.mem_cons_of_mem _ ha) fun a ha => by
            rcases List.mem_cons.mp ha with rfl | ha
            · exact .inr hC
            · exact .inl ha
          have XO' : XOK (C :: X) h' := fun a ha => by
            rcases List.mem_cons.mp ha with rfl | ha
            · exact NoTup.ns hn
            · exact (XO.sub sub) a ha
          have hL : env.locals ≠ C := by
            obtain ⟨m0, ⟨o, es, ep, ho, _⟩, _⟩ := EO.ns
            rintro q
            rw [q, hC] at ho; cases ho
          show wpAny _ A (assign (.Name x p) env (.ref D)) _ _ _
          refine wpAny_assign_Name (store_sound (s := { s with heap := h', toks := tk }) EO' XO' hsc hx rep fun h₂ tk₂ kl EO₂ XO₂ => ?_)
          have nC : ∀ y ∈ [x], env.kindOf y = some .cell → env.cells.lookup y ≠ some C := fun y _ hk q => by
            obtain ⟨c, v, hc, _, ⟨o, ho, _⟩, _⟩ := EO.cell y hk
            rw [q] at hc; cases hc; rw [hC] at ho; cases ho
          have hn₂ : h₂.Ns C m := hn.at' fun o e => kl C o (Ne.symm hL) nC e
          refine ⟨m, hn₂, fun h₃ hs => wpAny_pure (wpAny_pure ?_)⟩
          refine hQ .next h₃ tk₂ X (by simp only [FlowRep]) (EO₂.drop hs hn₂ hL) (fun a ha => ?_) (fun b o hbX e => ?_) (fun a ha => .inl ha) fun a ha => ha
          · obtain ⟨o, ho, q⟩ := XO₂ a (List.mem_cons_of_mem _ ha)
            have hne : a ≠ C := by
              rintro rfl
              obtain ⟨o', ho', _⟩ := XO a ha
              rw [hC] at ho'; cases ho'
            exact ⟨o, hs.extBut a o hne ho, q⟩
          · have hne : b ≠ C := by rintro rfl; rw [hC] at e; cases e
            refine hs.extBut b o hne (EO'.kb kl b o (fun q => ?_) (sub b o e))
            rcases List.mem_cons.mp q with q | q
            · exact hne q
            · exact hbX q
    · cases n <;> exact no_some hv
    · cases n <;> exact no_some hv
end
end Mine
end

section
open PySem PyProof.Rows
set_option linter.unusedVariables false
set_option linter.unusedSimpArgs false
namespace Mine
section
variable {prog : Program} {w : World} {A : Around} {E : Value → Shared → Prop} {G : Gl} {B : Heap} {d n : Nat} {ρ : Rho} {sc : Sc} {env : Env} {s : Shared} {X : List Addr} {Q : Flow → Shared → Prop}

theorem isListT_some : ∀ {o : Option PV}, isListT o = true → o = some (.typ "list")
  | some (.typ n), h => by rw [show n = "list" from beq_iff_eq.mp h]
  | Option.none, h => no_bool h.symm
  | some .none, h => no_bool h.symm
  | some (.bool _), h => no_bool h.symm
  | some (.int _), h => no_bool h.symm
  | some (.flt _), h => no_bool h.symm
  | some (.str _), h => no_bool h.symm
  | some (.tup _), h => no_bool h.symm
  | some (.list _), h => no_bool h.symm
  | some (.rng ..), h => no_bool h.symm
  | some (.ref _), h => no_bool h.symm
  | some (.bltn _), h => no_bool h.symm
  | some (.mlist _), h => no_bool h.symm
theorem nameT_some' {e : Expr} {x : Str} (h : nameT e = some x) : ∃ p, e = .Name x p := by
  cases e <;> first | exact no_some h | exact ⟨_, by rw [Option.some.inj h]⟩
theorem makes_spec {v : Expr} (h : makesList G sc ρ v = true) : ∃ f q a p, v = .Call (.Name f q) [a] [] p ∧ nameV G sc ρ f = some (.typ "list") := by
  cases v <;> try exact no_bool h.symm
  rename_i f args kw p
  replace h : makesL G sc ρ (args.length == 1 && kw.isEmpty) (nameT f) = true := h
  cases e : nameT f with
  | none => rw [e] at h; exact no_bool h.symm
  | some x =>
    rw [e] at h
    obtain ⟨q, rfl⟩ := nameT_some' e
    obtain ⟨h1, h2⟩ := Bool.and_eq_true_iff.mp h
    obtain ⟨h3, h4⟩ := Bool.and_eq_true_iff.mp h1
    obtain ⟨a, rfl⟩ := List.length_eq_one_iff.mp (beq_iff_eq.mp h3)
    obtain rfl := List.isEmpty_iff.mp h4
    exact ⟨x, q, a, p, rfl, isListT_some h2⟩

theorem assign_own_sound (GO : GlOK prog w G B d) {x : Str} {v : Expr} {p q : Pos} {l : List PV} (hsc : env.scope.names = sc) (EO : EnvOK X s.heap env ρ) (XO : XOK X s.heap) (hXB : ∀ a ∈ X, B.get? a = none) (hB : Sub B s.heap) (RO : Room A d)
    (hx : sc.lookup x = some .local) (hm : makesList G sc ρ v = true) (hv : evalE G n sc ρ v = some (.list l)) (hQ : PostX s X env .next (upd ρ x (.mlist l)) Q) : wpAny (model prog w) A (exec (.Assign [.Name x p] v q) env) Q E s := by
  obtain ⟨f, fq, a, cp, rfl, hf⟩ := makes_spec hm
  cases n with
  | zero => exact no_some hv
  | succ n =>
    have S := sn GO n
    simp only [ev_Constant, ev_Name, ev_BinOp, ev_IfExp, ev_BoolOp, ev_Compare, ev_List, ev_Tuple, ev_ListComp, ev_Call, ev_Meth, ev_Slice] at hv
    split at hv
    · cases hv
    · rename_i hd
      rw [hf] at hv
      simp only [Option.bind_some] at hv
      split at hv
      · cases hv
      · simp only [Option.bind_eq_some_iff] at hv
        obtain ⟨ps, hps, hc⟩ := hv
        have hkx : env.kindOf x = some .local := by show env.scope.names.lookup x = _; rw [hsc]; exact hx
        have hst := evalEs_star hps
        have hst1 : starEach [a] env = [(false, eval a env)] := starEach_cons (hst a (by simp))
        refine wpAny_Assign_Name (wpAny_Call_NameR (wpAny_Name (nameV_sound GO hB hsc EO hf fun v hv => ?_) (debug_ne hd)))
        simp only [Rep] at hv
        subst hv
        refine PyProof.Rows.callWith_type (by rw [hst1]; rfl) ?_
        have hb1 : backTo cp (starEach [a] env) = (false, eval a env) :: [] := by rw [hst1]; rfl
        rw [hb1]
        refine Calls.evalArgs_plain ?_
        rw [← hb1]
        refine S.es _ _ _ _ hps env A s X _ E cp hsc EO XO hXB hB RO fun vs h₁ tk₁ s₁ r₁ => ?_
        have hlen := evalEs_length hps
        match ps, hlen, hc, r₁ with
        | [pa], hlen1, hc, r₁ =>
          simp only [callV] at hc
          replace hc : tList1 pa = some (.list l) := hc
          cases pa <;> try exact no_some hc
          rename_i ra rb rc
          replace hc : (if Builtin.Range.small ra rb rc = true ∧ (rangeL ra rb rc).length ≤ 1000 then some (PV.list ((rangeL ra rb rc).map .int)) else Option.none) = some (.list l) := hc
          obtain ⟨va, rfl, ha⟩ := rep1 (s := { s with heap := h₁ }) r₁
          simp only [Rep] at ha
          obtain ⟨r, t, u, y, rfl, hr, hrng⟩ := ha
          split at hc
          · rename_i hs
            cases hc
            have hn := hs.2
            unfold rangeL at hn
            rw [rangeInts_length] at hn
            refine call_list_range (s := { s with heap := h₁, toks := tk₁ }) RO.handled hrng hs.1 (rangeSize_toNat _ _ _) (by omega) fun h' tk acc' c' hk hg hi => ?_
            have s' : Sub s.heap h' := s₁.trans hk
            have hnew : s.heap.get? h₁.objs.size = none := by
              cases e : s.heap.get? h₁.objs.size with
              | none => rfl
              | some o => exact absurd (Heap.lt_size (s₁ _ _ e)) (Nat.lt_irrefl _)
            have EO' : EnvOK (h₁.objs.size :: X) h' env ρ := EO.grow s' (fun a ha => List.mem_cons_of_mem _ ha) fun a ha => by
              rcases List.mem_cons.mp ha with rfl | ha
              · exact .inr hnew
              · exact .inl ha
            have XO' : XOK (h₁.objs.size :: X) h' := fun a ha => by
              rcases List.mem_cons.mp ha with rfl | ha
              · exact ⟨_, hg, .of_cls (by simp)⟩
              · exact (XO.sub s') a ha
            refine store_gen (s := { s with heap := h', toks := tk }) EO' XO' (.inl hkx) (pv := .mlist ((rangeL ra rb rc).map .int)) ?_ ?_ ?_
            · simp only [RepM]
              exact ⟨_, acc'.toList, rfl, by simp, ⟨c', by rw [Array.toArray_toList]; exact hg⟩, items_ints hi⟩
            · intro l0 _ y l' hky hy m hn e
              obtain ⟨m0, hn0, hm0, _⟩ := EO.ns
              obtain ⟨v0, hv0, hr0⟩ := hm0 y _ hky hy
              simp only [RepM] at hr0
              obtain ⟨r0, vs0, rfl, _, ⟨n0, ho0⟩, _⟩ := hr0
              have hn' := hn0.keeps s'
              have : m y = m0 y := by
                obtain ⟨o1, e1, p1, g1, d1, k1, f1⟩ := hn
                obtain ⟨o2, e2, p2, g2, d2, k2, f2⟩ := hn'
                rw [g1] at g2; cases g2; rw [d1] at d2; cases d2
                rw [← f1 y, ← f2 y]
              rw [this, hv0] at e
              have : r0 = h₁.objs.size := by cases e; rfl
              rw [this, hnew] at ho0; cases ho0
            · intro h₂ tk₂ kl EO₂ XO₂
              refine hQ .next h₂ tk₂ (h₁.objs.size :: X) (by simp only [FlowRep]) EO₂ XO₂ (fun b o hbX e => ?_) (fun a ha => ?_) fun a ha => List.mem_cons_of_mem _ ha
              · refine EO'.kb kl b o (fun q => ?_) (s' b o e)
                rcases List.mem_cons.mp q with q | q
                · rw [q, hnew] at e; cases e
                · exact hbX q
              · rcases List.mem_cons.mp ha with rfl | ha
                · exact .inr hnew
                · exact .inl ha
          · cases hc
end
end Mine
end

section
open PySem PyProof.Rows
set_option linter.unusedVariables false
set_option linter.unusedSimpArgs false
namespace Mine
section
variable {prog : Program} {w : World} {A : Around} {E : Value → Shared → Prop} {G : Gl} {B : Heap} {d n : Nat} {ρ : Rho} {sc : Sc} {env : Env} {s : Shared} {X : List Addr} {Q : Flow → Shared → Prop}

/-- what is known at a statement -/
structure At (B : Heap) (sc : Sc) (env : Env) (h : Heap) (X : List Addr) (ρ : Rho) : Prop where
  sc : env.scope.names = sc
  eo : EnvOK X h env ρ
  xo : XOK X h
  xb : ∀ a ∈ X, B.get? a = none
  b : Sub B h

theorem At.mono {h h' : Heap} (a : At B sc env h X ρ) (s : Sub h h') : At B sc env h' X ρ := ⟨a.sc, a.eo.mono s, a.xo.sub s, a.xb, a.b.trans s⟩
theorem At.next {h h' : Heap} {X' : List Addr} {ρ' : Rho} (a : At B sc env h X ρ) (EO : EnvOK X' h' env ρ') (XO : XOK X' h') (kb : KB X h h') (hn : ∀ a ∈ X', a ∈ X ∨ h.get? a = none) : At B sc env h' X' ρ' :=
  ⟨a.sc, EO, XO, fun b hb => (hn b hb).elim (a.xb b) (fun q => by
    cases e : B.get? b with
    | none => rfl
    | some o => exact absurd (a.b b o e) (by rw [q]; nofun)), fun b o e => kb b o (fun q => by rw [a.xb b q] at e; cases e) (a.b b o e)⟩

theorem XSound.go {st : Stmt} {fl : Fl} {ρ' : Rho} (x : XSound prog w B d st sc ρ fl ρ') (a : At B sc env s.heap X ρ) (RO : Room A d) (hQ : PostX s X env fl ρ' Q) : wpAny (model prog w) A (exec st env) Q E s :=
  x env A s X Q E a.sc a.eo a.xo a.xb a.b RO hQ
theorem XsSound.go {sts : List Stmt} {fl : Fl} {ρ' : Rho} (x : XsSound prog w B d sts sc ρ fl ρ') (a : At B sc env s.heap X ρ) (RO : Room A d) (hQ : PostX s X env fl ρ' Q) : wpAny (model prog w) A (execs sts env) Q E s :=
  x env A s X Q E a.sc a.eo a.xo a.xb a.b RO hQ

/-- two statements' hidden sets -/
theorem new_trans {X X' X'' : List Addr} {h h' : Heap} (kb : KB X h h') (h1 : ∀ a ∈ X', a ∈ X ∨ h.get? a = none) (h2 : ∀ a ∈ X'', a ∈ X' ∨ h'.get? a = none) : ∀ a ∈ X'', a ∈ X ∨ h.get? a = none := fun a ha => by
  rcases h2 a ha with q | q
  · exact h1 a q
  · by_cases hX : a ∈ X
    · exact .inl hX
    · right
      cases e : h.get? a with
      | none => rfl
      | some o => rw [kb a o hX e] at q; cases q
theorem kb_trans {X X' : List Addr} {h h' h'' : Heap} (kb : KB X h h') (h1 : ∀ a ∈ X', a ∈ X ∨ h.get? a = none) (kb' : KB X' h' h'') : KB X h h'' := fun b o hb e =>
  kb' b o (fun q => (h1 b q).elim hb fun r => by rw [e] at r; cases r) (kb b o hb e)

theorem assign_tuple_sound (GO : GlOK prog w G B d) {ts : List Expr} {k : Nat} {v : Expr} {p q : Pos} {pv : PV} {ρ' : Rho} (a : At B sc env s.heap X ρ) (RO : Room A d)
    (hx : storableT sc (.Tuple ts k p) = true) (hn : nodupT ts = true) (ht : tupOk v = true) (hv : evalE G n sc ρ v = some pv) (hb : bindT ρ (.Tuple ts k p) pv = some ρ') (hQ : PostX s X env .next ρ' Q) :
    wpAny (model prog w) A (exec (.Assign [.Tuple ts k p] v q) env) Q E s := by
  have S := sn GO n
  obtain ⟨xs, hxs, hnd⟩ : ∃ xs, namesT ts = some xs ∧ xs.Nodup := by
    unfold nodupT at hn
    split at hn
    · rename_i xs e; exact ⟨xs, e, of_decide_eq_true hn⟩
    · cases hn
  have done : ∀ (h₁ h' : Heap) (tk : Nat) (ys : List Str), Sub s.heap h₁ → KL env ys h₁ h' → EnvOK X h' env ρ' → XOK X h' → Q .next { s with heap := h', toks := tk } := fun h₁ h' tk ys s₁ kl EO' XO' =>
    hQ .next h' tk X (by simp only [FlowRep]) EO' XO' (fun b o hbX e => (a.eo.mono s₁).kb kl b o hbX (s₁ b o e)) (fun a ha => .inl ha) fun a ha => ha
  rcases swapped_cases (env := env) (k := k) (p := p) hxs ht with hw | hw
  · refine Assign_Tuple (S.e _ _ _ _ hv env A s X _ E a.sc a.eo a.xo a.xb a.b RO fun v1 h₁ tk₁ s₁ r₁ => ?_) swaps_false hw
    exact assign_sound (s := { s with heap := h₁, toks := tk₁ }) RO.handled a.sc hx hb (a.eo.mono s₁) (a.xo.sub s₁) r₁ fun h' tk kl EO' XO' => done h₁ h' tk _ s₁ kl EO' XO'
  · refine Assign_Tuple_swapped (names := xs) (S.e _ _ _ _ hv env A s X _ E a.sc a.eo a.xo a.xb a.b RO fun v1 h₁ tk₁ s₁ r₁ => ?_) swaps_false hw
    simp only [storableT, hxs, Bool.and_eq_true] at hx
    cases pv <;> simp only [bindT] at hb <;> first | cases hb | skip
    rename_i ps
    rw [hxs] at hb
    simp only [Option.bind_some] at hb
    simp only [Rep] at r₁
    obtain ⟨t, vs, rfl, htX, htt, hvs⟩ := r₁
    have hlen : xs.length = vs.toArray.size := by rw [List.size_toArray, hvs.length, bindNames_length hb]
    rw [hlen]
    refine unpackItems_tuple (s := { s with heap := h₁, toks := tk₁ }) RO.handled htt fun h₂ he => ?_
    have s₂ : Sub h₁ h₂ := fun b o e => he b o (Nat.ne_of_lt (Heap.lt_size e)) e
    have s12 := s₁.trans s₂
    refine inOrderB_sound a.sc xs.reverse ps.reverse _ { s with heap := h₂, toks := tk₁ } ρ ρ' (by rw [List.all_reverse]; exact hx.1) (bindNames_reverse xs ps ρ ρ' hnd hb) (a.eo.mono s12) (a.xo.sub s12) (by simpa using (hvs.mono s₂).reverse) fun h' tk kl EO' XO' => done h₂ h' tk _ s12 kl EO' XO'

theorem assign_item_sound (GO : GlOK prog w G B d) {x : Str} {i v : Expr} {px p q : Pos} {pv kv : PV} {l l' : List PV} (a : At B sc env s.heap X ρ) (RO : Room A d)
    (hi : isSlice i = false) (ho : ownL sc ρ (.Name x px) = some l) (hv : evalE G n sc ρ v = some pv) (hk : evalE G n sc ρ i = some kv) (hs : setL l pv kv = some l') (hQ : PostX s X env .next (upd ρ x (.mlist l')) Q) :
    wpAny (model prog w) A (exec (.Assign [.Subscript (.Name x px) i p] v q) env) Q E s := by
  have S := sn GO n
  obtain ⟨x', q', e, hd, hl, hx⟩ := ownL_some ho
  cases e
  have hsw : swapsWith v (some (.Subscript (.Name x px) i p)) q.line env = pure false := by cases v <;> rfl
  refine wpAny_Assign_Subscript (S.e _ _ _ _ hv env A s X _ E a.sc a.eo a.xo a.xb a.b RO fun v1 h₁ tk₁ s₁ r₁ => ?_) hsw
  refine own_load (s := { s with heap := h₁, toks := tk₁ }) hd a.sc (a.eo.mono s₁) hl hx fun r vs hrX hli hvs hmr => ?_
  refine S.e _ _ _ _ hk env A { s with heap := h₁, toks := tk₁ } X _ E a.sc (a.eo.mono s₁) (a.xo.sub s₁) a.xb (a.b.trans s₁) RO fun v2 h₂ tk₂ s₂ r₂ => ?_
  have s12 := s₁.trans s₂
  have a₂ := a.mono s12
  cases kv <;> simp only [setL] at hs <;> first | cases hs | skip
  rename_i k
  split at hs
  · rename_i hb
    cases hs
    simp only [Rep] at r₂
    obtain ⟨t, rfl⟩ := r₂
    have hlen := hvs.length
    have hli₂ : Own h₂ r vs := hli.at fun o e => s₂ _ _ e
    obtain ⟨n₀, hob⟩ := hli₂
    refine PySem.W.ki_setAt (s := { s with heap := h₂, toks := tk₂ }) (n := n₀) hob hb.1 (by omega) (by rw [List.size_toArray]; omega) ?_
    have hsb : Heap.SameBut r h₂ (h₂.update r (Obj.mapSeq (·.setIfInBounds k.toNat v1))) := Heap.SameBut.update ..
    have hr' : (h₂.update r (Obj.mapSeq (·.setIfInBounds k.toNat v1))).get? r = some { cls := .type "list", dict := none, data := .seq (List.toArray (vs.set k.toNat v1)) n₀, slots := #[] } := by
      have q := PySem.IsL.update (n := n₀) hob (·.setIfInBounds k.toNat v1)
      simp only [List.setIfInBounds_toArray, List.size_toArray, List.length_set, beq_self_eq_true, if_true] at q
      exact q
    generalize h₂.update r (Obj.mapSeq (·.setIfInBounds k.toNat v1)) = h₃ at hsb hr' ⊢
    have kb : KB X h₂ h₃ := fun b o hbX e => hsb.extBut b o (fun q => hbX (q ▸ hrX)) e
    have EO₂ := a₂.eo
    obtain ⟨m, hn, hm, hu⟩ := EO₂.ns
    have hkx : env.kindOf x = some .local := by show env.scope.names.lookup x = _; rw [a.sc]; exact hl
    have hrL : r ≠ env.locals := isList_ne_ns (⟨_, hob, rfl, n₀, rfl⟩ : h₂.IsList r vs.toArray) hn
    have hmx : m x = some (.ref r) := by
      obtain ⟨m1, hn1, hm1⟩ := hmr
      have hn1' := hn1.keeps s₂
      obtain ⟨o1, e1, p1, g1, d1, k1, f1⟩ := hn
      obtain ⟨o2, e2, p2, g2, d2, k2, f2⟩ := hn1'
      rw [g1] at g2; cases g2; rw [d1] at d2; cases d2
      rw [← f1 x, f2 x, hm1]
    have repset : ∀ (l : List PV) (vs : List Value) (j : Nat), RepL X h₃ l vs → Rep X h₃ pv v1 → RepL X h₃ (l.set j pv) (vs.set j v1) := by
      intro l
      induction l with
      | nil => intro vs j hr _; simp only [RepL] at hr; subst hr; simp [RepL]
      | cons p ps ih =>
        intro vs j hr hp
        simp only [RepL] at hr
        obtain ⟨y, r', rfl, hy, hr'⟩ := hr
        cases j with
        | zero => simp only [List.set_cons_zero, RepL]; exact ⟨_, _, rfl, hp, hr'⟩
        | succ j => simp only [List.set_cons_succ, RepL]; exact ⟨_, _, rfl, hy, ih r' j hr' hp⟩
    refine hQ .next h₃ tk₂ X (by simp only [FlowRep]) ⟨EO₂.kind, EO₂.glob, EO₂.blt, EO₂.loc, ⟨m, hn.sameBut hsb (Ne.symm hrL), fun y py hky hpy => ?_, fun y z l1 l2 hky hkz hy hz e => ?_⟩, fun y hky => ?_, EO₂.inj⟩ (fun b hb => ?_) (fun b o hbX e => kb b o hbX (s12 b o e)) (fun b hb => .inl hb) fun b hb => hb
    · by_cases hyx : y = x
      · subst hyx
        simp only [upd, if_true, Option.some.injEq] at hpy
        subst hpy
        refine ⟨_, hmx, ?_⟩
        simp only [RepM]
        exact ⟨r, _, rfl, hrX, ⟨n₀, hr'⟩, repset _ _ _ (RepL.go (.kb kb) _ _ (hvs.mono s₂)) (Rep.go (.kb kb) _ _ (r₁.mono s₂))⟩
      · simp only [upd, hyx, if_false] at hpy
        obtain ⟨u, hu', hr0⟩ := hm y py hky hpy
        refine ⟨u, hu', ?_⟩
        cases py <;> try exact Rep.go (.kb kb) _ _ hr0
        simp only [RepM] at hr0 ⊢
        obtain ⟨r0, vs0, rfl, hr0X, ho0, hl0⟩ := hr0
        have hne : r0 ≠ r := by
          rintro rfl
          exact hyx (hu y x _ _ hky hkx hpy hx (by rw [hu', hmx]))
        exact ⟨r0, vs0, rfl, hr0X, ho0.at fun o e => hsb.extBut r0 o hne e, RepL.go (.kb kb) _ _ hl0⟩
    · have old : ∀ z l3, upd ρ x (.mlist (l.set k.toNat pv)) z = some (.mlist l3) → ∃ l0, ρ z = some (.mlist l0) := by
        intro z l3 hz
        by_cases hzx : z = x
        · subst hzx; exact ⟨_, hx⟩
        · simp only [upd, hzx, if_false] at hz; exact ⟨_, hz⟩
      obtain ⟨y0, hy0⟩ := old y l1 hy
      obtain ⟨z0, hz0⟩ := old z l2 hz
      exact hu y z y0 z0 hky hkz hy0 hz0 e
    · obtain ⟨c, u, hc, hX, hi0, hp⟩ := EO₂.cell y hky
      have hne : c ≠ r := Ne.symm (isList_ne_cell (⟨_, hob, rfl, n₀, rfl⟩ : h₂.IsList r vs.toArray) hi0)
      refine ⟨c, u, hc, hX, hi0.sameBut hsb hne, fun py hpy => ?_⟩
      have hyx : y ≠ x := by rintro rfl; rw [hkx] at hky; cases hky
      simp only [upd, hyx, if_false] at hpy
      obtain ⟨v', hv', hr0⟩ := hp py hpy
      exact ⟨v', hv', Rep.go (.kb kb) _ _ hr0⟩
    · by_cases hbr : b = r
      · subst hbr; exact ⟨_, hr', .of_cls (by simp)⟩
      · obtain ⟨o, ho, q⟩ := a₂.xo b hb; exact ⟨o, hsb.extBut b o hbr ho, q⟩
  · cases hs
end
end Mine
end

section
open PySem PyProof.Rows
set_option linter.unusedVariables false
set_option linter.unusedSimpArgs false
namespace Mine

structure XN (prog : Program) (w : World) (G : Gl) (B : Heap) (d n : Nat) : Prop where
  x : ∀ st sc ρ fl ρ', execE G n sc ρ st = some (fl, ρ') → XSound prog w B d st sc ρ fl ρ'
  xs : ∀ sts sc ρ fl ρ', execsE G n sc ρ sts = some (fl, ρ') → XsSound prog w B d sts sc ρ fl ρ'

mutual
theorem Rep.hide {X : List Addr} {h : Heap} {I : Addr} {o : Obj} (hI : h.get? I = some o) (h1 : o.cls ≠ .type "list") (h2 : o.cls ≠ .type "tuple") (h3 : o.cls ≠ .type "range") : ∀ (p : PV) (v : Value), Rep X h p v → Rep (I :: X) h p v
  | .none, _, e => by simpa only [Rep] using e
  | .bool _, _, e => by simpa only [Rep] using e
  | .int _, _, e => by simpa only [Rep] using e
  | .flt _, _, e => by simpa only [Rep] using e
  | .str _, _, e => by simpa only [Rep] using e
  | .ref _, _, e => by simpa only [Rep] using e
  | .bltn _, _, e => by simpa only [Rep] using e
  | .typ _, _, e => by simpa only [Rep] using e
  | .rng a b c, v, e => by
    simp only [Rep] at e ⊢
    obtain ⟨r, t, u, w, rfl, hr, hi⟩ := e
    refine ⟨r, t, u, w, rfl, fun q => ?_, hi⟩
    rcases List.mem_cons.mp q with q | q
    · subst q; have hi' : h.get? _ = some _ := hi; rw [hI] at hi'; cases hi'; exact h3 rfl
    · exact hr q
  | .tup l, v, e => by
    simp only [Rep] at e ⊢
    obtain ⟨r, vs, rfl, hr, ⟨o', ho, hc, q'⟩, hl⟩ := e
    refine ⟨r, vs, rfl, fun q => ?_, ⟨o', ho, hc, q'⟩, RepL.hide hI h1 h2 h3 l vs hl⟩
    rcases List.mem_cons.mp q with q | q
    · subst q; rw [hI] at ho; cases ho; exact h2 hc
    · exact hr q
  | .list l, v, e => by
    simp only [Rep] at e ⊢
    obtain ⟨r, vs, rfl, hr, ⟨o', ho, hc, q'⟩, hl⟩ := e
    refine ⟨r, vs, rfl, fun q => ?_, ⟨o', ho, hc, q'⟩, RepL.hide hI h1 h2 h3 l vs hl⟩
    rcases List.mem_cons.mp q with q | q
    · subst q; rw [hI] at ho; cases ho; exact h1 hc
    · exact hr q
  | .mlist _, _, e => by simp only [Rep] at e
theorem RepL.hide {X : List Addr} {h : Heap} {I : Addr} {o : Obj} (hI : h.get? I = some o) (h1 : o.cls ≠ .type "list") (h2 : o.cls ≠ .type "tuple") (h3 : o.cls ≠ .type "range") : ∀ (p : List PV) (v : List Value), RepL X h p v → RepL (I :: X) h p v
  | [], _, e => by simpa only [RepL] using e
  | p :: ps, v, e => by
    simp only [RepL] at e ⊢
    obtain ⟨x, r, rfl, hx, hr⟩ := e
    exact ⟨x, r, rfl, Rep.hide hI h1 h2 h3 p x hx, RepL.hide hI h1 h2 h3 ps r hr⟩
end

/-- an iterator turns -/
theorem EnvOK.turn {X : List Addr} {h h' : Heap} {env : Env} {ρ : Rho} {I : Addr} {o : Obj} (e : EnvOK X h env ρ) (hI : h.get? I = some o) (h1 : o.cls ≠ .type "list") (h2 : o.cls ≠ .type "tuple") (h3 : o.cls ≠ .type "range") (hX : I ∉ X)
    (hk : ∀ b o, b ≠ I → h.get? b = some o → h'.get? b = some o) : EnvOK X h' env ρ := by
  have g : Goes (I :: X) h X h' := fun b o hb q => ⟨fun r => hb (List.mem_cons_of_mem _ r), hk b o (fun r => hb (by simp [r])) q⟩
  have ne : ∀ a ∈ X, a ≠ I := fun a ha q => hX (q ▸ ha)
  refine ⟨e.kind, e.glob, e.blt, e.loc, ?_, fun x hkx => ?_, e.inj⟩
  · obtain ⟨m, hm, hr, hu⟩ := e.ns
    refine ⟨m, hm.at' fun o q => hk _ o (ne _ e.loc) q, fun x pv hkx hx => ?_, hu⟩
    obtain ⟨v, hv, hp⟩ := hr x pv hkx hx
    refine ⟨v, hv, ?_⟩
    cases pv <;> try exact Rep.go g _ _ (Rep.hide hI h1 h2 h3 _ _ hp)
    simp only [RepM] at hp ⊢
    obtain ⟨r, vs, rfl, hrX, hi, hl⟩ := hp
    exact ⟨r, vs, rfl, hrX, hi.at fun o q => hk _ o (ne _ hrX) q, RepL.go g _ _ (RepL.hide hI h1 h2 h3 _ _ hl)⟩
  · obtain ⟨c, v, hc, hcX, ⟨oc, hoc, hd⟩, hp⟩ := e.cell x hkx
    refine ⟨c, v, hc, hcX, ⟨oc, hk _ _ (ne _ hcX) hoc, hd⟩, fun pv hx => ?_⟩
    obtain ⟨v', hv, hr⟩ := hp pv hx
    exact ⟨v', hv, Rep.go g _ _ (Rep.hide hI h1 h2 h3 _ _ hr)⟩

section
variable {prog : Program} {w : World} {A : Around} {E : Value → Shared → Prop} {G : Gl} {B : Heap} {d n : Nat} {ρ : Rho} {sc : Sc} {env : Env} {s : Shared} {X : List Addr} {Q : Flow → Shared → Prop}

theorem forLoop_cons {f : Rho → PV → Option (Fl × Rho)} {v : PV} {r : List PV} {ρ ρ' : Rho} {fl : Fl} (h : forLoop f (v :: r) ρ = some (fl, ρ')) :
    (∃ ρ₁, f ρ v = some (.next, ρ₁) ∧ forLoop f r ρ₁ = some (fl, ρ')) ∨ (∃ p, f ρ v = some (.ret p, ρ') ∧ fl = .ret p) := by
  simp only [forLoop, Option.bind_eq_some_iff] at h
  obtain ⟨⟨g, ρ₁⟩, hf, h⟩ := h
  cases g with
  | next => exact .inl ⟨ρ₁, hf, h⟩
  | ret p => simp only [Option.some.injEq, Prod.mk.injEq] at h; exact .inr ⟨p, by rw [hf, h.2], h.1.symm⟩

theorem for_sound (GO : GlOK prog w G B d) (XNn : XN prog w G B d n) {target iter : Expr} {body : List Stmt} {p : Pos} {it : PV} {items : List PV} {fl : Fl} {ρ' : Rho} (a : At B sc env s.heap X ρ) (RO : Room A d)
    (hst : storableT sc target = true) (hit : evalE G n sc ρ iter = some it) (hitems : itemsOf it = some items)
    (hf : forLoop (fun ρ v => (bindT ρ target v).bind fun ρ' => execsE G n sc ρ' body) items ρ = some (fl, ρ')) (hQ : PostX s X env fl ρ' Q) : wpAny (model prog w) A (exec (.For target iter body [] p) env) Q E s := by
  refine wpAny_For ((sn GO n).e _ _ _ _ hit env A s X _ E a.sc a.eo a.xo a.xb a.b RO fun vi h₁ tk₁ s₁ r₁ => ?_) (evalE_set hit env)
  refine iter_sound (s := { s with heap := h₁, toks := tk₁ }) RO.handled hitems r₁ fun I fp P St h₂ IT => ?_
  have a₁ := a.mono s₁
  have s₂ : Sub h₁ h₂ := IT.sub
  have a₂ := a₁.mono s₂
  have hI : h₁.get? I = none := IT.new
  have hIX : I ∉ X := a₁.xo.new hI
  obtain ⟨oI, hoI⟩ := IT.there _ _ IT.start
  -- the loop's own word
  refine codeAny_forLoop_any (fun k s' => ∃ h' tk i ρi X', s' = { s with heap := h', toks := tk } ∧ i ≤ items.length ∧ k = items.length + 1 - i ∧ St i h' ∧ At B sc env h' X' ρi ∧ KB (I :: X) h₂ h' ∧ (∀ a ∈ X', a ∈ X ∨ h₂.get? a = none) ∧ (∀ a ∈ X, a ∈ X') ∧
    forLoop (fun ρ v => (bindT ρ target v).bind fun ρ' => execsE G n sc ρ' body) (items.drop i) ρi = some (fl, ρ')) ?_ (items.length + 1)
    ⟨h₂, tk₁, 0, ρ, X, rfl, Nat.zero_le _, rfl, IT.start, a₂, KB.refl _ _, (fun a ha => .inl ha), (fun a ha => ha), by simpa using hf⟩
  rintro k s' ⟨h', tk, i, ρi, X', rfl, hi, rfl, hst', a', kb', hn', hin', hf'⟩
  have hIX' : I ∉ X' := fun q => (hn' I q).elim hIX fun r => by rw [hoI] at r; cases r
  -- the end
  have fin : ∀ (f : Flow) (hc : Heap) (tkc : Nat) (Xc : List Addr), FlowRep Xc hc fl f → At B sc env hc Xc ρ' → KB (I :: X) h₂ hc → (∀ a ∈ Xc, a ∈ X ∨ h₂.get? a = none) → (∀ a ∈ X, a ∈ Xc) → Q f { s with heap := hc, toks := tkc } := by
    intro f hc tkc Xc hfl ac kbc hnc hinc
    refine hQ f hc tkc Xc hfl ac.eo ac.xo (fun b o hbX e => kbc b o (fun q => ?_) (s₂ b o (s₁ b o e))) (fun b hb => ?_) hinc
    · rcases List.mem_cons.mp q with q | q
      · have := s₁ b o e; rw [q, hI] at this; cases this
      · exact hbX q
    · rcases hnc b hb with q | q
      · exact .inl q
      · right
        cases e : s.heap.get? b with
        | none => rfl
        | some o => rw [s₂ b o (s₁ b o e)] at q; cases q
  by_cases hlt : i < items.length
  · refine IT.walks.item i _ _ _ hlt hst' fun v hb tkb hPv hstb hkb => ?_
    have hp : items[i]? = some items[i] := by simp [hlt]
    have hdrop : items.drop i = items[i] :: items.drop (i + 1) := List.drop_eq_getElem_cons hlt
    rw [hdrop] at hf'
    -- the item's coming turns the iterator alone
    have kbI : KB [I] h' hb := fun b o hx e => hkb b o hx e
    have ab : At B sc env hb X' ρi := by
      obtain ⟨o, ho, c1, c2, c3⟩ := IT.kind _ _ hst'
      have keep : ∀ b o, b ≠ I → h'.get? b = some o → hb.get? b = some o := fun b o hx e => hkb b o (by simpa using hx) e
      exact ⟨a'.sc, a'.eo.turn ho c1 c2 c3 hIX' keep, fun b hb' => by
        obtain ⟨o', ho', q'⟩ := a'.xo b hb'; exact ⟨o', keep b o' (fun q => hIX' (q ▸ hb')) ho', q'⟩, a'.xb, fun b o e => keep b o (fun q => by
          have := a₁.b b o e; rw [q, hI] at this; cases this) (a'.b b o e)⟩
    have kbb : KB (I :: X) h₂ hb := fun b o hx e => hkb b o (by simp only [List.mem_singleton]; rintro rfl; exact hx (by simp)) (kb' b o hx e)
    have repv : Rep X' hb items[i] v := Rep.go (fun b o hbX e => ⟨fun q => (hn' b q).elim hbX (fun r => by rw [s₂ b o e] at r; cases r), kbb b o (fun q => by
      rcases List.mem_cons.mp q with q | q
      · rw [q, hI] at e; cases e
      · exact hbX q) (s₂ b o e)⟩) _ _ (IT.rep i v _ hPv hp)
    -- what the turn gives
    have bindx : ∃ ρ₁ y, bindT ρi target items[i] = some ρ₁ ∧ execsE G n sc ρ₁ body = some y ∧ ((∃ ρ₂, y = (.next, ρ₂) ∧ forLoop (fun ρ v => (bindT ρ target v).bind fun ρ' => execsE G n sc ρ' body) (items.drop (i + 1)) ρ₂ = some (fl, ρ')) ∨ (∃ q, y = (.ret q, ρ') ∧ fl = .ret q)) := by
      rcases forLoop_cons hf' with ⟨ρ₂, h1, h2⟩ | ⟨q, h1, h2⟩
      · simp only [Option.bind_eq_some_iff] at h1
        obtain ⟨ρ₁, hb1, hx1⟩ := h1
        exact ⟨ρ₁, _, hb1, hx1, .inl ⟨ρ₂, rfl, h2⟩⟩
      · simp only [Option.bind_eq_some_iff] at h1
        obtain ⟨ρ₁, hb1, hx1⟩ := h1
        exact ⟨ρ₁, _, hb1, hx1, .inr ⟨q, rfl, h2⟩⟩
    obtain ⟨ρ₁, ⟨fy, ρy⟩, hbind, hbody, hrest⟩ := bindx
    have lego : ∀ (Q' : Unit → Shared → Prop) (E' : Value → Shared → Prop), Q' () { s with heap := hb, toks := tkb } → wpAny (model prog w) A (letOwnedTupleGo target (.ref I) v) Q' E' { s with heap := hb, toks := tkb } := by
      intro Q' E' hq
      cases target <;> simp only [storableT] at hst <;> first | cases hst | skip
      · exact wpAny_pure hq
      · cases hit : items[i] <;> rw [hit] at hbind <;> simp only [bindT] at hbind <;> first | cases hbind | skip
        rw [hit] at repv
        simp only [Rep] at repv
        obtain ⟨r, vs, rfl, _⟩ := repv
        rcases IT.own with q | q
        · obtain ⟨l, j, hl⟩ := q _ _ hstb
          exact wpAny_letOwnedTupleGo_listiter (s := { s with heap := hb, toks := tkb }) hl hq
        · obtain ⟨k, hk⟩ := q items[i] (List.getElem_mem hlt)
          rw [hit] at hk; cases hk
    refine lego _ _ ?_
    refine assign_sound (s := { s with heap := hb, toks := tkb }) RO.handled ab.sc hst hbind ab.eo ab.xo repv fun hd tkd kld EOd XOd => ?_
    have kbd : KB X' hb hd := ab.eo.kb kld
    have ad : At B sc env hd X' ρ₁ := ab.next EOd XOd kbd fun a ha => .inl ha
    refine (XNn.xs _ _ _ _ _ hbody).go (s := { s with heap := hd, toks := tkd }) ad RO fun f he tke Xe hfl EOe XOe kbe hne hie => ?_
    have ae : At B sc env he Xe ρy := ad.next EOe XOe kbe hne
    -- the iterator stands through the turn
    obtain ⟨oI', hoI'⟩ := IT.there _ _ hstb
    have outX' : ∀ b ∈ fp, b ∉ X' := fun b hbf q => by
      rcases IT.out b hbf with rfl | ⟨hbX, o, ho⟩
      · exact hIX' q
      · exact (hn' b q).elim hbX fun r => by rw [s₂ b o ho] at r; cases r
    have ste : St (i + 1) he := IT.walks.frame _ _ _ hstb fun b hbf o e => kbe b o (outX' b hbf) (kbd b o (outX' b hbf) e)
    have sub2 : ∀ b o, b ∉ X → h₂.get? b = some o → b ∉ X' := fun b o hbX e q => (hn' b q).elim hbX fun r => by rw [e] at r; cases r
    have kb2 : KB (I :: X) h₂ he := fun b o hx e => by
      have hbX : b ∉ X := fun q => hx (List.mem_cons_of_mem _ q)
      exact kbe b o (sub2 b o hbX e) (kbd b o (sub2 b o hbX e) (kbb b o hx e))
    have hn2 : ∀ a ∈ Xe, a ∈ X ∨ h₂.get? a = none := fun b hbe => by
      rcases hne b hbe with q | q
      · exact hn' b q
      · by_cases hbX : b ∈ X
        · exact .inl hbX
        · right
          cases e : h₂.get? b with
          | none => rfl
          | some o =>
            exfalso
            by_cases hbI : b = I
            · have h5 := kbd I oI' hIX' hoI'; rw [hbI] at q; change hd.get? I = none at q; rw [h5] at q; cases q
            · have h6 := kbd b o (sub2 b o hbX e) (kbb b o (by simp only [List.mem_cons, not_or]; exact ⟨hbI, hbX⟩) e)
              change hd.get? b = none at q; rw [h6] at q; cases q
    rcases hrest with ⟨ρ₂, hy, hf2⟩ | ⟨q, hy, hfq⟩
    · cases hy
      simp only [FlowRep] at hfl
      subst hfl
      exact ⟨items.length + 1 - (i + 1), by omega, he, tke, i + 1, _, Xe, rfl, hlt, rfl, ste, ae, kb2, hn2, (fun a ha => hie a (hin' a ha)), hf2⟩
    · cases hy
      simp only [FlowRep] at hfl
      obtain ⟨vr, rfl, hvr⟩ := hfl
      exact fin _ he tke Xe (by rw [hfq]; exact ⟨vr, rfl, hvr⟩) ae kb2 hn2 fun a ha => hie a (hin' a ha)
  · obtain rfl : i = items.length := Nat.le_antisymm hi (Nat.not_lt.mp hlt)
    refine IT.walks.done _ _ _ hst' fun h₃ tk₃ hk₃ => wpAny_execs_nil ?_
    rw [List.drop_length] at hf'
    simp only [forLoop, Option.some.injEq, Prod.mk.injEq] at hf'
    obtain ⟨rfl, rfl⟩ := hf'
    obtain ⟨o, ho, c1, c2, c3⟩ := IT.kind _ _ hst'
    have keep : ∀ b o, b ≠ I → h'.get? b = some o → h₃.get? b = some o := fun b o hx e => hk₃ b o (by simpa using hx) e
    have a3 : At B sc env h₃ X' ρi := ⟨a'.sc, a'.eo.turn ho c1 c2 c3 hIX' keep, fun b hb' => by
        obtain ⟨o', ho', q'⟩ := a'.xo b hb'; exact ⟨o', keep b o' (fun q => hIX' (q ▸ hb')) ho', q'⟩, a'.xb, fun b o e => keep b o (fun q => by
          have := a₁.b b o e; rw [q, hI] at this; cases this) (a'.b b o e)⟩
    exact fin .next h₃ tk₃ X' (by simp only [FlowRep]) a3 (fun b o hx e => keep b o (fun q => hx (by simp [q])) (kb' b o hx e)) hn' hin'
end
end Mine
end

section
open PySem PyProof.Rows
set_option linter.unusedVariables false
set_option linter.unusedSimpArgs false
namespace Mine
section
variable {prog : Program} {w : World} {A : Around} {E : Value → Shared → Prop} {G : Gl} {B : Heap} {d n : Nat} {ρ : Rho} {sc : Sc} {env : Env} {s : Shared} {X : List Addr} {Q : Flow → Shared → Prop}

theorem while_sound (GO : GlOK prog w G B d) (XNn : XN prog w G B d n) {t : Expr} {body : List Stmt} {p : Pos} {fl : Fl} {ρ' : Rho} {k : Nat} (a : At B sc env s.heap X ρ) (RO : Room A d)
    (hf : whileLoop (fun ρ => truthE G n sc ρ t) (fun ρ => execsE G n sc ρ body) k ρ = some (fl, ρ')) (hQ : PostX s X env fl ρ' Q) : wpAny (model prog w) A (exec (.While t body [] p) env) Q E s := by
  refine wpAny_While (codeAny_whileLoop (fun k s' => ∃ h' tk ρi X', s' = { s with heap := h', toks := tk } ∧ At B sc env h' X' ρi ∧ KB X s.heap h' ∧ (∀ a ∈ X', a ∈ X ∨ s.heap.get? a = none) ∧ (∀ a ∈ X, a ∈ X') ∧
    whileLoop (fun ρ => truthE G n sc ρ t) (fun ρ => execsE G n sc ρ body) k ρi = some (fl, ρ')) ?_ k ⟨s.heap, s.toks, ρ, X, rfl, a, KB.refl _ _, (fun a ha => .inl ha), (fun a ha => ha), hf⟩)
  rintro k s' ⟨h', tk, ρi, X', rfl, a', kb', hn', hin', hf'⟩
  cases k with
  | zero => simp [whileLoop] at hf'
  | succ k =>
    simp only [whileLoop, Option.bind_eq_some_iff] at hf'
    obtain ⟨b, hb, hf'⟩ := hf'
    refine (sn GO n).truth _ _ _ _ hb env A { s with heap := h', toks := tk } X' _ _ a'.sc a'.eo a'.xo a'.xb a'.b RO fun h₁ tk₁ s₁ => ?_
    have a₁ := a'.mono s₁
    have kb₁ : KB X s.heap h₁ := fun b o hbX e => s₁ b o (kb' b o hbX e)
    cases b with
    | true =>
      rw [if_pos rfl] at hf' ⊢
      simp only [Option.bind_eq_some_iff] at hf'
      obtain ⟨⟨fy, ρy⟩, hbody, hrest⟩ := hf'
      refine (XNn.xs _ _ _ _ _ hbody).go (s := { s with heap := h₁, toks := tk₁ }) a₁ RO fun f he tke Xe hfl EOe XOe kbe hne hie => ?_
      have ae : At B sc env he Xe ρy := a₁.next EOe XOe kbe hne
      have kb2 : KB X s.heap he := kb_trans kb₁ hn' kbe
      have hn2 := new_trans kb₁ hn' hne
      cases fy with
      | next =>
        simp only [FlowRep] at hfl
        subst hfl
        exact ⟨k, Nat.lt_succ_self _, he, tke, ρy, Xe, rfl, ae, kb2, hn2, (fun a ha => hie a (hin' a ha)), hrest⟩
      | ret q =>
        simp only [Option.some.injEq, Prod.mk.injEq] at hrest
        obtain ⟨rfl, rfl⟩ := hrest
        simp only [FlowRep] at hfl
        obtain ⟨vr, rfl, hvr⟩ := hfl
        exact hQ _ he tke Xe ⟨vr, rfl, hvr⟩ ae.eo ae.xo kb2 hn2 fun a ha => hie a (hin' a ha)
    | false =>
      rw [if_neg Bool.false_ne_true] at hf' ⊢
      simp only [Option.some.injEq, Prod.mk.injEq] at hf'
      obtain ⟨rfl, rfl⟩ := hf'
      exact wpAny_execs_nil (hQ .next h₁ tk₁ X' (by simp only [FlowRep]) a₁.eo a₁.xo kb₁ hn' hin')

theorem aug_sound {op : Operator} {a b c : PV} {va vb : Value} {Q : Value → Shared → Prop} (e : augOp op a b = some c) (ha : Rep X s.heap a va) (hb : Rep X s.heap b vb) (h : Post X s c Q) : wpAny (model prog w) A (inplaceOp op va vb) Q E s := by
  unfold augOp at e
  split at e
  · simp only [Rep] at ha hb; obtain ⟨t, rfl⟩ := ha; obtain ⟨u, rfl⟩ := hb; cases e
    exact PySem.P.iadd_int (h.int _ _)
  · simp only [Rep] at ha hb; obtain ⟨t, rfl⟩ := ha; obtain ⟨u, rfl⟩ := hb; cases e
    exact PyProof.Rows.isub_int (h.int _ _)
  · cases e

theorem xs_step (X1 : XN prog w G B d n) (sts : List Stmt) (fl : Fl) (ρ' : Rho) (h : execsE G (n + 1) sc ρ sts = some (fl, ρ')) : XsSound prog w B d sts sc ρ fl ρ' := by
  intro env A s X Q E hsc EO XO hXB hB RO hQ
  cases sts with
  | nil =>
    simp only [exs_nil, exs_cons, Option.some.injEq, Prod.mk.injEq] at h
    obtain ⟨rfl, rfl⟩ := h
    exact wpAny_execs_nil (hQ .next s.heap s.toks X (by simp only [FlowRep]) EO XO (KB.refl _ _) (fun a ha => .inl ha) fun a ha => ha)
  | cons st r =>
    simp only [exs_nil, exs_cons, Option.bind_eq_some_iff] at h
    obtain ⟨⟨fy, ρy⟩, hst, hrest⟩ := h
    have a : At B sc env s.heap X ρ := ⟨hsc, EO, XO, hXB, hB⟩
    refine wpAny_execs_cons ((X1.x _ _ _ _ _ hst).go a RO fun f h₁ tk₁ X₁ hfl EO₁ XO₁ kb₁ hn₁ hi₁ => ?_)
    have a₁ := a.next EO₁ XO₁ kb₁ hn₁
    cases fy with
    | next =>
      simp only [FlowRep] at hfl
      subst hfl
      refine (X1.xs _ _ _ _ _ hrest).go (s := { s with heap := h₁, toks := tk₁ }) a₁ RO fun f h₂ tk₂ X₂ hfl₂ EO₂ XO₂ kb₂ hn₂ hi₂ => ?_
      exact hQ f h₂ tk₂ X₂ hfl₂ EO₂ XO₂ (kb_trans kb₁ hn₁ kb₂) (new_trans kb₁ hn₁ hn₂) fun a ha => hi₂ a (hi₁ a ha)
    | ret q =>
      simp only [Option.some.injEq, Prod.mk.injEq] at hrest
      obtain ⟨rfl, rfl⟩ := hrest
      simp only [FlowRep] at hfl
      obtain ⟨vr, rfl, hvr⟩ := hfl
      exact hQ _ h₁ tk₁ X₁ ⟨vr, rfl, hvr⟩ EO₁ XO₁ kb₁ hn₁ hi₁

/-- what a target is -/
noncomputable def TgIs (ts : List Expr) : Tg → Prop
  | .one x p => ts = [.Name x p]
  | .two x p y q => ts = [.Name x p, .Name y q]
  | .tup l k p => ts = [.Tuple l k p]
  | .item x px i p => ts = [.Subscript (.Name x px) i p]
  | .no => True
theorem tgItem_is {i v : Expr} {p : Pos} : TgIs [.Subscript v i p] (tgItem i p v) := by
  cases v <;> first | exact trivial | exact (rfl : (_ : List Expr) = _)
theorem tg1_is {e : Expr} : TgIs [e] (tg1 e) := by
  cases e <;> first | exact trivial | exact (rfl : (_ : List Expr) = _) | exact tgItem_is
theorem tg2'_is {x : Str} {p : Pos} {f : Expr} : TgIs [.Name x p, f] (tg2' x p f) := by
  cases f <;> first | exact trivial | exact (rfl : (_ : List Expr) = _)
theorem tg2_is {e f : Expr} : TgIs [e, f] (tg2 f e) := by
  cases e <;> first | exact trivial | exact tg2'_is
theorem tgOf_is : ∀ (ts : List Expr), TgIs ts (tgOf ts)
  | [] => trivial
  | [_] => tg1_is
  | [_, _] => tg2_is
  | _ :: _ :: _ :: _ => trivial

theorem x_step (GO : GlOK prog w G B d) (X1 : XN prog w G B d n) (st : Stmt) (fl : Fl) (ρ' : Rho) (h : execE G (n + 1) sc ρ st = some (fl, ρ')) : XSound prog w B d st sc ρ fl ρ' := by
  intro env A s X Q E hsc EO XO hXB hB RO hQ
  have a : At B sc env s.heap X ρ := ⟨hsc, EO, XO, hXB, hB⟩
  have S := sn GO n
  cases st
  case Return v p =>
    cases v with
    | none => exact no_some h
    | some e =>
      simp only [ex_Return, ex_Assign, ex_Aug, ex_If, ex_For, ex_While, Option.map_eq_some_iff, Prod.mk.injEq] at h
      obtain ⟨pv, hv, rfl, rfl⟩ := h
      refine wpAny_Return_some (S.e _ _ _ _ hv env A s X _ E hsc EO XO hXB hB RO fun v1 h₁ tk₁ s₁ r₁ => ?_)
      exact hQ _ h₁ tk₁ X ⟨v1, rfl, r₁⟩ (EO.mono s₁) (XO.sub s₁) (.of_sub s₁) (fun a ha => .inl ha) fun a ha => ha
  case If t b1 b2 p =>
    simp only [ex_Return, ex_Assign, ex_Aug, ex_If, ex_For, ex_While, Option.bind_eq_some_iff] at h
    obtain ⟨c, hc, h⟩ := h
    refine wpAny_If (S.truth _ _ _ _ hc env A s X _ E hsc EO XO hXB hB RO fun h₁ tk₁ s₁ => ?_)
    have post : PostX { s with heap := h₁, toks := tk₁ } X env fl ρ' Q := fun f h₂ tk₂ X₂ hfl EO₂ XO₂ kb hn hi => hQ f h₂ tk₂ X₂ hfl EO₂ XO₂ (fun b o hbX e => kb b o hbX (s₁ b o e)) (fun b hb => (hn b hb).imp (fun q => q) fun q => by
      cases e : s.heap.get? b with
      | none => rfl
      | some o => have := s₁ b o e; change h₁.get? b = none at q; rw [this] at q; cases q) hi
    cases c with
    | true => rw [if_pos rfl] at h ⊢; exact (X1.xs _ _ _ _ _ h).go (s := { s with heap := h₁, toks := tk₁ }) (a.mono s₁) RO post
    | false => rw [if_neg Bool.false_ne_true] at h ⊢; exact (X1.xs _ _ _ _ _ h).go (s := { s with heap := h₁, toks := tk₁ }) (a.mono s₁) RO post
  case While t body orelse p =>
    cases orelse with
    | cons _ _ => exact no_some h
    | nil => simp only [ex_Return, ex_Assign, ex_Aug, ex_If, ex_For, ex_While] at h; exact while_sound GO X1 a RO h hQ
  case For target iter body orelse p =>
    cases orelse with
    | cons _ _ => exact no_some h
    | nil =>
      simp only [ex_Return, ex_Assign, ex_Aug, ex_If, ex_For, ex_While] at h
      split at h
      · rename_i hst
        simp only [Option.bind_eq_some_iff] at h
        obtain ⟨it, hit, items, hitems, h⟩ := h
        exact for_sound GO X1 a RO hst hit hitems h hQ
      · cases h
  case AugAssign target op v p =>
    cases target
    case Name x q =>
      simp only [ex_Return, ex_Assign, ex_Aug, ex_If, ex_For, ex_While] at h
      split at h
      · rename_i hst
        simp only [Option.bind_eq_some_iff, Option.map_eq_some_iff, Prod.mk.injEq] at h
        obtain ⟨pa, ha, pb, hb, pc, hc, rfl, rfl⟩ := h
        refine wpAny_AugAssign_Name (nameV_sound GO hB hsc EO ha fun va ra => ?_)
        refine S.e _ _ _ _ hb env A s X _ E hsc EO XO hXB hB RO fun vb h₁ tk₁ s₁ r₁ => ?_
        refine aug_sound (s := { s with heap := h₁, toks := tk₁ }) hc (ra.mono s₁) r₁ fun vc h₂ tk₂ s₂ r₂ => ?_
        have s12 := s₁.trans s₂
        refine store_sound (s := { s with heap := h₂, toks := tk₂ }) (EO.mono s12) (XO.sub s12) hsc hst r₂ fun h₃ tk₃ kl EO₃ XO₃ => ?_
        exact hQ .next h₃ tk₃ X (by simp only [FlowRep]) EO₃ XO₃ (fun b o hbX e => (EO.mono s12).kb kl b o hbX (s12 b o e)) (fun a ha => .inl ha) fun a ha => ha
      · cases h
    all_goals exact no_some h
  case Assign targets v p =>
    simp only [ex_Return, ex_Assign, ex_Aug, ex_If, ex_For, ex_While] at h
    have ht := tgOf_is targets
    cases hg : tgOf targets <;> rw [hg] at h ht <;> simp only [assignE] at h
    case one x q =>
      replace ht : targets = _ := ht
      subst ht
      split at h
      · rename_i hst
        simp only [Option.bind_eq_some_iff, Option.map_eq_some_iff, Prod.mk.injEq] at h
        obtain ⟨pv, hv, pq, hq, rfl, rfl⟩ := h
        unfold storeV at hq
        split at hq
        · rename_i hm
          split at hq
          · rename_i l hx
            cases hq
            exact assign_own_sound GO hsc EO XO hXB hB RO hx hm hv hQ
          · cases hq
        · cases hq
          exact assign_name_sound GO hsc EO XO hXB hB RO hst hv hQ
      · cases h
    case two x q y q' =>
      replace ht : targets = _ := ht
      subst ht
      split at h
      · rename_i hst
        simp only [Bool.and_eq_true] at hst
        simp only [Option.map_eq_some_iff, Prod.mk.injEq] at h
        obtain ⟨pv, hv, rfl, rfl⟩ := h
        refine wpAny_Assign_two (S.e _ _ _ _ hv env A s X _ E hsc EO XO hXB hB RO fun v1 h₁ tk₁ s₁ r₁ => ?_) rfl (by cases v <;> rfl)
        refine wpAny_assign_Name (store_sound (s := { s with heap := h₁, toks := tk₁ }) (EO.mono s₁) (XO.sub s₁) hsc hst.1.1 r₁ fun h₂ tk₂ kl₂ EO₂ XO₂ => ?_)
        have kb₂ : KB X h₁ h₂ := (EO.mono s₁).kb kl₂
        refine wpAny_assign_Name (store_sound (s := { s with heap := h₂, toks := tk₂ }) EO₂ XO₂ hsc hst.1.2 (Rep.go (.kb kb₂) _ _ r₁) fun h₃ tk₃ kl₃ EO₃ XO₃ => ?_)
        exact hQ .next h₃ tk₃ X (by simp only [FlowRep]) EO₃ XO₃ (fun b o hbX e => EO₂.kb kl₃ b o hbX (kb₂ b o hbX (s₁ b o e))) (fun a ha => .inl ha) fun a ha => ha
      · cases h
    case tup ts k q =>
      replace ht : targets = _ := ht
      subst ht
      split at h
      · rename_i hst
        simp only [Bool.and_eq_true] at hst
        simp only [Option.bind_eq_some_iff, Option.map_eq_some_iff, Prod.mk.injEq] at h
        obtain ⟨pv, hv, ρ₁, hb, rfl, rfl⟩ := h
        exact assign_tuple_sound GO a RO hst.1.1 hst.1.2 hst.2 hv hb hQ
      · cases h
    case item x px i q =>
      replace ht : targets = _ := ht
      subst ht
      split at h
      · cases h
      · rename_i hi
        simp only [Option.bind_eq_some_iff, Option.map_eq_some_iff, Prod.mk.injEq] at h
        obtain ⟨pv, hv, l, ho, kv, hk, l', hs, rfl, rfl⟩ := h
        exact assign_item_sound GO a RO (by simpa using hi) ho hv hk hs hQ
    case no => cases h
  all_goals exact no_some h

theorem xn (GO : GlOK prog w G B d) : ∀ n, XN prog w G B d n
  | 0 => ⟨fun st sc ρ fl ρ' h => by exact no_some h, fun sts sc ρ fl ρ' h => by exact no_some h⟩
  | n + 1 =>
    have X1 := xn GO n
    ⟨fun st sc ρ fl ρ' h => x_step GO X1 st fl ρ' h, fun sts sc ρ fl ρ' h => xs_step X1 sts fl ρ' h⟩
end
end Mine
end

section
open PySem PyProof.Rows
set_option linter.unusedVariables false
namespace Mine

/-- what is to be known of a def that stands in B -/
structure DefAt (B : Heap) (a : Addr) (fd : FuncData) (params : List Str) (body : List Stmt) : Prop where
  at' : ∃ o, B.get? a = some o ∧ o.data = .func fd
  code : B.CodeRec fd.code fd.qualname
  body : fd.body = .stmts body
  bind : ∀ vs : List Value, vs.length = params.length → bindArgs fd ⟨vs, []⟩ = pure (params.zip vs)
  loc : ∀ x ∈ params, fd.scope.names.lookup x = some .local
  co : fd.scope.isCoroutine = false
  gen : fd.scope.isGenerator = false
  kind : fd.scope.kind = .function
  glob : fd.globals = mainGlobals
  blt : fd.builtins = builtinsNs

theorem zip_lookup {X : List Addr} {h : Heap} : ∀ (params : List Str) (ps : List PV) (vs : List Value) (ρ ρ' : Rho) (m : Str → Option Value), bindNames ρ params ps = some ρ' → RepL X h ps vs → (∀ x pv, ρ x = some pv → ∃ v, m x = some v ∧ Rep X h pv v) →
    ∀ x pv, ρ' x = some pv → ∃ v, ((params.zip vs).reverse.lookup x).or (m x) = some v ∧ Rep X h pv v
  | [], ps, vs, ρ, ρ', m, hb, hr, hm => by
    cases ps with
    | nil => simp only [bindNames, Option.some.injEq] at hb; subst hb; simpa using hm
    | cons _ _ => simp [bindNames] at hb
  | y :: params, ps, vs, ρ, ρ', m, hb, hr, hm => by
    cases ps with
    | nil => simp [bindNames] at hb
    | cons q qs =>
      simp only [bindNames] at hb
      simp only [RepL] at hr
      obtain ⟨v, vr, rfl, hv, hvr⟩ := hr
      intro x pv hx
      have := zip_lookup params qs vr (upd ρ y q) ρ' (fun z => if z = y then some v else m z) hb hvr (fun z pz hz => by
        by_cases hzy : z = y
        · subst hzy; simp only [upd, if_true, Option.some.injEq] at hz; subst hz; exact ⟨v, by simp, hv⟩
        · simp only [upd, hzy, if_false] at hz; simpa [hzy] using hm z pz hz) x pv hx
      obtain ⟨u, hu, hr⟩ := this
      refine ⟨u, ?_, hr⟩
      rw [← hu]
      simp only [List.zip_cons_cons, List.reverse_cons, List.lookup_append, Option.or_assoc]
      congr 1
      by_cases hxy : x = y
      · subst hxy; simp
      · simp [List.lookup_cons, hxy, beq_eq_false_iff_ne.mpr hxy]

theorem scal_rep {X Y : List Addr} {h h' : Heap} {p : PV} {v : Value} (hs : scal p = true) (e : Rep X h p v) : Rep Y h' p v := by
  cases p <;> first | (simp [scal] at hs; done) | (simpa only [Rep] using e)
theorem scals_rep {X Y : List Addr} {h h' : Heap} : ∀ {l : List PV} {vs : List Value}, l.all scal = true → RepL X h l vs → RepL Y h' l vs
  | [], _, _, e => by simpa only [RepL] using e
  | p :: ps, _, hs, e => by
    simp only [List.all_cons, Bool.and_eq_true] at hs
    simp only [RepL] at e ⊢
    obtain ⟨v, r, rfl, hv, hr⟩ := e
    exact ⟨v, r, rfl, scal_rep hs.1 hv, scals_rep hs.2 hr⟩
/-- what a call hands back lies in no hidden place of the caller's -/
theorem flat_rep {X Y : List Addr} {h h' : Heap} {p : PV} {v : Value} (hs : flat p = true) (e : Rep X h' p v) (XO : XOK Y h) (s : Sub h h') : Rep Y h' p v := by
  cases p <;> simp only [flat] at hs <;> try exact scal_rep hs e
  simp only [Rep] at e ⊢
  obtain ⟨r, vs, rfl, hr, ht, hl⟩ := e
  refine ⟨r, vs, rfl, fun q => ?_, ht, scals_rep hs hl⟩
  obtain ⟨o, ho, hn⟩ := XO r q
  obtain ⟨o', ho', hc, n, hd⟩ := ht
  rw [s _ _ ho] at ho'; cases ho'
  exact hn hc _ _ hd

section
variable {prog : Program} {w : World} {G : Gl} {B : Heap} {d n : Nat}

theorem def_sound (GO : GlOK prog w G B d) (hlim : B.NoLimit) {a : Addr} {fd : FuncData} {params : List Str} {body : List Stmt} {ps : List PV} {r : PV} (D : DefAt B a fd params body) (hcl : fd.closure = []) (hcell : ∀ x ∈ fd.scope.names, x.2 ≠ .cell)
    (e : callE G n fd.scope.names params body ps = some r) : CallOK prog w B (d + 1) a ps r := by
  intro A s X vs Q E RO hB XO hXB hr hQ
  simp only [callE, Option.bind_eq_some_iff] at e
  obtain ⟨ρ, hρ, ⟨fl, ρ'⟩, hx, e⟩ := e
  cases fl with
  | next => cases e
  | ret v =>
    simp only at e
    split at e
    · rename_i hflat
      simp only [Option.some.injEq] at e
      subst e
      obtain ⟨o, ho, hdat⟩ := D.at'
      have hlen : vs.length = params.length := by rw [hr.length, bindNames_length hρ]
      have hroom : A.depth < recursionLimit := by have := RO.depth; omega
      refine wpAny_call (codeAny_call_def hroom (hB _ _ ho) hdat (hlim.keeps hB) (D.code.keeps hB) D.body (.of_eq (D.bind vs hlen)) hcell (fun x hx => D.loc x.1 (List.of_mem_zip hx).1) (fun h₀ hns sub => ?_) D.co D.gen D.kind)
      have hLnew : s.heap.get? s.heap.objs.size = none := get_size_none _
      have hLB : B.get? s.heap.objs.size = none := by
        cases q : B.get? s.heap.objs.size with
        | none => rfl
        | some o => rw [hB _ _ q] at hLnew; cases hLnew
      have go : Goes X s.heap [s.heap.objs.size] h₀ := fun b o hb e => ⟨(fun q => by rw [List.mem_singleton.mp q, hLnew] at e; cases e), sub b o e⟩
      have EO : EnvOK [s.heap.objs.size] h₀ (callEnv fd s.heap.objs.size a) ρ := by
        have key := zip_lookup (X := [s.heap.objs.size]) (h := h₀) params ps vs rho0 ρ (fun _ => none) hρ (RepL.go go _ _ hr) (fun x pv hx => by simp [rho0] at hx)
        refine ⟨D.kind, D.glob, D.blt, List.mem_cons_self, ⟨_, hns, fun x pv _ hx => ?_, fun x y l l' _ _ hx => ?_⟩, fun x hk => ?_, fun x y c hxc => ?_⟩
        · obtain ⟨u, hu, hru⟩ := key x pv hx
          exact ⟨u, by simpa using hu, .of hru⟩
        · obtain ⟨u, _, hru⟩ := key x _ hx
          simp only [Rep] at hru
        · exact absurd rfl (hcell _ (mem_of_lookup hk))
        · have : fd.closure.lookup x = some c := hxc
          rw [hcl] at this; cases this
      have XO₀ : XOK [s.heap.objs.size] h₀ := fun b hb => by
        rw [List.mem_singleton.mp hb]; exact NoTup.ns hns
      have RO' : Room (A.deeper (callEnv fd s.heap.objs.size a)) d := ⟨RO.handled, by
        have := RO.depth
        show A.depth + 1 + d < recursionLimit
        omega, by
        have := RO.units
        show A.units + 3 + 100 * d + 100 < cLine
        omega⟩
      refine ((xn GO n).xs _ _ _ _ _ hx) (callEnv fd s.heap.objs.size a) _ { s with heap := h₀, toks := _ } [s.heap.objs.size] _ _ rfl EO XO₀ (fun b hb => ?_) (hB.trans sub) RO' ?_
      · rw [List.mem_singleton.mp hb]; exact hLB
      · intro f h' tk X' hfl EO' XO' kb hn hi
        simp only [FlowRep] at hfl
        obtain ⟨u, rfl, hu⟩ := hfl
        have sub' : Sub s.heap h' := fun b o e => kb b o (fun q => by rw [List.mem_singleton.mp q, hLnew] at e; cases e) (sub b o e)
        exact hQ u h' tk sub' (flat_rep hflat hu XO sub')
    · cases e
end
end Mine
end

section
open PySem
set_option linter.unusedVariables false
set_option linter.unusedSimpArgs false
set_option maxRecDepth 100000
namespace Mine
noncomputable def lawBody : List Stmt := bodyOf "law"
noncomputable def lawSc : Sc := scopeOf "law"
noncomputable def stAt (l : List Stmt) (i : Nat) : Stmt := l.getD i (.Pass ⟨0, 0, 0, 0⟩)
noncomputable def forB : Stmt → List Stmt
  | .For _ _ b _ _ => b
  | _ => []
noncomputable def turnBody : List Stmt := forB (stAt (forB (stAt lawBody 5)) 1)
/-- what _law_seen gives: the place, and whether it is far -/
noncomputable def farB (p t : Int) : Bool := decide (t ≤ 4 * p) && decide (4 * p ≤ 3 * t)
noncomputable def seenP (p t : Int) : Option PV := if 0 ≤ p ∧ p < t ∧ 2 ≤ t ∧ t ≤ 21 then some (.tup [.int p, .bool (farB p t)]) else Option.none
noncomputable def seenT (p : Int) : PV → Option PV
  | .int t => seenP p t
  | _ => Option.none
noncomputable def seenV (b : PV) : PV → Option PV
  | .int p => seenT p b
  | _ => Option.none
noncomputable def seenL : List PV → Option PV
  | [a, b] => seenV b a
  | _ => Option.none
noncomputable def callS (a : Addr) (l : List PV) : Option PV := if a = 59 then seenL l else Option.none
noncomputable def GS : Gl := { G0 with call := callS }

theorem lookup_if {α : Type} (x n : Str) (k : α) (r : List (Str × α)) : List.lookup x ((n, k) :: r) = if x = n then some k else List.lookup x r := by
  rw [List.lookup_cons]
  by_cases h : x = n
  · subst h; simp
  · rw [beq_eq_false_iff_ne.mpr h]; simp [h]
theorem relab_lk (sc : Sc) (x : Str) : ∀ cs : Sc, (relab cs sc).lookup x = (cs.lookup x).map fun k => if k = .free ∧ sc.lookup x = some .cell then .cell else k
  | [] => rfl
  | (n, k) :: r => by
    have ih := relab_lk sc x r
    simp only [relab, List.map_cons] at ih ⊢
    have e : (if (k == NameKind.free && sc.lookup n == some NameKind.cell) = true then (n, NameKind.cell) else (n, k)) = (n, if k = .free ∧ sc.lookup n = some .cell then .cell else k) := by
      by_cases h : k = .free ∧ sc.lookup n = some .cell
      · rw [if_pos (by simp [h.1, h.2]), if_pos h]
      · rw [if_neg (by simpa using h), if_neg h]
    rw [e, lookup_if, lookup_if, ih]
    by_cases hx : x = n
    · subst hx; simp
    · simp [hx]
theorem upd_app (ρ : Rho) (x y : Str) (v : PV) : upd ρ x v y = if y = x then some v else ρ y := rfl
theorem cut_app (cs : Sc) (ρ : Rho) (y : Str) : cut cs ρ y = match cs.lookup y with | some .free => ρ y | _ => Option.none := rfl

theorem k_script : List.lookup ("script" : Str) lawSc = some .local := by decide +kernel
theorem k_left : List.lookup ("left" : Str) lawSc = some .local := by decide +kernel
theorem k_places : List.lookup ("places" : Str) lawSc = some .cell := by decide +kernel
theorem k_k : List.lookup ("k" : Str) lawSc = some .local := by decide +kernel
theorem k_speeds : List.lookup ("speeds" : Str) lawSc = some .cell := by decide +kernel
theorem k_ahead : List.lookup ("ahead" : Str) lawSc = some .local := by decide +kernel
theorem k_best : List.lookup ("best" : Str) lawSc = some .local := by decide +kernel
theorem k_whole : List.lookup ("whole" : Str) lawSc = some .local := by decide +kernel
theorem k_astray : List.lookup ("astray" : Str) lawSc = some .local := by decide +kernel
theorem k_one : List.lookup ("one" : Str) lawSc = some .local := by decide +kernel
theorem k_other : List.lookup ("other" : Str) lawSc = some .local := by decide +kernel
theorem k_turn : List.lookup ("turn" : Str) lawSc = some .cell := by decide +kernel
theorem k_moment : List.lookup ("moment" : Str) lawSc = some .cell := by decide +kernel
theorem k_spots : List.lookup ("spots" : Str) lawSc = some .cell := by decide +kernel
theorem k_seen : List.lookup ("seen" : Str) lawSc = some .cell := by decide +kernel
theorem k_nearest : List.lookup ("nearest" : Str) lawSc = some .local := by decide +kernel
theorem k_list : List.lookup ("list" : Str) lawSc = some .globalImplicit := by decide +kernel
theorem k_range : List.lookup ("range" : Str) lawSc = some .globalImplicit := by decide +kernel
theorem k_sum : List.lookup ("sum" : Str) lawSc = some .globalImplicit := by decide +kernel
theorem k_len : List.lookup ("len" : Str) lawSc = some .globalImplicit := by decide +kernel
theorem k_abs : List.lookup ("abs" : Str) lawSc = some .globalImplicit := by decide +kernel
theorem k_min : List.lookup ("min" : Str) lawSc = some .globalImplicit := by decide +kernel
theorem g_list : GS.glob ("list" : Str) = some (.typ "list") := by rfl
theorem g_range : GS.glob ("range" : Str) = some (.typ "range") := by rfl
theorem g_sum : GS.glob ("sum" : Str) = some (.bltn "sum") := by rfl
theorem g_len : GS.glob ("len" : Str) = some (.bltn "len") := by rfl
theorem g_abs : GS.glob ("abs" : Str) = some (.bltn "abs") := by rfl
theorem g_min : GS.glob ("min" : Str) = some (.bltn "min") := by rfl
theorem g_seen : GS.glob ("_law_seen" : Str) = some (.ref 59) := by rfl
theorem g_tok : GS.glob ("EXACT_TOKEN_TYPES" : Str) = some (.ref 29) := by rfl
theorem s_4 : small 4 = true := by decide
theorem s_3 : small 3 = true := by decide
theorem r_3 : rangeL 0 3 1 = [0, 1, 2] := by decide +kernel
theorem GS_call (p t : Int) : GS.call 59 [.int p, .int t] = seenP p t := rfl
theorem chain_ite (c b : Bool) : (if c = true then some b else some false) = some (c && b) := by cases c <;> rfl

structure Inv (ρ : Rho) (a b c : Int) (ps ss : List PV) (best whole : Int) : Prop where
  ahead : ρ "ahead" = some (.list [.int a, .int b, .int c])
  places : ρ "places" = some (.list ps)
  speeds : ρ "speeds" = some (.list ss)
  best : ρ "best" = some (.int best)
  whole : ρ "whole" = some (.int whole)
  astray : ρ "astray" = some (.list [])

/-- how far the nearest is -/
noncomputable def near (x y z t : Int) : Int := minInts (if t - x < x then t - x else x) [if t - y < y then t - y else y, if t - z < z then t - z else z]

theorem turn0 {f : Nat} {ρ : Rho} {a b c m t : Int} (ha : ρ "ahead" = some (.list [.int a, .int b, .int c])) (hm : ρ "moment" = some (.int m)) (ht : ρ "turn" = some (.int t))
   (sa : small a = true) (sb : small b = true) (sc : small c = true) (sm : small m = true) (ht0 : ¬ t = 0) :
   execE GS (f+40) lawSc ρ (stAt turnBody 0) = some (.next, upd ρ "spots" (.list [.int ((a*m).fmod t), .int ((b*m).fmod t), .int ((c*m).fmod t)])) := by
  conv => lhs; arg 5; whnf
  simp (config := {decide := true}) only [ex_Return, ex_Assign, ex_Aug, ex_If, ex_For, ex_While, tg_one, tg_tup, assignE, ml_ListComp, ml_BinOp, ml_Tuple, ml_Call, lt_typ, lt_bltn, lt_ref, storeV, ev_Constant, ev_Name, ev_BinOp, ev_IfExp, ev_BoolOp, ev_Compare, ev_List, ev_Tuple, ev_ListComp, ev_Call, ev_Slice, ev_Sub, if_true, if_false, Option.bind_some, Option.map_some, Option.map_map, itemsOf, compLoop, elemE, bt_name, bt_tup, List.length_cons, List.length_nil, binOp, mulOp, modOp, nameV, ha, hm, ht, sa, sb, sc, sm, ht0, Bool.and_self, Bool.true_and, lookup_if, relab_lk, k_ahead, k_moment, k_turn, upd_app, cut_app]

theorem turn1 {f : Nat} {ρ : Rho} {x y z t : Int} (hs : ρ "spots" = some (.list [.int x, .int y, .int z])) (ht : ρ "turn" = some (.int t))
   (hx : 0 ≤ x ∧ x < t ∧ 2 ≤ t ∧ t ≤ 21) (hy : 0 ≤ y ∧ y < t ∧ 2 ≤ t ∧ t ≤ 21) (hz : 0 ≤ z ∧ z < t ∧ 2 ≤ t ∧ t ≤ 21) :
   execE GS (f+40) lawSc ρ (stAt turnBody 1) = some (.next, upd ρ "seen" (.list [.tup [.int x, .bool (farB x t)], .tup [.int y, .bool (farB y t)], .tup [.int z, .bool (farB z t)]])) := by
  conv => lhs; arg 5; whnf
  simp (config := {decide := true}) only [ex_Return, ex_Assign, ex_Aug, ex_If, ex_For, ex_While, tg_one, tg_tup, assignE, ml_ListComp, ml_BinOp, ml_Tuple, ml_Call, lt_typ, lt_bltn, lt_ref, storeV, ev_Constant, ev_Name, ev_BinOp, ev_IfExp, ev_BoolOp, ev_Compare, ev_List, ev_Tuple, ev_ListComp, ev_Call, ev_Slice, ev_Sub, evs_nil, evs_cons, callV, if_true, if_false, Option.bind_some, Option.map_some, Option.map_map, itemsOf, compLoop, elemE, bt_name, bt_tup, List.length_cons, List.length_nil, nameV, hs, ht, lookup_if, relab_lk, k_spots, k_turn, upd_app, cut_app, g_seen, GS_call, seenP, hx, hy, hz, and_self]
end Mine
end

section
open PySem
set_option linter.unusedVariables false
set_option linter.unusedSimpArgs false
set_option maxRecDepth 100000
namespace Mine

theorem turn2 {f : Nat} {ρ : Rho} {x y z t : Int} (hs : ρ "seen" = some (.list [.tup [.int x, .bool (farB x t)], .tup [.int y, .bool (farB y t)], .tup [.int z, .bool (farB z t)]])) (ht : ρ "turn" = some (.int t))
   (sx : small x = true) (sy : small y = true) (sz : small z = true) (st : small t = true) :
   execE GS (f+40) lawSc ρ (stAt turnBody 2) = some (.next, ρ) := by
  conv => lhs; arg 5; whnf
  simp (config := {decide := true}) only [ex_Return, ex_Assign, ex_Aug, ex_If, ex_For, ex_While, exs_nil, exs_cons, truth_Not, truth_BoolOp, truth_Compare, chain_one, chain_more, ev_Constant, ev_Name, ev_BinOp, ev_IfExp, ev_BoolOp, ev_Compare, ev_List, ev_Tuple, ev_ListComp, ev_Call, ev_Slice, ev_Sub, evs_nil, evs_cons, callV, if_true, if_false, Option.bind_some, Option.map_some, itemsOf, compLoop, elemE, bt_name, bt_tup, namesT, bindNames, List.length_cons, List.length_nil, nameV, hs, ht, lookup_if, relab_lk, k_seen, k_turn, upd_app, cut_app, constPV, binOp, mulOp, sx, sy, sz, st, s_4, s_3, Bool.and_self, cmpPV, cmpII, chain_ite, listEq, intsOf, boolsOf, farB, Bool.not_true, decide_true]

theorem turn3 {f : Nat} {ρ : Rho} {x y z t : Int} {fx fy fz : Bool} (hs : ρ "seen" = some (.list [.tup [.int x, .bool fx], .tup [.int y, .bool fy], .tup [.int z, .bool fz]])) (ht : ρ "turn" = some (.int t)) :
   execE GS (f+40) lawSc ρ (stAt turnBody 3) = some (.next, upd ρ "nearest" (.int (near x y z t))) := by
  conv => lhs; arg 5; whnf
  simp (config := {decide := true}) only [ex_Return, ex_Assign, ex_Aug, ex_If, ex_For, ex_While, tg_one, tg_tup, assignE, ml_ListComp, ml_BinOp, ml_Tuple, ml_Call, lt_typ, lt_bltn, lt_ref, storeV, ev_Constant, ev_Name, ev_BinOp, ev_IfExp, ev_BoolOp, ev_Compare, ev_List, ev_Tuple, ev_ListComp, ev_Call, ev_Slice, ev_Sub, evs_nil, evs_cons, callV, callB, bMin, bMinL, bMin2, bMin1, bLen1, bSum1, bAbs1, only1, if_true, if_false, Option.bind_some, Option.map_some, itemsOf, compLoop, elemE, bt_name, bt_tup, namesT, bindNames, List.length_cons, List.length_nil, nameV, hs, ht, lookup_if, relab_lk, k_seen, k_turn, k_min, g_min, upd_app, cut_app, binOp, subOp, intsOf, near]

theorem turn5 {f : Nat} {ρ : Rho} {x y z t : Int} {fx fy fz : Bool} (hs : ρ "seen" = some (.list [.tup [.int x, .bool fx], .tup [.int y, .bool fy], .tup [.int z, .bool fz]])) (hp : ρ "spots" = some (.list [.int x, .int y, .int z])) (ha : ρ "astray" = some (.list [])) :
   execE GS (f+40) lawSc ρ (stAt turnBody 5) = some (.next, upd ρ "astray" (.list [])) := by
  conv => lhs; arg 5; whnf
  simp (config := {decide := true}) only [ex_Return, ex_Assign, ex_Aug, ex_If, ex_For, ex_While, tg_one, tg_tup, assignE, ml_ListComp, ml_BinOp, ml_Tuple, ml_Call, lt_typ, lt_bltn, lt_ref, storeV, ev_Constant, ev_Name, ev_BinOp, ev_IfExp, ev_BoolOp, ev_Compare, ev_List, ev_Tuple, ev_ListComp, ev_Call, ev_Slice, ev_Sub, evs_nil, evs_cons, truth_Not, truth_BoolOp, truth_Compare, chain_one, chain_more, callV, callT, tList1, tRangeI, only1, intsOf, if_true, if_false, Option.bind_some, Option.map_some, itemsOf, compLoop, elemE, bt_name, bt_tup, List.length_cons, List.length_nil, nameV, hs, hp, ha, lookup_if, relab_lk, k_seen, k_spots, k_astray, k_range, g_range, upd_app, cut_app, constPV, binOp, addOp, r_3, List.map_cons, List.map_nil, baseE, ownL, itemPV, seqIndex?, cmpPV, cmpII, bne_self_eq_false, List.append_nil, List.nil_append, Int.toNat_zero, List.getElem?_cons_zero, List.getElem?_cons_succ, Int.reduceToNat]
end Mine
end

section
open PySem
set_option linter.unusedVariables false
set_option linter.unusedSimpArgs false
set_option maxRecDepth 100000
namespace Mine

theorem turn4 {f : Nat} {ρ : Rho} {b w n t : Int} (hb : ρ "best" = some (.int b)) (hw : ρ "whole" = some (.int w)) (hn : ρ "nearest" = some (.int n)) (ht : ρ "turn" = some (.int t))
   (sb : small b = true) (sw : small w = true) (sn : small n = true) (st : small t = true) :
   execE GS (f+40) lawSc ρ (stAt turnBody 4) = some (.next, if n * w > b * t then upd (upd ρ "best" (.int n)) "whole" (.int t) else ρ) := by
  conv => lhs; arg 5; whnf
  by_cases hc : n * w > b * t
  all_goals simp (config := {decide := true}) only [hc, ex_Return, ex_Assign, ex_Aug, ex_If, ex_For, ex_While, exs_nil, exs_cons, tg_one, tg_tup, assignE, ml_ListComp, ml_BinOp, ml_Tuple, ml_Call, lt_typ, lt_bltn, lt_ref, storeV, truth_Not, truth_BoolOp, truth_Compare, chain_one, chain_more, ev_Constant, ev_Name, ev_BinOp, ev_IfExp, ev_BoolOp, ev_Compare, ev_List, ev_Tuple, ev_ListComp, ev_Call, ev_Slice, ev_Sub, evs_nil, evs_cons, if_true, if_false, Option.bind_some, Option.map_some, bt_name, bt_tup, namesT, bindNames, List.length_cons, List.length_nil, nameV, hb, hw, hn, ht, lookup_if, k_best, k_whole, k_turn, k_nearest, binOp, mulOp, sb, sw, sn, st, Bool.and_self, cmpPV, cmpII, storableT, storable, nodupT, Bool.not_true, decide_true, decide_false, List.all_cons, List.all_nil, List.any_cons, List.any_nil]
end Mine
end

section
open PySem
set_option maxRecDepth 100000
namespace Mine
noncomputable def step1 (a b c t : Int) (bw : Int × Int) (m : Int) : Int × Int :=
  if near ((a*m).fmod t) ((b*m).fmod t) ((c*m).fmod t) t * bw.2 > bw.1 * t then (near ((a*m).fmod t) ((b*m).fmod t) ((c*m).fmod t) t, t) else bw
noncomputable def nats : List Int := [1,2,3,4,5,6,7,8,9,10]
noncomputable def turnP (a b c t : Int) (bw : Int × Int) : Int × Int := (nats.take (t / 2).toNat).foldl (step1 a b c t) bw
noncomputable def lawP (a b c : Int) : Int × Int := turnP a b c (absI b + absI c) (turnP a b c (absI a + absI c) (turnP a b c (absI a + absI b) (0, 1)))
noncomputable def good (bw : Int × Int) : Bool := decide (bw.2 ≤ 4 * bw.1) && (decide (bw.2 ≤ 3 * bw.1) || decide (bw.1.fmod (bw.2 - 3 * bw.1) = 0))
end Mine
end

section
open PySem
set_option linter.unusedVariables false
set_option linter.unusedSimpArgs false
set_option maxRecDepth 100000
namespace Mine
theorem small_of {x : Int} (h1 : -1000 ≤ x) (h2 : x ≤ 1000) : small x = true := by
  simp only [small, decide_eq_true_eq]; omega
theorem seq_next {G : Gl} {n : Nat} {sc : Sc} {ρ ρ1 : Rho} {st : Stmt} {r : List Stmt} (e : execE G n sc ρ st = some (.next, ρ1)) : execsE G (n + 1) sc ρ (st :: r) = execsE G n sc ρ1 r := by
  simp only [exs_nil, exs_cons, e, Option.bind_some]
theorem seq_ret {G : Gl} {n : Nat} {sc : Sc} {ρ ρ1 : Rho} {st : Stmt} {v : PV} {r : List Stmt} (e : execE G n sc ρ st = some (.ret v, ρ1)) : execsE G (n + 1) sc ρ (st :: r) = some (.ret v, ρ1) := by
  simp only [exs_nil, exs_cons, e, Option.bind_some]
theorem turnBody_eq : turnBody = [stAt turnBody 0, stAt turnBody 1, stAt turnBody 2, stAt turnBody 3, stAt turnBody 4, stAt turnBody 5] := by rfl

theorem minInts2 (a b c : Int) : minInts a [b, c] = if c < (if b < a then b else a) then c else (if b < a then b else a) := rfl
theorem less_b {a b t : Int} (ha : 0 ≤ a ∧ a ≤ t) (hb : 0 ≤ b ∧ b ≤ t) : 0 ≤ (if b < a then b else a) ∧ (if b < a then b else a) ≤ t := by
  split
  · exact hb
  · exact ha
theorem side_b {x t : Int} (hx : 0 ≤ x ∧ x < t) : 0 ≤ (if t - x < x then t - x else x) ∧ (if t - x < x then t - x else x) ≤ t := less_b ⟨hx.1, Int.le_of_lt hx.2⟩ (by omega)
theorem near_b {x y z t : Int} (hx : 0 ≤ x ∧ x < t) (hy : 0 ≤ y ∧ y < t) (hz : 0 ≤ z ∧ z < t) : 0 ≤ near x y z t ∧ near x y z t ≤ t := by
  rw [near, minInts2]
  exact less_b (less_b (side_b hx) (side_b hy)) (side_b hz)

noncomputable def bnd (bw : Int × Int) : Prop := 0 ≤ bw.1 ∧ bw.1 ≤ 21 ∧ 0 ≤ bw.2 ∧ bw.2 ≤ 21

theorem fm_b (a t : Int) (h : 2 ≤ t) : 0 ≤ a.fmod t ∧ a.fmod t < t := ⟨Int.fmod_nonneg_of_pos a (by omega), Int.fmod_lt_of_pos a (by omega)⟩

theorem step_b {a b c t m : Int} {bw : Int × Int} (ht : 2 ≤ t) (ht' : t ≤ 21) (hb : bnd bw) : bnd (step1 a b c t bw m) := by
  have hn := near_b (fm_b (a*m) t ht) (fm_b (b*m) t ht) (fm_b (c*m) t ht)
  unfold step1
  split
  · exact ⟨hn.1, Int.le_trans hn.2 ht', Int.le_trans (by decide) ht, ht'⟩
  · exact hb
theorem sm_lead {a : Int} (h : -11 ≤ a ∧ a ≤ 11) : small a = true := small_of (by omega) (by omega)
theorem sm_pos {a t : Int} (h : 0 ≤ a ∧ a < t) (ht : t ≤ 21) : small a = true := small_of (by omega) (by omega)
theorem sm_le {a t : Int} (h : 0 ≤ a ∧ a ≤ t) (ht : t ≤ 21) : small a = true := small_of (by omega) (by omega)
theorem sm_t {t : Int} (h : 2 ≤ t) (ht : t ≤ 21) : small t = true := small_of (by omega) (by omega)
theorem sm_m {m : Int} (h : 1 ≤ m ∧ m ≤ 10) : small m = true := small_of (by omega) (by omega)
theorem ne_t {t : Int} (h : 2 ≤ t) : ¬ t = 0 := by omega
theorem Inv.keep {ρ ρ' : Rho} {a b c x y x' y' : Int} {ps ss : List PV} (I : Inv ρ a b c ps ss x y) (h1 : ρ' "ahead" = ρ "ahead") (h2 : ρ' "places" = ρ "places") (h3 : ρ' "speeds" = ρ "speeds") (h4 : ρ' "best" = some (.int x')) (h5 : ρ' "whole" = some (.int y')) (h6 : ρ' "astray" = some (.list [])) : Inv ρ' a b c ps ss x' y' :=
  ⟨h1.trans I.ahead, h2.trans I.places, h3.trans I.speeds, h4, h5, h6⟩
/-- the turn's tail -/
theorem turn_end {f : Nat} {ρ : Rho} {a b c x y z t x' y' : Int} {fx fy fz : Bool} {ps ss : List PV} (hs : ρ "seen" = some (.list [.tup [.int x, .bool fx], .tup [.int y, .bool fy], .tup [.int z, .bool fz]])) (hp : ρ "spots" = some (.list [.int x, .int y, .int z]))
    (I : Inv ρ a b c ps ss x' y') (ht : ρ "turn" = some (.int t)) : ∃ ρ', execsE GS (f + 42) lawSc ρ [stAt turnBody 5] = some (.next, ρ') ∧ Inv ρ' a b c ps ss x' y' ∧ ρ' "turn" = some (.int t) := by
  rw [seq_next (turn5 (f := f + 1) (t := t) hs hp I.astray)]
  exact ⟨_, rfl, I.keep rfl rfl rfl I.best I.whole rfl, ht⟩
/-- the turn behind the place -/
theorem turn_best {f : Nat} {ρ : Rho} {a b c x y z t b0 w0 : Int} {fx fy fz : Bool} {ps ss : List PV} (hs : ρ "seen" = some (.list [.tup [.int x, .bool fx], .tup [.int y, .bool fy], .tup [.int z, .bool fz]])) (hp : ρ "spots" = some (.list [.int x, .int y, .int z]))
    (I : Inv ρ a b c ps ss b0 w0) (ht : ρ "turn" = some (.int t)) (sb : small b0 = true) (sw : small w0 = true) (sn : small (near x y z t) = true) (st : small t = true) :
    ∃ ρ', execsE GS (f + 44) lawSc ρ [stAt turnBody 3, stAt turnBody 4, stAt turnBody 5] = some (.next, ρ') ∧ Inv ρ' a b c ps ss (if near x y z t * w0 > b0 * t then (near x y z t, t) else (b0, w0)).1 (if near x y z t * w0 > b0 * t then (near x y z t, t) else (b0, w0)).2 ∧ ρ' "turn" = some (.int t) := by
  have I1 : Inv (upd ρ "nearest" (.int (near x y z t))) a b c ps ss b0 w0 := I.keep rfl rfl rfl I.best I.whole I.astray
  rw [seq_next (turn3 (f := f + 3) hs ht), seq_next (turn4 (f := f + 2) I1.best I1.whole rfl ht sb sw sn st)]
  split
  · exact turn_end (f := f) hs hp (I1.keep rfl rfl rfl rfl rfl I.astray) ht
  · exact turn_end (f := f) hs hp I1 ht

theorem turn_all {f : Nat} {ρ : Rho} {a b c m t : Int} {ps ss : List PV} {bw : Int × Int} (I : Inv ρ a b c ps ss bw.1 bw.2) (hm : ρ "moment" = some (.int m)) (ht : ρ "turn" = some (.int t))
   (ba : -11 ≤ a ∧ a ≤ 11) (bb : -11 ≤ b ∧ b ≤ 11) (bc : -11 ≤ c ∧ c ≤ 11) (bm : 1 ≤ m ∧ m ≤ 10) (bt : 2 ≤ t) (bt' : t ≤ 21) (hb : bnd bw) :
   ∃ ρ', execsE GS (f + 47) lawSc ρ turnBody = some (.next, ρ') ∧ Inv ρ' a b c ps ss (step1 a b c t bw m).1 (step1 a b c t bw m).2 ∧ ρ' "turn" = some (.int t) := by
  have fa := fm_b (a*m) t bt
  have fb := fm_b (b*m) t bt
  have fc := fm_b (c*m) t bt
  rw [turnBody_eq, seq_next (turn0 (f := f + 6) I.ahead hm ht (sm_lead ba) (sm_lead bb) (sm_lead bc) (sm_m bm) (ne_t bt))]
  unfold step1
  generalize (a*m).fmod t = x at fa ⊢
  generalize (b*m).fmod t = y at fb ⊢
  generalize (c*m).fmod t = z at fc ⊢
  rw [seq_next (turn1 (f := f + 5) (ρ := upd ρ "spots" (.list [.int x, .int y, .int z])) rfl ht ⟨fa.1, fa.2, bt, bt'⟩ ⟨fb.1, fb.2, bt, bt'⟩ ⟨fc.1, fc.2, bt, bt'⟩), seq_next (turn2 (f := f + 4) (ρ := upd (upd ρ "spots" (.list [.int x, .int y, .int z])) "seen" (.list [.tup [.int x, .bool (farB x t)], .tup [.int y, .bool (farB y t)], .tup [.int z, .bool (farB z t)]])) rfl ht (sm_pos fa bt') (sm_pos fb bt') (sm_pos fc bt') (sm_t bt bt'))]
  exact turn_best (f := f) rfl rfl (I.keep rfl rfl rfl I.best I.whole I.astray) ht (sm_le ⟨hb.1, hb.2.1⟩ (Int.le_refl _)) (sm_le ⟨hb.2.2.1, hb.2.2.2⟩ (Int.le_refl _)) (sm_le (near_b fa fb fc) bt') (sm_t bt bt')

theorem inner_all {f : Nat} {a b c t : Int} {ps ss : List PV} (ba : -11 ≤ a ∧ a ≤ 11) (bb : -11 ≤ b ∧ b ≤ 11) (bc : -11 ≤ c ∧ c ≤ 11) (bt : 2 ≤ t) (bt' : t ≤ 21) :
   ∀ (ms : List Int) (bw : Int × Int) (ρ : Rho), (∀ m ∈ ms, 1 ≤ m ∧ m ≤ 10) → Inv ρ a b c ps ss bw.1 bw.2 → ρ "turn" = some (.int t) → bnd bw →
   ∃ ρ', forLoop (fun ρ v => (bindT ρ (.Name "moment" ⟨0,0,0,0⟩) v).bind fun ρ' => execsE GS (f + 47) lawSc ρ' turnBody) (ms.map .int) ρ = some (.next, ρ') ∧ Inv ρ' a b c ps ss (ms.foldl (step1 a b c t) bw).1 (ms.foldl (step1 a b c t) bw).2
  | [], bw, ρ, _, I, ht, hb => ⟨ρ, rfl, I⟩
  | m :: ms, bw, ρ, hms, I, ht, hb => by
    have I1 : Inv (upd ρ "moment" (.int m)) a b c ps ss bw.1 bw.2 := ⟨I.ahead, I.places, I.speeds, I.best, I.whole, I.astray⟩
    obtain ⟨ρ', e, I', ht'⟩ := turn_all (f := f) I1 rfl (show upd ρ "moment" (.int m) "turn" = _ from ht) ba bb bc (hms m List.mem_cons_self) bt bt' hb
    obtain ⟨ρ'', e', I''⟩ := inner_all (f := f) ba bb bc bt bt' ms _ ρ' (fun x hx => hms x (List.mem_cons_of_mem _ hx)) I' ht' (step_b bt bt' hb)
    refine ⟨ρ'', ?_, I''⟩
    simp only [List.map_cons, forLoop, bt_name, bt_tup, Option.bind_some, e]
    simp only [bt_name, bt_tup, Option.bind_some] at e'
    exact e'

theorem rng_t : ∀ t ∈ List.range 22, Builtin.Range.small 1 ((t : Int).fdiv 2 + 1) 1 = true ∧ (rangeL 1 ((t : Int).fdiv 2 + 1) 1).length ≤ 1000 ∧ rangeL 1 ((t : Int).fdiv 2 + 1) 1 = nats.take ((t : Int) / 2).toNat := by decide +kernel

theorem items_t {t : Int} (bt : 2 ≤ t) (bt' : t ≤ 21) : itemsOf (.rng 1 (t.fdiv 2 + 1) 1) = some ((nats.take (t / 2).toNat).map .int) := by
  have h := rng_t t.toNat (List.mem_range.mpr (by omega))
  rw [Int.toNat_of_nonneg (by omega)] at h
  simp only [itemsOf, h.1, h.2.1, true_and, if_true]
  rw [h.2.2]
end Mine
end

section
open PySem
set_option linter.unusedVariables false
set_option linter.unusedSimpArgs false
set_option maxRecDepth 100000
namespace Mine
noncomputable def outBody : List Stmt := forB (stAt lawBody 5)
noncomputable def forT : Stmt → Expr
  | .For t _ _ _ _ => t
  | _ => .Name "" ⟨0, 0, 0, 0⟩
noncomputable def forI : Stmt → Expr
  | .For _ i _ _ _ => i
  | _ => .Name "" ⟨0, 0, 0, 0⟩
noncomputable def forP : Stmt → Pos
  | .For _ _ _ _ p => p
  | _ => ⟨0, 0, 0, 0⟩
theorem inner_eq : stAt outBody 1 = .For (forT (stAt outBody 1)) (forI (stAt outBody 1)) turnBody [] (forP (stAt outBody 1)) := by rfl
theorem outer_eq : stAt lawBody 5 = .For (forT (stAt lawBody 5)) (forI (stAt lawBody 5)) outBody [] (forP (stAt lawBody 5)) := by rfl
theorem outBody_eq : outBody = [stAt outBody 0, stAt outBody 1] := by rfl
theorem bindT_inner (ρ : Rho) (v : PV) : bindT ρ (forT (stAt outBody 1)) v = some (upd ρ "moment" v) := by rfl
theorem bindT_outer (ρ : Rho) (v w : PV) : bindT ρ (forT (stAt lawBody 5)) (.tup [v, w]) = some (upd (upd ρ "one" v) "other" w) := by rfl
theorem s_2 : small 2 = true := by decide

theorem outer0 {f : Nat} {ρ : Rho} {a b c x y : Int} {i j : Nat} (ha : ρ "ahead" = some (.list [.int a, .int b, .int c])) (h1 : ρ "one" = some (.int i)) (h2 : ρ "other" = some (.int j))
   (hi : [PV.int a, PV.int b, PV.int c][i]? = some (.int x)) (hj : [PV.int a, PV.int b, PV.int c][j]? = some (.int y)) (li : i < 1000) (lj : j < 1000) :
   execE GS (f + 40) lawSc ρ (stAt outBody 0) = some (.next, upd ρ "turn" (.int (absI x + absI y))) := by
  have ci : 0 ≤ (i : Int) ∧ (i : Int) < 1000 := by omega
  have cj : 0 ≤ (j : Int) ∧ (j : Int) < 1000 := by omega
  conv => lhs; arg 5; whnf
  simp (config := {decide := true}) only [ex_Return, ex_Assign, ex_Aug, ex_If, ex_For, ex_While, tg_one, tg_tup, assignE, ml_ListComp, ml_BinOp, ml_Tuple, ml_Call, lt_typ, lt_bltn, lt_ref, storeV, ev_Constant, ev_Name, ev_BinOp, ev_IfExp, ev_BoolOp, ev_Compare, ev_List, ev_Tuple, ev_ListComp, ev_Call, ev_Slice, ev_Sub, evs_nil, evs_cons, callV, callB, bMin, bMinL, bMin2, bMin1, bLen1, bSum1, bAbs1, only1, if_true, if_false, Option.bind_some, Option.map_some, List.length_cons, List.length_nil, nameV, ha, h1, h2, lookup_if, k_ahead, k_one, k_other, k_turn, k_abs, g_abs, binOp, addOp, baseE, ownL, itemPV, ci, cj, Int.toNat_natCast, hi, hj, storable, List.isEmpty_cons, and_self]

theorem iter_inner {f : Nat} {ρ : Rho} {t : Int} (ht : ρ "turn" = some (.int t)) : evalE GS (f + 40) lawSc ρ (forI (stAt outBody 1)) = some (.rng 1 (t.fdiv 2 + 1) 1) := by
  conv => lhs; arg 5; whnf
  simp (config := {decide := true}) only [ev_Constant, ev_Name, ev_BinOp, ev_IfExp, ev_BoolOp, ev_Compare, ev_List, ev_Tuple, ev_ListComp, ev_Call, ev_Slice, ev_Sub, evs_nil, evs_cons, callV, callT, tList1, tRangeI, only1, intsOf, if_true, if_false, Option.bind_some, Option.map_some, List.length_cons, List.length_nil, nameV, ht, lookup_if, k_turn, k_range, g_range, constPV, binOp, addOp, fdivOp, List.isEmpty_cons, and_self]
theorem iter_outer {f : Nat} {ρ : Rho} : evalE GS (f + 40) lawSc ρ (forI (stAt lawBody 5)) = some (.list [.tup [.int 0, .int 1], .tup [.int 0, .int 2], .tup [.int 1, .int 2]]) := by
  conv => lhs; arg 5; whnf
  simp (config := {decide := true}) only [ev_Constant, ev_Name, ev_BinOp, ev_IfExp, ev_BoolOp, ev_Compare, ev_List, ev_Tuple, ev_ListComp, ev_Call, ev_Slice, ev_Sub, evs_nil, evs_cons, if_true, if_false, Option.bind_some, Option.map_some, List.length_cons, List.length_nil, constPV]
theorem st_inner : storableT lawSc (forT (stAt outBody 1)) = true := by decide +kernel
theorem st_outer : storableT lawSc (forT (stAt lawBody 5)) = true := by decide +kernel

theorem nats_b : ∀ m ∈ nats, 1 ≤ m ∧ m ≤ 10 := by decide
theorem inner_for {f : Nat} {ρ : Rho} {a b c t : Int} {ps ss : List PV} {bw : Int × Int} (ba : -11 ≤ a ∧ a ≤ 11) (bb : -11 ≤ b ∧ b ≤ 11) (bc : -11 ≤ c ∧ c ≤ 11) (bt : 2 ≤ t) (bt' : t ≤ 21)
   (I : Inv ρ a b c ps ss bw.1 bw.2) (ht : ρ "turn" = some (.int t)) (hb : bnd bw) :
   ∃ ρ', execE GS (f + 48) lawSc ρ (stAt outBody 1) = some (.next, ρ') ∧ Inv ρ' a b c ps ss (turnP a b c t bw).1 (turnP a b c t bw).2 := by
  obtain ⟨ρ', e, I'⟩ := inner_all (f := f) ba bb bc bt bt' (nats.take (t / 2).toNat) bw ρ (fun m hm => nats_b m (List.mem_of_mem_take hm)) I ht hb
  refine ⟨ρ', ?_, I'⟩
  rw [inner_eq]
  simp only [ex_Return, ex_Assign, ex_Aug, ex_If, ex_For, ex_While, st_inner, if_true, iter_inner (f := f + 7) ht, Option.bind_some, items_t bt bt', bindT_inner]
  simp only [bt_name, bt_tup, Option.bind_some] at e
  exact e

theorem fold_b {a b c t : Int} (ht : 2 ≤ t) (ht' : t ≤ 21) : ∀ (ms : List Int) (bw : Int × Int), bnd bw → bnd (ms.foldl (step1 a b c t) bw)
  | [], bw, hb => hb
  | m :: ms, bw, hb => fold_b ht ht' ms _ (step_b ht ht' hb)

theorem pass1 {f : Nat} {ρ : Rho} {a b c x y : Int} {i j : Nat} {ps ss : List PV} {bw : Int × Int} (ba : -11 ≤ a ∧ a ≤ 11) (bb : -11 ≤ b ∧ b ≤ 11) (bc : -11 ≤ c ∧ c ≤ 11)
   (hi : [PV.int a, PV.int b, PV.int c][i]? = some (.int x)) (hj : [PV.int a, PV.int b, PV.int c][j]? = some (.int y)) (li : i < 1000) (lj : j < 1000)
   (bt : 2 ≤ absI x + absI y) (bt' : absI x + absI y ≤ 21)
   (I : Inv ρ a b c ps ss bw.1 bw.2) (hb : bnd bw) :
   ∃ ρ', execsE GS (f + 50) lawSc (upd (upd ρ "one" (.int i)) "other" (.int j)) outBody = some (.next, ρ') ∧ Inv ρ' a b c ps ss (turnP a b c (absI x + absI y) bw).1 (turnP a b c (absI x + absI y) bw).2 ∧ bnd (turnP a b c (absI x + absI y) bw) := by
  obtain ⟨ρ', e, I'⟩ := inner_for (f := f) (ρ := upd (upd (upd ρ "one" (.int i)) "other" (.int j)) "turn" (.int (absI x + absI y))) ba bb bc bt bt' ⟨I.ahead, I.places, I.speeds, I.best, I.whole, I.astray⟩ rfl hb
  refine ⟨ρ', ?_, I', fold_b bt bt' _ _ hb⟩
  rw [outBody_eq, seq_next (outer0 (f := f + 9) (ρ := upd (upd ρ "one" (.int i)) "other" (.int j)) I.ahead rfl rfl hi hj li lj), seq_next e]
  rfl

theorem outer_for {f : Nat} {ρ : Rho} {a b c : Int} {ps ss : List PV} (ba : -11 ≤ a ∧ a ≤ 11) (bb : -11 ≤ b ∧ b ≤ 11) (bc : -11 ≤ c ∧ c ≤ 11)
   (t1 : 2 ≤ absI a + absI b ∧ absI a + absI b ≤ 21) (t2 : 2 ≤ absI a + absI c ∧ absI a + absI c ≤ 21) (t3 : 2 ≤ absI b + absI c ∧ absI b + absI c ≤ 21)
   (I : Inv ρ a b c ps ss 0 1) :
   ∃ ρ', execE GS (f + 51) lawSc ρ (stAt lawBody 5) = some (.next, ρ') ∧ Inv ρ' a b c ps ss (lawP a b c).1 (lawP a b c).2 ∧ bnd (lawP a b c) := by
  obtain ⟨ρ1, e1, I1, b1⟩ := pass1 (f := f) (i := 0) (j := 1) (bw := (0, 1)) ba bb bc rfl rfl (by omega) (by omega) t1.1 t1.2 I (by unfold bnd; decide)
  obtain ⟨ρ2, e2, I2, b2⟩ := pass1 (f := f) (i := 0) (j := 2) ba bb bc rfl rfl (by omega) (by omega) t2.1 t2.2 I1 b1
  obtain ⟨ρ3, e3, I3, b3⟩ := pass1 (f := f) (i := 1) (j := 2) ba bb bc rfl rfl (by omega) (by omega) t3.1 t3.2 I2 b2
  refine ⟨ρ3, ?_, I3, b3⟩
  rw [outer_eq]
  simp only [ex_Return, ex_Assign, ex_Aug, ex_If, ex_For, ex_While, st_outer, if_true, iter_outer (f := f + 10), Option.bind_some, itemsOf, List.length_cons, List.length_nil, Nat.reduceAdd, Nat.reduceLeDiff, forLoop, bindT_outer]
  simp only [Int.ofNat_zero, Int.ofNat_one, Int.cast_ofNat_Int, Int.natCast_zero] at e1 e2 e3
  rw [show execsE GS (f + 50) lawSc (upd (upd ρ "one" (.int 0)) "other" (.int 1)) outBody = _ from e1]
  simp only [Option.bind_some]
  rw [show execsE GS (f + 50) lawSc (upd (upd ρ1 "one" (.int 0)) "other" (.int 2)) outBody = _ from e2]
  simp only [Option.bind_some]
  rw [show execsE GS (f + 50) lawSc (upd (upd ρ2 "one" (.int 1)) "other" (.int 2)) outBody = _ from e3]
  simp only [Option.bind_some]
end Mine
end

section
open PySem
set_option linter.unusedVariables false
set_option linter.unusedSimpArgs false
set_option maxRecDepth 100000
namespace Mine
theorem intsOf_map : ∀ ms : List Int, intsOf (ms.map .int) = some ms
  | [] => rfl
  | m :: ms => by simp only [List.map_cons, intsOf, intsOf_map ms, Option.map_some]

theorem slice_len : ∀ n ∈ List.range 64, ∀ k ∈ List.range 4, (sliceRange (sliceBounds (some (k : Int)) (some 24) (some 4) n).1 (sliceBounds (some (k : Int)) (some 24) (some 4) n).2.1 (sliceBounds (some (k : Int)) (some 24) (some 4) n).2.2).length ≤ 1000 := by decide +kernel

theorem fmap_ints (ns : List Int) : ∀ R : List Nat, R.filterMap ((ns.map PV.int)[·]?) = (R.filterMap (ns[·]?)).map PV.int
  | [] => rfl
  | i :: R => by
    rw [List.filterMap_cons, List.filterMap_cons, fmap_ints ns R, List.getElem?_map]
    cases ns[i]? <;> rfl

theorem slice_ints {ns : List Int} {k : Nat} (hl : ns.length ≤ 63) (hk : k < 4) : ∃ ms : List Int, ms.length ≤ 1000 ∧ slicePV (.list (ns.map .int)) (some (k : Int)) (some 24) (some 4) = some (.list (ms.map .int)) := by
  have h := slice_len ns.length (List.mem_range.mpr (by omega)) k (List.mem_range.mpr hk)
  refine ⟨(sliceRange (sliceBounds (some (k : Int)) (some 24) (some 4) ns.length).1 (sliceBounds (some (k : Int)) (some 24) (some 4) ns.length).2.1 (sliceBounds (some (k : Int)) (some 24) (some 4) ns.length).2.2).filterMap (ns[·]?), Nat.le_trans (List.length_filterMap_le _ _) h, ?_⟩
  simp only [slicePV]
  rw [if_pos ⟨by simp, by rw [List.length_map]; omega⟩, fmap_ints, List.length_map]

noncomputable def pickBody : List Stmt := forB (stAt lawBody 1)

theorem sum_map {ms : List Int} (h : ms.length ≤ 1000) : callB "sum" [.list (ms.map .int)] = some (.int ms.sum) := by
  show bSum1 (.list (ms.map .int)) = _
  simp only [bSum1, intsOf_map, List.length_map, h, if_true]
theorem len_map {ms : List Int} (h : ms.length ≤ 1000) : callB "len" [.list (ms.map .int)] = some (.int ms.length) := by
  show bLen1 (.list (ms.map .int)) = _
  simp only [bLen1, List.length_map, h, if_true]

theorem pick0 {f : Nat} {ρ : Rho} {ns L P ms : List Int} {k : Nat} {p : Int} (hs : ρ "script" = some (.list (ns.map .int))) (hL : ρ "left" = some (.list (L.map .int))) (hP : ρ "places" = some (.list (P.map .int))) (hk : ρ "k" = some (.int k))
   (l1 : L.length ≤ 12) (l0 : ¬ (L.length : Int) = 0) (hPl : (P.map PV.int).length + (0 + 1) ≤ 1000) (hm : ms.length ≤ 1000) (hsl : slicePV (.list (ns.map .int)) (some (k : Int)) (some 24) (some 4) = some (.list (ms.map .int)))
   (hp : itemPV GS (.list (L.map .int)) (.int (ms.sum.fmod L.length)) = some (.int p)) :
   execE GS (f + 40) lawSc ρ (stAt pickBody 0) = some (.next, upd ρ "places" (.list ((P ++ [p]).map .int))) := by
  conv => lhs; arg 5; whnf
  simp (config := {decide := true}) only [ex_Return, ex_Assign, ex_Aug, ex_If, ex_For, ex_While, tg_one, tg_tup, assignE, ml_ListComp, ml_BinOp, ml_Tuple, ml_Call, lt_typ, lt_bltn, lt_ref, storeV, ev_Constant, ev_Name, ev_BinOp, ev_IfExp, ev_BoolOp, ev_Compare, ev_List, ev_Tuple, ev_ListComp, ev_Call, ev_Slice, ev_Sub, evs_nil, evs_cons, part_none, part_some, partOf, callV, if_true, if_false, Option.bind_some, Option.map_some, List.length_cons, List.length_nil, nameV, hs, hL, hP, hk, lookup_if, k_script, k_left, k_places, k_k, k_sum, k_len, g_sum, g_len, binOp, addOp, modOp, baseE, ownL, constPV, hsl, sum_map hm, len_map (Nat.le_trans l1 (by decide) : L.length ≤ 1000), l0, hp, storable, List.isEmpty_cons, and_self]
  rw [if_pos hPl]
  simp only [Option.bind_some, Option.map_some, List.map_append, List.map_cons, List.map_nil]

theorem comp_filter {f : PV → Option (Option PV)} {q : Int → Bool} (h : ∀ i, f (.int i) = some (if q i then some (.int i) else Option.none)) : ∀ L : List Int, compLoop f (L.map .int) = some ((L.filter q).map .int)
  | [] => rfl
  | i :: L => by
    rw [List.map_cons, compLoop, h i, comp_filter h L]
    cases hq : q i
    · simp [hq]
    · simp [hq]

theorem pick1 {f : Nat} {ρ : Rho} {L P : List Int} (hL : ρ "left" = some (.list (L.map .int))) (hP : ρ "places" = some (.list (P.map .int))) (l1 : (L.map PV.int).length ≤ 1000) :
   execE GS (f + 40) lawSc ρ (stAt pickBody 1) = some (.next, upd ρ "left" (.list ((L.filter fun i => !P.contains i).map .int))) := by
  conv => lhs; arg 5; whnf
  simp (config := {decide := true}) only [ex_Return, ex_Assign, ex_Aug, ex_If, ex_For, ex_While, tg_one, tg_tup, assignE, ml_ListComp, ml_BinOp, ml_Tuple, ml_Call, lt_typ, lt_bltn, lt_ref, storeV, ev_Constant, ev_Name, ev_BinOp, ev_IfExp, ev_BoolOp, ev_Compare, ev_List, ev_Tuple, ev_ListComp, ev_Call, ev_Slice, ev_Sub, evs_nil, evs_cons, callV, if_true, if_false, Option.bind_some, Option.map_some, List.length_cons, List.length_nil, nameV, hL, hP, lookup_if, k_left, k_places, binOp, addOp, modOp, constPV, storable, List.isEmpty_cons, and_self, itemsOf, l1]
  rw [comp_filter (q := fun i => !P.contains i)]
  · simp only [Option.bind_some, Option.map_some]
  · intro i
    simp (config := {decide := true}) only [elemE, bt_name, bt_tup, truth_Not, truth_BoolOp, truth_Compare, chain_one, chain_more, ev_Constant, ev_Name, ev_BinOp, ev_IfExp, ev_BoolOp, ev_Compare, ev_List, ev_Tuple, ev_ListComp, ev_Call, ev_Slice, ev_Sub, Option.bind_some, Option.map_some, nameV, lookup_if, relab_lk, k_places, upd_app, cut_app, hP, cmpPV, intsOf_map, if_true, if_false]
    cases P.contains i <;> rfl
end Mine
end

section
open PySem
set_option linter.unusedVariables false
set_option linter.unusedSimpArgs false
set_option maxRecDepth 100000
namespace Mine
noncomputable def all12 : List Int := [0,1,2,3,4,5,6,7,8,9,10,11]
theorem r_12 : rangeL 0 12 1 = all12 := by decide +kernel
theorem r_4 : rangeL 0 4 1 = [0,1,2,3] := by decide +kernel
theorem sm_12 : Builtin.Range.small 0 12 1 = true := by decide +kernel
theorem sm_4 : Builtin.Range.small 0 4 1 = true := by decide +kernel
theorem l_12 : (all12).length ≤ 1000 := by decide
theorem l_4 : ([0,1,2,3] : List Int).length ≤ 1000 := by decide

theorem law0 {f : Nat} {ρ : Rho} : execE GS (f + 40) lawSc ρ (stAt lawBody 0) = some (.next, upd (upd ρ "left" (.list (all12.map .int))) "places" (.list [])) := by
  conv => lhs; arg 5; whnf
  simp (config := {decide := true}) only [ex_Return, ex_Assign, ex_Aug, ex_If, ex_For, ex_While, tg_one, tg_tup, assignE, ml_ListComp, ml_BinOp, ml_Tuple, ml_Call, lt_typ, lt_bltn, lt_ref, ev_Constant, ev_Name, ev_BinOp, ev_IfExp, ev_BoolOp, ev_Compare, ev_List, ev_Tuple, ev_ListComp, ev_Call, ev_Slice, ev_Sub, evs_nil, evs_cons, callV, callT, tList1, tRangeI, only1, intsOf, if_true, if_false, Option.bind_some, Option.map_some, List.length_cons, List.length_nil, nameV, lookup_if, k_left, k_places, k_list, k_range, g_list, g_range, constPV, r_12, sm_12, l_12, storableT, namesT, bt_name, bt_tup, bindNames, storable, nodupT, Bool.not_true, decide_true, decide_false, List.all_cons, List.all_nil, List.any_cons, List.any_nil, List.isEmpty_cons, and_self, Bool.and_self]

theorem pick_eq : stAt lawBody 1 = .For (forT (stAt lawBody 1)) (forI (stAt lawBody 1)) pickBody [] (forP (stAt lawBody 1)) := by rfl
theorem pickBody_eq : pickBody = [stAt pickBody 0, stAt pickBody 1] := by rfl
theorem bindT_pick (ρ : Rho) (v : PV) : bindT ρ (forT (stAt lawBody 1)) v = some (upd ρ "k" v) := by rfl
theorem st_pick : storableT lawSc (forT (stAt lawBody 1)) = true := by decide +kernel
theorem iter_pick {f : Nat} {ρ : Rho} : evalE GS (f + 40) lawSc ρ (forI (stAt lawBody 1)) = some (.rng 0 4 1) := by
  conv => lhs; arg 5; whnf
  simp (config := {decide := true}) only [ev_Constant, ev_Name, ev_BinOp, ev_IfExp, ev_BoolOp, ev_Compare, ev_List, ev_Tuple, ev_ListComp, ev_Call, ev_Slice, ev_Sub, evs_nil, evs_cons, callV, callT, tList1, tRangeI, only1, intsOf, if_true, if_false, Option.bind_some, Option.map_some, List.length_cons, List.length_nil, nameV, lookup_if, k_range, g_range, constPV, List.isEmpty_cons, and_self]

/-- the state of the draw -/
structure Draw (ρ : Rho) (ns L P : List Int) : Prop where
  script : ρ "script" = some (.list (ns.map .int))
  left : ρ "left" = some (.list (L.map .int))
  places : ρ "places" = some (.list (P.map .int))
  len : L.length + P.length = 12
  nod : L.Nodup
  inb : ∀ x ∈ L, 0 ≤ x ∧ x < 12
  pin : ∀ x ∈ P, 0 ≤ x ∧ x < 12
  pnod : P.Nodup
  dis : ∀ x ∈ P, x ∉ L

theorem filter_drop {L P : List Int} {p : Int} (dis : ∀ x ∈ P, x ∉ L) (nod : L.Nodup) : L.filter (fun i => !(P ++ [p]).contains i) = L.erase p := by
  rw [List.Nodup.erase_eq_filter nod]
  refine List.filter_congr fun x hx => ?_
  have hxP : x ∉ P := fun h => dis x h hx
  rw [Bool.eq_iff_iff]
  simp [hxP]

theorem draw_step {f : Nat} {ρ : Rho} {ns L P : List Int} {k : Nat} (D : Draw ρ ns L P) (hl : ns.length ≤ 63) (hk : k < 4) (hP : P.length < 4) :
   ∃ ρ' p, execsE GS (f + 43) lawSc (upd ρ "k" (.int k)) pickBody = some (.next, ρ') ∧ Draw ρ' ns (L.erase p) (P ++ [p]) := by
  obtain ⟨ms, hm, hsl⟩ := slice_ints hl hk
  have hlen := D.len
  have lpos : 0 < (L.length : Int) := by omega
  have b1 := Int.fmod_nonneg_of_pos ms.sum lpos
  have b2 := Int.fmod_lt_of_pos ms.sum lpos
  have hlt : (ms.sum.fmod L.length).toNat < L.length := by omega
  have hmem : L[(ms.sum.fmod L.length).toNat] ∈ L := List.getElem_mem hlt
  have hp : itemPV GS (.list (L.map .int)) (.int (ms.sum.fmod L.length)) = some (.int L[(ms.sum.fmod L.length).toNat]) := by
    simp only [itemPV]
    rw [if_pos ⟨b1, by omega⟩, List.getElem?_map, List.getElem?_eq_getElem hlt]
    rfl
  generalize L[(ms.sum.fmod L.length).toNat] = p at hmem hp
  refine ⟨upd (upd (upd ρ "k" (.int k)) "places" (.list ((P ++ [p]).map .int))) "left" (.list ((L.filter fun i => !(P ++ [p]).contains i).map .int)), p, ?_, ?_⟩
  · rw [pickBody_eq]
    rw [seq_next (pick0 (f := f + 2) (ρ := upd ρ "k" (.int k)) D.script D.left D.places rfl (by omega) (by omega) (by rw [List.length_map]; omega) hm hsl hp)]
    rw [seq_next (pick1 (f := f + 1) (ρ := upd (upd ρ "k" (.int k)) "places" (.list ((P ++ [p]).map .int))) D.left rfl (by rw [List.length_map]; omega))]
    rfl
  · rw [filter_drop D.dis D.nod]
    refine ⟨D.script, rfl, rfl, ?_, D.nod.erase p, fun x hx => D.inb x (List.mem_of_mem_erase hx), ?_, ?_, ?_⟩
    · rw [List.length_erase_of_mem hmem, List.length_append]; simp only [List.length_cons, List.length_nil]; omega
    · intro x hx
      rcases List.mem_append.mp hx with h | h
      · exact D.pin x h
      · rw [List.mem_singleton.mp h]; exact D.inb p hmem
    · rw [List.nodup_append]
      refine ⟨D.pnod, by simp, ?_⟩
      intro x hx y hy e
      rw [List.mem_singleton.mp hy] at e
      exact D.dis x hx (e ▸ hmem)
    · intro x hx hx'
      rcases List.mem_append.mp hx with h | h
      · exact D.dis x h (List.mem_of_mem_erase hx')
      · rw [List.mem_singleton.mp h] at hx'
        exact (D.nod.not_mem_erase) hx'

theorem draw_all {f : Nat} {ρ : Rho} {ns : List Int} (D : Draw ρ ns all12 []) (hl : ns.length ≤ 63) :
   ∃ ρ' L p0 p1 p2 p3, execE GS (f + 51) lawSc ρ (stAt lawBody 1) = some (.next, ρ') ∧ Draw ρ' ns L [p0, p1, p2, p3] := by
  obtain ⟨ρ1, p0, e1, D1⟩ := draw_step (f := f + 7) (k := 0) D hl (by decide) (by decide)
  obtain ⟨ρ2, p1, e2, D2⟩ := draw_step (f := f + 7) (k := 1) D1 hl (by decide) (by simp)
  obtain ⟨ρ3, p2, e3, D3⟩ := draw_step (f := f + 7) (k := 2) D2 hl (by decide) (by simp)
  obtain ⟨ρ4, p3, e4, D4⟩ := draw_step (f := f + 7) (k := 3) D3 hl (by decide) (by simp)
  refine ⟨ρ4, _, p0, p1, p2, p3, ?_, D4⟩
  rw [pick_eq]
  simp only [ex_Return, ex_Assign, ex_Aug, ex_If, ex_For, ex_While, st_pick, if_true, iter_pick (f := f + 10), Option.bind_some, itemsOf, r_4, sm_4, l_4, and_self, List.map_cons, List.map_nil, forLoop, bindT_pick]
  rw [show execsE GS (f + 50) lawSc (upd ρ "k" (.int 0)) pickBody = _ from e1]
  simp only [Option.bind_some]
  rw [show execsE GS (f + 50) lawSc (upd ρ1 "k" (.int 1)) pickBody = _ from e2]
  simp only [Option.bind_some]
  rw [show execsE GS (f + 50) lawSc (upd ρ2 "k" (.int 2)) pickBody = _ from e3]
  simp only [Option.bind_some]
  rw [show execsE GS (f + 50) lawSc (upd ρ3 "k" (.int 3)) pickBody = _ from e4]
  simp only [Option.bind_some]
end Mine
end

section
open PySem
set_option linter.unusedVariables false
set_option linter.unusedSimpArgs false
set_option maxRecDepth 100000
namespace Mine
theorem tok_nat : ∀ n : Nat, n < 12 → ∃ s, itemPV GS (.str "()[]:,;+-*/|") (.int (n : Int)) = some (.str s) ∧ GS.item 29 s = some (.int (7 + (n : Int)))
  | 0, _ => ⟨_, rfl, rfl⟩
  | 1, _ => ⟨_, rfl, rfl⟩
  | 2, _ => ⟨_, rfl, rfl⟩
  | 3, _ => ⟨_, rfl, rfl⟩
  | 4, _ => ⟨_, rfl, rfl⟩
  | 5, _ => ⟨_, rfl, rfl⟩
  | 6, _ => ⟨_, rfl, rfl⟩
  | 7, _ => ⟨_, rfl, rfl⟩
  | 8, _ => ⟨_, rfl, rfl⟩
  | 9, _ => ⟨_, rfl, rfl⟩
  | 10, _ => ⟨_, rfl, rfl⟩
  | 11, _ => ⟨_, rfl, rfl⟩
  | n + 12, h => absurd h (by omega)
theorem tok {p : Int} (h : 0 ≤ p ∧ p < 12) : ∃ s, itemPV GS (.str "()[]:,;+-*/|") (.int p) = some (.str s) ∧ GS.item 29 s = some (.int (7 + p)) := by
  have := tok_nat p.toNat (by omega)
  rw [Int.toNat_of_nonneg h.1] at this
  exact this

theorem law2 {f : Nat} {ρ : Rho} {p0 p1 p2 p3 : Int} (hP : ρ "places" = some (.list [.int p0, .int p1, .int p2, .int p3])) (h0 : 0 ≤ p0 ∧ p0 < 12) (h1 : 0 ≤ p1 ∧ p1 < 12) (h2 : 0 ≤ p2 ∧ p2 < 12) (h3 : 0 ≤ p3 ∧ p3 < 12) :
   execE GS (f + 40) lawSc ρ (stAt lawBody 2) = some (.next, upd ρ "speeds" (.list [.int (7 + p0), .int (7 + p1), .int (7 + p2), .int (7 + p3)])) := by
  obtain ⟨s0, a0, b0⟩ := tok h0
  obtain ⟨s1, a1, b1⟩ := tok h1
  obtain ⟨s2, a2, b2⟩ := tok h2
  obtain ⟨s3, a3, b3⟩ := tok h3
  have e : ∀ a s, itemPV GS (.ref a) (.str s) = GS.item a s := fun _ _ => rfl
  conv => lhs; arg 5; whnf
  simp (config := {decide := true}) only [ex_Return, ex_Assign, ex_Aug, ex_If, ex_For, ex_While, tg_one, tg_tup, assignE, ml_ListComp, ml_BinOp, ml_Tuple, ml_Call, lt_typ, lt_bltn, lt_ref, storeV, ev_Constant, ev_Name, ev_BinOp, ev_IfExp, ev_BoolOp, ev_Compare, ev_List, ev_Tuple, ev_ListComp, ev_Call, ev_Slice, ev_Sub, evs_nil, evs_cons, if_true, if_false, Option.bind_some, Option.map_some, itemsOf, compLoop, elemE, bt_name, bt_tup, List.length_cons, List.length_nil, nameV, hP, lookup_if, relab_lk, k_places, k_speeds, upd_app, cut_app, g_tok, constPV, baseE, ownL, a0, a1, a2, a3, e, b0, b1, b2, b3]

theorem sl_1 : sliceRange (sliceBounds (some 1) none none 4).1 (sliceBounds (some 1) none none 4).2.1 (sliceBounds (some 1) none none 4).2.2 = [1, 2, 3] := by decide +kernel
theorem slice4 (a b c d : PV) : slicePV (.list [a, b, c, d]) (some 1) Option.none Option.none = some (.list [b, c, d]) := by
  simp only [slicePV]
  rw [if_pos ⟨by simp, by simp⟩]
  rw [show ([a, b, c, d] : List PV).length = 4 from rfl, sl_1]
  rfl

theorem law3 {f : Nat} {ρ : Rho} {s0 s1 s2 s3 : Int} (hS : ρ "speeds" = some (.list [.int s0, .int s1, .int s2, .int s3])) :
   execE GS (f + 40) lawSc ρ (stAt lawBody 3) = some (.next, upd ρ "ahead" (.list [.int (s1 - s0), .int (s2 - s0), .int (s3 - s0)])) := by
  conv => lhs; arg 5; whnf
  simp (config := {decide := true}) only [ex_Return, ex_Assign, ex_Aug, ex_If, ex_For, ex_While, tg_one, tg_tup, assignE, ml_ListComp, ml_BinOp, ml_Tuple, ml_Call, lt_typ, lt_bltn, lt_ref, storeV, ev_Constant, ev_Name, ev_BinOp, ev_IfExp, ev_BoolOp, ev_Compare, ev_List, ev_Tuple, ev_ListComp, ev_Call, ev_Slice, ev_Sub, evs_nil, evs_cons, part_none, part_some, partOf, if_true, if_false, Option.bind_some, Option.map_some, itemsOf, compLoop, elemE, bt_name, bt_tup, List.length_cons, List.length_nil, nameV, hS, lookup_if, relab_lk, k_ahead, k_speeds, upd_app, cut_app, constPV, baseE, ownL, slice4, itemPV, binOp, subOp, Int.toNat_zero, List.getElem?_cons_zero]

theorem law4 {f : Nat} {ρ : Rho} :
   execE GS (f + 40) lawSc ρ (stAt lawBody 4) = some (.next, upd (upd (upd ρ "best" (.int 0)) "whole" (.int 1)) "astray" (.list [])) := by
  conv => lhs; arg 5; whnf
  simp (config := {decide := true}) only [ex_Return, ex_Assign, ex_Aug, ex_If, ex_For, ex_While, tg_one, tg_tup, assignE, ml_ListComp, ml_BinOp, ml_Tuple, ml_Call, lt_typ, lt_bltn, lt_ref, ev_Constant, ev_Name, ev_BinOp, ev_IfExp, ev_BoolOp, ev_Compare, ev_List, ev_Tuple, ev_ListComp, ev_Call, ev_Slice, ev_Sub, evs_nil, evs_cons, if_true, if_false, Option.bind_some, Option.map_some, List.length_cons, List.length_nil, nameV, lookup_if, k_best, k_whole, k_astray, constPV, storableT, namesT, bt_name, bt_tup, bindNames, storable, nodupT, Bool.not_true, decide_true, decide_false, List.all_cons, List.all_nil, List.any_cons, List.any_nil, List.isEmpty_cons, and_self, Bool.and_self]

theorem law6 {f : Nat} {ρ : Rho} {b w : Int} (hb : ρ "best" = some (.int b)) (hw : ρ "whole" = some (.int w)) (g : good (b, w) = true) (n : bnd (b, w)) :
   execE GS (f + 40) lawSc ρ (stAt lawBody 6) = some (.next, ρ) := by
  have sb : small b = true := by unfold bnd at n; exact small_of (by omega) (by omega)
  have sw : small w = true := by unfold bnd at n; exact small_of (by omega) (by omega)
  simp only [good, Bool.and_eq_true, Bool.or_eq_true, decide_eq_true_eq] at g
  have g1 : ¬ 4 * b < w := by omega
  conv => lhs; arg 5; whnf
  by_cases c : 3 * b < w
  · have g2 : b.fmod (w - 3 * b) = 0 := by rcases g.2 with h | h; omega; exact h
    have g3 : ¬ w - 3 * b = 0 := by omega
    simp (config := {decide := true}) only [ex_Return, ex_Assign, ex_Aug, ex_If, ex_For, ex_While, exs_nil, exs_cons, truth_Not, truth_BoolOp, truth_Compare, all_nil, all_cons, chain_one, chain_more, ev_Constant, ev_Name, ev_BinOp, ev_IfExp, ev_BoolOp, ev_Compare, ev_List, ev_Tuple, ev_ListComp, ev_Call, ev_Slice, ev_Sub, evs_nil, evs_cons, if_true, if_false, Option.bind_some, Option.map_some, nameV, hb, hw, lookup_if, k_best, k_whole, constPV, binOp, mulOp, subOp, modOp, sb, sw, s_4, s_3, Bool.and_self, cmpPV, cmpII, g1, c, g2, g3, decide_true, decide_false, List.all_cons, List.all_nil, noSet, bne_self_eq_false]
  · simp (config := {decide := true}) only [ex_Return, ex_Assign, ex_Aug, ex_If, ex_For, ex_While, exs_nil, exs_cons, truth_Not, truth_BoolOp, truth_Compare, all_nil, all_cons, chain_one, chain_more, ev_Constant, ev_Name, ev_BinOp, ev_IfExp, ev_BoolOp, ev_Compare, ev_List, ev_Tuple, ev_ListComp, ev_Call, ev_Slice, ev_Sub, evs_nil, evs_cons, if_true, if_false, Option.bind_some, Option.map_some, nameV, hb, hw, lookup_if, k_best, k_whole, constPV, binOp, mulOp, subOp, modOp, sb, sw, s_4, s_3, Bool.and_self, cmpPV, cmpII, g1, c, decide_true, decide_false, List.all_cons, List.all_nil, noSet, bne_self_eq_false]

theorem law7 {f : Nat} {ρ : Rho} {p0 p1 p2 p3 : Int} (ha : ρ "astray" = some (.list [])) (hP : ρ "places" = some (.list [.int p0, .int p1, .int p2, .int p3])) (hS : ρ "speeds" = some (.list [.int (7 + p0), .int (7 + p1), .int (7 + p2), .int (7 + p3)])) :
   execE GS (f + 40) lawSc ρ (stAt lawBody 7) = some (.ret (.bool true), ρ) := by
  conv => lhs; arg 5; whnf
  simp (config := {decide := true}) only [ex_Return, ex_Assign, ex_Aug, ex_If, ex_For, ex_While, bool_one, bool_more, chain_one, chain_more, truthPV, ev_Constant, ev_Name, ev_BinOp, ev_IfExp, ev_BoolOp, ev_Compare, ev_List, ev_Tuple, ev_ListComp, ev_Call, ev_Slice, ev_Sub, evs_nil, evs_cons, if_true, if_false, Option.bind_some, Option.map_some, itemsOf, compLoop, elemE, bt_name, bt_tup, List.length_cons, List.length_nil, nameV, ha, hP, hS, lookup_if, relab_lk, k_places, k_speeds, k_astray, upd_app, cut_app, constPV, binOp, addOp, cmpPV, listEq, intsOf, decide_true]
end Mine
end

section
open PySem
set_option maxRecDepth 100000
namespace Mine
noncomputable def span : List Int := (List.range 23).map fun n : Nat => (n : Int) - 11
/-- two leads that may stand together -/
noncomputable def apart (a b : Int) : Bool := b != 0 && b != a && decide (a - b ≤ 11) && decide (b - a ≤ 11)
noncomputable def leadOk (a : Int) : Bool := (span.filter (apart a)).all fun b => ((span.filter (apart a)).filter (apart b)).all fun c => good (lawP a b c)
theorem lead0 : leadOk ((0 : Nat) - (11 : Int)) = true := by decide +kernel
theorem lead1 : leadOk ((1 : Nat) - (11 : Int)) = true := by decide +kernel
theorem lead2 : leadOk ((2 : Nat) - (11 : Int)) = true := by decide +kernel
theorem lead3 : leadOk ((3 : Nat) - (11 : Int)) = true := by decide +kernel
theorem lead4 : leadOk ((4 : Nat) - (11 : Int)) = true := by decide +kernel
theorem lead5 : leadOk ((5 : Nat) - (11 : Int)) = true := by decide +kernel
theorem lead6 : leadOk ((6 : Nat) - (11 : Int)) = true := by decide +kernel
theorem lead7 : leadOk ((7 : Nat) - (11 : Int)) = true := by decide +kernel
theorem lead8 : leadOk ((8 : Nat) - (11 : Int)) = true := by decide +kernel
theorem lead9 : leadOk ((9 : Nat) - (11 : Int)) = true := by decide +kernel
theorem lead10 : leadOk ((10 : Nat) - (11 : Int)) = true := by decide +kernel
theorem lead12 : leadOk ((12 : Nat) - (11 : Int)) = true := by decide +kernel
theorem lead13 : leadOk ((13 : Nat) - (11 : Int)) = true := by decide +kernel
theorem lead14 : leadOk ((14 : Nat) - (11 : Int)) = true := by decide +kernel
theorem lead15 : leadOk ((15 : Nat) - (11 : Int)) = true := by decide +kernel
theorem lead16 : leadOk ((16 : Nat) - (11 : Int)) = true := by decide +kernel
theorem lead17 : leadOk ((17 : Nat) - (11 : Int)) = true := by decide +kernel
theorem lead18 : leadOk ((18 : Nat) - (11 : Int)) = true := by decide +kernel
theorem lead19 : leadOk ((19 : Nat) - (11 : Int)) = true := by decide +kernel
theorem lead20 : leadOk ((20 : Nat) - (11 : Int)) = true := by decide +kernel
theorem lead21 : leadOk ((21 : Nat) - (11 : Int)) = true := by decide +kernel
theorem lead22 : leadOk ((22 : Nat) - (11 : Int)) = true := by decide +kernel
theorem mem_span {x : Int} (h1 : -11 ≤ x) (h2 : x ≤ 11) : x ∈ span := by
  refine List.mem_map.mpr ⟨(x + 11).toNat, List.mem_range.mpr ?_, ?_⟩ <;> omega
theorem lead_nat : ∀ n : Nat, n < 23 → n ≠ 11 → leadOk ((n : Int) - 11) = true
  | 0, _, _ => lead0
  | 1, _, _ => lead1
  | 2, _, _ => lead2
  | 3, _, _ => lead3
  | 4, _, _ => lead4
  | 5, _, _ => lead5
  | 6, _, _ => lead6
  | 7, _, _ => lead7
  | 8, _, _ => lead8
  | 9, _, _ => lead9
  | 10, _, _ => lead10
  | 11, _, h => absurd rfl h
  | 12, _, _ => lead12
  | 13, _, _ => lead13
  | 14, _, _ => lead14
  | 15, _, _ => lead15
  | 16, _, _ => lead16
  | 17, _, _ => lead17
  | 18, _, _ => lead18
  | 19, _, _ => lead19
  | 20, _, _ => lead20
  | 21, _, _ => lead21
  | 22, _, _ => lead22
  | n + 23, h, _ => absurd h (by omega)
theorem lead_all {a : Int} (h0 : a ≠ 0) (h1 : -11 ≤ a) (h2 : a ≤ 11) : leadOk a = true := by
  have h := lead_nat (a + 11).toNat (by omega) (by omega)
  rw [Int.toNat_of_nonneg (by omega), show a + 11 - 11 = a by omega] at h
  exact h
theorem apart_of {p q r : Int} (hp : 0 ≤ p ∧ p < 12) (hq : 0 ≤ q ∧ q < 12) (hr : 0 ≤ r ∧ r < 12) (n1 : p ≠ q) (n2 : r ≠ q) : apart (r - p) (q - p) = true := by
  simp only [apart, Bool.and_eq_true, bne_iff_ne, ne_eq, decide_eq_true_eq]; omega
theorem span_of {p q : Int} (hp : 0 ≤ p ∧ p < 12) (hq : 0 ≤ q ∧ q < 12) : q - p ∈ span := mem_span (by omega) (by omega)
theorem lead_of {p q : Int} (hp : 0 ≤ p ∧ p < 12) (hq : 0 ≤ q ∧ q < 12) (n : p ≠ q) : leadOk (q - p) = true := lead_all (by omega) (by omega) (by omega)
theorem law_good {p0 p1 p2 p3 : Int} (h0 : 0 ≤ p0 ∧ p0 < 12) (h1 : 0 ≤ p1 ∧ p1 < 12) (h2 : 0 ≤ p2 ∧ p2 < 12) (h3 : 0 ≤ p3 ∧ p3 < 12) (n01 : p0 ≠ p1) (n02 : p0 ≠ p2) (n03 : p0 ≠ p3) (n12 : p1 ≠ p2) (n13 : p1 ≠ p3) (n23 : p2 ≠ p3) : good (lawP (p1 - p0) (p2 - p0) (p3 - p0)) = true := by
  have h := List.all_eq_true.mp (lead_of h0 h1 n01) (p2 - p0) (List.mem_filter.mpr ⟨span_of h0 h2, apart_of h0 h2 h1 n02 n12⟩)
  exact List.all_eq_true.mp h (p3 - p0) (List.mem_filter.mpr ⟨List.mem_filter.mpr ⟨span_of h0 h3, apart_of h0 h3 h1 n03 n13⟩, apart_of h0 h3 h2 n03 n23⟩)
end Mine
end

section
open PySem
set_option linter.unusedVariables false
set_option linter.unusedSimpArgs false
set_option maxRecDepth 100000
namespace Mine
theorem lawBody_eq : lawBody = [stAt lawBody 0, stAt lawBody 1, stAt lawBody 2, stAt lawBody 3, stAt lawBody 4, stAt lawBody 5, stAt lawBody 6, stAt lawBody 7] := by rfl

theorem shift (a b : Int) : 7 + a - (7 + b) = a - b := by omega
theorem lead_b {a b : Int} (ha : 0 ≤ a ∧ a < 12) (hb : 0 ≤ b ∧ b < 12) : -11 ≤ b - a ∧ b - a ≤ 11 := by omega
theorem absI_pos {x : Int} (h : 0 ≤ x) : absI x = x := if_neg (by omega)
theorem absI_neg {x : Int} (h : x ≤ 0) : absI x = -x := by
  unfold absI; split <;> omega
theorem abs_lo {x y : Int} (hx : x ≠ 0) (hy : y ≠ 0) : 2 ≤ absI x + absI y := by
  unfold absI; split <;> split <;> omega
theorem abs_hi {a b c : Int} (ha : 0 ≤ a ∧ a < 12) (hb : 0 ≤ b ∧ b < 12) (hc : 0 ≤ c ∧ c < 12) (n : b ≠ c) : absI (b - a) + absI (c - a) ≤ 21 := by
  unfold absI; split <;> split <;> omega
theorem abs_b {a b c : Int} (ha : 0 ≤ a ∧ a < 12) (hb : 0 ≤ b ∧ b < 12) (hc : 0 ≤ c ∧ c < 12) (n1 : ¬ a = b) (n2 : ¬ a = c) (n3 : ¬ b = c) : 2 ≤ absI (b - a) + absI (c - a) ∧ absI (b - a) + absI (c - a) ≤ 21 :=
  ⟨abs_lo (by omega) (by omega), abs_hi ha hb hc n3⟩
theorem four_nodup {a b c d : Int} (h : [a, b, c, d].Nodup) : (¬ a = b ∧ ¬ a = c ∧ ¬ a = d) ∧ (¬ b = c ∧ ¬ b = d) ∧ ¬ c = d := by
  simpa only [List.nodup_cons, List.mem_cons, List.not_mem_nil, or_false, not_or, not_false_eq_true, and_true, List.nodup_nil] using h
theorem four_all {P : Int → Prop} {a b c d : Int} (h : ∀ x ∈ [a, b, c, d], P x) : P a ∧ P b ∧ P c ∧ P d :=
  ⟨h a List.mem_cons_self, h b (.tail _ List.mem_cons_self), h c (.tail _ (.tail _ List.mem_cons_self)), h d (.tail _ (.tail _ (.tail _ List.mem_cons_self)))⟩
theorem draw0 (ns : List Int) : Draw (upd (upd (upd rho0 "script" (.list (ns.map .int))) "left" (.list (all12.map .int))) "places" (.list [])) ns all12 [] :=
  ⟨rfl, rfl, rfl, rfl, by decide, by decide, fun x hx => absurd hx (List.not_mem_nil), List.nodup_nil, fun x hx => absurd hx (List.not_mem_nil)⟩
theorem inv0 {ρ : Rho} {p0 p1 p2 p3 : Int} (hP : ρ "places" = some (.list [.int p0, .int p1, .int p2, .int p3])) :
    Inv (upd (upd (upd (upd (upd ρ "speeds" (.list [.int (7 + p0), .int (7 + p1), .int (7 + p2), .int (7 + p3)])) "ahead" (.list [.int (7 + p1 - (7 + p0)), .int (7 + p2 - (7 + p0)), .int (7 + p3 - (7 + p0))])) "best" (.int 0)) "whole" (.int 1)) "astray" (.list []))
      (p1 - p0) (p2 - p0) (p3 - p0) [.int p0, .int p1, .int p2, .int p3] [.int (7 + p0), .int (7 + p1), .int (7 + p2), .int (7 + p3)] 0 1 :=
  ⟨by rw [← shift p1 p0, ← shift p2 p0, ← shift p3 p0]; rfl, hP, rfl, rfl, rfl, rfl⟩

/-- behind the draw -/
theorem law_rest {ρ : Rho} {p0 p1 p2 p3 : Int} (hP : ρ "places" = some (.list [.int p0, .int p1, .int p2, .int p3])) (hin : ∀ x ∈ [p0, p1, p2, p3], 0 ≤ x ∧ x < 12) (hnd : [p0, p1, p2, p3].Nodup) :
    ∃ ρ', execsE GS 68 lawSc ρ [stAt lawBody 2, stAt lawBody 3, stAt lawBody 4, stAt lawBody 5, stAt lawBody 6, stAt lawBody 7] = some (.ret (.bool true), ρ') := by
  obtain ⟨h0, h1, h2, h3⟩ := four_all hin
  obtain ⟨⟨n1, n2, n3⟩, ⟨n4, n5⟩, n6⟩ := four_nodup hnd
  obtain ⟨ρ5, e5, I5, b5⟩ := outer_for (f := 13) (lead_b h0 h1) (lead_b h0 h2) (lead_b h0 h3) (abs_b h0 h1 h2 n1 n2 n4) (abs_b h0 h1 h3 n1 n3 n5) (abs_b h0 h2 h3 n2 n3 n6) (inv0 hP)
  refine ⟨ρ5, ?_⟩
  rw [seq_next (law2 (f := 27) hP h0 h1 h2 h3), seq_next (law3 (f := 26) rfl), seq_next (law4 (f := 25)), seq_next e5, seq_next (law6 (f := 23) I5.best I5.whole (law_good h0 h1 h2 h3 n1 n2 n3 n4 n5 n6) b5),
    seq_ret (law7 (f := 22) I5.astray I5.places I5.speeds)]

theorem law_run {ns : List Int} (hl : ns.length ≤ 63) : ∃ ρ', execsE GS 70 lawSc (upd rho0 "script" (.list (ns.map .int))) lawBody = some (.ret (.bool true), ρ') := by
  obtain ⟨ρ1, L, p0, p1, p2, p3, e1, D⟩ := draw_all (f := 17) (draw0 ns) hl
  obtain ⟨ρ', e⟩ := law_rest D.places D.pin D.pnod
  refine ⟨ρ', ?_⟩
  rw [lawBody_eq, seq_next (law0 (f := 29)), seq_next e1]
  exact e
end Mine
end

section
open PySem
set_option linter.unusedVariables false
set_option maxRecDepth 100000
namespace Mine
/-- what the word's way from 'Rgb' is -/
noncomputable def levT : List (Str × Int) := [("Rgb", 0), ("RGb", 1), ("rGb", 2), ("rGB", 3), ("rgB", 2), ("RgB", 1)]
noncomputable def isI : PV → Int → Bool
  | .int d, k => d == k
  | _, _ => false
noncomputable def isB : PV → Bool → Bool
  | .bool d, k => d == k
  | _, _ => false
theorem isI_of {v : PV} {k : Int} (h : isI v k = true) : v = .int k := by
  cases v <;> first | exact no_bool h.symm | exact congrArg PV.int (beq_iff_eq.mp h)
theorem isB_of {v : PV} {k : Bool} (h : isB v k = true) : v = .bool k := by
  cases v <;> first | exact no_bool h.symm | exact congrArg PV.bool (beq_iff_eq.mp h)
noncomputable def levR (w : Str) : PV → PV → Option PV
  | .str r, k => if r = ("Rgb" : Str) ∧ isI k 3 = true then (levT.lookup w).map .int else Option.none
  | _, _ => Option.none
noncomputable def levW (b c : PV) : PV → Option PV
  | .str w => levR w b c
  | _ => Option.none
noncomputable def levP : List PV → Option PV
  | [a, b, c] => levW b c a
  | _ => Option.none
noncomputable def call2t (a : Addr) (vs : List PV) : Option PV := if a = 45 then levP vs else call1 a vs
noncomputable def G2t : Gl := { G0 with call := call2t }
noncomputable def isInt (o : Option PV) (k : Int) : Bool := o.any fun v => isI v k
theorem isInt_of {o : Option PV} {k : Int} (h : isInt o k = true) : o = some (.int k) := by
  cases o with
  | none => exact no_bool h.symm
  | some v => rw [isI_of h]
noncomputable def isPair (p : Int) (f : Bool) : List PV → Bool
  | [a, b] => isI a p && isB b f
  | _ => false
noncomputable def isTup (p : Int) (f : Bool) : PV → Bool
  | .tup l => isPair p f l
  | _ => false
theorem isPair_of {p : Int} {f : Bool} : ∀ {l : List PV}, isPair p f l = true → l = [.int p, .bool f]
  | [a, b], h => by
    have h := Bool.and_eq_true_iff.mp h
    rw [isI_of h.1, isB_of h.2]
  | [], h => no_bool h.symm
  | [_], h => no_bool h.symm
  | _ :: _ :: _ :: _, h => no_bool h.symm
theorem isTup_of {p : Int} {f : Bool} {v : PV} (h : isTup p f v = true) : v = .tup [.int p, .bool f] := by
  cases v <;> first | exact no_bool h.symm | exact congrArg PV.tup (isPair_of h)
noncomputable def isSeen (o : Option PV) (p : Int) (f : Bool) : Bool := o.any (isTup p f)
theorem isSeen_of {o : Option PV} {p : Int} {f : Bool} (h : isSeen o p f = true) : o = some (.tup [.int p, .bool f]) := by
  cases o with
  | none => exact no_bool h.symm
  | some v => rw [isTup_of h]
theorem lev_all : levT.all (fun x => isInt (runDef G1 200 "_levenshtein_distance" [.str x.1, .str "Rgb", .int 3]) x.2) = true := by decide +kernel
noncomputable def chk (p t : Nat) : Bool := isSeen (runDef G2t 60 "_law_seen" [.int (p : Int), .int (t : Int)]) p (farB p t)
theorem seen2 : (List.range 2).all (fun p => chk p 2) = true := by decide +kernel
theorem seen3 : (List.range 3).all (fun p => chk p 3) = true := by decide +kernel
theorem seen4 : (List.range 4).all (fun p => chk p 4) = true := by decide +kernel
theorem seen5 : (List.range 5).all (fun p => chk p 5) = true := by decide +kernel
theorem seen6 : (List.range 6).all (fun p => chk p 6) = true := by decide +kernel
theorem seen7 : (List.range 7).all (fun p => chk p 7) = true := by decide +kernel
theorem seen8 : (List.range 8).all (fun p => chk p 8) = true := by decide +kernel
theorem seen9 : (List.range 9).all (fun p => chk p 9) = true := by decide +kernel
theorem seen10 : (List.range 10).all (fun p => chk p 10) = true := by decide +kernel
theorem seen11 : (List.range 11).all (fun p => chk p 11) = true := by decide +kernel
theorem seen12 : (List.range 12).all (fun p => chk p 12) = true := by decide +kernel
theorem seen13 : (List.range 13).all (fun p => chk p 13) = true := by decide +kernel
theorem seen14 : (List.range 14).all (fun p => chk p 14) = true := by decide +kernel
theorem seen15 : (List.range 15).all (fun p => chk p 15) = true := by decide +kernel
theorem seen16 : (List.range 16).all (fun p => chk p 16) = true := by decide +kernel
theorem seen17 : (List.range 17).all (fun p => chk p 17) = true := by decide +kernel
theorem seen18 : (List.range 18).all (fun p => chk p 18) = true := by decide +kernel
theorem seen19 : (List.range 19).all (fun p => chk p 19) = true := by decide +kernel
theorem seen20 : (List.range 20).all (fun p => chk p 20) = true := by decide +kernel
theorem seen21 : (List.range 21).all (fun p => chk p 21) = true := by decide +kernel
theorem lookup_mem {α : Type} {x : Str} {v : α} : ∀ {l : List (Str × α)}, l.lookup x = some v → (x, v) ∈ l
  | (y, u) :: l, h => by
    rw [lookup_if] at h
    by_cases e : x = y
    · rw [if_pos e] at h; cases h; rw [e]; exact List.mem_cons_self
    · rw [if_neg e] at h; exact List.mem_cons_of_mem _ (lookup_mem h)
theorem levR_ok {w : Str} {b c r : PV} (h : levR w b c = some r) : runDef G1 200 "_levenshtein_distance" [.str w, b, c] = some r := by
  cases b <;> try exact no_some h
  rename_i r0
  replace h : (if r0 = ("Rgb" : Str) ∧ isI c 3 = true then (levT.lookup w).map PV.int else Option.none) = some r := h
  split at h
  · rename_i hc
    obtain ⟨rfl, hk⟩ := hc
    obtain rfl := isI_of hk
    rw [Option.map_eq_some_iff] at h
    obtain ⟨d, hd, rfl⟩ := h
    exact isInt_of (List.all_eq_true.mp lev_all (w, d) (lookup_mem hd))
  · cases h
theorem lev_ok : ∀ {vs : List PV} {r : PV}, levP vs = some r → runDef G1 200 "_levenshtein_distance" vs = some r
  | [a, b, c], r, h => by
    cases a <;> first | exact no_some h | exact levR_ok h
  | [], _, h => no_some h
  | [_], _, h => no_some h
  | [_, _], _, h => no_some h
  | _ :: _ :: _ :: _ :: _, _, h => no_some h
theorem seen_all : ∀ t : Nat, 2 ≤ t → t ≤ 21 → (List.range t).all (fun p => chk p t) = true
  | 0, h, _ => absurd h (by decide)
  | 1, h, _ => absurd h (by decide)
  | 2, _, _ => seen2
  | 3, _, _ => seen3
  | 4, _, _ => seen4
  | 5, _, _ => seen5
  | 6, _, _ => seen6
  | 7, _, _ => seen7
  | 8, _, _ => seen8
  | 9, _, _ => seen9
  | 10, _, _ => seen10
  | 11, _, _ => seen11
  | 12, _, _ => seen12
  | 13, _, _ => seen13
  | 14, _, _ => seen14
  | 15, _, _ => seen15
  | 16, _, _ => seen16
  | 17, _, _ => seen17
  | 18, _, _ => seen18
  | 19, _, _ => seen19
  | 20, _, _ => seen20
  | 21, _, _ => seen21
  | n + 22, _, h => absurd h (by omega)
theorem chk_all {p t : Nat} (hp : p < t) (h2 : 2 ≤ t) (h21 : t ≤ 21) : chk p t = true := List.all_eq_true.mp (seen_all t h2 h21) p (List.mem_range.mpr hp)
theorem seen_ok {p t : Int} {r : PV} (h : seenP p t = some r) : runDef G2t 60 "_law_seen" [.int p, .int t] = some r := by
  unfold seenP at h
  split at h
  · rename_i hc
    cases h
    have := chk_all (p := p.toNat) (t := t.toNat) (by omega) (by omega) (by omega)
    unfold chk at this
    rw [Int.toNat_of_nonneg (by omega), Int.toNat_of_nonneg (by omega)] at this
    exact isSeen_of this
  · cases h
theorem seenL_ok : ∀ {vs : List PV} {r : PV}, seenL vs = some r → runDef G2t 60 "_law_seen" vs = some r
  | [a, b], r, h => by
    cases a <;> try exact no_some h
    cases b <;> first | exact no_some h | exact seen_ok h
  | [], _, h => no_some h
  | [_], _, h => no_some h
  | _ :: _ :: _ :: _, _, h => no_some h
end Mine
end

section
open PySem PySem.W PyProof.Rows
set_option linter.unusedVariables false
set_option maxRecDepth 100000
namespace Mine

section
variable {prog : Program} {w : World} {B : Heap} {p : Program} {loose : List Str} {mg mb : Str → Option Value}

theorem glob_K {K : Frag} (X : K.In B) (T : TopRead p loose mg mb B) {x : Str} {v : Value} (e : nsIn K mainGlobals x = some (some v)) {env : Env} {A : Around} {s : Shared} {Q E : Value → Shared → Prop} (hB : Sub B s.heap) (hk : env.scope.kind = .function)
    (hg : env.globals = mainGlobals) (hx : env.kindOf x = some .globalImplicit) (h : Q v s) : wpAny (model prog w) A (loadName env x) Q E s := by
  unfold loadName
  simp only [Env.blockKind, hk, hx, ScopeKind.isAnnotationScope, Bool.false_and, Bool.false_eq_true, if_false]
  exact Calls.loadGlobal_global (by rw [hg]; exact T.g.keeps hB) (mg_of X T.g e) h
theorem glob_B {K : Frag} (X : K.In B) (T : TopRead p loose mg mb B) {x : Str} {v : Value} (e : nsIn K mainGlobals x = some none) (hv : bootBuiltins x = some v) (hn : x ≠ "__name__") {env : Env} {A : Around} {s : Shared} {Q E : Value → Shared → Prop} (hB : Sub B s.heap) (hk : env.scope.kind = .function)
    (hg : env.globals = mainGlobals) (hb : env.builtins = builtinsNs) (hx : env.kindOf x = some .globalImplicit) (h : Q v s) : wpAny (model prog w) A (loadName env x) Q E s := by
  unfold loadName
  simp only [Env.blockKind, hk, hx, ScopeKind.isAnnotationScope, Bool.false_and, Bool.false_eq_true, if_false]
  exact Calls.loadGlobal_builtin (by rw [hg]; exact T.g.keeps hB) (mg_none_of X T.g e) (by rw [hb]; exact T.b.keeps hB) ((T.builtins x hn).trans hv) h

theorem lookup_mem' {α : Type} {x : Str} {v : α} : ∀ {l : List (Str × α)}, l.lookup x = some v → (x, v) ∈ l
  | (y, u) :: l, h => by
    rw [lookup_if] at h
    by_cases e : x = y
    · rw [if_pos e] at h; cases h; rw [e]; exact List.mem_cons_self
    · rw [if_neg e] at h; exact List.mem_cons_of_mem _ (lookup_mem' h)

/-- what the tables say of a name, by the heap -/
noncomputable def GlobAt (K : Frag) (x : Str) (pv : PV) : Prop := (∃ v, nsIn K mainGlobals x = some (some v) ∧ ∀ X h, Rep X h pv v) ∨ (nsIn K mainGlobals x = some none ∧ x ≠ "__name__" ∧ ∃ v, bootBuiltins x = some v ∧ ∀ X h, Rep X h pv v)

theorem globs (P : Params) : ∀ q ∈ globT, GlobAt (KK P) q.1 q.2 := by
  unfold globT
  simp only [List.forall_mem_cons]
  refine ⟨?_, ?_, ?_, ?_, ?_, ?_, ?_, ?_, ?_, ?_, ?_, ?_, ?_, ?_, ?_, ?_, ?_, ?_, fun _ h => absurd h List.not_mem_nil⟩
  · exact .inl ⟨.ref 21, by kernel_rfl, fun _ _ => by simp only [Rep]⟩
  · exact .inl ⟨.ref 28, by kernel_rfl, fun _ _ => by simp only [Rep]⟩
  · exact .inl ⟨.ref 29, by kernel_rfl, fun _ _ => by simp only [Rep]⟩
  · exact .inl ⟨.int 40 416, by kernel_rfl, fun _ _ => by simp only [Rep]; exact ⟨_, rfl⟩⟩
  · exact .inl ⟨.int 2 418, by kernel_rfl, fun _ _ => by simp only [Rep]; exact ⟨_, rfl⟩⟩
  · exact .inl ⟨.int 1 420, by kernel_rfl, fun _ _ => by simp only [Rep]; exact ⟨_, rfl⟩⟩
  · exact .inl ⟨.ref 38, by kernel_rfl, fun _ _ => by simp only [Rep]⟩
  · exact .inl ⟨.ref 45, by kernel_rfl, fun _ _ => by simp only [Rep]⟩
  · exact .inl ⟨.ref 52, by kernel_rfl, fun _ _ => by simp only [Rep]⟩
  · exact .inl ⟨.ref 59, by kernel_rfl, fun _ _ => by simp only [Rep]⟩
  all_goals exact .inr ⟨by kernel_rfl, by decide, _, by boot_fast, fun _ _ => by simp only [Rep]⟩
end
end Mine
end

section
open PySem PySem.W PyProof.Rows
set_option linter.unusedVariables false
set_option maxRecDepth 100000
namespace Mine

noncomputable def entsAt (K : Frag) (a : Addr) : Array DictEntry := match K.lookup a with
  | some ⟨_, _, .dict es _, _⟩ => es
  | _ => #[]
noncomputable def entNAt (K : Frag) (a : Addr) : Nat := match K.lookup a with
  | some ⟨_, _, .dict _ n, _⟩ => n
  | _ => 0
theorem tok_dict (P : Params) : (KK P).lookup 29 = some ⟨.type "dict", none, .dict (entsAt (KK P) 29) (entNAt (KK P) 29), #[]⟩ := by kernel_rfl
theorem tok_keys (P : Params) : KeysLit P (entsAt (KK P) 29).toList := by
  repeat (first | exact True.intro | refine And.intro ⟨_, _, rfl, rfl⟩ ?_)
theorem items (P : Params) : ∀ q ∈ itemT, ∃ v, nsIn (KK P) 29 q.1 = some (some v) ∧ ∀ X h, Rep X h q.2 v := by
  unfold itemT
  simp only [List.forall_mem_cons]
  refine ⟨?_, ?_, ?_, ?_, ?_, ?_, ?_, ?_, ?_, ?_, ?_, ?_, fun _ h => absurd h List.not_mem_nil⟩
  · exact ⟨.int 7 221, by kernel_rfl, fun _ _ => by simp only [Rep]; exact ⟨_, rfl⟩⟩
  · exact ⟨.int 8 223, by kernel_rfl, fun _ _ => by simp only [Rep]; exact ⟨_, rfl⟩⟩
  · exact ⟨.int 9 225, by kernel_rfl, fun _ _ => by simp only [Rep]; exact ⟨_, rfl⟩⟩
  · exact ⟨.int 10 227, by kernel_rfl, fun _ _ => by simp only [Rep]; exact ⟨_, rfl⟩⟩
  · exact ⟨.int 11 229, by kernel_rfl, fun _ _ => by simp only [Rep]; exact ⟨_, rfl⟩⟩
  · exact ⟨.int 12 231, by kernel_rfl, fun _ _ => by simp only [Rep]; exact ⟨_, rfl⟩⟩
  · exact ⟨.int 13 233, by kernel_rfl, fun _ _ => by simp only [Rep]; exact ⟨_, rfl⟩⟩
  · exact ⟨.int 14 235, by kernel_rfl, fun _ _ => by simp only [Rep]; exact ⟨_, rfl⟩⟩
  · exact ⟨.int 15 237, by kernel_rfl, fun _ _ => by simp only [Rep]; exact ⟨_, rfl⟩⟩
  · exact ⟨.int 16 239, by kernel_rfl, fun _ _ => by simp only [Rep]; exact ⟨_, rfl⟩⟩
  · exact ⟨.int 17 241, by kernel_rfl, fun _ _ => by simp only [Rep]; exact ⟨_, rfl⟩⟩
  · exact ⟨.int 18 243, by kernel_rfl, fun _ _ => by simp only [Rep]; exact ⟨_, rfl⟩⟩

open PySem.Calls
noncomputable def noDef : DefRec := ⟨"", ⟨[], [], none, [], [], none, []⟩, [], ⟨.function, [], false, false, []⟩, ⟨0, 0, 0, 0⟩⟩
/-- the def n of the text, as the library's head sees it -/
noncomputable def dN (n : Str) : DefRec := ((recsOf PySem.Challenge.pw_re0111_01).find? (fun d => d.name == n)).getD noDef
structure IsRec (n : Str) : Prop where
  mem : ((recsOf PySem.Challenge.pw_re0111_01).find? (fun d => d.name == n)).isSome = true
  name : (dN n).name = n
  body : (dN n).body = bodyOf n
  names : (dN n).scope.names = scopeOf n
  bind : ∀ (pm code doc : Value) (vs : List Value), vs.length = (paramsOf n).length → bindArgs (docDef (dN n).name (dN n).params (dN n).body (dN n).scope pm code doc) ⟨vs, []⟩ = pure ((paramsOf n).zip vs)
  loc : (paramsOf n).all (fun x => (scopeOf n).lookup x == some .local) = true
  cell : (scopeOf n).all (fun x => x.2 != .cell) = true
  co : (dN n).scope.isCoroutine = false
  gen : (dN n).scope.isGenerator = false
  kind : (dN n).scope.kind = .function
theorem len2_of {α : Type} : ∀ {vs : List α} {k : Nat}, vs.length = k → k = 2 → ∃ a b, vs = [a, b]
  | [a, b], _, _, _ => ⟨a, b, rfl⟩
  | [], _, h, e => nomatch (h.trans e)
  | [_], _, h, e => nomatch Nat.succ.inj (h.trans e)
  | _ :: _ :: _ :: _, _, h, e => absurd (h.trans e) (by simp)
theorem len3_of {α : Type} : ∀ {vs : List α} {k : Nat}, vs.length = k → k = 3 → ∃ a b c, vs = [a, b, c]
  | a :: r, _, h, e => by
    obtain ⟨b, c, rfl⟩ := len2_of (vs := r) (k := 2) (Nat.succ.inj (h.trans e)) rfl
    exact ⟨a, b, c, rfl⟩
theorem rec_sub : IsRec "_substitution_cost" := by
  refine ⟨by decide +kernel, by kernel_rfl, by kernel_rfl, by kernel_rfl, ?_, by decide +kernel, by decide +kernel, by kernel_rfl, by kernel_rfl, by kernel_rfl⟩
  intro pm code doc vs hv
  obtain ⟨a, b, rfl⟩ := len2_of hv (by decide +kernel)
  kernel_rfl
theorem rec_rgb : IsRec "rgb_to_hsv" := by
  refine ⟨by decide +kernel, by kernel_rfl, by kernel_rfl, by kernel_rfl, ?_, by decide +kernel, by decide +kernel, by kernel_rfl, by kernel_rfl, by kernel_rfl⟩
  intro pm code doc vs hv
  obtain ⟨a, b, c, rfl⟩ := len3_of hv (by decide +kernel)
  kernel_rfl
theorem rec_hsv : IsRec "hsv_to_rgb" := by
  refine ⟨by decide +kernel, by kernel_rfl, by kernel_rfl, by kernel_rfl, ?_, by decide +kernel, by decide +kernel, by kernel_rfl, by kernel_rfl, by kernel_rfl⟩
  intro pm code doc vs hv
  obtain ⟨a, b, c, rfl⟩ := len3_of hv (by decide +kernel)
  kernel_rfl
theorem rec_lev : IsRec "_levenshtein_distance" := by
  refine ⟨by decide +kernel, by kernel_rfl, by kernel_rfl, by kernel_rfl, ?_, by decide +kernel, by decide +kernel, by kernel_rfl, by kernel_rfl, by kernel_rfl⟩
  intro pm code doc vs hv
  obtain ⟨a, b, c, rfl⟩ := len3_of hv (by decide +kernel)
  kernel_rfl
theorem rec_level : IsRec "_law_level" := by
  refine ⟨by decide +kernel, by kernel_rfl, by kernel_rfl, by kernel_rfl, ?_, by decide +kernel, by decide +kernel, by kernel_rfl, by kernel_rfl, by kernel_rfl⟩
  intro pm code doc vs hv
  obtain ⟨a, b, rfl⟩ := len2_of hv (by decide +kernel)
  kernel_rfl
theorem rec_seen : IsRec "_law_seen" := by
  refine ⟨by decide +kernel, by kernel_rfl, by kernel_rfl, by kernel_rfl, ?_, by decide +kernel, by decide +kernel, by kernel_rfl, by kernel_rfl, by kernel_rfl⟩
  intro pm code doc vs hv
  obtain ⟨a, b, rfl⟩ := len2_of hv (by decide +kernel)
  kernel_rfl

/-- the def n stands at a -/
noncomputable def StandsAt (B : Heap) (a : Addr) (n : Str) : Prop := ∃ fd, DefAt B a fd (paramsOf n) (bodyOf n) ∧ fd.closure = [] ∧ (∀ x ∈ fd.scope.names, x.2 ≠ .cell) ∧ fd.scope.names = scopeOf n
theorem stands {p : Program} {loose : List Str} {mean : ExcName → Option Value} {mg mb : Str → Option Value} {B : Heap} {P : Params} {a : Addr} {n : Str} (X : (KK P).In B) (T : Top p loose mean mg mb B) (hp : recsOf p = recsOf PySem.Challenge.pw_re0111_01)
    (R : IsRec n) (e : nsIn (KK P) mainGlobals n = some (some (.ref a))) : StandsAt B a n := by
  have hm : dN n ∈ recsOf p := by
    obtain ⟨d, hd⟩ := Option.isSome_iff_exists.mp R.mem
    rw [hp]; unfold dN; rw [hd]; exact List.mem_of_find?_eq_some hd
  obtain ⟨a', o, pm, code, doc, h1, h2, h3, h4⟩ := T.fn (dN n) hm
  have h0 := mg_of X T.g e
  rw [R.name, h0] at h1
  cases h1
  have hl := List.all_eq_true.mp R.loc
  have hc := List.all_eq_true.mp R.cell
  refine ⟨_, ⟨⟨o, h2, h3⟩, h4, ?_, R.bind pm code doc, fun x hx => ?_, R.co, R.gen, R.kind, rfl, rfl⟩, rfl, fun x hx => ?_, R.names⟩
  · exact congrArg _ R.body
  · have := hl x hx
    show (dN n).scope.names.lookup x = _
    rw [R.names]; exact beq_iff_eq.mp this
  · have hx : x ∈ (dN n).scope.names := hx
    rw [R.names] at hx
    exact bne_iff_ne.mp (hc x hx)
/-- the text's six small defs -/
structure Stand (B : Heap) : Prop where
  sub : StandsAt B 38 "_substitution_cost"
  rgb : StandsAt B 21 "rgb_to_hsv"
  hsv : StandsAt B 28 "hsv_to_rgb"
  lev : StandsAt B 45 "_levenshtein_distance"
  level : StandsAt B 52 "_law_level"
  seen : StandsAt B 59 "_law_seen"
theorem stand {p : Program} {loose : List Str} {mean : ExcName → Option Value} {mg mb : Str → Option Value} {B : Heap} {P : Params} (X : (KK P).In B) (T : Top p loose mean mg mb B) (hp : recsOf p = recsOf PySem.Challenge.pw_re0111_01) : Stand B :=
  ⟨stands X T hp rec_sub rfl, stands X T hp rec_rgb rfl, stands X T hp rec_hsv rfl, stands X T hp rec_lev rfl, stands X T hp rec_level rfl, stands X T hp rec_seen rfl⟩
end Mine
end

section
open PySem PySem.W PyProof.Rows
set_option linter.unusedVariables false
set_option maxRecDepth 100000
namespace Mine

section
variable {prog : Program} {w : World} {B : Heap} {p : Program} {loose : List Str} {mg mb : Str → Option Value}

theorem CallOK.more {d d' : Nat} {a : Addr} {ps : List PV} {r : PV} (h : CallOK prog w B d a ps r) (hd : d ≤ d') : CallOK prog w B d' a ps r :=
  fun A s X vs Q E RO => h A s X vs Q E ⟨RO.handled, by have := RO.depth; omega, by have := RO.units; omega⟩

theorem base_ok (X : (KK w.params).In B) (T : TopRead p loose mg mb B) {c : Addr → List PV → Option PV} {d : Nat}
    (hc : ∀ a ps r, c a ps = some r → CallOK prog w B d a ps r) (hf : ∀ a ps r, c a ps = some r → ∃ n, StandsAt B a n) : GlOK prog w { G0 with call := c } B d where
  glob := fun x pv e env A s Y Q E hB hk hg hb hx h => by
    rcases globs w.params (x, pv) (lookup_mem' e) with ⟨v, h1, h2⟩ | ⟨h1, hn, v, h3, h2⟩
    · exact glob_K X T h1 hB hk hg hx (h v (h2 _ _))
    · exact glob_B X T h1 h3 hn hB hk hg hb hx (h v (h2 _ _))
  call := hc
  fn := fun a ps r e => by
    obtain ⟨n, fd, hfd, _⟩ := hf a ps r e
    obtain ⟨o, h1, h2⟩ := hfd.at'
    exact ⟨o, fd, h1, h2⟩
  item := fun a x pv e A s Y Q E t hB => by
    have e : gItem a x = some pv := e
    unfold gItem at e
    split at e
    · rename_i ha
      subst ha
      obtain ⟨v, h1, h2⟩ := items w.params (x, pv) (lookup_mem' e)
      have XS : (KK w.params).In s.heap := fun a o e => hB _ _ (X a o e)
      have hm := mapOf_K (prog := prog) (w := w) XS (tok_dict w.params) (tok_keys w.params)
      exact ⟨hm.typeIs, fun h => wpAny_getItem_of (strKind_is prog w x t) hm (find_K (tok_dict w.params) h1) (h v _ (h2 _ _))⟩
    · cases e

theorem run_ok {G : Gl} {d n : Nat} {a : Addr} {name : Str} {ps : List PV} {r : PV} (GO : GlOK prog w G B d) (hlim : B.NoLimit) (D : StandsAt B a name)
    (e : runDef G n name ps = some r) : CallOK prog w B (d + 1) a ps r := by
  obtain ⟨fd, D, hcl, hce, hn⟩ := D
  unfold runDef at e
  rw [← hn] at e
  exact def_sound GO hlim D hcl hce e

theorem ok0 (X : (KK w.params).In B) (T : TopRead p loose mg mb B) : GlOK prog w G0 B 0 :=
  base_ok X T (c := fun _ _ => Option.none) (fun _ _ _ e => nomatch e) (fun _ _ _ e => nomatch e)

theorem call1_ok (X : (KK w.params).In B) (T : TopRead p loose mg mb B) (S : Stand B) {a : Addr} {ps : List PV} {r : PV} (e : call1 a ps = some r) : CallOK prog w B 1 a ps r ∧ ∃ n, StandsAt B a n := by
  unfold call1 at e
  split at e
  · rename_i h; subst h
    exact ⟨run_ok (ok0 X T) T.nolimit S.sub e, _, S.sub⟩
  · split at e
    · rename_i h; subst h
      exact ⟨run_ok (ok0 X T) T.nolimit S.rgb e, _, S.rgb⟩
    · split at e
      · rename_i h; subst h
        exact ⟨run_ok (ok0 X T) T.nolimit S.hsv e, _, S.hsv⟩
      · split at e
        · rename_i h; subst h
          exact ⟨run_ok (ok0 X T) T.nolimit S.level e, _, S.level⟩
        · cases e

theorem ok1 (X : (KK w.params).In B) (T : TopRead p loose mg mb B) (S : Stand B) : GlOK prog w G1 B 1 :=
  base_ok X T (c := call1) (fun _ _ _ e => (call1_ok X T S e).1) (fun _ _ _ e => (call1_ok (prog := prog) X T S e).2)

theorem call2_ok (X : (KK w.params).In B) (T : TopRead p loose mg mb B) (S : Stand B) {a : Addr} {ps : List PV} {r : PV} (e : call2t a ps = some r) : CallOK prog w B 2 a ps r ∧ ∃ n, StandsAt B a n := by
  unfold call2t at e
  split at e
  · rename_i h; subst h
    exact ⟨run_ok (ok1 X T S) T.nolimit S.lev (lev_ok e), _, S.lev⟩
  · exact ⟨(call1_ok X T S e).1.more (by omega), (call1_ok (prog := prog) X T S e).2⟩

theorem ok2 (X : (KK w.params).In B) (T : TopRead p loose mg mb B) (S : Stand B) : GlOK prog w G2t B 2 :=
  base_ok X T (c := call2t) (fun _ _ _ e => (call2_ok X T S e).1) (fun _ _ _ e => (call2_ok (prog := prog) X T S e).2)

theorem callS_ok (X : (KK w.params).In B) (T : TopRead p loose mg mb B) (S : Stand B) {a : Addr} {ps : List PV} {r : PV} (e : callS a ps = some r) : CallOK prog w B 3 a ps r ∧ ∃ n, StandsAt B a n := by
  unfold callS at e
  split at e
  · rename_i h; subst h
    exact ⟨run_ok (ok2 X T S) T.nolimit S.seen (seenL_ok e), _, S.seen⟩
  · cases e

theorem okS (X : (KK w.params).In B) (T : TopRead p loose mg mb B) (S : Stand B) : GlOK prog w GS B 3 :=
  base_ok X T (c := callS) (fun _ _ _ e => (callS_ok X T S e).1) (fun _ _ _ e => (callS_ok (prog := prog) X T S e).2)
end
end Mine
end

section
open PySem PySem.W PyProof.Rows
set_option linter.unusedVariables false
set_option maxRecDepth 100000
namespace Mine
theorem CellsAre.find {cm : Str → Option Value} {x : Str} {c : Addr} : ∀ {cl : List (Str × Addr)} {cells : List (Addr × Obj)}, CellsAre cm cl cells → (x, c) ∈ cl → ∃ o, (c, o) ∈ cells ∧ o.data = .cell (cm x)
  | [], _, _, h => nomatch h
  | (y, d) :: cl, cells, C, h => by
    obtain ⟨o, r, rfl, ho, C'⟩ : ∃ o r, cells = (d, o) :: r ∧ o.data = .cell (cm y) ∧ CellsAre cm cl r := by
      cases C; exact ⟨_, _, rfl, by assumption, by assumption⟩
    rcases List.mem_cons.mp h with e | e
    · cases e; exact ⟨o, List.mem_cons_self, ho⟩
    · obtain ⟨o', hm, hd⟩ := CellsAre.find C' e
      exact ⟨o', List.mem_cons_of_mem _ hm, hd⟩
theorem lawCells (L : Addr) : cellsFrom (L + 1) lawSc [] = [(Str.ofString "seen", L + 1 + 1 + 1 + 1 + 1 + 1), (Str.ofString "spots", L + 1 + 1 + 1 + 1 + 1), (Str.ofString "moment", L + 1 + 1 + 1 + 1), (Str.ofString "turn", L + 1 + 1 + 1), (Str.ofString "speeds", L + 1 + 1), (Str.ofString "places", L + 1)] := by rfl
noncomputable def cellName (k : Nat) : Str := (["", "places", "speeds", "turn", "moment", "spots", "seen"] : List Str).getD k ""
theorem cell_name {L c : Nat} {x : Str} (m : (x, c) ∈ [(Str.ofString "seen", L + 1 + 1 + 1 + 1 + 1 + 1), (Str.ofString "spots", L + 1 + 1 + 1 + 1 + 1), (Str.ofString "moment", L + 1 + 1 + 1 + 1), (Str.ofString "turn", L + 1 + 1 + 1), (Str.ofString "speeds", L + 1 + 1), (Str.ofString "places", L + 1)]) : x = cellName (c - L) := by
  simp only [List.mem_cons, List.not_mem_nil, or_false, Prod.mk.injEq] at m
  rcases m with ⟨rfl, rfl⟩ | ⟨rfl, rfl⟩ | ⟨rfl, rfl⟩ | ⟨rfl, rfl⟩ | ⟨rfl, rfl⟩ | ⟨rfl, rfl⟩
  · show _ = cellName (L + 6 - L); rw [Nat.add_sub_cancel_left]; rfl
  · show _ = cellName (L + 5 - L); rw [Nat.add_sub_cancel_left]; rfl
  · show _ = cellName (L + 4 - L); rw [Nat.add_sub_cancel_left]; rfl
  · show _ = cellName (L + 3 - L); rw [Nat.add_sub_cancel_left]; rfl
  · show _ = cellName (L + 2 - L); rw [Nat.add_sub_cancel_left]; rfl
  · show _ = cellName (L + 1 - L); rw [Nat.add_sub_cancel_left]; rfl
theorem ints_rep {X : List Addr} {h : Heap} : ∀ {vs : List Value} {ns : List Int}, IntsAre vs ns → RepL X h (ns.map .int) vs
  | _, _, .nil => by simp only [List.map_nil, RepL]
  | _, _, .cons n t r => by
    simp only [List.map_cons, RepL]
    exact ⟨_, _, rfl, by simp only [Rep]; exact ⟨t, rfl⟩, ints_rep r⟩

theorem law_fin {prog : Program} {w : World} {B : Heap} {p : Program} {loose : List Str} {mg mb m cm : Str → Option Value} {env : Env} {A : Around} {s : Shared} {Q : Flow → Shared → Prop} {E : Value → Shared → Prop} {L a : Addr} {news : List (Addr × Obj)} {vs : List Value} {ns : List Int}
    (KX : (KK w.params).In B) (T : TopRead p loose mg mb B) (S : Stand B) (F : Fr B L s.heap m) (N : News B L s.heap news) (C : CellsAre cm (cellsFrom (L + 1) lawSc []) news)
    (hm : m "script" = some (.ref a)) (hL : B.IsList a vs.toArray) (hI : IntsAre vs ns) (hl : ns.length ≤ 63)
    (hsc : env.scope.names = lawSc) (hk : env.scope.kind = .function) (hg : env.globals = mainGlobals) (hb : env.builtins = builtinsNs) (hloc : env.locals = L) (hcl : env.cells = cellsFrom (L + 1) lawSc [])
    (RO : Room A 3) (hQ : ∀ h' tk, Sub B h' → Q (.ret (.bool true)) { s with heap := h', toks := tk }) : wpAny (model prog w) A (execs lawBody env) Q E s := by
  obtain ⟨ρ', hx⟩ := law_run hl
  have hLB : B.get? L = none := by
    cases q : B.get? L with
    | none => rfl
    | some o => exact absurd (Heap.lt_size q) (Nat.not_lt.mpr F.above)
  have hXB : ∀ b ∈ L :: (cellsFrom (L + 1) lawSc []).map (·.2), B.get? b = none := by
    intro b hb
    rcases List.mem_cons.mp hb with e | e
    · rw [e]; exact hLB
    · obtain ⟨⟨x, c⟩, h1, rfl⟩ := List.mem_map.mp e
      obtain ⟨o, ho, _⟩ := CellsAre.find C h1
      exact N.fresh ho
  have XO : XOK (L :: (cellsFrom (L + 1) lawSc []).map (·.2)) s.heap := by
    intro b hb
    rcases List.mem_cons.mp hb with e | e
    · rw [e]; exact NoTup.ns F.ns
    · obtain ⟨⟨x, c⟩, h1, rfl⟩ := List.mem_map.mp e
      obtain ⟨o, ho, hd⟩ := CellsAre.find C h1
      exact ⟨o, N.get ho, fun _ its n q => by rw [hd] at q; cases q⟩
  have hrX : a ∉ L :: (cellsFrom (L + 1) lawSc []).map (·.2) := fun q => by
    obtain ⟨o, ho, _⟩ := hL
    rw [hXB a q] at ho; cases ho
  have hρ : ∀ x pv, upd rho0 "script" (.list (ns.map .int)) x = some pv → x = "script" ∧ pv = .list (ns.map .int) := by
    intro x pv h
    simp only [upd, rho0] at h
    split at h
    · cases h; exact ⟨by assumption, rfl⟩
    · cases h
  have EO : EnvOK (L :: (cellsFrom (L + 1) lawSc []).map (·.2)) s.heap env (upd rho0 "script" (.list (ns.map .int))) := by
    refine ⟨hk, hg, hb, by rw [hloc]; exact List.mem_cons_self, ⟨m, by rw [hloc]; exact F.ns, fun x pv _ hx => ?_, fun x y l l' _ _ hx => ?_⟩, fun x hkx => ?_, fun x y c h1 h2 => ?_⟩
    · obtain ⟨rfl, rfl⟩ := hρ x pv hx
      refine ⟨_, hm, .of ?_⟩
      simp only [Rep]
      exact ⟨a, vs, rfl, hrX, (let ⟨o, ho, r⟩ := hL; ⟨o, F.keep _ _ ho, r⟩), ints_rep hI⟩
    · cases (hρ x _ hx).2
    · have hkx : lawSc.lookup x = some .cell := by rw [← hsc]; exact hkx
      rw [hcl]
      have := cellsFrom_some lawSc (L + 1) [] (.inl hkx)
      obtain ⟨c, hc⟩ := Option.isSome_iff_exists.mp this
      obtain ⟨o, ho, hd⟩ := CellsAre.find C (lookup_mem' hc)
      refine ⟨c, cm x, hc, List.mem_cons_of_mem _ (List.mem_map.mpr ⟨_, lookup_mem' hc, rfl⟩), ⟨o, N.get ho, hd⟩, fun pv hx => ?_⟩
      rw [(hρ x pv hx).1] at hkx
      rw [k_script] at hkx; cases hkx
    · rw [hcl, lawCells] at h1 h2
      exact (cell_name (lookup_mem' h1)).trans (cell_name (lookup_mem' h2)).symm
  refine ((xn (okS KX T S) 70).xs _ _ _ _ _ hx) env A s _ Q E hsc EO XO hXB F.keep RO ?_
  intro f h' tk X' hfl EO' XO' kb hn _
  simp only [FlowRep] at hfl
  obtain ⟨u, rfl, hu⟩ := hfl
  simp only [Rep] at hu
  subst hu
  exact hQ h' tk fun b o e => kb b o (fun q => by rw [hXB b q] at e; cases e) (F.keep b o e)

theorem law_good_end {c : ClaimW} {cl : Str → Option Addr} {mean : ExcName → Option Value} {args : List WData} {s₁ s' : Shared} (keep : Sub s₁.heap s'.heap) (hg : s'.gens = #[]) (hn : ∀ cls, c.raises args cls = false) (hp : c.post args (.bool true) args = true) (hos : s'.os = s₁.os) :
    GoodW c cl mean args s₁ (.ok (.ret (.bool true))) s' := ⟨.inl ⟨_, _, _, rfl, hn, .bool true, hp, unshared_nil⟩, keep, hos, hg⟩
theorem room_caller (e : Env) : Room (callerA.deeper e) 3 := ⟨rfl, (by decide +kernel : 1 + claimMargin + 1 + 3 < recursionLimit), (by decide +kernel : 4 + 3 + 100 * 3 + 100 < cLine)⟩
end Mine
end

open PySem PySem.W PyProof.Rows
set_option maxRecDepth 100000 in
set_option maxHeartbeats 8000000 in
theorem PySem.Challenge.cw_re0111_01_holds : PySem.Challenge.rw_re0111_01.Holds := by
  w_on; o_law
  o_head (kHook Mine.KK [3, 29] (fun _ => by kernel_rfl))
  (case hw => w_witness2)
  intro w s₀ s₁ mg mb G Y fa o pm cd doc dV kV ho hd hcd hD hmg hg args vals as hpre hlay hrd hwl hlo
  have KX := kIn_of Y
  k_behind G ho hd hcd hD hmg hpre hlay hrd hwl hlo cd
  have S : Mine.Stand s₁.heap := Mine.stand KX (by assumption) (by kernel_rfl)
  refine Mine.law_fin KX (topRead_of (by assumption)) S (by assumption) (by assumption) (by assumption) rfl (by assumption) (by assumption) (by omega) rfl rfl rfl rfl rfl rfl (Mine.room_caller _) ?_
  intro h' tk keep
  refine Mine.law_good_end keep (by assumption) (raisesW_false ?_) ?_ rfl
  · wrow_none_raised
  · wrow_post
