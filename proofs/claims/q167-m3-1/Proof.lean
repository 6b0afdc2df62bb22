import JvmDerived
import JvmDerived.Pilot.@@N@@Statement
import JvmDerived.Pilot.@@N@@Code
set_option linter.unusedVariables false
set_option linter.unusedSimpArgs false
/-! OWN LAYER, part 1: a small interpreter over the library's symbolic frames, with an abstract heap of the cells made since the start. -/
namespace Jvm.Mini
open Sem ClassFile Op Lib Jvm.Stand Jvm.Free Jvm.RoadKit Jvm.Sym

/-- pc, instruction, length, tag, x, y, numbers -/
abbrev AI := Nat × Instr × Nat × Nat × Nat × Nat × List Int
/-- a field: declarer, name, descriptor, type -/
abbrev Fd := String × String × String × FieldType
/-- a class: name, slots, fields -/
abbrev Cls := String × Nat × List Fd
/-- a method: name, bytes, max_locals, result, number of arguments (the receiver counts), class, code -/
abbrev Mth := MethodName × ByteArray × Nat × Option FieldType × Nat × Nat × List AI
abbrev Prog := List Cls × List Mth
/-- kind (0 an array of ints, longs, bytes; 1 an object; 2 an array of references), which, what it holds -/
abbrev ACell := Nat × Nat × List SVal
abbrev Path := List (Jvm.Cond × Bool)
abbrev Ans := List (Path × List Jvm.Cond)
abbrev HS := SFrame × List ACell × Nat

abbrev mNm (M : Mth) : MethodName := M.1
abbrev mBy (M : Mth) : ByteArray := M.2.1
abbrev mMx (M : Mth) : Nat := M.2.2.1
abbrev mRt (M : Mth) : Option FieldType := M.2.2.2.1
abbrev mNa (M : Mth) : Nat := M.2.2.2.2.1
abbrev mCi (M : Mth) : Nat := M.2.2.2.2.2.1
abbrev mCd (M : Mth) : List AI := M.2.2.2.2.2.2

def cvT : Term → Option Value
  | .int v => some (.int v)
  | .long v => some (.long v)
  | _ => none
def ofV : Option Value → Term → Term
  | some (.int z), _ => .int z
  | some (.long z), _ => .long z
  | _, t => t
/-- constants folded, at the top alone -/
def nrm (t : Term) : Term :=
  match t with
  | .add a b => match a, b with | .int x, .int y => .int (x + y) | _, _ => t
  | .sub a b => match a, b with | .int x, .int y => .int (x - y) | _, _ => t
  | .mul a b => match a, b with | .int x, .int y => .int (x * y) | _, _ => t
  | .div a b => match a, b with | .int x, .int y => if y = 0 then t else .int (x / y) | _, _ => t
  | .rem a b => match a, b with | .int x, .int y => if y = 0 then t else .int (x % y) | _, _ => t
  | .op2 f a b => match cvT a, cvT b with | some x, some y => ofV (f.apply x y) t | _, _ => t
  | .op1 f a => match cvT a with | some x => ofV (f.apply x) t | none => (match f, a with | .i2b, .op1 .i2b b => .op1 .i2b b | _, _ => t)
  | _ => t
def nV (v : SVal) : SVal := ⟨nrm v.t, v.k⟩
def nTop (σ : SFrame) : SFrame := match σ.stack with | v :: r => { σ with stack := nV v :: r } | [] => σ
def nLoc (n : Nat) (σ : SFrame) : SFrame := match σ.locals[n]? with | some (.val v) => { σ with locals := σ.locals.set n (.val (nV v)) } | _ => σ

def getRef (K : Nat) (v : SVal) : Option Nat :=
  match v.k, v.t with
  | .ref, .arg j => bif Nat.ble K j then some (j - K) else none
  | _, _ => none
def getInt (v : SVal) : Option Int32 :=
  match v.k, v.t with
  | .int, .int x => some x
  | _, _ => none
def ixN (x : Int32) : Nat := x.toBitVec.toNat
def catS : List SVal → Nat
  | [] => 0
  | v :: r => (match v.k with | .long => 2 | _ => 1) + catS r
def dfl : FieldType → SVal
  | .long => ⟨.long 0, .long⟩
  | .object _ | .array _ => ⟨.null, .ref⟩
  | _ => ⟨.int 0, .int⟩
def okTy : FieldType → Bool
  | .int | .long | .object _ | .array _ => true
  | _ => false
def kindOk : FieldType → SVal → Bool
  | .int, ⟨_, .int⟩ => true
  | .long, ⟨_, .long⟩ => true
  | .object _, ⟨_, .ref⟩ => true
  | .array _, ⟨_, .ref⟩ => true
  | _, _ => false
def aTy : Nat → FieldType
  | 0 => .int
  | 1 => .long
  | _ => .byte
def aAd : Nat → String
  | 0 => "[I"
  | 1 => "[J"
  | _ => "[B"
def adv (σ : SFrame) (n : Nat) (st : List SVal) : SFrame := { σ with pc := σ.pc + n, stack := st }

/-- idiv, irem by a constant -/
def hDiv (q : Bool) (σ : SFrame) : Option SFrame :=
  match σ.stack with
  | b :: a :: r =>
    match a.k, getInt b with
    | .int, some d => if d = 0 then none else some (adv σ 1 (⟨nrm (if q then .div a.t b.t else .rem a.t b.t), .int⟩ :: r))
    | _, _ => none
  | _ => none
def hGet (K x y : Nat) (σ : SFrame) (H : List ACell) (rs : Nat) : Option HS :=
  match σ.stack with
  | o :: r =>
    match getRef K o with
    | some ix =>
      match H[ix]? with
      | some (1, ci, vs) => bif Nat.beq ci x then (match vs[y]? with | some v => some (adv σ 3 (v :: r), H, rs) | none => none) else none
      | _ => none
    | none => none
  | [] => none
def hPut (P : Prog) (K x y : Nat) (σ : SFrame) (H : List ACell) (rs : Nat) : Option HS :=
  match σ.stack with
  | v :: o :: r =>
    match getRef K o with
    | some ix =>
      match H[ix]? with
      | some (1, ci, vs) =>
        bif Nat.beq ci x then
          (match P.1[x]? with
          | some C => (match C.2.2[y]? with | some f => bif kindOk f.2.2.2 v then some (adv σ 3 r, H.set ix (1, ci, vs.set y v), rs) else none | none => none)
          | none => none)
        else none
      | _ => none
    | none => none
  | _ => none
def hLen (K : Nat) (σ : SFrame) (H : List ACell) (rs : Nat) : Option HS :=
  match σ.stack with
  | o :: r =>
    match getRef K o with
    | some ix =>
      match H[ix]? with
      | some (0, _, vs) => some (adv σ 1 (⟨.int (Int32.ofNat vs.length), .int⟩ :: r), H, rs)
      | some (2, _, vs) => some (adv σ 1 (⟨.int (Int32.ofNat vs.length), .int⟩ :: r), H, rs)
      | _ => none
    | none => none
  | [] => none
/-- a component of an array of ints, longs, bytes (ty), or of references (ty = 3) -/
def hLoad (K ty : Nat) (σ : SFrame) (H : List ACell) (rs : Nat) : Option HS :=
  match σ.stack with
  | j :: o :: r =>
    match getRef K o, getInt j with
    | some ix, some jx =>
      match H[ix]? with
      | some (0, t, vs) => bif Nat.beq t ty && Nat.ble ty 2 then (match vs[ixN jx]? with | some v => some (adv σ 1 (v :: r), H, rs) | none => none) else none
      | some (2, _, vs) => bif Nat.beq 3 ty then (match vs[ixN jx]? with | some v => some (adv σ 1 (v :: r), H, rs) | none => none) else none
      | _ => none
    | _, _ => none
  | _ => none
/-- what an array of that type keeps of a value -/
def keepV (ty : Nat) (v : SVal) : Option SVal :=
  match ty, v.k with
  | 0, .int => some v
  | 1, .long => some v
  | 2, .int => some ⟨nrm (.op1 .i2b v.t), .int⟩
  | _, _ => none
def hStore (K ty : Nat) (σ : SFrame) (H : List ACell) (rs : Nat) : Option HS :=
  match σ.stack with
  | v :: j :: o :: r =>
    match getRef K o, getInt j with
    | some ix, some jx =>
      match H[ix]? with
      | some (0, t, vs) => bif Nat.beq t ty then (bif Nat.blt (ixN jx) vs.length then (match keepV ty v with | some w => some (adv σ 1 r, H.set ix (0, t, vs.set (ixN jx) w), rs) | none => none) else none) else none
      | _ => none
    | _, _ => none
  | _ => none
/-- a reference (null, or an object of the array's own class) into an array of references -/
def hStoreR (K : Nat) (σ : SFrame) (H : List ACell) (rs : Nat) : Option HS :=
  match σ.stack with
  | v :: j :: o :: r =>
    match getRef K o, getInt j with
    | some ix, some jx =>
      match H[ix]? with
      | some (2, ci, vs) =>
        bif Nat.blt (ixN jx) vs.length then
          (match getRef K v with
          | some iv => (match H[iv]? with | some (1, cv, _) => bif Nat.beq ci cv then some (adv σ 1 r, H.set ix (2, ci, vs.set (ixN jx) v), rs) else none | _ => none)
          | none => none)
        else none
      | _ => none
    | _, _ => none
  | _ => none
def hNewA (K N x : Nat) (σ : SFrame) (H : List ACell) (rs : Nat) : Option HS :=
  match σ.stack with
  | n :: r =>
    match getInt n with
    | some nx => bif Nat.blt H.length N && Nat.ble (ixN nx) rs && Nat.ble (ixN nx) 60000 then some (adv σ 2 (⟨.arg (K + H.length), .ref⟩ :: r), H ++ [(0, x, List.replicate (ixN nx) (dfl (aTy x)))], rs - ixN nx) else none
    | none => none
  | [] => none
def hNewR (K N x : Nat) (σ : SFrame) (H : List ACell) (rs : Nat) : Option HS :=
  match σ.stack with
  | n :: r =>
    match getInt n with
    | some nx => bif Nat.blt H.length N && Nat.ble (ixN nx) rs && Nat.ble (ixN nx) 60000 then some (adv σ 3 (⟨.arg (K + H.length), .ref⟩ :: r), H ++ [(2, x, List.replicate (ixN nx) ⟨.null, .ref⟩)], rs - ixN nx) else none
    | none => none
  | [] => none
def hNew (P : Prog) (K N x : Nat) (σ : SFrame) (H : List ACell) (rs : Nat) : Option HS :=
  match P.1[x]? with
  | some C => bif Nat.blt H.length N && Nat.ble C.2.1 rs then some (adv σ 3 (⟨.arg (K + H.length), .ref⟩ :: σ.stack), H ++ [(1, x, C.2.2.map fun f => dfl f.2.2.2)], rs - C.2.1) else none
  | none => none
/-- checkcast of an array of ints, longs, bytes to its own class -/
def hCast (K x : Nat) (σ : SFrame) (H : List ACell) (rs : Nat) : Option HS :=
  match σ.stack with
  | o :: r =>
    match getRef K o with
    | some ix =>
      match H[ix]? with
      | some (0, t, _) => bif Nat.beq t x then some (adv σ 3 (o :: r), H, rs) else none
      | _ => none
    | none => none
  | [] => none
/-- Object.<init> -/
def hInit (K mx rf rl : Nat) (σ : SFrame) (H : List ACell) (rs : Nat) : Option HS :=
  match σ.stack with
  | o :: r =>
    match getRef K o with
    | some ix => bif Nat.blt ix H.length && Nat.ble 1 rf && Nat.ble (catS r + 12) rl && Nat.beq σ.locals.length mx then some (adv σ 3 r, H, rs) else none
    | none => none
  | [] => none
/-- System.arraycopy between two arrays of ints, longs, bytes -/
def hCopy (K mx rf rl : Nat) (σ : SFrame) (H : List ACell) (rs : Nat) : Option HS :=
  match σ.stack with
  | n :: dp :: d :: sp :: o :: r =>
    match getInt n, getInt dp, getInt sp with
    | some n, some dp, some sp =>
      match getRef K o, getRef K d with
      | some io, some ia =>
        match H[io]?, H[ia]? with
        | some (0, t, vs), some (0, t', vd) =>
          bif Nat.beq t t' && Nat.ble (ixN sp + ixN n) vs.length && Nat.ble (ixN dp + ixN n) vd.length && Nat.ble 1 rf && Nat.ble (catS r + (nativeFrameWords "java/lang/System" "arraycopy" 5 + 11)) rl && Nat.beq σ.locals.length mx then
            some (adv σ 3 r, H.set ia (0, t', vd.take (ixN dp) ++ (vs.drop (ixN sp)).take (ixN n) ++ vd.drop (ixN dp + ixN n)), rs)
          else none
        | _, _ => none
      | _, _ => none
    | _, _, _ => none
  | _ => none
/-- clone() of an array of ints, longs, bytes -/
def hClone (K N mx rf rl x : Nat) (σ : SFrame) (H : List ACell) (rs : Nat) : Option HS :=
  match σ.stack with
  | o :: r =>
    match getRef K o with
    | some ix =>
      match H[ix]? with
      | some (0, t, vs) => bif Nat.beq t x && Nat.blt H.length N && Nat.ble vs.length rs && Nat.ble 1 rf && Nat.ble (catS r + 14) rl && Nat.beq σ.locals.length mx then some (adv σ 3 (⟨.arg (K + H.length), .ref⟩ :: r), H ++ [(0, t, vs)], rs - vs.length) else none
      | _ => none
    | none => none
  | [] => none

/-- ldc, ldc_w -/
def hLdc (len : Nat) (vals : List Int) (σ : SFrame) : Option SFrame := match vals with | [v] => some (adv σ len (⟨.int (Int32.ofInt v), .int⟩ :: σ.stack)) | _ => none
/-- ldc2_w -/
def hLdc2 (vals : List Int) (σ : SFrame) : Option SFrame := match vals with | [v] => some (adv σ 3 (⟨.long (Int64.ofInt v), .long⟩ :: σ.stack)) | _ => none
def pureH (o : Option SFrame) (H : List ACell) (rs : Nat) : Option HS := match o with | some σ => some (σ, H, rs) | none => none
/-- one step that reads or moves the heap or the tables, calls of the program's own methods aside; by its number -/
def hstep (P : Prog) (K N : Nat) (mx rf rl cd len x y : Nat) (vals : List Int) (σ : SFrame) (H : List ACell) (rs : Nat) : Option HS :=
  match cd with
  | 0 => hGet K x y σ H rs
  | 1 => hLoad K y σ H rs
  | 2 => hStore K y σ H rs
  | 3 => hLen K σ H rs
  | 4 => hPut P K x y σ H rs
  | 5 => pureH (hLdc len vals σ) H rs
  | 6 => pureH (hLdc2 vals σ) H rs
  | 7 => pureH (hDiv true σ) H rs
  | 8 => pureH (hDiv false σ) H rs
  | 9 => hStoreR K σ H rs
  | 10 => hNewA K N x σ H rs
  | 11 => hNewR K N x σ H rs
  | 12 => hNew P K N x σ H rs
  | 13 => hCast K x σ H rs
  | 14 => hInit K mx rf rl σ H rs
  | 15 => hCopy K mx rf rl σ H rs
  | 16 => hClone K N mx rf rl x σ H rs
  | _ => none
def kEq (k : VKind) (y : Nat) : Bool := match k with | .int => Nat.beq y 0 | .long => Nat.beq y 1 | .ref => Nat.beq y 2
def kOf (y : Nat) : VKind := match y with | 0 => .int | 1 => .long | _ => .ref
def rLoad (x y len : Nat) (σ : SFrame) : Option SFrame := match σ.locals[x]? with | some (.val v) => bif kEq v.k y then some (adv σ len (v :: σ.stack)) else none | _ => none
def cstV (y : Nat) (c : Int) : SVal := match y with | 0 => ⟨.int (Int32.ofInt c), .int⟩ | 1 => ⟨.long (Int64.ofInt c), .long⟩ | _ => ⟨.null, .ref⟩
def rConst (y len : Nat) (vals : List Int) (σ : SFrame) : Option SFrame := match vals with | [c] => some (adv σ len (cstV y c :: σ.stack)) | _ => none
/-- a word into a variable that holds a word or nothing -/
def easy (L : List SSlot) (x : Nat) : Bool := match L[x]? with | some .unset => true | some .junk => true | some (.val v) => (match v.k with | .long => false | _ => true) | _ => false
def rStore (x y len : Nat) (σ : SFrame) : Option SFrame :=
  match σ.stack with
  | v :: r => bif kEq v.k y then
      (bif Nat.beq y 1 then (match sStore σ.locals x v with | some L => some { σ with pc := σ.pc + len, locals := L, stack := r } | none => none)
       else bif easy σ.locals x then some { σ with pc := σ.pc + len, locals := σ.locals.set x (.val v), stack := r } else none)
      else none
  | [] => none
def rDup (len : Nat) (σ : SFrame) : Option SFrame := match σ.stack with | v :: r => (match v.k with | .long => none | _ => some (adv σ len (v :: v :: r))) | [] => none
def rPop (len : Nat) (σ : SFrame) : Option SFrame := match σ.stack with | v :: r => (match v.k with | .long => none | _ => some (adv σ len r)) | [] => none
def rDup2 (len : Nat) (σ : SFrame) : Option SFrame :=
  match σ.stack with
  | v :: r => (match v.k with | .long => some (adv σ len (v :: v :: r)) | _ => (match r with | w :: r' => (match w.k with | .long => none | _ => some (adv σ len (v :: w :: v :: w :: r'))) | [] => none))
  | [] => none
def rStack (y len : Nat) (σ : SFrame) : Option SFrame := match y with | 0 => rDup len σ | 1 => rPop len σ | _ => rDup2 len σ
def rIinc (x len : Nat) (vals : List Int) (σ : SFrame) : Option SFrame :=
  match vals, σ.locals[x]? with
  | [c], some (.val v) => (match v.k with | .int => some { σ with pc := σ.pc + len, locals := σ.locals.set x (.val ⟨nrm (.add v.t (.int (Int32.ofInt c))), .int⟩) } | _ => none)
  | _, _ => none
/-- int by int -/
def fI (y : Nat) (a b : Term) : Term :=
  match y with
  | 0 => .add a b | 1 => .sub a b | 2 => .mul a b | 3 => .op2 .iand a b | 4 => .op2 .ior a b | 5 => .op2 .ixor a b | 6 => .op2 .ishl a b | 7 => .op2 .ishr a b | _ => .op2 .iushr a b
def rBinI (y len : Nat) (σ : SFrame) : Option SFrame :=
  match σ.stack with
  | b :: a :: r => (match a.k, b.k with | .int, .int => some (adv σ len (⟨nrm (fI y a.t b.t), .int⟩ :: r)) | _, _ => none)
  | _ => none
def arI : Instr → Option Nat
  | .iadd => some 0 | .isub => some 1 | .imul => some 2 | .iand => some 3 | .ior => some 4 | .ixor => some 5 | .ishl => some 6 | .ishr => some 7 | .iushr => some 8
  | _ => none
/-- the other arithmetic: long by long, shifts of longs, of one operand -/
def fL (y : Nat) (a b : Term) : Term :=
  match y with
  | 0 => .op2 .ladd a b | 1 => .op2 .lsub a b | 2 => .op2 .lmul a b | 3 => .op2 .land a b | 4 => .op2 .lor a b | _ => .op2 .lxor a b
def arL : Instr → Option Nat
  | .ladd => some 0 | .lsub => some 1 | .lmul => some 2 | .land => some 3 | .lor => some 4 | .lxor => some 5
  | _ => none
def fS (y : Nat) (a b : Term) : Term := match y with | 6 => .op2 .lshl a b | 7 => .op2 .lshr a b | _ => .op2 .lushr a b
def arS : Instr → Option Nat
  | .lshl => some 6 | .lshr => some 7 | .lushr => some 8
  | _ => none
def fU (y : Nat) (a : Term) : Term := match y with | 9 => .op1 .ineg a | 10 => .op1 .i2b a | 11 => .op1 .i2c a | _ => .op1 .i2s a
def arU : Instr → Option Nat
  | .ineg => some 9 | .i2b => some 10 | .i2c => some 11 | .i2s => some 12
  | _ => none
def arX : Instr → Option Nat
  | .i2l => some 13 | .l2i => some 14 | .lneg => some 15 | .lcmp => some 16
  | _ => none
def rBinL (y len : Nat) (σ : SFrame) : Option SFrame :=
  match σ.stack with
  | b :: a :: r => (match a.k, b.k with | .long, .long => some (adv σ len (⟨nrm (fL y a.t b.t), .long⟩ :: r)) | _, _ => none)
  | _ => none
def rShL (y len : Nat) (σ : SFrame) : Option SFrame :=
  match σ.stack with
  | b :: a :: r => (match a.k, b.k with | .long, .int => some (adv σ len (⟨nrm (fS y a.t b.t), .long⟩ :: r)) | _, _ => none)
  | _ => none
def rUn (y len : Nat) (σ : SFrame) : Option SFrame :=
  match σ.stack with
  | a :: r => (match a.k with | .int => some (adv σ len (⟨nrm (fU y a.t), .int⟩ :: r)) | _ => none)
  | _ => none
def rX (y len : Nat) (σ : SFrame) : Option SFrame :=
  match y, σ.stack with
  | 13, a :: r => (match a.k with | .int => some (adv σ len (⟨nrm (.op1 .i2l a.t), .long⟩ :: r)) | _ => none)
  | 14, a :: r => (match a.k with | .long => some (adv σ len (⟨nrm (.op1 .l2i a.t), .int⟩ :: r)) | _ => none)
  | 15, a :: r => (match a.k with | .long => some (adv σ len (⟨nrm (.op1 .lneg a.t), .long⟩ :: r)) | _ => none)
  | 16, b :: a :: r => (match a.k, b.k with | .long, .long => some (adv σ len (⟨nrm (.op2 .lcmp a.t b.t), .int⟩ :: r)) | _, _ => none)
  | _, _ => none
def rOther (y len : Nat) (σ : SFrame) : Option SFrame := bif Nat.blt y 6 then rBinL y len σ else bif Nat.blt y 9 then rShL y len σ else bif Nat.blt y 13 then rUn y len σ else rX y len σ

def stp : Term → Term
  | .old t => t
  | t => t
/-- a guard over constants, over references that are known, or over one term twice -/
def decA (K N : Nat) : Jvm.Cond → Option Bool
  | .eq a b =>
    match stp a, stp b with
    | .int x, .int y => some (decide (x = y))
    | .arg i, .arg j => bif Nat.ble K i && Nat.ble K j && Nat.blt i (K + N) && Nat.blt j (K + N) then some (Nat.beq i j) else (if i = j then some true else none)
    | .arg i, .null => bif Nat.ble K i && Nat.blt i (K + N) then some false else none
    | .null, .arg i => bif Nat.ble K i && Nat.blt i (K + N) then some false else none
    | .null, .null => some true
    | .op2 .lcmp u v, .int z => if u = v ∧ z = 0 then some true else none
    | u, v => if u = v then some true else none
  | .lt a b =>
    match stp a, stp b with
    | .int x, .int y => some (decide (x < y))
    | .op2 .lcmp u v, .int z => if u = v ∧ z = 0 then some false else none
    | .int z, .op2 .lcmp u v => if u = v ∧ z = 0 then some false else none
    | u, v => if u = v then some false else none
  | _ => none
def look (G : Jvm.Cond) : Path → Option Bool
  | [] => none
  | (F, b) :: r => if G = F then some b else look G r
/-- the guard without 'not', and whether it stands as it is -/
def core : Jvm.Cond → Jvm.Cond × Bool
  | .not c => (c, false)
  | .le a b => (.lt b a, false)
  | c => (c, true)
def decG (K N : Nat) (G : Jvm.Cond) (π : Path) : Option Bool :=
  match decA K N G with
  | some b => some b
  | none => look G π

def isC (v : SVal) : Bool := match v.t with | .int _ => true | _ => false
def stuck (π : Path) : Ans := [(π, [])]
def eqG (t : Term) (v : Int) : Jvm.Cond := .eq t (.int (Int32.ofInt v))
/-- the variables with which a callee is entered -/
def laidS : List SVal → List SSlot
  | [] => []
  | v :: r => match v.k with | .long => .val v :: .second :: laidS r | _ => .val v :: laidS r
def entryS (as : List SVal) (mx : Nat) : SFrame := { pc := 0, locals := laidS as ++ List.replicate (mx - (laidS as).length) .unset, stack := [] }
/-- a guard (without 'not' and 'le'), whether it stands as it is, and the stack behind it; by its number -/
def rFork (y : Nat) (st : List SVal) : Option (Jvm.Cond × Bool × List SVal) :=
  match y, st with
  | 0, b :: a :: r => (match a.k, b.k with | .int, .int => some (.eq (.old a.t) (.old b.t), true, r) | _, _ => none)
  | 1, b :: a :: r => (match a.k, b.k with | .int, .int => some (.eq (.old a.t) (.old b.t), false, r) | _, _ => none)
  | 2, b :: a :: r => (match a.k, b.k with | .int, .int => some (.lt (.old a.t) (.old b.t), true, r) | _, _ => none)
  | 3, b :: a :: r => (match a.k, b.k with | .int, .int => some (.lt (.old a.t) (.old b.t), false, r) | _, _ => none)
  | 4, b :: a :: r => (match a.k, b.k with | .int, .int => some (.lt (.old b.t) (.old a.t), true, r) | _, _ => none)
  | 5, b :: a :: r => (match a.k, b.k with | .int, .int => some (.lt (.old b.t) (.old a.t), false, r) | _, _ => none)
  | 6, a :: r => (match a.k with | .int => some (.eq (.old a.t) (.int 0), true, r) | _ => none)
  | 7, a :: r => (match a.k with | .int => some (.eq (.old a.t) (.int 0), false, r) | _ => none)
  | 8, a :: r => (match a.k with | .int => some (.lt (.old a.t) (.int 0), true, r) | _ => none)
  | 9, a :: r => (match a.k with | .int => some (.lt (.old a.t) (.int 0), false, r) | _ => none)
  | 10, a :: r => (match a.k with | .int => some (.lt (.int 0) (.old a.t), true, r) | _ => none)
  | 11, a :: r => (match a.k with | .int => some (.lt (.int 0) (.old a.t), false, r) | _ => none)
  | 12, a :: r => (match a.k with | .ref => some (.eq (.old a.t) .null, true, r) | _ => none)
  | 13, a :: r => (match a.k with | .ref => some (.eq (.old a.t) .null, false, r) | _ => none)
  | 14, b :: a :: r => (match a.k, b.k with | .ref, .ref => some (.eq (.old a.t) (.old b.t), true, r) | _, _ => none)
  | 15, b :: a :: r => (match a.k, b.k with | .ref, .ref => some (.eq (.old a.t) (.old b.t), false, r) | _, _ => none)
  | _, _ => none
def cCode : ClassFile.Cond → Nat
  | .eq => 0 | .ne => 1 | .lt => 2 | .ge => 3 | .gt => 4 | .le => 5
def fkCode : Instr → Option (Nat × Int)
  | .if_icmp k o => some (cCode k, o)
  | .ifCond k o => some (6 + cCode k, o)
  | .ifnull o => some (12, o)
  | .ifnonnull o => some (13, o)
  | .if_acmp .eq o => some (14, o)
  | .if_acmp .ne o => some (15, o)
  | _ => none
def ret0 (st : List SVal) : Option (Option SVal) := match st with | x :: _ => (match x.k with | .int => some (some x) | _ => none) | [] => none
def ret1 (st : List SVal) : Option (Option SVal) := match st with | x :: _ => (match x.k with | .int => some (some ⟨nrm (.op2 .iand x.t (.int 1)), .int⟩) | _ => none) | [] => none
def ret2 (st : List SVal) : Option (Option SVal) := match st with | x :: _ => (match x.k with | .int => some (some ⟨nrm (.op1 .i2b x.t), .int⟩) | _ => none) | [] => none
def ret3 (st : List SVal) : Option (Option SVal) := match st with | x :: _ => (match x.k with | .long => some (some x) | _ => none) | [] => none
def ret4 (st : List SVal) : Option (Option SVal) := match st with | x :: _ => (match x.k with | .ref => some (some x) | _ => none) | [] => none
def ret5 (st : List SVal) : Option (Option SVal) := match st with | [] => some none | _ => none
/-- what a returning instruction hands back, by its number -/
def retV (y : Nat) (st : List SVal) : Option (Option SVal) :=
  match y with
  | 0 => ret0 st | 1 => ret1 st | 2 => ret2 st | 3 => ret3 st | 4 => ret4 st | _ => ret5 st
def recvOk (K ci : Nat) (as : List SVal) (H : List ACell) : Bool :=
  match as with
  | o :: _ => match getRef K o with
    | some ix => match H[ix]? with | some (1, c, _) => Nat.beq c ci | _ => false
    | none => false
  | [] => false
def newOk (K : Nat) (as : List SVal) (H : List ACell) : Bool :=
  match as with
  | o :: _ => match getRef K o with | some ix => Nat.blt ix H.length | none => false
  | [] => false
/-- may the call be made: kind 0 static, 1 virtual, 2 a constructor -/
def callOk (K : Nat) (y : Nat) (M' : Mth) (as : List SVal) (H : List ACell) : Bool :=
  match y with
  | 0 => true
  | 1 => recvOk K (mCi M') as H
  | _ => newOk K as H
/-- the frame behind a stretch whose roads are told as one: named places hold fresh names -/
def putAt (o : Nat) : List Int → SFrame → SFrame
  | [], σ => σ
  | p :: ps, σ =>
    putAt (o + 1) ps
      (if p = -1 then { σ with stack := ⟨.arg o, .int⟩ :: σ.stack }
       else if p = -2 then { σ with stack := ⟨.arg o, .long⟩ :: σ.stack }
       else if p < 1000 then { σ with locals := σ.locals.set p.toNat (.val ⟨.arg o, .int⟩) }
       else if p < 2000 then { σ with locals := σ.locals.set (p.toNat - 1000) (.val ⟨.arg o, .long⟩) }
       else { σ with locals := σ.locals.set (p.toNat - 2000) .junk })
/-- the same kind; the same term, or an obligation -/
def sameV (π : Path) (v w : SVal) : Option Ans := if v = w then some [] else if v.k = w.k ∧ w.t.closed = true then (match v.k with | .ref => none | _ => some [(π, [.eq v.t w.t])]) else none
def sameS (π : Path) : List SVal → List SVal → Option Ans
  | [], [] => some []
  | v :: vs, w :: ws => match sameV π v w, sameS π vs ws with | some a, some b => some (a ++ b) | _, _ => none
  | _, _ => none
def sameL (π : Path) : List SSlot → List SSlot → Option Ans
  | [], [] => some []
  | v :: vs, w :: ws =>
    match sameL π vs ws with
    | some b => (if v = w then some b else match v, w with | .val x, .val y => (match sameV π x y with | some a => some (a ++ b) | none => none) | .unset, .junk => some b | .val x, .junk => (if x.k = .long then none else some b) | _, _ => none)
    | none => none
  | _, _ => none
/-- one has come to the end of the stretch: is it the frame that was told? -/
def arrive (σm : SFrame) (Hm : List ACell) (rm : Nat) (σ : SFrame) (H : List ACell) (rs : Nat) (π : Path) : Ans :=
  bif decide (H = Hm) && Nat.ble rm rs then
    (match sameS π σ.stack σm.stack, sameL π σ.locals σm.locals with
    | some a, some b => a ++ b
    | _, _ => stuck π)
  else stuck π
/-- a place of an array at an index that is no constant: a fresh name for what is read there -/
def hLoadX (K o : Nat) (σ : SFrame) (H : List ACell) (π : Path) : Option (SFrame × Ans) :=
  match σ.stack with
  | j :: a :: r =>
    match getRef K a, j.k with
    | some ix, .int =>
      match H[ix]? with
      | some (0, 0, vs) => some (adv σ 1 (⟨.arg o, .int⟩ :: r), (π, (List.range vs.length).map fun (i : Nat) => eqG j.t i) :: (List.range vs.length).flatMap fun (i : Nat) => match vs[i]? with | some v => [((eqG j.t i, true) :: π, [.eq v.t (.arg o)])] | none => [])
      | _ => none
    | _, _ => none
  | _ => none
/-- a place of an array of ints at an index that is no constant is written: fresh names for all that the array holds -/
def hStoreX (K o : Nat) (σ : SFrame) (H : List ACell) (π : Path) : Option (SFrame × List ACell × Nat × Ans) :=
  match σ.stack with
  | v :: j :: a :: r =>
    match getRef K a, j.k, v.k with
    | some ix, .int, .int =>
      match H[ix]? with
      | some (0, 0, vs) => some (adv σ 1 r, H.set ix (0, 0, (List.range vs.length).map fun i => ⟨.arg (o + i), .int⟩), vs.length,
          (π, (List.range vs.length).map fun (i : Nat) => eqG j.t i) :: (List.range vs.length).flatMap fun (i : Nat) => match vs[i]? with | some w => [((eqG j.t i, true) :: π, [.eq v.t (.arg (o + i))]), ((eqG j.t i, false) :: π, [.eq w.t (.arg (o + i))])] | none => [])
      | _ => none
    | _, _, _ => none
  | _ => none
/-- roads that plainly can't be: told by equations alone (a cut road stays an obligation) -/
def eqsOf : Path → List (Term × Term)
  | [] => []
  | (c, b) :: r => (match c, b with | .eq a d, true => (match stp a, stp d with | .int _, _ => eqsOf r | _, .int _ => eqsOf r | x, y => (x, y) :: eqsOf r) | _, _ => eqsOf r)
def mskT (t : Term) (ms : List Term) : List Term := match t with | .op2 .iand _ m => (match m with | .int z => if (.int z) ∈ ms then ms else .int z :: ms | _ => ms) | _ => ms
def masks : Path → List Term
  | [] => []
  | (c, _) :: r => (match c with | .eq a d => mskT (stp a) (mskT (stp d) (masks r)) | _ => masks r)
def congs (ms : List Term) (es : List (Term × Term)) : List (Term × Term) := es ++ es.flatMap fun e => ms.map fun m => (.op2 .iand e.1 m, .op2 .iand e.2 m)
def grow (es : List (Term × Term)) (S : List Term) : List Term := es.foldl (fun S e => if e.1 ∈ S then (if e.2 ∈ S then S else e.2 :: S) else if e.2 ∈ S then e.1 :: S else S) S
def conn (es : List (Term × Term)) (a b : Term) : Bool := decide (b ∈ grow es (grow es (grow es [a])))
def isM1 (t : Term) : Bool := match t with | .int z => decide (z = -1) | _ => false
def cutF (es : List (Term × Term)) : Path → Bool
  | [] => false
  | (c, b) :: r => (match c, b with | .eq a d, false => (match stp d with | .int _ => cutF es r | y => conn es (stp a) y || cutF es r) | _, _ => cutF es r)
def cutP (π : Path) : Bool :=
  match π with
  | (.eq a d, true) :: r => isM1 (stp a) || isM1 (stp d) || cutF (congs (masks π) (eqsOf π)) r
  | (.eq a d, false) :: r => conn (congs (masks π) (eqsOf r)) (stp a) (stp d)
  | _ => false
/-- an array as what was written into it: 0 of ints, C + 1 of class C's; its length; the places written and their values, last the fill -/
def asLog (c : ACell) : Option (Nat × SVal × List SVal) :=
  match c with
  | (3, x, l :: gs) => some (x, l, gs)
  | (0, 0, v :: vs) => bif vs.all (fun w => decide (w = v)) then some (0, ⟨.int (Int32.ofNat (vs.length + 1)), .int⟩, [v]) else none
  | (2, ci, v :: vs) => bif vs.all (fun w => decide (w = v)) then some (ci + 1, ⟨.int (Int32.ofNat (vs.length + 1)), .int⟩, [v]) else none
  | _ => none
def inB (π : Path) (j l : SVal) : Ans := [(π, [.lt (.int (-1)) j.t]), (π, [.lt j.t l.t])]
/-- irem by what is no constant -/
def hRemX (σ : SFrame) (H : List ACell) (rs : Nat) (π : Path) : Option (HS × Ans) :=
  match σ.stack with
  | b :: a :: r => (match a.k, b.k with | .int, .int => some ((adv σ 1 (⟨.rem a.t b.t, .int⟩ :: r), H, rs), [(π, [.lt (.int 0) b.t])]) | _, _ => none)
  | _ => none
def okV (K x : Nat) (v : SVal) (H : List ACell) : Bool :=
  match x with
  | 0 => (match v.k with | .int => true | _ => false)
  | _ + 1 => (match getRef K v with | some iv => (match H[iv]? with | some (0, 0, _) => true | _ => false) | none => false)
def hStoreL (K x : Nat) (σ : SFrame) (H : List ACell) (rs : Nat) (π : Path) : Option (HS × Ans) :=
  match σ.stack with
  | v :: j :: o :: r =>
    match getRef K o, j.k with
    | some ix, .int =>
      (match H[ix]? with
      | some c => (match asLog c with
        | some (t, l, gs) => bif Nat.beq t x && okV K x v H then some ((adv σ 1 r, H.set ix (3, t, l :: j :: v :: gs), rs), inB π j l) else none
        | none => none)
      | none => none)
    | _, _ => none
  | _ => none
/-- anewarray of a length that is no constant, at most B -/
def hNewL (K N x : Nat) (vals : List Int) (σ : SFrame) (H : List ACell) (rs : Nat) (π : Path) : Option (HS × Ans) :=
  match σ.stack, vals with
  | n :: r, [B] =>
    match n.k with
    | .int => bif Nat.blt H.length N && Nat.ble B.toNat rs && Nat.ble B.toNat 60000 then
        some ((adv σ 3 (⟨.arg (K + H.length), .ref⟩ :: r), H ++ [(3, x + 1, [n, ⟨.null, .ref⟩])], rs - B.toNat), [(π, [.lt (.int (-1)) n.t]), (π, [.lt n.t (.int (Int32.ofNat (B.toNat + 1)))])]) else none
    | _ => none
  | _, _ => none
def hLenL (K : Nat) (σ : SFrame) (H : List ACell) (rs : Nat) : Option (HS × Ans) :=
  match σ.stack with
  | o :: r =>
    match getRef K o with
    | some ix =>
      match H[ix]? with
      | some c => (match asLog c with | some (_, l, _) => some ((adv σ 1 (l :: r), H, rs), []) | none => none)
      | none => none
    | none => none
  | [] => none
/-- steps that ask something of the arguments -/
def hOb (K N x y : Nat) (vals : List Int) (σ : SFrame) (H : List ACell) (rs : Nat) (π : Path) : Option (HS × Ans) :=
  match y with
  | 0 => hRemX σ H rs π
  | 1 => hStoreL K x σ H rs π
  | 2 => hNewL K N x vals σ H rs π
  | _ => hLenL K σ H rs
/-- a place is read: which of those written is it? -/
def readB (K N : Nat) (f : SVal → Path → Ans) (j : SVal) : List SVal → Path → Ans
  | [v], π => f v π
  | i :: v :: r, π =>
    (match i.k with
    | .int => (match decG K N (.eq (.old j.t) (.old i.t)) π with
      | some true => f v π
      | some false => readB K N f j r π
      | none => (bif cutP ((.eq (.old j.t) (.old i.t), true) :: π) then stuck ((.eq (.old j.t) (.old i.t), true) :: π) else f v ((.eq (.old j.t) (.old i.t), true) :: π)) ++ (bif cutP ((.eq (.old j.t) (.old i.t), false) :: π) then stuck ((.eq (.old j.t) (.old i.t), false) :: π) else readB K N f j r ((.eq (.old j.t) (.old i.t), false) :: π)))
    | _ => stuck π)
  | [], π => stuck π
def hRead (K x : Nat) (σ : SFrame) (H : List ACell) : Option (SVal × SVal × List SVal × List SVal) :=
  match σ.stack with
  | j :: o :: r =>
    match getRef K o, j.k with
    | some ix, .int =>
      (match H[ix]? with
      | some c => (match asLog c with
        | some (t, l, gs) => bif Nat.beq t x then some (j, l, gs, r) else none
        | none => none)
      | none => none)
    | _, _ => none
  | _ => none
abbrev Kr := Option SVal → List ACell → Nat → Path → Ans
abbrev Ka := SFrame → List ACell → Nat → Path → Ans
abbrev Rec := Mth → Nat → Nat → Nat → Nat → SFrame → List AI → List ACell → Nat → Path → Kr → Ka → Ans
def noK : Kr := fun _ _ _ π => stuck π
def noA : Ka := fun _ _ _ π => stuck π
def goOn (q : Option SFrame) (r : Rec) (M : Mth) (rf rl o stop : Nat) (rest : List AI) (H : List ACell) (rs : Nat) (π : Path) (k : Kr) (ka : Ka) : Ans :=
  match q with | some σ' => r M rf rl o stop σ' rest H rs π k ka | none => stuck π
def goOnH (q : Option HS) (r : Rec) (M : Mth) (rf rl o stop : Nat) (rest : List AI) (π : Path) (k : Kr) (ka : Ka) : Ans :=
  match q with | some (σ', H', rs') => r M rf rl o stop σ' rest H' rs' π k ka | none => stuck π
def tFork2 (b : Option Bool) (c : Jvm.Cond) (fl : Bool) (σy σn : SFrame) (ry : List AI) (r : Rec) (M : Mth) (rf rl o stop : Nat) (rest : List AI) (H : List ACell) (rs : Nat) (π : Path) (k : Kr) (ka : Ka) : Ans :=
  match b with
  | some b => bif (b == fl) then r M rf rl o stop σy ry H rs π k ka else r M rf rl o stop σn rest H rs π k ka
  | none => (bif cutP ((c, fl) :: π) then stuck ((c, fl) :: π) else r M rf rl o stop σy ry H rs ((c, fl) :: π) k ka) ++ (bif cutP ((c, !fl) :: π) then stuck ((c, !fl) :: π) else r M rf rl o stop σn rest H rs ((c, !fl) :: π) k ka)
def tFork (K N len x y : Nat) (vals : List Int) (σ : SFrame) (r : Rec) (M : Mth) (rf rl o stop : Nat) (rest : List AI) (H : List ACell) (rs : Nat) (π : Path) (k : Kr) (ka : Ka) : Ans :=
  match rFork y σ.stack, vals with
  | some (c, fl, st), [tg] => tFork2 (decG K N c π) c fl { σ with pc := tg.toNat, stack := st } (adv σ len st) ((mCd M).drop x) r M rf rl o stop rest H rs π k ka
  | _, _ => stuck π
def callK (r : Rec) (M : Mth) (rf rl o stop : Nat) (σ : SFrame) (rS : List SVal) (rest : List AI) (k : Kr) (ka : Ka) : Kr := fun v H' rs' π' => r M rf rl o stop (adv σ 3 (v.toList ++ rS)) rest H' rs' π' k ka
def tCall2 (K y : Nat) (M' : Mth) (as rS : List SVal) (W : Nat) (σ : SFrame) (r : Rec) (M : Mth) (rf rl o stop : Nat) (rest : List AI) (H : List ACell) (rs : Nat) (π : Path) (k : Kr) (ka : Ka) : Ans :=
  bif callOk K y M' as H && Nat.ble (mNa M') σ.stack.length && Nat.ble 1 rf && Nat.ble W rl && Nat.beq σ.locals.length (mMx M) then
    r M' (rf - 1) (rl - W) o 100000 (entryS as (mMx M')) (mCd M') H rs π (callK r M rf rl o stop σ rS rest k ka) noA
  else stuck π
def tCall (P : Prog) (K x y : Nat) (σ : SFrame) (r : Rec) (M : Mth) (rf rl o stop : Nat) (rest : List AI) (H : List ACell) (rs : Nat) (π : Path) (k : Kr) (ka : Ka) : Ans :=
  match P.2[x]? with
  | some M' => tCall2 K y M' (σ.stack.take (mNa M')).reverse (σ.stack.drop (mNa M')) (catS (σ.stack.drop (mNa M')) + (mMx M' + 11)) σ r M rf rl o stop rest H rs π k ka
  | none => stuck π
def tRet (q : Option (Option SVal)) (H : List ACell) (rs : Nat) (π : Path) (k : Kr) : Ans := match q with | some v => k v H rs π | none => stuck π
def tSplit (vals : List Int) (σ : SFrame) (r : Rec) (M : Mth) (rf rl o stop : Nat) (rest : List AI) (H : List ACell) (rs : Nat) (π : Path) (k : Kr) (ka : Ka) : Ans :=
  match σ.stack with
  | v :: st => bif isC v then r M rf rl o stop σ rest H rs π k ka else
    (match v.k with
    | .int => (π, vals.map (eqG v.t)) :: vals.flatMap fun z => r M rf rl o stop { σ with stack := ⟨.int (Int32.ofInt z), .int⟩ :: st } rest H rs ((eqG v.t z, true) :: π) k ka
    | _ => stuck π)
  | [] => stuck π
def tMerge (len x y : Nat) (vals : List Int) (σ : SFrame) (r : Rec) (M : Mth) (rf rl o stop : Nat) (rest : List AI) (H : List ACell) (rs : Nat) (π : Path) (k : Kr) (ka : Ka) : Ans :=
  r M rf rl (o + vals.length) y σ rest H rs π noK (arrive { putAt o vals σ with pc := y } H rs) ++ r M rf rl (o + vals.length + len) stop { putAt o vals σ with pc := y } ((mCd M).drop x) H rs π k ka
def tLoadX (K : Nat) (σ : SFrame) (r : Rec) (M : Mth) (rf rl o stop : Nat) (rest : List AI) (H : List ACell) (rs : Nat) (π : Path) (k : Kr) (ka : Ka) : Ans :=
  match hLoadX K o σ H π with | some (σ', a) => a ++ r M rf rl (o + 1) stop σ' rest H rs π k ka | none => stuck π
def tStoreX (K : Nat) (σ : SFrame) (r : Rec) (M : Mth) (rf rl o stop : Nat) (rest : List AI) (H : List ACell) (rs : Nat) (π : Path) (k : Kr) (ka : Ka) : Ans :=
  match hStoreX K o σ H π with | some (σ', H', d, a) => a ++ r M rf rl (o + d) stop σ' rest H' rs π k ka | none => stuck π
def tOb (K N x y : Nat) (vals : List Int) (σ : SFrame) (r : Rec) (M : Mth) (rf rl o stop : Nat) (rest : List AI) (H : List ACell) (rs : Nat) (π : Path) (k : Kr) (ka : Ka) : Ans :=
  match hOb K N x y vals σ H rs π with | some ((σ', H', rs'), a) => a ++ r M rf rl o stop σ' rest H' rs' π k ka | none => stuck π
def tRead (K N x : Nat) (σ : SFrame) (r : Rec) (M : Mth) (rf rl o stop : Nat) (rest : List AI) (H : List ACell) (rs : Nat) (π : Path) (k : Kr) (ka : Ka) : Ans :=
  match hRead K x σ H with | some (j, l, gs, st) => inB π j l ++ readB K N (fun v π' => r M rf rl o stop (adv σ 1 (v :: st)) rest H rs π' k ka) j gs π | none => stuck π
def disp2 (P : Prog) (K N len tag x y : Nat) (vals : List Int) (σ : SFrame) (r : Rec) (M : Mth) (rf rl o stop : Nat) (rest : List AI) (H : List ACell) (rs : Nat) (π : Path) (k : Kr) (ka : Ka) : Ans :=
  match tag with
  | 8 => tCall P K x y σ r M rf rl o stop rest H rs π k ka
  | 9 => tRet (retV y σ.stack) H rs π k
  | 10 => goOn (rOther y len σ) r M rf rl o stop rest H rs π k ka
  | 11 => goOn (rStack y len σ) r M rf rl o stop rest H rs π k ka
  | 12 => tSplit vals σ r M rf rl o stop rest H rs π k ka
  | 13 => tMerge len x y vals σ r M rf rl o stop rest H rs π k ka
  | 14 => tLoadX K σ r M rf rl o stop rest H rs π k ka
  | 15 => tStoreX K σ r M rf rl o stop rest H rs π k ka
  | 16 => tOb K N x y vals σ r M rf rl o stop rest H rs π k ka
  | 17 => tRead K N x σ r M rf rl o stop rest H rs π k ka
  | _ => stuck π
/-- tags: 0 load, 1 constant, 2 store, 3 int arithmetic, 4 iinc, 5 goto, 6 a fork, 7 and 20 on: the heap, 8 a call, 9 a return, 10 other arithmetic, 11 the stack, 12 to 15 the layer's own -/
def disp (P : Prog) (K N len tag x y : Nat) (vals : List Int) (σ : SFrame) (r : Rec) (M : Mth) (rf rl o stop : Nat) (rest : List AI) (H : List ACell) (rs : Nat) (π : Path) (k : Kr) (ka : Ka) : Ans :=
  bif Nat.ble 20 tag then goOnH (hstep P K N (mMx M) rf rl (tag - 20) len x y vals σ H rs) r M rf rl o stop rest π k ka else
  match tag with
  | 0 => goOn (rLoad x y len σ) r M rf rl o stop rest H rs π k ka
  | 1 => goOn (rConst y len vals σ) r M rf rl o stop rest H rs π k ka
  | 2 => goOn (rStore x y len σ) r M rf rl o stop rest H rs π k ka
  | 3 => goOn (rBinI y len σ) r M rf rl o stop rest H rs π k ka
  | 4 => goOn (rIinc x len vals σ) r M rf rl o stop rest H rs π k ka
  | 5 => r M rf rl o stop { σ with pc := y } ((mCd M).drop x) H rs π k ka
  | 6 => tFork K N len x y vals σ r M rf rl o stop rest H rs π k ka
  | _ => disp2 P K N len tag x y vals σ r M rf rl o stop rest H rs π k ka
def stepA (P : Prog) (K N : Nat) (a : AI) (σ : SFrame) (r : Rec) (M : Mth) (rf rl o stop : Nat) (rest : List AI) (H : List ACell) (rs : Nat) (π : Path) (k : Kr) (ka : Ka) : Ans :=
  match a with
  | (pc, _, len, tag, x, y, vals) => bif Nat.beq σ.pc pc then disp P K N len tag x y vals { σ with pc := pc } r M rf rl o stop rest H rs π k ka else stuck π
def step (P : Prog) (K N : Nat) (r : Rec) : Rec := fun M rf rl o stop σ rem H rs π k ka =>
  bif Nat.beq σ.pc stop then ka σ H rs π else
  match rem with
  | [] => stuck π
  | a :: rest => stepA P K N a σ r M rf rl o stop rest H rs π k ka
def interp (P : Prog) (K N : Nat) : Nat → Rec
  | 0 => fun _ _ _ _ _ _ _ _ _ π _ _ => stuck π
  | n + 1 => step P K N (interp P K N n)
end Jvm.Mini
/-! OWN LAYER, part 2: what the abstract values and cells stand for. -/
namespace Jvm.Mini
open Sem ClassFile Op Lib Jvm.Stand Jvm.Free Jvm.RoadKit Jvm.Sym
section Base
variable {A : Array Value} {Z : State} {P : Prog} {K N n0 : Nat}

def Holds (A : Array Value) (Z : State) (π : Path) : Prop := ∀ f ∈ π, f.1.value A Z none Z [] = some f.2
def Sat (A : Array Value) (Z : State) (a : Ans) : Prop := ∀ q ∈ a, Holds A Z q.1 → ∃ G ∈ q.2, G.value A Z none Z [] = some true
theorem Sat.left {a b : Ans} (h : Sat A Z (a ++ b)) : Sat A Z a := fun q hq => h q (List.mem_append_left _ hq)
theorem Sat.right {a b : Ans} (h : Sat A Z (a ++ b)) : Sat A Z b := fun q hq => h q (List.mem_append_right _ hq)
theorem not_stuck {π : Path} (h : Sat A Z (stuck π)) (hp : Holds A Z π) : False := by
  obtain ⟨G, hG, -⟩ := h (π, []) (List.mem_singleton.mpr rfl) hp
  cases hG
theorem sat_cut {π : Path} {a : Ans} (h : Sat A Z (bif cutP π then stuck π else a)) (hp : Holds A Z π) : Sat A Z a := by
  cases hc : cutP π
  · rw [hc] at h; exact h
  · rw [hc] at h; exact (not_stuck h hp).elim
theorem Holds.cons {π : Path} {G : Jvm.Cond} {b : Bool} (hp : Holds A Z π) (h : G.value A Z none Z [] = some b) : Holds A Z ((G, b) :: π) := fun f hf => by
  rcases List.mem_cons.mp hf with rfl | hf
  · exact h
  · exact hp f hf

theorem cvT_eval {t : Term} {v : Value} (h : cvT t = some v) : t.eval A Z none [] Z = some v := by
  cases t <;> simp [cvT] at h <;> subst h <;> rfl
theorem ofV_eval {o : Option Value} {t : Term} (h : t.eval A Z none [] Z = o) : (ofV o t).eval A Z none [] Z = o := by
  unfold ofV
  split
  · rfl
  · rfl
  · exact h
theorem ofV_closed {o : Option Value} {t : Term} (h : t.closed = true) : (ofV o t).closed = true := by
  unfold ofV
  split
  · rfl
  · rfl
  · exact h
theorem nrm_eval (t : Term) : (nrm t).eval A Z none [] Z = t.eval A Z none [] Z := by
  cases t with
  | add a b => simp only [nrm]; split <;> simp [Term.eval]
  | sub a b => simp only [nrm]; split <;> simp [Term.eval]
  | mul a b => simp only [nrm]; split <;> simp [Term.eval]
  | div a b =>
    simp only [nrm]
    split
    · split
      · rfl
      · rename_i h; simp [Term.eval, h]
    · rfl
  | rem a b =>
    simp only [nrm]
    split
    · split
      · rfl
      · rename_i h; simp [Term.eval, h]
    · rfl
  | op2 f a b =>
    simp only [nrm]
    split
    · rename_i x y hx hy
      have e : (Term.op2 f a b).eval A Z none [] Z = f.apply x y := by simp [Term.eval, cvT_eval (A := A) (Z := Z) hx, cvT_eval (A := A) (Z := Z) hy]
      rw [ofV_eval e, e]
    · rfl
  | op1 f a =>
    simp only [nrm]
    split
    · rename_i x hx
      have e : (Term.op1 f a).eval A Z none [] Z = f.apply x := by simp [Term.eval, cvT_eval (A := A) (Z := Z) hx]
      rw [ofV_eval e, e]
    · split
      · rename_i b _
        simp only [Term.eval]
        cases hb : b.eval A Z none [] Z with
        | none => rfl
        | some v => cases v <;> simp [Unary.apply]
      · rfl
  | _ => rfl
theorem nrm_closed {t : Term} (h : t.closed = true) : (nrm t).closed = true := by
  cases t with
  | add a b => simp only [nrm]; split <;> first | rfl | exact h
  | sub a b => simp only [nrm]; split <;> first | rfl | exact h
  | mul a b => simp only [nrm]; split <;> first | rfl | exact h
  | div a b =>
    simp only [nrm]
    split
    · split
      · exact h
      · rfl
    · exact h
  | rem a b =>
    simp only [nrm]
    split
    · split
      · exact h
      · rfl
    · exact h
  | op2 f a b =>
    simp only [nrm]
    split
    · exact ofV_closed h
    · exact h
  | op1 f a =>
    simp only [nrm]
    split
    · exact ofV_closed h
    · split
      · exact h
      · exact h
  | _ => exact h
theorem Den.nV {x : SVal} {v : Value} (h : x.Den A Z v) : (nV x).Den A Z v := ⟨nrm_closed h.1, (nrm_eval _).trans h.2.1, h.2.2⟩
theorem Fits.nTop {m : MethodId} {σ : SFrame} {g : JFrame} (h : Sym.Fits A Z m σ g) : Sym.Fits A Z m (nTop σ) g := by
  unfold Mini.nTop
  split
  · rename_i v r hs
    have h0 := h.stack
    rw [hs] at h0
    obtain ⟨w, ws, e, d, ds⟩ := h0.cons_inv
    exact ⟨h.method, h.pc, h.locals, by show DenStack A Z (nV v :: r) g.stack; rw [e]; exact DenStack.cons (Den.nV d) ds, h.locked, h.entered, h.mroom⟩
  · exact h
theorem Fits.nLoc {m : MethodId} {σ : SFrame} {g : JFrame} (n : Nat) (h : Sym.Fits A Z m σ g) : Sym.Fits A Z m (nLoc n σ) g := by
  unfold Mini.nLoc
  split
  · rename_i v hs
    refine ⟨h.method, h.pc, fun i => ?_, h.stack, h.locked, h.entered, h.mroom⟩
    have h0 := h.locals i
    show DenOpt A Z (σ.locals.set n (.val (nV v)))[i]? g.locals[i]?
    by_cases e : n = i
    · subst e
      have hl : n < σ.locals.length := (List.getElem?_eq_some_iff.mp hs).1
      rw [List.getElem?_set_self hl]
      rw [hs] at h0
      cases hg : g.locals[n]? with
      | none => rw [hg] at h0; exact h0.elim
      | some b =>
        rw [hg] at h0
        cases b with
        | val w => exact Den.nV (show v.Den A Z w from h0)
        | _ => exact h0.elim
    · rw [List.getElem?_set_ne e]; exact h0
  · exact h

theorem getRef_spec {v : SVal} {ix : Nat} (h : getRef K v = some ix) : v.k = .ref ∧ v.t = .arg (K + ix) := by
  unfold getRef at h
  split at h
  · rename_i j hk ht
    cases hb : Nat.ble K j
    · simp [hb] at h
    · simp [hb] at h
      have := Nat.le_of_ble_eq_true hb
      exact ⟨hk, by rw [ht]; congr 1; omega⟩
  · cases h
theorem ref_val (hA : ∀ i, i < N → A[K + i]? = some (.ref (n0 + i))) {v : SVal} {ix : Nat} {w : Value} (h : getRef K v = some ix) (hi : ix < N) (d : v.Den A Z w) : w = .ref (n0 + ix) := by
  obtain ⟨-, ht⟩ := getRef_spec h
  have e := d.2.1
  rw [ht] at e
  have e' : A[K + ix]? = some w := e
  rw [hA _ hi] at e'
  cases e'; rfl
theorem getInt_spec {v : SVal} {x : Int32} (h : getInt v = some x) : v.k = .int ∧ v.t = .int x := by
  unfold getInt at h
  split at h
  · rename_i j hk ht
    cases h
    exact ⟨hk, ht⟩
  · cases h
theorem int_val {v : SVal} {x : Int32} {w : Value} (h : getInt v = some x) (d : v.Den A Z w) : w = .int x := by
  obtain ⟨-, ht⟩ := getInt_spec h
  have e := d.2.1
  rw [ht] at e
  cases e; rfl
theorem ixN_spec {x : Int32} {n : Nat} (h : ixN x < n) (hn : n ≤ 2 ^ 31) : ¬ x < 0 ∧ x.toNatClampNeg = ixN x := by
  have h1 : x.toBitVec.toNat < 2 ^ 31 := by unfold ixN at h; omega
  have h2 : x.toInt = (x.toBitVec.toNat : Int) := by
    show x.toBitVec.toInt = _
    rw [BitVec.toInt_eq_toNat_cond]
    rw [if_pos (by omega)]
  refine ⟨fun q => ?_, ?_⟩
  · rw [Int32.lt_iff_toInt_lt] at q
    have : (0 : Int32).toInt = 0 := rfl
    omega
  · unfold ixN
    simp only [Int32.toNatClampNeg]
    omega
theorem ofNat_len {n : Nat} (h : n < 2 ^ 31) : (Int32.ofNat n).toNatClampNeg = n ∧ ¬ Int32.ofNat n < 0 := by
  have e : (Int32.ofNat n).toInt = n := Int32.toInt_ofNat_of_lt h
  refine ⟨by simp only [Int32.toNatClampNeg]; omega, fun q => ?_⟩
  rw [Int32.lt_iff_toInt_lt] at q
  have : (0 : Int32).toInt = 0 := rfl
  omega
theorem inR {x : Int32} {n k : Nat} (h : ixN x < n) (hn : n < 2 ^ 31) (hk : k = n) : ¬ (x < 0 ∨ k ≤ x.toNatClampNeg) := by
  obtain ⟨h1, h2⟩ := ixN_spec h (Nat.le_of_lt hn)
  rintro (q | q)
  · exact h1 q
  · omega

theorem DenStack.len : ∀ {xs : List SVal} {vs : List Value}, DenStack A Z xs vs → xs.length = vs.length
  | [], [], _ => rfl
  | _ :: _, _ :: _, h => by simp [DenStack.len h.2]
  | [], _ :: _, h => h.elim
  | _ :: _, [], h => h.elim
theorem DenStack.at : ∀ {xs : List SVal} {vs : List Value}, DenStack A Z xs vs → ∀ {i : Nat} {x : SVal}, xs[i]? = some x → ∃ v, vs[i]? = some v ∧ x.Den A Z v
  | x :: _, v :: _, h, 0, _, e => by cases e; exact ⟨v, rfl, h.1⟩
  | _ :: _, _ :: _, h, i + 1, _, e => DenStack.at h.2 (i := i) e
  | [], [], _, _, _, e => by cases e
  | [], _ :: _, h, _, _, _ => h.elim
  | _ :: _, [], h, _, _, _ => h.elim
theorem DenStack.put : ∀ {xs : List SVal} {vs : List Value}, DenStack A Z xs vs → ∀ {i : Nat} {x : SVal} {v : Value}, x.Den A Z v → DenStack A Z (xs.set i x) (vs.set i v)
  | _ :: _, _ :: _, h, 0, _, _, d => ⟨d, h.2⟩
  | _ :: _, _ :: _, h, i + 1, _, _, d => ⟨h.1, DenStack.put h.2 (i := i) d⟩
  | [], [], _, _, _, _, _ => trivial
  | [], _ :: _, h, _, _, _, _ => h.elim
  | _ :: _, [], h, _, _, _, _ => h.elim
theorem DenStack.drop : ∀ {xs : List SVal} {vs : List Value} (n : Nat), DenStack A Z xs vs → DenStack A Z (xs.drop n) (vs.drop n)
  | _, _, 0, h => h
  | _ :: _, _ :: _, n + 1, h => DenStack.drop n h.2
  | [], [], _ + 1, _ => trivial
  | [], _ :: _, _ + 1, h => h.elim
  | _ :: _, [], _ + 1, h => h.elim
theorem DenStack.take : ∀ {xs : List SVal} {vs : List Value} (n : Nat), DenStack A Z xs vs → DenStack A Z (xs.take n) (vs.take n)
  | _, _, 0, _ => trivial
  | _ :: _, _ :: _, n + 1, h => ⟨h.1, DenStack.take n h.2⟩
  | [], [], _ + 1, _ => trivial
  | [], _ :: _, _ + 1, h => h.elim
  | _ :: _, [], _ + 1, h => h.elim
theorem DenStack.app : ∀ {xs : List SVal} {vs : List Value} {ys : List SVal} {ws : List Value}, DenStack A Z xs vs → DenStack A Z ys ws → DenStack A Z (xs ++ ys) (vs ++ ws)
  | [], [], _, _, _, h => h
  | _ :: _, _ :: _, _, _, h, q => ⟨h.1, DenStack.app h.2 q⟩
  | [], _ :: _, _, _, h, _ => h.elim
  | _ :: _, [], _, _, h, _ => h.elim
theorem DenStack.rev : ∀ {xs : List SVal} {vs : List Value}, DenStack A Z xs vs → DenStack A Z xs.reverse vs.reverse
  | [], [], _ => trivial
  | x :: xs, v :: vs, h => by
    rw [List.reverse_cons, List.reverse_cons]
    exact DenStack.app (DenStack.rev h.2) ⟨h.1, trivial⟩
  | [], _ :: _, h => h.elim
  | _ :: _, [], h => h.elim
theorem DenStack.rep {x : SVal} {v : Value} (d : x.Den A Z v) : ∀ n : Nat, DenStack A Z (List.replicate n x) (List.replicate n v)
  | 0 => trivial
  | n + 1 => ⟨d, DenStack.rep d n⟩
theorem catS_eq : ∀ {xs : List SVal} {vs : List Value}, DenStack A Z xs vs → (vs.map fun v => v.category).sum = catS xs
  | [], [], _ => rfl
  | x :: xs, v :: vs, h => by
    have h1 : v.category = (match x.k with | .long => 2 | _ => 1) := by
      obtain ⟨-, -, h3⟩ := h.1
      cases hk : x.k <;> rw [hk] at h3 <;> cases v <;> first | rfl | (simp [VKind.ok] at h3)
    simp only [List.map_cons, List.sum_cons, catS, catS_eq h.2, h1] <;> rfl
  | [], _ :: _, h => h.elim
  | _ :: _, [], h => h.elim
theorem dfl_den {ty : FieldType} (h : okTy ty = true) : (dfl ty).Den A Z (defaultValue ty) := by
  cases ty <;> first | (cases h; done) | exact ⟨rfl, rfl, rfl⟩
theorem dflA_den (t : Nat) : (dfl (aTy t)).Den A Z (defaultValue (aTy t)) := by
  unfold aTy
  split <;> exact ⟨rfl, rfl, rfl⟩

/-- what the abstract cell says of the heap's cell at a -/
def CellOk0 (Z : State) (A : Array Value) (P : Prog) (h : Heap) (a : Addr) (c : ACell) : Prop :=
  (c.1 = 0 ∧ ∃ (k : ClassId) (vs : List Value), DenStack A Z c.2.2 vs ∧ Arv Z h a k (aTy c.2.1) (Int32.ofNat c.2.2.length) vs (defaultValue (aTy c.2.1)) ∧ c.2.2.length < 2 ^ 31 ∧ Exa Z h a (aAd c.2.1)) ∨
  (c.1 = 1 ∧ ∃ C : Cls, P.1[c.2.1]? = some C ∧ Exa Z h a C.1 ∧ c.2.2.length = C.2.2.length ∧ ∀ (j : Nat) (f : Fd) (v : SVal), C.2.2[j]? = some f → c.2.2[j]? = some v → ∃ w, v.Den A Z w ∧ Fld Z h a f.1 f.2.1 f.2.2.1 w) ∨
  (c.1 = 2 ∧ ∃ (C : Cls) (k : ClassId) (vs : List Value), P.1[c.2.1]? = some C ∧ DenStack A Z c.2.2 vs ∧ Arv Z h a k (.object C.1) (Int32.ofNat c.2.2.length) vs .null ∧ c.2.2.length < 2 ^ 31 ∧ Ovr Z k C.1)
theorem CellOk0.ext {h h' : Heap} {a : Addr} {c : ACell} (E : Ext h h') (q : CellOk0 Z A P h a c) : CellOk0 Z A P h' a c := by
  rcases q with ⟨h0, k, vs, d, r, hl, ex⟩ | ⟨h0, C, hC, ex, hl, hf⟩ | ⟨h0, C, k, vs, hC, d, r, hl, o⟩
  · exact Or.inl ⟨h0, k, vs, d, r.ext E, hl, ex.ext E⟩
  · exact Or.inr (Or.inl ⟨h0, C, hC, ex.ext E, hl, fun j f v h1 h2 => by obtain ⟨w, e1, e2⟩ := hf j f v h1 h2; exact ⟨w, e1, e2.ext E⟩⟩)
  · exact Or.inr (Or.inr ⟨h0, C, k, vs, hC, d, r.ext E, hl, o⟩)
theorem CellOk0.other {h h' : Heap} {a b : Addr} {sl : Nat} {w : Value} {c : ACell} (W : Wr h h' b sl w) (ne : a ≠ b) (q : CellOk0 Z A P h a c) : CellOk0 Z A P h' a c := by
  rcases q with ⟨h0, k, vs, d, r, hl, ex⟩ | ⟨h0, C, hC, ex, hl, hf⟩ | ⟨h0, C, k, vs, hC, d, r, hl, o⟩
  · exact Or.inl ⟨h0, k, vs, d, r.other W ne, hl, ex.wr W⟩
  · exact Or.inr (Or.inl ⟨h0, C, hC, ex.wr W, hl, fun j f v h1 h2 => by obtain ⟨w, e1, e2⟩ := hf j f v h1 h2; exact ⟨w, e1, e2.other W (Or.inl ne)⟩⟩)
  · exact Or.inr (Or.inr ⟨h0, C, k, vs, hC, d, r.other W ne, hl, o⟩)
theorem CellOk0.keep {h h' : Heap} {a b : Addr} {c : ACell} (W : Keep h h' [b]) (ne : a ≠ b) (q : CellOk0 Z A P h a c) : CellOk0 Z A P h' a c := by
  have nin : a ∉ [b] := fun z => ne (List.mem_singleton.mp z)
  rcases q with ⟨h0, k, vs, d, r, hl, ex⟩ | ⟨h0, C, hC, ex, hl, hf⟩ | ⟨h0, C, k, vs, hC, d, r, hl, o⟩
  · exact Or.inl ⟨h0, k, vs, d, r.keep W nin, hl, ex.keep W⟩
  · exact Or.inr (Or.inl ⟨h0, C, hC, ex.keep W, hl, fun j f v h1 h2 => by obtain ⟨w, e1, e2⟩ := hf j f v h1 h2; exact ⟨w, e1, e2.keep W nin⟩⟩)
  · exact Or.inr (Or.inr ⟨h0, C, k, vs, hC, d, r.keep W nin, hl, o⟩)
/-- an array that is told by what was written into it: each place written (the newest first) and its value, last what it was filled with -/
def lg : List Value → Nat → Value
  | [f], _ => f
  | i :: v :: r, j => (match i with | .int x => if ¬ x < 0 ∧ x.toNatClampNeg = j then v else lg r j | _ => .null)
  | [], _ => .null
/-- x: 0 an array of ints, C + 1 an array of class C's; L: its length, then the places, the values, the fill -/
def LogOk (Z : State) (A : Array Value) (P : Prog) (h : Heap) (a : Addr) (x : Nat) (L : List SVal) : Prop :=
  ∃ (k : ClassId) (z : Int32) (gs us : List Value), DenStack A Z L (.int z :: gs) ∧ us.length = z.toNatClampNeg ∧ (∀ j, j < us.length → us[j]? = some (lg gs j)) ∧
    ((x = 0 ∧ Arv Z h a k .int z us (.int 0)) ∨ ∃ C : Cls, 0 < x ∧ P.1[x - 1]? = some C ∧ Arv Z h a k (.object C.1) z us .null ∧ Ovr Z k C.1)
theorem LogOk.map {h h' : Heap} {a : Addr} {x : Nat} {L : List SVal} (f : ∀ {k : ClassId} {ty : FieldType} {z : Int32} {us : List Value} {d : Value}, Arv Z h a k ty z us d → Arv Z h' a k ty z us d) (q : LogOk Z A P h a x L) : LogOk Z A P h' a x L := by
  obtain ⟨k, z, gs, us, h1, h2, h3, h4⟩ := q
  refine ⟨k, z, gs, us, h1, h2, h3, ?_⟩
  rcases h4 with ⟨q1, q2⟩ | ⟨C, q1, q2, q3, q4⟩
  · exact Or.inl ⟨q1, f q2⟩
  · exact Or.inr ⟨C, q1, q2, f q3, q4⟩
def CellOk (Z : State) (A : Array Value) (P : Prog) (h : Heap) (a : Addr) (c : ACell) : Prop := CellOk0 Z A P h a c ∨ (c.1 = 3 ∧ LogOk Z A P h a c.2.1 c.2.2)
theorem CellOk.ext {h h' : Heap} {a : Addr} {c : ACell} (E : Ext h h') (q : CellOk Z A P h a c) : CellOk Z A P h' a c :=
  q.imp (fun q => q.ext E) fun q => ⟨q.1, q.2.map fun r => r.ext E⟩
theorem CellOk.other {h h' : Heap} {a b : Addr} {sl : Nat} {w : Value} {c : ACell} (W : Wr h h' b sl w) (ne : a ≠ b) (q : CellOk Z A P h a c) : CellOk Z A P h' a c :=
  q.imp (fun q => q.other W ne) fun q => ⟨q.1, q.2.map fun r => r.other W ne⟩
theorem CellOk.keep {h h' : Heap} {a b : Addr} {c : ACell} (W : Keep h h' [b]) (ne : a ≠ b) (q : CellOk Z A P h a c) : CellOk Z A P h' a c :=
  q.imp (fun q => q.keep W ne) fun q => ⟨q.1, q.2.map fun r => r.keep W (fun z => ne (List.mem_singleton.mp z))⟩
def RepH (Z : State) (A : Array Value) (P : Prog) (n0 : Nat) (H : List ACell) (h : Heap) : Prop := n0 + H.length ≤ h.size ∧ ∀ (i : Nat) (c : ACell), H[i]? = some c → CellOk Z A P h (n0 + i) c
theorem RepH.set {H : List ACell} {h h' : Heap} {ix sl : Nat} {w : Value} {c : ACell} (r : RepH Z A P n0 H h) (W : Wr h h' (n0 + ix) sl w) (hc : CellOk Z A P h' (n0 + ix) c) : RepH Z A P n0 (H.set ix c) h' := by
  refine ⟨by rw [List.length_set, W.size]; exact r.1, fun i d hi => ?_⟩
  by_cases e : ix = i
  · subst e
    have hl : ix < H.length := by
      have := (List.getElem?_eq_some_iff.mp hi).1
      rw [List.length_set] at this; exact this
    rw [List.getElem?_set_self hl] at hi
    cases hi; exact hc
  · rw [List.getElem?_set_ne e] at hi
    exact (r.2 i d hi).other W (fun q => e (Nat.add_left_cancel q).symm)
theorem RepH.setK {H : List ACell} {h h' : Heap} {ix : Nat} {c : ACell} (r : RepH Z A P n0 H h) (W : Keep h h' [n0 + ix]) (hc : CellOk Z A P h' (n0 + ix) c) : RepH Z A P n0 (H.set ix c) h' := by
  refine ⟨by rw [List.length_set]; exact Nat.le_trans r.1 W.1, fun i d hi => ?_⟩
  by_cases e : ix = i
  · subst e
    have hl : ix < H.length := by
      have := (List.getElem?_eq_some_iff.mp hi).1
      rw [List.length_set] at this; exact this
    rw [List.getElem?_set_self hl] at hi
    cases hi; exact hc
  · rw [List.getElem?_set_ne e] at hi
    exact (r.2 i d hi).keep W (fun q => e (Nat.add_left_cancel q).symm)
theorem RepH.push {H : List ACell} {h h' : Heap} {c : ACell} (r : RepH Z A P n0 H h) (E : Ext h h') (hs : h.size = n0 + H.length) (hlt : h.size < h'.size) (hc : CellOk Z A P h' h.size c) : RepH Z A P n0 (H ++ [c]) h' := by
  refine ⟨by rw [List.length_append, List.length_singleton]; omega, fun i d hi => ?_⟩
  by_cases e : i < H.length
  · rw [List.getElem?_append_left e] at hi
    exact (r.2 i d hi).ext E
  · rw [List.getElem?_append_right (by omega)] at hi
    have e0 : i - H.length = 0 := by
      have := (List.getElem?_eq_some_iff.mp hi).1
      rw [List.length_singleton] at this; omega
    rw [e0] at hi
    have e1 : n0 + i = h.size := by omega
    have e2 : c = d := by simpa using hi
    rw [e1, ← e2]; exact hc
theorem RepH.set0 {H : List ACell} {h h' : Heap} {ix sl : Nat} {w : Value} {c : ACell} (r : RepH Z A P n0 H h) (W : Wr h h' (n0 + ix) sl w) (hc : CellOk0 Z A P h' (n0 + ix) c) : RepH Z A P n0 (H.set ix c) h' := r.set W (Or.inl hc)
theorem RepH.setK0 {H : List ACell} {h h' : Heap} {ix : Nat} {c : ACell} (r : RepH Z A P n0 H h) (W : Keep h h' [n0 + ix]) (hc : CellOk0 Z A P h' (n0 + ix) c) : RepH Z A P n0 (H.set ix c) h' := r.setK W (Or.inl hc)
theorem RepH.push0 {H : List ACell} {h h' : Heap} {c : ACell} (r : RepH Z A P n0 H h) (E : Ext h h') (hs : h.size = n0 + H.length) (hlt : h.size < h'.size) (hc : CellOk0 Z A P h' h.size c) : RepH Z A P n0 (H ++ [c]) h' := r.push E hs hlt (Or.inl hc)
end Base
end Jvm.Mini
/-! OWN LAYER, part 3: each step of the interpreter is a step of the machine. -/
namespace Jvm.Mini
open Sem ClassFile Op Lib Jvm.Stand Jvm.Free Jvm.RoadKit Jvm.Sym

/-- where the walk stands -/
def St (p : Program) (l : Launch) (e : Env) (R : Room) (s : State) (m : MethodId) (args : Array Value) (below : List Frame) (meth : Method) (c : Code) (Z : State) (A : Array Value) (P : Prog) (N n0 : Nat) (σ : SFrame) (H : List ACell) (rs : Nat) (T : State) (g : JFrame) : Prop :=
  ∃ (locs : List Loc) (cells slots : Nat), Stand p l e R s m args below meth c T locs cells slots ∧ Sym.Fits A Z m σ g ∧ RepH Z A P n0 H T.heap ∧ Fr n0 locs ∧ s.heap.size + cells = n0 + H.length ∧ H.length ≤ N ∧ slots + rs ≤ R.slots
def Go (p : Program) (l : Launch) (e : Env) (R : Room) (s : State) (m : MethodId) (args : Array Value) (below : List Frame) (meth : Method) (c : Code) (Z : State) (A : Array Value) (P : Prog) (N n0 : Nat) (T : State) (g : JFrame) (q : HS) : Prop :=
  ∃ (T' : State) (g' : JFrame), St p l e R s m args below meth c Z A P N n0 q.1 q.2.1 q.2.2 T' g' ∧ Leads p.tables e below T g T' g'

section Steps
variable {p : Program} {l : Launch} {e : Env} {R : Room} {s : State} {m : MethodId} {args : Array Value} {below : List Frame} {meth : Method} {c : Code} {Z : State} {a0 A : Array Value} {P : Prog} {K N n0 : Nat} {σ : SFrame} {H : List ACell} {rs : Nat} {T : State} {g : JFrame} {q : HS} {own : String} {x y : Nat}

theorem St.size (S : St p l e R s m args below meth c Z A P N n0 σ H rs T g) : T.heap.size = n0 + H.length := by
  obtain ⟨locs, cells, slots, X, F, Rp, Nf, hsz, hN, hsl⟩ := S
  have h1 := X.heapSize
  have h2 := Rp.1
  omega

theorem hLdc_ok (S : St p l e R s m args below meth c Z A P N n0 σ H rs T g) (hx : p.tables.exec = Jvm.exec) (hZ : Z.Warmed39 s.vm) (hown : s.vm.findClass own = some m.cls) {i : Instr} {len : Nat} {vals : List Int} (hd : decode c.code g.pc = .ok (i, len))
    (hw : ∃ idx v, vals = [v] ∧ ((i = .ldc idx ∧ len = 2) ∨ (i = .ldc_w idx ∧ len = 3)) ∧ (Jvm.Cond.constant own idx (Int32.ofInt v)).before a0 Z = true) {σ' : SFrame} (h : hLdc len vals σ = some σ') :
    Go p l e R s m args below meth c Z A P N n0 T g (σ', H, rs) := by
  obtain ⟨locs, cells, slots, X, F, Rp, Nf, hsz, hN, hsl⟩ := S
  obtain ⟨idx, v, rfl, hi, w⟩ := hw
  cases h
  refine ⟨T, _, ⟨locs, cells, slots, X, F.step (DenStack.cons (x := ⟨.int (Int32.ofInt v), .int⟩) (v := .int (Int32.ofInt v)) ⟨rfl, rfl, rfl⟩ F.stack) len, Rp, Nf, hsz, hN, hsl⟩, fun target hr => ?_⟩
  rcases hi with ⟨rfl, rfl⟩ | ⟨rfl, rfl⟩
  · exact X.ldcI hx hown (mv hZ w) F.method hd hr
  · exact X.ldcWI hx hown (mv hZ w) F.method hd hr
theorem hLdc2_ok (S : St p l e R s m args below meth c Z A P N n0 σ H rs T g) (hx : p.tables.exec = Jvm.exec) (hZ : Z.Warmed39 s.vm) (hown : s.vm.findClass own = some m.cls) {idx : Nat} {vals : List Int} (hd : decode c.code g.pc = .ok (.ldc2_w idx, 3))
    (hw : ∃ v, vals = [v] ∧ (Jvm.Cond.constantLong own idx (Int64.ofInt v)).before a0 Z = true) {σ' : SFrame} (h : hLdc2 vals σ = some σ') :
    Go p l e R s m args below meth c Z A P N n0 T g (σ', H, rs) := by
  obtain ⟨locs, cells, slots, X, F, Rp, Nf, hsz, hN, hsl⟩ := S
  obtain ⟨v, rfl, w⟩ := hw
  cases h
  refine ⟨T, _, ⟨locs, cells, slots, X, F.step (DenStack.cons (x := ⟨.long (Int64.ofInt v), .long⟩) (v := .long (Int64.ofInt v)) ⟨rfl, rfl, rfl⟩ F.stack) 3, Rp, Nf, hsz, hN, hsl⟩, fun target hr => ?_⟩
  exact X.ldc2J hx hown (mv hZ w) F.method hd hr

theorem hDiv_ok (S : St p l e R s m args below meth c Z A P N n0 σ H rs T g) (hx : p.tables.exec = Jvm.exec) {b : Bool} (hd : decode c.code g.pc = .ok (if b then .idiv else .irem, 1)) {σ' : SFrame} (h : hDiv b σ = some σ') :
    Go p l e R s m args below meth c Z A P N n0 T g (σ', H, rs) := by
  obtain ⟨locs, cells, slots, X, F, Rp, Nf, hsz, hN, hsl⟩ := S
  unfold hDiv at h
  split at h
  · rename_i vb va r hst
    split at h
    · rename_i d hk hi
      split at h
      · cases h
      · rename_i hne
        cases h
        have h0 := F.stack
        rw [hst] at h0
        obtain ⟨wb, w1, e1, d1, h1⟩ := h0.cons_inv
        obtain ⟨wa, w2, e2, d2, h2⟩ := h1.cons_inv
        have := int_val hi d1
        subst this
        obtain ⟨z, rfl⟩ := d2.int hk
        subst e2
        have bt := (getInt_spec hi).2
        have dv : (⟨nrm (if b then .div va.t vb.t else .rem va.t vb.t), .int⟩ : SVal).Den A Z (.int (if b then z / d else z % d)) := by
          cases b
          · exact Den.nV (x := ⟨.rem va.t vb.t, .int⟩) ⟨by rw [bt]; show (va.t.closed && true) = true; rw [d2.1]; rfl, by rw [bt]; simp [Term.eval, d2.2.1, hne], rfl⟩
          · exact Den.nV (x := ⟨.div va.t vb.t, .int⟩) ⟨by rw [bt]; show (va.t.closed && true) = true; rw [d2.1]; rfl, by rw [bt]; simp [Term.eval, d2.2.1, hne], rfl⟩
        refine ⟨T, _, ⟨locs, cells, slots, X, F.step (DenStack.cons dv h2) 1, Rp, Nf, hsz, hN, hsl⟩, fun target hr => ?_⟩
        cases b
        · exact iremM X hx F.method hd e1 hne hr
        · exact XS.idiv X.here hx F.method hd e1 hne hr
    · cases h
  · cases h

theorem hGet_ok (S : St p l e R s m args below meth c Z A P N n0 σ H rs T g) (hx : p.tables.exec = Jvm.exec) (hZ : Z.Warmed39 s.vm) (hA : ∀ i, i < N → A[K + i]? = some (.ref (n0 + i))) (hown : s.vm.findClass own = some m.cls) {idx : Nat} (hd : decode c.code g.pc = .ok (.getfield idx, 3))
    (hw : ∃ (C : Cls) (f : Fd), P.1[x]? = some C ∧ C.2.2[y]? = some f ∧ (Jvm.Cond.fieldLink own idx f.1 f.2.1 f.2.2.1).before a0 Z = true) (h : hGet K x y σ H rs = some q) : Go p l e R s m args below meth c Z A P N n0 T g q := by
  obtain ⟨locs, cells, slots, X, F, Rp, Nf, hsz, hN, hsl⟩ := S
  obtain ⟨C, f, hC, hf, w⟩ := hw
  unfold hGet at h
  split at h
  · rename_i o r hst
    split at h
    · rename_i ix hix
      split at h
      · rename_i ci vs hH
        cases hb : Nat.beq ci x
        · simp [hb] at h
        · simp only [hb, cond_true] at h
          have := Nat.eq_of_beq_eq_true hb
          subst this
          split at h
          · rename_i v hv
            cases h
            have h0 := F.stack
            rw [hst] at h0
            obtain ⟨wo, w1, e1, d1, h1⟩ := h0.cons_inv
            have hlt := (List.getElem?_eq_some_iff.mp hH).1
            have := ref_val hA hix (by omega) d1
            subst this
            rcases Rp.2 _ _ hH with (⟨q0, -⟩ | ⟨-, C', hC', ex, hl, hfs⟩ | ⟨q0, -⟩) | ⟨q0, -⟩
            · cases q0
            · cases hC.symm.trans hC'
              obtain ⟨u, du, Fu⟩ := hfs y f v hf hv
              obtain ⟨T', X', e', st⟩ := getF X hx hZ hown (host := "") (Or.inl w) Via.refl rfl Fu (g := g) F.method e1 hd
              exact ⟨T', _, ⟨locs, cells, slots, X', F.step (DenStack.cons du h1) 3, by show RepH Z A P n0 H T'.heap; rw [e']; exact Rp, Nf, hsz, hN, hsl⟩, fun target hr => st target hr⟩
            · cases q0
            · cases q0
          · cases h
      · cases h
    · cases h
  · cases h

theorem kind_fits {ty : FieldType} {v : SVal} {w : Value} (h : kindOk ty v = true) (d : v.Den A Z w) : narrow ty w = w ∧ fits ty w = true := by
  obtain ⟨t, k⟩ := v
  obtain ⟨-, -, h3⟩ := d
  cases ty <;> cases k <;> first | (simp [kindOk] at h; done) | (cases w <;> first | (simp [VKind.ok] at h3; done) | exact ⟨rfl, rfl⟩)

theorem hPut_ok (S : St p l e R s m args below meth c Z A P N n0 σ H rs T g) (hx : p.tables.exec = Jvm.exec) (hZ : Z.Warmed39 s.vm) (hA : ∀ i, i < N → A[K + i]? = some (.ref (n0 + i))) (hown : s.vm.findClass own = some m.cls) {idx : Nat} (hd : decode c.code g.pc = .ok (.putfield idx, 3))
    (hw : ∃ (C : Cls) (f : Fd), P.1[x]? = some C ∧ C.2.2[y]? = some f ∧ (Jvm.Cond.fieldLink own idx f.1 f.2.1 f.2.2.1).before a0 Z = true ∧
      ((Jvm.Cond.lays C.1 f.1 f.2.1 f.2.2.1).before a0 Z = true ∨ ((Jvm.Cond.laysFinal C.1 f.1 f.2.1 f.2.2.1).before a0 Z = true ∧ own = f.1 ∧ meth.name = "<init>")) ∧ (Jvm.Cond.instantiable C.1 C.2.1).before a0 Z = true ∧
      (∀ (j : Nat) (f' : Fd), C.2.2[j]? = some f' → Laid Z a0 C.1 f'.1 f'.2.1 f'.2.2.1 ∧ parseFieldDescriptor f'.2.2.1 = some f'.2.2.2 ∧ (j ≠ y → f'.2.1 ≠ f.2.1)))
    (h : hPut P K x y σ H rs = some q) : Go p l e R s m args below meth c Z A P N n0 T g q := by
  obtain ⟨locs, cells, slots, X, F, Rp, Nf, hsz, hN, hsl⟩ := S
  obtain ⟨C, f, hC, hf, w, wl, wi, hall⟩ := hw
  unfold hPut at h
  split at h
  · rename_i v o r hst
    split at h
    · rename_i ix hix
      split at h
      · rename_i ci vs hH
        cases hb : Nat.beq ci x
        · simp [hb] at h
        · simp only [hb, cond_true] at h
          have := Nat.eq_of_beq_eq_true hb
          subst this
          rw [hC] at h
          dsimp only at h
          rw [hf] at h
          dsimp only at h
          cases hk : kindOk f.2.2.2 v
          · simp [hk] at h
          · simp only [hk, cond_true] at h
            cases h
            have h0 := F.stack
            rw [hst] at h0
            obtain ⟨wv, w1, e1, d1, h1⟩ := h0.cons_inv
            obtain ⟨wo, w2, e2, d2, h2⟩ := h1.cons_inv
            subst e2
            have hlt := (List.getElem?_eq_some_iff.mp hH).1
            have := ref_val hA hix (by omega) d2
            subst this
            rcases Rp.2 _ _ hH with (⟨q0, -⟩ | ⟨-, C', hC', ex, hl, hfs⟩ | ⟨q0, -⟩) | ⟨q0, -⟩
            · cases q0
            · cases hC.symm.trans hC'
              have hyl : y < vs.length := by
                have h3 : vs.length = C.2.2.length := hl
                rw [h3]; exact (List.getElem?_eq_some_iff.mp hf).1
              obtain ⟨u, du, Fu⟩ := hfs y f vs[y] hf (List.getElem?_eq_getElem hyl)
              obtain ⟨kn, kf⟩ := kind_fits hk d1
              obtain ⟨T', h', X', e', W', st⟩ := putF X hx hZ hown (host := "") (Or.inl w) Via.refl rfl Fu ex wl wi (hall y f hf).2.1 kn kf (g := g) F.method e1 hd
              refine ⟨T', _, ⟨_, cells, slots, X', F.step h2 3, ?_, Fr.snoc X' Nf (by omega), by rw [List.length_set]; exact hsz, by rw [List.length_set]; exact hN, hsl⟩, fun target hr => st target hr⟩
              rw [e']
              refine Rp.set0 W' (Or.inr (Or.inl ⟨rfl, C, hC, ex.wr W', by rw [List.length_set]; exact hl, fun j f' v' hj hv' => ?_⟩))
              by_cases ej : y = j
              · subst ej
                cases hf.symm.trans hj
                rw [List.getElem?_set_self hyl] at hv'
                cases hv'
                exact ⟨wv, d1, Fu.same W'⟩
              · rw [List.getElem?_set_ne ej] at hv'
                obtain ⟨u', du', Fu'⟩ := hfs j f' v' hj hv'
                exact ⟨u', du', Fu'.other W' (Or.inr (slot_ne (hall j f' hj).1 (hall y f hf).1 ((hall j f' hj).2.2 (fun z => ej z.symm)) (hall j f' hj).2.1 (hall y f hf).2.1))⟩
            · cases q0
            · cases q0
      · cases h
    · cases h
  · cases h

theorem hLen_ok (S : St p l e R s m args below meth c Z A P N n0 σ H rs T g) (hx : p.tables.exec = Jvm.exec) (hZ : Z.Warmed39 s.vm) (hA : ∀ i, i < N → A[K + i]? = some (.ref (n0 + i))) (hd : decode c.code g.pc = .ok (.arraylength, 1))
    (h : hLen K σ H rs = some q) : Go p l e R s m args below meth c Z A P N n0 T g q := by
  obtain ⟨locs, cells, slots, X, F, Rp, Nf, hsz, hN, hsl⟩ := S
  have key : ∀ {o : SVal} {r : List SVal} {ix : Nat} {vs : List SVal} {a : ACell}, σ.stack = o :: r → getRef K o = some ix → H[ix]? = some a → vs.length < 2 ^ 31 → (∃ (k : ClassId) (ty : FieldType) (us : List Value) (dv : Value), Arv Z T.heap (n0 + ix) k ty (Int32.ofNat vs.length) us dv) →
      Go p l e R s m args below meth c Z A P N n0 T g (adv σ 1 (⟨.int (Int32.ofNat vs.length), .int⟩ :: r), H, rs) := by
    rintro o r ix vs a hst hix hH hlen ⟨k, ty, us, dv, cl, Ar, -, S', -⟩
    have h0 := F.stack
    rw [hst] at h0
    obtain ⟨wo, w1, e1, d1, h1⟩ := h0.cons_inv
    have hlt := (List.getElem?_eq_some_iff.mp hH).1
    have := ref_val hA hix (by omega) d1
    subst this
    have es : cl.slots.size.toInt32 = Int32.ofNat vs.length := by
      rw [S', (ofNat_len hlen).1]
    refine ⟨T, _, ⟨locs, cells, slots, X, F.step (DenStack.cons (x := ⟨.int (Int32.ofNat vs.length), .int⟩) (v := .int (Int32.ofNat vs.length)) ⟨rfl, rfl, rfl⟩ h1) 1, Rp, Nf, hsz, hN, hsl⟩, fun target hr => ?_⟩
    refine X.arraylength hx Ar.1 (State.isArrayOf_alike hZ.alike Ar.2.1) F.method e1 hd target ?_
    rw [es]; exact hr
  unfold hLen at h
  split at h
  · rename_i o r hst
    split at h
    · rename_i ix hix
      split at h
      · rename_i t vs hH
        cases h
        rcases Rp.2 _ _ hH with (⟨-, k, us, -, r1, r2, -⟩ | ⟨q0, -⟩ | ⟨q0, -⟩) | ⟨q0, -⟩
        · exact key hst hix hH r2 ⟨_, _, _, _, r1⟩
        · cases q0
        · cases q0
        · cases q0
      · rename_i t vs hH
        cases h
        rcases Rp.2 _ _ hH with (⟨q0, -⟩ | ⟨q0, -⟩ | ⟨-, C, k, us, -, -, r1, r2, -⟩) | ⟨q0, -⟩
        · cases q0
        · cases q0
        · exact key hst hix hH r2 ⟨_, _, _, _, r1⟩
        · cases q0
      · cases h
    · cases h
  · cases h

theorem hLoad_ok (S : St p l e R s m args below meth c Z A P N n0 σ H rs T g) (hx : p.tables.exec = Jvm.exec) (hZ : Z.Warmed39 s.vm) (hA : ∀ i, i < N → A[K + i]? = some (.ref (n0 + i))) {ty : Nat} {i : Instr} (hi : (ty = 0 ∧ i = .iaload) ∨ (ty = 1 ∧ i = .laload) ∨ (ty = 2 ∧ i = .baload) ∨ (ty = 3 ∧ i = .aaload)) (hd : decode c.code g.pc = .ok (i, 1))
    (h : hLoad K ty σ H rs = some q) : Go p l e R s m args below meth c Z A P N n0 T g q := by
  obtain ⟨locs, cells, slots, X, F, Rp, Nf, hsz, hN, hsl⟩ := S
  unfold hLoad at h
  split at h
  · rename_i j o r hst
    split at h
    · rename_i ix jx hix hjx
      have h0 := F.stack
      rw [hst] at h0
      obtain ⟨wj, w1, e1, d1, h1⟩ := h0.cons_inv
      obtain ⟨wo, w2, e2, d2, h2⟩ := h1.cons_inv
      subst e2
      have := int_val hjx d1
      subst this
      split at h
      · rename_i t vs hH
        cases hb : (Nat.beq t ty && Nat.ble ty 2)
        · simp [hb] at h
        · simp only [hb, cond_true] at h
          have hb2 := Bool.and_eq_true_iff.mp hb
          have h2t := Nat.le_of_ble_eq_true hb2.2
          have := Nat.eq_of_beq_eq_true hb2.1
          subst this
          split at h
          · rename_i v hv
            cases h
            have hlt := (List.getElem?_eq_some_iff.mp hH).1
            have := ref_val hA hix (by omega) d2
            subst this
            rcases Rp.2 _ _ hH with (⟨-, k, us, du, ⟨cl, Ar, -, S', -, Hs, -⟩, r2, -⟩ | ⟨q0, -⟩ | ⟨q0, -⟩) | ⟨q0, -⟩
            · dsimp only at du Ar S' Hs r2
              have hjl := (List.getElem?_eq_some_iff.mp hv).1
              obtain ⟨u, hu, dv⟩ := DenStack.at du hv
              have hin : ¬ (jx < 0 ∨ cl.slots.size ≤ jx.toNatClampNeg) := inR hjl r2 (S'.trans (ofNat_len r2).1)
              have hg : cl.slots[jx.toNatClampNeg]? = some u := by
                refine Hs.at hin ?_
                rw [(ixN_spec hjl (Nat.le_of_lt r2)).2, List.getD_eq_getElem?_getD, hu]; rfl
              refine ⟨T, _, ⟨locs, cells, slots, X, F.step (DenStack.cons dv h2) 1, Rp, Nf, hsz, hN, hsl⟩, fun target hr => ?_⟩
              rcases hi with ⟨rfl, rfl⟩ | ⟨rfl, rfl⟩ | ⟨rfl, rfl⟩ | ⟨rfl, rfl⟩
              · exact X.iaload hx Ar.1 (State.isArrayOf_alike hZ.alike Ar.2.1) Ar.2.2 hin hg F.method e1 hd target hr
              · exact X.laload hx Ar.1 (State.isArrayOf_alike hZ.alike Ar.2.1) Ar.2.2 hin hg F.method e1 hd target hr
              · exact X.baloadBytes hx Ar.1 (State.isArrayOf_alike hZ.alike Ar.2.1) Ar.2.2 hin hg F.method e1 hd target hr
              · omega
            · cases q0
            · cases q0
            · cases q0
          · cases h
      · rename_i t vs hH
        cases hb : Nat.beq 3 ty
        · simp [hb] at h
        · simp only [hb, cond_true] at h
          have := Nat.eq_of_beq_eq_true hb
          subst this
          split at h
          · rename_i v hv
            cases h
            have hlt := (List.getElem?_eq_some_iff.mp hH).1
            have := ref_val hA hix (by omega) d2
            subst this
            rcases Rp.2 _ _ hH with (⟨q0, -⟩ | ⟨q0, -⟩ | ⟨-, C, k, us, -, du, ⟨cl, Ar, -, S', -, Hs, -⟩, r2, -⟩) | ⟨q0, -⟩
            · cases q0
            · cases q0
            · dsimp only at du Ar S' Hs r2
              have hjl := (List.getElem?_eq_some_iff.mp hv).1
              obtain ⟨u, hu, dv⟩ := DenStack.at du hv
              have hin : ¬ (jx < 0 ∨ cl.slots.size ≤ jx.toNatClampNeg) := inR hjl r2 (S'.trans (ofNat_len r2).1)
              have hg : cl.slots[jx.toNatClampNeg]? = some u := by
                refine Hs.at hin ?_
                rw [(ixN_spec hjl (Nat.le_of_lt r2)).2, List.getD_eq_getElem?_getD, hu]; rfl
              refine ⟨T, _, ⟨locs, cells, slots, X, F.step (DenStack.cons dv h2) 1, Rp, Nf, hsz, hN, hsl⟩, fun target hr => ?_⟩
              rcases hi with ⟨q1, -⟩ | ⟨q1, -⟩ | ⟨q1, -⟩ | ⟨-, rfl⟩
              · cases q1
              · cases q1
              · cases q1
              · exact X.aaload hx Ar.1 (State.isArrayOf_alike hZ.alike Ar.2.1) rfl Ar.2.2 hin hg F.method e1 hd target hr
            · cases q0
          · cases h
      · cases h
    · cases h
  · cases h

theorem keepV_ok {ty : Nat} {v w : SVal} {u : Value} (h : keepV ty v = some w) (d : v.Den A Z u) : (ty = 0 ∧ w.Den A Z u ∧ ∃ z, u = .int z) ∨ (ty = 1 ∧ w.Den A Z u ∧ ∃ z, u = .long z) ∨ (ty = 2 ∧ ∃ z, u = .int z ∧ w.Den A Z (.int (nar .byte z))) := by
  unfold keepV at h
  split at h
  · rename_i hk; cases h; exact Or.inl ⟨rfl, d, d.int hk⟩
  · rename_i hk; cases h; exact Or.inr (Or.inl ⟨rfl, d, d.long hk⟩)
  · rename_i hk
    cases h
    obtain ⟨z, rfl⟩ := d.int hk
    exact Or.inr (Or.inr ⟨rfl, z, rfl, Den.nV (x := ⟨.op1 .i2b v.t, .int⟩) ⟨d.1, by simp [Term.eval, d.2.1, Unary.apply, nar], rfl⟩⟩)
  · cases h

theorem hStore_ok (S : St p l e R s m args below meth c Z A P N n0 σ H rs T g) (hx : p.tables.exec = Jvm.exec) (hZ : Z.Warmed39 s.vm) (hA : ∀ i, i < N → A[K + i]? = some (.ref (n0 + i))) {ty : Nat} {i : Instr} (hi : (ty = 0 ∧ i = .iastore) ∨ (ty = 1 ∧ i = .lastore) ∨ (ty = 2 ∧ i = .bastore)) (hd : decode c.code g.pc = .ok (i, 1))
    (h : hStore K ty σ H rs = some q) : Go p l e R s m args below meth c Z A P N n0 T g q := by
  obtain ⟨locs, cells, slots, X, F, Rp, Nf, hsz, hN, hsl⟩ := S
  unfold hStore at h
  split at h
  · rename_i v j o r hst
    split at h
    · rename_i ix jx hix hjx
      have h0 := F.stack
      rw [hst] at h0
      obtain ⟨wv, w0, e0, d0, h0'⟩ := h0.cons_inv
      obtain ⟨wj, w1, e1, d1, h1⟩ := h0'.cons_inv
      obtain ⟨wo, w2, e2, d2, h2⟩ := h1.cons_inv
      subst e2; subst e1
      have := int_val hjx d1
      subst this
      split at h
      · rename_i t vs hH
        cases hb : Nat.beq t ty
        · simp [hb] at h
        · simp only [hb, cond_true] at h
          have := Nat.eq_of_beq_eq_true hb
          subst this
          cases hb2 : Nat.blt (ixN jx) vs.length
          · simp [hb2] at h
          · simp only [hb2, cond_true] at h
            have hjl : ixN jx < vs.length := by simpa [Nat.blt_eq] using hb2
            split at h
            · rename_i w hw
              cases h
              have hlt := (List.getElem?_eq_some_iff.mp hH).1
              have := ref_val hA hix (by omega) d2
              subst this
              rcases Rp.2 _ _ hH with (⟨-, k, us, du, ⟨cl, Ar, ck, S', Nn, Hs, Gs⟩, r2, ex⟩ | ⟨q0, -⟩ | ⟨q0, -⟩) | ⟨q0, -⟩
              · dsimp only at du Ar S' Nn Hs Gs r2 ex
                have hin : ¬ (jx < 0 ∨ cl.slots.size ≤ jx.toNatClampNeg) := inR hjl r2 (S'.trans (ofNat_len r2).1)
                have hju : jx.toNatClampNeg = ixN jx := (ixN_spec hjl (Nat.le_of_lt r2)).2
                have hul : ixN jx < us.length := by rw [← DenStack.len du]; exact hjl
                have fin : ∀ {T' : State} {h' : Heap} {u : Value}, Stand p l e R s m args below meth c T' (locs ++ [⟨n0 + ix, jx.toNatClampNeg⟩]) cells slots → T'.heap = h' → Wr T.heap h' (n0 + ix) jx.toNatClampNeg u → w.Den A Z u → fits (aTy t) u = true →
                    (∀ target, Steps p.tables e below (T'.setTop { g with pc := g.pc + 1, stack := w2 }) target → Steps p.tables e below (T.setTop g) target) → Go p l e R s m args below meth c Z A P N n0 T g (adv σ 1 r, H.set ix (0, t, vs.set (ixN jx) w), rs) := by
                  intro T' h' u X' e' W' dw hfit st
                  refine ⟨T', _, ⟨_, cells, slots, X', F.step h2 1, ?_, Fr.snoc X' Nf (by omega), by rw [List.length_set]; exact hsz, by rw [List.length_set]; exact hN, hsl⟩, fun target hr => st target hr⟩
                  rw [e']
                  refine Rp.set0 W' (Or.inl ⟨rfl, k, us.set (ixN jx) u, DenStack.put du dw, ?_, by show (vs.set (ixN jx) w).length < 2 ^ 31; rw [List.length_set]; exact r2, ex.wr W'⟩)
                  show Arv Z h' (n0 + ix) k (aTy t) (Int32.ofNat (vs.set (ixN jx) w).length) (us.set (ixN jx) u) (defaultValue (aTy t))
                  rw [List.length_set]
                  exact Arv.set Ar ck S' Nn Hs Gs hfit W' (ixN jx) hju hul
                rcases keepV_ok hw d0 with ⟨rfl, dw, z, rfl⟩ | ⟨rfl, dw, z, rfl⟩ | ⟨rfl, z, rfl, dw⟩
                · rcases hi with ⟨-, rfl⟩ | ⟨q1, -⟩ | ⟨q1, -⟩
                  · obtain ⟨T', h', X', e', W', st⟩ := stI X hx hZ rfl Ar hin F.method e0 hd
                    exact fin X' e' W' dw rfl st
                  · cases q1
                  · cases q1
                · rcases hi with ⟨q1, -⟩ | ⟨-, rfl⟩ | ⟨q1, -⟩
                  · cases q1
                  · obtain ⟨T', h', X', e', W', st⟩ := stJ X hx hZ rfl Ar hin F.method e0 hd
                    exact fin X' e' W' dw rfl st
                  · cases q1
                · rcases hi with ⟨q1, -⟩ | ⟨q1, -⟩ | ⟨-, rfl⟩
                  · cases q1
                  · cases q1
                  · obtain ⟨T', h', X', e', W', st⟩ := stB X hx hZ rfl Ar hin F.method e0 hd
                    exact fin X' e' W' dw (fits_nar_byte z) st
              · cases q0
              · cases q0
              · cases q0
            · cases h
      · cases h
    · cases h
  · cases h

theorem hStoreR_ok (S : St p l e R s m args below meth c Z A P N n0 σ H rs T g) (hx : p.tables.exec = Jvm.exec) (hZ : Z.Warmed39 s.vm) (hA : ∀ i, i < N → A[K + i]? = some (.ref (n0 + i))) (hd : decode c.code g.pc = .ok (.aastore, 1))
    (h : hStoreR K σ H rs = some q) : Go p l e R s m args below meth c Z A P N n0 T g q := by
  obtain ⟨locs, cells, slots, X, F, Rp, Nf, hsz, hN, hsl⟩ := S
  unfold hStoreR at h
  split at h
  · rename_i v j o r hst
    split at h
    · rename_i ix jx hix hjx
      have h0 := F.stack
      rw [hst] at h0
      obtain ⟨wv, w0, e0, d0, h0'⟩ := h0.cons_inv
      obtain ⟨wj, w1, e1, d1, h1⟩ := h0'.cons_inv
      obtain ⟨wo, w2, e2, d2, h2⟩ := h1.cons_inv
      subst e2; subst e1
      have := int_val hjx d1
      subst this
      split at h
      · rename_i ci vs hH
        cases hb2 : Nat.blt (ixN jx) vs.length
        · simp [hb2] at h
        · simp only [hb2, cond_true] at h
          have hjl : ixN jx < vs.length := by simpa [Nat.blt_eq] using hb2
          split at h
          · rename_i iv hiv
            split at h
            · rename_i cv ws hV
              cases hb : Nat.beq ci cv
              · simp [hb] at h
              · simp only [hb, cond_true] at h
                have := Nat.eq_of_beq_eq_true hb
                subst this
                cases h
                have hlt := (List.getElem?_eq_some_iff.mp hH).1
                have hlv := (List.getElem?_eq_some_iff.mp hV).1
                have := ref_val hA hix (by omega) d2
                subst this
                have := ref_val hA hiv (by omega) d0
                subst this
                rcases Rp.2 _ _ hH with (⟨q0, -⟩ | ⟨q0, -⟩ | ⟨-, C, k, us, hC, du, ⟨cl, Ar, ck, S', Nn, Hs, Gs⟩, r2, ov⟩) | ⟨q0, -⟩
                · cases q0
                · cases q0
                · rcases Rp.2 _ _ hV with (⟨q0, -⟩ | ⟨-, C', hC', ex, -⟩ | ⟨q0, -⟩) | ⟨q0, -⟩
                  · cases q0
                  · dsimp only at du Ar S' Nn Hs Gs r2 hC hC' ex
                    cases hC.symm.trans hC'
                    have hin : ¬ (jx < 0 ∨ cl.slots.size ≤ jx.toNatClampNeg) := inR hjl r2 (S'.trans (ofNat_len r2).1)
                    have hju : jx.toNatClampNeg = ixN jx := (ixN_spec hjl (Nat.le_of_lt r2)).2
                    have hul : ixN jx < us.length := by rw [← DenStack.len du]; exact hjl
                    obtain ⟨T', h', X', e', W', st⟩ := stR X hx hZ rfl Ar hin rfl (Sto.ofV Ar ck ov (Ins.self ex)) F.method e0 hd
                    refine ⟨T', _, ⟨_, cells, slots, X', F.step h2 1, ?_, Fr.snoc X' Nf (by omega), by rw [List.length_set]; exact hsz, by rw [List.length_set]; exact hN, hsl⟩, fun target hr => st target hr⟩
                    rw [e']
                    refine Rp.set0 W' (Or.inr (Or.inr ⟨rfl, C, k, us.set (ixN jx) (.ref (n0 + iv)), hC, DenStack.put du d0, ?_, by show (vs.set (ixN jx) v).length < 2 ^ 31; rw [List.length_set]; exact r2, ov⟩))
                    show Arv Z h' (n0 + ix) k (.object C.1) (Int32.ofNat (vs.set (ixN jx) v).length) (us.set (ixN jx) (.ref (n0 + iv))) .null
                    rw [List.length_set]
                    exact Arv.set Ar ck S' Nn Hs Gs rfl W' (ixN jx) hju hul
                  · cases q0
                  · cases q0
                · cases q0
            · cases h
          · cases h
      · cases h
    · cases h
  · cases h

theorem new_den (hA : ∀ i, i < N → A[K + i]? = some (.ref (n0 + i))) {i : Nat} (hi : i < N) {a : Addr} (ha : a = n0 + i) : (⟨.arg (K + i), .ref⟩ : SVal).Den A Z (.ref a) := by
  subst ha
  exact ⟨rfl, hA i hi, rfl⟩
theorem aTy_of {x : Nat} {aty : ArrayType} (h : newarray.typeOf aty = aTy x) : "[" ++ (newarray.typeOf aty).toString = aAd x := by
  rw [h]; unfold aTy aAd; split <;> rfl

theorem hNewA_ok (S : St p l e R s m args below meth c Z A P N n0 σ H rs T g) (hx : p.tables.exec = Jvm.exec) (hZ : Z.Warmed39 s.vm) (hA : ∀ i, i < N → A[K + i]? = some (.ref (n0 + i))) (hR : n0 + N ≤ s.heap.size + R.cells) {aty : ArrayType} (hd : decode c.code g.pc = .ok (.newarray aty, 2))
    (hw : newarray.typeOf aty = aTy x ∧ (Jvm.Cond.arrayClass (newarray.typeOf aty)).before a0 Z = true) (h : hNewA K N x σ H rs = some q) : Go p l e R s m args below meth c Z A P N n0 T g q := by
  have hsz0 := S.size
  obtain ⟨locs, cells, slots, X, F, Rp, Nf, hsz, hN, hsl⟩ := S
  unfold hNewA at h
  split at h
  · rename_i n r hst
    split at h
    · rename_i nx hnx
      cases hb : (Nat.blt H.length N && Nat.ble (ixN nx) rs && Nat.ble (ixN nx) 60000)
      · simp [hb] at h
      · simp only [hb, cond_true] at h
        simp only [Bool.and_eq_true] at hb
        obtain ⟨⟨b1, b2⟩, b3⟩ := hb
        have b1 : H.length < N := by simpa [Nat.blt_eq] using b1
        have b2 := Nat.le_of_ble_eq_true b2
        have b3 := Nat.le_of_ble_eq_true b3
        cases h
        have h0 := F.stack
        rw [hst] at h0
        obtain ⟨wn, w1, e1, d1, h1⟩ := h0.cons_inv
        have := int_val hnx d1
        subst this
        obtain ⟨hn1, hn2⟩ := ixN_spec (x := nx) (n := 60001) (by omega) (by omega)
        obtain ⟨T', h', cA, X', e', E', Ar, ex, st⟩ := newPE X hx hZ hw.2 rfl F.method hd e1 hn1 (cap := ixN nx) (by omega) (by omega) (by omega) (by omega) (aTy_of hw.1)
        have hlen : (List.replicate (ixN nx) (dfl (aTy x))).length = ixN nx := List.length_replicate
        have hlt : T.heap.size < h'.size := Ar.lt
        refine ⟨T', _, ⟨locs, cells + 1, slots + ixN nx, X', F.step (DenStack.cons (new_den hA b1 hsz0) h1) 2, ?_, Nf, by rw [List.length_append, List.length_singleton]; omega, by rw [List.length_append, List.length_singleton]; omega, by show slots + ixN nx + (rs - ixN nx) ≤ R.slots; omega⟩, fun target hr => st target hr⟩
        rw [e']
        refine Rp.push0 E' hsz0 hlt (Or.inl ⟨rfl, cA, List.replicate (ixN nx) (defaultValue (aTy x)), DenStack.rep (dflA_den x) _, ?_, by show (List.replicate (ixN nx) (dfl (aTy x))).length < 2 ^ 31; rw [hlen]; omega, ex⟩)
        show Arv Z h' T.heap.size cA (aTy x) (Int32.ofNat (List.replicate (ixN nx) (dfl (aTy x))).length) (List.replicate (ixN nx) (defaultValue (aTy x))) (defaultValue (aTy x))
        rw [hlen]
        have en : Int32.ofNat (ixN nx) = nx := by
          rw [← hn2]; exact (back32 hn1).1
        rw [en]
        rw [hw.1] at Ar
        have := (Arv.new Ar hn1).pad (vs' := [] ++ List.replicate (ixN nx) (defaultValue (aTy x))) (pad_rep [] _ _)
        exact this
    · cases h
  · cases h

theorem hNewR_ok (S : St p l e R s m args below meth c Z A P N n0 σ H rs T g) (hx : p.tables.exec = Jvm.exec) (hZ : Z.Warmed39 s.vm) (hA : ∀ i, i < N → A[K + i]? = some (.ref (n0 + i))) (hown : s.vm.findClass own = some m.cls) (hR : n0 + N ≤ s.heap.size + R.cells) {idx : Nat} (hd : decode c.code g.pc = .ok (.anewarray idx, 3))
    (hw : ∃ C : Cls, P.1[x]? = some C ∧ (Jvm.Cond.classLink own idx C.1).before a0 Z = true ∧ (Jvm.Cond.arrayOver (.object C.1)).before a0 Z = true) (h : hNewR K N x σ H rs = some q) : Go p l e R s m args below meth c Z A P N n0 T g q := by
  have hsz0 := S.size
  obtain ⟨locs, cells, slots, X, F, Rp, Nf, hsz, hN, hsl⟩ := S
  obtain ⟨C, hC, wc, wa⟩ := hw
  unfold hNewR at h
  split at h
  · rename_i n r hst
    split at h
    · rename_i nx hnx
      cases hb : (Nat.blt H.length N && Nat.ble (ixN nx) rs && Nat.ble (ixN nx) 60000)
      · simp [hb] at h
      · simp only [hb, cond_true] at h
        simp only [Bool.and_eq_true] at hb
        obtain ⟨⟨b1, b2⟩, b3⟩ := hb
        have b1 : H.length < N := by simpa [Nat.blt_eq] using b1
        have b2 := Nat.le_of_ble_eq_true b2
        have b3 := Nat.le_of_ble_eq_true b3
        cases h
        have h0 := F.stack
        rw [hst] at h0
        obtain ⟨wn, w1, e1, d1, h1⟩ := h0.cons_inv
        have := int_val hnx d1
        subst this
        obtain ⟨hn1, hn2⟩ := ixN_spec (x := nx) (n := 60001) (by omega) (by omega)
        obtain ⟨T', h', cA, X', e', E', Ar, ov, st⟩ := newR X hx hZ hown wc wa rfl F.method hd e1 hn1 (cap := ixN nx) (by omega) (by omega) (by omega) (by omega)
        have hlen : (List.replicate (ixN nx) (⟨.null, .ref⟩ : SVal)).length = ixN nx := List.length_replicate
        have hlt : T.heap.size < h'.size := Ar.lt
        refine ⟨T', _, ⟨locs, cells + 1, slots + ixN nx, X', F.step (DenStack.cons (new_den hA b1 hsz0) h1) 3, ?_, Nf, by rw [List.length_append, List.length_singleton]; omega, by rw [List.length_append, List.length_singleton]; omega, by show slots + ixN nx + (rs - ixN nx) ≤ R.slots; omega⟩, fun target hr => st target hr⟩
        rw [e']
        refine Rp.push0 E' hsz0 hlt (Or.inr (Or.inr ⟨rfl, C, cA, List.replicate (ixN nx) .null, hC, DenStack.rep ⟨rfl, rfl, rfl⟩ _, ?_, by show (List.replicate (ixN nx) (⟨.null, .ref⟩ : SVal)).length < 2 ^ 31; rw [hlen]; omega, ov⟩))
        show Arv Z h' T.heap.size cA (.object C.1) (Int32.ofNat (List.replicate (ixN nx) (⟨.null, .ref⟩ : SVal)).length) (List.replicate (ixN nx) .null) .null
        rw [hlen]
        have en : Int32.ofNat (ixN nx) = nx := by
          rw [← hn2]; exact (back32 hn1).1
        rw [en]
        have := (Arv.new Ar hn1).pad (vs' := [] ++ List.replicate (ixN nx) (defaultValue (.object C.1))) (pad_rep [] _ _)
        exact this
    · cases h
  · cases h

theorem hNew_ok (S : St p l e R s m args below meth c Z A P N n0 σ H rs T g) (hx : p.tables.exec = Jvm.exec) (hZ : Z.Warmed39 s.vm) (hA : ∀ i, i < N → A[K + i]? = some (.ref (n0 + i))) (hown : s.vm.findClass own = some m.cls) (hR : n0 + N ≤ s.heap.size + R.cells) {idx : Nat} (hd : decode c.code g.pc = .ok (.new idx, 3))
    (hw : ∃ C : Cls, P.1[x]? = some C ∧ (Jvm.Cond.classLink own idx C.1).before a0 Z = true ∧ (Jvm.Cond.instantiable C.1 C.2.1).before a0 Z = true ∧ (Jvm.Cond.initialized C.1).before a0 Z = true ∧
      ∀ (j : Nat) (f' : Fd), C.2.2[j]? = some f' → Laid Z a0 C.1 f'.1 f'.2.1 f'.2.2.1 ∧ parseFieldDescriptor f'.2.2.1 = some f'.2.2.2 ∧ okTy f'.2.2.2 = true)
    (h : hNew P K N x σ H rs = some q) : Go p l e R s m args below meth c Z A P N n0 T g q := by
  have hsz0 := S.size
  obtain ⟨locs, cells, slots, X, F, Rp, Nf, hsz, hN, hsl⟩ := S
  obtain ⟨C, hC, wc, wi, wz, hall⟩ := hw
  unfold hNew at h
  rw [hC] at h
  dsimp only at h
  cases hb : (Nat.blt H.length N && Nat.ble C.2.1 rs)
  · simp [hb] at h
  · simp only [hb, cond_true] at h
    simp only [Bool.and_eq_true] at hb
    have b1 : H.length < N := by simpa [Nat.blt_eq] using hb.1
    have b2 := Nat.le_of_ble_eq_true hb.2
    cases h
    obtain ⟨T', h', X', e', E', ex, D', -, st⟩ := newO X hx hZ hown wc wi wz rfl F.method hd (by omega) (by omega)
    have hlt : T.heap.size < h'.size := ex.lt
    refine ⟨T', _, ⟨locs, cells + 1, slots + C.2.1, X', F.step (DenStack.cons (new_den hA b1 hsz0) F.stack) 3, ?_, Nf, by rw [List.length_append, List.length_singleton]; omega, by rw [List.length_append, List.length_singleton]; omega, by show slots + C.2.1 + (rs - C.2.1) ≤ R.slots; omega⟩, fun target hr => st target hr⟩
    rw [e']
    refine Rp.push0 E' hsz0 hlt (Or.inr (Or.inl ⟨rfl, C, hC, ex, List.length_map _, fun j f v hj hv => ?_⟩))
    have hv' : (C.2.2.map fun f => dfl f.2.2.2)[j]? = some v := hv
    rw [List.getElem?_map, hj] at hv'
    cases hv'
    obtain ⟨l1, l2, l3⟩ := hall j f hj
    exact ⟨_, dfl_den l3, D' l1 l2⟩

theorem hCast_ok (S : St p l e R s m args below meth c Z A P N n0 σ H rs T g) (hx : p.tables.exec = Jvm.exec) (hZ : Z.Warmed39 s.vm) (hA : ∀ i, i < N → A[K + i]? = some (.ref (n0 + i))) (hown : s.vm.findClass own = some m.cls) {idx : Nat} (hd : decode c.code g.pc = .ok (.checkcast idx, 3))
    (hw : (Jvm.Cond.classLink own idx (aAd x)).before a0 Z = true) (h : hCast K x σ H rs = some q) : Go p l e R s m args below meth c Z A P N n0 T g q := by
  obtain ⟨locs, cells, slots, X, F, Rp, Nf, hsz, hN, hsl⟩ := S
  unfold hCast at h
  split at h
  · rename_i o r hst
    split at h
    · rename_i ix hix
      split at h
      · rename_i t vs hH
        cases hb : Nat.beq t x
        · simp [hb] at h
        · simp only [hb, cond_true] at h
          have := Nat.eq_of_beq_eq_true hb
          subst this
          cases h
          have h0 := F.stack
          rw [hst] at h0
          obtain ⟨wo, w1, e1, d1, h1⟩ := h0.cons_inv
          have hlt := (List.getElem?_eq_some_iff.mp hH).1
          have := ref_val hA hix (by omega) d1
          subst this
          rcases Rp.2 _ _ hH with (⟨-, k, us, du, Ar, r2, ex⟩ | ⟨q0, -⟩ | ⟨q0, -⟩) | ⟨q0, -⟩
          · obtain ⟨T', X', e', st⟩ := castY X hx hZ hown hw rfl (Ins.self ex) F.method e1 hd
            refine ⟨T', { g with pc := g.pc + 3, stack := .ref (n0 + ix) :: w1 }, ⟨locs, cells, slots, X', F.step (DenStack.cons d1 h1) 3, by show RepH Z A P n0 H T'.heap; rw [e']; exact Rp, Nf, hsz, hN, hsl⟩, fun target hr => st target ?_⟩
            have eg : ({ g with pc := g.pc + 3, stack := .ref (n0 + ix) :: w1 } : JFrame) = { g with pc := g.pc + 3 } := by rw [← e1]
            rw [← eg]; exact hr
          · cases q0
          · cases q0
          · cases q0
      · cases h
    · cases h
  · cases h

theorem hInit_ok (S : St p l e R s m args below meth c Z A P N n0 σ H rs T g) (hx : p.tables.exec = Jvm.exec) (hZ : Z.Warmed39 s.vm) (hA : ∀ i, i < N → A[K + i]? = some (.ref (n0 + i))) (hown : s.vm.findClass own = some m.cls) {idx : Nat} (hd : decode c.code g.pc = .ok (.invokespecial idx, 3))
    (hw : (Jvm.Cond.methodLink own idx Lib.objectInit).before a0 Z = true ∧ (Jvm.Cond.instanceMethod Lib.objectInit).before a0 Z = true ∧ (Jvm.Cond.code Lib.objectInit ⟨#[0xb1]⟩ 1 none).before a0 Z = true) (h : hInit K c.maxLocals R.frames R.locals σ H rs = some q) : Go p l e R s m args below meth c Z A P N n0 T g q := by
  obtain ⟨locs, cells, slots, X, F, Rp, Nf, hsz, hN, hsl⟩ := S
  unfold hInit at h
  split at h
  · rename_i o r hst
    split at h
    · rename_i ix hix
      cases hb : (Nat.blt ix H.length && Nat.ble 1 R.frames && Nat.ble (catS r + 12) R.locals && Nat.beq σ.locals.length c.maxLocals)
      · simp [hb] at h
      · simp only [hb, cond_true] at h
        simp only [Bool.and_eq_true] at hb
        obtain ⟨⟨⟨b1, b2⟩, b3⟩, b4⟩ := hb
        have b1 : ix < H.length := by simpa [Nat.blt_eq] using b1
        have b2 := Nat.le_of_ble_eq_true b2
        have b3 := Nat.le_of_ble_eq_true b3
        have b4 := Nat.eq_of_beq_eq_true b4
        cases h
        have h0 := F.stack
        rw [hst] at h0
        obtain ⟨wo, w1, e1, d1, h1⟩ := h0.cons_inv
        have := ref_val hA hix (by omega) d1
        subst this
        obtain ⟨T', X', e', st⟩ := initO X hx hZ hown hw.1 hw.2.1 hw.2.2 rfl F.method (F.locals.size.trans b4) e1 hd b2 (W := catS r) (by rw [F.mroom, catS_eq h1]; omega) b3
        exact ⟨T', _, ⟨locs, cells, slots, X', F.step h1 3, by show RepH Z A P n0 H T'.heap; rw [e']; exact Rp, Nf, hsz, hN, hsl⟩, fun target hr => st target hr⟩
    · cases h
  · cases h

theorem hClone_ok (S : St p l e R s m args below meth c Z A P N n0 σ H rs T g) (hx : p.tables.exec = Jvm.exec) (hZ : Z.Warmed39 s.vm) (hA : ∀ i, i < N → A[K + i]? = some (.ref (n0 + i))) (hown : s.vm.findClass own = some m.cls) (hR : n0 + N ≤ s.heap.size + R.cells) {idx : Nat} (hd : decode c.code g.pc = .ok (.invokevirtual idx, 3))
    (hw : (Jvm.Cond.methodLink own idx ⟨aAd x, "clone", "()Ljava/lang/Object;"⟩).before a0 Z = true ∧ (Jvm.Cond.sameMethod (aAd x) "java/lang/Object" "clone" "()Ljava/lang/Object;").before a0 Z = true ∧ (Jvm.Cond.native ⟨"java/lang/Object", "clone", "()Ljava/lang/Object;"⟩).before a0 Z = true ∧
      (Jvm.Cond.instanceMethod ⟨"java/lang/Object", "clone", "()Ljava/lang/Object;"⟩).before a0 Z = true ∧ (Jvm.Cond.selects (aAd x) ⟨aAd x, "clone", "()Ljava/lang/Object;"⟩ ⟨"java/lang/Object", "clone", "()Ljava/lang/Object;"⟩).before a0 Z = true ∧ (Jvm.Cond.castable (aAd x) "java/lang/Cloneable").before a0 Z = true)
    (h : hClone K N c.maxLocals R.frames R.locals x σ H rs = some q) : Go p l e R s m args below meth c Z A P N n0 T g q := by
  have hsz0 := S.size
  obtain ⟨locs, cells, slots, X, F, Rp, Nf, hsz, hN, hsl⟩ := S
  unfold hClone at h
  split at h
  · rename_i o r hst
    split at h
    · rename_i ix hix
      split at h
      · rename_i t vs hH
        cases hb : (Nat.beq t x && Nat.blt H.length N && Nat.ble vs.length rs && Nat.ble 1 R.frames && Nat.ble (catS r + 14) R.locals && Nat.beq σ.locals.length c.maxLocals)
        · simp [hb] at h
        · simp only [hb, cond_true] at h
          simp only [Bool.and_eq_true] at hb
          obtain ⟨⟨⟨⟨⟨b0, b1⟩, b2⟩, b3⟩, b4⟩, b5⟩ := hb
          have b0 := Nat.eq_of_beq_eq_true b0
          have b1 : H.length < N := by simpa [Nat.blt_eq] using b1
          have b2 := Nat.le_of_ble_eq_true b2
          have b3 := Nat.le_of_ble_eq_true b3
          have b4 := Nat.le_of_ble_eq_true b4
          have b5 := Nat.eq_of_beq_eq_true b5
          subst b0
          cases h
          have h0 := F.stack
          rw [hst] at h0
          obtain ⟨wo, w1, e1, d1, h1⟩ := h0.cons_inv
          have hlt := (List.getElem?_eq_some_iff.mp hH).1
          have := ref_val hA hix (by omega) d1
          subst this
          rcases Rp.2 _ _ hH with (⟨-, k, us, du, Ar, r2, ex⟩ | ⟨q0, -⟩ | ⟨q0, -⟩) | ⟨q0, -⟩
          · dsimp only at du Ar r2 ex
            obtain ⟨T', h', X', e', E', Ar', ex', st⟩ := cloneH X hx hZ hown hw.1 hw.2.1 hw.2.2.1 hw.2.2.2.1 hw.2.2.2.2.1 hw.2.2.2.2.2 rfl Ar.arh ex F.method (F.locals.size.trans b5) e1 hd b3 (W := catS r) (by rw [F.mroom, catS_eq h1]; omega) b4 (cap := vs.length) (by rw [(ofNat_len r2).1]; exact Nat.le_refl _) (by omega) (by omega)
            refine ⟨T', _, ⟨locs, cells + 1, slots + vs.length, X', F.step (DenStack.cons (new_den hA b1 hsz0) h1) 3, ?_, Nf, by rw [List.length_append, List.length_singleton]; omega, by rw [List.length_append, List.length_singleton]; omega, by show slots + vs.length + (rs - vs.length) ≤ R.slots; omega⟩, fun target hr => st target hr⟩
            rw [e']
            exact Rp.push0 E' hsz0 ex'.lt (Or.inl ⟨rfl, k, us, du, Ar', r2, ex'⟩)
          · cases q0
          · cases q0
          · cases q0
      · cases h
    · cases h
  · cases h

theorem hCopy_ok (S : St p l e R s m args below meth c Z A P N n0 σ H rs T g) (hx : p.tables.exec = Jvm.exec) (hZ : Z.Warmed39 s.vm) (hA : ∀ i, i < N → A[K + i]? = some (.ref (n0 + i))) (hown : s.vm.findClass own = some m.cls) {idx : Nat} (hd : decode c.code g.pc = .ok (.invokestatic idx, 3))
    (hw : (Jvm.Cond.methodLink own idx Jvm.Stand.acN).before a0 Z = true ∧ (Jvm.Cond.native Jvm.Stand.acN).before a0 Z = true ∧ (Jvm.Cond.static Jvm.Stand.acN).before a0 Z = true ∧ (Jvm.Cond.initialized "java/lang/System").before a0 Z = true)
    (h : hCopy K c.maxLocals R.frames R.locals σ H rs = some q) : Go p l e R s m args below meth c Z A P N n0 T g q := by
  obtain ⟨locs, cells, slots, X, F, Rp, Nf, hsz, hN, hsl⟩ := S
  unfold hCopy at h
  split at h
  · rename_i vn vdp vd vsp vo r hst
    split at h
    · rename_i n dp sp hn hdp hsp
      split at h
      · rename_i io ia hio hia
        split at h
        · rename_i t vs t' vd' hH1 hH2
          cases hb : (Nat.beq t t' && Nat.ble (ixN sp + ixN n) vs.length && Nat.ble (ixN dp + ixN n) vd'.length && Nat.ble 1 R.frames && Nat.ble (catS r + (nativeFrameWords "java/lang/System" "arraycopy" 5 + 11)) R.locals && Nat.beq σ.locals.length c.maxLocals)
          · simp [hb] at h
          · simp only [hb, cond_true] at h
            simp only [Bool.and_eq_true] at hb
            obtain ⟨⟨⟨⟨⟨b0, b1⟩, b2⟩, b3⟩, b4⟩, b5⟩ := hb
            have b0 := Nat.eq_of_beq_eq_true b0
            have b1 := Nat.le_of_ble_eq_true b1
            have b2 := Nat.le_of_ble_eq_true b2
            have b3 := Nat.le_of_ble_eq_true b3
            have b4 := Nat.le_of_ble_eq_true b4
            have b5 := Nat.eq_of_beq_eq_true b5
            subst b0
            cases h
            have h0 := F.stack
            rw [hst] at h0
            obtain ⟨u1, w1, e1, d1, h1⟩ := h0.cons_inv
            obtain ⟨u2, w2, e2, d2, h2⟩ := h1.cons_inv
            obtain ⟨u3, w3, e3, d3, h3⟩ := h2.cons_inv
            obtain ⟨u4, w4, e4, d4, h4⟩ := h3.cons_inv
            obtain ⟨u5, w5, e5, d5, h5⟩ := h4.cons_inv
            subst e5; subst e4; subst e3; subst e2
            have hl1 := (List.getElem?_eq_some_iff.mp hH1).1
            have hl2 := (List.getElem?_eq_some_iff.mp hH2).1
            have := int_val hn d1
            subst this
            have := int_val hdp d2
            subst this
            have := ref_val hA hia (by omega) d3
            subst this
            have := int_val hsp d4
            subst this
            have := ref_val hA hio (by omega) d5
            subst this
            rcases Rp.2 _ _ hH1 with (⟨-, k, us, du, Ar, r2, ex⟩ | ⟨q0, -⟩ | ⟨q0, -⟩) | ⟨q0, -⟩
            · rcases Rp.2 _ _ hH2 with (⟨-, k', us', du', Ar', r2', ex'⟩ | ⟨q0, -⟩ | ⟨q0, -⟩) | ⟨q0, -⟩
              · dsimp only at du Ar r2 ex du' Ar' r2' ex'
                obtain ⟨s1, s2⟩ := ixN_spec (x := sp) (n := 2 ^ 31) (by omega) (Nat.le_refl _)
                obtain ⟨p1, p2⟩ := ixN_spec (x := dp) (n := 2 ^ 31) (by omega) (Nat.le_refl _)
                obtain ⟨n1, n2⟩ := ixN_spec (x := n) (n := 2 ^ 31) (by omega) (Nat.le_refl _)
                have l1 := DenStack.len du
                have l2 := DenStack.len du'
                have hus : ((us.drop (ixN sp)).take (ixN n)) = (List.range n.toNatClampNeg).map fun i => us.getD (sp.toNatClampNeg + i) (defaultValue (aTy t)) := by
                  rw [s2, n2]
                  apply List.ext_getElem?
                  intro i
                  by_cases hi : i < ixN n
                  · rw [List.getElem?_take_of_lt hi, List.getElem?_drop, List.getElem?_map, List.getElem?_range hi]
                    have : ixN sp + i < us.length := by omega
                    simp [List.getD_eq_getElem?_getD, List.getElem?_eq_getElem this]
                  · rw [List.getElem?_eq_none (by rw [List.length_take, List.length_drop]; omega), List.getElem?_eq_none (by rw [List.length_map, List.length_range]; omega)]
                have hprim : refKind (aTy t) = false := by unfold aTy; split <;> rfl
                obtain ⟨T', h', L, X', e', Nf', Kp, Ar2, st⟩ := cpA X hx hZ hown hw.1 hw.2.1 hw.2.2.1 hw.2.2.2 rfl Ar Ar' (Or.inl ⟨rfl, hprim⟩) s1 p1 n1 (by rw [s2, n2, (ofNat_len r2).1]; exact b1) (by rw [p2, n2, (ofNat_len r2').1]; exact b2) hus (by rw [p2, n2]; omega) Nf (by omega) F.method (F.locals.size.trans b5) e1 hd b3 (W := catS r) (by rw [F.mroom, catS_eq h5]; omega) b4
                refine ⟨T', _, ⟨L, cells, slots, X', F.step h5 3, ?_, Nf', by rw [List.length_set]; exact hsz, by rw [List.length_set]; exact hN, hsl⟩, fun target hr => st target hr⟩
                rw [e']
                have hlen : (vd'.take (ixN dp) ++ (vs.drop (ixN sp)).take (ixN n) ++ vd'.drop (ixN dp + ixN n)).length = vd'.length := by
                  simp only [List.length_append, List.length_take, List.length_drop]; omega
                refine Rp.setK0 Kp (Or.inl ⟨rfl, k', us'.take (ixN dp) ++ (us.drop (ixN sp)).take (ixN n) ++ us'.drop (ixN dp + ixN n), DenStack.app (DenStack.app (DenStack.take _ du') (DenStack.take _ (DenStack.drop _ du))) (DenStack.drop _ du'), ?_, ?_, ex'.keep Kp⟩)
                · show Arv Z h' (n0 + ia) k' (aTy t) (Int32.ofNat (vd'.take (ixN dp) ++ (vs.drop (ixN sp)).take (ixN n) ++ vd'.drop (ixN dp + ixN n)).length) _ _
                  rw [hlen]
                  rw [p2, n2] at Ar2
                  exact Ar2
                · show (vd'.take (ixN dp) ++ (vs.drop (ixN sp)).take (ixN n) ++ vd'.drop (ixN dp + ixN n)).length < 2 ^ 31
                  rw [hlen]; exact r2'
              · cases q0
              · cases q0
              · cases q0
            · cases q0
            · cases q0
            · cases q0
        · cases h
      · cases h
    · cases h
  · cases h
end Steps
end Jvm.Mini
/-! OWN LAYER, part 4: what is asked of the program's table, and the interpreter's soundness. -/
namespace Jvm.Mini
open Sem ClassFile Op Lib Jvm.Stand Jvm.Free Jvm.RoadKit Jvm.Sym

def has (tb : List Jvm.Cond) (w : Jvm.Cond) : Bool := tb.any fun d => decide (d = w)
theorem has_mem {tb : List Jvm.Cond} {w : Jvm.Cond} (h : has tb w = true) : w ∈ tb := by
  obtain ⟨d, hd, e⟩ := List.any_eq_true.mp h
  have := of_decide_eq_true e
  subst this; exact hd
def okFd (tb : List Jvm.Cond) (C : String) (f : Fd) : Bool := (has tb (.lays C f.1 f.2.1 f.2.2.1) || has tb (.laysFinal C f.1 f.2.1 f.2.2.1)) && decide (parseFieldDescriptor f.2.2.1 = some f.2.2.2) && okTy f.2.2.2
def okCls (tb : List Jvm.Cond) (C : Cls) : Bool := C.2.2.all (okFd tb C.1) && decide ((C.2.2.map fun f => f.2.1).Nodup)
def okGet (tb : List Jvm.Cond) (P : Prog) (own : String) (i : Instr) (len x y : Nat) : Bool :=
  match i with
  | .getfield idx => Nat.beq len 3 && (match P.1[x]? with | some C => (match C.2.2[y]? with | some f => has tb (.fieldLink own idx f.1 f.2.1 f.2.2.1) | none => false) | none => false)
  | _ => false
def okPut (tb : List Jvm.Cond) (P : Prog) (own nm : String) (i : Instr) (len x y : Nat) : Bool :=
  match i with
  | .putfield idx => Nat.beq len 3 && (match P.1[x]? with
    | some C => (match C.2.2[y]? with
      | some f => has tb (.fieldLink own idx f.1 f.2.1 f.2.2.1) && (has tb (.lays C.1 f.1 f.2.1 f.2.2.1) || (has tb (.laysFinal C.1 f.1 f.2.1 f.2.2.1) && decide (own = f.1) && decide (nm = "<init>"))) && has tb (.instantiable C.1 C.2.1)
      | none => false)
    | none => false)
  | _ => false
def okLdc (tb : List Jvm.Cond) (own : String) (i : Instr) (len : Nat) (vals : List Int) : Bool :=
  match i, vals with
  | .ldc idx, [v] => Nat.beq len 2 && has tb (.constant own idx (Int32.ofInt v))
  | .ldc_w idx, [v] => Nat.beq len 3 && has tb (.constant own idx (Int32.ofInt v))
  | _, _ => false
def okLdc2 (tb : List Jvm.Cond) (own : String) (i : Instr) (len : Nat) (vals : List Int) : Bool :=
  match i, vals with
  | .ldc2_w idx, [v] => Nat.beq len 3 && has tb (.constantLong own idx (Int64.ofInt v))
  | _, _ => false
def okNewA (tb : List Jvm.Cond) (i : Instr) (len x : Nat) : Bool :=
  match i with
  | .newarray aty => Nat.beq len 2 && decide (newarray.typeOf aty = aTy x) && has tb (.arrayClass (newarray.typeOf aty))
  | _ => false
def okNewR (tb : List Jvm.Cond) (P : Prog) (own : String) (i : Instr) (len x : Nat) : Bool :=
  match i with
  | .anewarray idx => Nat.beq len 3 && (match P.1[x]? with | some C => has tb (.classLink own idx C.1) && has tb (.arrayOver (.object C.1)) | none => false)
  | _ => false
def okNew (tb : List Jvm.Cond) (P : Prog) (own : String) (i : Instr) (len x : Nat) : Bool :=
  match i with
  | .new idx => Nat.beq len 3 && (match P.1[x]? with | some C => has tb (.classLink own idx C.1) && has tb (.instantiable C.1 C.2.1) && has tb (.initialized C.1) | none => false)
  | _ => false
def okCast (tb : List Jvm.Cond) (own : String) (i : Instr) (len x : Nat) : Bool :=
  match i with
  | .checkcast idx => Nat.beq len 3 && has tb (.classLink own idx (aAd x))
  | _ => false
def okInit (tb : List Jvm.Cond) (own : String) (i : Instr) (len : Nat) : Bool :=
  match i with
  | .invokespecial idx => Nat.beq len 3 && has tb (.methodLink own idx Lib.objectInit) && has tb (.instanceMethod Lib.objectInit) && has tb (.code Lib.objectInit ⟨#[0xb1]⟩ 1 none)
  | _ => false
def okCopy (tb : List Jvm.Cond) (own : String) (i : Instr) (len : Nat) : Bool :=
  match i with
  | .invokestatic idx => Nat.beq len 3 && has tb (.methodLink own idx Jvm.Stand.acN) && has tb (.native Jvm.Stand.acN) && has tb (.static Jvm.Stand.acN) && has tb (.initialized "java/lang/System")
  | _ => false
def okClone (tb : List Jvm.Cond) (own : String) (i : Instr) (len x : Nat) : Bool :=
  match i with
  | .invokevirtual idx => Nat.beq len 3 && has tb (.methodLink own idx ⟨aAd x, "clone", "()Ljava/lang/Object;"⟩) && has tb (.sameMethod (aAd x) "java/lang/Object" "clone" "()Ljava/lang/Object;") && has tb (.native ⟨"java/lang/Object", "clone", "()Ljava/lang/Object;"⟩) &&
      has tb (.instanceMethod ⟨"java/lang/Object", "clone", "()Ljava/lang/Object;"⟩) && has tb (.selects (aAd x) ⟨aAd x, "clone", "()Ljava/lang/Object;"⟩ ⟨"java/lang/Object", "clone", "()Ljava/lang/Object;"⟩) && has tb (.castable (aAd x) "java/lang/Cloneable")
  | _ => false
def okLd (i : Instr) (len y : Nat) : Bool := Nat.beq len 1 && (decide (y = 0 ∧ i = .iaload) || decide (y = 1 ∧ i = .laload) || decide (y = 2 ∧ i = .baload) || decide (y = 3 ∧ i = .aaload))
def okSt (i : Instr) (len y : Nat) : Bool := Nat.beq len 1 && (decide (y = 0 ∧ i = .iastore) || decide (y = 1 ∧ i = .lastore) || decide (y = 2 ∧ i = .bastore))
def okH (tb : List Jvm.Cond) (P : Prog) (own nm : String) (cd : Nat) (i : Instr) (len x y : Nat) (vals : List Int) : Bool :=
  match cd with
  | 0 => okGet tb P own i len x y
  | 1 => okLd i len y
  | 2 => okSt i len y
  | 3 => Nat.beq len 1 && decide (i = .arraylength)
  | 4 => okPut tb P own nm i len x y
  | 5 => okLdc tb own i len vals
  | 6 => okLdc2 tb own i len vals
  | 7 => Nat.beq len 1 && decide (i = .idiv)
  | 8 => Nat.beq len 1 && decide (i = .irem)
  | 9 => Nat.beq len 1 && decide (i = .aastore)
  | 10 => okNewA tb i len x
  | 11 => okNewR tb P own i len x
  | 12 => okNew tb P own i len x
  | 13 => okCast tb own i len x
  | 14 => okInit tb own i len
  | 15 => okCopy tb own i len
  | 16 => okClone tb own i len x
  | _ => false
def okR (rt : Option FieldType) (i : Instr) (len y : Nat) : Bool :=
  Nat.beq len 1 && (match y with
    | 0 => decide (i = .ireturn) && decide (rt = some .int)
    | 1 => decide (i = .ireturn) && decide (rt = some .boolean)
    | 2 => decide (i = .ireturn) && decide (rt = some .byte)
    | 3 => decide (i = .lreturn) && decide (rt = some .long)
    | 4 => decide (i = .areturn) && (match rt with | some ty => ty.isReference | none => false)
    | 5 => decide (i = .return_) && decide (rt = none)
    | _ => false)
def okY (tb : List Jvm.Cond) (M' : Mth) (na : Nat) : Bool :=
  has tb (.code (mNm M') (mBy M') (mMx M') (mRt M')) && has tb (.initialized (mNm M').cls) && plainFor (mNm M') && decide ((mNm M').cls ≠ "java/lang/invoke/MethodHandle" ∧ (mNm M').cls ≠ "java/lang/invoke/VarHandle") &&
    (match parseMethodDescriptor (mNm M').desc with | some sg => Nat.beq sg.parameters.length na | none => false)
def okSel (tb : List Jvm.Cond) (C : Cls) (y : MethodName) : Bool :=
  has tb (.selects C.1 y y) || (has tb (.privateMethod y) && has tb (.instanceMethod y) && decide (C.1 = y.cls) && has tb (.instantiable C.1 C.2.1) && decide (y.cls ≠ "java/lang/invoke/MethodHandle") && decide (y.cls ≠ "java/lang/invoke/VarHandle"))
theorem okSel_spec {tb : List Jvm.Cond} {a0 : Array Value} {Z : State} (hw : ∀ d ∈ tb, d.before a0 Z = true) {C : Cls} {y : MethodName} (h : okSel tb C y = true) : (Jvm.Cond.selects C.1 y y).before a0 Z = true := by
  unfold okSel at h
  rcases Bool.or_eq_true_iff.mp h with h | h
  · exact hw _ (has_mem h)
  · simp only [Bool.and_eq_true, decide_eq_true_eq] at h
    obtain ⟨⟨⟨⟨⟨h1, h2⟩, h3⟩, h4⟩, h5⟩, h6⟩ := h
    have hi := hw _ (has_mem h4)
    rw [h3] at hi ⊢
    have hpr := Cond.privateMethod_at (hw _ (has_mem h1))
    simp only [Cond.before, Cond.holds, Cond.value] at hi
    rcases hc : Z.vm.findClass y.cls with _ | c
    · simp [hc] at hi
    · rcases hk : Z.vm.classes[c]? with _ | k
      · simp [hc, hk] at hi
      · have hni : k.isInterface = false := by
          simp [hc, hk] at hi
          exact hi.1.1.2.1
        exact selects_self_of_private hc hk hni hpr (hw _ (has_mem h2)) ⟨h5, h6⟩
def okC (tb : List Jvm.Cond) (P : Prog) (own : String) (i : Instr) (len x y : Nat) : Bool :=
  match P.2[x]? with
  | some M' =>
    (match i, y with
    | .invokestatic idx, 0 => Nat.beq len 3 && has tb (.methodLink own idx (mNm M')) && has tb (.static (mNm M')) && okY tb M' (mNa M')
    | .invokevirtual idx, 1 => Nat.beq len 3 && has tb (.methodLink own idx (mNm M')) && has tb (.instanceMethod (mNm M')) && (match P.1[mCi M']? with | some C => okSel tb C (mNm M') | none => false) && okY tb M' (mNa M' - 1) && Nat.ble 1 (mNa M')
    | .invokespecial idx, 2 => Nat.beq len 3 && has tb (.methodLink own idx (mNm M')) && has tb (.instanceMethod (mNm M')) && decide ((mNm M').name = "<init>") && decide (mRt M' = none) && okY tb M' (mNa M' - 1) && Nat.ble 1 (mNa M')
    | _, _ => false)
  | none => false
def okGoto (pc y : Nat) (i : Instr) : Bool := match i with | .goto q => decide (0 ≤ (pc : Int) + q) && decide (((pc : Int) + q).toNat = y) | _ => false
def okFk (pc y : Nat) (tg : Int) (i : Instr) : Bool := match fkCode i with | some (c, q) => decide (c = y) && decide (0 ≤ (pc : Int) + q) && decide (((pc : Int) + q).toNat = tg.toNat) | none => false
def okOb (tb : List Jvm.Cond) (P : Prog) (own : String) (i : Instr) (len x y : Nat) : Bool :=
  match y with
  | 0 => Nat.beq len 1 && decide (i = .irem)
  | 1 => (match x with | 0 => Nat.beq len 1 && decide (i = .iastore) | x + 1 => Nat.beq len 1 && decide (i = .aastore) && (match P.1[x]? with | some C => has tb (.castable "[I" C.1) | none => false))
  | 2 => okNewR tb P own i len x
  | _ => Nat.beq len 1 && decide (i = .arraylength)
def okI (tb : List Jvm.Cond) (P : Prog) (M : Mth) (pc : Nat) (i : Instr) (len tag x y : Nat) (vals : List Int) : Bool :=
  bif Nat.ble 20 tag then okH tb P (mNm M).cls (mNm M).name (tag - 20) i len x y vals else
  match tag with
  | 0 => decide (loadOf i = some (x, kOf y)) && Nat.ble y 2
  | 1 => (match vals, constOf i with | [c], some q => decide (q.1 = cstV y c) | _, _ => false)
  | 2 => decide (storeOf i = some (x, kOf y)) && Nat.ble y 2
  | 3 => decide (arI i = some y)
  | 4 => (match vals with | [c] => decide (i = .iinc x c) | _ => false)
  | 5 => okGoto pc y i
  | 6 => (match vals with | [tg] => okFk pc y tg i | _ => false)
  | 8 => okC tb P (mNm M).cls i len x y
  | 9 => okR (mRt M) i len y
  | 10 => decide (arL i = some y) || decide (arS i = some y) || decide (arU i = some y) || decide (arX i = some y)
  | 11 => decide (y = 0 ∧ i = .dup) || decide (y = 1 ∧ i = .pop) || decide (y = 2 ∧ i = .dup2)
  | 14 => Nat.beq len 1 && decide (i = .iaload)
  | 15 => Nat.beq len 1 && decide (i = .iastore)
  | 16 => okOb tb P (mNm M).cls i len x y
  | 17 => (match x with | 0 => Nat.beq len 1 && decide (i = .iaload) | _ + 1 => Nat.beq len 1 && decide (i = .aaload))
  | _ => true
def okAI (tb : List Jvm.Cond) (P : Prog) (M : Mth) (a : AI) : Bool :=
  match a with
  | (pc, i, len, tag, x, y, vals) => Nat.beq tag 12 || Nat.beq tag 13 || (decide (decode (mBy M) pc = .ok (i, len)) && okI tb P M pc i len tag x y vals)
def okP (tb : List Jvm.Cond) (P : Prog) : Bool := P.1.all (okCls tb) && P.2.all fun M => (mCd M).all (okAI tb P M)

section Sound
variable {A : Array Value} {Z : State} {a0 : Array Value} {P : Prog} {K N n0 : Nat} {tb : List Jvm.Cond}

theorem okCls_spec (hw : ∀ d ∈ tb, d.before a0 Z = true) {C : Cls} (h : okCls tb C = true) :
    (∀ (j : Nat) (f : Fd), C.2.2[j]? = some f → Laid Z a0 C.1 f.1 f.2.1 f.2.2.1 ∧ parseFieldDescriptor f.2.2.1 = some f.2.2.2 ∧ okTy f.2.2.2 = true) ∧ (C.2.2.map fun f => f.2.1).Nodup := by
  unfold okCls at h
  obtain ⟨h1, h2⟩ := Bool.and_eq_true_iff.mp h
  refine ⟨fun j f hj => ?_, of_decide_eq_true h2⟩
  have hm : f ∈ C.2.2 := List.mem_of_getElem? hj
  have q := List.all_eq_true.mp h1 f hm
  unfold okFd at q
  simp only [Bool.and_eq_true, Bool.or_eq_true, decide_eq_true_eq] at q
  refine ⟨?_, q.1.2, q.2⟩
  rcases q.1.1 with q | q
  · exact Or.inl (hw _ (has_mem q))
  · exact Or.inr (hw _ (has_mem q))
theorem nodup_at {L : List Fd} (h : (L.map fun f => f.2.1).Nodup) {i j : Nat} {f f' : Fd} (hi : L[i]? = some f) (hj : L[j]? = some f') (ne : j ≠ i) : f'.2.1 ≠ f.2.1 := by
  intro e
  obtain ⟨hi1, hi2⟩ := List.getElem?_eq_some_iff.mp hi
  obtain ⟨hj1, hj2⟩ := List.getElem?_eq_some_iff.mp hj
  have l1 : i < (L.map fun f => f.2.1).length := by rw [List.length_map]; exact hi1
  have l2 : j < (L.map fun f => f.2.1).length := by rw [List.length_map]; exact hj1
  have q : (L.map fun f => f.2.1)[j] = (L.map fun f => f.2.1)[i] := by rw [List.getElem_map, List.getElem_map, hi2, hj2]; exact e
  exact ne ((List.getElem_inj h).mp q)

/-- one step on the heap -/
theorem hstep_ok {p : Program} {l : Launch} {e : Env} {R : Room} {s : State} {m : MethodId} {args : Array Value} {below : List Frame} {meth : Method} {c : Code} {σ : SFrame} {H : List ACell} {rs : Nat} {T : State} {g : JFrame} {q : HS} {own nm : String} {cd x y : Nat} {i : Instr} {len : Nat} {vals : List Int}
    (hw : ∀ d ∈ tb, d.before a0 Z = true) (hA : ∀ i, i < N → A[K + i]? = some (.ref (n0 + i))) (hcl : ∀ (k : Nat) (C : Cls), P.1[k]? = some C → okCls tb C = true)
    (S : St p l e R s m args below meth c Z A P N n0 σ H rs T g) (hx : p.tables.exec = Jvm.exec) (hZ : Z.Warmed39 s.vm) (hown : s.vm.findClass own = some m.cls) (hnm : meth.name = nm) (hR : n0 + N ≤ s.heap.size + R.cells)
    (hd : decode c.code g.pc = .ok (i, len)) (ho : okH tb P own nm cd i len x y vals = true) (h : hstep P K N c.maxLocals R.frames R.locals cd len x y vals σ H rs = some q) : Go p l e R s m args below meth c Z A P N n0 T g q := by
  have pure : ∀ {o : Option SFrame}, pureH o H rs = some q → ∃ σ', o = some σ' ∧ q = (σ', H, rs) := by
    intro o ho
    cases o with
    | none => cases ho
    | some σ' => cases ho; exact ⟨σ', rfl, rfl⟩
  have one : ∀ {j : Instr}, (Nat.beq len 1 && decide (i = j)) = true → len = 1 ∧ i = j := fun q => by
    obtain ⟨q1, q2⟩ := Bool.and_eq_true_iff.mp q
    exact ⟨Nat.eq_of_beq_eq_true q1, of_decide_eq_true q2⟩
  unfold hstep at h
  split at h
  · have ho : okGet tb P own i len x y = true := ho
    unfold okGet at ho
    split at ho
    · rename_i idx
      obtain ⟨l1, l2⟩ := Bool.and_eq_true_iff.mp ho
      have hl := Nat.eq_of_beq_eq_true l1
      subst hl
      refine hGet_ok (a0 := a0) S hx hZ hA hown hd ?_ h
      split at l2
      · rename_i C hC
        split at l2
        · rename_i f hf
          exact ⟨C, f, hC, hf, hw _ (has_mem l2)⟩
        · cases l2
      · cases l2
    · cases ho
  · have ho : okLd i len y = true := ho
    unfold okLd at ho
    simp only [Bool.and_eq_true, Bool.or_eq_true, decide_eq_true_eq] at ho
    have hl := Nat.eq_of_beq_eq_true ho.1
    subst hl
    refine hLoad_ok S hx hZ hA ?_ hd h
    rcases ho.2 with ((q | q) | q) | q
    · exact Or.inl q
    · exact Or.inr (Or.inl q)
    · exact Or.inr (Or.inr (Or.inl q))
    · exact Or.inr (Or.inr (Or.inr q))
  · have ho : okSt i len y = true := ho
    unfold okSt at ho
    simp only [Bool.and_eq_true, Bool.or_eq_true, decide_eq_true_eq] at ho
    have hl := Nat.eq_of_beq_eq_true ho.1
    subst hl
    refine hStore_ok S hx hZ hA ?_ hd h
    rcases ho.2 with (q | q) | q
    · exact Or.inl q
    · exact Or.inr (Or.inl q)
    · exact Or.inr (Or.inr q)
  · obtain ⟨rfl, rfl⟩ := one ho
    exact hLen_ok S hx hZ hA hd h
  · have ho : okPut tb P own nm i len x y = true := ho
    unfold okPut at ho
    split at ho
    · rename_i idx
      obtain ⟨l1, l2⟩ := Bool.and_eq_true_iff.mp ho
      have hl := Nat.eq_of_beq_eq_true l1
      subst hl
      refine hPut_ok (a0 := a0) S hx hZ hA hown hd ?_ h
      split at l2
      · rename_i C hC
        split at l2
        · rename_i f hf
          simp only [Bool.and_eq_true, Bool.or_eq_true, decide_eq_true_eq] at l2
          obtain ⟨hall, hnd⟩ := okCls_spec hw (hcl _ _ hC)
          refine ⟨C, f, hC, hf, hw _ (has_mem l2.1.1), ?_, hw _ (has_mem l2.2), fun j f' hj => ⟨(hall j f' hj).1, (hall j f' hj).2.1, fun ne => nodup_at hnd hf hj ne⟩⟩
          rcases l2.1.2 with q | q
          · exact Or.inl (hw _ (has_mem q))
          · exact Or.inr ⟨hw _ (has_mem q.1.1), q.1.2, hnm.trans q.2⟩
        · cases l2
      · cases l2
    · cases ho
  · have ho : okLdc tb own i len vals = true := ho
    obtain ⟨σ', e1, rfl⟩ := pure h
    refine hLdc_ok (a0 := a0) S hx hZ hown hd ?_ e1
    unfold okLdc at ho
    split at ho
    · rename_i idx v _
      obtain ⟨l1, l2⟩ := Bool.and_eq_true_iff.mp ho
      exact ⟨idx, v, rfl, Or.inl ⟨rfl, Nat.eq_of_beq_eq_true l1⟩, hw _ (has_mem l2)⟩
    · rename_i idx v _
      obtain ⟨l1, l2⟩ := Bool.and_eq_true_iff.mp ho
      exact ⟨idx, v, rfl, Or.inr ⟨rfl, Nat.eq_of_beq_eq_true l1⟩, hw _ (has_mem l2)⟩
    · cases ho
  · have ho : okLdc2 tb own i len vals = true := ho
    obtain ⟨σ', e1, rfl⟩ := pure h
    unfold okLdc2 at ho
    split at ho
    · rename_i idx v _
      obtain ⟨l1, l2⟩ := Bool.and_eq_true_iff.mp ho
      have hl := Nat.eq_of_beq_eq_true l1
      subst hl
      exact hLdc2_ok (a0 := a0) S hx hZ hown hd ⟨v, rfl, hw _ (has_mem l2)⟩ e1
    · cases ho
  · obtain ⟨rfl, rfl⟩ := one ho
    obtain ⟨σ', e1, rfl⟩ := pure h
    exact hDiv_ok S hx (b := true) hd e1
  · obtain ⟨rfl, rfl⟩ := one ho
    obtain ⟨σ', e1, rfl⟩ := pure h
    exact hDiv_ok S hx (b := false) hd e1
  · obtain ⟨rfl, rfl⟩ := one ho
    exact hStoreR_ok S hx hZ hA hd h
  · have ho : okNewA tb i len x = true := ho
    unfold okNewA at ho
    split at ho
    · simp only [Bool.and_eq_true, decide_eq_true_eq] at ho
      have hl := Nat.eq_of_beq_eq_true ho.1.1
      subst hl
      exact hNewA_ok (a0 := a0) S hx hZ hA hR hd ⟨ho.1.2, hw _ (has_mem ho.2)⟩ h
    · cases ho
  · have ho : okNewR tb P own i len x = true := ho
    unfold okNewR at ho
    split at ho
    · obtain ⟨l1, l2⟩ := Bool.and_eq_true_iff.mp ho
      have hl := Nat.eq_of_beq_eq_true l1
      subst hl
      refine hNewR_ok (a0 := a0) S hx hZ hA hown hR hd ?_ h
      split at l2
      · rename_i C hC
        simp only [Bool.and_eq_true] at l2
        exact ⟨C, hC, hw _ (has_mem l2.1), hw _ (has_mem l2.2)⟩
      · cases l2
    · cases ho
  · have ho : okNew tb P own i len x = true := ho
    unfold okNew at ho
    split at ho
    · obtain ⟨l1, l2⟩ := Bool.and_eq_true_iff.mp ho
      have hl := Nat.eq_of_beq_eq_true l1
      subst hl
      refine hNew_ok (a0 := a0) S hx hZ hA hown hR hd ?_ h
      split at l2
      · rename_i C hC
        simp only [Bool.and_eq_true] at l2
        exact ⟨C, hC, hw _ (has_mem l2.1.1), hw _ (has_mem l2.1.2), hw _ (has_mem l2.2), (okCls_spec hw (hcl _ _ hC)).1⟩
      · cases l2
    · cases ho
  · have ho : okCast tb own i len x = true := ho
    unfold okCast at ho
    split at ho
    · obtain ⟨l1, l2⟩ := Bool.and_eq_true_iff.mp ho
      have hl := Nat.eq_of_beq_eq_true l1
      subst hl
      exact hCast_ok (a0 := a0) S hx hZ hA hown hd (hw _ (has_mem l2)) h
    · cases ho
  · have ho : okInit tb own i len = true := ho
    unfold okInit at ho
    split at ho
    · simp only [Bool.and_eq_true] at ho
      have hl := Nat.eq_of_beq_eq_true ho.1.1.1
      subst hl
      exact hInit_ok (a0 := a0) S hx hZ hA hown hd ⟨hw _ (has_mem ho.1.1.2), hw _ (has_mem ho.1.2), hw _ (has_mem ho.2)⟩ h
    · cases ho
  · have ho : okCopy tb own i len = true := ho
    unfold okCopy at ho
    split at ho
    · simp only [Bool.and_eq_true] at ho
      have hl := Nat.eq_of_beq_eq_true ho.1.1.1.1
      subst hl
      exact hCopy_ok (a0 := a0) S hx hZ hA hown hd ⟨hw _ (has_mem ho.1.1.1.2), hw _ (has_mem ho.1.1.2), hw _ (has_mem ho.1.2), hw _ (has_mem ho.2)⟩ h
    · cases ho
  · have ho : okClone tb own i len x = true := ho
    unfold okClone at ho
    split at ho
    · simp only [Bool.and_eq_true] at ho
      have hl := Nat.eq_of_beq_eq_true ho.1.1.1.1.1.1
      subst hl
      exact hClone_ok (a0 := a0) S hx hZ hA hown hR hd ⟨hw _ (has_mem ho.1.1.1.1.1.2), hw _ (has_mem ho.1.1.1.1.2), hw _ (has_mem ho.1.1.1.2), hw _ (has_mem ho.1.1.2), hw _ (has_mem ho.1.2), hw _ (has_mem ho.2)⟩ h
    · cases ho
  · cases h

theorem kEq_of {k : VKind} {y : Nat} (h : kEq k y = true) (hy : y ≤ 2) : k = kOf y := by
  cases k <;> (have := Nat.eq_of_beq_eq_true h; subst this; rfl)
section Plain
variable {tb' : Tables} [Ours tb'] {e : Env} {below : List Frame} {T : State} {m : MethodId} {c : Code} {i : Instr} {len x y pc : Nat} {vals : List Int} {σ σ' : SFrame} {g : JFrame}
theorem rLoad_ok (h : At T m c below) (hexec : tb'.exec = Jvm.exec) (hI : Sym.Fits A Z m σ g) (hdg : decode c.code g.pc = .ok (i, len)) (ho : (decide (loadOf i = some (x, kOf y)) && Nat.ble y 2) = true) (hm : rLoad x y len σ = some σ') : ∃ g', Sym.Fits A Z m σ' g' ∧ Leads tb' e below T g T g' := by
  obtain ⟨o1, o2⟩ := Bool.and_eq_true_iff.mp ho
  have o1 := of_decide_eq_true o1
  have o2 := Nat.le_of_ble_eq_true o2
  refine moveLoad_sound h hexec hI hdg (?_ : moveLoad i len σ = some σ')
  unfold rLoad at hm
  unfold moveLoad
  rw [o1]
  dsimp only
  split at hm
  · rename_i v hv
    rw [hv]
    dsimp only
    cases hk : kEq v.k y
    · simp [hk] at hm
    · simp only [hk, cond_true] at hm
      cases hm
      rw [if_pos (kEq_of hk o2)]; rfl
  · cases hm
theorem rConst_ok (h : At T m c below) (hexec : tb'.exec = Jvm.exec) (hI : Sym.Fits A Z m σ g) (hdg : decode c.code g.pc = .ok (i, len)) (ho : (match vals, constOf i with | [c], some q => decide (q.1 = cstV y c) | _, _ => false) = true) (hm : rConst y len vals σ = some σ') : ∃ g', Sym.Fits A Z m σ' g' ∧ Leads tb' e below T g T g' := by
  refine moveConst_sound h hexec hI hdg (?_ : moveConst i len σ = some σ')
  unfold rConst at hm
  split at hm
  · rename_i cc
    cases hm
    split at ho
    · rename_i q e1 hq
      cases e1
      unfold moveConst
      rw [hq]
      have := of_decide_eq_true ho
      simp only [Option.map_some, this]; rfl
    · cases ho
  · cases hm
theorem easy_store {L : List SSlot} {v : SVal} (h : easy L x = true) (hv : v.k ≠ .long) : sStore L x v = some (L.set x (.val v)) := by
  unfold easy at h
  have hx : x < L.length := by
    rcases Nat.lt_or_ge x L.length with q | q
    · exact q
    · rw [List.getElem?_eq_none q] at h; cases h
  split at h
  · rename_i hL
    have e := (List.getElem?_eq_some_iff.mp hL).2
    simp [sStore, sStoreSelf, sSetAt, e, hx, hv]
  · rename_i hL
    have e := (List.getElem?_eq_some_iff.mp hL).2
    simp [sStore, sStoreSelf, sSetAt, e, hx, hv]
  · rename_i w hL
    have hw : w.k ≠ .long := by
      intro q
      rw [q] at h; cases h
    have e := (List.getElem?_eq_some_iff.mp hL).2
    simp [sStore, sStoreSelf, sSetAt, e, hx, hv, hw]
  · cases h
theorem rStore_ok (h : At T m c below) (hexec : tb'.exec = Jvm.exec) (hI : Sym.Fits A Z m σ g) (hdg : decode c.code g.pc = .ok (i, len)) (ho : (decide (storeOf i = some (x, kOf y)) && Nat.ble y 2) = true) (hm : rStore x y len σ = some σ') : ∃ g', Sym.Fits A Z m σ' g' ∧ Leads tb' e below T g T g' := by
  obtain ⟨o1, o2⟩ := Bool.and_eq_true_iff.mp ho
  have o1 := of_decide_eq_true o1
  have o2 := Nat.le_of_ble_eq_true o2
  refine moveStore_sound h hexec hI hdg (?_ : moveStore i len σ = some σ')
  unfold rStore at hm
  unfold moveStore
  rw [o1]
  split at hm
  · rename_i v r hst
    rw [hst]
    dsimp only
    cases hk : kEq v.k y
    · simp [hk] at hm
    · simp only [hk, cond_true] at hm
      have ek := kEq_of hk o2
      rw [if_pos ek]
      cases h1 : Nat.beq y 1
      · simp only [h1, cond_false] at hm
        cases he : easy σ.locals x
        · simp [he] at hm
        · simp only [he, cond_true] at hm
          cases hm
          have nl : v.k ≠ .long := by
            intro q
            rw [q] at hk
            have : Nat.beq y 1 = true := hk
            rw [h1] at this; cases this
          rw [easy_store he nl]; rfl
      · simp only [h1, cond_true] at hm
        split at hm
        · rename_i L hL
          cases hm
          rw [hL]; rfl
        · cases hm
  · cases hm
theorem nl_of {v : SVal} {α : Type} {a b : α} (h : v.k ≠ .long) : (match v.k with | .long => a | _ => b) = b := by
  cases hk : v.k with
  | long => exact absurd hk h
  | _ => rfl
theorem rStack_ok (h : At T m c below) (hexec : tb'.exec = Jvm.exec) (hI : Sym.Fits A Z m σ g) (hdg : decode c.code g.pc = .ok (i, len)) (ho : (decide (y = 0 ∧ i = .dup) || decide (y = 1 ∧ i = .pop) || decide (y = 2 ∧ i = .dup2)) = true) (hm : rStack y len σ = some σ') : ∃ g', Sym.Fits A Z m σ' g' ∧ Leads tb' e below T g T g' := by
  simp only [Bool.or_eq_true, decide_eq_true_eq] at ho
  rcases ho with (⟨rfl, rfl⟩ | ⟨rfl, rfl⟩) | ⟨rfl, rfl⟩
  · refine moveStack_sound h hexec hI hdg (?_ : moveStack .dup len σ = some σ')
    have hm : rDup len σ = some σ' := hm
    unfold rDup at hm
    unfold moveStack
    cases hs : σ.stack with
    | nil => rw [hs] at hm; cases hm
    | cons v r =>
      simp only [hs] at hm ⊢
      cases hk : v.k with
      | long => simp only [hk] at hm; cases hm
      | int => simp only [hk] at hm; cases hm; simp [adv, hk]
      | ref => simp only [hk] at hm; cases hm; simp [adv, hk]
  · refine moveStack_sound h hexec hI hdg (?_ : moveStack .pop len σ = some σ')
    have hm : rPop len σ = some σ' := hm
    unfold rPop at hm
    unfold moveStack
    cases hs : σ.stack with
    | nil => rw [hs] at hm; cases hm
    | cons v r =>
      simp only [hs] at hm ⊢
      cases hk : v.k with
      | long => simp only [hk] at hm; cases hm
      | int => simp only [hk] at hm; cases hm; simp [adv, hk]
      | ref => simp only [hk] at hm; cases hm; simp [adv, hk]
  · refine moveStack2_sound h hexec hI hdg (?_ : moveStack2 .dup2 len σ = some σ')
    have hm : rDup2 len σ = some σ' := hm
    unfold rDup2 at hm
    unfold moveStack2
    cases hs : σ.stack with
    | nil => rw [hs] at hm; cases hm
    | cons v r =>
      simp only [hs] at hm ⊢
      cases hk : v.k with
      | long => simp only [hk] at hm; cases hm; simp [adv, hk]
      | int =>
        simp only [hk] at hm
        cases r with
        | nil => cases hm
        | cons w r' =>
          dsimp only at hm ⊢
          cases hw : w.k with
          | long => simp only [hw] at hm; cases hm
          | int => simp only [hw] at hm; cases hm; simp [adv, hk, hw]
          | ref => simp only [hw] at hm; cases hm; simp [adv, hk, hw]
      | ref =>
        simp only [hk] at hm
        cases r with
        | nil => cases hm
        | cons w r' =>
          dsimp only at hm ⊢
          cases hw : w.k with
          | long => simp only [hw] at hm; cases hm
          | int => simp only [hw] at hm; cases hm; simp [adv, hk, hw]
          | ref => simp only [hw] at hm; cases hm; simp [adv, hk, hw]
theorem rIinc_ok (h : At T m c below) (hexec : tb'.exec = Jvm.exec) (hI : Sym.Fits A Z m σ g) (hdg : decode c.code g.pc = .ok (i, len)) (ho : (match vals with | [c] => decide (i = .iinc x c) | _ => false) = true) (hm : rIinc x len vals σ = some σ') : ∃ g', Sym.Fits A Z m σ' g' ∧ Leads tb' e below T g T g' := by
  unfold rIinc at hm
  split at hm
  · rename_i cc v hv
    have := of_decide_eq_true ho
    subst this
    split at hm
    · rename_i hk
      cases hm
      have he : easy σ.locals x = true := by unfold easy; rw [hv]; dsimp only; rw [hk]
      have hs := easy_store (v := ⟨.add v.t (.int (Int32.ofInt cc)), .int⟩) he (by simp)
      have hx := (List.getElem?_eq_some_iff.mp hv).1
      obtain ⟨g', F', L'⟩ := moveIinc_sound (e := e) h hexec hI hdg (show moveIinc (.iinc x cc) len σ = some { σ with pc := σ.pc + len, locals := σ.locals.set x (.val ⟨.add v.t (.int (Int32.ofInt cc)), .int⟩) } by
        unfold moveIinc
        dsimp only
        rw [hv]
        dsimp only
        rw [if_pos hk, hs]; rfl)
      refine ⟨g', ?_, L'⟩
      have F2 := Fits.nLoc x F'
      have e2 : nLoc x { σ with pc := σ.pc + len, locals := σ.locals.set x (.val ⟨.add v.t (.int (Int32.ofInt cc)), .int⟩) } = { σ with pc := σ.pc + len, locals := σ.locals.set x (.val ⟨nrm (.add v.t (.int (Int32.ofInt cc))), .int⟩) } := by
        unfold Mini.nLoc
        rw [List.getElem?_set_self hx]
        dsimp only
        rw [List.set_set]; rfl
      rw [e2] at F2
      exact F2
    · cases hm
  · cases hm
theorem rGoto_ok (h : At T m c below) (hexec : tb'.exec = Jvm.exec) (hI : Sym.Fits A Z m σ g) (hdg : decode c.code g.pc = .ok (i, len)) (hpc : σ.pc = pc) (ho : okGoto pc y i = true) : ∃ g', Sym.Fits A Z m { σ with pc := y } g' ∧ Leads tb' e below T g T g' := by
  unfold okGoto at ho
  split at ho
  · rename_i q
    simp only [Bool.and_eq_true, decide_eq_true_eq] at ho
    refine moveGoto_sound h hexec hI hdg (?_ : moveGoto (.goto q) σ = some { σ with pc := y })
    unfold moveGoto
    dsimp only
    rw [hpc, if_pos ho.1, ho.2]
  · cases ho
theorem rBinI_ok (h : At T m c below) (hexec : tb'.exec = Jvm.exec) (hI : Sym.Fits A Z m σ g) (hdg : decode c.code g.pc = .ok (i, len)) (ho : arI i = some y) (hm : rBinI y len σ = some σ') : ∃ g', Sym.Fits A Z m σ' g' ∧ Leads tb' e below T g T g' := by
  unfold rBinI at hm
  split at hm
  · rename_i b a r hst
    split at hm
    · rename_i ka kb
      cases hm
      obtain ⟨g', F', L'⟩ := moveBinI_sound (e := e) h hexec hI hdg (show moveBinI i len σ = some (adv σ len (⟨fI y a.t b.t, .int⟩ :: r)) by
        unfold moveBinI
        rw [hst]
        cases i <;> simp only [arI, reduceCtorEq, Option.some.injEq] at ho <;> subst ho <;> simp [binI, fI, ka, kb, adv])
      exact ⟨g', Fits.nTop F', L'⟩
    · cases hm
  · cases hm
theorem rOther_ok (h : At T m c below) (hexec : tb'.exec = Jvm.exec) (hI : Sym.Fits A Z m σ g) (hdg : decode c.code g.pc = .ok (i, len)) (ho : (decide (arL i = some y) || decide (arS i = some y) || decide (arU i = some y) || decide (arX i = some y)) = true) (hm : rOther y len σ = some σ') : ∃ g', Sym.Fits A Z m σ' g' ∧ Leads tb' e below T g T g' := by
  simp only [Bool.or_eq_true, decide_eq_true_eq] at ho
  rcases ho with ((ho | ho) | ho) | ho
  · have hm : rBinL y len σ = some σ' := by
      cases i <;> simp only [arL, reduceCtorEq, Option.some.injEq] at ho <;> subst ho <;> exact hm
    unfold rBinL at hm
    split at hm
    · rename_i b a r hst
      split at hm
      · rename_i ka kb
        cases hm
        obtain ⟨g', F', L'⟩ := moveBinL_sound (e := e) h hexec hI hdg (show moveBinL i len σ = some (adv σ len (⟨fL y a.t b.t, .long⟩ :: r)) by
          unfold moveBinL
          rw [hst]
          cases i <;> simp only [arL, reduceCtorEq, Option.some.injEq] at ho <;> subst ho <;> simp [binL, fL, ka, kb, adv])
        exact ⟨g', Fits.nTop F', L'⟩
      · cases hm
    · cases hm
  · have hm : rShL y len σ = some σ' := by
      cases i <;> simp only [arS, reduceCtorEq, Option.some.injEq] at ho <;> subst ho <;> exact hm
    unfold rShL at hm
    split at hm
    · rename_i b a r hst
      split at hm
      · rename_i ka kb
        cases hm
        obtain ⟨g', F', L'⟩ := moveShL_sound (e := e) h hexec hI hdg (show moveShL i len σ = some (adv σ len (⟨fS y a.t b.t, .long⟩ :: r)) by
          unfold moveShL
          rw [hst]
          cases i <;> simp only [arS, reduceCtorEq, Option.some.injEq] at ho <;> subst ho <;> simp [shL, fS, ka, kb, adv])
        exact ⟨g', Fits.nTop F', L'⟩
      · cases hm
    · cases hm
  · have hm : rUn y len σ = some σ' := by
      cases i <;> simp only [arU, reduceCtorEq, Option.some.injEq] at ho <;> subst ho <;> exact hm
    unfold rUn at hm
    split at hm
    · rename_i a r hst
      split at hm
      · rename_i ka
        cases hm
        obtain ⟨g', F', L'⟩ := moveUnII_sound (e := e) h hexec hI hdg (show moveUnII i len σ = some (adv σ len (⟨fU y a.t, .int⟩ :: r)) by
          unfold moveUnII
          rw [hst]
          cases i <;> simp only [arU, reduceCtorEq, Option.some.injEq] at ho <;> subst ho <;> simp [unII, fU, ka, adv])
        exact ⟨g', Fits.nTop F', L'⟩
      · cases hm
    · cases hm
  · have hm : rX y len σ = some σ' := by
      cases i <;> simp only [arX, reduceCtorEq, Option.some.injEq] at ho <;> subst ho <;> exact hm
    unfold rX at hm
    split at hm
    · rename_i a r hst ho
      split at hm
      · rename_i ka
        cases hm
        obtain ⟨g', F', L'⟩ := moveI2l_sound (e := e) h hexec hI hdg (show moveI2l i len σ = some (adv σ len (⟨.op1 .i2l a.t, .long⟩ :: r)) by
          unfold moveI2l
          rw [hst]
          cases i <;> simp [arX] at ho <;> simp [ka, adv])
        exact ⟨g', Fits.nTop F', L'⟩
      · cases hm
    · rename_i a r hst ho
      split at hm
      · rename_i ka
        cases hm
        obtain ⟨g', F', L'⟩ := moveL2i_sound (e := e) h hexec hI hdg (show moveL2i i len σ = some (adv σ len (⟨.op1 .l2i a.t, .int⟩ :: r)) by
          unfold moveL2i
          rw [hst]
          cases i <;> simp [arX] at ho <;> simp [ka, adv])
        exact ⟨g', Fits.nTop F', L'⟩
      · cases hm
    · rename_i a r hst ho
      split at hm
      · rename_i ka
        cases hm
        obtain ⟨g', F', L'⟩ := moveLneg_sound (e := e) h hexec hI hdg (show moveLneg i len σ = some (adv σ len (⟨.op1 .lneg a.t, .long⟩ :: r)) by
          unfold moveLneg
          rw [hst]
          cases i <;> simp [arX] at ho <;> simp [ka, adv])
        exact ⟨g', Fits.nTop F', L'⟩
      · cases hm
    · rename_i b a r hst ho
      split at hm
      · rename_i ka kb
        cases hm
        obtain ⟨g', F', L'⟩ := moveLcmp_sound (e := e) h hexec hI hdg (show moveLcmp i len σ = some (adv σ len (⟨.op2 .lcmp a.t b.t, .int⟩ :: r)) by
          unfold moveLcmp
          rw [hst]
          cases i <;> simp [arX] at ho <;> simp [ka, kb, adv])
        exact ⟨g', Fits.nTop F', L'⟩
      · cases hm
    · cases hm
end Plain

theorem stp_eval (t : Term) : (stp t).eval A Z none [] Z = t.eval A Z none [] Z := by cases t <;> rfl
theorem eq_self {a b : Term} {b' : Bool} (h : stp a = stp b) (hv : (Jvm.Cond.eq a b).value A Z none Z [] = some b') : true = b' := by
  have e : a.eval A Z none [] Z = b.eval A Z none [] Z := by rw [← stp_eval a, ← stp_eval b, h]
  obtain ⟨u, v, h1, h2, -, -⟩ := cmp_v (Or.inl hv)
  rw [e] at h1
  cases h1.symm.trans h2
  cases u <;> simp [Jvm.Cond.value, e, h1] at hv <;> first | exact hv.symm | exact hv
theorem lt_self {a b : Term} {b' : Bool} (h : stp a = stp b) (hv : (Jvm.Cond.lt a b).value A Z none Z [] = some b') : false = b' := by
  have e : a.eval A Z none [] Z = b.eval A Z none [] Z := by rw [← stp_eval a, ← stp_eval b, h]
  obtain ⟨u, v, h1, h2, -, -⟩ := cmp_v (Or.inr (Or.inl hv))
  rw [e] at h1
  cases h1.symm.trans h2
  cases u with
  | int x =>
    simp only [Jvm.Cond.value, e, h1, Option.some.injEq] at hv
    rw [← hv]; simp [Int32.lt_irrefl]
  | long x =>
    simp only [Jvm.Cond.value, e, h1, Option.some.injEq] at hv
    rw [← hv]; simp [Int64.lt_irrefl]
  | _ => simp [Jvm.Cond.value, e, h1] at hv
theorem lcmp_self {t u : Term} (h : stp t = .op2 .lcmp u u) {x : Value} (he : t.eval A Z none [] Z = some x) : x = .int 0 := by
  rw [← stp_eval t, h] at he
  obtain ⟨a, b, h1, h2, h3⟩ := op2_v he
  cases h1.symm.trans h2
  cases a <;> simp [Binary.apply] at h3
  exact h3.symm
theorem decA_sound (hA : ∀ i, i < N → A[K + i]? = some (.ref (n0 + i))) {G : Jvm.Cond} {b b' : Bool} (h : decA K N G = some b) (hv : G.value A Z none Z [] = some b') : b = b' := by
  have ref : ∀ {t : Term} {i : Nat}, stp t = .arg i → K ≤ i → i < K + N → t.eval A Z none [] Z = some (.ref (n0 + (i - K))) := fun {t i} h1 h2 h3 => by
    rw [← stp_eval t, h1]
    have := hA (i - K) (by omega)
    rw [show K + (i - K) = i by omega] at this
    exact this
  have num : ∀ {t : Term} {x : Int32}, stp t = .int x → t.eval A Z none [] Z = some (.int x) := fun {t x} h1 => by rw [← stp_eval t, h1]; rfl
  have nul : ∀ {t : Term}, stp t = .null → t.eval A Z none [] Z = some .null := fun {t} h1 => by rw [← stp_eval t, h1]; rfl
  unfold decA at h
  split at h
  · rename_i s t
    split at h
    · rename_i x y h1 h2
      simp only [Jvm.Cond.value, num h1, num h2, Option.some.injEq] at hv h
      rw [← h, ← hv]
    · rename_i i j h1 h2
      cases hb : (Nat.ble K i && Nat.ble K j && Nat.blt i (K + N) && Nat.blt j (K + N))
      · simp only [hb, cond_false] at h
        split at h
        · rename_i e
          cases h
          subst e
          exact eq_self (h1.trans h2.symm) hv
        · cases h
      · simp only [hb, cond_true, Option.some.injEq] at h
        simp only [Bool.and_eq_true, Nat.blt_eq] at hb
        obtain ⟨⟨⟨b1, b2⟩, b3⟩, b4⟩ := hb
        have b1 := Nat.le_of_ble_eq_true b1
        have b2 := Nat.le_of_ble_eq_true b2
        simp only [Jvm.Cond.value, ref h1 b1 b3, ref h2 b2 b4, Option.some.injEq] at hv
        rw [← h, ← hv]
        by_cases e : i = j
        · subst e; simp
        · have : ¬ n0 + (i - K) = n0 + (j - K) := by omega
          have e' : Nat.beq i j = false := by
            cases hq : Nat.beq i j
            · rfl
            · exact absurd (Nat.eq_of_beq_eq_true hq) e
          rw [e']; exact (decide_eq_false this).symm
    · rename_i i h1 h2
      cases hb : (Nat.ble K i && Nat.blt i (K + N))
      · simp [hb] at h
      · simp only [hb, cond_true, Option.some.injEq] at h
        simp only [Bool.and_eq_true, Nat.blt_eq] at hb
        have b1 := Nat.le_of_ble_eq_true hb.1
        simp only [Jvm.Cond.value, ref h1 b1 hb.2, nul h2, Option.some.injEq] at hv
        rw [← h, ← hv]
    · rename_i i h1 h2
      cases hb : (Nat.ble K i && Nat.blt i (K + N))
      · simp [hb] at h
      · simp only [hb, cond_true, Option.some.injEq] at h
        simp only [Bool.and_eq_true, Nat.blt_eq] at hb
        have b1 := Nat.le_of_ble_eq_true hb.1
        simp only [Jvm.Cond.value, nul h1, ref h2 b1 hb.2, Option.some.injEq] at hv
        rw [← h, ← hv]
    · rename_i h1 h2
      simp only [Jvm.Cond.value, nul h1, nul h2, Option.some.injEq] at hv h
      rw [← h, ← hv]
    · rename_i u v z h1 h2
      split at h
      · rename_i e
        obtain ⟨rfl, rfl⟩ := e
        cases h
        obtain ⟨x, y, g1, g2, -, -⟩ := cmp_v (Or.inl hv)
        have := lcmp_self h1 g1
        subst this
        simp only [Jvm.Cond.value, g1, num h2, Option.some.injEq] at hv
        rw [← hv]; rfl
      · cases h
    · split at h
      · rename_i e
        cases h
        exact eq_self e hv
      · cases h
  · rename_i s t
    split at h
    · rename_i x y h1 h2
      simp only [Jvm.Cond.value, num h1, num h2, Option.some.injEq] at hv h
      rw [← h, ← hv]
    · rename_i u v z h1 h2
      split at h
      · rename_i e
        obtain ⟨rfl, rfl⟩ := e
        cases h
        obtain ⟨x, y, g1, g2, -, -⟩ := cmp_v (Or.inr (Or.inl hv))
        have := lcmp_self h1 g1
        subst this
        simp only [Jvm.Cond.value, g1, num h2, Option.some.injEq] at hv
        rw [← hv]; rfl
      · cases h
    · rename_i z u v h1 h2
      split at h
      · rename_i e
        obtain ⟨rfl, rfl⟩ := e
        cases h
        obtain ⟨x, y, g1, g2, -, -⟩ := cmp_v (Or.inr (Or.inl hv))
        have := lcmp_self h2 g2
        subst this
        simp only [Jvm.Cond.value, num h1, g2, Option.some.injEq] at hv
        rw [← hv]; rfl
      · cases h
    · split at h
      · rename_i e
        cases h
        exact lt_self e hv
      · cases h
  · cases h
theorem look_sound {G : Jvm.Cond} : ∀ {π : Path} {b : Bool}, look G π = some b → Holds A Z π → G.value A Z none Z [] = some b
  | [], _, h, _ => by cases h
  | (F, c) :: r, b, h, hp => by
    unfold look at h
    split at h
    · rename_i e
      cases h
      subst e
      exact hp (G, _) (List.mem_cons_self ..)
    · exact look_sound h fun f hf => hp f (List.mem_cons_of_mem _ hf)
theorem decG_sound (hA : ∀ i, i < N → A[K + i]? = some (.ref (n0 + i))) {G : Jvm.Cond} {π : Path} {b b' : Bool} (h : decG K N G π = some b) (hp : Holds A Z π) (hv : G.value A Z none Z [] = some b') : b = b' := by
  unfold decG at h
  split at h
  · rename_i c hc
    cases h
    exact decA_sound hA hc hv
  · have := look_sound h hp
    rw [hv] at this
    cases this; rfl
theorem le_lt {a b : Term} {bv : Bool} (h : (Jvm.Cond.le a b).value A Z none Z [] = some bv) : (Jvm.Cond.lt b a).value A Z none Z [] = some (!bv) := by
  obtain ⟨u, v, h1, h2, hk, -⟩ := cmp_v (Or.inr (Or.inr h))
  cases u with
  | int u =>
    obtain ⟨v, rfl⟩ := hk
    simp only [Jvm.Cond.value, h1, h2, Option.some.injEq] at h ⊢
    subst h
    by_cases q : u ≤ v
    · simp [q, Int32.not_lt.mpr q]
    · simp [q, Int32.not_le.mp q]
  | long u =>
    obtain ⟨v, rfl⟩ := hk
    simp only [Jvm.Cond.value, h1, h2, Option.some.injEq] at h ⊢
    subst h
    by_cases q : u ≤ v
    · simp [q, Int64.not_lt.mpr q]
    · simp [q, Int64.not_le.mp q]
  | _ => cases v <;> simp [Jvm.Cond.value, h1, h2] at h
theorem core_val {G : Jvm.Cond} {bv : Bool} (h : G.value A Z none Z [] = some bv) : (core G).1.value A Z none Z [] = some (bv == (core G).2) := by
  unfold core
  split
  · rename_i c
    have := not_v h
    rw [this]; cases bv <;> rfl
  · rename_i a b
    rw [le_lt h]; cases bv <;> rfl
  · show G.value A Z none Z [] = some (bv == true)
    rw [h]; cases bv <;> rfl

theorem rFork_ok {tb' : Tables} [Ours tb'] {e : Env} {below : List Frame} {T : State} {m : MethodId} {c : Code} {i : Instr} {len y pc : Nat} {σ : SFrame} {g : JFrame} {cc : Nat} {q : Int} {tg : Nat} {G : Jvm.Cond} {fl : Bool} {st : List SVal} (h : At T m c below) (hexec : tb'.exec = Jvm.exec) (hI : Sym.Fits A Z m σ g) (hdg : decode c.code g.pc = .ok (i, len)) (hpc : σ.pc = pc)
    (hf : fkCode i = some (y, q)) (hq : 0 ≤ (pc : Int) + q) (htg : ((pc : Int) + q).toNat = tg) (hm : rFork y σ.stack = some (G, fl, st)) :
    ∃ bv : Bool, G.value A Z none Z [] = some (bv == fl) ∧ ∃ g', Sym.Fits A Z m (if bv then { σ with pc := tg, stack := st } else adv σ len st) g' ∧ Leads tb' e below T g T g' := by
  subst hpc
  have key : ∀ G', moveFork i len σ = some (G', { σ with pc := tg, stack := st }, adv σ len st) → core G' = (G, fl) → ∃ bv : Bool, G.value A Z none Z [] = some (bv == fl) ∧ ∃ g', Sym.Fits A Z m (if bv then { σ with pc := tg, stack := st } else adv σ len st) g' ∧ Leads tb' e below T g T g' := by
    intro G' h1 h2
    obtain ⟨bv, hG, g', F', L'⟩ := moveFork_sound (e := e) h hexec hI hdg h1
    have hcv := core_val (hG none Z [])
    rw [h2] at hcv
    exact ⟨bv, hcv, g', F', L'⟩
  subst htg
  cases i
  case if_icmp k o =>
    cases k
    all_goals
      simp only [fkCode, cCode, Option.some.injEq, Prod.mk.injEq] at hf
      obtain ⟨rfl, rfl⟩ := hf
      cases hs : σ.stack with
      | nil => simp [rFork, hs] at hm
      | cons b t =>
        cases t with
        | nil => simp [rFork, hs] at hm
        | cons a r =>
          cases ka : a.k <;> cases kb : b.k <;> simp [rFork, hs, ka, kb] at hm
          obtain ⟨rfl, rfl, rfl⟩ := hm
          exact key _ (by simp only [moveFork, hs]; rw [if_pos ⟨ka, kb, hq⟩]; rfl) rfl
  case ifCond k o =>
    cases k
    all_goals
      simp only [fkCode, cCode, Option.some.injEq, Prod.mk.injEq] at hf
      obtain ⟨rfl, rfl⟩ := hf
      cases hs : σ.stack with
      | nil => simp [rFork, hs] at hm
      | cons a r =>
        cases ka : a.k <;> simp [rFork, hs, ka] at hm
        obtain ⟨rfl, rfl, rfl⟩ := hm
        exact key _ (by simp only [moveFork, hs]; rw [if_pos ⟨ka, hq⟩]; rfl) rfl
  case ifnull o =>
    all_goals
      simp only [fkCode, Option.some.injEq, Prod.mk.injEq] at hf
      obtain ⟨rfl, rfl⟩ := hf
      cases hs : σ.stack with
      | nil => simp [rFork, hs] at hm
      | cons a r =>
        cases ka : a.k <;> simp [rFork, hs, ka] at hm
        obtain ⟨rfl, rfl, rfl⟩ := hm
        exact key _ (by simp only [moveFork, hs]; rw [if_pos ⟨ka, hq⟩]; rfl) rfl
  case ifnonnull o =>
    all_goals
      simp only [fkCode, Option.some.injEq, Prod.mk.injEq] at hf
      obtain ⟨rfl, rfl⟩ := hf
      cases hs : σ.stack with
      | nil => simp [rFork, hs] at hm
      | cons a r =>
        cases ka : a.k <;> simp [rFork, hs, ka] at hm
        obtain ⟨rfl, rfl, rfl⟩ := hm
        exact key _ (by simp only [moveFork, hs]; rw [if_pos ⟨ka, hq⟩]; rfl) rfl
  case if_acmp k o =>
    cases k
    all_goals
      simp only [fkCode, Option.some.injEq, Prod.mk.injEq] at hf
      obtain ⟨rfl, rfl⟩ := hf
      cases hs : σ.stack with
      | nil => simp [rFork, hs] at hm
      | cons b t =>
        cases t with
        | nil => simp [rFork, hs] at hm
        | cons a r =>
          cases ka : a.k <;> cases kb : b.k <;> simp [rFork, hs, ka, kb] at hm
          obtain ⟨rfl, rfl, rfl⟩ := hm
          exact key _ (by simp only [moveFork, hs]; rw [if_pos ⟨ka, kb, hq⟩]; rfl) rfl
  all_goals simp [fkCode] at hf
def DenR (A : Array Value) (Z : State) : Option SVal → Option Value → Prop
  | none, none => True
  | some x, some v => x.Den A Z v
  | _, _ => False
theorem ret_ok {p : Program} {l : Launch} {e : Env} {R : Room} {s : State} {m : MethodId} {args : Array Value} {below : List Frame} {meth : Method} {c : Code} {T : State} {locs : List Loc} {cells slots : Nat} (X : Stand p l e R s m args below meth c T locs cells slots) (hx : p.tables.exec = Jvm.exec)
    {σ : SFrame} {g : JFrame} (F : Sym.Fits A Z m σ g) {rt : Option FieldType} (hret : meth.sig.returnType = rt) {i : Instr} {len y : Nat} (hd : decode c.code g.pc = .ok (i, len)) (ho : okR rt i len y = true) {sv : Option SVal} (h : retV y σ.stack = some sv) :
    ∃ v, DenR A Z sv v ∧ (meth.sig.returnType = none → v = none) ∧ ∀ fs, (∀ (f : JFrame) (acts : List Action), f.method = m → f.locked = none → f.entered = [] → (doReturn e (T.setTop f) acts v).1 = T.setFrames fs) → Steps p.tables e below (T.setTop g) (T.setFrames fs) := by
  obtain ⟨gm, gpc, gl, gs, glk, gen, gmr⟩ := g
  have f1 := F.method
  have f2 := F.locked
  have f3 := F.entered
  have f4 := F.mroom
  dsimp only at f1 f2 f3 f4
  subst f1 f2 f3 f4
  have h0 := F.stack
  unfold okR at ho
  obtain ⟨ol, ho2⟩ := Bool.and_eq_true_iff.mp ho
  clear ho
  have ol := Nat.eq_of_beq_eq_true ol
  subst ol
  split at ho2
  · simp only [Bool.and_eq_true, decide_eq_true_eq] at ho2
    obtain ⟨rfl, rfl⟩ := ho2
    have h : ret0 σ.stack = some sv := h
    unfold ret0 at h
    split at h
    · rename_i x r hst
      rw [hst] at h0
      obtain ⟨w, ws, e1, d, h1⟩ := h0.cons_inv
      dsimp only at e1
      subst e1
      split at h
      · rename_i hk
        cases h
        obtain ⟨z, rfl⟩ := d.int hk
        refine ⟨some (.int z), d, fun q => (by rw [hret] at q; cases q), fun fs hl => ?_⟩
        exact retOut X hx hret rfl (Or.inl ⟨rfl, Or.inl rfl, z, rfl⟩) hd hl
      · cases h
    · cases h
  · simp only [Bool.and_eq_true, decide_eq_true_eq] at ho2
    obtain ⟨rfl, rfl⟩ := ho2
    have h : ret1 σ.stack = some sv := h
    unfold ret1 at h
    split at h
    · rename_i x r hst
      rw [hst] at h0
      obtain ⟨w, ws, e1, d, h1⟩ := h0.cons_inv
      dsimp only at e1
      subst e1
      split at h
      · rename_i hk
        cases h
        obtain ⟨z, rfl⟩ := d.int hk
        obtain ⟨c1, z', c2, c3⟩ := narrowT_spec (args := A) (s := Z) .boolean d.1 d.2.1
        have en : nar .boolean z = z' := by cases c2; rfl
        subst en
        refine ⟨some (.int (nar .boolean z)), Den.nV (x := ⟨narrowT .boolean x.t, .int⟩) ⟨c1, c3, rfl⟩, fun q => (by rw [hret] at q; cases q), fun fs hl => ?_⟩
        exact retN X hx (t := .boolean) hret (by simp) hd hl
      · cases h
    · cases h
  · simp only [Bool.and_eq_true, decide_eq_true_eq] at ho2
    obtain ⟨rfl, rfl⟩ := ho2
    have h : ret2 σ.stack = some sv := h
    unfold ret2 at h
    split at h
    · rename_i x r hst
      rw [hst] at h0
      obtain ⟨w, ws, e1, d, h1⟩ := h0.cons_inv
      dsimp only at e1
      subst e1
      split at h
      · rename_i hk
        cases h
        obtain ⟨z, rfl⟩ := d.int hk
        obtain ⟨c1, z', c2, c3⟩ := narrowT_spec (args := A) (s := Z) .byte d.1 d.2.1
        have en : nar .byte z = z' := by cases c2; rfl
        subst en
        refine ⟨some (.int (nar .byte z)), Den.nV (x := ⟨narrowT .byte x.t, .int⟩) ⟨c1, c3, rfl⟩, fun q => (by rw [hret] at q; cases q), fun fs hl => ?_⟩
        exact retN X hx (t := .byte) hret (by simp) hd hl
      · cases h
    · cases h
  · simp only [Bool.and_eq_true, decide_eq_true_eq] at ho2
    obtain ⟨rfl, rfl⟩ := ho2
    have h : ret3 σ.stack = some sv := h
    unfold ret3 at h
    split at h
    · rename_i x r hst
      rw [hst] at h0
      obtain ⟨w, ws, e1, d, h1⟩ := h0.cons_inv
      dsimp only at e1
      subst e1
      split at h
      · rename_i hk
        cases h
        obtain ⟨z, rfl⟩ := d.long hk
        refine ⟨some (.long z), d, fun q => (by rw [hret] at q; cases q), fun fs hl => ?_⟩
        exact retOut X hx hret rfl (Or.inr (Or.inl ⟨rfl, rfl, z, rfl⟩)) hd hl
      · cases h
    · cases h
  · simp only [Bool.and_eq_true, decide_eq_true_eq] at ho2
    obtain ⟨rfl, hb⟩ := ho2
    split at hb
    · rename_i ty
      have h : ret4 σ.stack = some sv := h
      unfold ret4 at h
      split at h
      · rename_i x r hst
        rw [hst] at h0
        obtain ⟨w, ws, e1, d, h1⟩ := h0.cons_inv
        dsimp only at e1
        subst e1
        split at h
        · rename_i hk
          cases h
          have hr := d.isRef hk
          refine ⟨some w, d, fun q => (by rw [hret] at q; cases q), fun fs hl => ?_⟩
          exact retOut X hx hret (by rcases ref_cases hr with rfl | ⟨a, rfl⟩ <;> cases ty <;> rfl) (Or.inr (Or.inr (Or.inr (Or.inr ⟨rfl, hb, hr⟩)))) hd hl
        · cases h
      · cases h
    · cases hb
  · simp only [Bool.and_eq_true, decide_eq_true_eq] at ho2
    obtain ⟨rfl, rfl⟩ := ho2
    have h : ret5 σ.stack = some sv := h
    unfold ret5 at h
    split at h
    · rename_i hst
      cases h
      rw [hst] at h0
      have e1 : gs = [] := by cases gs with | nil => rfl | cons a b => exact h0.elim
      subst e1
      exact ⟨none, trivial, fun _ => rfl, fun fs hl => X.returnOut hx hret hd hl⟩
    · cases h
  · cases ho2

theorem laid_den : ∀ {as : List SVal} {vs : List Value}, DenStack A Z as vs → DenList A Z (laidS as) (laidSlots vs)
  | [], [], _ => trivial
  | x :: xs, v :: vs, h => by
    have ih := laid_den h.2
    have hc := h.1.category
    unfold laidS laidSlots
    cases hk : x.k with
    | long =>
      rw [if_pos (hc.mpr hk)]
      exact ⟨h.1, trivial, ih⟩
    | int =>
      rw [if_neg (fun q => by rw [hc.mp q] at hk; cases hk)]
      exact ⟨h.1, ih⟩
    | ref =>
      rw [if_neg (fun q => by rw [hc.mp q] at hk; cases hk)]
      exact ⟨h.1, ih⟩
  | [], _ :: _, h => h.elim
  | _ :: _, [], h => h.elim
theorem entry_fits {m : MethodId} {as : List SVal} {vs : List Value} (h : DenStack A Z as vs) (mx : Nat) : Sym.Fits A Z m (entryS as mx) (entryFrame m vs.toArray mx) := by
  have h0 := laid_den h
  refine ⟨rfl, rfl, fun i => ?_, trivial, rfl, rfl, rfl⟩
  have h1 : DenList A Z (entryS as mx).locals (argsToLocals vs.toArray mx).toList := by
    rw [argsToLocals_toList]
    show DenList A Z (laidS as ++ List.replicate (mx - (laidS as).length) .unset) (laidSlots vs ++ List.replicate (mx - (laidSlots vs).length) .unset)
    rw [← h0.length]
    exact h0.append (DenList.unset _)
  have h2 := h1.get i
  rw [Array.getElem?_toList] at h2
  exact h2

/-- a callee's own theorem pays the call; what it makes and writes is told exactly -/
theorem backOf' {p : Program} {l : Launch} {e : Env} {R : Room} {s : State} {args : Array Value} {below : List Frame} {h : Heap} {y : MethodName} {bytes : ByteArray} {maxL : Nat} {ret : Option FieldType} {rm : Room} {len W : Nat} {as' : Array Value} {Q : Option Value → Heap → List Loc → Nat → Nat → Prop}
    (hM : MetFree l y (head1 [Jvm.Cond.code y bytes maxL ret] rm) (fun a U => a = as' ∧ Z.Warmed39 U.vm ∧ U.heap = h) (fun _ _ _ _ _ => True) (fun _ U o U' => ∃ v L k n, o = .returned v ∧ Q v U'.heap L k n ∧ FrameEnd U o U' L k n))
    (hZ : Z.Warmed39 s.vm) (wc : (Jvm.Cond.code y bytes maxL ret).before a0 Z = true) (wz : (Jvm.Cond.initialized y.cls).before a0 Z = true) (hf : rm.frames + 1 ≤ R.frames) (hl : W + (maxL + 11) + rm.locals ≤ R.locals) :
    Back l R p e below s args y len W (fun B a => a = as' ∧ B.U.heap = h ∧ B.cells + rm.cells ≤ R.cells ∧ B.slots + rm.slots ≤ R.slots)
      (fun B _ v B' => ∃ L k n, Q v B'.U.heap L k n ∧ B'.locs = B.locs ++ L ∧ B'.cells = B.cells + k ∧ B'.slots = B.slots + n) :=
  Back.of_free (bytes := bytes) (maxL := maxL) (ret := ret) (E := fun _ _ o t L k n => ∃ v, o = .returned v ∧ Q v t.heap L k n) hM hf hl
    (fun m meth c B a Y hp => have hU : Z.Warmed39 B.U.vm := wtrans hZ Y.warmed
      ⟨by show (Jvm.Cond.and _ .tt).before a B.U = true; rw [Jvm.Cond.before_and, mv hU wc]; rfl, mv hU wc, mv hU wz, hp.2.2.1, hp.2.2.2⟩)
    (fun m meth c B a g mk Y hp => ⟨hp.1, wtrans hZ Y.warmed, hp.2.1⟩) (fun _ _ _ _ _ _ _ _ _ => trivial)
    (fun _ _ _ _ ⟨v, L, k, n, h1, h2, h3⟩ => ⟨L, k, n, h3, v, h1, h2⟩)
    (fun m meth c B a g mk v t L k n Y hp _ _ ⟨v', e3, e4⟩ => by cases e3; exact ⟨L, k, n, e4, rfl, rfl, rfl⟩)

theorem eq_eval {t w : Term} {u : Value} (h : (Jvm.Cond.eq t w).value A Z none Z [] = some true) (ht : t.eval A Z none [] Z = some u) (hr : (∃ z, u = .int z) ∨ ∃ z, u = .long z) : w.eval A Z none [] Z = some u := by
  obtain ⟨a, b, h1, h2, hk, -⟩ := cmp_v (Or.inl h)
  cases ht.symm.trans h1
  rcases hr with ⟨z, rfl⟩ | ⟨z, rfl⟩
  · obtain ⟨y, rfl⟩ := hk
    simp only [Jvm.Cond.value, h1, h2, Option.some.injEq, decide_eq_true_eq] at h
    rw [h2, h]
  · obtain ⟨y, rfl⟩ := hk
    simp only [Jvm.Cond.value, h1, h2, Option.some.injEq, decide_eq_true_eq] at h
    rw [h2, h]
theorem sameV_ok {π : Path} {v w : SVal} {a : Ans} {u : Value} (h : sameV π v w = some a) (hs : Sat A Z a) (hp : Holds A Z π) (d : v.Den A Z u) : w.Den A Z u := by
  unfold sameV at h
  split at h
  · rename_i e; subst e; exact d
  · split at h
    · rename_i hk
      obtain ⟨hk, hcl⟩ := hk
      split at h
      · cases h
      · rename_i hne
        cases h
        obtain ⟨G, hG, hv⟩ := hs _ (List.mem_singleton.mpr rfl) hp
        cases List.mem_singleton.mp hG
        have hr : (∃ z, u = .int z) ∨ ∃ z, u = .long z := by
          cases hq : v.k with
          | int => exact Or.inl (d.int hq)
          | long => exact Or.inr (d.long hq)
          | ref => exact absurd hq hne
        exact ⟨hcl, eq_eval hv d.2.1 hr, by rw [← hk]; exact d.2.2⟩
    · cases h
theorem sameS_ok {π : Path} : ∀ {vs ws : List SVal} {a : Ans} {us : List Value}, sameS π vs ws = some a → Sat A Z a → Holds A Z π → DenStack A Z vs us → DenStack A Z ws us
  | [], [], _, _, _, _, _, d => d
  | v :: vs, w :: ws, a, us, h, hs, hp, d => by
    unfold sameS at h
    split at h
    · rename_i a1 a2 h1 h2
      cases h
      obtain ⟨u, us', e, d1, d2⟩ := d.cons_inv
      subst e
      exact DenStack.cons (sameV_ok h1 hs.left hp d1) (sameS_ok h2 hs.right hp d2)
    · cases h
  | [], _ :: _, _, _, h, _, _, _ => by cases h
  | _ :: _, [], _, _, h, _, _, _ => by cases h
theorem sameL_ok {π : Path} : ∀ {vs ws : List SSlot} {a : Ans}, sameL π vs ws = some a → Sat A Z a → Holds A Z π → ∀ {us : List Slot}, DenList A Z vs us → DenList A Z ws us
  | [], [], _, _, _, _, _, d => d
  | v :: vs, w :: ws, a, h, hs, hp, us, d => by
    unfold sameL at h
    cases us with
    | nil => exact d.elim
    | cons u us =>
      obtain ⟨d1, d2⟩ := d
      split at h
      · rename_i b hb
        split at h
        · rename_i e
          cases h
          subst e
          exact ⟨d1, sameL_ok hb hs hp d2⟩
        · split at h
          · rename_i x y _
            split at h
            · rename_i a1 h1
              cases h
              refine ⟨?_, sameL_ok hb hs.right hp d2⟩
              cases u with
              | val z => exact sameV_ok h1 hs.left hp (show x.Den A Z z from d1)
              | _ => exact d1.elim
            · cases h
          · cases h
            refine ⟨?_, sameL_ok hb hs hp d2⟩
            cases u with
            | unset => trivial
            | _ => exact d1.elim
          · rename_i x _
            split at h
            · cases h
            · rename_i hk
              cases h
              refine ⟨?_, sameL_ok hb hs hp d2⟩
              cases u with
              | val z =>
                have dz : x.Den A Z z := d1
                show z.category = 1
                have := mt dz.category.mp hk
                cases z <;> simp [Value.category] at this ⊢
              | _ => exact d1.elim
          · cases h
      · cases h
  | [], _ :: _, _, h, _, _, _, _ => by cases h
  | _ :: _, [], _, h, _, _, _, _ => by cases h
theorem denList_of : ∀ {L : List SSlot} {l : List Slot}, (∀ i : Nat, DenOpt A Z L[i]? l[i]?) → DenList A Z L l
  | [], [], _ => trivial
  | _ :: _, _ :: _, h => ⟨h 0, denList_of fun i => h (i + 1)⟩
  | [], _ :: _, h => (h 0).elim
  | _ :: _, [], h => (h 0).elim
theorem arrive_ok {m : MethodId} {σm σ : SFrame} {Hm H : List ACell} {rm rs : Nat} {π : Path} {g : JFrame} (h : Sat A Z (arrive σm Hm rm σ H rs π)) (hp : Holds A Z π) (F : Sym.Fits A Z m σ g) (hpc : σ.pc = σm.pc) : H = Hm ∧ rm ≤ rs ∧ Sym.Fits A Z m σm g := by
  unfold arrive at h
  cases hb : (decide (H = Hm) && Nat.ble rm rs)
  · simp only [hb, cond_false] at h; exact (not_stuck h hp).elim
  · simp only [hb, cond_true] at h
    simp only [Bool.and_eq_true, decide_eq_true_eq] at hb
    refine ⟨hb.1, Nat.le_of_ble_eq_true hb.2, ?_⟩
    split at h
    · rename_i a b h1 h2
      have dl : DenList A Z σ.locals g.locals.toList := denList_of fun i => by rw [Array.getElem?_toList]; exact F.locals i
      have dl' := sameL_ok h2 h.right hp dl
      exact ⟨F.method, F.pc.trans hpc, fun i => by have := dl'.get i; rw [Array.getElem?_toList] at this; exact this, sameS_ok h1 h.left hp F.stack, F.locked, F.entered, F.mroom⟩
    · exact (not_stuck h hp).elim
theorem hLoadX_ok {p : Program} {l : Launch} {e : Env} {R : Room} {s : State} {m : MethodId} {args : Array Value} {below : List Frame} {meth : Method} {c : Code} {σ : SFrame} {H : List ACell} {rs : Nat} {T : State} {g : JFrame} {o : Nat} {π : Path} {σ' : SFrame} {a : Ans}
    (S : St p l e R s m args below meth c Z A P N n0 σ H rs T g) (hx : p.tables.exec = Jvm.exec) (hZ : Z.Warmed39 s.vm) (hA : ∀ i, i < N → A[K + i]? = some (.ref (n0 + i))) (hd : decode c.code g.pc = .ok (.iaload, 1)) (hp : Holds A Z π)
    (h : hLoadX K o σ H π = some (σ', a)) (hs : Sat A Z a) : Go p l e R s m args below meth c Z A P N n0 T g (σ', H, rs) := by
  obtain ⟨locs, cells, slots, X, F, Rp, Nf, hsz, hN, hsl⟩ := S
  unfold hLoadX at h
  split at h
  · rename_i j b r hst
    split at h
    · rename_i ix hix hjk
      split at h
      · rename_i vs hH
        cases h
        have h0 := F.stack
        rw [hst] at h0
        obtain ⟨wj, w1, e1, d1, h1⟩ := h0.cons_inv
        obtain ⟨wo, w2, e2, d2, h2⟩ := h1.cons_inv
        subst e2
        obtain ⟨jx, rfl⟩ := d1.int hjk
        have hlt := (List.getElem?_eq_some_iff.mp hH).1
        have := ref_val hA hix (by omega) d2
        subst this
        rcases Rp.2 _ _ hH with (⟨-, k, us, du, ⟨cl, Ar, -, S', -, Hs, Gs⟩, r2, -⟩ | ⟨q0, -⟩ | ⟨q0, -⟩) | ⟨q0, -⟩
        · dsimp only at du Ar S' Hs Gs r2
          obtain ⟨G, hG, hv⟩ := hs _ (List.mem_cons_self ..) hp
          obtain ⟨i, hi, rfl⟩ := List.mem_map.mp hG
          have hi := List.mem_range.mp hi
          have ej : jx = Int32.ofInt (i : Int) := by
            simp only [eqG, Jvm.Cond.value, d1.2.1, Term.eval, Option.some.injEq, decide_eq_true_eq] at hv
            exact hv
          have hjn : ixN jx = i := by
            have e2 : (Int32.ofInt (i : Int)) = Int32.ofNat i := rfl
            rw [ej, e2]
            have e3 := (ofNat_len (show i < 2 ^ 31 by omega)).1
            have e4 : ixN (Int32.ofNat i) = i := by
              unfold ixN
              show (BitVec.ofNat 32 i).toNat = i
              rw [BitVec.toNat_ofNat]; omega
            exact e4
          have hv2 : vs[i]? = some vs[i] := List.getElem?_eq_getElem hi
          obtain ⟨u, hu, dv⟩ := DenStack.at du hv2
          have hjl : ixN jx < vs.length := by omega
          have hin : ¬ (jx < 0 ∨ cl.slots.size ≤ jx.toNatClampNeg) := inR hjl r2 (S'.trans (ofNat_len r2).1)
          have hg : cl.slots[jx.toNatClampNeg]? = some u := by
            refine Hs.at hin ?_
            rw [(ixN_spec hjl (Nat.le_of_lt r2)).2, hjn, List.getD_eq_getElem?_getD, hu]; rfl
          have hob := hs ((eqG j.t i, true) :: π, [.eq vs[i].t (.arg o)]) (List.mem_cons_of_mem _ (List.mem_flatMap.mpr ⟨i, List.mem_range.mpr hi, by rw [hv2]; exact List.mem_singleton.mpr rfl⟩)) (hp.cons hv)
          obtain ⟨G', hG', hv'⟩ := hob
          cases List.mem_singleton.mp hG'
          have hfit : ∃ q, u = .int q := by
            have q1 := Gs i (by rw [S', (ofNat_len r2).1]; exact hi)
            rw [List.getD_eq_getElem?_getD, hu] at q1
            exact fit_I (ty := .int) q1 (Or.inl rfl)
          obtain ⟨q, rfl⟩ := hfit
          have dn : (⟨.arg o, .int⟩ : SVal).Den A Z (.int q) := ⟨rfl, eq_eval hv' dv.2.1 (Or.inl ⟨q, rfl⟩), rfl⟩
          refine ⟨T, _, ⟨locs, cells, slots, X, F.step (DenStack.cons dn h2) 1, Rp, Nf, hsz, hN, hsl⟩, fun target hr => ?_⟩
          exact X.iaload hx Ar.1 (State.isArrayOf_alike hZ.alike Ar.2.1) Ar.2.2 hin hg F.method e1 hd target hr
        · cases q0
        · cases q0
        · cases q0
      · cases h
    · cases h
  · cases h

theorem DenStack.of_get : ∀ {xs : List SVal} {vs : List Value}, xs.length = vs.length → (∀ (i : Nat) (x : SVal) (v : Value), xs[i]? = some x → vs[i]? = some v → x.Den A Z v) → DenStack A Z xs vs
  | [], [], _, _ => trivial
  | x :: xs, v :: vs, hl, h => ⟨h 0 x v rfl rfl, DenStack.of_get (by simpa using hl) fun i a b ha hb => h (i + 1) a b ha hb⟩
  | [], _ :: _, hl, _ => by cases hl
  | _ :: _, [], hl, _ => by cases hl
theorem hStoreX_ok {p : Program} {l : Launch} {e : Env} {R : Room} {s : State} {m : MethodId} {args : Array Value} {below : List Frame} {meth : Method} {c : Code} {σ : SFrame} {H H' : List ACell} {rs : Nat} {T : State} {g : JFrame} {o d : Nat} {π : Path} {σ' : SFrame} {a : Ans}
    (S : St p l e R s m args below meth c Z A P N n0 σ H rs T g) (hx : p.tables.exec = Jvm.exec) (hZ : Z.Warmed39 s.vm) (hA : ∀ i, i < N → A[K + i]? = some (.ref (n0 + i))) (hd : decode c.code g.pc = .ok (.iastore, 1)) (hp : Holds A Z π)
    (h : hStoreX K o σ H π = some (σ', H', d, a)) (hs : Sat A Z a) : Go p l e R s m args below meth c Z A P N n0 T g (σ', H', rs) := by
  obtain ⟨locs, cells, slots, X, F, Rp, Nf, hsz, hN, hsl⟩ := S
  unfold hStoreX at h
  split at h
  · rename_i v j b r hst
    split at h
    · rename_i ix hix hjk hvk
      split at h
      · rename_i vs hH
        cases h
        have h0 := F.stack
        rw [hst] at h0
        obtain ⟨wv, w0, e0, d0, h0'⟩ := h0.cons_inv
        obtain ⟨wj, w1, e1, d1, h1⟩ := h0'.cons_inv
        obtain ⟨wo, w2, e2, d2, h2⟩ := h1.cons_inv
        subst e2; subst e1
        obtain ⟨jx, rfl⟩ := d1.int hjk
        obtain ⟨vx, rfl⟩ := d0.int hvk
        have hlt := (List.getElem?_eq_some_iff.mp hH).1
        have := ref_val hA hix (by omega) d2
        subst this
        rcases Rp.2 _ _ hH with (⟨-, k, us, du, ⟨cl, Ar, ck, S', Nn, Hs, Gs⟩, r2, ex⟩ | ⟨q0, -⟩ | ⟨q0, -⟩) | ⟨q0, -⟩
        · dsimp only at du Ar S' Nn Hs Gs r2 ex
          obtain ⟨G, hG, hv⟩ := hs _ (List.mem_cons_self ..) hp
          obtain ⟨i, hi, rfl⟩ := List.mem_map.mp hG
          have hi := List.mem_range.mp hi
          have ej : jx = Int32.ofInt (i : Int) := by
            simp only [eqG, Jvm.Cond.value, d1.2.1, Term.eval, Option.some.injEq, decide_eq_true_eq] at hv
            exact hv
          have hval : ∀ z : Nat, z < vs.length → (eqG j.t z).value A Z none Z [] = some (decide (z = i)) := fun z hz => by
            have q : (Int32.ofInt (i : Int) = Int32.ofInt (z : Int)) ↔ z = i := by
              constructor
              · intro q
                have q1 : (Int32.ofNat i) = Int32.ofNat z := q
                have q2 := congrArg Int32.toNatClampNeg q1
                rw [(ofNat_len (show i < 2 ^ 31 by omega)).1, (ofNat_len (show z < 2 ^ 31 by omega)).1] at q2
                exact q2.symm
              · intro q; rw [q]
            simp only [eqG, Jvm.Cond.value, d1.2.1, Term.eval, ej]
            rw [decide_eq_decide.mpr q]
          have hjn : ixN jx = i := by
            rw [ej]
            unfold ixN
            show (BitVec.ofNat 32 i).toNat = i
            rw [BitVec.toNat_ofNat]; omega
          have hul : i < us.length := by rw [← DenStack.len du]; exact hi
          have hjl : ixN jx < vs.length := by omega
          have hin : ¬ (jx < 0 ∨ cl.slots.size ≤ jx.toNatClampNeg) := inR hjl r2 (S'.trans (ofNat_len r2).1)
          have hju : jx.toNatClampNeg = i := (ixN_spec hjl (Nat.le_of_lt r2)).2.trans hjn
          have hnew : DenStack A Z ((List.range vs.length).map fun i => (⟨.arg (o + i), .int⟩ : SVal)) (us.set i (.int vx)) := by
            refine DenStack.of_get (by rw [List.length_map, List.length_range, List.length_set, DenStack.len du]) fun z x w hx' hw' => ?_
            have hz : z < vs.length := by
              have := (List.getElem?_eq_some_iff.mp hx').1
              rw [List.length_map, List.length_range] at this; exact this
            rw [List.getElem?_map, List.getElem?_range hz] at hx'
            cases hx'
            have hv2 : vs[z]? = some vs[z] := List.getElem?_eq_getElem hz
            by_cases ez : z = i
            · subst ez
              rw [List.getElem?_set_self hul] at hw'
              cases hw'
              obtain ⟨G', hG', hv'⟩ := hs ((eqG j.t z, true) :: π, [.eq v.t (.arg (o + z))]) (List.mem_cons_of_mem _ (List.mem_flatMap.mpr ⟨z, List.mem_range.mpr hz, by rw [hv2]; exact List.mem_cons_self ..⟩)) (hp.cons (by rw [hval z hz]; simp))
              cases List.mem_singleton.mp hG'
              exact ⟨rfl, eq_eval hv' d0.2.1 (Or.inl ⟨vx, rfl⟩), rfl⟩
            · rw [List.getElem?_set_ne (Ne.symm ez)] at hw'
              obtain ⟨u, hu, dv⟩ := DenStack.at du hv2
              cases hu.symm.trans hw'
              obtain ⟨G', hG', hv'⟩ := hs ((eqG j.t z, false) :: π, [.eq vs[z].t (.arg (o + z))]) (List.mem_cons_of_mem _ (List.mem_flatMap.mpr ⟨z, List.mem_range.mpr hz, by rw [hv2]; exact List.mem_cons_of_mem _ (List.mem_cons_self ..)⟩)) (hp.cons (by rw [hval z hz]; simp [ez]))
              cases List.mem_singleton.mp hG'
              have hfit : ∃ q, w = .int q := by
                have q1 := Gs z (by rw [S', (ofNat_len r2).1]; exact hz)
                rw [List.getD_eq_getElem?_getD, hu] at q1
                exact fit_I (ty := .int) q1 (Or.inl rfl)
              obtain ⟨q, rfl⟩ := hfit
              exact ⟨rfl, eq_eval hv' dv.2.1 (Or.inl ⟨q, rfl⟩), rfl⟩
          obtain ⟨T', h', X', e', W', st⟩ := stI X hx hZ rfl Ar hin F.method e0 hd
          refine ⟨T', _, ⟨_, cells, slots, X', F.step h2 1, ?_, Fr.snoc X' Nf (by omega), by rw [List.length_set]; exact hsz, by rw [List.length_set]; exact hN, hsl⟩, fun target hr => st target hr⟩
          rw [e']
          refine Rp.set0 W' (Or.inl ⟨rfl, k, us.set i (.int vx), hnew, ?_, by show ((List.range vs.length).map fun i => (⟨.arg (o + i), .int⟩ : SVal)).length < 2 ^ 31; rw [List.length_map, List.length_range]; exact r2, ex.wr W'⟩)
          show Arv Z h' (n0 + ix) k (aTy 0) (Int32.ofNat ((List.range vs.length).map fun i => (⟨.arg (o + i), .int⟩ : SVal)).length) (us.set i (.int vx)) (defaultValue (aTy 0))
          rw [List.length_map, List.length_range]
          exact Arv.set Ar ck S' Nn Hs Gs rfl W' i hju hul
        · cases q0
        · cases q0
        · cases q0
      · cases h
    · cases h
  · cases h
theorem den_inj {v : SVal} {a b : Value} (h1 : v.Den A Z a) (h2 : v.Den A Z b) : a = b := Option.some.inj (h1.2.1.symm.trans h2.2.1)
theorem lt_val {t u : Term} {x y : Int32} (h : (Jvm.Cond.lt t u).value A Z none Z [] = some true) (h1 : t.eval A Z none [] Z = some (.int x)) (h2 : u.eval A Z none [] Z = some (.int y)) : x < y := by
  simp only [Jvm.Cond.value, h1, h2, Option.some.injEq, decide_eq_true_eq] at h
  exact h
theorem ob_val {π : Path} {G : Jvm.Cond} {a : Ans} (h : Sat A Z a) (hm : (π, [G]) ∈ a) (hp : Holds A Z π) : G.value A Z none Z [] = some true := by
  obtain ⟨G', hG, hv⟩ := h _ hm hp
  cases List.mem_singleton.mp hG
  exact hv
theorem neg1_lt {x : Int32} (h : -1 < x) : ¬ x < 0 := by
  rw [Int32.lt_iff_toInt_lt] at h ⊢
  have e1 : (-1 : Int32).toInt = -1 := rfl
  have e0 : (0 : Int32).toInt = 0 := rfl
  omega
theorem lt_clamp {x y : Int32} (h0 : ¬ x < 0) (h : x < y) : x.toNatClampNeg < y.toNatClampNeg := by
  rw [Int32.lt_iff_toInt_lt] at h0 h
  have e0 : (0 : Int32).toInt = 0 := rfl
  simp only [Int32.toNatClampNeg]
  omega
theorem clamp_inj {x y : Int32} (hx : ¬ x < 0) (hy : ¬ y < 0) (h : x.toNatClampNeg = y.toNatClampNeg) : x = y := by
  rw [Int32.lt_iff_toInt_lt] at hx hy
  have e0 : (0 : Int32).toInt = 0 := rfl
  simp only [Int32.toNatClampNeg] at h
  exact Int32.toInt_inj.1 (by omega)
theorem all_same {v : SVal} {u : Value} (d : v.Den A Z u) : ∀ {vs : List SVal} {us : List Value}, (∀ w ∈ vs, w = v) → DenStack A Z vs us → ∀ j, j < us.length → us[j]? = some u
  | [], [], _, _, j, hj => by simp at hj
  | w :: vs, x :: us, hv, h, j, hj => by
    cases j with
    | zero =>
      have := hv w (List.mem_cons_self ..)
      subst this
      rw [den_inj d h.1]; rfl
    | succ j => exact all_same d (fun w hw => hv w (List.mem_cons_of_mem _ hw)) h.2 j (by simpa using hj)
  | [], _ :: _, _, h, _, _ => h.elim
  | _ :: _, [], _, h, _, _ => h.elim
theorem asLog_ok {h : Heap} {a : Addr} {c : ACell} {x : Nat} {lv : SVal} {gs : List SVal} (q : CellOk Z A P h a c) (e : asLog c = some (x, lv, gs)) : LogOk Z A P h a x (lv :: gs) := by
  unfold asLog at e
  split at e
  · cases e
    rcases q with (⟨q0, -⟩ | ⟨q0, -⟩ | ⟨q0, -⟩) | ⟨-, q⟩
    · cases q0
    · cases q0
    · cases q0
    · exact q
  · rename_i v vs
    cases hb : (vs.all fun w => decide (w = v))
    · rw [hb] at e; cases e
    · rw [hb] at e
      cases e
      have hall : ∀ w ∈ v :: vs, w = v := fun w hw => by
        rcases List.mem_cons.mp hw with rfl | hw
        · rfl
        · exact of_decide_eq_true (List.all_eq_true.mp hb w hw)
      rcases q with (⟨-, k, us, du, r, r2, -⟩ | ⟨q0, -⟩ | ⟨q0, -⟩) | ⟨q0, -⟩
      · dsimp only at du r r2
        have hl := DenStack.len du
        obtain ⟨u, us', rfl, d1, -⟩ := du.cons_inv
        exact ⟨k, _, [u], u :: us', ⟨⟨rfl, rfl, rfl⟩, d1, trivial⟩, by rw [← hl]; exact (ofNat_len r2).1.symm, all_same d1 hall du, Or.inl ⟨rfl, r⟩⟩
      · cases q0
      · cases q0
      · cases q0
  · rename_i ci v vs
    cases hb : (vs.all fun w => decide (w = v))
    · rw [hb] at e; cases e
    · rw [hb] at e
      cases e
      have hall : ∀ w ∈ v :: vs, w = v := fun w hw => by
        rcases List.mem_cons.mp hw with rfl | hw
        · rfl
        · exact of_decide_eq_true (List.all_eq_true.mp hb w hw)
      rcases q with (⟨q0, -⟩ | ⟨q0, -⟩ | ⟨-, C, k, us, hC, du, r, r2, ov⟩) | ⟨q0, -⟩
      · cases q0
      · cases q0
      · dsimp only at du r r2 hC
        have hl := DenStack.len du
        obtain ⟨u, us', rfl, d1, -⟩ := du.cons_inv
        exact ⟨k, _, [u], u :: us', ⟨⟨rfl, rfl, rfl⟩, d1, trivial⟩, by rw [← hl]; exact (ofNat_len r2).1.symm, all_same d1 hall du, Or.inr ⟨C, Nat.succ_pos _, hC, r, ov⟩⟩
      · cases q0
  · cases e
theorem lg_set {gs : List Value} {us : List Value} {jx : Int32} {u : Value} (hj : ¬ jx < 0) (hl : jx.toNatClampNeg < us.length) (h : ∀ j, j < us.length → us[j]? = some (lg gs j)) : ∀ j, j < (us.set jx.toNatClampNeg u).length → (us.set jx.toNatClampNeg u)[j]? = some (lg (.int jx :: u :: gs) j) := by
  intro j hlt
  rw [List.length_set] at hlt
  show _ = some (if ¬ jx < 0 ∧ jx.toNatClampNeg = j then u else lg gs j)
  by_cases q : jx.toNatClampNeg = j
  · subst q
    rw [if_pos ⟨hj, rfl⟩, List.getElem?_set_self hl]
  · rw [if_neg (fun z => q z.2), List.getElem?_set_ne q]
    exact h j hlt
section Ob
variable {p : Program} {l : Launch} {e : Env} {R : Room} {s : State} {m : MethodId} {args : Array Value} {below : List Frame} {meth : Method} {c : Code} {σ : SFrame} {H : List ACell} {rs : Nat} {T : State} {g : JFrame} {q : HS} {own : String} {x y : Nat} {vals : List Int} {π : Path} {a : Ans} {i : Instr} {len : Nat}
theorem hRemX_ok (S : St p l e R s m args below meth c Z A P N n0 σ H rs T g) (hx : p.tables.exec = Jvm.exec) (hd : decode c.code g.pc = .ok (.irem, 1)) (hp : Holds A Z π) (h : hRemX σ H rs π = some (q, a)) (hs : Sat A Z a) : Go p l e R s m args below meth c Z A P N n0 T g q := by
  obtain ⟨locs, cells, slots, X, F, Rp, Nf, hsz, hN, hsl⟩ := S
  unfold hRemX at h
  split at h
  · rename_i vb va r hst
    split at h
    · rename_i hka hkb
      cases h
      have h0 := F.stack
      rw [hst] at h0
      obtain ⟨wb, w1, e1, d1, h1⟩ := h0.cons_inv
      obtain ⟨wa, w2, e2, d2, h2⟩ := h1.cons_inv
      obtain ⟨d, rfl⟩ := d1.int hkb
      obtain ⟨z, rfl⟩ := d2.int hka
      subst e2
      have hlt := lt_val (ob_val hs (List.mem_singleton.mpr rfl) hp) (show (Term.int 0).eval A Z none [] Z = some (.int 0) from rfl) d1.2.1
      have hne : d ≠ 0 := fun c => by
        rw [c, Int32.lt_iff_toInt_lt] at hlt
        omega
      have dv : (⟨.rem va.t vb.t, .int⟩ : SVal).Den A Z (.int (z % d)) := ⟨by show (va.t.closed && vb.t.closed) = true; rw [d2.1, d1.1]; rfl, by simp [Term.eval, d2.2.1, d1.2.1, hne], rfl⟩
      refine ⟨T, _, ⟨locs, cells, slots, X, F.step (DenStack.cons dv h2) 1, Rp, Nf, hsz, hN, hsl⟩, fun target hr => ?_⟩
      exact iremM X hx F.method hd e1 hne hr
    · cases h
  · cases h
theorem hStoreL_ok (hw : ∀ d ∈ tb, d.before a0 Z = true) (S : St p l e R s m args below meth c Z A P N n0 σ H rs T g) (hx : p.tables.exec = Jvm.exec) (hZ : Z.Warmed39 s.vm) (hA : ∀ i, i < N → A[K + i]? = some (.ref (n0 + i))) (hd : decode c.code g.pc = .ok (i, len)) (ho : okOb tb P own i len x 1 = true) (hp : Holds A Z π) (h : hStoreL K x σ H rs π = some (q, a)) (hs : Sat A Z a) : Go p l e R s m args below meth c Z A P N n0 T g q := by
  obtain ⟨locs, cells, slots, X, F, Rp, Nf, hsz, hN, hsl⟩ := S
  unfold hStoreL at h
  split at h
  · rename_i v j b r hst
    split at h
    · rename_i ix hix hjk
      split at h
      · rename_i cc hH
        split at h
        · rename_i t lv gs hlog
          cases hb : (Nat.beq t x && okV K x v H)
          · rw [hb] at h; cases h
          · rw [hb] at h
            cases h
            obtain ⟨hb1, hb2⟩ := Bool.and_eq_true_iff.mp hb
            have := Nat.eq_of_beq_eq_true hb1
            subst this
            have h0 := F.stack
            rw [hst] at h0
            obtain ⟨wv, w0, e0, d0, h0'⟩ := h0.cons_inv
            obtain ⟨wj, w1, e1, d1, h1⟩ := h0'.cons_inv
            obtain ⟨wo, w2, e2, d2, h2⟩ := h1.cons_inv
            subst e2; subst e1
            obtain ⟨jx, rfl⟩ := d1.int hjk
            have hlt := (List.getElem?_eq_some_iff.mp hH).1
            have := ref_val hA hix (by omega) d2
            subst this
            obtain ⟨k, z, gv, us, dl, hul, hlg, hcase⟩ := asLog_ok (Rp.2 _ _ hH) hlog
            have hj0 := neg1_lt (lt_val (ob_val hs (List.mem_cons_self ..) hp) (show (Term.int (-1)).eval A Z none [] Z = some (.int (-1)) from rfl) d1.2.1)
            have hjz := lt_val (ob_val hs (List.mem_cons_of_mem _ (List.mem_cons_self ..)) hp) d1.2.1 dl.1.2.1
            have hjl : jx.toNatClampNeg < us.length := by rw [hul]; exact lt_clamp hj0 hjz
            have fin : ∀ {T' : State} {h' : Heap} {cl : Cell} {ty : FieldType} {dv : Value}, Arr Z T.heap (n0 + ix) cl ty → cl.cls = k → cl.slots.size = z.toNatClampNeg → ¬ z < 0 → Has cl us dv → (∀ i, i < cl.slots.size → fits ty (us.getD i dv) = true) → fits ty wv = true →
                (∀ {h' : Heap}, Arv Z h' (n0 + ix) k ty z (us.set jx.toNatClampNeg wv) dv → (t = 0 ∧ Arv Z h' (n0 + ix) k .int z (us.set jx.toNatClampNeg wv) (.int 0)) ∨ ∃ C : Cls, 0 < t ∧ P.1[t - 1]? = some C ∧ Arv Z h' (n0 + ix) k (.object C.1) z (us.set jx.toNatClampNeg wv) .null ∧ Ovr Z k C.1) →
                Stand p l e R s m args below meth c T' (locs ++ [⟨n0 + ix, jx.toNatClampNeg⟩]) cells slots → T'.heap = h' → Wr T.heap h' (n0 + ix) jx.toNatClampNeg wv →
                (∀ target, Steps p.tables e below (T'.setTop { g with pc := g.pc + 1, stack := w2 }) target → Steps p.tables e below (T.setTop g) target) → Go p l e R s m args below meth c Z A P N n0 T g (adv σ 1 r, H.set ix (3, t, lv :: j :: v :: gs), rs) := by
              intro T' h' cl ty dv Ar ck S' Nn Hs Gs hfit hcs X' e' W' st
              refine ⟨T', _, ⟨_, cells, slots, X', F.step h2 1, ?_, Fr.snoc X' Nf (by omega), by rw [List.length_set]; exact hsz, by rw [List.length_set]; exact hN, hsl⟩, fun target hr => st target hr⟩
              rw [e']
              refine Rp.set W' (Or.inr ⟨rfl, k, z, .int jx :: wv :: gv, us.set jx.toNatClampNeg wv, ⟨dl.1, d1, d0, dl.2⟩, by rw [List.length_set]; exact hul, lg_set hj0 hjl hlg, ?_⟩)
              exact hcs (Arv.set Ar ck S' Nn Hs Gs hfit W' jx.toNatClampNeg rfl hjl)
            rcases hcase with ⟨rfl, cl, Ar, ck, S', Nn, Hs, Gs⟩ | ⟨C, h0x, hC, ⟨cl, Ar, ck, S', Nn, Hs, Gs⟩, ov⟩
            · have hin : ¬ (jx < 0 ∨ cl.slots.size ≤ jx.toNatClampNeg) := inb_of S' ⟨hj0, hjz⟩
              have hvk : v.k = .int := by
                unfold okV at hb2
                dsimp only at hb2
                cases hk : v.k <;> rw [hk] at hb2 <;> first | rfl | cases hb2
              obtain ⟨vx, rfl⟩ := d0.int hvk
              have hop := Bool.and_eq_true_iff.mp (show (Nat.beq len 1 && decide (i = .iastore)) = true from ho)
              rw [Nat.eq_of_beq_eq_true hop.1, of_decide_eq_true hop.2] at hd
              obtain ⟨T', h', X', e', W', st⟩ := stI X hx hZ rfl Ar hin F.method e0 hd
              exact fin Ar ck S' Nn Hs Gs rfl (fun q => Or.inl ⟨rfl, q⟩) X' e' W' st
            · have hin : ¬ (jx < 0 ∨ cl.slots.size ≤ jx.toNatClampNeg) := inb_of S' ⟨hj0, hjz⟩
              obtain ⟨x', rfl⟩ : ∃ x', t = x' + 1 := ⟨t - 1, by omega⟩
              rw [Nat.add_sub_cancel] at hC
              have ho2 : (Nat.beq len 1 && decide (i = .aastore) && (match P.1[x']? with | some C => has tb (.castable "[I" C.1) | none => false)) = true := ho
              rw [hC] at ho2
              obtain ⟨ho3, ho4⟩ := Bool.and_eq_true_iff.mp ho2
              have hop := Bool.and_eq_true_iff.mp ho3
              rw [Nat.eq_of_beq_eq_true hop.1, of_decide_eq_true hop.2] at hd
              have hv2 : (match getRef K v with | some iv => (match H[iv]? with | some (0, 0, _) => true | _ => false) | none => false) = true := hb2
              split at hv2
              · rename_i iv hiv
                split at hv2
                · rename_i ws hV
                  have hlv := (List.getElem?_eq_some_iff.mp hV).1
                  have := ref_val hA hiv (by omega) d0
                  subst this
                  rcases Rp.2 _ _ hV with (⟨-, _, _, -, -, -, ex⟩ | ⟨q0, -⟩ | ⟨q0, -⟩) | ⟨q0, -⟩
                  · obtain ⟨T', h', X', e', W', st⟩ := stR X hx hZ rfl Ar hin rfl (Sto.ofV Ar ck ov (Ins.of_exa (a0 := a0) ex (hw _ (has_mem ho4)))) F.method e0 hd
                    exact fin Ar ck S' Nn Hs Gs rfl (fun q => Or.inr ⟨C, h0x, hC, q, ov⟩) X' e' W' st
                  · cases q0
                  · cases q0
                  · cases q0
                · cases hv2
              · cases hv2
        · cases h
      · cases h
    · cases h
  · cases h
theorem hNewL_ok (S : St p l e R s m args below meth c Z A P N n0 σ H rs T g) (hx : p.tables.exec = Jvm.exec) (hZ : Z.Warmed39 s.vm) (hA : ∀ i, i < N → A[K + i]? = some (.ref (n0 + i))) (hown : s.vm.findClass own = some m.cls) (hR : n0 + N ≤ s.heap.size + R.cells) {idx : Nat} (hd : decode c.code g.pc = .ok (.anewarray idx, 3))
    (hw : ∃ C : Cls, P.1[x]? = some C ∧ (Jvm.Cond.classLink own idx C.1).before a0 Z = true ∧ (Jvm.Cond.arrayOver (.object C.1)).before a0 Z = true) (hp : Holds A Z π) (h : hNewL K N x vals σ H rs π = some (q, a)) (hs : Sat A Z a) : Go p l e R s m args below meth c Z A P N n0 T g q := by
  have hsz0 := S.size
  obtain ⟨locs, cells, slots, X, F, Rp, Nf, hsz, hN, hsl⟩ := S
  obtain ⟨C, hC, wc, wa⟩ := hw
  unfold hNewL at h
  split at h
  · rename_i n r Bi hst
    split at h
    · rename_i hnk
      cases hb : (Nat.blt H.length N && Nat.ble Bi.toNat rs && Nat.ble Bi.toNat 60000)
      · rw [hb] at h; cases h
      · rw [hb] at h
        simp only [Bool.and_eq_true] at hb
        obtain ⟨⟨b1, b2⟩, b3⟩ := hb
        have b1 : H.length < N := by simpa [Nat.blt_eq] using b1
        have b2 := Nat.le_of_ble_eq_true b2
        have b3 := Nat.le_of_ble_eq_true b3
        cases h
        have h0 := F.stack
        rw [hst] at h0
        obtain ⟨wn, w1, e1, d1, h1⟩ := h0.cons_inv
        obtain ⟨nx, rfl⟩ := d1.int hnk
        have hn0 := neg1_lt (lt_val (ob_val hs (List.mem_cons_self ..) hp) (show (Term.int (-1)).eval A Z none [] Z = some (.int (-1)) from rfl) d1.2.1)
        have hnB := lt_clamp hn0 (lt_val (ob_val hs (List.mem_cons_of_mem _ (List.mem_cons_self ..)) hp) d1.2.1 (show (Term.int (Int32.ofNat (Bi.toNat + 1))).eval A Z none [] Z = some (.int (Int32.ofNat (Bi.toNat + 1))) from rfl))
        rw [(ofNat_len (show Bi.toNat + 1 < 2 ^ 31 by omega)).1] at hnB
        obtain ⟨T', h', cA, X', e', E', Ar, ov, st⟩ := newR X hx hZ hown wc wa rfl F.method hd e1 hn0 (cap := Bi.toNat) (by omega) (by omega) (by omega) (by omega)
        have hlt : T.heap.size < h'.size := Ar.lt
        refine ⟨T', _, ⟨locs, cells + 1, slots + Bi.toNat, X', F.step (DenStack.cons (new_den hA b1 hsz0) h1) 3, ?_, Nf, by rw [List.length_append, List.length_singleton]; omega, by rw [List.length_append, List.length_singleton]; omega, by show slots + Bi.toNat + (rs - Bi.toNat) ≤ R.slots; omega⟩, fun target hr => st target hr⟩
        rw [e']
        refine Rp.push E' hsz0 hlt (Or.inr ⟨rfl, cA, nx, [.null], List.replicate nx.toNatClampNeg .null, ⟨d1, ⟨rfl, rfl, rfl⟩, trivial⟩, List.length_replicate, fun j hj => ?_, Or.inr ⟨C, Nat.succ_pos _, hC, ?_, ov⟩⟩)
        · rw [List.length_replicate] at hj
          rw [List.getElem?_replicate, if_pos hj]; rfl
        · exact (Arv.new Ar hn0).pad (vs' := [] ++ List.replicate nx.toNatClampNeg (defaultValue (.object C.1))) (pad_rep [] _ _)
    · cases h
  · cases h
theorem hLenL_ok (S : St p l e R s m args below meth c Z A P N n0 σ H rs T g) (hx : p.tables.exec = Jvm.exec) (hZ : Z.Warmed39 s.vm) (hA : ∀ i, i < N → A[K + i]? = some (.ref (n0 + i))) (hd : decode c.code g.pc = .ok (.arraylength, 1)) (h : hLenL K σ H rs = some (q, a)) : Go p l e R s m args below meth c Z A P N n0 T g q := by
  obtain ⟨locs, cells, slots, X, F, Rp, Nf, hsz, hN, hsl⟩ := S
  unfold hLenL at h
  split at h
  · rename_i o r hst
    split at h
    · rename_i ix hix
      split at h
      · rename_i cc hH
        split at h
        · rename_i t lv gs hlog
          cases h
          have h0 := F.stack
          rw [hst] at h0
          obtain ⟨wo, w1, e1, d1, h1⟩ := h0.cons_inv
          have hlt := (List.getElem?_eq_some_iff.mp hH).1
          have := ref_val hA hix (by omega) d1
          subst this
          obtain ⟨k, z, gv, us, dl, hul, hlg, hcase⟩ := asLog_ok (Rp.2 _ _ hH) hlog
          have key : ∀ {cl : Cell} {ty : FieldType}, Arr Z T.heap (n0 + ix) cl ty → cl.slots.size = z.toNatClampNeg → ¬ z < 0 → Go p l e R s m args below meth c Z A P N n0 T g (adv σ 1 (lv :: r), H, rs) := by
            intro cl ty Ar S' Nn
            refine ⟨T, _, ⟨locs, cells, slots, X, F.step (DenStack.cons dl.1 h1) 1, Rp, Nf, hsz, hN, hsl⟩, fun target hr => ?_⟩
            refine X.arraylength hx Ar.1 (State.isArrayOf_alike hZ.alike Ar.2.1) F.method e1 hd target ?_
            rw [len_of S' Nn]; exact hr
          rcases hcase with ⟨-, cl, Ar, -, S', Nn, -⟩ | ⟨C, -, -, ⟨cl, Ar, -, S', Nn, -⟩, -⟩
          · exact key Ar S' Nn
          · exact key Ar S' Nn
        · cases h
      · cases h
    · cases h
  · cases h
theorem hOb_ok (hw : ∀ d ∈ tb, d.before a0 Z = true) (S : St p l e R s m args below meth c Z A P N n0 σ H rs T g) (hx : p.tables.exec = Jvm.exec) (hZ : Z.Warmed39 s.vm) (hA : ∀ i, i < N → A[K + i]? = some (.ref (n0 + i))) (hown : s.vm.findClass own = some m.cls) (hR : n0 + N ≤ s.heap.size + R.cells) (hd : decode c.code g.pc = .ok (i, len)) (ho : okOb tb P own i len x y = true) (hp : Holds A Z π) (h : hOb K N x y vals σ H rs π = some (q, a)) (hs : Sat A Z a) : Go p l e R s m args below meth c Z A P N n0 T g q := by
  unfold hOb at h
  split at h
  · have hop := Bool.and_eq_true_iff.mp (show (Nat.beq len 1 && decide (i = .irem)) = true from ho)
    rw [Nat.eq_of_beq_eq_true hop.1, of_decide_eq_true hop.2] at hd
    exact hRemX_ok S hx hd hp h hs
  · exact hStoreL_ok hw S hx hZ hA hd ho hp h hs
  · have ho : okNewR tb P own i len x = true := ho
    unfold okNewR at ho
    split at ho
    · rename_i idx
      obtain ⟨o1, o2⟩ := Bool.and_eq_true_iff.mp ho
      rw [Nat.eq_of_beq_eq_true o1] at hd
      split at o2
      · rename_i C hC
        obtain ⟨o3, o4⟩ := Bool.and_eq_true_iff.mp o2
        exact hNewL_ok S hx hZ hA hown hR hd ⟨C, hC, hw _ (has_mem o3), hw _ (has_mem o4)⟩ hp h hs
      · cases o2
    · cases ho
  · rename_i n1 n2 n3
    have ho : (Nat.beq len 1 && decide (i = .arraylength)) = true := by
      unfold okOb at ho
      split at ho
      · exact absurd rfl n1
      · exact absurd rfl n2
      · exact absurd rfl n3
      · exact ho
    have hop := Bool.and_eq_true_iff.mp ho
    rw [Nat.eq_of_beq_eq_true hop.1, of_decide_eq_true hop.2] at hd
    exact hLenL_ok S hx hZ hA hd h
theorem readB_ok {f : SVal → Path → Ans} {j : SVal} {jx : Int32} (hA : ∀ i, i < N → A[K + i]? = some (.ref (n0 + i))) (dj : j.Den A Z (.int jx)) (hj : ¬ jx < 0) : ∀ {gs : List SVal} {gv : List Value} {π : Path}, DenStack A Z gs gv → Holds A Z π → Sat A Z (readB K N f j gs π) → ∃ v π', v.Den A Z (lg gv jx.toNatClampNeg) ∧ Holds A Z π' ∧ Sat A Z (f v π')
  | [v], [w], π, d, hp, hs => ⟨v, π, d.1, hp, hs⟩
  | i :: v :: r, wi :: w :: gr, π, d, hp, hs => by
    unfold readB at hs
    split at hs
    · rename_i hk
      obtain ⟨ix, rfl⟩ := d.1.int hk
      have hv : (Jvm.Cond.eq (.old j.t) (.old i.t)).value A Z none Z [] = some (decide (jx = ix)) := by
        simp only [Jvm.Cond.value, Term.eval, dj.2.1, d.1.2.1]
      have yes : jx = ix → lg (.int ix :: w :: gr) jx.toNatClampNeg = w := fun q => by
        show (if ¬ ix < 0 ∧ ix.toNatClampNeg = jx.toNatClampNeg then w else lg gr jx.toNatClampNeg) = w
        rw [if_pos ⟨by rw [← q]; exact hj, by rw [q]⟩]
      have no : jx ≠ ix → lg (.int ix :: w :: gr) jx.toNatClampNeg = lg gr jx.toNatClampNeg := fun q => by
        show (if ¬ ix < 0 ∧ ix.toNatClampNeg = jx.toNatClampNeg then w else lg gr jx.toNatClampNeg) = _
        rw [if_neg fun z => q (clamp_inj hj z.1 z.2.symm)]
      split at hs
      · rename_i hb
        have := decG_sound hA hb hp hv
        have q : jx = ix := of_decide_eq_true this.symm
        rw [yes q]
        exact ⟨v, π, d.2.1, hp, hs⟩
      · rename_i hb
        have := decG_sound hA hb hp hv
        have q : jx ≠ ix := of_decide_eq_false this.symm
        rw [no q]
        exact readB_ok hA dj hj d.2.2 hp hs
      · by_cases q : jx = ix
        · rw [yes q]
          exact ⟨v, _, d.2.1, hp.cons (by rw [hv, decide_eq_true q]), sat_cut hs.left (hp.cons (by rw [hv, decide_eq_true q]))⟩
        · rw [no q]
          exact readB_ok hA dj hj d.2.2 (hp.cons (by rw [hv, decide_eq_false q])) (sat_cut hs.right (hp.cons (by rw [hv, decide_eq_false q])))
    · exact (not_stuck hs hp).elim
  | [], [], π, _, hp, hs => (not_stuck hs hp).elim
  | [], _ :: _, _, d, _, _ => d.elim
  | _ :: _, [], _, d, _, _ => d.elim
  | [_], _ :: _ :: _, _, d, _, _ => d.2.elim
  | _ :: _ :: _, [_], _, d, _, _ => d.2.elim
theorem tRead_ok {f : SVal → Path → Ans} {j lv : SVal} {gs st : List SVal} (S : St p l e R s m args below meth c Z A P N n0 σ H rs T g) (hx : p.tables.exec = Jvm.exec) (hZ : Z.Warmed39 s.vm) (hA : ∀ i, i < N → A[K + i]? = some (.ref (n0 + i))) (hd : decode c.code g.pc = .ok (i, len)) (ho : (match x with | 0 => Nat.beq len 1 && decide (i = .iaload) | _ + 1 => Nat.beq len 1 && decide (i = .aaload)) = true) (hp : Holds A Z π) (h : hRead K x σ H = some (j, lv, gs, st)) (hs : Sat A Z (inB π j lv)) (hr : Sat A Z (readB K N f j gs π)) :
    ∃ v π' T' g', St p l e R s m args below meth c Z A P N n0 (adv σ 1 (v :: st)) H rs T' g' ∧ Leads p.tables e below T g T' g' ∧ Holds A Z π' ∧ Sat A Z (f v π') := by
  obtain ⟨locs, cells, slots, X, F, Rp, Nf, hsz, hN, hsl⟩ := S
  unfold hRead at h
  split at h
  · rename_i j' b r hst
    split at h
    · rename_i ix hix hjk
      split at h
      · rename_i cc hH
        split at h
        · rename_i t lv' gs' hlog
          cases hb : Nat.beq t x
          · rw [hb] at h; cases h
          · rw [hb] at h
            cases h
            have := Nat.eq_of_beq_eq_true hb
            subst this
            have h0 := F.stack
            rw [hst] at h0
            obtain ⟨wj, w1, e1, d1, h1⟩ := h0.cons_inv
            obtain ⟨wo, w2, e2, d2, h2⟩ := h1.cons_inv
            subst e2
            obtain ⟨jx, rfl⟩ := d1.int hjk
            have hlt := (List.getElem?_eq_some_iff.mp hH).1
            have := ref_val hA hix (by omega) d2
            subst this
            obtain ⟨k, z, gv, us, dl, hul, hlg, hcase⟩ := asLog_ok (Rp.2 _ _ hH) hlog
            have hj0 := neg1_lt (lt_val (ob_val hs (List.mem_cons_self ..) hp) (show (Term.int (-1)).eval A Z none [] Z = some (.int (-1)) from rfl) d1.2.1)
            have hjz := lt_val (ob_val hs (List.mem_cons_of_mem _ (List.mem_cons_self ..)) hp) d1.2.1 dl.1.2.1
            have hjl : jx.toNatClampNeg < us.length := by rw [hul]; exact lt_clamp hj0 hjz
            obtain ⟨v, π', dv, hp', hs'⟩ := readB_ok hA d1 hj0 dl.2 hp hr
            have hu : ∀ dd : Value, us.getD jx.toNatClampNeg dd = lg gv jx.toNatClampNeg := fun dd => by
              rw [List.getD_eq_getElem?_getD, hlg _ hjl]; rfl
            refine ⟨v, π', T, _, ⟨locs, cells, slots, X, F.step (DenStack.cons dv h2) 1, Rp, Nf, hsz, hN, hsl⟩, fun target hr => ?_, hp', hs'⟩
            rcases hcase with ⟨rfl, cl, Ar, ck, S', Nn, Hs, Gs⟩ | ⟨C, h0x, hC, ⟨cl, Ar, ck, S', Nn, Hs, Gs⟩, ov⟩
            · have hin : ¬ (jx < 0 ∨ cl.slots.size ≤ jx.toNatClampNeg) := inb_of S' ⟨hj0, hjz⟩
              have hop := Bool.and_eq_true_iff.mp (show (Nat.beq len 1 && decide (i = .iaload)) = true from ho)
              rw [Nat.eq_of_beq_eq_true hop.1, of_decide_eq_true hop.2] at hd
              exact X.iaload hx Ar.1 (State.isArrayOf_alike hZ.alike Ar.2.1) Ar.2.2 hin (Hs.at hin (hu _)) F.method e1 hd target hr
            · have hin : ¬ (jx < 0 ∨ cl.slots.size ≤ jx.toNatClampNeg) := inb_of S' ⟨hj0, hjz⟩
              obtain ⟨x', rfl⟩ : ∃ x', t = x' + 1 := ⟨t - 1, by omega⟩
              have hop := Bool.and_eq_true_iff.mp (show (Nat.beq len 1 && decide (i = .aaload)) = true from ho)
              rw [Nat.eq_of_beq_eq_true hop.1, of_decide_eq_true hop.2] at hd
              exact X.aaload hx Ar.1 (State.isArrayOf_alike hZ.alike Ar.2.1) rfl Ar.2.2 hin (Hs.at hin (hu _)) F.method e1 hd target hr
        · cases h
      · cases h
    · cases h
  · cases h
end Ob
end Sound
end Jvm.Mini
/-! OWN LAYER, part 5: the interpreter's soundness. -/
namespace Jvm.Mini
open Sem ClassFile Op Lib Jvm.Stand Jvm.Free Jvm.RoadKit Jvm.Sym
def Cx (p : Program) (s : State) (m : MethodId) (meth : Method) (c : Code) (Z : State) (N n0 : Nat) (R : Room) (M : Mth) (rf rl : Nat) : Prop :=
  p.tables.exec = Jvm.exec ∧ c.code = mBy M ∧ c.maxLocals = mMx M ∧ meth.sig.returnType = mRt M ∧ meth.name = (mNm M).name ∧ s.vm.findClass (mNm M).cls = some m.cls ∧ Z.Warmed39 s.vm ∧ R.frames = rf ∧ R.locals = rl ∧ n0 + N ≤ s.heap.size + R.cells
def End (p : Program) (l : Launch) (e : Env) (R : Room) (s : State) (m : MethodId) (args : Array Value) (below : List Frame) (meth : Method) (c : Code) (Z : State) (A : Array Value) (P : Prog) (N n0 stop : Nat) (T : State) (g : JFrame) (k : Option SVal → List ACell → Nat → Path → Ans) (ka : SFrame → List ACell → Nat → Path → Ans) : Prop :=
  (∃ (sv : Option SVal) (v : Option Value) (H' : List ACell) (rs' : Nat) (π' : Path) (T' : State) (locs : List Loc) (cells slots : Nat), Stand p l e R s m args below meth c T' locs cells slots ∧ RepH Z A P n0 H' T'.heap ∧ Fr n0 locs ∧ s.heap.size + cells = n0 + H'.length ∧ H'.length ≤ N ∧ slots + rs' ≤ R.slots ∧
    DenR A Z sv v ∧ (meth.sig.returnType = none → v = none) ∧ (∀ fs, (∀ (f : JFrame) (acts : List Action), f.method = m → f.locked = none → f.entered = [] → (doReturn e (T'.setTop f) acts v).1 = T'.setFrames fs) → Steps p.tables e below (T.setTop g) (T'.setFrames fs)) ∧ Holds A Z π' ∧ Sat A Z (k sv H' rs' π')) ∨
  (∃ (σ' : SFrame) (H' : List ACell) (rs' : Nat) (π' : Path) (T' : State) (g' : JFrame), St p l e R s m args below meth c Z A P N n0 σ' H' rs' T' g' ∧ σ'.pc = stop ∧ Leads p.tables e below T g T' g' ∧ Holds A Z π' ∧ Sat A Z (ka σ' H' rs' π'))
theorem End.of_leads {p : Program} {l : Launch} {e : Env} {R : Room} {s : State} {m : MethodId} {args : Array Value} {below : List Frame} {meth : Method} {c : Code} {Z : State} {A : Array Value} {P : Prog} {N n0 stop : Nat} {T T' : State} {g g' : JFrame} {k : Option SVal → List ACell → Nat → Path → Ans} {ka : SFrame → List ACell → Nat → Path → Ans}
    (h : Leads p.tables e below T g T' g') (q : End p l e R s m args below meth c Z A P N n0 stop T' g' k ka) : End p l e R s m args below meth c Z A P N n0 stop T g k ka := by
  rcases q with ⟨sv, v, H', rs', π', T2, locs, cells, slots, h1, h2, h3, h4, h5, h6, h7, h8, h9, h10, h11⟩ | ⟨σ', H', rs', π', T2, g2, h1, h2, h3, h4, h5⟩
  · exact Or.inl ⟨sv, v, H', rs', π', T2, locs, cells, slots, h1, h2, h3, h4, h5, h6, h7, h8, fun fs hf => h _ (h9 fs hf), h10, h11⟩
  · exact Or.inr ⟨σ', H', rs', π', T2, g2, h1, h2, fun t ht => h _ (h3 t ht), h4, h5⟩

/-- what a callee leaves -/
def Qc (Z : State) (A : Array Value) (P : Prog) (N n0 hs rs : Nat) (k : Option SVal → List ACell → Nat → Path → Ans) (v : Option Value) (h : Heap) (L : List Loc) (kc ks : Nat) : Prop :=
  ∃ (sv : Option SVal) (H' : List ACell) (rs' : Nat) (π' : Path), RepH Z A P n0 H' h ∧ Fr n0 L ∧ n0 + hs + kc = n0 + H'.length ∧ H'.length ≤ N ∧ ks + rs' ≤ rs ∧ DenR A Z sv v ∧ Holds A Z π' ∧ Sat A Z (k sv H' rs' π')

theorem den_toList {A : Array Value} {Z : State} {sv : Option SVal} {v : Option Value} (h : DenR A Z sv v) {r : List SVal} {w : List Value} (d : DenStack A Z r w) : DenStack A Z (sv.toList ++ r) (v.toList ++ w) := by
  cases sv with
  | none => cases v with | none => exact d | some _ => exact h.elim
  | some x => cases v with | none => exact h.elim | some u => exact ⟨h, d⟩

theorem interp_sound {A : Array Value} {Z : State} {a0 : Array Value} {P : Prog} {K N n0 : Nat} {tb : List Jvm.Cond} (l : Launch)
    (hP : okP tb P = true) (hw : ∀ d ∈ tb, d.before a0 Z = true) (hA : ∀ i, i < N → A[K + i]? = some (.ref (n0 + i))) :
    ∀ (n : Nat) (M : Mth) (rf rl o stop : Nat) (σ : SFrame) (rem : List AI) (H : List ACell) (rs : Nat) (π : Path) (k : Option SVal → List ACell → Nat → Path → Ans) (ka : SFrame → List ACell → Nat → Path → Ans), M ∈ P.2 → (∀ a ∈ rem, a ∈ mCd M) → Sat A Z (interp P K N n M rf rl o stop σ rem H rs π k ka) → Holds A Z π →
      ∀ {p : Program} {e : Env} {R : Room} {s : State} {m : MethodId} {args : Array Value} {below : List Frame} {meth : Method} {c : Code} {T : State} {g : JFrame}, Cx p s m meth c Z N n0 R M rf rl → St p l e R s m args below meth c Z A P N n0 σ H rs T g →
        End p l e R s m args below meth c Z A P N n0 stop T g k ka := by
  have hcl : ∀ (k : Nat) (C : Cls), P.1[k]? = some C → okCls tb C = true := fun k C hC => by
    unfold okP at hP
    exact List.all_eq_true.mp (Bool.and_eq_true_iff.mp hP).1 C (List.mem_of_getElem? hC)
  have hmt : ∀ (M : Mth), M ∈ P.2 → ∀ a ∈ mCd M, okAI tb P M a = true := fun M hM a ha => by
    unfold okP at hP
    exact List.all_eq_true.mp (List.all_eq_true.mp (Bool.and_eq_true_iff.mp hP).2 M hM) a ha
  intro n
  induction n with
  | zero => intro M rf rl o stop σ rem H rs π k ka hM hrem hS hp p e R s m args below meth c T g hC S; exact (not_stuck hS hp).elim
  | succ n ih =>
    intro M rf rl o stop σ rem H rs π k ka hM hrem hS0 hp p e R s m args below meth c T g hC S
    obtain ⟨hx, hby, hml, hret, hnm, hown, hZ, hrf, hrl, hR⟩ := id hC
    have hS : Sat A Z (step P K N (interp P K N n) M rf rl o stop σ rem H rs π k ka) := hS0
    clear hS0
    unfold step at hS
    cases hst : Nat.beq σ.pc stop
    case true =>
      simp only [hst, cond_true] at hS
      exact Or.inr ⟨σ, H, rs, π, T, g, S, Nat.eq_of_beq_eq_true hst, fun t ht => ht, hp, hS⟩
    simp only [hst, cond_false] at hS
    split at hS
    · exact (not_stuck hS hp).elim
    · rename_i ai rest
      have hin := hrem _ (List.mem_cons_self ..)
      have hok := hmt M hM _ hin
      have hrest : ∀ a ∈ rest, a ∈ mCd M := fun a ha => hrem a (List.mem_cons_of_mem _ ha)
      have hdrop : ∀ q, ∀ a ∈ (mCd M).drop q, a ∈ mCd M := fun q a ha => List.mem_of_mem_drop ha
      obtain ⟨pc, i, len, tag, x, y, vals⟩ := ai
      unfold stepA at hS
      dsimp only at hS
      cases hpc : Nat.beq σ.pc pc
      · simp only [hpc, cond_false] at hS; exact (not_stuck hS hp).elim
      · simp only [hpc, cond_true] at hS
        have epc := Nat.eq_of_beq_eq_true hpc
        have esig : ({ σ with pc := pc } : SFrame) = σ := by cases σ; dsimp only at epc; rw [epc]
        rw [esig] at hS
        have S0 := S
        obtain ⟨locs, cells, slots, X, F, Rp, Nf, hsz, hN, hsl⟩ := S
        have egpc : g.pc = pc := F.pc.trans epc
        have hdec : tag ≠ 12 → tag ≠ 13 → decode c.code g.pc = .ok (i, len) ∧ okI tb P M pc i len tag x y vals = true := fun ht ht9 => by
          unfold okAI at hok
          rcases Bool.or_eq_true_iff.mp hok with q | q
          · rcases Bool.or_eq_true_iff.mp q with q | q
            · exact absurd (Nat.eq_of_beq_eq_true q) ht
            · exact absurd (Nat.eq_of_beq_eq_true q) ht9
          · obtain ⟨q1, q2⟩ := Bool.and_eq_true_iff.mp q
            have q1 := of_decide_eq_true q1
            exact ⟨by rw [hby, egpc]; exact q1, q2⟩
        have plain : ∀ {q : Option SFrame}, Sat A Z (goOn q (interp P K N n) M rf rl o stop rest H rs π k ka) → (∀ σ', q = some σ' → ∃ g', Sym.Fits A Z m σ' g' ∧ Leads p.tables e below T g T g') → End p l e R s m args below meth c Z A P N n0 stop T g k ka := by
          intro q hq hs
          unfold goOn at hq
          split at hq
          · obtain ⟨g', F', L'⟩ := hs _ rfl
            exact End.of_leads L' (ih M rf rl o stop _ rest H rs π k ka hM hrest hq hp hC ⟨locs, cells, slots, X, F', Rp, Nf, hsz, hN, hsl⟩)
          · exact (not_stuck hq hp).elim
        unfold disp at hS
        cases h20 : Nat.ble 20 tag
        case true =>
          simp only [h20, cond_true] at hS
          have t20 := Nat.le_of_ble_eq_true h20
          obtain ⟨hd, hoI⟩ := hdec (by omega) (by omega)
          unfold okI at hoI
          simp only [h20, cond_true] at hoI
          unfold goOnH at hS
          split at hS
          · rename_i σ' H' rs' hm
            rw [← hml, ← hrf, ← hrl] at hm
            obtain ⟨T', g', S', L'⟩ := hstep_ok hw hA hcl S0 hx hZ hown hnm hR hd hoI hm
            exact End.of_leads L' (ih M rf rl o stop σ' rest H' rs' π k ka hM hrest hS hp hC S')
          · exact (not_stuck hS hp).elim
        simp only [h20, cond_false] at hS
        split at hS
        · -- 0
          obtain ⟨hd, hoI⟩ := hdec (by decide) (by decide)
          exact plain hS fun σ' hm => rLoad_ok X.here hx F hd hoI hm
        · -- 1
          obtain ⟨hd, hoI⟩ := hdec (by decide) (by decide)
          exact plain hS fun σ' hm => rConst_ok X.here hx F hd hoI hm
        · -- 2
          obtain ⟨hd, hoI⟩ := hdec (by decide) (by decide)
          exact plain hS fun σ' hm => rStore_ok X.here hx F hd hoI hm
        · -- 3
          obtain ⟨hd, hoI⟩ := hdec (by decide) (by decide)
          exact plain hS fun σ' hm => rBinI_ok X.here hx F hd (of_decide_eq_true hoI) hm
        · -- 4
          obtain ⟨hd, hoI⟩ := hdec (by decide) (by decide)
          exact plain hS fun σ' hm => rIinc_ok X.here hx F hd hoI hm
        · -- 5
          obtain ⟨hd, hoI⟩ := hdec (by decide) (by decide)
          obtain ⟨g', F', L'⟩ := rGoto_ok (e := e) X.here hx F hd epc hoI
          exact End.of_leads L' (ih M rf rl o stop _ _ H rs π k ka hM (hdrop x) hS hp hC ⟨locs, cells, slots, X, F', Rp, Nf, hsz, hN, hsl⟩)
        · -- 6
          obtain ⟨hd, hoI⟩ := hdec (by decide) (by decide)
          unfold tFork at hS
          cases hm : rFork y σ.stack with
          | none => simp only [hm] at hS; exact (not_stuck hS hp).elim
          | some t3 =>
            obtain ⟨cnd, fl, st⟩ := t3
            cases vals with
            | nil => simp only [hm] at hS; exact (not_stuck hS hp).elim
            | cons tg vs =>
            cases vs with
            | cons _ _ => simp only [hm] at hS; exact (not_stuck hS hp).elim
            | nil =>
            simp only [hm] at hS
            have hoI : okFk pc y tg i = true := hoI
            unfold okFk at hoI
            cases hfk : fkCode i with
            | none => rw [hfk] at hoI; cases hoI
            | some cq =>
              obtain ⟨cy, q⟩ := cq
              rw [hfk] at hoI
              simp only [Bool.and_eq_true, decide_eq_true_eq] at hoI
              obtain ⟨⟨rfl, hq0⟩, htg⟩ := hoI
              obtain ⟨bv, hcv, g', F', L'⟩ := rFork_ok (e := e) (cc := 0) X.here hx F hd epc hfk hq0 htg hm
              have yes : bv = true → Sym.Fits A Z m { σ with pc := tg.toNat, stack := st } g' := fun q => by subst q; exact F'
              have no : bv = false → Sym.Fits A Z m (adv σ len st) g' := fun q => by subst q; exact F'
              unfold tFork2 at hS
              split at hS
              · rename_i b hb
                have eb := decG_sound hA hb hp hcv
                subst eb
                cases bv
                · have : ((false == fl) == fl) = false := by cases fl <;> rfl
                  simp only [this, cond_false] at hS
                  exact End.of_leads L' (ih M rf rl o stop _ rest H rs π k ka hM hrest hS hp hC ⟨locs, cells, slots, X, no rfl, Rp, Nf, hsz, hN, hsl⟩)
                · have : ((true == fl) == fl) = true := by cases fl <;> rfl
                  simp only [this, cond_true] at hS
                  exact End.of_leads L' (ih M rf rl o stop _ _ H rs π k ka hM (hdrop x) hS hp hC ⟨locs, cells, slots, X, yes rfl, Rp, Nf, hsz, hN, hsl⟩)
              · cases bv
                · have : (false == fl) = !fl := by cases fl <;> rfl
                  rw [this] at hcv
                  exact End.of_leads L' (ih M rf rl o stop _ rest H rs _ k ka hM hrest (sat_cut hS.right (hp.cons hcv)) (hp.cons hcv) hC ⟨locs, cells, slots, X, no rfl, Rp, Nf, hsz, hN, hsl⟩)
                · have : (true == fl) = fl := by cases fl <;> rfl
                  rw [this] at hcv
                  exact End.of_leads L' (ih M rf rl o stop _ _ H rs _ k ka hM (hdrop x) (sat_cut hS.left (hp.cons hcv)) (hp.cons hcv) hC ⟨locs, cells, slots, X, yes rfl, Rp, Nf, hsz, hN, hsl⟩)
        unfold disp2 at hS
        split at hS
        · -- 8: a call
          obtain ⟨hd, hcall⟩ := hdec (by decide) (by decide)
          have hcall : okC tb P (mNm M).cls i len x y = true := hcall
          unfold tCall at hS
          split at hS
          · rename_i M' hM'
            unfold tCall2 at hS
            cases hb : (callOk K y M' (σ.stack.take (mNa M')).reverse H && Nat.ble (mNa M') σ.stack.length && Nat.ble 1 rf && Nat.ble (catS (σ.stack.drop (mNa M')) + (mMx M' + 11)) rl && Nat.beq σ.locals.length (mMx M))
            · simp only [hb, cond_false] at hS; exact (not_stuck hS hp).elim
            · simp only [hb, cond_true] at hS
              simp only [Bool.and_eq_true] at hb
              obtain ⟨⟨⟨⟨b1, b2⟩, b3⟩, b4⟩, b5⟩ := hb
              have b2 := Nat.le_of_ble_eq_true b2
              have b3 := Nat.le_of_ble_eq_true b3
              have b4 := Nat.le_of_ble_eq_true b4
              have b5 := Nat.eq_of_beq_eq_true b5
              have hM2 : M' ∈ P.2 := List.mem_of_getElem? hM'
              have dst := F.stack
              have dargs := DenStack.rev (DenStack.take (mNa M') dst)
              have drest := DenStack.drop (mNa M') dst
              have hT := S0.size
              generalize hW : catS (σ.stack.drop (mNa M')) = W at *
              generalize has : (σ.stack.take (mNa M')).reverse = as at *
              generalize havs : (g.stack.take (mNa M')).reverse = av at *
              generalize hrs : g.stack.drop (mNa M') = wr at *
              generalize hrS : σ.stack.drop (mNa M') = rS at *
              have hgst : g.stack = av.reverse ++ wr := by rw [← havs, ← hrs, List.reverse_reverse, List.take_append_drop]
              have hla : av.length = mNa M' := by
                rw [← havs, List.length_reverse, List.length_take, ← DenStack.len dst]; omega
              have hcat : 2 * g.monitorRoom + (wr.map fun v => v.category).sum ≤ W := by
                rw [F.mroom, catS_eq drest, ← hW]; omega
              have hsize : g.locals.size = c.maxLocals := by rw [F.locals.size, b5, hml]
              -- what the table says of the callee
              have hY : ∀ {na : Nat}, okY tb M' na = true → (Jvm.Cond.code (mNm M') (mBy M') (mMx M') (mRt M')).before a0 Z = true ∧ (Jvm.Cond.initialized (mNm M').cls).before a0 Z = true ∧ plainFor (mNm M') = true ∧ ((mNm M').cls ≠ "java/lang/invoke/MethodHandle" ∧ (mNm M').cls ≠ "java/lang/invoke/VarHandle") ∧
                  (∀ sig, parseMethodDescriptor (mNm M').desc = some sig → na = sig.parameters.length) := by
                intro na q
                unfold okY at q
                simp only [Bool.and_eq_true, decide_eq_true_eq] at q
                obtain ⟨⟨⟨⟨q1, q2⟩, q3⟩, q4⟩, q5⟩ := q
                refine ⟨hw _ (has_mem q1), hw _ (has_mem q2), q3, q4, fun sig hs => ?_⟩
                rw [hs] at q5
                exact (Nat.eq_of_beq_eq_true q5).symm
              -- the callee by the induction
              have met : plainFor (mNm M') = true → MetFree l (mNm M') (head1 [Jvm.Cond.code (mNm M') (mBy M') (mMx M') (mRt M')] ({ frames := rf - 1, cells := N - H.length, slots := rs, locals := rl - (W + (mMx M' + 11)) } : Room)) (fun a U => a = av.toArray ∧ Z.Warmed39 U.vm ∧ U.heap = T.heap) (fun _ _ _ _ _ => True)
                  (fun _ U oc U' => ∃ v L k' n', oc = .returned v ∧ Qc Z A P N n0 H.length rs (callK (interp P K N n) M rf rl o stop σ rS rest k ka) v U'.heap L k' n' ∧ FrameEnd U oc U' L k' n') := by
                intro hpl
                refine MetFree.of_bodySF hpl hisR ?_
                intro p' e' s' m' args' below' meth' c' s₁ Bd hml0 hP' _
                obtain ⟨rfl, hZ', hh⟩ := hP'
                have es : s₁.heap = T.heap := by rw [← hh, Bd.state]; rfl
                have X0 : Stand p' l e' ({ frames := rf - 1, cells := N - H.length, slots := rs, locals := rl - (W + (mMx M' + 11)) } : Room) s' m' av.toArray below' meth' c' s₁ [] 0 0 := Stand.of_body Bd
                have C' : Cx p' s' m' meth' c' Z N n0 ({ frames := rf - 1, cells := N - H.length, slots := rs, locals := rl - (W + (mMx M' + 11)) } : Room) M' (rf - 1) (rl - (W + (mMx M' + 11))) :=
                  ⟨Bd.exec, Bd.bytes, hml0, Bd.returns, (name_of_methodNamed Bd.named Bd.method).1, findClass_of_methodNamed Bd.named, hZ', rfl, rfl, by show n0 + N ≤ s'.heap.size + (N - H.length); rw [hh]; omega⟩
                have S' : St p' l e' ({ frames := rf - 1, cells := N - H.length, slots := rs, locals := rl - (W + (mMx M' + 11)) } : Room) s' m' av.toArray below' meth' c' Z A P N n0 (entryS as (mMx M')) H rs s₁ (entryFrame m' av.toArray (mMx M')) :=
                  ⟨[], 0, 0, X0, entry_fits dargs _, by rw [es]; exact Rp, Fr.nil n0, by rw [hh]; omega, hN, by show 0 + rs ≤ rs; omega⟩
                rcases ih M' (rf - 1) (rl - (W + (mMx M' + 11))) o 100000 (entryS as (mMx M')) (mCd M') H rs π _ _ hM2 (fun a ha => ha) hS hp C' S' with ⟨sv, v, H', rs', π', T', L, kc, ks, Y1, Y2, Y3, Y4, Y5, Y6, Y7, Y8, Y9, Y10, Y11⟩ | ⟨_, _, _, π', _, _, -, -, -, Y4, Y5⟩
                case inr => exact (not_stuck Y5 Y4).elim
                obtain ⟨fs, hr, hrun, hended, hWm, hsame⟩ := Y1.leave (v := v) Y8 Bd.notSynchronized
                exact ⟨_, _, Y9 fs hr, hrun, hended, v, L, kc, ks, rfl, ⟨sv, H', rs', π', Y2, Y3, by rw [hh] at Y4; omega, Y5, Y6, Y7, Y10, Y11⟩, ⟨_, rfl⟩, hWm, hsame⟩
              have hfr : ({ frames := rf - 1, cells := N - H.length, slots := rs, locals := rl - (W + (mMx M' + 11)) } : Room).frames + 1 ≤ R.frames := by show rf - 1 + 1 ≤ R.frames; omega
              have hlo : W + (mMx M' + 11) + ({ frames := rf - 1, cells := N - H.length, slots := rs, locals := rl - (W + (mMx M' + 11)) } : Room).locals ≤ R.locals := by show W + (mMx M' + 11) + (rl - (W + (mMx M' + 11))) ≤ R.locals; omega
              -- behind the call
              have fin : ∀ {v : Option Value} {B : Pt}, Stand p l e R s m args below meth c B.U B.locs B.cells B.slots → (∃ L k' n', Qc Z A P N n0 H.length rs (callK (interp P K N n) M rf rl o stop σ rS rest k ka) v B.U.heap L k' n' ∧ B.locs = locs ++ L ∧ B.cells = cells + k' ∧ B.slots = slots + n') →
                  Leads p.tables e below T g B.U { g with pc := g.pc + 3, stack := v.toList ++ wr } → End p l e R s m args below meth c Z A P N n0 stop T g k ka := by
                intro v B X' ⟨L, k', n', ⟨sv, H', rs', π', Y1, Y2, Y3, Y4, Y5, Y6, Y7, Y8⟩, z1, z2, z3⟩ lead
                refine End.of_leads lead (ih M rf rl o stop _ rest H' rs' π' k ka hM hrest Y8 Y7 hC ⟨B.locs, B.cells, B.slots, X', F.step (den_toList Y6 drest) 3, Y1, ?_, ?_, Y4, ?_⟩)
                · rw [z1]; exact Nf.app Y2
                · rw [z2]; omega
                · rw [z3]; omega
              unfold okC at hcall
              rw [hM'] at hcall
              dsimp only at hcall
              split at hcall
              · rename_i idx
                simp only [Bool.and_eq_true] at hcall
                obtain ⟨⟨⟨c1, c2⟩, c3⟩, c4⟩ := hcall
                have c1 := Nat.eq_of_beq_eq_true c1
                subst c1
                obtain ⟨y1, y2, y3, y4, y5⟩ := hY c4
                obtain ⟨v, vm₁, B, -, X', post, st⟩ := Jvm.LawKit.callS X hx (y := mNm M') hown (mvT hZ (hw _ (has_mem c2))) (mvT hZ (hw _ (has_mem c3))) (mvT hZ y2) (mvT hZ y1) y4 (backOf' (a0 := a0) (W := W) (met y3) hZ y1 y2 hfr hlo) (g := g) F.method hsize (argsL := av) (rest := wr) (fun sig hs => by rw [hla]; exact y5 sig hs) hgst hcat hd
                  (fun vm₁ _ => ⟨rfl, rfl, by show cells + (N - H.length) ≤ R.cells; omega, by show slots + rs ≤ R.slots; exact hsl⟩)
                exact fin X' post (fun target hr => st target hr)
              · rename_i idx
                simp only [Bool.and_eq_true] at hcall
                obtain ⟨⟨⟨⟨⟨c1, c2⟩, c3⟩, c5⟩, c4⟩, c6⟩ := hcall
                have c1 := Nat.eq_of_beq_eq_true c1
                have c6 := Nat.le_of_ble_eq_true c6
                subst c1
                obtain ⟨y1, y2, y3, y4, y5⟩ := hY c4
                -- the receiver
                have b1 : recvOk K (mCi M') as H = true := b1
                unfold recvOk at b1
                split at b1
                · rename_i o as'
                  split at b1
                  · rename_i ix hix
                    split at b1
                    · rename_i ci vs hH
                      have eci := Nat.eq_of_beq_eq_true b1
                      subst eci
                      split at c5
                      · rename_i C hC0
                        obtain ⟨wo, av', e1, d1, h1⟩ := dargs.cons_inv
                        have hlt := (List.getElem?_eq_some_iff.mp hH).1
                        have := ref_val hA hix (by omega) d1
                        subst this
                        rcases Rp.2 _ _ hH with (⟨q0, -⟩ | ⟨-, C', hC', ex, -⟩ | ⟨q0, -⟩) | ⟨q0, -⟩
                        · cases q0
                        · cases hC0.symm.trans hC'
                          obtain ⟨cell, kk, x1, x2, x3, x4, -⟩ := ex
                          obtain ⟨v, vm₁, B, -, X', post, st⟩ := Jvm.LawKit.callV X hx (y := mNm M') (C := C.1) hown (mvT hZ (hw _ (has_mem c2))) (mvT hZ (hw _ (has_mem c3))) (mvT hZ (okSel_spec hw c5)) (mvT hZ y1) y4 (backOf' (a0 := a0) (W := W) (met y3) hZ y1 y2 hfr hlo) x1 x4 (by rw [hZ.alike.findClass]; exact x2) (g := g) F.method hsize (argsL := av') (rest := wr)
                            (fun sig hs => by have q1 := y5 sig hs; rw [e1, List.length_cons] at hla; omega) (by rw [hgst, e1, List.reverse_cons, List.append_assoc]; rfl) hcat hd
                            (fun vm₁ _ => ⟨by rw [e1], rfl, by show cells + (N - H.length) ≤ R.cells; omega, by show slots + rs ≤ R.slots; exact hsl⟩)
                          exact fin X' post (fun target hr => st target hr)
                        · cases q0
                        · cases q0
                      · cases c5
                    · cases b1
                  · cases b1
                · cases b1
              · rename_i idx
                simp only [Bool.and_eq_true, decide_eq_true_eq] at hcall
                obtain ⟨⟨⟨⟨⟨⟨c1, c2⟩, c3⟩, c7⟩, c8⟩, c4⟩, c6⟩ := hcall
                have c1 := Nat.eq_of_beq_eq_true c1
                have c6 := Nat.le_of_ble_eq_true c6
                subst c1
                obtain ⟨y1, y2, y3, y4, y5⟩ := hY c4
                have b1 : newOk K as H = true := b1
                unfold newOk at b1
                split at b1
                · rename_i o as'
                  split at b1
                  · rename_i ix hix
                    have hlt : ix < H.length := by simpa [Nat.blt_eq] using b1
                    obtain ⟨wo, av', e1, d1, h1⟩ := dargs.cons_inv
                    have := ref_val hA hix (by omega) d1
                    subst this
                    have y1' := y1
                    rw [c8] at y1'
                    obtain ⟨v, vm₁, B, -, X', post, st⟩ := Jvm.LawKit.callI X hx (y := mNm M') hown c7 (mvT hZ (hw _ (has_mem c2))) (mvT hZ (hw _ (has_mem c3))) (mvT hZ y1') y4 (backOf' (a0 := a0) (W := W) (met y3) hZ y1 y2 hfr hlo) (g := g) F.method hsize (argsL := av') (rest := wr)
                      (fun sig hs => by have q1 := y5 sig hs; rw [e1, List.length_cons] at hla; omega) (by rw [hgst, e1, List.reverse_cons, List.append_assoc]; rfl) hcat hd
                      (fun vm₁ _ => ⟨by rw [e1], rfl, by show cells + (N - H.length) ≤ R.cells; omega, by show slots + rs ≤ R.slots; exact hsl⟩)
                    exact fin X' post (fun target hr => st target hr)
                  · cases b1
                · cases b1
              · cases hcall
          · exact (not_stuck hS hp).elim
        · -- 9: a return
          obtain ⟨hd, hoI⟩ := hdec (by decide) (by decide)
          unfold tRet at hS
          split at hS
          · rename_i sv hm
            obtain ⟨v, r1, r2, r3⟩ := ret_ok X hx F hret hd hoI hm
            exact Or.inl ⟨sv, v, H, rs, π, T, locs, cells, slots, X, Rp, Nf, hsz, hN, hsl, r1, r2, r3, hp, hS⟩
          · exact (not_stuck hS hp).elim
        · -- 10
          obtain ⟨hd, hoI⟩ := hdec (by decide) (by decide)
          exact plain hS fun σ' hm => rOther_ok X.here hx F hd hoI hm
        · -- 11
          obtain ⟨hd, hoI⟩ := hdec (by decide) (by decide)
          exact plain hS fun σ' hm => rStack_ok X.here hx F hd hoI hm
        · -- 12: a value is told apart
          unfold tSplit at hS
          split at hS
          · rename_i v r hst
            cases hc : isC v
            · simp only [hc, cond_false] at hS
              split at hS
              · rename_i hk
                obtain ⟨G, hG, hv⟩ := hS _ (List.mem_cons_self ..) hp
                obtain ⟨z, hz, rfl⟩ := List.mem_map.mp hG
                have h0 := F.stack
                rw [hst] at h0
                obtain ⟨w, ws, e1, d, h1⟩ := h0.cons_inv
                obtain ⟨u, rfl⟩ := d.int hk
                have hu : u = Int32.ofInt z := by
                  simp only [eqG, Jvm.Cond.value, d.2.1, Term.eval, Option.some.injEq, decide_eq_true_eq] at hv
                  exact hv
                subst hu
                have F' : Sym.Fits A Z m { σ with stack := ⟨.int (Int32.ofInt z), .int⟩ :: r } g := ⟨F.method, F.pc, F.locals, by show DenStack A Z (⟨.int (Int32.ofInt z), .int⟩ :: r) g.stack; rw [e1]; exact DenStack.cons ⟨rfl, rfl, rfl⟩ h1, F.locked, F.entered, F.mroom⟩
                refine ih M rf rl o stop _ rest H rs ((eqG v.t z, true) :: π) k ka hM hrest (fun q hq => hS q (List.mem_cons_of_mem _ (List.mem_flatMap.mpr ⟨z, hz, hq⟩))) (hp.cons hv) hC ⟨locs, cells, slots, X, F', Rp, Nf, hsz, hN, hsl⟩
              · exact (not_stuck hS hp).elim
            · simp only [hc, cond_true] at hS
              exact ih M rf rl o stop σ rest H rs π k ka hM hrest hS hp hC S0
          · exact (not_stuck hS hp).elim
        · -- 13: roads told as one
          unfold tMerge at hS
          rcases ih M rf rl (o + vals.length) y σ rest H rs π _ _ hM hrest hS.left hp hC S0 with ⟨_, _, _, _, π', _, _, _, _, -, -, -, -, -, -, -, -, -, Y10, Y11⟩ | ⟨σ', H', rs', π', T', g', Y1, Y2, Y3, Y4, Y5⟩
          · exact (not_stuck Y11 Y10).elim
          · obtain ⟨locs', cells', slots', X', F', Rp', Nf', hsz', hN', hsl'⟩ := Y1
            obtain ⟨z1, z2, z3⟩ := arrive_ok Y5 Y4 F' Y2
            subst z1
            exact End.of_leads Y3 (ih M rf rl _ stop _ _ H' rs π k ka hM (hdrop x) hS.right hp hC ⟨locs', cells', slots', X', z3, Rp', Nf', hsz', hN', by omega⟩)
        · -- 14: a component at an index that is no constant
          obtain ⟨hd, hoI⟩ := hdec (by decide) (by decide)
          unfold tLoadX at hS
          split at hS
          · rename_i σ' a hm
            have hop := Bool.and_eq_true_iff.mp hoI
            rw [Nat.eq_of_beq_eq_true hop.1, of_decide_eq_true hop.2] at hd
            obtain ⟨T', g', S', L'⟩ := hLoadX_ok S0 hx hZ hA hd hp hm hS.left
            exact End.of_leads L' (ih M rf rl _ stop σ' rest H rs π k ka hM hrest hS.right hp hC S')
          · exact (not_stuck hS hp).elim
        · -- 15: a write at an index that is no constant
          obtain ⟨hd, hoI⟩ := hdec (by decide) (by decide)
          unfold tStoreX at hS
          split at hS
          · rename_i σ' H' d a hm
            have hop := Bool.and_eq_true_iff.mp hoI
            rw [Nat.eq_of_beq_eq_true hop.1, of_decide_eq_true hop.2] at hd
            obtain ⟨T', g', S', L'⟩ := hStoreX_ok S0 hx hZ hA hd hp hm hS.left
            exact End.of_leads L' (ih M rf rl _ stop σ' rest H' rs π k ka hM hrest hS.right hp hC S')
          · exact (not_stuck hS hp).elim
        · -- 16: steps that ask something
          obtain ⟨hd, hoI⟩ := hdec (by decide) (by decide)
          unfold tOb at hS
          split at hS
          · rename_i σ' H' rs' a hm
            obtain ⟨T', g', S', L'⟩ := hOb_ok hw S0 hx hZ hA hown hR hd hoI hp hm hS.left
            exact End.of_leads L' (ih M rf rl _ stop σ' rest H' rs' π k ka hM hrest hS.right hp hC S')
          · exact (not_stuck hS hp).elim
        · -- 17: a place of an array that is told by what was written
          obtain ⟨hd, hoI⟩ := hdec (by decide) (by decide)
          unfold tRead at hS
          split at hS
          · rename_i j lv gs st hm
            obtain ⟨v, π', T', g', S', L', hp', hS'⟩ := tRead_ok S0 hx hZ hA hd hoI hp hm hS.left hS.right
            exact End.of_leads L' (ih M rf rl _ stop _ rest H rs π' k ka hM hrest hS' hp' hC S')
          · exact (not_stuck hS hp).elim
        · exact (not_stuck hS hp).elim

/-- at the law's end: the answer is 1 -/
def kFin (v : Option SVal) (_ : List ACell) (_ : Nat) (π : Path) : Ans :=
  match v with
  | some x => match x.k, x.t with
    | .int, .int z => if z = 1 then [] else stuck π
    | .int, t => [(π, [.eq t (.int 1)])]
    | _, _ => stuck π
  | none => stuck π
theorem kFin_ok {A : Array Value} {Z : State} {sv : Option SVal} {v : Option Value} {H : List ACell} {rs : Nat} {π : Path} (h : Sat A Z (kFin sv H rs π)) (hp : Holds A Z π) (d : DenR A Z sv v) : v = some (.int 1) := by
  unfold kFin at h
  split at h
  · rename_i x
    cases v with
    | none => exact d.elim
    | some w =>
      have d : x.Den A Z w := d
      split at h
      · rename_i z hk ht
        split at h
        · rename_i e
          subst e
          have := d.2.1
          rw [ht] at this
          cases this; rfl
        · exact (not_stuck h hp).elim
      · rename_i t hk hne
        obtain ⟨G, hG, hv⟩ := h _ (List.mem_singleton.mpr rfl) hp
        cases List.mem_singleton.mp hG
        obtain ⟨u, rfl⟩ := d.int hk
        simp only [Jvm.Cond.value, d.2.1, Term.eval, Option.some.injEq, decide_eq_true_eq] at hv
        rw [hv]
      · exact (not_stuck h hp).elim
  · exact (not_stuck h hp).elim

/-- the law, of a whole -/
theorem law_sound {A : Array Value} {Z : State} {a0 : Array Value} {P : Prog} {K N fuel o0 : Nat} {tb : List Jvm.Cond} {M : Mth} {R : Room} {as : List SVal} {vs : List Value} (l : Launch)
    (hP : okP tb P = true) (hw : ∀ d ∈ tb, d.before a0 Z = true) (hA : ∀ i, i < N → A[K + i]? = some (.ref (Z.heap.size + i))) (hM : P.2[0]? = some M) (hpl : plainFor (mNm M) = true) (hN : R.cells = N)
    (hS : Sat A Z (interp P K N fuel M R.frames R.locals o0 100000 (entryS as (mMx M)) (mCd M) [] R.slots [] kFin noA)) (dargs : DenStack A Z as vs) (ws : List Jvm.Cond) :
    MetFree l (mNm M) (head1 (Jvm.Cond.code (mNm M) (mBy M) (mMx M) (mRt M) :: ws) R) (fun a U => a = vs.toArray ∧ Z.Warmed39 U.vm ∧ U.heap = Z.heap) (fun _ _ _ _ _ => True)
      (fun _ U o U' => ∃ L, o = .returned (some (.int 1)) ∧ Fr Z.heap.size L ∧ FrameEnd U o U' L R.cells R.slots) := by
  refine MetFree.of_bodySF hpl hisR ?_
  intro p e s m args below meth c s₁ Bd hml0 hP' _
  obtain ⟨rfl, hZ', hh⟩ := hP'
  have es : s₁.heap = Z.heap := by rw [← hh, Bd.state]; rfl
  have X0 : Stand p l e R s m vs.toArray below meth c s₁ [] 0 0 := Stand.of_body Bd
  have C' : Cx p s m meth c Z N Z.heap.size R M R.frames R.locals :=
    ⟨Bd.exec, Bd.bytes, hml0, Bd.returns, (name_of_methodNamed Bd.named Bd.method).1, findClass_of_methodNamed Bd.named, hZ', rfl, rfl, by rw [hh, hN]; omega⟩
  have S' : St p l e R s m vs.toArray below meth c Z A P N Z.heap.size (entryS as (mMx M)) [] R.slots s₁ (entryFrame m vs.toArray (mMx M)) :=
    ⟨[], 0, 0, X0, entry_fits dargs _, ⟨by rw [es]; exact Nat.le_refl _, fun i c hi => by cases hi⟩, Fr.nil _, by rw [hh]; rfl, Nat.zero_le _, by omega⟩
  rcases interp_sound l hP hw hA fuel M R.frames R.locals o0 100000 _ (mCd M) [] R.slots [] kFin _ (List.mem_of_getElem? hM) (fun a ha => ha) hS (fun f hf => by cases hf) C' S' with ⟨sv, v, H', rs', π', T', L, kc, ks, Y1, Y2, Y3, Y4, Y5, Y6, Y7, Y8, Y9, Y10, Y11⟩ | ⟨_, _, _, π', _, _, -, -, -, Y4, Y5⟩
  case inr => exact (not_stuck Y5 Y4).elim
  obtain ⟨fs, hr, hrun, hended, hWm, hsame⟩ := Y1.leave (v := v) Y8 Bd.notSynchronized
  have ev := kFin_ok Y11 Y10 Y7
  subst ev
  exact ⟨_, _, Y9 fs hr, hrun, hended, L, rfl, Y3, ⟨_, rfl⟩, hWm, hsame.mono (by rw [hh] at Y4; omega) (by omega)⟩
end Jvm.Mini
/-! OWN LAYER, part 6: the law's arguments, and what is left to show. -/
namespace Jvm.Mini
open Sem ClassFile Op Lib Jvm.Stand Jvm.Free Jvm.RoadKit Jvm.Sym
/-- the law's arguments, and behind them the cells that will be made -/
def envA (vs : List Value) (n0 N : Nat) : Array Value := (vs ++ (List.range N).map fun i => Value.ref (n0 + i)).toArray
theorem envA_ref {vs : List Value} {n0 N K : Nat} (hk : vs.length = K) : ∀ i, i < N → (envA vs n0 N)[K + i]? = some (.ref (n0 + i)) := by
  intro i hi
  subst hk
  simp [envA, hi]
theorem envA_arg {vs : List Value} {n0 N i : Nat} {v : Value} (h : vs[i]? = some v) : (envA vs n0 N)[i]? = some v := by
  have hi := (List.getElem?_eq_some_iff.mp h).1
  simp only [envA, List.getElem?_toArray]
  rw [List.getElem?_append_left hi, h]
theorem arg_den {vs : List Value} {n0 N i : Nat} {v : Value} {Z : State} {k : VKind} (h : vs[i]? = some v) (hk : k.ok v = true) : (⟨.arg i, k⟩ : SVal).Den (envA vs n0 N) Z v := ⟨rfl, envA_arg h, hk⟩
section
variable {A : Array Value} {Z : State}
theorem sat_allowed {ans : Ans} {al : List (List Jvm.Cond)} (h : (ans.all fun q => al.any fun g => decide (g = q.2)) = true) (hg : ∀ g ∈ al, ∃ G ∈ g, G.value A Z none Z [] = some true) : Sat A Z ans := fun q hq _ => by
  have h1 := List.all_eq_true.mp h q hq
  obtain ⟨g, hgm, e⟩ := List.any_eq_true.mp h1
  have := of_decide_eq_true e
  subst this
  exact hg _ hgm
theorem split_ok {t : Term} {x : Int32} {vals : List Int} (h : t.eval A Z none [] Z = some (.int x)) (hx : ∃ v ∈ vals, x = Int32.ofInt v) : ∃ G ∈ vals.map (eqG t), G.value A Z none Z [] = some true := by
  obtain ⟨v, hv, e⟩ := hx
  refine ⟨_, List.mem_map.mpr ⟨v, hv, rfl⟩, ?_⟩
  simp [eqG, Jvm.Cond.value, h, Term.eval, e]
theorem in_range {x : Int32} (n : Nat) (h0 : 0 ≤ x.toInt) (h1 : x.toInt < n) : ∃ v ∈ (List.range n).map Int.ofNat, x = Int32.ofInt v := by
  refine ⟨x.toInt, List.mem_map.mpr ⟨x.toInt.toNat, List.mem_range.mpr (by omega), Int.toNat_of_nonneg h0⟩, (Int32.ofInt_toInt x).symm⟩
theorem mask_pos (x : Int32) : 0 ≤ (x &&& 2147483647).toInt ∧ (x &&& 2147483647).toInt < 2147483648 := by
  have := c_mask x 2147483647 31 (by decide) (by decide)
  rw [this]
  have h1 := Int.emod_nonneg x.toInt (show ((2 ^ 31 : Nat) : Int) ≠ 0 by decide)
  have h2 := Int.emod_lt_of_pos x.toInt (show (0 : Int) < ((2 ^ 31 : Nat) : Int) by decide)
  exact ⟨h1, h2⟩
theorem mask_rem (x d : Int32) (n : Nat) (hd : d.toInt = n) (hn : 0 < n) : ∃ v ∈ (List.range n).map Int.ofNat, (x &&& 2147483647) % d = Int32.ofInt v := by
  obtain ⟨h1, h2⟩ := mask_pos x
  have h3 := (c_irem (x &&& 2147483647) d n hd).1 h1
  refine in_range n ?_ ?_
  · rw [h3]; exact Int.emod_nonneg _ (by omega)
  · rw [h3]; exact Int.emod_lt_of_pos _ (by omega)
theorem mask_in (x mk : Int32) (k : Nat) (hk : k ≤ 31) (hm : mk.toBitVec.toNat = 2 ^ k - 1) : ∃ v ∈ (List.range (2 ^ k)).map Int.ofNat, x &&& mk = Int32.ofInt v := by
  have h := c_mask x mk k hk hm
  have hp : (0 : Int) < ((2 ^ k : Nat) : Int) := by exact_mod_cast Nat.two_pow_pos k
  refine in_range _ ?_ ?_
  · rw [h]; exact Int.emod_nonneg _ (by omega)
  · rw [h]; exact Int.emod_lt_of_pos _ hp
end
end Jvm.Mini
namespace Jvm.Mini
open Sem ClassFile Op Lib Jvm.Stand Jvm.Free Jvm.RoadKit Jvm.Sym
/-! a program whose code differs in one split alone -/
def sig (M : Mth) : MethodName × ByteArray × Nat × Option FieldType × Nat × Nat := (mNm M, mBy M, mMx M, mRt M, mNa M, mCi M)
theorem sig_parts {M M' : Mth} (h : sig M = sig M') : mNm M = mNm M' ∧ mBy M = mBy M' ∧ mMx M = mMx M' ∧ mRt M = mRt M' ∧ mNa M = mNa M' ∧ mCi M = mCi M' := by
  simp only [sig, Prod.mk.injEq] at h
  exact h
theorem okC_sig {tb : List Jvm.Cond} {P P' : Prog} (h1 : P.1 = P'.1) (h2 : P.2.map sig = P'.2.map sig) (own : String) (i : Instr) (len x y : Nat) : okC tb P own i len x y = okC tb P' own i len x y := by
  have e : (P.2[x]?).map sig = (P'.2[x]?).map sig := by rw [← List.getElem?_map, ← List.getElem?_map, h2]
  unfold okC okY
  cases hM : P.2[x]? with
  | none =>
    cases hM' : P'.2[x]? with
    | none => rfl
    | some M' => rw [hM, hM'] at e; cases e
  | some M =>
    cases hM' : P'.2[x]? with
    | none => rw [hM, hM'] at e; cases e
    | some M' =>
      rw [hM, hM'] at e
      obtain ⟨e1, e2, e3, e4, e5, e6⟩ := sig_parts (Option.some.inj e)
      dsimp only
      rw [e1, e2, e3, e4, e5, e6, h1]
theorem okI_sig {tb : List Jvm.Cond} {P P' : Prog} {M M' : Mth} (h1 : P.1 = P'.1) (h2 : P.2.map sig = P'.2.map sig) (hs : sig M = sig M') (pc : Nat) (i : Instr) (len tag x y : Nat) (vals : List Int) : okI tb P M pc i len tag x y vals = okI tb P' M' pc i len tag x y vals := by
  obtain ⟨e1, e2, e3, e4, e5, e6⟩ := sig_parts hs
  unfold okI
  rw [okC_sig h1 h2, e1, e4]
  unfold okH okOb okGet okPut okNewR okNew
  rw [h1]
theorem okP_of {tb : List Jvm.Cond} {P P' : Prog} (h : okP tb P = true) (h1 : P.1 = P'.1) (h2 : P.2.map sig = P'.2.map sig) (h3 : ∀ M' ∈ P'.2, ∃ M ∈ P.2, sig M = sig M' ∧ ∀ a ∈ mCd M', a ∈ mCd M ∨ a.2.2.2.1 = 12) : okP tb P' = true := by
  unfold okP at h ⊢
  obtain ⟨q1, q2⟩ := Bool.and_eq_true_iff.mp h
  refine Bool.and_eq_true_iff.mpr ⟨by rw [← h1]; exact q1, List.all_eq_true.mpr fun M' hM' => List.all_eq_true.mpr fun a ha => ?_⟩
  obtain ⟨M, hM, hs, hc⟩ := h3 M' hM'
  rcases hc a ha with hc | hc
  · have q := List.all_eq_true.mp (List.all_eq_true.mp q2 M hM) a hc
    obtain ⟨pc, i, len, tag, x, y, vals⟩ := a
    unfold okAI at q ⊢
    dsimp only at q ⊢
    rw [← okI_sig h1 h2 hs, ← (sig_parts hs).2.1]
    exact q
  · obtain ⟨pc, i, len, tag, x, y, vals⟩ := a
    dsimp only at hc
    subst hc
    rfl
end Jvm.Mini
namespace Jvm.Pilot.@@N@@
open Jvm Jvm.ClassFile Sem Op Lib Jvm.Free Jvm.Stand Jvm.LawKit Jvm.RoadKit Bundle Jvm.Pilot.@@N@@.Jvm.D
def pCls : List Mini.Cls := [("com/example/hrisey/hrisey/core/ResolvedEntries", 4, [("com/example/hrisey/hrisey/core/ResolvedEntries", "size", "I", .int), ("com/example/hrisey/hrisey/core/ResolvedEntries", "recent", "[Ljava/lang/Object;", (.array (.object "java/lang/Object"))), ("com/example/hrisey/hrisey/core/ResolvedEntries", "recentIndexes", "[I", (.array .int)), ("com/example/hrisey/hrisey/core/ResolvedEntries", "kept", "[Ljava/lang/Object;", (.array (.object "java/lang/Object")))]), ("java/lang/Object", 0, [])]
def own_c0 : List Mini.AI := [
  (0, .nop, 0, 13, 6, 7, [(-1)]),
  (0, .iconst 1, 1, 1, 0, 0, [1]),
  (1, .iload_n 0, 1, 0, 0, 0, []),
  (2, .sipush 2047, 3, 1, 0, 0, [2047]),
  (5, .iand, 1, 3, 0, 3, []),
  (6, .iadd, 1, 3, 0, 0, []),
  (7, .istore 5, 2, 2, 5, 0, []),
  (9, .nop, 0, 13, 13, 16, [(-1)]),
  (9, .iload_n 1, 1, 0, 1, 0, []),
  (10, .ldc 7, 2, 25, 0, 0, [2147483647]),
  (12, .iand, 1, 3, 0, 3, []),
  (13, .iload 5, 2, 0, 5, 0, []),
  (15, .irem, 1, 16, 0, 0, []),
  (16, .istore 6, 2, 2, 6, 0, []),
  (18, .iload_n 3, 1, 0, 3, 0, []),
  (19, .iconst 3, 1, 1, 0, 0, [3]),
  (20, .iand, 1, 3, 0, 3, []),
  (21, .istore 7, 2, 2, 7, 0, []),
  (23, .nop, 0, 13, 48, 72, [8]),
  (23, .iload 7, 2, 0, 7, 0, []),
  (25, .ifCond .ne 10, 3, 6, 24, 7, [35]),
  (28, .iload 6, 2, 0, 6, 0, []),
  (30, .istore 8, 2, 2, 8, 0, []),
  (32, .goto 40, 3, 5, 48, 72, []),
  (35, .iload 7, 2, 0, 7, 0, []),
  (37, .iconst 1, 1, 1, 0, 0, [1]),
  (38, .if_icmp .ne 25, 3, 6, 42, 1, [63]),
  (41, .iload 6, 2, 0, 6, 0, []),
  (43, .sipush 512, 3, 1, 0, 0, [512]),
  (46, .iconst 1, 1, 1, 0, 0, [1]),
  (47, .iload_n 2, 1, 0, 2, 0, []),
  (48, .iconst 2, 1, 1, 0, 0, [2]),
  (49, .iushr, 1, 3, 0, 8, []),
  (50, .iconst 3, 1, 1, 0, 0, [3]),
  (51, .iand, 1, 3, 0, 3, []),
  (52, .iadd, 1, 3, 0, 0, []),
  (53, .imul, 1, 3, 0, 2, []),
  (54, .iadd, 1, 3, 0, 0, []),
  (55, .iload 5, 2, 0, 5, 0, []),
  (57, .irem, 1, 16, 0, 0, []),
  (58, .istore 8, 2, 2, 8, 0, []),
  (60, .goto 12, 3, 5, 48, 72, []),
  (63, .iload_n 2, 1, 0, 2, 0, []),
  (64, .ldc 7, 2, 25, 0, 0, [2147483647]),
  (66, .iand, 1, 3, 0, 3, []),
  (67, .iload 5, 2, 0, 5, 0, []),
  (69, .irem, 1, 16, 0, 0, []),
  (70, .istore 8, 2, 2, 8, 0, []),
  (72, .nop, 0, 13, 54, 80, [(-1)]),
  (72, .iload 4, 2, 0, 4, 0, []),
  (74, .ldc 7, 2, 25, 0, 0, [2147483647]),
  (76, .iand, 1, 3, 0, 3, []),
  (77, .iload 5, 2, 0, 5, 0, []),
  (79, .irem, 1, 16, 0, 0, []),
  (80, .istore 9, 2, 2, 9, 0, []),
  (82, .nop, 0, 13, 65, 95, [(-1)]),
  (82, .iload_n 3, 1, 0, 3, 0, []),
  (83, .iconst 2, 1, 1, 0, 0, [2]),
  (84, .iushr, 1, 3, 0, 8, []),
  (85, .iconst 1, 1, 1, 0, 0, [1]),
  (86, .iand, 1, 3, 0, 3, []),
  (87, .ifCond .eq 7, 3, 6, 64, 6, [94]),
  (90, .iconst 1, 1, 1, 0, 0, [1]),
  (91, .goto 4, 3, 5, 65, 95, []),
  (94, .iconst 0, 1, 1, 0, 0, [0]),
  (95, .istore 10, 2, 2, 10, 0, []),
  (97, .nop, 0, 13, 76, 110, [(-1)]),
  (97, .iload_n 3, 1, 0, 3, 0, []),
  (98, .iconst 3, 1, 1, 0, 0, [3]),
  (99, .iushr, 1, 3, 0, 8, []),
  (100, .iconst 1, 1, 1, 0, 0, [1]),
  (101, .iand, 1, 3, 0, 3, []),
  (102, .ifCond .eq 7, 3, 6, 75, 6, [109]),
  (105, .iconst 1, 1, 1, 0, 0, [1]),
  (106, .goto 4, 3, 5, 76, 110, []),
  (109, .iconst 0, 1, 1, 0, 0, [0]),
  (110, .istore 11, 2, 2, 11, 0, []),
  (112, .iconst 1, 1, 1, 0, 0, [1]),
  (113, .newarray .int, 2, 30, 0, 0, []),
  (115, .dup, 1, 11, 0, 0, []),
  (116, .iconst 0, 1, 1, 0, 0, [0]),
  (117, .iconst 1, 1, 1, 0, 0, [1]),
  (118, .iastore, 1, 22, 0, 0, []),
  (119, .astore 12, 2, 2, 12, 2, []),
  (121, .iconst 1, 1, 1, 0, 0, [1]),
  (122, .newarray .int, 2, 30, 0, 0, []),
  (124, .dup, 1, 11, 0, 0, []),
  (125, .iconst 0, 1, 1, 0, 0, [0]),
  (126, .iconst 2, 1, 1, 0, 0, [2]),
  (127, .iastore, 1, 22, 0, 0, []),
  (128, .astore 13, 2, 2, 13, 2, []),
  (130, .new 8, 3, 32, 0, 0, []),
  (133, .dup, 1, 11, 0, 0, []),
  (134, .iload 5, 2, 0, 5, 0, []),
  (136, .invokespecial 10, 3, 8, 1, 2, []),
  (139, .astore 14, 2, 2, 14, 2, []),
  (141, .aload 14, 2, 0, 14, 2, []),
  (143, .iload 6, 2, 0, 6, 0, []),
  (145, .aload 12, 2, 0, 12, 2, []),
  (147, .iload 10, 2, 0, 10, 0, []),
  (149, .invokevirtual 13, 3, 8, 7, 1, []),
  (152, .aload 14, 2, 0, 14, 2, []),
  (154, .iload 8, 2, 0, 8, 0, []),
  (156, .aload 13, 2, 0, 13, 2, []),
  (158, .iload 11, 2, 0, 11, 0, []),
  (160, .invokevirtual 13, 3, 8, 7, 1, []),
  (163, .aload 14, 2, 0, 14, 2, []),
  (165, .iload 6, 2, 0, 6, 0, []),
  (167, .invokevirtual 17, 3, 8, 8, 1, []),
  (170, .astore 15, 2, 2, 15, 2, []),
  (172, .aload 14, 2, 0, 14, 2, []),
  (174, .iload 8, 2, 0, 8, 0, []),
  (176, .invokevirtual 17, 3, 8, 8, 1, []),
  (179, .astore 16, 2, 2, 16, 2, []),
  (181, .aload 14, 2, 0, 14, 2, []),
  (183, .iload 9, 2, 0, 9, 0, []),
  (185, .invokevirtual 17, 3, 8, 8, 1, []),
  (188, .astore 17, 2, 2, 17, 2, []),
  (190, .iload 5, 2, 0, 5, 0, []),
  (192, .iload 6, 2, 0, 6, 0, []),
  (194, .iload 8, 2, 0, 8, 0, []),
  (196, .iload 10, 2, 0, 10, 0, []),
  (198, .aload 12, 2, 0, 12, 2, []),
  (200, .aload 13, 2, 0, 13, 2, []),
  (202, .invokestatic 21, 3, 8, 9, 0, []),
  (205, .astore 18, 2, 2, 18, 2, []),
  (207, .iload 9, 2, 0, 9, 0, []),
  (209, .iload 8, 2, 0, 8, 0, []),
  (211, .if_icmp .ne 10, 3, 6, 132, 1, [221]),
  (214, .aload 13, 2, 0, 13, 2, []),
  (216, .astore 19, 2, 2, 19, 2, []),
  (218, .goto 20, 3, 5, 140, 238, []),
  (221, .iload 9, 2, 0, 9, 0, []),
  (223, .iload 6, 2, 0, 6, 0, []),
  (225, .if_icmp .ne 10, 3, 6, 138, 1, [235]),
  (228, .aload 18, 2, 0, 18, 2, []),
  (230, .astore 19, 2, 2, 19, 2, []),
  (232, .goto 6, 3, 5, 140, 238, []),
  (235, .aconst_null, 1, 1, 0, 2, [0]),
  (236, .astore 19, 2, 2, 19, 2, []),
  (238, .aload 16, 2, 0, 16, 2, []),
  (240, .aload 13, 2, 0, 13, 2, []),
  (242, .if_acmp .ne 21, 3, 6, 151, 15, [263]),
  (245, .aload 15, 2, 0, 15, 2, []),
  (247, .aload 18, 2, 0, 18, 2, []),
  (249, .if_acmp .ne 14, 3, 6, 151, 15, [263]),
  (252, .aload 17, 2, 0, 17, 2, []),
  (254, .aload 19, 2, 0, 19, 2, []),
  (256, .if_acmp .ne 7, 3, 6, 151, 15, [263]),
  (259, .iconst 1, 1, 1, 0, 0, [1]),
  (260, .goto 4, 3, 5, 152, 264, []),
  (263, .iconst 0, 1, 1, 0, 0, [0]),
  (264, .ireturn, 1, 9, 0, 1, [])]
def own_M0 : Mini.Mth := (x, code, maxLocals, ret, 5, 0, own_c0)
def own_c1a : List Mini.AI := [
  (0, .aload_n 0, 1, 0, 0, 2, []),
  (1, .invokespecial 1, 3, 34, 0, 0, []),
  (4, .aload_n 0, 1, 0, 0, 2, []),
  (5, .iload_n 1, 1, 0, 1, 0, []),
  (6, .putfield 7, 3, 24, 0, 0, []),
  (9, .nop, 0, 13, 16, 27, [(-1)]),
  (9, .sipush 512, 3, 1, 0, 0, [512]),
  (12, .iconst 1, 1, 1, 0, 0, [1]),
  (13, .iload_n 1, 1, 0, 1, 0, []),
  (14, .iconst 1, 1, 1, 0, 0, [1]),
  (15, .isub, 1, 3, 0, 1, []),
  (16, .invokestatic 13, 3, 8, 2, 0, []),
  (19, .invokestatic 19, 3, 8, 3, 0, []),
  (22, .iconst 1, 1, 1, 0, 0, [1]),
  (23, .ishl, 1, 3, 0, 6, []),
  (24, .invokestatic 25, 3, 8, 5, 0, [])]
def own_c1b : List Mini.AI := [
  (27, .istore_n 2, 1, 2, 2, 0, []),
  (28, .aload_n 0, 1, 0, 0, 2, []),
  (29, .iload_n 2, 1, 0, 2, 0, []),
  (30, .anewarray 2, 3, 31, 1, 0, []),
  (33, .putfield 28, 3, 24, 0, 1, []),
  (36, .aload_n 0, 1, 0, 0, 2, []),
  (37, .iload_n 2, 1, 0, 2, 0, []),
  (38, .newarray .int, 2, 30, 0, 0, []),
  (40, .putfield 32, 3, 24, 0, 2, []),
  (43, .aload_n 0, 1, 0, 0, 2, []),
  (44, .getfield 32, 3, 20, 0, 2, []),
  (47, .iconst (-1), 1, 1, 0, 0, [(-1)]),
  (48, .invokestatic 36, 3, 8, 6, 0, []),
  (51, .return_, 1, 9, 0, 5, [])]
def own_c1 (z : List Int) : List Mini.AI := own_c1a ++ (27, .nop, 0, 12, 0, 0, z) :: own_c1b
def own_M1 (z : List Int) : Mini.Mth := ({ cls := "com/example/hrisey/hrisey/core/ResolvedEntries", name := "<init>", desc := "(I)V" }, prog_131_method_1_code, 3, (Option.none : Option ClassFile.FieldType), 2, 0, own_c1 z)
def own_c2 : List Mini.AI := [
  (0, .iload_n 0, 1, 0, 0, 0, []),
  (1, .iload_n 1, 1, 0, 1, 0, []),
  (2, .if_icmp .lt 7, 3, 6, 5, 2, [9]),
  (5, .iload_n 0, 1, 0, 0, 0, []),
  (6, .goto 4, 3, 5, 6, 10, []),
  (9, .iload_n 1, 1, 0, 1, 0, []),
  (10, .ireturn, 1, 9, 0, 0, [])]
def own_M2 : Mini.Mth := ({ cls := "java/lang/Math", name := "max", desc := "(II)I" }, jdk_29_method_65_code, 2, (Option.some ClassFile.FieldType.int), 2, 0, own_c2)
def own_c3 : List Mini.AI := [
  (0, .iload_n 0, 1, 0, 0, 0, []),
  (1, .ldc 127, 2, 25, 0, 0, [(-2147483648)]),
  (3, .iload_n 0, 1, 0, 0, 0, []),
  (4, .invokestatic 51, 3, 8, 4, 0, []),
  (7, .iushr, 1, 3, 0, 8, []),
  (8, .iand, 1, 3, 0, 3, []),
  (9, .ireturn, 1, 9, 0, 0, [])]
def own_M3 : Mini.Mth := ({ cls := "java/lang/Integer", name := "highestOneBit", desc := "(I)I" }, jdk_33_method_45_code, 1, (Option.some ClassFile.FieldType.int), 1, 0, own_c3)
def own_c4 : List Mini.AI := [
  (0, .iload_n 0, 1, 0, 0, 0, []),
  (1, .ifCond .gt 14, 3, 6, 8, 10, [15]),
  (4, .iload_n 0, 1, 0, 0, 0, []),
  (5, .ifCond .ne 8, 3, 6, 6, 7, [13]),
  (8, .bipush 32, 2, 1, 0, 0, [32]),
  (10, .goto 4, 3, 5, 7, 14, []),
  (13, .iconst 0, 1, 1, 0, 0, [0]),
  (14, .ireturn, 1, 9, 0, 0, []),
  (15, .bipush 31, 2, 1, 0, 0, [31]),
  (17, .istore_n 1, 1, 2, 1, 0, []),
  (18, .iload_n 0, 1, 0, 0, 0, []),
  (19, .ldc_w 264, 3, 25, 0, 0, [65536]),
  (22, .if_icmp .lt 11, 3, 6, 18, 2, [33]),
  (25, .iinc 1 (-16), 3, 4, 1, 0, [(-16)]),
  (28, .iload_n 0, 1, 0, 0, 0, []),
  (29, .bipush 16, 2, 1, 0, 0, [16]),
  (31, .iushr, 1, 3, 0, 8, []),
  (32, .istore_n 0, 1, 2, 0, 0, []),
  (33, .iload_n 0, 1, 0, 0, 0, []),
  (34, .sipush 256, 3, 1, 0, 0, [256]),
  (37, .if_icmp .lt 11, 3, 6, 26, 2, [48]),
  (40, .iinc 1 (-8), 3, 4, 1, 0, [(-8)]),
  (43, .iload_n 0, 1, 0, 0, 0, []),
  (44, .bipush 8, 2, 1, 0, 0, [8]),
  (46, .iushr, 1, 3, 0, 8, []),
  (47, .istore_n 0, 1, 2, 0, 0, []),
  (48, .iload_n 0, 1, 0, 0, 0, []),
  (49, .bipush 16, 2, 1, 0, 0, [16]),
  (51, .if_icmp .lt 10, 3, 6, 34, 2, [61]),
  (54, .iinc 1 (-4), 3, 4, 1, 0, [(-4)]),
  (57, .iload_n 0, 1, 0, 0, 0, []),
  (58, .iconst 4, 1, 1, 0, 0, [4]),
  (59, .iushr, 1, 3, 0, 8, []),
  (60, .istore_n 0, 1, 2, 0, 0, []),
  (61, .iload_n 0, 1, 0, 0, 0, []),
  (62, .iconst 4, 1, 1, 0, 0, [4]),
  (63, .if_icmp .lt 10, 3, 6, 42, 2, [73]),
  (66, .iinc 1 (-2), 3, 4, 1, 0, [(-2)]),
  (69, .iload_n 0, 1, 0, 0, 0, []),
  (70, .iconst 2, 1, 1, 0, 0, [2]),
  (71, .iushr, 1, 3, 0, 8, []),
  (72, .istore_n 0, 1, 2, 0, 0, []),
  (73, .iload_n 1, 1, 0, 1, 0, []),
  (74, .iload_n 0, 1, 0, 0, 0, []),
  (75, .iconst 1, 1, 1, 0, 0, [1]),
  (76, .iushr, 1, 3, 0, 8, []),
  (77, .isub, 1, 3, 0, 1, []),
  (78, .ireturn, 1, 9, 0, 0, [])]
def own_M4 : Mini.Mth := ({ cls := "java/lang/Integer", name := "numberOfLeadingZeros", desc := "(I)I" }, jdk_33_method_47_code, 2, (Option.some ClassFile.FieldType.int), 1, 0, own_c4)
def own_c5 : List Mini.AI := [
  (0, .iload_n 0, 1, 0, 0, 0, []),
  (1, .iload_n 1, 1, 0, 1, 0, []),
  (2, .if_icmp .gt 7, 3, 6, 5, 4, [9]),
  (5, .iload_n 0, 1, 0, 0, 0, []),
  (6, .goto 4, 3, 5, 6, 10, []),
  (9, .iload_n 1, 1, 0, 1, 0, []),
  (10, .ireturn, 1, 9, 0, 0, [])]
def own_M5 : Mini.Mth := ({ cls := "java/lang/Math", name := "min", desc := "(II)I" }, jdk_29_method_69_code, 2, (Option.some ClassFile.FieldType.int), 2, 0, own_c5)
def own_c6 : List Mini.AI := [
  (0, .iconst 0, 1, 1, 0, 0, [0]),
  (1, .istore_n 2, 1, 2, 2, 0, []),
  (2, .aload_n 0, 1, 0, 0, 2, []),
  (3, .arraylength, 1, 23, 0, 0, []),
  (4, .istore_n 3, 1, 2, 3, 0, []),
  (5, .iload_n 2, 1, 0, 2, 0, []),
  (6, .iload_n 3, 1, 0, 3, 0, []),
  (7, .if_icmp .ge 13, 3, 6, 14, 3, [20]),
  (10, .aload_n 0, 1, 0, 0, 2, []),
  (11, .iload_n 2, 1, 0, 2, 0, []),
  (12, .iload_n 1, 1, 0, 1, 0, []),
  (13, .iastore, 1, 22, 0, 0, []),
  (14, .iinc 2 1, 3, 4, 2, 0, [1]),
  (17, .goto (-12), 3, 5, 5, 5, []),
  (20, .return_, 1, 9, 0, 5, [])]
def own_M6 : Mini.Mth := ({ cls := "java/util/Arrays", name := "fill", desc := "([II)V" }, jdk_65_method_103_code, 4, (Option.none : Option ClassFile.FieldType), 2, 0, own_c6)
def own_c7 : List Mini.AI := [
  (0, .iload_n 1, 1, 0, 1, 0, []),
  (1, .aload_n 0, 1, 0, 0, 2, []),
  (2, .getfield 28, 3, 20, 0, 1, []),
  (5, .arraylength, 1, 16, 0, 3, []),
  (6, .iconst 1, 1, 1, 0, 0, [1]),
  (7, .isub, 1, 3, 0, 1, []),
  (8, .iand, 1, 3, 0, 3, []),
  (9, .istore 4, 2, 2, 4, 0, []),
  (11, .aload_n 0, 1, 0, 0, 2, []),
  (12, .getfield 28, 3, 20, 0, 1, []),
  (15, .iload 4, 2, 0, 4, 0, []),
  (17, .aload_n 2, 1, 0, 2, 2, []),
  (18, .aastore, 1, 16, 2, 1, []),
  (19, .aload_n 0, 1, 0, 0, 2, []),
  (20, .getfield 32, 3, 20, 0, 2, []),
  (23, .iload 4, 2, 0, 4, 0, []),
  (25, .iload_n 1, 1, 0, 1, 0, []),
  (26, .iastore, 1, 16, 0, 1, []),
  (27, .iload_n 3, 1, 0, 3, 0, []),
  (28, .ifCond .eq 28, 3, 6, 33, 6, [56]),
  (31, .aload_n 0, 1, 0, 0, 2, []),
  (32, .getfield 42, 3, 20, 0, 3, []),
  (35, .ifnonnull 14, 3, 6, 28, 13, [49]),
  (38, .aload_n 0, 1, 0, 0, 2, []),
  (39, .aload_n 0, 1, 0, 0, 2, []),
  (40, .getfield 7, 3, 20, 0, 0, []),
  (43, .anewarray 2, 3, 16, 1, 2, [2048]),
  (46, .putfield 42, 3, 24, 0, 3, []),
  (49, .aload_n 0, 1, 0, 0, 2, []),
  (50, .getfield 42, 3, 20, 0, 3, []),
  (53, .iload_n 1, 1, 0, 1, 0, []),
  (54, .aload_n 2, 1, 0, 2, 2, []),
  (55, .aastore, 1, 16, 2, 1, []),
  (56, .return_, 1, 9, 0, 5, [])]
def own_M7 : Mini.Mth := ({ cls := "com/example/hrisey/hrisey/core/ResolvedEntries", name := "put", desc := "(ILjava/lang/Object;Z)V" }, prog_131_method_4_code, 5, (Option.none : Option ClassFile.FieldType), 4, 0, own_c7)
def own_c8 : List Mini.AI := [
  (0, .iload_n 1, 1, 0, 1, 0, []),
  (1, .aload_n 0, 1, 0, 0, 2, []),
  (2, .getfield 28, 3, 20, 0, 1, []),
  (5, .arraylength, 1, 16, 0, 3, []),
  (6, .iconst 1, 1, 1, 0, 0, [1]),
  (7, .isub, 1, 3, 0, 1, []),
  (8, .iand, 1, 3, 0, 3, []),
  (9, .istore_n 2, 1, 2, 2, 0, []),
  (10, .aconst_null, 1, 1, 0, 2, [0]),
  (11, .astore_n 3, 1, 2, 3, 2, []),
  (12, .aload_n 0, 1, 0, 0, 2, []),
  (13, .getfield 32, 3, 20, 0, 2, []),
  (16, .iload_n 2, 1, 0, 2, 0, []),
  (17, .iaload, 1, 17, 0, 0, []),
  (18, .iload_n 1, 1, 0, 1, 0, []),
  (19, .if_icmp .ne 13, 3, 6, 22, 1, [32]),
  (22, .aload_n 0, 1, 0, 0, 2, []),
  (23, .getfield 28, 3, 20, 0, 1, []),
  (26, .iload_n 2, 1, 0, 2, 0, []),
  (27, .aaload, 1, 17, 2, 0, []),
  (28, .astore_n 3, 1, 2, 3, 2, []),
  (29, .goto 17, 3, 5, 30, 46, []),
  (32, .aload_n 0, 1, 0, 0, 2, []),
  (33, .getfield 42, 3, 20, 0, 3, []),
  (36, .ifnull 10, 3, 6, 30, 12, [46]),
  (39, .aload_n 0, 1, 0, 0, 2, []),
  (40, .getfield 42, 3, 20, 0, 3, []),
  (43, .iload_n 1, 1, 0, 1, 0, []),
  (44, .aaload, 1, 17, 2, 0, []),
  (45, .astore_n 3, 1, 2, 3, 2, []),
  (46, .aload_n 3, 1, 0, 3, 2, []),
  (47, .areturn, 1, 9, 0, 4, [])]
def own_M8 : Mini.Mth := ({ cls := "com/example/hrisey/hrisey/core/ResolvedEntries", name := "get", desc := "(I)Ljava/lang/Object;" }, prog_131_method_3_code, 4, (Option.some (ClassFile.FieldType.object "java/lang/Object")), 2, 0, own_c8)
def own_c9 : List Mini.AI := [
  (0, .iload_n 1, 1, 0, 1, 0, []),
  (1, .iload_n 2, 1, 0, 2, 0, []),
  (2, .if_icmp .ne 6, 3, 6, 5, 1, [8]),
  (5, .aload 5, 2, 0, 5, 2, []),
  (7, .areturn, 1, 9, 0, 4, []),
  (8, .iload_n 0, 1, 0, 0, 0, []),
  (9, .sipush 512, 3, 1, 0, 0, [512]),
  (12, .if_icmp .le 17, 3, 6, 16, 5, [29]),
  (15, .iload_n 1, 1, 0, 1, 0, []),
  (16, .iload_n 2, 1, 0, 2, 0, []),
  (17, .ixor, 1, 3, 0, 5, []),
  (18, .sipush 511, 3, 1, 0, 0, [511]),
  (21, .iand, 1, 3, 0, 3, []),
  (22, .ifCond .ne 7, 3, 6, 16, 7, [29]),
  (25, .iconst 1, 1, 1, 0, 0, [1]),
  (26, .goto 4, 3, 5, 17, 30, []),
  (29, .iconst 0, 1, 1, 0, 0, [0]),
  (30, .istore 6, 2, 2, 6, 0, []),
  (32, .iload 6, 2, 0, 6, 0, []),
  (34, .ifCond .ne 6, 3, 6, 22, 7, [40]),
  (37, .aload 4, 2, 0, 4, 2, []),
  (39, .areturn, 1, 9, 0, 4, []),
  (40, .iload_n 3, 1, 0, 3, 0, []),
  (41, .ifCond .eq 6, 3, 6, 26, 6, [47]),
  (44, .aload 4, 2, 0, 4, 2, []),
  (46, .areturn, 1, 9, 0, 4, []),
  (47, .aconst_null, 1, 1, 0, 2, [0]),
  (48, .areturn, 1, 9, 0, 4, [])]
def own_M9 : Mini.Mth := ({ cls := "com/example/hrisey/hrisey/core/ResolvedEntriesPutPinLaw", name := "expectedI", desc := "(IIIZLjava/lang/Object;Ljava/lang/Object;)Ljava/lang/Object;" }, method_3_code, 7, (Option.some (ClassFile.FieldType.object "java/lang/Object")), 6, 0, own_c9)
def own_rest : List Mini.Mth := [own_M2, own_M3, own_M4, own_M5, own_M6, own_M7, own_M8, own_M9]
def own_pr (z : List Int) : Mini.Prog := (pCls, own_M0 :: own_M1 z :: own_rest)
def own_as : List Jvm.Sym.SVal := [⟨.arg 0, .int⟩, ⟨.arg 1, .int⟩, ⟨.arg 2, .int⟩, ⟨.arg 3, .int⟩, ⟨.arg 4, .int⟩]
def own_ans (z : List Int) : Mini.Ans := Mini.interp (own_pr z) 12 24 100000 own_M0 6 144 5 100000 (Mini.entryS own_as 20) own_c0 [] 6272 [] Mini.kFin Mini.noA
set_option maxRecDepth 65536 in
theorem own_ok0 : Mini.okP tables_1 (own_pr []) = true := by decide +kernel
theorem own_ok (z : List Int) : Mini.okP tables_1 (own_pr z) = true := by
  refine Mini.okP_of own_ok0 rfl rfl fun M' hM' => ?_
  rcases List.mem_cons.mp hM' with rfl | hM'
  · exact ⟨own_M0, List.mem_cons_self .., rfl, fun a ha => Or.inl ha⟩
  rcases List.mem_cons.mp hM' with rfl | hM'
  · refine ⟨own_M1 [], List.mem_cons_of_mem _ (List.mem_cons_self ..), rfl, fun a ha => ?_⟩
    have ha : a ∈ own_c1 z := ha
    unfold own_c1 at ha
    rcases List.mem_append.mp ha with ha | ha
    · exact Or.inl (show a ∈ own_c1 [] from List.mem_append_left _ ha)
    · rcases List.mem_cons.mp ha with rfl | ha
      · exact Or.inr rfl
      · exact Or.inl (show a ∈ own_c1 [] from List.mem_append_right _ (List.mem_cons_of_mem _ ha))
  · exact ⟨M', List.mem_cons_of_mem _ (List.mem_cons_of_mem _ hM'), rfl, fun a ha => Or.inl ha⟩
theorem own_plain : plainFor x = true := plainFor_of_name (by first | (simp [x, plainName, overriddenIn]; done) | decide +kernel)
set_option linter.unusedSimpArgs false
abbrev own_V := (Nat × Nat × Nat) × (Nat × Nat × Nat) × Bool × Bool × Bool
def own_vB : List own_V := [((0, 0, 0), (0, 0, 0), true, true, false), ((0, 0, 0), (0, 0, 0), true, false, false), ((0, 0, 0), (0, 0, 0), false, true, false), ((0, 0, 0), (0, 0, 0), false, false, false), ((0, 0, 2), (0, 0, 2), true, true, false), ((0, 0, 2), (0, 0, 2), true, false, false), ((0, 0, 2), (0, 0, 2), false, true, false), ((0, 0, 2), (0, 0, 2), false, false, false), ((0, 1, 0), (0, 1, 0), true, true, false), ((0, 1, 0), (0, 1, 0), true, false, false), ((0, 1, 0), (0, 1, 0), false, true, false), ((0, 1, 0), (0, 1, 0), false, false, false), ((0, 1, 1), (0, 1, 1), true, true, false), ((0, 1, 1), (0, 1, 1), true, false, false), ((0, 1, 1), (0, 1, 1), false, true, false), ((0, 1, 1), (0, 1, 1), false, false, false), ((0, 1, 2), (0, 1, 2), true, true, false), ((0, 1, 2), (0, 1, 2), true, false, false), ((0, 1, 2), (0, 1, 2), false, true, false), ((0, 1, 2), (0, 1, 2), false, false, false)]
def own_vA : List own_V := [((0, 0, 0), (0, 0, 0), true, true, true), ((0, 0, 0), (0, 0, 0), true, false, true), ((0, 0, 0), (0, 0, 0), false, true, true), ((0, 0, 0), (0, 0, 0), false, false, true), ((0, 0, 2), (0, 0, 0), true, true, true), ((0, 0, 2), (0, 0, 0), true, false, true), ((0, 0, 2), (0, 0, 0), false, true, true), ((0, 0, 2), (0, 0, 0), false, false, true), ((0, 0, 2), (0, 0, 2), true, true, true), ((0, 0, 2), (0, 0, 2), true, false, true), ((0, 0, 2), (0, 0, 2), false, true, true), ((0, 0, 2), (0, 0, 2), false, false, true), ((0, 1, 0), (0, 0, 0), true, true, true), ((0, 1, 0), (0, 0, 0), true, false, true), ((0, 1, 0), (0, 0, 0), false, true, true), ((0, 1, 0), (0, 0, 0), false, false, true), ((0, 1, 0), (0, 1, 0), true, true, true), ((0, 1, 0), (0, 1, 0), true, false, true), ((0, 1, 0), (0, 1, 0), false, true, true), ((0, 1, 0), (0, 1, 0), false, false, true), ((0, 1, 1), (0, 0, 0), true, true, true), ((0, 1, 1), (0, 0, 0), true, false, true), ((0, 1, 1), (0, 0, 0), false, true, true), ((0, 1, 1), (0, 0, 0), false, false, true), ((0, 1, 1), (0, 1, 1), true, true, true), ((0, 1, 1), (0, 1, 1), true, false, true), ((0, 1, 1), (0, 1, 1), false, true, true), ((0, 1, 1), (0, 1, 1), false, false, true), ((0, 1, 2), (0, 0, 0), true, true, true), ((0, 1, 2), (0, 0, 0), true, false, true), ((0, 1, 2), (0, 0, 0), false, true, true), ((0, 1, 2), (0, 0, 0), false, false, true), ((0, 1, 2), (0, 0, 2), true, true, true), ((0, 1, 2), (0, 0, 2), true, false, true), ((0, 1, 2), (0, 0, 2), false, true, true), ((0, 1, 2), (0, 0, 2), false, false, true), ((0, 1, 2), (0, 1, 0), true, true, true), ((0, 1, 2), (0, 1, 0), true, false, true), ((0, 1, 2), (0, 1, 0), false, true, true), ((0, 1, 2), (0, 1, 0), false, false, true), ((0, 1, 2), (0, 1, 1), true, true, true), ((0, 1, 2), (0, 1, 1), true, false, true), ((0, 1, 2), (0, 1, 1), false, true, true), ((0, 1, 2), (0, 1, 1), false, false, true), ((0, 1, 2), (0, 1, 2), true, true, true), ((0, 1, 2), (0, 1, 2), true, false, true), ((0, 1, 2), (0, 1, 2), false, true, true), ((0, 1, 2), (0, 1, 2), false, false, true)]
def own_ix (v : own_V) (t : Term) : Option Nat := match t with
  | .arg 6 => some v.1.1
  | .arg 7 => some v.1.2.1
  | .arg 8 => some v.1.2.2
  | .int z => if z = -1 then some 9 else none
  | _ => none
def own_sx (m : Int32) (v : own_V) (t : Term) : Option Nat := match t with
  | .op2 .iand (.arg 6) (.int c) => if c = m then some v.2.1.1 else none
  | .op2 .iand (.arg 7) (.int c) => if c = m then some v.2.1.2.1 else none
  | .op2 .iand (.arg 8) (.int c) => if c = m then some v.2.1.2.2 else none
  | _ => none
def own_kx (v : own_V) (a b : Term) : Option Bool := match a, b with
  | .arg 9, .int z => if z = 0 then some v.2.2.1 else none
  | .arg 10, .int z => if z = 0 then some v.2.2.2.1 else none
  | .op2 .iand (.op2 .ixor (.arg 6) (.arg 7)) (.int c), .int z => if c = 511 ∧ z = 0 ∧ v.2.2.2.2 = true then some (Nat.beq v.2.1.1 v.2.1.2.1) else none
  | _, _ => none
def own_eq (m : Int32) (v : own_V) (a b : Term) : Option Bool :=
  match own_ix v a, own_ix v b with
  | some x, some y => some (Nat.beq x y)
  | _, _ => (match own_sx m v a, own_sx m v b with
    | some x, some y => some (Nat.beq x y)
    | _, _ => own_kx v a b)
def own_lt (v : own_V) (a b : Term) : Option Bool := match a, b with
  | .int c, .arg 5 => if c = 512 then some v.2.2.2.2 else none
  | _, _ => none
def own_lit (m : Int32) (v : own_V) (c : Jvm.Cond) : Option Bool := match c with
  | .eq a b => own_eq m v (Mini.stp a) (Mini.stp b)
  | .lt a b => own_lt v (Mini.stp a) (Mini.stp b)
  | _ => none
def own_op (m : Int32) (v : own_V) (f : Jvm.Cond × Bool) : Bool := match own_lit m v f.1 with | some b => b != f.2 | none => false
def own_cap (π : Mini.Path) : Option Int32 := match π.getLast? with
  | some (.eq (.arg 11) (.int c), true) => some c
  | _ => none
/-- none of the cases takes the road -/
def own_ref (π : Mini.Path) : Bool := match own_cap π with
  | some c => (own_vB.all fun v => π.any (own_op (c - 1) v)) && (decide (c ≠ 512) || own_vA.all fun v => π.any (own_op (c - 1) v))
  | none => false
def own_capf (S : Int32) : Int32 := if S.toInt ≤ 2 then 2 else if S.toInt ≤ 4 then 4 else if S.toInt ≤ 8 then 8 else if S.toInt ≤ 16 then 16 else if S.toInt ≤ 32 then 32 else if S.toInt ≤ 64 then 64 else if S.toInt ≤ 128 then 128 else if S.toInt ≤ 256 then 256 else 512
def own_nine (c : Int32) : Prop := c = 2 ∨ c = 4 ∨ c = 8 ∨ c = 16 ∨ c = 32 ∨ c = 64 ∨ c = 128 ∨ c = 256 ∨ c = 512
theorem own_cf (S : Int32) : own_nine (own_capf S) ∧ (S.toInt ≤ 512 → S.toInt ≤ (own_capf S).toInt) ∧ (512 < S.toInt → own_capf S = 512) := by
  have e2 : (2 : Int32).toInt = 2 := rfl
  have e4 : (4 : Int32).toInt = 4 := rfl
  have e8 : (8 : Int32).toInt = 8 := rfl
  have e16 : (16 : Int32).toInt = 16 := rfl
  have e32 : (32 : Int32).toInt = 32 := rfl
  have e64 : (64 : Int32).toInt = 64 := rfl
  have e128 : (128 : Int32).toInt = 128 := rfl
  have e256 : (256 : Int32).toInt = 256 := rfl
  have e512 : (512 : Int32).toInt = 512 := rfl
  unfold own_capf own_nine
  by_cases h2 : S.toInt ≤ 2
  · rw [if_pos h2]; exact ⟨by simp, fun _ => by omega, fun _ => by omega⟩
  rw [if_neg h2]
  by_cases h4 : S.toInt ≤ 4
  · rw [if_pos h4]; exact ⟨by simp, fun _ => by omega, fun _ => by omega⟩
  rw [if_neg h4]
  by_cases h8 : S.toInt ≤ 8
  · rw [if_pos h8]; exact ⟨by simp, fun _ => by omega, fun _ => by omega⟩
  rw [if_neg h8]
  by_cases h16 : S.toInt ≤ 16
  · rw [if_pos h16]; exact ⟨by simp, fun _ => by omega, fun _ => by omega⟩
  rw [if_neg h16]
  by_cases h32 : S.toInt ≤ 32
  · rw [if_pos h32]; exact ⟨by simp, fun _ => by omega, fun _ => by omega⟩
  rw [if_neg h32]
  by_cases h64 : S.toInt ≤ 64
  · rw [if_pos h64]; exact ⟨by simp, fun _ => by omega, fun _ => by omega⟩
  rw [if_neg h64]
  by_cases h128 : S.toInt ≤ 128
  · rw [if_pos h128]; exact ⟨by simp, fun _ => by omega, fun _ => by omega⟩
  rw [if_neg h128]
  by_cases h256 : S.toInt ≤ 256
  · rw [if_pos h256]; exact ⟨by simp, fun _ => by omega, fun _ => by omega⟩
  rw [if_neg h256]
  exact ⟨by simp, fun _ => by omega, fun _ => rfl⟩
theorem own_pw {c : Int32} (h : own_nine c) : ∃ k : Nat, k ≤ 31 ∧ (c - 1).toBitVec.toNat = 2 ^ k - 1 ∧ c.toInt = ((2 ^ k : Nat) : Int) := by
  rcases h with rfl | rfl | rfl | rfl | rfl | rfl | rfl | rfl | rfl
  · exact ⟨1, by decide, by decide, by decide⟩
  · exact ⟨2, by decide, by decide, by decide⟩
  · exact ⟨3, by decide, by decide, by decide⟩
  · exact ⟨4, by decide, by decide, by decide⟩
  · exact ⟨5, by decide, by decide, by decide⟩
  · exact ⟨6, by decide, by decide, by decide⟩
  · exact ⟨7, by decide, by decide, by decide⟩
  · exact ⟨8, by decide, by decide, by decide⟩
  · exact ⟨9, by decide, by decide, by decide⟩
/-- the slot of x -/
theorem own_slot {c : Int32} (h : own_nine c) (x : Int32) : (x &&& (c - 1)).toInt = x.toInt % c.toInt ∧ 0 < c.toInt := by
  obtain ⟨k, h1, h2, h3⟩ := own_pw h
  refine ⟨by rw [c_mask x (c - 1) k h1 h2, h3], ?_⟩
  rw [h3]
  exact_mod_cast Nat.two_pow_pos k
theorem own_add {x y : Int32} (h1 : -2147483648 ≤ x.toInt + y.toInt) (h2 : x.toInt + y.toInt < 2147483648) : (x + y).toInt = x.toInt + y.toInt := by
  rw [Int32.toInt_add]; exact Int.bmod_eq_of_le (by omega) (by omega)
theorem own_mul {x y : Int32} (h1 : -2147483648 ≤ x.toInt * y.toInt) (h2 : x.toInt * y.toInt < 2147483648) : (x * y).toInt = x.toInt * y.toInt := by
  rw [Int32.toInt_mul]; exact Int.bmod_eq_of_le (by omega) (by omega)
theorem own_S {p0 S : Int32} (d : S = 1 + (p0 &&& 2047)) : 1 ≤ S.toInt ∧ S.toInt ≤ 2048 := by
  have h := c_mask p0 2047 11 (by decide) (by decide)
  have e : ((2 ^ 11 : Nat) : Int) = 2048 := by decide
  rw [e] at h
  have h1 : (1 : Int32).toInt = 1 := rfl
  have h2 : (1 + (p0 &&& 2047)).toInt = 1 + (p0 &&& 2047).toInt := by
    have := own_add (x := 1) (y := p0 &&& 2047) (by omega) (by omega)
    rw [this, h1]
  rw [d, h2, h]
  omega
theorem own_rm {x S : Int32} (hx : 0 ≤ x.toInt) (hS : 1 ≤ S.toInt) : 0 ≤ (x % S).toInt ∧ (x % S).toInt < S.toInt := by
  rw [(c_irem x S S.toInt rfl).1 hx]
  exact ⟨Int.emod_nonneg _ (by omega), Int.emod_lt_of_pos _ (by omega)⟩
theorem own_j2 {p2 i S : Int32} (h0 : 0 ≤ i.toInt) (h1 : i.toInt < 2048) : 0 ≤ (i + 512 * (1 + ((p2.toUInt32 >>> ((2 : Int32) &&& 31).toUInt32).toInt32 &&& 3))).toInt := by
  have h := c_mask ((p2.toUInt32 >>> ((2 : Int32) &&& 31).toUInt32).toInt32) 3 2 (by decide) (by decide)
  have e : ((2 ^ 2 : Nat) : Int) = 4 := by decide
  rw [e] at h
  generalize ((p2.toUInt32 >>> ((2 : Int32) &&& 31).toUInt32).toInt32 &&& 3) = w at *
  have hw : 0 ≤ w.toInt ∧ w.toInt < 4 := by rw [h]; omega
  have e1 : (1 : Int32).toInt = 1 := rfl
  have e5 : (512 : Int32).toInt = 512 := rfl
  have a1 : (1 + w).toInt = 1 + w.toInt := by rw [own_add (by omega) (by omega), e1]
  have a2 : (512 * (1 + w)).toInt = 512 * (1 + w.toInt) := by rw [own_mul (by rw [a1, e5]; omega) (by rw [a1, e5]; omega), a1, e5]
  have a3 : (i + 512 * (1 + w)).toInt = i.toInt + 512 * (1 + w.toInt) := by rw [own_add (by rw [a2]; omega) (by rw [a2]; omega), a2]
  rw [a3]; omega
theorem own_lti {x y : Int32} (h : x.toInt < y.toInt) : x < y := by rw [Int32.lt_iff_toInt_lt]; exact h
theorem own_xor (i j m : Int32) : ((i ^^^ j) &&& m = 0) ↔ (i &&& m = j &&& m) := by
  have key : ∀ a b c : BitVec 32, ((a ^^^ b) &&& c = 0#32) ↔ (a &&& c = b &&& c) := by
    intro a b c
    constructor
    · intro h
      apply BitVec.eq_of_getLsbD_eq
      intro n hn
      have := congrArg (fun z => z.getLsbD n) h
      simp only [BitVec.getLsbD_and, BitVec.getLsbD_xor, BitVec.getLsbD_zero] at this ⊢
      revert this
      cases a.getLsbD n <;> cases b.getLsbD n <;> cases c.getLsbD n <;> simp
    · intro h
      apply BitVec.eq_of_getLsbD_eq
      intro n hn
      have := congrArg (fun z => z.getLsbD n) h
      simp only [BitVec.getLsbD_and, BitVec.getLsbD_xor, BitVec.getLsbD_zero] at this ⊢
      revert this
      cases a.getLsbD n <;> cases b.getLsbD n <;> cases c.getLsbD n <;> simp
  have h := key i.toBitVec j.toBitVec m.toBitVec
  constructor
  · intro q
    apply Int32.toBitVec_inj.1
    exact h.1 (by have := congrArg Int32.toBitVec q; exact this)
  · intro q
    apply Int32.toBitVec_inj.1
    exact h.2 (by have := congrArg Int32.toBitVec q; exact this)
def own_evV (x : Int32) : Term → Option Value
  | .arg i => if i = 5 then some (.int x) else none
  | .int c => some (.int c)
  | .old t => own_evV x t
  | .add a b => (match own_evV x a, own_evV x b with | some (.int u), some (.int v) => some (.int (u + v)) | _, _ => none)
  | .sub a b => (match own_evV x a, own_evV x b with | some (.int u), some (.int v) => some (.int (u - v)) | _, _ => none)
  | .op2 f a b => (match own_evV x a, own_evV x b with | some u, some v => f.apply u v | _, _ => none)
  | _ => none
def own_evC (x : Int32) : Jvm.Cond → Option Bool
  | .eq a b => (match own_evV x a, own_evV x b with | some (.int u), some (.int v) => some (decide (u = v)) | _, _ => none)
  | .lt a b => (match own_evV x a, own_evV x b with | some (.int u), some (.int v) => some (decide (u < v)) | _, _ => none)
  | _ => none
theorem own_evV_ok {A : Array Value} {s : State} {x : Int32} (h5 : A[5]? = some (.int x)) : ∀ (t : Term) (v : Value), own_evV x t = some v → t.eval A s none [] s = some v := by
  intro t
  induction t with
  | arg i =>
    intro v h
    simp only [own_evV] at h
    by_cases hi : i = 5
    · rw [if_pos hi] at h; subst hi; show A[5]? = some v; rw [h5]; exact h
    · rw [if_neg hi] at h; cases h
  | int c => intro v h; exact h
  | old t ih => intro v h; exact ih v h
  | add a b iha ihb =>
    intro v h
    simp only [own_evV] at h
    split at h
    · rename_i u w hu hw
      cases h
      simp only [Term.eval, iha _ hu, ihb _ hw, Option.bind_eq_bind, Option.bind_some, Option.pure_def]
    · cases h
  | sub a b iha ihb =>
    intro v h
    simp only [own_evV] at h
    split at h
    · rename_i u w hu hw
      cases h
      simp only [Term.eval, iha _ hu, ihb _ hw, Option.bind_eq_bind, Option.bind_some, Option.pure_def]
    · cases h
  | op2 f a b iha ihb =>
    intro v h
    simp only [own_evV] at h
    split at h
    · rename_i u w hu hw
      simp only [Term.eval, iha _ hu, ihb _ hw, Option.bind_eq_bind, Option.bind_some, h]
    · cases h
  | _ => intro v h; simp [own_evV] at h
theorem own_evC_ok {A : Array Value} {s : State} {x : Int32} (h5 : A[5]? = some (.int x)) (c : Jvm.Cond) (b : Bool) (h : own_evC x c = some b) : c.value A s none s [] = some b := by
  unfold own_evC at h
  split at h
  · split at h
    · rename_i u w hu hw
      cases h
      simp only [Jvm.Cond.value, own_evV_ok h5 _ _ hu, own_evV_ok h5 _ _ hw]
    · cases h
  · split at h
    · rename_i u w hu hw
      cases h
      simp only [Jvm.Cond.value, own_evV_ok h5 _ _ hu, own_evV_ok h5 _ _ hw]
    · cases h
  · cases h
def own_capOk (x : Int32) (e : Mini.Path × List Jvm.Cond) : Bool := match e.2 with
  | [.eq t (.arg 11)] => (e.1.reverse.any fun f => match own_evC x f.1 with | some b => b != f.2 | none => false) || decide (own_evV x t = some (.int (own_capf x)))
  | _ => false
/-- the cases -/
def own_pat (a b c : Int32) : Nat × Nat × Nat := (0, if a = b then 0 else 1, if a = c then 0 else if b = c then 1 else 2)
def own_pats : List (Nat × Nat × Nat) := [(0, 0, 0), (0, 0, 2), (0, 1, 0), (0, 1, 1), (0, 1, 2)]
theorem own_pat_mem (a b c : Int32) : own_pat a b c ∈ own_pats := by
  unfold own_pat own_pats
  by_cases h1 : a = b
  · subst h1
    by_cases h2 : a = c
    · simp [h2]
    · simp [h2]
  · by_cases h2 : a = c
    · subst h2; simp [h1]
    · by_cases h3 : b = c
      · subst h3; simp [h1]
      · simp [h1, h2, h3]
theorem own_pat_eq (a b c : Int32) : Nat.beq (own_pat a b c).1 (own_pat a b c).2.1 = decide (a = b) ∧ Nat.beq (own_pat a b c).1 (own_pat a b c).2.2 = decide (a = c) ∧ Nat.beq (own_pat a b c).2.1 (own_pat a b c).2.2 = decide (b = c) ∧
    Nat.beq (own_pat a b c).2.1 (own_pat a b c).1 = decide (b = a) ∧ Nat.beq (own_pat a b c).2.2 (own_pat a b c).1 = decide (c = a) ∧ Nat.beq (own_pat a b c).2.2 (own_pat a b c).2.1 = decide (c = b) ∧
    Nat.beq (own_pat a b c).1 9 = false ∧ Nat.beq (own_pat a b c).2.1 9 = false ∧ Nat.beq (own_pat a b c).2.2 9 = false ∧ Nat.beq 9 (own_pat a b c).1 = false ∧ Nat.beq 9 (own_pat a b c).2.1 = false ∧ Nat.beq 9 (own_pat a b c).2.2 = false := by
  unfold own_pat
  by_cases h1 : a = b
  · subst h1
    by_cases h2 : a = c
    · subst h2; simp; decide
    · have h2' : ¬ c = a := fun q => h2 q.symm
      simp [h2, h2']; decide
  · have h1' : ¬ b = a := fun q => h1 q.symm
    by_cases h2 : a = c
    · subst h2; simp [h1, h1']; decide
    · have h2' : ¬ c = a := fun q => h2 q.symm
      by_cases h3 : b = c
      · subst h3; simp [h1, h1']; decide
      · have h3' : ¬ c = b := fun q => h3 q.symm
        simp [h1, h1', h2, h2', h3, h3']; decide
theorem own_memB : ∀ e ∈ own_pats, ∀ k1 k2 : Bool, (e, e, k1, k2, false) ∈ own_vB := by decide +kernel
theorem own_memA : ∀ e ∈ own_pats, ∀ t ∈ own_pats, (Nat.beq e.1 e.2.1 = true → Nat.beq t.1 t.2.1 = true) → (Nat.beq e.1 e.2.2 = true → Nat.beq t.1 t.2.2 = true) → (Nat.beq e.2.1 e.2.2 = true → Nat.beq t.2.1 t.2.2 = true) → ∀ k1 k2 : Bool, (e, t, k1, k2, true) ∈ own_vA := by decide +kernel
section
variable {A : Array Value} {s : State} {p0 p1 p2 p3 p4 S i j l k1 k2 c : Int32}
def own_val (c S i j l k1 k2 : Int32) : own_V := (own_pat i j l, own_pat (i &&& (c - 1)) (j &&& (c - 1)) (l &&& (c - 1)), decide (k1 = 0), decide (k2 = 0), decide (512 < S))
theorem own_ixE {v : own_V} {t : Term} {u : Nat} (h : own_ix v t = some u) : (t = .arg 6 ∧ u = v.1.1) ∨ (t = .arg 7 ∧ u = v.1.2.1) ∨ (t = .arg 8 ∧ u = v.1.2.2) ∨ (t = .int (-1) ∧ u = 9) := by
  unfold own_ix at h
  split at h
  · cases h; exact Or.inl ⟨rfl, rfl⟩
  · cases h; exact Or.inr (Or.inl ⟨rfl, rfl⟩)
  · cases h; exact Or.inr (Or.inr (Or.inl ⟨rfl, rfl⟩))
  · split at h
    · rename_i hz; cases h; subst hz; exact Or.inr (Or.inr (Or.inr ⟨rfl, rfl⟩))
    · cases h
  · cases h
theorem own_sxE {m : Int32} {v : own_V} {t : Term} {u : Nat} (h : own_sx m v t = some u) : (t = .op2 .iand (.arg 6) (.int m) ∧ u = v.2.1.1) ∨ (t = .op2 .iand (.arg 7) (.int m) ∧ u = v.2.1.2.1) ∨ (t = .op2 .iand (.arg 8) (.int m) ∧ u = v.2.1.2.2) := by
  unfold own_sx at h
  split at h
  · split at h
    · rename_i hz; cases h; subst hz; exact Or.inl ⟨rfl, rfl⟩
    · cases h
  · split at h
    · rename_i hz; cases h; subst hz; exact Or.inr (Or.inl ⟨rfl, rfl⟩)
    · cases h
  · split at h
    · rename_i hz; cases h; subst hz; exact Or.inr (Or.inr ⟨rfl, rfl⟩)
    · cases h
  · cases h
theorem own_stpE (a b : Term) : (Jvm.Cond.eq a b).value A s none s [] = (Jvm.Cond.eq (Mini.stp a) (Mini.stp b)).value A s none s [] := by
  simp only [Jvm.Cond.value, Mini.stp_eval]
theorem own_stpL (a b : Term) : (Jvm.Cond.lt a b).value A s none s [] = (Jvm.Cond.lt (Mini.stp a) (Mini.stp b)).value A s none s [] := by
  simp only [Jvm.Cond.value, Mini.stp_eval]
theorem own_eqv {a b : Term} {x y : Int32} (h1 : a.eval A s none [] s = some (.int x)) (h2 : b.eval A s none [] s = some (.int y)) : (Jvm.Cond.eq a b).value A s none s [] = some (decide (x = y)) := by
  simp only [Jvm.Cond.value, h1, h2]
theorem own_lit_ok (h5 : A[5]? = some (.int S)) (h6 : A[6]? = some (.int i)) (h7 : A[7]? = some (.int j)) (h8 : A[8]? = some (.int l)) (h9 : A[9]? = some (.int k1)) (h10 : A[10]? = some (.int k2)) (hi : i ≠ -1) (hj : j ≠ -1) (hl : l ≠ -1) (hc : 512 < S → c = 512)
    (q : Jvm.Cond) (b : Bool) (h : own_lit (c - 1) (own_val c S i j l k1 k2) q = some b) : q.value A s none s [] = some b := by
  have e6 : (Term.arg 6).eval A s none [] s = some (.int i) := h6
  have e7 : (Term.arg 7).eval A s none [] s = some (.int j) := h7
  have e8 : (Term.arg 8).eval A s none [] s = some (.int l) := h8
  have e5 : (Term.arg 5).eval A s none [] s = some (.int S) := h5
  have e9 : (Term.arg 9).eval A s none [] s = some (.int k1) := h9
  have e10 : (Term.arg 10).eval A s none [] s = some (.int k2) := h10
  have em : (Term.int (-1)).eval A s none [] s = some (.int (-1)) := rfl
  have ez : (Term.int 0).eval A s none [] s = some (.int 0) := rfl
  have ea : ∀ {n : Nat} {x m : Int32}, (Term.arg n).eval A s none [] s = some (.int x) → (Term.op2 .iand (.arg n) (.int m)).eval A s none [] s = some (.int (x &&& m)) := by
    intro n x m hn
    have hn : A[n]? = some (.int x) := hn
    simp only [Term.eval, hn, Binary.apply, Option.bind_eq_bind, Option.bind_some]
  obtain ⟨b1, b2, b3, b4, b5, b6, b7, b8, b9, b10, b11, b12⟩ := own_pat_eq i j l
  obtain ⟨d1, d2, d3, d4, d5, d6, -⟩ := own_pat_eq (i &&& (c - 1)) (j &&& (c - 1)) (l &&& (c - 1))
  have hi' : ¬ (-1 = i) := fun z => hi z.symm
  have hj' : ¬ (-1 = j) := fun z => hj z.symm
  have hl' : ¬ (-1 = l) := fun z => hl z.symm
  have rfl' : ∀ n : Nat, Nat.beq n n = true := fun n => Nat.beq_refl n
  unfold own_lit at h
  split at h
  · rename_i a d
    rw [own_stpE]
    unfold own_eq at h
    split at h
    · rename_i x y hx hy
      cases h
      rcases own_ixE hx with ⟨r, rfl⟩ | ⟨r, rfl⟩ | ⟨r, rfl⟩ | ⟨r, rfl⟩ <;> rcases own_ixE hy with ⟨t, rfl⟩ | ⟨t, rfl⟩ | ⟨t, rfl⟩ | ⟨t, rfl⟩ <;> rw [r, t]
      · rw [own_eqv e6 e6, rfl']; simp
      · rw [own_eqv e6 e7]; exact congrArg some b1.symm
      · rw [own_eqv e6 e8]; exact congrArg some b2.symm
      · rw [own_eqv e6 em, decide_eq_false hi]; exact congrArg some b7.symm
      · rw [own_eqv e7 e6]; exact congrArg some b4.symm
      · rw [own_eqv e7 e7, rfl']; simp
      · rw [own_eqv e7 e8]; exact congrArg some b3.symm
      · rw [own_eqv e7 em, decide_eq_false hj]; exact congrArg some b8.symm
      · rw [own_eqv e8 e6]; exact congrArg some b5.symm
      · rw [own_eqv e8 e7]; exact congrArg some b6.symm
      · rw [own_eqv e8 e8, rfl']; simp
      · rw [own_eqv e8 em, decide_eq_false hl]; exact congrArg some b9.symm
      · rw [own_eqv em e6, decide_eq_false hi']; exact congrArg some b10.symm
      · rw [own_eqv em e7, decide_eq_false hj']; exact congrArg some b11.symm
      · rw [own_eqv em e8, decide_eq_false hl']; exact congrArg some b12.symm
      · rw [own_eqv em em]; simp
    · split at h
      · rename_i x y hx hy
        cases h
        rcases own_sxE hx with ⟨r, rfl⟩ | ⟨r, rfl⟩ | ⟨r, rfl⟩ <;> rcases own_sxE hy with ⟨t, rfl⟩ | ⟨t, rfl⟩ | ⟨t, rfl⟩ <;> rw [r, t]
        · rw [own_eqv (ea e6) (ea e6), rfl']; simp
        · rw [own_eqv (ea e6) (ea e7)]; exact congrArg some d1.symm
        · rw [own_eqv (ea e6) (ea e8)]; exact congrArg some d2.symm
        · rw [own_eqv (ea e7) (ea e6)]; exact congrArg some d4.symm
        · rw [own_eqv (ea e7) (ea e7), rfl']; simp
        · rw [own_eqv (ea e7) (ea e8)]; exact congrArg some d3.symm
        · rw [own_eqv (ea e8) (ea e6)]; exact congrArg some d5.symm
        · rw [own_eqv (ea e8) (ea e7)]; exact congrArg some d6.symm
        · rw [own_eqv (ea e8) (ea e8), rfl']; simp
      · unfold own_kx at h
        split at h
        · rename_i z hz1 hz2
          split at h
          · rename_i h0
            cases h
            rw [hz1, hz2, h0, own_eqv e9 ez]; rfl
          · cases h
        · rename_i z hz1 hz2
          split at h
          · rename_i h0
            cases h
            rw [hz1, hz2, h0, own_eqv e10 ez]; rfl
          · cases h
        · rename_i cc z hz1 hz2
          split at h
          · rename_i h0
            obtain ⟨q1, q2, q3⟩ := h0
            cases h
            have hS : 512 < S := of_decide_eq_true q3
            have hcc := hc hS
            have ex : (Term.op2 .iand (.op2 .ixor (.arg 6) (.arg 7)) (.int 511)).eval A s none [] s = some (.int ((i ^^^ j) &&& 511)) := by
              simp only [Term.eval, h6, h7, Binary.apply, Option.bind_eq_bind, Option.bind_some]
            rw [hz1, hz2, q1, q2, own_eqv ex ez]
            subst hcc
            refine congrArg some (Eq.trans ?_ d1.symm)
            exact decide_eq_decide.mpr (own_xor i j 511)
          · cases h
        · cases h
  · rename_i a d
    rw [own_stpL]
    unfold own_lt at h
    split at h
    · rename_i cc hz1 hz2
      split at h
      · rename_i h0
        cases h
        rw [hz1, hz2, h0]
        simp only [Jvm.Cond.value, Term.eval, h5]
        rfl
      · cases h
    · cases h
  · cases h
theorem own_val_mem (hc : own_nine c) (hS : 1 ≤ S.toInt) (hi : 0 ≤ i.toInt ∧ i.toInt < S.toInt) (hj : 0 ≤ j.toInt ∧ j.toInt < S.toInt) (hl : 0 ≤ l.toInt ∧ l.toInt < S.toInt) (hs : S.toInt ≤ 512 → S.toInt ≤ c.toInt) (hb : 512 < S.toInt → c = 512) :
    own_val c S i j l k1 k2 ∈ own_vB ∨ (c = 512 ∧ own_val c S i j l k1 k2 ∈ own_vA) := by
  by_cases h : 512 < S.toInt
  · refine Or.inr ⟨hb h, ?_⟩
    have hd : decide (512 < S) = true := decide_eq_true (own_lti h)
    unfold own_val
    rw [hd]
    obtain ⟨b1, b2, b3, -⟩ := own_pat_eq i j l
    obtain ⟨d1, d2, d3, -⟩ := own_pat_eq (i &&& (c - 1)) (j &&& (c - 1)) (l &&& (c - 1))
    refine own_memA _ (own_pat_mem _ _ _) _ (own_pat_mem _ _ _) ?_ ?_ ?_ _ _
    · rw [b1, d1, decide_eq_true_eq, decide_eq_true_eq]; intro q; rw [q]
    · rw [b2, d2, decide_eq_true_eq, decide_eq_true_eq]; intro q; rw [q]
    · rw [b3, d3, decide_eq_true_eq, decide_eq_true_eq]; intro q; rw [q]
  · refine Or.inl ?_
    have hd : decide (512 < S) = false := decide_eq_false (fun q => h (by rw [Int32.lt_iff_toInt_lt] at q; exact q))
    unfold own_val
    rw [hd]
    have hSc := hs (by omega)
    have sl : ∀ x : Int32, 0 ≤ x.toInt ∧ x.toInt < S.toInt → x &&& (c - 1) = x := fun x hx => by
      apply Int32.toInt_inj.1
      rw [(own_slot hc x).1]
      exact Int.emod_eq_of_lt hx.1 (by omega)
    rw [sl i hi, sl j hj, sl l hl]
    exact own_memB _ (own_pat_mem _ _ _) _ _
theorem own_refuted (h5 : A[5]? = some (.int S)) (h6 : A[6]? = some (.int i)) (h7 : A[7]? = some (.int j)) (h8 : A[8]? = some (.int l)) (h9 : A[9]? = some (.int k1)) (h10 : A[10]? = some (.int k2)) (h11 : A[11]? = some (.int c))
    (hc : own_nine c) (hS : 1 ≤ S.toInt) (hi : 0 ≤ i.toInt ∧ i.toInt < S.toInt) (hj : 0 ≤ j.toInt ∧ j.toInt < S.toInt) (hl : 0 ≤ l.toInt ∧ l.toInt < S.toInt) (hs : S.toInt ≤ 512 → S.toInt ≤ c.toInt) (hb : 512 < S.toInt → c = 512)
    {π : Mini.Path} (h : own_ref π = true) (hp : Mini.Holds A s π) : False := by
  unfold own_ref at h
  split at h
  · rename_i c' hcap
    have hcc : c' = c := by
      unfold own_cap at hcap
      split at hcap
      · rename_i c2 hlast
        cases hcap
        have hm := List.mem_of_getLast? hlast
        have hv := hp _ hm
        dsimp only at hv
        have e11 : (Term.arg 11).eval A s none [] s = some (.int c) := h11
        rw [own_eqv e11 (show (Term.int c').eval A s none [] s = some (.int c') from rfl)] at hv
        exact (of_decide_eq_true (Option.some.inj hv)).symm
      · cases hcap
    subst hcc
    have neg1 : ∀ x : Int32, 0 ≤ x.toInt → x ≠ -1 := fun x hx q => by
      rw [q] at hx
      have : (-1 : Int32).toInt = -1 := rfl
      omega
    have hany : (π.any (own_op (c' - 1) (own_val c' S i j l k1 k2))) = true := by
      obtain ⟨hB, hA'⟩ := Bool.and_eq_true_iff.mp h
      rcases own_val_mem (k1 := k1) (k2 := k2) hc hS hi hj hl hs hb with q | ⟨q1, q2⟩
      · exact List.all_eq_true.mp hB _ q
      · rcases Bool.or_eq_true_iff.mp hA' with z | z
        · exact absurd q1 (of_decide_eq_true z)
        · exact List.all_eq_true.mp z _ q2
    obtain ⟨f, hf, ho⟩ := List.any_eq_true.mp hany
    unfold own_op at ho
    split at ho
    · rename_i b hlit
      have hv := own_lit_ok (s := s) h5 h6 h7 h8 h9 h10 (neg1 i hi.1) (neg1 j hj.1) (neg1 l hl.1) (fun q => hb (by rw [Int32.lt_iff_toInt_lt] at q; exact q)) _ _ hlit
      rw [hp f hf] at hv
      have := Option.some.inj hv
      rw [this] at ho
      simp at ho
    · cases ho
  · cases h
end
def own_capL : Mini.Ans := [([(.lt (.old (.op2 .ishl (.op2 .iand (.sub (.arg 5) (.int 1)) (.op2 .iushr (.int (-2147483648)) (.sub (.int 31) (.op2 .iushr (.sub (.arg 5) (.int 1)) (.int 1))))) (.int 1))) (.old (.int 512)), true), (.lt (.old (.sub (.arg 5) (.int 1))) (.old (.int 4)), true), (.lt (.old (.sub (.arg 5) (.int 1))) (.old (.int 16)), true), (.lt (.old (.sub (.arg 5) (.int 1))) (.old (.int 256)), true), (.lt (.old (.sub (.arg 5) (.int 1))) (.old (.int 65536)), true), (.lt (.int 0) (.old (.sub (.arg 5) (.int 1))), true), (.lt (.old (.int 1)) (.old (.sub (.arg 5) (.int 1))), true)], [.eq (.op2 .ishl (.op2 .iand (.sub (.arg 5) (.int 1)) (.op2 .iushr (.int (-2147483648)) (.sub (.int 31) (.op2 .iushr (.sub (.arg 5) (.int 1)) (.int 1))))) (.int 1)) (.arg 11)]),
  ([(.lt (.old (.op2 .ishl (.op2 .iand (.sub (.arg 5) (.int 1)) (.op2 .iushr (.int (-2147483648)) (.sub (.int 31) (.op2 .iushr (.sub (.arg 5) (.int 1)) (.int 1))))) (.int 1))) (.old (.int 512)), false), (.lt (.old (.sub (.arg 5) (.int 1))) (.old (.int 4)), true), (.lt (.old (.sub (.arg 5) (.int 1))) (.old (.int 16)), true), (.lt (.old (.sub (.arg 5) (.int 1))) (.old (.int 256)), true), (.lt (.old (.sub (.arg 5) (.int 1))) (.old (.int 65536)), true), (.lt (.int 0) (.old (.sub (.arg 5) (.int 1))), true), (.lt (.old (.int 1)) (.old (.sub (.arg 5) (.int 1))), true)], [.eq (.int 512) (.arg 11)]),
  ([(.lt (.old (.op2 .ishl (.op2 .iand (.sub (.arg 5) (.int 1)) (.op2 .iushr (.int (-2147483648)) (.sub (.int 29) (.op2 .iushr (.op2 .iushr (.sub (.arg 5) (.int 1)) (.int 2)) (.int 1))))) (.int 1))) (.old (.int 512)), true), (.lt (.old (.sub (.arg 5) (.int 1))) (.old (.int 4)), false), (.lt (.old (.sub (.arg 5) (.int 1))) (.old (.int 16)), true), (.lt (.old (.sub (.arg 5) (.int 1))) (.old (.int 256)), true), (.lt (.old (.sub (.arg 5) (.int 1))) (.old (.int 65536)), true), (.lt (.int 0) (.old (.sub (.arg 5) (.int 1))), true), (.lt (.old (.int 1)) (.old (.sub (.arg 5) (.int 1))), true)], [.eq (.op2 .ishl (.op2 .iand (.sub (.arg 5) (.int 1)) (.op2 .iushr (.int (-2147483648)) (.sub (.int 29) (.op2 .iushr (.op2 .iushr (.sub (.arg 5) (.int 1)) (.int 2)) (.int 1))))) (.int 1)) (.arg 11)]),
  ([(.lt (.old (.op2 .ishl (.op2 .iand (.sub (.arg 5) (.int 1)) (.op2 .iushr (.int (-2147483648)) (.sub (.int 29) (.op2 .iushr (.op2 .iushr (.sub (.arg 5) (.int 1)) (.int 2)) (.int 1))))) (.int 1))) (.old (.int 512)), false), (.lt (.old (.sub (.arg 5) (.int 1))) (.old (.int 4)), false), (.lt (.old (.sub (.arg 5) (.int 1))) (.old (.int 16)), true), (.lt (.old (.sub (.arg 5) (.int 1))) (.old (.int 256)), true), (.lt (.old (.sub (.arg 5) (.int 1))) (.old (.int 65536)), true), (.lt (.int 0) (.old (.sub (.arg 5) (.int 1))), true), (.lt (.old (.int 1)) (.old (.sub (.arg 5) (.int 1))), true)], [.eq (.int 512) (.arg 11)]),
  ([(.lt (.old (.op2 .ishl (.op2 .iand (.sub (.arg 5) (.int 1)) (.op2 .iushr (.int (-2147483648)) (.sub (.int 27) (.op2 .iushr (.op2 .iushr (.sub (.arg 5) (.int 1)) (.int 4)) (.int 1))))) (.int 1))) (.old (.int 512)), true), (.lt (.old (.op2 .iushr (.sub (.arg 5) (.int 1)) (.int 4))) (.old (.int 4)), true), (.lt (.old (.sub (.arg 5) (.int 1))) (.old (.int 16)), false), (.lt (.old (.sub (.arg 5) (.int 1))) (.old (.int 256)), true), (.lt (.old (.sub (.arg 5) (.int 1))) (.old (.int 65536)), true), (.lt (.int 0) (.old (.sub (.arg 5) (.int 1))), true), (.lt (.old (.int 1)) (.old (.sub (.arg 5) (.int 1))), true)], [.eq (.op2 .ishl (.op2 .iand (.sub (.arg 5) (.int 1)) (.op2 .iushr (.int (-2147483648)) (.sub (.int 27) (.op2 .iushr (.op2 .iushr (.sub (.arg 5) (.int 1)) (.int 4)) (.int 1))))) (.int 1)) (.arg 11)]),
  ([(.lt (.old (.op2 .ishl (.op2 .iand (.sub (.arg 5) (.int 1)) (.op2 .iushr (.int (-2147483648)) (.sub (.int 27) (.op2 .iushr (.op2 .iushr (.sub (.arg 5) (.int 1)) (.int 4)) (.int 1))))) (.int 1))) (.old (.int 512)), false), (.lt (.old (.op2 .iushr (.sub (.arg 5) (.int 1)) (.int 4))) (.old (.int 4)), true), (.lt (.old (.sub (.arg 5) (.int 1))) (.old (.int 16)), false), (.lt (.old (.sub (.arg 5) (.int 1))) (.old (.int 256)), true), (.lt (.old (.sub (.arg 5) (.int 1))) (.old (.int 65536)), true), (.lt (.int 0) (.old (.sub (.arg 5) (.int 1))), true), (.lt (.old (.int 1)) (.old (.sub (.arg 5) (.int 1))), true)], [.eq (.int 512) (.arg 11)]),
  ([(.lt (.old (.op2 .ishl (.op2 .iand (.sub (.arg 5) (.int 1)) (.op2 .iushr (.int (-2147483648)) (.sub (.int 25) (.op2 .iushr (.op2 .iushr (.op2 .iushr (.sub (.arg 5) (.int 1)) (.int 4)) (.int 2)) (.int 1))))) (.int 1))) (.old (.int 512)), true), (.lt (.old (.op2 .iushr (.sub (.arg 5) (.int 1)) (.int 4))) (.old (.int 4)), false), (.lt (.old (.sub (.arg 5) (.int 1))) (.old (.int 16)), false), (.lt (.old (.sub (.arg 5) (.int 1))) (.old (.int 256)), true), (.lt (.old (.sub (.arg 5) (.int 1))) (.old (.int 65536)), true), (.lt (.int 0) (.old (.sub (.arg 5) (.int 1))), true), (.lt (.old (.int 1)) (.old (.sub (.arg 5) (.int 1))), true)], [.eq (.op2 .ishl (.op2 .iand (.sub (.arg 5) (.int 1)) (.op2 .iushr (.int (-2147483648)) (.sub (.int 25) (.op2 .iushr (.op2 .iushr (.op2 .iushr (.sub (.arg 5) (.int 1)) (.int 4)) (.int 2)) (.int 1))))) (.int 1)) (.arg 11)]),
  ([(.lt (.old (.op2 .ishl (.op2 .iand (.sub (.arg 5) (.int 1)) (.op2 .iushr (.int (-2147483648)) (.sub (.int 25) (.op2 .iushr (.op2 .iushr (.op2 .iushr (.sub (.arg 5) (.int 1)) (.int 4)) (.int 2)) (.int 1))))) (.int 1))) (.old (.int 512)), false), (.lt (.old (.op2 .iushr (.sub (.arg 5) (.int 1)) (.int 4))) (.old (.int 4)), false), (.lt (.old (.sub (.arg 5) (.int 1))) (.old (.int 16)), false), (.lt (.old (.sub (.arg 5) (.int 1))) (.old (.int 256)), true), (.lt (.old (.sub (.arg 5) (.int 1))) (.old (.int 65536)), true), (.lt (.int 0) (.old (.sub (.arg 5) (.int 1))), true), (.lt (.old (.int 1)) (.old (.sub (.arg 5) (.int 1))), true)], [.eq (.int 512) (.arg 11)]),
  ([(.lt (.old (.op2 .ishl (.op2 .iand (.sub (.arg 5) (.int 1)) (.op2 .iushr (.int (-2147483648)) (.sub (.int 23) (.op2 .iushr (.op2 .iushr (.sub (.arg 5) (.int 1)) (.int 8)) (.int 1))))) (.int 1))) (.old (.int 512)), true), (.lt (.old (.op2 .iushr (.sub (.arg 5) (.int 1)) (.int 8))) (.old (.int 4)), true), (.lt (.old (.op2 .iushr (.sub (.arg 5) (.int 1)) (.int 8))) (.old (.int 16)), true), (.lt (.old (.sub (.arg 5) (.int 1))) (.old (.int 256)), false), (.lt (.old (.sub (.arg 5) (.int 1))) (.old (.int 65536)), true), (.lt (.int 0) (.old (.sub (.arg 5) (.int 1))), true), (.lt (.old (.int 1)) (.old (.sub (.arg 5) (.int 1))), true)], [.eq (.op2 .ishl (.op2 .iand (.sub (.arg 5) (.int 1)) (.op2 .iushr (.int (-2147483648)) (.sub (.int 23) (.op2 .iushr (.op2 .iushr (.sub (.arg 5) (.int 1)) (.int 8)) (.int 1))))) (.int 1)) (.arg 11)]),
  ([(.lt (.old (.op2 .ishl (.op2 .iand (.sub (.arg 5) (.int 1)) (.op2 .iushr (.int (-2147483648)) (.sub (.int 23) (.op2 .iushr (.op2 .iushr (.sub (.arg 5) (.int 1)) (.int 8)) (.int 1))))) (.int 1))) (.old (.int 512)), false), (.lt (.old (.op2 .iushr (.sub (.arg 5) (.int 1)) (.int 8))) (.old (.int 4)), true), (.lt (.old (.op2 .iushr (.sub (.arg 5) (.int 1)) (.int 8))) (.old (.int 16)), true), (.lt (.old (.sub (.arg 5) (.int 1))) (.old (.int 256)), false), (.lt (.old (.sub (.arg 5) (.int 1))) (.old (.int 65536)), true), (.lt (.int 0) (.old (.sub (.arg 5) (.int 1))), true), (.lt (.old (.int 1)) (.old (.sub (.arg 5) (.int 1))), true)], [.eq (.int 512) (.arg 11)]),
  ([(.lt (.old (.op2 .ishl (.op2 .iand (.sub (.arg 5) (.int 1)) (.op2 .iushr (.int (-2147483648)) (.sub (.int 21) (.op2 .iushr (.op2 .iushr (.op2 .iushr (.sub (.arg 5) (.int 1)) (.int 8)) (.int 2)) (.int 1))))) (.int 1))) (.old (.int 512)), true), (.lt (.old (.op2 .iushr (.sub (.arg 5) (.int 1)) (.int 8))) (.old (.int 4)), false), (.lt (.old (.op2 .iushr (.sub (.arg 5) (.int 1)) (.int 8))) (.old (.int 16)), true), (.lt (.old (.sub (.arg 5) (.int 1))) (.old (.int 256)), false), (.lt (.old (.sub (.arg 5) (.int 1))) (.old (.int 65536)), true), (.lt (.int 0) (.old (.sub (.arg 5) (.int 1))), true), (.lt (.old (.int 1)) (.old (.sub (.arg 5) (.int 1))), true)], [.eq (.op2 .ishl (.op2 .iand (.sub (.arg 5) (.int 1)) (.op2 .iushr (.int (-2147483648)) (.sub (.int 21) (.op2 .iushr (.op2 .iushr (.op2 .iushr (.sub (.arg 5) (.int 1)) (.int 8)) (.int 2)) (.int 1))))) (.int 1)) (.arg 11)]),
  ([(.lt (.old (.op2 .ishl (.op2 .iand (.sub (.arg 5) (.int 1)) (.op2 .iushr (.int (-2147483648)) (.sub (.int 21) (.op2 .iushr (.op2 .iushr (.op2 .iushr (.sub (.arg 5) (.int 1)) (.int 8)) (.int 2)) (.int 1))))) (.int 1))) (.old (.int 512)), false), (.lt (.old (.op2 .iushr (.sub (.arg 5) (.int 1)) (.int 8))) (.old (.int 4)), false), (.lt (.old (.op2 .iushr (.sub (.arg 5) (.int 1)) (.int 8))) (.old (.int 16)), true), (.lt (.old (.sub (.arg 5) (.int 1))) (.old (.int 256)), false), (.lt (.old (.sub (.arg 5) (.int 1))) (.old (.int 65536)), true), (.lt (.int 0) (.old (.sub (.arg 5) (.int 1))), true), (.lt (.old (.int 1)) (.old (.sub (.arg 5) (.int 1))), true)], [.eq (.int 512) (.arg 11)]),
  ([(.lt (.old (.op2 .ishl (.op2 .iand (.sub (.arg 5) (.int 1)) (.op2 .iushr (.int (-2147483648)) (.sub (.int 19) (.op2 .iushr (.op2 .iushr (.op2 .iushr (.sub (.arg 5) (.int 1)) (.int 8)) (.int 4)) (.int 1))))) (.int 1))) (.old (.int 512)), true), (.lt (.old (.op2 .iushr (.op2 .iushr (.sub (.arg 5) (.int 1)) (.int 8)) (.int 4))) (.old (.int 4)), true), (.lt (.old (.op2 .iushr (.sub (.arg 5) (.int 1)) (.int 8))) (.old (.int 16)), false), (.lt (.old (.sub (.arg 5) (.int 1))) (.old (.int 256)), false), (.lt (.old (.sub (.arg 5) (.int 1))) (.old (.int 65536)), true), (.lt (.int 0) (.old (.sub (.arg 5) (.int 1))), true), (.lt (.old (.int 1)) (.old (.sub (.arg 5) (.int 1))), true)], [.eq (.op2 .ishl (.op2 .iand (.sub (.arg 5) (.int 1)) (.op2 .iushr (.int (-2147483648)) (.sub (.int 19) (.op2 .iushr (.op2 .iushr (.op2 .iushr (.sub (.arg 5) (.int 1)) (.int 8)) (.int 4)) (.int 1))))) (.int 1)) (.arg 11)]),
  ([(.lt (.old (.op2 .ishl (.op2 .iand (.sub (.arg 5) (.int 1)) (.op2 .iushr (.int (-2147483648)) (.sub (.int 19) (.op2 .iushr (.op2 .iushr (.op2 .iushr (.sub (.arg 5) (.int 1)) (.int 8)) (.int 4)) (.int 1))))) (.int 1))) (.old (.int 512)), false), (.lt (.old (.op2 .iushr (.op2 .iushr (.sub (.arg 5) (.int 1)) (.int 8)) (.int 4))) (.old (.int 4)), true), (.lt (.old (.op2 .iushr (.sub (.arg 5) (.int 1)) (.int 8))) (.old (.int 16)), false), (.lt (.old (.sub (.arg 5) (.int 1))) (.old (.int 256)), false), (.lt (.old (.sub (.arg 5) (.int 1))) (.old (.int 65536)), true), (.lt (.int 0) (.old (.sub (.arg 5) (.int 1))), true), (.lt (.old (.int 1)) (.old (.sub (.arg 5) (.int 1))), true)], [.eq (.int 512) (.arg 11)]),
  ([(.lt (.old (.op2 .ishl (.op2 .iand (.sub (.arg 5) (.int 1)) (.op2 .iushr (.int (-2147483648)) (.sub (.int 17) (.op2 .iushr (.op2 .iushr (.op2 .iushr (.op2 .iushr (.sub (.arg 5) (.int 1)) (.int 8)) (.int 4)) (.int 2)) (.int 1))))) (.int 1))) (.old (.int 512)), true), (.lt (.old (.op2 .iushr (.op2 .iushr (.sub (.arg 5) (.int 1)) (.int 8)) (.int 4))) (.old (.int 4)), false), (.lt (.old (.op2 .iushr (.sub (.arg 5) (.int 1)) (.int 8))) (.old (.int 16)), false), (.lt (.old (.sub (.arg 5) (.int 1))) (.old (.int 256)), false), (.lt (.old (.sub (.arg 5) (.int 1))) (.old (.int 65536)), true), (.lt (.int 0) (.old (.sub (.arg 5) (.int 1))), true), (.lt (.old (.int 1)) (.old (.sub (.arg 5) (.int 1))), true)], [.eq (.op2 .ishl (.op2 .iand (.sub (.arg 5) (.int 1)) (.op2 .iushr (.int (-2147483648)) (.sub (.int 17) (.op2 .iushr (.op2 .iushr (.op2 .iushr (.op2 .iushr (.sub (.arg 5) (.int 1)) (.int 8)) (.int 4)) (.int 2)) (.int 1))))) (.int 1)) (.arg 11)]),
  ([(.lt (.old (.op2 .ishl (.op2 .iand (.sub (.arg 5) (.int 1)) (.op2 .iushr (.int (-2147483648)) (.sub (.int 17) (.op2 .iushr (.op2 .iushr (.op2 .iushr (.op2 .iushr (.sub (.arg 5) (.int 1)) (.int 8)) (.int 4)) (.int 2)) (.int 1))))) (.int 1))) (.old (.int 512)), false), (.lt (.old (.op2 .iushr (.op2 .iushr (.sub (.arg 5) (.int 1)) (.int 8)) (.int 4))) (.old (.int 4)), false), (.lt (.old (.op2 .iushr (.sub (.arg 5) (.int 1)) (.int 8))) (.old (.int 16)), false), (.lt (.old (.sub (.arg 5) (.int 1))) (.old (.int 256)), false), (.lt (.old (.sub (.arg 5) (.int 1))) (.old (.int 65536)), true), (.lt (.int 0) (.old (.sub (.arg 5) (.int 1))), true), (.lt (.old (.int 1)) (.old (.sub (.arg 5) (.int 1))), true)], [.eq (.int 512) (.arg 11)]),
  ([(.lt (.old (.op2 .ishl (.op2 .iand (.sub (.arg 5) (.int 1)) (.op2 .iushr (.int (-2147483648)) (.sub (.int 15) (.op2 .iushr (.op2 .iushr (.sub (.arg 5) (.int 1)) (.int 16)) (.int 1))))) (.int 1))) (.old (.int 512)), true), (.lt (.old (.op2 .iushr (.sub (.arg 5) (.int 1)) (.int 16))) (.old (.int 4)), true), (.lt (.old (.op2 .iushr (.sub (.arg 5) (.int 1)) (.int 16))) (.old (.int 16)), true), (.lt (.old (.op2 .iushr (.sub (.arg 5) (.int 1)) (.int 16))) (.old (.int 256)), true), (.lt (.old (.sub (.arg 5) (.int 1))) (.old (.int 65536)), false), (.lt (.int 0) (.old (.sub (.arg 5) (.int 1))), true), (.lt (.old (.int 1)) (.old (.sub (.arg 5) (.int 1))), true)], [.eq (.op2 .ishl (.op2 .iand (.sub (.arg 5) (.int 1)) (.op2 .iushr (.int (-2147483648)) (.sub (.int 15) (.op2 .iushr (.op2 .iushr (.sub (.arg 5) (.int 1)) (.int 16)) (.int 1))))) (.int 1)) (.arg 11)]),
  ([(.lt (.old (.op2 .ishl (.op2 .iand (.sub (.arg 5) (.int 1)) (.op2 .iushr (.int (-2147483648)) (.sub (.int 15) (.op2 .iushr (.op2 .iushr (.sub (.arg 5) (.int 1)) (.int 16)) (.int 1))))) (.int 1))) (.old (.int 512)), false), (.lt (.old (.op2 .iushr (.sub (.arg 5) (.int 1)) (.int 16))) (.old (.int 4)), true), (.lt (.old (.op2 .iushr (.sub (.arg 5) (.int 1)) (.int 16))) (.old (.int 16)), true), (.lt (.old (.op2 .iushr (.sub (.arg 5) (.int 1)) (.int 16))) (.old (.int 256)), true), (.lt (.old (.sub (.arg 5) (.int 1))) (.old (.int 65536)), false), (.lt (.int 0) (.old (.sub (.arg 5) (.int 1))), true), (.lt (.old (.int 1)) (.old (.sub (.arg 5) (.int 1))), true)], [.eq (.int 512) (.arg 11)]),
  ([(.lt (.old (.op2 .ishl (.op2 .iand (.sub (.arg 5) (.int 1)) (.op2 .iushr (.int (-2147483648)) (.sub (.int 13) (.op2 .iushr (.op2 .iushr (.op2 .iushr (.sub (.arg 5) (.int 1)) (.int 16)) (.int 2)) (.int 1))))) (.int 1))) (.old (.int 512)), true), (.lt (.old (.op2 .iushr (.sub (.arg 5) (.int 1)) (.int 16))) (.old (.int 4)), false), (.lt (.old (.op2 .iushr (.sub (.arg 5) (.int 1)) (.int 16))) (.old (.int 16)), true), (.lt (.old (.op2 .iushr (.sub (.arg 5) (.int 1)) (.int 16))) (.old (.int 256)), true), (.lt (.old (.sub (.arg 5) (.int 1))) (.old (.int 65536)), false), (.lt (.int 0) (.old (.sub (.arg 5) (.int 1))), true), (.lt (.old (.int 1)) (.old (.sub (.arg 5) (.int 1))), true)], [.eq (.op2 .ishl (.op2 .iand (.sub (.arg 5) (.int 1)) (.op2 .iushr (.int (-2147483648)) (.sub (.int 13) (.op2 .iushr (.op2 .iushr (.op2 .iushr (.sub (.arg 5) (.int 1)) (.int 16)) (.int 2)) (.int 1))))) (.int 1)) (.arg 11)]),
  ([(.lt (.old (.op2 .ishl (.op2 .iand (.sub (.arg 5) (.int 1)) (.op2 .iushr (.int (-2147483648)) (.sub (.int 13) (.op2 .iushr (.op2 .iushr (.op2 .iushr (.sub (.arg 5) (.int 1)) (.int 16)) (.int 2)) (.int 1))))) (.int 1))) (.old (.int 512)), false), (.lt (.old (.op2 .iushr (.sub (.arg 5) (.int 1)) (.int 16))) (.old (.int 4)), false), (.lt (.old (.op2 .iushr (.sub (.arg 5) (.int 1)) (.int 16))) (.old (.int 16)), true), (.lt (.old (.op2 .iushr (.sub (.arg 5) (.int 1)) (.int 16))) (.old (.int 256)), true), (.lt (.old (.sub (.arg 5) (.int 1))) (.old (.int 65536)), false), (.lt (.int 0) (.old (.sub (.arg 5) (.int 1))), true), (.lt (.old (.int 1)) (.old (.sub (.arg 5) (.int 1))), true)], [.eq (.int 512) (.arg 11)]),
  ([(.lt (.old (.op2 .ishl (.op2 .iand (.sub (.arg 5) (.int 1)) (.op2 .iushr (.int (-2147483648)) (.sub (.int 11) (.op2 .iushr (.op2 .iushr (.op2 .iushr (.sub (.arg 5) (.int 1)) (.int 16)) (.int 4)) (.int 1))))) (.int 1))) (.old (.int 512)), true), (.lt (.old (.op2 .iushr (.op2 .iushr (.sub (.arg 5) (.int 1)) (.int 16)) (.int 4))) (.old (.int 4)), true), (.lt (.old (.op2 .iushr (.sub (.arg 5) (.int 1)) (.int 16))) (.old (.int 16)), false), (.lt (.old (.op2 .iushr (.sub (.arg 5) (.int 1)) (.int 16))) (.old (.int 256)), true), (.lt (.old (.sub (.arg 5) (.int 1))) (.old (.int 65536)), false), (.lt (.int 0) (.old (.sub (.arg 5) (.int 1))), true), (.lt (.old (.int 1)) (.old (.sub (.arg 5) (.int 1))), true)], [.eq (.op2 .ishl (.op2 .iand (.sub (.arg 5) (.int 1)) (.op2 .iushr (.int (-2147483648)) (.sub (.int 11) (.op2 .iushr (.op2 .iushr (.op2 .iushr (.sub (.arg 5) (.int 1)) (.int 16)) (.int 4)) (.int 1))))) (.int 1)) (.arg 11)]),
  ([(.lt (.old (.op2 .ishl (.op2 .iand (.sub (.arg 5) (.int 1)) (.op2 .iushr (.int (-2147483648)) (.sub (.int 11) (.op2 .iushr (.op2 .iushr (.op2 .iushr (.sub (.arg 5) (.int 1)) (.int 16)) (.int 4)) (.int 1))))) (.int 1))) (.old (.int 512)), false), (.lt (.old (.op2 .iushr (.op2 .iushr (.sub (.arg 5) (.int 1)) (.int 16)) (.int 4))) (.old (.int 4)), true), (.lt (.old (.op2 .iushr (.sub (.arg 5) (.int 1)) (.int 16))) (.old (.int 16)), false), (.lt (.old (.op2 .iushr (.sub (.arg 5) (.int 1)) (.int 16))) (.old (.int 256)), true), (.lt (.old (.sub (.arg 5) (.int 1))) (.old (.int 65536)), false), (.lt (.int 0) (.old (.sub (.arg 5) (.int 1))), true), (.lt (.old (.int 1)) (.old (.sub (.arg 5) (.int 1))), true)], [.eq (.int 512) (.arg 11)]),
  ([(.lt (.old (.op2 .ishl (.op2 .iand (.sub (.arg 5) (.int 1)) (.op2 .iushr (.int (-2147483648)) (.sub (.int 9) (.op2 .iushr (.op2 .iushr (.op2 .iushr (.op2 .iushr (.sub (.arg 5) (.int 1)) (.int 16)) (.int 4)) (.int 2)) (.int 1))))) (.int 1))) (.old (.int 512)), true), (.lt (.old (.op2 .iushr (.op2 .iushr (.sub (.arg 5) (.int 1)) (.int 16)) (.int 4))) (.old (.int 4)), false), (.lt (.old (.op2 .iushr (.sub (.arg 5) (.int 1)) (.int 16))) (.old (.int 16)), false), (.lt (.old (.op2 .iushr (.sub (.arg 5) (.int 1)) (.int 16))) (.old (.int 256)), true), (.lt (.old (.sub (.arg 5) (.int 1))) (.old (.int 65536)), false), (.lt (.int 0) (.old (.sub (.arg 5) (.int 1))), true), (.lt (.old (.int 1)) (.old (.sub (.arg 5) (.int 1))), true)], [.eq (.op2 .ishl (.op2 .iand (.sub (.arg 5) (.int 1)) (.op2 .iushr (.int (-2147483648)) (.sub (.int 9) (.op2 .iushr (.op2 .iushr (.op2 .iushr (.op2 .iushr (.sub (.arg 5) (.int 1)) (.int 16)) (.int 4)) (.int 2)) (.int 1))))) (.int 1)) (.arg 11)]),
  ([(.lt (.old (.op2 .ishl (.op2 .iand (.sub (.arg 5) (.int 1)) (.op2 .iushr (.int (-2147483648)) (.sub (.int 9) (.op2 .iushr (.op2 .iushr (.op2 .iushr (.op2 .iushr (.sub (.arg 5) (.int 1)) (.int 16)) (.int 4)) (.int 2)) (.int 1))))) (.int 1))) (.old (.int 512)), false), (.lt (.old (.op2 .iushr (.op2 .iushr (.sub (.arg 5) (.int 1)) (.int 16)) (.int 4))) (.old (.int 4)), false), (.lt (.old (.op2 .iushr (.sub (.arg 5) (.int 1)) (.int 16))) (.old (.int 16)), false), (.lt (.old (.op2 .iushr (.sub (.arg 5) (.int 1)) (.int 16))) (.old (.int 256)), true), (.lt (.old (.sub (.arg 5) (.int 1))) (.old (.int 65536)), false), (.lt (.int 0) (.old (.sub (.arg 5) (.int 1))), true), (.lt (.old (.int 1)) (.old (.sub (.arg 5) (.int 1))), true)], [.eq (.int 512) (.arg 11)]),
  ([(.lt (.old (.op2 .ishl (.op2 .iand (.sub (.arg 5) (.int 1)) (.op2 .iushr (.int (-2147483648)) (.sub (.int 7) (.op2 .iushr (.op2 .iushr (.op2 .iushr (.sub (.arg 5) (.int 1)) (.int 16)) (.int 8)) (.int 1))))) (.int 1))) (.old (.int 512)), true), (.lt (.old (.op2 .iushr (.op2 .iushr (.sub (.arg 5) (.int 1)) (.int 16)) (.int 8))) (.old (.int 4)), true), (.lt (.old (.op2 .iushr (.op2 .iushr (.sub (.arg 5) (.int 1)) (.int 16)) (.int 8))) (.old (.int 16)), true), (.lt (.old (.op2 .iushr (.sub (.arg 5) (.int 1)) (.int 16))) (.old (.int 256)), false), (.lt (.old (.sub (.arg 5) (.int 1))) (.old (.int 65536)), false), (.lt (.int 0) (.old (.sub (.arg 5) (.int 1))), true), (.lt (.old (.int 1)) (.old (.sub (.arg 5) (.int 1))), true)], [.eq (.op2 .ishl (.op2 .iand (.sub (.arg 5) (.int 1)) (.op2 .iushr (.int (-2147483648)) (.sub (.int 7) (.op2 .iushr (.op2 .iushr (.op2 .iushr (.sub (.arg 5) (.int 1)) (.int 16)) (.int 8)) (.int 1))))) (.int 1)) (.arg 11)]),
  ([(.lt (.old (.op2 .ishl (.op2 .iand (.sub (.arg 5) (.int 1)) (.op2 .iushr (.int (-2147483648)) (.sub (.int 7) (.op2 .iushr (.op2 .iushr (.op2 .iushr (.sub (.arg 5) (.int 1)) (.int 16)) (.int 8)) (.int 1))))) (.int 1))) (.old (.int 512)), false), (.lt (.old (.op2 .iushr (.op2 .iushr (.sub (.arg 5) (.int 1)) (.int 16)) (.int 8))) (.old (.int 4)), true), (.lt (.old (.op2 .iushr (.op2 .iushr (.sub (.arg 5) (.int 1)) (.int 16)) (.int 8))) (.old (.int 16)), true), (.lt (.old (.op2 .iushr (.sub (.arg 5) (.int 1)) (.int 16))) (.old (.int 256)), false), (.lt (.old (.sub (.arg 5) (.int 1))) (.old (.int 65536)), false), (.lt (.int 0) (.old (.sub (.arg 5) (.int 1))), true), (.lt (.old (.int 1)) (.old (.sub (.arg 5) (.int 1))), true)], [.eq (.int 512) (.arg 11)]),
  ([(.lt (.old (.op2 .ishl (.op2 .iand (.sub (.arg 5) (.int 1)) (.op2 .iushr (.int (-2147483648)) (.sub (.int 5) (.op2 .iushr (.op2 .iushr (.op2 .iushr (.op2 .iushr (.sub (.arg 5) (.int 1)) (.int 16)) (.int 8)) (.int 2)) (.int 1))))) (.int 1))) (.old (.int 512)), true), (.lt (.old (.op2 .iushr (.op2 .iushr (.sub (.arg 5) (.int 1)) (.int 16)) (.int 8))) (.old (.int 4)), false), (.lt (.old (.op2 .iushr (.op2 .iushr (.sub (.arg 5) (.int 1)) (.int 16)) (.int 8))) (.old (.int 16)), true), (.lt (.old (.op2 .iushr (.sub (.arg 5) (.int 1)) (.int 16))) (.old (.int 256)), false), (.lt (.old (.sub (.arg 5) (.int 1))) (.old (.int 65536)), false), (.lt (.int 0) (.old (.sub (.arg 5) (.int 1))), true), (.lt (.old (.int 1)) (.old (.sub (.arg 5) (.int 1))), true)], [.eq (.op2 .ishl (.op2 .iand (.sub (.arg 5) (.int 1)) (.op2 .iushr (.int (-2147483648)) (.sub (.int 5) (.op2 .iushr (.op2 .iushr (.op2 .iushr (.op2 .iushr (.sub (.arg 5) (.int 1)) (.int 16)) (.int 8)) (.int 2)) (.int 1))))) (.int 1)) (.arg 11)]),
  ([(.lt (.old (.op2 .ishl (.op2 .iand (.sub (.arg 5) (.int 1)) (.op2 .iushr (.int (-2147483648)) (.sub (.int 5) (.op2 .iushr (.op2 .iushr (.op2 .iushr (.op2 .iushr (.sub (.arg 5) (.int 1)) (.int 16)) (.int 8)) (.int 2)) (.int 1))))) (.int 1))) (.old (.int 512)), false), (.lt (.old (.op2 .iushr (.op2 .iushr (.sub (.arg 5) (.int 1)) (.int 16)) (.int 8))) (.old (.int 4)), false), (.lt (.old (.op2 .iushr (.op2 .iushr (.sub (.arg 5) (.int 1)) (.int 16)) (.int 8))) (.old (.int 16)), true), (.lt (.old (.op2 .iushr (.sub (.arg 5) (.int 1)) (.int 16))) (.old (.int 256)), false), (.lt (.old (.sub (.arg 5) (.int 1))) (.old (.int 65536)), false), (.lt (.int 0) (.old (.sub (.arg 5) (.int 1))), true), (.lt (.old (.int 1)) (.old (.sub (.arg 5) (.int 1))), true)], [.eq (.int 512) (.arg 11)]),
  ([(.lt (.old (.op2 .ishl (.op2 .iand (.sub (.arg 5) (.int 1)) (.op2 .iushr (.int (-2147483648)) (.sub (.int 3) (.op2 .iushr (.op2 .iushr (.op2 .iushr (.op2 .iushr (.sub (.arg 5) (.int 1)) (.int 16)) (.int 8)) (.int 4)) (.int 1))))) (.int 1))) (.old (.int 512)), true), (.lt (.old (.op2 .iushr (.op2 .iushr (.op2 .iushr (.sub (.arg 5) (.int 1)) (.int 16)) (.int 8)) (.int 4))) (.old (.int 4)), true), (.lt (.old (.op2 .iushr (.op2 .iushr (.sub (.arg 5) (.int 1)) (.int 16)) (.int 8))) (.old (.int 16)), false), (.lt (.old (.op2 .iushr (.sub (.arg 5) (.int 1)) (.int 16))) (.old (.int 256)), false), (.lt (.old (.sub (.arg 5) (.int 1))) (.old (.int 65536)), false), (.lt (.int 0) (.old (.sub (.arg 5) (.int 1))), true), (.lt (.old (.int 1)) (.old (.sub (.arg 5) (.int 1))), true)], [.eq (.op2 .ishl (.op2 .iand (.sub (.arg 5) (.int 1)) (.op2 .iushr (.int (-2147483648)) (.sub (.int 3) (.op2 .iushr (.op2 .iushr (.op2 .iushr (.op2 .iushr (.sub (.arg 5) (.int 1)) (.int 16)) (.int 8)) (.int 4)) (.int 1))))) (.int 1)) (.arg 11)]),
  ([(.lt (.old (.op2 .ishl (.op2 .iand (.sub (.arg 5) (.int 1)) (.op2 .iushr (.int (-2147483648)) (.sub (.int 3) (.op2 .iushr (.op2 .iushr (.op2 .iushr (.op2 .iushr (.sub (.arg 5) (.int 1)) (.int 16)) (.int 8)) (.int 4)) (.int 1))))) (.int 1))) (.old (.int 512)), false), (.lt (.old (.op2 .iushr (.op2 .iushr (.op2 .iushr (.sub (.arg 5) (.int 1)) (.int 16)) (.int 8)) (.int 4))) (.old (.int 4)), true), (.lt (.old (.op2 .iushr (.op2 .iushr (.sub (.arg 5) (.int 1)) (.int 16)) (.int 8))) (.old (.int 16)), false), (.lt (.old (.op2 .iushr (.sub (.arg 5) (.int 1)) (.int 16))) (.old (.int 256)), false), (.lt (.old (.sub (.arg 5) (.int 1))) (.old (.int 65536)), false), (.lt (.int 0) (.old (.sub (.arg 5) (.int 1))), true), (.lt (.old (.int 1)) (.old (.sub (.arg 5) (.int 1))), true)], [.eq (.int 512) (.arg 11)]),
  ([(.lt (.old (.op2 .ishl (.op2 .iand (.sub (.arg 5) (.int 1)) (.op2 .iushr (.int (-2147483648)) (.sub (.int 1) (.op2 .iushr (.op2 .iushr (.op2 .iushr (.op2 .iushr (.op2 .iushr (.sub (.arg 5) (.int 1)) (.int 16)) (.int 8)) (.int 4)) (.int 2)) (.int 1))))) (.int 1))) (.old (.int 512)), true), (.lt (.old (.op2 .iushr (.op2 .iushr (.op2 .iushr (.sub (.arg 5) (.int 1)) (.int 16)) (.int 8)) (.int 4))) (.old (.int 4)), false), (.lt (.old (.op2 .iushr (.op2 .iushr (.sub (.arg 5) (.int 1)) (.int 16)) (.int 8))) (.old (.int 16)), false), (.lt (.old (.op2 .iushr (.sub (.arg 5) (.int 1)) (.int 16))) (.old (.int 256)), false), (.lt (.old (.sub (.arg 5) (.int 1))) (.old (.int 65536)), false), (.lt (.int 0) (.old (.sub (.arg 5) (.int 1))), true), (.lt (.old (.int 1)) (.old (.sub (.arg 5) (.int 1))), true)], [.eq (.op2 .ishl (.op2 .iand (.sub (.arg 5) (.int 1)) (.op2 .iushr (.int (-2147483648)) (.sub (.int 1) (.op2 .iushr (.op2 .iushr (.op2 .iushr (.op2 .iushr (.op2 .iushr (.sub (.arg 5) (.int 1)) (.int 16)) (.int 8)) (.int 4)) (.int 2)) (.int 1))))) (.int 1)) (.arg 11)]),
  ([(.lt (.old (.op2 .ishl (.op2 .iand (.sub (.arg 5) (.int 1)) (.op2 .iushr (.int (-2147483648)) (.sub (.int 1) (.op2 .iushr (.op2 .iushr (.op2 .iushr (.op2 .iushr (.op2 .iushr (.sub (.arg 5) (.int 1)) (.int 16)) (.int 8)) (.int 4)) (.int 2)) (.int 1))))) (.int 1))) (.old (.int 512)), false), (.lt (.old (.op2 .iushr (.op2 .iushr (.op2 .iushr (.sub (.arg 5) (.int 1)) (.int 16)) (.int 8)) (.int 4))) (.old (.int 4)), false), (.lt (.old (.op2 .iushr (.op2 .iushr (.sub (.arg 5) (.int 1)) (.int 16)) (.int 8))) (.old (.int 16)), false), (.lt (.old (.op2 .iushr (.sub (.arg 5) (.int 1)) (.int 16))) (.old (.int 256)), false), (.lt (.old (.sub (.arg 5) (.int 1))) (.old (.int 65536)), false), (.lt (.int 0) (.old (.sub (.arg 5) (.int 1))), true), (.lt (.old (.int 1)) (.old (.sub (.arg 5) (.int 1))), true)], [.eq (.int 512) (.arg 11)]),
  ([(.lt (.old (.op2 .ishl (.op2 .iand (.sub (.arg 5) (.int 1)) (.int (-2147483648))) (.int 1))) (.old (.int 512)), true), (.eq (.old (.sub (.arg 5) (.int 1))) (.int 0), false), (.lt (.int 0) (.old (.sub (.arg 5) (.int 1))), false), (.lt (.old (.int 1)) (.old (.sub (.arg 5) (.int 1))), true)], [.eq (.op2 .ishl (.op2 .iand (.sub (.arg 5) (.int 1)) (.int (-2147483648))) (.int 1)) (.arg 11)]),
  ([(.lt (.old (.op2 .ishl (.op2 .iand (.sub (.arg 5) (.int 1)) (.int (-2147483648))) (.int 1))) (.old (.int 512)), false), (.eq (.old (.sub (.arg 5) (.int 1))) (.int 0), false), (.lt (.int 0) (.old (.sub (.arg 5) (.int 1))), false), (.lt (.old (.int 1)) (.old (.sub (.arg 5) (.int 1))), true)], [.eq (.int 512) (.arg 11)]),
  ([(.lt (.old (.op2 .ishl (.op2 .iand (.sub (.arg 5) (.int 1)) (.int (-2147483648))) (.int 1))) (.old (.int 512)), true), (.eq (.old (.sub (.arg 5) (.int 1))) (.int 0), true), (.lt (.int 0) (.old (.sub (.arg 5) (.int 1))), false), (.lt (.old (.int 1)) (.old (.sub (.arg 5) (.int 1))), true)], [.eq (.op2 .ishl (.op2 .iand (.sub (.arg 5) (.int 1)) (.int (-2147483648))) (.int 1)) (.arg 11)]),
  ([(.lt (.old (.op2 .ishl (.op2 .iand (.sub (.arg 5) (.int 1)) (.int (-2147483648))) (.int 1))) (.old (.int 512)), false), (.eq (.old (.sub (.arg 5) (.int 1))) (.int 0), true), (.lt (.int 0) (.old (.sub (.arg 5) (.int 1))), false), (.lt (.old (.int 1)) (.old (.sub (.arg 5) (.int 1))), true)], [.eq (.int 512) (.arg 11)]),
  ([(.lt (.old (.int 1)) (.old (.sub (.arg 5) (.int 1))), false)], [.eq (.int 2) (.arg 11)])]
def own_goals (c : Int32) : List (List Jvm.Cond) :=
  [[.eq (.add (.int 1) (.op2 .iand (.arg 0) (.int 2047))) (.arg 5)], [.lt (.int 0) (.arg 5)], [.lt (.int (-1)) (.arg 5)], [.lt (.arg 5) (.int 2049)], [.eq (.rem (.op2 .iand (.arg 1) (.int 2147483647)) (.arg 5)) (.arg 6)], [.eq (.rem (.op2 .iand (.arg 4) (.int 2147483647)) (.arg 5)) (.arg 8)], [.eq (.arg 11) (.int c)]] ++
  [6, 7, 8].flatMap (fun n => [[.lt (.int (-1)) (.arg n)], [.lt (.arg n) (.arg 5)], [.lt (.int (-1)) (.op2 .iand (.arg n) (.int (c - 1)))], [.lt (.op2 .iand (.arg n) (.int (c - 1))) (.int c)]])
def own_ents : Mini.Ans := [([(.eq (.old (.op2 .iand (.arg 3) (.int 3))) (.old (.int 1)), false), (.eq (.old (.op2 .iand (.arg 3) (.int 3))) (.int 0), false)], [.eq (.rem (.op2 .iand (.arg 2) (.int 2147483647)) (.arg 5)) (.arg 7)]),
  ([(.eq (.old (.op2 .iand (.arg 3) (.int 3))) (.old (.int 1)), true), (.eq (.old (.op2 .iand (.arg 3) (.int 3))) (.int 0), false)], [.eq (.rem (.add (.arg 6) (.mul (.int 512) (.add (.int 1) (.op2 .iand (.op2 .iushr (.arg 2) (.int 2)) (.int 3))))) (.arg 5)) (.arg 7)]),
  ([(.eq (.old (.op2 .iand (.arg 3) (.int 3))) (.int 0), true)], [.eq (.arg 6) (.arg 7)]),
  ([(.eq (.old (.op2 .iand (.op2 .iushr (.arg 3) (.int 2)) (.int 1))) (.int 0), true)], [.eq (.int 0) (.arg 9)]), ([(.eq (.old (.op2 .iand (.op2 .iushr (.arg 3) (.int 2)) (.int 1))) (.int 0), false)], [.eq (.int 1) (.arg 9)]),
  ([(.eq (.old (.op2 .iand (.op2 .iushr (.arg 3) (.int 3)) (.int 1))) (.int 0), true)], [.eq (.int 0) (.arg 10)]), ([(.eq (.old (.op2 .iand (.op2 .iushr (.arg 3) (.int 3)) (.int 1))) (.int 0), false)], [.eq (.int 1) (.arg 10)])]
def own_good (c : Int32) (q : Mini.Path × List Jvm.Cond) : Bool := match q.2 with
  | [] => own_ref q.1
  | _ :: _ => (own_goals c).any (fun g => decide (q.2 = g)) || own_ents.any (fun e => decide (q = e)) || own_capL.any (fun e => decide (q = e))
set_option maxRecDepth 65536 in
theorem own_caps : ((List.range 2048).all fun v => own_capL.all (own_capOk (Int32.ofNat (v + 1)))) = true := by decide +kernel
section
variable {A : Array Value} {s : State} {p0 p1 p2 p3 p4 S i j l k1 k2 c : Int32}
theorem own_ltv {a b : Term} {x y : Int32} (h1 : a.eval A s none [] s = some (.int x)) (h2 : b.eval A s none [] s = some (.int y)) (h : x.toInt < y.toInt) : (Jvm.Cond.lt a b).value A s none s [] = some true := by
  simp only [Jvm.Cond.value, h1, h2, decide_eq_true (own_lti h)]
theorem own_goal_ok (a0 : A[0]? = some (.int p0)) (a1 : A[1]? = some (.int p1)) (a4 : A[4]? = some (.int p4)) (h5 : A[5]? = some (.int S)) (h6 : A[6]? = some (.int i)) (h7 : A[7]? = some (.int j)) (h8 : A[8]? = some (.int l)) (h11 : A[11]? = some (.int c))
    (dS : S = 1 + (p0 &&& 2047)) (di : i = (p1 &&& 2147483647) % S) (dl : l = (p4 &&& 2147483647) % S) (hc : own_nine c) (hi : 0 ≤ i.toInt ∧ i.toInt < S.toInt) (hj : 0 ≤ j.toInt ∧ j.toInt < S.toInt) (hl : 0 ≤ l.toInt ∧ l.toInt < S.toInt)
    (g : List Jvm.Cond) (hg : g ∈ own_goals c) : ∃ G ∈ g, G.value A s none s [] = some true := by
  have hS := own_S dS
  have em : (Term.int (-1)).eval A s none [] s = some (.int (-1)) := rfl
  have m1 : (-1 : Int32).toInt = -1 := rfl
  have z0 : (0 : Int32).toInt = 0 := rfl
  have e5 : (Term.arg 5).eval A s none [] s = some (.int S) := h5
  have hS0 : S ≠ 0 := fun q => by rw [q] at hS; omega
  rcases List.mem_append.mp hg with hg | hg
  · simp only [List.mem_cons, List.not_mem_nil, or_false] at hg
    rcases hg with rfl | rfl | rfl | rfl | rfl | rfl | rfl <;> refine ⟨_, List.mem_singleton.mpr rfl, ?_⟩
    · simp only [Jvm.Cond.value, Term.eval, a0, h5, Binary.apply, Option.bind_eq_bind, Option.bind_some, Option.pure_def]
      rw [← dS]; simp
    · exact own_ltv (show (Term.int 0).eval A s none [] s = some (.int 0) from rfl) e5 (by omega)
    · exact own_ltv em e5 (by omega)
    · exact own_ltv e5 (show (Term.int 2049).eval A s none [] s = some (.int 2049) from rfl) (by have : (2049 : Int32).toInt = 2049 := rfl; omega)
    · simp only [Jvm.Cond.value, Term.eval, a1, h5, h6, Binary.apply, Option.bind_eq_bind, Option.bind_some, Option.pure_def, if_neg hS0]
      rw [← di]; simp
    · simp only [Jvm.Cond.value, Term.eval, a4, h5, h8, Binary.apply, Option.bind_eq_bind, Option.bind_some, Option.pure_def, if_neg hS0]
      rw [← dl]; simp
    · simp only [Jvm.Cond.value, Term.eval, h11]
      simp
  · obtain ⟨n, hn, hg⟩ := List.mem_flatMap.mp hg
    have hx : ∃ x : Int32, A[n]? = some (.int x) ∧ 0 ≤ x.toInt ∧ x.toInt < S.toInt := by
      simp only [List.mem_cons, List.not_mem_nil, or_false] at hn
      rcases hn with rfl | rfl | rfl
      · exact ⟨i, h6, hi⟩
      · exact ⟨j, h7, hj⟩
      · exact ⟨l, h8, hl⟩
    obtain ⟨x, hx, x0, x1⟩ := hx
    have ex : (Term.arg n).eval A s none [] s = some (.int x) := hx
    have ea : (Term.op2 .iand (.arg n) (.int (c - 1))).eval A s none [] s = some (.int (x &&& (c - 1))) := by
      simp only [Term.eval, hx, Binary.apply, Option.bind_eq_bind, Option.bind_some]
    obtain ⟨s1, s2⟩ := own_slot hc x
    have s3 := Int.emod_nonneg x.toInt (show c.toInt ≠ 0 by omega)
    have s4 := Int.emod_lt_of_pos x.toInt s2
    simp only [List.mem_cons, List.not_mem_nil, or_false] at hg
    rcases hg with rfl | rfl | rfl | rfl <;> refine ⟨_, List.mem_singleton.mpr rfl, ?_⟩
    · exact own_ltv em ex (by omega)
    · exact own_ltv ex e5 (by omega)
    · exact own_ltv em ea (by omega)
    · exact own_ltv ea (show (Term.int c).eval A s none [] s = some (.int c) from rfl) (by omega)
theorem own_ent_ok (a2 : A[2]? = some (.int p2)) (a3 : A[3]? = some (.int p3)) (h5 : A[5]? = some (.int S)) (h6 : A[6]? = some (.int i)) (h7 : A[7]? = some (.int j)) (h9 : A[9]? = some (.int k1)) (h10 : A[10]? = some (.int k2)) (hS0 : S ≠ 0)
    (dj : j = if p3 &&& 3 = 0 then i else if p3 &&& 3 = 1 then (i + 512 * (1 + ((p2.toUInt32 >>> ((2 : Int32) &&& 31).toUInt32).toInt32 &&& 3))) % S else (p2 &&& 2147483647) % S)
    (dk1 : k1 = if (p3.toUInt32 >>> ((2 : Int32) &&& 31).toUInt32).toInt32 &&& 1 = 0 then 0 else 1) (dk2 : k2 = if (p3.toUInt32 >>> ((3 : Int32) &&& 31).toUInt32).toInt32 &&& 1 = 0 then 0 else 1)
    (q : Mini.Path × List Jvm.Cond) (hq : q ∈ own_ents) (hp : Mini.Holds A s q.1) : ∃ G ∈ q.2, G.value A s none s [] = some true := by
  simp only [own_ents, List.mem_cons, List.not_mem_nil, or_false] at hq
  rcases hq with rfl | rfl | rfl | rfl | rfl | rfl | rfl
  all_goals
    simp only [Mini.Holds, List.mem_cons, List.not_mem_nil, or_false, forall_eq_or_imp, forall_eq, Jvm.Cond.value, Term.eval, Binary.apply, a2, a3, h5, h6, h7, h9, h10, Option.bind_eq_bind, Option.bind_some, Option.pure_def, Option.some.injEq, decide_eq_true_eq, decide_eq_false_iff_not] at hp
    refine ⟨_, List.mem_singleton.mpr rfl, ?_⟩
    simp only [Jvm.Cond.value, Term.eval, Binary.apply, a2, a3, h5, h6, h7, h9, h10, Option.bind_eq_bind, Option.bind_some, Option.pure_def, Option.some.injEq, decide_eq_true_eq, if_neg hS0]
  · rw [dj, if_neg hp.2, if_neg hp.1]
  · rw [dj, if_neg hp.2, if_pos hp.1]
  · rw [dj, if_pos hp]
  · rw [dk1, if_pos hp]
  · rw [dk1, if_neg hp]
  · rw [dk2, if_pos hp]
  · rw [dk2, if_neg hp]
theorem own_cap_ok (h5 : A[5]? = some (.int S)) (h11 : A[11]? = some (.int (own_capf S))) (hS : 1 ≤ S.toInt ∧ S.toInt ≤ 2048) (q : Mini.Path × List Jvm.Cond) (hq : q ∈ own_capL) (hp : Mini.Holds A s q.1) : ∃ G ∈ q.2, G.value A s none s [] = some true := by
  have hv : S = Int32.ofNat ((S.toInt.toNat - 1) + 1) := by
    have e : (Int32.ofNat ((S.toInt.toNat - 1) + 1)).toInt = (((S.toInt.toNat - 1) + 1 : Nat) : Int) := Int32.toInt_ofNat_of_lt (by omega)
    apply Int32.toInt_inj.1
    rw [e]; omega
  have h := List.all_eq_true.mp (List.all_eq_true.mp own_caps (S.toInt.toNat - 1) (List.mem_range.mpr (by omega))) q hq
  rw [← hv] at h
  obtain ⟨π, gs⟩ := q
  unfold own_capOk at h
  dsimp only at h hp ⊢
  split at h
  · rename_i t
    rcases Bool.or_eq_true_iff.mp h with h | h
    · exfalso
      obtain ⟨f, hf, ho⟩ := List.any_eq_true.mp h
      split at ho
      · rename_i b hb
        have := own_evC_ok (s := s) h5 _ _ hb
        rw [hp f (List.mem_reverse.mp hf)] at this
        have := Option.some.inj this
        rw [this] at ho
        simp at ho
      · cases ho
    · have e := own_evV_ok (s := s) h5 _ _ (of_decide_eq_true h)
      refine ⟨_, List.mem_singleton.mpr rfl, ?_⟩
      have e11 : (Term.arg 11).eval A s none [] s = some (.int (own_capf S)) := h11
      rw [own_eqv e e11]; simp
  · cases h
theorem own_core (a0 : A[0]? = some (.int p0)) (a1 : A[1]? = some (.int p1)) (a2 : A[2]? = some (.int p2)) (a3 : A[3]? = some (.int p3)) (a4 : A[4]? = some (.int p4)) (h5 : A[5]? = some (.int S)) (h6 : A[6]? = some (.int i)) (h7 : A[7]? = some (.int j)) (h8 : A[8]? = some (.int l)) (h9 : A[9]? = some (.int k1)) (h10 : A[10]? = some (.int k2)) (h11 : A[11]? = some (.int c))
    (dS : S = 1 + (p0 &&& 2047)) (di : i = (p1 &&& 2147483647) % S) (dl : l = (p4 &&& 2147483647) % S)
    (dj : j = if p3 &&& 3 = 0 then i else if p3 &&& 3 = 1 then (i + 512 * (1 + ((p2.toUInt32 >>> ((2 : Int32) &&& 31).toUInt32).toInt32 &&& 3))) % S else (p2 &&& 2147483647) % S)
    (dk1 : k1 = if (p3.toUInt32 >>> ((2 : Int32) &&& 31).toUInt32).toInt32 &&& 1 = 0 then 0 else 1) (dk2 : k2 = if (p3.toUInt32 >>> ((3 : Int32) &&& 31).toUInt32).toInt32 &&& 1 = 0 then 0 else 1) (dc : own_capf S = c)
    {ans : Mini.Ans} (hal : ans.all (own_good c) = true) : Mini.Sat A s ans := by
  have hS := own_S dS
  have hS0 : S ≠ 0 := fun q => by have z0 : (0 : Int32).toInt = 0 := rfl; rw [q] at hS; omega
  have hi : 0 ≤ i.toInt ∧ i.toInt < S.toInt := by rw [di]; exact own_rm (Mini.mask_pos p1).1 hS.1
  have hl : 0 ≤ l.toInt ∧ l.toInt < S.toInt := by rw [dl]; exact own_rm (Mini.mask_pos p4).1 hS.1
  have hj : 0 ≤ j.toInt ∧ j.toInt < S.toInt := by
    by_cases q0 : p3 &&& 3 = 0
    · rw [if_pos q0] at dj; rw [dj]; exact hi
    · rw [if_neg q0] at dj
      by_cases q1 : p3 &&& 3 = 1
      · rw [if_pos q1] at dj; rw [dj]; exact own_rm (own_j2 (S := S) hi.1 (by omega)) hS.1
      · rw [if_neg q1] at dj; rw [dj]; exact own_rm (Mini.mask_pos p2).1 hS.1
  obtain ⟨hc, hs, hb⟩ := own_cf S
  rw [dc] at hc hs hb
  intro q hq hp
  have h := List.all_eq_true.mp hal q hq
  obtain ⟨π, gs⟩ := q
  unfold own_good at h
  dsimp only at h hp ⊢
  split at h
  · exact (own_refuted h5 h6 h7 h8 h9 h10 h11 hc hS.1 hi hj hl hs hb h hp).elim
  · rcases Bool.or_eq_true_iff.mp h with h | h
    · rcases Bool.or_eq_true_iff.mp h with h | h
      · obtain ⟨g, hg, e⟩ := List.any_eq_true.mp h
        have e := of_decide_eq_true e
        rw [e]
        exact own_goal_ok a0 a1 a4 h5 h6 h7 h8 h11 dS di dl hc hi hj hl g hg
      · obtain ⟨e', he, e⟩ := List.any_eq_true.mp h
        have e := of_decide_eq_true e
        have := own_ent_ok (s := s) a2 a3 h5 h6 h7 h9 h10 hS0 dj dk1 dk2 e' he (by rw [← e]; exact hp)
        rw [← e] at this; exact this
    · obtain ⟨e', he, e⟩ := List.any_eq_true.mp h
      have e := of_decide_eq_true e
      have := own_cap_ok (s := s) h5 (by rw [dc]; exact h11) hS e' he (by rw [← e]; exact hp)
      rw [← e] at this; exact this
end
set_option maxRecDepth 65536 in
theorem own_al2 : (own_ans [2]).all (own_good 2) = true := by decide +kernel
set_option maxRecDepth 65536 in
theorem own_al4 : (own_ans [4]).all (own_good 4) = true := by decide +kernel
set_option maxRecDepth 65536 in
theorem own_al8 : (own_ans [8]).all (own_good 8) = true := by decide +kernel
set_option maxRecDepth 65536 in
theorem own_al16 : (own_ans [16]).all (own_good 16) = true := by decide +kernel
set_option maxRecDepth 65536 in
theorem own_al32 : (own_ans [32]).all (own_good 32) = true := by decide +kernel
set_option maxRecDepth 65536 in
theorem own_al64 : (own_ans [64]).all (own_good 64) = true := by decide +kernel
set_option maxRecDepth 65536 in
theorem own_al128 : (own_ans [128]).all (own_good 128) = true := by decide +kernel
set_option maxRecDepth 65536 in
theorem own_al256 : (own_ans [256]).all (own_good 256) = true := by decide +kernel
set_option maxRecDepth 65536 in
theorem own_al512 : (own_ans [512]).all (own_good 512) = true := by decide +kernel
theorem own_sat (p0 p1 p2 p3 p4 : Int32) (s : State) : ∃ (z : List Int) (os : List Value), os.length = 7 ∧ Mini.Sat (Mini.envA ([.int p0, .int p1, .int p2, .int p3, .int p4] ++ os) s.heap.size 24) s (own_ans z) := by
  obtain ⟨S, dS⟩ : ∃ x : Int32, x = 1 + (p0 &&& 2047) := ⟨_, rfl⟩
  obtain ⟨i, di⟩ : ∃ x : Int32, x = (p1 &&& 2147483647) % S := ⟨_, rfl⟩
  obtain ⟨l, dl⟩ : ∃ x : Int32, x = (p4 &&& 2147483647) % S := ⟨_, rfl⟩
  obtain ⟨j, dj⟩ : ∃ x : Int32, x = if p3 &&& 3 = 0 then i else if p3 &&& 3 = 1 then (i + 512 * (1 + ((p2.toUInt32 >>> ((2 : Int32) &&& 31).toUInt32).toInt32 &&& 3))) % S else (p2 &&& 2147483647) % S := ⟨_, rfl⟩
  obtain ⟨k1, dk1⟩ : ∃ x : Int32, x = if (p3.toUInt32 >>> ((2 : Int32) &&& 31).toUInt32).toInt32 &&& 1 = 0 then 0 else 1 := ⟨_, rfl⟩
  obtain ⟨k2, dk2⟩ : ∃ x : Int32, x = if (p3.toUInt32 >>> ((3 : Int32) &&& 31).toUInt32).toInt32 &&& 1 = 0 then 0 else 1 := ⟨_, rfl⟩
  have fin : ∀ (c : Int32) (z : List Int), own_capf S = c → (own_ans z).all (own_good c) = true → ∃ (z : List Int) (os : List Value), os.length = 7 ∧ Mini.Sat (Mini.envA ([.int p0, .int p1, .int p2, .int p3, .int p4] ++ os) s.heap.size 24) s (own_ans z) := fun c z dc hal =>
    ⟨z, [.int S, .int i, .int j, .int l, .int k1, .int k2, .int c], rfl, own_core (Mini.envA_arg rfl) (Mini.envA_arg rfl) (Mini.envA_arg rfl) (Mini.envA_arg rfl) (Mini.envA_arg rfl) (Mini.envA_arg rfl) (Mini.envA_arg rfl) (Mini.envA_arg rfl) (Mini.envA_arg rfl) (Mini.envA_arg rfl) (Mini.envA_arg rfl) (Mini.envA_arg rfl) dS di dl dj dk1 dk2 dc hal⟩
  rcases (own_cf S).1 with h | h | h | h | h | h | h | h | h
  · exact fin _ _ h own_al2
  · exact fin _ _ h own_al4
  · exact fin _ _ h own_al8
  · exact fin _ _ h own_al16
  · exact fin _ _ h own_al32
  · exact fin _ _ h own_al64
  · exact fin _ _ h own_al128
  · exact fin _ _ h own_al256
  · exact fin _ _ h own_al512
set_option maxRecDepth 65536 in
theorem comes_1 {Post : Tables → Env → Array Value → State → Outcome → State → Prop} (hpost : ∀ tb e args s v u, (limb_1_1.after args s (.returned v) u = true ∧ limb_1_2.after args s (.returned v) u = true ∧ True) → FrameEnd s (.returned v) u (Jvm.fieldLocs frame_1_writes args s ++ Jvm.arrayLocs frame_1_arrays args s ++ Jvm.staticLocs frame_1_statics s) 24 6272 → Post tb e args s (.returned v) u) :
    ArmFor flags0 classFile x code maxLocals ret World_1 tables_1 room_1 Calls_1 rest_1 Pre_1 Post := by
  intro l hfl _ _ p e ha hc hk s m args below hf hA hF happ hP
  obtain ⟨hcalls, hrest, hpre⟩ := hP
  obtain ⟨-, -, -, hnamed, -, -, -, hat⟩ := (Spec.applies_iff hf).mp happ
  obtain ⟨hg, hn⟩ := and_e (Cond.before_iff.mp (show (Jvm.Cond.and given_1 narrow_1).before args s = true from hpre))
  obtain ⟨h1, g0⟩ := and_e hg
  obtain ⟨w0, w1, w2, w3, w4, rfl⟩ : ∃ w0 w1 w2 w3 w4 : Value, args = #[w0, w1, w2, w3, w4] := by
    have hs : args.size = 5 := by simpa [Cond.value, given_1] using h1
    obtain ⟨L⟩ := args
    match L, hs with
    | [w0, w1, w2, w3, w4], _ => exact ⟨w0, w1, w2, w3, w4, rfl⟩
  have hw := fun d (hd : d ∈ tables_1) => atoms_spec (ws := Jvm.Cond.code x code maxLocals ret :: tables_1) hat d (List.mem_cons_of_mem _ hd)
  obtain ⟨c0, g1⟩ := and_e g0
  obtain ⟨i0, e0⟩ := is_v c0
  obtain rfl : w0 = (.int i0) := Option.some.inj e0
  obtain ⟨c1, g2⟩ := and_e g1
  obtain ⟨i1, e1⟩ := is_v c1
  obtain rfl : w1 = (.int i1) := Option.some.inj e1
  obtain ⟨c2, g3⟩ := and_e g2
  obtain ⟨i2, e2⟩ := is_v c2
  obtain rfl : w2 = (.int i2) := Option.some.inj e2
  obtain ⟨c3, g4⟩ := and_e g3
  obtain ⟨i3, e3⟩ := is_v c3
  obtain rfl : w3 = (.int i3) := Option.some.inj e3
  obtain ⟨i4, e4⟩ := is_v g4
  obtain rfl : w4 = (.int i4) := Option.some.inj e4
  obtain ⟨z, os, hos, hsat⟩ := own_sat i0 i1 i2 i3 i4 s
  obtain ⟨n, o, h1, h2, h3, L, rfl, N, hq⟩ := Mini.law_sound (A := Mini.envA ([.int i0, .int i1, .int i2, .int i3, .int i4] ++ os) s.heap.size 24) (Z := s) (K := 12) (N := 24) (M := own_M0) (R := room_1) (vs := [.int i0, .int i1, .int i2, .int i3, .int i4]) l (own_ok z) hw (Mini.envA_ref (by rw [List.length_append, hos]; rfl)) rfl own_plain rfl hsat (show Jvm.Sym.DenStack _ _ own_as _ from ⟨Mini.arg_den rfl rfl, Mini.arg_den rfl rfl, Mini.arg_den rfl rfl, Mini.arg_den rfl rfl, Mini.arg_den rfl rfl, trivial⟩) tables_1 p e ha hc hk s m _ below hf ((Spec.applies_iff_loose hf).mp happ).1 ⟨rfl, State.Warmed39.refl s, rfl⟩ trivial
  refine ⟨n, _, h1, h2, h3, hpost _ _ _ _ _ _ ⟨Cond.after_iff.mpr rfl, Cond.after_iff.mpr (eq_i res_at (Term.int_eval (1)) rfl), trivial⟩ ⟨hq.1, hq.2.1, (hq.2.2.sift fun y hy => Or.inr (N y hy)).mono (by decide) (by decide)⟩⟩
theorem main_1_1 : Claimed_1_1 := comes_1 fun _ _ _ _ _ _ h hF => ⟨h.1, hF⟩
theorem main_1_2 : Claimed_1_2 := comes_1 fun _ _ _ _ _ _ h hF => ⟨h.2.1, hF⟩
end Jvm.Pilot.@@N@@
namespace Jvm.Pilot.@@N@@
open Jvm Jvm.ClassFile Sem Op Lib Jvm.Free Jvm.Stand Jvm.Pilot.@@N@@.Jvm.D
/-! MADE BY PROGRAM (witnessworld.py) out of the Statement's table words and the real class files: 17 classes; the members and pool entries that the words name. The judged class is class 1, her method 1. -/
namespace start1
open Jvm.ClassFile
def u (s : String) : CpInfo := .utf8 (stringToUtf16 s)
/-- a pool by its gaps: so many unusable entries, then the entry; so many at the end -/
def gap : Nat → List CpInfo → List CpInfo
  | 0, r => r
  | n + 1, r => .unusable :: gap n r
def poolList (es : List (Nat × CpInfo)) (last : Nat) : List CpInfo := es.foldr (fun e r => gap e.1 (e.2 :: r)) (gap last [])
def pool (es : List (Nat × CpInfo)) (last : Nat) : Array CpInfo := ⟨poolList es last⟩
def fileOf (pool : Array CpInfo) (this : Nat) (attrs : Array Attribute := #[]) (ms : Array MethodInfo := #[]) (fl : Nat := 33) (sup : Nat := 0) (ifs : Array Nat := #[]) (fds : Array FieldInfo := #[]) : ClassFile where
  minorVersion := 0
  majorVersion := 65
  constantPool := pool
  accessFlags := fl
  thisClass := this
  superClass := sup
  interfaces := ifs
  fields := fds
  methods := ms
  attributes := attrs
def plain (name : String) (sup : Option ClassId) : Class where
  name := name
  kind := .ordinary
  loader := none
  accessFlags := 33
  super := sup
  interfaces := #[]
  cf := none
  fields := #[]
  methods := #[]
  instanceTypes := #[]
  staticTypes := #[]
  resolved := #[]
  callSites := []
  init := .initialized
  statics := none
  mirror := none

def pool0 : Array CpInfo := pool [(5, u "<init>"), (0, u "()V"), (1, .class_ 10), (1, u "java/lang/Object")] 113

def k0c0 : Code := { maxStack := 0, maxLocals := 1, code := object_method_1_code, exceptionTable := #[], attributes := #[] }
def k0m0 : Method := { name := "<init>", desc := "()V", sig := { parameters := [], returnType := none }, accessFlags := 1, code := some k0c0 }
/-- java/lang/Object -/
def k0 : Class := { plain "java/lang/Object" none with
  accessFlags := 33
  interfaces := #[]
  cf := some (fileOf pool0 8 #[] #[{ accessFlags := 1, nameIndex := 5, descriptorIndex := 6, attributes := #[] }] 33 0 #[] #[])
  fields := #[]
  methods := #[k0m0]
  instanceTypes := #[]
  staticTypes := #[]
  resolved := Array.replicate 124 none
  statics := none }

def pool1 : Array CpInfo := pool [(2, .class_ 4), (1, u "java/lang/Object"), (0, u "<init>"), (0, u "()V"), (0, .integer 2147483647), (0, .class_ 9), (0, u "com/example/hrisey/hrisey/core/ResolvedEntries"), (0, .methodref 8 11), (0, .nameAndType 5 12), (0, u "(I)V"), (0, .methodref 8 14), (0, .nameAndType 15 16), (0, u "put"), (0, u "(ILjava/lang/Object;Z)V"), (0, .methodref 8 18), (0, .nameAndType 19 20), (0, u "get"), (0, u "(I)Ljava/lang/Object;"), (0, .methodref 22 23), (0, .class_ 24), (0, .nameAndType 25 26), (0, u "com/example/hrisey/hrisey/core/ResolvedEntriesPutPinLaw"), (0, u "expectedI"), (0, u "(IIIZLjava/lang/Object;Ljava/lang/Object;)Ljava/lang/Object;"), (2, u "law"), (0, u "(IIIII)Z")] 5

def k1m0 : Method := { name := "<init>", desc := "()V", sig := { parameters := [], returnType := none }, accessFlags := 1, code := none }
def k1c1 : Code := { maxStack := 6, maxLocals := 20, code := code, exceptionTable := #[], attributes := #[] }
def k1m1 : Method := { name := "law", desc := "(IIIII)Z", sig := { parameters := [.int, .int, .int, .int, .int], returnType := some .boolean }, accessFlags := 9, code := some k1c1 }
def k1c2 : Code := { maxStack := 2, maxLocals := 7, code := method_3_code, exceptionTable := #[], attributes := #[] }
def k1m2 : Method := { name := "expectedI", desc := "(IIIZLjava/lang/Object;Ljava/lang/Object;)Ljava/lang/Object;", sig := { parameters := [.int, .int, .int, .boolean, (.object "java/lang/Object"), (.object "java/lang/Object")], returnType := some (.object "java/lang/Object") }, accessFlags := 10, code := some k1c2 }
/-- com/example/hrisey/hrisey/core/ResolvedEntriesPutPinLaw -/
def k1 : Class := { plain "com/example/hrisey/hrisey/core/ResolvedEntriesPutPinLaw" (some 0) with
  accessFlags := 49
  interfaces := #[]
  cf := some (fileOf pool1 22 #[] #[{ accessFlags := 1, nameIndex := 5, descriptorIndex := 6, attributes := #[] }, { accessFlags := 9, nameIndex := 29, descriptorIndex := 30, attributes := #[] }, { accessFlags := 10, nameIndex := 25, descriptorIndex := 26, attributes := #[] }] 49 2 #[] #[])
  fields := #[]
  methods := #[k1m0, k1m1, k1m2]
  instanceTypes := #[]
  staticTypes := #[]
  resolved := Array.replicate 36 none
  statics := none }

def pool2 : Array CpInfo := pool [(1, .methodref 2 3), (0, .class_ 4), (0, .nameAndType 5 6), (0, u "java/lang/Object"), (0, u "<init>"), (0, u "()V"), (0, .fieldref 8 9), (0, .class_ 10), (0, .nameAndType 11 12), (0, u "com/example/hrisey/hrisey/core/ResolvedEntries"), (0, u "size"), (0, u "I"), (0, .methodref 14 15), (0, .class_ 16), (0, .nameAndType 17 18), (0, u "java/lang/Math"), (0, u "max"), (0, u "(II)I"), (0, .methodref 20 21), (0, .class_ 22), (0, .nameAndType 23 24), (0, u "java/lang/Integer"), (0, u "highestOneBit"), (0, u "(I)I"), (0, .methodref 14 26), (0, .nameAndType 27 18), (0, u "min"), (0, .fieldref 8 29), (0, .nameAndType 30 31), (0, u "recent"), (0, u "[Ljava/lang/Object;"), (0, .fieldref 8 33), (0, .nameAndType 34 35), (0, u "recentIndexes"), (0, u "[I"), (0, .methodref 37 38), (0, .class_ 39), (0, .nameAndType 40 41), (0, u "java/util/Arrays"), (0, u "fill"), (0, u "([II)V"), (0, .fieldref 8 43), (0, .nameAndType 44 31), (0, u "kept"), (0, u "RECENT"), (2, u "(I)V"), (3, u "get"), (0, u "(I)Ljava/lang/Object;"), (1, u "put"), (0, u "(ILjava/lang/Object;Z)V")] 2

def k2c0 : Code := { maxStack := 4, maxLocals := 3, code := prog_131_method_1_code, exceptionTable := #[], attributes := #[] }
def k2m0 : Method := { name := "<init>", desc := "(I)V", sig := { parameters := [.int], returnType := none }, accessFlags := 0, code := some k2c0 }
def k2c1 : Code := { maxStack := 3, maxLocals := 4, code := prog_131_method_3_code, exceptionTable := #[], attributes := #[] }
def k2m1 : Method := { name := "get", desc := "(I)Ljava/lang/Object;", sig := { parameters := [.int], returnType := some (.object "java/lang/Object") }, accessFlags := 0, code := some k2c1 }
def k2c2 : Code := { maxStack := 3, maxLocals := 5, code := prog_131_method_4_code, exceptionTable := #[], attributes := #[] }
def k2m2 : Method := { name := "put", desc := "(ILjava/lang/Object;Z)V", sig := { parameters := [.int, (.object "java/lang/Object"), .boolean], returnType := none }, accessFlags := 0, code := some k2c2 }
/-- com/example/hrisey/hrisey/core/ResolvedEntries -/
def k2 : Class := { plain "com/example/hrisey/hrisey/core/ResolvedEntries" (some 0) with
  accessFlags := 48
  interfaces := #[]
  cf := some (fileOf pool2 8 #[] #[{ accessFlags := 0, nameIndex := 5, descriptorIndex := 48, attributes := #[] }, { accessFlags := 0, nameIndex := 52, descriptorIndex := 53, attributes := #[] }, { accessFlags := 0, nameIndex := 55, descriptorIndex := 56, attributes := #[] }] 48 2 #[] #[{ accessFlags := 26, nameIndex := 45, descriptorIndex := 12, attributes := #[] }, { accessFlags := 18, nameIndex := 11, descriptorIndex := 12, attributes := #[] }, { accessFlags := 18, nameIndex := 30, descriptorIndex := 31, attributes := #[] }, { accessFlags := 18, nameIndex := 34, descriptorIndex := 35, attributes := #[] }, { accessFlags := 2, nameIndex := 44, descriptorIndex := 31, attributes := #[] }])
  fields := #[{ name := "RECENT", type := .int, accessFlags := 26, slot := 0, constantValue := 0 }, { name := "size", type := .int, accessFlags := 18, slot := 0, constantValue := 0 }, { name := "recent", type := (.array (.object "java/lang/Object")), accessFlags := 18, slot := 1, constantValue := 0 }, { name := "recentIndexes", type := (.array .int), accessFlags := 18, slot := 2, constantValue := 0 }, { name := "kept", type := (.array (.object "java/lang/Object")), accessFlags := 2, slot := 3, constantValue := 0 }]
  methods := #[k2m0, k2m1, k2m2]
  instanceTypes := #[.int, (.array (.object "java/lang/Object")), (.array .int), (.array (.object "java/lang/Object"))]
  staticTypes := #[.int]
  resolved := Array.replicate 59 none
  statics := none }

def pool3 : Array CpInfo := pool [(1, .class_ 2), (0, u "java/lang/Math"), (1, .class_ 6), (1, u "java/lang/Object"), (0, u "<init>"), (0, u "()V"), (89, .class_ 100), (1, u "java/lang/Math$RandomNumberGeneratorHolder"), (71, u "negativeZeroFloatBits"), (0, u "J"), (2, u "negativeZeroDoubleBits"), (21, u "max"), (2, u "min"), (43, u "$assertionsDisabled"), (0, u "Z"), (88, u "(II)I"), (2, u "twoToTheDoubleScaleDown"), (0, u "D"), (4, u "twoToTheDoubleScaleUp"), (9, u "E"), (3, u "PI"), (2, u "TAU"), (2, u "DEGREES_TO_RADIANS"), (0, u "RADIANS_TO_DEGREES")] 94

def k3m0 : Method := { name := "<init>", desc := "()V", sig := { parameters := [], returnType := none }, accessFlags := 2, code := none }
def k3c1 : Code := { maxStack := 2, maxLocals := 2, code := jdk_29_method_65_code, exceptionTable := #[], attributes := #[] }
def k3m1 : Method := { name := "max", desc := "(II)I", sig := { parameters := [.int, .int], returnType := some .int }, accessFlags := 9, code := some k3c1 }
def k3c2 : Code := { maxStack := 2, maxLocals := 2, code := jdk_29_method_69_code, exceptionTable := #[], attributes := #[] }
def k3m2 : Method := { name := "min", desc := "(II)I", sig := { parameters := [.int, .int], returnType := some .int }, accessFlags := 9, code := some k3c2 }
/-- java/lang/Math -/
def k3 : Class := { plain "java/lang/Math" (some 0) with
  accessFlags := 49
  interfaces := #[]
  cf := some (fileOf pool3 1 #[.nestMembers #[98]] #[{ accessFlags := 2, nameIndex := 7, descriptorIndex := 8, attributes := #[] }, { accessFlags := 9, nameIndex := 198, descriptorIndex := 335, attributes := #[] }, { accessFlags := 9, nameIndex := 201, descriptorIndex := 335, attributes := #[] }] 49 4 #[] #[{ accessFlags := 25, nameIndex := 354, descriptorIndex := 339, attributes := #[] }, { accessFlags := 25, nameIndex := 358, descriptorIndex := 339, attributes := #[] }, { accessFlags := 25, nameIndex := 361, descriptorIndex := 339, attributes := #[] }, { accessFlags := 26, nameIndex := 364, descriptorIndex := 339, attributes := #[] }, { accessFlags := 26, nameIndex := 365, descriptorIndex := 339, attributes := #[] }, { accessFlags := 26, nameIndex := 172, descriptorIndex := 173, attributes := #[] }, { accessFlags := 26, nameIndex := 176, descriptorIndex := 173, attributes := #[] }, { accessFlags := 8, nameIndex := 344, descriptorIndex := 339, attributes := #[] }, { accessFlags := 8, nameIndex := 338, descriptorIndex := 339, attributes := #[] }, { accessFlags := 4120, nameIndex := 245, descriptorIndex := 246, attributes := #[] }])
  fields := #[{ name := "E", type := .double, accessFlags := 25, slot := 0, constantValue := 0 }, { name := "PI", type := .double, accessFlags := 25, slot := 1, constantValue := 0 }, { name := "TAU", type := .double, accessFlags := 25, slot := 2, constantValue := 0 }, { name := "DEGREES_TO_RADIANS", type := .double, accessFlags := 26, slot := 3, constantValue := 0 }, { name := "RADIANS_TO_DEGREES", type := .double, accessFlags := 26, slot := 4, constantValue := 0 }, { name := "negativeZeroFloatBits", type := .long, accessFlags := 26, slot := 5, constantValue := 0 }, { name := "negativeZeroDoubleBits", type := .long, accessFlags := 26, slot := 6, constantValue := 0 }, { name := "twoToTheDoubleScaleUp", type := .double, accessFlags := 8, slot := 7, constantValue := 0 }, { name := "twoToTheDoubleScaleDown", type := .double, accessFlags := 8, slot := 8, constantValue := 0 }, { name := "$assertionsDisabled", type := .boolean, accessFlags := 4120, slot := 9, constantValue := 0 }]
  methods := #[k3m0, k3m1, k3m2]
  instanceTypes := #[]
  staticTypes := #[.double, .double, .double, .double, .double, .long, .long, .double, .double, .boolean]
  resolved := Array.replicate 460 none
  statics := none }

def pool4 : Array CpInfo := pool [(1, .class_ 2), (0, u "java/io/Serializable"), (0, .class_ 4), (0, u "java/lang/Object")] 2

/-- java/io/Serializable -/
def k4 : Class := { plain "java/io/Serializable" (some 0) with
  accessFlags := 1537
  interfaces := #[]
  cf := some (fileOf pool4 1 #[] #[] 1537 3 #[] #[])
  fields := #[]
  methods := #[]
  instanceTypes := #[]
  staticTypes := #[]
  resolved := Array.replicate 7 none
  statics := none }

def pool5 : Array CpInfo := pool [(2, .class_ 4), (1, u "java/lang/Object"), (0, u "<init>"), (0, u "()V"), (1, .class_ 10), (1, u "java/lang/Number"), (2, .class_ 14), (0, u "java/io/Serializable"), (0, u "serialVersionUID"), (0, u "J")] 20

def k5m0 : Method := { name := "<init>", desc := "()V", sig := { parameters := [], returnType := none }, accessFlags := 1, code := none }
/-- java/lang/Number -/
def k5 : Class := { plain "java/lang/Number" (some 0) with
  accessFlags := 1057
  interfaces := #[4]
  cf := some (fileOf pool5 8 #[] #[{ accessFlags := 1, nameIndex := 5, descriptorIndex := 6, attributes := #[] }] 1057 2 #[13] #[{ accessFlags := 26, nameIndex := 15, descriptorIndex := 16, attributes := #[] }])
  fields := #[{ name := "serialVersionUID", type := .long, accessFlags := 26, slot := 0, constantValue := 0 }]
  methods := #[k5m0]
  instanceTypes := #[]
  staticTypes := #[.long]
  resolved := Array.replicate 37 none
  statics := none }

def pool6 : Array CpInfo := pool [(1, .class_ 2), (0, u "java/lang/Comparable"), (0, .class_ 4), (0, u "java/lang/Object")] 7

/-- java/lang/Comparable -/
def k6 : Class := { plain "java/lang/Comparable" (some 0) with
  accessFlags := 1537
  interfaces := #[]
  cf := some (fileOf pool6 1 #[] #[] 1537 3 #[] #[])
  fields := #[]
  methods := #[]
  instanceTypes := #[]
  staticTypes := #[]
  resolved := Array.replicate 12 none
  statics := none }

def pool7 : Array CpInfo := pool [(1, .class_ 2), (0, u "java/lang/constant/Constable"), (0, .class_ 4), (0, u "java/lang/Object")] 6

/-- java/lang/constant/Constable -/
def k7 : Class := { plain "java/lang/constant/Constable" (some 0) with
  accessFlags := 1537
  interfaces := #[]
  cf := some (fileOf pool7 1 #[] #[] 1537 3 #[] #[])
  fields := #[]
  methods := #[]
  instanceTypes := #[]
  staticTypes := #[]
  resolved := Array.replicate 11 none
  statics := none }

def pool8 : Array CpInfo := pool [(1, .class_ 2), (0, u "java/lang/constant/ConstantDesc"), (0, .class_ 4), (0, u "java/lang/Object")] 32

/-- java/lang/constant/ConstantDesc -/
def k8 : Class := { plain "java/lang/constant/ConstantDesc" (some 0) with
  accessFlags := 1537
  interfaces := #[]
  cf := some (fileOf pool8 1 #[] #[] 1537 3 #[] #[])
  fields := #[]
  methods := #[]
  instanceTypes := #[]
  staticTypes := #[]
  resolved := Array.replicate 37 none
  statics := none }

def pool9 : Array CpInfo := pool [(1, .class_ 2), (0, u "java/lang/Integer"), (16, u "digits"), (0, u "[C"), (30, .methodref 1 52), (0, .nameAndType 53 54), (0, u "numberOfLeadingZeros"), (0, u "(I)I"), (30, u "DigitOnes"), (0, u "[B"), (2, u "DigitTens"), (37, .integer 2147483648), (61, .class_ 190), (0, u "java/lang/Integer$IntegerCache"), (3, u "I"), (8, .class_ 204), (0, u "java/lang/Number"), (2, u "value"), (56, .integer 65536), (37, u "TYPE"), (0, u "Ljava/lang/Class;"), (0, .class_ 305), (0, u "java/lang/Comparable"), (0, .class_ 307), (0, u "java/lang/constant/Constable"), (0, .class_ 309), (0, u "java/lang/constant/ConstantDesc"), (0, u "MIN_VALUE"), (1, u "MAX_VALUE"), (3, u "SIZE"), (1, u "BYTES"), (1, u "serialVersionUID"), (0, u "J"), (81, u "highestOneBit")] 49

def k9c0 : Code := { maxStack := 3, maxLocals := 1, code := jdk_33_method_45_code, exceptionTable := #[], attributes := #[] }
def k9m0 : Method := { name := "highestOneBit", desc := "(I)I", sig := { parameters := [.int], returnType := some .int }, accessFlags := 9, code := some k9c0 }
def k9c1 : Code := { maxStack := 3, maxLocals := 2, code := jdk_33_method_47_code, exceptionTable := #[], attributes := #[] }
def k9m1 : Method := { name := "numberOfLeadingZeros", desc := "(I)I", sig := { parameters := [.int], returnType := some .int }, accessFlags := 9, code := some k9c1 }
/-- java/lang/Integer -/
def k9 : Class := { plain "java/lang/Integer" (some 5) with
  accessFlags := 49
  interfaces := #[6, 7, 8]
  cf := some (fileOf pool9 1 #[.nestMembers #[189]] #[{ accessFlags := 9, nameIndex := 403, descriptorIndex := 54, attributes := #[] }, { accessFlags := 9, nameIndex := 53, descriptorIndex := 54, attributes := #[] }] 49 203 #[304, 306, 308] #[{ accessFlags := 25, nameIndex := 310, descriptorIndex := 194, attributes := #[] }, { accessFlags := 25, nameIndex := 312, descriptorIndex := 194, attributes := #[] }, { accessFlags := 25, nameIndex := 302, descriptorIndex := 303, attributes := #[] }, { accessFlags := 24, nameIndex := 19, descriptorIndex := 20, attributes := #[] }, { accessFlags := 24, nameIndex := 89, descriptorIndex := 86, attributes := #[] }, { accessFlags := 24, nameIndex := 85, descriptorIndex := 86, attributes := #[] }, { accessFlags := 18, nameIndex := 207, descriptorIndex := 194, attributes := #[] }, { accessFlags := 25, nameIndex := 316, descriptorIndex := 194, attributes := #[] }, { accessFlags := 25, nameIndex := 318, descriptorIndex := 194, attributes := #[] }, { accessFlags := 26, nameIndex := 320, descriptorIndex := 321, attributes := #[] }])
  fields := #[{ name := "MIN_VALUE", type := .int, accessFlags := 25, slot := 0, constantValue := 0 }, { name := "MAX_VALUE", type := .int, accessFlags := 25, slot := 1, constantValue := 0 }, { name := "TYPE", type := (.object "java/lang/Class"), accessFlags := 25, slot := 2, constantValue := 0 }, { name := "digits", type := (.array .char), accessFlags := 24, slot := 3, constantValue := 0 }, { name := "DigitTens", type := (.array .byte), accessFlags := 24, slot := 4, constantValue := 0 }, { name := "DigitOnes", type := (.array .byte), accessFlags := 24, slot := 5, constantValue := 0 }, { name := "value", type := .int, accessFlags := 18, slot := 0, constantValue := 0 }, { name := "SIZE", type := .int, accessFlags := 25, slot := 6, constantValue := 0 }, { name := "BYTES", type := .int, accessFlags := 25, slot := 7, constantValue := 0 }, { name := "serialVersionUID", type := .long, accessFlags := 26, slot := 8, constantValue := 0 }]
  methods := #[k9m0, k9m1]
  instanceTypes := #[.int]
  staticTypes := #[.int, .int, (.object "java/lang/Class"), (.array .char), (.array .byte), (.array .byte), .int, .int, .long]
  resolved := Array.replicate 453 none
  statics := none }

def pool10 : Array CpInfo := pool [(2, .class_ 4), (1, u "java/lang/Object"), (0, u "<init>"), (0, u "()V"), (7, .class_ 16), (1, u "java/util/Arrays"), (57, .class_ 76), (1, u "java/util/Arrays$NaturalOrder"), (36, .class_ 115), (1, u "java/util/Arrays$LegacyMergeSort"), (1, u "Z"), (257, .class_ 376), (0, u "java/util/Arrays$ArrayList"), (68, u "$assertionsDisabled"), (269, u "MIN_ARRAY_SORT_GRAN"), (0, u "I"), (2, u "INSERTIONSORT_THRESHOLD"), (120, u "fill"), (4, u "([II)V"), (129, .class_ 976), (0, u "java/util/Arrays$ArrayItr")] 52

def k10m0 : Method := { name := "<init>", desc := "()V", sig := { parameters := [], returnType := none }, accessFlags := 2, code := none }
def k10c1 : Code := { maxStack := 3, maxLocals := 4, code := jdk_65_method_103_code, exceptionTable := #[], attributes := #[] }
def k10m1 : Method := { name := "fill", desc := "([II)V", sig := { parameters := [(.array .int), .int], returnType := none }, accessFlags := 9, code := some k10c1 }
/-- java/util/Arrays -/
def k10 : Class := { plain "java/util/Arrays" (some 0) with
  accessFlags := 49
  interfaces := #[]
  cf := some (fileOf pool10 14 #[.nestMembers #[975, 375, 113, 74]] #[{ accessFlags := 2, nameIndex := 5, descriptorIndex := 6, attributes := #[] }, { accessFlags := 9, nameIndex := 840, descriptorIndex := 845, attributes := #[] }] 49 2 #[] #[{ accessFlags := 26, nameIndex := 715, descriptorIndex := 716, attributes := #[] }, { accessFlags := 26, nameIndex := 719, descriptorIndex := 716, attributes := #[] }, { accessFlags := 4120, nameIndex := 445, descriptorIndex := 117, attributes := #[] }])
  fields := #[{ name := "MIN_ARRAY_SORT_GRAN", type := .int, accessFlags := 26, slot := 0, constantValue := 0 }, { name := "INSERTIONSORT_THRESHOLD", type := .int, accessFlags := 26, slot := 1, constantValue := 0 }, { name := "$assertionsDisabled", type := .boolean, accessFlags := 4120, slot := 2, constantValue := 0 }]
  methods := #[k10m0, k10m1]
  instanceTypes := #[]
  staticTypes := #[.int, .int, .boolean]
  resolved := Array.replicate 1029 none
  statics := none }

def pool11 : Array CpInfo := pool [(1, u "java/lang/Cloneable"), (0, .class_ 1), (0, u "java/lang/Object"), (0, .class_ 3)] 3

/-- java/lang/Cloneable -/
def k11 : Class := { plain "java/lang/Cloneable" (some 0) with
  accessFlags := 1537
  interfaces := #[]
  cf := some (fileOf pool11 2 #[] #[] 1537 4 #[] #[])
  fields := #[]
  methods := #[]
  instanceTypes := #[]
  staticTypes := #[]
  resolved := Array.replicate 8 none
  statics := none }

/-- the primitive byte -/
def k12 : Class := { plain "byte" none with kind := .primitive 'B', accessFlags := 0x411 }
/-- [B -/
def k13 : Class := { plain "[B" (some 0) with kind := .array 12 .byte, interfaces := #[11, 4], accessFlags := 1041 }

/-- the primitive int -/
def k14 : Class := { plain "int" none with kind := .primitive 'I', accessFlags := 0x411 }
/-- [I -/
def k15 : Class := { plain "[I" (some 0) with kind := .array 14 .int, interfaces := #[11, 4], accessFlags := 1041 }

/-- [Ljava/lang/Object; -/
def k16 : Class := { plain "[Ljava/lang/Object;" (some 0) with kind := .array 0 (.object "java/lang/Object"), interfaces := #[11, 4], accessFlags := 1041 }

def heap : Heap := #[]
def classes : Array Class := #[k0, k1, k2, k3, k4, k5, k6, k7, k8, k9, k10, k11, k12, k13, k14, k15, k16]
def interned : List (Array UInt16 × Addr) := []
def slotsUsed : Nat := 0
def theMethod : MethodId := ⟨1, 1⟩
def args0 : Array Value := #[.int 5, .int 7, .int 9, .int 11, .int 13]
def aboutOver (below : List Frame) : State where
  vm := { classes := classes, interned := interned.toArray }
  heap := heap
  slotsUsed := slotsUsed
  threads := #[{ frames := .invoking theMethod args0 :: below }]
def below0 : List Frame := [.native { method := ⟨0, 0⟩, args := #[] }]
def about1 : State := aboutOver below0
def p0 : Program := .bare "" "" ""
def e0 : Env := launch0.env 0 0 0
theorem w_frames : about1.frames = Frame.invoking theMethod args0 :: below0 := rfl
set_option maxRecDepth 65536 in
theorem w_args : argsFit about1.vm theMethod args0 = true := by decide +kernel
set_option maxRecDepth 65536 in
theorem w_heap : heapFits about1 = true := by decide +kernel
set_option maxRecDepth 65536 in
theorem w_runnable : about1.curStatus? = some .runnable := by decide +kernel
set_option maxRecDepth 65536 in
theorem w_alone : about1.alone = true := by decide +kernel
set_option maxRecDepth 65536 in
theorem w_named : about1.methodNamed? x = some theMethod := by decide +kernel
set_option maxRecDepth 65536 in
theorem w_hears : about1.hears theMethod below0 = true := by decide +kernel
set_option maxRecDepth 65536 in
theorem w_ripe : about1.ripe theMethod args0 below0 = true := by decide +kernel
theorem w_running : about1.status = .running := rfl
set_option maxRecDepth 65536 in
theorem w_room : about1.hasRoom e0.platform room_1 = true :=
  launch0.hasRoom_least _ room_1 (by decide +kernel) (by decide +kernel) (by decide +kernel) (by decide +kernel) (by decide +kernel) (by decide +kernel)
theorem allAtoms_all (ts : List Jvm.Cond) (a : Array Jvm.Value) (st : Jvm.State) : (allAtoms ts).before a st = ts.all (fun c => c.before a st) := by
  induction ts with
  | nil => rfl
  | cons c t ih =>
    show (Jvm.Cond.and c (allAtoms t)).before a st = _
    rw [Jvm.Cond.before_and, ih, List.all_cons]
def words1 : List Jvm.Cond := Jvm.Cond.code x code maxLocals ret :: tables_1
/-- a 'code' word, met by the world's own term for the bytes: nothing is compared byte by byte -/
theorem code_word {y : MethodName} {bytes : ByteArray} {mx : Nat} {rt : Option FieldType} {a : Array Value} {s : State} {m : MethodId} {meth : Method} {c : Code} (h1 : s.methodNamed? y = some m) (h2 : s.vm.method? m = some meth) (h3 : meth.code = some c) (h4 : c.code = bytes)
    (h5 : (c.maxLocals == mx && c.exceptionTable.isEmpty && decide (c.maxStack ≤ mostOperands) && decide (meth.sig.returnType = rt) && !meth.locks && decide (parseMethodDescriptor y.desc = some meth.sig)) = true) : (Jvm.Cond.code y bytes mx rt).before a s = true := by
  simp only [Bool.and_eq_true, beq_iff_eq, Bool.not_eq_true', decide_eq_true_eq] at h5
  obtain ⟨⟨⟨⟨⟨g1, g2⟩, g3⟩, g4⟩, g5⟩, g6⟩ := h5
  simp [Cond.before, Cond.holds, Cond.value, h1, h2, h3, h4, g1, g2, g3, g4, g5, g6]
def isCode : Jvm.Cond → Bool
  | .code _ _ _ _ => true
  | _ => false
theorem all_split {L : List Jvm.Cond} {P : Jvm.Cond → Bool} (h1 : L.all (fun c => isCode c || P c) = true) (h2 : ∀ c ∈ L.filter isCode, P c = true) : L.all P = true := by
  refine List.all_eq_true.mpr fun c hc => ?_
  have h := List.all_eq_true.mp h1 c hc
  rcases Bool.eq_false_or_eq_true (isCode c) with hi | hi
  · exact h2 c (List.mem_filter.mpr ⟨hc, hi⟩)
  · simpa [hi] using h
set_option maxRecDepth 65536 in
theorem w_c0 : (Jvm.Cond.code x code maxLocals ret).before args0 about1 = true := code_word (m := ⟨1, 1⟩) (meth := k1m1) (c := k1c1) (by decide +kernel) rfl rfl rfl (by decide +kernel)
set_option maxRecDepth 65536 in
theorem w_c1 : (Jvm.Cond.code ({ cls := "com/example/hrisey/hrisey/core/ResolvedEntries", name := "<init>", desc := "(I)V" } : Jvm.MethodName) prog_131_method_1_code (3 : Nat) (Option.none : Option Jvm.ClassFile.FieldType)).before args0 about1 = true := code_word (m := ⟨2, 0⟩) (meth := k2m0) (c := k2c0) (by decide +kernel) rfl rfl rfl (by decide +kernel)
set_option maxRecDepth 65536 in
theorem w_c2 : (Jvm.Cond.code ({ cls := "java/lang/Object", name := "<init>", desc := "()V" } : Jvm.MethodName) object_method_1_code (1 : Nat) (Option.none : Option Jvm.ClassFile.FieldType)).before args0 about1 = true := code_word (m := ⟨0, 0⟩) (meth := k0m0) (c := k0c0) (by decide +kernel) rfl rfl rfl (by decide +kernel)
set_option maxRecDepth 65536 in
theorem w_c3 : (Jvm.Cond.code ({ cls := "java/lang/Math", name := "max", desc := "(II)I" } : Jvm.MethodName) jdk_29_method_65_code (2 : Nat) (Option.some Jvm.ClassFile.FieldType.int)).before args0 about1 = true := code_word (m := ⟨3, 1⟩) (meth := k3m1) (c := k3c1) (by decide +kernel) rfl rfl rfl (by decide +kernel)
set_option maxRecDepth 65536 in
theorem w_c4 : (Jvm.Cond.code ({ cls := "java/lang/Integer", name := "highestOneBit", desc := "(I)I" } : Jvm.MethodName) jdk_33_method_45_code (1 : Nat) (Option.some Jvm.ClassFile.FieldType.int)).before args0 about1 = true := code_word (m := ⟨9, 0⟩) (meth := k9m0) (c := k9c0) (by decide +kernel) rfl rfl rfl (by decide +kernel)
set_option maxRecDepth 65536 in
theorem w_c5 : (Jvm.Cond.code ({ cls := "java/lang/Integer", name := "numberOfLeadingZeros", desc := "(I)I" } : Jvm.MethodName) jdk_33_method_47_code (2 : Nat) (Option.some Jvm.ClassFile.FieldType.int)).before args0 about1 = true := code_word (m := ⟨9, 1⟩) (meth := k9m1) (c := k9c1) (by decide +kernel) rfl rfl rfl (by decide +kernel)
set_option maxRecDepth 65536 in
theorem w_c6 : (Jvm.Cond.code ({ cls := "java/lang/Math", name := "min", desc := "(II)I" } : Jvm.MethodName) jdk_29_method_69_code (2 : Nat) (Option.some Jvm.ClassFile.FieldType.int)).before args0 about1 = true := code_word (m := ⟨3, 2⟩) (meth := k3m2) (c := k3c2) (by decide +kernel) rfl rfl rfl (by decide +kernel)
set_option maxRecDepth 65536 in
theorem w_c7 : (Jvm.Cond.code ({ cls := "java/util/Arrays", name := "fill", desc := "([II)V" } : Jvm.MethodName) jdk_65_method_103_code (4 : Nat) (Option.none : Option Jvm.ClassFile.FieldType)).before args0 about1 = true := code_word (m := ⟨10, 1⟩) (meth := k10m1) (c := k10c1) (by decide +kernel) rfl rfl rfl (by decide +kernel)
set_option maxRecDepth 65536 in
theorem w_c8 : (Jvm.Cond.code ({ cls := "com/example/hrisey/hrisey/core/ResolvedEntries", name := "put", desc := "(ILjava/lang/Object;Z)V" } : Jvm.MethodName) prog_131_method_4_code (5 : Nat) (Option.none : Option Jvm.ClassFile.FieldType)).before args0 about1 = true := code_word (m := ⟨2, 2⟩) (meth := k2m2) (c := k2c2) (by decide +kernel) rfl rfl rfl (by decide +kernel)
set_option maxRecDepth 65536 in
theorem w_c9 : (Jvm.Cond.code ({ cls := "com/example/hrisey/hrisey/core/ResolvedEntries", name := "get", desc := "(I)Ljava/lang/Object;" } : Jvm.MethodName) prog_131_method_3_code (4 : Nat) (Option.some (Jvm.ClassFile.FieldType.object "java/lang/Object"))).before args0 about1 = true := code_word (m := ⟨2, 1⟩) (meth := k2m1) (c := k2c1) (by decide +kernel) rfl rfl rfl (by decide +kernel)
set_option maxRecDepth 65536 in
theorem w_c10 : (Jvm.Cond.code ({ cls := "com/example/hrisey/hrisey/core/ResolvedEntriesPutPinLaw", name := "expectedI", desc := "(IIIZLjava/lang/Object;Ljava/lang/Object;)Ljava/lang/Object;" } : Jvm.MethodName) method_3_code (7 : Nat) (Option.some (Jvm.ClassFile.FieldType.object "java/lang/Object"))).before args0 about1 = true := code_word (m := ⟨1, 2⟩) (meth := k1m2) (c := k1c2) (by decide +kernel) rfl rfl rfl (by decide +kernel)
def codes1 : List Jvm.Cond := [Jvm.Cond.code x code maxLocals ret, Jvm.Cond.code ({ cls := "com/example/hrisey/hrisey/core/ResolvedEntries", name := "<init>", desc := "(I)V" } : Jvm.MethodName) prog_131_method_1_code (3 : Nat) (Option.none : Option Jvm.ClassFile.FieldType), Jvm.Cond.code ({ cls := "java/lang/Object", name := "<init>", desc := "()V" } : Jvm.MethodName) object_method_1_code (1 : Nat) (Option.none : Option Jvm.ClassFile.FieldType), Jvm.Cond.code ({ cls := "java/lang/Math", name := "max", desc := "(II)I" } : Jvm.MethodName) jdk_29_method_65_code (2 : Nat) (Option.some Jvm.ClassFile.FieldType.int), Jvm.Cond.code ({ cls := "java/lang/Integer", name := "highestOneBit", desc := "(I)I" } : Jvm.MethodName) jdk_33_method_45_code (1 : Nat) (Option.some Jvm.ClassFile.FieldType.int), Jvm.Cond.code ({ cls := "java/lang/Integer", name := "numberOfLeadingZeros", desc := "(I)I" } : Jvm.MethodName) jdk_33_method_47_code (2 : Nat) (Option.some Jvm.ClassFile.FieldType.int), Jvm.Cond.code ({ cls := "java/lang/Math", name := "min", desc := "(II)I" } : Jvm.MethodName) jdk_29_method_69_code (2 : Nat) (Option.some Jvm.ClassFile.FieldType.int), Jvm.Cond.code ({ cls := "java/util/Arrays", name := "fill", desc := "([II)V" } : Jvm.MethodName) jdk_65_method_103_code (4 : Nat) (Option.none : Option Jvm.ClassFile.FieldType), Jvm.Cond.code ({ cls := "com/example/hrisey/hrisey/core/ResolvedEntries", name := "put", desc := "(ILjava/lang/Object;Z)V" } : Jvm.MethodName) prog_131_method_4_code (5 : Nat) (Option.none : Option Jvm.ClassFile.FieldType), Jvm.Cond.code ({ cls := "com/example/hrisey/hrisey/core/ResolvedEntries", name := "get", desc := "(I)Ljava/lang/Object;" } : Jvm.MethodName) prog_131_method_3_code (4 : Nat) (Option.some (Jvm.ClassFile.FieldType.object "java/lang/Object")), Jvm.Cond.code ({ cls := "com/example/hrisey/hrisey/core/ResolvedEntriesPutPinLaw", name := "expectedI", desc := "(IIIZLjava/lang/Object;Ljava/lang/Object;)Ljava/lang/Object;" } : Jvm.MethodName) method_3_code (7 : Nat) (Option.some (Jvm.ClassFile.FieldType.object "java/lang/Object"))]
set_option maxRecDepth 65536 in
theorem codes_eq : words1.filter isCode = codes1 := rfl
theorem w_codes : ∀ c ∈ words1.filter isCode, c.before args0 about1 = true := by
  rw [codes_eq]
  intro c hc
  simp only [codes1, List.mem_cons, List.not_mem_nil, or_false] at hc
  rcases hc with rfl | rfl | rfl | rfl | rfl | rfl | rfl | rfl | rfl | rfl | rfl
  · exact w_c0
  · exact w_c1
  · exact w_c2
  · exact w_c3
  · exact w_c4
  · exact w_c5
  · exact w_c6
  · exact w_c7
  · exact w_c8
  · exact w_c9
  · exact w_c10
set_option maxRecDepth 65536 in
theorem w_t1 : (words1.take 24).all (fun c => isCode c || c.before args0 about1) = true := by decide +kernel
set_option maxRecDepth 65536 in
theorem w_t2 : ((words1.drop 24).take 24).all (fun c => isCode c || c.before args0 about1) = true := by decide +kernel
set_option maxRecDepth 65536 in
theorem w_t3 : ((words1.drop 24).drop 24).all (fun c => isCode c || c.before args0 about1) = true := by decide +kernel
theorem w_tables : (allAtoms (Jvm.Cond.code x code maxLocals ret :: tables_1)).before args0 about1 = true := by
  rw [allAtoms_all]
  show words1.all (fun c => c.before args0 about1) = true
  refine all_split ?_ w_codes
  rw [← List.take_append_drop 24 words1, List.all_append, w_t1, ← List.take_append_drop 24 (words1.drop 24), List.all_append, w_t2, w_t3]
  rfl
set_option maxRecDepth 65536 in
theorem w_case : (Jvm.Cond.and given_1 narrow_1).before args0 about1 = true := by decide +kernel
theorem w_applies : (headSpec (Jvm.Cond.code x code maxLocals ret :: tables_1) room_1).applies x e0.platform about1 = true :=
  (Spec.applies_iff w_frames).mpr ⟨w_running, w_runnable, w_alone, w_named, w_hears, w_ripe, w_room, w_tables⟩
theorem atStart : AtStart classFile x code maxLocals ret World_1 tables_1 room_1 Calls_1 rest_1 Pre_1 launch0 p0 e0 about1 theMethod args0 below0 :=
  ⟨lists_1, trivial, launch0.admits_env _ _ _, launch0.least_env, fairChoices_fair.cas, fairChoices_fair.clock, w_frames, w_args, w_heap, w_applies, trivial, trivial, w_case⟩
end start1
theorem witness_1 : WitnessClaimed_1 := ⟨start1.p0, start1.e0, start1.about1, start1.theMethod, start1.args0, start1.below0, start1.atStart⟩
end Jvm.Pilot.@@N@@
