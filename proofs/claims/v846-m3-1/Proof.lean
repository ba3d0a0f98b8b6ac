import JvmDerived
import JvmDerived.Pilot.@@N@@Statement
import JvmDerived.Pilot.@@N@@Code
set_option linter.unusedVariables false
set_option linter.unusedSimpArgs false
namespace Jvm.MM
open Jvm Jvm.ClassFile Sem Op Lib Jvm.Free Jvm.Stand Jvm.LawKit Jvm.RoadKit
/-! A small machine over a picture of the new objects; its soundness over the library's laws. -/
abbrev Kd : Type := Sum FieldType Nat
abbrev Obj : Type := Kd × List Value
abbrev Hp : Type := List Obj
abbrev St : Type := Nat × List Slot × List Value × Hp × Nat × Nat
abbrev MRes : Type := Option Value × Hp
abbrev Mth : Type := MethodName × ByteArray × Nat × Option FieldType × Room
abbrev Fds : Type := List (String × String × String × FieldType)
abbrev Cls : Type := String × Nat × Fds
/-- methods; classes; fields read and fields written (method, entry, class, place); statics (method, entry, number) and their values; new and anewarray (method, entry, class); the kinds of arrays made; casts (method, entry, kind, answer); int and long constants; static and special calls (method, entry, kind, parameters, callee); virtual calls (method, entry, class, parameters, callee); the greatest lengths of new arrays (method, pc, cap); how many objects stood already -/
abbrev Prg : Type := List Mth × List Cls × List (Nat × Nat × Nat × Nat) × List (Nat × Nat × Nat × Nat) × List (Nat × Nat × Nat) × List (String × String × String × Value) × List (Nat × Nat × Nat) × List (Nat × Nat × Nat) × List FieldType × List (Nat × Nat × Kd × Bool) × List (Nat × Nat × Int32) × List (Nat × Nat × Int64) × List (Nat × Nat × Nat × Nat × Nat) × List (Nat × Nat × Nat × Nat × Nat) × List (Nat × Nat × Nat) × Nat
def Prg.ms (P : Prg) := P.1
def Prg.cs (P : Prg) := P.2.1
def Prg.fl (P : Prg) := P.2.2.1
def Prg.fw (P : Prg) := P.2.2.2.1
def Prg.sf (P : Prg) := P.2.2.2.2.1
def Prg.sv (P : Prg) := P.2.2.2.2.2.1
def Prg.nw (P : Prg) := P.2.2.2.2.2.2.1
def Prg.na (P : Prg) := P.2.2.2.2.2.2.2.1
def Prg.ats (P : Prg) := P.2.2.2.2.2.2.2.2.1
def Prg.ca (P : Prg) := P.2.2.2.2.2.2.2.2.2.1
def Prg.ki (P : Prg) := P.2.2.2.2.2.2.2.2.2.2.1
def Prg.kl (P : Prg) := P.2.2.2.2.2.2.2.2.2.2.2.1
def Prg.ic (P : Prg) := P.2.2.2.2.2.2.2.2.2.2.2.2.1
def Prg.vc (P : Prg) := P.2.2.2.2.2.2.2.2.2.2.2.2.2.1
def Prg.cp (P : Prg) := P.2.2.2.2.2.2.2.2.2.2.2.2.2.2.1
def Prg.j0 (P : Prg) := P.2.2.2.2.2.2.2.2.2.2.2.2.2.2.2
def dummy : Mth := (⟨"", "", ""⟩, ⟨#[]⟩, 0, none, { frames := 0, cells := 0, slots := 0, locals := 0 })
def Prg.mt (P : Prg) (j : Nat) : Mth := match P.ms[j]? with | some M => M | none => dummy
def Mth.y (M : Mth) : MethodName := M.1
def Mth.code (M : Mth) : ByteArray := M.2.1
def Mth.mx (M : Mth) : Nat := M.2.2.1
def Mth.ret (M : Mth) : Option FieldType := M.2.2.2.1
def Mth.rm (M : Mth) : Room := M.2.2.2.2
def Prg.cname (P : Prg) (c : Nat) : String := match P.cs[c]? with | some C => C.1 | none => ""
def Prg.flds (P : Prg) (c : Nat) : Fds := match P.cs[c]? with | some C => C.2.2 | none => []
def Prg.nsl (P : Prg) (c : Nat) : Nat := match P.cs[c]? with | some C => C.2.1 | none => 0
def lk2 {α : Type} : List (Nat × Nat × α) → Nat → Nat → Option α
  | [], _, _ => none
  | x :: r, j, i => if x.1 = j ∧ x.2.1 = i then some x.2.2 else lk2 r j i
def lk3 {α : Type} : List (Nat × Nat × Nat × α) → Nat → Nat → Nat → Option α
  | [], _, _, _ => none
  | x :: r, j, i, c => if x.1 = j ∧ x.2.1 = i ∧ x.2.2.1 = c then some x.2.2.2 else lk3 r j i c
def lkK : List (Nat × Nat × Kd × Bool) → Nat → Nat → Kd → Option Bool
  | [], _, _, _ => none
  | x :: r, j, i, c => if x.1 = j ∧ x.2.1 = i ∧ x.2.2.1 = c then some x.2.2.2 else lkK r j i c
theorem lk2_mem {α : Type} : ∀ {T : List (Nat × Nat × α)} {j i : Nat} {x : α}, lk2 T j i = some x → (j, i, x) ∈ T
  | [], _, _, _, h => by cases h
  | y :: r, j, i, x, h => by
    obtain ⟨a, b, z⟩ := y
    by_cases q : a = j ∧ b = i
    · rw [show lk2 ((a, b, z) :: r) j i = some z from if_pos q] at h
      obtain ⟨rfl, rfl⟩ := q
      cases h
      exact List.mem_cons_self
    · rw [show lk2 ((a, b, z) :: r) j i = lk2 r j i from if_neg q] at h
      exact List.mem_cons_of_mem _ (lk2_mem h)
theorem lk3_mem {α : Type} : ∀ {T : List (Nat × Nat × Nat × α)} {j i c : Nat} {x : α}, lk3 T j i c = some x → (j, i, c, x) ∈ T
  | [], _, _, _, _, h => by cases h
  | y :: r, j, i, c, x, h => by
    obtain ⟨a, b, d, z⟩ := y
    by_cases q : a = j ∧ b = i ∧ d = c
    · rw [show lk3 ((a, b, d, z) :: r) j i c = some z from if_pos q] at h
      obtain ⟨rfl, rfl, rfl⟩ := q
      cases h
      exact List.mem_cons_self
    · rw [show lk3 ((a, b, d, z) :: r) j i c = lk3 r j i c from if_neg q] at h
      exact List.mem_cons_of_mem _ (lk3_mem h)
theorem lkK_mem : ∀ {T : List (Nat × Nat × Kd × Bool)} {j i : Nat} {c : Kd} {x : Bool}, lkK T j i c = some x → (j, i, c, x) ∈ T
  | [], _, _, _, _, h => by cases h
  | y :: r, j, i, c, x, h => by
    obtain ⟨a, b, d, z⟩ := y
    by_cases q : a = j ∧ b = i ∧ d = c
    · rw [show lkK ((a, b, d, z) :: r) j i c = some z from if_pos q] at h
      obtain ⟨rfl, rfl, rfl⟩ := q
      cases h
      exact List.mem_cons_self
    · rw [show lkK ((a, b, d, z) :: r) j i c = lkK r j i c from if_neg q] at h
      exact List.mem_cons_of_mem _ (lkK_mem h)
/-! ### the steps -/
def ilen : Instr → Nat
  | .aload _ | .astore _ | .iload _ | .istore _ | .lload _ | .lstore _ | .dload _ | .dstore _ | .bipush _ | .ldc _ | .newarray _ => 2
  | .sipush _ | .iinc _ _ | .getfield _ | .putfield _ | .getstatic _ | .goto _ | .ifCond _ _ | .if_icmp _ _ | .if_acmp _ _ | .ifnull _ | .ifnonnull _ | .new _ | .anewarray _ | .checkcast _ | .instanceof _ | .invokestatic _ | .invokespecial _ | .invokevirtual _ | .ldc2_w _ => 3
  | _ => 1
def isI : Value → Bool | .int _ => true | _ => false
def isJ : Value → Bool | .long _ => true | _ => false
def isD : Value → Bool | .double _ => true | _ => false
def isA : Value → Bool | .null => true | .ref _ => true | _ => false
def cat : Value → Nat | .long _ => 2 | .double _ => 2 | _ => 1
def wt : List Value → Nat | [] => 0 | v :: r => cat v + wt r
def s1 : Slot → Bool | .unset => true | .val v => cat v == 1 | .second => false
def ld (q : Value → Bool) (L : List Slot) (k : Nat) (S : List Value) : Option (List Slot × List Value) := match L[k]? with | some (.val v) => if q v = true then some (L, v :: S) else none | _ => none
def so1 (L : List Slot) (k : Nat) : Bool := match L[k]? with | some o => s1 o | none => false
def so2 (L : List Slot) (k : Nat) : Bool := (match L[k]? with | some (.val _) => true | some .unset => true | _ => false) && (match L[k + 1]? with | some (.val v) => cat v == 1 | some _ => true | none => false)
def st1 (q : Value → Bool) (L : List Slot) (k : Nat) : List Value → Option (List Slot × List Value)
  | v :: S => if (q v && so1 L k) = true then some (L.set k (.val v), S) else none
  | [] => none
def st2 (q : Value → Bool) (L : List Slot) (k : Nat) : List Value → Option (List Slot × List Value)
  | v :: S => if (q v && so2 L k) = true then some ((L.set k (.val v)).set (k + 1) .second, S) else none
  | [] => none
def inc (L : List Slot) (k : Nat) (c : Int) (S : List Value) : Option (List Slot × List Value) := match L[k]? with | some (.val (.int x)) => some (L.set k (.val (.int (x + Int32.ofInt c))), S) | _ => none
def bI (f : Int32 → Int32 → Int32) : List Value → Option (List Value) | .int y :: .int x :: r => some (.int (f x y) :: r) | _ => none
def dI (f : Int32 → Int32 → Int32) : List Value → Option (List Value) | .int y :: .int x :: r => if y = 0 then none else some (.int (f x y) :: r) | _ => none
def uI (f : Int32 → Value) : List Value → Option (List Value) | .int x :: r => some (f x :: r) | _ => none
def bJ (f : Int64 → Int64 → Value) : List Value → Option (List Value) | .long y :: .long x :: r => some (f x y :: r) | _ => none
def sJ (f : Int64 → Int32 → Int64) : List Value → Option (List Value) | .int y :: .long x :: r => some (.long (f x y) :: r) | _ => none
def uJ (f : Int64 → Value) : List Value → Option (List Value) | .long x :: r => some (f x :: r) | _ => none
def bD (f : UInt64 → UInt64 → Value) : List Value → Option (List Value) | .double y :: .double x :: r => some (f x y :: r) | _ => none
def fdup : List Value → Option (List Value) | x :: r => if cat x = 1 then some (x :: x :: r) else none | _ => none
def fpop : List Value → Option (List Value) | x :: r => if cat x = 1 then some r else none | _ => none
def fdx1 : List Value → Option (List Value) | x :: y :: r => if cat x = 1 ∧ cat y = 1 then some (x :: y :: x :: r) else none | _ => none
def fd2 : List Value → Option (List Value)
  | .long x :: r => some (.long x :: .long x :: r)
  | x :: y :: r => if cat x = 1 ∧ cat y = 1 then some (x :: y :: x :: y :: r) else none
  | _ => none
def keepL (L : List Slot) (o : Option (List Value)) : Option (List Slot × List Value) := match o with | some S => some (L, S) | none => none
def plainI (i : Instr) (L : List Slot) (S : List Value) : Option (List Slot × List Value) :=
  match i with
  | .aconst_null => some (L, .null :: S)
  | .iconst k => some (L, .int (Int32.ofInt k) :: S)
  | .bipush k => some (L, .int (Int8.ofInt k).toInt32 :: S)
  | .sipush k => some (L, .int (Int16.ofInt k).toInt32 :: S)
  | .lconst k => some (L, .long (Int64.ofNat k) :: S)
  | .iload k => ld isI L k S
  | .iload_n k => ld isI L k.val S
  | .lload k => ld isJ L k S
  | .lload_n k => ld isJ L k.val S
  | .aload k => ld isA L k S
  | .aload_n k => ld isA L k.val S
  | .istore k => st1 isI L k S
  | .istore_n k => st1 isI L k.val S
  | .astore k => st1 isA L k S
  | .astore_n k => st1 isA L k.val S
  | .lstore k => st2 isJ L k S
  | .lstore_n k => st2 isJ L k.val S
  | .dload k => ld isD L k S
  | .dload_n k => ld isD L k.val S
  | .dstore k => st2 isD L k S
  | .dstore_n k => st2 isD L k.val S
  | .dconst d => some (L, .double (if d = 0 then FP.dconst0 else FP.dconst1) :: S)
  | .i2d => keepL L (uI (fun x => .double (FP.i2d x)) S)
  | .dcmp o => keepL L (bD (fun x y => .int (cmpValue (FP.dcmp x y) o)) S)
  | .iinc k c => inc L k c S
  | .iadd => keepL L (bI (fun x y => x + y) S)
  | .isub => keepL L (bI (fun x y => x - y) S)
  | .imul => keepL L (bI (fun x y => x * y) S)
  | .iand => keepL L (bI (fun x y => x &&& y) S)
  | .ior => keepL L (bI (fun x y => x ||| y) S)
  | .ixor => keepL L (bI (fun x y => x ^^^ y) S)
  | .ishl => keepL L (bI (fun x y => x <<< (y &&& 31)) S)
  | .ishr => keepL L (bI (fun x y => x >>> (y &&& 31)) S)
  | .iushr => keepL L (bI XT.ushr S)
  | .irem => keepL L (dI (fun x y => x % y) S)
  | .idiv => keepL L (dI (fun x y => x / y) S)
  | .ineg => keepL L (uI (fun x => .int (-x)) S)
  | .i2l => keepL L (uI (fun x => .long x.toInt64) S)
  | .i2b => keepL L (uI (fun x => .int x.toInt8.toInt32) S)
  | .i2c => keepL L (uI (fun x => .int x.toUInt32.toUInt16.toUInt32.toInt32) S)
  | .i2s => keepL L (uI (fun x => .int x.toInt16.toInt32) S)
  | .l2i => keepL L (uJ (fun x => .int x.toInt32) S)
  | .ladd => keepL L (bJ (fun x y => .long (x + y)) S)
  | .lsub => keepL L (bJ (fun x y => .long (x - y)) S)
  | .lmul => keepL L (bJ (fun x y => .long (x * y)) S)
  | .land => keepL L (bJ (fun x y => .long (x &&& y)) S)
  | .lor => keepL L (bJ (fun x y => .long (x ||| y)) S)
  | .lxor => keepL L (bJ (fun x y => .long (x ^^^ y)) S)
  | .lcmp => keepL L (bJ (fun x y => .int (XT.cmpL x y)) S)
  | .lshl => keepL L (sJ (fun x y => x <<< (y.toInt64 &&& 63)) S)
  | .lshr => keepL L (sJ (fun x y => x >>> (y.toInt64 &&& 63)) S)
  | .lushr => keepL L (sJ XT.ushrL S)
  | .dup => keepL L (fdup S)
  | .pop => keepL L (fpop S)
  | .dup_x1 => keepL L (fdx1 S)
  | .dup2 => keepL L (fd2 S)
  | _ => none
/-- taken or not; the offset; the stack behind -/
def brI (i : Instr) (S : List Value) : Option (Bool × Int × List Value) :=
  match i with
  | .goto o => some (true, o, S)
  | .ifCond c o => match S with | .int x :: r => some (ifCond.holds c x, o, r) | _ => none
  | .if_icmp c o => match S with | .int y :: .int x :: r => some (if_icmp.holds c x y, o, r) | _ => none
  | .if_acmp c o => match S with | y :: x :: r => if (isA x && isA y) = true then some (XT.acmp c x y, o, r) else none | _ => none
  | .ifnull o => match S with | .null :: r => some (true, o, r) | .ref _ :: r => some (false, o, r) | _ => none
  | .ifnonnull o => match S with | .null :: r => some (false, o, r) | .ref _ :: r => some (true, o, r) | _ => none
  | _ => none
/-- what a place of this type keeps of a value -/
def vty : FieldType → Value → Option Value
  | .int, .int x => some (.int x)
  | .boolean, .int x => some (.int (x &&& 1))
  | .byte, .int x => some (.int x.toInt8.toInt32)
  | .char, .int x => some (.int x.toUInt32.toUInt16.toUInt32.toInt32)
  | .short, .int x => some (.int x.toInt16.toInt32)
  | .long, .long x => some (.long x)
  | .double, .double x => some (.double x)
  | .object _, .null => some .null
  | .object _, .ref a => some (.ref a)
  | .array _, .null => some .null
  | .array _, .ref a => some (.ref a)
  | _, _ => none
def dft : FieldType → Value
  | .boolean | .byte | .char | .short | .int => .int 0
  | .long => .long 0
  | .float => .float 0
  | .double => .double 0
  | .object _ | .array _ => .null
/-- which component types an array load or store takes -/
def aty : Instr → FieldType → Bool
  | .iaload, .int | .iastore, .int | .baload, .byte | .bastore, .byte | .caload, .char | .castore, .char | .saload, .short | .laload, .long | .lastore, .long | .daload, .double | .dastore, .double => true
  | .aaload, .object _ => true
  | .aastore, .object _ => true
  | _, _ => false
def ldA (i : Instr) (H : Hp) (a : Nat) (x : Int32) : Option Value :=
  match H[a]? with
  | some (.inl ty, vs) => if aty i ty = true ∧ ¬ x < 0 then vs[x.toNatClampNeg]? else none
  | _ => none
def alen (H : Hp) (a : Nat) : Option Int32 :=
  match H[a]? with
  | some (.inl _, vs) => some vs.length.toInt32
  | _ => none
def stoOk (P : Prg) (H : Hp) : FieldType → Value → Bool
  | .object C, .ref b => match H[b]? with | some (.inr cid, _) => decide (cid < P.cs.length) && (P.cname cid == C) | _ => false
  | _, _ => true
def stA (P : Prg) (i : Instr) (H : Hp) (a : Nat) (x : Int32) (v : Value) : Option Hp :=
  if a < P.j0 then none else
  match H[a]? with
  | some (.inl ty, vs) => match vty ty v with
    | some v' => if aty i ty = true ∧ ¬ x < 0 ∧ x.toNatClampNeg < vs.length ∧ stoOk P H ty v' = true then some (H.set a (.inl ty, vs.set x.toNatClampNeg v')) else none
    | none => none
  | _ => none
def rdO (P : Prg) (j idx : Nat) (o : Obj) : Option Value :=
  match o with
  | (.inr cid, vs) => match lk3 P.fl j idx cid with | some q => vs[q]? | none => none
  | _ => none
def rdF (P : Prg) (j idx : Nat) (H : Hp) (a : Nat) : Option Value := match H[a]? with | some o => rdO P j idx o | none => none
def wrO (P : Prg) (j idx : Nat) (v : Value) (o : Obj) : Option Obj :=
  match o with
  | (.inr cid, vs) => match lk3 P.fw j idx cid with
    | some q => match (P.flds cid)[q]? with
      | some fd => match vty fd.2.2.2 v with
        | some v' => if q < vs.length then some (.inr cid, vs.set q v') else none
        | none => none
      | none => none
    | none => none
  | _ => none
def wrF (P : Prg) (j idx : Nat) (H : Hp) (a : Nat) (v : Value) : Option Hp :=
  if a < P.j0 then none else
  match H[a]? with | some o => (match wrO P j idx v o with | some o' => some (H.set a o') | none => none) | none => none
def newC (P : Prg) (j idx : Nat) (H : Hp) (k n : Nat) : Option (Hp × Nat × Nat) :=
  match lk2 P.nw j idx with
  | some cid => if k + 1 ≤ (P.mt j).rm.cells ∧ n + P.nsl cid ≤ (P.mt j).rm.slots then some (H ++ [(.inr cid, (P.flds cid).map fun fd => dft fd.2.2.2)], k + 1, n + P.nsl cid) else none
  | none => none
def newA (P : Prg) (j pc : Nat) (ty : FieldType) (len : Int32) (H : Hp) (k n : Nat) : Option (Hp × Nat × Nat) :=
  match lk2 P.cp j pc with
  | some cap => if ¬ len < 0 ∧ len.toNatClampNeg ≤ cap ∧ cap * 8 ≤ 536870912 ∧ k + 1 ≤ (P.mt j).rm.cells ∧ n + cap ≤ (P.mt j).rm.slots then some (H ++ [(.inl ty, List.replicate len.toNatClampNeg (dft ty))], k + 1, n + cap) else none
  | none => none
def castI (P : Prg) (j idx : Nat) (H : Hp) (a : Nat) : Option Bool := match H[a]? with | some o => lkK P.ca j idx o.1 | none => none
abbrev HR : Type := List Value × Hp × Nat × Nat
def hLdc (P : Prg) (j idx : Nat) (S : List Value) (H : Hp) (k n : Nat) : Option HR := match lk2 P.ki j idx with | some v => some (.int v :: S, H, k, n) | none => none
def hLdc2 (P : Prg) (j idx : Nat) (S : List Value) (H : Hp) (k n : Nat) : Option HR := match lk2 P.kl j idx with | some v => some (.long v :: S, H, k, n) | none => none
def hGs (P : Prg) (j idx : Nat) (S : List Value) (H : Hp) (k n : Nat) : Option HR := match lk2 P.sf j idx with | some q => (match P.sv[q]? with | some d => some (d.2.2.2 :: S, H, k, n) | none => none) | none => none
def hGet (P : Prg) (j idx : Nat) (S : List Value) (H : Hp) (k n : Nat) : Option HR := match S with | .ref a :: r => (match rdF P j idx H a with | some v => some (v :: r, H, k, n) | none => none) | _ => none
def hPut (P : Prg) (j idx : Nat) (S : List Value) (H : Hp) (k n : Nat) : Option HR := match S with | v :: .ref a :: r => (match wrF P j idx H a v with | some H' => some (r, H', k, n) | none => none) | _ => none
def hNew (P : Prg) (j idx : Nat) (S : List Value) (H : Hp) (k n : Nat) : Option HR := match newC P j idx H k n with | some x => some (.ref H.length :: S, x.1, x.2.1, x.2.2) | none => none
def hNewA (P : Prg) (j pc : Nat) (t : ArrayType) (S : List Value) (H : Hp) (k n : Nat) : Option HR := match S with | .int len :: r => (if newarray.typeOf t ∈ P.ats then (match newA P j pc (newarray.typeOf t) len H k n with | some x => some (.ref H.length :: r, x.1, x.2.1, x.2.2) | none => none) else none) | _ => none
def hNewR (P : Prg) (j pc idx : Nat) (S : List Value) (H : Hp) (k n : Nat) : Option HR := match S with
  | .int len :: r => (match lk2 P.na j idx with
    | some cid => (match newA P j pc (.object (P.cname cid)) len H k n with | some x => some (.ref H.length :: r, x.1, x.2.1, x.2.2) | none => none)
    | none => none)
  | _ => none
def hLen (S : List Value) (H : Hp) (k n : Nat) : Option HR := match S with | .ref a :: r => (match alen H a with | some v => some (.int v :: r, H, k, n) | none => none) | _ => none
def hLda (i : Instr) (S : List Value) (H : Hp) (k n : Nat) : Option HR := match S with | .int x :: .ref a :: r => (match ldA i H a x with | some v => some (v :: r, H, k, n) | none => none) | _ => none
def hSta (P : Prg) (i : Instr) (S : List Value) (H : Hp) (k n : Nat) : Option HR := match S with | v :: .int x :: .ref a :: r => (match stA P i H a x v with | some H' => some (r, H', k, n) | none => none) | _ => none
def hCast (P : Prg) (j idx : Nat) (S : List Value) (H : Hp) (k n : Nat) : Option HR := match S with
  | .null :: r => some (.null :: r, H, k, n)
  | .ref a :: r => (match castI P j idx H a with | some true => some (.ref a :: r, H, k, n) | _ => none)
  | _ => none
def hInst (P : Prg) (j idx : Nat) (S : List Value) (H : Hp) (k n : Nat) : Option HR := match S with
  | .null :: r => some (.int 0 :: r, H, k, n)
  | .ref a :: r => (match castI P j idx H a with | some true => some (.int 1 :: r, H, k, n) | some false => some (.int 0 :: r, H, k, n) | none => none)
  | _ => none
def heapI (P : Prg) (j pc : Nat) (i : Instr) (S : List Value) (H : Hp) (k n : Nat) : Option HR :=
  match i with
  | .ldc idx => hLdc P j idx S H k n
  | .ldc2_w idx => hLdc2 P j idx S H k n
  | .getstatic idx => hGs P j idx S H k n
  | .getfield idx => hGet P j idx S H k n
  | .putfield idx => hPut P j idx S H k n
  | .new idx => hNew P j idx S H k n
  | .newarray t => hNewA P j pc t S H k n
  | .anewarray idx => hNewR P j pc idx S H k n
  | .arraylength => hLen S H k n
  | .iaload => hLda .iaload S H k n
  | .baload => hLda .baload S H k n
  | .caload => hLda .caload S H k n
  | .saload => hLda .saload S H k n
  | .laload => hLda .laload S H k n
  | .aaload => hLda .aaload S H k n
  | .daload => hLda .daload S H k n
  | .iastore => hSta P .iastore S H k n
  | .bastore => hSta P .bastore S H k n
  | .castore => hSta P .castore S H k n
  | .lastore => hSta P .lastore S H k n
  | .aastore => hSta P .aastore S H k n
  | .dastore => hSta P .dastore S H k n
  | .checkcast idx => hCast P j idx S H k n
  | .instanceof idx => hInst P j idx S H k n
  | _ => none
/-- what returns -/
def retI (t : Option FieldType) (i : Instr) (S : List Value) : Option (Option Value) :=
  match i with
  | .return_ => match t, S with | none, [] => some none | _, _ => none
  | .ireturn => match t, S with
    | some .int, .int x :: _ => some (some (.int x))
    | some .boolean, .int x :: _ => some (some (.int (x &&& 1)))
    | some .byte, .int x :: _ => some (some (.int x.toInt8.toInt32))
    | some .char, .int x :: _ => some (some (.int x.toUInt32.toUInt16.toUInt32.toInt32))
    | some .short, .int x :: _ => some (some (.int x.toInt16.toInt32))
    | _, _ => none
  | .lreturn => match t, S with | some .long, .long x :: _ => some (some (.long x)) | _, _ => none
  | .dreturn => match t, S with | some .double, .double x :: _ => some (some (.double x)) | _, _ => none
  | .areturn => match t, S with
    | some (.object _), .null :: _ => some (some .null)
    | some (.object _), .ref a :: _ => some (some (.ref a))
    | some (.array _), .null :: _ => some (some .null)
    | some (.array _), .ref a :: _ => some (some (.ref a))
    | _, _ => none
  | _ => none
def laid : List Value → List Slot
  | [] => []
  | v :: vs => if cat v = 2 then .val v :: .second :: laid vs else .val v :: laid vs
def entL (as : List Value) (mx : Nat) : List Slot := laid as ++ List.replicate (mx - (laid as).length) .unset
/-- the callee, its arguments, what lies under them -/
def calI (P : Prg) (j : Nat) (i : Instr) (S : List Value) (H : Hp) : Option (Nat × List Value × List Value) :=
  match i with
  | .invokestatic idx => match lk2 P.ic j idx with
    | some (0, np, j') => if np ≤ S.length then some (j', (S.take np).reverse, S.drop np) else none
    | _ => none
  | .invokespecial idx => match lk2 P.ic j idx with
    | some (1, np, j') => (match S.drop np with | .ref a :: r => some (j', .ref a :: (S.take np).reverse, r) | _ => none)
    | _ => none
  | .invokevirtual idx => match lk2 P.ic j idx with
    | some (2, np, _) => (match S.drop np with
      | .ref a :: r => (match H[a]? with
        | some (.inr cid, _) => (match lk3 P.vc j idx cid with | some (np', j') => if np' = np then some (j', .ref a :: (S.take np).reverse, r) else none | none => none)
        | _ => none)
      | _ => none)
    | _ => none
  | _ => none
/-- Object's own constructor -/
def objI (P : Prg) (j : Nat) (i : Instr) (L : List Slot) (S : List Value) : Option (List Value) :=
  match i with
  | .invokespecial idx => match lk2 P.ic j idx with
    | some (6, _, _) => (match S with | .ref a :: r => if L.length = (P.mt j).mx ∧ 1 ≤ (P.mt j).rm.frames ∧ wt r + 12 ≤ (P.mt j).rm.locals then some r else none | _ => none)
    | _ => none
  | _ => none
def isCall (P : Prg) (j : Nat) : Instr → Nat
  | .invokestatic _ => 1
  | .invokevirtual _ => 1
  | .invokespecial idx => match lk2 P.ic j idx with | some (1, _, _) => 1 | _ => 2
  | .return_ | .ireturn | .lreturn | .areturn | .dreturn => 3
  | .goto _ | .ifCond _ _ | .if_icmp _ _ | .if_acmp _ _ | .ifnull _ | .ifnonnull _ => 4
  | .ldc _ | .ldc2_w _ | .getstatic _ | .getfield _ | .putfield _ | .new _ | .newarray _ | .anewarray _ | .arraylength | .iaload | .baload | .caload | .saload | .laload | .aaload | .daload | .iastore | .bastore | .castore | .lastore | .aastore | .dastore | .checkcast _ | .instanceof _ => 5
  | _ => 0
/-- the steps that neither call nor return -/
def stepI (P : Prg) (j : Nat) (i : Instr) : St → Option St
  | (pc, L, S, H, k, n) => match isCall P j i with
    | 0 => (match plainI i L S with | some x => some (pc + ilen i, x.1, x.2, H, k, n) | none => none)
    | 2 => (match objI P j i L S with | some r => some (pc + ilen i, L, r, H, k, n) | none => none)
    | 4 => (match brI i S with
      | some (true, o, r) => if 0 ≤ (pc : Int) + o then some (((pc : Int) + o).toNat, L, r, H, k, n) else none
      | some (false, o, r) => some (pc + ilen i, L, r, H, k, n)
      | none => none)
    | 5 => (match heapI P j pc i S H k n with | some x => some (pc + ilen i, L, x.1, x.2.1, x.2.2.1, x.2.2.2) | none => none)
    | _ => none
/-- the room that a call asks -/
def rmOk (P : Prg) (j j' : Nat) (L : List Slot) (r : List Value) (k n : Nat) : Bool :=
  decide (L.length = (P.mt j).mx) && (decide ((P.mt j').rm.frames + 1 ≤ (P.mt j).rm.frames) && (decide (wt r + ((P.mt j').mx + 11) + (P.mt j').rm.locals ≤ (P.mt j).rm.locals) && (decide (k + (P.mt j').rm.cells ≤ (P.mt j).rm.cells) && decide (n + (P.mt j').rm.slots ≤ (P.mt j).rm.slots))))
def run (P : Prg) : Nat → Nat → St → Option MRes
  | 0, _, _ => none
  | f + 1, j, (pc, L, S, H, k, n) =>
    match decode (P.mt j).code pc with
    | .error _ => none
    | .ok (i, len) =>
      if len = ilen i then
        match isCall P j i with
        | 3 => (match retI (P.mt j).ret i S with | some v => if k ≤ (P.mt j).rm.cells ∧ n ≤ (P.mt j).rm.slots then some (v, H) else none | none => none)
        | 1 => (match calI P j i S H with
          | some (j', as, r) =>
            if rmOk P j j' L r k n = true then
              (match run P f j' (0, entL as (P.mt j').mx, [], H, 0, 0) with
              | some (v, H') => run P f j (pc + 3, L, v.toList ++ r, H', k + (P.mt j').rm.cells, n + (P.mt j').rm.slots)
              | none => none)
            else none
          | none => none)
        | _ => (match stepI P j i (pc, L, S, H, k, n) with | some st' => run P f j st' | none => none)
      else none
end Jvm.MM
namespace Jvm.MM
open Jvm Jvm.ClassFile Sem Op Lib Jvm.Free Jvm.Stand Jvm.LawKit Jvm.RoadKit
/-! ### from the machine's values to the heap's -/
def tv (ρ : Nat → Addr) : Value → Value
  | .ref i => .ref (ρ i)
  | v => v
def ts (ρ : Nat → Addr) : Slot → Slot
  | .val v => .val (tv ρ v)
  | x => x
abbrev tS (ρ : Nat → Addr) (S : List Value) : List Value := S.map (tv ρ)
abbrev tL (ρ : Nat → Addr) (L : List Slot) : Array Slot := (L.map (ts ρ)).toArray
section Tr
variable {ρ : Nat → Addr}
theorem cat_eq (v : Value) : v.category = cat v := by cases v <;> rfl
theorem cat_tv (v : Value) : cat (tv ρ v) = cat v := by cases v <;> rfl
theorem wt_eq : ∀ S : List Value, ((S.map (tv ρ)).map fun v => v.category).sum = wt S
  | [] => rfl
  | v :: r => by
    have ih := wt_eq r
    show ((tv ρ v).category :: (r.map (tv ρ)).map fun v => v.category).sum = cat v + wt r
    rw [List.sum_cons, ih, cat_eq, cat_tv]
theorem tL_get {L : List Slot} {k : Nat} {o : Slot} (h : L[k]? = some o) : (tL ρ L)[k]? = some (ts ρ o) := by simp [h]
theorem tL_set (L : List Slot) (k : Nat) (o : Slot) : (tL ρ L).setIfInBounds k (ts ρ o) = tL ρ (L.set k o) := by
  apply Array.toList_inj.mp
  simp [Array.toList_setIfInBounds, List.map_set]
theorem isA_ref {v : Value} (h : isA v = true) : (tv ρ v).isRef = true := by cases v <;> first | rfl | cases h
theorem isA_cat {v : Value} (h : isA v = true) : cat v = 1 := by cases v <;> first | rfl | cases h
theorem isI_inv {v : Value} (h : isI v = true) : ∃ x, v = .int x := by cases v <;> first | exact ⟨_, rfl⟩ | cases h
theorem isJ_inv {v : Value} (h : isJ v = true) : ∃ x, v = .long x := by cases v <;> first | exact ⟨_, rfl⟩ | cases h
theorem isD_inv {v : Value} (h : isD v = true) : ∃ x, v = .double x := by cases v <;> first | exact ⟨_, rfl⟩ | cases h
theorem isA_inv {v : Value} (h : isA v = true) : v = .null ∨ ∃ a, v = .ref a := by cases v <;> first | exact Or.inl rfl | exact Or.inr ⟨_, rfl⟩ | cases h
theorem s1_inv {o : Slot} (h : s1 o = true) : ts ρ o = .unset ∨ ∃ w, ts ρ o = .val w ∧ w.category = 1 := by
  cases o with
  | unset => exact Or.inl rfl
  | second => cases h
  | val v => exact Or.inr ⟨tv ρ v, rfl, by rw [cat_eq, cat_tv]; simpa [s1] using h⟩
theorem ld_inv {q : Value → Bool} {L L' : List Slot} {k : Nat} {S S' : List Value} (h : ld q L k S = some (L', S')) : ∃ v, L[k]? = some (.val v) ∧ q v = true ∧ L' = L ∧ S' = v :: S := by
  unfold ld at h
  split at h
  · rename_i v hv
    split at h
    · rename_i hq
      cases h
      exact ⟨v, hv, hq, rfl, rfl⟩
    · cases h
  · cases h
theorem st1_inv {q : Value → Bool} {L L' : List Slot} {k : Nat} {S S' : List Value} (h : st1 q L k S = some (L', S')) : ∃ v o, S = v :: S' ∧ q v = true ∧ L[k]? = some o ∧ s1 o = true ∧ L' = L.set k (.val v) := by
  cases S with
  | nil => cases h
  | cons v r =>
    have h : (if (q v && so1 L k) = true then some (L.set k (.val v), r) else none) = some (L', S') := h
    split at h
    · rename_i hq
      obtain ⟨h1, h2⟩ := Bool.and_eq_true_iff.mp hq
      cases h
      unfold so1 at h2
      split at h2
      · rename_i o ho
        exact ⟨v, o, rfl, h1, ho, h2, rfl⟩
      · cases h2
    · cases h
theorem st2_inv {q : Value → Bool} {L L' : List Slot} {k : Nat} {S S' : List Value} (h : st2 q L k S = some (L', S')) : ∃ v, S = v :: S' ∧ q v = true ∧ so2 L k = true ∧ L' = (L.set k (.val v)).set (k + 1) .second := by
  cases S with
  | nil => cases h
  | cons v r =>
    have h : (if (q v && so2 L k) = true then some ((L.set k (.val v)).set (k + 1) .second, r) else none) = some (L', S') := h
    split at h
    · rename_i hq
      obtain ⟨h1, h2⟩ := Bool.and_eq_true_iff.mp hq
      cases h
      exact ⟨v, rfl, h1, h2, rfl⟩
    · cases h
theorem sl1 {L : List Slot} {k : Nat} {o : Slot} {v : Value} (h : L[k]? = some o) (hs : s1 o = true) (hv : cat v = 1) : storeLocals (tL ρ L) k (tv ρ v) = some (tL ρ (L.set k (.val v))) := by
  rw [XS.store1 (tL_get (ρ := ρ) h) (s1_inv hs) (by rw [cat_eq, cat_tv]; exact hv)]
  exact congrArg some (tL_set L k (.val v))
theorem self2 {l : Array Slot} {k : Nat} {o : Slot} {v : Value} (hv : v.category = 2) (h : l[k + 1]? = some o) (ho : ∀ w, o = .val w → w.category = 1) : storeSelf l k v = some ((l.setIfInBounds k (.val v)).setIfInBounds (k + 1) .second) := by
  have hk : k + 1 < l.size := (Array.getElem?_eq_some_iff.mp h).1
  have a1 : setAt l k (.val v) = some (l.setIfInBounds k (.val v)) := if_pos (by omega)
  have a2 : (l.setIfInBounds k (.val v))[k + 1]? = some o := by rw [Array.getElem?_setIfInBounds_ne (by omega)]; exact h
  have a3 : setAt (l.setIfInBounds k (.val v)) (k + 1) .second = some ((l.setIfInBounds k (.val v)).setIfInBounds (k + 1) .second) := if_pos (by simpa using hk)
  cases o with
  | unset => simp [storeSelf, a1, a2, a3, hv]
  | second => simp [storeSelf, a1, a2, a3, hv]
  | val w => simp [storeSelf, a1, a2, a3, hv, ho w rfl]
theorem sl2 {L : List Slot} {k : Nat} {v : Value} (h : so2 L k = true) (hv : cat v = 2) : storeLocals (tL ρ L) k (tv ρ v) = some (tL ρ ((L.set k (.val v)).set (k + 1) .second)) := by
  have hv' : (tv ρ v).category = 2 := by rw [cat_eq, cat_tv]; exact hv
  have e : tL ρ ((L.set k (.val v)).set (k + 1) .second) = ((tL ρ L).setIfInBounds k (.val (tv ρ v))).setIfInBounds (k + 1) .second := by
    rw [← tL_set, ← tL_set]; rfl
  rw [e]
  simp only [so2, Bool.and_eq_true] at h
  obtain ⟨h1, h2⟩ := h
  obtain ⟨o, ho⟩ : ∃ o, L[k + 1]? = some o := by
    cases q : L[k + 1]? with
    | none => rw [q] at h2; cases h2
    | some o => exact ⟨o, rfl⟩
  rw [ho] at h2
  have g2 := tL_get (ρ := ρ) ho
  have c2 : ∀ w, ts ρ o = .val w → w.category = 1 := fun w hw => by
    cases o with
    | unset => cases hw
    | second => cases hw
    | val u => cases hw; rw [cat_eq, cat_tv]; simpa using h2
  cases q : L[k]? with
  | none => rw [q] at h1; cases h1
  | some o1 =>
    have g1 := tL_get (ρ := ρ) q
    cases o1 with
    | second => rw [q] at h1; cases h1
    | unset =>
      have : storeLocals (tL ρ L) k (tv ρ v) = storeSelf (tL ρ L) k (tv ρ v) := by
        have g1' : (tL ρ L)[k]? = some .unset := g1
        simp only [storeLocals, g1', Option.bind_eq_bind, Option.bind_some]
      rw [this, self2 hv' g2 c2]
    | val u =>
      have g1' : (tL ρ L)[k]? = some (.val (tv ρ u)) := g1
      by_cases hc : (tv ρ u).category = 2
      · have hs : k + 1 < (tL ρ L).size := (Array.getElem?_eq_some_iff.mp g2).1
        have a1 : setAt (tL ρ L) (k + 1) .unset = some ((tL ρ L).setIfInBounds (k + 1) .unset) := if_pos hs
        have : storeLocals (tL ρ L) k (tv ρ v) = storeSelf ((tL ρ L).setIfInBounds (k + 1) .unset) k (tv ρ v) := by
          simp only [storeLocals, g1', Option.bind_eq_bind, Option.bind_some, hc, if_true, a1]
        rw [this, self2 (o := .unset) hv' (by rw [Array.getElem?_setIfInBounds_self_of_lt hs]) (fun w hw => by cases hw)]
        congr 1
        apply Array.toList_inj.mp
        simp only [Array.toList_setIfInBounds]
        rw [List.set_comm _ _ (by omega : k + 1 ≠ k), List.set_set]
      · have : storeLocals (tL ρ L) k (tv ρ v) = storeSelf (tL ρ L) k (tv ρ v) := by
          simp only [storeLocals, g1', Option.bind_eq_bind, Option.bind_some, hc, if_false]
        rw [this, self2 hv' g2 c2]
theorem keepL_inv {L L' : List Slot} {o : Option (List Value)} {S' : List Value} (h : keepL L o = some (L', S')) : L' = L ∧ o = some S' := by
  cases o with
  | none => cases h
  | some S => cases h; exact ⟨rfl, rfl⟩
theorem inc_inv {L L' : List Slot} {k : Nat} {c : Int} {S S' : List Value} (h : inc L k c S = some (L', S')) : ∃ x, L[k]? = some (.val (.int x)) ∧ L' = L.set k (.val (.int (x + Int32.ofInt c))) ∧ S' = S := by
  unfold inc at h
  split at h
  · rename_i x hx
    cases h
    exact ⟨x, hx, rfl, rfl⟩
  · cases h
theorem bI_inv {f : Int32 → Int32 → Int32} {S S' : List Value} (h : bI f S = some S') : ∃ x y r, S = .int y :: .int x :: r ∧ S' = .int (f x y) :: r := by
  unfold bI at h; split at h
  · cases h; exact ⟨_, _, _, rfl, rfl⟩
  · cases h
theorem dI_inv {f : Int32 → Int32 → Int32} {S S' : List Value} (h : dI f S = some S') : ∃ x y r, S = .int y :: .int x :: r ∧ y ≠ 0 ∧ S' = .int (f x y) :: r := by
  unfold dI at h; split at h
  · split at h
    · cases h
    · rename_i q; cases h; exact ⟨_, _, _, rfl, q, rfl⟩
  · cases h
theorem uI_inv {f : Int32 → Value} {S S' : List Value} (h : uI f S = some S') : ∃ x r, S = .int x :: r ∧ S' = f x :: r := by
  unfold uI at h; split at h
  · cases h; exact ⟨_, _, rfl, rfl⟩
  · cases h
theorem uJ_inv {f : Int64 → Value} {S S' : List Value} (h : uJ f S = some S') : ∃ x r, S = .long x :: r ∧ S' = f x :: r := by
  unfold uJ at h; split at h
  · cases h; exact ⟨_, _, rfl, rfl⟩
  · cases h
theorem bJ_inv {f : Int64 → Int64 → Value} {S S' : List Value} (h : bJ f S = some S') : ∃ x y r, S = .long y :: .long x :: r ∧ S' = f x y :: r := by
  unfold bJ at h; split at h
  · cases h; exact ⟨_, _, _, rfl, rfl⟩
  · cases h
theorem bD_inv {f : UInt64 → UInt64 → Value} {S S' : List Value} (h : bD f S = some S') : ∃ x y r, S = .double y :: .double x :: r ∧ S' = f x y :: r := by
  unfold bD at h; split at h
  · cases h; exact ⟨_, _, _, rfl, rfl⟩
  · cases h
theorem sJ_inv {f : Int64 → Int32 → Int64} {S S' : List Value} (h : sJ f S = some S') : ∃ x y r, S = .int y :: .long x :: r ∧ S' = .long (f x y) :: r := by
  unfold sJ at h; split at h
  · cases h; exact ⟨_, _, _, rfl, rfl⟩
  · cases h
theorem fdup_inv {S S' : List Value} (h : fdup S = some S') : ∃ x r, S = x :: r ∧ cat x = 1 ∧ S' = x :: x :: r := by
  unfold fdup at h; split at h
  · split at h
    · rename_i q; cases h; exact ⟨_, _, rfl, q, rfl⟩
    · cases h
  · cases h
theorem fpop_inv {S S' : List Value} (h : fpop S = some S') : ∃ x, S = x :: S' ∧ cat x = 1 := by
  unfold fpop at h; split at h
  · split at h
    · rename_i q; cases h; exact ⟨_, rfl, q⟩
    · cases h
  · cases h
theorem fdx1_inv {S S' : List Value} (h : fdx1 S = some S') : ∃ x y r, S = x :: y :: r ∧ cat x = 1 ∧ cat y = 1 ∧ S' = x :: y :: x :: r := by
  unfold fdx1 at h; split at h
  · split at h
    · rename_i q; cases h; exact ⟨_, _, _, rfl, q.1, q.2, rfl⟩
    · cases h
  · cases h
theorem fd2_inv {S S' : List Value} (h : fd2 S = some S') : (∃ x r, S = .long x :: r ∧ S' = .long x :: .long x :: r) ∨ ∃ x y r, S = x :: y :: r ∧ cat x = 1 ∧ cat y = 1 ∧ S' = x :: y :: x :: y :: r := by
  unfold fd2 at h; split at h
  · cases h; exact Or.inl ⟨_, _, rfl, rfl⟩
  · split at h
    · rename_i q; cases h; exact Or.inr ⟨_, _, _, rfl, q.1, q.2, rfl⟩
    · cases h
  · cases h
end Tr
section Plain
variable {p : Program} {l : Launch} {e : Env} {R : Room} {s : State} {m : MethodId} {args : Array Value} {below : List Frame} {meth : Method} {c : Code} {T : State} {locs : List Loc} {cells slots : Nat} {ρ : Nat → Addr}
set_option maxHeartbeats 4000000 in
theorem plain_ok (X : Stand p l e R s m args below meth c T locs cells slots) (hx : p.tables.exec = Jvm.exec) {i : Instr} {L L' : List Slot} {S S' : List Value} {pc : Nat} (h : plainI i L S = some (L', S')) (hd : decode c.code pc = .ok (i, ilen i)) {target : State}
    (hr : Steps p.tables e below (T.setTop (mkF m (pc + ilen i) (tL ρ L') (tS ρ S'))) target) : Steps p.tables e below (T.setTop (mkF m pc (tL ρ L) (tS ρ S))) target := by
  cases i
  case aconst_null => cases h; exact XS.aconstNull X.here hx rfl hd hr
  case iconst k => cases h; exact XS.iconst X.here hx rfl hd hr
  case bipush k => cases h; exact XS.bipush X.here hx rfl hd hr
  case sipush k => cases h; exact XS.sipush X.here hx rfl hd hr
  case lconst k => cases h; exact XT.lconst X.here hx rfl hd hr
  case iload k =>
    obtain ⟨v, h1, h2, rfl, rfl⟩ := ld_inv h
    obtain ⟨x, rfl⟩ := isI_inv h2
    exact XS.iload X.here hx rfl hd (tL_get h1) hr
  case iload_n k =>
    obtain ⟨v, h1, h2, rfl, rfl⟩ := ld_inv h
    obtain ⟨x, rfl⟩ := isI_inv h2
    exact XS.iloadN X.here hx rfl hd (tL_get h1) hr
  case lload k =>
    obtain ⟨v, h1, h2, rfl, rfl⟩ := ld_inv h
    obtain ⟨x, rfl⟩ := isJ_inv h2
    exact XT.lload X.here hx rfl hd (tL_get h1) hr
  case lload_n k =>
    obtain ⟨v, h1, h2, rfl, rfl⟩ := ld_inv h
    obtain ⟨x, rfl⟩ := isJ_inv h2
    exact XT.lloadN X.here hx rfl hd (tL_get h1) hr
  case dload k =>
    obtain ⟨v, h1, h2, rfl, rfl⟩ := ld_inv h
    obtain ⟨x, rfl⟩ := isD_inv h2
    exact XS.dload X.here hx rfl hd (tL_get h1) hr
  case dload_n k =>
    obtain ⟨v, h1, h2, rfl, rfl⟩ := ld_inv h
    obtain ⟨x, rfl⟩ := isD_inv h2
    exact XS.dloadN X.here hx rfl hd (tL_get h1) hr
  case dstore k =>
    obtain ⟨v, rfl, h1, h2, rfl⟩ := st2_inv h
    obtain ⟨x, rfl⟩ := isD_inv h1
    exact XS.dstore X.here hx rfl hd rfl (sl2 (v := .double x) h2 rfl) hr
  case dstore_n k =>
    obtain ⟨v, rfl, h1, h2, rfl⟩ := st2_inv h
    obtain ⟨x, rfl⟩ := isD_inv h1
    exact XS.dstoreN X.here hx rfl hd rfl (sl2 (v := .double x) h2 rfl) hr
  case dconst d =>
    cases h
    match d, hd, hr with
    | 0, hd, hr => exact XS.dconst0 X.here hx rfl hd rfl hr
    | 1, hd, hr => exact XS.dconst1 X.here hx rfl hd rfl hr
  case i2d =>
    obtain ⟨rfl, h'⟩ := keepL_inv h
    obtain ⟨x, r, rfl, rfl⟩ := uI_inv h'
    exact XS.i2dS X.here hx rfl hd rfl rfl hr
  case dcmp o =>
    obtain ⟨rfl, h'⟩ := keepL_inv h
    obtain ⟨x, y, r, rfl, rfl⟩ := bD_inv h'
    exact XS.dcmpS X.here hx rfl hd rfl rfl hr
  case aload k =>
    obtain ⟨v, h1, h2, rfl, rfl⟩ := ld_inv h
    exact XS.aload X.here hx rfl hd (tL_get h1) (isA_ref h2) hr
  case aload_n k =>
    obtain ⟨v, h1, h2, rfl, rfl⟩ := ld_inv h
    exact XS.aloadN X.here hx rfl hd (tL_get h1) (isA_ref h2) hr
  case istore k =>
    obtain ⟨v, o, rfl, h1, h2, h3, rfl⟩ := st1_inv h
    obtain ⟨x, rfl⟩ := isI_inv h1
    exact XS.istore X.here hx rfl hd rfl (sl1 (v := .int x) h2 h3 rfl) hr
  case istore_n k =>
    obtain ⟨v, o, rfl, h1, h2, h3, rfl⟩ := st1_inv h
    obtain ⟨x, rfl⟩ := isI_inv h1
    exact XS.istoreN X.here hx rfl hd rfl (sl1 (v := .int x) h2 h3 rfl) hr
  case astore k =>
    obtain ⟨v, o, rfl, h1, h2, h3, rfl⟩ := st1_inv h
    exact XS.astore X.here hx rfl hd rfl (isA_ref h1) (sl1 h2 h3 (isA_cat h1)) hr
  case astore_n k =>
    obtain ⟨v, o, rfl, h1, h2, h3, rfl⟩ := st1_inv h
    exact XS.astoreN X.here hx rfl hd rfl (isA_ref h1) (sl1 h2 h3 (isA_cat h1)) hr
  case lstore k =>
    obtain ⟨v, rfl, h1, h2, rfl⟩ := st2_inv h
    obtain ⟨x, rfl⟩ := isJ_inv h1
    exact XT.lstore X.here hx rfl hd rfl (sl2 (v := .long x) h2 rfl) hr
  case lstore_n k =>
    obtain ⟨v, rfl, h1, h2, rfl⟩ := st2_inv h
    obtain ⟨x, rfl⟩ := isJ_inv h1
    exact XT.lstoreN X.here hx rfl hd rfl (sl2 (v := .long x) h2 rfl) hr
  case iinc k c0 =>
    obtain ⟨x, h1, rfl, rfl⟩ := inc_inv h
    exact XS.iinc X.here hx rfl hd (tL_get h1) (sl1 (v := .int (x + Int32.ofInt c0)) h1 rfl rfl) hr
  case iadd =>
    obtain ⟨rfl, h'⟩ := keepL_inv h
    obtain ⟨x, y, r, rfl, rfl⟩ := bI_inv h'
    exact XS.iadd X.here hx rfl hd rfl hr
  case isub =>
    obtain ⟨rfl, h'⟩ := keepL_inv h
    obtain ⟨x, y, r, rfl, rfl⟩ := bI_inv h'
    exact XS.isub X.here hx rfl hd rfl hr
  case imul =>
    obtain ⟨rfl, h'⟩ := keepL_inv h
    obtain ⟨x, y, r, rfl, rfl⟩ := bI_inv h'
    exact XS.imul X.here hx rfl hd rfl hr
  case iand =>
    obtain ⟨rfl, h'⟩ := keepL_inv h
    obtain ⟨x, y, r, rfl, rfl⟩ := bI_inv h'
    exact XS.iand X.here hx rfl hd rfl hr
  case ior =>
    obtain ⟨rfl, h'⟩ := keepL_inv h
    obtain ⟨x, y, r, rfl, rfl⟩ := bI_inv h'
    exact XT.ior X.here hx rfl hd rfl hr
  case ixor =>
    obtain ⟨rfl, h'⟩ := keepL_inv h
    obtain ⟨x, y, r, rfl, rfl⟩ := bI_inv h'
    exact XT.ixor X.here hx rfl hd rfl hr
  case ishl =>
    obtain ⟨rfl, h'⟩ := keepL_inv h
    obtain ⟨x, y, r, rfl, rfl⟩ := bI_inv h'
    exact XT.ishl X.here hx rfl hd rfl hr
  case ishr =>
    obtain ⟨rfl, h'⟩ := keepL_inv h
    obtain ⟨x, y, r, rfl, rfl⟩ := bI_inv h'
    exact XT.ishr X.here hx rfl hd rfl hr
  case iushr =>
    obtain ⟨rfl, h'⟩ := keepL_inv h
    obtain ⟨x, y, r, rfl, rfl⟩ := bI_inv h'
    exact XT.iushr X.here hx rfl hd rfl hr
  case irem =>
    obtain ⟨rfl, h'⟩ := keepL_inv h
    obtain ⟨x, y, r, rfl, hy, rfl⟩ := dI_inv h'
    exact iremM X hx rfl hd rfl hy hr
  case idiv =>
    obtain ⟨rfl, h'⟩ := keepL_inv h
    obtain ⟨x, y, r, rfl, hy, rfl⟩ := dI_inv h'
    exact XS.idiv X.here hx rfl hd rfl hy hr
  case ineg =>
    obtain ⟨rfl, h'⟩ := keepL_inv h
    obtain ⟨x, r, rfl, rfl⟩ := uI_inv h'
    exact XS.ineg X.here hx rfl hd rfl hr
  case i2l =>
    obtain ⟨rfl, h'⟩ := keepL_inv h
    obtain ⟨x, r, rfl, rfl⟩ := uI_inv h'
    exact XT.i2l X.here hx rfl hd rfl hr
  case i2b =>
    obtain ⟨rfl, h'⟩ := keepL_inv h
    obtain ⟨x, r, rfl, rfl⟩ := uI_inv h'
    exact XT.i2b X.here hx rfl hd rfl hr
  case i2c =>
    obtain ⟨rfl, h'⟩ := keepL_inv h
    obtain ⟨x, r, rfl, rfl⟩ := uI_inv h'
    exact XT.i2c X.here hx rfl hd rfl hr
  case i2s =>
    obtain ⟨rfl, h'⟩ := keepL_inv h
    obtain ⟨x, r, rfl, rfl⟩ := uI_inv h'
    exact XT.i2s X.here hx rfl hd rfl hr
  case l2i =>
    obtain ⟨rfl, h'⟩ := keepL_inv h
    obtain ⟨x, r, rfl, rfl⟩ := uJ_inv h'
    exact XT.l2i X.here hx rfl hd rfl hr
  case ladd =>
    obtain ⟨rfl, h'⟩ := keepL_inv h
    obtain ⟨x, y, r, rfl, rfl⟩ := bJ_inv h'
    exact XT.ladd X.here hx rfl hd rfl hr
  case lsub =>
    obtain ⟨rfl, h'⟩ := keepL_inv h
    obtain ⟨x, y, r, rfl, rfl⟩ := bJ_inv h'
    exact XT.lsub X.here hx rfl hd rfl hr
  case lmul =>
    obtain ⟨rfl, h'⟩ := keepL_inv h
    obtain ⟨x, y, r, rfl, rfl⟩ := bJ_inv h'
    exact XT.lmul X.here hx rfl hd rfl hr
  case land =>
    obtain ⟨rfl, h'⟩ := keepL_inv h
    obtain ⟨x, y, r, rfl, rfl⟩ := bJ_inv h'
    exact XT.land X.here hx rfl hd rfl hr
  case lor =>
    obtain ⟨rfl, h'⟩ := keepL_inv h
    obtain ⟨x, y, r, rfl, rfl⟩ := bJ_inv h'
    exact XT.lor X.here hx rfl hd rfl hr
  case lxor =>
    obtain ⟨rfl, h'⟩ := keepL_inv h
    obtain ⟨x, y, r, rfl, rfl⟩ := bJ_inv h'
    exact XT.lxor X.here hx rfl hd rfl hr
  case lcmp =>
    obtain ⟨rfl, h'⟩ := keepL_inv h
    obtain ⟨x, y, r, rfl, rfl⟩ := bJ_inv h'
    exact XT.lcmp X.here hx rfl hd rfl hr
  case lshl =>
    obtain ⟨rfl, h'⟩ := keepL_inv h
    obtain ⟨x, y, r, rfl, rfl⟩ := sJ_inv h'
    exact XT.lshl X.here hx rfl hd rfl hr
  case lshr =>
    obtain ⟨rfl, h'⟩ := keepL_inv h
    obtain ⟨x, y, r, rfl, rfl⟩ := sJ_inv h'
    exact XT.lshr X.here hx rfl hd rfl hr
  case lushr =>
    obtain ⟨rfl, h'⟩ := keepL_inv h
    obtain ⟨x, y, r, rfl, rfl⟩ := sJ_inv h'
    exact XT.lushr X.here hx rfl hd rfl hr
  case dup =>
    obtain ⟨rfl, h'⟩ := keepL_inv h
    obtain ⟨x, r, rfl, hc, rfl⟩ := fdup_inv h'
    exact XS.dup X.here hx rfl hd rfl (by rw [cat_eq, cat_tv]; exact hc) hr
  case pop =>
    obtain ⟨rfl, h'⟩ := keepL_inv h
    obtain ⟨x, rfl, hc⟩ := fpop_inv h'
    exact XT.pop X.here hx rfl hd rfl (by rw [cat_eq, cat_tv]; exact hc) hr
  case dup_x1 =>
    obtain ⟨rfl, h'⟩ := keepL_inv h
    obtain ⟨x, y, r, rfl, hc, hc', rfl⟩ := fdx1_inv h'
    exact XT.dupX1 X.here hx rfl hd rfl (by rw [cat_eq, cat_tv]; exact hc) (by rw [cat_eq, cat_tv]; exact hc') hr
  case dup2 =>
    obtain ⟨rfl, h'⟩ := keepL_inv h
    rcases fd2_inv h' with ⟨x, r, rfl, rfl⟩ | ⟨x, y, r, rfl, hc, hc', rfl⟩
    · exact XT.dup2L X.here hx rfl hd rfl hr
    · exact XT.dup2 X.here hx rfl hd rfl (by rw [cat_eq, cat_tv]; exact hc) (by rw [cat_eq, cat_tv]; exact hc') hr
  all_goals (exact absurd h (fun q => by cases q))
theorem acmp_tv (inj : ∀ i j, ρ i = ρ j → i = j) (cd : ACond) {x y : Value} (h1 : isA x = true) (h2 : isA y = true) : XT.acmp cd (tv ρ x) (tv ρ y) = XT.acmp cd x y := by
  have e : (tv ρ x = tv ρ y) ↔ x = y := by
    rcases isA_inv h1 with rfl | ⟨a, rfl⟩ <;> rcases isA_inv h2 with rfl | ⟨b, rfl⟩
    · exact Iff.rfl
    · exact ⟨fun q => (by cases q), fun q => (by cases q)⟩
    · exact ⟨fun q => (by cases q), fun q => (by cases q)⟩
    · exact ⟨fun q => (by rw [inj _ _ (Value.ref.inj q)]), fun q => (by rw [q])⟩
  cases cd
  · show decide (tv ρ x = tv ρ y) = decide (x = y)
    exact decide_eq_decide.mpr e
  · show decide (tv ρ x ≠ tv ρ y) = decide (x ≠ y)
    exact decide_eq_decide.mpr (not_congr e)
theorem br_ok (inj : ∀ i j, ρ i = ρ j → i = j) (X : Stand p l e R s m args below meth c T locs cells slots) (hx : p.tables.exec = Jvm.exec) {i : Instr} {S r : List Value} {b : Bool} {o : Int} {pc pc' : Nat} {L : Array Slot} (h : brI i S = some (b, o, r)) (hd : decode c.code pc = .ok (i, ilen i))
    (hp : (b = true ∧ 0 ≤ (pc : Int) + o ∧ ((pc : Int) + o).toNat = pc') ∨ (b = false ∧ pc' = pc + ilen i)) {target : State}
    (hr : Steps p.tables e below (T.setTop (mkF m pc' L (tS ρ r))) target) : Steps p.tables e below (T.setTop (mkF m pc L (tS ρ S))) target := by
  cases i
  case goto o' =>
    cases h
    rcases hp with ⟨-, ho, hp⟩ | ⟨q, -⟩
    · exact XS.goto X.here hx rfl (pc0 := pc) rfl hd ho hp hr
    · cases q
  case ifCond cd o' =>
    simp only [brI] at h
    split at h
    · cases h
      rcases hp with ⟨hb, ho, hp⟩ | ⟨hb, rfl⟩
      · exact XS.ifYes X.here hx rfl (pc0 := pc) rfl hd rfl hb ho hp hr
      · exact XS.ifNo X.here hx rfl hd rfl hb hr
    · cases h
  case if_icmp cd o' =>
    simp only [brI] at h
    split at h
    · cases h
      rcases hp with ⟨hb, ho, hp⟩ | ⟨hb, rfl⟩
      · exact XS.icmpYes X.here hx rfl (pc0 := pc) rfl hd rfl hb ho hp hr
      · exact XS.icmpNo X.here hx rfl hd rfl hb hr
    · cases h
  case if_acmp cd o' =>
    simp only [brI] at h
    split at h
    · split at h
      · rename_i q
        simp only [Bool.and_eq_true] at q
        cases h
        rcases hp with ⟨hb, ho, hp⟩ | ⟨hb, rfl⟩
        · exact XT.acmpYes X.here hx rfl (pc0 := pc) rfl hd rfl (isA_ref q.1) (isA_ref q.2) (by rw [acmp_tv inj _ q.1 q.2]; exact hb) ho hp hr
        · exact XT.acmpNo X.here hx rfl hd rfl (isA_ref q.1) (isA_ref q.2) (by rw [acmp_tv inj _ q.1 q.2]; exact hb) hr
      · cases h
    · cases h
  case ifnull o' =>
    simp only [brI] at h
    split at h
    · cases h
      rcases hp with ⟨-, ho, hp⟩ | ⟨q, -⟩
      · exact XS.ifnullYes X.here hx rfl (pc0 := pc) rfl hd rfl ho hp hr
      · cases q
    · cases h
      rcases hp with ⟨q, -⟩ | ⟨-, rfl⟩
      · cases q
      · exact XS.ifnullNo X.here hx rfl hd rfl hr
    · cases h
  case ifnonnull o' =>
    simp only [brI] at h
    split at h
    · cases h
      rcases hp with ⟨q, -⟩ | ⟨-, rfl⟩
      · cases q
      · exact XT.ifnonnullNo X.here hx rfl hd rfl hr
    · cases h
      rcases hp with ⟨-, ho, hp⟩ | ⟨q, -⟩
      · exact XT.ifnonnullYes X.here hx rfl (pc0 := pc) rfl hd rfl ho hp hr
      · cases q
    · cases h
  all_goals (exact absurd h (fun q => by cases q))
end Plain
end Jvm.MM
namespace Jvm.MM
open Jvm Jvm.ClassFile Sem Op Lib Jvm.Free Jvm.Stand Jvm.LawKit Jvm.RoadKit
/-! ### the picture of the heap, what the tables must say -/
section Pics
variable (P : Prg) (Z : State) (a0 : Array Value) (ρ : Nat → Addr) (n0 : Nat)
def ObjOk (h : Heap) (i : Nat) : Obj → Prop
  | (.inl ty, vs) => ∃ c : Cell, Arr Z h (ρ i) c ty ∧ c.slots = (vs.map (tv ρ)).toArray ∧ (P.j0 ≤ i → ∀ C, ty = .object C → Ovr Z c.cls C)
  | (.inr cid, vs) => cid < P.cs.length → Exa Z h (ρ i) (P.cname cid) ∧ ∀ (q : Nat) (v : Value) (fd : String × String × String × FieldType), vs[q]? = some v → (P.flds cid)[q]? = some fd → Fld Z h (ρ i) fd.1 fd.2.1 fd.2.2.1 (tv ρ v)
def Pic (h : Heap) (H : Hp) : Prop := P.j0 ≤ H.length ∧ h.size = n0 + (H.length - P.j0) ∧ (∀ (i : Nat) (o : Obj), H[i]? = some o → ObjOk P Z ρ h i o) ∧ ∀ q ∈ P.sv, Sta Z h q.1 q.2.1 q.2.2.1 (tv ρ q.2.2.2)
def RhoOk : Prop := (∀ i, P.j0 ≤ i → ρ i = n0 + (i - P.j0)) ∧ ∀ i j, ρ i = ρ j → i = j
def Wd (d : Jvm.Cond) : Prop := d.before a0 Z = true
def ClsOk (C : Cls) : Prop := Wd Z a0 (.instantiable C.1 C.2.1) ∧ (∀ fd ∈ C.2.2, Laid Z a0 C.1 fd.1 fd.2.1 fd.2.2.1 ∧ parseFieldDescriptor fd.2.2.1 = some fd.2.2.2) ∧ (C.2.2.map fun fd => fd.2.1).Nodup
def LnkOk (j idx : Nat) (O n d : String) : Prop := ∃ R0, Wd Z a0 (.fieldLink (P.mt j).y.cls idx R0 n d) ∧ Via Z R0 O n d
def FlOk (x : Nat × Nat × Nat × Nat) : Prop := ∃ fd, (P.flds x.2.2.1)[x.2.2.2]? = some fd ∧ LnkOk P Z a0 x.1 x.2.1 fd.1 fd.2.1 fd.2.2.1
def FwOk (x : Nat × Nat × Nat × Nat) : Prop := ∃ C, P.cs[x.2.2.1]? = some C ∧ ClsOk Z a0 C ∧ ∃ fd, C.2.2[x.2.2.2]? = some fd ∧ LnkOk P Z a0 x.1 x.2.1 fd.1 fd.2.1 fd.2.2.1 ∧ (Wd Z a0 (.lays C.1 fd.1 fd.2.1 fd.2.2.1) ∨ (Wd Z a0 (.laysFinal C.1 fd.1 fd.2.1 fd.2.2.1) ∧ (P.mt x.1).y.cls = fd.1 ∧ (P.mt x.1).y.name = "<init>"))
def SfOk (x : Nat × Nat × Nat) : Prop := ∃ d, P.sv[x.2.2]? = some d ∧ LnkOk P Z a0 x.1 x.2.1 d.1 d.2.1 d.2.2.1
def NwOk (x : Nat × Nat × Nat) : Prop := ∃ C, P.cs[x.2.2]? = some C ∧ ClsOk Z a0 C ∧ Wd Z a0 (.classLink (P.mt x.1).y.cls x.2.1 C.1) ∧ Wd Z a0 (.initialized C.1)
def NaOk (x : Nat × Nat × Nat) : Prop := Wd Z a0 (.classLink (P.mt x.1).y.cls x.2.1 (P.cname x.2.2)) ∧ Wd Z a0 (.arrayOver (.object (P.cname x.2.2)))
def CaOk (x : Nat × Nat × Kd × Bool) : Prop := ∃ K, Wd Z a0 (.classLink (P.mt x.1).y.cls x.2.1 K) ∧ (∀ (h : Heap) (i : Nat) (vs : List Value), ObjOk P Z ρ h i (x.2.2.1, vs) → Ins Z h (ρ i) K x.2.2.2) ∧ (x.2.2.2 = false → ∃ cid, x.2.2.1 = .inr cid ∧ cid < P.cs.length)
def KiOk (x : Nat × Nat × Int32) : Prop := Wd Z a0 (.constant (P.mt x.1).y.cls x.2.1 x.2.2)
def KlOk (x : Nat × Nat × Int64) : Prop := Wd Z a0 (.constantLong (P.mt x.1).y.cls x.2.1 x.2.2)
abbrev noMH (c : String) : Prop := c ≠ "java/lang/invoke/MethodHandle" ∧ c ≠ "java/lang/invoke/VarHandle"
def MthOk (M : Mth) : Prop := Wd Z a0 (.code M.y M.code M.mx M.ret) ∧ Wd Z a0 (.initialized M.y.cls) ∧ plainFor M.y = true ∧ noMH M.y.cls
def Arity (d : String) (np : Nat) : Prop := ∀ sig, parseMethodDescriptor d = some sig → np = sig.parameters.length
def IcOk (x : Nat × Nat × Nat × Nat × Nat) : Prop :=
  match x with
  | (j, idx, 0, np, j') => Wd Z a0 (.methodLink (P.mt j).y.cls idx (P.mt j').y) ∧ Wd Z a0 (.static (P.mt j').y) ∧ MthOk Z a0 (P.mt j') ∧ Arity (P.mt j').y.desc np
  | (j, idx, 1, np, j') => (P.mt j').y.name = "<init>" ∧ Wd Z a0 (.methodLink (P.mt j).y.cls idx (P.mt j').y) ∧ Wd Z a0 (.instanceMethod (P.mt j').y) ∧ MthOk Z a0 (P.mt j') ∧ (P.mt j').ret = none ∧ Arity (P.mt j').y.desc np
  | (j, idx, 6, _, _) => Wd Z a0 (.methodLink (P.mt j).y.cls idx Lib.objectInit) ∧ Wd Z a0 (.instanceMethod Lib.objectInit) ∧ Wd Z a0 (.code Lib.objectInit ⟨#[0xb1]⟩ 1 none)
  | _ => True
def NfOk (y : MethodName) : Prop := (∃ C, Wd Z a0 (.selects C y y)) ∨ (∃ S, Wd Z a0 (.superclass y.cls S)) ∨ Wd Z a0 (.noSuperclass y.cls)
def VcOk (x : Nat × Nat × Nat × Nat × Nat) : Prop :=
  match x with
  | (j, idx, cid, np, j') => ∃ y : MethodName, Wd Z a0 (.methodLink (P.mt j).y.cls idx y) ∧ Wd Z a0 (.declares y) ∧ NfOk Z a0 y ∧ Wd Z a0 (.selects (P.cname cid) y (P.mt j').y) ∧ Wd Z a0 (.instanceMethod (P.mt j').y) ∧ MthOk Z a0 (P.mt j') ∧ noMH y.cls ∧ Arity y.desc np ∧ cid < P.cs.length
def PrgOk : Prop := (∀ x ∈ P.fl, FlOk P Z a0 x) ∧ (∀ x ∈ P.fw, FwOk P Z a0 x) ∧ (∀ x ∈ P.sf, SfOk P Z a0 x) ∧ (∀ x ∈ P.nw, NwOk P Z a0 x) ∧ (∀ x ∈ P.na, NaOk P Z a0 x) ∧ (∀ ty ∈ P.ats, Wd Z a0 (.arrayClass ty)) ∧ (∀ x ∈ P.ca, CaOk P Z a0 ρ x) ∧ (∀ x ∈ P.ki, KiOk P Z a0 x) ∧ (∀ x ∈ P.kl, KlOk P Z a0 x) ∧ (∀ x ∈ P.ic, IcOk P Z a0 x) ∧ ∀ x ∈ P.vc, VcOk P Z a0 x
def Ctx (j : Nat) (p : Program) (s : State) (m : MethodId) (meth : Method) (c : Code) : Prop := p.tables.exec = Jvm.exec ∧ Z.Warmed39 s.vm ∧ s.vm.findClass (P.mt j).y.cls = some m.cls ∧ c.code = (P.mt j).code ∧ c.maxLocals = (P.mt j).mx ∧ meth.sig.returnType = (P.mt j).ret ∧ meth.name = (P.mt j).y.name ∧ meth.locks = false
end Pics
section PicLaws
variable {P : Prg} {Z : State} {a0 : Array Value} {ρ : Nat → Addr} {n0 : Nat} {h h' : Heap} {H : Hp}
theorem ObjOk.ext (E : Ext h h') {i : Nat} {o : Obj} (K : ObjOk P Z ρ h i o) : ObjOk P Z ρ h' i o := by
  obtain ⟨kd, vs⟩ := o
  cases kd with
  | inl ty => obtain ⟨c, k1, k2, k3⟩ := K; exact ⟨c, k1.ext E, k2, k3⟩
  | inr cid => exact fun hl => ⟨(K hl).1.ext E, fun q v fd h1 h2 => ((K hl).2 q v fd h1 h2).ext E⟩
theorem ObjOk.other {b : Addr} {sl : Nat} {v : Value} (W : Wr h h' b sl v) {i : Nat} {o : Obj} (hne : ρ i ≠ b) (K : ObjOk P Z ρ h i o) : ObjOk P Z ρ h' i o := by
  obtain ⟨kd, vs⟩ := o
  cases kd with
  | inl ty => obtain ⟨c, k1, k2, k3⟩ := K; exact ⟨c, k1.other W hne, k2, k3⟩
  | inr cid => exact fun hl => ⟨(K hl).1.wr W, fun q v fd h1 h2 => ((K hl).2 q v fd h1 h2).other W (Or.inl hne)⟩
theorem Pic.push (K : Pic P Z ρ n0 h H) (E : Ext h h') (hs : h'.size = h.size + 1) {o : Obj} (ho : ObjOk P Z ρ h' H.length o) : Pic P Z ρ n0 h' (H ++ [o]) := by
  obtain ⟨k1, k2, k3, k4⟩ := K
  refine ⟨by simp only [List.length_append, List.length_cons, List.length_nil]; omega, by simp only [List.length_append, List.length_cons, List.length_nil]; omega, fun i o' hi => ?_, fun q hq => (k4 q hq).ext E⟩
  by_cases hl : i < H.length
  · rw [List.getElem?_append_left hl] at hi
    exact (k3 i o' hi).ext E
  · rw [List.getElem?_append_right (by omega)] at hi
    obtain ⟨hi1, hi2⟩ := List.getElem?_eq_some_iff.mp hi
    simp only [List.length_cons, List.length_nil] at hi1
    have e : i = H.length := by omega
    subst e
    simp at hi2
    subst hi2
    exact ho
theorem Pic.addr (RO : RhoOk P ρ n0) (K : Pic P Z ρ n0 h H) : ρ H.length = h.size := by
  rw [RO.1 _ K.1, K.2.1]
theorem Pic.write (RO : RhoOk P ρ n0) (K : Pic P Z ρ n0 h H) {a sl : Nat} {v : Value} (W : Wr h h' (ρ a) sl v) {o o' : Obj} (ha : H[a]? = some o) (ho : ObjOk P Z ρ h' a o') : Pic P Z ρ n0 h' (H.set a o') := by
  obtain ⟨k1, k2, k3, k4⟩ := K
  refine ⟨by simpa using k1, by rw [W.size, List.length_set]; exact k2, fun i u hi => ?_, fun q hq => (k4 q hq).wr W⟩
  by_cases e : a = i
  · subst e
    rw [List.getElem?_set_self (List.getElem?_eq_some_iff.mp ha).1] at hi
    cases hi
    exact ho
  · rw [List.getElem?_set_ne e] at hi
    exact (k3 i u hi).other W fun q => e (RO.2 _ _ q).symm
theorem dft_eq (ty : FieldType) : dft ty = defaultValue ty := by cases ty <;> rfl
theorem tv_dft (ty : FieldType) : tv ρ (dft ty) = defaultValue ty := by cases ty <;> rfl
theorem vty_ok {ty : FieldType} {v v' : Value} (h : vty ty v = some v') : narrow ty (tv ρ v) = tv ρ v' ∧ fits ty (tv ρ v') = true := by
  cases ty
  case boolean => cases v <;> cases h; exact ⟨rfl, fits_nar_bool _⟩
  case byte => cases v <;> cases h; exact ⟨rfl, fits_nar_byte _⟩
  case char => cases v <;> cases h; exact ⟨rfl, fits_nar_char _⟩
  case short => cases v <;> cases h; exact ⟨rfl, fits_nar_short _⟩
  case int => cases v <;> cases h; exact ⟨rfl, rfl⟩
  case long => cases v <;> cases h; exact ⟨rfl, rfl⟩
  case double => cases v <;> cases h; exact ⟨rfl, rfl⟩
  case float => cases v <;> cases h
  case object c =>
    cases v <;> cases h
    · exact ⟨rfl, rfl⟩
    · exact ⟨rfl, rfl⟩
  case array c =>
    cases v <;> cases h
    · exact ⟨rfl, rfl⟩
    · exact ⟨rfl, rfl⟩
theorem fl_lt {P : Prg} {cid q : Nat} {fd : String × String × String × FieldType} (h : (P.flds cid)[q]? = some fd) : cid < P.cs.length := by
  unfold Prg.flds at h
  split at h
  · rename_i hC
    exact (List.getElem?_eq_some_iff.mp hC).1
  · simp at h
theorem cname_of {P : Prg} {cid : Nat} {C : Cls} (h : P.cs[cid]? = some C) : P.cname cid = C.1 ∧ P.flds cid = C.2.2 ∧ P.nsl cid = C.2.1 := by
  simp only [Prg.cname, Prg.flds, Prg.nsl, h]; exact ⟨trivial, trivial, trivial⟩
end PicLaws
section NewLaws
variable {p : Program} {l : Launch} {e : Env} {R : Room} {s : State} {m : MethodId} {args : Array Value} {below : List Frame} {meth : Method} {c : Code} {T : State} {locs : List Loc} {cells slots : Nat} {Z : State} {a0 : Array Value}
theorem ext_push (h : Heap) (x : Cell) : Ext h (h.push x) := ⟨by simp, fun a c q => by rw [Array.getElem?_push_lt (Array.getElem?_eq_some_iff.mp q).1]; exact (Array.getElem?_eq_getElem _).symm.trans q⟩
theorem newO1 (X : Stand p l e R s m args below meth c T locs cells slots) (hx : p.tables.exec = Jvm.exec) (hZ : Z.Warmed39 s.vm) {own C : String} {index n : Nat} (hown : s.vm.findClass own = some m.cls) (w : (Jvm.Cond.classLink own index C).before a0 Z = true) (wi : (Jvm.Cond.instantiable C n).before a0 Z = true) (wz : (Jvm.Cond.initialized C).before a0 Z = true)
    {g : JFrame} (hg : g.method = m) (hd : decode c.code g.pc = .ok (.new index, 3)) (hc : cells + 1 ≤ R.cells) (hl : slots + n ≤ R.slots) :
    ∃ T', Stand p l e R s m args below meth c T' locs (cells + 1) (slots + n) ∧ Ext T.heap T'.heap ∧ T'.heap.size = T.heap.size + 1 ∧ Exa Z T'.heap T.heap.size C ∧ (∀ {O nm d : String} {ty : FieldType}, Laid Z a0 C O nm d → parseFieldDescriptor d = some ty → Fld Z T'.heap T.heap.size O nm d (defaultValue ty)) ∧
      ∀ target, Steps p.tables e below (T'.setTop { g with pc := g.pc + 3, stack := .ref T.heap.size :: g.stack }) target → Steps p.tables e below (T.setTop g) target := by
  obtain ⟨vm', cC, kC, h1, h2, h3, h4, X', st⟩ := X.newCold hx hown (mv hZ w) (mv hZ wi) (mv hZ wz) hg hd hc hl
  rw [hZ.alike.findClass] at h1
  obtain ⟨kZ, z1, -⟩ := Vm.findClass_spec h1
  obtain ⟨k', z2, z3⟩ := hZ.alike.2.2 _ _ z1
  cases h2.symm.trans z2
  have ei : kC.instanceTypes = kZ.instanceTypes := by rw [z3]
  have hN : (T.heap.push { cls := cC, slots := kC.instanceTypes.map defaultValue, vm := .none })[T.heap.size]? = some { cls := cC, slots := kC.instanceTypes.map defaultValue, vm := .none } := by simp
  refine ⟨_, X', ext_push T.heap _, ?_, ⟨_, kZ, hN, h1, z1, rfl, fun _ => by simp [ei]⟩, fun {O nm d ty} L ht => ?_, st⟩
  · show (T.heap.push _).size = _
    simp
  · obtain ⟨c1, k1, cf, kf, i, f, a1, a2, a3, a4, a5, a6, -⟩ := L.spec
    cases h1.symm.trans a1
    cases z1.symm.trans a2
    exact ⟨_, cf, kf, i, f, hN, a3, a4, by simp, rfl, a5, by simp [ei, a6, (State.fieldFound?_type a3 ht).2]⟩
theorem newP1 (X : Stand p l e R s m args below meth c T locs cells slots) (hx : p.tables.exec = Jvm.exec) (hZ : Z.Warmed39 s.vm) {aty : ArrayType} (w : (Jvm.Cond.arrayClass (newarray.typeOf aty)).before a0 Z = true) {g : JFrame} (hg : g.method = m) (hd : decode c.code g.pc = .ok (.newarray aty, 2)) {n : Int32} {rest : List Value} (hs : g.stack = .int n :: rest)
    (hn : ¬ n < 0) {cap : Nat} (hcap : n.toNatClampNeg ≤ cap) (hb : cap * 8 ≤ 536870912) (hc : cells + 1 ≤ R.cells) (hl : slots + cap ≤ R.slots) :
    ∃ T' cA, Stand p l e R s m args below meth c T' locs (cells + 1) (slots + cap) ∧ Ext T.heap T'.heap ∧ T'.heap.size = T.heap.size + 1 ∧ Arr Z T'.heap T.heap.size (RoadKit.newA cA (newarray.typeOf aty) n) (newarray.typeOf aty) ∧
      ∀ target, Steps p.tables e below (T'.setTop { g with pc := g.pc + 2, stack := .ref T.heap.size :: rest }) target → Steps p.tables e below (T.setTop g) target := by
  have hcb : componentBytes (newarray.typeOf aty) ≤ 8 := by cases aty <;> decide
  obtain ⟨cA, kA, comp, h1, h2, h3, X', st⟩ := X.newarrayPrim hx (mvA hZ w) hg hd hs hn (Nat.le_trans (Nat.mul_le_mul hcap hcb) hb) hc (by omega)
  rw [hZ.alike.findClass] at h1
  obtain ⟨kZ, z1, -⟩ := Vm.findClass_spec h1
  obtain ⟨k', z2, z3⟩ := hZ.alike.2.2 _ _ z1
  cases h2.symm.trans z2
  refine ⟨_, cA, X'.more (Nat.le_refl _) (by omega), ext_push T.heap _, ?_, ⟨?_, ⟨by simp [RoadKit.newA], kZ, z1, comp, by rw [← h3, z3]⟩, by simp [RoadKit.newA]⟩, st⟩
  · show (T.heap.push _).size = _
    simp
  · show (T.heap.push _)[T.heap.size]? = _
    simp [RoadKit.newA]
theorem newR1 (X : Stand p l e R s m args below meth c T locs cells slots) (hx : p.tables.exec = Jvm.exec) (hZ : Z.Warmed39 s.vm) {own C : String} {index : Nat} (hown : s.vm.findClass own = some m.cls) (w1 : (Jvm.Cond.classLink own index C).before a0 Z = true) (w2 : (Jvm.Cond.arrayOver (.object C)).before a0 Z = true)
    {g : JFrame} (hg : g.method = m) (hd : decode c.code g.pc = .ok (.anewarray index, 3)) {n : Int32} {rest : List Value} (hs : g.stack = .int n :: rest) (hn : ¬ n < 0) {cap : Nat} (hcap : n.toNatClampNeg ≤ cap) (hb : cap * 8 ≤ 536870912) (hc : cells + 1 ≤ R.cells) (hl : slots + cap ≤ R.slots) :
    ∃ T' cA, Stand p l e R s m args below meth c T' locs (cells + 1) (slots + cap) ∧ Ext T.heap T'.heap ∧ T'.heap.size = T.heap.size + 1 ∧ Arr Z T'.heap T.heap.size (RoadKit.newA cA (.object C) n) (.object C) ∧ Ovr Z cA C ∧
      ∀ target, Steps p.tables e below (T'.setTop { g with pc := g.pc + 3, stack := .ref T.heap.size :: rest }) target → Steps p.tables e below (T.setTop g) target := by
  have w2' : (Jvm.Cond.arrayOver (.object C)).before args s = true := Jvm.Cond.arrayOver_alike hZ.alike w2
  obtain ⟨vm₁, cA, kA, comp, -, h1, h2, h3, h4, X', st⟩ := X.anewarrayRefK hx hown (mv hZ w1) w2' hg hd hs hn (by omega) hc (by omega)
  rw [hZ.alike.findClass] at h1
  obtain ⟨kZ, z1, -⟩ := Vm.findClass_spec h1
  obtain ⟨k', z2, z3⟩ := hZ.alike.2.2 _ _ z1
  cases h2.symm.trans z2
  refine ⟨_, cA, X'.more (Nat.le_refl _) (by omega), ext_push T.heap _, ?_, ⟨?_, ⟨by simp [RoadKit.newA], kZ, z1, comp, by rw [← h3, z3]⟩, by simp [RoadKit.newA]⟩, ⟨kZ, comp, z1, by rw [← h3, z3], by rw [← hZ.alike.findClass]; exact h4⟩, st⟩
  · show (T.heap.push _).size = _
    simp
  · show (T.heap.push _)[T.heap.size]? = _
    simp [RoadKit.newA, defaultValue]
end NewLaws
/-! ### the steps over the heap -/
section HeapLaws
variable {P : Prg} {Z : State} {a0 : Array Value} {ρ : Nat → Addr} {n0 : Nat} {H : Hp} {p : Program} {l : Launch} {e : Env} {s : State} {m : MethodId} {args : Array Value} {below : List Frame} {meth : Method} {c : Code} {T : State} {locs : List Loc} {k n j pc : Nat} {L : List Slot}
/-- what a step over the heap leaves -/
def Leaves (P : Prg) (l : Launch) (Z : State) (ρ : Nat → Addr) (n0 j : Nat) (p : Program) (e : Env) (s : State) (m : MethodId) (args : Array Value) (below : List Frame) (meth : Method) (c : Code) (T : State) (pc pc' : Nat) (L L' : List Slot) (S S' : List Value) (H' : Hp) (k' n' : Nat) : Prop :=
  ∃ T' locs', Stand p l e (P.mt j).rm s m args below meth c T' locs' k' n' ∧ Pic P Z ρ n0 T'.heap H' ∧ Fr n0 locs' ∧ ∀ target, Steps p.tables e below (T'.setTop (mkF m pc' (tL ρ L') (tS ρ S'))) target → Steps p.tables e below (T.setTop (mkF m pc (tL ρ L) (tS ρ S))) target
theorem get_ok (PO : PrgOk P Z a0 ρ) (C : Ctx P Z j p s m meth c) (X : Stand p l e (P.mt j).rm s m args below meth c T locs k n) (K : Pic P Z ρ n0 T.heap H) (N : Fr n0 locs) {idx a : Nat} {v : Value} {r : List Value} (h : rdF P j idx H a = some v) (hd : decode c.code pc = .ok (.getfield idx, 3)) :
    Leaves P l Z ρ n0 j p e s m args below meth c T pc (pc + 3) L L (.ref a :: r) (v :: r) H k n := by
  obtain ⟨hx, hZ, hown, -⟩ := C
  unfold rdF at h
  split at h
  · rename_i o ho
    unfold rdO at h
    split at h
    · rename_i cid vs
      split at h
      · rename_i q hq
        obtain ⟨fd, f1, R0, w, via⟩ := PO.1 _ (lk3_mem hq)
        have F := (K.2.2.1 a _ ho (fl_lt f1)).2 q v fd h f1
        obtain ⟨T', X', e', st⟩ := getF X hx hZ hown (host := "") (Or.inl w) via rfl F (g := mkF m pc (tL ρ L) (tS ρ (.ref a :: r))) rfl rfl hd
        exact ⟨T', locs, X', by rw [e']; exact K, N, st⟩
      · cases h
    · cases h
  · cases h
theorem nodup_ne {fs : Fds} (hn : (fs.map fun fd => fd.2.1).Nodup) {q q' : Nat} {fd fd' : String × String × String × FieldType} (h : fs[q]? = some fd) (h' : fs[q']? = some fd') (ne : q ≠ q') : fd.2.1 ≠ fd'.2.1 := fun e => by
  obtain ⟨h1, h2⟩ := List.getElem?_eq_some_iff.mp h
  obtain ⟨g1, g2⟩ := List.getElem?_eq_some_iff.mp h'
  have := (List.getElem_inj (i := q) (j := q') (h₀ := by simpa using h1) (h₁ := by simpa using g1) hn).mp (by simp [h2, g2, e])
  exact ne this
theorem put_ok (PO : PrgOk P Z a0 ρ) (RO : RhoOk P ρ n0) (C : Ctx P Z j p s m meth c) (X : Stand p l e (P.mt j).rm s m args below meth c T locs k n) (K : Pic P Z ρ n0 T.heap H) (N : Fr n0 locs) {idx a : Nat} {v : Value} {r : List Value} {H' : Hp} (h : wrF P j idx H a v = some H') (hd : decode c.code pc = .ok (.putfield idx, 3)) :
    Leaves P l Z ρ n0 j p e s m args below meth c T pc (pc + 3) L L (v :: .ref a :: r) r H' k n := by
  obtain ⟨hx, hZ, hown, -, -, -, hnm, -⟩ := C
  unfold wrF at h
  split at h
  · cases h
  · rename_i hj
    split at h
    · rename_i o ho
      split at h
      · rename_i o' ho'
        cases h
        unfold wrO at ho'
        split at ho'
        · rename_i cid vs
          split at ho'
          · rename_i q hq
            split at ho'
            · rename_i fd hfd
              split at ho'
              · rename_i v' hv'
                split at ho'
                · rename_i hlt
                  cases ho'
                  obtain ⟨C, c1, ⟨wi, wl, wn⟩, fd', f1, ⟨R0, w, via⟩, f3⟩ := PO.2.1 _ (lk3_mem hq)
                  dsimp only at c1 f1 w via f3
                  obtain ⟨e1, e2, e3⟩ := cname_of c1
                  rw [e2] at hfd
                  cases f1.symm.trans hfd
                  obtain ⟨E, F⟩ := K.2.2.1 a _ ho (List.getElem?_eq_some_iff.mp c1).1
                  rw [e1] at E
                  rw [e2] at F
                  obtain ⟨u, hu⟩ : ∃ u, vs[q]? = some u := ⟨_, List.getElem?_eq_getElem hlt⟩
                  have Fq := F q u fd hu f1
                  obtain ⟨b1, b2⟩ := vty_ok (ρ := ρ) hv'
                  have lq := wl fd (List.mem_of_getElem? f1)
                  obtain ⟨T', h', X', e', W, st⟩ := putFN X hx hZ hown w via rfl Fq E (f3.imp id fun t => ⟨t.1, t.2.1, hnm.trans t.2.2⟩) wi lq.2 b1 b2 (g := mkF m pc (tL ρ L) (tS ρ (v :: .ref a :: r))) rfl rfl hd
                  have ge : n0 ≤ ρ a := by rw [RO.1 a (by omega)]; omega
                  refine ⟨T', _, X', ?_, Fr.snoc X' N ge, st⟩
                  rw [e']
                  refine K.write RO W ho fun _ => ⟨by rw [e1]; exact E.wr W, fun q' v'' fd'' g1 g2 => ?_⟩
                  rw [e2] at g2
                  by_cases eq : q = q'
                  · subst eq
                    cases f1.symm.trans g2
                    rw [List.getElem?_set_self hlt] at g1
                    cases g1
                    exact Fq.same W
                  · rw [List.getElem?_set_ne eq] at g1
                    have l2 := wl fd'' (List.mem_of_getElem? g2)
                    exact (F q' v'' fd'' g1 g2).other W (Or.inr (slot_ne l2.1 lq.1 (nodup_ne wn g2 f1 (Ne.symm eq)) l2.2 lq.2))
                · cases ho'
              · cases ho'
            · cases ho'
          · cases ho'
        · cases ho'
      · cases h
    · cases h
theorem new_ok (PO : PrgOk P Z a0 ρ) (RO : RhoOk P ρ n0) (C : Ctx P Z j p s m meth c) (X : Stand p l e (P.mt j).rm s m args below meth c T locs k n) (K : Pic P Z ρ n0 T.heap H) (N : Fr n0 locs) {idx : Nat} {S : List Value} {x : Hp × Nat × Nat} (h : newC P j idx H k n = some x) (hd : decode c.code pc = .ok (.new idx, 3)) :
    Leaves P l Z ρ n0 j p e s m args below meth c T pc (pc + 3) L L S (.ref H.length :: S) x.1 x.2.1 x.2.2 := by
  obtain ⟨hx, hZ, hown, -⟩ := C
  unfold newC at h
  split at h
  · rename_i cid hq
    split at h
    · rename_i hc
      cases h
      obtain ⟨C, c1, ⟨wi, wl, wn⟩, w1, w2⟩ := PO.2.2.2.1 _ (lk2_mem hq)
      dsimp only at c1 w1 w2
      obtain ⟨e1, e2, e3⟩ := cname_of c1
      rw [e3] at hc
      obtain ⟨T', X', E, hsz, A, D, st⟩ := newO1 X hx hZ hown w1 wi w2 (g := mkF m pc (tL ρ L) (tS ρ S)) rfl hd hc.1 hc.2
      have ad := K.addr RO
      rw [← ad] at A D st
      refine ⟨T', locs, by rw [e3]; exact X', K.push E hsz (fun _ => ⟨by rw [e1]; exact A, fun q v fd g1 g2 => ?_⟩), N, st⟩
      rw [e2] at g1 g2
      simp only [List.getElem?_map, g2, Option.map_some, Option.some.injEq] at g1
      subst g1
      have lq := wl fd (List.mem_of_getElem? g2)
      rw [tv_dft]
      exact D lq.1 lq.2
    · cases h
  · cases h
theorem slots_new (cA : ClassId) (ty : FieldType) (len : Int32) : (RoadKit.newA cA ty len).slots = ((List.replicate len.toNatClampNeg (dft ty)).map (tv ρ)).toArray := by
  apply Array.toList_inj.mp
  simp [RoadKit.newA, tv_dft]
theorem newP_ok (PO : PrgOk P Z a0 ρ) (RO : RhoOk P ρ n0) (C : Ctx P Z j p s m meth c) (X : Stand p l e (P.mt j).rm s m args below meth c T locs k n) (K : Pic P Z ρ n0 T.heap H) (N : Fr n0 locs) {t : ArrayType} {len : Int32} {r : List Value} {x : Hp × Nat × Nat} (ht : newarray.typeOf t ∈ P.ats) (h : newA P j pc (newarray.typeOf t) len H k n = some x) (hd : decode c.code pc = .ok (.newarray t, 2)) :
    Leaves P l Z ρ n0 j p e s m args below meth c T pc (pc + 2) L L (.int len :: r) (.ref H.length :: r) x.1 x.2.1 x.2.2 := by
  obtain ⟨hx, hZ, hown, -⟩ := C
  unfold newA at h
  split at h
  · rename_i cap hq
    split at h
    · rename_i hc
      cases h
      obtain ⟨T', cA, X', E, hsz, A, st⟩ := newP1 X hx hZ (PO.2.2.2.2.2.1 _ ht) (g := mkF m pc (tL ρ L) (tS ρ (.int len :: r))) rfl hd rfl hc.1 hc.2.1 hc.2.2.1 hc.2.2.2.1 hc.2.2.2.2
      have ad := K.addr RO
      rw [← ad] at A st
      exact ⟨T', locs, X', K.push E hsz ⟨_, A, slots_new _ _ _, fun _ C0 hC => by cases t <;> cases hC⟩, N, st⟩
    · cases h
  · cases h
theorem newR_ok (PO : PrgOk P Z a0 ρ) (RO : RhoOk P ρ n0) (C : Ctx P Z j p s m meth c) (X : Stand p l e (P.mt j).rm s m args below meth c T locs k n) (K : Pic P Z ρ n0 T.heap H) (N : Fr n0 locs) {idx cid : Nat} {len : Int32} {r : List Value} {x : Hp × Nat × Nat} (hq : lk2 P.na j idx = some cid) (h : newA P j pc (.object (P.cname cid)) len H k n = some x) (hd : decode c.code pc = .ok (.anewarray idx, 3)) :
    Leaves P l Z ρ n0 j p e s m args below meth c T pc (pc + 3) L L (.int len :: r) (.ref H.length :: r) x.1 x.2.1 x.2.2 := by
  obtain ⟨hx, hZ, hown, -⟩ := C
  unfold newA at h
  split at h
  · split at h
    · rename_i hc
      cases h
      obtain ⟨w1, w2⟩ := PO.2.2.2.2.1 _ (lk2_mem hq)
      obtain ⟨T', cA, X', E, hsz, A, O, st⟩ := newR1 X hx hZ hown w1 w2 (g := mkF m pc (tL ρ L) (tS ρ (.int len :: r))) rfl hd rfl hc.1 hc.2.1 hc.2.2.1 hc.2.2.2.1 hc.2.2.2.2
      have ad := K.addr RO
      rw [← ad] at A st
      exact ⟨T', locs, X', K.push E hsz ⟨_, A, slots_new _ _ _, fun _ C0 hC => by cases hC; exact O⟩, N, st⟩
    · cases h
  · cases h
theorem len_ok (C : Ctx P Z j p s m meth c) (X : Stand p l e (P.mt j).rm s m args below meth c T locs k n) (K : Pic P Z ρ n0 T.heap H) (N : Fr n0 locs) {a : Nat} {v : Int32} {r : List Value} (h : alen H a = some v) (hd : decode c.code pc = .ok (.arraylength, 1)) :
    Leaves P l Z ρ n0 j p e s m args below meth c T pc (pc + 1) L L (.ref a :: r) (.int v :: r) H k n := by
  obtain ⟨hx, hZ, hown, -⟩ := C
  unfold alen at h
  split at h
  · rename_i ty vs ho
    cases h
    obtain ⟨cl, A, hs, -⟩ := K.2.2.1 a _ ho
    have es : cl.slots.size = vs.length := by rw [hs]; simp
    refine ⟨T, locs, X, K, N, fun target hr => X.arraylength hx A.1 (State.isArrayOf_alike hZ.alike A.2.1) (g := mkF m pc (tL ρ L) (tS ρ (.ref a :: r))) rfl rfl hd target ?_⟩
    rw [es]
    exact hr
  · cases h
theorem lda_ok (C : Ctx P Z j p s m meth c) (X : Stand p l e (P.mt j).rm s m args below meth c T locs k n) (K : Pic P Z ρ n0 T.heap H) (N : Fr n0 locs) {i : Instr} (hi : i = .iaload ∨ i = .baload ∨ i = .caload ∨ i = .saload ∨ i = .laload ∨ i = .aaload ∨ i = .daload) {a : Nat} {x : Int32} {v : Value} {r : List Value} (h : ldA i H a x = some v) (hd : decode c.code pc = .ok (i, 1)) :
    Leaves P l Z ρ n0 j p e s m args below meth c T pc (pc + 1) L L (.int x :: .ref a :: r) (v :: r) H k n := by
  obtain ⟨hx, hZ, hown, -⟩ := C
  unfold ldA at h
  split at h
  · rename_i ty vs ho
    split at h
    · rename_i hc
      obtain ⟨cl, A, hs, -⟩ := K.2.2.1 a _ ho
      have es : cl.slots.size = vs.length := by rw [hs]; simp
      have hin : ¬ (x < 0 ∨ cl.slots.size ≤ x.toNatClampNeg) := fun q => by
        rcases q with q | q
        · exact hc.2 q
        · rw [es] at q
          exact absurd (List.getElem?_eq_some_iff.mp h).1 (Nat.not_lt.mpr q)
      have hv : cl.slots[x.toNatClampNeg]? = some (tv ρ v) := by rw [hs]; simp [h]
      have hA := State.isArrayOf_alike hZ.alike A.2.1
      refine ⟨T, locs, X, K, N, fun target hr => ?_⟩
      have ht := hc.1
      rcases hi with rfl | rfl | rfl | rfl | rfl | rfl | rfl <;> cases ty <;> first
        | (cases ht; done)
        | exact X.iaload hx A.1 hA A.2.2 hin hv (g := mkF m pc (tL ρ L) (tS ρ (.int x :: .ref a :: r))) rfl rfl hd target hr
        | exact X.baloadBytes hx A.1 hA A.2.2 hin hv (g := mkF m pc (tL ρ L) (tS ρ (.int x :: .ref a :: r))) rfl rfl hd target hr
        | exact X.caload hx A.1 hA A.2.2 hin hv (g := mkF m pc (tL ρ L) (tS ρ (.int x :: .ref a :: r))) rfl rfl hd target hr
        | exact X.saload hx A.1 hA A.2.2 hin hv (g := mkF m pc (tL ρ L) (tS ρ (.int x :: .ref a :: r))) rfl rfl hd target hr
        | exact X.laload hx A.1 hA A.2.2 hin hv (g := mkF m pc (tL ρ L) (tS ρ (.int x :: .ref a :: r))) rfl rfl hd target hr
        | exact X.aaload hx A.1 hA rfl A.2.2 hin hv (g := mkF m pc (tL ρ L) (tS ρ (.int x :: .ref a :: r))) rfl rfl hd target hr
        | exact X.daload hx A.1 hA A.2.2 hin hv (g := mkF m pc (tL ρ L) (tS ρ (.int x :: .ref a :: r))) rfl rfl hd target hr
    · cases h
  · cases h
theorem set_tv (vs : List Value) (q : Nat) (v : Value) : ((vs.map (tv ρ)).toArray).setIfInBounds q (tv ρ v) = ((vs.set q v).map (tv ρ)).toArray := by
  apply Array.toList_inj.mp
  simp [Array.toList_setIfInBounds, List.map_set]
theorem sta_ok (RO : RhoOk P ρ n0) (C : Ctx P Z j p s m meth c) (X : Stand p l e (P.mt j).rm s m args below meth c T locs k n) (K : Pic P Z ρ n0 T.heap H) (N : Fr n0 locs) {i : Instr} (hi : i = .iastore ∨ i = .bastore ∨ i = .castore ∨ i = .lastore ∨ i = .aastore ∨ i = .dastore) {a : Nat} {x : Int32} {v : Value} {r : List Value} {H' : Hp} (h : stA P i H a x v = some H') (hd : decode c.code pc = .ok (i, 1)) :
    Leaves P l Z ρ n0 j p e s m args below meth c T pc (pc + 1) L L (v :: .int x :: .ref a :: r) r H' k n := by
  obtain ⟨hx, hZ, hown, -⟩ := C
  unfold stA at h
  split at h
  · cases h
  · rename_i hj
    split at h
    · rename_i ty vs ho
      split at h
      · rename_i v' hv'
        split at h
        · rename_i hc
          cases h
          obtain ⟨cl, A, hs, hov⟩ := K.2.2.1 a _ ho
          have es : cl.slots.size = vs.length := by rw [hs]; simp
          have hin : ¬ (x < 0 ∨ cl.slots.size ≤ x.toNatClampNeg) := fun q => by
            rcases q with q | q
            · exact hc.2.1 q
            · rw [es] at q
              exact absurd hc.2.2.1 (Nat.not_lt.mpr q)
          have ge : n0 ≤ ρ a := by rw [RO.1 a (by omega)]; omega
          have fin : ∀ {T' : State} {h' : Heap} (X' : Stand p l e (P.mt j).rm s m args below meth c T' (locs ++ [⟨ρ a, x.toNatClampNeg⟩]) k n) (e' : T'.heap = h') (W : Wr T.heap h' (ρ a) x.toNatClampNeg (tv ρ v')) (st : ∀ target, Steps p.tables e below (T'.setTop (mkF m (pc + 1) (tL ρ L) (tS ρ r))) target → Steps p.tables e below (T.setTop (mkF m pc (tL ρ L) (tS ρ (v :: .int x :: .ref a :: r)))) target),
              Leaves P l Z ρ n0 j p e s m args below meth c T pc (pc + 1) L L (v :: .int x :: .ref a :: r) r (H.set a (.inl ty, vs.set x.toNatClampNeg v')) k n := by
            intro T' h' X' e' W st
            refine ⟨T', _, X', ?_, Fr.snoc X' N ge, st⟩
            rw [e']
            refine K.write RO W ho ⟨_, A.same W, ?_, hov⟩
            show cl.slots.setIfInBounds _ _ = _
            rw [hs]
            exact set_tv vs _ _
          have ht := hc.1
          rcases hi with rfl | rfl | rfl | rfl | rfl | rfl
          · obtain rfl : ty = .int := by cases ty <;> first | rfl | cases ht
            obtain ⟨b, rfl, rfl⟩ : ∃ b, v = .int b ∧ v' = .int b := by cases v <;> cases hv'; exact ⟨_, rfl, rfl⟩
            obtain ⟨T', h', X', e', W, st⟩ := stI X hx hZ rfl A hin (g := mkF m pc (tL ρ L) (tS ρ (.int b :: .int x :: .ref a :: r))) rfl rfl hd
            exact fin X' e' W st
          · obtain rfl : ty = .byte := by cases ty <;> first | rfl | cases ht
            obtain ⟨b, rfl, rfl⟩ : ∃ b : Int32, v = .int b ∧ v' = .int b.toInt8.toInt32 := by cases v <;> cases hv'; exact ⟨_, rfl, rfl⟩
            obtain ⟨T', h', X', e', W, st⟩ := stB X hx hZ rfl A hin (g := mkF m pc (tL ρ L) (tS ρ (.int b :: .int x :: .ref a :: r))) rfl rfl hd
            exact fin X' e' W st
          · obtain rfl : ty = .char := by cases ty <;> first | rfl | cases ht
            obtain ⟨b, rfl, rfl⟩ : ∃ b : Int32, v = .int b ∧ v' = .int b.toUInt32.toUInt16.toUInt32.toInt32 := by cases v <;> cases hv'; exact ⟨_, rfl, rfl⟩
            obtain ⟨T', h', X', e', W, st⟩ := RoadKit.stC X hx hZ rfl A hin (g := mkF m pc (tL ρ L) (tS ρ (.int b :: .int x :: .ref a :: r))) rfl rfl hd
            exact fin X' e' W st
          · obtain rfl : ty = .long := by cases ty <;> first | rfl | cases ht
            obtain ⟨b, rfl, rfl⟩ : ∃ b, v = .long b ∧ v' = .long b := by cases v <;> cases hv'; exact ⟨_, rfl, rfl⟩
            obtain ⟨T', h', X', e', W, st⟩ := stJ X hx hZ rfl A hin (g := mkF m pc (tL ρ L) (tS ρ (.long b :: .int x :: .ref a :: r))) rfl rfl hd
            exact fin X' e' W st
          · obtain ⟨C0, rfl⟩ : ∃ C0, ty = .object C0 := by cases ty <;> first | exact ⟨_, rfl⟩ | cases ht
            obtain ⟨rfl, hvr⟩ : v' = v ∧ (v = .null ∨ ∃ b, v = .ref b) := by
              cases v <;> cases hv'
              · exact ⟨rfl, Or.inl rfl⟩
              · exact ⟨rfl, Or.inr ⟨_, rfl⟩⟩
            rcases hvr with rfl | ⟨b, rfl⟩
            · obtain ⟨T', h', X', e', W, st⟩ := RoadKit.stR X hx hZ rfl A hin rfl (Or.inl rfl) (g := mkF m pc (tL ρ L) (tS ρ (.null :: .int x :: .ref a :: r))) rfl rfl hd
              exact fin X' e' W st
            · have q := hc.2.2.2
              simp only [stoOk] at q
              split at q
              · rename_i cid ws hb
                simp only [Bool.and_eq_true, decide_eq_true_eq] at q
                have I := Ins.self (K.2.2.1 b _ hb q.1).1
                rw [eq_of_beq q.2] at I
                obtain ⟨T', h', X', e', W, st⟩ := RoadKit.stR X hx hZ rfl A hin rfl (Sto.of A (hov (by omega) C0 rfl) I) (g := mkF m pc (tL ρ L) (tS ρ (.ref b :: .int x :: .ref a :: r))) rfl rfl hd
                exact fin X' e' W st
              · cases q
          · obtain rfl : ty = .double := by cases ty <;> first | rfl | cases ht
            obtain ⟨b, rfl, rfl⟩ : ∃ b, v = .double b ∧ v' = .double b := by cases v <;> cases hv'; exact ⟨_, rfl, rfl⟩
            obtain ⟨T', h', X', e', W, st⟩ := stD X hx hZ rfl A hin (g := mkF m pc (tL ρ L) (tS ρ (.double b :: .int x :: .ref a :: r))) rfl rfl hd
            exact fin X' e' W st
        · cases h
      · cases h
    · cases h
theorem cast_ok (PO : PrgOk P Z a0 ρ) (C : Ctx P Z j p s m meth c) (X : Stand p l e (P.mt j).rm s m args below meth c T locs k n) (K : Pic P Z ρ n0 T.heap H) (N : Fr n0 locs) {idx a : Nat} {r : List Value} (h : castI P j idx H a = some true) (hd : decode c.code pc = .ok (.checkcast idx, 3)) :
    Leaves P l Z ρ n0 j p e s m args below meth c T pc (pc + 3) L L (.ref a :: r) (.ref a :: r) H k n := by
  obtain ⟨hx, hZ, hown, -⟩ := C
  unfold castI at h
  split at h
  · rename_i o ho
    obtain ⟨K0, w, hI, -⟩ := PO.2.2.2.2.2.2.1 _ (lkK_mem h)
    obtain ⟨T', X', e', st⟩ := castY X hx hZ hown w rfl (hI T.heap a o.2 (K.2.2.1 a _ ho)) (g := mkF m pc (tL ρ L) (tS ρ (.ref a :: r))) rfl rfl hd
    exact ⟨T', locs, X', by rw [e']; exact K, N, st⟩
  · cases h
theorem inst_ok (PO : PrgOk P Z a0 ρ) (C : Ctx P Z j p s m meth c) (X : Stand p l e (P.mt j).rm s m args below meth c T locs k n) (K : Pic P Z ρ n0 T.heap H) (N : Fr n0 locs) {idx a : Nat} {r : List Value} {b : Bool} (h : castI P j idx H a = some b) (hd : decode c.code pc = .ok (.instanceof idx, 3)) :
    Leaves P l Z ρ n0 j p e s m args below meth c T pc (pc + 3) L L (.ref a :: r) (.int (if b = true then 1 else 0) :: r) H k n := by
  obtain ⟨hx, hZ, hown, -⟩ := C
  unfold castI at h
  split at h
  · rename_i o ho
    obtain ⟨K0, w, hI, hf⟩ := PO.2.2.2.2.2.2.1 _ (lkK_mem h)
    have I := hI T.heap a o.2 (K.2.2.1 a _ ho)
    dsimp only at w I hf
    cases b with
    | true =>
      obtain ⟨T', X', e', st⟩ := instY X hx hZ hown w rfl I (g := mkF m pc (tL ρ L) (tS ρ (.ref a :: r))) rfl rfl hd
      exact ⟨T', locs, X', by rw [e']; exact K, N, st⟩
    | false =>
      obtain ⟨cid, hk, hlt⟩ := hf rfl
      have KO := K.2.2.1 a _ ho
      obtain ⟨kd, vs⟩ := o
      dsimp only at hk
      subst hk
      obtain ⟨cell, kz, q1, q2, q3, q4, q5⟩ := (KO hlt).1
      obtain ⟨cell', cT, i1, i2, i3⟩ := I
      cases q1.symm.trans i1
      obtain ⟨k', r1, -⟩ := hZ.alike.2.2 _ _ q3
      obtain ⟨vm', X', st⟩ := Jvm.Sym.instanceofNoAt X hx hown (mv hZ w) q1 q4 r1 (by rw [hZ.alike.findClass]; exact i2) (by rw [hZ.alike.assignable]; simpa [q4] using i3) (g := mkF m pc (tL ρ L) (tS ρ (.ref a :: r))) rfl rfl hd
      exact ⟨_, locs, X', K, N, st⟩
  · cases h
end HeapLaws
end Jvm.MM
namespace Jvm.MM
open Jvm Jvm.ClassFile Sem Op Lib Jvm.Free Jvm.Stand Jvm.LawKit Jvm.RoadKit
/-! ### the whole run -/
section Sound
variable {P : Prg} {Z : State} {a0 : Array Value} {ρ : Nat → Addr} {n0 : Nat} {l : Launch}
def Snd (P : Prg) (l : Launch) (Z : State) (ρ : Nat → Addr) (n0 j : Nat) : St → MRes → Prop
  | (pc, L, S, H, k, n), r => ∀ (p : Program) (e : Env) (s : State) (m : MethodId) (args : Array Value) (below : List Frame) (meth : Method) (c : Code) (T : State) (locs : List Loc),
    Ctx P Z j p s m meth c → Stand p l e (P.mt j).rm s m args below meth c T locs k n → Pic P Z ρ n0 T.heap H → Fr n0 locs →
    ∃ s₂ L', Steps p.tables e below (T.setTop (mkF m pc (tL ρ L) (tS ρ S))) s₂ ∧ s₂.status = .running ∧ Ended s₂ below (.returned (r.1.map (tv ρ))) ∧ Pic P Z ρ n0 s₂.heap r.2 ∧ Fr n0 L' ∧ FrameEnd s (.returned (r.1.map (tv ρ))) s₂ L' (P.mt j).rm.cells (P.mt j).rm.slots
/-- what a call leaves -/
def Qm (P : Prg) (Z : State) (ρ : Nat → Addr) (n0 : Nat) (r : MRes) (v : Option Value) (h : Heap) (L : List Loc) : Prop := v = r.1.map (tv ρ) ∧ Pic P Z ρ n0 h r.2 ∧ Fr n0 L
theorem laid_tr : ∀ as : List Value, Jvm.Sym.laidSlots (as.map (tv ρ)) = (laid as).map (ts ρ)
  | [] => rfl
  | v :: r => by
    have ih := laid_tr r
    show (if (tv ρ v).category = 2 then Slot.val (tv ρ v) :: .second :: Jvm.Sym.laidSlots (r.map (tv ρ)) else .val (tv ρ v) :: Jvm.Sym.laidSlots (r.map (tv ρ))) = (if cat v = 2 then Slot.val v :: .second :: laid r else .val v :: laid r).map (ts ρ)
    rw [cat_eq, cat_tv, ih]
    split <;> rfl
theorem ent_tr (as : List Value) (mx : Nat) : Jvm.Sym.laidSlots (tS ρ as).toArray.toList ++ List.replicate (mx - (Jvm.Sym.laidSlots (tS ρ as).toArray.toList).length) Slot.unset = (tL ρ (entL as mx)).toList := by
  show Jvm.Sym.laidSlots (as.map (tv ρ)) ++ List.replicate (mx - (Jvm.Sym.laidSlots (as.map (tv ρ))).length) Slot.unset = (laid as ++ List.replicate (mx - (laid as).length) Slot.unset).map (ts ρ)
  rw [laid_tr, List.length_map, List.map_append, List.map_replicate]
  rfl
theorem met_of {j : Nat} {as : List Value} {H : Hp} {r : MRes} {h0 : Heap} (hpl : plainFor (P.mt j).y = true) (hS : Snd P l Z ρ n0 j (0, entL as (P.mt j).mx, [], H, 0, 0) r) (K : Pic P Z ρ n0 h0 H) (ws : List Jvm.Cond) :
    MetFree l (P.mt j).y (head1 (Jvm.Cond.code (P.mt j).y (P.mt j).code (P.mt j).mx (P.mt j).ret :: ws) (P.mt j).rm) (fun a U => a = (tS ρ as).toArray ∧ Z.Warmed39 U.vm ∧ U.heap = h0) (fun _ _ _ _ _ => True) (fun _ U o U' => ∃ v L, o = .returned v ∧ Qm P Z ρ n0 r v U'.heap L ∧ FrameEnd U o U' L (P.mt j).rm.cells (P.mt j).rm.slots) := by
  refine MetFree.of_bodySF hpl hisR ?_
  intro p e s m args below meth c s₁ Bd hml0 hP hK
  obtain ⟨rfl, hZ, hh⟩ := hP
  have hown : s.vm.findClass (P.mt j).y.cls = some m.cls := findClass_of_methodNamed Bd.named
  have hnm := (name_of_methodNamed Bd.named Bd.method).1
  have X0 : Stand p l e (P.mt j).rm s m (tS ρ as).toArray below meth c s₁ [] 0 0 := Stand.of_body Bd
  have e0 : s₁.heap = h0 := by rw [← hh, Bd.state]; rfl
  have Cx : Ctx P Z j p s m meth c := ⟨Bd.exec, hZ, hown, Bd.bytes, hml0, Bd.returns, hnm, Bd.notSynchronized⟩
  obtain ⟨s₂, L', st, h1, h2, h3, h4, h5⟩ := hS p e s m _ below meth c s₁ [] Cx X0 (by rw [e0]; exact K) (Fr.nil n0)
  exact ⟨s₂, _, (XT.entry (ent_tr as _)).trans st, h1, h2, _, L', rfl, ⟨rfl, h3, h4⟩, h5⟩
section At
variable {H : Hp} {p : Program} {e : Env} {s : State} {m : MethodId} {args : Array Value} {below : List Frame} {meth : Method} {c : Code} {T : State} {locs : List Loc} {k n j pc : Nat} {L : List Slot}
theorem rm_inv {j j' : Nat} {L : List Slot} {r : List Value} {k n : Nat} (h : rmOk P j j' L r k n = true) : L.length = (P.mt j).mx ∧ (P.mt j').rm.frames + 1 ≤ (P.mt j).rm.frames ∧ wt r + ((P.mt j').mx + 11) + (P.mt j').rm.locals ≤ (P.mt j).rm.locals ∧ k + (P.mt j').rm.cells ≤ (P.mt j).rm.cells ∧ n + (P.mt j').rm.slots ≤ (P.mt j).rm.slots := by
  simpa only [rmOk, Bool.and_eq_true, decide_eq_true_eq] using h
theorem tS_opt (v : Option Value) (r : List Value) : (v.map (tv ρ)).toList ++ tS ρ r = tS ρ (v.toList ++ r) := by cases v <;> rfl
theorem take_stack (S : List Value) (np : Nat) : tS ρ S = (tS ρ (S.take np).reverse).reverse ++ tS ρ (S.drop np) := by
  rw [← List.map_reverse, List.reverse_reverse, ← List.map_append, List.take_append_drop]
theorem take_len {S : List Value} {np : Nat} (h : np ≤ S.length) : (tS ρ (S.take np).reverse).length = np := by simp [Nat.min_eq_left h]
theorem callS_ok (PO : PrgOk P Z a0 ρ) (C : Ctx P Z j p s m meth c) (X : Stand p l e (P.mt j).rm s m args below meth c T locs k n) (K : Pic P Z ρ n0 T.heap H) (N : Fr n0 locs) {idx np j' : Nat} {S : List Value} (hq : lk2 P.ic j idx = some (0, np, j')) (hnp : np ≤ S.length) (hrm : rmOk P j j' L (S.drop np) k n = true) (hd : decode c.code pc = .ok (.invokestatic idx, 3))
    {r : MRes} (hS : Snd P l Z ρ n0 j' (0, entL (S.take np).reverse (P.mt j').mx, [], H, 0, 0) r) :
    Leaves P l Z ρ n0 j p e s m args below meth c T pc (pc + 3) L L S (r.1.toList ++ S.drop np) r.2 (k + (P.mt j').rm.cells) (n + (P.mt j').rm.slots) := by
  obtain ⟨hx, hZ, hown, -, hml, -⟩ := C
  obtain ⟨g1, g2, g3, g4, g5⟩ := rm_inv hrm
  obtain ⟨w1, w2, ⟨w3, w4, w5, w6⟩, w7⟩ := PO.2.2.2.2.2.2.2.2.2.1 _ (lk2_mem hq)
  have met := met_of w5 hS K []
  obtain ⟨v, vm₁, ⟨T', L2, k2, n2⟩, -, X', ⟨Lc, ⟨hv, hp, hN⟩, l1, l2, l3⟩, st⟩ := Jvm.LawKit.callS X hx (y := (P.mt j').y) hown (mvT hZ w1) (mvT hZ w2) (mvT hZ w4) (mvT hZ w3) w6 (backOf (W := wt (S.drop np)) (Q := Qm P Z ρ n0 r) met hZ w3 w4 g2 g3) (g := mkF m pc (tL ρ L) (tS ρ S)) rfl (by rw [hml, ← g1]; simp) (argsL := tS ρ (S.take np).reverse) (rest := tS ρ (S.drop np)) (fun sig hsig => by rw [take_len hnp]; exact w7 sig hsig) (take_stack S np) (by show 2 * 0 + _ ≤ _; rw [wt_eq]; omega) hd (fun _ _ => ⟨rfl, rfl, g4, g5⟩)
  dsimp only [Pt.U, Pt.locs, Pt.cells, Pt.slots] at X' hp l1 l2 l3 st
  subst l1 l2 l3 hv
  refine ⟨T', _, X', hp, Fr.app N hN, fun target hr => st target ?_⟩
  rw [tS_opt]
  exact hr
theorem callI_ok (PO : PrgOk P Z a0 ρ) (C : Ctx P Z j p s m meth c) (X : Stand p l e (P.mt j).rm s m args below meth c T locs k n) (K : Pic P Z ρ n0 T.heap H) (N : Fr n0 locs) {idx np j' a : Nat} {S rr : List Value} (hq : lk2 P.ic j idx = some (1, np, j')) (hdr : S.drop np = .ref a :: rr) (hrm : rmOk P j j' L rr k n = true) (hd : decode c.code pc = .ok (.invokespecial idx, 3))
    {r : MRes} (hS : Snd P l Z ρ n0 j' (0, entL (.ref a :: (S.take np).reverse) (P.mt j').mx, [], H, 0, 0) r) :
    Leaves P l Z ρ n0 j p e s m args below meth c T pc (pc + 3) L L S (r.1.toList ++ rr) r.2 (k + (P.mt j').rm.cells) (n + (P.mt j').rm.slots) := by
  obtain ⟨hx, hZ, hown, -, hml, -⟩ := C
  obtain ⟨g1, g2, g3, g4, g5⟩ := rm_inv hrm
  obtain ⟨w0, w1, w2, ⟨w3, w4, w5, w6⟩, w8, w7⟩ := PO.2.2.2.2.2.2.2.2.2.1 _ (lk2_mem hq)
  have hnp : np ≤ S.length := by
    have := congrArg List.length hdr
    simp only [List.length_drop, List.length_cons] at this
    omega
  have met := met_of w5 hS K []
  have w3' : (Jvm.Cond.code (P.mt j').y (P.mt j').code (P.mt j').mx none).before a0 Z = true := by rw [← w8]; exact w3
  obtain ⟨v, vm₁, ⟨T', L2, k2, n2⟩, -, X', ⟨Lc, ⟨hv, hp, hN⟩, l1, l2, l3⟩, st⟩ := X.specialBack hx (y := (P.mt j').y) w0 hown (mvT hZ w1) (mvT hZ w2) (mvT hZ w3') w6 (backOf (W := wt rr) (Q := Qm P Z ρ n0 r) met hZ w3 w4 g2 g3) (g := mkF m pc (tL ρ L) (tS ρ S)) rfl (by rw [hml, ← g1]; simp) (Steps.refl _) (a := ρ a) (argsL := tS ρ (S.take np).reverse) (rest := tS ρ rr) (fun sig hsig => by rw [take_len hnp]; exact w7 sig hsig) ((take_stack S np).trans (by rw [hdr]; rfl)) (by show 2 * 0 + _ ≤ _; rw [wt_eq]; omega) hd (fun _ _ => ⟨rfl, rfl, g4, g5⟩)
  dsimp only [Pt.U, Pt.locs, Pt.cells, Pt.slots] at X' hp l1 l2 l3 st
  subst l1 l2 l3 hv
  refine ⟨T', _, X', hp, Fr.app N hN, fun target hr => st.trans ?_⟩
  rw [tS_opt]
  exact hr
theorem nf_ok {y : MethodName} (hZ : Z.Warmed39 s.vm) (h : NfOk Z a0 y) : NotFace s y := by
  rcases h with ⟨C, w⟩ | ⟨S, w⟩ | w
  · exact notFace_of_selects (args := #[]) (mvT hZ w)
  · exact nf_super (args := #[]) (mvT hZ w)
  · exact nf_top (args := #[]) (mvT hZ w)
theorem callV_ok (PO : PrgOk P Z a0 ρ) (C : Ctx P Z j p s m meth c) (X : Stand p l e (P.mt j).rm s m args below meth c T locs k n) (K : Pic P Z ρ n0 T.heap H) (N : Fr n0 locs) {idx np j' a cid : Nat} {S rr vs : List Value} (hq : lk3 P.vc j idx cid = some (np, j')) (hdr : S.drop np = .ref a :: rr) (ho : H[a]? = some (.inr cid, vs)) (hrm : rmOk P j j' L rr k n = true) (hd : decode c.code pc = .ok (.invokevirtual idx, 3))
    {r : MRes} (hS : Snd P l Z ρ n0 j' (0, entL (.ref a :: (S.take np).reverse) (P.mt j').mx, [], H, 0, 0) r) :
    Leaves P l Z ρ n0 j p e s m args below meth c T pc (pc + 3) L L S (r.1.toList ++ rr) r.2 (k + (P.mt j').rm.cells) (n + (P.mt j').rm.slots) := by
  obtain ⟨hx, hZ, hown, -, hml, -⟩ := C
  obtain ⟨g1, g2, g3, g4, g5⟩ := rm_inv hrm
  obtain ⟨y, w1, w2, wn, w8, w9, ⟨w3, w4, w5, w6⟩, w10, w7, hlt⟩ := PO.2.2.2.2.2.2.2.2.2.2 _ (lk3_mem hq)
  have hnp : np ≤ S.length := by
    have := congrArg List.length hdr
    simp only [List.length_drop, List.length_cons] at this
    omega
  have met := met_of w5 hS K []
  obtain ⟨cB, kB, q1, q2, q3⟩ := isOf hZ rfl (K.2.2.1 a _ ho hlt).1
  obtain ⟨v, vm₁, ⟨T', L2, k2, n2⟩, -, X', ⟨Lc, ⟨hv, hp, hN⟩, l1, l2, l3⟩, st⟩ := X.virtualBack hx (y := y) (z := (P.mt j').y) hown (mvT hZ w1) (mvT hZ w2) (nf_ok hZ wn) (mvT hZ w8) (mvT hZ w9) w10 (backOf (W := wt rr) (Q := Qm P Z ρ n0 r) met hZ w3 w4 g2 g3) q1 q3 (g := mkF m pc (tL ρ L) (tS ρ S)) rfl (by rw [hml, ← g1]; simp) (Steps.refl _) (argsL := tS ρ (S.take np).reverse) (rest := tS ρ rr) (fun sig hsig => by rw [take_len hnp]; exact w7 sig hsig) ((take_stack S np).trans (by rw [hdr]; rfl)) (by show 2 * 0 + _ ≤ _; rw [wt_eq]; omega) hd (fun _ _ => ⟨rfl, rfl, g4, g5⟩)
  dsimp only [Pt.U, Pt.locs, Pt.cells, Pt.slots] at X' hp l1 l2 l3 st
  subst l1 l2 l3 hv
  refine ⟨T', _, X', hp, Fr.app N hN, fun target hr => st.trans ?_⟩
  rw [tS_opt]
  exact hr
set_option maxHeartbeats 8000000 in
theorem call_ok (PO : PrgOk P Z a0 ρ) (C : Ctx P Z j p s m meth c) (X : Stand p l e (P.mt j).rm s m args below meth c T locs k n) (K : Pic P Z ρ n0 T.heap H) (N : Fr n0 locs) {i : Instr} {j' : Nat} {S as rr : List Value} (hc : calI P j i S H = some (j', as, rr)) (hrm : rmOk P j j' L rr k n = true) (hd : decode c.code pc = .ok (i, ilen i))
    {r : MRes} (hS : Snd P l Z ρ n0 j' (0, entL as (P.mt j').mx, [], H, 0, 0) r) :
    Leaves P l Z ρ n0 j p e s m args below meth c T pc (pc + 3) L L S (r.1.toList ++ rr) r.2 (k + (P.mt j').rm.cells) (n + (P.mt j').rm.slots) := by
  cases i
  case invokestatic idx =>
    simp only [calI] at hc
    split at hc
    · rename_i np j'' hq
      split at hc
      · rename_i hnp
        cases hc
        exact callS_ok PO C X K N hq hnp hrm hd hS
      · cases hc
    · cases hc
  case invokespecial idx =>
    simp only [calI] at hc
    split at hc
    · rename_i np j'' hq
      split at hc
      · rename_i a r0 hdr
        cases hc
        exact callI_ok PO C X K N hq hdr hrm hd hS
      · cases hc
    · cases hc
  case invokevirtual idx =>
    simp only [calI] at hc
    split at hc
    · rename_i np j'' hq
      split at hc
      · rename_i a r0 hdr
        split at hc
        · rename_i cid vs ho
          split at hc
          · rename_i np' j3 hq3
            split at hc
            · rename_i en
              subst en
              cases hc
              exact callV_ok PO C X K N hq3 hdr ho hrm hd hS
            · cases hc
          · cases hc
        · cases hc
      · cases hc
    · cases hc
  all_goals (exact absurd hc (fun q => by cases q))
theorem hLdc_ok (PO : PrgOk P Z a0 ρ) (RO : RhoOk P ρ n0) (C : Ctx P Z j p s m meth c) (X : Stand p l e (P.mt j).rm s m args below meth c T locs k n) (K : Pic P Z ρ n0 T.heap H) (N : Fr n0 locs) {idx : Nat} {S : List Value} {x : HR} (h : hLdc P j idx S H k n = some x) (hd : decode c.code pc = .ok (.ldc idx, 2)) :
    Leaves P l Z ρ n0 j p e s m args below meth c T pc (pc + 2) L L S x.1 x.2.1 x.2.2.1 x.2.2.2 := by
  obtain ⟨hx, hZ, hown, -⟩ := C
  unfold hLdc at h
  split at h
  · rename_i v hq
    cases h
    have w0 := PO.2.2.2.2.2.2.2.1 (j, idx, v) (lk2_mem hq)
    have w : (Jvm.Cond.constant (P.mt j).y.cls idx v).before a0 Z = true := w0
    exact ⟨T, locs, X, K, N, X.ldcInt hx hown (mvT hZ w) (g := mkF m pc (tL ρ L) (tS ρ S)) rfl hd⟩
  · cases h
theorem hLdc2_ok (PO : PrgOk P Z a0 ρ) (RO : RhoOk P ρ n0) (C : Ctx P Z j p s m meth c) (X : Stand p l e (P.mt j).rm s m args below meth c T locs k n) (K : Pic P Z ρ n0 T.heap H) (N : Fr n0 locs) {idx : Nat} {S : List Value} {x : HR} (h : hLdc2 P j idx S H k n = some x) (hd : decode c.code pc = .ok (.ldc2_w idx, 3)) :
    Leaves P l Z ρ n0 j p e s m args below meth c T pc (pc + 3) L L S x.1 x.2.1 x.2.2.1 x.2.2.2 := by
  obtain ⟨hx, hZ, hown, -⟩ := C
  unfold hLdc2 at h
  split at h
  · rename_i v hq
    cases h
    have w0 := PO.2.2.2.2.2.2.2.2.1 (j, idx, v) (lk2_mem hq)
    have w : (Jvm.Cond.constantLong (P.mt j).y.cls idx v).before a0 Z = true := w0
    exact ⟨T, locs, X, K, N, X.ldc2Long hx hown (mvT hZ w) (g := mkF m pc (tL ρ L) (tS ρ S)) rfl hd⟩
  · cases h
theorem hGs_ok (PO : PrgOk P Z a0 ρ) (RO : RhoOk P ρ n0) (C : Ctx P Z j p s m meth c) (X : Stand p l e (P.mt j).rm s m args below meth c T locs k n) (K : Pic P Z ρ n0 T.heap H) (N : Fr n0 locs) {idx : Nat} {S : List Value} {x : HR} (h : hGs P j idx S H k n = some x) (hd : decode c.code pc = .ok (.getstatic idx, 3)) :
    Leaves P l Z ρ n0 j p e s m args below meth c T pc (pc + 3) L L S x.1 x.2.1 x.2.2.1 x.2.2.2 := by
  obtain ⟨hx, hZ, hown, -⟩ := C
  unfold hGs at h
  split at h
  · rename_i q hq
    split at h
    · rename_i d hdq
      cases h
      obtain ⟨d', d1, R0, w, via⟩ := PO.2.2.1 _ (lk2_mem hq)
      dsimp only at d1 w via
      cases d1.symm.trans hdq
      obtain ⟨T', X', e', st⟩ := getS (host := "") X hx hZ hown w via rfl (K.2.2.2 d (List.mem_of_getElem? hdq)) (g := mkF m pc (tL ρ L) (tS ρ S)) rfl hd
      exact ⟨T', locs, X', by rw [e']; exact K, N, st⟩
    · cases h
  · cases h
theorem hGet_ok (PO : PrgOk P Z a0 ρ) (RO : RhoOk P ρ n0) (C : Ctx P Z j p s m meth c) (X : Stand p l e (P.mt j).rm s m args below meth c T locs k n) (K : Pic P Z ρ n0 T.heap H) (N : Fr n0 locs) {idx : Nat} {S : List Value} {x : HR} (h : hGet P j idx S H k n = some x) (hd : decode c.code pc = .ok (.getfield idx, 3)) :
    Leaves P l Z ρ n0 j p e s m args below meth c T pc (pc + 3) L L S x.1 x.2.1 x.2.2.1 x.2.2.2 := by
  unfold hGet at h
  split at h
  · split at h
    · rename_i v hv
      cases h
      exact get_ok PO C X K N hv hd
    · cases h
  · cases h
theorem hPut_ok (PO : PrgOk P Z a0 ρ) (RO : RhoOk P ρ n0) (C : Ctx P Z j p s m meth c) (X : Stand p l e (P.mt j).rm s m args below meth c T locs k n) (K : Pic P Z ρ n0 T.heap H) (N : Fr n0 locs) {idx : Nat} {S : List Value} {x : HR} (h : hPut P j idx S H k n = some x) (hd : decode c.code pc = .ok (.putfield idx, 3)) :
    Leaves P l Z ρ n0 j p e s m args below meth c T pc (pc + 3) L L S x.1 x.2.1 x.2.2.1 x.2.2.2 := by
  unfold hPut at h
  split at h
  · split at h
    · rename_i v hv
      cases h
      exact put_ok PO RO C X K N hv hd
    · cases h
  · cases h
theorem hNew_ok (PO : PrgOk P Z a0 ρ) (RO : RhoOk P ρ n0) (C : Ctx P Z j p s m meth c) (X : Stand p l e (P.mt j).rm s m args below meth c T locs k n) (K : Pic P Z ρ n0 T.heap H) (N : Fr n0 locs) {idx : Nat} {S : List Value} {x : HR} (h : hNew P j idx S H k n = some x) (hd : decode c.code pc = .ok (.new idx, 3)) :
    Leaves P l Z ρ n0 j p e s m args below meth c T pc (pc + 3) L L S x.1 x.2.1 x.2.2.1 x.2.2.2 := by
  unfold hNew at h
  split at h
  · rename_i y hy
    cases h
    exact new_ok PO RO C X K N hy hd
  · cases h
theorem hNewA_ok (PO : PrgOk P Z a0 ρ) (RO : RhoOk P ρ n0) (C : Ctx P Z j p s m meth c) (X : Stand p l e (P.mt j).rm s m args below meth c T locs k n) (K : Pic P Z ρ n0 T.heap H) (N : Fr n0 locs) {t : ArrayType} {S : List Value} {x : HR} (h : hNewA P j pc t S H k n = some x) (hd : decode c.code pc = .ok (.newarray t, 2)) :
    Leaves P l Z ρ n0 j p e s m args below meth c T pc (pc + 2) L L S x.1 x.2.1 x.2.2.1 x.2.2.2 := by
  unfold hNewA at h
  split at h
  · split at h
    · rename_i ht
      split at h
      · rename_i y hy
        cases h
        exact newP_ok PO RO C X K N ht hy hd
      · cases h
    · cases h
  · cases h
theorem hNewR_ok (PO : PrgOk P Z a0 ρ) (RO : RhoOk P ρ n0) (C : Ctx P Z j p s m meth c) (X : Stand p l e (P.mt j).rm s m args below meth c T locs k n) (K : Pic P Z ρ n0 T.heap H) (N : Fr n0 locs) {idx : Nat} {S : List Value} {x : HR} (h : hNewR P j pc idx S H k n = some x) (hd : decode c.code pc = .ok (.anewarray idx, 3)) :
    Leaves P l Z ρ n0 j p e s m args below meth c T pc (pc + 3) L L S x.1 x.2.1 x.2.2.1 x.2.2.2 := by
  unfold hNewR at h
  split at h
  · split at h
    · rename_i cid hq
      split at h
      · rename_i y hy
        cases h
        exact newR_ok PO RO C X K N hq hy hd
      · cases h
    · cases h
  · cases h
theorem hLen_ok (PO : PrgOk P Z a0 ρ) (RO : RhoOk P ρ n0) (C : Ctx P Z j p s m meth c) (X : Stand p l e (P.mt j).rm s m args below meth c T locs k n) (K : Pic P Z ρ n0 T.heap H) (N : Fr n0 locs)  {S : List Value} {x : HR} (h : hLen S H k n = some x) (hd : decode c.code pc = .ok (.arraylength, 1)) :
    Leaves P l Z ρ n0 j p e s m args below meth c T pc (pc + 1) L L S x.1 x.2.1 x.2.2.1 x.2.2.2 := by
  unfold hLen at h
  split at h
  · split at h
    · rename_i v hv
      cases h
      exact len_ok C X K N hv hd
    · cases h
  · cases h
theorem hLda_ok (PO : PrgOk P Z a0 ρ) (RO : RhoOk P ρ n0) (C : Ctx P Z j p s m meth c) (X : Stand p l e (P.mt j).rm s m args below meth c T locs k n) (K : Pic P Z ρ n0 T.heap H) (N : Fr n0 locs) {i : Instr} (hi : i = .iaload ∨ i = .baload ∨ i = .caload ∨ i = .saload ∨ i = .laload ∨ i = .aaload ∨ i = .daload) {S : List Value} {x : HR} (h : hLda i S H k n = some x) (hd : decode c.code pc = .ok (i, 1)) :
    Leaves P l Z ρ n0 j p e s m args below meth c T pc (pc + 1) L L S x.1 x.2.1 x.2.2.1 x.2.2.2 := by
  unfold hLda at h
  split at h
  · split at h
    · rename_i v hv
      cases h
      exact lda_ok C X K N hi hv hd
    · cases h
  · cases h
theorem hSta_ok (PO : PrgOk P Z a0 ρ) (RO : RhoOk P ρ n0) (C : Ctx P Z j p s m meth c) (X : Stand p l e (P.mt j).rm s m args below meth c T locs k n) (K : Pic P Z ρ n0 T.heap H) (N : Fr n0 locs) {i : Instr} (hi : i = .iastore ∨ i = .bastore ∨ i = .castore ∨ i = .lastore ∨ i = .aastore ∨ i = .dastore) {S : List Value} {x : HR} (h : hSta P i S H k n = some x) (hd : decode c.code pc = .ok (i, 1)) :
    Leaves P l Z ρ n0 j p e s m args below meth c T pc (pc + 1) L L S x.1 x.2.1 x.2.2.1 x.2.2.2 := by
  unfold hSta at h
  split at h
  · split at h
    · rename_i v hv
      cases h
      exact sta_ok RO C X K N hi hv hd
    · cases h
  · cases h
theorem hCast_ok (PO : PrgOk P Z a0 ρ) (RO : RhoOk P ρ n0) (C : Ctx P Z j p s m meth c) (X : Stand p l e (P.mt j).rm s m args below meth c T locs k n) (K : Pic P Z ρ n0 T.heap H) (N : Fr n0 locs) {idx : Nat} {S : List Value} {x : HR} (h : hCast P j idx S H k n = some x) (hd : decode c.code pc = .ok (.checkcast idx, 3)) :
    Leaves P l Z ρ n0 j p e s m args below meth c T pc (pc + 3) L L S x.1 x.2.1 x.2.2.1 x.2.2.2 := by
  have hx := C.1
  unfold hCast at h
  split at h
  · cases h
    exact ⟨T, locs, X, K, N, X.checkcastNull hx (g := mkF m pc (tL ρ L) (tS ρ (.null :: _))) rfl rfl hd⟩
  · split at h
    · rename_i hv
      cases h
      exact cast_ok PO C X K N hv hd
    · cases h
  · cases h
theorem hInst_ok (PO : PrgOk P Z a0 ρ) (RO : RhoOk P ρ n0) (C : Ctx P Z j p s m meth c) (X : Stand p l e (P.mt j).rm s m args below meth c T locs k n) (K : Pic P Z ρ n0 T.heap H) (N : Fr n0 locs) {idx : Nat} {S : List Value} {x : HR} (h : hInst P j idx S H k n = some x) (hd : decode c.code pc = .ok (.instanceof idx, 3)) :
    Leaves P l Z ρ n0 j p e s m args below meth c T pc (pc + 3) L L S x.1 x.2.1 x.2.2.1 x.2.2.2 := by
  have hx := C.1
  unfold hInst at h
  split at h
  · cases h
    exact ⟨T, locs, X, K, N, X.instanceofNull hx (g := mkF m pc (tL ρ L) (tS ρ (.null :: _))) rfl rfl hd⟩
  · split at h
    · rename_i hv
      cases h
      exact inst_ok PO C X K N hv hd
    · rename_i hv
      cases h
      exact inst_ok PO C X K N hv hd
    · cases h
  · cases h
theorem heap_ok (PO : PrgOk P Z a0 ρ) (RO : RhoOk P ρ n0) (C : Ctx P Z j p s m meth c) (X : Stand p l e (P.mt j).rm s m args below meth c T locs k n) (K : Pic P Z ρ n0 T.heap H) (N : Fr n0 locs) {i : Instr} {S : List Value} {x : HR} (h : heapI P j pc i S H k n = some x) (hd : decode c.code pc = .ok (i, ilen i)) :
    Leaves P l Z ρ n0 j p e s m args below meth c T pc (pc + ilen i) L L S x.1 x.2.1 x.2.2.1 x.2.2.2 := by
  cases i
  case ldc _ => exact hLdc_ok PO RO C X K N h hd
  case ldc2_w _ => exact hLdc2_ok PO RO C X K N h hd
  case getstatic _ => exact hGs_ok PO RO C X K N h hd
  case getfield _ => exact hGet_ok PO RO C X K N h hd
  case putfield _ => exact hPut_ok PO RO C X K N h hd
  case new _ => exact hNew_ok PO RO C X K N h hd
  case newarray _ => exact hNewA_ok PO RO C X K N h hd
  case anewarray _ => exact hNewR_ok PO RO C X K N h hd
  case arraylength => exact hLen_ok PO RO C X K N h hd
  case checkcast _ => exact hCast_ok PO RO C X K N h hd
  case instanceof _ => exact hInst_ok PO RO C X K N h hd
  case iaload => exact hLda_ok PO RO C X K N (i := .iaload) (by simp) h hd
  case baload => exact hLda_ok PO RO C X K N (i := .baload) (by simp) h hd
  case caload => exact hLda_ok PO RO C X K N (i := .caload) (by simp) h hd
  case saload => exact hLda_ok PO RO C X K N (i := .saload) (by simp) h hd
  case laload => exact hLda_ok PO RO C X K N (i := .laload) (by simp) h hd
  case aaload => exact hLda_ok PO RO C X K N (i := .aaload) (by simp) h hd
  case daload => exact hLda_ok PO RO C X K N (i := .daload) (by simp) h hd
  case iastore => exact hSta_ok PO RO C X K N (i := .iastore) (by simp) h hd
  case bastore => exact hSta_ok PO RO C X K N (i := .bastore) (by simp) h hd
  case castore => exact hSta_ok PO RO C X K N (i := .castore) (by simp) h hd
  case lastore => exact hSta_ok PO RO C X K N (i := .lastore) (by simp) h hd
  case aastore => exact hSta_ok PO RO C X K N (i := .aastore) (by simp) h hd
  case dastore => exact hSta_ok PO RO C X K N (i := .dastore) (by simp) h hd
  all_goals cases h
set_option maxHeartbeats 8000000 in
theorem step_ok (PO : PrgOk P Z a0 ρ) (RO : RhoOk P ρ n0) (C : Ctx P Z j p s m meth c) (X : Stand p l e (P.mt j).rm s m args below meth c T locs k n) (K : Pic P Z ρ n0 T.heap H) (N : Fr n0 locs) {i : Instr} {S S' : List Value} {pc' k' n' : Nat} {L' : List Slot} {H' : Hp} (h : stepI P j i (pc, L, S, H, k, n) = some (pc', L', S', H', k', n')) (hd : decode c.code pc = .ok (i, ilen i)) :
    Leaves P l Z ρ n0 j p e s m args below meth c T pc pc' L L' S S' H' k' n' := by
  have C0 := C
  obtain ⟨hx, hZ, hown, -, hml, -⟩ := C
  simp only [stepI] at h
  split at h
  · split at h
    · rename_i x hx0
      cases h
      exact ⟨T, locs, X, K, N, fun target hr => plain_ok X hx hx0 hd hr⟩
    · cases h
  · split at h
    · rename_i r hr0
      cases h
      cases i
      case invokespecial idx =>
        simp only [objI] at hr0
        split at hr0
        · rename_i hq
          split at hr0
          · rename_i a r'
            split at hr0
            · rename_i hc
              cases hr0
              obtain ⟨w1, w2, w3⟩ := PO.2.2.2.2.2.2.2.2.2.1 _ (lk2_mem hq)
              obtain ⟨T', X', e', st⟩ := initO X hx hZ hown w1 w2 w3 rfl (g := mkF m pc (tL ρ L) (tS ρ (.ref a :: S'))) rfl (by rw [hml, ← hc.1]; simp) rfl hd hc.2.1 (W := wt S') (by show 2 * 0 + _ ≤ _; rw [wt_eq]; omega) hc.2.2
              exact ⟨T', locs, X', by rw [e']; exact K, N, st⟩
            · cases hr0
          · cases hr0
        · cases hr0
      all_goals (exact absurd hr0 (fun q => by cases q))
    · cases h
  · split at h
    · rename_i o r hb
      split at h
      · rename_i ho
        cases h
        exact ⟨T, locs, X, K, N, fun target hr => br_ok RO.2 X hx hb hd (Or.inl ⟨rfl, ho, rfl⟩) hr⟩
      · cases h
    · rename_i o r hb
      cases h
      exact ⟨T, locs, X, K, N, fun target hr => br_ok RO.2 X hx hb hd (Or.inr ⟨rfl, rfl⟩) hr⟩
    · cases h
  · split at h
    · rename_i x hx0
      cases h
      exact heap_ok PO RO C0 X K N hx0 hd
    · cases h
  · cases h
set_option maxHeartbeats 8000000 in
theorem ret_ok (C : Ctx P Z j p s m meth c) (X : Stand p l e (P.mt j).rm s m args below meth c T locs k n) (K : Pic P Z ρ n0 T.heap H) (N : Fr n0 locs) {i : Instr} {S : List Value} {v : Option Value} (h : retI (P.mt j).ret i S = some v) (hk : k ≤ (P.mt j).rm.cells) (hn : n ≤ (P.mt j).rm.slots) (hd : decode c.code pc = .ok (i, ilen i)) :
    ∃ s₂ L', Steps p.tables e below (T.setTop (mkF m pc (tL ρ L) (tS ρ S))) s₂ ∧ s₂.status = .running ∧ Ended s₂ below (.returned (v.map (tv ρ))) ∧ Pic P Z ρ n0 s₂.heap H ∧ Fr n0 L' ∧ FrameEnd s (.returned (v.map (tv ρ))) s₂ L' (P.mt j).rm.cells (P.mt j).rm.slots := by
  obtain ⟨hx, hZ, hown, -, hml, hret, -, hlk⟩ := C
  have hv : meth.sig.returnType = none → v.map (tv ρ) = none := fun q => by
    rw [hret] at q
    rw [q] at h
    cases i <;> simp only [retI] at h <;> first
      | (split at h <;> cases h <;> rfl)
      | cases h
  obtain ⟨fs, hr, hrun, hended, hW, hsame⟩ := X.leave (v := v.map (tv ρ)) hv hlk
  refine ⟨T.setFrames fs, locs, ?_, hrun, hended, K, N, ⟨_, rfl⟩, hW, hsame.mono hk hn⟩
  cases i
  case return_ =>
    simp only [retI] at h
    split at h
    · rename_i q
      cases h
      exact X.returnOut hx (hret.trans q) hd hr
    · cases h
  case ireturn =>
    simp only [retI] at h
    split at h
    · rename_i q
      cases h
      exact retOut X hx (hret.trans q) rfl (Or.inl ⟨rfl, Or.inl rfl, _, rfl⟩) hd hr
    · rename_i q
      cases h
      exact retN X hx (t := .boolean) (hret.trans q) (by simp) hd hr
    · rename_i q
      cases h
      exact retN X hx (t := .byte) (hret.trans q) (by simp) hd hr
    · rename_i q
      cases h
      exact retN X hx (t := .char) (hret.trans q) (by simp) hd hr
    · rename_i q
      cases h
      exact retN X hx (t := .short) (hret.trans q) (by simp) hd hr
    · cases h
  case lreturn =>
    simp only [retI] at h
    split at h
    · rename_i q
      cases h
      exact retOut X hx (hret.trans q) rfl (Or.inr (Or.inl ⟨rfl, rfl, _, rfl⟩)) hd hr
    · cases h
  case dreturn =>
    simp only [retI] at h
    split at h
    · rename_i q
      cases h
      exact retOut X hx (hret.trans q) rfl (Or.inr (Or.inr (Or.inl ⟨rfl, rfl, _, rfl⟩))) hd hr
    · cases h
  case areturn =>
    simp only [retI] at h
    split at h
    · rename_i q
      cases h
      exact retOut X hx (hret.trans q) rfl (Or.inr (Or.inr (Or.inr (Or.inr ⟨rfl, rfl, rfl⟩)))) hd hr
    · rename_i q
      cases h
      exact retOut X hx (hret.trans q) rfl (Or.inr (Or.inr (Or.inr (Or.inr ⟨rfl, rfl, rfl⟩)))) hd hr
    · rename_i q
      cases h
      exact retOut X hx (hret.trans q) rfl (Or.inr (Or.inr (Or.inr (Or.inr ⟨rfl, rfl, rfl⟩)))) hd hr
    · rename_i q
      cases h
      exact retOut X hx (hret.trans q) rfl (Or.inr (Or.inr (Or.inr (Or.inr ⟨rfl, rfl, rfl⟩)))) hd hr
    · cases h
  all_goals (exact absurd h (fun q => by cases q))
end At
/-- one turn of the machine, opened -/
theorem run_inv {f j pc : Nat} {L : List Slot} {S : List Value} {H : Hp} {k n : Nat} {r : MRes} (h : run P (f + 1) j (pc, L, S, H, k, n) = some r) : ∃ i, decode (P.mt j).code pc = .ok (i, ilen i) ∧
    ((isCall P j i = 3 ∧ ∃ v, retI (P.mt j).ret i S = some v ∧ (k ≤ (P.mt j).rm.cells ∧ n ≤ (P.mt j).rm.slots) ∧ r = (v, H)) ∨
     (isCall P j i = 1 ∧ ∃ j' as rr r', calI P j i S H = some (j', as, rr) ∧ rmOk P j j' L rr k n = true ∧ run P f j' (0, entL as (P.mt j').mx, [], H, 0, 0) = some r' ∧ run P f j (pc + 3, L, r'.1.toList ++ rr, r'.2, k + (P.mt j').rm.cells, n + (P.mt j').rm.slots) = some r) ∨
     (isCall P j i ≠ 3 ∧ isCall P j i ≠ 1 ∧ ∃ st', stepI P j i (pc, L, S, H, k, n) = some st' ∧ run P f j st' = some r)) := by
  simp only [run] at h
  split at h
  · cases h
  · rename_i i len hd
    split at h
    · rename_i hl
      subst hl
      refine ⟨i, hd, ?_⟩
      split at h
      · rename_i hi
        split at h
        · rename_i v hv
          split at h
          · rename_i hk
            cases h
            exact Or.inl ⟨hi, v, hv, hk, rfl⟩
          · cases h
        · cases h
      · rename_i hi
        split at h
        · rename_i j' as rr hc
          split at h
          · rename_i hrm
            split at h
            · rename_i v H' hr
              exact Or.inr (Or.inl ⟨hi, j', as, rr, (v, H'), hc, hrm, hr, h⟩)
            · cases h
          · cases h
        · cases h
      · rename_i h3 h1
        split at h
        · rename_i st' hst
          exact Or.inr (Or.inr ⟨h3, h1, st', hst, h⟩)
        · cases h
    · cases h
theorem run_sound (PO : PrgOk P Z a0 ρ) (RO : RhoOk P ρ n0) : ∀ (f j : Nat) (st : St) (r : MRes), run P f j st = some r → Snd P l Z ρ n0 j st r
  | 0, j, (pc, L, S, H, k, n), r, h => by simp only [run] at h; cases h
  | f + 1, j, (pc, L, S, H, k, n), r, h => by
    intro p e s m args below meth c T locs C X K N
    obtain ⟨i, hd, hcase⟩ := run_inv h
    have hd' : decode c.code pc = .ok (i, ilen i) := by rw [C.2.2.2.1]; exact hd
    rcases hcase with ⟨-, v, hv, hk, rfl⟩ | ⟨-, j', as, rr, r', hcal, hrm, h1, h2⟩ | ⟨-, -, ⟨pc', L', S', H', k', n'⟩, hst, h1⟩
    · exact ret_ok C X K N hv hk.1 hk.2 hd'
    · obtain ⟨T', locs', X', K', N', st⟩ := call_ok PO C X K N hcal hrm hd' (run_sound PO RO f j' _ r' h1)
      obtain ⟨s₂, L', g1, g2⟩ := run_sound PO RO f j _ r h2 p e s m args below meth c T' locs' C X' K' N'
      exact ⟨s₂, L', st _ g1, g2⟩
    · obtain ⟨T', locs', X', K', N', st⟩ := step_ok PO RO C X K N hst hd'
      obtain ⟨s₂, L2, g1, g2⟩ := run_sound PO RO f j _ r h1 p e s m args below meth c T' locs' C X' K' N'
      exact ⟨s₂, L2, st _ g1, g2⟩
end Sound
/-! ### the machine's own logic -/
section Logic
variable {P : Prg} {j pc : Nat} {L : List Slot} {S : List Value} {H : Hp} {k n : Nat} {i : Instr} {Q : MRes → Prop}
def Wp (P : Prg) (j : Nat) (st : St) (Q : MRes → Prop) : Prop := ∃ f r, run P f j st = some r ∧ Q r
theorem run_ret {f : Nat} {v : Option Value} (hd : decode (P.mt j).code pc = .ok (i, ilen i)) (hi : isCall P j i = 3) (hv : retI (P.mt j).ret i S = some v) (hk : k ≤ (P.mt j).rm.cells ∧ n ≤ (P.mt j).rm.slots) : run P (f + 1) j (pc, L, S, H, k, n) = some (v, H) := by
  simp only [run, hd, hi, hv, if_pos hk, if_true]
theorem run_call {f j' : Nat} {as rr : List Value} {r' : MRes} (hd : decode (P.mt j).code pc = .ok (i, ilen i)) (hi : isCall P j i = 1) (hc : calI P j i S H = some (j', as, rr)) (hrm : rmOk P j j' L rr k n = true) (h1 : run P f j' (0, entL as (P.mt j').mx, [], H, 0, 0) = some r') :
    run P (f + 1) j (pc, L, S, H, k, n) = run P f j (pc + 3, L, r'.1.toList ++ rr, r'.2, k + (P.mt j').rm.cells, n + (P.mt j').rm.slots) := by
  simp only [run, hd, hi, hc, hrm, h1, if_true]
theorem run_step {f : Nat} {st' : St} (hd : decode (P.mt j).code pc = .ok (i, ilen i)) (h3 : isCall P j i ≠ 3) (h1 : isCall P j i ≠ 1) (h : stepI P j i (pc, L, S, H, k, n) = some st') : run P (f + 1) j (pc, L, S, H, k, n) = run P f j st' := by
  simp only [run, hd, if_true, h]
theorem run_mono1 : ∀ {f j : Nat} {st : St} {r : MRes}, run P f j st = some r → run P (f + 1) j st = some r
  | 0, j, (pc, L, S, H, k, n), r, h => by simp only [run] at h; cases h
  | f + 1, j, (pc, L, S, H, k, n), r, h => by
    obtain ⟨i, hd, hcase⟩ := run_inv h
    rcases hcase with ⟨hi, v, hv, hk, rfl⟩ | ⟨hi, j', as, rr, r', hcal, hrm, h1, h2⟩ | ⟨h3, h1', st', hst, h1⟩
    · exact run_ret hd hi hv hk
    · rw [run_call hd hi hcal hrm (run_mono1 h1)]; exact run_mono1 h2
    · rw [run_step hd h3 h1' hst]; exact run_mono1 h1
theorem run_mono {f g j : Nat} {st : St} {r : MRes} (hfg : f ≤ g) (h : run P f j st = some r) : run P g j st = some r := by
  obtain ⟨d, rfl⟩ := Nat.exists_eq_add_of_le hfg
  induction d with
  | zero => exact h
  | succ d ih => exact run_mono1 (ih (Nat.le_add_right _ _))
theorem wpO (hd : decode (P.mt j).code pc = .ok (i, ilen i)) (h3 : isCall P j i ≠ 3) (h1 : isCall P j i ≠ 1) : Wp P j (pc, L, S, H, k, n) Q ↔ ∃ st', stepI P j i (pc, L, S, H, k, n) = some st' ∧ Wp P j st' Q := by
  constructor
  · rintro ⟨f, r, h, hq⟩
    cases f with
    | zero => simp only [run] at h; cases h
    | succ f =>
      obtain ⟨i', hd', hcase⟩ := run_inv h
      cases hd.symm.trans hd'
      rcases hcase with ⟨hi, -⟩ | ⟨hi, -⟩ | ⟨-, -, st', hst, h1⟩
      · exact absurd hi h3
      · exact absurd hi h1
      · exact ⟨st', hst, f, r, h1, hq⟩
  · rintro ⟨st', hst, f, r, h, hq⟩
    exact ⟨f + 1, r, by rw [run_step hd h3 h1 hst]; exact h, hq⟩
theorem wpS {st' : St} (hd : decode (P.mt j).code pc = .ok (i, ilen i)) (h3 : isCall P j i ≠ 3) (h1 : isCall P j i ≠ 1) (h : stepI P j i (pc, L, S, H, k, n) = some st') : Wp P j (pc, L, S, H, k, n) Q ↔ Wp P j st' Q := by
  rw [wpO hd h3 h1]
  exact ⟨fun ⟨st, e, w⟩ => by cases h.symm.trans e; exact w, fun w => ⟨st', h, w⟩⟩
theorem wpR {v : Option Value} (hd : decode (P.mt j).code pc = .ok (i, ilen i)) (hi : isCall P j i = 3) (hv : retI (P.mt j).ret i S = some v) (hk : k ≤ (P.mt j).rm.cells ∧ n ≤ (P.mt j).rm.slots) : Wp P j (pc, L, S, H, k, n) Q ↔ Q (v, H) := by
  constructor
  · rintro ⟨f, r, h, hq⟩
    cases f with
    | zero => simp only [run] at h; cases h
    | succ f => rw [run_ret hd hi hv hk] at h; cases h; exact hq
  · exact fun hq => ⟨1, _, run_ret hd hi hv hk, hq⟩
theorem wpC {j' : Nat} {as rr : List Value} (hd : decode (P.mt j).code pc = .ok (i, ilen i)) (hi : isCall P j i = 1) (hc : calI P j i S H = some (j', as, rr)) (hrm : rmOk P j j' L rr k n = true) :
    Wp P j (pc, L, S, H, k, n) Q ↔ Wp P j' (0, entL as (P.mt j').mx, [], H, 0, 0) fun r => Wp P j (pc + 3, L, r.1.toList ++ rr, r.2, k + (P.mt j').rm.cells, n + (P.mt j').rm.slots) Q := by
  constructor
  · rintro ⟨f, r, h, hq⟩
    cases f with
    | zero => simp only [run] at h; cases h
    | succ f =>
      obtain ⟨i', hd', hcase⟩ := run_inv h
      cases hd.symm.trans hd'
      rcases hcase with ⟨h3, -⟩ | ⟨-, j1, as1, rr1, r', hc', -, h1, h2⟩ | ⟨-, h1, -⟩
      · rw [hi] at h3; cases h3
      · cases hc.symm.trans hc'
        exact ⟨f, r', h1, f, r, h2, hq⟩
      · exact absurd hi h1
  · rintro ⟨f, r', h1, g, r, h2, hq⟩
    exact ⟨(f + g) + 1, r, by rw [run_call hd hi hc hrm (run_mono (Nat.le_add_right f g) h1)]; exact run_mono (Nat.le_add_left g f) h2, hq⟩
theorem Wp.mono {j : Nat} {st : St} {Q Q' : MRes → Prop} (h : Wp P j st Q) (hq : ∀ r, Q r → Q' r) : Wp P j st Q' := by
  obtain ⟨f, r, h1, h2⟩ := h
  exact ⟨f, r, h1, hq r h2⟩
end Logic
end Jvm.MM
namespace Jvm.MM
open Jvm Jvm.ClassFile Sem Op Lib Jvm.Free Jvm.Stand Jvm.LawKit Jvm.RoadKit
/-! ### the logic's rows, an instruction each -/
section Rows
variable {P : Prg} {j pc : Nat} {L : List Slot} {S : List Value} {H : Hp} {k n : Nat} {i : Instr} {Q : MRes → Prop}
theorem gP {L' : List Slot} {S' : List Value} (hd : decode (P.mt j).code pc = .ok (i, ilen i)) (hk : isCall P j i = 0) (h : plainI i L S = some (L', S')) : Wp P j (pc, L, S, H, k, n) Q ↔ Wp P j (pc + ilen i, L', S', H, k, n) Q :=
  wpS hd (by rw [hk]; decide) (by rw [hk]; decide) (by simp only [stepI, hk, h])
theorem gH {x : List Value × Hp × Nat × Nat} (hd : decode (P.mt j).code pc = .ok (i, ilen i)) (hk : isCall P j i = 5) (h : heapI P j pc i S H k n = some x) : Wp P j (pc, L, S, H, k, n) Q ↔ Wp P j (pc + ilen i, L, x.1, x.2.1, x.2.2.1, x.2.2.2) Q :=
  wpS hd (by rw [hk]; decide) (by rw [hk]; decide) (by simp only [stepI, hk, h])
theorem gHO (hd : decode (P.mt j).code pc = .ok (i, ilen i)) (hk : isCall P j i = 5) : Wp P j (pc, L, S, H, k, n) Q ↔ ∃ x, heapI P j pc i S H k n = some x ∧ Wp P j (pc + ilen i, L, x.1, x.2.1, x.2.2.1, x.2.2.2) Q := by
  rw [wpO hd (by rw [hk]; decide) (by rw [hk]; decide)]
  constructor
  · rintro ⟨st', h, w⟩
    simp only [stepI, hk] at h
    split at h
    · rename_i x hx
      cases h
      exact ⟨x, hx, w⟩
    · cases h
  · rintro ⟨x, hx, w⟩
    exact ⟨_, by simp only [stepI, hk, hx], w⟩
theorem gB {b : Bool} {o : Int} {t : Nat} {r : List Value} (hd : decode (P.mt j).code pc = .ok (i, ilen i)) (hk : isCall P j i = 4) (h : brI i S = some (b, o, r)) (ho : 0 ≤ (pc : Int) + o) (ht : ((pc : Int) + o).toNat = t) : Wp P j (pc, L, S, H, k, n) Q ↔ if b = true then Wp P j (t, L, r, H, k, n) Q else Wp P j (pc + ilen i, L, r, H, k, n) Q := by
  cases b with
  | true => rw [if_pos rfl]; exact wpS hd (by rw [hk]; decide) (by rw [hk]; decide) (by simp only [stepI, hk, h, if_pos ho, ht])
  | false => rw [if_neg (by decide)]; exact wpS hd (by rw [hk]; decide) (by rw [hk]; decide) (by simp only [stepI, hk, h])
theorem gGoto {o : Int} {t : Nat} (hd : decode (P.mt j).code pc = .ok (.goto o, 3)) (ho : 0 ≤ (pc : Int) + o) (ht : ((pc : Int) + o).toNat = t) : Wp P j (pc, L, S, H, k, n) Q ↔ Wp P j (t, L, S, H, k, n) Q := by
  rw [gB (i := .goto o) hd rfl rfl ho ht, if_pos rfl]
theorem iteC {A B : Prop} {c : Prop} [Decidable c] {b : Bool} (h : b = decide c) : (if b = true then A else B) ↔ (if c then A else B) := by
  subst h
  by_cases q : c <;> simp [q]
theorem gIf {cd : ClassFile.Cond} {o : Int} {t : Nat} {x : Int32} {c : Prop} [Decidable c] (hd : decode (P.mt j).code pc = .ok (.ifCond cd o, 3)) (ho : 0 ≤ (pc : Int) + o) (ht : ((pc : Int) + o).toNat = t) (hc : ifCond.holds cd x = decide c) : Wp P j (pc, L, .int x :: S, H, k, n) Q ↔ if c then Wp P j (t, L, S, H, k, n) Q else Wp P j (pc + 3, L, S, H, k, n) Q := by
  rw [gB (i := .ifCond cd o) hd rfl rfl ho ht]
  exact iteC hc
theorem gIcmp {cd : ClassFile.Cond} {o : Int} {t : Nat} {x y : Int32} {c : Prop} [Decidable c] (hd : decode (P.mt j).code pc = .ok (.if_icmp cd o, 3)) (ho : 0 ≤ (pc : Int) + o) (ht : ((pc : Int) + o).toNat = t) (hc : if_icmp.holds cd x y = decide c) : Wp P j (pc, L, .int y :: .int x :: S, H, k, n) Q ↔ if c then Wp P j (t, L, S, H, k, n) Q else Wp P j (pc + 3, L, S, H, k, n) Q := by
  rw [gB (i := .if_icmp cd o) hd rfl rfl ho ht]
  exact iteC hc
theorem c_eq (x : Int32) : ifCond.holds .eq x = decide (x = 0) := by by_cases h : x = 0 <;> simp [ifCond.holds, h]
theorem c_ne (x : Int32) : ifCond.holds .ne x = decide (¬ x = 0) := by by_cases h : x = 0 <;> simp [ifCond.holds, h]
theorem c_lt (x : Int32) : ifCond.holds .lt x = decide (x < 0) := by by_cases h : x < 0 <;> simp [ifCond.holds, h]
theorem c_ge (x : Int32) : ifCond.holds .ge x = decide (0 ≤ x) := by by_cases h : 0 ≤ x <;> simp [ifCond.holds, h]
theorem c_gt (x : Int32) : ifCond.holds .gt x = decide (0 < x) := by by_cases h : 0 < x <;> simp [ifCond.holds, h]
theorem c_le (x : Int32) : ifCond.holds .le x = decide (x ≤ 0) := by by_cases h : x ≤ 0 <;> simp [ifCond.holds, h]
theorem i_eq (x y : Int32) : if_icmp.holds .eq x y = decide (x = y) := by by_cases h : x = y <;> simp [if_icmp.holds, h]
theorem i_ne (x y : Int32) : if_icmp.holds .ne x y = decide (¬ x = y) := by by_cases h : x = y <;> simp [if_icmp.holds, h]
theorem i_lt (x y : Int32) : if_icmp.holds .lt x y = decide (x < y) := by by_cases h : x < y <;> simp [if_icmp.holds, h]
theorem i_ge (x y : Int32) : if_icmp.holds .ge x y = decide (y ≤ x) := by by_cases h : y ≤ x <;> simp [if_icmp.holds, h]
theorem i_gt (x y : Int32) : if_icmp.holds .gt x y = decide (y < x) := by by_cases h : y < x <;> simp [if_icmp.holds, h]
theorem i_le (x y : Int32) : if_icmp.holds .le x y = decide (x ≤ y) := by by_cases h : x ≤ y <;> simp [if_icmp.holds, h]
theorem gNullY {o : Int} {t : Nat} (hd : decode (P.mt j).code pc = .ok (.ifnull o, 3)) (ho : 0 ≤ (pc : Int) + o) (ht : ((pc : Int) + o).toNat = t) : Wp P j (pc, L, .null :: S, H, k, n) Q ↔ Wp P j (t, L, S, H, k, n) Q := by
  rw [gB (i := .ifnull o) hd rfl rfl ho ht, if_pos rfl]
theorem gNullN {o : Int} {a : Nat} (hd : decode (P.mt j).code pc = .ok (.ifnull o, 3)) : Wp P j (pc, L, .ref a :: S, H, k, n) Q ↔ Wp P j (pc + 3, L, S, H, k, n) Q :=
  wpS (i := .ifnull o) hd (show (4 : Nat) ≠ 3 by decide) (show (4 : Nat) ≠ 1 by decide) rfl
theorem gNonnullY {o : Int} {t : Nat} {a : Nat} (hd : decode (P.mt j).code pc = .ok (.ifnonnull o, 3)) (ho : 0 ≤ (pc : Int) + o) (ht : ((pc : Int) + o).toNat = t) : Wp P j (pc, L, .ref a :: S, H, k, n) Q ↔ Wp P j (t, L, S, H, k, n) Q := by
  rw [gB (i := .ifnonnull o) hd rfl rfl ho ht, if_pos rfl]
theorem gNonnullN {o : Int} (hd : decode (P.mt j).code pc = .ok (.ifnonnull o, 3)) : Wp P j (pc, L, .null :: S, H, k, n) Q ↔ Wp P j (pc + 3, L, S, H, k, n) Q :=
  wpS (i := .ifnonnull o) hd (show (4 : Nat) ≠ 3 by decide) (show (4 : Nat) ≠ 1 by decide) rfl
theorem gAcmp {cd : ACond} {o : Int} {t : Nat} {x y : Value} {c : Prop} [Decidable c] (hx : isA x = true) (hy : isA y = true) (hd : decode (P.mt j).code pc = .ok (.if_acmp cd o, 3)) (ho : 0 ≤ (pc : Int) + o) (ht : ((pc : Int) + o).toNat = t) (hc : XT.acmp cd x y = decide c) : Wp P j (pc, L, y :: x :: S, H, k, n) Q ↔ if c then Wp P j (t, L, S, H, k, n) Q else Wp P j (pc + 3, L, S, H, k, n) Q := by
  rw [gB (i := .if_acmp cd o) (b := XT.acmp cd x y) (r := S) hd rfl (by simp [brI, hx, hy]) ho ht]
  exact iteC hc
theorem gX {A : Type} (f : A → HR) (o : Option A) (hd : decode (P.mt j).code pc = .ok (i, ilen i)) (hk : isCall P j i = 5) (h : heapI P j pc i S H k n = o.map f) : Wp P j (pc, L, S, H, k, n) Q ↔ ∃ v, o = some v ∧ Wp P j (pc + ilen i, L, (f v).1, (f v).2.1, (f v).2.2.1, (f v).2.2.2) Q := by
  rw [gHO hd hk, h]
  cases o with
  | none => exact ⟨fun ⟨x, e, _⟩ => (by cases e), fun ⟨x, e, _⟩ => (by cases e)⟩
  | some v => exact ⟨fun ⟨x, e, w⟩ => ⟨v, rfl, (by cases e; exact w)⟩, fun ⟨x, e, w⟩ => ⟨f v, rfl, (by cases e; exact w)⟩⟩
theorem gGet {idx a : Nat} (hd : decode (P.mt j).code pc = .ok (.getfield idx, 3)) : Wp P j (pc, L, .ref a :: S, H, k, n) Q ↔ ∃ v, rdF P j idx H a = some v ∧ Wp P j (pc + 3, L, v :: S, H, k, n) Q :=
  gX (i := .getfield idx) (fun v => (v :: S, H, k, n)) (rdF P j idx H a) hd rfl (by show hGet P j idx (.ref a :: S) H k n = _; simp only [hGet]; cases rdF P j idx H a <;> rfl)
theorem gPut {idx a : Nat} {v : Value} (hd : decode (P.mt j).code pc = .ok (.putfield idx, 3)) : Wp P j (pc, L, v :: .ref a :: S, H, k, n) Q ↔ ∃ H', wrF P j idx H a v = some H' ∧ Wp P j (pc + 3, L, S, H', k, n) Q :=
  gX (i := .putfield idx) (fun H' => (S, H', k, n)) (wrF P j idx H a v) hd rfl (by show hPut P j idx (v :: .ref a :: S) H k n = _; simp only [hPut]; cases wrF P j idx H a v <;> rfl)
theorem gLen {a : Nat} (hd : decode (P.mt j).code pc = .ok (.arraylength, 1)) : Wp P j (pc, L, .ref a :: S, H, k, n) Q ↔ ∃ v, alen H a = some v ∧ Wp P j (pc + 1, L, .int v :: S, H, k, n) Q :=
  gX (i := .arraylength) (fun v => (.int v :: S, H, k, n)) (alen H a) hd rfl (by show hLen (.ref a :: S) H k n = _; simp only [hLen]; cases alen H a <;> rfl)
theorem gLdA {a : Nat} {x : Int32} (hi : i = .iaload ∨ i = .baload ∨ i = .caload ∨ i = .saload ∨ i = .laload ∨ i = .aaload ∨ i = .daload) (hd : decode (P.mt j).code pc = .ok (i, 1)) : Wp P j (pc, L, .int x :: .ref a :: S, H, k, n) Q ↔ ∃ v, ldA i H a x = some v ∧ Wp P j (pc + 1, L, v :: S, H, k, n) Q := by
  rcases hi with rfl | rfl | rfl | rfl | rfl | rfl | rfl
  all_goals exact gX (fun v => (v :: S, H, k, n)) (ldA _ H a x) hd rfl (by show hLda _ (.int x :: .ref a :: S) H k n = _; simp only [hLda]; cases ldA _ H a x <;> rfl)
theorem gStA {a : Nat} {x : Int32} {v : Value} (hi : i = .iastore ∨ i = .bastore ∨ i = .castore ∨ i = .lastore ∨ i = .aastore ∨ i = .dastore) (hd : decode (P.mt j).code pc = .ok (i, 1)) : Wp P j (pc, L, v :: .int x :: .ref a :: S, H, k, n) Q ↔ ∃ H', stA P i H a x v = some H' ∧ Wp P j (pc + 1, L, S, H', k, n) Q := by
  rcases hi with rfl | rfl | rfl | rfl | rfl | rfl
  all_goals exact gX (fun H' => (S, H', k, n)) (stA P _ H a x v) hd rfl (by show hSta P _ (v :: .int x :: .ref a :: S) H k n = _; simp only [hSta]; cases stA P _ H a x v <;> rfl)
theorem gNew {idx cid C Sl ns : Nat} {vs : List Value} (hd : decode (P.mt j).code pc = .ok (.new idx, 3)) (hq : lk2 P.nw j idx = some cid) (hC : (P.mt j).rm.cells = C) (hS : (P.mt j).rm.slots = Sl) (hns : P.nsl cid = ns) (hvs : ((P.flds cid).map fun fd => dft fd.2.2.2) = vs) (h1 : k + 1 ≤ C) (h2 : n + ns ≤ Sl) :
    Wp P j (pc, L, S, H, k, n) Q ↔ Wp P j (pc + 3, L, .ref H.length :: S, H ++ [(.inr cid, vs)], k + 1, n + ns) Q := by
  subst hC hS hns hvs
  have e : heapI P j pc (.new idx) S H k n = some (.ref H.length :: S, H ++ [(.inr cid, (P.flds cid).map fun fd => dft fd.2.2.2)], k + 1, n + P.nsl cid) := by
    simp only [heapI, hNew, newC, hq, if_pos (And.intro h1 h2)]
  exact gH (i := .new idx) hd rfl e
theorem gNewA {t : ArrayType} {ty : FieldType} {cap C Sl : Nat} {len : Int32} (hd : decode (P.mt j).code pc = .ok (.newarray t, 2)) (hty : newarray.typeOf t = ty) (hm : ty ∈ P.ats) (hq : lk2 P.cp j pc = some cap) (hcap : cap * 8 ≤ 536870912) (hC : (P.mt j).rm.cells = C) (hS : (P.mt j).rm.slots = Sl) (h1 : k + 1 ≤ C) (h2 : n + cap ≤ Sl) :
    Wp P j (pc, L, .int len :: S, H, k, n) Q ↔ (¬ len < 0 ∧ len.toNatClampNeg ≤ cap) ∧ Wp P j (pc + 2, L, .ref H.length :: S, H ++ [(.inl ty, List.replicate len.toNatClampNeg (dft ty))], k + 1, n + cap) Q := by
  subst hC hS hty
  rw [gHO (i := .newarray t) hd rfl]
  constructor
  · rintro ⟨x, h, w⟩
    simp only [heapI, hNewA, if_pos hm, newA, hq] at h
    split at h
    · rename_i y hy
      split at hy
      · rename_i hc
        cases hy
        cases h
        exact ⟨⟨hc.1, hc.2.1⟩, w⟩
      · cases hy
    · cases h
  · rintro ⟨hc, w⟩
    exact ⟨((.ref H.length :: S, H ++ [((.inl (newarray.typeOf t) : Kd), List.replicate len.toNatClampNeg (dft (newarray.typeOf t)))], k + 1, n + cap) : HR), by simp only [heapI, hNewA, if_pos hm, newA, hq, if_pos (show ¬ len < 0 ∧ len.toNatClampNeg ≤ cap ∧ cap * 8 ≤ 536870912 ∧ k + 1 ≤ (P.mt j).rm.cells ∧ n + cap ≤ (P.mt j).rm.slots from ⟨hc.1, hc.2, hcap, h1, h2⟩)], w⟩
theorem gNewR {idx cid cap C Sl : Nat} {nm : String} {len : Int32} (hd : decode (P.mt j).code pc = .ok (.anewarray idx, 3)) (hn : lk2 P.na j idx = some cid) (hnm : P.cname cid = nm) (hq : lk2 P.cp j pc = some cap) (hcap : cap * 8 ≤ 536870912) (hC : (P.mt j).rm.cells = C) (hS : (P.mt j).rm.slots = Sl) (h1 : k + 1 ≤ C) (h2 : n + cap ≤ Sl) :
    Wp P j (pc, L, .int len :: S, H, k, n) Q ↔ (¬ len < 0 ∧ len.toNatClampNeg ≤ cap) ∧ Wp P j (pc + 3, L, .ref H.length :: S, H ++ [(.inl (.object nm), List.replicate len.toNatClampNeg .null)], k + 1, n + cap) Q := by
  subst hC hS hnm
  rw [gHO (i := .anewarray idx) hd rfl]
  constructor
  · rintro ⟨x, h, w⟩
    simp only [heapI, hNewR, hn, newA, hq] at h
    split at h
    · rename_i y hy
      split at hy
      · rename_i hc
        cases hy
        cases h
        exact ⟨⟨hc.1, hc.2.1⟩, w⟩
      · cases hy
    · cases h
  · rintro ⟨hc, w⟩
    exact ⟨((.ref H.length :: S, H ++ [((.inl (.object (P.cname cid)) : Kd), List.replicate len.toNatClampNeg Value.null)], k + 1, n + cap) : HR), by simp only [heapI, hNewR, hn, newA, hq, if_pos (show ¬ len < 0 ∧ len.toNatClampNeg ≤ cap ∧ cap * 8 ≤ 536870912 ∧ k + 1 ≤ (P.mt j).rm.cells ∧ n + cap ≤ (P.mt j).rm.slots from ⟨hc.1, hc.2, hcap, h1, h2⟩)]; rfl, w⟩
theorem gCast {idx a : Nat} (hd : decode (P.mt j).code pc = .ok (.checkcast idx, 3)) : Wp P j (pc, L, .ref a :: S, H, k, n) Q ↔ castI P j idx H a = some true ∧ Wp P j (pc + 3, L, .ref a :: S, H, k, n) Q := by
  rw [gHO (i := .checkcast idx) hd rfl]
  constructor
  · rintro ⟨x, h, w⟩
    have h : (match castI P j idx H a with | some true => some ((.ref a :: S, H, k, n) : HR) | _ => none) = some x := h
    split at h
    · rename_i hv; cases h; exact ⟨hv, w⟩
    · cases h
  · rintro ⟨hv, w⟩
    refine ⟨(.ref a :: S, H, k, n), ?_, w⟩
    show (match castI P j idx H a with | some true => some ((.ref a :: S, H, k, n) : HR) | _ => none) = _
    rw [hv]
theorem gCast0 {idx : Nat} (hd : decode (P.mt j).code pc = .ok (.checkcast idx, 3)) : Wp P j (pc, L, .null :: S, H, k, n) Q ↔ Wp P j (pc + 3, L, .null :: S, H, k, n) Q :=
  gH (i := .checkcast idx) (x := (.null :: S, H, k, n)) hd rfl rfl
theorem gInst {idx a : Nat} (hd : decode (P.mt j).code pc = .ok (.instanceof idx, 3)) : Wp P j (pc, L, .ref a :: S, H, k, n) Q ↔ ∃ b, castI P j idx H a = some b ∧ Wp P j (pc + 3, L, .int (if b = true then 1 else 0) :: S, H, k, n) Q := by
  refine gX (i := .instanceof idx) (fun b => (.int (if b = true then 1 else 0) :: S, H, k, n)) (castI P j idx H a) hd rfl ?_
  show (match castI P j idx H a with | some true => some ((.int 1 :: S, H, k, n) : HR) | some false => some (.int 0 :: S, H, k, n) | none => none) = _
  cases castI P j idx H a with
  | none => rfl
  | some b => cases b <;> rfl
theorem gInst0 {idx : Nat} (hd : decode (P.mt j).code pc = .ok (.instanceof idx, 3)) : Wp P j (pc, L, .null :: S, H, k, n) Q ↔ Wp P j (pc + 3, L, .int 0 :: S, H, k, n) Q :=
  gH (i := .instanceof idx) (x := (.int 0 :: S, H, k, n)) hd rfl rfl
theorem gObj {idx a np j0 M F Lc : Nat} (hd : decode (P.mt j).code pc = .ok (.invokespecial idx, 3)) (hq : lk2 P.ic j idx = some (6, np, j0)) (hM : (P.mt j).mx = M) (hF : (P.mt j).rm.frames = F) (hL : (P.mt j).rm.locals = Lc) (hf : 1 ≤ F) (h1 : L.length = M) (h2 : wt S + 12 ≤ Lc) :
    Wp P j (pc, L, .ref a :: S, H, k, n) Q ↔ Wp P j (pc + 3, L, S, H, k, n) Q := by
  subst hM hF hL
  have hk : isCall P j (.invokespecial idx) = 2 := by simp only [isCall, hq]
  exact wpS (i := .invokespecial idx) hd (by rw [hk]; decide) (by rw [hk]; decide) (by simp only [stepI, hk, objI, hq, if_pos (show L.length = (P.mt j).mx ∧ 1 ≤ (P.mt j).rm.frames ∧ wt S + 12 ≤ (P.mt j).rm.locals from ⟨h1, hf, h2⟩)]; rfl)
theorem gRet {v : Option Value} {C Sl : Nat} (hd : decode (P.mt j).code pc = .ok (i, ilen i)) (hi : isCall P j i = 3) (hv : retI (P.mt j).ret i S = some v) (hC : (P.mt j).rm.cells = C) (hS : (P.mt j).rm.slots = Sl) (h1 : k ≤ C) (h2 : n ≤ Sl) : Wp P j (pc, L, S, H, k, n) Q ↔ Q (v, H) := by
  subst hC hS
  exact wpR hd hi hv ⟨h1, h2⟩
/-- the figures of a call: the caller's locals, the weight under the arguments, cells, slots -/
def Figs (P : Prg) (j j' M W C Sl c s : Nat) : Prop := (P.mt j).mx = M ∧ (P.mt j').rm.frames + 1 ≤ (P.mt j).rm.frames ∧ W + ((P.mt j').mx + 11) + (P.mt j').rm.locals ≤ (P.mt j).rm.locals ∧ (P.mt j).rm.cells = C ∧ (P.mt j).rm.slots = Sl ∧ (P.mt j').rm.cells = c ∧ (P.mt j').rm.slots = s
theorem figs_rm {j' M W C Sl c s : Nat} {r : List Value} (F : Figs P j j' M W C Sl c s) (h1 : L.length = M) (h2 : wt r ≤ W) (h3 : k + c ≤ C) (h4 : n + s ≤ Sl) : rmOk P j j' L r k n = true := by
  obtain ⟨f1, f2, f3, f4, f5, f6, f7⟩ := F
  subst f1 f4 f5 f6 f7
  simp only [rmOk, Bool.and_eq_true, decide_eq_true_eq]
  exact ⟨h1, f2, by omega, h3, h4⟩
theorem gCall {j' M W C Sl c s : Nat} {as rr : List Value} {Le : List Slot} (hd : decode (P.mt j).code pc = .ok (i, ilen i)) (hi : isCall P j i = 1) (hc : calI P j i S H = some (j', as, rr)) (F : Figs P j j' M W C Sl c s) (he : entL as (P.mt j').mx = Le) (h1 : L.length = M) (h2 : wt rr ≤ W) (h3 : k + c ≤ C) (h4 : n + s ≤ Sl) :
    Wp P j (pc, L, S, H, k, n) Q ↔ Wp P j' (0, Le, [], H, 0, 0) fun r => Wp P j (pc + 3, L, r.1.toList ++ rr, r.2, k + c, n + s) Q := by
  rw [wpC hd hi hc (figs_rm F h1 h2 h3 h4), he]
  obtain ⟨-, -, -, -, -, rfl, rfl⟩ := F
  exact Iff.rfl
def kdO : Obj → Option Nat | (.inr cid, _) => some cid | _ => none
def kdOf (H : Hp) (a : Nat) : Option Nat := match H[a]? with | some o => kdO o | none => none
theorem gVirt {idx np x0 cid j' a M W C Sl c s : Nat} {rr : List Value} {Le : List Slot} (hd : decode (P.mt j).code pc = .ok (.invokevirtual idx, 3)) (hq : lk2 P.ic j idx = some (2, np, x0)) (hv : lk3 P.vc j idx cid = some (np, j')) (hdr : S.drop np = .ref a :: rr) (F : Figs P j j' M W C Sl c s) (he : entL (.ref a :: (S.take np).reverse) (P.mt j').mx = Le) (ho : kdOf H a = some cid) (h1 : L.length = M) (h2 : wt rr ≤ W) (h3 : k + c ≤ C) (h4 : n + s ≤ Sl) :
    Wp P j (pc, L, S, H, k, n) Q ↔ Wp P j' (0, Le, [], H, 0, 0) fun r => Wp P j (pc + 3, L, r.1.toList ++ rr, r.2, k + c, n + s) Q := by
  refine gCall (i := .invokevirtual idx) hd rfl ?_ F he h1 h2 h3 h4
  unfold kdOf at ho
  split at ho
  · rename_i o hH
    obtain ⟨kd, vs⟩ := o
    cases kd with
    | inl t => cases ho
    | inr cid' =>
      cases ho
      simp only [calI, hq, hdr, hH, hv, if_true]
  · cases ho
theorem wt_nil : wt [] = 0 := id rfl
theorem wt_int (x : Int32) (S : List Value) : wt (.int x :: S) = 1 + wt S := id rfl
theorem wt_ref (x : Nat) (S : List Value) : wt (.ref x :: S) = 1 + wt S := id rfl
theorem wt_null (S : List Value) : wt (.null :: S) = 1 + wt S := id rfl
theorem wt_long (x : Int64) (S : List Value) : wt (.long x :: S) = 2 + wt S := id rfl
theorem wt_double (x : UInt64) (S : List Value) : wt (.double x :: S) = 2 + wt S := id rfl
theorem s1_unset : s1 .unset = true := id rfl
theorem s1_int (x : Int32) : s1 (.val (.int x)) = true := id rfl
theorem s1_ref (x : Nat) : s1 (.val (.ref x)) = true := id rfl
theorem s1_null : s1 (.val .null) = true := id rfl
def s2 : Slot → Bool | .val _ => true | .unset => true | .second => false
def s3 : Slot → Bool | .val v => cat v == 1 | _ => true
theorem s2_unset : s2 .unset = true := id rfl
theorem s2_val (v : Value) : s2 (.val v) = true := id rfl
theorem s3_unset : s3 .unset = true := id rfl
theorem s3_second : s3 .second = true := id rfl
theorem s3_int (x : Int32) : s3 (.val (.int x)) = true := id rfl
theorem s3_ref (x : Nat) : s3 (.val (.ref x)) = true := id rfl
theorem st1_eq {q : Value → Bool} {L : List Slot} {k : Nat} {v : Value} {o : Slot} (h : L[k]? = some o) (ho : s1 o = true) (hq : q v = true) : st1 q L k (v :: S) = some (L.set k (.val v), S) := by
  simp only [st1, so1, h, ho, hq, Bool.and_self, if_true]
theorem st2_eq {q : Value → Bool} {L : List Slot} {k : Nat} {v : Value} {o o' : Slot} (h : L[k]? = some o) (h' : L[k + 1]? = some o') (ho : s2 o = true) (ho' : s3 o' = true) (hq : q v = true) : st2 q L k (v :: S) = some ((L.set k (.val v)).set (k + 1) .second, S) := by
  have e : so2 L k = true := by
    simp only [so2, h, h']
    cases o with
    | second => cases ho
    | unset => cases o' <;> first | rfl | exact ho'
    | val u => cases o' <;> first | rfl | exact ho'
  simp only [st2, e, hq, Bool.and_self, if_true]
theorem rdF_at {idx a : Nat} {o : Obj} (h : H[a]? = some o) : rdF P j idx H a = rdO P j idx o := by simp only [rdF, h]
end Rows
end Jvm.MM
namespace Jvm.MM
open Jvm Jvm.ClassFile Sem Op Lib Jvm.Free Jvm.Stand Jvm.LawKit Jvm.RoadKit
theorem am_nil {α : Type} {p : α → Prop} : ∀ x ∈ ([] : List α), p x := fun x h => nomatch h
theorem am_cons {α : Type} {p : α → Prop} {a : α} {l : List α} (h : p a) (t : ∀ x ∈ l, p x) : ∀ x ∈ a :: l, p x := fun x hx => (List.mem_cons.mp hx).elim (fun q => q ▸ h) (t x)
theorem Arity.of {d : String} {np : Nat} (h : ((parseMethodDescriptor d).map fun sig => sig.parameters.length) = some np) : Arity d np := fun sig hs => by
  rw [hs] at h
  exact (Option.some.inj h).symm
theorem laid_nil : laid [] = [] := rfl
theorem laid_c1 {v : Value} {r : List Value} (h : cat v = 1) : laid (v :: r) = .val v :: laid r := if_neg (by rw [h]; decide)
theorem laid_c2 {v : Value} {r : List Value} (h : cat v = 2) : laid (v :: r) = .val v :: .second :: laid r := if_pos h
theorem isA_ref' (a : Nat) : isA (.ref a) = true := id rfl
theorem isA_null' : isA .null = true := id rfl
theorem cat_int (x : Int32) : cat (.int x) = 1 := id rfl
theorem cat_ref (a : Nat) : cat (.ref a) = 1 := id rfl
theorem cat_null : cat .null = 1 := id rfl
theorem kdOf_eq (H : Hp) (a : Nat) : kdOf H a = (H[a]?).bind kdO := by unfold kdOf; cases H[a]? <;> rfl
theorem kdO_obj (c : Nat) (vs : List Value) : kdO (.inr c, vs) = some c := id rfl
theorem rdF_eq (P : Prg) (j i : Nat) (H : Hp) (a : Nat) : rdF P j i H a = (H[a]?).bind (rdO P j i) := by unfold rdF; cases H[a]? <;> rfl
theorem wrF_eq (P : Prg) (j i : Nat) (H : Hp) (a : Nat) (v : Value) : wrF P j i H a v = if a < P.j0 then none else (H[a]?).bind fun o => (wrO P j i v o).map (H.set a) := by
  unfold wrF
  split
  · rfl
  · cases H[a]? with
    | none => rfl
    | some o => show (match wrO P j i v o with | some o' => some (H.set a o') | none => none) = (wrO P j i v o).map (H.set a); cases wrO P j i v o <;> rfl
def alO : Obj → Option Int32
  | (.inl _, vs) => some vs.length.toInt32
  | _ => none
theorem alO_a (ty : FieldType) (vs : List Value) : alO (.inl ty, vs) = some vs.length.toInt32 := id rfl
theorem alen_eq (H : Hp) (a : Nat) : alen H a = (H[a]?).bind alO := by
  unfold alen
  cases H[a]? with
  | none => rfl
  | some o => obtain ⟨kd, vs⟩ := o; cases kd <;> rfl
def ldO (i : Instr) (x : Int32) : Obj → Option Value
  | (.inl ty, vs) => if aty i ty = true ∧ ¬ x < 0 then vs[x.toNatClampNeg]? else none
  | _ => none
theorem ldA_eq (i : Instr) (H : Hp) (a : Nat) (x : Int32) : ldA i H a x = (H[a]?).bind (ldO i x) := by
  unfold ldA
  cases H[a]? with
  | none => rfl
  | some o => obtain ⟨kd, vs⟩ := o; cases kd <;> rfl
theorem ldO_i (x : Int32) (vs : List Value) : ldO .iaload x (.inl .int, vs) = if x < 0 then none else vs[x.toNatClampNeg]? := by by_cases h : x < 0 <;> simp [ldO, aty, h]
theorem ldO_b (x : Int32) (vs : List Value) : ldO .baload x (.inl .byte, vs) = if x < 0 then none else vs[x.toNatClampNeg]? := by by_cases h : x < 0 <;> simp [ldO, aty, h]
theorem ldO_c (x : Int32) (vs : List Value) : ldO .caload x (.inl .char, vs) = if x < 0 then none else vs[x.toNatClampNeg]? := by by_cases h : x < 0 <;> simp [ldO, aty, h]
theorem ldO_a (x : Int32) (C : String) (vs : List Value) : ldO .aaload x (.inl (.object C), vs) = if x < 0 then none else vs[x.toNatClampNeg]? := by by_cases h : x < 0 <;> simp [ldO, aty, h]
def stO (i : Instr) (x : Int32) (v : Value) : Obj → Option Obj
  | (.inl ty, vs) => if aty i ty = true ∧ ¬ x < 0 ∧ x.toNatClampNeg < vs.length then some (.inl ty, vs.set x.toNatClampNeg v) else none
  | _ => none
theorem stA_gen (P : Prg) (i : Instr) (H : Hp) (a : Nat) (x : Int32) (v w : Value) (hv : ∀ ty, aty i ty = true → vty ty v = some w) (hs : ∀ ty, aty i ty = true → stoOk P H ty w = true) : stA P i H a x v = if a < P.j0 then none else (H[a]?).bind fun o => (stO i x w o).map (H.set a) := by
  unfold stA
  split
  · rfl
  · cases H[a]? with
    | none => rfl
    | some o =>
      obtain ⟨kd, vs⟩ := o
      cases kd with
      | inr c => rfl
      | inl ty =>
        show (match vty ty v with | some v' => if aty i ty = true ∧ ¬ x < 0 ∧ x.toNatClampNeg < vs.length ∧ stoOk P H ty v' = true then some (H.set a (.inl ty, vs.set x.toNatClampNeg v')) else none | none => none) = Option.map (H.set a) (if aty i ty = true ∧ ¬ x < 0 ∧ x.toNatClampNeg < vs.length then some (.inl ty, vs.set x.toNatClampNeg w) else none)
        by_cases ht : aty i ty = true
        · rw [hv ty ht]
          by_cases q : ¬ x < 0 ∧ x.toNatClampNeg < vs.length
          · rw [if_pos ⟨ht, q⟩]
            show (if _ then _ else _) = _
            rw [if_pos ⟨ht, q.1, q.2, hs ty ht⟩]
            rfl
          · rw [if_neg fun z => q z.2]
            show (if _ then _ else _) = _
            rw [if_neg fun z => q ⟨z.2.1, z.2.2.1⟩]
            rfl
        · rw [if_neg fun z => ht z.1]
          cases vty ty v with
          | none => rfl
          | some v' =>
            show (if _ then _ else _) = _
            rw [if_neg fun z => ht z.1]
            rfl
theorem stA_i (P : Prg) (H : Hp) (a : Nat) (x y : Int32) : stA P .iastore H a x (.int y) = if a < P.j0 then none else (H[a]?).bind fun o => (stO .iastore x (.int y) o).map (H.set a) := stA_gen P .iastore H a x _ _ (fun ty h => by cases ty <;> first | rfl | cases h) (fun ty h => by cases ty <;> first | rfl | cases h)
theorem stA_b (P : Prg) (H : Hp) (a : Nat) (x y : Int32) : stA P .bastore H a x (.int y) = if a < P.j0 then none else (H[a]?).bind fun o => (stO .bastore x (.int y.toInt8.toInt32) o).map (H.set a) := stA_gen P .bastore H a x _ _ (fun ty h => by cases ty <;> first | rfl | cases h) (fun ty h => by cases ty <;> first | rfl | cases h)
theorem stA_c (P : Prg) (H : Hp) (a : Nat) (x y : Int32) : stA P .castore H a x (.int y) = if a < P.j0 then none else (H[a]?).bind fun o => (stO .castore x (.int y.toUInt32.toUInt16.toUInt32.toInt32) o).map (H.set a) := stA_gen P .castore H a x _ _ (fun ty h => by cases ty <;> first | rfl | cases h) (fun ty h => by cases ty <;> first | rfl | cases h)
theorem stA_d (P : Prg) (H : Hp) (a : Nat) (x : Int32) (y : UInt64) : stA P .dastore H a x (.double y) = if a < P.j0 then none else (H[a]?).bind fun o => (stO .dastore x (.double y) o).map (H.set a) := stA_gen P .dastore H a x _ _ (fun ty h => by cases ty <;> first | rfl | cases h) (fun ty h => by cases ty <;> first | rfl | cases h)
theorem stO_b (x : Int32) (v : Value) (vs : List Value) : stO .bastore x v (.inl .byte, vs) = if x < 0 then none else if x.toNatClampNeg < vs.length then some (.inl .byte, vs.set x.toNatClampNeg v) else none := by
  by_cases h : x < 0 <;> by_cases h' : x.toNatClampNeg < vs.length <;> simp [stO, aty, h, h']
theorem stO_c (x : Int32) (v : Value) (vs : List Value) : stO .castore x v (.inl .char, vs) = if x < 0 then none else if x.toNatClampNeg < vs.length then some (.inl .char, vs.set x.toNatClampNeg v) else none := by
  by_cases h : x < 0 <;> by_cases h' : x.toNatClampNeg < vs.length <;> simp [stO, aty, h, h']
theorem stO_d (x : Int32) (v : Value) (vs : List Value) : stO .dastore x v (.inl .double, vs) = if x < 0 then none else if x.toNatClampNeg < vs.length then some (.inl .double, vs.set x.toNatClampNeg v) else none := by
  by_cases h : x < 0 <;> by_cases h' : x.toNatClampNeg < vs.length <;> simp [stO, aty, h, h']
theorem ldO_d (x : Int32) (vs : List Value) : ldO .daload x (.inl .double, vs) = if x < 0 then none else vs[x.toNatClampNeg]? := by by_cases h : x < 0 <;> simp [ldO, aty, h]
theorem stO_i (x : Int32) (v : Value) (vs : List Value) : stO .iastore x v (.inl .int, vs) = if x < 0 then none else if x.toNatClampNeg < vs.length then some (.inl .int, vs.set x.toNatClampNeg v) else none := by
  by_cases h : x < 0 <;> by_cases h' : x.toNatClampNeg < vs.length <;> simp [stO, aty, h, h']
theorem tn0 : (0 : Int32).toNatClampNeg = 0 := by decide
theorem tl0 : Nat.toInt32 0 = 0 := by decide
theorem rp0 {α : Type} (a : α) : List.replicate 0 a = [] := rfl
theorem tn1 : (1 : Int32).toNatClampNeg = 1 := by decide
theorem tl1 : Nat.toInt32 1 = 1 := by decide
theorem rp1 {α : Type} (a : α) : List.replicate 1 a = [a] := rfl
theorem tn2 : (2 : Int32).toNatClampNeg = 2 := by decide
theorem tl2 : Nat.toInt32 2 = 2 := by decide
theorem rp2 {α : Type} (a : α) : List.replicate 2 a = [a, a] := rfl
theorem tn3 : (3 : Int32).toNatClampNeg = 3 := by decide
theorem tl3 : Nat.toInt32 3 = 3 := by decide
theorem rp3 {α : Type} (a : α) : List.replicate 3 a = [a, a, a] := rfl
theorem tn4 : (4 : Int32).toNatClampNeg = 4 := by decide
theorem tl4 : Nat.toInt32 4 = 4 := by decide
theorem rp4 {α : Type} (a : α) : List.replicate 4 a = [a, a, a, a] := rfl
theorem tn5 : (5 : Int32).toNatClampNeg = 5 := by decide
theorem tl5 : Nat.toInt32 5 = 5 := by decide
theorem rp5 {α : Type} (a : α) : List.replicate 5 a = [a, a, a, a, a] := rfl
theorem tn6 : (6 : Int32).toNatClampNeg = 6 := by decide
theorem tl6 : Nat.toInt32 6 = 6 := by decide
theorem rp6 {α : Type} (a : α) : List.replicate 6 a = [a, a, a, a, a, a] := rfl
theorem tn7 : (7 : Int32).toNatClampNeg = 7 := by decide
theorem tl7 : Nat.toInt32 7 = 7 := by decide
theorem rp7 {α : Type} (a : α) : List.replicate 7 a = [a, a, a, a, a, a, a] := rfl
theorem tn8 : (8 : Int32).toNatClampNeg = 8 := by decide
theorem tl8 : Nat.toInt32 8 = 8 := by decide
theorem rp8 {α : Type} (a : α) : List.replicate 8 a = [a, a, a, a, a, a, a, a] := rfl
theorem tn9 : (9 : Int32).toNatClampNeg = 9 := by decide
theorem tl9 : Nat.toInt32 9 = 9 := by decide
theorem rp9 {α : Type} (a : α) : List.replicate 9 a = [a, a, a, a, a, a, a, a, a] := rfl
end Jvm.MM
namespace Jvm.MM
open Jvm Jvm.ClassFile Sem Op Lib Jvm.Free Jvm.Stand Jvm.LawKit Jvm.RoadKit
/-! ### a local that isn't read may hold what it will -/
def LeS (a b : Slot) : Prop := a = b ∨ (a = .unset ∧ ∃ x : Int32, b = .val (.int x))
def LeL (L L' : List Slot) : Prop := L.length = L'.length ∧ ∀ (i : Nat) (a : Slot), L[i]? = some a → ∃ b, L'[i]? = some b ∧ LeS a b
theorem LeL.refl (L : List Slot) : LeL L L := ⟨rfl, fun i a h => ⟨a, h, Or.inl rfl⟩⟩
theorem LeL.cons {L L' : List Slot} {a b : Slot} (h : LeS a b) (t : LeL L L') : LeL (a :: L) (b :: L') := by
  refine ⟨by simp [t.1], fun i c hc => ?_⟩
  cases i with
  | zero =>
    simp only [List.getElem?_cons_zero, Option.some.injEq] at hc
    subst hc
    exact ⟨b, by simp, h⟩
  | succ i =>
    simp only [List.getElem?_cons_succ] at hc ⊢
    exact t.2 i c hc
theorem LeL.same {L L' : List Slot} {a : Slot} (t : LeL L L') : LeL (a :: L) (a :: L') := LeL.cons (Or.inl rfl) t
theorem LeL.int {L L' : List Slot} {x : Int32} (t : LeL L L') : LeL (.unset :: L) (.val (.int x) :: L') := LeL.cons (Or.inr ⟨rfl, x, rfl⟩) t
theorem LeL.val {L L' : List Slot} (t : LeL L L') {k : Nat} {v : Value} (h : L[k]? = some (.val v)) : L'[k]? = some (.val v) := by
  obtain ⟨b, h1, h2⟩ := t.2 k _ h
  rcases h2 with rfl | ⟨q, -⟩
  · exact h1
  · cases q
theorem LeL.set {L L' : List Slot} (t : LeL L L') (k : Nat) (a : Slot) : LeL (L.set k a) (L'.set k a) := by
  refine ⟨by simp [t.1], fun i c hc => ?_⟩
  by_cases e : k = i
  · subst e
    have hl : k < L.length := by
      have := (List.getElem?_eq_some_iff.mp hc).1
      simpa using this
    rw [List.getElem?_set_self hl] at hc
    cases hc
    exact ⟨a, List.getElem?_set_self (by rw [← t.1]; exact hl), Or.inl rfl⟩
  · rw [List.getElem?_set_ne e] at hc
    rw [List.getElem?_set_ne e]
    exact t.2 i c hc
theorem ld_le {q : Value → Bool} {L L' L1 : List Slot} {k : Nat} {S S1 : List Value} (t : LeL L L') (h : ld q L k S = some (L1, S1)) : ∃ L1', ld q L' k S = some (L1', S1) ∧ LeL L1 L1' := by
  obtain ⟨v, h1, h2, rfl, rfl⟩ := ld_inv h
  exact ⟨L', by simp only [ld, t.val h1, h2, if_true], t⟩
theorem st1_le {q : Value → Bool} {L L' L1 : List Slot} {k : Nat} {S S1 : List Value} (t : LeL L L') (h : st1 q L k S = some (L1, S1)) : ∃ L1', st1 q L' k S = some (L1', S1) ∧ LeL L1 L1' := by
  obtain ⟨v, o, rfl, h1, h2, h3, rfl⟩ := st1_inv h
  obtain ⟨b, g1, g2⟩ := t.2 k o h2
  have : s1 b = true := by
    rcases g2 with rfl | ⟨-, x, rfl⟩
    · exact h3
    · rfl
  exact ⟨_, st1_eq g1 this h1, t.set k _⟩
theorem st2_le {q : Value → Bool} {L L' L1 : List Slot} {k : Nat} {S S1 : List Value} (t : LeL L L') (h : st2 q L k S = some (L1, S1)) : ∃ L1', st2 q L' k S = some (L1', S1) ∧ LeL L1 L1' := by
  obtain ⟨v, rfl, h1, h2, rfl⟩ := st2_inv h
  simp only [so2, Bool.and_eq_true] at h2
  obtain ⟨a1, a2⟩ := h2
  cases q1 : L[k]? with
  | none => rw [q1] at a1; cases a1
  | some o =>
    cases q2 : L[k + 1]? with
    | none => rw [q2] at a2; cases a2
    | some o' =>
      obtain ⟨b, g1, g2⟩ := t.2 k o q1
      obtain ⟨b', g1', g2'⟩ := t.2 (k + 1) o' q2
      rw [q1] at a1
      rw [q2] at a2
      have e1 : s2 b = true := by
        rcases g2 with rfl | ⟨-, x, rfl⟩
        · cases o <;> first | rfl | cases a1
        · rfl
      have e2 : s3 b' = true := by
        rcases g2' with rfl | ⟨-, x, rfl⟩
        · cases o' <;> first | rfl | exact a2
        · rfl
      exact ⟨_, st2_eq g1 g1' e1 e2 h1, (t.set k _).set _ _⟩
theorem keepL_le {L L' L1 : List Slot} {o : Option (List Value)} {S1 : List Value} (t : LeL L L') (h : keepL L o = some (L1, S1)) : ∃ L1', keepL L' o = some (L1', S1) ∧ LeL L1 L1' := by
  obtain ⟨rfl, rfl⟩ := keepL_inv h
  exact ⟨L', rfl, t⟩
theorem plain_le {i : Instr} {L L' L1 : List Slot} {S S1 : List Value} (t : LeL L L') (h : plainI i L S = some (L1, S1)) : ∃ L1', plainI i L' S = some (L1', S1) ∧ LeL L1 L1' := by
  cases i
  case iinc k c0 =>
    obtain ⟨x, h1, rfl, rfl⟩ := inc_inv h
    exact ⟨_, by simp only [plainI, inc, t.val h1], t.set k _⟩
  all_goals first
    | (cases h; exact ⟨L', rfl, t⟩)
    | exact ld_le t h
    | exact st1_le t h
    | exact st2_le t h
    | exact keepL_le t h
    | exact absurd h (fun q => by cases q)
theorem step_le {P : Prg} {j pc : Nat} {i : Instr} {L L' : List Slot} {S : List Value} {H : Hp} {k n : Nat} {st : St} (t : LeL L L') (h : stepI P j i (pc, L, S, H, k, n) = some st) :
    ∃ L1', LeL st.2.1 L1' ∧ stepI P j i (pc, L', S, H, k, n) = some (st.1, L1', st.2.2) := by
  simp only [stepI] at h ⊢
  split at h
  · split at h
    · rename_i x hx
      cases h
      obtain ⟨L1', g1, g2⟩ := plain_le t hx
      exact ⟨L1', g2, by simp only [g1]⟩
    · cases h
  · split at h
    · rename_i r hr
      cases h
      refine ⟨L', t, ?_⟩
      have : objI P j i L' S = some r := by
        have e : objI P j i L' S = objI P j i L S := by
          cases i <;> first | rfl | simp only [objI, t.1]
        rw [e]; exact hr
      simp only [this]
    · cases h
  · split at h
    · rename_i o r hb
      split at h
      · rename_i ho
        cases h
        exact ⟨L', t, by simp only [hb, if_pos ho]⟩
      · cases h
    · rename_i hb
      cases h
      exact ⟨L', t, by simp only [hb]⟩
    · cases h
  · split at h
    · rename_i x hx
      cases h
      exact ⟨L', t, by simp only [hx]⟩
    · cases h
  · cases h
theorem run_le {P : Prg} : ∀ {f j pc : Nat} {L L' : List Slot} {S : List Value} {H : Hp} {k n : Nat} {r : MRes}, LeL L L' → run P f j (pc, L, S, H, k, n) = some r → run P f j (pc, L', S, H, k, n) = some r
  | 0, j, pc, L, L', S, H, k, n, r, t, h => by simp only [run] at h; cases h
  | f + 1, j, pc, L, L', S, H, k, n, r, t, h => by
    obtain ⟨i, hd, hcase⟩ := run_inv h
    rcases hcase with ⟨hi, v, hv, hk, rfl⟩ | ⟨hi, j', as, rr, r', hcal, hrm, h1, h2⟩ | ⟨h3, h1', ⟨pc', L1, S1, H1, k1, n1⟩, hst, h1⟩
    · exact run_ret hd hi hv hk
    · have hrm' : rmOk P j j' L' rr k n = true := by
        have e : rmOk P j j' L' rr k n = rmOk P j j' L rr k n := by simp only [rmOk, t.1]
        rw [e]; exact hrm
      rw [run_call hd hi hcal hrm' h1]
      exact run_le t h2
    · obtain ⟨L1', g1, g2⟩ := step_le t hst
      rw [run_step hd h3 h1' g2]
      exact run_le g1 h1
theorem wp_run {P : Prg} {j pc : Nat} {L L' : List Slot} {S : List Value} {H : Hp} {k n : Nat} {Q : MRes → Prop} (f : Nat) {v : Option Value} (t : LeL L L') (h : (run P f j (pc, L, S, H, k, n)).map (·.1) = some v) (hq : ∀ H', Q (v, H')) : Wp P j (pc, L', S, H, k, n) Q := by
  cases hr : run P f j (pc, L, S, H, k, n) with
  | none => rw [hr] at h; cases h
  | some r =>
    rw [hr] at h
    obtain ⟨v', H'⟩ := r
    cases h
    exact ⟨f, _, run_le t hr, hq H'⟩
/-! ### a run up to a given pc, with locals laid under it -/
def ovS : Slot → Slot → Slot
  | .unset, b => b
  | a, _ => a
def ov : List Slot → List Slot → List Slot
  | a :: L, b :: B => ovS a b :: ov L B
  | L, _ => L
def Ints (B : List Slot) : Prop := ∀ b ∈ B, b = .unset ∨ ∃ x : Int32, b = .val (.int x)
theorem ov_len : ∀ L B : List Slot, (ov L B).length = L.length
  | [], B => by cases B <;> rfl
  | a :: L, [] => rfl
  | a :: L, b :: B => by show (ov L B).length + 1 = L.length + 1; rw [ov_len L B]
theorem ov_le {B : List Slot} (hB : Ints B) : ∀ L : List Slot, LeL L (ov L B) := by
  induction B with
  | nil => intro L; cases L <;> exact LeL.refl _
  | cons b B ih =>
    intro L
    cases L with
    | nil => exact LeL.refl _
    | cons a L =>
      refine LeL.cons ?_ (ih (fun x hx => hB x (List.mem_cons_of_mem _ hx)) L)
      cases a with
      | unset =>
        rcases hB b List.mem_cons_self with rfl | ⟨x, rfl⟩
        · exact Or.inl rfl
        · exact Or.inr ⟨rfl, x, rfl⟩
      | second => exact Or.inl rfl
      | val v => exact Or.inl rfl
theorem ov_set {a : Slot} (ha : a ≠ .unset) : ∀ (L B : List Slot) (k : Nat), ov (L.set k a) B = (ov L B).set k a
  | [], B, k => by cases B <;> rfl
  | c :: L, [], k => by cases k <;> rfl
  | c :: L, b :: B, 0 => by
    show ovS a b :: ov L B = a :: ov L B
    cases a with
    | unset => exact absurd rfl ha
    | second => rfl
    | val v => rfl
  | c :: L, b :: B, k + 1 => by
    show ovS c b :: ov (L.set k a) B = ovS c b :: (ov L B).set k a
    rw [ov_set ha L B k]
theorem ov_val {L B : List Slot} (hB : Ints B) {k : Nat} {v : Value} (h : L[k]? = some (.val v)) : (ov L B)[k]? = some (.val v) := (ov_le hB L).val h
theorem plain_ov {i : Instr} {L L1 B : List Slot} {S S1 : List Value} (hB : Ints B) (h : plainI i L S = some (L1, S1)) : plainI i (ov L B) S = some (ov L1 B, S1) := by
  have hst1 : ∀ {q : Value → Bool} {k : Nat}, st1 q L k S = some (L1, S1) → st1 q (ov L B) k S = some (ov L1 B, S1) := fun {q k} h => by
    obtain ⟨v, o, rfl, h1, h2, h3, rfl⟩ := st1_inv h
    obtain ⟨b, g1, g2⟩ := (ov_le hB L).2 k o h2
    have : s1 b = true := by
      rcases g2 with rfl | ⟨-, x, rfl⟩
      · exact h3
      · rfl
    rw [st1_eq g1 this h1, ov_set (by simp)]
  have hst2 : ∀ {q : Value → Bool} {k : Nat}, st2 q L k S = some (L1, S1) → st2 q (ov L B) k S = some (ov L1 B, S1) := fun {q k} h => by
    obtain ⟨L1', g1, -⟩ := st2_le (ov_le hB L) h
    obtain ⟨v, rfl, h1, h2, rfl⟩ := st2_inv h
    obtain ⟨v', e1, -, -, e2⟩ := st2_inv g1
    cases e1
    rw [g1, e2, ov_set (by simp), ov_set (by simp)]
  have hld : ∀ {q : Value → Bool} {k : Nat}, ld q L k S = some (L1, S1) → ld q (ov L B) k S = some (ov L1 B, S1) := fun {q k} h => by
    obtain ⟨v, h1, h2, rfl, rfl⟩ := ld_inv h
    simp only [ld, ov_val hB h1, h2, if_true]
  have hkp : ∀ {o : Option (List Value)}, keepL L o = some (L1, S1) → keepL (ov L B) o = some (ov L1 B, S1) := fun {o} h => by
    obtain ⟨rfl, rfl⟩ := keepL_inv h
    rfl
  cases i
  case iinc k c0 =>
    obtain ⟨x, h1, rfl, rfl⟩ := inc_inv h
    show inc (ov L B) k c0 _ = _
    simp only [inc, ov_val hB h1]
    rw [ov_set (by simp)]
  all_goals first
    | (cases h; rfl)
    | exact hld h
    | exact hst1 h
    | exact hst2 h
    | exact hkp h
    | exact absurd h (fun q => by cases q)
theorem step_ov {P : Prg} {j pc : Nat} {i : Instr} {L B : List Slot} {S : List Value} {H : Hp} {k n : Nat} {st : St} (hB : Ints B) (h : stepI P j i (pc, L, S, H, k, n) = some st) : stepI P j i (pc, ov L B, S, H, k, n) = some (st.1, ov st.2.1 B, st.2.2) := by
  simp only [stepI] at h ⊢
  split at h
  · split at h
    · rename_i x hx
      cases h
      simp only [plain_ov hB hx]
    · cases h
  · split at h
    · rename_i r hr
      cases h
      have : objI P j i (ov L B) S = some r := by
        have e : objI P j i (ov L B) S = objI P j i L S := by
          cases i <;> first | rfl | simp only [objI, ov_len]
        rw [e]; exact hr
      simp only [this]
    · cases h
  · split at h
    · rename_i o r hb
      split at h
      · rename_i ho
        cases h
        simp only [hb, if_pos ho]
      · cases h
    · rename_i hb
      cases h
      simp only [hb]
    · cases h
  · split at h
    · rename_i x hx
      cases h
      simp only [hx]
    · cases h
  · cases h
/-- up to pc t, within this frame; a call by 'run' with fuel f -/
def goU (P : Prg) (f t : Nat) : Nat → Nat → St → Option St
  | 0, _, _ => none
  | g + 1, j, (pc, L, S, H, k, n) =>
    if pc = t then some (pc, L, S, H, k, n) else
    match decode (P.mt j).code pc with
    | .error _ => none
    | .ok (i, len) =>
      if len = ilen i then
        match isCall P j i with
        | 3 => none
        | 1 => (match calI P j i S H with
          | some (j', as, r) =>
            if rmOk P j j' L r k n = true then
              (match run P f j' (0, entL as (P.mt j').mx, [], H, 0, 0) with
              | some (v, H') => goU P f t g j (pc + 3, L, v.toList ++ r, H', k + (P.mt j').rm.cells, n + (P.mt j').rm.slots)
              | none => none)
            else none
          | none => none)
        | _ => (match stepI P j i (pc, L, S, H, k, n) with | some st' => goU P f t g j st' | none => none)
      else none
theorem wp_goU {P : Prg} {f t : Nat} {B : List Slot} (hB : Ints B) {Q : MRes → Prop} : ∀ {g j : Nat} {pc : Nat} {L : List Slot} {S : List Value} {H : Hp} {k n : Nat} {st : St}, goU P f t g j (pc, L, S, H, k, n) = some st → Wp P j (st.1, ov st.2.1 B, st.2.2) Q → Wp P j (pc, ov L B, S, H, k, n) Q
  | 0, j, pc, L, S, H, k, n, st, h, w => by simp only [goU] at h; cases h
  | g + 1, j, pc, L, S, H, k, n, st, h, w => by
    simp only [goU] at h
    split at h
    · rename_i e
      cases h
      exact w
    · split at h
      · cases h
      · rename_i i len hd
        split at h
        · rename_i hl
          subst hl
          split at h
          · cases h
          · rename_i hi
            split at h
            · rename_i j' as r hc
              split at h
              · rename_i hrm
                split at h
                · rename_i v H' hr
                  have hrm' : rmOk P j j' (ov L B) r k n = true := by
                    have e : rmOk P j j' (ov L B) r k n = rmOk P j j' L r k n := by simp only [rmOk, ov_len]
                    rw [e]; exact hrm
                  rw [wpC hd hi hc hrm']
                  exact ⟨f, _, hr, wp_goU hB h w⟩
                · cases h
              · cases h
            · cases h
          · rename_i h3 h1
            split at h
            · rename_i st' hst
              obtain ⟨pc', L', S', H', k', n'⟩ := st'
              rw [wpS hd h3 h1 (step_ov hB hst)]
              exact wp_goU hB h w
            · cases h
        · cases h
end Jvm.MM
namespace Jvm.MM
open Jvm Jvm.ClassFile Sem Op Lib Jvm.Free Jvm.Stand Jvm.LawKit Jvm.RoadKit
/-! ### numbers -/
theorem and_range (x m : Int32) (d : Nat) (hd : m.toBitVec.toNat < d) : ∃ i, i < d ∧ x &&& m = Int32.ofNat i := by
  refine ⟨(x &&& m).toBitVec.toNat, ?_, ?_⟩
  · rw [Int32.toBitVec_and, BitVec.toNat_and]
    exact Nat.lt_of_le_of_lt Nat.and_le_right hd
  · apply Int32.toBitVec_inj.mp
    show _ = BitVec.ofNat 32 _
    rw [BitVec.ofNat_toNat, BitVec.setWidth_eq]
theorem nat_range {x : Int32} {d : Nat} (h0 : 0 ≤ x.toInt) (h1 : x.toInt < d) : ∃ i, i < d ∧ x = Int32.ofNat i := by
  refine ⟨x.toInt.toNat, by omega, Int32.toInt_inj.mp ?_⟩
  have := Int32.toInt_lt x
  rw [Int32.toInt_ofNat_small (by omega)]
  omega
theorem pos_mask (x : Int32) : 0 ≤ (x &&& 2147483647).toInt := (c_andS x 2147483647).2.2 (by decide)
theorem rem_range (x m : Int32) (d : Nat) (hm : m.toInt = d) (hd : 0 < d) : ∃ i, i < d ∧ (x &&& 2147483647) % m = Int32.ofNat i := by
  have h0 := pos_mask x
  have h1 := (c_irem (x &&& 2147483647) m d hm).1 h0
  have h2 := Int.emod_nonneg (x &&& 2147483647).toInt (show (d : Int) ≠ 0 by omega)
  have h3 := Int.emod_lt_of_pos (x &&& 2147483647).toInt (show (0 : Int) < d by omega)
  exact nat_range (by omega) (by omega)
theorem cmp_lt (x y : Int64) : (XT.cmpL x y < 0) = (x < y) := by
  unfold XT.cmpL
  apply propext
  by_cases h : y < x
  · rw [if_pos h]
    exact ⟨fun q => absurd q (by decide), fun q => absurd (Int64.lt_trans q h) (Int64.lt_irrefl)⟩
  · rw [if_neg h]
    by_cases e : x = y
    · subst e
      rw [if_pos rfl]
      exact ⟨fun q => absurd q (by decide), fun q => absurd q (Int64.lt_irrefl)⟩
    · rw [if_neg e]
      exact ⟨fun _ => Int64.lt_of_le_of_ne (Int64.not_lt.mp h) e, fun _ => by decide⟩
theorem cmp_gt (x y : Int64) : (0 < XT.cmpL x y) = (y < x) := by
  unfold XT.cmpL
  apply propext
  by_cases h : y < x
  · rw [if_pos h]
    exact ⟨fun _ => h, fun _ => by decide⟩
  · rw [if_neg h]
    by_cases e : x = y
    · rw [if_pos e]
      exact ⟨fun q => absurd q (by decide), fun q => absurd q h⟩
    · rw [if_neg e]
      exact ⟨fun q => absurd q (by decide), fun q => absurd q h⟩
theorem cmp_eq (x y : Int64) : (XT.cmpL x y = 0) = (x = y) := by
  unfold XT.cmpL
  apply propext
  by_cases h : y < x
  · rw [if_pos h]
    exact ⟨fun q => absurd q (by decide), fun q => by subst q; exact absurd h (Int64.lt_irrefl)⟩
  · rw [if_neg h]
    by_cases e : x = y
    · rw [if_pos e]
      exact ⟨fun _ => e, fun _ => rfl⟩
    · rw [if_neg e]
      exact ⟨fun q => absurd q (by decide), fun q => absurd q e⟩
theorem cmp_le (x y : Int64) : (XT.cmpL x y ≤ 0) = (x ≤ y) := by
  have h := cmp_gt x y
  apply propext
  rw [← Int32.not_lt, ← Int64.not_lt, h]
theorem cmp_ge (x y : Int64) : (0 ≤ XT.cmpL x y) = (y ≤ x) := by
  have h := cmp_lt x y
  apply propext
  rw [← Int32.not_lt, ← Int64.not_lt, h]
theorem on0 : Int32.ofNat 0 = 0 := rfl
theorem on1 : Int32.ofNat 1 = 1 := rfl
theorem on2 : Int32.ofNat 2 = 2 := rfl
theorem on3 : Int32.ofNat 3 = 3 := rfl
theorem on4 : Int32.ofNat 4 = 4 := rfl
theorem on5 : Int32.ofNat 5 = 5 := rfl
theorem on6 : Int32.ofNat 6 = 6 := rfl
theorem on7 : Int32.ofNat 7 = 7 := rfl
theorem on8 : Int32.ofNat 8 = 8 := rfl
theorem on9 : Int32.ofNat 9 = 9 := rfl
theorem an0 : (0 : Int32) &&& 1 = 0 := by decide
theorem an1 : (1 : Int32) &&& 1 = 1 := by decide
end Jvm.MM
namespace Jvm.MM
open Jvm Jvm.ClassFile Sem Op Lib Jvm.Free Jvm.Stand Jvm.LawKit Jvm.RoadKit
/-! ### objects that stood at the start -/
def rhoL (as : List Nat) (n0 i : Nat) : Nat := match as[i]? with | some a => a | none => n0 + (i - as.length)
theorem rhoL_old {as : List Nat} {n0 i : Nat} {a : Nat} (h : as[i]? = some a) : rhoL as n0 i = a := by simp only [rhoL, h]
theorem rhoL_new {as : List Nat} {n0 i : Nat} (h : as.length ≤ i) : rhoL as n0 i = n0 + (i - as.length) := by simp only [rhoL, List.getElem?_eq_none h]
theorem rhoL_ok {P : Prg} {as : List Nat} {n0 : Nat} (hj : P.j0 = as.length) (hn : as.Nodup) (hl : ∀ a ∈ as, a < n0) : RhoOk P (rhoL as n0) n0 := by
  refine ⟨fun i hi => by rw [hj] at hi ⊢; exact rhoL_new hi, fun i j h => ?_⟩
  have h : (rhoL as n0 i : Nat) = rhoL as n0 j := h
  by_cases h1 : i < as.length
  · have e1 : as[i]? = some as[i] := List.getElem?_eq_getElem h1
    rw [rhoL_old e1] at h
    by_cases h2 : j < as.length
    · have e2 : as[j]? = some as[j] := List.getElem?_eq_getElem h2
      rw [rhoL_old e2] at h
      exact (List.getElem_inj hn).mp h
    · rw [rhoL_new (by omega)] at h
      have := hl _ (List.getElem_mem h1)
      omega
  · rw [rhoL_new (by omega)] at h
    by_cases h2 : j < as.length
    · have e2 : as[j]? = some as[j] := List.getElem?_eq_getElem h2
      rw [rhoL_old e2] at h
      have := hl _ (List.getElem_mem h2)
      omega
    · rw [rhoL_new (by omega)] at h
      omega
section Start
variable {Z : State} {args : Array Value}
theorem ex_start {t : Term} {C : String} (hx : (Jvm.Cond.exactly t C).value args Z none Z [] = some true) : ∃ a, t.eval args Z none [] Z = some (.ref a) ∧ Exa Z Z.heap a C := by
  have hx' : (Jvm.Cond.exactly t C).before args Z = true := Jvm.Cond.before_iff.mpr hx
  obtain ⟨a', c', cell, k, e1, -⟩ := Jvm.Cond.exactly_spec hx'
  exact ⟨a', e1, Exa.start e1 hx⟩
theorem fld_of {t : Term} {a : Addr} {O n d : String} {v : Value} (ht : t.eval args Z none [] Z = some (.ref a)) (h : (Term.field t O n d).eval args Z none [] Z = some v) : Fld Z Z.heap a O n d v := by
  refine Fld.start ?_
  simpa [Term.eval, ht] using h
theorem fld_eq {t u : Term} {a : Addr} {O n d : String} {v : Value} (ht : t.eval args Z none [] Z = some (.ref a)) (hu : u.eval args Z none [] Z = some v) (h : (Jvm.Cond.eq (.field t O n d) u).value args Z none Z [] = some true) (hv : (match v with | .int _ => true | .long _ => true | _ => false) = true) : Fld Z Z.heap a O n d v := by
  refine fld_of ht ?_
  cases hf : (Term.field t O n d).eval args Z none [] Z with
  | none => simp only [Jvm.Cond.value, hf] at h; cases h
  | some w =>
    simp only [Jvm.Cond.value, hf, hu] at h
    cases v <;> cases w <;> first | (cases hv; done) | (simp at h; done) | (simp at h; rw [h])
end Start
theorem fld_inj {Z : State} {h : Heap} {a : Addr} {O n d : String} {v w : Value} (F : Fld Z h a O n d v) (G : Fld Z h a O n d w) : v = w := by
  obtain ⟨cell, cf, k, i, f, h1, h2, -, -, -, -, h7⟩ := F
  obtain ⟨cell', cf', k', i', f', g1, g2, -, -, -, -, g7⟩ := G
  cases h1.symm.trans g1
  cases h2.symm.trans g2
  exact Option.some.inj (h7.symm.trans g7)
end Jvm.MM
namespace Jvm.MM
open Jvm Jvm.ClassFile Sem Op Lib Jvm.Free Jvm.Stand Jvm.LawKit Jvm.RoadKit
/-! ### the table of boxes that stood at the start -/
section Box
variable {Z : State} {K d : String} {val : Int32 → Value} {a : Addr} {c : Cell}
theorem i32_clamp {i : Nat} (h : i < 256) : (Int32.ofNat i).toNatClampNeg = i ∧ ¬ Int32.ofNat i < 0 := by
  have e : (Int32.ofNat i).toInt = i := Int32.toInt_ofNat_small (by omega)
  refine ⟨by simp only [Int32.toNatClampNeg, e]; rfl, fun q => ?_⟩
  have := Int32.lt_iff_toInt_lt.mp q
  rw [e] at this
  have z : (0 : Int32).toInt = 0 := rfl
  omega
def refOf : Value → Nat | .ref b => b | _ => 0
theorem boxes_list (B : Bxs Z a c K d 256 val) : ∃ bs : List Nat, bs.length = 256 ∧ c.slots = (bs.map (fun b => Value.ref b)).toArray ∧ ∀ i b, bs[i]? = some b → Exa Z Z.heap b K ∧ Fld Z Z.heap b K "value" d (val (Int32.ofNat i)) := by
  obtain ⟨-, hs, -, hb⟩ := B
  have hs : c.slots.size = 256 := hs
  have key : ∀ i, i < 256 → ∃ b : Addr, c.slots[i]? = some (.ref b) ∧ Exa Z Z.heap b K ∧ Fld Z Z.heap b K "value" d (val (Int32.ofNat i)) := fun i hi => by
    obtain ⟨e1, e2⟩ := i32_clamp hi
    obtain ⟨b, h1, h2, h3⟩ := hb (Int32.ofNat i) (fun q => q.elim e2 (fun q => by rw [e1] at q; omega))
    rw [e1] at h1
    exact ⟨b, h1, h2, h3⟩
  refine ⟨c.slots.toList.map refOf, by simpa using hs, ?_, fun i b h => ?_⟩
  · apply Array.ext_getElem?
    intro i
    by_cases hi : i < 256
    · obtain ⟨b, h1, -, -⟩ := key i hi
      rw [h1]
      simp [h1, refOf]
    · rw [Array.getElem?_eq_none (by omega), Array.getElem?_eq_none (by simp; omega)]
  · have hi : i < 256 := by
      have := (List.getElem?_eq_some_iff.mp h).1
      simpa [hs] using this
    obtain ⟨b', h1, h2, h3⟩ := key i hi
    have : b = b' := by
      simp [h1, refOf] at h
      exact h.symm
    subst this
    exact ⟨h2, h3⟩
def boxH (cid : Nat) (K : String) (val : Int32 → Value) : Hp := (List.range 256).map (fun i => ((.inr cid, [val (Int32.ofNat i)]) : Obj)) ++ [(.inl (.object K), (List.range 256).map Value.ref)]
theorem boxH_len (cid : Nat) (K : String) (val : Int32 → Value) : (boxH cid K val).length = 257 := by simp [boxH]
theorem boxH_box {cid : Nat} {K : String} {val : Int32 → Value} {i : Nat} (hi : i < 256) : (boxH cid K val)[i]? = some (.inr cid, [val (Int32.ofNat i)]) := by
  unfold boxH
  rw [List.getElem?_append_left (by simpa using hi)]
  simp [hi]
theorem boxH_arr {cid : Nat} {K : String} {val : Int32 → Value} : (boxH cid K val)[256]? = some (.inl (.object K), (List.range 256).map Value.ref) := by
  unfold boxH
  rw [List.getElem?_append_right (by simp)]
  simp
theorem boxes_nodup {bs : List Nat} (hv : ∀ i j, i < 256 → j < 256 → val (Int32.ofNat i) = val (Int32.ofNat j) → i = j) (hl : bs.length = 256) (hb : ∀ i b, bs[i]? = some b → Exa Z Z.heap b K ∧ Fld Z Z.heap b K "value" d (val (Int32.ofNat i))) : bs.Nodup := by
  refine List.pairwise_iff_getElem.mpr fun i j hi hj hij e => ?_
  have h1 : bs[j]? = some bs[j] := List.getElem?_eq_getElem hj
  have h0 : bs[i]? = some bs[j] := by rw [List.getElem?_eq_getElem hi, e]
  have := fld_inj (hb _ _ h0).2 (hb _ _ h1).2
  have := hv i j (by omega) (by omega) this
  omega
theorem boxes_obj {P : Prg} {ρ : Nat → Addr} {cid : Nat} {ty : FieldType} {bs : List Nat} (hj : 257 ≤ P.j0) (hn : P.cname cid = K) (hf : P.flds cid = [(K, "value", d, ty)]) (hv : ∀ i j, val i = .ref j → False) (hl : bs.length = 256) (hs : c.slots = (bs.map (fun b => Value.ref b)).toArray)
    (hb : ∀ i b, bs[i]? = some b → Exa Z Z.heap b K ∧ Fld Z Z.heap b K "value" d (val (Int32.ofNat i))) (A : Arr Z Z.heap a c (.object K)) (hr : ∀ i b, bs[i]? = some b → ρ i = b) (ha : ρ 256 = a) {i : Nat} {o : Obj} (h : (boxH cid K val)[i]? = some o) : ObjOk P Z ρ Z.heap i o := by
  have hi : i < 257 := by rw [← boxH_len cid K val]; exact (List.getElem?_eq_some_iff.mp h).1
  by_cases q : i < 256
  · rw [boxH_box q] at h
    cases h
    have e : bs[i]? = some bs[i] := List.getElem?_eq_getElem (by omega)
    obtain ⟨E, F⟩ := hb i _ e
    refine fun _ => ⟨by rw [hr i _ e, hn]; exact E, fun q v fd h1 h2 => ?_⟩
    rw [hf] at h2
    match q, h1, h2 with
    | 0, h1, h2 =>
      cases h1; cases h2
      rw [hr i _ e]
      have : tv ρ (val (Int32.ofNat i)) = val (Int32.ofNat i) := by
        cases q : val (Int32.ofNat i) <;> first | rfl | exact (hv _ _ q).elim
      rw [this]
      exact F
  · have : i = 256 := by omega
    subst this
    rw [boxH_arr] at h
    cases h
    refine ⟨c, by rw [ha]; exact A, ?_, fun q => by omega⟩
    rw [hs]
    apply congrArg
    apply List.ext_getElem?
    intro i
    by_cases hi : i < 256
    · have e : bs[i]? = some bs[i] := List.getElem?_eq_getElem (by omega)
      simp [e, hi, tv, hr i _ e]
    · rw [List.getElem?_eq_none (by simp; omega), List.getElem?_eq_none (by simp; omega)]
theorem exa_ne {h : Heap} {a b : Addr} {C D : String} (E : Exa Z h a C) (F : Exa Z h b D) (hn : C ≠ D) : a ≠ b := fun e => by
  subst e
  obtain ⟨c1, k1, a1, a2, a3, -⟩ := E
  obtain ⟨c2, k2, b1, b2, b3, -⟩ := F
  cases a1.symm.trans b1
  obtain ⟨k, e1, e2⟩ := Vm.findClass_spec a2
  obtain ⟨k', f1, f2⟩ := Vm.findClass_spec b2
  cases e1.symm.trans f1
  exact hn (e2.symm.trans f2)
theorem box_start {args : Array Value} {t F : Term} (et : ∀ idx, t.eval args Z none idx Z = some (.ref a)) (hA : (Jvm.Cond.arrayOf t (.object K)).value args Z none Z [] = some true) (hl : (Jvm.Cond.eq (.length t) (.int 256)).value args Z none Z [] = some true)
    (h : (Jvm.Cond.all t (.and (.exactly (.elem t (.index 0)) K) (.eq (.field (.elem t (.index 0)) K "value" d) F))).value args Z none Z [] = some true)
    (hv : ∀ (X : Term) (j : Int32), ¬ j < 0 → (Jvm.Cond.eq X F).value args Z none Z [j.toNatClampNeg] = some true → X.eval args Z none [j.toNatClampNeg] Z = some (val j)) : ∃ c, Bxs Z a c K d 256 val := by
  obtain ⟨c, A⟩ := Arr.start (et []) hA
  have e := eqv_i (Term.int_eval 256) hl
  have AA := A.fin (Vm.Alike.refl _)
  have q : c.slots.size < 2 ^ 31 := by
    apply Classical.byContradiction
    intro q
    simp [Term.eval, et [], AA, q] at e
  rw [len_f (et []) AA q] at e
  exact ⟨c, Bxs.start et A q (Value.int.inj (Option.some.inj e)) (by decide) h hv⟩
end Box
end Jvm.MM
namespace Jvm.Pilot.@@N@@
open Jvm Jvm.ClassFile Sem Op Lib Jvm.Free Jvm.Stand Jvm.LawKit Jvm.RoadKit Bundle Jvm.MM Jvm.Pilot.@@N@@.Jvm.D
def mths : List Mth := [(x, code, maxLocals, ret, room_1),
  (⟨"java/lang/Integer", "valueOf", "(I)Ljava/lang/Integer;"⟩, jdk_33_method_22_code, 1, (some (.object "java/lang/Integer")), { frames := 3, cells := 1, slots := 1, locals := 38 }),
  (⟨"io/github/encounter/SequencedHashMap$Node", "<init>", "(ILjava/lang/Object;Ljava/lang/Object;)V"⟩, prog_16_method_1_code, 4, none, { frames := 1, cells := 0, slots := 0, locals := 12 }),
  (⟨"io/github/encounter/SequencedHashMap$Node", "setValue", "(Ljava/lang/Object;)Ljava/lang/Object;"⟩, prog_16_method_4_code, 3, (some (.object "java/lang/Object")), { frames := 0, cells := 0, slots := 0, locals := 0 }),
  (⟨"io/github/encounter/SequencedHashMap$Node", "getValue", "()Ljava/lang/Object;"⟩, prog_16_method_3_code, 1, (some (.object "java/lang/Object")), { frames := 0, cells := 0, slots := 0, locals := 0 }),
  (⟨"io/github/encounter/SequencedHashMap$Node", "getKey", "()Ljava/lang/Object;"⟩, prog_16_method_2_code, 1, (some (.object "java/lang/Object")), { frames := 0, cells := 0, slots := 0, locals := 0 }),
  (⟨"java/lang/Integer", "<init>", "(I)V"⟩, jdk_33_method_23_code, 2, none, { frames := 2, cells := 0, slots := 0, locals := 24 }),
  (⟨"java/lang/Number", "<init>", "()V"⟩, jdk_18_method_1_code, 1, none, { frames := 1, cells := 0, slots := 0, locals := 12 })]
def clss : List Cls := [("io/github/encounter/SequencedHashMap$Node", 6, [("io/github/encounter/SequencedHashMap$Node", "hash", "I", .int), ("io/github/encounter/SequencedHashMap$Node", "key", "Ljava/lang/Object;", (.object "java/lang/Object")), ("io/github/encounter/SequencedHashMap$Node", "value", "Ljava/lang/Object;", (.object "java/lang/Object")), ("io/github/encounter/SequencedHashMap$Node", "next", "Lio/github/encounter/SequencedHashMap$Node;", (.object "io/github/encounter/SequencedHashMap$Node")), ("io/github/encounter/SequencedHashMap$Node", "before", "Lio/github/encounter/SequencedHashMap$Node;", (.object "io/github/encounter/SequencedHashMap$Node")), ("io/github/encounter/SequencedHashMap$Node", "after", "Lio/github/encounter/SequencedHashMap$Node;", (.object "io/github/encounter/SequencedHashMap$Node"))]),
  ("java/lang/Integer", 1, [("java/lang/Integer", "value", "I", .int)])]
def Pg : Prg := (mths, clss, [(0, 29, 0, 0), (0, 33, 0, 3), (0, 37, 0, 4), (0, 40, 0, 5), (3, 17, 0, 2), (4, 17, 0, 2), (5, 13, 0, 1)], [(2, 7, 0, 0), (2, 13, 0, 1), (2, 17, 0, 2), (3, 17, 0, 2), (6, 205, 1, 0)], [(1, 191, 0), (1, 195, 1)], [("java/lang/Integer$IntegerCache", "high", "I", .int 127), ("java/lang/Integer$IntegerCache", "cache", "[Ljava/lang/Integer;", .ref 256)], [(0, 13, 0), (1, 1, 1)], [], [], [(0, 8, (.inr 1), true)], [], [], [(0, 7, 0, 1, 1), (0, 15, 1, 3, 2), (0, 18, 2, 1, 0), (0, 22, 2, 0, 0), (0, 26, 2, 0, 0), (1, 199, 1, 1, 6), (2, 1, 6, 0, 0), (6, 202, 1, 0, 7), (7, 1, 6, 0, 0)], [(0, 18, 0, 1, 3), (0, 22, 0, 0, 4), (0, 26, 0, 0, 5)], [], 257)
section Words
variable {Z : State} {a0 : Array Value} (hw : ∀ d ∈ tables_1, d.before a0 Z = true)
theorem cl0 (hw : ∀ d ∈ tables_1, d.before a0 Z = true) : ClsOk Z a0 ("io/github/encounter/SequencedHashMap$Node", 6, [("io/github/encounter/SequencedHashMap$Node", "hash", "I", .int), ("io/github/encounter/SequencedHashMap$Node", "key", "Ljava/lang/Object;", (.object "java/lang/Object")), ("io/github/encounter/SequencedHashMap$Node", "value", "Ljava/lang/Object;", (.object "java/lang/Object")), ("io/github/encounter/SequencedHashMap$Node", "next", "Lio/github/encounter/SequencedHashMap$Node;", (.object "io/github/encounter/SequencedHashMap$Node")), ("io/github/encounter/SequencedHashMap$Node", "before", "Lio/github/encounter/SequencedHashMap$Node;", (.object "io/github/encounter/SequencedHashMap$Node")), ("io/github/encounter/SequencedHashMap$Node", "after", "Lio/github/encounter/SequencedHashMap$Node;", (.object "io/github/encounter/SequencedHashMap$Node"))]) := ⟨(hw _ (List.mem_of_getElem? (i := 8) rfl)), am_cons (⟨Or.inr (hw _ (List.mem_of_getElem? (i := 17) rfl)), by decide⟩) (am_cons (⟨Or.inr (hw _ (List.mem_of_getElem? (i := 19) rfl)), by decide⟩) (am_cons (⟨Or.inl (hw _ (List.mem_of_getElem? (i := 21) rfl)), by decide⟩) (am_cons (⟨Or.inl (hw _ (List.mem_of_getElem? (i := 41) rfl)), by decide⟩) (am_cons (⟨Or.inl (hw _ (List.mem_of_getElem? (i := 43) rfl)), by decide⟩) (am_cons (⟨Or.inl (hw _ (List.mem_of_getElem? (i := 45) rfl)), by decide⟩) (am_nil)))))), by decide⟩
theorem cl1 (hw : ∀ d ∈ tables_1, d.before a0 Z = true) : ClsOk Z a0 ("java/lang/Integer", 1, [("java/lang/Integer", "value", "I", .int)]) := ⟨(hw _ (List.mem_of_getElem? (i := 47) rfl)), am_cons (⟨Or.inr (hw _ (List.mem_of_getElem? (i := 59) rfl)), by decide⟩) (am_nil), by decide⟩
theorem pf0 : plainFor (x : MethodName) = true := by first | exact plainFor_of_name (by decide +kernel) | decide +kernel
theorem pf1 : plainFor (⟨"java/lang/Integer", "valueOf", "(I)Ljava/lang/Integer;"⟩ : MethodName) = true := by first | exact plainFor_of_name (by decide +kernel) | decide +kernel
theorem mo1 (hw : ∀ d ∈ tables_1, d.before a0 Z = true) : MthOk Z a0 (⟨"java/lang/Integer", "valueOf", "(I)Ljava/lang/Integer;"⟩, jdk_33_method_22_code, 1, (some (.object "java/lang/Integer")), { frames := 3, cells := 1, slots := 1, locals := 38 }) := ⟨(hw _ (List.mem_of_getElem? (i := 3) rfl)), (hw _ (List.mem_of_getElem? (i := 2) rfl)), pf1, by decide⟩
theorem pf2 : plainFor (⟨"io/github/encounter/SequencedHashMap$Node", "<init>", "(ILjava/lang/Object;Ljava/lang/Object;)V"⟩ : MethodName) = true := by first | exact plainFor_of_name (by decide +kernel) | decide +kernel
theorem mo2 (hw : ∀ d ∈ tables_1, d.before a0 Z = true) : MthOk Z a0 (⟨"io/github/encounter/SequencedHashMap$Node", "<init>", "(ILjava/lang/Object;Ljava/lang/Object;)V"⟩, prog_16_method_1_code, 4, none, { frames := 1, cells := 0, slots := 0, locals := 12 }) := ⟨(hw _ (List.mem_of_getElem? (i := 12) rfl)), (hw _ (List.mem_of_getElem? (i := 9) rfl)), pf2, by decide⟩
theorem pf3 : plainFor (⟨"io/github/encounter/SequencedHashMap$Node", "setValue", "(Ljava/lang/Object;)Ljava/lang/Object;"⟩ : MethodName) = true := by first | exact plainFor_of_name (by decide +kernel) | decide +kernel
theorem mo3 (hw : ∀ d ∈ tables_1, d.before a0 Z = true) : MthOk Z a0 (⟨"io/github/encounter/SequencedHashMap$Node", "setValue", "(Ljava/lang/Object;)Ljava/lang/Object;"⟩, prog_16_method_4_code, 3, (some (.object "java/lang/Object")), { frames := 0, cells := 0, slots := 0, locals := 0 }) := ⟨(hw _ (List.mem_of_getElem? (i := 26) rfl)), (hw _ (List.mem_of_getElem? (i := 9) rfl)), pf3, by decide⟩
theorem pf4 : plainFor (⟨"io/github/encounter/SequencedHashMap$Node", "getValue", "()Ljava/lang/Object;"⟩ : MethodName) = true := by first | exact plainFor_of_name (by decide +kernel) | decide +kernel
theorem mo4 (hw : ∀ d ∈ tables_1, d.before a0 Z = true) : MthOk Z a0 (⟨"io/github/encounter/SequencedHashMap$Node", "getValue", "()Ljava/lang/Object;"⟩, prog_16_method_3_code, 1, (some (.object "java/lang/Object")), { frames := 0, cells := 0, slots := 0, locals := 0 }) := ⟨(hw _ (List.mem_of_getElem? (i := 33) rfl)), (hw _ (List.mem_of_getElem? (i := 9) rfl)), pf4, by decide⟩
theorem pf5 : plainFor (⟨"io/github/encounter/SequencedHashMap$Node", "getKey", "()Ljava/lang/Object;"⟩ : MethodName) = true := by first | exact plainFor_of_name (by decide +kernel) | decide +kernel
theorem mo5 (hw : ∀ d ∈ tables_1, d.before a0 Z = true) : MthOk Z a0 (⟨"io/github/encounter/SequencedHashMap$Node", "getKey", "()Ljava/lang/Object;"⟩, prog_16_method_2_code, 1, (some (.object "java/lang/Object")), { frames := 0, cells := 0, slots := 0, locals := 0 }) := ⟨(hw _ (List.mem_of_getElem? (i := 38) rfl)), (hw _ (List.mem_of_getElem? (i := 9) rfl)), pf5, by decide⟩
theorem pf6 : plainFor (⟨"java/lang/Integer", "<init>", "(I)V"⟩ : MethodName) = true := by first | exact plainFor_of_name (by decide +kernel) | decide +kernel
theorem mo6 (hw : ∀ d ∈ tables_1, d.before a0 Z = true) : MthOk Z a0 (⟨"java/lang/Integer", "<init>", "(I)V"⟩, jdk_33_method_23_code, 2, none, { frames := 2, cells := 0, slots := 0, locals := 24 }) := ⟨(hw _ (List.mem_of_getElem? (i := 50) rfl)), (hw _ (List.mem_of_getElem? (i := 2) rfl)), pf6, by decide⟩
theorem pf7 : plainFor (⟨"java/lang/Number", "<init>", "()V"⟩ : MethodName) = true := by first | exact plainFor_of_name (by decide +kernel) | decide +kernel
theorem mo7 (hw : ∀ d ∈ tables_1, d.before a0 Z = true) : MthOk Z a0 (⟨"java/lang/Number", "<init>", "()V"⟩, jdk_18_method_1_code, 1, none, { frames := 1, cells := 0, slots := 0, locals := 12 }) := ⟨(hw _ (List.mem_of_getElem? (i := 56) rfl)), (hw _ (List.mem_of_getElem? (i := 55) rfl)), pf7, by decide⟩
theorem ok_fl (hw : ∀ d ∈ tables_1, d.before a0 Z = true) : ∀ q ∈ Pg.fl, FlOk Pg Z a0 q :=
  am_cons (⟨("io/github/encounter/SequencedHashMap$Node", "hash", "I", .int), rfl, "io/github/encounter/SequencedHashMap$Node", (hw _ (List.mem_of_getElem? (i := 39) rfl)), Via.refl⟩) (am_cons (⟨("io/github/encounter/SequencedHashMap$Node", "next", "Lio/github/encounter/SequencedHashMap$Node;", (.object "io/github/encounter/SequencedHashMap$Node")), rfl, "io/github/encounter/SequencedHashMap$Node", (hw _ (List.mem_of_getElem? (i := 40) rfl)), Via.refl⟩) (am_cons (⟨("io/github/encounter/SequencedHashMap$Node", "before", "Lio/github/encounter/SequencedHashMap$Node;", (.object "io/github/encounter/SequencedHashMap$Node")), rfl, "io/github/encounter/SequencedHashMap$Node", (hw _ (List.mem_of_getElem? (i := 42) rfl)), Via.refl⟩) (am_cons (⟨("io/github/encounter/SequencedHashMap$Node", "after", "Lio/github/encounter/SequencedHashMap$Node;", (.object "io/github/encounter/SequencedHashMap$Node")), rfl, "io/github/encounter/SequencedHashMap$Node", (hw _ (List.mem_of_getElem? (i := 44) rfl)), Via.refl⟩) (am_cons (⟨("io/github/encounter/SequencedHashMap$Node", "value", "Ljava/lang/Object;", (.object "java/lang/Object")), rfl, "io/github/encounter/SequencedHashMap$Node", (hw _ (List.mem_of_getElem? (i := 20) rfl)), Via.refl⟩) (am_cons (⟨("io/github/encounter/SequencedHashMap$Node", "value", "Ljava/lang/Object;", (.object "java/lang/Object")), rfl, "io/github/encounter/SequencedHashMap$Node", (hw _ (List.mem_of_getElem? (i := 20) rfl)), Via.refl⟩) (am_cons (⟨("io/github/encounter/SequencedHashMap$Node", "key", "Ljava/lang/Object;", (.object "java/lang/Object")), rfl, "io/github/encounter/SequencedHashMap$Node", (hw _ (List.mem_of_getElem? (i := 18) rfl)), Via.refl⟩) (am_nil)))))))
theorem ok_fw (hw : ∀ d ∈ tables_1, d.before a0 Z = true) : ∀ q ∈ Pg.fw, FwOk Pg Z a0 q :=
  am_cons (⟨("io/github/encounter/SequencedHashMap$Node", 6, [("io/github/encounter/SequencedHashMap$Node", "hash", "I", .int), ("io/github/encounter/SequencedHashMap$Node", "key", "Ljava/lang/Object;", (.object "java/lang/Object")), ("io/github/encounter/SequencedHashMap$Node", "value", "Ljava/lang/Object;", (.object "java/lang/Object")), ("io/github/encounter/SequencedHashMap$Node", "next", "Lio/github/encounter/SequencedHashMap$Node;", (.object "io/github/encounter/SequencedHashMap$Node")), ("io/github/encounter/SequencedHashMap$Node", "before", "Lio/github/encounter/SequencedHashMap$Node;", (.object "io/github/encounter/SequencedHashMap$Node")), ("io/github/encounter/SequencedHashMap$Node", "after", "Lio/github/encounter/SequencedHashMap$Node;", (.object "io/github/encounter/SequencedHashMap$Node"))]), rfl, cl0 hw, ("io/github/encounter/SequencedHashMap$Node", "hash", "I", .int), rfl, ⟨"io/github/encounter/SequencedHashMap$Node", (hw _ (List.mem_of_getElem? (i := 16) rfl)), Via.refl⟩, (Or.inr ⟨(hw _ (List.mem_of_getElem? (i := 17) rfl)), rfl, rfl⟩)⟩) (am_cons (⟨("io/github/encounter/SequencedHashMap$Node", 6, [("io/github/encounter/SequencedHashMap$Node", "hash", "I", .int), ("io/github/encounter/SequencedHashMap$Node", "key", "Ljava/lang/Object;", (.object "java/lang/Object")), ("io/github/encounter/SequencedHashMap$Node", "value", "Ljava/lang/Object;", (.object "java/lang/Object")), ("io/github/encounter/SequencedHashMap$Node", "next", "Lio/github/encounter/SequencedHashMap$Node;", (.object "io/github/encounter/SequencedHashMap$Node")), ("io/github/encounter/SequencedHashMap$Node", "before", "Lio/github/encounter/SequencedHashMap$Node;", (.object "io/github/encounter/SequencedHashMap$Node")), ("io/github/encounter/SequencedHashMap$Node", "after", "Lio/github/encounter/SequencedHashMap$Node;", (.object "io/github/encounter/SequencedHashMap$Node"))]), rfl, cl0 hw, ("io/github/encounter/SequencedHashMap$Node", "key", "Ljava/lang/Object;", (.object "java/lang/Object")), rfl, ⟨"io/github/encounter/SequencedHashMap$Node", (hw _ (List.mem_of_getElem? (i := 18) rfl)), Via.refl⟩, (Or.inr ⟨(hw _ (List.mem_of_getElem? (i := 19) rfl)), rfl, rfl⟩)⟩) (am_cons (⟨("io/github/encounter/SequencedHashMap$Node", 6, [("io/github/encounter/SequencedHashMap$Node", "hash", "I", .int), ("io/github/encounter/SequencedHashMap$Node", "key", "Ljava/lang/Object;", (.object "java/lang/Object")), ("io/github/encounter/SequencedHashMap$Node", "value", "Ljava/lang/Object;", (.object "java/lang/Object")), ("io/github/encounter/SequencedHashMap$Node", "next", "Lio/github/encounter/SequencedHashMap$Node;", (.object "io/github/encounter/SequencedHashMap$Node")), ("io/github/encounter/SequencedHashMap$Node", "before", "Lio/github/encounter/SequencedHashMap$Node;", (.object "io/github/encounter/SequencedHashMap$Node")), ("io/github/encounter/SequencedHashMap$Node", "after", "Lio/github/encounter/SequencedHashMap$Node;", (.object "io/github/encounter/SequencedHashMap$Node"))]), rfl, cl0 hw, ("io/github/encounter/SequencedHashMap$Node", "value", "Ljava/lang/Object;", (.object "java/lang/Object")), rfl, ⟨"io/github/encounter/SequencedHashMap$Node", (hw _ (List.mem_of_getElem? (i := 20) rfl)), Via.refl⟩, (Or.inl (hw _ (List.mem_of_getElem? (i := 21) rfl)))⟩) (am_cons (⟨("io/github/encounter/SequencedHashMap$Node", 6, [("io/github/encounter/SequencedHashMap$Node", "hash", "I", .int), ("io/github/encounter/SequencedHashMap$Node", "key", "Ljava/lang/Object;", (.object "java/lang/Object")), ("io/github/encounter/SequencedHashMap$Node", "value", "Ljava/lang/Object;", (.object "java/lang/Object")), ("io/github/encounter/SequencedHashMap$Node", "next", "Lio/github/encounter/SequencedHashMap$Node;", (.object "io/github/encounter/SequencedHashMap$Node")), ("io/github/encounter/SequencedHashMap$Node", "before", "Lio/github/encounter/SequencedHashMap$Node;", (.object "io/github/encounter/SequencedHashMap$Node")), ("io/github/encounter/SequencedHashMap$Node", "after", "Lio/github/encounter/SequencedHashMap$Node;", (.object "io/github/encounter/SequencedHashMap$Node"))]), rfl, cl0 hw, ("io/github/encounter/SequencedHashMap$Node", "value", "Ljava/lang/Object;", (.object "java/lang/Object")), rfl, ⟨"io/github/encounter/SequencedHashMap$Node", (hw _ (List.mem_of_getElem? (i := 20) rfl)), Via.refl⟩, (Or.inl (hw _ (List.mem_of_getElem? (i := 21) rfl)))⟩) (am_cons (⟨("java/lang/Integer", 1, [("java/lang/Integer", "value", "I", .int)]), rfl, cl1 hw, ("java/lang/Integer", "value", "I", .int), rfl, ⟨"java/lang/Integer", (hw _ (List.mem_of_getElem? (i := 58) rfl)), Via.refl⟩, (Or.inr ⟨(hw _ (List.mem_of_getElem? (i := 59) rfl)), rfl, rfl⟩)⟩) (am_nil)))))
theorem ok_sf (hw : ∀ d ∈ tables_1, d.before a0 Z = true) : ∀ q ∈ Pg.sf, SfOk Pg Z a0 q :=
  am_cons (⟨("java/lang/Integer$IntegerCache", "high", "I", .int 127), rfl, "java/lang/Integer$IntegerCache", (hw _ (List.mem_of_getElem? (i := 4) rfl)), Via.refl⟩) (am_cons (⟨("java/lang/Integer$IntegerCache", "cache", "[Ljava/lang/Integer;", .ref 256), rfl, "java/lang/Integer$IntegerCache", (hw _ (List.mem_of_getElem? (i := 6) rfl)), Via.refl⟩) (am_nil))
theorem ok_nw (hw : ∀ d ∈ tables_1, d.before a0 Z = true) : ∀ q ∈ Pg.nw, NwOk Pg Z a0 q :=
  am_cons (⟨("io/github/encounter/SequencedHashMap$Node", 6, [("io/github/encounter/SequencedHashMap$Node", "hash", "I", .int), ("io/github/encounter/SequencedHashMap$Node", "key", "Ljava/lang/Object;", (.object "java/lang/Object")), ("io/github/encounter/SequencedHashMap$Node", "value", "Ljava/lang/Object;", (.object "java/lang/Object")), ("io/github/encounter/SequencedHashMap$Node", "next", "Lio/github/encounter/SequencedHashMap$Node;", (.object "io/github/encounter/SequencedHashMap$Node")), ("io/github/encounter/SequencedHashMap$Node", "before", "Lio/github/encounter/SequencedHashMap$Node;", (.object "io/github/encounter/SequencedHashMap$Node")), ("io/github/encounter/SequencedHashMap$Node", "after", "Lio/github/encounter/SequencedHashMap$Node;", (.object "io/github/encounter/SequencedHashMap$Node"))]), rfl, cl0 hw, (hw _ (List.mem_of_getElem? (i := 7) rfl)), (hw _ (List.mem_of_getElem? (i := 9) rfl))⟩) (am_cons (⟨("java/lang/Integer", 1, [("java/lang/Integer", "value", "I", .int)]), rfl, cl1 hw, (hw _ (List.mem_of_getElem? (i := 46) rfl)), (hw _ (List.mem_of_getElem? (i := 2) rfl))⟩) (am_nil))
theorem ok_na (hw : ∀ d ∈ tables_1, d.before a0 Z = true) : ∀ q ∈ Pg.na, NaOk Pg Z a0 q :=
  am_nil
theorem ok_ca {ρ : Nat → Addr} (hw : ∀ d ∈ tables_1, d.before a0 Z = true) : ∀ q ∈ Pg.ca, CaOk Pg Z a0 ρ q :=
  am_cons (⟨"java/lang/Integer", (hw _ (List.mem_of_getElem? (i := 27) rfl)), fun h i vs Q => Ins.self (Q (by decide)).1, fun q => by cases q⟩) (am_nil)
theorem ok_ki (hw : ∀ d ∈ tables_1, d.before a0 Z = true) : ∀ q ∈ Pg.ki, KiOk Pg Z a0 q :=
  am_nil
theorem ok_kl (hw : ∀ d ∈ tables_1, d.before a0 Z = true) : ∀ q ∈ Pg.kl, KlOk Pg Z a0 q :=
  am_nil
theorem ok_ic (hw : ∀ d ∈ tables_1, d.before a0 Z = true) : ∀ q ∈ Pg.ic, IcOk Pg Z a0 q :=
  am_cons (⟨(hw _ (List.mem_of_getElem? (i := 0) rfl)), (hw _ (List.mem_of_getElem? (i := 1) rfl)), mo1 hw, Arity.of (by decide +kernel)⟩) (am_cons (⟨rfl, (hw _ (List.mem_of_getElem? (i := 10) rfl)), (hw _ (List.mem_of_getElem? (i := 11) rfl)), mo2 hw, rfl, Arity.of (by decide +kernel)⟩) (am_cons (trivial) (am_cons (trivial) (am_cons (trivial) (am_cons (⟨rfl, (hw _ (List.mem_of_getElem? (i := 48) rfl)), (hw _ (List.mem_of_getElem? (i := 49) rfl)), mo6 hw, rfl, Arity.of (by decide +kernel)⟩) (am_cons (⟨(hw _ (List.mem_of_getElem? (i := 13) rfl)), (hw _ (List.mem_of_getElem? (i := 14) rfl)), (hw _ (List.mem_of_getElem? (i := 15) rfl))⟩) (am_cons (⟨rfl, (hw _ (List.mem_of_getElem? (i := 51) rfl)), (hw _ (List.mem_of_getElem? (i := 52) rfl)), mo7 hw, rfl, Arity.of (by decide +kernel)⟩) (am_cons (⟨(hw _ (List.mem_of_getElem? (i := 57) rfl)), (hw _ (List.mem_of_getElem? (i := 14) rfl)), (hw _ (List.mem_of_getElem? (i := 15) rfl))⟩) (am_nil)))))))))
theorem ok_vc (hw : ∀ d ∈ tables_1, d.before a0 Z = true) : ∀ q ∈ Pg.vc, VcOk Pg Z a0 q :=
  am_cons (⟨⟨"io/github/encounter/SequencedHashMap$Node", "setValue", "(Ljava/lang/Object;)Ljava/lang/Object;"⟩, (hw _ (List.mem_of_getElem? (i := 22) rfl)), (hw _ (List.mem_of_getElem? (i := 23) rfl)), Or.inl ⟨_, (hw _ (List.mem_of_getElem? (i := 25) rfl))⟩, (hw _ (List.mem_of_getElem? (i := 25) rfl)), (hw _ (List.mem_of_getElem? (i := 24) rfl)), mo3 hw, by decide, Arity.of (by decide +kernel), by decide⟩) (am_cons (⟨⟨"io/github/encounter/SequencedHashMap$Node", "getValue", "()Ljava/lang/Object;"⟩, (hw _ (List.mem_of_getElem? (i := 29) rfl)), (hw _ (List.mem_of_getElem? (i := 30) rfl)), Or.inl ⟨_, (hw _ (List.mem_of_getElem? (i := 32) rfl))⟩, (hw _ (List.mem_of_getElem? (i := 32) rfl)), (hw _ (List.mem_of_getElem? (i := 31) rfl)), mo4 hw, by decide, Arity.of (by decide +kernel), by decide⟩) (am_cons (⟨⟨"io/github/encounter/SequencedHashMap$Node", "getKey", "()Ljava/lang/Object;"⟩, (hw _ (List.mem_of_getElem? (i := 34) rfl)), (hw _ (List.mem_of_getElem? (i := 35) rfl)), Or.inl ⟨_, (hw _ (List.mem_of_getElem? (i := 37) rfl))⟩, (hw _ (List.mem_of_getElem? (i := 37) rfl)), (hw _ (List.mem_of_getElem? (i := 36) rfl)), mo5 hw, by decide, Arity.of (by decide +kernel), by decide⟩) (am_nil)))
theorem ok_ats (hw : ∀ d ∈ tables_1, d.before a0 Z = true) : ∀ ty ∈ Pg.ats, Wd Z a0 (.arrayClass ty) :=
  am_nil
theorem okP {ρ : Nat → Addr} (hw : ∀ d ∈ tables_1, d.before a0 Z = true) : PrgOk Pg Z a0 ρ := ⟨ok_fl hw, ok_fw hw, ok_sf hw, ok_nw hw, ok_na hw, ok_ats hw, ok_ca (ρ := ρ) hw, ok_ki hw, ok_kl hw, ok_ic hw, ok_vc hw⟩
end Words
theorem j0_eq : Pg.j0 = 257 := rfl
theorem d0_0 : decode (Pg.mt 0).code 0 = .ok (.iload_n 1, 1) := by decide +kernel
theorem w0_0 {L : List Slot} {S : List Value} {H : Hp} {k : Nat} {n : Nat} {Q : MRes → Prop} {l0 : Slot} {x : Int32} : Wp Pg 0 (0, l0 :: .val (.int x) :: L, S, H, k, n) Q ↔ Wp Pg 0 (1, l0 :: .val (.int x) :: L, (.int x) :: S, H, k, n) Q := gP d0_0 rfl rfl
theorem d0_1 : decode (Pg.mt 0).code 1 = .ok (.invokestatic 7, 3) := by decide +kernel
theorem w0_1 {L : List Slot} {S : List Value} {H : Hp} {k : Nat} {n : Nat} {Q : MRes → Prop} {a0 : Int32}  (h1 : L.length = 15) (h2 : wt S ≤ 0) (h3 : k + 1 ≤ 16) (h4 : n + 1 ≤ 128) : Wp Pg 0 (1, L, (.int a0) :: S, H, k, n) Q ↔ Wp Pg 1 (0, [.val (.int a0)], [], H, 0, 0) fun r => Wp Pg 0 (4, L, r.1.toList ++ S, r.2, k + 1, n + 1) Q := gCall d0_1 rfl rfl (M := 15) (W := 0) (C := 16) (Sl := 128) (c := 1) (s := 1) ⟨rfl, by decide, by decide, rfl, rfl, rfl, rfl⟩ (by show entL [(.int a0)] 1 = _; rw [entL, laid_c1 rfl, laid_nil]; rfl) h1 h2 h3 h4
theorem d0_4 : decode (Pg.mt 0).code 4 = .ok (.astore 5, 2) := by decide +kernel
theorem w0_4 {L : List Slot} {S : List Value} {H : Hp} {k : Nat} {n : Nat} {Q : MRes → Prop} {l0 l1 l2 l3 l4 : Slot} {o : Slot} {v : Value} (ho : s1 o = true) (hv : isA v = true) : Wp Pg 0 (4, l0 :: l1 :: l2 :: l3 :: l4 :: o :: L, v :: S, H, k, n) Q ↔ Wp Pg 0 (6, l0 :: l1 :: l2 :: l3 :: l4 :: .val v :: L, S, H, k, n) Q := gP d0_4 rfl (st1_eq (o := o) rfl ho hv)
theorem d0_6 : decode (Pg.mt 0).code 6 = .ok (.iload_n 2, 1) := by decide +kernel
theorem w0_6 {L : List Slot} {S : List Value} {H : Hp} {k : Nat} {n : Nat} {Q : MRes → Prop} {l0 l1 : Slot} {x : Int32} : Wp Pg 0 (6, l0 :: l1 :: .val (.int x) :: L, S, H, k, n) Q ↔ Wp Pg 0 (7, l0 :: l1 :: .val (.int x) :: L, (.int x) :: S, H, k, n) Q := gP d0_6 rfl rfl
theorem d0_7 : decode (Pg.mt 0).code 7 = .ok (.invokestatic 7, 3) := by decide +kernel
theorem w0_7 {L : List Slot} {S : List Value} {H : Hp} {k : Nat} {n : Nat} {Q : MRes → Prop} {a0 : Int32}  (h1 : L.length = 15) (h2 : wt S ≤ 0) (h3 : k + 1 ≤ 16) (h4 : n + 1 ≤ 128) : Wp Pg 0 (7, L, (.int a0) :: S, H, k, n) Q ↔ Wp Pg 1 (0, [.val (.int a0)], [], H, 0, 0) fun r => Wp Pg 0 (10, L, r.1.toList ++ S, r.2, k + 1, n + 1) Q := gCall d0_7 rfl rfl (M := 15) (W := 0) (C := 16) (Sl := 128) (c := 1) (s := 1) ⟨rfl, by decide, by decide, rfl, rfl, rfl, rfl⟩ (by show entL [(.int a0)] 1 = _; rw [entL, laid_c1 rfl, laid_nil]; rfl) h1 h2 h3 h4
theorem d0_10 : decode (Pg.mt 0).code 10 = .ok (.astore 6, 2) := by decide +kernel
theorem w0_10 {L : List Slot} {S : List Value} {H : Hp} {k : Nat} {n : Nat} {Q : MRes → Prop} {l0 l1 l2 l3 l4 l5 : Slot} {o : Slot} {v : Value} (ho : s1 o = true) (hv : isA v = true) : Wp Pg 0 (10, l0 :: l1 :: l2 :: l3 :: l4 :: l5 :: o :: L, v :: S, H, k, n) Q ↔ Wp Pg 0 (12, l0 :: l1 :: l2 :: l3 :: l4 :: l5 :: .val v :: L, S, H, k, n) Q := gP d0_10 rfl (st1_eq (o := o) rfl ho hv)
theorem d0_12 : decode (Pg.mt 0).code 12 = .ok (.iload_n 3, 1) := by decide +kernel
theorem w0_12 {L : List Slot} {S : List Value} {H : Hp} {k : Nat} {n : Nat} {Q : MRes → Prop} {l0 l1 l2 : Slot} {x : Int32} : Wp Pg 0 (12, l0 :: l1 :: l2 :: .val (.int x) :: L, S, H, k, n) Q ↔ Wp Pg 0 (13, l0 :: l1 :: l2 :: .val (.int x) :: L, (.int x) :: S, H, k, n) Q := gP d0_12 rfl rfl
theorem d0_13 : decode (Pg.mt 0).code 13 = .ok (.invokestatic 7, 3) := by decide +kernel
theorem w0_13 {L : List Slot} {S : List Value} {H : Hp} {k : Nat} {n : Nat} {Q : MRes → Prop} {a0 : Int32}  (h1 : L.length = 15) (h2 : wt S ≤ 0) (h3 : k + 1 ≤ 16) (h4 : n + 1 ≤ 128) : Wp Pg 0 (13, L, (.int a0) :: S, H, k, n) Q ↔ Wp Pg 1 (0, [.val (.int a0)], [], H, 0, 0) fun r => Wp Pg 0 (16, L, r.1.toList ++ S, r.2, k + 1, n + 1) Q := gCall d0_13 rfl rfl (M := 15) (W := 0) (C := 16) (Sl := 128) (c := 1) (s := 1) ⟨rfl, by decide, by decide, rfl, rfl, rfl, rfl⟩ (by show entL [(.int a0)] 1 = _; rw [entL, laid_c1 rfl, laid_nil]; rfl) h1 h2 h3 h4
theorem d0_16 : decode (Pg.mt 0).code 16 = .ok (.astore 7, 2) := by decide +kernel
theorem w0_16 {L : List Slot} {S : List Value} {H : Hp} {k : Nat} {n : Nat} {Q : MRes → Prop} {l0 l1 l2 l3 l4 l5 l6 : Slot} {o : Slot} {v : Value} (ho : s1 o = true) (hv : isA v = true) : Wp Pg 0 (16, l0 :: l1 :: l2 :: l3 :: l4 :: l5 :: l6 :: o :: L, v :: S, H, k, n) Q ↔ Wp Pg 0 (18, l0 :: l1 :: l2 :: l3 :: l4 :: l5 :: l6 :: .val v :: L, S, H, k, n) Q := gP d0_16 rfl (st1_eq (o := o) rfl ho hv)
theorem d0_18 : decode (Pg.mt 0).code 18 = .ok (.iload 4, 2) := by decide +kernel
theorem w0_18 {L : List Slot} {S : List Value} {H : Hp} {k : Nat} {n : Nat} {Q : MRes → Prop} {l0 l1 l2 l3 : Slot} {x : Int32} : Wp Pg 0 (18, l0 :: l1 :: l2 :: l3 :: .val (.int x) :: L, S, H, k, n) Q ↔ Wp Pg 0 (20, l0 :: l1 :: l2 :: l3 :: .val (.int x) :: L, (.int x) :: S, H, k, n) Q := gP d0_18 rfl rfl
theorem d0_20 : decode (Pg.mt 0).code 20 = .ok (.iconst 1, 1) := by decide +kernel
theorem w0_20 {L : List Slot} {S : List Value} {H : Hp} {k : Nat} {n : Nat} {Q : MRes → Prop} : Wp Pg 0 (20, L, S, H, k, n) Q ↔ Wp Pg 0 (21, L, (.int 1) :: S, H, k, n) Q := gP d0_20 rfl rfl
theorem d0_21 : decode (Pg.mt 0).code 21 = .ok (.iand, 1) := by decide +kernel
theorem w0_21 {L : List Slot} {S : List Value} {H : Hp} {k : Nat} {n : Nat} {Q : MRes → Prop} {x y : Int32} : Wp Pg 0 (21, L, (.int y) :: (.int x) :: S, H, k, n) Q ↔ Wp Pg 0 (22, L, (.int (x &&& y)) :: S, H, k, n) Q := gP d0_21 rfl rfl
theorem d0_22 : decode (Pg.mt 0).code 22 = .ok (.ifCond .eq 7, 3) := by decide +kernel
theorem w0_22 {L : List Slot} {S : List Value} {H : Hp} {k : Nat} {n : Nat} {Q : MRes → Prop} {x : Int32} : Wp Pg 0 (22, L, (.int x) :: S, H, k, n) Q ↔ if x = 0 then Wp Pg 0 (29, L, S, H, k, n) Q else Wp Pg 0 (25, L, S, H, k, n) Q := gIf d0_22 (by decide) (by decide) (c_eq x)
theorem d0_25 : decode (Pg.mt 0).code 25 = .ok (.aconst_null, 1) := by decide +kernel
theorem w0_25 {L : List Slot} {S : List Value} {H : Hp} {k : Nat} {n : Nat} {Q : MRes → Prop} : Wp Pg 0 (25, L, S, H, k, n) Q ↔ Wp Pg 0 (26, L, .null :: S, H, k, n) Q := gP d0_25 rfl rfl
theorem d0_26 : decode (Pg.mt 0).code 26 = .ok (.goto 5, 3) := by decide +kernel
theorem w0_26 {L : List Slot} {S : List Value} {H : Hp} {k : Nat} {n : Nat} {Q : MRes → Prop} : Wp Pg 0 (26, L, S, H, k, n) Q ↔ Wp Pg 0 (31, L, S, H, k, n) Q := gGoto d0_26 (by decide) (by decide)
theorem d0_29 : decode (Pg.mt 0).code 29 = .ok (.aload 6, 2) := by decide +kernel
theorem w0_29 {L : List Slot} {S : List Value} {H : Hp} {k : Nat} {n : Nat} {Q : MRes → Prop} {l0 l1 l2 l3 l4 l5 : Slot} {v : Value} (hv : isA v = true) : Wp Pg 0 (29, l0 :: l1 :: l2 :: l3 :: l4 :: l5 :: .val v :: L, S, H, k, n) Q ↔ Wp Pg 0 (31, l0 :: l1 :: l2 :: l3 :: l4 :: l5 :: .val v :: L, v :: S, H, k, n) Q := gP d0_29 rfl (by show (if isA v = true then _ else _) = _; rw [if_pos hv])
theorem d0_31 : decode (Pg.mt 0).code 31 = .ok (.astore 8, 2) := by decide +kernel
theorem w0_31 {L : List Slot} {S : List Value} {H : Hp} {k : Nat} {n : Nat} {Q : MRes → Prop} {l0 l1 l2 l3 l4 l5 l6 l7 : Slot} {o : Slot} {v : Value} (ho : s1 o = true) (hv : isA v = true) : Wp Pg 0 (31, l0 :: l1 :: l2 :: l3 :: l4 :: l5 :: l6 :: l7 :: o :: L, v :: S, H, k, n) Q ↔ Wp Pg 0 (33, l0 :: l1 :: l2 :: l3 :: l4 :: l5 :: l6 :: l7 :: .val v :: L, S, H, k, n) Q := gP d0_31 rfl (st1_eq (o := o) rfl ho hv)
theorem d0_33 : decode (Pg.mt 0).code 33 = .ok (.iload 4, 2) := by decide +kernel
theorem w0_33 {L : List Slot} {S : List Value} {H : Hp} {k : Nat} {n : Nat} {Q : MRes → Prop} {l0 l1 l2 l3 : Slot} {x : Int32} : Wp Pg 0 (33, l0 :: l1 :: l2 :: l3 :: .val (.int x) :: L, S, H, k, n) Q ↔ Wp Pg 0 (35, l0 :: l1 :: l2 :: l3 :: .val (.int x) :: L, (.int x) :: S, H, k, n) Q := gP d0_33 rfl rfl
theorem d0_35 : decode (Pg.mt 0).code 35 = .ok (.iconst 1, 1) := by decide +kernel
theorem w0_35 {L : List Slot} {S : List Value} {H : Hp} {k : Nat} {n : Nat} {Q : MRes → Prop} : Wp Pg 0 (35, L, S, H, k, n) Q ↔ Wp Pg 0 (36, L, (.int 1) :: S, H, k, n) Q := gP d0_35 rfl rfl
theorem d0_36 : decode (Pg.mt 0).code 36 = .ok (.iushr, 1) := by decide +kernel
theorem w0_36 {L : List Slot} {S : List Value} {H : Hp} {k : Nat} {n : Nat} {Q : MRes → Prop} {x y : Int32} : Wp Pg 0 (36, L, (.int y) :: (.int x) :: S, H, k, n) Q ↔ Wp Pg 0 (37, L, (.int (XT.ushr x y)) :: S, H, k, n) Q := gP d0_36 rfl rfl
theorem d0_37 : decode (Pg.mt 0).code 37 = .ok (.iconst 3, 1) := by decide +kernel
theorem w0_37 {L : List Slot} {S : List Value} {H : Hp} {k : Nat} {n : Nat} {Q : MRes → Prop} : Wp Pg 0 (37, L, S, H, k, n) Q ↔ Wp Pg 0 (38, L, (.int 3) :: S, H, k, n) Q := gP d0_37 rfl rfl
theorem d0_38 : decode (Pg.mt 0).code 38 = .ok (.irem, 1) := by decide +kernel
theorem w0_38 {L : List Slot} {S : List Value} {H : Hp} {k : Nat} {n : Nat} {Q : MRes → Prop} {x y : Int32} (hy : ¬ y = 0) : Wp Pg 0 (38, L, (.int y) :: (.int x) :: S, H, k, n) Q ↔ Wp Pg 0 (39, L, (.int (x % y)) :: S, H, k, n) Q := gP d0_38 rfl (by simp only [plainI, dI, if_neg hy, keepL])
theorem d0_39 : decode (Pg.mt 0).code 39 = .ok (.istore 9, 2) := by decide +kernel
theorem w0_39 {L : List Slot} {S : List Value} {H : Hp} {k : Nat} {n : Nat} {Q : MRes → Prop} {l0 l1 l2 l3 l4 l5 l6 l7 l8 : Slot} {o : Slot} {x : Int32} (ho : s1 o = true) : Wp Pg 0 (39, l0 :: l1 :: l2 :: l3 :: l4 :: l5 :: l6 :: l7 :: l8 :: o :: L, (.int x) :: S, H, k, n) Q ↔ Wp Pg 0 (41, l0 :: l1 :: l2 :: l3 :: l4 :: l5 :: l6 :: l7 :: l8 :: .val (.int x) :: L, S, H, k, n) Q := gP d0_39 rfl (st1_eq (o := o) rfl ho rfl)
theorem d0_41 : decode (Pg.mt 0).code 41 = .ok (.iload 9, 2) := by decide +kernel
theorem w0_41 {L : List Slot} {S : List Value} {H : Hp} {k : Nat} {n : Nat} {Q : MRes → Prop} {l0 l1 l2 l3 l4 l5 l6 l7 l8 : Slot} {x : Int32} : Wp Pg 0 (41, l0 :: l1 :: l2 :: l3 :: l4 :: l5 :: l6 :: l7 :: l8 :: .val (.int x) :: L, S, H, k, n) Q ↔ Wp Pg 0 (43, l0 :: l1 :: l2 :: l3 :: l4 :: l5 :: l6 :: l7 :: l8 :: .val (.int x) :: L, (.int x) :: S, H, k, n) Q := gP d0_41 rfl rfl
theorem d0_43 : decode (Pg.mt 0).code 43 = .ok (.ifCond .ne 10, 3) := by decide +kernel
theorem w0_43 {L : List Slot} {S : List Value} {H : Hp} {k : Nat} {n : Nat} {Q : MRes → Prop} {x : Int32} : Wp Pg 0 (43, L, (.int x) :: S, H, k, n) Q ↔ if ¬ x = 0 then Wp Pg 0 (53, L, S, H, k, n) Q else Wp Pg 0 (46, L, S, H, k, n) Q := gIf d0_43 (by decide) (by decide) (c_ne x)
theorem d0_46 : decode (Pg.mt 0).code 46 = .ok (.aload 8, 2) := by decide +kernel
theorem w0_46 {L : List Slot} {S : List Value} {H : Hp} {k : Nat} {n : Nat} {Q : MRes → Prop} {l0 l1 l2 l3 l4 l5 l6 l7 : Slot} {v : Value} (hv : isA v = true) : Wp Pg 0 (46, l0 :: l1 :: l2 :: l3 :: l4 :: l5 :: l6 :: l7 :: .val v :: L, S, H, k, n) Q ↔ Wp Pg 0 (48, l0 :: l1 :: l2 :: l3 :: l4 :: l5 :: l6 :: l7 :: .val v :: L, v :: S, H, k, n) Q := gP d0_46 rfl (by show (if isA v = true then _ else _) = _; rw [if_pos hv])
theorem d0_48 : decode (Pg.mt 0).code 48 = .ok (.astore 10, 2) := by decide +kernel
theorem w0_48 {L : List Slot} {S : List Value} {H : Hp} {k : Nat} {n : Nat} {Q : MRes → Prop} {l0 l1 l2 l3 l4 l5 l6 l7 l8 l9 : Slot} {o : Slot} {v : Value} (ho : s1 o = true) (hv : isA v = true) : Wp Pg 0 (48, l0 :: l1 :: l2 :: l3 :: l4 :: l5 :: l6 :: l7 :: l8 :: l9 :: o :: L, v :: S, H, k, n) Q ↔ Wp Pg 0 (50, l0 :: l1 :: l2 :: l3 :: l4 :: l5 :: l6 :: l7 :: l8 :: l9 :: .val v :: L, S, H, k, n) Q := gP d0_48 rfl (st1_eq (o := o) rfl ho hv)
theorem d0_50 : decode (Pg.mt 0).code 50 = .ok (.goto 19, 3) := by decide +kernel
theorem w0_50 {L : List Slot} {S : List Value} {H : Hp} {k : Nat} {n : Nat} {Q : MRes → Prop} : Wp Pg 0 (50, L, S, H, k, n) Q ↔ Wp Pg 0 (69, L, S, H, k, n) Q := gGoto d0_50 (by decide) (by decide)
theorem d0_53 : decode (Pg.mt 0).code 53 = .ok (.iload 9, 2) := by decide +kernel
theorem w0_53 {L : List Slot} {S : List Value} {H : Hp} {k : Nat} {n : Nat} {Q : MRes → Prop} {l0 l1 l2 l3 l4 l5 l6 l7 l8 : Slot} {x : Int32} : Wp Pg 0 (53, l0 :: l1 :: l2 :: l3 :: l4 :: l5 :: l6 :: l7 :: l8 :: .val (.int x) :: L, S, H, k, n) Q ↔ Wp Pg 0 (55, l0 :: l1 :: l2 :: l3 :: l4 :: l5 :: l6 :: l7 :: l8 :: .val (.int x) :: L, (.int x) :: S, H, k, n) Q := gP d0_53 rfl rfl
theorem d0_55 : decode (Pg.mt 0).code 55 = .ok (.iconst 1, 1) := by decide +kernel
theorem w0_55 {L : List Slot} {S : List Value} {H : Hp} {k : Nat} {n : Nat} {Q : MRes → Prop} : Wp Pg 0 (55, L, S, H, k, n) Q ↔ Wp Pg 0 (56, L, (.int 1) :: S, H, k, n) Q := gP d0_55 rfl rfl
theorem d0_56 : decode (Pg.mt 0).code 56 = .ok (.if_icmp .ne 10, 3) := by decide +kernel
theorem w0_56 {L : List Slot} {S : List Value} {H : Hp} {k : Nat} {n : Nat} {Q : MRes → Prop} {x y : Int32} : Wp Pg 0 (56, L, (.int y) :: (.int x) :: S, H, k, n) Q ↔ if ¬ x = y then Wp Pg 0 (66, L, S, H, k, n) Q else Wp Pg 0 (59, L, S, H, k, n) Q := gIcmp d0_56 (by decide) (by decide) (i_ne x y)
theorem d0_59 : decode (Pg.mt 0).code 59 = .ok (.aload 7, 2) := by decide +kernel
theorem w0_59 {L : List Slot} {S : List Value} {H : Hp} {k : Nat} {n : Nat} {Q : MRes → Prop} {l0 l1 l2 l3 l4 l5 l6 : Slot} {v : Value} (hv : isA v = true) : Wp Pg 0 (59, l0 :: l1 :: l2 :: l3 :: l4 :: l5 :: l6 :: .val v :: L, S, H, k, n) Q ↔ Wp Pg 0 (61, l0 :: l1 :: l2 :: l3 :: l4 :: l5 :: l6 :: .val v :: L, v :: S, H, k, n) Q := gP d0_59 rfl (by show (if isA v = true then _ else _) = _; rw [if_pos hv])
theorem d0_61 : decode (Pg.mt 0).code 61 = .ok (.astore 10, 2) := by decide +kernel
theorem w0_61 {L : List Slot} {S : List Value} {H : Hp} {k : Nat} {n : Nat} {Q : MRes → Prop} {l0 l1 l2 l3 l4 l5 l6 l7 l8 l9 : Slot} {o : Slot} {v : Value} (ho : s1 o = true) (hv : isA v = true) : Wp Pg 0 (61, l0 :: l1 :: l2 :: l3 :: l4 :: l5 :: l6 :: l7 :: l8 :: l9 :: o :: L, v :: S, H, k, n) Q ↔ Wp Pg 0 (63, l0 :: l1 :: l2 :: l3 :: l4 :: l5 :: l6 :: l7 :: l8 :: l9 :: .val v :: L, S, H, k, n) Q := gP d0_61 rfl (st1_eq (o := o) rfl ho hv)
theorem d0_63 : decode (Pg.mt 0).code 63 = .ok (.goto 6, 3) := by decide +kernel
theorem w0_63 {L : List Slot} {S : List Value} {H : Hp} {k : Nat} {n : Nat} {Q : MRes → Prop} : Wp Pg 0 (63, L, S, H, k, n) Q ↔ Wp Pg 0 (69, L, S, H, k, n) Q := gGoto d0_63 (by decide) (by decide)
theorem d0_66 : decode (Pg.mt 0).code 66 = .ok (.aconst_null, 1) := by decide +kernel
theorem w0_66 {L : List Slot} {S : List Value} {H : Hp} {k : Nat} {n : Nat} {Q : MRes → Prop} : Wp Pg 0 (66, L, S, H, k, n) Q ↔ Wp Pg 0 (67, L, .null :: S, H, k, n) Q := gP d0_66 rfl rfl
theorem d0_67 : decode (Pg.mt 0).code 67 = .ok (.astore 10, 2) := by decide +kernel
theorem w0_67 {L : List Slot} {S : List Value} {H : Hp} {k : Nat} {n : Nat} {Q : MRes → Prop} {l0 l1 l2 l3 l4 l5 l6 l7 l8 l9 : Slot} {o : Slot} {v : Value} (ho : s1 o = true) (hv : isA v = true) : Wp Pg 0 (67, l0 :: l1 :: l2 :: l3 :: l4 :: l5 :: l6 :: l7 :: l8 :: l9 :: o :: L, v :: S, H, k, n) Q ↔ Wp Pg 0 (69, l0 :: l1 :: l2 :: l3 :: l4 :: l5 :: l6 :: l7 :: l8 :: l9 :: .val v :: L, S, H, k, n) Q := gP d0_67 rfl (st1_eq (o := o) rfl ho hv)
theorem d0_69 : decode (Pg.mt 0).code 69 = .ok (.new 13, 3) := by decide +kernel
theorem w0_69 {L : List Slot} {S : List Value} {H : Hp} {k : Nat} {n : Nat} {Q : MRes → Prop} (h1 : k + 1 ≤ 16) (h2 : n + 6 ≤ 128) : Wp Pg 0 (69, L, S, H, k, n) Q ↔ Wp Pg 0 (72, L, (.ref H.length) :: S, H ++ [(.inr 0, [.int 0, .null, .null, .null, .null, .null])], k + 1, n + 6) Q := gNew d0_69 rfl rfl rfl rfl rfl h1 h2
theorem d0_72 : decode (Pg.mt 0).code 72 = .ok (.dup, 1) := by decide +kernel
theorem w0_72 {L : List Slot} {S : List Value} {H : Hp} {k : Nat} {n : Nat} {Q : MRes → Prop} {v : Value} (hv : cat v = 1) : Wp Pg 0 (72, L, v :: S, H, k, n) Q ↔ Wp Pg 0 (73, L, v :: v :: S, H, k, n) Q := gP d0_72 rfl (by simp only [plainI, fdup, if_pos hv, keepL])
theorem d0_73 : decode (Pg.mt 0).code 73 = .ok (.iload_n 0, 1) := by decide +kernel
theorem w0_73 {L : List Slot} {S : List Value} {H : Hp} {k : Nat} {n : Nat} {Q : MRes → Prop}  {x : Int32} : Wp Pg 0 (73, .val (.int x) :: L, S, H, k, n) Q ↔ Wp Pg 0 (74, .val (.int x) :: L, (.int x) :: S, H, k, n) Q := gP d0_73 rfl rfl
theorem d0_74 : decode (Pg.mt 0).code 74 = .ok (.aload 5, 2) := by decide +kernel
theorem w0_74 {L : List Slot} {S : List Value} {H : Hp} {k : Nat} {n : Nat} {Q : MRes → Prop} {l0 l1 l2 l3 l4 : Slot} {v : Value} (hv : isA v = true) : Wp Pg 0 (74, l0 :: l1 :: l2 :: l3 :: l4 :: .val v :: L, S, H, k, n) Q ↔ Wp Pg 0 (76, l0 :: l1 :: l2 :: l3 :: l4 :: .val v :: L, v :: S, H, k, n) Q := gP d0_74 rfl (by show (if isA v = true then _ else _) = _; rw [if_pos hv])
theorem d0_76 : decode (Pg.mt 0).code 76 = .ok (.aload 8, 2) := by decide +kernel
theorem w0_76 {L : List Slot} {S : List Value} {H : Hp} {k : Nat} {n : Nat} {Q : MRes → Prop} {l0 l1 l2 l3 l4 l5 l6 l7 : Slot} {v : Value} (hv : isA v = true) : Wp Pg 0 (76, l0 :: l1 :: l2 :: l3 :: l4 :: l5 :: l6 :: l7 :: .val v :: L, S, H, k, n) Q ↔ Wp Pg 0 (78, l0 :: l1 :: l2 :: l3 :: l4 :: l5 :: l6 :: l7 :: .val v :: L, v :: S, H, k, n) Q := gP d0_76 rfl (by show (if isA v = true then _ else _) = _; rw [if_pos hv])
theorem d0_78 : decode (Pg.mt 0).code 78 = .ok (.invokespecial 15, 3) := by decide +kernel
theorem w0_78 {L : List Slot} {S : List Value} {H : Hp} {k : Nat} {n : Nat} {Q : MRes → Prop} {a0 : Int32} {a1 : Value} {a2 : Value} {a : Nat}  (h_a1 : cat a1 = 1) (h_a2 : cat a2 = 1) (h1 : L.length = 15) (h2 : wt S ≤ 1) (h3 : k + 0 ≤ 16) (h4 : n + 0 ≤ 128) : Wp Pg 0 (78, L, a2 :: a1 :: (.int a0) :: (.ref a) :: S, H, k, n) Q ↔ Wp Pg 2 (0, [.val (.ref a), .val (.int a0), .val a1, .val a2], [], H, 0, 0) fun r => Wp Pg 0 (81, L, r.1.toList ++ S, r.2, k + 0, n + 0) Q := gCall d0_78 rfl rfl (M := 15) (W := 1) (C := 16) (Sl := 128) (c := 0) (s := 0) ⟨rfl, by decide, by decide, rfl, rfl, rfl, rfl⟩ (by show entL [(.ref a), (.int a0), a1, a2] 4 = _; rw [entL, laid_c1 rfl, laid_c1 rfl, laid_c1 h_a1, laid_c1 h_a2, laid_nil]; rfl) h1 h2 h3 h4
theorem d0_81 : decode (Pg.mt 0).code 81 = .ok (.astore 11, 2) := by decide +kernel
theorem w0_81 {L : List Slot} {S : List Value} {H : Hp} {k : Nat} {n : Nat} {Q : MRes → Prop} {l0 l1 l2 l3 l4 l5 l6 l7 l8 l9 l10 : Slot} {o : Slot} {v : Value} (ho : s1 o = true) (hv : isA v = true) : Wp Pg 0 (81, l0 :: l1 :: l2 :: l3 :: l4 :: l5 :: l6 :: l7 :: l8 :: l9 :: l10 :: o :: L, v :: S, H, k, n) Q ↔ Wp Pg 0 (83, l0 :: l1 :: l2 :: l3 :: l4 :: l5 :: l6 :: l7 :: l8 :: l9 :: l10 :: .val v :: L, S, H, k, n) Q := gP d0_81 rfl (st1_eq (o := o) rfl ho hv)
theorem d0_83 : decode (Pg.mt 0).code 83 = .ok (.aload 11, 2) := by decide +kernel
theorem w0_83 {L : List Slot} {S : List Value} {H : Hp} {k : Nat} {n : Nat} {Q : MRes → Prop} {l0 l1 l2 l3 l4 l5 l6 l7 l8 l9 l10 : Slot} {v : Value} (hv : isA v = true) : Wp Pg 0 (83, l0 :: l1 :: l2 :: l3 :: l4 :: l5 :: l6 :: l7 :: l8 :: l9 :: l10 :: .val v :: L, S, H, k, n) Q ↔ Wp Pg 0 (85, l0 :: l1 :: l2 :: l3 :: l4 :: l5 :: l6 :: l7 :: l8 :: l9 :: l10 :: .val v :: L, v :: S, H, k, n) Q := gP d0_83 rfl (by show (if isA v = true then _ else _) = _; rw [if_pos hv])
theorem d0_85 : decode (Pg.mt 0).code 85 = .ok (.aload 10, 2) := by decide +kernel
theorem w0_85 {L : List Slot} {S : List Value} {H : Hp} {k : Nat} {n : Nat} {Q : MRes → Prop} {l0 l1 l2 l3 l4 l5 l6 l7 l8 l9 : Slot} {v : Value} (hv : isA v = true) : Wp Pg 0 (85, l0 :: l1 :: l2 :: l3 :: l4 :: l5 :: l6 :: l7 :: l8 :: l9 :: .val v :: L, S, H, k, n) Q ↔ Wp Pg 0 (87, l0 :: l1 :: l2 :: l3 :: l4 :: l5 :: l6 :: l7 :: l8 :: l9 :: .val v :: L, v :: S, H, k, n) Q := gP d0_85 rfl (by show (if isA v = true then _ else _) = _; rw [if_pos hv])
theorem d0_87 : decode (Pg.mt 0).code 87 = .ok (.invokevirtual 18, 3) := by decide +kernel
theorem w0_87 {L : List Slot} {S : List Value} {H : Hp} {k : Nat} {n : Nat} {Q : MRes → Prop} {a0 : Value} {a : Nat}  (ho : kdOf H a = some 0) (h_a0 : cat a0 = 1) (h1 : L.length = 15) (h2 : wt S ≤ 0) (h3 : k + 0 ≤ 16) (h4 : n + 0 ≤ 128) : Wp Pg 0 (87, L, a0 :: (.ref a) :: S, H, k, n) Q ↔ Wp Pg 3 (0, [.val (.ref a), .val a0, .unset], [], H, 0, 0) fun r => Wp Pg 0 (90, L, r.1.toList ++ S, r.2, k + 0, n + 0) Q := gVirt (np := 1) (cid := 0) d0_87 rfl rfl rfl (M := 15) (W := 0) (C := 16) (Sl := 128) (c := 0) (s := 0) ⟨rfl, by decide, by decide, rfl, rfl, rfl, rfl⟩ (by show entL [(.ref a), a0] 3 = _; rw [entL, laid_c1 rfl, laid_c1 h_a0, laid_nil]; rfl) ho h1 h2 h3 h4
theorem d0_90 : decode (Pg.mt 0).code 90 = .ok (.checkcast 8, 3) := by decide +kernel
theorem w0_90 {L : List Slot} {S : List Value} {H : Hp} {k : Nat} {n : Nat} {Q : MRes → Prop} {a : Nat} : Wp Pg 0 (90, L, (.ref a) :: S, H, k, n) Q ↔ castI Pg 0 8 H a = some true ∧ Wp Pg 0 (93, L, (.ref a) :: S, H, k, n) Q := gCast d0_90
theorem w0_90n {L : List Slot} {S : List Value} {H : Hp} {k : Nat} {n : Nat} {Q : MRes → Prop} : Wp Pg 0 (90, L, .null :: S, H, k, n) Q ↔ Wp Pg 0 (93, L, .null :: S, H, k, n) Q := gCast0 d0_90
theorem d0_93 : decode (Pg.mt 0).code 93 = .ok (.astore 12, 2) := by decide +kernel
theorem w0_93 {L : List Slot} {S : List Value} {H : Hp} {k : Nat} {n : Nat} {Q : MRes → Prop} {l0 l1 l2 l3 l4 l5 l6 l7 l8 l9 l10 l11 : Slot} {o : Slot} {v : Value} (ho : s1 o = true) (hv : isA v = true) : Wp Pg 0 (93, l0 :: l1 :: l2 :: l3 :: l4 :: l5 :: l6 :: l7 :: l8 :: l9 :: l10 :: l11 :: o :: L, v :: S, H, k, n) Q ↔ Wp Pg 0 (95, l0 :: l1 :: l2 :: l3 :: l4 :: l5 :: l6 :: l7 :: l8 :: l9 :: l10 :: l11 :: .val v :: L, S, H, k, n) Q := gP d0_93 rfl (st1_eq (o := o) rfl ho hv)
theorem d0_95 : decode (Pg.mt 0).code 95 = .ok (.aload 12, 2) := by decide +kernel
theorem w0_95 {L : List Slot} {S : List Value} {H : Hp} {k : Nat} {n : Nat} {Q : MRes → Prop} {l0 l1 l2 l3 l4 l5 l6 l7 l8 l9 l10 l11 : Slot} {v : Value} (hv : isA v = true) : Wp Pg 0 (95, l0 :: l1 :: l2 :: l3 :: l4 :: l5 :: l6 :: l7 :: l8 :: l9 :: l10 :: l11 :: .val v :: L, S, H, k, n) Q ↔ Wp Pg 0 (97, l0 :: l1 :: l2 :: l3 :: l4 :: l5 :: l6 :: l7 :: l8 :: l9 :: l10 :: l11 :: .val v :: L, v :: S, H, k, n) Q := gP d0_95 rfl (by show (if isA v = true then _ else _) = _; rw [if_pos hv])
theorem d0_97 : decode (Pg.mt 0).code 97 = .ok (.aload 8, 2) := by decide +kernel
theorem w0_97 {L : List Slot} {S : List Value} {H : Hp} {k : Nat} {n : Nat} {Q : MRes → Prop} {l0 l1 l2 l3 l4 l5 l6 l7 : Slot} {v : Value} (hv : isA v = true) : Wp Pg 0 (97, l0 :: l1 :: l2 :: l3 :: l4 :: l5 :: l6 :: l7 :: .val v :: L, S, H, k, n) Q ↔ Wp Pg 0 (99, l0 :: l1 :: l2 :: l3 :: l4 :: l5 :: l6 :: l7 :: .val v :: L, v :: S, H, k, n) Q := gP d0_97 rfl (by show (if isA v = true then _ else _) = _; rw [if_pos hv])
theorem d0_99 : decode (Pg.mt 0).code 99 = .ok (.if_acmp .ne 60, 3) := by decide +kernel
theorem w0_99 {L : List Slot} {S : List Value} {H : Hp} {k : Nat} {n : Nat} {Q : MRes → Prop} {v u : Value} (hv : isA v = true) (hu : isA u = true) : Wp Pg 0 (99, L, u :: v :: S, H, k, n) Q ↔ if v ≠ u then Wp Pg 0 (159, L, S, H, k, n) Q else Wp Pg 0 (102, L, S, H, k, n) Q := gAcmp hv hu d0_99 (by decide) (by decide) rfl
theorem d0_102 : decode (Pg.mt 0).code 102 = .ok (.aload 11, 2) := by decide +kernel
theorem w0_102 {L : List Slot} {S : List Value} {H : Hp} {k : Nat} {n : Nat} {Q : MRes → Prop} {l0 l1 l2 l3 l4 l5 l6 l7 l8 l9 l10 : Slot} {v : Value} (hv : isA v = true) : Wp Pg 0 (102, l0 :: l1 :: l2 :: l3 :: l4 :: l5 :: l6 :: l7 :: l8 :: l9 :: l10 :: .val v :: L, S, H, k, n) Q ↔ Wp Pg 0 (104, l0 :: l1 :: l2 :: l3 :: l4 :: l5 :: l6 :: l7 :: l8 :: l9 :: l10 :: .val v :: L, v :: S, H, k, n) Q := gP d0_102 rfl (by show (if isA v = true then _ else _) = _; rw [if_pos hv])
theorem d0_104 : decode (Pg.mt 0).code 104 = .ok (.invokevirtual 22, 3) := by decide +kernel
theorem w0_104 {L : List Slot} {S : List Value} {H : Hp} {k : Nat} {n : Nat} {Q : MRes → Prop} {a : Nat}  (ho : kdOf H a = some 0) (h1 : L.length = 15) (h2 : wt S ≤ 0) (h3 : k + 0 ≤ 16) (h4 : n + 0 ≤ 128) : Wp Pg 0 (104, L, (.ref a) :: S, H, k, n) Q ↔ Wp Pg 4 (0, [.val (.ref a)], [], H, 0, 0) fun r => Wp Pg 0 (107, L, r.1.toList ++ S, r.2, k + 0, n + 0) Q := gVirt (np := 0) (cid := 0) d0_104 rfl rfl rfl (M := 15) (W := 0) (C := 16) (Sl := 128) (c := 0) (s := 0) ⟨rfl, by decide, by decide, rfl, rfl, rfl, rfl⟩ (by show entL [(.ref a)] 1 = _; rw [entL, laid_c1 rfl, laid_nil]; rfl) ho h1 h2 h3 h4
theorem d0_107 : decode (Pg.mt 0).code 107 = .ok (.aload 10, 2) := by decide +kernel
theorem w0_107 {L : List Slot} {S : List Value} {H : Hp} {k : Nat} {n : Nat} {Q : MRes → Prop} {l0 l1 l2 l3 l4 l5 l6 l7 l8 l9 : Slot} {v : Value} (hv : isA v = true) : Wp Pg 0 (107, l0 :: l1 :: l2 :: l3 :: l4 :: l5 :: l6 :: l7 :: l8 :: l9 :: .val v :: L, S, H, k, n) Q ↔ Wp Pg 0 (109, l0 :: l1 :: l2 :: l3 :: l4 :: l5 :: l6 :: l7 :: l8 :: l9 :: .val v :: L, v :: S, H, k, n) Q := gP d0_107 rfl (by show (if isA v = true then _ else _) = _; rw [if_pos hv])
theorem d0_109 : decode (Pg.mt 0).code 109 = .ok (.if_acmp .ne 50, 3) := by decide +kernel
theorem w0_109 {L : List Slot} {S : List Value} {H : Hp} {k : Nat} {n : Nat} {Q : MRes → Prop} {v u : Value} (hv : isA v = true) (hu : isA u = true) : Wp Pg 0 (109, L, u :: v :: S, H, k, n) Q ↔ if v ≠ u then Wp Pg 0 (159, L, S, H, k, n) Q else Wp Pg 0 (112, L, S, H, k, n) Q := gAcmp hv hu d0_109 (by decide) (by decide) rfl
theorem d0_112 : decode (Pg.mt 0).code 112 = .ok (.aload 11, 2) := by decide +kernel
theorem w0_112 {L : List Slot} {S : List Value} {H : Hp} {k : Nat} {n : Nat} {Q : MRes → Prop} {l0 l1 l2 l3 l4 l5 l6 l7 l8 l9 l10 : Slot} {v : Value} (hv : isA v = true) : Wp Pg 0 (112, l0 :: l1 :: l2 :: l3 :: l4 :: l5 :: l6 :: l7 :: l8 :: l9 :: l10 :: .val v :: L, S, H, k, n) Q ↔ Wp Pg 0 (114, l0 :: l1 :: l2 :: l3 :: l4 :: l5 :: l6 :: l7 :: l8 :: l9 :: l10 :: .val v :: L, v :: S, H, k, n) Q := gP d0_112 rfl (by show (if isA v = true then _ else _) = _; rw [if_pos hv])
theorem d0_114 : decode (Pg.mt 0).code 114 = .ok (.invokevirtual 26, 3) := by decide +kernel
theorem w0_114 {L : List Slot} {S : List Value} {H : Hp} {k : Nat} {n : Nat} {Q : MRes → Prop} {a : Nat}  (ho : kdOf H a = some 0) (h1 : L.length = 15) (h2 : wt S ≤ 0) (h3 : k + 0 ≤ 16) (h4 : n + 0 ≤ 128) : Wp Pg 0 (114, L, (.ref a) :: S, H, k, n) Q ↔ Wp Pg 5 (0, [.val (.ref a)], [], H, 0, 0) fun r => Wp Pg 0 (117, L, r.1.toList ++ S, r.2, k + 0, n + 0) Q := gVirt (np := 0) (cid := 0) d0_114 rfl rfl rfl (M := 15) (W := 0) (C := 16) (Sl := 128) (c := 0) (s := 0) ⟨rfl, by decide, by decide, rfl, rfl, rfl, rfl⟩ (by show entL [(.ref a)] 1 = _; rw [entL, laid_c1 rfl, laid_nil]; rfl) ho h1 h2 h3 h4
theorem d0_117 : decode (Pg.mt 0).code 117 = .ok (.aload 5, 2) := by decide +kernel
theorem w0_117 {L : List Slot} {S : List Value} {H : Hp} {k : Nat} {n : Nat} {Q : MRes → Prop} {l0 l1 l2 l3 l4 : Slot} {v : Value} (hv : isA v = true) : Wp Pg 0 (117, l0 :: l1 :: l2 :: l3 :: l4 :: .val v :: L, S, H, k, n) Q ↔ Wp Pg 0 (119, l0 :: l1 :: l2 :: l3 :: l4 :: .val v :: L, v :: S, H, k, n) Q := gP d0_117 rfl (by show (if isA v = true then _ else _) = _; rw [if_pos hv])
theorem d0_119 : decode (Pg.mt 0).code 119 = .ok (.if_acmp .ne 40, 3) := by decide +kernel
theorem w0_119 {L : List Slot} {S : List Value} {H : Hp} {k : Nat} {n : Nat} {Q : MRes → Prop} {v u : Value} (hv : isA v = true) (hu : isA u = true) : Wp Pg 0 (119, L, u :: v :: S, H, k, n) Q ↔ if v ≠ u then Wp Pg 0 (159, L, S, H, k, n) Q else Wp Pg 0 (122, L, S, H, k, n) Q := gAcmp hv hu d0_119 (by decide) (by decide) rfl
theorem d0_122 : decode (Pg.mt 0).code 122 = .ok (.aload 11, 2) := by decide +kernel
theorem w0_122 {L : List Slot} {S : List Value} {H : Hp} {k : Nat} {n : Nat} {Q : MRes → Prop} {l0 l1 l2 l3 l4 l5 l6 l7 l8 l9 l10 : Slot} {v : Value} (hv : isA v = true) : Wp Pg 0 (122, l0 :: l1 :: l2 :: l3 :: l4 :: l5 :: l6 :: l7 :: l8 :: l9 :: l10 :: .val v :: L, S, H, k, n) Q ↔ Wp Pg 0 (124, l0 :: l1 :: l2 :: l3 :: l4 :: l5 :: l6 :: l7 :: l8 :: l9 :: l10 :: .val v :: L, v :: S, H, k, n) Q := gP d0_122 rfl (by show (if isA v = true then _ else _) = _; rw [if_pos hv])
theorem d0_124 : decode (Pg.mt 0).code 124 = .ok (.getfield 29, 3) := by decide +kernel
theorem w0_124 {L : List Slot} {S : List Value} {H : Hp} {k : Nat} {n : Nat} {Q : MRes → Prop} {a : Nat} : Wp Pg 0 (124, L, (.ref a) :: S, H, k, n) Q ↔ ∃ v, rdF Pg 0 29 H a = some v ∧ Wp Pg 0 (127, L, v :: S, H, k, n) Q := gGet d0_124
theorem d0_127 : decode (Pg.mt 0).code 127 = .ok (.iload_n 0, 1) := by decide +kernel
theorem w0_127 {L : List Slot} {S : List Value} {H : Hp} {k : Nat} {n : Nat} {Q : MRes → Prop}  {x : Int32} : Wp Pg 0 (127, .val (.int x) :: L, S, H, k, n) Q ↔ Wp Pg 0 (128, .val (.int x) :: L, (.int x) :: S, H, k, n) Q := gP d0_127 rfl rfl
theorem d0_128 : decode (Pg.mt 0).code 128 = .ok (.if_icmp .ne 31, 3) := by decide +kernel
theorem w0_128 {L : List Slot} {S : List Value} {H : Hp} {k : Nat} {n : Nat} {Q : MRes → Prop} {x y : Int32} : Wp Pg 0 (128, L, (.int y) :: (.int x) :: S, H, k, n) Q ↔ if ¬ x = y then Wp Pg 0 (159, L, S, H, k, n) Q else Wp Pg 0 (131, L, S, H, k, n) Q := gIcmp d0_128 (by decide) (by decide) (i_ne x y)
theorem d0_131 : decode (Pg.mt 0).code 131 = .ok (.aload 11, 2) := by decide +kernel
theorem w0_131 {L : List Slot} {S : List Value} {H : Hp} {k : Nat} {n : Nat} {Q : MRes → Prop} {l0 l1 l2 l3 l4 l5 l6 l7 l8 l9 l10 : Slot} {v : Value} (hv : isA v = true) : Wp Pg 0 (131, l0 :: l1 :: l2 :: l3 :: l4 :: l5 :: l6 :: l7 :: l8 :: l9 :: l10 :: .val v :: L, S, H, k, n) Q ↔ Wp Pg 0 (133, l0 :: l1 :: l2 :: l3 :: l4 :: l5 :: l6 :: l7 :: l8 :: l9 :: l10 :: .val v :: L, v :: S, H, k, n) Q := gP d0_131 rfl (by show (if isA v = true then _ else _) = _; rw [if_pos hv])
theorem d0_133 : decode (Pg.mt 0).code 133 = .ok (.getfield 33, 3) := by decide +kernel
theorem w0_133 {L : List Slot} {S : List Value} {H : Hp} {k : Nat} {n : Nat} {Q : MRes → Prop} {a : Nat} : Wp Pg 0 (133, L, (.ref a) :: S, H, k, n) Q ↔ ∃ v, rdF Pg 0 33 H a = some v ∧ Wp Pg 0 (136, L, v :: S, H, k, n) Q := gGet d0_133
theorem d0_136 : decode (Pg.mt 0).code 136 = .ok (.ifnonnull 23, 3) := by decide +kernel
theorem w0_136n {L : List Slot} {S : List Value} {H : Hp} {k : Nat} {n : Nat} {Q : MRes → Prop} : Wp Pg 0 (136, L, .null :: S, H, k, n) Q ↔ Wp Pg 0 (139, L, S, H, k, n) Q := gNonnullN d0_136
theorem w0_136 {L : List Slot} {S : List Value} {H : Hp} {k : Nat} {n : Nat} {Q : MRes → Prop} {a : Nat} : Wp Pg 0 (136, L, (.ref a) :: S, H, k, n) Q ↔ Wp Pg 0 (159, L, S, H, k, n) Q := gNonnullY d0_136 (by decide) (by decide)
theorem d0_139 : decode (Pg.mt 0).code 139 = .ok (.aload 11, 2) := by decide +kernel
theorem w0_139 {L : List Slot} {S : List Value} {H : Hp} {k : Nat} {n : Nat} {Q : MRes → Prop} {l0 l1 l2 l3 l4 l5 l6 l7 l8 l9 l10 : Slot} {v : Value} (hv : isA v = true) : Wp Pg 0 (139, l0 :: l1 :: l2 :: l3 :: l4 :: l5 :: l6 :: l7 :: l8 :: l9 :: l10 :: .val v :: L, S, H, k, n) Q ↔ Wp Pg 0 (141, l0 :: l1 :: l2 :: l3 :: l4 :: l5 :: l6 :: l7 :: l8 :: l9 :: l10 :: .val v :: L, v :: S, H, k, n) Q := gP d0_139 rfl (by show (if isA v = true then _ else _) = _; rw [if_pos hv])
theorem d0_141 : decode (Pg.mt 0).code 141 = .ok (.getfield 37, 3) := by decide +kernel
theorem w0_141 {L : List Slot} {S : List Value} {H : Hp} {k : Nat} {n : Nat} {Q : MRes → Prop} {a : Nat} : Wp Pg 0 (141, L, (.ref a) :: S, H, k, n) Q ↔ ∃ v, rdF Pg 0 37 H a = some v ∧ Wp Pg 0 (144, L, v :: S, H, k, n) Q := gGet d0_141
theorem d0_144 : decode (Pg.mt 0).code 144 = .ok (.ifnonnull 15, 3) := by decide +kernel
theorem w0_144n {L : List Slot} {S : List Value} {H : Hp} {k : Nat} {n : Nat} {Q : MRes → Prop} : Wp Pg 0 (144, L, .null :: S, H, k, n) Q ↔ Wp Pg 0 (147, L, S, H, k, n) Q := gNonnullN d0_144
theorem w0_144 {L : List Slot} {S : List Value} {H : Hp} {k : Nat} {n : Nat} {Q : MRes → Prop} {a : Nat} : Wp Pg 0 (144, L, (.ref a) :: S, H, k, n) Q ↔ Wp Pg 0 (159, L, S, H, k, n) Q := gNonnullY d0_144 (by decide) (by decide)
theorem d0_147 : decode (Pg.mt 0).code 147 = .ok (.aload 11, 2) := by decide +kernel
theorem w0_147 {L : List Slot} {S : List Value} {H : Hp} {k : Nat} {n : Nat} {Q : MRes → Prop} {l0 l1 l2 l3 l4 l5 l6 l7 l8 l9 l10 : Slot} {v : Value} (hv : isA v = true) : Wp Pg 0 (147, l0 :: l1 :: l2 :: l3 :: l4 :: l5 :: l6 :: l7 :: l8 :: l9 :: l10 :: .val v :: L, S, H, k, n) Q ↔ Wp Pg 0 (149, l0 :: l1 :: l2 :: l3 :: l4 :: l5 :: l6 :: l7 :: l8 :: l9 :: l10 :: .val v :: L, v :: S, H, k, n) Q := gP d0_147 rfl (by show (if isA v = true then _ else _) = _; rw [if_pos hv])
theorem d0_149 : decode (Pg.mt 0).code 149 = .ok (.getfield 40, 3) := by decide +kernel
theorem w0_149 {L : List Slot} {S : List Value} {H : Hp} {k : Nat} {n : Nat} {Q : MRes → Prop} {a : Nat} : Wp Pg 0 (149, L, (.ref a) :: S, H, k, n) Q ↔ ∃ v, rdF Pg 0 40 H a = some v ∧ Wp Pg 0 (152, L, v :: S, H, k, n) Q := gGet d0_149
theorem d0_152 : decode (Pg.mt 0).code 152 = .ok (.ifnonnull 7, 3) := by decide +kernel
theorem w0_152n {L : List Slot} {S : List Value} {H : Hp} {k : Nat} {n : Nat} {Q : MRes → Prop} : Wp Pg 0 (152, L, .null :: S, H, k, n) Q ↔ Wp Pg 0 (155, L, S, H, k, n) Q := gNonnullN d0_152
theorem w0_152 {L : List Slot} {S : List Value} {H : Hp} {k : Nat} {n : Nat} {Q : MRes → Prop} {a : Nat} : Wp Pg 0 (152, L, (.ref a) :: S, H, k, n) Q ↔ Wp Pg 0 (159, L, S, H, k, n) Q := gNonnullY d0_152 (by decide) (by decide)
theorem d0_155 : decode (Pg.mt 0).code 155 = .ok (.iconst 1, 1) := by decide +kernel
theorem w0_155 {L : List Slot} {S : List Value} {H : Hp} {k : Nat} {n : Nat} {Q : MRes → Prop} : Wp Pg 0 (155, L, S, H, k, n) Q ↔ Wp Pg 0 (156, L, (.int 1) :: S, H, k, n) Q := gP d0_155 rfl rfl
theorem d0_156 : decode (Pg.mt 0).code 156 = .ok (.goto 4, 3) := by decide +kernel
theorem w0_156 {L : List Slot} {S : List Value} {H : Hp} {k : Nat} {n : Nat} {Q : MRes → Prop} : Wp Pg 0 (156, L, S, H, k, n) Q ↔ Wp Pg 0 (160, L, S, H, k, n) Q := gGoto d0_156 (by decide) (by decide)
theorem d0_159 : decode (Pg.mt 0).code 159 = .ok (.iconst 0, 1) := by decide +kernel
theorem w0_159 {L : List Slot} {S : List Value} {H : Hp} {k : Nat} {n : Nat} {Q : MRes → Prop} : Wp Pg 0 (159, L, S, H, k, n) Q ↔ Wp Pg 0 (160, L, (.int 0) :: S, H, k, n) Q := gP d0_159 rfl rfl
theorem d0_160 : decode (Pg.mt 0).code 160 = .ok (.istore 13, 2) := by decide +kernel
theorem w0_160 {L : List Slot} {S : List Value} {H : Hp} {k : Nat} {n : Nat} {Q : MRes → Prop} {l0 l1 l2 l3 l4 l5 l6 l7 l8 l9 l10 l11 l12 : Slot} {o : Slot} {x : Int32} (ho : s1 o = true) : Wp Pg 0 (160, l0 :: l1 :: l2 :: l3 :: l4 :: l5 :: l6 :: l7 :: l8 :: l9 :: l10 :: l11 :: l12 :: o :: L, (.int x) :: S, H, k, n) Q ↔ Wp Pg 0 (162, l0 :: l1 :: l2 :: l3 :: l4 :: l5 :: l6 :: l7 :: l8 :: l9 :: l10 :: l11 :: l12 :: .val (.int x) :: L, S, H, k, n) Q := gP d0_160 rfl (st1_eq (o := o) rfl ho rfl)
theorem d0_162 : decode (Pg.mt 0).code 162 = .ok (.aload 11, 2) := by decide +kernel
theorem w0_162 {L : List Slot} {S : List Value} {H : Hp} {k : Nat} {n : Nat} {Q : MRes → Prop} {l0 l1 l2 l3 l4 l5 l6 l7 l8 l9 l10 : Slot} {v : Value} (hv : isA v = true) : Wp Pg 0 (162, l0 :: l1 :: l2 :: l3 :: l4 :: l5 :: l6 :: l7 :: l8 :: l9 :: l10 :: .val v :: L, S, H, k, n) Q ↔ Wp Pg 0 (164, l0 :: l1 :: l2 :: l3 :: l4 :: l5 :: l6 :: l7 :: l8 :: l9 :: l10 :: .val v :: L, v :: S, H, k, n) Q := gP d0_162 rfl (by show (if isA v = true then _ else _) = _; rw [if_pos hv])
theorem d0_164 : decode (Pg.mt 0).code 164 = .ok (.aload 6, 2) := by decide +kernel
theorem w0_164 {L : List Slot} {S : List Value} {H : Hp} {k : Nat} {n : Nat} {Q : MRes → Prop} {l0 l1 l2 l3 l4 l5 : Slot} {v : Value} (hv : isA v = true) : Wp Pg 0 (164, l0 :: l1 :: l2 :: l3 :: l4 :: l5 :: .val v :: L, S, H, k, n) Q ↔ Wp Pg 0 (166, l0 :: l1 :: l2 :: l3 :: l4 :: l5 :: .val v :: L, v :: S, H, k, n) Q := gP d0_164 rfl (by show (if isA v = true then _ else _) = _; rw [if_pos hv])
theorem d0_166 : decode (Pg.mt 0).code 166 = .ok (.invokevirtual 18, 3) := by decide +kernel
theorem w0_166 {L : List Slot} {S : List Value} {H : Hp} {k : Nat} {n : Nat} {Q : MRes → Prop} {a0 : Value} {a : Nat}  (ho : kdOf H a = some 0) (h_a0 : cat a0 = 1) (h1 : L.length = 15) (h2 : wt S ≤ 0) (h3 : k + 0 ≤ 16) (h4 : n + 0 ≤ 128) : Wp Pg 0 (166, L, a0 :: (.ref a) :: S, H, k, n) Q ↔ Wp Pg 3 (0, [.val (.ref a), .val a0, .unset], [], H, 0, 0) fun r => Wp Pg 0 (169, L, r.1.toList ++ S, r.2, k + 0, n + 0) Q := gVirt (np := 1) (cid := 0) d0_166 rfl rfl rfl (M := 15) (W := 0) (C := 16) (Sl := 128) (c := 0) (s := 0) ⟨rfl, by decide, by decide, rfl, rfl, rfl, rfl⟩ (by show entL [(.ref a), a0] 3 = _; rw [entL, laid_c1 rfl, laid_c1 h_a0, laid_nil]; rfl) ho h1 h2 h3 h4
theorem d0_169 : decode (Pg.mt 0).code 169 = .ok (.checkcast 8, 3) := by decide +kernel
theorem w0_169 {L : List Slot} {S : List Value} {H : Hp} {k : Nat} {n : Nat} {Q : MRes → Prop} {a : Nat} : Wp Pg 0 (169, L, (.ref a) :: S, H, k, n) Q ↔ castI Pg 0 8 H a = some true ∧ Wp Pg 0 (172, L, (.ref a) :: S, H, k, n) Q := gCast d0_169
theorem w0_169n {L : List Slot} {S : List Value} {H : Hp} {k : Nat} {n : Nat} {Q : MRes → Prop} : Wp Pg 0 (169, L, .null :: S, H, k, n) Q ↔ Wp Pg 0 (172, L, .null :: S, H, k, n) Q := gCast0 d0_169
theorem d0_172 : decode (Pg.mt 0).code 172 = .ok (.astore 14, 2) := by decide +kernel
theorem w0_172 {L : List Slot} {S : List Value} {H : Hp} {k : Nat} {n : Nat} {Q : MRes → Prop} {l0 l1 l2 l3 l4 l5 l6 l7 l8 l9 l10 l11 l12 l13 : Slot} {o : Slot} {v : Value} (ho : s1 o = true) (hv : isA v = true) : Wp Pg 0 (172, l0 :: l1 :: l2 :: l3 :: l4 :: l5 :: l6 :: l7 :: l8 :: l9 :: l10 :: l11 :: l12 :: l13 :: o :: L, v :: S, H, k, n) Q ↔ Wp Pg 0 (174, l0 :: l1 :: l2 :: l3 :: l4 :: l5 :: l6 :: l7 :: l8 :: l9 :: l10 :: l11 :: l12 :: l13 :: .val v :: L, S, H, k, n) Q := gP d0_172 rfl (st1_eq (o := o) rfl ho hv)
theorem d0_174 : decode (Pg.mt 0).code 174 = .ok (.iload 13, 2) := by decide +kernel
theorem w0_174 {L : List Slot} {S : List Value} {H : Hp} {k : Nat} {n : Nat} {Q : MRes → Prop} {l0 l1 l2 l3 l4 l5 l6 l7 l8 l9 l10 l11 l12 : Slot} {x : Int32} : Wp Pg 0 (174, l0 :: l1 :: l2 :: l3 :: l4 :: l5 :: l6 :: l7 :: l8 :: l9 :: l10 :: l11 :: l12 :: .val (.int x) :: L, S, H, k, n) Q ↔ Wp Pg 0 (176, l0 :: l1 :: l2 :: l3 :: l4 :: l5 :: l6 :: l7 :: l8 :: l9 :: l10 :: l11 :: l12 :: .val (.int x) :: L, (.int x) :: S, H, k, n) Q := gP d0_174 rfl rfl
theorem d0_176 : decode (Pg.mt 0).code 176 = .ok (.ifCond .eq 43, 3) := by decide +kernel
theorem w0_176 {L : List Slot} {S : List Value} {H : Hp} {k : Nat} {n : Nat} {Q : MRes → Prop} {x : Int32} : Wp Pg 0 (176, L, (.int x) :: S, H, k, n) Q ↔ if x = 0 then Wp Pg 0 (219, L, S, H, k, n) Q else Wp Pg 0 (179, L, S, H, k, n) Q := gIf d0_176 (by decide) (by decide) (c_eq x)
theorem d0_179 : decode (Pg.mt 0).code 179 = .ok (.aload 14, 2) := by decide +kernel
theorem w0_179 {L : List Slot} {S : List Value} {H : Hp} {k : Nat} {n : Nat} {Q : MRes → Prop} {l0 l1 l2 l3 l4 l5 l6 l7 l8 l9 l10 l11 l12 l13 : Slot} {v : Value} (hv : isA v = true) : Wp Pg 0 (179, l0 :: l1 :: l2 :: l3 :: l4 :: l5 :: l6 :: l7 :: l8 :: l9 :: l10 :: l11 :: l12 :: l13 :: .val v :: L, S, H, k, n) Q ↔ Wp Pg 0 (181, l0 :: l1 :: l2 :: l3 :: l4 :: l5 :: l6 :: l7 :: l8 :: l9 :: l10 :: l11 :: l12 :: l13 :: .val v :: L, v :: S, H, k, n) Q := gP d0_179 rfl (by show (if isA v = true then _ else _) = _; rw [if_pos hv])
theorem d0_181 : decode (Pg.mt 0).code 181 = .ok (.aload 10, 2) := by decide +kernel
theorem w0_181 {L : List Slot} {S : List Value} {H : Hp} {k : Nat} {n : Nat} {Q : MRes → Prop} {l0 l1 l2 l3 l4 l5 l6 l7 l8 l9 : Slot} {v : Value} (hv : isA v = true) : Wp Pg 0 (181, l0 :: l1 :: l2 :: l3 :: l4 :: l5 :: l6 :: l7 :: l8 :: l9 :: .val v :: L, S, H, k, n) Q ↔ Wp Pg 0 (183, l0 :: l1 :: l2 :: l3 :: l4 :: l5 :: l6 :: l7 :: l8 :: l9 :: .val v :: L, v :: S, H, k, n) Q := gP d0_181 rfl (by show (if isA v = true then _ else _) = _; rw [if_pos hv])
theorem d0_183 : decode (Pg.mt 0).code 183 = .ok (.if_acmp .ne 36, 3) := by decide +kernel
theorem w0_183 {L : List Slot} {S : List Value} {H : Hp} {k : Nat} {n : Nat} {Q : MRes → Prop} {v u : Value} (hv : isA v = true) (hu : isA u = true) : Wp Pg 0 (183, L, u :: v :: S, H, k, n) Q ↔ if v ≠ u then Wp Pg 0 (219, L, S, H, k, n) Q else Wp Pg 0 (186, L, S, H, k, n) Q := gAcmp hv hu d0_183 (by decide) (by decide) rfl
theorem d0_186 : decode (Pg.mt 0).code 186 = .ok (.aload 11, 2) := by decide +kernel
theorem w0_186 {L : List Slot} {S : List Value} {H : Hp} {k : Nat} {n : Nat} {Q : MRes → Prop} {l0 l1 l2 l3 l4 l5 l6 l7 l8 l9 l10 : Slot} {v : Value} (hv : isA v = true) : Wp Pg 0 (186, l0 :: l1 :: l2 :: l3 :: l4 :: l5 :: l6 :: l7 :: l8 :: l9 :: l10 :: .val v :: L, S, H, k, n) Q ↔ Wp Pg 0 (188, l0 :: l1 :: l2 :: l3 :: l4 :: l5 :: l6 :: l7 :: l8 :: l9 :: l10 :: .val v :: L, v :: S, H, k, n) Q := gP d0_186 rfl (by show (if isA v = true then _ else _) = _; rw [if_pos hv])
theorem d0_188 : decode (Pg.mt 0).code 188 = .ok (.invokevirtual 22, 3) := by decide +kernel
theorem w0_188 {L : List Slot} {S : List Value} {H : Hp} {k : Nat} {n : Nat} {Q : MRes → Prop} {a : Nat}  (ho : kdOf H a = some 0) (h1 : L.length = 15) (h2 : wt S ≤ 0) (h3 : k + 0 ≤ 16) (h4 : n + 0 ≤ 128) : Wp Pg 0 (188, L, (.ref a) :: S, H, k, n) Q ↔ Wp Pg 4 (0, [.val (.ref a)], [], H, 0, 0) fun r => Wp Pg 0 (191, L, r.1.toList ++ S, r.2, k + 0, n + 0) Q := gVirt (np := 0) (cid := 0) d0_188 rfl rfl rfl (M := 15) (W := 0) (C := 16) (Sl := 128) (c := 0) (s := 0) ⟨rfl, by decide, by decide, rfl, rfl, rfl, rfl⟩ (by show entL [(.ref a)] 1 = _; rw [entL, laid_c1 rfl, laid_nil]; rfl) ho h1 h2 h3 h4
theorem d0_191 : decode (Pg.mt 0).code 191 = .ok (.aload 6, 2) := by decide +kernel
theorem w0_191 {L : List Slot} {S : List Value} {H : Hp} {k : Nat} {n : Nat} {Q : MRes → Prop} {l0 l1 l2 l3 l4 l5 : Slot} {v : Value} (hv : isA v = true) : Wp Pg 0 (191, l0 :: l1 :: l2 :: l3 :: l4 :: l5 :: .val v :: L, S, H, k, n) Q ↔ Wp Pg 0 (193, l0 :: l1 :: l2 :: l3 :: l4 :: l5 :: .val v :: L, v :: S, H, k, n) Q := gP d0_191 rfl (by show (if isA v = true then _ else _) = _; rw [if_pos hv])
theorem d0_193 : decode (Pg.mt 0).code 193 = .ok (.if_acmp .ne 26, 3) := by decide +kernel
theorem w0_193 {L : List Slot} {S : List Value} {H : Hp} {k : Nat} {n : Nat} {Q : MRes → Prop} {v u : Value} (hv : isA v = true) (hu : isA u = true) : Wp Pg 0 (193, L, u :: v :: S, H, k, n) Q ↔ if v ≠ u then Wp Pg 0 (219, L, S, H, k, n) Q else Wp Pg 0 (196, L, S, H, k, n) Q := gAcmp hv hu d0_193 (by decide) (by decide) rfl
theorem d0_196 : decode (Pg.mt 0).code 196 = .ok (.aload 11, 2) := by decide +kernel
theorem w0_196 {L : List Slot} {S : List Value} {H : Hp} {k : Nat} {n : Nat} {Q : MRes → Prop} {l0 l1 l2 l3 l4 l5 l6 l7 l8 l9 l10 : Slot} {v : Value} (hv : isA v = true) : Wp Pg 0 (196, l0 :: l1 :: l2 :: l3 :: l4 :: l5 :: l6 :: l7 :: l8 :: l9 :: l10 :: .val v :: L, S, H, k, n) Q ↔ Wp Pg 0 (198, l0 :: l1 :: l2 :: l3 :: l4 :: l5 :: l6 :: l7 :: l8 :: l9 :: l10 :: .val v :: L, v :: S, H, k, n) Q := gP d0_196 rfl (by show (if isA v = true then _ else _) = _; rw [if_pos hv])
theorem d0_198 : decode (Pg.mt 0).code 198 = .ok (.invokevirtual 26, 3) := by decide +kernel
theorem w0_198 {L : List Slot} {S : List Value} {H : Hp} {k : Nat} {n : Nat} {Q : MRes → Prop} {a : Nat}  (ho : kdOf H a = some 0) (h1 : L.length = 15) (h2 : wt S ≤ 0) (h3 : k + 0 ≤ 16) (h4 : n + 0 ≤ 128) : Wp Pg 0 (198, L, (.ref a) :: S, H, k, n) Q ↔ Wp Pg 5 (0, [.val (.ref a)], [], H, 0, 0) fun r => Wp Pg 0 (201, L, r.1.toList ++ S, r.2, k + 0, n + 0) Q := gVirt (np := 0) (cid := 0) d0_198 rfl rfl rfl (M := 15) (W := 0) (C := 16) (Sl := 128) (c := 0) (s := 0) ⟨rfl, by decide, by decide, rfl, rfl, rfl, rfl⟩ (by show entL [(.ref a)] 1 = _; rw [entL, laid_c1 rfl, laid_nil]; rfl) ho h1 h2 h3 h4
theorem d0_201 : decode (Pg.mt 0).code 201 = .ok (.aload 5, 2) := by decide +kernel
theorem w0_201 {L : List Slot} {S : List Value} {H : Hp} {k : Nat} {n : Nat} {Q : MRes → Prop} {l0 l1 l2 l3 l4 : Slot} {v : Value} (hv : isA v = true) : Wp Pg 0 (201, l0 :: l1 :: l2 :: l3 :: l4 :: .val v :: L, S, H, k, n) Q ↔ Wp Pg 0 (203, l0 :: l1 :: l2 :: l3 :: l4 :: .val v :: L, v :: S, H, k, n) Q := gP d0_201 rfl (by show (if isA v = true then _ else _) = _; rw [if_pos hv])
theorem d0_203 : decode (Pg.mt 0).code 203 = .ok (.if_acmp .ne 16, 3) := by decide +kernel
theorem w0_203 {L : List Slot} {S : List Value} {H : Hp} {k : Nat} {n : Nat} {Q : MRes → Prop} {v u : Value} (hv : isA v = true) (hu : isA u = true) : Wp Pg 0 (203, L, u :: v :: S, H, k, n) Q ↔ if v ≠ u then Wp Pg 0 (219, L, S, H, k, n) Q else Wp Pg 0 (206, L, S, H, k, n) Q := gAcmp hv hu d0_203 (by decide) (by decide) rfl
theorem d0_206 : decode (Pg.mt 0).code 206 = .ok (.aload 11, 2) := by decide +kernel
theorem w0_206 {L : List Slot} {S : List Value} {H : Hp} {k : Nat} {n : Nat} {Q : MRes → Prop} {l0 l1 l2 l3 l4 l5 l6 l7 l8 l9 l10 : Slot} {v : Value} (hv : isA v = true) : Wp Pg 0 (206, l0 :: l1 :: l2 :: l3 :: l4 :: l5 :: l6 :: l7 :: l8 :: l9 :: l10 :: .val v :: L, S, H, k, n) Q ↔ Wp Pg 0 (208, l0 :: l1 :: l2 :: l3 :: l4 :: l5 :: l6 :: l7 :: l8 :: l9 :: l10 :: .val v :: L, v :: S, H, k, n) Q := gP d0_206 rfl (by show (if isA v = true then _ else _) = _; rw [if_pos hv])
theorem d0_208 : decode (Pg.mt 0).code 208 = .ok (.getfield 29, 3) := by decide +kernel
theorem w0_208 {L : List Slot} {S : List Value} {H : Hp} {k : Nat} {n : Nat} {Q : MRes → Prop} {a : Nat} : Wp Pg 0 (208, L, (.ref a) :: S, H, k, n) Q ↔ ∃ v, rdF Pg 0 29 H a = some v ∧ Wp Pg 0 (211, L, v :: S, H, k, n) Q := gGet d0_208
theorem d0_211 : decode (Pg.mt 0).code 211 = .ok (.iload_n 0, 1) := by decide +kernel
theorem w0_211 {L : List Slot} {S : List Value} {H : Hp} {k : Nat} {n : Nat} {Q : MRes → Prop}  {x : Int32} : Wp Pg 0 (211, .val (.int x) :: L, S, H, k, n) Q ↔ Wp Pg 0 (212, .val (.int x) :: L, (.int x) :: S, H, k, n) Q := gP d0_211 rfl rfl
theorem d0_212 : decode (Pg.mt 0).code 212 = .ok (.if_icmp .ne 7, 3) := by decide +kernel
theorem w0_212 {L : List Slot} {S : List Value} {H : Hp} {k : Nat} {n : Nat} {Q : MRes → Prop} {x y : Int32} : Wp Pg 0 (212, L, (.int y) :: (.int x) :: S, H, k, n) Q ↔ if ¬ x = y then Wp Pg 0 (219, L, S, H, k, n) Q else Wp Pg 0 (215, L, S, H, k, n) Q := gIcmp d0_212 (by decide) (by decide) (i_ne x y)
theorem d0_215 : decode (Pg.mt 0).code 215 = .ok (.iconst 1, 1) := by decide +kernel
theorem w0_215 {L : List Slot} {S : List Value} {H : Hp} {k : Nat} {n : Nat} {Q : MRes → Prop} : Wp Pg 0 (215, L, S, H, k, n) Q ↔ Wp Pg 0 (216, L, (.int 1) :: S, H, k, n) Q := gP d0_215 rfl rfl
theorem d0_216 : decode (Pg.mt 0).code 216 = .ok (.goto 4, 3) := by decide +kernel
theorem w0_216 {L : List Slot} {S : List Value} {H : Hp} {k : Nat} {n : Nat} {Q : MRes → Prop} : Wp Pg 0 (216, L, S, H, k, n) Q ↔ Wp Pg 0 (220, L, S, H, k, n) Q := gGoto d0_216 (by decide) (by decide)
theorem d0_219 : decode (Pg.mt 0).code 219 = .ok (.iconst 0, 1) := by decide +kernel
theorem w0_219 {L : List Slot} {S : List Value} {H : Hp} {k : Nat} {n : Nat} {Q : MRes → Prop} : Wp Pg 0 (219, L, S, H, k, n) Q ↔ Wp Pg 0 (220, L, (.int 0) :: S, H, k, n) Q := gP d0_219 rfl rfl
theorem d0_220 : decode (Pg.mt 0).code 220 = .ok (.ireturn, 1) := by decide +kernel
theorem w0_220 {L : List Slot} {S : List Value} {H : Hp} {k : Nat} {n : Nat} {Q : MRes → Prop} {x : Int32} (h1 : k ≤ 16) (h2 : n ≤ 128) : Wp Pg 0 (220, L, (.int x) :: S, H, k, n) Q ↔ Q (some (.int (x &&& 1)), H) := gRet d0_220 rfl rfl rfl rfl h1 h2
theorem d1_0 : decode (Pg.mt 1).code 0 = .ok (.iload_n 0, 1) := by decide +kernel
theorem w1_0 {L : List Slot} {S : List Value} {H : Hp} {k : Nat} {n : Nat} {Q : MRes → Prop}  {x : Int32} : Wp Pg 1 (0, .val (.int x) :: L, S, H, k, n) Q ↔ Wp Pg 1 (1, .val (.int x) :: L, (.int x) :: S, H, k, n) Q := gP d1_0 rfl rfl
theorem d1_1 : decode (Pg.mt 1).code 1 = .ok (.bipush (-128), 2) := by decide +kernel
theorem w1_1 {L : List Slot} {S : List Value} {H : Hp} {k : Nat} {n : Nat} {Q : MRes → Prop} : Wp Pg 1 (1, L, S, H, k, n) Q ↔ Wp Pg 1 (3, L, (.int (-128)) :: S, H, k, n) Q := gP d1_1 rfl rfl
theorem d1_3 : decode (Pg.mt 1).code 3 = .ok (.if_icmp .lt 20, 3) := by decide +kernel
theorem w1_3 {L : List Slot} {S : List Value} {H : Hp} {k : Nat} {n : Nat} {Q : MRes → Prop} {x y : Int32} : Wp Pg 1 (3, L, (.int y) :: (.int x) :: S, H, k, n) Q ↔ if x < y then Wp Pg 1 (23, L, S, H, k, n) Q else Wp Pg 1 (6, L, S, H, k, n) Q := gIcmp d1_3 (by decide) (by decide) (i_lt x y)
theorem d1_6 : decode (Pg.mt 1).code 6 = .ok (.iload_n 0, 1) := by decide +kernel
theorem w1_6 {L : List Slot} {S : List Value} {H : Hp} {k : Nat} {n : Nat} {Q : MRes → Prop}  {x : Int32} : Wp Pg 1 (6, .val (.int x) :: L, S, H, k, n) Q ↔ Wp Pg 1 (7, .val (.int x) :: L, (.int x) :: S, H, k, n) Q := gP d1_6 rfl rfl
theorem d1_7 : decode (Pg.mt 1).code 7 = .ok (.getstatic 191, 3) := by decide +kernel
theorem w1_7 {L : List Slot} {S : List Value} {H : Hp} {k : Nat} {n : Nat} {Q : MRes → Prop} : Wp Pg 1 (7, L, S, H, k, n) Q ↔ Wp Pg 1 (10, L, (.int 127) :: S, H, k, n) Q := gH d1_7 rfl rfl
theorem d1_10 : decode (Pg.mt 1).code 10 = .ok (.if_icmp .gt 13, 3) := by decide +kernel
theorem w1_10 {L : List Slot} {S : List Value} {H : Hp} {k : Nat} {n : Nat} {Q : MRes → Prop} {x y : Int32} : Wp Pg 1 (10, L, (.int y) :: (.int x) :: S, H, k, n) Q ↔ if y < x then Wp Pg 1 (23, L, S, H, k, n) Q else Wp Pg 1 (13, L, S, H, k, n) Q := gIcmp d1_10 (by decide) (by decide) (i_gt x y)
theorem d1_13 : decode (Pg.mt 1).code 13 = .ok (.getstatic 195, 3) := by decide +kernel
theorem w1_13 {L : List Slot} {S : List Value} {H : Hp} {k : Nat} {n : Nat} {Q : MRes → Prop} : Wp Pg 1 (13, L, S, H, k, n) Q ↔ Wp Pg 1 (16, L, (.ref 256) :: S, H, k, n) Q := gH d1_13 rfl rfl
theorem d1_16 : decode (Pg.mt 1).code 16 = .ok (.iload_n 0, 1) := by decide +kernel
theorem w1_16 {L : List Slot} {S : List Value} {H : Hp} {k : Nat} {n : Nat} {Q : MRes → Prop}  {x : Int32} : Wp Pg 1 (16, .val (.int x) :: L, S, H, k, n) Q ↔ Wp Pg 1 (17, .val (.int x) :: L, (.int x) :: S, H, k, n) Q := gP d1_16 rfl rfl
theorem d1_17 : decode (Pg.mt 1).code 17 = .ok (.sipush 128, 3) := by decide +kernel
theorem w1_17 {L : List Slot} {S : List Value} {H : Hp} {k : Nat} {n : Nat} {Q : MRes → Prop} : Wp Pg 1 (17, L, S, H, k, n) Q ↔ Wp Pg 1 (20, L, (.int 128) :: S, H, k, n) Q := gP d1_17 rfl rfl
theorem d1_20 : decode (Pg.mt 1).code 20 = .ok (.iadd, 1) := by decide +kernel
theorem w1_20 {L : List Slot} {S : List Value} {H : Hp} {k : Nat} {n : Nat} {Q : MRes → Prop} {x y : Int32} : Wp Pg 1 (20, L, (.int y) :: (.int x) :: S, H, k, n) Q ↔ Wp Pg 1 (21, L, (.int (x + y)) :: S, H, k, n) Q := gP d1_20 rfl rfl
theorem d1_21 : decode (Pg.mt 1).code 21 = .ok (.aaload, 1) := by decide +kernel
theorem w1_21 {L : List Slot} {S : List Value} {H : Hp} {k : Nat} {n : Nat} {Q : MRes → Prop} {a : Nat} {x : Int32} : Wp Pg 1 (21, L, (.int x) :: (.ref a) :: S, H, k, n) Q ↔ ∃ v, ldA .aaload H a x = some v ∧ Wp Pg 1 (22, L, v :: S, H, k, n) Q := gLdA (by simp) d1_21
theorem d1_22 : decode (Pg.mt 1).code 22 = .ok (.areturn, 1) := by decide +kernel
theorem w1_22 {L : List Slot} {S : List Value} {H : Hp} {k : Nat} {n : Nat} {Q : MRes → Prop} {a : Nat} (h1 : k ≤ 1) (h2 : n ≤ 1) : Wp Pg 1 (22, L, (.ref a) :: S, H, k, n) Q ↔ Q (some (.ref a), H) := gRet d1_22 rfl rfl rfl rfl h1 h2
theorem w1_22n {L : List Slot} {S : List Value} {H : Hp} {k : Nat} {n : Nat} {Q : MRes → Prop} (h1 : k ≤ 1) (h2 : n ≤ 1) : Wp Pg 1 (22, L, .null :: S, H, k, n) Q ↔ Q (some .null, H) := gRet d1_22 rfl rfl rfl rfl h1 h2
theorem d1_23 : decode (Pg.mt 1).code 23 = .ok (.new 1, 3) := by decide +kernel
theorem w1_23 {L : List Slot} {S : List Value} {H : Hp} {k : Nat} {n : Nat} {Q : MRes → Prop} (h1 : k + 1 ≤ 1) (h2 : n + 1 ≤ 1) : Wp Pg 1 (23, L, S, H, k, n) Q ↔ Wp Pg 1 (26, L, (.ref H.length) :: S, H ++ [(.inr 1, [.int 0])], k + 1, n + 1) Q := gNew d1_23 rfl rfl rfl rfl rfl h1 h2
theorem d1_26 : decode (Pg.mt 1).code 26 = .ok (.dup, 1) := by decide +kernel
theorem w1_26 {L : List Slot} {S : List Value} {H : Hp} {k : Nat} {n : Nat} {Q : MRes → Prop} {v : Value} (hv : cat v = 1) : Wp Pg 1 (26, L, v :: S, H, k, n) Q ↔ Wp Pg 1 (27, L, v :: v :: S, H, k, n) Q := gP d1_26 rfl (by simp only [plainI, fdup, if_pos hv, keepL])
theorem d1_27 : decode (Pg.mt 1).code 27 = .ok (.iload_n 0, 1) := by decide +kernel
theorem w1_27 {L : List Slot} {S : List Value} {H : Hp} {k : Nat} {n : Nat} {Q : MRes → Prop}  {x : Int32} : Wp Pg 1 (27, .val (.int x) :: L, S, H, k, n) Q ↔ Wp Pg 1 (28, .val (.int x) :: L, (.int x) :: S, H, k, n) Q := gP d1_27 rfl rfl
theorem d1_28 : decode (Pg.mt 1).code 28 = .ok (.invokespecial 199, 3) := by decide +kernel
theorem w1_28 {L : List Slot} {S : List Value} {H : Hp} {k : Nat} {n : Nat} {Q : MRes → Prop} {a0 : Int32} {a : Nat}  (h1 : L.length = 1) (h2 : wt S ≤ 1) (h3 : k + 0 ≤ 1) (h4 : n + 0 ≤ 1) : Wp Pg 1 (28, L, (.int a0) :: (.ref a) :: S, H, k, n) Q ↔ Wp Pg 6 (0, [.val (.ref a), .val (.int a0)], [], H, 0, 0) fun r => Wp Pg 1 (31, L, r.1.toList ++ S, r.2, k + 0, n + 0) Q := gCall d1_28 rfl rfl (M := 1) (W := 1) (C := 1) (Sl := 1) (c := 0) (s := 0) ⟨rfl, by decide, by decide, rfl, rfl, rfl, rfl⟩ (by show entL [(.ref a), (.int a0)] 2 = _; rw [entL, laid_c1 rfl, laid_c1 rfl, laid_nil]; rfl) h1 h2 h3 h4
theorem d1_31 : decode (Pg.mt 1).code 31 = .ok (.areturn, 1) := by decide +kernel
theorem w1_31 {L : List Slot} {S : List Value} {H : Hp} {k : Nat} {n : Nat} {Q : MRes → Prop} {a : Nat} (h1 : k ≤ 1) (h2 : n ≤ 1) : Wp Pg 1 (31, L, (.ref a) :: S, H, k, n) Q ↔ Q (some (.ref a), H) := gRet d1_31 rfl rfl rfl rfl h1 h2
theorem w1_31n {L : List Slot} {S : List Value} {H : Hp} {k : Nat} {n : Nat} {Q : MRes → Prop} (h1 : k ≤ 1) (h2 : n ≤ 1) : Wp Pg 1 (31, L, .null :: S, H, k, n) Q ↔ Q (some .null, H) := gRet d1_31 rfl rfl rfl rfl h1 h2
theorem d2_0 : decode (Pg.mt 2).code 0 = .ok (.aload_n 0, 1) := by decide +kernel
theorem w2_0 {L : List Slot} {S : List Value} {H : Hp} {k : Nat} {n : Nat} {Q : MRes → Prop}  {v : Value} (hv : isA v = true) : Wp Pg 2 (0, .val v :: L, S, H, k, n) Q ↔ Wp Pg 2 (1, .val v :: L, v :: S, H, k, n) Q := gP d2_0 rfl (by show (if isA v = true then _ else _) = _; rw [if_pos hv])
theorem d2_1 : decode (Pg.mt 2).code 1 = .ok (.invokespecial 1, 3) := by decide +kernel
theorem w2_1 {L : List Slot} {S : List Value} {H : Hp} {k : Nat} {n : Nat} {Q : MRes → Prop} {a : Nat} (h1 : L.length = 4) (h2 : wt S + 12 ≤ 12) : Wp Pg 2 (1, L, (.ref a) :: S, H, k, n) Q ↔ Wp Pg 2 (4, L, S, H, k, n) Q := gObj d2_1 rfl rfl rfl rfl (by decide) h1 h2
theorem d2_4 : decode (Pg.mt 2).code 4 = .ok (.aload_n 0, 1) := by decide +kernel
theorem w2_4 {L : List Slot} {S : List Value} {H : Hp} {k : Nat} {n : Nat} {Q : MRes → Prop}  {v : Value} (hv : isA v = true) : Wp Pg 2 (4, .val v :: L, S, H, k, n) Q ↔ Wp Pg 2 (5, .val v :: L, v :: S, H, k, n) Q := gP d2_4 rfl (by show (if isA v = true then _ else _) = _; rw [if_pos hv])
theorem d2_5 : decode (Pg.mt 2).code 5 = .ok (.iload_n 1, 1) := by decide +kernel
theorem w2_5 {L : List Slot} {S : List Value} {H : Hp} {k : Nat} {n : Nat} {Q : MRes → Prop} {l0 : Slot} {x : Int32} : Wp Pg 2 (5, l0 :: .val (.int x) :: L, S, H, k, n) Q ↔ Wp Pg 2 (6, l0 :: .val (.int x) :: L, (.int x) :: S, H, k, n) Q := gP d2_5 rfl rfl
theorem d2_6 : decode (Pg.mt 2).code 6 = .ok (.putfield 7, 3) := by decide +kernel
theorem w2_6 {L : List Slot} {S : List Value} {H : Hp} {k : Nat} {n : Nat} {Q : MRes → Prop} {a : Nat} {v : Value} : Wp Pg 2 (6, L, v :: (.ref a) :: S, H, k, n) Q ↔ ∃ H', wrF Pg 2 7 H a v = some H' ∧ Wp Pg 2 (9, L, S, H', k, n) Q := gPut d2_6
theorem d2_9 : decode (Pg.mt 2).code 9 = .ok (.aload_n 0, 1) := by decide +kernel
theorem w2_9 {L : List Slot} {S : List Value} {H : Hp} {k : Nat} {n : Nat} {Q : MRes → Prop}  {v : Value} (hv : isA v = true) : Wp Pg 2 (9, .val v :: L, S, H, k, n) Q ↔ Wp Pg 2 (10, .val v :: L, v :: S, H, k, n) Q := gP d2_9 rfl (by show (if isA v = true then _ else _) = _; rw [if_pos hv])
theorem d2_10 : decode (Pg.mt 2).code 10 = .ok (.aload_n 2, 1) := by decide +kernel
theorem w2_10 {L : List Slot} {S : List Value} {H : Hp} {k : Nat} {n : Nat} {Q : MRes → Prop} {l0 l1 : Slot} {v : Value} (hv : isA v = true) : Wp Pg 2 (10, l0 :: l1 :: .val v :: L, S, H, k, n) Q ↔ Wp Pg 2 (11, l0 :: l1 :: .val v :: L, v :: S, H, k, n) Q := gP d2_10 rfl (by show (if isA v = true then _ else _) = _; rw [if_pos hv])
theorem d2_11 : decode (Pg.mt 2).code 11 = .ok (.putfield 13, 3) := by decide +kernel
theorem w2_11 {L : List Slot} {S : List Value} {H : Hp} {k : Nat} {n : Nat} {Q : MRes → Prop} {a : Nat} {v : Value} : Wp Pg 2 (11, L, v :: (.ref a) :: S, H, k, n) Q ↔ ∃ H', wrF Pg 2 13 H a v = some H' ∧ Wp Pg 2 (14, L, S, H', k, n) Q := gPut d2_11
theorem d2_14 : decode (Pg.mt 2).code 14 = .ok (.aload_n 0, 1) := by decide +kernel
theorem w2_14 {L : List Slot} {S : List Value} {H : Hp} {k : Nat} {n : Nat} {Q : MRes → Prop}  {v : Value} (hv : isA v = true) : Wp Pg 2 (14, .val v :: L, S, H, k, n) Q ↔ Wp Pg 2 (15, .val v :: L, v :: S, H, k, n) Q := gP d2_14 rfl (by show (if isA v = true then _ else _) = _; rw [if_pos hv])
theorem d2_15 : decode (Pg.mt 2).code 15 = .ok (.aload_n 3, 1) := by decide +kernel
theorem w2_15 {L : List Slot} {S : List Value} {H : Hp} {k : Nat} {n : Nat} {Q : MRes → Prop} {l0 l1 l2 : Slot} {v : Value} (hv : isA v = true) : Wp Pg 2 (15, l0 :: l1 :: l2 :: .val v :: L, S, H, k, n) Q ↔ Wp Pg 2 (16, l0 :: l1 :: l2 :: .val v :: L, v :: S, H, k, n) Q := gP d2_15 rfl (by show (if isA v = true then _ else _) = _; rw [if_pos hv])
theorem d2_16 : decode (Pg.mt 2).code 16 = .ok (.putfield 17, 3) := by decide +kernel
theorem w2_16 {L : List Slot} {S : List Value} {H : Hp} {k : Nat} {n : Nat} {Q : MRes → Prop} {a : Nat} {v : Value} : Wp Pg 2 (16, L, v :: (.ref a) :: S, H, k, n) Q ↔ ∃ H', wrF Pg 2 17 H a v = some H' ∧ Wp Pg 2 (19, L, S, H', k, n) Q := gPut d2_16
theorem d2_19 : decode (Pg.mt 2).code 19 = .ok (.return_, 1) := by decide +kernel
theorem w2_19 {L : List Slot} {H : Hp} {k : Nat} {n : Nat} {Q : MRes → Prop} (h1 : k ≤ 0) (h2 : n ≤ 0) : Wp Pg 2 (19, L, [], H, k, n) Q ↔ Q (none, H) := gRet d2_19 rfl rfl rfl rfl h1 h2
theorem d3_0 : decode (Pg.mt 3).code 0 = .ok (.aload_n 0, 1) := by decide +kernel
theorem w3_0 {L : List Slot} {S : List Value} {H : Hp} {k : Nat} {n : Nat} {Q : MRes → Prop}  {v : Value} (hv : isA v = true) : Wp Pg 3 (0, .val v :: L, S, H, k, n) Q ↔ Wp Pg 3 (1, .val v :: L, v :: S, H, k, n) Q := gP d3_0 rfl (by show (if isA v = true then _ else _) = _; rw [if_pos hv])
theorem d3_1 : decode (Pg.mt 3).code 1 = .ok (.getfield 17, 3) := by decide +kernel
theorem w3_1 {L : List Slot} {S : List Value} {H : Hp} {k : Nat} {n : Nat} {Q : MRes → Prop} {a : Nat} : Wp Pg 3 (1, L, (.ref a) :: S, H, k, n) Q ↔ ∃ v, rdF Pg 3 17 H a = some v ∧ Wp Pg 3 (4, L, v :: S, H, k, n) Q := gGet d3_1
theorem d3_4 : decode (Pg.mt 3).code 4 = .ok (.astore_n 2, 1) := by decide +kernel
theorem w3_4 {L : List Slot} {S : List Value} {H : Hp} {k : Nat} {n : Nat} {Q : MRes → Prop} {l0 l1 : Slot} {o : Slot} {v : Value} (ho : s1 o = true) (hv : isA v = true) : Wp Pg 3 (4, l0 :: l1 :: o :: L, v :: S, H, k, n) Q ↔ Wp Pg 3 (5, l0 :: l1 :: .val v :: L, S, H, k, n) Q := gP d3_4 rfl (st1_eq (o := o) rfl ho hv)
theorem d3_5 : decode (Pg.mt 3).code 5 = .ok (.aload_n 2, 1) := by decide +kernel
theorem w3_5 {L : List Slot} {S : List Value} {H : Hp} {k : Nat} {n : Nat} {Q : MRes → Prop} {l0 l1 : Slot} {v : Value} (hv : isA v = true) : Wp Pg 3 (5, l0 :: l1 :: .val v :: L, S, H, k, n) Q ↔ Wp Pg 3 (6, l0 :: l1 :: .val v :: L, v :: S, H, k, n) Q := gP d3_5 rfl (by show (if isA v = true then _ else _) = _; rw [if_pos hv])
theorem d3_6 : decode (Pg.mt 3).code 6 = .ok (.aload_n 1, 1) := by decide +kernel
theorem w3_6 {L : List Slot} {S : List Value} {H : Hp} {k : Nat} {n : Nat} {Q : MRes → Prop} {l0 : Slot} {v : Value} (hv : isA v = true) : Wp Pg 3 (6, l0 :: .val v :: L, S, H, k, n) Q ↔ Wp Pg 3 (7, l0 :: .val v :: L, v :: S, H, k, n) Q := gP d3_6 rfl (by show (if isA v = true then _ else _) = _; rw [if_pos hv])
theorem d3_7 : decode (Pg.mt 3).code 7 = .ok (.if_acmp .eq 8, 3) := by decide +kernel
theorem w3_7 {L : List Slot} {S : List Value} {H : Hp} {k : Nat} {n : Nat} {Q : MRes → Prop} {v u : Value} (hv : isA v = true) (hu : isA u = true) : Wp Pg 3 (7, L, u :: v :: S, H, k, n) Q ↔ if v = u then Wp Pg 3 (15, L, S, H, k, n) Q else Wp Pg 3 (10, L, S, H, k, n) Q := gAcmp hv hu d3_7 (by decide) (by decide) rfl
theorem d3_10 : decode (Pg.mt 3).code 10 = .ok (.aload_n 0, 1) := by decide +kernel
theorem w3_10 {L : List Slot} {S : List Value} {H : Hp} {k : Nat} {n : Nat} {Q : MRes → Prop}  {v : Value} (hv : isA v = true) : Wp Pg 3 (10, .val v :: L, S, H, k, n) Q ↔ Wp Pg 3 (11, .val v :: L, v :: S, H, k, n) Q := gP d3_10 rfl (by show (if isA v = true then _ else _) = _; rw [if_pos hv])
theorem d3_11 : decode (Pg.mt 3).code 11 = .ok (.aload_n 1, 1) := by decide +kernel
theorem w3_11 {L : List Slot} {S : List Value} {H : Hp} {k : Nat} {n : Nat} {Q : MRes → Prop} {l0 : Slot} {v : Value} (hv : isA v = true) : Wp Pg 3 (11, l0 :: .val v :: L, S, H, k, n) Q ↔ Wp Pg 3 (12, l0 :: .val v :: L, v :: S, H, k, n) Q := gP d3_11 rfl (by show (if isA v = true then _ else _) = _; rw [if_pos hv])
theorem d3_12 : decode (Pg.mt 3).code 12 = .ok (.putfield 17, 3) := by decide +kernel
theorem w3_12 {L : List Slot} {S : List Value} {H : Hp} {k : Nat} {n : Nat} {Q : MRes → Prop} {a : Nat} {v : Value} : Wp Pg 3 (12, L, v :: (.ref a) :: S, H, k, n) Q ↔ ∃ H', wrF Pg 3 17 H a v = some H' ∧ Wp Pg 3 (15, L, S, H', k, n) Q := gPut d3_12
theorem d3_15 : decode (Pg.mt 3).code 15 = .ok (.aload_n 2, 1) := by decide +kernel
theorem w3_15 {L : List Slot} {S : List Value} {H : Hp} {k : Nat} {n : Nat} {Q : MRes → Prop} {l0 l1 : Slot} {v : Value} (hv : isA v = true) : Wp Pg 3 (15, l0 :: l1 :: .val v :: L, S, H, k, n) Q ↔ Wp Pg 3 (16, l0 :: l1 :: .val v :: L, v :: S, H, k, n) Q := gP d3_15 rfl (by show (if isA v = true then _ else _) = _; rw [if_pos hv])
theorem d3_16 : decode (Pg.mt 3).code 16 = .ok (.areturn, 1) := by decide +kernel
theorem w3_16 {L : List Slot} {S : List Value} {H : Hp} {k : Nat} {n : Nat} {Q : MRes → Prop} {a : Nat} (h1 : k ≤ 0) (h2 : n ≤ 0) : Wp Pg 3 (16, L, (.ref a) :: S, H, k, n) Q ↔ Q (some (.ref a), H) := gRet d3_16 rfl rfl rfl rfl h1 h2
theorem w3_16n {L : List Slot} {S : List Value} {H : Hp} {k : Nat} {n : Nat} {Q : MRes → Prop} (h1 : k ≤ 0) (h2 : n ≤ 0) : Wp Pg 3 (16, L, .null :: S, H, k, n) Q ↔ Q (some .null, H) := gRet d3_16 rfl rfl rfl rfl h1 h2
theorem d4_0 : decode (Pg.mt 4).code 0 = .ok (.aload_n 0, 1) := by decide +kernel
theorem w4_0 {L : List Slot} {S : List Value} {H : Hp} {k : Nat} {n : Nat} {Q : MRes → Prop}  {v : Value} (hv : isA v = true) : Wp Pg 4 (0, .val v :: L, S, H, k, n) Q ↔ Wp Pg 4 (1, .val v :: L, v :: S, H, k, n) Q := gP d4_0 rfl (by show (if isA v = true then _ else _) = _; rw [if_pos hv])
theorem d4_1 : decode (Pg.mt 4).code 1 = .ok (.getfield 17, 3) := by decide +kernel
theorem w4_1 {L : List Slot} {S : List Value} {H : Hp} {k : Nat} {n : Nat} {Q : MRes → Prop} {a : Nat} : Wp Pg 4 (1, L, (.ref a) :: S, H, k, n) Q ↔ ∃ v, rdF Pg 4 17 H a = some v ∧ Wp Pg 4 (4, L, v :: S, H, k, n) Q := gGet d4_1
theorem d4_4 : decode (Pg.mt 4).code 4 = .ok (.areturn, 1) := by decide +kernel
theorem w4_4 {L : List Slot} {S : List Value} {H : Hp} {k : Nat} {n : Nat} {Q : MRes → Prop} {a : Nat} (h1 : k ≤ 0) (h2 : n ≤ 0) : Wp Pg 4 (4, L, (.ref a) :: S, H, k, n) Q ↔ Q (some (.ref a), H) := gRet d4_4 rfl rfl rfl rfl h1 h2
theorem w4_4n {L : List Slot} {S : List Value} {H : Hp} {k : Nat} {n : Nat} {Q : MRes → Prop} (h1 : k ≤ 0) (h2 : n ≤ 0) : Wp Pg 4 (4, L, .null :: S, H, k, n) Q ↔ Q (some .null, H) := gRet d4_4 rfl rfl rfl rfl h1 h2
theorem d5_0 : decode (Pg.mt 5).code 0 = .ok (.aload_n 0, 1) := by decide +kernel
theorem w5_0 {L : List Slot} {S : List Value} {H : Hp} {k : Nat} {n : Nat} {Q : MRes → Prop}  {v : Value} (hv : isA v = true) : Wp Pg 5 (0, .val v :: L, S, H, k, n) Q ↔ Wp Pg 5 (1, .val v :: L, v :: S, H, k, n) Q := gP d5_0 rfl (by show (if isA v = true then _ else _) = _; rw [if_pos hv])
theorem d5_1 : decode (Pg.mt 5).code 1 = .ok (.getfield 13, 3) := by decide +kernel
theorem w5_1 {L : List Slot} {S : List Value} {H : Hp} {k : Nat} {n : Nat} {Q : MRes → Prop} {a : Nat} : Wp Pg 5 (1, L, (.ref a) :: S, H, k, n) Q ↔ ∃ v, rdF Pg 5 13 H a = some v ∧ Wp Pg 5 (4, L, v :: S, H, k, n) Q := gGet d5_1
theorem d5_4 : decode (Pg.mt 5).code 4 = .ok (.areturn, 1) := by decide +kernel
theorem w5_4 {L : List Slot} {S : List Value} {H : Hp} {k : Nat} {n : Nat} {Q : MRes → Prop} {a : Nat} (h1 : k ≤ 0) (h2 : n ≤ 0) : Wp Pg 5 (4, L, (.ref a) :: S, H, k, n) Q ↔ Q (some (.ref a), H) := gRet d5_4 rfl rfl rfl rfl h1 h2
theorem w5_4n {L : List Slot} {S : List Value} {H : Hp} {k : Nat} {n : Nat} {Q : MRes → Prop} (h1 : k ≤ 0) (h2 : n ≤ 0) : Wp Pg 5 (4, L, .null :: S, H, k, n) Q ↔ Q (some .null, H) := gRet d5_4 rfl rfl rfl rfl h1 h2
theorem d6_0 : decode (Pg.mt 6).code 0 = .ok (.aload_n 0, 1) := by decide +kernel
theorem w6_0 {L : List Slot} {S : List Value} {H : Hp} {k : Nat} {n : Nat} {Q : MRes → Prop}  {v : Value} (hv : isA v = true) : Wp Pg 6 (0, .val v :: L, S, H, k, n) Q ↔ Wp Pg 6 (1, .val v :: L, v :: S, H, k, n) Q := gP d6_0 rfl (by show (if isA v = true then _ else _) = _; rw [if_pos hv])
theorem d6_1 : decode (Pg.mt 6).code 1 = .ok (.invokespecial 202, 3) := by decide +kernel
theorem w6_1 {L : List Slot} {S : List Value} {H : Hp} {k : Nat} {n : Nat} {Q : MRes → Prop} {a : Nat}  (h1 : L.length = 2) (h2 : wt S ≤ 0) (h3 : k + 0 ≤ 0) (h4 : n + 0 ≤ 0) : Wp Pg 6 (1, L, (.ref a) :: S, H, k, n) Q ↔ Wp Pg 7 (0, [.val (.ref a)], [], H, 0, 0) fun r => Wp Pg 6 (4, L, r.1.toList ++ S, r.2, k + 0, n + 0) Q := gCall d6_1 rfl rfl (M := 2) (W := 0) (C := 0) (Sl := 0) (c := 0) (s := 0) ⟨rfl, by decide, by decide, rfl, rfl, rfl, rfl⟩ (by show entL [(.ref a)] 1 = _; rw [entL, laid_c1 rfl, laid_nil]; rfl) h1 h2 h3 h4
theorem d6_4 : decode (Pg.mt 6).code 4 = .ok (.aload_n 0, 1) := by decide +kernel
theorem w6_4 {L : List Slot} {S : List Value} {H : Hp} {k : Nat} {n : Nat} {Q : MRes → Prop}  {v : Value} (hv : isA v = true) : Wp Pg 6 (4, .val v :: L, S, H, k, n) Q ↔ Wp Pg 6 (5, .val v :: L, v :: S, H, k, n) Q := gP d6_4 rfl (by show (if isA v = true then _ else _) = _; rw [if_pos hv])
theorem d6_5 : decode (Pg.mt 6).code 5 = .ok (.iload_n 1, 1) := by decide +kernel
theorem w6_5 {L : List Slot} {S : List Value} {H : Hp} {k : Nat} {n : Nat} {Q : MRes → Prop} {l0 : Slot} {x : Int32} : Wp Pg 6 (5, l0 :: .val (.int x) :: L, S, H, k, n) Q ↔ Wp Pg 6 (6, l0 :: .val (.int x) :: L, (.int x) :: S, H, k, n) Q := gP d6_5 rfl rfl
theorem d6_6 : decode (Pg.mt 6).code 6 = .ok (.putfield 205, 3) := by decide +kernel
theorem w6_6 {L : List Slot} {S : List Value} {H : Hp} {k : Nat} {n : Nat} {Q : MRes → Prop} {a : Nat} {v : Value} : Wp Pg 6 (6, L, v :: (.ref a) :: S, H, k, n) Q ↔ ∃ H', wrF Pg 6 205 H a v = some H' ∧ Wp Pg 6 (9, L, S, H', k, n) Q := gPut d6_6
theorem d6_9 : decode (Pg.mt 6).code 9 = .ok (.return_, 1) := by decide +kernel
theorem w6_9 {L : List Slot} {H : Hp} {k : Nat} {n : Nat} {Q : MRes → Prop} (h1 : k ≤ 0) (h2 : n ≤ 0) : Wp Pg 6 (9, L, [], H, k, n) Q ↔ Q (none, H) := gRet d6_9 rfl rfl rfl rfl h1 h2
theorem d7_0 : decode (Pg.mt 7).code 0 = .ok (.aload_n 0, 1) := by decide +kernel
theorem w7_0 {L : List Slot} {S : List Value} {H : Hp} {k : Nat} {n : Nat} {Q : MRes → Prop}  {v : Value} (hv : isA v = true) : Wp Pg 7 (0, .val v :: L, S, H, k, n) Q ↔ Wp Pg 7 (1, .val v :: L, v :: S, H, k, n) Q := gP d7_0 rfl (by show (if isA v = true then _ else _) = _; rw [if_pos hv])
theorem d7_1 : decode (Pg.mt 7).code 1 = .ok (.invokespecial 1, 3) := by decide +kernel
theorem w7_1 {L : List Slot} {S : List Value} {H : Hp} {k : Nat} {n : Nat} {Q : MRes → Prop} {a : Nat} (h1 : L.length = 1) (h2 : wt S + 12 ≤ 12) : Wp Pg 7 (1, L, (.ref a) :: S, H, k, n) Q ↔ Wp Pg 7 (4, L, S, H, k, n) Q := gObj d7_1 rfl rfl rfl rfl (by decide) h1 h2
theorem d7_4 : decode (Pg.mt 7).code 4 = .ok (.return_, 1) := by decide +kernel
theorem w7_4 {L : List Slot} {H : Hp} {k : Nat} {n : Nat} {Q : MRes → Prop} (h1 : k ≤ 0) (h2 : n ≤ 0) : Wp Pg 7 (4, L, [], H, k, n) Q ↔ Q (none, H) := gRet d7_4 rfl rfl rfl rfl h1 h2
theorem r0_29_0 (vs : List Value) : rdO Pg 0 29 (.inr 0, vs) = vs[0]? := rfl
theorem r0_33_0 (vs : List Value) : rdO Pg 0 33 (.inr 0, vs) = vs[3]? := rfl
theorem r0_37_0 (vs : List Value) : rdO Pg 0 37 (.inr 0, vs) = vs[4]? := rfl
theorem r0_40_0 (vs : List Value) : rdO Pg 0 40 (.inr 0, vs) = vs[5]? := rfl
theorem r3_17_0 (vs : List Value) : rdO Pg 3 17 (.inr 0, vs) = vs[2]? := rfl
theorem r4_17_0 (vs : List Value) : rdO Pg 4 17 (.inr 0, vs) = vs[2]? := rfl
theorem r5_13_0 (vs : List Value) : rdO Pg 5 13 (.inr 0, vs) = vs[1]? := rfl
theorem q2_7_0 (x : Int32) (u0 u1 u2 u3 u4 u5 : Value) : wrO Pg 2 7 (.int x) (.inr 0, [u0, u1, u2, u3, u4, u5]) = some (.inr 0, [.int x, u1, u2, u3, u4, u5]) := rfl
theorem q2_13_0 (x : Nat) (u0 u1 u2 u3 u4 u5 : Value) : wrO Pg 2 13 (.ref x) (.inr 0, [u0, u1, u2, u3, u4, u5]) = some (.inr 0, [u0, .ref x, u2, u3, u4, u5]) := rfl
theorem q2_13_0n (u0 u1 u2 u3 u4 u5 : Value) : wrO Pg 2 13 .null (.inr 0, [u0, u1, u2, u3, u4, u5]) = some (.inr 0, [u0, .null, u2, u3, u4, u5]) := rfl
theorem q2_17_0 (x : Nat) (u0 u1 u2 u3 u4 u5 : Value) : wrO Pg 2 17 (.ref x) (.inr 0, [u0, u1, u2, u3, u4, u5]) = some (.inr 0, [u0, u1, .ref x, u3, u4, u5]) := rfl
theorem q2_17_0n (u0 u1 u2 u3 u4 u5 : Value) : wrO Pg 2 17 .null (.inr 0, [u0, u1, u2, u3, u4, u5]) = some (.inr 0, [u0, u1, .null, u3, u4, u5]) := rfl
theorem q3_17_0 (x : Nat) (u0 u1 u2 u3 u4 u5 : Value) : wrO Pg 3 17 (.ref x) (.inr 0, [u0, u1, u2, u3, u4, u5]) = some (.inr 0, [u0, u1, .ref x, u3, u4, u5]) := rfl
theorem q3_17_0n (u0 u1 u2 u3 u4 u5 : Value) : wrO Pg 3 17 .null (.inr 0, [u0, u1, u2, u3, u4, u5]) = some (.inr 0, [u0, u1, .null, u3, u4, u5]) := rfl
theorem q6_205_1 (x : Int32) (u0 : Value) : wrO Pg 6 205 (.int x) (.inr 1, [u0]) = some (.inr 1, [.int x]) := rfl
theorem k0_8_0 : lkK Pg.ca 0 8 (.inr 1) = some true := by decide
def own_v (j : Int32) : Value := .int (j - 128)
def own_H0 : Hp := boxH 1 "java/lang/Integer" own_v
theorem own_inj : ∀ i j, i < 256 → j < 256 → own_v (Int32.ofNat i) = own_v (Int32.ofNat j) → i = j := fun i j hi hj h => by
  have h : Int32.ofNat i - 128 = Int32.ofNat j - 128 := Value.int.inj h
  have h : Int32.ofNat i = Int32.ofNat j := by
    have := congrArg (· + 128) h
    simpa [Int32.sub_add_cancel] using this
  have e := congrArg Int32.toInt h
  rw [Int32.toInt_ofNat_small (by omega), Int32.toInt_ofNat_small (by omega)] at e
  omega
theorem own_nref : ∀ (i : Int32) (j : Addr), own_v i = .ref j → False := fun i j h => by cases h
def own_G (H : Hp) : Prop := H[256]? = some (.inl (.object "java/lang/Integer"), (List.range 256).map Value.ref) ∧ (∀ i, i < 256 → ∃ vs, H[i]? = some (.inr 1, vs)) ∧ 257 ≤ H.length
theorem own_g0 : own_G own_H0 := ⟨boxH_arr, fun i hi => ⟨_, boxH_box hi⟩, Nat.le_of_eq (boxH_len _ _ _).symm⟩
theorem own_app {H : Hp} {i : Nat} {o o' : Obj} (h : H[i]? = some o) : (H ++ [o'])[i]? = some o := by
  rw [List.getElem?_append_left (List.getElem?_eq_some_iff.mp h).1]; exact h
theorem own_gs {H : Hp} (g : own_G H) (o : Obj) : own_G (H ++ [o]) := ⟨own_app g.1, fun i hi => (g.2.1 i hi).elim fun vs h => ⟨vs, own_app h⟩, by rw [List.length_append]; exact Nat.le_trans g.2.2 (Nat.le_add_right _ _)⟩
theorem own_get (H : Hp) (o : Obj) : (H ++ [o])[H.length]? = some o := by simp
theorem own_set (H : Hp) (o o' : Obj) : (H ++ [o]).set H.length o' = H ++ [o'] := by simp
theorem own_ld {H : Hp} (g : own_G H) {x : Int32} (h1 : ¬ x < -128) (h2 : ¬ 127 < x) : ∃ i, i < 256 ∧ ldA .aaload H 256 (x + 128) = some (.ref i) := by
  have a1 : (-128 : Int) ≤ x.toInt := by
    have := Int32.not_lt.mp h1
    exact Int32.le_iff_toInt_le.mp this
  have a2 : x.toInt ≤ 127 := by
    have := Int32.not_lt.mp h2
    exact Int32.le_iff_toInt_le.mp this
  obtain ⟨i, hi, e⟩ := nat_range (x := x + 128) (d := 256) (by rw [Int32.toInt_add]; have : (128 : Int32).toInt = 128 := rfl; rw [this, Int.bmod_eq_of_le (by omega) (by omega)]; omega) (by rw [Int32.toInt_add]; have : (128 : Int32).toInt = 128 := rfl; rw [this, Int.bmod_eq_of_le (by omega) (by omega)]; omega)
  obtain ⟨e1, e2⟩ := i32_clamp hi
  refine ⟨i, hi, ?_⟩
  rw [e]
  simp only [ldA, g.1, e1]
  rw [if_pos ⟨rfl, e2⟩]
  simp [hi]
theorem own_val (x : Int32) {H : Hp} (g : own_G H) {Q : MRes → Prop} (hq : ∀ (H' : Hp) (r : Nat), own_G H' → (∃ vs, H'[r]? = some (.inr 1, vs)) → (∀ (i : Nat) (o : Obj), H[i]? = some o → H'[i]? = some o) → Q (some (.ref r), H')) : Wp Pg 1 (0, [.val (.int x)], [], H, 0, 0) Q := by
  have hn : ¬ H.length < 257 := by have := g.2.2; omega
  have hN := hq (H ++ [(.inr 1, [.int x])]) H.length (own_gs g _) ⟨_, own_get _ _⟩ (fun i o h => own_app h)
  by_cases h1 : x < -128
  · simp +decide only [w1_0, w1_1, w1_3, w1_6, w1_7, w1_10, w1_13, w1_16, w1_17, w1_20, w1_21, w1_22, w1_22n, w1_23, w1_26, w1_27, w1_28, w1_31, w1_31n, w6_0, w6_1, w6_4, w6_5, w6_6, w6_9, w7_0, w7_1, w7_4, r0_29_0, r0_33_0, r0_37_0, r0_40_0, r3_17_0, r4_17_0, r5_13_0, q2_7_0, q2_13_0, q2_13_0n, q2_17_0, q2_17_0n, q3_17_0, q3_17_0n, q6_205_1, List.length_cons, List.length_nil, List.length_append, List.length_set, List.length_replicate, wt_nil, wt_int, wt_ref, wt_null, wt_long, wt_double, s1_unset, s1_int, s1_ref, s1_null, s2_unset, s2_val, s3_unset, s3_second, s3_int, s3_ref, isA_ref', isA_null', cat_int, cat_ref, cat_null, List.cons_append, List.nil_append, List.getElem?_cons_zero, List.getElem?_cons_succ, List.getElem?_nil, List.set_cons_zero, List.set_cons_succ, Option.toList_some, Option.toList_none, Option.some.injEq, exists_eq_left', Option.bind_some, Option.map_some, kdOf_eq, kdO_obj, rdF_eq, wrF_eq, alen_eq, ldA_eq, ldO_i, ldO_b, ldO_c, ldO_a, stA_i, stO_i, stA_b, stO_b, stA_c, stO_c, stA_d, stO_d, ldO_d, j0_eq, Nat.not_lt_zero, if_true, if_false, not_false_eq_true, not_true_eq_false, true_and, and_true, reduceCtorEq, Value.ref.injEq, ne_eq, Nat.zero_add, Nat.add_zero, Nat.reduceAdd, Nat.reduceLeDiff, Nat.le_refl, Nat.reduceLT, Nat.zero_le, Value.int.injEq, Value.long.injEq, tn0, tn1, tn2, tn3, tn4, tn5, tn6, tn7, tn8, tn9, tl0, tl1, tl2, tl3, tl4, tl5, tl6, tl7, tl8, tl9, rp0, rp1, rp2, rp3, rp4, rp5, rp6, rp7, rp8, rp9, alO_a, an0, an1, ↓reduceIte, Int32.reduceAdd, Int32.reduceSub, Int32.reduceMul, Int32.reduceLT, Int32.reduceLE, Int32.reduceToNatClampNeg, Int64.reduceLT, Int64.reduceLE, Int64.reduceAdd, on0, on1, on2, on3, on4, on5, on6, on7, on8, on9, own_get, own_set, hn, h1, hN]
  · by_cases h2 : 127 < x
    · simp +decide only [w1_0, w1_1, w1_3, w1_6, w1_7, w1_10, w1_13, w1_16, w1_17, w1_20, w1_21, w1_22, w1_22n, w1_23, w1_26, w1_27, w1_28, w1_31, w1_31n, w6_0, w6_1, w6_4, w6_5, w6_6, w6_9, w7_0, w7_1, w7_4, r0_29_0, r0_33_0, r0_37_0, r0_40_0, r3_17_0, r4_17_0, r5_13_0, q2_7_0, q2_13_0, q2_13_0n, q2_17_0, q2_17_0n, q3_17_0, q3_17_0n, q6_205_1, List.length_cons, List.length_nil, List.length_append, List.length_set, List.length_replicate, wt_nil, wt_int, wt_ref, wt_null, wt_long, wt_double, s1_unset, s1_int, s1_ref, s1_null, s2_unset, s2_val, s3_unset, s3_second, s3_int, s3_ref, isA_ref', isA_null', cat_int, cat_ref, cat_null, List.cons_append, List.nil_append, List.getElem?_cons_zero, List.getElem?_cons_succ, List.getElem?_nil, List.set_cons_zero, List.set_cons_succ, Option.toList_some, Option.toList_none, Option.some.injEq, exists_eq_left', Option.bind_some, Option.map_some, kdOf_eq, kdO_obj, rdF_eq, wrF_eq, alen_eq, ldA_eq, ldO_i, ldO_b, ldO_c, ldO_a, stA_i, stO_i, stA_b, stO_b, stA_c, stO_c, stA_d, stO_d, ldO_d, j0_eq, Nat.not_lt_zero, if_true, if_false, not_false_eq_true, not_true_eq_false, true_and, and_true, reduceCtorEq, Value.ref.injEq, ne_eq, Nat.zero_add, Nat.add_zero, Nat.reduceAdd, Nat.reduceLeDiff, Nat.le_refl, Nat.reduceLT, Nat.zero_le, Value.int.injEq, Value.long.injEq, tn0, tn1, tn2, tn3, tn4, tn5, tn6, tn7, tn8, tn9, tl0, tl1, tl2, tl3, tl4, tl5, tl6, tl7, tl8, tl9, rp0, rp1, rp2, rp3, rp4, rp5, rp6, rp7, rp8, rp9, alO_a, an0, an1, ↓reduceIte, Int32.reduceAdd, Int32.reduceSub, Int32.reduceMul, Int32.reduceLT, Int32.reduceLE, Int32.reduceToNatClampNeg, Int64.reduceLT, Int64.reduceLE, Int64.reduceAdd, on0, on1, on2, on3, on4, on5, on6, on7, on8, on9, own_get, own_set, hn, h1, h2, hN]
    · obtain ⟨i, hi, e⟩ := own_ld g h1 h2
      simp +decide only [w1_0, w1_1, w1_3, w1_6, w1_7, w1_10, w1_13, w1_16, w1_17, w1_20, List.length_cons, List.length_nil, List.length_append, List.length_set, List.length_replicate, wt_nil, wt_int, wt_ref, wt_null, wt_long, wt_double, s1_unset, s1_int, s1_ref, s1_null, s2_unset, s2_val, s3_unset, s3_second, s3_int, s3_ref, isA_ref', isA_null', cat_int, cat_ref, cat_null, List.cons_append, List.nil_append, List.getElem?_cons_zero, List.getElem?_cons_succ, List.getElem?_nil, List.set_cons_zero, List.set_cons_succ, Option.toList_some, Option.toList_none, Option.some.injEq, exists_eq_left', Option.bind_some, Option.map_some, kdOf_eq, kdO_obj, rdF_eq, wrF_eq, alen_eq, ldA_eq, ldO_i, ldO_b, ldO_c, ldO_a, stA_i, stO_i, stA_b, stO_b, stA_c, stO_c, stA_d, stO_d, ldO_d, j0_eq, Nat.not_lt_zero, if_true, if_false, not_false_eq_true, not_true_eq_false, true_and, and_true, reduceCtorEq, Value.ref.injEq, ne_eq, Nat.zero_add, Nat.add_zero, Nat.reduceAdd, Nat.reduceLeDiff, Nat.le_refl, Nat.reduceLT, Nat.zero_le, Value.int.injEq, Value.long.injEq, tn0, tn1, tn2, tn3, tn4, tn5, tn6, tn7, tn8, tn9, tl0, tl1, tl2, tl3, tl4, tl5, tl6, tl7, tl8, tl9, rp0, rp1, rp2, rp3, rp4, rp5, rp6, rp7, rp8, rp9, alO_a, an0, an1, ↓reduceIte, Int32.reduceAdd, Int32.reduceSub, Int32.reduceMul, Int32.reduceLT, Int32.reduceLE, Int32.reduceToNatClampNeg, Int64.reduceLT, Int64.reduceLE, Int64.reduceAdd, on0, on1, on2, on3, on4, on5, on6, on7, on8, on9, h1, h2]
      rw [w1_21]
      refine ⟨_, e, ?_⟩
      rw [w1_22 (by decide) (by decide)]
      exact hq H i g (g.2.1 i hi) (fun _ _ h => h)
theorem own_cast {H : Hp} {r : Nat} (h : ∃ vs, H[r]? = some (.inr 1, vs)) (o : Obj) : castI Pg 0 8 (H ++ [o]) r = some true := by
  obtain ⟨vs, h⟩ := h
  simp only [castI, own_app h]
  decide
theorem own_18 (x0 x1 x2 x3 x4 : Int32) (H : Hp) (g : own_G H) (r5 r6 r7 : Nat) (c6 : ∃ vs, H[r6]? = some (.inr 1, vs)) (c7 : ∃ vs, H[r7]? = some (.inr 1, vs)) :
    Wp Pg 0 (18, [.val (.int x0), .val (.int x1), .val (.int x2), .val (.int x3), .val (.int x4), .val (.ref r5), .val (.ref r6), .val (.ref r7), .unset, .unset, .unset, .unset, .unset, .unset, .unset], [], H, 3, 3) (fun r => r.1 = some (.int 1)) := by
  have hn : ¬ H.length < 257 := by have := g.2.2; omega
  have k6 := own_cast c6
  have k7 := own_cast c7
  have h3 : ¬ (3 : Int32) = 0 := by decide
  by_cases e : r6 = r7
  · subst e
    by_cases h : x4 &&& 1 = 0 <;> by_cases p : XT.ushr x4 1 % 3 = 0 <;> by_cases q : XT.ushr x4 1 % 3 = 1 <;>
      simp +decide only [w0_18, w0_20, w0_21, w0_22, w0_25, w0_26, w0_29, w0_31, w0_33, w0_35, w0_36, w0_37, w0_38, w0_39, w0_41, w0_43, w0_46, w0_48, w0_50, w0_53, w0_55, w0_56, w0_59, w0_61, w0_63, w0_66, w0_67, w0_69, w0_72, w0_73, w0_74, w0_76, w0_78, w0_81, w0_83, w0_85, w0_87, w0_90, w0_90n, w0_93, w0_95, w0_97, w0_99, w0_102, w0_104, w0_107, w0_109, w0_112, w0_114, w0_117, w0_119, w0_122, w0_124, w0_127, w0_128, w0_131, w0_133, w0_136n, w0_136, w0_139, w0_141, w0_144n, w0_144, w0_147, w0_149, w0_152n, w0_152, w0_155, w0_156, w0_159, w0_160, w0_162, w0_164, w0_166, w0_169, w0_169n, w0_172, w0_174, w0_176, w0_179, w0_181, w0_183, w0_186, w0_188, w0_191, w0_193, w0_196, w0_198, w0_201, w0_203, w0_206, w0_208, w0_211, w0_212, w0_215, w0_216, w0_219, w0_220, w2_0, w2_1, w2_4, w2_5, w2_6, w2_9, w2_10, w2_11, w2_14, w2_15, w2_16, w2_19, w3_0, w3_1, w3_4, w3_5, w3_6, w3_7, w3_10, w3_11, w3_12, w3_15, w3_16, w3_16n, w4_0, w4_1, w4_4, w4_4n, w5_0, w5_1, w5_4, w5_4n, r0_29_0, r0_33_0, r0_37_0, r0_40_0, r3_17_0, r4_17_0, r5_13_0, q2_7_0, q2_13_0, q2_13_0n, q2_17_0, q2_17_0n, q3_17_0, q3_17_0n, q6_205_1, List.length_cons, List.length_nil, List.length_append, List.length_set, List.length_replicate, wt_nil, wt_int, wt_ref, wt_null, wt_long, wt_double, s1_unset, s1_int, s1_ref, s1_null, s2_unset, s2_val, s3_unset, s3_second, s3_int, s3_ref, isA_ref', isA_null', cat_int, cat_ref, cat_null, List.cons_append, List.nil_append, List.getElem?_cons_zero, List.getElem?_cons_succ, List.getElem?_nil, List.set_cons_zero, List.set_cons_succ, Option.toList_some, Option.toList_none, Option.some.injEq, exists_eq_left', Option.bind_some, Option.map_some, kdOf_eq, kdO_obj, rdF_eq, wrF_eq, alen_eq, ldA_eq, ldO_i, ldO_b, ldO_c, ldO_a, stA_i, stO_i, stA_b, stO_b, stA_c, stO_c, stA_d, stO_d, ldO_d, j0_eq, Nat.not_lt_zero, if_true, if_false, not_false_eq_true, not_true_eq_false, true_and, and_true, reduceCtorEq, Value.ref.injEq, ne_eq, Nat.zero_add, Nat.add_zero, Nat.reduceAdd, Nat.reduceLeDiff, Nat.le_refl, Nat.reduceLT, Nat.zero_le, Value.int.injEq, Value.long.injEq, tn0, tn1, tn2, tn3, tn4, tn5, tn6, tn7, tn8, tn9, tl0, tl1, tl2, tl3, tl4, tl5, tl6, tl7, tl8, tl9, rp0, rp1, rp2, rp3, rp4, rp5, rp6, rp7, rp8, rp9, alO_a, an0, an1, ↓reduceIte, Int32.reduceAdd, Int32.reduceSub, Int32.reduceMul, Int32.reduceLT, Int32.reduceLE, Int32.reduceToNatClampNeg, Int64.reduceLT, Int64.reduceLE, Int64.reduceAdd, on0, on1, on2, on3, on4, on5, on6, on7, on8, on9, own_get, own_set, hn, k6, k7, h, p, q, h3]
  · have e' : ¬ r7 = r6 := fun z => e z.symm
    by_cases h : x4 &&& 1 = 0 <;> by_cases p : XT.ushr x4 1 % 3 = 0 <;> by_cases q : XT.ushr x4 1 % 3 = 1 <;>
      simp +decide only [w0_18, w0_20, w0_21, w0_22, w0_25, w0_26, w0_29, w0_31, w0_33, w0_35, w0_36, w0_37, w0_38, w0_39, w0_41, w0_43, w0_46, w0_48, w0_50, w0_53, w0_55, w0_56, w0_59, w0_61, w0_63, w0_66, w0_67, w0_69, w0_72, w0_73, w0_74, w0_76, w0_78, w0_81, w0_83, w0_85, w0_87, w0_90, w0_90n, w0_93, w0_95, w0_97, w0_99, w0_102, w0_104, w0_107, w0_109, w0_112, w0_114, w0_117, w0_119, w0_122, w0_124, w0_127, w0_128, w0_131, w0_133, w0_136n, w0_136, w0_139, w0_141, w0_144n, w0_144, w0_147, w0_149, w0_152n, w0_152, w0_155, w0_156, w0_159, w0_160, w0_162, w0_164, w0_166, w0_169, w0_169n, w0_172, w0_174, w0_176, w0_179, w0_181, w0_183, w0_186, w0_188, w0_191, w0_193, w0_196, w0_198, w0_201, w0_203, w0_206, w0_208, w0_211, w0_212, w0_215, w0_216, w0_219, w0_220, w2_0, w2_1, w2_4, w2_5, w2_6, w2_9, w2_10, w2_11, w2_14, w2_15, w2_16, w2_19, w3_0, w3_1, w3_4, w3_5, w3_6, w3_7, w3_10, w3_11, w3_12, w3_15, w3_16, w3_16n, w4_0, w4_1, w4_4, w4_4n, w5_0, w5_1, w5_4, w5_4n, r0_29_0, r0_33_0, r0_37_0, r0_40_0, r3_17_0, r4_17_0, r5_13_0, q2_7_0, q2_13_0, q2_13_0n, q2_17_0, q2_17_0n, q3_17_0, q3_17_0n, q6_205_1, List.length_cons, List.length_nil, List.length_append, List.length_set, List.length_replicate, wt_nil, wt_int, wt_ref, wt_null, wt_long, wt_double, s1_unset, s1_int, s1_ref, s1_null, s2_unset, s2_val, s3_unset, s3_second, s3_int, s3_ref, isA_ref', isA_null', cat_int, cat_ref, cat_null, List.cons_append, List.nil_append, List.getElem?_cons_zero, List.getElem?_cons_succ, List.getElem?_nil, List.set_cons_zero, List.set_cons_succ, Option.toList_some, Option.toList_none, Option.some.injEq, exists_eq_left', Option.bind_some, Option.map_some, kdOf_eq, kdO_obj, rdF_eq, wrF_eq, alen_eq, ldA_eq, ldO_i, ldO_b, ldO_c, ldO_a, stA_i, stO_i, stA_b, stO_b, stA_c, stO_c, stA_d, stO_d, ldO_d, j0_eq, Nat.not_lt_zero, if_true, if_false, not_false_eq_true, not_true_eq_false, true_and, and_true, reduceCtorEq, Value.ref.injEq, ne_eq, Nat.zero_add, Nat.add_zero, Nat.reduceAdd, Nat.reduceLeDiff, Nat.le_refl, Nat.reduceLT, Nat.zero_le, Value.int.injEq, Value.long.injEq, tn0, tn1, tn2, tn3, tn4, tn5, tn6, tn7, tn8, tn9, tl0, tl1, tl2, tl3, tl4, tl5, tl6, tl7, tl8, tl9, rp0, rp1, rp2, rp3, rp4, rp5, rp6, rp7, rp8, rp9, alO_a, an0, an1, ↓reduceIte, Int32.reduceAdd, Int32.reduceSub, Int32.reduceMul, Int32.reduceLT, Int32.reduceLE, Int32.reduceToNatClampNeg, Int64.reduceLT, Int64.reduceLE, Int64.reduceAdd, on0, on1, on2, on3, on4, on5, on6, on7, on8, on9, own_get, own_set, hn, k6, k7, h, p, q, h3, e, e']
theorem law_wp (x0 x1 x2 x3 x4 : Int32) : Wp Pg 0 (0, [.val (.int x0), .val (.int x1), .val (.int x2), .val (.int x3), .val (.int x4), .unset, .unset, .unset, .unset, .unset, .unset, .unset, .unset, .unset, .unset], [], own_H0, 0, 0) (fun r => r.1 = some (.int 1)) := by
  simp +decide only [w0_0, w0_1, List.length_cons, List.length_nil, List.length_append, List.length_set, List.length_replicate, wt_nil, wt_int, wt_ref, wt_null, wt_long, wt_double, s1_unset, s1_int, s1_ref, s1_null, s2_unset, s2_val, s3_unset, s3_second, s3_int, s3_ref, isA_ref', isA_null', cat_int, cat_ref, cat_null, List.cons_append, List.nil_append, List.getElem?_cons_zero, List.getElem?_cons_succ, List.getElem?_nil, List.set_cons_zero, List.set_cons_succ, Option.toList_some, Option.toList_none, Option.some.injEq, exists_eq_left', Option.bind_some, Option.map_some, kdOf_eq, kdO_obj, rdF_eq, wrF_eq, alen_eq, ldA_eq, ldO_i, ldO_b, ldO_c, ldO_a, stA_i, stO_i, stA_b, stO_b, stA_c, stO_c, stA_d, stO_d, ldO_d, j0_eq, Nat.not_lt_zero, if_true, if_false, not_false_eq_true, not_true_eq_false, true_and, and_true, reduceCtorEq, Value.ref.injEq, ne_eq, Nat.zero_add, Nat.add_zero, Nat.reduceAdd, Nat.reduceLeDiff, Nat.le_refl, Nat.reduceLT, Nat.zero_le, Value.int.injEq, Value.long.injEq, tn0, tn1, tn2, tn3, tn4, tn5, tn6, tn7, tn8, tn9, tl0, tl1, tl2, tl3, tl4, tl5, tl6, tl7, tl8, tl9, rp0, rp1, rp2, rp3, rp4, rp5, rp6, rp7, rp8, rp9, alO_a, an0, an1, ↓reduceIte, Int32.reduceAdd, Int32.reduceSub, Int32.reduceMul, Int32.reduceLT, Int32.reduceLE, Int32.reduceToNatClampNeg, Int64.reduceLT, Int64.reduceLE, Int64.reduceAdd, on0, on1, on2, on3, on4, on5, on6, on7, on8, on9]
  refine own_val x1 own_g0 fun H1 r1 g1 c1 m1 => ?_
  simp +decide only [w0_4, w0_6, w0_7, List.length_cons, List.length_nil, List.length_append, List.length_set, List.length_replicate, wt_nil, wt_int, wt_ref, wt_null, wt_long, wt_double, s1_unset, s1_int, s1_ref, s1_null, s2_unset, s2_val, s3_unset, s3_second, s3_int, s3_ref, isA_ref', isA_null', cat_int, cat_ref, cat_null, List.cons_append, List.nil_append, List.getElem?_cons_zero, List.getElem?_cons_succ, List.getElem?_nil, List.set_cons_zero, List.set_cons_succ, Option.toList_some, Option.toList_none, Option.some.injEq, exists_eq_left', Option.bind_some, Option.map_some, kdOf_eq, kdO_obj, rdF_eq, wrF_eq, alen_eq, ldA_eq, ldO_i, ldO_b, ldO_c, ldO_a, stA_i, stO_i, stA_b, stO_b, stA_c, stO_c, stA_d, stO_d, ldO_d, j0_eq, Nat.not_lt_zero, if_true, if_false, not_false_eq_true, not_true_eq_false, true_and, and_true, reduceCtorEq, Value.ref.injEq, ne_eq, Nat.zero_add, Nat.add_zero, Nat.reduceAdd, Nat.reduceLeDiff, Nat.le_refl, Nat.reduceLT, Nat.zero_le, Value.int.injEq, Value.long.injEq, tn0, tn1, tn2, tn3, tn4, tn5, tn6, tn7, tn8, tn9, tl0, tl1, tl2, tl3, tl4, tl5, tl6, tl7, tl8, tl9, rp0, rp1, rp2, rp3, rp4, rp5, rp6, rp7, rp8, rp9, alO_a, an0, an1, ↓reduceIte, Int32.reduceAdd, Int32.reduceSub, Int32.reduceMul, Int32.reduceLT, Int32.reduceLE, Int32.reduceToNatClampNeg, Int64.reduceLT, Int64.reduceLE, Int64.reduceAdd, on0, on1, on2, on3, on4, on5, on6, on7, on8, on9]
  refine own_val x2 g1 fun H2 r2 g2 c2 m2 => ?_
  simp +decide only [w0_10, w0_12, w0_13, List.length_cons, List.length_nil, List.length_append, List.length_set, List.length_replicate, wt_nil, wt_int, wt_ref, wt_null, wt_long, wt_double, s1_unset, s1_int, s1_ref, s1_null, s2_unset, s2_val, s3_unset, s3_second, s3_int, s3_ref, isA_ref', isA_null', cat_int, cat_ref, cat_null, List.cons_append, List.nil_append, List.getElem?_cons_zero, List.getElem?_cons_succ, List.getElem?_nil, List.set_cons_zero, List.set_cons_succ, Option.toList_some, Option.toList_none, Option.some.injEq, exists_eq_left', Option.bind_some, Option.map_some, kdOf_eq, kdO_obj, rdF_eq, wrF_eq, alen_eq, ldA_eq, ldO_i, ldO_b, ldO_c, ldO_a, stA_i, stO_i, stA_b, stO_b, stA_c, stO_c, stA_d, stO_d, ldO_d, j0_eq, Nat.not_lt_zero, if_true, if_false, not_false_eq_true, not_true_eq_false, true_and, and_true, reduceCtorEq, Value.ref.injEq, ne_eq, Nat.zero_add, Nat.add_zero, Nat.reduceAdd, Nat.reduceLeDiff, Nat.le_refl, Nat.reduceLT, Nat.zero_le, Value.int.injEq, Value.long.injEq, tn0, tn1, tn2, tn3, tn4, tn5, tn6, tn7, tn8, tn9, tl0, tl1, tl2, tl3, tl4, tl5, tl6, tl7, tl8, tl9, rp0, rp1, rp2, rp3, rp4, rp5, rp6, rp7, rp8, rp9, alO_a, an0, an1, ↓reduceIte, Int32.reduceAdd, Int32.reduceSub, Int32.reduceMul, Int32.reduceLT, Int32.reduceLE, Int32.reduceToNatClampNeg, Int64.reduceLT, Int64.reduceLE, Int64.reduceAdd, on0, on1, on2, on3, on4, on5, on6, on7, on8, on9]
  refine own_val x3 g2 fun H3 r3 g3 c3 m3 => ?_
  simp +decide only [w0_16, List.length_cons, List.length_nil, List.length_append, List.length_set, List.length_replicate, wt_nil, wt_int, wt_ref, wt_null, wt_long, wt_double, s1_unset, s1_int, s1_ref, s1_null, s2_unset, s2_val, s3_unset, s3_second, s3_int, s3_ref, isA_ref', isA_null', cat_int, cat_ref, cat_null, List.cons_append, List.nil_append, List.getElem?_cons_zero, List.getElem?_cons_succ, List.getElem?_nil, List.set_cons_zero, List.set_cons_succ, Option.toList_some, Option.toList_none, Option.some.injEq, exists_eq_left', Option.bind_some, Option.map_some, kdOf_eq, kdO_obj, rdF_eq, wrF_eq, alen_eq, ldA_eq, ldO_i, ldO_b, ldO_c, ldO_a, stA_i, stO_i, stA_b, stO_b, stA_c, stO_c, stA_d, stO_d, ldO_d, j0_eq, Nat.not_lt_zero, if_true, if_false, not_false_eq_true, not_true_eq_false, true_and, and_true, reduceCtorEq, Value.ref.injEq, ne_eq, Nat.zero_add, Nat.add_zero, Nat.reduceAdd, Nat.reduceLeDiff, Nat.le_refl, Nat.reduceLT, Nat.zero_le, Value.int.injEq, Value.long.injEq, tn0, tn1, tn2, tn3, tn4, tn5, tn6, tn7, tn8, tn9, tl0, tl1, tl2, tl3, tl4, tl5, tl6, tl7, tl8, tl9, rp0, rp1, rp2, rp3, rp4, rp5, rp6, rp7, rp8, rp9, alO_a, an0, an1, ↓reduceIte, Int32.reduceAdd, Int32.reduceSub, Int32.reduceMul, Int32.reduceLT, Int32.reduceLE, Int32.reduceToNatClampNeg, Int64.reduceLT, Int64.reduceLE, Int64.reduceAdd, on0, on1, on2, on3, on4, on5, on6, on7, on8, on9]
  exact own_18 _ _ _ _ _ H3 g3 r1 r2 r3 (c2.elim fun vs h => ⟨vs, m3 _ _ h⟩) c3
set_option maxRecDepth 65536 in
set_option maxHeartbeats 40000000 in
theorem comes_1 {Post : Tables → Env → Array Value → State → Outcome → State → Prop} (hpost : ∀ tb e args s v u, (limb_1_1.after args s (.returned v) u = true ∧ limb_1_2.after args s (.returned v) u = true ∧ True) → FrameEnd s (.returned v) u (Jvm.fieldLocs frame_1_writes args s ++ Jvm.arrayLocs frame_1_arrays args s ++ Jvm.staticLocs frame_1_statics s) 16 128 → Post tb e args s (.returned v) u) :
    ArmFor flags0 classFile x code maxLocals ret World_1 tables_1 room_1 Calls_1 rest_1 Pre_1 Post := by
  intro l hfl _ _ p e ha hc hk s m args below hf hA hF happ hP
  obtain ⟨hcalls, hrest, hpre⟩ := hP
  obtain ⟨-, -, -, hnamed, -, -, -, hat⟩ := (Spec.applies_iff hf).mp happ
  obtain ⟨hg, hn⟩ := and_e (Cond.before_iff.mp (show (Jvm.Cond.and given_1 narrow_1).before args s = true from hpre))
  obtain ⟨hcnt, g0⟩ := and_e hg
  obtain ⟨q0, g1⟩ := and_e g0
  obtain ⟨q1, g2⟩ := and_e g1
  obtain ⟨q2, g3⟩ := and_e g2
  obtain ⟨q3, g4⟩ := and_e g3
  have q4 := g4
  obtain ⟨w0, w1, w2, w3, w4, rfl⟩ : ∃ w0 w1 w2 w3 w4 : Value, args = #[w0, w1, w2, w3, w4] := by
    have hs : args.size = 5 := by simpa [Cond.value, given_1] using hcnt
    obtain ⟨L⟩ := args
    match L, hs with
    | [w0, w1, w2, w3, w4], _ => exact ⟨w0, w1, w2, w3, w4, rfl⟩
  have hw := fun d (hd : d ∈ tables_1) => atoms_spec (ws := Jvm.Cond.code x code maxLocals ret :: tables_1) hat d (List.mem_cons_of_mem _ hd)
  obtain ⟨x0, e0⟩ := is_v q0
  obtain rfl : w0 = (.int x0) := Option.some.inj e0
  obtain ⟨x1, e1⟩ := is_v q1
  obtain rfl : w1 = (.int x1) := Option.some.inj e1
  obtain ⟨x2, e2⟩ := is_v q2
  obtain rfl : w2 = (.int x2) := Option.some.inj e2
  obtain ⟨x3, e3⟩ := is_v q3
  obtain rfl : w3 = (.int x3) := Option.some.inj e3
  obtain ⟨x4, e4⟩ := is_v q4
  obtain rfl : w4 = (.int x4) := Option.some.inj e4
  obtain ⟨hsets, hown0⟩ := atoms_of _ (rest_1_c_eq ▸ (show rest_1_c.before _ s = true from hrest))
  obtain ⟨aC, vC, EC⟩ := ex_start (Cond.before_iff.mp (hsets _ (List.mem_of_getElem? (i := 5) rfl)))
  have SH := Sta.start (eqv_i (Term.int_eval 127) (Cond.before_iff.mp (hsets _ (List.mem_of_getElem? (i := 3) rfl)))) (Or.inl (hsets _ (List.mem_of_getElem? (i := 1) rfl)))
  have SC := Sta.start vC (Or.inr ⟨(hw _ (List.mem_of_getElem? (i := 5) rfl)), (hsets _ (List.mem_of_getElem? (i := 2) rfl))⟩)
  obtain ⟨cC, BX⟩ := box_start (val := own_v) (fun _ => vC) (Cond.before_iff.mp (hsets _ (List.mem_of_getElem? (i := 4) rfl))) (Cond.before_iff.mp (hsets _ (List.mem_of_getElem? (i := 6) rfl))) (Cond.before_iff.mp (hsets _ (List.mem_of_getElem? (i := 7) rfl))) (fun X j nn h => eqv_i (by simp [Term.eval, (back32 nn).1]) h)
  obtain ⟨bs, bl, bq, bb⟩ := boxes_list BX
  have nd : (bs ++ [aC]).Nodup := by
    refine List.nodup_append.mpr ⟨boxes_nodup (val := own_v) own_inj bl bb, by simp, fun b hb c hc e => ?_⟩
    obtain ⟨i, hi⟩ := List.mem_iff_getElem?.mp hb
    cases List.mem_singleton.mp hc
    exact exa_ne (bb i b hi).1 EC (by decide) e
  have RO : RhoOk Pg (rhoL (bs ++ [aC]) s.heap.size) s.heap.size := rhoL_ok (by rw [List.length_append, bl]; rfl) nd (fun b hb => by
    rcases List.mem_append.mp hb with hb | hb
    · obtain ⟨i, hi⟩ := List.mem_iff_getElem?.mp hb
      exact (bb i b hi).1.lt
    · cases List.mem_singleton.mp hb
      exact EC.lt)
  have r1 : ∀ i b, bs[i]? = some b → rhoL (bs ++ [aC]) s.heap.size i = b := fun i b h => rhoL_old (by rw [List.getElem?_append_left (List.getElem?_eq_some_iff.mp h).1]; exact h)
  have r2 : rhoL (bs ++ [aC]) s.heap.size 256 = aC := rhoL_old (by rw [List.getElem?_append_right (by omega), bl]; rfl)
  have SC' : Sta s s.heap "java/lang/Integer$IntegerCache" "cache" "[Ljava/lang/Integer;" (tv (rhoL (bs ++ [aC]) s.heap.size) (.ref 256)) := by rw [show tv (rhoL (bs ++ [aC]) s.heap.size) (.ref 256) = .ref aC from congrArg Value.ref r2]; exact SC
  have K : Pic Pg s (rhoL (bs ++ [aC]) s.heap.size) s.heap.size s.heap own_H0 := ⟨Nat.le_of_eq (boxH_len _ _ _).symm, by rw [show own_H0.length = 257 from boxH_len _ _ _]; rfl, fun i o h => boxes_obj (val := own_v) (Nat.le_refl _) rfl rfl own_nref bl bq bb BX.1 r1 r2 h, am_cons SH (am_cons SC' am_nil)⟩
  obtain ⟨f, r, hrun, hr⟩ := law_wp x0 x1 x2 x3 x4
  have hS := run_sound (l := l) (okP hw) RO f 0 _ r hrun
  have met := met_of (P := Pg) (j := 0) (as := [(.int x0), (.int x1), (.int x2), (.int x3), (.int x4)]) pf0 hS K tables_1
  obtain ⟨v, H'⟩ := r
  obtain rfl : v = some (.int 1) := hr
  obtain ⟨n, o, h1, h2, h3, _, L, rfl, ⟨rfl, hp, N⟩, hq⟩ := met p e ha hc hk s m _ below hf ((Spec.applies_iff_loose hf).mp happ).1 ⟨rfl, State.Warmed39.refl s, rfl⟩ trivial
  refine ⟨n, _, h1, h2, h3, hpost _ _ _ _ _ _ ⟨Cond.after_iff.mpr rfl, Cond.after_iff.mpr (eq_i res_at (Term.int_eval (1)) rfl), trivial⟩ ⟨hq.1, hq.2.1, (hq.2.2.sift fun y hy => Or.inr (N y hy)).mono (by decide) (by decide)⟩⟩
theorem main_1_1 : Claimed_1_1 := comes_1 fun _ _ _ _ _ _ h hF => ⟨h.1, hF⟩
theorem main_1_2 : Claimed_1_2 := comes_1 fun _ _ _ _ _ _ h hF => ⟨h.2.1, hF⟩
end Jvm.Pilot.@@N@@
namespace Jvm.Pilot.@@N@@
open Jvm Jvm.ClassFile Sem Op Lib Jvm.Free Jvm.Stand Jvm.Pilot.@@N@@.Jvm.D
/-! MADE BY PROGRAM (witnessworld.py) out of the Statement's table words and the real class files: 17 classes; the members and pool entries that the words name. The judged class is class 1, her method 1. -/
namespace start1
open Jvm.ClassFile
def u (s : String) : CpInfo := .utf8 (stringToUtf16 s)
/-- a pool by its gaps: so many unusable entries, then the entry; so many at the end -/
def gap : Nat → List CpInfo → List CpInfo
  | 0, r => r
  | n + 1, r => .unusable :: gap n r
def poolList (es : List (Nat × CpInfo)) (last : Nat) : List CpInfo := es.foldr (fun e r => gap e.1 (e.2 :: r)) (gap last [])
def pool (es : List (Nat × CpInfo)) (last : Nat) : Array CpInfo := ⟨poolList es last⟩
def fileOf (pool : Array CpInfo) (this : Nat) (attrs : Array Attribute := #[]) (ms : Array MethodInfo := #[]) (fl : Nat := 33) (sup : Nat := 0) (ifs : Array Nat := #[]) (fds : Array FieldInfo := #[]) : ClassFile where
  minorVersion := 0
  majorVersion := 65
  constantPool := pool
  accessFlags := fl
  thisClass := this
  superClass := sup
  interfaces := ifs
  fields := fds
  methods := ms
  attributes := attrs
def plain (name : String) (sup : Option ClassId) : Class where
  name := name
  kind := .ordinary
  loader := none
  accessFlags := 33
  super := sup
  interfaces := #[]
  cf := none
  fields := #[]
  methods := #[]
  instanceTypes := #[]
  staticTypes := #[]
  resolved := #[]
  callSites := []
  init := .initialized
  statics := none
  mirror := none

def pool0 : Array CpInfo := pool [(5, u "<init>"), (0, u "()V"), (1, .class_ 10), (1, u "java/lang/Object")] 113

def k0c0 : Code := { maxStack := 0, maxLocals := 1, code := object_method_1_code, exceptionTable := #[], attributes := #[] }
def k0m0 : Method := { name := "<init>", desc := "()V", sig := { parameters := [], returnType := none }, accessFlags := 1, code := some k0c0 }
/-- java/lang/Object -/
def k0 : Class := { plain "java/lang/Object" none with
  accessFlags := 33
  interfaces := #[]
  cf := some (fileOf pool0 8 #[] #[{ accessFlags := 1, nameIndex := 5, descriptorIndex := 6, attributes := #[] }] 33 0 #[] #[])
  fields := #[]
  methods := #[k0m0]
  instanceTypes := #[]
  staticTypes := #[]
  resolved := Array.replicate 124 none
  statics := none }

def pool1 : Array CpInfo := pool [(2, .class_ 4), (1, u "java/lang/Object"), (0, u "<init>"), (0, u "()V"), (0, .methodref 8 9), (0, .class_ 10), (0, .nameAndType 11 12), (0, u "java/lang/Integer"), (0, u "valueOf"), (0, u "(I)Ljava/lang/Integer;"), (0, .class_ 14), (0, u "io/github/encounter/SequencedHashMap$Node"), (0, .methodref 13 16), (0, .nameAndType 5 17), (0, u "(ILjava/lang/Object;Ljava/lang/Object;)V"), (0, .methodref 13 19), (0, .nameAndType 20 21), (0, u "setValue"), (0, u "(Ljava/lang/Object;)Ljava/lang/Object;"), (0, .methodref 13 23), (0, .nameAndType 24 25), (0, u "getValue"), (0, u "()Ljava/lang/Object;"), (0, .methodref 13 27), (0, .nameAndType 28 25), (0, u "getKey"), (0, .fieldref 13 30), (0, .nameAndType 31 32), (0, u "hash"), (0, u "I"), (0, .fieldref 13 34), (0, .nameAndType 35 36), (0, u "next"), (0, u "Lio/github/encounter/SequencedHashMap$Node;"), (0, .fieldref 13 38), (0, .nameAndType 39 36), (0, u "before"), (0, .fieldref 13 41), (0, .nameAndType 42 36), (0, u "after"), (0, .class_ 44), (0, u "io/github/encounter/NodeSetValuePinLaw"), (2, u "law"), (0, u "(IIIII)Z")] 7

def k1m0 : Method := { name := "<init>", desc := "()V", sig := { parameters := [], returnType := none }, accessFlags := 1, code := none }
def k1c1 : Code := { maxStack := 5, maxLocals := 15, code := code, exceptionTable := #[], attributes := #[] }
def k1m1 : Method := { name := "law", desc := "(IIIII)Z", sig := { parameters := [.int, .int, .int, .int, .int], returnType := some .boolean }, accessFlags := 9, code := some k1c1 }
/-- io/github/encounter/NodeSetValuePinLaw -/
def k1 : Class := { plain "io/github/encounter/NodeSetValuePinLaw" (some 0) with
  accessFlags := 49
  interfaces := #[]
  cf := some (fileOf pool1 43 #[] #[{ accessFlags := 1, nameIndex := 5, descriptorIndex := 6, attributes := #[] }, { accessFlags := 9, nameIndex := 47, descriptorIndex := 48, attributes := #[] }] 49 2 #[] #[])
  fields := #[]
  methods := #[k1m0, k1m1]
  instanceTypes := #[]
  staticTypes := #[]
  resolved := Array.replicate 56 none
  statics := none }

def pool2 : Array CpInfo := pool [(1, .class_ 2), (0, u "java/io/Serializable"), (0, .class_ 4), (0, u "java/lang/Object")] 2

/-- java/io/Serializable -/
def k2 : Class := { plain "java/io/Serializable" (some 0) with
  accessFlags := 1537
  interfaces := #[]
  cf := some (fileOf pool2 1 #[] #[] 1537 3 #[] #[])
  fields := #[]
  methods := #[]
  instanceTypes := #[]
  staticTypes := #[]
  resolved := Array.replicate 7 none
  statics := none }

def pool3 : Array CpInfo := pool [(1, .methodref 2 3), (0, .class_ 4), (0, .nameAndType 5 6), (0, u "java/lang/Object"), (0, u "<init>"), (0, u "()V"), (1, .class_ 10), (1, u "java/lang/Number"), (2, .class_ 14), (0, u "java/io/Serializable"), (0, u "serialVersionUID"), (0, u "J")] 20

def k3c0 : Code := { maxStack := 1, maxLocals := 1, code := jdk_18_method_1_code, exceptionTable := #[], attributes := #[] }
def k3m0 : Method := { name := "<init>", desc := "()V", sig := { parameters := [], returnType := none }, accessFlags := 1, code := some k3c0 }
/-- java/lang/Number -/
def k3 : Class := { plain "java/lang/Number" (some 0) with
  accessFlags := 1057
  interfaces := #[2]
  cf := some (fileOf pool3 8 #[] #[{ accessFlags := 1, nameIndex := 5, descriptorIndex := 6, attributes := #[] }] 1057 2 #[13] #[{ accessFlags := 26, nameIndex := 15, descriptorIndex := 16, attributes := #[] }])
  fields := #[{ name := "serialVersionUID", type := .long, accessFlags := 26, slot := 0, constantValue := 0 }]
  methods := #[k3m0]
  instanceTypes := #[]
  staticTypes := #[.long]
  resolved := Array.replicate 37 none
  statics := none }

def pool4 : Array CpInfo := pool [(1, .class_ 2), (0, u "java/lang/Comparable"), (0, .class_ 4), (0, u "java/lang/Object")] 7

/-- java/lang/Comparable -/
def k4 : Class := { plain "java/lang/Comparable" (some 0) with
  accessFlags := 1537
  interfaces := #[]
  cf := some (fileOf pool4 1 #[] #[] 1537 3 #[] #[])
  fields := #[]
  methods := #[]
  instanceTypes := #[]
  staticTypes := #[]
  resolved := Array.replicate 12 none
  statics := none }

def pool5 : Array CpInfo := pool [(1, .class_ 2), (0, u "java/lang/constant/Constable"), (0, .class_ 4), (0, u "java/lang/Object")] 6

/-- java/lang/constant/Constable -/
def k5 : Class := { plain "java/lang/constant/Constable" (some 0) with
  accessFlags := 1537
  interfaces := #[]
  cf := some (fileOf pool5 1 #[] #[] 1537 3 #[] #[])
  fields := #[]
  methods := #[]
  instanceTypes := #[]
  staticTypes := #[]
  resolved := Array.replicate 11 none
  statics := none }

def pool6 : Array CpInfo := pool [(1, .class_ 2), (0, u "java/lang/constant/ConstantDesc"), (0, .class_ 4), (0, u "java/lang/Object")] 32

/-- java/lang/constant/ConstantDesc -/
def k6 : Class := { plain "java/lang/constant/ConstantDesc" (some 0) with
  accessFlags := 1537
  interfaces := #[]
  cf := some (fileOf pool6 1 #[] #[] 1537 3 #[] #[])
  fields := #[]
  methods := #[]
  instanceTypes := #[]
  staticTypes := #[]
  resolved := Array.replicate 37 none
  statics := none }

def pool7 : Array CpInfo := pool [(1, .class_ 2), (0, u "java/lang/Integer"), (16, u "digits"), (0, u "[C"), (46, u "<init>"), (17, u "DigitOnes"), (0, u "[B"), (2, u "DigitTens"), (10, .nameAndType 67 101), (0, u "()V"), (85, u "valueOf"), (0, u "(I)Ljava/lang/Integer;"), (0, .class_ 190), (0, u "java/lang/Integer$IntegerCache"), (0, .fieldref 189 192), (0, .nameAndType 193 194), (0, u "high"), (0, u "I"), (0, .fieldref 189 196), (0, .nameAndType 197 198), (0, u "cache"), (0, u "[Ljava/lang/Integer;"), (0, .methodref 1 200), (0, .nameAndType 67 201), (0, u "(I)V"), (0, .methodref 203 100), (0, .class_ 204), (0, u "java/lang/Number"), (0, .fieldref 1 206), (0, .nameAndType 207 194), (0, u "value"), (94, u "TYPE"), (0, u "Ljava/lang/Class;"), (0, .class_ 305), (0, u "java/lang/Comparable"), (0, .class_ 307), (0, u "java/lang/constant/Constable"), (0, .class_ 309), (0, u "java/lang/constant/ConstantDesc"), (0, u "MIN_VALUE"), (1, u "MAX_VALUE"), (3, u "SIZE"), (1, u "BYTES"), (1, u "serialVersionUID"), (0, u "J")] 131

def k7c0 : Code := { maxStack := 3, maxLocals := 1, code := jdk_33_method_22_code, exceptionTable := #[], attributes := #[] }
def k7m0 : Method := { name := "valueOf", desc := "(I)Ljava/lang/Integer;", sig := { parameters := [.int], returnType := some (.object "java/lang/Integer") }, accessFlags := 9, code := some k7c0 }
def k7c1 : Code := { maxStack := 2, maxLocals := 2, code := jdk_33_method_23_code, exceptionTable := #[], attributes := #[] }
def k7m1 : Method := { name := "<init>", desc := "(I)V", sig := { parameters := [.int], returnType := none }, accessFlags := 1, code := some k7c1 }
/-- java/lang/Integer -/
def k7 : Class := { plain "java/lang/Integer" (some 3) with
  accessFlags := 49
  interfaces := #[4, 5, 6]
  cf := some (fileOf pool7 1 #[.nestMembers #[189]] #[{ accessFlags := 9, nameIndex := 187, descriptorIndex := 188, attributes := #[] }, { accessFlags := 1, nameIndex := 67, descriptorIndex := 201, attributes := #[] }] 49 203 #[304, 306, 308] #[{ accessFlags := 25, nameIndex := 310, descriptorIndex := 194, attributes := #[] }, { accessFlags := 25, nameIndex := 312, descriptorIndex := 194, attributes := #[] }, { accessFlags := 25, nameIndex := 302, descriptorIndex := 303, attributes := #[] }, { accessFlags := 24, nameIndex := 19, descriptorIndex := 20, attributes := #[] }, { accessFlags := 24, nameIndex := 89, descriptorIndex := 86, attributes := #[] }, { accessFlags := 24, nameIndex := 85, descriptorIndex := 86, attributes := #[] }, { accessFlags := 18, nameIndex := 207, descriptorIndex := 194, attributes := #[] }, { accessFlags := 25, nameIndex := 316, descriptorIndex := 194, attributes := #[] }, { accessFlags := 25, nameIndex := 318, descriptorIndex := 194, attributes := #[] }, { accessFlags := 26, nameIndex := 320, descriptorIndex := 321, attributes := #[] }])
  fields := #[{ name := "MIN_VALUE", type := .int, accessFlags := 25, slot := 0, constantValue := 0 }, { name := "MAX_VALUE", type := .int, accessFlags := 25, slot := 1, constantValue := 0 }, { name := "TYPE", type := (.object "java/lang/Class"), accessFlags := 25, slot := 2, constantValue := 0 }, { name := "digits", type := (.array .char), accessFlags := 24, slot := 3, constantValue := 0 }, { name := "DigitTens", type := (.array .byte), accessFlags := 24, slot := 4, constantValue := 0 }, { name := "DigitOnes", type := (.array .byte), accessFlags := 24, slot := 5, constantValue := 0 }, { name := "value", type := .int, accessFlags := 18, slot := 0, constantValue := 0 }, { name := "SIZE", type := .int, accessFlags := 25, slot := 6, constantValue := 0 }, { name := "BYTES", type := .int, accessFlags := 25, slot := 7, constantValue := 0 }, { name := "serialVersionUID", type := .long, accessFlags := 26, slot := 8, constantValue := 0 }]
  methods := #[k7m0, k7m1]
  instanceTypes := #[.int]
  staticTypes := #[.int, .int, (.object "java/lang/Class"), (.array .char), (.array .byte), (.array .byte), .int, .int, .long]
  resolved := Array.replicate 453 none
  statics := none }

def pool8 : Array CpInfo := pool [(2, .class_ 4), (1, u "java/lang/Object"), (0, u "<init>"), (0, u "()V"), (0, .class_ 8), (0, u "java/lang/Integer"), (7, .class_ 18), (1, u "java/lang/Integer$IntegerCache"), (0, u "$assertionsDisabled"), (0, u "Z"), (26, u "high"), (0, u "I"), (8, u "archivedCache"), (0, u "[Ljava/lang/Integer;"), (12, u "cache"), (0, u "low")] 27

def k8m0 : Method := { name := "<init>", desc := "()V", sig := { parameters := [], returnType := none }, accessFlags := 2, code := none }
/-- java/lang/Integer$IntegerCache -/
def k8 : Class := { plain "java/lang/Integer$IntegerCache" (some 0) with
  accessFlags := 48
  interfaces := #[]
  cf := some (fileOf pool8 16 #[.nestHost 7] #[{ accessFlags := 2, nameIndex := 5, descriptorIndex := 6, attributes := #[] }] 48 2 #[] #[{ accessFlags := 24, nameIndex := 72, descriptorIndex := 48, attributes := #[] }, { accessFlags := 24, nameIndex := 47, descriptorIndex := 48, attributes := #[] }, { accessFlags := 24, nameIndex := 71, descriptorIndex := 58, attributes := #[] }, { accessFlags := 8, nameIndex := 57, descriptorIndex := 58, attributes := #[] }, { accessFlags := 4120, nameIndex := 19, descriptorIndex := 20, attributes := #[] }])
  fields := #[{ name := "low", type := .int, accessFlags := 24, slot := 0, constantValue := 0 }, { name := "high", type := .int, accessFlags := 24, slot := 1, constantValue := 0 }, { name := "cache", type := (.array (.object "java/lang/Integer")), accessFlags := 24, slot := 2, constantValue := 0 }, { name := "archivedCache", type := (.array (.object "java/lang/Integer")), accessFlags := 8, slot := 3, constantValue := 0 }, { name := "$assertionsDisabled", type := .boolean, accessFlags := 4120, slot := 4, constantValue := 0 }]
  methods := #[k8m0]
  instanceTypes := #[]
  staticTypes := #[.int, .int, (.array (.object "java/lang/Integer")), (.array (.object "java/lang/Integer")), .boolean]
  resolved := Array.replicate 100 none
  statics := some 0 }

def pool9 : Array CpInfo := pool [(23, .class_ 25), (1, u "java/util/Map$Entry"), (6, .class_ 34), (1, u "java/util/Map"), (34, .class_ 70), (0, u "java/lang/Object")] 107

/-- java/util/Map$Entry -/
def k9 : Class := { plain "java/util/Map$Entry" (some 0) with
  accessFlags := 1537
  interfaces := #[]
  cf := some (fileOf pool9 23 #[.nestHost 32] #[] 1537 69 #[] #[])
  fields := #[]
  methods := #[]
  instanceTypes := #[]
  staticTypes := #[]
  resolved := Array.replicate 178 none
  statics := none }

def pool10 : Array CpInfo := pool [(1, .methodref 2 3), (0, .class_ 4), (0, .nameAndType 5 6), (0, u "java/lang/Object"), (0, u "<init>"), (0, u "()V"), (0, .fieldref 8 9), (0, .class_ 10), (0, .nameAndType 11 12), (0, u "io/github/encounter/SequencedHashMap$Node"), (0, u "hash"), (0, u "I"), (0, .fieldref 8 14), (0, .nameAndType 15 16), (0, u "key"), (0, u "Ljava/lang/Object;"), (0, .fieldref 8 18), (0, .nameAndType 19 16), (0, u "value"), (0, .class_ 21), (0, u "java/util/Map$Entry"), (2, u "getKey"), (0, u "()Ljava/lang/Object;"), (8, u "getValue"), (17, u "next"), (0, u "Lio/github/encounter/SequencedHashMap$Node;"), (1, u "before"), (0, u "after"), (0, u "(ILjava/lang/Object;Ljava/lang/Object;)V"), (5, u "setValue"), (0, u "(Ljava/lang/Object;)Ljava/lang/Object;"), (10, .class_ 76), (0, u "io/github/encounter/SequencedHashMap")] 19

def k10c0 : Code := { maxStack := 2, maxLocals := 4, code := prog_16_method_1_code, exceptionTable := #[], attributes := #[] }
def k10m0 : Method := { name := "<init>", desc := "(ILjava/lang/Object;Ljava/lang/Object;)V", sig := { parameters := [.int, (.object "java/lang/Object"), (.object "java/lang/Object")], returnType := none }, accessFlags := 0, code := some k10c0 }
def k10c1 : Code := { maxStack := 1, maxLocals := 1, code := prog_16_method_2_code, exceptionTable := #[], attributes := #[] }
def k10m1 : Method := { name := "getKey", desc := "()Ljava/lang/Object;", sig := { parameters := [], returnType := some (.object "java/lang/Object") }, accessFlags := 1, code := some k10c1 }
def k10c2 : Code := { maxStack := 1, maxLocals := 1, code := prog_16_method_3_code, exceptionTable := #[], attributes := #[] }
def k10m2 : Method := { name := "getValue", desc := "()Ljava/lang/Object;", sig := { parameters := [], returnType := some (.object "java/lang/Object") }, accessFlags := 1, code := some k10c2 }
def k10c3 : Code := { maxStack := 2, maxLocals := 3, code := prog_16_method_4_code, exceptionTable := #[], attributes := #[] }
def k10m3 : Method := { name := "setValue", desc := "(Ljava/lang/Object;)Ljava/lang/Object;", sig := { parameters := [(.object "java/lang/Object")], returnType := some (.object "java/lang/Object") }, accessFlags := 1, code := some k10c3 }
/-- io/github/encounter/SequencedHashMap$Node -/
def k10 : Class := { plain "io/github/encounter/SequencedHashMap$Node" (some 0) with
  accessFlags := 32
  interfaces := #[9]
  cf := some (fileOf pool10 8 #[.nestHost 75] #[{ accessFlags := 0, nameIndex := 5, descriptorIndex := 57, attributes := #[] }, { accessFlags := 1, nameIndex := 24, descriptorIndex := 25, attributes := #[] }, { accessFlags := 1, nameIndex := 34, descriptorIndex := 25, attributes := #[] }, { accessFlags := 1, nameIndex := 63, descriptorIndex := 64, attributes := #[] }] 32 2 #[20] #[{ accessFlags := 16, nameIndex := 11, descriptorIndex := 12, attributes := #[] }, { accessFlags := 16, nameIndex := 15, descriptorIndex := 16, attributes := #[] }, { accessFlags := 0, nameIndex := 19, descriptorIndex := 16, attributes := #[] }, { accessFlags := 0, nameIndex := 52, descriptorIndex := 53, attributes := #[] }, { accessFlags := 0, nameIndex := 55, descriptorIndex := 53, attributes := #[] }, { accessFlags := 0, nameIndex := 56, descriptorIndex := 53, attributes := #[] }])
  fields := #[{ name := "hash", type := .int, accessFlags := 16, slot := 0, constantValue := 0 }, { name := "key", type := (.object "java/lang/Object"), accessFlags := 16, slot := 1, constantValue := 0 }, { name := "value", type := (.object "java/lang/Object"), accessFlags := 0, slot := 2, constantValue := 0 }, { name := "next", type := (.object "io/github/encounter/SequencedHashMap$Node"), accessFlags := 0, slot := 3, constantValue := 0 }, { name := "before", type := (.object "io/github/encounter/SequencedHashMap$Node"), accessFlags := 0, slot := 4, constantValue := 0 }, { name := "after", type := (.object "io/github/encounter/SequencedHashMap$Node"), accessFlags := 0, slot := 5, constantValue := 0 }]
  methods := #[k10m0, k10m1, k10m2, k10m3]
  instanceTypes := #[.int, (.object "java/lang/Object"), (.object "java/lang/Object"), (.object "io/github/encounter/SequencedHashMap$Node"), (.object "io/github/encounter/SequencedHashMap$Node"), (.object "io/github/encounter/SequencedHashMap$Node")]
  staticTypes := #[]
  resolved := Array.replicate 96 none
  statics := none }

def pool11 : Array CpInfo := pool [(1, u "java/lang/Cloneable"), (0, .class_ 1), (0, u "java/lang/Object"), (0, .class_ 3)] 3

/-- java/lang/Cloneable -/
def k11 : Class := { plain "java/lang/Cloneable" (some 0) with
  accessFlags := 1537
  interfaces := #[]
  cf := some (fileOf pool11 2 #[] #[] 1537 4 #[] #[])
  fields := #[]
  methods := #[]
  instanceTypes := #[]
  staticTypes := #[]
  resolved := Array.replicate 8 none
  statics := none }

/-- the primitive byte -/
def k12 : Class := { plain "byte" none with kind := .primitive 'B', accessFlags := 0x411 }
/-- [B -/
def k13 : Class := { plain "[B" (some 0) with kind := .array 12 .byte, interfaces := #[11, 2], accessFlags := 1041 }

/-- the primitive int -/
def k14 : Class := { plain "int" none with kind := .primitive 'I', accessFlags := 0x411 }
/-- [I -/
def k15 : Class := { plain "[I" (some 0) with kind := .array 14 .int, interfaces := #[11, 2], accessFlags := 1041 }

/-- [Ljava/lang/Integer; -/
def k16 : Class := { plain "[Ljava/lang/Integer;" (some 0) with kind := .array 7 (.object "java/lang/Integer"), interfaces := #[11, 2], accessFlags := 1041 }

def heap : Heap := #[{ cls := 8, slots := #[.int 0, .int 127, .ref 1, .null, .int 0], vm := .statics 8 },
  { cls := 16, slots := #[.ref 2, .ref 3, .ref 4, .ref 5, .ref 6, .ref 7, .ref 8, .ref 9, .ref 10, .ref 11, .ref 12, .ref 13, .ref 14, .ref 15, .ref 16, .ref 17, .ref 18, .ref 19, .ref 20, .ref 21, .ref 22, .ref 23, .ref 24, .ref 25, .ref 26, .ref 27, .ref 28, .ref 29, .ref 30, .ref 31, .ref 32, .ref 33, .ref 34, .ref 35, .ref 36, .ref 37, .ref 38, .ref 39, .ref 40, .ref 41, .ref 42, .ref 43, .ref 44, .ref 45, .ref 46, .ref 47, .ref 48, .ref 49, .ref 50, .ref 51, .ref 52, .ref 53, .ref 54, .ref 55, .ref 56, .ref 57, .ref 58, .ref 59, .ref 60, .ref 61, .ref 62, .ref 63, .ref 64, .ref 65, .ref 66, .ref 67, .ref 68, .ref 69, .ref 70, .ref 71, .ref 72, .ref 73, .ref 74, .ref 75, .ref 76, .ref 77, .ref 78, .ref 79, .ref 80, .ref 81, .ref 82, .ref 83, .ref 84, .ref 85, .ref 86, .ref 87, .ref 88, .ref 89, .ref 90, .ref 91, .ref 92, .ref 93, .ref 94, .ref 95, .ref 96, .ref 97, .ref 98, .ref 99, .ref 100, .ref 101, .ref 102, .ref 103, .ref 104, .ref 105, .ref 106, .ref 107, .ref 108, .ref 109, .ref 110, .ref 111, .ref 112, .ref 113, .ref 114, .ref 115, .ref 116, .ref 117, .ref 118, .ref 119, .ref 120, .ref 121, .ref 122, .ref 123, .ref 124, .ref 125, .ref 126, .ref 127, .ref 128, .ref 129, .ref 130, .ref 131, .ref 132, .ref 133, .ref 134, .ref 135, .ref 136, .ref 137, .ref 138, .ref 139, .ref 140, .ref 141, .ref 142, .ref 143, .ref 144, .ref 145, .ref 146, .ref 147, .ref 148, .ref 149, .ref 150, .ref 151, .ref 152, .ref 153, .ref 154, .ref 155, .ref 156, .ref 157, .ref 158, .ref 159, .ref 160, .ref 161, .ref 162, .ref 163, .ref 164, .ref 165, .ref 166, .ref 167, .ref 168, .ref 169, .ref 170, .ref 171, .ref 172, .ref 173, .ref 174, .ref 175, .ref 176, .ref 177, .ref 178, .ref 179, .ref 180, .ref 181, .ref 182, .ref 183, .ref 184, .ref 185, .ref 186, .ref 187, .ref 188, .ref 189, .ref 190, .ref 191, .ref 192, .ref 193, .ref 194, .ref 195, .ref 196, .ref 197, .ref 198, .ref 199, .ref 200, .ref 201, .ref 202, .ref 203, .ref 204, .ref 205, .ref 206, .ref 207, .ref 208, .ref 209, .ref 210, .ref 211, .ref 212, .ref 213, .ref 214, .ref 215, .ref 216, .ref 217, .ref 218, .ref 219, .ref 220, .ref 221, .ref 222, .ref 223, .ref 224, .ref 225, .ref 226, .ref 227, .ref 228, .ref 229, .ref 230, .ref 231, .ref 232, .ref 233, .ref 234, .ref 235, .ref 236, .ref 237, .ref 238, .ref 239, .ref 240, .ref 241, .ref 242, .ref 243, .ref 244, .ref 245, .ref 246, .ref 247, .ref 248, .ref 249, .ref 250, .ref 251, .ref 252, .ref 253, .ref 254, .ref 255, .ref 256, .ref 257], vm := .none },
  { cls := 7, slots := #[.int (-128)], vm := .none },
  { cls := 7, slots := #[.int (-127)], vm := .none },
  { cls := 7, slots := #[.int (-126)], vm := .none },
  { cls := 7, slots := #[.int (-125)], vm := .none },
  { cls := 7, slots := #[.int (-124)], vm := .none },
  { cls := 7, slots := #[.int (-123)], vm := .none },
  { cls := 7, slots := #[.int (-122)], vm := .none },
  { cls := 7, slots := #[.int (-121)], vm := .none },
  { cls := 7, slots := #[.int (-120)], vm := .none },
  { cls := 7, slots := #[.int (-119)], vm := .none },
  { cls := 7, slots := #[.int (-118)], vm := .none },
  { cls := 7, slots := #[.int (-117)], vm := .none },
  { cls := 7, slots := #[.int (-116)], vm := .none },
  { cls := 7, slots := #[.int (-115)], vm := .none },
  { cls := 7, slots := #[.int (-114)], vm := .none },
  { cls := 7, slots := #[.int (-113)], vm := .none },
  { cls := 7, slots := #[.int (-112)], vm := .none },
  { cls := 7, slots := #[.int (-111)], vm := .none },
  { cls := 7, slots := #[.int (-110)], vm := .none },
  { cls := 7, slots := #[.int (-109)], vm := .none },
  { cls := 7, slots := #[.int (-108)], vm := .none },
  { cls := 7, slots := #[.int (-107)], vm := .none },
  { cls := 7, slots := #[.int (-106)], vm := .none },
  { cls := 7, slots := #[.int (-105)], vm := .none },
  { cls := 7, slots := #[.int (-104)], vm := .none },
  { cls := 7, slots := #[.int (-103)], vm := .none },
  { cls := 7, slots := #[.int (-102)], vm := .none },
  { cls := 7, slots := #[.int (-101)], vm := .none },
  { cls := 7, slots := #[.int (-100)], vm := .none },
  { cls := 7, slots := #[.int (-99)], vm := .none },
  { cls := 7, slots := #[.int (-98)], vm := .none },
  { cls := 7, slots := #[.int (-97)], vm := .none },
  { cls := 7, slots := #[.int (-96)], vm := .none },
  { cls := 7, slots := #[.int (-95)], vm := .none },
  { cls := 7, slots := #[.int (-94)], vm := .none },
  { cls := 7, slots := #[.int (-93)], vm := .none },
  { cls := 7, slots := #[.int (-92)], vm := .none },
  { cls := 7, slots := #[.int (-91)], vm := .none },
  { cls := 7, slots := #[.int (-90)], vm := .none },
  { cls := 7, slots := #[.int (-89)], vm := .none },
  { cls := 7, slots := #[.int (-88)], vm := .none },
  { cls := 7, slots := #[.int (-87)], vm := .none },
  { cls := 7, slots := #[.int (-86)], vm := .none },
  { cls := 7, slots := #[.int (-85)], vm := .none },
  { cls := 7, slots := #[.int (-84)], vm := .none },
  { cls := 7, slots := #[.int (-83)], vm := .none },
  { cls := 7, slots := #[.int (-82)], vm := .none },
  { cls := 7, slots := #[.int (-81)], vm := .none },
  { cls := 7, slots := #[.int (-80)], vm := .none },
  { cls := 7, slots := #[.int (-79)], vm := .none },
  { cls := 7, slots := #[.int (-78)], vm := .none },
  { cls := 7, slots := #[.int (-77)], vm := .none },
  { cls := 7, slots := #[.int (-76)], vm := .none },
  { cls := 7, slots := #[.int (-75)], vm := .none },
  { cls := 7, slots := #[.int (-74)], vm := .none },
  { cls := 7, slots := #[.int (-73)], vm := .none },
  { cls := 7, slots := #[.int (-72)], vm := .none },
  { cls := 7, slots := #[.int (-71)], vm := .none },
  { cls := 7, slots := #[.int (-70)], vm := .none },
  { cls := 7, slots := #[.int (-69)], vm := .none },
  { cls := 7, slots := #[.int (-68)], vm := .none },
  { cls := 7, slots := #[.int (-67)], vm := .none },
  { cls := 7, slots := #[.int (-66)], vm := .none },
  { cls := 7, slots := #[.int (-65)], vm := .none },
  { cls := 7, slots := #[.int (-64)], vm := .none },
  { cls := 7, slots := #[.int (-63)], vm := .none },
  { cls := 7, slots := #[.int (-62)], vm := .none },
  { cls := 7, slots := #[.int (-61)], vm := .none },
  { cls := 7, slots := #[.int (-60)], vm := .none },
  { cls := 7, slots := #[.int (-59)], vm := .none },
  { cls := 7, slots := #[.int (-58)], vm := .none },
  { cls := 7, slots := #[.int (-57)], vm := .none },
  { cls := 7, slots := #[.int (-56)], vm := .none },
  { cls := 7, slots := #[.int (-55)], vm := .none },
  { cls := 7, slots := #[.int (-54)], vm := .none },
  { cls := 7, slots := #[.int (-53)], vm := .none },
  { cls := 7, slots := #[.int (-52)], vm := .none },
  { cls := 7, slots := #[.int (-51)], vm := .none },
  { cls := 7, slots := #[.int (-50)], vm := .none },
  { cls := 7, slots := #[.int (-49)], vm := .none },
  { cls := 7, slots := #[.int (-48)], vm := .none },
  { cls := 7, slots := #[.int (-47)], vm := .none },
  { cls := 7, slots := #[.int (-46)], vm := .none },
  { cls := 7, slots := #[.int (-45)], vm := .none },
  { cls := 7, slots := #[.int (-44)], vm := .none },
  { cls := 7, slots := #[.int (-43)], vm := .none },
  { cls := 7, slots := #[.int (-42)], vm := .none },
  { cls := 7, slots := #[.int (-41)], vm := .none },
  { cls := 7, slots := #[.int (-40)], vm := .none },
  { cls := 7, slots := #[.int (-39)], vm := .none },
  { cls := 7, slots := #[.int (-38)], vm := .none },
  { cls := 7, slots := #[.int (-37)], vm := .none },
  { cls := 7, slots := #[.int (-36)], vm := .none },
  { cls := 7, slots := #[.int (-35)], vm := .none },
  { cls := 7, slots := #[.int (-34)], vm := .none },
  { cls := 7, slots := #[.int (-33)], vm := .none },
  { cls := 7, slots := #[.int (-32)], vm := .none },
  { cls := 7, slots := #[.int (-31)], vm := .none },
  { cls := 7, slots := #[.int (-30)], vm := .none },
  { cls := 7, slots := #[.int (-29)], vm := .none },
  { cls := 7, slots := #[.int (-28)], vm := .none },
  { cls := 7, slots := #[.int (-27)], vm := .none },
  { cls := 7, slots := #[.int (-26)], vm := .none },
  { cls := 7, slots := #[.int (-25)], vm := .none },
  { cls := 7, slots := #[.int (-24)], vm := .none },
  { cls := 7, slots := #[.int (-23)], vm := .none },
  { cls := 7, slots := #[.int (-22)], vm := .none },
  { cls := 7, slots := #[.int (-21)], vm := .none },
  { cls := 7, slots := #[.int (-20)], vm := .none },
  { cls := 7, slots := #[.int (-19)], vm := .none },
  { cls := 7, slots := #[.int (-18)], vm := .none },
  { cls := 7, slots := #[.int (-17)], vm := .none },
  { cls := 7, slots := #[.int (-16)], vm := .none },
  { cls := 7, slots := #[.int (-15)], vm := .none },
  { cls := 7, slots := #[.int (-14)], vm := .none },
  { cls := 7, slots := #[.int (-13)], vm := .none },
  { cls := 7, slots := #[.int (-12)], vm := .none },
  { cls := 7, slots := #[.int (-11)], vm := .none },
  { cls := 7, slots := #[.int (-10)], vm := .none },
  { cls := 7, slots := #[.int (-9)], vm := .none },
  { cls := 7, slots := #[.int (-8)], vm := .none },
  { cls := 7, slots := #[.int (-7)], vm := .none },
  { cls := 7, slots := #[.int (-6)], vm := .none },
  { cls := 7, slots := #[.int (-5)], vm := .none },
  { cls := 7, slots := #[.int (-4)], vm := .none },
  { cls := 7, slots := #[.int (-3)], vm := .none },
  { cls := 7, slots := #[.int (-2)], vm := .none },
  { cls := 7, slots := #[.int (-1)], vm := .none },
  { cls := 7, slots := #[.int 0], vm := .none },
  { cls := 7, slots := #[.int 1], vm := .none },
  { cls := 7, slots := #[.int 2], vm := .none },
  { cls := 7, slots := #[.int 3], vm := .none },
  { cls := 7, slots := #[.int 4], vm := .none },
  { cls := 7, slots := #[.int 5], vm := .none },
  { cls := 7, slots := #[.int 6], vm := .none },
  { cls := 7, slots := #[.int 7], vm := .none },
  { cls := 7, slots := #[.int 8], vm := .none },
  { cls := 7, slots := #[.int 9], vm := .none },
  { cls := 7, slots := #[.int 10], vm := .none },
  { cls := 7, slots := #[.int 11], vm := .none },
  { cls := 7, slots := #[.int 12], vm := .none },
  { cls := 7, slots := #[.int 13], vm := .none },
  { cls := 7, slots := #[.int 14], vm := .none },
  { cls := 7, slots := #[.int 15], vm := .none },
  { cls := 7, slots := #[.int 16], vm := .none },
  { cls := 7, slots := #[.int 17], vm := .none },
  { cls := 7, slots := #[.int 18], vm := .none },
  { cls := 7, slots := #[.int 19], vm := .none },
  { cls := 7, slots := #[.int 20], vm := .none },
  { cls := 7, slots := #[.int 21], vm := .none },
  { cls := 7, slots := #[.int 22], vm := .none },
  { cls := 7, slots := #[.int 23], vm := .none },
  { cls := 7, slots := #[.int 24], vm := .none },
  { cls := 7, slots := #[.int 25], vm := .none },
  { cls := 7, slots := #[.int 26], vm := .none },
  { cls := 7, slots := #[.int 27], vm := .none },
  { cls := 7, slots := #[.int 28], vm := .none },
  { cls := 7, slots := #[.int 29], vm := .none },
  { cls := 7, slots := #[.int 30], vm := .none },
  { cls := 7, slots := #[.int 31], vm := .none },
  { cls := 7, slots := #[.int 32], vm := .none },
  { cls := 7, slots := #[.int 33], vm := .none },
  { cls := 7, slots := #[.int 34], vm := .none },
  { cls := 7, slots := #[.int 35], vm := .none },
  { cls := 7, slots := #[.int 36], vm := .none },
  { cls := 7, slots := #[.int 37], vm := .none },
  { cls := 7, slots := #[.int 38], vm := .none },
  { cls := 7, slots := #[.int 39], vm := .none },
  { cls := 7, slots := #[.int 40], vm := .none },
  { cls := 7, slots := #[.int 41], vm := .none },
  { cls := 7, slots := #[.int 42], vm := .none },
  { cls := 7, slots := #[.int 43], vm := .none },
  { cls := 7, slots := #[.int 44], vm := .none },
  { cls := 7, slots := #[.int 45], vm := .none },
  { cls := 7, slots := #[.int 46], vm := .none },
  { cls := 7, slots := #[.int 47], vm := .none },
  { cls := 7, slots := #[.int 48], vm := .none },
  { cls := 7, slots := #[.int 49], vm := .none },
  { cls := 7, slots := #[.int 50], vm := .none },
  { cls := 7, slots := #[.int 51], vm := .none },
  { cls := 7, slots := #[.int 52], vm := .none },
  { cls := 7, slots := #[.int 53], vm := .none },
  { cls := 7, slots := #[.int 54], vm := .none },
  { cls := 7, slots := #[.int 55], vm := .none },
  { cls := 7, slots := #[.int 56], vm := .none },
  { cls := 7, slots := #[.int 57], vm := .none },
  { cls := 7, slots := #[.int 58], vm := .none },
  { cls := 7, slots := #[.int 59], vm := .none },
  { cls := 7, slots := #[.int 60], vm := .none },
  { cls := 7, slots := #[.int 61], vm := .none },
  { cls := 7, slots := #[.int 62], vm := .none },
  { cls := 7, slots := #[.int 63], vm := .none },
  { cls := 7, slots := #[.int 64], vm := .none },
  { cls := 7, slots := #[.int 65], vm := .none },
  { cls := 7, slots := #[.int 66], vm := .none },
  { cls := 7, slots := #[.int 67], vm := .none },
  { cls := 7, slots := #[.int 68], vm := .none },
  { cls := 7, slots := #[.int 69], vm := .none },
  { cls := 7, slots := #[.int 70], vm := .none },
  { cls := 7, slots := #[.int 71], vm := .none },
  { cls := 7, slots := #[.int 72], vm := .none },
  { cls := 7, slots := #[.int 73], vm := .none },
  { cls := 7, slots := #[.int 74], vm := .none },
  { cls := 7, slots := #[.int 75], vm := .none },
  { cls := 7, slots := #[.int 76], vm := .none },
  { cls := 7, slots := #[.int 77], vm := .none },
  { cls := 7, slots := #[.int 78], vm := .none },
  { cls := 7, slots := #[.int 79], vm := .none },
  { cls := 7, slots := #[.int 80], vm := .none },
  { cls := 7, slots := #[.int 81], vm := .none },
  { cls := 7, slots := #[.int 82], vm := .none },
  { cls := 7, slots := #[.int 83], vm := .none },
  { cls := 7, slots := #[.int 84], vm := .none },
  { cls := 7, slots := #[.int 85], vm := .none },
  { cls := 7, slots := #[.int 86], vm := .none },
  { cls := 7, slots := #[.int 87], vm := .none },
  { cls := 7, slots := #[.int 88], vm := .none },
  { cls := 7, slots := #[.int 89], vm := .none },
  { cls := 7, slots := #[.int 90], vm := .none },
  { cls := 7, slots := #[.int 91], vm := .none },
  { cls := 7, slots := #[.int 92], vm := .none },
  { cls := 7, slots := #[.int 93], vm := .none },
  { cls := 7, slots := #[.int 94], vm := .none },
  { cls := 7, slots := #[.int 95], vm := .none },
  { cls := 7, slots := #[.int 96], vm := .none },
  { cls := 7, slots := #[.int 97], vm := .none },
  { cls := 7, slots := #[.int 98], vm := .none },
  { cls := 7, slots := #[.int 99], vm := .none },
  { cls := 7, slots := #[.int 100], vm := .none },
  { cls := 7, slots := #[.int 101], vm := .none },
  { cls := 7, slots := #[.int 102], vm := .none },
  { cls := 7, slots := #[.int 103], vm := .none },
  { cls := 7, slots := #[.int 104], vm := .none },
  { cls := 7, slots := #[.int 105], vm := .none },
  { cls := 7, slots := #[.int 106], vm := .none },
  { cls := 7, slots := #[.int 107], vm := .none },
  { cls := 7, slots := #[.int 108], vm := .none },
  { cls := 7, slots := #[.int 109], vm := .none },
  { cls := 7, slots := #[.int 110], vm := .none },
  { cls := 7, slots := #[.int 111], vm := .none },
  { cls := 7, slots := #[.int 112], vm := .none },
  { cls := 7, slots := #[.int 113], vm := .none },
  { cls := 7, slots := #[.int 114], vm := .none },
  { cls := 7, slots := #[.int 115], vm := .none },
  { cls := 7, slots := #[.int 116], vm := .none },
  { cls := 7, slots := #[.int 117], vm := .none },
  { cls := 7, slots := #[.int 118], vm := .none },
  { cls := 7, slots := #[.int 119], vm := .none },
  { cls := 7, slots := #[.int 120], vm := .none },
  { cls := 7, slots := #[.int 121], vm := .none },
  { cls := 7, slots := #[.int 122], vm := .none },
  { cls := 7, slots := #[.int 123], vm := .none },
  { cls := 7, slots := #[.int 124], vm := .none },
  { cls := 7, slots := #[.int 125], vm := .none },
  { cls := 7, slots := #[.int 126], vm := .none },
  { cls := 7, slots := #[.int 127], vm := .none }]
def classes : Array Class := #[k0, k1, k2, k3, k4, k5, k6, k7, k8, k9, k10, k11, k12, k13, k14, k15, k16]
def interned : List (Array UInt16 × Addr) := []
def slotsUsed : Nat := 517
def theMethod : MethodId := ⟨1, 1⟩
def args0 : Array Value := #[.int 1, .int 2, .int 3, .int 4, .int 5]
def aboutOver (below : List Frame) : State where
  vm := { classes := classes, interned := interned.toArray }
  heap := heap
  slotsUsed := slotsUsed
  threads := #[{ frames := .invoking theMethod args0 :: below }]
def below0 : List Frame := [.native { method := ⟨0, 0⟩, args := #[] }]
def about1 : State := aboutOver below0
def p0 : Program := .bare "" "" ""
def e0 : Env := launch0.env 0 0 0
theorem w_frames : about1.frames = Frame.invoking theMethod args0 :: below0 := rfl
set_option maxRecDepth 65536 in
theorem w_args : argsFit about1.vm theMethod args0 = true := by decide +kernel
set_option maxRecDepth 65536 in
theorem w_heap : heapFits about1 = true := by decide +kernel
set_option maxRecDepth 65536 in
theorem w_runnable : about1.curStatus? = some .runnable := by decide +kernel
set_option maxRecDepth 65536 in
theorem w_alone : about1.alone = true := by decide +kernel
set_option maxRecDepth 65536 in
theorem w_named : about1.methodNamed? x = some theMethod := by decide +kernel
set_option maxRecDepth 65536 in
theorem w_hears : about1.hears theMethod below0 = true := by decide +kernel
set_option maxRecDepth 65536 in
theorem w_ripe : about1.ripe theMethod args0 below0 = true := by decide +kernel
theorem w_running : about1.status = .running := rfl
set_option maxRecDepth 65536 in
theorem w_room : about1.hasRoom e0.platform room_1 = true :=
  launch0.hasRoom_least _ room_1 (by decide +kernel) (by decide +kernel) (by decide +kernel) (by decide +kernel) (by decide +kernel) (by decide +kernel)
theorem allAtoms_all (ts : List Jvm.Cond) (a : Array Jvm.Value) (st : Jvm.State) : (allAtoms ts).before a st = ts.all (fun c => c.before a st) := by
  induction ts with
  | nil => rfl
  | cons c t ih =>
    show (Jvm.Cond.and c (allAtoms t)).before a st = _
    rw [Jvm.Cond.before_and, ih, List.all_cons]
def words1 : List Jvm.Cond := Jvm.Cond.code x code maxLocals ret :: tables_1
/-- a 'code' word, met by the world's own term for the bytes: nothing is compared byte by byte -/
theorem code_word {y : MethodName} {bytes : ByteArray} {mx : Nat} {rt : Option FieldType} {a : Array Value} {s : State} {m : MethodId} {meth : Method} {c : Code} (h1 : s.methodNamed? y = some m) (h2 : s.vm.method? m = some meth) (h3 : meth.code = some c) (h4 : c.code = bytes)
    (h5 : (c.maxLocals == mx && c.exceptionTable.isEmpty && decide (c.maxStack ≤ mostOperands) && decide (meth.sig.returnType = rt) && !meth.locks && decide (parseMethodDescriptor y.desc = some meth.sig)) = true) : (Jvm.Cond.code y bytes mx rt).before a s = true := by
  simp only [Bool.and_eq_true, beq_iff_eq, Bool.not_eq_true', decide_eq_true_eq] at h5
  obtain ⟨⟨⟨⟨⟨g1, g2⟩, g3⟩, g4⟩, g5⟩, g6⟩ := h5
  simp [Cond.before, Cond.holds, Cond.value, h1, h2, h3, h4, g1, g2, g3, g4, g5, g6]
def isCode : Jvm.Cond → Bool
  | .code _ _ _ _ => true
  | _ => false
theorem all_split {L : List Jvm.Cond} {P : Jvm.Cond → Bool} (h1 : L.all (fun c => isCode c || P c) = true) (h2 : ∀ c ∈ L.filter isCode, P c = true) : L.all P = true := by
  refine List.all_eq_true.mpr fun c hc => ?_
  have h := List.all_eq_true.mp h1 c hc
  rcases Bool.eq_false_or_eq_true (isCode c) with hi | hi
  · exact h2 c (List.mem_filter.mpr ⟨hc, hi⟩)
  · simpa [hi] using h
set_option maxRecDepth 65536 in
theorem w_c0 : (Jvm.Cond.code x code maxLocals ret).before args0 about1 = true := code_word (m := ⟨1, 1⟩) (meth := k1m1) (c := k1c1) (by decide +kernel) rfl rfl rfl (by decide +kernel)
set_option maxRecDepth 65536 in
theorem w_c1 : (Jvm.Cond.code ({ cls := "java/lang/Integer", name := "valueOf", desc := "(I)Ljava/lang/Integer;" } : Jvm.MethodName) jdk_33_method_22_code (1 : Nat) (Option.some (Jvm.ClassFile.FieldType.object "java/lang/Integer"))).before args0 about1 = true := code_word (m := ⟨7, 0⟩) (meth := k7m0) (c := k7c0) (by decide +kernel) rfl rfl rfl (by decide +kernel)
set_option maxRecDepth 65536 in
theorem w_c2 : (Jvm.Cond.code ({ cls := "io/github/encounter/SequencedHashMap$Node", name := "<init>", desc := "(ILjava/lang/Object;Ljava/lang/Object;)V" } : Jvm.MethodName) prog_16_method_1_code (4 : Nat) (Option.none : Option Jvm.ClassFile.FieldType)).before args0 about1 = true := code_word (m := ⟨10, 0⟩) (meth := k10m0) (c := k10c0) (by decide +kernel) rfl rfl rfl (by decide +kernel)
set_option maxRecDepth 65536 in
theorem w_c3 : (Jvm.Cond.code ({ cls := "java/lang/Object", name := "<init>", desc := "()V" } : Jvm.MethodName) object_method_1_code (1 : Nat) (Option.none : Option Jvm.ClassFile.FieldType)).before args0 about1 = true := code_word (m := ⟨0, 0⟩) (meth := k0m0) (c := k0c0) (by decide +kernel) rfl rfl rfl (by decide +kernel)
set_option maxRecDepth 65536 in
theorem w_c4 : (Jvm.Cond.code ({ cls := "io/github/encounter/SequencedHashMap$Node", name := "setValue", desc := "(Ljava/lang/Object;)Ljava/lang/Object;" } : Jvm.MethodName) prog_16_method_4_code (3 : Nat) (Option.some (Jvm.ClassFile.FieldType.object "java/lang/Object"))).before args0 about1 = true := code_word (m := ⟨10, 3⟩) (meth := k10m3) (c := k10c3) (by decide +kernel) rfl rfl rfl (by decide +kernel)
set_option maxRecDepth 65536 in
theorem w_c5 : (Jvm.Cond.code ({ cls := "io/github/encounter/SequencedHashMap$Node", name := "getValue", desc := "()Ljava/lang/Object;" } : Jvm.MethodName) prog_16_method_3_code (1 : Nat) (Option.some (Jvm.ClassFile.FieldType.object "java/lang/Object"))).before args0 about1 = true := code_word (m := ⟨10, 2⟩) (meth := k10m2) (c := k10c2) (by decide +kernel) rfl rfl rfl (by decide +kernel)
set_option maxRecDepth 65536 in
theorem w_c6 : (Jvm.Cond.code ({ cls := "io/github/encounter/SequencedHashMap$Node", name := "getKey", desc := "()Ljava/lang/Object;" } : Jvm.MethodName) prog_16_method_2_code (1 : Nat) (Option.some (Jvm.ClassFile.FieldType.object "java/lang/Object"))).before args0 about1 = true := code_word (m := ⟨10, 1⟩) (meth := k10m1) (c := k10c1) (by decide +kernel) rfl rfl rfl (by decide +kernel)
set_option maxRecDepth 65536 in
theorem w_c7 : (Jvm.Cond.code ({ cls := "java/lang/Integer", name := "<init>", desc := "(I)V" } : Jvm.MethodName) jdk_33_method_23_code (2 : Nat) (Option.none : Option Jvm.ClassFile.FieldType)).before args0 about1 = true := code_word (m := ⟨7, 1⟩) (meth := k7m1) (c := k7c1) (by decide +kernel) rfl rfl rfl (by decide +kernel)
set_option maxRecDepth 65536 in
theorem w_c8 : (Jvm.Cond.code ({ cls := "java/lang/Number", name := "<init>", desc := "()V" } : Jvm.MethodName) jdk_18_method_1_code (1 : Nat) (Option.none : Option Jvm.ClassFile.FieldType)).before args0 about1 = true := code_word (m := ⟨3, 0⟩) (meth := k3m0) (c := k3c0) (by decide +kernel) rfl rfl rfl (by decide +kernel)
def codes1 : List Jvm.Cond := [Jvm.Cond.code x code maxLocals ret, Jvm.Cond.code ({ cls := "java/lang/Integer", name := "valueOf", desc := "(I)Ljava/lang/Integer;" } : Jvm.MethodName) jdk_33_method_22_code (1 : Nat) (Option.some (Jvm.ClassFile.FieldType.object "java/lang/Integer")), Jvm.Cond.code ({ cls := "io/github/encounter/SequencedHashMap$Node", name := "<init>", desc := "(ILjava/lang/Object;Ljava/lang/Object;)V" } : Jvm.MethodName) prog_16_method_1_code (4 : Nat) (Option.none : Option Jvm.ClassFile.FieldType), Jvm.Cond.code ({ cls := "java/lang/Object", name := "<init>", desc := "()V" } : Jvm.MethodName) object_method_1_code (1 : Nat) (Option.none : Option Jvm.ClassFile.FieldType), Jvm.Cond.code ({ cls := "io/github/encounter/SequencedHashMap$Node", name := "setValue", desc := "(Ljava/lang/Object;)Ljava/lang/Object;" } : Jvm.MethodName) prog_16_method_4_code (3 : Nat) (Option.some (Jvm.ClassFile.FieldType.object "java/lang/Object")), Jvm.Cond.code ({ cls := "io/github/encounter/SequencedHashMap$Node", name := "getValue", desc := "()Ljava/lang/Object;" } : Jvm.MethodName) prog_16_method_3_code (1 : Nat) (Option.some (Jvm.ClassFile.FieldType.object "java/lang/Object")), Jvm.Cond.code ({ cls := "io/github/encounter/SequencedHashMap$Node", name := "getKey", desc := "()Ljava/lang/Object;" } : Jvm.MethodName) prog_16_method_2_code (1 : Nat) (Option.some (Jvm.ClassFile.FieldType.object "java/lang/Object")), Jvm.Cond.code ({ cls := "java/lang/Integer", name := "<init>", desc := "(I)V" } : Jvm.MethodName) jdk_33_method_23_code (2 : Nat) (Option.none : Option Jvm.ClassFile.FieldType), Jvm.Cond.code ({ cls := "java/lang/Number", name := "<init>", desc := "()V" } : Jvm.MethodName) jdk_18_method_1_code (1 : Nat) (Option.none : Option Jvm.ClassFile.FieldType)]
set_option maxRecDepth 65536 in
theorem codes_eq : words1.filter isCode = codes1 := rfl
theorem w_codes : ∀ c ∈ words1.filter isCode, c.before args0 about1 = true := by
  rw [codes_eq]
  intro c hc
  simp only [codes1, List.mem_cons, List.not_mem_nil, or_false] at hc
  rcases hc with rfl | rfl | rfl | rfl | rfl | rfl | rfl | rfl | rfl
  · exact w_c0
  · exact w_c1
  · exact w_c2
  · exact w_c3
  · exact w_c4
  · exact w_c5
  · exact w_c6
  · exact w_c7
  · exact w_c8
set_option maxRecDepth 65536 in
theorem w_t1 : (words1.take 24).all (fun c => isCode c || c.before args0 about1) = true := by decide +kernel
set_option maxRecDepth 65536 in
theorem w_t2 : ((words1.drop 24).take 24).all (fun c => isCode c || c.before args0 about1) = true := by decide +kernel
set_option maxRecDepth 65536 in
theorem w_t3 : ((words1.drop 24).drop 24).all (fun c => isCode c || c.before args0 about1) = true := by decide +kernel
theorem w_tables : (allAtoms (Jvm.Cond.code x code maxLocals ret :: tables_1)).before args0 about1 = true := by
  rw [allAtoms_all]
  show words1.all (fun c => c.before args0 about1) = true
  refine all_split ?_ w_codes
  rw [← List.take_append_drop 24 words1, List.all_append, w_t1, ← List.take_append_drop 24 (words1.drop 24), List.all_append, w_t2, w_t3]
  rfl
set_option maxRecDepth 65536 in
theorem w_rest : rest_1_c.before args0 about1 = true := by decide +kernel
set_option maxRecDepth 65536 in
theorem w_case : (Jvm.Cond.and given_1 narrow_1).before args0 about1 = true := by decide +kernel
theorem w_applies : (headSpec (Jvm.Cond.code x code maxLocals ret :: tables_1) room_1).applies x e0.platform about1 = true :=
  (Spec.applies_iff w_frames).mpr ⟨w_running, w_runnable, w_alone, w_named, w_hears, w_ripe, w_room, w_tables⟩
theorem atStart : AtStart classFile x code maxLocals ret World_1 tables_1 room_1 Calls_1 rest_1 Pre_1 launch0 p0 e0 about1 theMethod args0 below0 :=
  ⟨lists_1, trivial, launch0.admits_env _ _ _, launch0.least_env, fairChoices_fair.cas, fairChoices_fair.clock, w_frames, w_args, w_heap, w_applies, trivial, w_rest, w_case⟩
end start1
theorem witness_1 : WitnessClaimed_1 := ⟨start1.p0, start1.e0, start1.about1, start1.theMethod, start1.args0, start1.below0, start1.atStart⟩
end Jvm.Pilot.@@N@@
