import JvmDerived
import JvmDerived.Pilot.@@N@@Statement
import JvmDerived.Pilot.@@N@@Code
set_option linter.unusedVariables false
set_option linter.unusedSimpArgs false
namespace Jvm.MM
open Jvm Jvm.ClassFile Sem Op Lib Jvm.Free Jvm.Stand Jvm.LawKit Jvm.RoadKit
/-! A small machine over a picture of the new objects; its soundness over the library's laws. -/
abbrev Kd : Type := Sum FieldType Nat
abbrev Obj : Type := Kd × List Value
abbrev Hp : Type := List Obj
abbrev St : Type := Nat × List Slot × List Value × Hp × Nat × Nat
abbrev MRes : Type := Option Value × Hp
abbrev Mth : Type := MethodName × ByteArray × Nat × Option FieldType × Room
abbrev Fds : Type := List (String × String × String × FieldType)
abbrev Cls : Type := String × Nat × Fds
/-- methods; classes; fields read and fields written (method, entry, class, place); statics (method, entry, number) and their values; new and anewarray (method, entry, class); the kinds of arrays made; casts (method, entry, kind, answer); int and long constants; static and special calls (method, entry, kind, parameters, callee); virtual calls (method, entry, class, parameters, callee); the greatest lengths of new arrays (method, pc, cap); how many objects stood already -/
abbrev Prg : Type := List Mth × List Cls × List (Nat × Nat × Nat × Nat) × List (Nat × Nat × Nat × Nat) × List (Nat × Nat × Nat) × List (String × String × String × Value) × List (Nat × Nat × Nat) × List (Nat × Nat × Nat) × List FieldType × List (Nat × Nat × Kd × Bool) × List (Nat × Nat × Int32) × List (Nat × Nat × Int64) × List (Nat × Nat × Nat × Nat × Nat) × List (Nat × Nat × Nat × Nat × Nat) × List (Nat × Nat × Nat) × Nat
def Prg.ms (P : Prg) := P.1
def Prg.cs (P : Prg) := P.2.1
def Prg.fl (P : Prg) := P.2.2.1
def Prg.fw (P : Prg) := P.2.2.2.1
def Prg.sf (P : Prg) := P.2.2.2.2.1
def Prg.sv (P : Prg) := P.2.2.2.2.2.1
def Prg.nw (P : Prg) := P.2.2.2.2.2.2.1
def Prg.na (P : Prg) := P.2.2.2.2.2.2.2.1
def Prg.ats (P : Prg) := P.2.2.2.2.2.2.2.2.1
def Prg.ca (P : Prg) := P.2.2.2.2.2.2.2.2.2.1
def Prg.ki (P : Prg) := P.2.2.2.2.2.2.2.2.2.2.1
def Prg.kl (P : Prg) := P.2.2.2.2.2.2.2.2.2.2.2.1
def Prg.ic (P : Prg) := P.2.2.2.2.2.2.2.2.2.2.2.2.1
def Prg.vc (P : Prg) := P.2.2.2.2.2.2.2.2.2.2.2.2.2.1
def Prg.cp (P : Prg) := P.2.2.2.2.2.2.2.2.2.2.2.2.2.2.1
def Prg.j0 (P : Prg) := P.2.2.2.2.2.2.2.2.2.2.2.2.2.2.2
def dummy : Mth := (⟨"", "", ""⟩, ⟨#[]⟩, 0, none, { frames := 0, cells := 0, slots := 0, locals := 0 })
def Prg.mt (P : Prg) (j : Nat) : Mth := match P.ms[j]? with | some M => M | none => dummy
def Mth.y (M : Mth) : MethodName := M.1
def Mth.code (M : Mth) : ByteArray := M.2.1
def Mth.mx (M : Mth) : Nat := M.2.2.1
def Mth.ret (M : Mth) : Option FieldType := M.2.2.2.1
def Mth.rm (M : Mth) : Room := M.2.2.2.2
def Prg.cname (P : Prg) (c : Nat) : String := match P.cs[c]? with | some C => C.1 | none => ""
def Prg.flds (P : Prg) (c : Nat) : Fds := match P.cs[c]? with | some C => C.2.2 | none => []
def Prg.nsl (P : Prg) (c : Nat) : Nat := match P.cs[c]? with | some C => C.2.1 | none => 0
def lk2 {α : Type} : List (Nat × Nat × α) → Nat → Nat → Option α
  | [], _, _ => none
  | x :: r, j, i => if x.1 = j ∧ x.2.1 = i then some x.2.2 else lk2 r j i
def lk3 {α : Type} : List (Nat × Nat × Nat × α) → Nat → Nat → Nat → Option α
  | [], _, _, _ => none
  | x :: r, j, i, c => if x.1 = j ∧ x.2.1 = i ∧ x.2.2.1 = c then some x.2.2.2 else lk3 r j i c
def lkK : List (Nat × Nat × Kd × Bool) → Nat → Nat → Kd → Option Bool
  | [], _, _, _ => none
  | x :: r, j, i, c => if x.1 = j ∧ x.2.1 = i ∧ x.2.2.1 = c then some x.2.2.2 else lkK r j i c
theorem lk2_mem {α : Type} : ∀ {T : List (Nat × Nat × α)} {j i : Nat} {x : α}, lk2 T j i = some x → (j, i, x) ∈ T
  | [], _, _, _, h => by cases h
  | y :: r, j, i, x, h => by
    obtain ⟨a, b, z⟩ := y
    by_cases q : a = j ∧ b = i
    · rw [show lk2 ((a, b, z) :: r) j i = some z from if_pos q] at h
      obtain ⟨rfl, rfl⟩ := q
      cases h
      exact List.mem_cons_self
    · rw [show lk2 ((a, b, z) :: r) j i = lk2 r j i from if_neg q] at h
      exact List.mem_cons_of_mem _ (lk2_mem h)
theorem lk3_mem {α : Type} : ∀ {T : List (Nat × Nat × Nat × α)} {j i c : Nat} {x : α}, lk3 T j i c = some x → (j, i, c, x) ∈ T
  | [], _, _, _, _, h => by cases h
  | y :: r, j, i, c, x, h => by
    obtain ⟨a, b, d, z⟩ := y
    by_cases q : a = j ∧ b = i ∧ d = c
    · rw [show lk3 ((a, b, d, z) :: r) j i c = some z from if_pos q] at h
      obtain ⟨rfl, rfl, rfl⟩ := q
      cases h
      exact List.mem_cons_self
    · rw [show lk3 ((a, b, d, z) :: r) j i c = lk3 r j i c from if_neg q] at h
      exact List.mem_cons_of_mem _ (lk3_mem h)
theorem lkK_mem : ∀ {T : List (Nat × Nat × Kd × Bool)} {j i : Nat} {c : Kd} {x : Bool}, lkK T j i c = some x → (j, i, c, x) ∈ T
  | [], _, _, _, _, h => by cases h
  | y :: r, j, i, c, x, h => by
    obtain ⟨a, b, d, z⟩ := y
    by_cases q : a = j ∧ b = i ∧ d = c
    · rw [show lkK ((a, b, d, z) :: r) j i c = some z from if_pos q] at h
      obtain ⟨rfl, rfl, rfl⟩ := q
      cases h
      exact List.mem_cons_self
    · rw [show lkK ((a, b, d, z) :: r) j i c = lkK r j i c from if_neg q] at h
      exact List.mem_cons_of_mem _ (lkK_mem h)
/-! ### the steps -/
def ilen : Instr → Nat
  | .aload _ | .astore _ | .iload _ | .istore _ | .lload _ | .lstore _ | .dload _ | .dstore _ | .bipush _ | .ldc _ | .newarray _ => 2
  | .sipush _ | .iinc _ _ | .getfield _ | .putfield _ | .getstatic _ | .goto _ | .ifCond _ _ | .if_icmp _ _ | .if_acmp _ _ | .ifnull _ | .ifnonnull _ | .new _ | .anewarray _ | .checkcast _ | .instanceof _ | .invokestatic _ | .invokespecial _ | .invokevirtual _ | .ldc2_w _ => 3
  | _ => 1
def isI : Value → Bool | .int _ => true | _ => false
def isJ : Value → Bool | .long _ => true | _ => false
def isD : Value → Bool | .double _ => true | _ => false
def isA : Value → Bool | .null => true | .ref _ => true | _ => false
def cat : Value → Nat | .long _ => 2 | .double _ => 2 | _ => 1
def wt : List Value → Nat | [] => 0 | v :: r => cat v + wt r
def s1 : Slot → Bool | .unset => true | .val v => cat v == 1 | .second => false
def ld (q : Value → Bool) (L : List Slot) (k : Nat) (S : List Value) : Option (List Slot × List Value) := match L[k]? with | some (.val v) => if q v = true then some (L, v :: S) else none | _ => none
def so1 (L : List Slot) (k : Nat) : Bool := match L[k]? with | some o => s1 o | none => false
def so2 (L : List Slot) (k : Nat) : Bool := (match L[k]? with | some (.val _) => true | some .unset => true | _ => false) && (match L[k + 1]? with | some (.val v) => cat v == 1 | some _ => true | none => false)
def st1 (q : Value → Bool) (L : List Slot) (k : Nat) : List Value → Option (List Slot × List Value)
  | v :: S => if (q v && so1 L k) = true then some (L.set k (.val v), S) else none
  | [] => none
def st2 (q : Value → Bool) (L : List Slot) (k : Nat) : List Value → Option (List Slot × List Value)
  | v :: S => if (q v && so2 L k) = true then some ((L.set k (.val v)).set (k + 1) .second, S) else none
  | [] => none
def inc (L : List Slot) (k : Nat) (c : Int) (S : List Value) : Option (List Slot × List Value) := match L[k]? with | some (.val (.int x)) => some (L.set k (.val (.int (x + Int32.ofInt c))), S) | _ => none
def bI (f : Int32 → Int32 → Int32) : List Value → Option (List Value) | .int y :: .int x :: r => some (.int (f x y) :: r) | _ => none
def dI (f : Int32 → Int32 → Int32) : List Value → Option (List Value) | .int y :: .int x :: r => if y = 0 then none else some (.int (f x y) :: r) | _ => none
def uI (f : Int32 → Value) : List Value → Option (List Value) | .int x :: r => some (f x :: r) | _ => none
def bJ (f : Int64 → Int64 → Value) : List Value → Option (List Value) | .long y :: .long x :: r => some (f x y :: r) | _ => none
def sJ (f : Int64 → Int32 → Int64) : List Value → Option (List Value) | .int y :: .long x :: r => some (.long (f x y) :: r) | _ => none
def uJ (f : Int64 → Value) : List Value → Option (List Value) | .long x :: r => some (f x :: r) | _ => none
def bD (f : UInt64 → UInt64 → Value) : List Value → Option (List Value) | .double y :: .double x :: r => some (f x y :: r) | _ => none
def fdup : List Value → Option (List Value) | x :: r => if cat x = 1 then some (x :: x :: r) else none | _ => none
def fpop : List Value → Option (List Value) | x :: r => if cat x = 1 then some r else none | _ => none
def fdx1 : List Value → Option (List Value) | x :: y :: r => if cat x = 1 ∧ cat y = 1 then some (x :: y :: x :: r) else none | _ => none
def fd2 : List Value → Option (List Value)
  | .long x :: r => some (.long x :: .long x :: r)
  | x :: y :: r => if cat x = 1 ∧ cat y = 1 then some (x :: y :: x :: y :: r) else none
  | _ => none
def keepL (L : List Slot) (o : Option (List Value)) : Option (List Slot × List Value) := match o with | some S => some (L, S) | none => none
def plainI (i : Instr) (L : List Slot) (S : List Value) : Option (List Slot × List Value) :=
  match i with
  | .aconst_null => some (L, .null :: S)
  | .iconst k => some (L, .int (Int32.ofInt k) :: S)
  | .bipush k => some (L, .int (Int8.ofInt k).toInt32 :: S)
  | .sipush k => some (L, .int (Int16.ofInt k).toInt32 :: S)
  | .lconst k => some (L, .long (Int64.ofNat k) :: S)
  | .iload k => ld isI L k S
  | .iload_n k => ld isI L k.val S
  | .lload k => ld isJ L k S
  | .lload_n k => ld isJ L k.val S
  | .aload k => ld isA L k S
  | .aload_n k => ld isA L k.val S
  | .istore k => st1 isI L k S
  | .istore_n k => st1 isI L k.val S
  | .astore k => st1 isA L k S
  | .astore_n k => st1 isA L k.val S
  | .lstore k => st2 isJ L k S
  | .lstore_n k => st2 isJ L k.val S
  | .dload k => ld isD L k S
  | .dload_n k => ld isD L k.val S
  | .dstore k => st2 isD L k S
  | .dstore_n k => st2 isD L k.val S
  | .dconst d => some (L, .double (if d = 0 then FP.dconst0 else FP.dconst1) :: S)
  | .i2d => keepL L (uI (fun x => .double (FP.i2d x)) S)
  | .dcmp o => keepL L (bD (fun x y => .int (cmpValue (FP.dcmp x y) o)) S)
  | .iinc k c => inc L k c S
  | .iadd => keepL L (bI (fun x y => x + y) S)
  | .isub => keepL L (bI (fun x y => x - y) S)
  | .imul => keepL L (bI (fun x y => x * y) S)
  | .iand => keepL L (bI (fun x y => x &&& y) S)
  | .ior => keepL L (bI (fun x y => x ||| y) S)
  | .ixor => keepL L (bI (fun x y => x ^^^ y) S)
  | .ishl => keepL L (bI (fun x y => x <<< (y &&& 31)) S)
  | .ishr => keepL L (bI (fun x y => x >>> (y &&& 31)) S)
  | .iushr => keepL L (bI XT.ushr S)
  | .irem => keepL L (dI (fun x y => x % y) S)
  | .idiv => keepL L (dI (fun x y => x / y) S)
  | .ineg => keepL L (uI (fun x => .int (-x)) S)
  | .i2l => keepL L (uI (fun x => .long x.toInt64) S)
  | .i2b => keepL L (uI (fun x => .int x.toInt8.toInt32) S)
  | .i2c => keepL L (uI (fun x => .int x.toUInt32.toUInt16.toUInt32.toInt32) S)
  | .i2s => keepL L (uI (fun x => .int x.toInt16.toInt32) S)
  | .l2i => keepL L (uJ (fun x => .int x.toInt32) S)
  | .ladd => keepL L (bJ (fun x y => .long (x + y)) S)
  | .lsub => keepL L (bJ (fun x y => .long (x - y)) S)
  | .lmul => keepL L (bJ (fun x y => .long (x * y)) S)
  | .land => keepL L (bJ (fun x y => .long (x &&& y)) S)
  | .lor => keepL L (bJ (fun x y => .long (x ||| y)) S)
  | .lxor => keepL L (bJ (fun x y => .long (x ^^^ y)) S)
  | .lcmp => keepL L (bJ (fun x y => .int (XT.cmpL x y)) S)
  | .lshl => keepL L (sJ (fun x y => x <<< (y.toInt64 &&& 63)) S)
  | .lshr => keepL L (sJ (fun x y => x >>> (y.toInt64 &&& 63)) S)
  | .lushr => keepL L (sJ XT.ushrL S)
  | .dup => keepL L (fdup S)
  | .pop => keepL L (fpop S)
  | .dup_x1 => keepL L (fdx1 S)
  | .dup2 => keepL L (fd2 S)
  | _ => none
/-- taken or not; the offset; the stack behind -/
def brI (i : Instr) (S : List Value) : Option (Bool × Int × List Value) :=
  match i with
  | .goto o => some (true, o, S)
  | .ifCond c o => match S with | .int x :: r => some (ifCond.holds c x, o, r) | _ => none
  | .if_icmp c o => match S with | .int y :: .int x :: r => some (if_icmp.holds c x y, o, r) | _ => none
  | .if_acmp c o => match S with | y :: x :: r => if (isA x && isA y) = true then some (XT.acmp c x y, o, r) else none | _ => none
  | .ifnull o => match S with | .null :: r => some (true, o, r) | .ref _ :: r => some (false, o, r) | _ => none
  | .ifnonnull o => match S with | .null :: r => some (false, o, r) | .ref _ :: r => some (true, o, r) | _ => none
  | _ => none
/-- what a place of this type keeps of a value -/
def vty : FieldType → Value → Option Value
  | .int, .int x => some (.int x)
  | .boolean, .int x => some (.int (x &&& 1))
  | .byte, .int x => some (.int x.toInt8.toInt32)
  | .char, .int x => some (.int x.toUInt32.toUInt16.toUInt32.toInt32)
  | .short, .int x => some (.int x.toInt16.toInt32)
  | .long, .long x => some (.long x)
  | .double, .double x => some (.double x)
  | .object _, .null => some .null
  | .object _, .ref a => some (.ref a)
  | .array _, .null => some .null
  | .array _, .ref a => some (.ref a)
  | _, _ => none
def dft : FieldType → Value
  | .boolean | .byte | .char | .short | .int => .int 0
  | .long => .long 0
  | .float => .float 0
  | .double => .double 0
  | .object _ | .array _ => .null
/-- which component types an array load or store takes -/
def aty : Instr → FieldType → Bool
  | .iaload, .int | .iastore, .int | .baload, .byte | .bastore, .byte | .caload, .char | .castore, .char | .saload, .short | .laload, .long | .lastore, .long | .daload, .double | .dastore, .double => true
  | .aaload, .object _ => true
  | .aastore, .object _ => true
  | _, _ => false
def ldA (i : Instr) (H : Hp) (a : Nat) (x : Int32) : Option Value :=
  match H[a]? with
  | some (.inl ty, vs) => if aty i ty = true ∧ ¬ x < 0 then vs[x.toNatClampNeg]? else none
  | _ => none
def alen (H : Hp) (a : Nat) : Option Int32 :=
  match H[a]? with
  | some (.inl _, vs) => some vs.length.toInt32
  | _ => none
def stoOk (P : Prg) (H : Hp) : FieldType → Value → Bool
  | .object C, .ref b => match H[b]? with | some (.inr cid, _) => decide (cid < P.cs.length) && (P.cname cid == C) | _ => false
  | _, _ => true
def stA (P : Prg) (i : Instr) (H : Hp) (a : Nat) (x : Int32) (v : Value) : Option Hp :=
  if a < P.j0 then none else
  match H[a]? with
  | some (.inl ty, vs) => match vty ty v with
    | some v' => if aty i ty = true ∧ ¬ x < 0 ∧ x.toNatClampNeg < vs.length ∧ stoOk P H ty v' = true then some (H.set a (.inl ty, vs.set x.toNatClampNeg v')) else none
    | none => none
  | _ => none
def rdO (P : Prg) (j idx : Nat) (o : Obj) : Option Value :=
  match o with
  | (.inr cid, vs) => match lk3 P.fl j idx cid with | some q => vs[q]? | none => none
  | _ => none
def rdF (P : Prg) (j idx : Nat) (H : Hp) (a : Nat) : Option Value := match H[a]? with | some o => rdO P j idx o | none => none
def wrO (P : Prg) (j idx : Nat) (v : Value) (o : Obj) : Option Obj :=
  match o with
  | (.inr cid, vs) => match lk3 P.fw j idx cid with
    | some q => match (P.flds cid)[q]? with
      | some fd => match vty fd.2.2.2 v with
        | some v' => if q < vs.length then some (.inr cid, vs.set q v') else none
        | none => none
      | none => none
    | none => none
  | _ => none
def wrF (P : Prg) (j idx : Nat) (H : Hp) (a : Nat) (v : Value) : Option Hp :=
  if a < P.j0 then none else
  match H[a]? with | some o => (match wrO P j idx v o with | some o' => some (H.set a o') | none => none) | none => none
def newC (P : Prg) (j idx : Nat) (H : Hp) (k n : Nat) : Option (Hp × Nat × Nat) :=
  match lk2 P.nw j idx with
  | some cid => if k + 1 ≤ (P.mt j).rm.cells ∧ n + P.nsl cid ≤ (P.mt j).rm.slots then some (H ++ [(.inr cid, (P.flds cid).map fun fd => dft fd.2.2.2)], k + 1, n + P.nsl cid) else none
  | none => none
def newA (P : Prg) (j pc : Nat) (ty : FieldType) (len : Int32) (H : Hp) (k n : Nat) : Option (Hp × Nat × Nat) :=
  match lk2 P.cp j pc with
  | some cap => if ¬ len < 0 ∧ len.toNatClampNeg ≤ cap ∧ cap * 8 ≤ 536870912 ∧ k + 1 ≤ (P.mt j).rm.cells ∧ n + cap ≤ (P.mt j).rm.slots then some (H ++ [(.inl ty, List.replicate len.toNatClampNeg (dft ty))], k + 1, n + cap) else none
  | none => none
def castI (P : Prg) (j idx : Nat) (H : Hp) (a : Nat) : Option Bool := match H[a]? with | some o => lkK P.ca j idx o.1 | none => none
abbrev HR : Type := List Value × Hp × Nat × Nat
def hLdc (P : Prg) (j idx : Nat) (S : List Value) (H : Hp) (k n : Nat) : Option HR := match lk2 P.ki j idx with | some v => some (.int v :: S, H, k, n) | none => none
def hLdc2 (P : Prg) (j idx : Nat) (S : List Value) (H : Hp) (k n : Nat) : Option HR := match lk2 P.kl j idx with | some v => some (.long v :: S, H, k, n) | none => none
def hGs (P : Prg) (j idx : Nat) (S : List Value) (H : Hp) (k n : Nat) : Option HR := match lk2 P.sf j idx with | some q => (match P.sv[q]? with | some d => some (d.2.2.2 :: S, H, k, n) | none => none) | none => none
def hGet (P : Prg) (j idx : Nat) (S : List Value) (H : Hp) (k n : Nat) : Option HR := match S with | .ref a :: r => (match rdF P j idx H a with | some v => some (v :: r, H, k, n) | none => none) | _ => none
def hPut (P : Prg) (j idx : Nat) (S : List Value) (H : Hp) (k n : Nat) : Option HR := match S with | v :: .ref a :: r => (match wrF P j idx H a v with | some H' => some (r, H', k, n) | none => none) | _ => none
def hNew (P : Prg) (j idx : Nat) (S : List Value) (H : Hp) (k n : Nat) : Option HR := match newC P j idx H k n with | some x => some (.ref H.length :: S, x.1, x.2.1, x.2.2) | none => none
def hNewA (P : Prg) (j pc : Nat) (t : ArrayType) (S : List Value) (H : Hp) (k n : Nat) : Option HR := match S with | .int len :: r => (if newarray.typeOf t ∈ P.ats then (match newA P j pc (newarray.typeOf t) len H k n with | some x => some (.ref H.length :: r, x.1, x.2.1, x.2.2) | none => none) else none) | _ => none
def hNewR (P : Prg) (j pc idx : Nat) (S : List Value) (H : Hp) (k n : Nat) : Option HR := match S with
  | .int len :: r => (match lk2 P.na j idx with
    | some cid => (match newA P j pc (.object (P.cname cid)) len H k n with | some x => some (.ref H.length :: r, x.1, x.2.1, x.2.2) | none => none)
    | none => none)
  | _ => none
def hLen (S : List Value) (H : Hp) (k n : Nat) : Option HR := match S with | .ref a :: r => (match alen H a with | some v => some (.int v :: r, H, k, n) | none => none) | _ => none
def hLda (i : Instr) (S : List Value) (H : Hp) (k n : Nat) : Option HR := match S with | .int x :: .ref a :: r => (match ldA i H a x with | some v => some (v :: r, H, k, n) | none => none) | _ => none
def hSta (P : Prg) (i : Instr) (S : List Value) (H : Hp) (k n : Nat) : Option HR := match S with | v :: .int x :: .ref a :: r => (match stA P i H a x v with | some H' => some (r, H', k, n) | none => none) | _ => none
def hCast (P : Prg) (j idx : Nat) (S : List Value) (H : Hp) (k n : Nat) : Option HR := match S with
  | .null :: r => some (.null :: r, H, k, n)
  | .ref a :: r => (match castI P j idx H a with | some true => some (.ref a :: r, H, k, n) | _ => none)
  | _ => none
def hInst (P : Prg) (j idx : Nat) (S : List Value) (H : Hp) (k n : Nat) : Option HR := match S with
  | .null :: r => some (.int 0 :: r, H, k, n)
  | .ref a :: r => (match castI P j idx H a with | some true => some (.int 1 :: r, H, k, n) | some false => some (.int 0 :: r, H, k, n) | none => none)
  | _ => none
def heapI (P : Prg) (j pc : Nat) (i : Instr) (S : List Value) (H : Hp) (k n : Nat) : Option HR :=
  match i with
  | .ldc idx => hLdc P j idx S H k n
  | .ldc2_w idx => hLdc2 P j idx S H k n
  | .getstatic idx => hGs P j idx S H k n
  | .getfield idx => hGet P j idx S H k n
  | .putfield idx => hPut P j idx S H k n
  | .new idx => hNew P j idx S H k n
  | .newarray t => hNewA P j pc t S H k n
  | .anewarray idx => hNewR P j pc idx S H k n
  | .arraylength => hLen S H k n
  | .iaload => hLda .iaload S H k n
  | .baload => hLda .baload S H k n
  | .caload => hLda .caload S H k n
  | .saload => hLda .saload S H k n
  | .laload => hLda .laload S H k n
  | .aaload => hLda .aaload S H k n
  | .daload => hLda .daload S H k n
  | .iastore => hSta P .iastore S H k n
  | .bastore => hSta P .bastore S H k n
  | .castore => hSta P .castore S H k n
  | .lastore => hSta P .lastore S H k n
  | .aastore => hSta P .aastore S H k n
  | .dastore => hSta P .dastore S H k n
  | .checkcast idx => hCast P j idx S H k n
  | .instanceof idx => hInst P j idx S H k n
  | _ => none
/-- what returns -/
def retI (t : Option FieldType) (i : Instr) (S : List Value) : Option (Option Value) :=
  match i with
  | .return_ => match t, S with | none, [] => some none | _, _ => none
  | .ireturn => match t, S with
    | some .int, .int x :: _ => some (some (.int x))
    | some .boolean, .int x :: _ => some (some (.int (x &&& 1)))
    | some .byte, .int x :: _ => some (some (.int x.toInt8.toInt32))
    | some .char, .int x :: _ => some (some (.int x.toUInt32.toUInt16.toUInt32.toInt32))
    | some .short, .int x :: _ => some (some (.int x.toInt16.toInt32))
    | _, _ => none
  | .lreturn => match t, S with | some .long, .long x :: _ => some (some (.long x)) | _, _ => none
  | .dreturn => match t, S with | some .double, .double x :: _ => some (some (.double x)) | _, _ => none
  | .areturn => match t, S with
    | some (.object _), .null :: _ => some (some .null)
    | some (.object _), .ref a :: _ => some (some (.ref a))
    | some (.array _), .null :: _ => some (some .null)
    | some (.array _), .ref a :: _ => some (some (.ref a))
    | _, _ => none
  | _ => none
def laid : List Value → List Slot
  | [] => []
  | v :: vs => if cat v = 2 then .val v :: .second :: laid vs else .val v :: laid vs
def entL (as : List Value) (mx : Nat) : List Slot := laid as ++ List.replicate (mx - (laid as).length) .unset
/-- the callee, its arguments, what lies under them -/
def calI (P : Prg) (j : Nat) (i : Instr) (S : List Value) (H : Hp) : Option (Nat × List Value × List Value) :=
  match i with
  | .invokestatic idx => match lk2 P.ic j idx with
    | some (0, np, j') => if np ≤ S.length then some (j', (S.take np).reverse, S.drop np) else none
    | _ => none
  | .invokespecial idx => match lk2 P.ic j idx with
    | some (1, np, j') => (match S.drop np with | .ref a :: r => some (j', .ref a :: (S.take np).reverse, r) | _ => none)
    | _ => none
  | .invokevirtual idx => match lk2 P.ic j idx with
    | some (2, np, _) => (match S.drop np with
      | .ref a :: r => (match H[a]? with
        | some (.inr cid, _) => (match lk3 P.vc j idx cid with | some (np', j') => if np' = np then some (j', .ref a :: (S.take np).reverse, r) else none | none => none)
        | _ => none)
      | _ => none)
    | _ => none
  | _ => none
/-- Object's own constructor -/
def objI (P : Prg) (j : Nat) (i : Instr) (L : List Slot) (S : List Value) : Option (List Value) :=
  match i with
  | .invokespecial idx => match lk2 P.ic j idx with
    | some (6, _, _) => (match S with | .ref a :: r => if L.length = (P.mt j).mx ∧ 1 ≤ (P.mt j).rm.frames ∧ wt r + 12 ≤ (P.mt j).rm.locals then some r else none | _ => none)
    | _ => none
  | _ => none
/-- an int array's own copy -/
def clnA (P : Prg) (j pc : Nat) (L : List Slot) (r : List Value) (H : Hp) (a k n : Nat) : Option HR :=
  match H[a]? with
  | some (.inl .int, vs) => (match lk2 P.cp j pc with
    | some cap => if (P.j0 ≤ a ∧ vs.all isI = true) ∧ (L.length = (P.mt j).mx ∧ 1 ≤ (P.mt j).rm.frames ∧ wt r + 14 ≤ (P.mt j).rm.locals) ∧ vs.length ≤ cap ∧ k + 1 ≤ (P.mt j).rm.cells ∧ n + cap ≤ (P.mt j).rm.slots then some (.ref H.length :: r, H ++ [(.inl .int, vs)], k + 1, n + cap) else none
    | none => none)
  | _ => none
def clnI (P : Prg) (j pc : Nat) (i : Instr) (L : List Slot) (S : List Value) (H : Hp) (k n : Nat) : Option HR :=
  match i with
  | .invokevirtual idx => match lk2 P.ic j idx with
    | some (7, _, _) => (match S with | .ref a :: r => clnA P j pc L r H a k n | _ => none)
    | _ => none
  | _ => none
def isCall (P : Prg) (j : Nat) : Instr → Nat
  | .invokestatic _ => 1
  | .invokevirtual idx => match lk2 P.ic j idx with | some (7, _, _) => 6 | _ => 1
  | .invokespecial idx => match lk2 P.ic j idx with | some (1, _, _) => 1 | _ => 2
  | .return_ | .ireturn | .lreturn | .areturn | .dreturn => 3
  | .goto _ | .ifCond _ _ | .if_icmp _ _ | .if_acmp _ _ | .ifnull _ | .ifnonnull _ => 4
  | .ldc _ | .ldc2_w _ | .getstatic _ | .getfield _ | .putfield _ | .new _ | .newarray _ | .anewarray _ | .arraylength | .iaload | .baload | .caload | .saload | .laload | .aaload | .daload | .iastore | .bastore | .castore | .lastore | .aastore | .dastore | .checkcast _ | .instanceof _ => 5
  | _ => 0
/-- the steps that neither call nor return -/
def stepI (P : Prg) (j : Nat) (i : Instr) : St → Option St
  | (pc, L, S, H, k, n) => match isCall P j i with
    | 0 => (match plainI i L S with | some x => some (pc + ilen i, x.1, x.2, H, k, n) | none => none)
    | 2 => (match objI P j i L S with | some r => some (pc + ilen i, L, r, H, k, n) | none => none)
    | 4 => (match brI i S with
      | some (true, o, r) => if 0 ≤ (pc : Int) + o then some (((pc : Int) + o).toNat, L, r, H, k, n) else none
      | some (false, o, r) => some (pc + ilen i, L, r, H, k, n)
      | none => none)
    | 5 => (match heapI P j pc i S H k n with | some x => some (pc + ilen i, L, x.1, x.2.1, x.2.2.1, x.2.2.2) | none => none)
    | 6 => (match clnI P j pc i L S H k n with | some x => some (pc + ilen i, L, x.1, x.2.1, x.2.2.1, x.2.2.2) | none => none)
    | _ => none
/-- the room that a call asks -/
def rmOk (P : Prg) (j j' : Nat) (L : List Slot) (r : List Value) (k n : Nat) : Bool :=
  decide (L.length = (P.mt j).mx) && (decide ((P.mt j').rm.frames + 1 ≤ (P.mt j).rm.frames) && (decide (wt r + ((P.mt j').mx + 11) + (P.mt j').rm.locals ≤ (P.mt j).rm.locals) && (decide (k + (P.mt j').rm.cells ≤ (P.mt j).rm.cells) && decide (n + (P.mt j').rm.slots ≤ (P.mt j).rm.slots))))
def run (P : Prg) : Nat → Nat → St → Option MRes
  | 0, _, _ => none
  | f + 1, j, (pc, L, S, H, k, n) =>
    match decode (P.mt j).code pc with
    | .error _ => none
    | .ok (i, len) =>
      if len = ilen i then
        match isCall P j i with
        | 3 => (match retI (P.mt j).ret i S with | some v => if k ≤ (P.mt j).rm.cells ∧ n ≤ (P.mt j).rm.slots then some (v, H) else none | none => none)
        | 1 => (match calI P j i S H with
          | some (j', as, r) =>
            if rmOk P j j' L r k n = true then
              (match run P f j' (0, entL as (P.mt j').mx, [], H, 0, 0) with
              | some (v, H') => run P f j (pc + 3, L, v.toList ++ r, H', k + (P.mt j').rm.cells, n + (P.mt j').rm.slots)
              | none => none)
            else none
          | none => none)
        | _ => (match stepI P j i (pc, L, S, H, k, n) with | some st' => run P f j st' | none => none)
      else none
end Jvm.MM
namespace Jvm.MM
open Jvm Jvm.ClassFile Sem Op Lib Jvm.Free Jvm.Stand Jvm.LawKit Jvm.RoadKit
/-! ### from the machine's values to the heap's -/
def tv (ρ : Nat → Addr) : Value → Value
  | .ref i => .ref (ρ i)
  | v => v
def ts (ρ : Nat → Addr) : Slot → Slot
  | .val v => .val (tv ρ v)
  | x => x
abbrev tS (ρ : Nat → Addr) (S : List Value) : List Value := S.map (tv ρ)
abbrev tL (ρ : Nat → Addr) (L : List Slot) : Array Slot := (L.map (ts ρ)).toArray
section Tr
variable {ρ : Nat → Addr}
theorem cat_eq (v : Value) : v.category = cat v := by cases v <;> rfl
theorem cat_tv (v : Value) : cat (tv ρ v) = cat v := by cases v <;> rfl
theorem wt_eq : ∀ S : List Value, ((S.map (tv ρ)).map fun v => v.category).sum = wt S
  | [] => rfl
  | v :: r => by
    have ih := wt_eq r
    show ((tv ρ v).category :: (r.map (tv ρ)).map fun v => v.category).sum = cat v + wt r
    rw [List.sum_cons, ih, cat_eq, cat_tv]
theorem tL_get {L : List Slot} {k : Nat} {o : Slot} (h : L[k]? = some o) : (tL ρ L)[k]? = some (ts ρ o) := by simp [h]
theorem tL_set (L : List Slot) (k : Nat) (o : Slot) : (tL ρ L).setIfInBounds k (ts ρ o) = tL ρ (L.set k o) := by
  apply Array.toList_inj.mp
  simp [Array.toList_setIfInBounds, List.map_set]
theorem isA_ref {v : Value} (h : isA v = true) : (tv ρ v).isRef = true := by cases v <;> first | rfl | cases h
theorem isA_cat {v : Value} (h : isA v = true) : cat v = 1 := by cases v <;> first | rfl | cases h
theorem isI_inv {v : Value} (h : isI v = true) : ∃ x, v = .int x := by cases v <;> first | exact ⟨_, rfl⟩ | cases h
theorem isJ_inv {v : Value} (h : isJ v = true) : ∃ x, v = .long x := by cases v <;> first | exact ⟨_, rfl⟩ | cases h
theorem isD_inv {v : Value} (h : isD v = true) : ∃ x, v = .double x := by cases v <;> first | exact ⟨_, rfl⟩ | cases h
theorem isA_inv {v : Value} (h : isA v = true) : v = .null ∨ ∃ a, v = .ref a := by cases v <;> first | exact Or.inl rfl | exact Or.inr ⟨_, rfl⟩ | cases h
theorem s1_inv {o : Slot} (h : s1 o = true) : ts ρ o = .unset ∨ ∃ w, ts ρ o = .val w ∧ w.category = 1 := by
  cases o with
  | unset => exact Or.inl rfl
  | second => cases h
  | val v => exact Or.inr ⟨tv ρ v, rfl, by rw [cat_eq, cat_tv]; simpa [s1] using h⟩
theorem ld_inv {q : Value → Bool} {L L' : List Slot} {k : Nat} {S S' : List Value} (h : ld q L k S = some (L', S')) : ∃ v, L[k]? = some (.val v) ∧ q v = true ∧ L' = L ∧ S' = v :: S := by
  unfold ld at h
  split at h
  · rename_i v hv
    split at h
    · rename_i hq
      cases h
      exact ⟨v, hv, hq, rfl, rfl⟩
    · cases h
  · cases h
theorem st1_inv {q : Value → Bool} {L L' : List Slot} {k : Nat} {S S' : List Value} (h : st1 q L k S = some (L', S')) : ∃ v o, S = v :: S' ∧ q v = true ∧ L[k]? = some o ∧ s1 o = true ∧ L' = L.set k (.val v) := by
  cases S with
  | nil => cases h
  | cons v r =>
    have h : (if (q v && so1 L k) = true then some (L.set k (.val v), r) else none) = some (L', S') := h
    split at h
    · rename_i hq
      obtain ⟨h1, h2⟩ := Bool.and_eq_true_iff.mp hq
      cases h
      unfold so1 at h2
      split at h2
      · rename_i o ho
        exact ⟨v, o, rfl, h1, ho, h2, rfl⟩
      · cases h2
    · cases h
theorem st2_inv {q : Value → Bool} {L L' : List Slot} {k : Nat} {S S' : List Value} (h : st2 q L k S = some (L', S')) : ∃ v, S = v :: S' ∧ q v = true ∧ so2 L k = true ∧ L' = (L.set k (.val v)).set (k + 1) .second := by
  cases S with
  | nil => cases h
  | cons v r =>
    have h : (if (q v && so2 L k) = true then some ((L.set k (.val v)).set (k + 1) .second, r) else none) = some (L', S') := h
    split at h
    · rename_i hq
      obtain ⟨h1, h2⟩ := Bool.and_eq_true_iff.mp hq
      cases h
      exact ⟨v, rfl, h1, h2, rfl⟩
    · cases h
theorem sl1 {L : List Slot} {k : Nat} {o : Slot} {v : Value} (h : L[k]? = some o) (hs : s1 o = true) (hv : cat v = 1) : storeLocals (tL ρ L) k (tv ρ v) = some (tL ρ (L.set k (.val v))) := by
  rw [XS.store1 (tL_get (ρ := ρ) h) (s1_inv hs) (by rw [cat_eq, cat_tv]; exact hv)]
  exact congrArg some (tL_set L k (.val v))
theorem self2 {l : Array Slot} {k : Nat} {o : Slot} {v : Value} (hv : v.category = 2) (h : l[k + 1]? = some o) (ho : ∀ w, o = .val w → w.category = 1) : storeSelf l k v = some ((l.setIfInBounds k (.val v)).setIfInBounds (k + 1) .second) := by
  have hk : k + 1 < l.size := (Array.getElem?_eq_some_iff.mp h).1
  have a1 : setAt l k (.val v) = some (l.setIfInBounds k (.val v)) := if_pos (by omega)
  have a2 : (l.setIfInBounds k (.val v))[k + 1]? = some o := by rw [Array.getElem?_setIfInBounds_ne (by omega)]; exact h
  have a3 : setAt (l.setIfInBounds k (.val v)) (k + 1) .second = some ((l.setIfInBounds k (.val v)).setIfInBounds (k + 1) .second) := if_pos (by simpa using hk)
  cases o with
  | unset => simp [storeSelf, a1, a2, a3, hv]
  | second => simp [storeSelf, a1, a2, a3, hv]
  | val w => simp [storeSelf, a1, a2, a3, hv, ho w rfl]
theorem sl2 {L : List Slot} {k : Nat} {v : Value} (h : so2 L k = true) (hv : cat v = 2) : storeLocals (tL ρ L) k (tv ρ v) = some (tL ρ ((L.set k (.val v)).set (k + 1) .second)) := by
  have hv' : (tv ρ v).category = 2 := by rw [cat_eq, cat_tv]; exact hv
  have e : tL ρ ((L.set k (.val v)).set (k + 1) .second) = ((tL ρ L).setIfInBounds k (.val (tv ρ v))).setIfInBounds (k + 1) .second := by
    rw [← tL_set, ← tL_set]; rfl
  rw [e]
  simp only [so2, Bool.and_eq_true] at h
  obtain ⟨h1, h2⟩ := h
  obtain ⟨o, ho⟩ : ∃ o, L[k + 1]? = some o := by
    cases q : L[k + 1]? with
    | none => rw [q] at h2; cases h2
    | some o => exact ⟨o, rfl⟩
  rw [ho] at h2
  have g2 := tL_get (ρ := ρ) ho
  have c2 : ∀ w, ts ρ o = .val w → w.category = 1 := fun w hw => by
    cases o with
    | unset => cases hw
    | second => cases hw
    | val u => cases hw; rw [cat_eq, cat_tv]; simpa using h2
  cases q : L[k]? with
  | none => rw [q] at h1; cases h1
  | some o1 =>
    have g1 := tL_get (ρ := ρ) q
    cases o1 with
    | second => rw [q] at h1; cases h1
    | unset =>
      have : storeLocals (tL ρ L) k (tv ρ v) = storeSelf (tL ρ L) k (tv ρ v) := by
        have g1' : (tL ρ L)[k]? = some .unset := g1
        simp only [storeLocals, g1', Option.bind_eq_bind, Option.bind_some]
      rw [this, self2 hv' g2 c2]
    | val u =>
      have g1' : (tL ρ L)[k]? = some (.val (tv ρ u)) := g1
      by_cases hc : (tv ρ u).category = 2
      · have hs : k + 1 < (tL ρ L).size := (Array.getElem?_eq_some_iff.mp g2).1
        have a1 : setAt (tL ρ L) (k + 1) .unset = some ((tL ρ L).setIfInBounds (k + 1) .unset) := if_pos hs
        have : storeLocals (tL ρ L) k (tv ρ v) = storeSelf ((tL ρ L).setIfInBounds (k + 1) .unset) k (tv ρ v) := by
          simp only [storeLocals, g1', Option.bind_eq_bind, Option.bind_some, hc, if_true, a1]
        rw [this, self2 (o := .unset) hv' (by rw [Array.getElem?_setIfInBounds_self_of_lt hs]) (fun w hw => by cases hw)]
        congr 1
        apply Array.toList_inj.mp
        simp only [Array.toList_setIfInBounds]
        rw [List.set_comm _ _ (by omega : k + 1 ≠ k), List.set_set]
      · have : storeLocals (tL ρ L) k (tv ρ v) = storeSelf (tL ρ L) k (tv ρ v) := by
          simp only [storeLocals, g1', Option.bind_eq_bind, Option.bind_some, hc, if_false]
        rw [this, self2 hv' g2 c2]
theorem keepL_inv {L L' : List Slot} {o : Option (List Value)} {S' : List Value} (h : keepL L o = some (L', S')) : L' = L ∧ o = some S' := by
  cases o with
  | none => cases h
  | some S => cases h; exact ⟨rfl, rfl⟩
theorem inc_inv {L L' : List Slot} {k : Nat} {c : Int} {S S' : List Value} (h : inc L k c S = some (L', S')) : ∃ x, L[k]? = some (.val (.int x)) ∧ L' = L.set k (.val (.int (x + Int32.ofInt c))) ∧ S' = S := by
  unfold inc at h
  split at h
  · rename_i x hx
    cases h
    exact ⟨x, hx, rfl, rfl⟩
  · cases h
theorem bI_inv {f : Int32 → Int32 → Int32} {S S' : List Value} (h : bI f S = some S') : ∃ x y r, S = .int y :: .int x :: r ∧ S' = .int (f x y) :: r := by
  unfold bI at h; split at h
  · cases h; exact ⟨_, _, _, rfl, rfl⟩
  · cases h
theorem dI_inv {f : Int32 → Int32 → Int32} {S S' : List Value} (h : dI f S = some S') : ∃ x y r, S = .int y :: .int x :: r ∧ y ≠ 0 ∧ S' = .int (f x y) :: r := by
  unfold dI at h; split at h
  · split at h
    · cases h
    · rename_i q; cases h; exact ⟨_, _, _, rfl, q, rfl⟩
  · cases h
theorem uI_inv {f : Int32 → Value} {S S' : List Value} (h : uI f S = some S') : ∃ x r, S = .int x :: r ∧ S' = f x :: r := by
  unfold uI at h; split at h
  · cases h; exact ⟨_, _, rfl, rfl⟩
  · cases h
theorem uJ_inv {f : Int64 → Value} {S S' : List Value} (h : uJ f S = some S') : ∃ x r, S = .long x :: r ∧ S' = f x :: r := by
  unfold uJ at h; split at h
  · cases h; exact ⟨_, _, rfl, rfl⟩
  · cases h
theorem bJ_inv {f : Int64 → Int64 → Value} {S S' : List Value} (h : bJ f S = some S') : ∃ x y r, S = .long y :: .long x :: r ∧ S' = f x y :: r := by
  unfold bJ at h; split at h
  · cases h; exact ⟨_, _, _, rfl, rfl⟩
  · cases h
theorem bD_inv {f : UInt64 → UInt64 → Value} {S S' : List Value} (h : bD f S = some S') : ∃ x y r, S = .double y :: .double x :: r ∧ S' = f x y :: r := by
  unfold bD at h; split at h
  · cases h; exact ⟨_, _, _, rfl, rfl⟩
  · cases h
theorem sJ_inv {f : Int64 → Int32 → Int64} {S S' : List Value} (h : sJ f S = some S') : ∃ x y r, S = .int y :: .long x :: r ∧ S' = .long (f x y) :: r := by
  unfold sJ at h; split at h
  · cases h; exact ⟨_, _, _, rfl, rfl⟩
  · cases h
theorem fdup_inv {S S' : List Value} (h : fdup S = some S') : ∃ x r, S = x :: r ∧ cat x = 1 ∧ S' = x :: x :: r := by
  unfold fdup at h; split at h
  · split at h
    · rename_i q; cases h; exact ⟨_, _, rfl, q, rfl⟩
    · cases h
  · cases h
theorem fpop_inv {S S' : List Value} (h : fpop S = some S') : ∃ x, S = x :: S' ∧ cat x = 1 := by
  unfold fpop at h; split at h
  · split at h
    · rename_i q; cases h; exact ⟨_, rfl, q⟩
    · cases h
  · cases h
theorem fdx1_inv {S S' : List Value} (h : fdx1 S = some S') : ∃ x y r, S = x :: y :: r ∧ cat x = 1 ∧ cat y = 1 ∧ S' = x :: y :: x :: r := by
  unfold fdx1 at h; split at h
  · split at h
    · rename_i q; cases h; exact ⟨_, _, _, rfl, q.1, q.2, rfl⟩
    · cases h
  · cases h
theorem fd2_inv {S S' : List Value} (h : fd2 S = some S') : (∃ x r, S = .long x :: r ∧ S' = .long x :: .long x :: r) ∨ ∃ x y r, S = x :: y :: r ∧ cat x = 1 ∧ cat y = 1 ∧ S' = x :: y :: x :: y :: r := by
  unfold fd2 at h; split at h
  · cases h; exact Or.inl ⟨_, _, rfl, rfl⟩
  · split at h
    · rename_i q; cases h; exact Or.inr ⟨_, _, _, rfl, q.1, q.2, rfl⟩
    · cases h
  · cases h
end Tr
section Plain
variable {p : Program} {l : Launch} {e : Env} {R : Room} {s : State} {m : MethodId} {args : Array Value} {below : List Frame} {meth : Method} {c : Code} {T : State} {locs : List Loc} {cells slots : Nat} {ρ : Nat → Addr}
set_option maxHeartbeats 4000000 in
theorem plain_ok (X : Stand p l e R s m args below meth c T locs cells slots) (hx : p.tables.exec = Jvm.exec) {i : Instr} {L L' : List Slot} {S S' : List Value} {pc : Nat} (h : plainI i L S = some (L', S')) (hd : decode c.code pc = .ok (i, ilen i)) {target : State}
    (hr : Steps p.tables e below (T.setTop (mkF m (pc + ilen i) (tL ρ L') (tS ρ S'))) target) : Steps p.tables e below (T.setTop (mkF m pc (tL ρ L) (tS ρ S))) target := by
  cases i
  case aconst_null => cases h; exact XS.aconstNull X.here hx rfl hd hr
  case iconst k => cases h; exact XS.iconst X.here hx rfl hd hr
  case bipush k => cases h; exact XS.bipush X.here hx rfl hd hr
  case sipush k => cases h; exact XS.sipush X.here hx rfl hd hr
  case lconst k => cases h; exact XT.lconst X.here hx rfl hd hr
  case iload k =>
    obtain ⟨v, h1, h2, rfl, rfl⟩ := ld_inv h
    obtain ⟨x, rfl⟩ := isI_inv h2
    exact XS.iload X.here hx rfl hd (tL_get h1) hr
  case iload_n k =>
    obtain ⟨v, h1, h2, rfl, rfl⟩ := ld_inv h
    obtain ⟨x, rfl⟩ := isI_inv h2
    exact XS.iloadN X.here hx rfl hd (tL_get h1) hr
  case lload k =>
    obtain ⟨v, h1, h2, rfl, rfl⟩ := ld_inv h
    obtain ⟨x, rfl⟩ := isJ_inv h2
    exact XT.lload X.here hx rfl hd (tL_get h1) hr
  case lload_n k =>
    obtain ⟨v, h1, h2, rfl, rfl⟩ := ld_inv h
    obtain ⟨x, rfl⟩ := isJ_inv h2
    exact XT.lloadN X.here hx rfl hd (tL_get h1) hr
  case dload k =>
    obtain ⟨v, h1, h2, rfl, rfl⟩ := ld_inv h
    obtain ⟨x, rfl⟩ := isD_inv h2
    exact XS.dload X.here hx rfl hd (tL_get h1) hr
  case dload_n k =>
    obtain ⟨v, h1, h2, rfl, rfl⟩ := ld_inv h
    obtain ⟨x, rfl⟩ := isD_inv h2
    exact XS.dloadN X.here hx rfl hd (tL_get h1) hr
  case dstore k =>
    obtain ⟨v, rfl, h1, h2, rfl⟩ := st2_inv h
    obtain ⟨x, rfl⟩ := isD_inv h1
    exact XS.dstore X.here hx rfl hd rfl (sl2 (v := .double x) h2 rfl) hr
  case dstore_n k =>
    obtain ⟨v, rfl, h1, h2, rfl⟩ := st2_inv h
    obtain ⟨x, rfl⟩ := isD_inv h1
    exact XS.dstoreN X.here hx rfl hd rfl (sl2 (v := .double x) h2 rfl) hr
  case dconst d =>
    cases h
    match d, hd, hr with
    | 0, hd, hr => exact XS.dconst0 X.here hx rfl hd rfl hr
    | 1, hd, hr => exact XS.dconst1 X.here hx rfl hd rfl hr
  case i2d =>
    obtain ⟨rfl, h'⟩ := keepL_inv h
    obtain ⟨x, r, rfl, rfl⟩ := uI_inv h'
    exact XS.i2dS X.here hx rfl hd rfl rfl hr
  case dcmp o =>
    obtain ⟨rfl, h'⟩ := keepL_inv h
    obtain ⟨x, y, r, rfl, rfl⟩ := bD_inv h'
    exact XS.dcmpS X.here hx rfl hd rfl rfl hr
  case aload k =>
    obtain ⟨v, h1, h2, rfl, rfl⟩ := ld_inv h
    exact XS.aload X.here hx rfl hd (tL_get h1) (isA_ref h2) hr
  case aload_n k =>
    obtain ⟨v, h1, h2, rfl, rfl⟩ := ld_inv h
    exact XS.aloadN X.here hx rfl hd (tL_get h1) (isA_ref h2) hr
  case istore k =>
    obtain ⟨v, o, rfl, h1, h2, h3, rfl⟩ := st1_inv h
    obtain ⟨x, rfl⟩ := isI_inv h1
    exact XS.istore X.here hx rfl hd rfl (sl1 (v := .int x) h2 h3 rfl) hr
  case istore_n k =>
    obtain ⟨v, o, rfl, h1, h2, h3, rfl⟩ := st1_inv h
    obtain ⟨x, rfl⟩ := isI_inv h1
    exact XS.istoreN X.here hx rfl hd rfl (sl1 (v := .int x) h2 h3 rfl) hr
  case astore k =>
    obtain ⟨v, o, rfl, h1, h2, h3, rfl⟩ := st1_inv h
    exact XS.astore X.here hx rfl hd rfl (isA_ref h1) (sl1 h2 h3 (isA_cat h1)) hr
  case astore_n k =>
    obtain ⟨v, o, rfl, h1, h2, h3, rfl⟩ := st1_inv h
    exact XS.astoreN X.here hx rfl hd rfl (isA_ref h1) (sl1 h2 h3 (isA_cat h1)) hr
  case lstore k =>
    obtain ⟨v, rfl, h1, h2, rfl⟩ := st2_inv h
    obtain ⟨x, rfl⟩ := isJ_inv h1
    exact XT.lstore X.here hx rfl hd rfl (sl2 (v := .long x) h2 rfl) hr
  case lstore_n k =>
    obtain ⟨v, rfl, h1, h2, rfl⟩ := st2_inv h
    obtain ⟨x, rfl⟩ := isJ_inv h1
    exact XT.lstoreN X.here hx rfl hd rfl (sl2 (v := .long x) h2 rfl) hr
  case iinc k c0 =>
    obtain ⟨x, h1, rfl, rfl⟩ := inc_inv h
    exact XS.iinc X.here hx rfl hd (tL_get h1) (sl1 (v := .int (x + Int32.ofInt c0)) h1 rfl rfl) hr
  case iadd =>
    obtain ⟨rfl, h'⟩ := keepL_inv h
    obtain ⟨x, y, r, rfl, rfl⟩ := bI_inv h'
    exact XS.iadd X.here hx rfl hd rfl hr
  case isub =>
    obtain ⟨rfl, h'⟩ := keepL_inv h
    obtain ⟨x, y, r, rfl, rfl⟩ := bI_inv h'
    exact XS.isub X.here hx rfl hd rfl hr
  case imul =>
    obtain ⟨rfl, h'⟩ := keepL_inv h
    obtain ⟨x, y, r, rfl, rfl⟩ := bI_inv h'
    exact XS.imul X.here hx rfl hd rfl hr
  case iand =>
    obtain ⟨rfl, h'⟩ := keepL_inv h
    obtain ⟨x, y, r, rfl, rfl⟩ := bI_inv h'
    exact XS.iand X.here hx rfl hd rfl hr
  case ior =>
    obtain ⟨rfl, h'⟩ := keepL_inv h
    obtain ⟨x, y, r, rfl, rfl⟩ := bI_inv h'
    exact XT.ior X.here hx rfl hd rfl hr
  case ixor =>
    obtain ⟨rfl, h'⟩ := keepL_inv h
    obtain ⟨x, y, r, rfl, rfl⟩ := bI_inv h'
    exact XT.ixor X.here hx rfl hd rfl hr
  case ishl =>
    obtain ⟨rfl, h'⟩ := keepL_inv h
    obtain ⟨x, y, r, rfl, rfl⟩ := bI_inv h'
    exact XT.ishl X.here hx rfl hd rfl hr
  case ishr =>
    obtain ⟨rfl, h'⟩ := keepL_inv h
    obtain ⟨x, y, r, rfl, rfl⟩ := bI_inv h'
    exact XT.ishr X.here hx rfl hd rfl hr
  case iushr =>
    obtain ⟨rfl, h'⟩ := keepL_inv h
    obtain ⟨x, y, r, rfl, rfl⟩ := bI_inv h'
    exact XT.iushr X.here hx rfl hd rfl hr
  case irem =>
    obtain ⟨rfl, h'⟩ := keepL_inv h
    obtain ⟨x, y, r, rfl, hy, rfl⟩ := dI_inv h'
    exact iremM X hx rfl hd rfl hy hr
  case idiv =>
    obtain ⟨rfl, h'⟩ := keepL_inv h
    obtain ⟨x, y, r, rfl, hy, rfl⟩ := dI_inv h'
    exact XS.idiv X.here hx rfl hd rfl hy hr
  case ineg =>
    obtain ⟨rfl, h'⟩ := keepL_inv h
    obtain ⟨x, r, rfl, rfl⟩ := uI_inv h'
    exact XS.ineg X.here hx rfl hd rfl hr
  case i2l =>
    obtain ⟨rfl, h'⟩ := keepL_inv h
    obtain ⟨x, r, rfl, rfl⟩ := uI_inv h'
    exact XT.i2l X.here hx rfl hd rfl hr
  case i2b =>
    obtain ⟨rfl, h'⟩ := keepL_inv h
    obtain ⟨x, r, rfl, rfl⟩ := uI_inv h'
    exact XT.i2b X.here hx rfl hd rfl hr
  case i2c =>
    obtain ⟨rfl, h'⟩ := keepL_inv h
    obtain ⟨x, r, rfl, rfl⟩ := uI_inv h'
    exact XT.i2c X.here hx rfl hd rfl hr
  case i2s =>
    obtain ⟨rfl, h'⟩ := keepL_inv h
    obtain ⟨x, r, rfl, rfl⟩ := uI_inv h'
    exact XT.i2s X.here hx rfl hd rfl hr
  case l2i =>
    obtain ⟨rfl, h'⟩ := keepL_inv h
    obtain ⟨x, r, rfl, rfl⟩ := uJ_inv h'
    exact XT.l2i X.here hx rfl hd rfl hr
  case ladd =>
    obtain ⟨rfl, h'⟩ := keepL_inv h
    obtain ⟨x, y, r, rfl, rfl⟩ := bJ_inv h'
    exact XT.ladd X.here hx rfl hd rfl hr
  case lsub =>
    obtain ⟨rfl, h'⟩ := keepL_inv h
    obtain ⟨x, y, r, rfl, rfl⟩ := bJ_inv h'
    exact XT.lsub X.here hx rfl hd rfl hr
  case lmul =>
    obtain ⟨rfl, h'⟩ := keepL_inv h
    obtain ⟨x, y, r, rfl, rfl⟩ := bJ_inv h'
    exact XT.lmul X.here hx rfl hd rfl hr
  case land =>
    obtain ⟨rfl, h'⟩ := keepL_inv h
    obtain ⟨x, y, r, rfl, rfl⟩ := bJ_inv h'
    exact XT.land X.here hx rfl hd rfl hr
  case lor =>
    obtain ⟨rfl, h'⟩ := keepL_inv h
    obtain ⟨x, y, r, rfl, rfl⟩ := bJ_inv h'
    exact XT.lor X.here hx rfl hd rfl hr
  case lxor =>
    obtain ⟨rfl, h'⟩ := keepL_inv h
    obtain ⟨x, y, r, rfl, rfl⟩ := bJ_inv h'
    exact XT.lxor X.here hx rfl hd rfl hr
  case lcmp =>
    obtain ⟨rfl, h'⟩ := keepL_inv h
    obtain ⟨x, y, r, rfl, rfl⟩ := bJ_inv h'
    exact XT.lcmp X.here hx rfl hd rfl hr
  case lshl =>
    obtain ⟨rfl, h'⟩ := keepL_inv h
    obtain ⟨x, y, r, rfl, rfl⟩ := sJ_inv h'
    exact XT.lshl X.here hx rfl hd rfl hr
  case lshr =>
    obtain ⟨rfl, h'⟩ := keepL_inv h
    obtain ⟨x, y, r, rfl, rfl⟩ := sJ_inv h'
    exact XT.lshr X.here hx rfl hd rfl hr
  case lushr =>
    obtain ⟨rfl, h'⟩ := keepL_inv h
    obtain ⟨x, y, r, rfl, rfl⟩ := sJ_inv h'
    exact XT.lushr X.here hx rfl hd rfl hr
  case dup =>
    obtain ⟨rfl, h'⟩ := keepL_inv h
    obtain ⟨x, r, rfl, hc, rfl⟩ := fdup_inv h'
    exact XS.dup X.here hx rfl hd rfl (by rw [cat_eq, cat_tv]; exact hc) hr
  case pop =>
    obtain ⟨rfl, h'⟩ := keepL_inv h
    obtain ⟨x, rfl, hc⟩ := fpop_inv h'
    exact XT.pop X.here hx rfl hd rfl (by rw [cat_eq, cat_tv]; exact hc) hr
  case dup_x1 =>
    obtain ⟨rfl, h'⟩ := keepL_inv h
    obtain ⟨x, y, r, rfl, hc, hc', rfl⟩ := fdx1_inv h'
    exact XT.dupX1 X.here hx rfl hd rfl (by rw [cat_eq, cat_tv]; exact hc) (by rw [cat_eq, cat_tv]; exact hc') hr
  case dup2 =>
    obtain ⟨rfl, h'⟩ := keepL_inv h
    rcases fd2_inv h' with ⟨x, r, rfl, rfl⟩ | ⟨x, y, r, rfl, hc, hc', rfl⟩
    · exact XT.dup2L X.here hx rfl hd rfl hr
    · exact XT.dup2 X.here hx rfl hd rfl (by rw [cat_eq, cat_tv]; exact hc) (by rw [cat_eq, cat_tv]; exact hc') hr
  all_goals (exact absurd h (fun q => by cases q))
theorem acmp_tv (inj : ∀ i j, ρ i = ρ j → i = j) (cd : ACond) {x y : Value} (h1 : isA x = true) (h2 : isA y = true) : XT.acmp cd (tv ρ x) (tv ρ y) = XT.acmp cd x y := by
  have e : (tv ρ x = tv ρ y) ↔ x = y := by
    rcases isA_inv h1 with rfl | ⟨a, rfl⟩ <;> rcases isA_inv h2 with rfl | ⟨b, rfl⟩
    · exact Iff.rfl
    · exact ⟨fun q => (by cases q), fun q => (by cases q)⟩
    · exact ⟨fun q => (by cases q), fun q => (by cases q)⟩
    · exact ⟨fun q => (by rw [inj _ _ (Value.ref.inj q)]), fun q => (by rw [q])⟩
  cases cd
  · show decide (tv ρ x = tv ρ y) = decide (x = y)
    exact decide_eq_decide.mpr e
  · show decide (tv ρ x ≠ tv ρ y) = decide (x ≠ y)
    exact decide_eq_decide.mpr (not_congr e)
theorem br_ok (inj : ∀ i j, ρ i = ρ j → i = j) (X : Stand p l e R s m args below meth c T locs cells slots) (hx : p.tables.exec = Jvm.exec) {i : Instr} {S r : List Value} {b : Bool} {o : Int} {pc pc' : Nat} {L : Array Slot} (h : brI i S = some (b, o, r)) (hd : decode c.code pc = .ok (i, ilen i))
    (hp : (b = true ∧ 0 ≤ (pc : Int) + o ∧ ((pc : Int) + o).toNat = pc') ∨ (b = false ∧ pc' = pc + ilen i)) {target : State}
    (hr : Steps p.tables e below (T.setTop (mkF m pc' L (tS ρ r))) target) : Steps p.tables e below (T.setTop (mkF m pc L (tS ρ S))) target := by
  cases i
  case goto o' =>
    cases h
    rcases hp with ⟨-, ho, hp⟩ | ⟨q, -⟩
    · exact XS.goto X.here hx rfl (pc0 := pc) rfl hd ho hp hr
    · cases q
  case ifCond cd o' =>
    simp only [brI] at h
    split at h
    · cases h
      rcases hp with ⟨hb, ho, hp⟩ | ⟨hb, rfl⟩
      · exact XS.ifYes X.here hx rfl (pc0 := pc) rfl hd rfl hb ho hp hr
      · exact XS.ifNo X.here hx rfl hd rfl hb hr
    · cases h
  case if_icmp cd o' =>
    simp only [brI] at h
    split at h
    · cases h
      rcases hp with ⟨hb, ho, hp⟩ | ⟨hb, rfl⟩
      · exact XS.icmpYes X.here hx rfl (pc0 := pc) rfl hd rfl hb ho hp hr
      · exact XS.icmpNo X.here hx rfl hd rfl hb hr
    · cases h
  case if_acmp cd o' =>
    simp only [brI] at h
    split at h
    · split at h
      · rename_i q
        simp only [Bool.and_eq_true] at q
        cases h
        rcases hp with ⟨hb, ho, hp⟩ | ⟨hb, rfl⟩
        · exact XT.acmpYes X.here hx rfl (pc0 := pc) rfl hd rfl (isA_ref q.1) (isA_ref q.2) (by rw [acmp_tv inj _ q.1 q.2]; exact hb) ho hp hr
        · exact XT.acmpNo X.here hx rfl hd rfl (isA_ref q.1) (isA_ref q.2) (by rw [acmp_tv inj _ q.1 q.2]; exact hb) hr
      · cases h
    · cases h
  case ifnull o' =>
    simp only [brI] at h
    split at h
    · cases h
      rcases hp with ⟨-, ho, hp⟩ | ⟨q, -⟩
      · exact XS.ifnullYes X.here hx rfl (pc0 := pc) rfl hd rfl ho hp hr
      · cases q
    · cases h
      rcases hp with ⟨q, -⟩ | ⟨-, rfl⟩
      · cases q
      · exact XS.ifnullNo X.here hx rfl hd rfl hr
    · cases h
  case ifnonnull o' =>
    simp only [brI] at h
    split at h
    · cases h
      rcases hp with ⟨q, -⟩ | ⟨-, rfl⟩
      · cases q
      · exact XT.ifnonnullNo X.here hx rfl hd rfl hr
    · cases h
      rcases hp with ⟨-, ho, hp⟩ | ⟨q, -⟩
      · exact XT.ifnonnullYes X.here hx rfl (pc0 := pc) rfl hd rfl ho hp hr
      · cases q
    · cases h
  all_goals (exact absurd h (fun q => by cases q))
end Plain
end Jvm.MM
namespace Jvm.MM
open Jvm Jvm.ClassFile Sem Op Lib Jvm.Free Jvm.Stand Jvm.LawKit Jvm.RoadKit
/-! ### the picture of the heap, what the tables must say -/
section Pics
variable (P : Prg) (Z : State) (a0 : Array Value) (ρ : Nat → Addr) (n0 : Nat)
def ObjOk (h : Heap) (i : Nat) : Obj → Prop
  | (.inl ty, vs) => ∃ c : Cell, Arr Z h (ρ i) c ty ∧ c.slots = (vs.map (tv ρ)).toArray ∧ (P.j0 ≤ i → ∀ C, ty = .object C → Ovr Z c.cls C) ∧ (P.j0 ≤ i → ty = .int → Exa Z h (ρ i) "[I")
  | (.inr cid, vs) => cid < P.cs.length → Exa Z h (ρ i) (P.cname cid) ∧ ∀ (q : Nat) (v : Value) (fd : String × String × String × FieldType), vs[q]? = some v → (P.flds cid)[q]? = some fd → Fld Z h (ρ i) fd.1 fd.2.1 fd.2.2.1 (tv ρ v)
def Pic (h : Heap) (H : Hp) : Prop := P.j0 ≤ H.length ∧ h.size = n0 + (H.length - P.j0) ∧ (∀ (i : Nat) (o : Obj), H[i]? = some o → ObjOk P Z ρ h i o) ∧ ∀ q ∈ P.sv, Sta Z h q.1 q.2.1 q.2.2.1 (tv ρ q.2.2.2)
def RhoOk : Prop := (∀ i, P.j0 ≤ i → ρ i = n0 + (i - P.j0)) ∧ ∀ i j, ρ i = ρ j → i = j
def Wd (d : Jvm.Cond) : Prop := d.before a0 Z = true
def ClsOk (C : Cls) : Prop := Wd Z a0 (.instantiable C.1 C.2.1) ∧ (∀ fd ∈ C.2.2, Laid Z a0 C.1 fd.1 fd.2.1 fd.2.2.1 ∧ parseFieldDescriptor fd.2.2.1 = some fd.2.2.2) ∧ (C.2.2.map fun fd => fd.2.1).Nodup
def LnkOk (j idx : Nat) (O n d : String) : Prop := ∃ R0, Wd Z a0 (.fieldLink (P.mt j).y.cls idx R0 n d) ∧ Via Z R0 O n d
def FlOk (x : Nat × Nat × Nat × Nat) : Prop := ∃ fd, (P.flds x.2.2.1)[x.2.2.2]? = some fd ∧ LnkOk P Z a0 x.1 x.2.1 fd.1 fd.2.1 fd.2.2.1
def FwOk (x : Nat × Nat × Nat × Nat) : Prop := ∃ C, P.cs[x.2.2.1]? = some C ∧ ClsOk Z a0 C ∧ ∃ fd, C.2.2[x.2.2.2]? = some fd ∧ LnkOk P Z a0 x.1 x.2.1 fd.1 fd.2.1 fd.2.2.1 ∧ (Wd Z a0 (.lays C.1 fd.1 fd.2.1 fd.2.2.1) ∨ (Wd Z a0 (.laysFinal C.1 fd.1 fd.2.1 fd.2.2.1) ∧ (P.mt x.1).y.cls = fd.1 ∧ (P.mt x.1).y.name = "<init>"))
def SfOk (x : Nat × Nat × Nat) : Prop := ∃ d, P.sv[x.2.2]? = some d ∧ LnkOk P Z a0 x.1 x.2.1 d.1 d.2.1 d.2.2.1
def NwOk (x : Nat × Nat × Nat) : Prop := ∃ C, P.cs[x.2.2]? = some C ∧ ClsOk Z a0 C ∧ Wd Z a0 (.classLink (P.mt x.1).y.cls x.2.1 C.1) ∧ Wd Z a0 (.initialized C.1)
def NaOk (x : Nat × Nat × Nat) : Prop := Wd Z a0 (.classLink (P.mt x.1).y.cls x.2.1 (P.cname x.2.2)) ∧ Wd Z a0 (.arrayOver (.object (P.cname x.2.2)))
def CaOk (x : Nat × Nat × Kd × Bool) : Prop := ∃ K, Wd Z a0 (.classLink (P.mt x.1).y.cls x.2.1 K) ∧ (∀ (h : Heap) (i : Nat) (vs : List Value), ObjOk P Z ρ h i (x.2.2.1, vs) → Ins Z h (ρ i) K x.2.2.2) ∧ (x.2.2.2 = false → ∃ cid, x.2.2.1 = .inr cid ∧ cid < P.cs.length)
def KiOk (x : Nat × Nat × Int32) : Prop := Wd Z a0 (.constant (P.mt x.1).y.cls x.2.1 x.2.2)
def KlOk (x : Nat × Nat × Int64) : Prop := Wd Z a0 (.constantLong (P.mt x.1).y.cls x.2.1 x.2.2)
abbrev noMH (c : String) : Prop := c ≠ "java/lang/invoke/MethodHandle" ∧ c ≠ "java/lang/invoke/VarHandle"
def MthOk (M : Mth) : Prop := Wd Z a0 (.code M.y M.code M.mx M.ret) ∧ Wd Z a0 (.initialized M.y.cls) ∧ plainFor M.y = true ∧ noMH M.y.cls
def Arity (d : String) (np : Nat) : Prop := ∀ sig, parseMethodDescriptor d = some sig → np = sig.parameters.length
def IcOk (x : Nat × Nat × Nat × Nat × Nat) : Prop :=
  match x with
  | (j, idx, 0, np, j') => Wd Z a0 (.methodLink (P.mt j).y.cls idx (P.mt j').y) ∧ Wd Z a0 (.static (P.mt j').y) ∧ MthOk Z a0 (P.mt j') ∧ Arity (P.mt j').y.desc np
  | (j, idx, 1, np, j') => (P.mt j').y.name = "<init>" ∧ Wd Z a0 (.methodLink (P.mt j).y.cls idx (P.mt j').y) ∧ Wd Z a0 (.instanceMethod (P.mt j').y) ∧ MthOk Z a0 (P.mt j') ∧ (P.mt j').ret = none ∧ Arity (P.mt j').y.desc np
  | (j, idx, 7, _, _) => Wd Z a0 (.methodLink (P.mt j).y.cls idx ⟨"[I", "clone", "()Ljava/lang/Object;"⟩) ∧ Wd Z a0 (.sameMethod "[I" "java/lang/Object" "clone" "()Ljava/lang/Object;") ∧ Wd Z a0 (.native ⟨"java/lang/Object", "clone", "()Ljava/lang/Object;"⟩) ∧ Wd Z a0 (.instanceMethod ⟨"java/lang/Object", "clone", "()Ljava/lang/Object;"⟩) ∧ Wd Z a0 (.selects "[I" ⟨"[I", "clone", "()Ljava/lang/Object;"⟩ ⟨"java/lang/Object", "clone", "()Ljava/lang/Object;"⟩) ∧ Wd Z a0 (.castable "[I" "java/lang/Cloneable")
  | (j, idx, 6, _, _) => Wd Z a0 (.methodLink (P.mt j).y.cls idx Lib.objectInit) ∧ Wd Z a0 (.instanceMethod Lib.objectInit) ∧ Wd Z a0 (.code Lib.objectInit ⟨#[0xb1]⟩ 1 none)
  | _ => True
def NfOk (y : MethodName) : Prop := (∃ C, Wd Z a0 (.selects C y y)) ∨ (∃ S, Wd Z a0 (.superclass y.cls S)) ∨ Wd Z a0 (.noSuperclass y.cls)
def VcOk (x : Nat × Nat × Nat × Nat × Nat) : Prop :=
  match x with
  | (j, idx, cid, np, j') => ∃ y : MethodName, Wd Z a0 (.methodLink (P.mt j).y.cls idx y) ∧ Wd Z a0 (.declares y) ∧ NfOk Z a0 y ∧ Wd Z a0 (.selects (P.cname cid) y (P.mt j').y) ∧ Wd Z a0 (.instanceMethod (P.mt j').y) ∧ MthOk Z a0 (P.mt j') ∧ noMH y.cls ∧ Arity y.desc np ∧ cid < P.cs.length
def PrgOk : Prop := (∀ x ∈ P.fl, FlOk P Z a0 x) ∧ (∀ x ∈ P.fw, FwOk P Z a0 x) ∧ (∀ x ∈ P.sf, SfOk P Z a0 x) ∧ (∀ x ∈ P.nw, NwOk P Z a0 x) ∧ (∀ x ∈ P.na, NaOk P Z a0 x) ∧ (∀ ty ∈ P.ats, Wd Z a0 (.arrayClass ty)) ∧ (∀ x ∈ P.ca, CaOk P Z a0 ρ x) ∧ (∀ x ∈ P.ki, KiOk P Z a0 x) ∧ (∀ x ∈ P.kl, KlOk P Z a0 x) ∧ (∀ x ∈ P.ic, IcOk P Z a0 x) ∧ ∀ x ∈ P.vc, VcOk P Z a0 x
def Ctx (j : Nat) (p : Program) (s : State) (m : MethodId) (meth : Method) (c : Code) : Prop := p.tables.exec = Jvm.exec ∧ Z.Warmed39 s.vm ∧ s.vm.findClass (P.mt j).y.cls = some m.cls ∧ c.code = (P.mt j).code ∧ c.maxLocals = (P.mt j).mx ∧ meth.sig.returnType = (P.mt j).ret ∧ meth.name = (P.mt j).y.name ∧ meth.locks = false
end Pics
section PicLaws
variable {P : Prg} {Z : State} {a0 : Array Value} {ρ : Nat → Addr} {n0 : Nat} {h h' : Heap} {H : Hp}
theorem ObjOk.ext (E : Ext h h') {i : Nat} {o : Obj} (K : ObjOk P Z ρ h i o) : ObjOk P Z ρ h' i o := by
  obtain ⟨kd, vs⟩ := o
  cases kd with
  | inl ty => obtain ⟨c, k1, k2, k3, k4⟩ := K; exact ⟨c, k1.ext E, k2, k3, fun q t => (k4 q t).ext E⟩
  | inr cid => exact fun hl => ⟨(K hl).1.ext E, fun q v fd h1 h2 => ((K hl).2 q v fd h1 h2).ext E⟩
theorem ObjOk.other {b : Addr} {sl : Nat} {v : Value} (W : Wr h h' b sl v) {i : Nat} {o : Obj} (hne : ρ i ≠ b) (K : ObjOk P Z ρ h i o) : ObjOk P Z ρ h' i o := by
  obtain ⟨kd, vs⟩ := o
  cases kd with
  | inl ty => obtain ⟨c, k1, k2, k3, k4⟩ := K; exact ⟨c, k1.other W hne, k2, k3, fun q t => (k4 q t).wr W⟩
  | inr cid => exact fun hl => ⟨(K hl).1.wr W, fun q v fd h1 h2 => ((K hl).2 q v fd h1 h2).other W (Or.inl hne)⟩
theorem Pic.push (K : Pic P Z ρ n0 h H) (E : Ext h h') (hs : h'.size = h.size + 1) {o : Obj} (ho : ObjOk P Z ρ h' H.length o) : Pic P Z ρ n0 h' (H ++ [o]) := by
  obtain ⟨k1, k2, k3, k4⟩ := K
  refine ⟨by simp only [List.length_append, List.length_cons, List.length_nil]; omega, by simp only [List.length_append, List.length_cons, List.length_nil]; omega, fun i o' hi => ?_, fun q hq => (k4 q hq).ext E⟩
  by_cases hl : i < H.length
  · rw [List.getElem?_append_left hl] at hi
    exact (k3 i o' hi).ext E
  · rw [List.getElem?_append_right (by omega)] at hi
    obtain ⟨hi1, hi2⟩ := List.getElem?_eq_some_iff.mp hi
    simp only [List.length_cons, List.length_nil] at hi1
    have e : i = H.length := by omega
    subst e
    simp at hi2
    subst hi2
    exact ho
theorem Pic.addr (RO : RhoOk P ρ n0) (K : Pic P Z ρ n0 h H) : ρ H.length = h.size := by
  rw [RO.1 _ K.1, K.2.1]
theorem Pic.write (RO : RhoOk P ρ n0) (K : Pic P Z ρ n0 h H) {a sl : Nat} {v : Value} (W : Wr h h' (ρ a) sl v) {o o' : Obj} (ha : H[a]? = some o) (ho : ObjOk P Z ρ h' a o') : Pic P Z ρ n0 h' (H.set a o') := by
  obtain ⟨k1, k2, k3, k4⟩ := K
  refine ⟨by simpa using k1, by rw [W.size, List.length_set]; exact k2, fun i u hi => ?_, fun q hq => (k4 q hq).wr W⟩
  by_cases e : a = i
  · subst e
    rw [List.getElem?_set_self (List.getElem?_eq_some_iff.mp ha).1] at hi
    cases hi
    exact ho
  · rw [List.getElem?_set_ne e] at hi
    exact (k3 i u hi).other W fun q => e (RO.2 _ _ q).symm
theorem dft_eq (ty : FieldType) : dft ty = defaultValue ty := by cases ty <;> rfl
theorem tv_dft (ty : FieldType) : tv ρ (dft ty) = defaultValue ty := by cases ty <;> rfl
theorem vty_ok {ty : FieldType} {v v' : Value} (h : vty ty v = some v') : narrow ty (tv ρ v) = tv ρ v' ∧ fits ty (tv ρ v') = true := by
  cases ty
  case boolean => cases v <;> cases h; exact ⟨rfl, fits_nar_bool _⟩
  case byte => cases v <;> cases h; exact ⟨rfl, fits_nar_byte _⟩
  case char => cases v <;> cases h; exact ⟨rfl, fits_nar_char _⟩
  case short => cases v <;> cases h; exact ⟨rfl, fits_nar_short _⟩
  case int => cases v <;> cases h; exact ⟨rfl, rfl⟩
  case long => cases v <;> cases h; exact ⟨rfl, rfl⟩
  case double => cases v <;> cases h; exact ⟨rfl, rfl⟩
  case float => cases v <;> cases h
  case object c =>
    cases v <;> cases h
    · exact ⟨rfl, rfl⟩
    · exact ⟨rfl, rfl⟩
  case array c =>
    cases v <;> cases h
    · exact ⟨rfl, rfl⟩
    · exact ⟨rfl, rfl⟩
theorem fl_lt {P : Prg} {cid q : Nat} {fd : String × String × String × FieldType} (h : (P.flds cid)[q]? = some fd) : cid < P.cs.length := by
  unfold Prg.flds at h
  split at h
  · rename_i hC
    exact (List.getElem?_eq_some_iff.mp hC).1
  · simp at h
theorem cname_of {P : Prg} {cid : Nat} {C : Cls} (h : P.cs[cid]? = some C) : P.cname cid = C.1 ∧ P.flds cid = C.2.2 ∧ P.nsl cid = C.2.1 := by
  simp only [Prg.cname, Prg.flds, Prg.nsl, h]; exact ⟨trivial, trivial, trivial⟩
end PicLaws
section NewLaws
variable {p : Program} {l : Launch} {e : Env} {R : Room} {s : State} {m : MethodId} {args : Array Value} {below : List Frame} {meth : Method} {c : Code} {T : State} {locs : List Loc} {cells slots : Nat} {Z : State} {a0 : Array Value}
theorem ext_push (h : Heap) (x : Cell) : Ext h (h.push x) := ⟨by simp, fun a c q => by rw [Array.getElem?_push_lt (Array.getElem?_eq_some_iff.mp q).1]; exact (Array.getElem?_eq_getElem _).symm.trans q⟩
theorem newO1 (X : Stand p l e R s m args below meth c T locs cells slots) (hx : p.tables.exec = Jvm.exec) (hZ : Z.Warmed39 s.vm) {own C : String} {index n : Nat} (hown : s.vm.findClass own = some m.cls) (w : (Jvm.Cond.classLink own index C).before a0 Z = true) (wi : (Jvm.Cond.instantiable C n).before a0 Z = true) (wz : (Jvm.Cond.initialized C).before a0 Z = true)
    {g : JFrame} (hg : g.method = m) (hd : decode c.code g.pc = .ok (.new index, 3)) (hc : cells + 1 ≤ R.cells) (hl : slots + n ≤ R.slots) :
    ∃ T', Stand p l e R s m args below meth c T' locs (cells + 1) (slots + n) ∧ Ext T.heap T'.heap ∧ T'.heap.size = T.heap.size + 1 ∧ Exa Z T'.heap T.heap.size C ∧ (∀ {O nm d : String} {ty : FieldType}, Laid Z a0 C O nm d → parseFieldDescriptor d = some ty → Fld Z T'.heap T.heap.size O nm d (defaultValue ty)) ∧
      ∀ target, Steps p.tables e below (T'.setTop { g with pc := g.pc + 3, stack := .ref T.heap.size :: g.stack }) target → Steps p.tables e below (T.setTop g) target := by
  obtain ⟨vm', cC, kC, h1, h2, h3, h4, X', st⟩ := X.newCold hx hown (mv hZ w) (mv hZ wi) (mv hZ wz) hg hd hc hl
  rw [hZ.alike.findClass] at h1
  obtain ⟨kZ, z1, -⟩ := Vm.findClass_spec h1
  obtain ⟨k', z2, z3⟩ := hZ.alike.2.2 _ _ z1
  cases h2.symm.trans z2
  have ei : kC.instanceTypes = kZ.instanceTypes := by rw [z3]
  have hN : (T.heap.push { cls := cC, slots := kC.instanceTypes.map defaultValue, vm := .none })[T.heap.size]? = some { cls := cC, slots := kC.instanceTypes.map defaultValue, vm := .none } := by simp
  refine ⟨_, X', ext_push T.heap _, ?_, ⟨_, kZ, hN, h1, z1, rfl, fun _ => by simp [ei]⟩, fun {O nm d ty} L ht => ?_, st⟩
  · show (T.heap.push _).size = _
    simp
  · obtain ⟨c1, k1, cf, kf, i, f, a1, a2, a3, a4, a5, a6, -⟩ := L.spec
    cases h1.symm.trans a1
    cases z1.symm.trans a2
    exact ⟨_, cf, kf, i, f, hN, a3, a4, by simp, rfl, a5, by simp [ei, a6, (State.fieldFound?_type a3 ht).2]⟩
theorem newP1 (X : Stand p l e R s m args below meth c T locs cells slots) (hx : p.tables.exec = Jvm.exec) (hZ : Z.Warmed39 s.vm) {aty : ArrayType} (w : (Jvm.Cond.arrayClass (newarray.typeOf aty)).before a0 Z = true) {g : JFrame} (hg : g.method = m) (hd : decode c.code g.pc = .ok (.newarray aty, 2)) {n : Int32} {rest : List Value} (hs : g.stack = .int n :: rest)
    (hn : ¬ n < 0) {cap : Nat} (hcap : n.toNatClampNeg ≤ cap) (hb : cap * 8 ≤ 536870912) (hc : cells + 1 ≤ R.cells) (hl : slots + cap ≤ R.slots) :
    ∃ T' cA, Stand p l e R s m args below meth c T' locs (cells + 1) (slots + cap) ∧ Ext T.heap T'.heap ∧ T'.heap.size = T.heap.size + 1 ∧ Arr Z T'.heap T.heap.size (RoadKit.newA cA (newarray.typeOf aty) n) (newarray.typeOf aty) ∧ (newarray.typeOf aty = .int → Exa Z T'.heap T.heap.size "[I") ∧
      ∀ target, Steps p.tables e below (T'.setTop { g with pc := g.pc + 2, stack := .ref T.heap.size :: rest }) target → Steps p.tables e below (T.setTop g) target := by
  have hcb : componentBytes (newarray.typeOf aty) ≤ 8 := by cases aty <;> decide
  obtain ⟨cA, kA, comp, h1, h2, h3, X', st⟩ := X.newarrayPrim hx (mvA hZ w) hg hd hs hn (Nat.le_trans (Nat.mul_le_mul hcap hcb) hb) hc (by omega)
  rw [hZ.alike.findClass] at h1
  obtain ⟨kZ, z1, -⟩ := Vm.findClass_spec h1
  obtain ⟨k', z2, z3⟩ := hZ.alike.2.2 _ _ z1
  cases h2.symm.trans z2
  have kk : kZ.kind = .array comp (newarray.typeOf aty) := by rw [← h3, z3]
  have hN : (T.heap.push (RoadKit.newA cA (newarray.typeOf aty) n))[T.heap.size]? = some (RoadKit.newA cA (newarray.typeOf aty) n) := by simp
  refine ⟨_, cA, X'.more (Nat.le_refl _) (by omega), ext_push T.heap _, ?_, ⟨hN, ⟨by simp [RoadKit.newA], kZ, z1, comp, kk⟩, by simp [RoadKit.newA]⟩, fun ti => ⟨_, kZ, hN, by rw [ti] at h1; exact h1, z1, rfl, fun q => by rw [kk] at q; cases q⟩, st⟩
  · show (T.heap.push _).size = _
    simp
theorem newR1 (X : Stand p l e R s m args below meth c T locs cells slots) (hx : p.tables.exec = Jvm.exec) (hZ : Z.Warmed39 s.vm) {own C : String} {index : Nat} (hown : s.vm.findClass own = some m.cls) (w1 : (Jvm.Cond.classLink own index C).before a0 Z = true) (w2 : (Jvm.Cond.arrayOver (.object C)).before a0 Z = true)
    {g : JFrame} (hg : g.method = m) (hd : decode c.code g.pc = .ok (.anewarray index, 3)) {n : Int32} {rest : List Value} (hs : g.stack = .int n :: rest) (hn : ¬ n < 0) {cap : Nat} (hcap : n.toNatClampNeg ≤ cap) (hb : cap * 8 ≤ 536870912) (hc : cells + 1 ≤ R.cells) (hl : slots + cap ≤ R.slots) :
    ∃ T' cA, Stand p l e R s m args below meth c T' locs (cells + 1) (slots + cap) ∧ Ext T.heap T'.heap ∧ T'.heap.size = T.heap.size + 1 ∧ Arr Z T'.heap T.heap.size (RoadKit.newA cA (.object C) n) (.object C) ∧ Ovr Z cA C ∧
      ∀ target, Steps p.tables e below (T'.setTop { g with pc := g.pc + 3, stack := .ref T.heap.size :: rest }) target → Steps p.tables e below (T.setTop g) target := by
  have w2' : (Jvm.Cond.arrayOver (.object C)).before args s = true := Jvm.Cond.arrayOver_alike hZ.alike w2
  obtain ⟨vm₁, cA, kA, comp, -, h1, h2, h3, h4, X', st⟩ := X.anewarrayRefK hx hown (mv hZ w1) w2' hg hd hs hn (by omega) hc (by omega)
  rw [hZ.alike.findClass] at h1
  obtain ⟨kZ, z1, -⟩ := Vm.findClass_spec h1
  obtain ⟨k', z2, z3⟩ := hZ.alike.2.2 _ _ z1
  cases h2.symm.trans z2
  refine ⟨_, cA, X'.more (Nat.le_refl _) (by omega), ext_push T.heap _, ?_, ⟨?_, ⟨by simp [RoadKit.newA], kZ, z1, comp, by rw [← h3, z3]⟩, by simp [RoadKit.newA]⟩, ⟨kZ, comp, z1, by rw [← h3, z3], by rw [← hZ.alike.findClass]; exact h4⟩, st⟩
  · show (T.heap.push _).size = _
    simp
  · show (T.heap.push _)[T.heap.size]? = _
    simp [RoadKit.newA, defaultValue]
theorem clone1 (X : Stand p l e R s m args below meth c T locs cells slots) (hx : p.tables.exec = Jvm.exec) (hZ : Z.Warmed39 s.vm) {own ad : String} {index : Nat} (hown : s.vm.findClass own = some m.cls)
    (w1 : (Jvm.Cond.methodLink own index ⟨ad, "clone", "()Ljava/lang/Object;"⟩).before a0 Z = true) (w2 : (Jvm.Cond.sameMethod ad "java/lang/Object" "clone" "()Ljava/lang/Object;").before a0 Z = true) (w3 : (Jvm.Cond.native ⟨"java/lang/Object", "clone", "()Ljava/lang/Object;"⟩).before a0 Z = true)
    (w4 : (Jvm.Cond.instanceMethod ⟨"java/lang/Object", "clone", "()Ljava/lang/Object;"⟩).before a0 Z = true) (w5 : (Jvm.Cond.selects ad ⟨ad, "clone", "()Ljava/lang/Object;"⟩ ⟨"java/lang/Object", "clone", "()Ljava/lang/Object;"⟩).before a0 Z = true) (w6 : (Jvm.Cond.castable ad "java/lang/Cloneable").before a0 Z = true)
    {a : Addr} {cl : Cell} {ty : FieldType} (A : Arr Z T.heap a cl ty) (E : Exa Z T.heap a ad) (F : FitC Z cl) {g : JFrame} (hg : g.method = m) (hsize : g.locals.size = c.maxLocals) {rest : List Value} (hs : g.stack = .ref a :: rest) (hd : decode c.code g.pc = .ok (.invokevirtual index, 3))
    (hf : 1 ≤ R.frames) (hl : 2 * g.monitorRoom + (rest.map fun v => v.category).sum + 14 ≤ R.locals) {cap : Nat} (hcap : cl.slots.size ≤ cap) (hc : cells + 1 ≤ R.cells) (hsl : slots + cap ≤ R.slots) :
    ∃ T', Stand p l e R s m args below meth c T' locs (cells + 1) (slots + cap) ∧ Ext T.heap T'.heap ∧ T'.heap.size = T.heap.size + 1 ∧ (∃ cl', cl'.slots = cl.slots ∧ Arr Z T'.heap T.heap.size cl' ty) ∧ Exa Z T'.heap T.heap.size ad ∧
      ∀ target, Steps p.tables e below (T'.setTop { g with pc := g.pc + 3, stack := .ref T.heap.size :: rest }) target → Steps p.tables e below (T.setTop g) target := by
  obtain ⟨c2, k, e1, e2, e3, -, e5⟩ := E
  cases A.1.symm.trans e1
  obtain ⟨c1, cC, g1, g2, g3⟩ := Jvm.Cond.castable_spec w6
  cases e2.symm.trans g1
  have hal : Z.vm.Alike T.vm := hZ.alike.trans X.warmed.alike
  obtain ⟨vm', X', st⟩ := X.cloneArray hx hown (mv hZ w1) (mv hZ w2) (mv hZ w3) (mv hZ w4) (mv hZ w5) (a := a) A.1 A.2.1.1 A.2.2 (by rw [hZ.alike.findClass]; exact e2) (by rw [hZ.alike.findClass]; exact g2) (by rw [hZ.alike.assignable]; exact g3)
    (fun i v hv => by have q := F i v hv; rw [← State.fitsSlot_setVm hal] at q; exact q) hg hsize hs hd hf hl hc (by omega)
    (by obtain ⟨-, k2, hk2, comp, hkind⟩ := A.2.1; rw [hZ.alike.clonesLoader]; exact Vm.clonesLoader_of_array hk2 hkind)
  have hN : (T.heap.push { cls := cl.cls, slots := cl.slots })[T.heap.size]? = some { cls := cl.cls, slots := cl.slots } := by simp
  refine ⟨_, X'.more (Nat.le_refl _) (by omega), ext_push T.heap _, ?_, ⟨{ cls := cl.cls, slots := cl.slots }, rfl, hN, ⟨fun _ z => (by cases z), A.2.1.2⟩, fun z => (by cases z)⟩, ⟨_, k, hN, e2, e3, rfl, e5⟩, st⟩
  show (T.heap.push _).size = _
  simp
end NewLaws
/-! ### the steps over the heap -/
section HeapLaws
variable {P : Prg} {Z : State} {a0 : Array Value} {ρ : Nat → Addr} {n0 : Nat} {H : Hp} {p : Program} {l : Launch} {e : Env} {s : State} {m : MethodId} {args : Array Value} {below : List Frame} {meth : Method} {c : Code} {T : State} {locs : List Loc} {k n j pc : Nat} {L : List Slot}
/-- what a step over the heap leaves -/
def Leaves (P : Prg) (l : Launch) (Z : State) (ρ : Nat → Addr) (n0 j : Nat) (p : Program) (e : Env) (s : State) (m : MethodId) (args : Array Value) (below : List Frame) (meth : Method) (c : Code) (T : State) (pc pc' : Nat) (L L' : List Slot) (S S' : List Value) (H' : Hp) (k' n' : Nat) : Prop :=
  ∃ T' locs', Stand p l e (P.mt j).rm s m args below meth c T' locs' k' n' ∧ Pic P Z ρ n0 T'.heap H' ∧ Fr n0 locs' ∧ ∀ target, Steps p.tables e below (T'.setTop (mkF m pc' (tL ρ L') (tS ρ S'))) target → Steps p.tables e below (T.setTop (mkF m pc (tL ρ L) (tS ρ S))) target
theorem get_ok (PO : PrgOk P Z a0 ρ) (C : Ctx P Z j p s m meth c) (X : Stand p l e (P.mt j).rm s m args below meth c T locs k n) (K : Pic P Z ρ n0 T.heap H) (N : Fr n0 locs) {idx a : Nat} {v : Value} {r : List Value} (h : rdF P j idx H a = some v) (hd : decode c.code pc = .ok (.getfield idx, 3)) :
    Leaves P l Z ρ n0 j p e s m args below meth c T pc (pc + 3) L L (.ref a :: r) (v :: r) H k n := by
  obtain ⟨hx, hZ, hown, -⟩ := C
  unfold rdF at h
  split at h
  · rename_i o ho
    unfold rdO at h
    split at h
    · rename_i cid vs
      split at h
      · rename_i q hq
        obtain ⟨fd, f1, R0, w, via⟩ := PO.1 _ (lk3_mem hq)
        have F := (K.2.2.1 a _ ho (fl_lt f1)).2 q v fd h f1
        obtain ⟨T', X', e', st⟩ := getF X hx hZ hown (host := "") (Or.inl w) via rfl F (g := mkF m pc (tL ρ L) (tS ρ (.ref a :: r))) rfl rfl hd
        exact ⟨T', locs, X', by rw [e']; exact K, N, st⟩
      · cases h
    · cases h
  · cases h
theorem nodup_ne {fs : Fds} (hn : (fs.map fun fd => fd.2.1).Nodup) {q q' : Nat} {fd fd' : String × String × String × FieldType} (h : fs[q]? = some fd) (h' : fs[q']? = some fd') (ne : q ≠ q') : fd.2.1 ≠ fd'.2.1 := fun e => by
  obtain ⟨h1, h2⟩ := List.getElem?_eq_some_iff.mp h
  obtain ⟨g1, g2⟩ := List.getElem?_eq_some_iff.mp h'
  have := (List.getElem_inj (i := q) (j := q') (h₀ := by simpa using h1) (h₁ := by simpa using g1) hn).mp (by simp [h2, g2, e])
  exact ne this
theorem put_ok (PO : PrgOk P Z a0 ρ) (RO : RhoOk P ρ n0) (C : Ctx P Z j p s m meth c) (X : Stand p l e (P.mt j).rm s m args below meth c T locs k n) (K : Pic P Z ρ n0 T.heap H) (N : Fr n0 locs) {idx a : Nat} {v : Value} {r : List Value} {H' : Hp} (h : wrF P j idx H a v = some H') (hd : decode c.code pc = .ok (.putfield idx, 3)) :
    Leaves P l Z ρ n0 j p e s m args below meth c T pc (pc + 3) L L (v :: .ref a :: r) r H' k n := by
  obtain ⟨hx, hZ, hown, -, -, -, hnm, -⟩ := C
  unfold wrF at h
  split at h
  · cases h
  · rename_i hj
    split at h
    · rename_i o ho
      split at h
      · rename_i o' ho'
        cases h
        unfold wrO at ho'
        split at ho'
        · rename_i cid vs
          split at ho'
          · rename_i q hq
            split at ho'
            · rename_i fd hfd
              split at ho'
              · rename_i v' hv'
                split at ho'
                · rename_i hlt
                  cases ho'
                  obtain ⟨C, c1, ⟨wi, wl, wn⟩, fd', f1, ⟨R0, w, via⟩, f3⟩ := PO.2.1 _ (lk3_mem hq)
                  dsimp only at c1 f1 w via f3
                  obtain ⟨e1, e2, e3⟩ := cname_of c1
                  rw [e2] at hfd
                  cases f1.symm.trans hfd
                  obtain ⟨E, F⟩ := K.2.2.1 a _ ho (List.getElem?_eq_some_iff.mp c1).1
                  rw [e1] at E
                  rw [e2] at F
                  obtain ⟨u, hu⟩ : ∃ u, vs[q]? = some u := ⟨_, List.getElem?_eq_getElem hlt⟩
                  have Fq := F q u fd hu f1
                  obtain ⟨b1, b2⟩ := vty_ok (ρ := ρ) hv'
                  have lq := wl fd (List.mem_of_getElem? f1)
                  obtain ⟨T', h', X', e', W, st⟩ := putFN X hx hZ hown w via rfl Fq E (f3.imp id fun t => ⟨t.1, t.2.1, hnm.trans t.2.2⟩) wi lq.2 b1 b2 (g := mkF m pc (tL ρ L) (tS ρ (v :: .ref a :: r))) rfl rfl hd
                  have ge : n0 ≤ ρ a := by rw [RO.1 a (by omega)]; omega
                  refine ⟨T', _, X', ?_, Fr.snoc X' N ge, st⟩
                  rw [e']
                  refine K.write RO W ho fun _ => ⟨by rw [e1]; exact E.wr W, fun q' v'' fd'' g1 g2 => ?_⟩
                  rw [e2] at g2
                  by_cases eq : q = q'
                  · subst eq
                    cases f1.symm.trans g2
                    rw [List.getElem?_set_self hlt] at g1
                    cases g1
                    exact Fq.same W
                  · rw [List.getElem?_set_ne eq] at g1
                    have l2 := wl fd'' (List.mem_of_getElem? g2)
                    exact (F q' v'' fd'' g1 g2).other W (Or.inr (slot_ne l2.1 lq.1 (nodup_ne wn g2 f1 (Ne.symm eq)) l2.2 lq.2))
                · cases ho'
              · cases ho'
            · cases ho'
          · cases ho'
        · cases ho'
      · cases h
    · cases h
theorem new_ok (PO : PrgOk P Z a0 ρ) (RO : RhoOk P ρ n0) (C : Ctx P Z j p s m meth c) (X : Stand p l e (P.mt j).rm s m args below meth c T locs k n) (K : Pic P Z ρ n0 T.heap H) (N : Fr n0 locs) {idx : Nat} {S : List Value} {x : Hp × Nat × Nat} (h : newC P j idx H k n = some x) (hd : decode c.code pc = .ok (.new idx, 3)) :
    Leaves P l Z ρ n0 j p e s m args below meth c T pc (pc + 3) L L S (.ref H.length :: S) x.1 x.2.1 x.2.2 := by
  obtain ⟨hx, hZ, hown, -⟩ := C
  unfold newC at h
  split at h
  · rename_i cid hq
    split at h
    · rename_i hc
      cases h
      obtain ⟨C, c1, ⟨wi, wl, wn⟩, w1, w2⟩ := PO.2.2.2.1 _ (lk2_mem hq)
      dsimp only at c1 w1 w2
      obtain ⟨e1, e2, e3⟩ := cname_of c1
      rw [e3] at hc
      obtain ⟨T', X', E, hsz, A, D, st⟩ := newO1 X hx hZ hown w1 wi w2 (g := mkF m pc (tL ρ L) (tS ρ S)) rfl hd hc.1 hc.2
      have ad := K.addr RO
      rw [← ad] at A D st
      refine ⟨T', locs, by rw [e3]; exact X', K.push E hsz (fun _ => ⟨by rw [e1]; exact A, fun q v fd g1 g2 => ?_⟩), N, st⟩
      rw [e2] at g1 g2
      simp only [List.getElem?_map, g2, Option.map_some, Option.some.injEq] at g1
      subst g1
      have lq := wl fd (List.mem_of_getElem? g2)
      rw [tv_dft]
      exact D lq.1 lq.2
    · cases h
  · cases h
theorem slots_new (cA : ClassId) (ty : FieldType) (len : Int32) : (RoadKit.newA cA ty len).slots = ((List.replicate len.toNatClampNeg (dft ty)).map (tv ρ)).toArray := by
  apply Array.toList_inj.mp
  simp [RoadKit.newA, tv_dft]
theorem newP_ok (PO : PrgOk P Z a0 ρ) (RO : RhoOk P ρ n0) (C : Ctx P Z j p s m meth c) (X : Stand p l e (P.mt j).rm s m args below meth c T locs k n) (K : Pic P Z ρ n0 T.heap H) (N : Fr n0 locs) {t : ArrayType} {len : Int32} {r : List Value} {x : Hp × Nat × Nat} (ht : newarray.typeOf t ∈ P.ats) (h : newA P j pc (newarray.typeOf t) len H k n = some x) (hd : decode c.code pc = .ok (.newarray t, 2)) :
    Leaves P l Z ρ n0 j p e s m args below meth c T pc (pc + 2) L L (.int len :: r) (.ref H.length :: r) x.1 x.2.1 x.2.2 := by
  obtain ⟨hx, hZ, hown, -⟩ := C
  unfold newA at h
  split at h
  · rename_i cap hq
    split at h
    · rename_i hc
      cases h
      obtain ⟨T', cA, X', E, hsz, A, B, st⟩ := newP1 X hx hZ (PO.2.2.2.2.2.1 _ ht) (g := mkF m pc (tL ρ L) (tS ρ (.int len :: r))) rfl hd rfl hc.1 hc.2.1 hc.2.2.1 hc.2.2.2.1 hc.2.2.2.2
      have ad := K.addr RO
      rw [← ad] at A B st
      exact ⟨T', locs, X', K.push E hsz ⟨_, A, slots_new _ _ _, fun _ C0 hC => (by cases t <;> cases hC), fun _ ht => B ht⟩, N, st⟩
    · cases h
  · cases h
theorem newR_ok (PO : PrgOk P Z a0 ρ) (RO : RhoOk P ρ n0) (C : Ctx P Z j p s m meth c) (X : Stand p l e (P.mt j).rm s m args below meth c T locs k n) (K : Pic P Z ρ n0 T.heap H) (N : Fr n0 locs) {idx cid : Nat} {len : Int32} {r : List Value} {x : Hp × Nat × Nat} (hq : lk2 P.na j idx = some cid) (h : newA P j pc (.object (P.cname cid)) len H k n = some x) (hd : decode c.code pc = .ok (.anewarray idx, 3)) :
    Leaves P l Z ρ n0 j p e s m args below meth c T pc (pc + 3) L L (.int len :: r) (.ref H.length :: r) x.1 x.2.1 x.2.2 := by
  obtain ⟨hx, hZ, hown, -⟩ := C
  unfold newA at h
  split at h
  · split at h
    · rename_i hc
      cases h
      obtain ⟨w1, w2⟩ := PO.2.2.2.2.1 _ (lk2_mem hq)
      obtain ⟨T', cA, X', E, hsz, A, O, st⟩ := newR1 X hx hZ hown w1 w2 (g := mkF m pc (tL ρ L) (tS ρ (.int len :: r))) rfl hd rfl hc.1 hc.2.1 hc.2.2.1 hc.2.2.2.1 hc.2.2.2.2
      have ad := K.addr RO
      rw [← ad] at A st
      exact ⟨T', locs, X', K.push E hsz ⟨_, A, slots_new _ _ _, fun _ C0 hC => (by cases hC; exact O), fun _ ht => (by cases ht)⟩, N, st⟩
    · cases h
  · cases h
theorem len_ok (C : Ctx P Z j p s m meth c) (X : Stand p l e (P.mt j).rm s m args below meth c T locs k n) (K : Pic P Z ρ n0 T.heap H) (N : Fr n0 locs) {a : Nat} {v : Int32} {r : List Value} (h : alen H a = some v) (hd : decode c.code pc = .ok (.arraylength, 1)) :
    Leaves P l Z ρ n0 j p e s m args below meth c T pc (pc + 1) L L (.ref a :: r) (.int v :: r) H k n := by
  obtain ⟨hx, hZ, hown, -⟩ := C
  unfold alen at h
  split at h
  · rename_i ty vs ho
    cases h
    obtain ⟨cl, A, hs, -⟩ := K.2.2.1 a _ ho
    have es : cl.slots.size = vs.length := by rw [hs]; simp
    refine ⟨T, locs, X, K, N, fun target hr => X.arraylength hx A.1 (State.isArrayOf_alike hZ.alike A.2.1) (g := mkF m pc (tL ρ L) (tS ρ (.ref a :: r))) rfl rfl hd target ?_⟩
    rw [es]
    exact hr
  · cases h
theorem lda_ok (C : Ctx P Z j p s m meth c) (X : Stand p l e (P.mt j).rm s m args below meth c T locs k n) (K : Pic P Z ρ n0 T.heap H) (N : Fr n0 locs) {i : Instr} (hi : i = .iaload ∨ i = .baload ∨ i = .caload ∨ i = .saload ∨ i = .laload ∨ i = .aaload ∨ i = .daload) {a : Nat} {x : Int32} {v : Value} {r : List Value} (h : ldA i H a x = some v) (hd : decode c.code pc = .ok (i, 1)) :
    Leaves P l Z ρ n0 j p e s m args below meth c T pc (pc + 1) L L (.int x :: .ref a :: r) (v :: r) H k n := by
  obtain ⟨hx, hZ, hown, -⟩ := C
  unfold ldA at h
  split at h
  · rename_i ty vs ho
    split at h
    · rename_i hc
      obtain ⟨cl, A, hs, -⟩ := K.2.2.1 a _ ho
      have es : cl.slots.size = vs.length := by rw [hs]; simp
      have hin : ¬ (x < 0 ∨ cl.slots.size ≤ x.toNatClampNeg) := fun q => by
        rcases q with q | q
        · exact hc.2 q
        · rw [es] at q
          exact absurd (List.getElem?_eq_some_iff.mp h).1 (Nat.not_lt.mpr q)
      have hv : cl.slots[x.toNatClampNeg]? = some (tv ρ v) := by rw [hs]; simp [h]
      have hA := State.isArrayOf_alike hZ.alike A.2.1
      refine ⟨T, locs, X, K, N, fun target hr => ?_⟩
      have ht := hc.1
      rcases hi with rfl | rfl | rfl | rfl | rfl | rfl | rfl <;> cases ty <;> first
        | (cases ht; done)
        | exact X.iaload hx A.1 hA A.2.2 hin hv (g := mkF m pc (tL ρ L) (tS ρ (.int x :: .ref a :: r))) rfl rfl hd target hr
        | exact X.baloadBytes hx A.1 hA A.2.2 hin hv (g := mkF m pc (tL ρ L) (tS ρ (.int x :: .ref a :: r))) rfl rfl hd target hr
        | exact X.caload hx A.1 hA A.2.2 hin hv (g := mkF m pc (tL ρ L) (tS ρ (.int x :: .ref a :: r))) rfl rfl hd target hr
        | exact X.saload hx A.1 hA A.2.2 hin hv (g := mkF m pc (tL ρ L) (tS ρ (.int x :: .ref a :: r))) rfl rfl hd target hr
        | exact X.laload hx A.1 hA A.2.2 hin hv (g := mkF m pc (tL ρ L) (tS ρ (.int x :: .ref a :: r))) rfl rfl hd target hr
        | exact X.aaload hx A.1 hA rfl A.2.2 hin hv (g := mkF m pc (tL ρ L) (tS ρ (.int x :: .ref a :: r))) rfl rfl hd target hr
        | exact X.daload hx A.1 hA A.2.2 hin hv (g := mkF m pc (tL ρ L) (tS ρ (.int x :: .ref a :: r))) rfl rfl hd target hr
    · cases h
  · cases h
theorem set_tv (vs : List Value) (q : Nat) (v : Value) : ((vs.map (tv ρ)).toArray).setIfInBounds q (tv ρ v) = ((vs.set q v).map (tv ρ)).toArray := by
  apply Array.toList_inj.mp
  simp [Array.toList_setIfInBounds, List.map_set]
theorem sta_ok (RO : RhoOk P ρ n0) (C : Ctx P Z j p s m meth c) (X : Stand p l e (P.mt j).rm s m args below meth c T locs k n) (K : Pic P Z ρ n0 T.heap H) (N : Fr n0 locs) {i : Instr} (hi : i = .iastore ∨ i = .bastore ∨ i = .castore ∨ i = .lastore ∨ i = .aastore ∨ i = .dastore) {a : Nat} {x : Int32} {v : Value} {r : List Value} {H' : Hp} (h : stA P i H a x v = some H') (hd : decode c.code pc = .ok (i, 1)) :
    Leaves P l Z ρ n0 j p e s m args below meth c T pc (pc + 1) L L (v :: .int x :: .ref a :: r) r H' k n := by
  obtain ⟨hx, hZ, hown, -⟩ := C
  unfold stA at h
  split at h
  · cases h
  · rename_i hj
    split at h
    · rename_i ty vs ho
      split at h
      · rename_i v' hv'
        split at h
        · rename_i hc
          cases h
          obtain ⟨cl, A, hs, hov, hex⟩ := K.2.2.1 a _ ho
          have es : cl.slots.size = vs.length := by rw [hs]; simp
          have hin : ¬ (x < 0 ∨ cl.slots.size ≤ x.toNatClampNeg) := fun q => by
            rcases q with q | q
            · exact hc.2.1 q
            · rw [es] at q
              exact absurd hc.2.2.1 (Nat.not_lt.mpr q)
          have ge : n0 ≤ ρ a := by rw [RO.1 a (by omega)]; omega
          have fin : ∀ {T' : State} {h' : Heap} (X' : Stand p l e (P.mt j).rm s m args below meth c T' (locs ++ [⟨ρ a, x.toNatClampNeg⟩]) k n) (e' : T'.heap = h') (W : Wr T.heap h' (ρ a) x.toNatClampNeg (tv ρ v')) (st : ∀ target, Steps p.tables e below (T'.setTop (mkF m (pc + 1) (tL ρ L) (tS ρ r))) target → Steps p.tables e below (T.setTop (mkF m pc (tL ρ L) (tS ρ (v :: .int x :: .ref a :: r)))) target),
              Leaves P l Z ρ n0 j p e s m args below meth c T pc (pc + 1) L L (v :: .int x :: .ref a :: r) r (H.set a (.inl ty, vs.set x.toNatClampNeg v')) k n := by
            intro T' h' X' e' W st
            refine ⟨T', _, X', ?_, Fr.snoc X' N ge, st⟩
            rw [e']
            refine K.write RO W ho ⟨_, A.same W, ?_, hov, fun q t => (hex q t).wr W⟩
            show cl.slots.setIfInBounds _ _ = _
            rw [hs]
            exact set_tv vs _ _
          have ht := hc.1
          rcases hi with rfl | rfl | rfl | rfl | rfl | rfl
          · obtain rfl : ty = .int := by cases ty <;> first | rfl | cases ht
            obtain ⟨b, rfl, rfl⟩ : ∃ b, v = .int b ∧ v' = .int b := by cases v <;> cases hv'; exact ⟨_, rfl, rfl⟩
            obtain ⟨T', h', X', e', W, st⟩ := stI X hx hZ rfl A hin (g := mkF m pc (tL ρ L) (tS ρ (.int b :: .int x :: .ref a :: r))) rfl rfl hd
            exact fin X' e' W st
          · obtain rfl : ty = .byte := by cases ty <;> first | rfl | cases ht
            obtain ⟨b, rfl, rfl⟩ : ∃ b : Int32, v = .int b ∧ v' = .int b.toInt8.toInt32 := by cases v <;> cases hv'; exact ⟨_, rfl, rfl⟩
            obtain ⟨T', h', X', e', W, st⟩ := stB X hx hZ rfl A hin (g := mkF m pc (tL ρ L) (tS ρ (.int b :: .int x :: .ref a :: r))) rfl rfl hd
            exact fin X' e' W st
          · obtain rfl : ty = .char := by cases ty <;> first | rfl | cases ht
            obtain ⟨b, rfl, rfl⟩ : ∃ b : Int32, v = .int b ∧ v' = .int b.toUInt32.toUInt16.toUInt32.toInt32 := by cases v <;> cases hv'; exact ⟨_, rfl, rfl⟩
            obtain ⟨T', h', X', e', W, st⟩ := RoadKit.stC X hx hZ rfl A hin (g := mkF m pc (tL ρ L) (tS ρ (.int b :: .int x :: .ref a :: r))) rfl rfl hd
            exact fin X' e' W st
          · obtain rfl : ty = .long := by cases ty <;> first | rfl | cases ht
            obtain ⟨b, rfl, rfl⟩ : ∃ b, v = .long b ∧ v' = .long b := by cases v <;> cases hv'; exact ⟨_, rfl, rfl⟩
            obtain ⟨T', h', X', e', W, st⟩ := stJ X hx hZ rfl A hin (g := mkF m pc (tL ρ L) (tS ρ (.long b :: .int x :: .ref a :: r))) rfl rfl hd
            exact fin X' e' W st
          · obtain ⟨C0, rfl⟩ : ∃ C0, ty = .object C0 := by cases ty <;> first | exact ⟨_, rfl⟩ | cases ht
            obtain ⟨rfl, hvr⟩ : v' = v ∧ (v = .null ∨ ∃ b, v = .ref b) := by
              cases v <;> cases hv'
              · exact ⟨rfl, Or.inl rfl⟩
              · exact ⟨rfl, Or.inr ⟨_, rfl⟩⟩
            rcases hvr with rfl | ⟨b, rfl⟩
            · obtain ⟨T', h', X', e', W, st⟩ := RoadKit.stR X hx hZ rfl A hin rfl (Or.inl rfl) (g := mkF m pc (tL ρ L) (tS ρ (.null :: .int x :: .ref a :: r))) rfl rfl hd
              exact fin X' e' W st
            · have q := hc.2.2.2
              simp only [stoOk] at q
              split at q
              · rename_i cid ws hb
                simp only [Bool.and_eq_true, decide_eq_true_eq] at q
                have I := Ins.self (K.2.2.1 b _ hb q.1).1
                rw [eq_of_beq q.2] at I
                obtain ⟨T', h', X', e', W, st⟩ := RoadKit.stR X hx hZ rfl A hin rfl (Sto.of A (hov (by omega) C0 rfl) I) (g := mkF m pc (tL ρ L) (tS ρ (.ref b :: .int x :: .ref a :: r))) rfl rfl hd
                exact fin X' e' W st
              · cases q
          · obtain rfl : ty = .double := by cases ty <;> first | rfl | cases ht
            obtain ⟨b, rfl, rfl⟩ : ∃ b, v = .double b ∧ v' = .double b := by cases v <;> cases hv'; exact ⟨_, rfl, rfl⟩
            obtain ⟨T', h', X', e', W, st⟩ := stD X hx hZ rfl A hin (g := mkF m pc (tL ρ L) (tS ρ (.double b :: .int x :: .ref a :: r))) rfl rfl hd
            exact fin X' e' W st
        · cases h
      · cases h
    · cases h
theorem cast_ok (PO : PrgOk P Z a0 ρ) (C : Ctx P Z j p s m meth c) (X : Stand p l e (P.mt j).rm s m args below meth c T locs k n) (K : Pic P Z ρ n0 T.heap H) (N : Fr n0 locs) {idx a : Nat} {r : List Value} (h : castI P j idx H a = some true) (hd : decode c.code pc = .ok (.checkcast idx, 3)) :
    Leaves P l Z ρ n0 j p e s m args below meth c T pc (pc + 3) L L (.ref a :: r) (.ref a :: r) H k n := by
  obtain ⟨hx, hZ, hown, -⟩ := C
  unfold castI at h
  split at h
  · rename_i o ho
    obtain ⟨K0, w, hI, -⟩ := PO.2.2.2.2.2.2.1 _ (lkK_mem h)
    obtain ⟨T', X', e', st⟩ := castY X hx hZ hown w rfl (hI T.heap a o.2 (K.2.2.1 a _ ho)) (g := mkF m pc (tL ρ L) (tS ρ (.ref a :: r))) rfl rfl hd
    exact ⟨T', locs, X', by rw [e']; exact K, N, st⟩
  · cases h
theorem inst_ok (PO : PrgOk P Z a0 ρ) (C : Ctx P Z j p s m meth c) (X : Stand p l e (P.mt j).rm s m args below meth c T locs k n) (K : Pic P Z ρ n0 T.heap H) (N : Fr n0 locs) {idx a : Nat} {r : List Value} {b : Bool} (h : castI P j idx H a = some b) (hd : decode c.code pc = .ok (.instanceof idx, 3)) :
    Leaves P l Z ρ n0 j p e s m args below meth c T pc (pc + 3) L L (.ref a :: r) (.int (if b = true then 1 else 0) :: r) H k n := by
  obtain ⟨hx, hZ, hown, -⟩ := C
  unfold castI at h
  split at h
  · rename_i o ho
    obtain ⟨K0, w, hI, hf⟩ := PO.2.2.2.2.2.2.1 _ (lkK_mem h)
    have I := hI T.heap a o.2 (K.2.2.1 a _ ho)
    dsimp only at w I hf
    cases b with
    | true =>
      obtain ⟨T', X', e', st⟩ := instY X hx hZ hown w rfl I (g := mkF m pc (tL ρ L) (tS ρ (.ref a :: r))) rfl rfl hd
      exact ⟨T', locs, X', by rw [e']; exact K, N, st⟩
    | false =>
      obtain ⟨cid, hk, hlt⟩ := hf rfl
      have KO := K.2.2.1 a _ ho
      obtain ⟨kd, vs⟩ := o
      dsimp only at hk
      subst hk
      obtain ⟨cell, kz, q1, q2, q3, q4, q5⟩ := (KO hlt).1
      obtain ⟨cell', cT, i1, i2, i3⟩ := I
      cases q1.symm.trans i1
      obtain ⟨k', r1, -⟩ := hZ.alike.2.2 _ _ q3
      obtain ⟨vm', X', st⟩ := Jvm.Sym.instanceofNoAt X hx hown (mv hZ w) q1 q4 r1 (by rw [hZ.alike.findClass]; exact i2) (by rw [hZ.alike.assignable]; simpa [q4] using i3) (g := mkF m pc (tL ρ L) (tS ρ (.ref a :: r))) rfl rfl hd
      exact ⟨_, locs, X', K, N, st⟩
  · cases h
theorem cln_ok (PO : PrgOk P Z a0 ρ) (RO : RhoOk P ρ n0) (C : Ctx P Z j p s m meth c) (X : Stand p l e (P.mt j).rm s m args below meth c T locs k n) (K : Pic P Z ρ n0 T.heap H) (N : Fr n0 locs) {idx a np j' : Nat} {r : List Value} {x : HR} (hq : lk2 P.ic j idx = some (7, np, j')) (h : clnA P j pc L r H a k n = some x) (hd : decode c.code pc = .ok (.invokevirtual idx, 3)) :
    Leaves P l Z ρ n0 j p e s m args below meth c T pc (pc + 3) L L (.ref a :: r) x.1 x.2.1 x.2.2.1 x.2.2.2 := by
  obtain ⟨hx, hZ, hown, -, hml, -⟩ := C
  unfold clnA at h
  split at h
  · rename_i vs ho
    split at h
    · rename_i cap hcp
      split at h
      · rename_i hc
        cases h
        obtain ⟨⟨hj, hI⟩, ⟨g1, g2, g3⟩, g4, g5, g6⟩ := hc
        obtain ⟨w1, w2, w3, w4, w5, w6⟩ := PO.2.2.2.2.2.2.2.2.2.1 _ (lk2_mem hq)
        obtain ⟨cl, A, hs, hov, hex⟩ := K.2.2.1 a _ ho
        have es : cl.slots.size = vs.length := by rw [hs]; simp
        have F : FitC Z cl := fitC_of A fun i hi v hv => by
          rw [hs] at hv
          simp only [List.getElem?_toArray, List.getElem?_map, Option.map_eq_some_iff] at hv
          obtain ⟨u, hu, rfl⟩ := hv
          have := List.all_eq_true.mp hI u (List.mem_of_getElem? hu)
          cases u <;> first | rfl | cases this
        obtain ⟨T', X', E, hsz, ⟨cl', hs', A'⟩, E', st⟩ := clone1 X hx hZ hown w1 w2 w3 w4 w5 w6 A (hex hj rfl) F (g := mkF m pc (tL ρ L) (tS ρ (.ref a :: r))) rfl (by rw [hml, ← g1]; simp) (rest := tS ρ r) rfl hd g2 (by show 2 * 0 + _ + 14 ≤ _; rw [wt_eq]; omega) (by rw [es]; exact g4) g5 g6
        have ad := K.addr RO
        rw [← ad] at A' E' st
        exact ⟨T', locs, X', K.push E hsz ⟨cl', A', by rw [hs']; exact hs, fun _ C0 hC => (by cases hC), fun _ _ => E'⟩, N, st⟩
      · cases h
    · cases h
  · cases h
end HeapLaws
end Jvm.MM
namespace Jvm.MM
open Jvm Jvm.ClassFile Sem Op Lib Jvm.Free Jvm.Stand Jvm.LawKit Jvm.RoadKit
/-! ### the whole run -/
section Sound
variable {P : Prg} {Z : State} {a0 : Array Value} {ρ : Nat → Addr} {n0 : Nat} {l : Launch}
def Snd (P : Prg) (l : Launch) (Z : State) (ρ : Nat → Addr) (n0 j : Nat) : St → MRes → Prop
  | (pc, L, S, H, k, n), r => ∀ (p : Program) (e : Env) (s : State) (m : MethodId) (args : Array Value) (below : List Frame) (meth : Method) (c : Code) (T : State) (locs : List Loc),
    Ctx P Z j p s m meth c → Stand p l e (P.mt j).rm s m args below meth c T locs k n → Pic P Z ρ n0 T.heap H → Fr n0 locs →
    ∃ s₂ L', Steps p.tables e below (T.setTop (mkF m pc (tL ρ L) (tS ρ S))) s₂ ∧ s₂.status = .running ∧ Ended s₂ below (.returned (r.1.map (tv ρ))) ∧ Pic P Z ρ n0 s₂.heap r.2 ∧ Fr n0 L' ∧ FrameEnd s (.returned (r.1.map (tv ρ))) s₂ L' (P.mt j).rm.cells (P.mt j).rm.slots
/-- what a call leaves -/
def Qm (P : Prg) (Z : State) (ρ : Nat → Addr) (n0 : Nat) (r : MRes) (v : Option Value) (h : Heap) (L : List Loc) : Prop := v = r.1.map (tv ρ) ∧ Pic P Z ρ n0 h r.2 ∧ Fr n0 L
theorem laid_tr : ∀ as : List Value, Jvm.Sym.laidSlots (as.map (tv ρ)) = (laid as).map (ts ρ)
  | [] => rfl
  | v :: r => by
    have ih := laid_tr r
    show (if (tv ρ v).category = 2 then Slot.val (tv ρ v) :: .second :: Jvm.Sym.laidSlots (r.map (tv ρ)) else .val (tv ρ v) :: Jvm.Sym.laidSlots (r.map (tv ρ))) = (if cat v = 2 then Slot.val v :: .second :: laid r else .val v :: laid r).map (ts ρ)
    rw [cat_eq, cat_tv, ih]
    split <;> rfl
theorem ent_tr (as : List Value) (mx : Nat) : Jvm.Sym.laidSlots (tS ρ as).toArray.toList ++ List.replicate (mx - (Jvm.Sym.laidSlots (tS ρ as).toArray.toList).length) Slot.unset = (tL ρ (entL as mx)).toList := by
  show Jvm.Sym.laidSlots (as.map (tv ρ)) ++ List.replicate (mx - (Jvm.Sym.laidSlots (as.map (tv ρ))).length) Slot.unset = (laid as ++ List.replicate (mx - (laid as).length) Slot.unset).map (ts ρ)
  rw [laid_tr, List.length_map, List.map_append, List.map_replicate]
  rfl
theorem met_of {j : Nat} {as : List Value} {H : Hp} {r : MRes} {h0 : Heap} (hpl : plainFor (P.mt j).y = true) (hS : Snd P l Z ρ n0 j (0, entL as (P.mt j).mx, [], H, 0, 0) r) (K : Pic P Z ρ n0 h0 H) (ws : List Jvm.Cond) :
    MetFree l (P.mt j).y (head1 (Jvm.Cond.code (P.mt j).y (P.mt j).code (P.mt j).mx (P.mt j).ret :: ws) (P.mt j).rm) (fun a U => a = (tS ρ as).toArray ∧ Z.Warmed39 U.vm ∧ U.heap = h0) (fun _ _ _ _ _ => True) (fun _ U o U' => ∃ v L, o = .returned v ∧ Qm P Z ρ n0 r v U'.heap L ∧ FrameEnd U o U' L (P.mt j).rm.cells (P.mt j).rm.slots) := by
  refine MetFree.of_bodySF hpl hisR ?_
  intro p e s m args below meth c s₁ Bd hml0 hP hK
  obtain ⟨rfl, hZ, hh⟩ := hP
  have hown : s.vm.findClass (P.mt j).y.cls = some m.cls := findClass_of_methodNamed Bd.named
  have hnm := (name_of_methodNamed Bd.named Bd.method).1
  have X0 : Stand p l e (P.mt j).rm s m (tS ρ as).toArray below meth c s₁ [] 0 0 := Stand.of_body Bd
  have e0 : s₁.heap = h0 := by rw [← hh, Bd.state]; rfl
  have Cx : Ctx P Z j p s m meth c := ⟨Bd.exec, hZ, hown, Bd.bytes, hml0, Bd.returns, hnm, Bd.notSynchronized⟩
  obtain ⟨s₂, L', st, h1, h2, h3, h4, h5⟩ := hS p e s m _ below meth c s₁ [] Cx X0 (by rw [e0]; exact K) (Fr.nil n0)
  exact ⟨s₂, _, (XT.entry (ent_tr as _)).trans st, h1, h2, _, L', rfl, ⟨rfl, h3, h4⟩, h5⟩
section At
variable {H : Hp} {p : Program} {e : Env} {s : State} {m : MethodId} {args : Array Value} {below : List Frame} {meth : Method} {c : Code} {T : State} {locs : List Loc} {k n j pc : Nat} {L : List Slot}
theorem rm_inv {j j' : Nat} {L : List Slot} {r : List Value} {k n : Nat} (h : rmOk P j j' L r k n = true) : L.length = (P.mt j).mx ∧ (P.mt j').rm.frames + 1 ≤ (P.mt j).rm.frames ∧ wt r + ((P.mt j').mx + 11) + (P.mt j').rm.locals ≤ (P.mt j).rm.locals ∧ k + (P.mt j').rm.cells ≤ (P.mt j).rm.cells ∧ n + (P.mt j').rm.slots ≤ (P.mt j).rm.slots := by
  simpa only [rmOk, Bool.and_eq_true, decide_eq_true_eq] using h
theorem tS_opt (v : Option Value) (r : List Value) : (v.map (tv ρ)).toList ++ tS ρ r = tS ρ (v.toList ++ r) := by cases v <;> rfl
theorem take_stack (S : List Value) (np : Nat) : tS ρ S = (tS ρ (S.take np).reverse).reverse ++ tS ρ (S.drop np) := by
  rw [← List.map_reverse, List.reverse_reverse, ← List.map_append, List.take_append_drop]
theorem take_len {S : List Value} {np : Nat} (h : np ≤ S.length) : (tS ρ (S.take np).reverse).length = np := by simp [Nat.min_eq_left h]
theorem callS_ok (PO : PrgOk P Z a0 ρ) (C : Ctx P Z j p s m meth c) (X : Stand p l e (P.mt j).rm s m args below meth c T locs k n) (K : Pic P Z ρ n0 T.heap H) (N : Fr n0 locs) {idx np j' : Nat} {S : List Value} (hq : lk2 P.ic j idx = some (0, np, j')) (hnp : np ≤ S.length) (hrm : rmOk P j j' L (S.drop np) k n = true) (hd : decode c.code pc = .ok (.invokestatic idx, 3))
    {r : MRes} (hS : Snd P l Z ρ n0 j' (0, entL (S.take np).reverse (P.mt j').mx, [], H, 0, 0) r) :
    Leaves P l Z ρ n0 j p e s m args below meth c T pc (pc + 3) L L S (r.1.toList ++ S.drop np) r.2 (k + (P.mt j').rm.cells) (n + (P.mt j').rm.slots) := by
  obtain ⟨hx, hZ, hown, -, hml, -⟩ := C
  obtain ⟨g1, g2, g3, g4, g5⟩ := rm_inv hrm
  obtain ⟨w1, w2, ⟨w3, w4, w5, w6⟩, w7⟩ := PO.2.2.2.2.2.2.2.2.2.1 _ (lk2_mem hq)
  have met := met_of w5 hS K []
  obtain ⟨v, vm₁, ⟨T', L2, k2, n2⟩, -, X', ⟨Lc, ⟨hv, hp, hN⟩, l1, l2, l3⟩, st⟩ := Jvm.LawKit.callS X hx (y := (P.mt j').y) hown (mvT hZ w1) (mvT hZ w2) (mvT hZ w4) (mvT hZ w3) w6 (backOf (W := wt (S.drop np)) (Q := Qm P Z ρ n0 r) met hZ w3 w4 g2 g3) (g := mkF m pc (tL ρ L) (tS ρ S)) rfl (by rw [hml, ← g1]; simp) (argsL := tS ρ (S.take np).reverse) (rest := tS ρ (S.drop np)) (fun sig hsig => by rw [take_len hnp]; exact w7 sig hsig) (take_stack S np) (by show 2 * 0 + _ ≤ _; rw [wt_eq]; omega) hd (fun _ _ => ⟨rfl, rfl, g4, g5⟩)
  dsimp only [Pt.U, Pt.locs, Pt.cells, Pt.slots] at X' hp l1 l2 l3 st
  subst l1 l2 l3 hv
  refine ⟨T', _, X', hp, Fr.app N hN, fun target hr => st target ?_⟩
  rw [tS_opt]
  exact hr
theorem callI_ok (PO : PrgOk P Z a0 ρ) (C : Ctx P Z j p s m meth c) (X : Stand p l e (P.mt j).rm s m args below meth c T locs k n) (K : Pic P Z ρ n0 T.heap H) (N : Fr n0 locs) {idx np j' a : Nat} {S rr : List Value} (hq : lk2 P.ic j idx = some (1, np, j')) (hdr : S.drop np = .ref a :: rr) (hrm : rmOk P j j' L rr k n = true) (hd : decode c.code pc = .ok (.invokespecial idx, 3))
    {r : MRes} (hS : Snd P l Z ρ n0 j' (0, entL (.ref a :: (S.take np).reverse) (P.mt j').mx, [], H, 0, 0) r) :
    Leaves P l Z ρ n0 j p e s m args below meth c T pc (pc + 3) L L S (r.1.toList ++ rr) r.2 (k + (P.mt j').rm.cells) (n + (P.mt j').rm.slots) := by
  obtain ⟨hx, hZ, hown, -, hml, -⟩ := C
  obtain ⟨g1, g2, g3, g4, g5⟩ := rm_inv hrm
  obtain ⟨w0, w1, w2, ⟨w3, w4, w5, w6⟩, w8, w7⟩ := PO.2.2.2.2.2.2.2.2.2.1 _ (lk2_mem hq)
  have hnp : np ≤ S.length := by
    have := congrArg List.length hdr
    simp only [List.length_drop, List.length_cons] at this
    omega
  have met := met_of w5 hS K []
  have w3' : (Jvm.Cond.code (P.mt j').y (P.mt j').code (P.mt j').mx none).before a0 Z = true := by rw [← w8]; exact w3
  obtain ⟨v, vm₁, ⟨T', L2, k2, n2⟩, -, X', ⟨Lc, ⟨hv, hp, hN⟩, l1, l2, l3⟩, st⟩ := X.specialBack hx (y := (P.mt j').y) w0 hown (mvT hZ w1) (mvT hZ w2) (mvT hZ w3') w6 (backOf (W := wt rr) (Q := Qm P Z ρ n0 r) met hZ w3 w4 g2 g3) (g := mkF m pc (tL ρ L) (tS ρ S)) rfl (by rw [hml, ← g1]; simp) (Steps.refl _) (a := ρ a) (argsL := tS ρ (S.take np).reverse) (rest := tS ρ rr) (fun sig hsig => by rw [take_len hnp]; exact w7 sig hsig) ((take_stack S np).trans (by rw [hdr]; rfl)) (by show 2 * 0 + _ ≤ _; rw [wt_eq]; omega) hd (fun _ _ => ⟨rfl, rfl, g4, g5⟩)
  dsimp only [Pt.U, Pt.locs, Pt.cells, Pt.slots] at X' hp l1 l2 l3 st
  subst l1 l2 l3 hv
  refine ⟨T', _, X', hp, Fr.app N hN, fun target hr => st.trans ?_⟩
  rw [tS_opt]
  exact hr
theorem nf_ok {y : MethodName} (hZ : Z.Warmed39 s.vm) (h : NfOk Z a0 y) : NotFace s y := by
  rcases h with ⟨C, w⟩ | ⟨S, w⟩ | w
  · exact notFace_of_selects (args := #[]) (mvT hZ w)
  · exact nf_super (args := #[]) (mvT hZ w)
  · exact nf_top (args := #[]) (mvT hZ w)
theorem callV_ok (PO : PrgOk P Z a0 ρ) (C : Ctx P Z j p s m meth c) (X : Stand p l e (P.mt j).rm s m args below meth c T locs k n) (K : Pic P Z ρ n0 T.heap H) (N : Fr n0 locs) {idx np j' a cid : Nat} {S rr vs : List Value} (hq : lk3 P.vc j idx cid = some (np, j')) (hdr : S.drop np = .ref a :: rr) (ho : H[a]? = some (.inr cid, vs)) (hrm : rmOk P j j' L rr k n = true) (hd : decode c.code pc = .ok (.invokevirtual idx, 3))
    {r : MRes} (hS : Snd P l Z ρ n0 j' (0, entL (.ref a :: (S.take np).reverse) (P.mt j').mx, [], H, 0, 0) r) :
    Leaves P l Z ρ n0 j p e s m args below meth c T pc (pc + 3) L L S (r.1.toList ++ rr) r.2 (k + (P.mt j').rm.cells) (n + (P.mt j').rm.slots) := by
  obtain ⟨hx, hZ, hown, -, hml, -⟩ := C
  obtain ⟨g1, g2, g3, g4, g5⟩ := rm_inv hrm
  obtain ⟨y, w1, w2, wn, w8, w9, ⟨w3, w4, w5, w6⟩, w10, w7, hlt⟩ := PO.2.2.2.2.2.2.2.2.2.2 _ (lk3_mem hq)
  have hnp : np ≤ S.length := by
    have := congrArg List.length hdr
    simp only [List.length_drop, List.length_cons] at this
    omega
  have met := met_of w5 hS K []
  obtain ⟨cB, kB, q1, q2, q3⟩ := isOf hZ rfl (K.2.2.1 a _ ho hlt).1
  obtain ⟨v, vm₁, ⟨T', L2, k2, n2⟩, -, X', ⟨Lc, ⟨hv, hp, hN⟩, l1, l2, l3⟩, st⟩ := X.virtualBack hx (y := y) (z := (P.mt j').y) hown (mvT hZ w1) (mvT hZ w2) (nf_ok hZ wn) (mvT hZ w8) (mvT hZ w9) w10 (backOf (W := wt rr) (Q := Qm P Z ρ n0 r) met hZ w3 w4 g2 g3) q1 q3 (g := mkF m pc (tL ρ L) (tS ρ S)) rfl (by rw [hml, ← g1]; simp) (Steps.refl _) (argsL := tS ρ (S.take np).reverse) (rest := tS ρ rr) (fun sig hsig => by rw [take_len hnp]; exact w7 sig hsig) ((take_stack S np).trans (by rw [hdr]; rfl)) (by show 2 * 0 + _ ≤ _; rw [wt_eq]; omega) hd (fun _ _ => ⟨rfl, rfl, g4, g5⟩)
  dsimp only [Pt.U, Pt.locs, Pt.cells, Pt.slots] at X' hp l1 l2 l3 st
  subst l1 l2 l3 hv
  refine ⟨T', _, X', hp, Fr.app N hN, fun target hr => st.trans ?_⟩
  rw [tS_opt]
  exact hr
set_option maxHeartbeats 8000000 in
theorem call_ok (PO : PrgOk P Z a0 ρ) (C : Ctx P Z j p s m meth c) (X : Stand p l e (P.mt j).rm s m args below meth c T locs k n) (K : Pic P Z ρ n0 T.heap H) (N : Fr n0 locs) {i : Instr} {j' : Nat} {S as rr : List Value} (hc : calI P j i S H = some (j', as, rr)) (hrm : rmOk P j j' L rr k n = true) (hd : decode c.code pc = .ok (i, ilen i))
    {r : MRes} (hS : Snd P l Z ρ n0 j' (0, entL as (P.mt j').mx, [], H, 0, 0) r) :
    Leaves P l Z ρ n0 j p e s m args below meth c T pc (pc + 3) L L S (r.1.toList ++ rr) r.2 (k + (P.mt j').rm.cells) (n + (P.mt j').rm.slots) := by
  cases i
  case invokestatic idx =>
    simp only [calI] at hc
    split at hc
    · rename_i np j'' hq
      split at hc
      · rename_i hnp
        cases hc
        exact callS_ok PO C X K N hq hnp hrm hd hS
      · cases hc
    · cases hc
  case invokespecial idx =>
    simp only [calI] at hc
    split at hc
    · rename_i np j'' hq
      split at hc
      · rename_i a r0 hdr
        cases hc
        exact callI_ok PO C X K N hq hdr hrm hd hS
      · cases hc
    · cases hc
  case invokevirtual idx =>
    simp only [calI] at hc
    split at hc
    · rename_i np j'' hq
      split at hc
      · rename_i a r0 hdr
        split at hc
        · rename_i cid vs ho
          split at hc
          · rename_i np' j3 hq3
            split at hc
            · rename_i en
              subst en
              cases hc
              exact callV_ok PO C X K N hq3 hdr ho hrm hd hS
            · cases hc
          · cases hc
        · cases hc
      · cases hc
    · cases hc
  all_goals (exact absurd hc (fun q => by cases q))
theorem hLdc_ok (PO : PrgOk P Z a0 ρ) (RO : RhoOk P ρ n0) (C : Ctx P Z j p s m meth c) (X : Stand p l e (P.mt j).rm s m args below meth c T locs k n) (K : Pic P Z ρ n0 T.heap H) (N : Fr n0 locs) {idx : Nat} {S : List Value} {x : HR} (h : hLdc P j idx S H k n = some x) (hd : decode c.code pc = .ok (.ldc idx, 2)) :
    Leaves P l Z ρ n0 j p e s m args below meth c T pc (pc + 2) L L S x.1 x.2.1 x.2.2.1 x.2.2.2 := by
  obtain ⟨hx, hZ, hown, -⟩ := C
  unfold hLdc at h
  split at h
  · rename_i v hq
    cases h
    have w0 := PO.2.2.2.2.2.2.2.1 (j, idx, v) (lk2_mem hq)
    have w : (Jvm.Cond.constant (P.mt j).y.cls idx v).before a0 Z = true := w0
    exact ⟨T, locs, X, K, N, X.ldcInt hx hown (mvT hZ w) (g := mkF m pc (tL ρ L) (tS ρ S)) rfl hd⟩
  · cases h
theorem hLdc2_ok (PO : PrgOk P Z a0 ρ) (RO : RhoOk P ρ n0) (C : Ctx P Z j p s m meth c) (X : Stand p l e (P.mt j).rm s m args below meth c T locs k n) (K : Pic P Z ρ n0 T.heap H) (N : Fr n0 locs) {idx : Nat} {S : List Value} {x : HR} (h : hLdc2 P j idx S H k n = some x) (hd : decode c.code pc = .ok (.ldc2_w idx, 3)) :
    Leaves P l Z ρ n0 j p e s m args below meth c T pc (pc + 3) L L S x.1 x.2.1 x.2.2.1 x.2.2.2 := by
  obtain ⟨hx, hZ, hown, -⟩ := C
  unfold hLdc2 at h
  split at h
  · rename_i v hq
    cases h
    have w0 := PO.2.2.2.2.2.2.2.2.1 (j, idx, v) (lk2_mem hq)
    have w : (Jvm.Cond.constantLong (P.mt j).y.cls idx v).before a0 Z = true := w0
    exact ⟨T, locs, X, K, N, X.ldc2Long hx hown (mvT hZ w) (g := mkF m pc (tL ρ L) (tS ρ S)) rfl hd⟩
  · cases h
theorem hGs_ok (PO : PrgOk P Z a0 ρ) (RO : RhoOk P ρ n0) (C : Ctx P Z j p s m meth c) (X : Stand p l e (P.mt j).rm s m args below meth c T locs k n) (K : Pic P Z ρ n0 T.heap H) (N : Fr n0 locs) {idx : Nat} {S : List Value} {x : HR} (h : hGs P j idx S H k n = some x) (hd : decode c.code pc = .ok (.getstatic idx, 3)) :
    Leaves P l Z ρ n0 j p e s m args below meth c T pc (pc + 3) L L S x.1 x.2.1 x.2.2.1 x.2.2.2 := by
  obtain ⟨hx, hZ, hown, -⟩ := C
  unfold hGs at h
  split at h
  · rename_i q hq
    split at h
    · rename_i d hdq
      cases h
      obtain ⟨d', d1, R0, w, via⟩ := PO.2.2.1 _ (lk2_mem hq)
      dsimp only at d1 w via
      cases d1.symm.trans hdq
      obtain ⟨T', X', e', st⟩ := getS (host := "") X hx hZ hown w via rfl (K.2.2.2 d (List.mem_of_getElem? hdq)) (g := mkF m pc (tL ρ L) (tS ρ S)) rfl hd
      exact ⟨T', locs, X', by rw [e']; exact K, N, st⟩
    · cases h
  · cases h
theorem hGet_ok (PO : PrgOk P Z a0 ρ) (RO : RhoOk P ρ n0) (C : Ctx P Z j p s m meth c) (X : Stand p l e (P.mt j).rm s m args below meth c T locs k n) (K : Pic P Z ρ n0 T.heap H) (N : Fr n0 locs) {idx : Nat} {S : List Value} {x : HR} (h : hGet P j idx S H k n = some x) (hd : decode c.code pc = .ok (.getfield idx, 3)) :
    Leaves P l Z ρ n0 j p e s m args below meth c T pc (pc + 3) L L S x.1 x.2.1 x.2.2.1 x.2.2.2 := by
  unfold hGet at h
  split at h
  · split at h
    · rename_i v hv
      cases h
      exact get_ok PO C X K N hv hd
    · cases h
  · cases h
theorem hPut_ok (PO : PrgOk P Z a0 ρ) (RO : RhoOk P ρ n0) (C : Ctx P Z j p s m meth c) (X : Stand p l e (P.mt j).rm s m args below meth c T locs k n) (K : Pic P Z ρ n0 T.heap H) (N : Fr n0 locs) {idx : Nat} {S : List Value} {x : HR} (h : hPut P j idx S H k n = some x) (hd : decode c.code pc = .ok (.putfield idx, 3)) :
    Leaves P l Z ρ n0 j p e s m args below meth c T pc (pc + 3) L L S x.1 x.2.1 x.2.2.1 x.2.2.2 := by
  unfold hPut at h
  split at h
  · split at h
    · rename_i v hv
      cases h
      exact put_ok PO RO C X K N hv hd
    · cases h
  · cases h
theorem hNew_ok (PO : PrgOk P Z a0 ρ) (RO : RhoOk P ρ n0) (C : Ctx P Z j p s m meth c) (X : Stand p l e (P.mt j).rm s m args below meth c T locs k n) (K : Pic P Z ρ n0 T.heap H) (N : Fr n0 locs) {idx : Nat} {S : List Value} {x : HR} (h : hNew P j idx S H k n = some x) (hd : decode c.code pc = .ok (.new idx, 3)) :
    Leaves P l Z ρ n0 j p e s m args below meth c T pc (pc + 3) L L S x.1 x.2.1 x.2.2.1 x.2.2.2 := by
  unfold hNew at h
  split at h
  · rename_i y hy
    cases h
    exact new_ok PO RO C X K N hy hd
  · cases h
theorem hNewA_ok (PO : PrgOk P Z a0 ρ) (RO : RhoOk P ρ n0) (C : Ctx P Z j p s m meth c) (X : Stand p l e (P.mt j).rm s m args below meth c T locs k n) (K : Pic P Z ρ n0 T.heap H) (N : Fr n0 locs) {t : ArrayType} {S : List Value} {x : HR} (h : hNewA P j pc t S H k n = some x) (hd : decode c.code pc = .ok (.newarray t, 2)) :
    Leaves P l Z ρ n0 j p e s m args below meth c T pc (pc + 2) L L S x.1 x.2.1 x.2.2.1 x.2.2.2 := by
  unfold hNewA at h
  split at h
  · split at h
    · rename_i ht
      split at h
      · rename_i y hy
        cases h
        exact newP_ok PO RO C X K N ht hy hd
      · cases h
    · cases h
  · cases h
theorem hNewR_ok (PO : PrgOk P Z a0 ρ) (RO : RhoOk P ρ n0) (C : Ctx P Z j p s m meth c) (X : Stand p l e (P.mt j).rm s m args below meth c T locs k n) (K : Pic P Z ρ n0 T.heap H) (N : Fr n0 locs) {idx : Nat} {S : List Value} {x : HR} (h : hNewR P j pc idx S H k n = some x) (hd : decode c.code pc = .ok (.anewarray idx, 3)) :
    Leaves P l Z ρ n0 j p e s m args below meth c T pc (pc + 3) L L S x.1 x.2.1 x.2.2.1 x.2.2.2 := by
  unfold hNewR at h
  split at h
  · split at h
    · rename_i cid hq
      split at h
      · rename_i y hy
        cases h
        exact newR_ok PO RO C X K N hq hy hd
      · cases h
    · cases h
  · cases h
theorem hLen_ok (PO : PrgOk P Z a0 ρ) (RO : RhoOk P ρ n0) (C : Ctx P Z j p s m meth c) (X : Stand p l e (P.mt j).rm s m args below meth c T locs k n) (K : Pic P Z ρ n0 T.heap H) (N : Fr n0 locs)  {S : List Value} {x : HR} (h : hLen S H k n = some x) (hd : decode c.code pc = .ok (.arraylength, 1)) :
    Leaves P l Z ρ n0 j p e s m args below meth c T pc (pc + 1) L L S x.1 x.2.1 x.2.2.1 x.2.2.2 := by
  unfold hLen at h
  split at h
  · split at h
    · rename_i v hv
      cases h
      exact len_ok C X K N hv hd
    · cases h
  · cases h
theorem hLda_ok (PO : PrgOk P Z a0 ρ) (RO : RhoOk P ρ n0) (C : Ctx P Z j p s m meth c) (X : Stand p l e (P.mt j).rm s m args below meth c T locs k n) (K : Pic P Z ρ n0 T.heap H) (N : Fr n0 locs) {i : Instr} (hi : i = .iaload ∨ i = .baload ∨ i = .caload ∨ i = .saload ∨ i = .laload ∨ i = .aaload ∨ i = .daload) {S : List Value} {x : HR} (h : hLda i S H k n = some x) (hd : decode c.code pc = .ok (i, 1)) :
    Leaves P l Z ρ n0 j p e s m args below meth c T pc (pc + 1) L L S x.1 x.2.1 x.2.2.1 x.2.2.2 := by
  unfold hLda at h
  split at h
  · split at h
    · rename_i v hv
      cases h
      exact lda_ok C X K N hi hv hd
    · cases h
  · cases h
theorem hSta_ok (PO : PrgOk P Z a0 ρ) (RO : RhoOk P ρ n0) (C : Ctx P Z j p s m meth c) (X : Stand p l e (P.mt j).rm s m args below meth c T locs k n) (K : Pic P Z ρ n0 T.heap H) (N : Fr n0 locs) {i : Instr} (hi : i = .iastore ∨ i = .bastore ∨ i = .castore ∨ i = .lastore ∨ i = .aastore ∨ i = .dastore) {S : List Value} {x : HR} (h : hSta P i S H k n = some x) (hd : decode c.code pc = .ok (i, 1)) :
    Leaves P l Z ρ n0 j p e s m args below meth c T pc (pc + 1) L L S x.1 x.2.1 x.2.2.1 x.2.2.2 := by
  unfold hSta at h
  split at h
  · split at h
    · rename_i v hv
      cases h
      exact sta_ok RO C X K N hi hv hd
    · cases h
  · cases h
theorem hCast_ok (PO : PrgOk P Z a0 ρ) (RO : RhoOk P ρ n0) (C : Ctx P Z j p s m meth c) (X : Stand p l e (P.mt j).rm s m args below meth c T locs k n) (K : Pic P Z ρ n0 T.heap H) (N : Fr n0 locs) {idx : Nat} {S : List Value} {x : HR} (h : hCast P j idx S H k n = some x) (hd : decode c.code pc = .ok (.checkcast idx, 3)) :
    Leaves P l Z ρ n0 j p e s m args below meth c T pc (pc + 3) L L S x.1 x.2.1 x.2.2.1 x.2.2.2 := by
  have hx := C.1
  unfold hCast at h
  split at h
  · cases h
    exact ⟨T, locs, X, K, N, X.checkcastNull hx (g := mkF m pc (tL ρ L) (tS ρ (.null :: _))) rfl rfl hd⟩
  · split at h
    · rename_i hv
      cases h
      exact cast_ok PO C X K N hv hd
    · cases h
  · cases h
theorem hInst_ok (PO : PrgOk P Z a0 ρ) (RO : RhoOk P ρ n0) (C : Ctx P Z j p s m meth c) (X : Stand p l e (P.mt j).rm s m args below meth c T locs k n) (K : Pic P Z ρ n0 T.heap H) (N : Fr n0 locs) {idx : Nat} {S : List Value} {x : HR} (h : hInst P j idx S H k n = some x) (hd : decode c.code pc = .ok (.instanceof idx, 3)) :
    Leaves P l Z ρ n0 j p e s m args below meth c T pc (pc + 3) L L S x.1 x.2.1 x.2.2.1 x.2.2.2 := by
  have hx := C.1
  unfold hInst at h
  split at h
  · cases h
    exact ⟨T, locs, X, K, N, X.instanceofNull hx (g := mkF m pc (tL ρ L) (tS ρ (.null :: _))) rfl rfl hd⟩
  · split at h
    · rename_i hv
      cases h
      exact inst_ok PO C X K N hv hd
    · rename_i hv
      cases h
      exact inst_ok PO C X K N hv hd
    · cases h
  · cases h
theorem heap_ok (PO : PrgOk P Z a0 ρ) (RO : RhoOk P ρ n0) (C : Ctx P Z j p s m meth c) (X : Stand p l e (P.mt j).rm s m args below meth c T locs k n) (K : Pic P Z ρ n0 T.heap H) (N : Fr n0 locs) {i : Instr} {S : List Value} {x : HR} (h : heapI P j pc i S H k n = some x) (hd : decode c.code pc = .ok (i, ilen i)) :
    Leaves P l Z ρ n0 j p e s m args below meth c T pc (pc + ilen i) L L S x.1 x.2.1 x.2.2.1 x.2.2.2 := by
  cases i
  case ldc _ => exact hLdc_ok PO RO C X K N h hd
  case ldc2_w _ => exact hLdc2_ok PO RO C X K N h hd
  case getstatic _ => exact hGs_ok PO RO C X K N h hd
  case getfield _ => exact hGet_ok PO RO C X K N h hd
  case putfield _ => exact hPut_ok PO RO C X K N h hd
  case new _ => exact hNew_ok PO RO C X K N h hd
  case newarray _ => exact hNewA_ok PO RO C X K N h hd
  case anewarray _ => exact hNewR_ok PO RO C X K N h hd
  case arraylength => exact hLen_ok PO RO C X K N h hd
  case checkcast _ => exact hCast_ok PO RO C X K N h hd
  case instanceof _ => exact hInst_ok PO RO C X K N h hd
  case iaload => exact hLda_ok PO RO C X K N (i := .iaload) (by simp) h hd
  case baload => exact hLda_ok PO RO C X K N (i := .baload) (by simp) h hd
  case caload => exact hLda_ok PO RO C X K N (i := .caload) (by simp) h hd
  case saload => exact hLda_ok PO RO C X K N (i := .saload) (by simp) h hd
  case laload => exact hLda_ok PO RO C X K N (i := .laload) (by simp) h hd
  case aaload => exact hLda_ok PO RO C X K N (i := .aaload) (by simp) h hd
  case daload => exact hLda_ok PO RO C X K N (i := .daload) (by simp) h hd
  case iastore => exact hSta_ok PO RO C X K N (i := .iastore) (by simp) h hd
  case bastore => exact hSta_ok PO RO C X K N (i := .bastore) (by simp) h hd
  case castore => exact hSta_ok PO RO C X K N (i := .castore) (by simp) h hd
  case lastore => exact hSta_ok PO RO C X K N (i := .lastore) (by simp) h hd
  case aastore => exact hSta_ok PO RO C X K N (i := .aastore) (by simp) h hd
  case dastore => exact hSta_ok PO RO C X K N (i := .dastore) (by simp) h hd
  all_goals cases h
set_option maxHeartbeats 8000000 in
theorem step_ok (PO : PrgOk P Z a0 ρ) (RO : RhoOk P ρ n0) (C : Ctx P Z j p s m meth c) (X : Stand p l e (P.mt j).rm s m args below meth c T locs k n) (K : Pic P Z ρ n0 T.heap H) (N : Fr n0 locs) {i : Instr} {S S' : List Value} {pc' k' n' : Nat} {L' : List Slot} {H' : Hp} (h : stepI P j i (pc, L, S, H, k, n) = some (pc', L', S', H', k', n')) (hd : decode c.code pc = .ok (i, ilen i)) :
    Leaves P l Z ρ n0 j p e s m args below meth c T pc pc' L L' S S' H' k' n' := by
  have C0 := C
  obtain ⟨hx, hZ, hown, -, hml, -⟩ := C
  simp only [stepI] at h
  split at h
  · split at h
    · rename_i x hx0
      cases h
      exact ⟨T, locs, X, K, N, fun target hr => plain_ok X hx hx0 hd hr⟩
    · cases h
  · split at h
    · rename_i r hr0
      cases h
      cases i
      case invokespecial idx =>
        simp only [objI] at hr0
        split at hr0
        · rename_i hq
          split at hr0
          · rename_i a r'
            split at hr0
            · rename_i hc
              cases hr0
              obtain ⟨w1, w2, w3⟩ := PO.2.2.2.2.2.2.2.2.2.1 _ (lk2_mem hq)
              obtain ⟨T', X', e', st⟩ := initO X hx hZ hown w1 w2 w3 rfl (g := mkF m pc (tL ρ L) (tS ρ (.ref a :: S'))) rfl (by rw [hml, ← hc.1]; simp) rfl hd hc.2.1 (W := wt S') (by show 2 * 0 + _ ≤ _; rw [wt_eq]; omega) hc.2.2
              exact ⟨T', locs, X', by rw [e']; exact K, N, st⟩
            · cases hr0
          · cases hr0
        · cases hr0
      all_goals (exact absurd hr0 (fun q => by cases q))
    · cases h
  · split at h
    · rename_i o r hb
      split at h
      · rename_i ho
        cases h
        exact ⟨T, locs, X, K, N, fun target hr => br_ok RO.2 X hx hb hd (Or.inl ⟨rfl, ho, rfl⟩) hr⟩
      · cases h
    · rename_i o r hb
      cases h
      exact ⟨T, locs, X, K, N, fun target hr => br_ok RO.2 X hx hb hd (Or.inr ⟨rfl, rfl⟩) hr⟩
    · cases h
  · split at h
    · rename_i x hx0
      cases h
      exact heap_ok PO RO C0 X K N hx0 hd
    · cases h
  · split at h
    · rename_i x hx0
      cases h
      cases i
      case invokevirtual idx =>
        simp only [clnI] at hx0
        split at hx0
        · rename_i hq
          split at hx0
          · exact cln_ok PO RO C0 X K N hq hx0 hd
          · cases hx0
        · cases hx0
      all_goals (exact absurd hx0 (fun q => by cases q))
    · cases h
  · cases h
set_option maxHeartbeats 8000000 in
theorem ret_ok (C : Ctx P Z j p s m meth c) (X : Stand p l e (P.mt j).rm s m args below meth c T locs k n) (K : Pic P Z ρ n0 T.heap H) (N : Fr n0 locs) {i : Instr} {S : List Value} {v : Option Value} (h : retI (P.mt j).ret i S = some v) (hk : k ≤ (P.mt j).rm.cells) (hn : n ≤ (P.mt j).rm.slots) (hd : decode c.code pc = .ok (i, ilen i)) :
    ∃ s₂ L', Steps p.tables e below (T.setTop (mkF m pc (tL ρ L) (tS ρ S))) s₂ ∧ s₂.status = .running ∧ Ended s₂ below (.returned (v.map (tv ρ))) ∧ Pic P Z ρ n0 s₂.heap H ∧ Fr n0 L' ∧ FrameEnd s (.returned (v.map (tv ρ))) s₂ L' (P.mt j).rm.cells (P.mt j).rm.slots := by
  obtain ⟨hx, hZ, hown, -, hml, hret, -, hlk⟩ := C
  have hv : meth.sig.returnType = none → v.map (tv ρ) = none := fun q => by
    rw [hret] at q
    rw [q] at h
    cases i <;> simp only [retI] at h <;> first
      | (split at h <;> cases h <;> rfl)
      | cases h
  obtain ⟨fs, hr, hrun, hended, hW, hsame⟩ := X.leave (v := v.map (tv ρ)) hv hlk
  refine ⟨T.setFrames fs, locs, ?_, hrun, hended, K, N, ⟨_, rfl⟩, hW, hsame.mono hk hn⟩
  cases i
  case return_ =>
    simp only [retI] at h
    split at h
    · rename_i q
      cases h
      exact X.returnOut hx (hret.trans q) hd hr
    · cases h
  case ireturn =>
    simp only [retI] at h
    split at h
    · rename_i q
      cases h
      exact retOut X hx (hret.trans q) rfl (Or.inl ⟨rfl, Or.inl rfl, _, rfl⟩) hd hr
    · rename_i q
      cases h
      exact retN X hx (t := .boolean) (hret.trans q) (by simp) hd hr
    · rename_i q
      cases h
      exact retN X hx (t := .byte) (hret.trans q) (by simp) hd hr
    · rename_i q
      cases h
      exact retN X hx (t := .char) (hret.trans q) (by simp) hd hr
    · rename_i q
      cases h
      exact retN X hx (t := .short) (hret.trans q) (by simp) hd hr
    · cases h
  case lreturn =>
    simp only [retI] at h
    split at h
    · rename_i q
      cases h
      exact retOut X hx (hret.trans q) rfl (Or.inr (Or.inl ⟨rfl, rfl, _, rfl⟩)) hd hr
    · cases h
  case dreturn =>
    simp only [retI] at h
    split at h
    · rename_i q
      cases h
      exact retOut X hx (hret.trans q) rfl (Or.inr (Or.inr (Or.inl ⟨rfl, rfl, _, rfl⟩))) hd hr
    · cases h
  case areturn =>
    simp only [retI] at h
    split at h
    · rename_i q
      cases h
      exact retOut X hx (hret.trans q) rfl (Or.inr (Or.inr (Or.inr (Or.inr ⟨rfl, rfl, rfl⟩)))) hd hr
    · rename_i q
      cases h
      exact retOut X hx (hret.trans q) rfl (Or.inr (Or.inr (Or.inr (Or.inr ⟨rfl, rfl, rfl⟩)))) hd hr
    · rename_i q
      cases h
      exact retOut X hx (hret.trans q) rfl (Or.inr (Or.inr (Or.inr (Or.inr ⟨rfl, rfl, rfl⟩)))) hd hr
    · rename_i q
      cases h
      exact retOut X hx (hret.trans q) rfl (Or.inr (Or.inr (Or.inr (Or.inr ⟨rfl, rfl, rfl⟩)))) hd hr
    · cases h
  all_goals (exact absurd h (fun q => by cases q))
end At
/-- one turn of the machine, opened -/
theorem run_inv {f j pc : Nat} {L : List Slot} {S : List Value} {H : Hp} {k n : Nat} {r : MRes} (h : run P (f + 1) j (pc, L, S, H, k, n) = some r) : ∃ i, decode (P.mt j).code pc = .ok (i, ilen i) ∧
    ((isCall P j i = 3 ∧ ∃ v, retI (P.mt j).ret i S = some v ∧ (k ≤ (P.mt j).rm.cells ∧ n ≤ (P.mt j).rm.slots) ∧ r = (v, H)) ∨
     (isCall P j i = 1 ∧ ∃ j' as rr r', calI P j i S H = some (j', as, rr) ∧ rmOk P j j' L rr k n = true ∧ run P f j' (0, entL as (P.mt j').mx, [], H, 0, 0) = some r' ∧ run P f j (pc + 3, L, r'.1.toList ++ rr, r'.2, k + (P.mt j').rm.cells, n + (P.mt j').rm.slots) = some r) ∨
     (isCall P j i ≠ 3 ∧ isCall P j i ≠ 1 ∧ ∃ st', stepI P j i (pc, L, S, H, k, n) = some st' ∧ run P f j st' = some r)) := by
  simp only [run] at h
  split at h
  · cases h
  · rename_i i len hd
    split at h
    · rename_i hl
      subst hl
      refine ⟨i, hd, ?_⟩
      split at h
      · rename_i hi
        split at h
        · rename_i v hv
          split at h
          · rename_i hk
            cases h
            exact Or.inl ⟨hi, v, hv, hk, rfl⟩
          · cases h
        · cases h
      · rename_i hi
        split at h
        · rename_i j' as rr hc
          split at h
          · rename_i hrm
            split at h
            · rename_i v H' hr
              exact Or.inr (Or.inl ⟨hi, j', as, rr, (v, H'), hc, hrm, hr, h⟩)
            · cases h
          · cases h
        · cases h
      · rename_i h3 h1
        split at h
        · rename_i st' hst
          exact Or.inr (Or.inr ⟨h3, h1, st', hst, h⟩)
        · cases h
    · cases h
theorem run_sound (PO : PrgOk P Z a0 ρ) (RO : RhoOk P ρ n0) : ∀ (f j : Nat) (st : St) (r : MRes), run P f j st = some r → Snd P l Z ρ n0 j st r
  | 0, j, (pc, L, S, H, k, n), r, h => by simp only [run] at h; cases h
  | f + 1, j, (pc, L, S, H, k, n), r, h => by
    intro p e s m args below meth c T locs C X K N
    obtain ⟨i, hd, hcase⟩ := run_inv h
    have hd' : decode c.code pc = .ok (i, ilen i) := by rw [C.2.2.2.1]; exact hd
    rcases hcase with ⟨-, v, hv, hk, rfl⟩ | ⟨-, j', as, rr, r', hcal, hrm, h1, h2⟩ | ⟨-, -, ⟨pc', L', S', H', k', n'⟩, hst, h1⟩
    · exact ret_ok C X K N hv hk.1 hk.2 hd'
    · obtain ⟨T', locs', X', K', N', st⟩ := call_ok PO C X K N hcal hrm hd' (run_sound PO RO f j' _ r' h1)
      obtain ⟨s₂, L', g1, g2⟩ := run_sound PO RO f j _ r h2 p e s m args below meth c T' locs' C X' K' N'
      exact ⟨s₂, L', st _ g1, g2⟩
    · obtain ⟨T', locs', X', K', N', st⟩ := step_ok PO RO C X K N hst hd'
      obtain ⟨s₂, L2, g1, g2⟩ := run_sound PO RO f j _ r h1 p e s m args below meth c T' locs' C X' K' N'
      exact ⟨s₂, L2, st _ g1, g2⟩
end Sound
/-! ### the machine's own logic -/
section Logic
variable {P : Prg} {j pc : Nat} {L : List Slot} {S : List Value} {H : Hp} {k n : Nat} {i : Instr} {Q : MRes → Prop}
def Wp (P : Prg) (j : Nat) (st : St) (Q : MRes → Prop) : Prop := ∃ f r, run P f j st = some r ∧ Q r
theorem run_ret {f : Nat} {v : Option Value} (hd : decode (P.mt j).code pc = .ok (i, ilen i)) (hi : isCall P j i = 3) (hv : retI (P.mt j).ret i S = some v) (hk : k ≤ (P.mt j).rm.cells ∧ n ≤ (P.mt j).rm.slots) : run P (f + 1) j (pc, L, S, H, k, n) = some (v, H) := by
  simp only [run, hd, hi, hv, if_pos hk, if_true]
theorem run_call {f j' : Nat} {as rr : List Value} {r' : MRes} (hd : decode (P.mt j).code pc = .ok (i, ilen i)) (hi : isCall P j i = 1) (hc : calI P j i S H = some (j', as, rr)) (hrm : rmOk P j j' L rr k n = true) (h1 : run P f j' (0, entL as (P.mt j').mx, [], H, 0, 0) = some r') :
    run P (f + 1) j (pc, L, S, H, k, n) = run P f j (pc + 3, L, r'.1.toList ++ rr, r'.2, k + (P.mt j').rm.cells, n + (P.mt j').rm.slots) := by
  simp only [run, hd, hi, hc, hrm, h1, if_true]
theorem run_step {f : Nat} {st' : St} (hd : decode (P.mt j).code pc = .ok (i, ilen i)) (h3 : isCall P j i ≠ 3) (h1 : isCall P j i ≠ 1) (h : stepI P j i (pc, L, S, H, k, n) = some st') : run P (f + 1) j (pc, L, S, H, k, n) = run P f j st' := by
  simp only [run, hd, if_true, h]
theorem run_mono1 : ∀ {f j : Nat} {st : St} {r : MRes}, run P f j st = some r → run P (f + 1) j st = some r
  | 0, j, (pc, L, S, H, k, n), r, h => by simp only [run] at h; cases h
  | f + 1, j, (pc, L, S, H, k, n), r, h => by
    obtain ⟨i, hd, hcase⟩ := run_inv h
    rcases hcase with ⟨hi, v, hv, hk, rfl⟩ | ⟨hi, j', as, rr, r', hcal, hrm, h1, h2⟩ | ⟨h3, h1', st', hst, h1⟩
    · exact run_ret hd hi hv hk
    · rw [run_call hd hi hcal hrm (run_mono1 h1)]; exact run_mono1 h2
    · rw [run_step hd h3 h1' hst]; exact run_mono1 h1
theorem run_mono {f g j : Nat} {st : St} {r : MRes} (hfg : f ≤ g) (h : run P f j st = some r) : run P g j st = some r := by
  obtain ⟨d, rfl⟩ := Nat.exists_eq_add_of_le hfg
  induction d with
  | zero => exact h
  | succ d ih => exact run_mono1 (ih (Nat.le_add_right _ _))
theorem wpO (hd : decode (P.mt j).code pc = .ok (i, ilen i)) (h3 : isCall P j i ≠ 3) (h1 : isCall P j i ≠ 1) : Wp P j (pc, L, S, H, k, n) Q ↔ ∃ st', stepI P j i (pc, L, S, H, k, n) = some st' ∧ Wp P j st' Q := by
  constructor
  · rintro ⟨f, r, h, hq⟩
    cases f with
    | zero => simp only [run] at h; cases h
    | succ f =>
      obtain ⟨i', hd', hcase⟩ := run_inv h
      cases hd.symm.trans hd'
      rcases hcase with ⟨hi, -⟩ | ⟨hi, -⟩ | ⟨-, -, st', hst, h1⟩
      · exact absurd hi h3
      · exact absurd hi h1
      · exact ⟨st', hst, f, r, h1, hq⟩
  · rintro ⟨st', hst, f, r, h, hq⟩
    exact ⟨f + 1, r, by rw [run_step hd h3 h1 hst]; exact h, hq⟩
theorem wpS {st' : St} (hd : decode (P.mt j).code pc = .ok (i, ilen i)) (h3 : isCall P j i ≠ 3) (h1 : isCall P j i ≠ 1) (h : stepI P j i (pc, L, S, H, k, n) = some st') : Wp P j (pc, L, S, H, k, n) Q ↔ Wp P j st' Q := by
  rw [wpO hd h3 h1]
  exact ⟨fun ⟨st, e, w⟩ => by cases h.symm.trans e; exact w, fun w => ⟨st', h, w⟩⟩
theorem wpR {v : Option Value} (hd : decode (P.mt j).code pc = .ok (i, ilen i)) (hi : isCall P j i = 3) (hv : retI (P.mt j).ret i S = some v) (hk : k ≤ (P.mt j).rm.cells ∧ n ≤ (P.mt j).rm.slots) : Wp P j (pc, L, S, H, k, n) Q ↔ Q (v, H) := by
  constructor
  · rintro ⟨f, r, h, hq⟩
    cases f with
    | zero => simp only [run] at h; cases h
    | succ f => rw [run_ret hd hi hv hk] at h; cases h; exact hq
  · exact fun hq => ⟨1, _, run_ret hd hi hv hk, hq⟩
theorem wpC {j' : Nat} {as rr : List Value} (hd : decode (P.mt j).code pc = .ok (i, ilen i)) (hi : isCall P j i = 1) (hc : calI P j i S H = some (j', as, rr)) (hrm : rmOk P j j' L rr k n = true) :
    Wp P j (pc, L, S, H, k, n) Q ↔ Wp P j' (0, entL as (P.mt j').mx, [], H, 0, 0) fun r => Wp P j (pc + 3, L, r.1.toList ++ rr, r.2, k + (P.mt j').rm.cells, n + (P.mt j').rm.slots) Q := by
  constructor
  · rintro ⟨f, r, h, hq⟩
    cases f with
    | zero => simp only [run] at h; cases h
    | succ f =>
      obtain ⟨i', hd', hcase⟩ := run_inv h
      cases hd.symm.trans hd'
      rcases hcase with ⟨h3, -⟩ | ⟨-, j1, as1, rr1, r', hc', -, h1, h2⟩ | ⟨-, h1, -⟩
      · rw [hi] at h3; cases h3
      · cases hc.symm.trans hc'
        exact ⟨f, r', h1, f, r, h2, hq⟩
      · exact absurd hi h1
  · rintro ⟨f, r', h1, g, r, h2, hq⟩
    exact ⟨(f + g) + 1, r, by rw [run_call hd hi hc hrm (run_mono (Nat.le_add_right f g) h1)]; exact run_mono (Nat.le_add_left g f) h2, hq⟩
theorem Wp.mono {j : Nat} {st : St} {Q Q' : MRes → Prop} (h : Wp P j st Q) (hq : ∀ r, Q r → Q' r) : Wp P j st Q' := by
  obtain ⟨f, r, h1, h2⟩ := h
  exact ⟨f, r, h1, hq r h2⟩
end Logic
end Jvm.MM
namespace Jvm.MM
open Jvm Jvm.ClassFile Sem Op Lib Jvm.Free Jvm.Stand Jvm.LawKit Jvm.RoadKit
/-! ### the logic's rows, an instruction each -/
section Rows
variable {P : Prg} {j pc : Nat} {L : List Slot} {S : List Value} {H : Hp} {k n : Nat} {i : Instr} {Q : MRes → Prop}
theorem gP {L' : List Slot} {S' : List Value} (hd : decode (P.mt j).code pc = .ok (i, ilen i)) (hk : isCall P j i = 0) (h : plainI i L S = some (L', S')) : Wp P j (pc, L, S, H, k, n) Q ↔ Wp P j (pc + ilen i, L', S', H, k, n) Q :=
  wpS hd (by rw [hk]; decide) (by rw [hk]; decide) (by simp only [stepI, hk, h])
theorem gH {x : List Value × Hp × Nat × Nat} (hd : decode (P.mt j).code pc = .ok (i, ilen i)) (hk : isCall P j i = 5) (h : heapI P j pc i S H k n = some x) : Wp P j (pc, L, S, H, k, n) Q ↔ Wp P j (pc + ilen i, L, x.1, x.2.1, x.2.2.1, x.2.2.2) Q :=
  wpS hd (by rw [hk]; decide) (by rw [hk]; decide) (by simp only [stepI, hk, h])
theorem gHO (hd : decode (P.mt j).code pc = .ok (i, ilen i)) (hk : isCall P j i = 5) : Wp P j (pc, L, S, H, k, n) Q ↔ ∃ x, heapI P j pc i S H k n = some x ∧ Wp P j (pc + ilen i, L, x.1, x.2.1, x.2.2.1, x.2.2.2) Q := by
  rw [wpO hd (by rw [hk]; decide) (by rw [hk]; decide)]
  constructor
  · rintro ⟨st', h, w⟩
    simp only [stepI, hk] at h
    split at h
    · rename_i x hx
      cases h
      exact ⟨x, hx, w⟩
    · cases h
  · rintro ⟨x, hx, w⟩
    exact ⟨_, by simp only [stepI, hk, hx], w⟩
theorem gB {b : Bool} {o : Int} {t : Nat} {r : List Value} (hd : decode (P.mt j).code pc = .ok (i, ilen i)) (hk : isCall P j i = 4) (h : brI i S = some (b, o, r)) (ho : 0 ≤ (pc : Int) + o) (ht : ((pc : Int) + o).toNat = t) : Wp P j (pc, L, S, H, k, n) Q ↔ if b = true then Wp P j (t, L, r, H, k, n) Q else Wp P j (pc + ilen i, L, r, H, k, n) Q := by
  cases b with
  | true => rw [if_pos rfl]; exact wpS hd (by rw [hk]; decide) (by rw [hk]; decide) (by simp only [stepI, hk, h, if_pos ho, ht])
  | false => rw [if_neg (by decide)]; exact wpS hd (by rw [hk]; decide) (by rw [hk]; decide) (by simp only [stepI, hk, h])
theorem gGoto {o : Int} {t : Nat} (hd : decode (P.mt j).code pc = .ok (.goto o, 3)) (ho : 0 ≤ (pc : Int) + o) (ht : ((pc : Int) + o).toNat = t) : Wp P j (pc, L, S, H, k, n) Q ↔ Wp P j (t, L, S, H, k, n) Q := by
  rw [gB (i := .goto o) hd rfl rfl ho ht, if_pos rfl]
theorem iteC {A B : Prop} {c : Prop} [Decidable c] {b : Bool} (h : b = decide c) : (if b = true then A else B) ↔ (if c then A else B) := by
  subst h
  by_cases q : c <;> simp [q]
theorem gIf {cd : ClassFile.Cond} {o : Int} {t : Nat} {x : Int32} {c : Prop} [Decidable c] (hd : decode (P.mt j).code pc = .ok (.ifCond cd o, 3)) (ho : 0 ≤ (pc : Int) + o) (ht : ((pc : Int) + o).toNat = t) (hc : ifCond.holds cd x = decide c) : Wp P j (pc, L, .int x :: S, H, k, n) Q ↔ if c then Wp P j (t, L, S, H, k, n) Q else Wp P j (pc + 3, L, S, H, k, n) Q := by
  rw [gB (i := .ifCond cd o) hd rfl rfl ho ht]
  exact iteC hc
theorem gIcmp {cd : ClassFile.Cond} {o : Int} {t : Nat} {x y : Int32} {c : Prop} [Decidable c] (hd : decode (P.mt j).code pc = .ok (.if_icmp cd o, 3)) (ho : 0 ≤ (pc : Int) + o) (ht : ((pc : Int) + o).toNat = t) (hc : if_icmp.holds cd x y = decide c) : Wp P j (pc, L, .int y :: .int x :: S, H, k, n) Q ↔ if c then Wp P j (t, L, S, H, k, n) Q else Wp P j (pc + 3, L, S, H, k, n) Q := by
  rw [gB (i := .if_icmp cd o) hd rfl rfl ho ht]
  exact iteC hc
theorem c_eq (x : Int32) : ifCond.holds .eq x = decide (x = 0) := by by_cases h : x = 0 <;> simp [ifCond.holds, h]
theorem c_ne (x : Int32) : ifCond.holds .ne x = decide (¬ x = 0) := by by_cases h : x = 0 <;> simp [ifCond.holds, h]
theorem c_lt (x : Int32) : ifCond.holds .lt x = decide (x < 0) := by by_cases h : x < 0 <;> simp [ifCond.holds, h]
theorem c_ge (x : Int32) : ifCond.holds .ge x = decide (0 ≤ x) := by by_cases h : 0 ≤ x <;> simp [ifCond.holds, h]
theorem c_gt (x : Int32) : ifCond.holds .gt x = decide (0 < x) := by by_cases h : 0 < x <;> simp [ifCond.holds, h]
theorem c_le (x : Int32) : ifCond.holds .le x = decide (x ≤ 0) := by by_cases h : x ≤ 0 <;> simp [ifCond.holds, h]
theorem i_eq (x y : Int32) : if_icmp.holds .eq x y = decide (x = y) := by by_cases h : x = y <;> simp [if_icmp.holds, h]
theorem i_ne (x y : Int32) : if_icmp.holds .ne x y = decide (¬ x = y) := by by_cases h : x = y <;> simp [if_icmp.holds, h]
theorem i_lt (x y : Int32) : if_icmp.holds .lt x y = decide (x < y) := by by_cases h : x < y <;> simp [if_icmp.holds, h]
theorem i_ge (x y : Int32) : if_icmp.holds .ge x y = decide (y ≤ x) := by by_cases h : y ≤ x <;> simp [if_icmp.holds, h]
theorem i_gt (x y : Int32) : if_icmp.holds .gt x y = decide (y < x) := by by_cases h : y < x <;> simp [if_icmp.holds, h]
theorem i_le (x y : Int32) : if_icmp.holds .le x y = decide (x ≤ y) := by by_cases h : x ≤ y <;> simp [if_icmp.holds, h]
theorem gNullY {o : Int} {t : Nat} (hd : decode (P.mt j).code pc = .ok (.ifnull o, 3)) (ho : 0 ≤ (pc : Int) + o) (ht : ((pc : Int) + o).toNat = t) : Wp P j (pc, L, .null :: S, H, k, n) Q ↔ Wp P j (t, L, S, H, k, n) Q := by
  rw [gB (i := .ifnull o) hd rfl rfl ho ht, if_pos rfl]
theorem gNullN {o : Int} {a : Nat} (hd : decode (P.mt j).code pc = .ok (.ifnull o, 3)) : Wp P j (pc, L, .ref a :: S, H, k, n) Q ↔ Wp P j (pc + 3, L, S, H, k, n) Q :=
  wpS (i := .ifnull o) hd (show (4 : Nat) ≠ 3 by decide) (show (4 : Nat) ≠ 1 by decide) rfl
theorem gNonnullY {o : Int} {t : Nat} {a : Nat} (hd : decode (P.mt j).code pc = .ok (.ifnonnull o, 3)) (ho : 0 ≤ (pc : Int) + o) (ht : ((pc : Int) + o).toNat = t) : Wp P j (pc, L, .ref a :: S, H, k, n) Q ↔ Wp P j (t, L, S, H, k, n) Q := by
  rw [gB (i := .ifnonnull o) hd rfl rfl ho ht, if_pos rfl]
theorem gNonnullN {o : Int} (hd : decode (P.mt j).code pc = .ok (.ifnonnull o, 3)) : Wp P j (pc, L, .null :: S, H, k, n) Q ↔ Wp P j (pc + 3, L, S, H, k, n) Q :=
  wpS (i := .ifnonnull o) hd (show (4 : Nat) ≠ 3 by decide) (show (4 : Nat) ≠ 1 by decide) rfl
theorem gAcmp {cd : ACond} {o : Int} {t : Nat} {x y : Value} {c : Prop} [Decidable c] (hx : isA x = true) (hy : isA y = true) (hd : decode (P.mt j).code pc = .ok (.if_acmp cd o, 3)) (ho : 0 ≤ (pc : Int) + o) (ht : ((pc : Int) + o).toNat = t) (hc : XT.acmp cd x y = decide c) : Wp P j (pc, L, y :: x :: S, H, k, n) Q ↔ if c then Wp P j (t, L, S, H, k, n) Q else Wp P j (pc + 3, L, S, H, k, n) Q := by
  rw [gB (i := .if_acmp cd o) (b := XT.acmp cd x y) (r := S) hd rfl (by simp [brI, hx, hy]) ho ht]
  exact iteC hc
theorem gX {A : Type} (f : A → HR) (o : Option A) (hd : decode (P.mt j).code pc = .ok (i, ilen i)) (hk : isCall P j i = 5) (h : heapI P j pc i S H k n = o.map f) : Wp P j (pc, L, S, H, k, n) Q ↔ ∃ v, o = some v ∧ Wp P j (pc + ilen i, L, (f v).1, (f v).2.1, (f v).2.2.1, (f v).2.2.2) Q := by
  rw [gHO hd hk, h]
  cases o with
  | none => exact ⟨fun ⟨x, e, _⟩ => (by cases e), fun ⟨x, e, _⟩ => (by cases e)⟩
  | some v => exact ⟨fun ⟨x, e, w⟩ => ⟨v, rfl, (by cases e; exact w)⟩, fun ⟨x, e, w⟩ => ⟨f v, rfl, (by cases e; exact w)⟩⟩
theorem gGet {idx a : Nat} (hd : decode (P.mt j).code pc = .ok (.getfield idx, 3)) : Wp P j (pc, L, .ref a :: S, H, k, n) Q ↔ ∃ v, rdF P j idx H a = some v ∧ Wp P j (pc + 3, L, v :: S, H, k, n) Q :=
  gX (i := .getfield idx) (fun v => (v :: S, H, k, n)) (rdF P j idx H a) hd rfl (by show hGet P j idx (.ref a :: S) H k n = _; simp only [hGet]; cases rdF P j idx H a <;> rfl)
theorem gPut {idx a : Nat} {v : Value} (hd : decode (P.mt j).code pc = .ok (.putfield idx, 3)) : Wp P j (pc, L, v :: .ref a :: S, H, k, n) Q ↔ ∃ H', wrF P j idx H a v = some H' ∧ Wp P j (pc + 3, L, S, H', k, n) Q :=
  gX (i := .putfield idx) (fun H' => (S, H', k, n)) (wrF P j idx H a v) hd rfl (by show hPut P j idx (v :: .ref a :: S) H k n = _; simp only [hPut]; cases wrF P j idx H a v <;> rfl)
theorem gLen {a : Nat} (hd : decode (P.mt j).code pc = .ok (.arraylength, 1)) : Wp P j (pc, L, .ref a :: S, H, k, n) Q ↔ ∃ v, alen H a = some v ∧ Wp P j (pc + 1, L, .int v :: S, H, k, n) Q :=
  gX (i := .arraylength) (fun v => (.int v :: S, H, k, n)) (alen H a) hd rfl (by show hLen (.ref a :: S) H k n = _; simp only [hLen]; cases alen H a <;> rfl)
theorem gLdA {a : Nat} {x : Int32} (hi : i = .iaload ∨ i = .baload ∨ i = .caload ∨ i = .saload ∨ i = .laload ∨ i = .aaload ∨ i = .daload) (hd : decode (P.mt j).code pc = .ok (i, 1)) : Wp P j (pc, L, .int x :: .ref a :: S, H, k, n) Q ↔ ∃ v, ldA i H a x = some v ∧ Wp P j (pc + 1, L, v :: S, H, k, n) Q := by
  rcases hi with rfl | rfl | rfl | rfl | rfl | rfl | rfl
  all_goals exact gX (fun v => (v :: S, H, k, n)) (ldA _ H a x) hd rfl (by show hLda _ (.int x :: .ref a :: S) H k n = _; simp only [hLda]; cases ldA _ H a x <;> rfl)
theorem gStA {a : Nat} {x : Int32} {v : Value} (hi : i = .iastore ∨ i = .bastore ∨ i = .castore ∨ i = .lastore ∨ i = .aastore ∨ i = .dastore) (hd : decode (P.mt j).code pc = .ok (i, 1)) : Wp P j (pc, L, v :: .int x :: .ref a :: S, H, k, n) Q ↔ ∃ H', stA P i H a x v = some H' ∧ Wp P j (pc + 1, L, S, H', k, n) Q := by
  rcases hi with rfl | rfl | rfl | rfl | rfl | rfl
  all_goals exact gX (fun H' => (S, H', k, n)) (stA P _ H a x v) hd rfl (by show hSta P _ (v :: .int x :: .ref a :: S) H k n = _; simp only [hSta]; cases stA P _ H a x v <;> rfl)
theorem gNew {idx cid C Sl ns : Nat} {vs : List Value} (hd : decode (P.mt j).code pc = .ok (.new idx, 3)) (hq : lk2 P.nw j idx = some cid) (hC : (P.mt j).rm.cells = C) (hS : (P.mt j).rm.slots = Sl) (hns : P.nsl cid = ns) (hvs : ((P.flds cid).map fun fd => dft fd.2.2.2) = vs) (h1 : k + 1 ≤ C) (h2 : n + ns ≤ Sl) :
    Wp P j (pc, L, S, H, k, n) Q ↔ Wp P j (pc + 3, L, .ref H.length :: S, H ++ [(.inr cid, vs)], k + 1, n + ns) Q := by
  subst hC hS hns hvs
  have e : heapI P j pc (.new idx) S H k n = some (.ref H.length :: S, H ++ [(.inr cid, (P.flds cid).map fun fd => dft fd.2.2.2)], k + 1, n + P.nsl cid) := by
    simp only [heapI, hNew, newC, hq, if_pos (And.intro h1 h2)]
  exact gH (i := .new idx) hd rfl e
theorem gNewA {t : ArrayType} {ty : FieldType} {cap C Sl : Nat} {len : Int32} (hd : decode (P.mt j).code pc = .ok (.newarray t, 2)) (hty : newarray.typeOf t = ty) (hm : ty ∈ P.ats) (hq : lk2 P.cp j pc = some cap) (hcap : cap * 8 ≤ 536870912) (hC : (P.mt j).rm.cells = C) (hS : (P.mt j).rm.slots = Sl) (h1 : k + 1 ≤ C) (h2 : n + cap ≤ Sl) :
    Wp P j (pc, L, .int len :: S, H, k, n) Q ↔ (¬ len < 0 ∧ len.toNatClampNeg ≤ cap) ∧ Wp P j (pc + 2, L, .ref H.length :: S, H ++ [(.inl ty, List.replicate len.toNatClampNeg (dft ty))], k + 1, n + cap) Q := by
  subst hC hS hty
  rw [gHO (i := .newarray t) hd rfl]
  constructor
  · rintro ⟨x, h, w⟩
    simp only [heapI, hNewA, if_pos hm, newA, hq] at h
    split at h
    · rename_i y hy
      split at hy
      · rename_i hc
        cases hy
        cases h
        exact ⟨⟨hc.1, hc.2.1⟩, w⟩
      · cases hy
    · cases h
  · rintro ⟨hc, w⟩
    exact ⟨((.ref H.length :: S, H ++ [((.inl (newarray.typeOf t) : Kd), List.replicate len.toNatClampNeg (dft (newarray.typeOf t)))], k + 1, n + cap) : HR), by simp only [heapI, hNewA, if_pos hm, newA, hq, if_pos (show ¬ len < 0 ∧ len.toNatClampNeg ≤ cap ∧ cap * 8 ≤ 536870912 ∧ k + 1 ≤ (P.mt j).rm.cells ∧ n + cap ≤ (P.mt j).rm.slots from ⟨hc.1, hc.2, hcap, h1, h2⟩)], w⟩
theorem gNewR {idx cid cap C Sl : Nat} {nm : String} {len : Int32} (hd : decode (P.mt j).code pc = .ok (.anewarray idx, 3)) (hn : lk2 P.na j idx = some cid) (hnm : P.cname cid = nm) (hq : lk2 P.cp j pc = some cap) (hcap : cap * 8 ≤ 536870912) (hC : (P.mt j).rm.cells = C) (hS : (P.mt j).rm.slots = Sl) (h1 : k + 1 ≤ C) (h2 : n + cap ≤ Sl) :
    Wp P j (pc, L, .int len :: S, H, k, n) Q ↔ (¬ len < 0 ∧ len.toNatClampNeg ≤ cap) ∧ Wp P j (pc + 3, L, .ref H.length :: S, H ++ [(.inl (.object nm), List.replicate len.toNatClampNeg .null)], k + 1, n + cap) Q := by
  subst hC hS hnm
  rw [gHO (i := .anewarray idx) hd rfl]
  constructor
  · rintro ⟨x, h, w⟩
    simp only [heapI, hNewR, hn, newA, hq] at h
    split at h
    · rename_i y hy
      split at hy
      · rename_i hc
        cases hy
        cases h
        exact ⟨⟨hc.1, hc.2.1⟩, w⟩
      · cases hy
    · cases h
  · rintro ⟨hc, w⟩
    exact ⟨((.ref H.length :: S, H ++ [((.inl (.object (P.cname cid)) : Kd), List.replicate len.toNatClampNeg Value.null)], k + 1, n + cap) : HR), by simp only [heapI, hNewR, hn, newA, hq, if_pos (show ¬ len < 0 ∧ len.toNatClampNeg ≤ cap ∧ cap * 8 ≤ 536870912 ∧ k + 1 ≤ (P.mt j).rm.cells ∧ n + cap ≤ (P.mt j).rm.slots from ⟨hc.1, hc.2, hcap, h1, h2⟩)]; rfl, w⟩
theorem gCast {idx a : Nat} (hd : decode (P.mt j).code pc = .ok (.checkcast idx, 3)) : Wp P j (pc, L, .ref a :: S, H, k, n) Q ↔ castI P j idx H a = some true ∧ Wp P j (pc + 3, L, .ref a :: S, H, k, n) Q := by
  rw [gHO (i := .checkcast idx) hd rfl]
  constructor
  · rintro ⟨x, h, w⟩
    have h : (match castI P j idx H a with | some true => some ((.ref a :: S, H, k, n) : HR) | _ => none) = some x := h
    split at h
    · rename_i hv; cases h; exact ⟨hv, w⟩
    · cases h
  · rintro ⟨hv, w⟩
    refine ⟨(.ref a :: S, H, k, n), ?_, w⟩
    show (match castI P j idx H a with | some true => some ((.ref a :: S, H, k, n) : HR) | _ => none) = _
    rw [hv]
theorem gCast0 {idx : Nat} (hd : decode (P.mt j).code pc = .ok (.checkcast idx, 3)) : Wp P j (pc, L, .null :: S, H, k, n) Q ↔ Wp P j (pc + 3, L, .null :: S, H, k, n) Q :=
  gH (i := .checkcast idx) (x := (.null :: S, H, k, n)) hd rfl rfl
theorem gInst {idx a : Nat} (hd : decode (P.mt j).code pc = .ok (.instanceof idx, 3)) : Wp P j (pc, L, .ref a :: S, H, k, n) Q ↔ ∃ b, castI P j idx H a = some b ∧ Wp P j (pc + 3, L, .int (if b = true then 1 else 0) :: S, H, k, n) Q := by
  refine gX (i := .instanceof idx) (fun b => (.int (if b = true then 1 else 0) :: S, H, k, n)) (castI P j idx H a) hd rfl ?_
  show (match castI P j idx H a with | some true => some ((.int 1 :: S, H, k, n) : HR) | some false => some (.int 0 :: S, H, k, n) | none => none) = _
  cases castI P j idx H a with
  | none => rfl
  | some b => cases b <;> rfl
theorem gInst0 {idx : Nat} (hd : decode (P.mt j).code pc = .ok (.instanceof idx, 3)) : Wp P j (pc, L, .null :: S, H, k, n) Q ↔ Wp P j (pc + 3, L, .int 0 :: S, H, k, n) Q :=
  gH (i := .instanceof idx) (x := (.int 0 :: S, H, k, n)) hd rfl rfl
theorem gObj {idx a np j0 M F Lc : Nat} (hd : decode (P.mt j).code pc = .ok (.invokespecial idx, 3)) (hq : lk2 P.ic j idx = some (6, np, j0)) (hM : (P.mt j).mx = M) (hF : (P.mt j).rm.frames = F) (hL : (P.mt j).rm.locals = Lc) (hf : 1 ≤ F) (h1 : L.length = M) (h2 : wt S + 12 ≤ Lc) :
    Wp P j (pc, L, .ref a :: S, H, k, n) Q ↔ Wp P j (pc + 3, L, S, H, k, n) Q := by
  subst hM hF hL
  have hk : isCall P j (.invokespecial idx) = 2 := by simp only [isCall, hq]
  exact wpS (i := .invokespecial idx) hd (by rw [hk]; decide) (by rw [hk]; decide) (by simp only [stepI, hk, objI, hq, if_pos (show L.length = (P.mt j).mx ∧ 1 ≤ (P.mt j).rm.frames ∧ wt S + 12 ≤ (P.mt j).rm.locals from ⟨h1, hf, h2⟩)]; rfl)
theorem gRet {v : Option Value} {C Sl : Nat} (hd : decode (P.mt j).code pc = .ok (i, ilen i)) (hi : isCall P j i = 3) (hv : retI (P.mt j).ret i S = some v) (hC : (P.mt j).rm.cells = C) (hS : (P.mt j).rm.slots = Sl) (h1 : k ≤ C) (h2 : n ≤ Sl) : Wp P j (pc, L, S, H, k, n) Q ↔ Q (v, H) := by
  subst hC hS
  exact wpR hd hi hv ⟨h1, h2⟩
/-- the figures of a call: the caller's locals, the weight under the arguments, cells, slots -/
def Figs (P : Prg) (j j' M W C Sl c s : Nat) : Prop := (P.mt j).mx = M ∧ (P.mt j').rm.frames + 1 ≤ (P.mt j).rm.frames ∧ W + ((P.mt j').mx + 11) + (P.mt j').rm.locals ≤ (P.mt j).rm.locals ∧ (P.mt j).rm.cells = C ∧ (P.mt j).rm.slots = Sl ∧ (P.mt j').rm.cells = c ∧ (P.mt j').rm.slots = s
theorem figs_rm {j' M W C Sl c s : Nat} {r : List Value} (F : Figs P j j' M W C Sl c s) (h1 : L.length = M) (h2 : wt r ≤ W) (h3 : k + c ≤ C) (h4 : n + s ≤ Sl) : rmOk P j j' L r k n = true := by
  obtain ⟨f1, f2, f3, f4, f5, f6, f7⟩ := F
  subst f1 f4 f5 f6 f7
  simp only [rmOk, Bool.and_eq_true, decide_eq_true_eq]
  exact ⟨h1, f2, by omega, h3, h4⟩
theorem gCall {j' M W C Sl c s : Nat} {as rr : List Value} {Le : List Slot} (hd : decode (P.mt j).code pc = .ok (i, ilen i)) (hi : isCall P j i = 1) (hc : calI P j i S H = some (j', as, rr)) (F : Figs P j j' M W C Sl c s) (he : entL as (P.mt j').mx = Le) (h1 : L.length = M) (h2 : wt rr ≤ W) (h3 : k + c ≤ C) (h4 : n + s ≤ Sl) :
    Wp P j (pc, L, S, H, k, n) Q ↔ Wp P j' (0, Le, [], H, 0, 0) fun r => Wp P j (pc + 3, L, r.1.toList ++ rr, r.2, k + c, n + s) Q := by
  rw [wpC hd hi hc (figs_rm F h1 h2 h3 h4), he]
  obtain ⟨-, -, -, -, -, rfl, rfl⟩ := F
  exact Iff.rfl
def kdO : Obj → Option Nat | (.inr cid, _) => some cid | _ => none
def kdOf (H : Hp) (a : Nat) : Option Nat := match H[a]? with | some o => kdO o | none => none
theorem gVirt {idx np x0 cid j' a M W C Sl c s : Nat} {rr : List Value} {Le : List Slot} (hd : decode (P.mt j).code pc = .ok (.invokevirtual idx, 3)) (hq : lk2 P.ic j idx = some (2, np, x0)) (hv : lk3 P.vc j idx cid = some (np, j')) (hdr : S.drop np = .ref a :: rr) (F : Figs P j j' M W C Sl c s) (he : entL (.ref a :: (S.take np).reverse) (P.mt j').mx = Le) (ho : kdOf H a = some cid) (h1 : L.length = M) (h2 : wt rr ≤ W) (h3 : k + c ≤ C) (h4 : n + s ≤ Sl) :
    Wp P j (pc, L, S, H, k, n) Q ↔ Wp P j' (0, Le, [], H, 0, 0) fun r => Wp P j (pc + 3, L, r.1.toList ++ rr, r.2, k + c, n + s) Q := by
  refine gCall (i := .invokevirtual idx) hd (by simp only [isCall, hq]) ?_ F he h1 h2 h3 h4
  unfold kdOf at ho
  split at ho
  · rename_i o hH
    obtain ⟨kd, vs⟩ := o
    cases kd with
    | inl t => cases ho
    | inr cid' =>
      cases ho
      simp only [calI, hq, hdr, hH, hv, if_true]
  · cases ho
theorem gClone {idx np x0 a cap M F Lc C Sl : Nat} {rr : List Value} {vs : List Value} (hd : decode (P.mt j).code pc = .ok (.invokevirtual idx, 3)) (hq : lk2 P.ic j idx = some (7, np, x0)) (hcp : lk2 P.cp j pc = some cap) (hM : (P.mt j).mx = M) (hF : (P.mt j).rm.frames = F) (hL : (P.mt j).rm.locals = Lc) (hC : (P.mt j).rm.cells = C) (hS : (P.mt j).rm.slots = Sl) (hf : 1 ≤ F)
    (ho : H[a]? = some (.inl .int, vs)) (hj : P.j0 ≤ a) (hI : vs.all isI = true) (h1 : L.length = M) (h2 : wt rr + 14 ≤ Lc) (h3 : vs.length ≤ cap) (h4 : k + 1 ≤ C) (h5 : n + cap ≤ Sl) :
    Wp P j (pc, L, .ref a :: rr, H, k, n) Q ↔ Wp P j (pc + 3, L, .ref H.length :: rr, H ++ [(.inl .int, vs)], k + 1, n + cap) Q := by
  subst hM hF hL hC hS
  have hk : isCall P j (.invokevirtual idx) = 6 := by simp only [isCall, hq]
  have e : clnI P j pc (.invokevirtual idx) L (.ref a :: rr) H k n = some (.ref H.length :: rr, H ++ [(.inl .int, vs)], k + 1, n + cap) := by
    simp only [clnI, hq, clnA, ho, hcp]
    rw [if_pos ⟨⟨hj, hI⟩, ⟨h1, hf, h2⟩, h3, h4, h5⟩]
  exact wpS (i := .invokevirtual idx) hd (by rw [hk]; decide) (by rw [hk]; decide) (by simp only [stepI, hk, e]; rfl)
theorem wt_nil : wt [] = 0 := id rfl
theorem wt_int (x : Int32) (S : List Value) : wt (.int x :: S) = 1 + wt S := id rfl
theorem wt_ref (x : Nat) (S : List Value) : wt (.ref x :: S) = 1 + wt S := id rfl
theorem wt_null (S : List Value) : wt (.null :: S) = 1 + wt S := id rfl
theorem wt_long (x : Int64) (S : List Value) : wt (.long x :: S) = 2 + wt S := id rfl
theorem wt_double (x : UInt64) (S : List Value) : wt (.double x :: S) = 2 + wt S := id rfl
theorem s1_unset : s1 .unset = true := id rfl
theorem s1_int (x : Int32) : s1 (.val (.int x)) = true := id rfl
theorem s1_ref (x : Nat) : s1 (.val (.ref x)) = true := id rfl
theorem s1_null : s1 (.val .null) = true := id rfl
def s2 : Slot → Bool | .val _ => true | .unset => true | .second => false
def s3 : Slot → Bool | .val v => cat v == 1 | _ => true
theorem s2_unset : s2 .unset = true := id rfl
theorem s2_val (v : Value) : s2 (.val v) = true := id rfl
theorem s3_unset : s3 .unset = true := id rfl
theorem s3_second : s3 .second = true := id rfl
theorem s3_int (x : Int32) : s3 (.val (.int x)) = true := id rfl
theorem s3_ref (x : Nat) : s3 (.val (.ref x)) = true := id rfl
theorem st1_eq {q : Value → Bool} {L : List Slot} {k : Nat} {v : Value} {o : Slot} (h : L[k]? = some o) (ho : s1 o = true) (hq : q v = true) : st1 q L k (v :: S) = some (L.set k (.val v), S) := by
  simp only [st1, so1, h, ho, hq, Bool.and_self, if_true]
theorem st2_eq {q : Value → Bool} {L : List Slot} {k : Nat} {v : Value} {o o' : Slot} (h : L[k]? = some o) (h' : L[k + 1]? = some o') (ho : s2 o = true) (ho' : s3 o' = true) (hq : q v = true) : st2 q L k (v :: S) = some ((L.set k (.val v)).set (k + 1) .second, S) := by
  have e : so2 L k = true := by
    simp only [so2, h, h']
    cases o with
    | second => cases ho
    | unset => cases o' <;> first | rfl | exact ho'
    | val u => cases o' <;> first | rfl | exact ho'
  simp only [st2, e, hq, Bool.and_self, if_true]
theorem rdF_at {idx a : Nat} {o : Obj} (h : H[a]? = some o) : rdF P j idx H a = rdO P j idx o := by simp only [rdF, h]
end Rows
end Jvm.MM
namespace Jvm.MM
open Jvm Jvm.ClassFile Sem Op Lib Jvm.Free Jvm.Stand Jvm.LawKit Jvm.RoadKit
theorem am_nil {α : Type} {p : α → Prop} : ∀ x ∈ ([] : List α), p x := fun x h => nomatch h
theorem am_cons {α : Type} {p : α → Prop} {a : α} {l : List α} (h : p a) (t : ∀ x ∈ l, p x) : ∀ x ∈ a :: l, p x := fun x hx => (List.mem_cons.mp hx).elim (fun q => q ▸ h) (t x)
theorem Arity.of {d : String} {np : Nat} (h : ((parseMethodDescriptor d).map fun sig => sig.parameters.length) = some np) : Arity d np := fun sig hs => by
  rw [hs] at h
  exact (Option.some.inj h).symm
theorem laid_nil : laid [] = [] := rfl
theorem laid_c1 {v : Value} {r : List Value} (h : cat v = 1) : laid (v :: r) = .val v :: laid r := if_neg (by rw [h]; decide)
theorem laid_c2 {v : Value} {r : List Value} (h : cat v = 2) : laid (v :: r) = .val v :: .second :: laid r := if_pos h
theorem isA_ref' (a : Nat) : isA (.ref a) = true := id rfl
theorem isA_null' : isA .null = true := id rfl
theorem cat_int (x : Int32) : cat (.int x) = 1 := id rfl
theorem cat_ref (a : Nat) : cat (.ref a) = 1 := id rfl
theorem cat_null : cat .null = 1 := id rfl
theorem kdOf_eq (H : Hp) (a : Nat) : kdOf H a = (H[a]?).bind kdO := by unfold kdOf; cases H[a]? <;> rfl
theorem kdO_obj (c : Nat) (vs : List Value) : kdO (.inr c, vs) = some c := id rfl
theorem rdF_eq (P : Prg) (j i : Nat) (H : Hp) (a : Nat) : rdF P j i H a = (H[a]?).bind (rdO P j i) := by unfold rdF; cases H[a]? <;> rfl
theorem wrF_eq (P : Prg) (j i : Nat) (H : Hp) (a : Nat) (v : Value) : wrF P j i H a v = if a < P.j0 then none else (H[a]?).bind fun o => (wrO P j i v o).map (H.set a) := by
  unfold wrF
  split
  · rfl
  · cases H[a]? with
    | none => rfl
    | some o => show (match wrO P j i v o with | some o' => some (H.set a o') | none => none) = (wrO P j i v o).map (H.set a); cases wrO P j i v o <;> rfl
def alO : Obj → Option Int32
  | (.inl _, vs) => some vs.length.toInt32
  | _ => none
theorem alO_a (ty : FieldType) (vs : List Value) : alO (.inl ty, vs) = some vs.length.toInt32 := id rfl
theorem alen_eq (H : Hp) (a : Nat) : alen H a = (H[a]?).bind alO := by
  unfold alen
  cases H[a]? with
  | none => rfl
  | some o => obtain ⟨kd, vs⟩ := o; cases kd <;> rfl
def ldO (i : Instr) (x : Int32) : Obj → Option Value
  | (.inl ty, vs) => if aty i ty = true ∧ ¬ x < 0 then vs[x.toNatClampNeg]? else none
  | _ => none
theorem ldA_eq (i : Instr) (H : Hp) (a : Nat) (x : Int32) : ldA i H a x = (H[a]?).bind (ldO i x) := by
  unfold ldA
  cases H[a]? with
  | none => rfl
  | some o => obtain ⟨kd, vs⟩ := o; cases kd <;> rfl
theorem ldO_i (x : Int32) (vs : List Value) : ldO .iaload x (.inl .int, vs) = if x < 0 then none else vs[x.toNatClampNeg]? := by by_cases h : x < 0 <;> simp [ldO, aty, h]
theorem ldO_b (x : Int32) (vs : List Value) : ldO .baload x (.inl .byte, vs) = if x < 0 then none else vs[x.toNatClampNeg]? := by by_cases h : x < 0 <;> simp [ldO, aty, h]
theorem ldO_c (x : Int32) (vs : List Value) : ldO .caload x (.inl .char, vs) = if x < 0 then none else vs[x.toNatClampNeg]? := by by_cases h : x < 0 <;> simp [ldO, aty, h]
theorem ldO_a (x : Int32) (C : String) (vs : List Value) : ldO .aaload x (.inl (.object C), vs) = if x < 0 then none else vs[x.toNatClampNeg]? := by by_cases h : x < 0 <;> simp [ldO, aty, h]
def stO (i : Instr) (x : Int32) (v : Value) : Obj → Option Obj
  | (.inl ty, vs) => if aty i ty = true ∧ ¬ x < 0 ∧ x.toNatClampNeg < vs.length then some (.inl ty, vs.set x.toNatClampNeg v) else none
  | _ => none
theorem stA_gen (P : Prg) (i : Instr) (H : Hp) (a : Nat) (x : Int32) (v w : Value) (hv : ∀ ty, aty i ty = true → vty ty v = some w) (hs : ∀ ty, aty i ty = true → stoOk P H ty w = true) : stA P i H a x v = if a < P.j0 then none else (H[a]?).bind fun o => (stO i x w o).map (H.set a) := by
  unfold stA
  split
  · rfl
  · cases H[a]? with
    | none => rfl
    | some o =>
      obtain ⟨kd, vs⟩ := o
      cases kd with
      | inr c => rfl
      | inl ty =>
        show (match vty ty v with | some v' => if aty i ty = true ∧ ¬ x < 0 ∧ x.toNatClampNeg < vs.length ∧ stoOk P H ty v' = true then some (H.set a (.inl ty, vs.set x.toNatClampNeg v')) else none | none => none) = Option.map (H.set a) (if aty i ty = true ∧ ¬ x < 0 ∧ x.toNatClampNeg < vs.length then some (.inl ty, vs.set x.toNatClampNeg w) else none)
        by_cases ht : aty i ty = true
        · rw [hv ty ht]
          by_cases q : ¬ x < 0 ∧ x.toNatClampNeg < vs.length
          · rw [if_pos ⟨ht, q⟩]
            show (if _ then _ else _) = _
            rw [if_pos ⟨ht, q.1, q.2, hs ty ht⟩]
            rfl
          · rw [if_neg fun z => q z.2]
            show (if _ then _ else _) = _
            rw [if_neg fun z => q ⟨z.2.1, z.2.2.1⟩]
            rfl
        · rw [if_neg fun z => ht z.1]
          cases vty ty v with
          | none => rfl
          | some v' =>
            show (if _ then _ else _) = _
            rw [if_neg fun z => ht z.1]
            rfl
theorem stA_i (P : Prg) (H : Hp) (a : Nat) (x y : Int32) : stA P .iastore H a x (.int y) = if a < P.j0 then none else (H[a]?).bind fun o => (stO .iastore x (.int y) o).map (H.set a) := stA_gen P .iastore H a x _ _ (fun ty h => by cases ty <;> first | rfl | cases h) (fun ty h => by cases ty <;> first | rfl | cases h)
theorem stA_b (P : Prg) (H : Hp) (a : Nat) (x y : Int32) : stA P .bastore H a x (.int y) = if a < P.j0 then none else (H[a]?).bind fun o => (stO .bastore x (.int y.toInt8.toInt32) o).map (H.set a) := stA_gen P .bastore H a x _ _ (fun ty h => by cases ty <;> first | rfl | cases h) (fun ty h => by cases ty <;> first | rfl | cases h)
theorem stA_c (P : Prg) (H : Hp) (a : Nat) (x y : Int32) : stA P .castore H a x (.int y) = if a < P.j0 then none else (H[a]?).bind fun o => (stO .castore x (.int y.toUInt32.toUInt16.toUInt32.toInt32) o).map (H.set a) := stA_gen P .castore H a x _ _ (fun ty h => by cases ty <;> first | rfl | cases h) (fun ty h => by cases ty <;> first | rfl | cases h)
theorem stA_d (P : Prg) (H : Hp) (a : Nat) (x : Int32) (y : UInt64) : stA P .dastore H a x (.double y) = if a < P.j0 then none else (H[a]?).bind fun o => (stO .dastore x (.double y) o).map (H.set a) := stA_gen P .dastore H a x _ _ (fun ty h => by cases ty <;> first | rfl | cases h) (fun ty h => by cases ty <;> first | rfl | cases h)
theorem stO_b (x : Int32) (v : Value) (vs : List Value) : stO .bastore x v (.inl .byte, vs) = if x < 0 then none else if x.toNatClampNeg < vs.length then some (.inl .byte, vs.set x.toNatClampNeg v) else none := by
  by_cases h : x < 0 <;> by_cases h' : x.toNatClampNeg < vs.length <;> simp [stO, aty, h, h']
theorem stO_c (x : Int32) (v : Value) (vs : List Value) : stO .castore x v (.inl .char, vs) = if x < 0 then none else if x.toNatClampNeg < vs.length then some (.inl .char, vs.set x.toNatClampNeg v) else none := by
  by_cases h : x < 0 <;> by_cases h' : x.toNatClampNeg < vs.length <;> simp [stO, aty, h, h']
theorem stO_d (x : Int32) (v : Value) (vs : List Value) : stO .dastore x v (.inl .double, vs) = if x < 0 then none else if x.toNatClampNeg < vs.length then some (.inl .double, vs.set x.toNatClampNeg v) else none := by
  by_cases h : x < 0 <;> by_cases h' : x.toNatClampNeg < vs.length <;> simp [stO, aty, h, h']
theorem ldO_d (x : Int32) (vs : List Value) : ldO .daload x (.inl .double, vs) = if x < 0 then none else vs[x.toNatClampNeg]? := by by_cases h : x < 0 <;> simp [ldO, aty, h]
theorem stO_i (x : Int32) (v : Value) (vs : List Value) : stO .iastore x v (.inl .int, vs) = if x < 0 then none else if x.toNatClampNeg < vs.length then some (.inl .int, vs.set x.toNatClampNeg v) else none := by
  by_cases h : x < 0 <;> by_cases h' : x.toNatClampNeg < vs.length <;> simp [stO, aty, h, h']
theorem tn0 : (0 : Int32).toNatClampNeg = 0 := by decide
theorem tl0 : Nat.toInt32 0 = 0 := by decide
theorem rp0 {α : Type} (a : α) : List.replicate 0 a = [] := rfl
theorem tn1 : (1 : Int32).toNatClampNeg = 1 := by decide
theorem tl1 : Nat.toInt32 1 = 1 := by decide
theorem rp1 {α : Type} (a : α) : List.replicate 1 a = [a] := rfl
theorem tn2 : (2 : Int32).toNatClampNeg = 2 := by decide
theorem tl2 : Nat.toInt32 2 = 2 := by decide
theorem rp2 {α : Type} (a : α) : List.replicate 2 a = [a, a] := rfl
theorem tn3 : (3 : Int32).toNatClampNeg = 3 := by decide
theorem tl3 : Nat.toInt32 3 = 3 := by decide
theorem rp3 {α : Type} (a : α) : List.replicate 3 a = [a, a, a] := rfl
theorem tn4 : (4 : Int32).toNatClampNeg = 4 := by decide
theorem tl4 : Nat.toInt32 4 = 4 := by decide
theorem rp4 {α : Type} (a : α) : List.replicate 4 a = [a, a, a, a] := rfl
theorem tn5 : (5 : Int32).toNatClampNeg = 5 := by decide
theorem tl5 : Nat.toInt32 5 = 5 := by decide
theorem rp5 {α : Type} (a : α) : List.replicate 5 a = [a, a, a, a, a] := rfl
theorem tn6 : (6 : Int32).toNatClampNeg = 6 := by decide
theorem tl6 : Nat.toInt32 6 = 6 := by decide
theorem rp6 {α : Type} (a : α) : List.replicate 6 a = [a, a, a, a, a, a] := rfl
theorem tn7 : (7 : Int32).toNatClampNeg = 7 := by decide
theorem tl7 : Nat.toInt32 7 = 7 := by decide
theorem rp7 {α : Type} (a : α) : List.replicate 7 a = [a, a, a, a, a, a, a] := rfl
theorem tn8 : (8 : Int32).toNatClampNeg = 8 := by decide
theorem tl8 : Nat.toInt32 8 = 8 := by decide
theorem rp8 {α : Type} (a : α) : List.replicate 8 a = [a, a, a, a, a, a, a, a] := rfl
theorem tn9 : (9 : Int32).toNatClampNeg = 9 := by decide
theorem tl9 : Nat.toInt32 9 = 9 := by decide
theorem rp9 {α : Type} (a : α) : List.replicate 9 a = [a, a, a, a, a, a, a, a, a] := rfl
end Jvm.MM
namespace Jvm.MM
open Jvm Jvm.ClassFile Sem Op Lib Jvm.Free Jvm.Stand Jvm.LawKit Jvm.RoadKit
/-! ### a local that isn't read may hold what it will -/
def LeS (a b : Slot) : Prop := a = b ∨ (a = .unset ∧ ∃ x : Int32, b = .val (.int x))
def LeL (L L' : List Slot) : Prop := L.length = L'.length ∧ ∀ (i : Nat) (a : Slot), L[i]? = some a → ∃ b, L'[i]? = some b ∧ LeS a b
theorem LeL.refl (L : List Slot) : LeL L L := ⟨rfl, fun i a h => ⟨a, h, Or.inl rfl⟩⟩
theorem LeL.cons {L L' : List Slot} {a b : Slot} (h : LeS a b) (t : LeL L L') : LeL (a :: L) (b :: L') := by
  refine ⟨by simp [t.1], fun i c hc => ?_⟩
  cases i with
  | zero =>
    simp only [List.getElem?_cons_zero, Option.some.injEq] at hc
    subst hc
    exact ⟨b, by simp, h⟩
  | succ i =>
    simp only [List.getElem?_cons_succ] at hc ⊢
    exact t.2 i c hc
theorem LeL.same {L L' : List Slot} {a : Slot} (t : LeL L L') : LeL (a :: L) (a :: L') := LeL.cons (Or.inl rfl) t
theorem LeL.int {L L' : List Slot} {x : Int32} (t : LeL L L') : LeL (.unset :: L) (.val (.int x) :: L') := LeL.cons (Or.inr ⟨rfl, x, rfl⟩) t
theorem LeL.val {L L' : List Slot} (t : LeL L L') {k : Nat} {v : Value} (h : L[k]? = some (.val v)) : L'[k]? = some (.val v) := by
  obtain ⟨b, h1, h2⟩ := t.2 k _ h
  rcases h2 with rfl | ⟨q, -⟩
  · exact h1
  · cases q
theorem LeL.set {L L' : List Slot} (t : LeL L L') (k : Nat) (a : Slot) : LeL (L.set k a) (L'.set k a) := by
  refine ⟨by simp [t.1], fun i c hc => ?_⟩
  by_cases e : k = i
  · subst e
    have hl : k < L.length := by
      have := (List.getElem?_eq_some_iff.mp hc).1
      simpa using this
    rw [List.getElem?_set_self hl] at hc
    cases hc
    exact ⟨a, List.getElem?_set_self (by rw [← t.1]; exact hl), Or.inl rfl⟩
  · rw [List.getElem?_set_ne e] at hc
    rw [List.getElem?_set_ne e]
    exact t.2 i c hc
theorem ld_le {q : Value → Bool} {L L' L1 : List Slot} {k : Nat} {S S1 : List Value} (t : LeL L L') (h : ld q L k S = some (L1, S1)) : ∃ L1', ld q L' k S = some (L1', S1) ∧ LeL L1 L1' := by
  obtain ⟨v, h1, h2, rfl, rfl⟩ := ld_inv h
  exact ⟨L', by simp only [ld, t.val h1, h2, if_true], t⟩
theorem st1_le {q : Value → Bool} {L L' L1 : List Slot} {k : Nat} {S S1 : List Value} (t : LeL L L') (h : st1 q L k S = some (L1, S1)) : ∃ L1', st1 q L' k S = some (L1', S1) ∧ LeL L1 L1' := by
  obtain ⟨v, o, rfl, h1, h2, h3, rfl⟩ := st1_inv h
  obtain ⟨b, g1, g2⟩ := t.2 k o h2
  have : s1 b = true := by
    rcases g2 with rfl | ⟨-, x, rfl⟩
    · exact h3
    · rfl
  exact ⟨_, st1_eq g1 this h1, t.set k _⟩
theorem st2_le {q : Value → Bool} {L L' L1 : List Slot} {k : Nat} {S S1 : List Value} (t : LeL L L') (h : st2 q L k S = some (L1, S1)) : ∃ L1', st2 q L' k S = some (L1', S1) ∧ LeL L1 L1' := by
  obtain ⟨v, rfl, h1, h2, rfl⟩ := st2_inv h
  simp only [so2, Bool.and_eq_true] at h2
  obtain ⟨a1, a2⟩ := h2
  cases q1 : L[k]? with
  | none => rw [q1] at a1; cases a1
  | some o =>
    cases q2 : L[k + 1]? with
    | none => rw [q2] at a2; cases a2
    | some o' =>
      obtain ⟨b, g1, g2⟩ := t.2 k o q1
      obtain ⟨b', g1', g2'⟩ := t.2 (k + 1) o' q2
      rw [q1] at a1
      rw [q2] at a2
      have e1 : s2 b = true := by
        rcases g2 with rfl | ⟨-, x, rfl⟩
        · cases o <;> first | rfl | cases a1
        · rfl
      have e2 : s3 b' = true := by
        rcases g2' with rfl | ⟨-, x, rfl⟩
        · cases o' <;> first | rfl | exact a2
        · rfl
      exact ⟨_, st2_eq g1 g1' e1 e2 h1, (t.set k _).set _ _⟩
theorem keepL_le {L L' L1 : List Slot} {o : Option (List Value)} {S1 : List Value} (t : LeL L L') (h : keepL L o = some (L1, S1)) : ∃ L1', keepL L' o = some (L1', S1) ∧ LeL L1 L1' := by
  obtain ⟨rfl, rfl⟩ := keepL_inv h
  exact ⟨L', rfl, t⟩
theorem plain_le {i : Instr} {L L' L1 : List Slot} {S S1 : List Value} (t : LeL L L') (h : plainI i L S = some (L1, S1)) : ∃ L1', plainI i L' S = some (L1', S1) ∧ LeL L1 L1' := by
  cases i
  case iinc k c0 =>
    obtain ⟨x, h1, rfl, rfl⟩ := inc_inv h
    exact ⟨_, by simp only [plainI, inc, t.val h1], t.set k _⟩
  all_goals first
    | (cases h; exact ⟨L', rfl, t⟩)
    | exact ld_le t h
    | exact st1_le t h
    | exact st2_le t h
    | exact keepL_le t h
    | exact absurd h (fun q => by cases q)
theorem step_le {P : Prg} {j pc : Nat} {i : Instr} {L L' : List Slot} {S : List Value} {H : Hp} {k n : Nat} {st : St} (t : LeL L L') (h : stepI P j i (pc, L, S, H, k, n) = some st) :
    ∃ L1', LeL st.2.1 L1' ∧ stepI P j i (pc, L', S, H, k, n) = some (st.1, L1', st.2.2) := by
  simp only [stepI] at h ⊢
  split at h
  · split at h
    · rename_i x hx
      cases h
      obtain ⟨L1', g1, g2⟩ := plain_le t hx
      exact ⟨L1', g2, by simp only [g1]⟩
    · cases h
  · split at h
    · rename_i r hr
      cases h
      refine ⟨L', t, ?_⟩
      have : objI P j i L' S = some r := by
        have e : objI P j i L' S = objI P j i L S := by
          cases i <;> first | rfl | simp only [objI, t.1]
        rw [e]; exact hr
      simp only [this]
    · cases h
  · split at h
    · rename_i o r hb
      split at h
      · rename_i ho
        cases h
        exact ⟨L', t, by simp only [hb, if_pos ho]⟩
      · cases h
    · rename_i hb
      cases h
      exact ⟨L', t, by simp only [hb]⟩
    · cases h
  · split at h
    · rename_i x hx
      cases h
      exact ⟨L', t, by simp only [hx]⟩
    · cases h
  · split at h
    · rename_i x hx
      cases h
      refine ⟨L', t, ?_⟩
      have : clnI P j pc i L' S H k n = some x := by
        have e : clnI P j pc i L' S H k n = clnI P j pc i L S H k n := by
          cases i <;> first | rfl | simp only [clnI, clnA, t.1]
        rw [e]; exact hx
      simp only [this]
    · cases h
  · cases h
theorem run_le {P : Prg} : ∀ {f j pc : Nat} {L L' : List Slot} {S : List Value} {H : Hp} {k n : Nat} {r : MRes}, LeL L L' → run P f j (pc, L, S, H, k, n) = some r → run P f j (pc, L', S, H, k, n) = some r
  | 0, j, pc, L, L', S, H, k, n, r, t, h => by simp only [run] at h; cases h
  | f + 1, j, pc, L, L', S, H, k, n, r, t, h => by
    obtain ⟨i, hd, hcase⟩ := run_inv h
    rcases hcase with ⟨hi, v, hv, hk, rfl⟩ | ⟨hi, j', as, rr, r', hcal, hrm, h1, h2⟩ | ⟨h3, h1', ⟨pc', L1, S1, H1, k1, n1⟩, hst, h1⟩
    · exact run_ret hd hi hv hk
    · have hrm' : rmOk P j j' L' rr k n = true := by
        have e : rmOk P j j' L' rr k n = rmOk P j j' L rr k n := by simp only [rmOk, t.1]
        rw [e]; exact hrm
      rw [run_call hd hi hcal hrm' h1]
      exact run_le t h2
    · obtain ⟨L1', g1, g2⟩ := step_le t hst
      rw [run_step hd h3 h1' g2]
      exact run_le g1 h1
theorem wp_run {P : Prg} {j pc : Nat} {L L' : List Slot} {S : List Value} {H : Hp} {k n : Nat} {Q : MRes → Prop} (f : Nat) {v : Option Value} (t : LeL L L') (h : (run P f j (pc, L, S, H, k, n)).map (·.1) = some v) (hq : ∀ H', Q (v, H')) : Wp P j (pc, L', S, H, k, n) Q := by
  cases hr : run P f j (pc, L, S, H, k, n) with
  | none => rw [hr] at h; cases h
  | some r =>
    rw [hr] at h
    obtain ⟨v', H'⟩ := r
    cases h
    exact ⟨f, _, run_le t hr, hq H'⟩
/-! ### a run up to a given pc, with locals laid under it -/
def ovS : Slot → Slot → Slot
  | .unset, b => b
  | a, _ => a
def ov : List Slot → List Slot → List Slot
  | a :: L, b :: B => ovS a b :: ov L B
  | L, _ => L
def Ints (B : List Slot) : Prop := ∀ b ∈ B, b = .unset ∨ ∃ x : Int32, b = .val (.int x)
theorem ov_len : ∀ L B : List Slot, (ov L B).length = L.length
  | [], B => by cases B <;> rfl
  | a :: L, [] => rfl
  | a :: L, b :: B => by show (ov L B).length + 1 = L.length + 1; rw [ov_len L B]
theorem ov_le {B : List Slot} (hB : Ints B) : ∀ L : List Slot, LeL L (ov L B) := by
  induction B with
  | nil => intro L; cases L <;> exact LeL.refl _
  | cons b B ih =>
    intro L
    cases L with
    | nil => exact LeL.refl _
    | cons a L =>
      refine LeL.cons ?_ (ih (fun x hx => hB x (List.mem_cons_of_mem _ hx)) L)
      cases a with
      | unset =>
        rcases hB b List.mem_cons_self with rfl | ⟨x, rfl⟩
        · exact Or.inl rfl
        · exact Or.inr ⟨rfl, x, rfl⟩
      | second => exact Or.inl rfl
      | val v => exact Or.inl rfl
theorem ov_set {a : Slot} (ha : a ≠ .unset) : ∀ (L B : List Slot) (k : Nat), ov (L.set k a) B = (ov L B).set k a
  | [], B, k => by cases B <;> rfl
  | c :: L, [], k => by cases k <;> rfl
  | c :: L, b :: B, 0 => by
    show ovS a b :: ov L B = a :: ov L B
    cases a with
    | unset => exact absurd rfl ha
    | second => rfl
    | val v => rfl
  | c :: L, b :: B, k + 1 => by
    show ovS c b :: ov (L.set k a) B = ovS c b :: (ov L B).set k a
    rw [ov_set ha L B k]
theorem ov_val {L B : List Slot} (hB : Ints B) {k : Nat} {v : Value} (h : L[k]? = some (.val v)) : (ov L B)[k]? = some (.val v) := (ov_le hB L).val h
theorem plain_ov {i : Instr} {L L1 B : List Slot} {S S1 : List Value} (hB : Ints B) (h : plainI i L S = some (L1, S1)) : plainI i (ov L B) S = some (ov L1 B, S1) := by
  have hst1 : ∀ {q : Value → Bool} {k : Nat}, st1 q L k S = some (L1, S1) → st1 q (ov L B) k S = some (ov L1 B, S1) := fun {q k} h => by
    obtain ⟨v, o, rfl, h1, h2, h3, rfl⟩ := st1_inv h
    obtain ⟨b, g1, g2⟩ := (ov_le hB L).2 k o h2
    have : s1 b = true := by
      rcases g2 with rfl | ⟨-, x, rfl⟩
      · exact h3
      · rfl
    rw [st1_eq g1 this h1, ov_set (by simp)]
  have hst2 : ∀ {q : Value → Bool} {k : Nat}, st2 q L k S = some (L1, S1) → st2 q (ov L B) k S = some (ov L1 B, S1) := fun {q k} h => by
    obtain ⟨L1', g1, -⟩ := st2_le (ov_le hB L) h
    obtain ⟨v, rfl, h1, h2, rfl⟩ := st2_inv h
    obtain ⟨v', e1, -, -, e2⟩ := st2_inv g1
    cases e1
    rw [g1, e2, ov_set (by simp), ov_set (by simp)]
  have hld : ∀ {q : Value → Bool} {k : Nat}, ld q L k S = some (L1, S1) → ld q (ov L B) k S = some (ov L1 B, S1) := fun {q k} h => by
    obtain ⟨v, h1, h2, rfl, rfl⟩ := ld_inv h
    simp only [ld, ov_val hB h1, h2, if_true]
  have hkp : ∀ {o : Option (List Value)}, keepL L o = some (L1, S1) → keepL (ov L B) o = some (ov L1 B, S1) := fun {o} h => by
    obtain ⟨rfl, rfl⟩ := keepL_inv h
    rfl
  cases i
  case iinc k c0 =>
    obtain ⟨x, h1, rfl, rfl⟩ := inc_inv h
    show inc (ov L B) k c0 _ = _
    simp only [inc, ov_val hB h1]
    rw [ov_set (by simp)]
  all_goals first
    | (cases h; rfl)
    | exact hld h
    | exact hst1 h
    | exact hst2 h
    | exact hkp h
    | exact absurd h (fun q => by cases q)
theorem step_ov {P : Prg} {j pc : Nat} {i : Instr} {L B : List Slot} {S : List Value} {H : Hp} {k n : Nat} {st : St} (hB : Ints B) (h : stepI P j i (pc, L, S, H, k, n) = some st) : stepI P j i (pc, ov L B, S, H, k, n) = some (st.1, ov st.2.1 B, st.2.2) := by
  simp only [stepI] at h ⊢
  split at h
  · split at h
    · rename_i x hx
      cases h
      simp only [plain_ov hB hx]
    · cases h
  · split at h
    · rename_i r hr
      cases h
      have : objI P j i (ov L B) S = some r := by
        have e : objI P j i (ov L B) S = objI P j i L S := by
          cases i <;> first | rfl | simp only [objI, ov_len]
        rw [e]; exact hr
      simp only [this]
    · cases h
  · split at h
    · rename_i o r hb
      split at h
      · rename_i ho
        cases h
        simp only [hb, if_pos ho]
      · cases h
    · rename_i hb
      cases h
      simp only [hb]
    · cases h
  · split at h
    · rename_i x hx
      cases h
      simp only [hx]
    · cases h
  · split at h
    · rename_i x hx
      cases h
      have : clnI P j pc i (ov L B) S H k n = some x := by
        have e : clnI P j pc i (ov L B) S H k n = clnI P j pc i L S H k n := by
          cases i <;> first | rfl | simp only [clnI, clnA, ov_len]
        rw [e]; exact hx
      simp only [this]
    · cases h
  · cases h
/-- up to pc t, within this frame; a call by 'run' with fuel f -/
def goU (P : Prg) (f t : Nat) : Nat → Nat → St → Option St
  | 0, _, _ => none
  | g + 1, j, (pc, L, S, H, k, n) =>
    if pc = t then some (pc, L, S, H, k, n) else
    match decode (P.mt j).code pc with
    | .error _ => none
    | .ok (i, len) =>
      if len = ilen i then
        match isCall P j i with
        | 3 => none
        | 1 => (match calI P j i S H with
          | some (j', as, r) =>
            if rmOk P j j' L r k n = true then
              (match run P f j' (0, entL as (P.mt j').mx, [], H, 0, 0) with
              | some (v, H') => goU P f t g j (pc + 3, L, v.toList ++ r, H', k + (P.mt j').rm.cells, n + (P.mt j').rm.slots)
              | none => none)
            else none
          | none => none)
        | _ => (match stepI P j i (pc, L, S, H, k, n) with | some st' => goU P f t g j st' | none => none)
      else none
theorem wp_goU {P : Prg} {f t : Nat} {B : List Slot} (hB : Ints B) {Q : MRes → Prop} : ∀ {g j : Nat} {pc : Nat} {L : List Slot} {S : List Value} {H : Hp} {k n : Nat} {st : St}, goU P f t g j (pc, L, S, H, k, n) = some st → Wp P j (st.1, ov st.2.1 B, st.2.2) Q → Wp P j (pc, ov L B, S, H, k, n) Q
  | 0, j, pc, L, S, H, k, n, st, h, w => by simp only [goU] at h; cases h
  | g + 1, j, pc, L, S, H, k, n, st, h, w => by
    simp only [goU] at h
    split at h
    · rename_i e
      cases h
      exact w
    · split at h
      · cases h
      · rename_i i len hd
        split at h
        · rename_i hl
          subst hl
          split at h
          · cases h
          · rename_i hi
            split at h
            · rename_i j' as r hc
              split at h
              · rename_i hrm
                split at h
                · rename_i v H' hr
                  have hrm' : rmOk P j j' (ov L B) r k n = true := by
                    have e : rmOk P j j' (ov L B) r k n = rmOk P j j' L r k n := by simp only [rmOk, ov_len]
                    rw [e]; exact hrm
                  rw [wpC hd hi hc hrm']
                  exact ⟨f, _, hr, wp_goU hB h w⟩
                · cases h
              · cases h
            · cases h
          · rename_i h3 h1
            split at h
            · rename_i st' hst
              obtain ⟨pc', L', S', H', k', n'⟩ := st'
              rw [wpS hd h3 h1 (step_ov hB hst)]
              exact wp_goU hB h w
            · cases h
        · cases h
end Jvm.MM
namespace Jvm.MM
open Jvm Jvm.ClassFile Sem Op Lib Jvm.Free Jvm.Stand Jvm.LawKit Jvm.RoadKit
/-! ### numbers -/
theorem and_range (x m : Int32) (d : Nat) (hd : m.toBitVec.toNat < d) : ∃ i, i < d ∧ x &&& m = Int32.ofNat i := by
  refine ⟨(x &&& m).toBitVec.toNat, ?_, ?_⟩
  · rw [Int32.toBitVec_and, BitVec.toNat_and]
    exact Nat.lt_of_le_of_lt Nat.and_le_right hd
  · apply Int32.toBitVec_inj.mp
    show _ = BitVec.ofNat 32 _
    rw [BitVec.ofNat_toNat, BitVec.setWidth_eq]
theorem nat_range {x : Int32} {d : Nat} (h0 : 0 ≤ x.toInt) (h1 : x.toInt < d) : ∃ i, i < d ∧ x = Int32.ofNat i := by
  refine ⟨x.toInt.toNat, by omega, Int32.toInt_inj.mp ?_⟩
  have := Int32.toInt_lt x
  rw [Int32.toInt_ofNat_small (by omega)]
  omega
theorem pos_mask (x : Int32) : 0 ≤ (x &&& 2147483647).toInt := (c_andS x 2147483647).2.2 (by decide)
theorem rem_range (x m : Int32) (d : Nat) (hm : m.toInt = d) (hd : 0 < d) : ∃ i, i < d ∧ (x &&& 2147483647) % m = Int32.ofNat i := by
  have h0 := pos_mask x
  have h1 := (c_irem (x &&& 2147483647) m d hm).1 h0
  have h2 := Int.emod_nonneg (x &&& 2147483647).toInt (show (d : Int) ≠ 0 by omega)
  have h3 := Int.emod_lt_of_pos (x &&& 2147483647).toInt (show (0 : Int) < d by omega)
  exact nat_range (by omega) (by omega)
theorem cmp_lt (x y : Int64) : (XT.cmpL x y < 0) = (x < y) := by
  unfold XT.cmpL
  apply propext
  by_cases h : y < x
  · rw [if_pos h]
    exact ⟨fun q => absurd q (by decide), fun q => absurd (Int64.lt_trans q h) (Int64.lt_irrefl)⟩
  · rw [if_neg h]
    by_cases e : x = y
    · subst e
      rw [if_pos rfl]
      exact ⟨fun q => absurd q (by decide), fun q => absurd q (Int64.lt_irrefl)⟩
    · rw [if_neg e]
      exact ⟨fun _ => Int64.lt_of_le_of_ne (Int64.not_lt.mp h) e, fun _ => by decide⟩
theorem cmp_gt (x y : Int64) : (0 < XT.cmpL x y) = (y < x) := by
  unfold XT.cmpL
  apply propext
  by_cases h : y < x
  · rw [if_pos h]
    exact ⟨fun _ => h, fun _ => by decide⟩
  · rw [if_neg h]
    by_cases e : x = y
    · rw [if_pos e]
      exact ⟨fun q => absurd q (by decide), fun q => absurd q h⟩
    · rw [if_neg e]
      exact ⟨fun q => absurd q (by decide), fun q => absurd q h⟩
theorem cmp_eq (x y : Int64) : (XT.cmpL x y = 0) = (x = y) := by
  unfold XT.cmpL
  apply propext
  by_cases h : y < x
  · rw [if_pos h]
    exact ⟨fun q => absurd q (by decide), fun q => by subst q; exact absurd h (Int64.lt_irrefl)⟩
  · rw [if_neg h]
    by_cases e : x = y
    · rw [if_pos e]
      exact ⟨fun _ => e, fun _ => rfl⟩
    · rw [if_neg e]
      exact ⟨fun q => absurd q (by decide), fun q => absurd q e⟩
theorem cmp_le (x y : Int64) : (XT.cmpL x y ≤ 0) = (x ≤ y) := by
  have h := cmp_gt x y
  apply propext
  rw [← Int32.not_lt, ← Int64.not_lt, h]
theorem cmp_ge (x y : Int64) : (0 ≤ XT.cmpL x y) = (y ≤ x) := by
  have h := cmp_lt x y
  apply propext
  rw [← Int32.not_lt, ← Int64.not_lt, h]
theorem on0 : Int32.ofNat 0 = 0 := rfl
theorem on1 : Int32.ofNat 1 = 1 := rfl
theorem on2 : Int32.ofNat 2 = 2 := rfl
theorem on3 : Int32.ofNat 3 = 3 := rfl
theorem on4 : Int32.ofNat 4 = 4 := rfl
theorem on5 : Int32.ofNat 5 = 5 := rfl
theorem on6 : Int32.ofNat 6 = 6 := rfl
theorem on7 : Int32.ofNat 7 = 7 := rfl
theorem on8 : Int32.ofNat 8 = 8 := rfl
theorem on9 : Int32.ofNat 9 = 9 := rfl
theorem an0 : (0 : Int32) &&& 1 = 0 := by decide
theorem an1 : (1 : Int32) &&& 1 = 1 := by decide
end Jvm.MM
namespace Jvm.MM
open Jvm Jvm.ClassFile Sem Op Lib Jvm.Free Jvm.Stand Jvm.LawKit Jvm.RoadKit
/-! ### objects that stood at the start -/
def rhoL (as : List Nat) (n0 i : Nat) : Nat := match as[i]? with | some a => a | none => n0 + (i - as.length)
theorem rhoL_old {as : List Nat} {n0 i : Nat} {a : Nat} (h : as[i]? = some a) : rhoL as n0 i = a := by simp only [rhoL, h]
theorem rhoL_new {as : List Nat} {n0 i : Nat} (h : as.length ≤ i) : rhoL as n0 i = n0 + (i - as.length) := by simp only [rhoL, List.getElem?_eq_none h]
theorem rhoL_ok {P : Prg} {as : List Nat} {n0 : Nat} (hj : P.j0 = as.length) (hn : as.Nodup) (hl : ∀ a ∈ as, a < n0) : RhoOk P (rhoL as n0) n0 := by
  refine ⟨fun i hi => by rw [hj] at hi ⊢; exact rhoL_new hi, fun i j h => ?_⟩
  have h : (rhoL as n0 i : Nat) = rhoL as n0 j := h
  by_cases h1 : i < as.length
  · have e1 : as[i]? = some as[i] := List.getElem?_eq_getElem h1
    rw [rhoL_old e1] at h
    by_cases h2 : j < as.length
    · have e2 : as[j]? = some as[j] := List.getElem?_eq_getElem h2
      rw [rhoL_old e2] at h
      exact (List.getElem_inj hn).mp h
    · rw [rhoL_new (by omega)] at h
      have := hl _ (List.getElem_mem h1)
      omega
  · rw [rhoL_new (by omega)] at h
    by_cases h2 : j < as.length
    · have e2 : as[j]? = some as[j] := List.getElem?_eq_getElem h2
      rw [rhoL_old e2] at h
      have := hl _ (List.getElem_mem h2)
      omega
    · rw [rhoL_new (by omega)] at h
      omega
section Start
variable {Z : State} {args : Array Value}
theorem ex_start {t : Term} {C : String} (hx : (Jvm.Cond.exactly t C).value args Z none Z [] = some true) : ∃ a, t.eval args Z none [] Z = some (.ref a) ∧ Exa Z Z.heap a C := by
  have hx' : (Jvm.Cond.exactly t C).before args Z = true := Jvm.Cond.before_iff.mpr hx
  obtain ⟨a', c', cell, k, e1, -⟩ := Jvm.Cond.exactly_spec hx'
  exact ⟨a', e1, Exa.start e1 hx⟩
theorem fld_of {t : Term} {a : Addr} {O n d : String} {v : Value} (ht : t.eval args Z none [] Z = some (.ref a)) (h : (Term.field t O n d).eval args Z none [] Z = some v) : Fld Z Z.heap a O n d v := by
  refine Fld.start ?_
  simpa [Term.eval, ht] using h
theorem fld_eq {t u : Term} {a : Addr} {O n d : String} {v : Value} (ht : t.eval args Z none [] Z = some (.ref a)) (hu : u.eval args Z none [] Z = some v) (h : (Jvm.Cond.eq (.field t O n d) u).value args Z none Z [] = some true) (hv : (match v with | .int _ => true | .long _ => true | _ => false) = true) : Fld Z Z.heap a O n d v := by
  refine fld_of ht ?_
  cases hf : (Term.field t O n d).eval args Z none [] Z with
  | none => simp only [Jvm.Cond.value, hf] at h; cases h
  | some w =>
    simp only [Jvm.Cond.value, hf, hu] at h
    cases v <;> cases w <;> first | (cases hv; done) | (simp at h; done) | (simp at h; rw [h])
end Start
theorem fld_inj {Z : State} {h : Heap} {a : Addr} {O n d : String} {v w : Value} (F : Fld Z h a O n d v) (G : Fld Z h a O n d w) : v = w := by
  obtain ⟨cell, cf, k, i, f, h1, h2, -, -, -, -, h7⟩ := F
  obtain ⟨cell', cf', k', i', f', g1, g2, -, -, -, -, g7⟩ := G
  cases h1.symm.trans g1
  cases h2.symm.trans g2
  exact Option.some.inj (h7.symm.trans g7)
end Jvm.MM
namespace Jvm.MM
open Jvm Jvm.ClassFile Sem Op Lib Jvm.Free Jvm.Stand Jvm.LawKit Jvm.RoadKit
/-! ### the table of boxes that stood at the start -/
section Box
variable {Z : State} {K d : String} {val : Int32 → Value} {a : Addr} {c : Cell}
theorem i32_clamp {i : Nat} (h : i < 256) : (Int32.ofNat i).toNatClampNeg = i ∧ ¬ Int32.ofNat i < 0 := by
  have e : (Int32.ofNat i).toInt = i := Int32.toInt_ofNat_small (by omega)
  refine ⟨by simp only [Int32.toNatClampNeg, e]; rfl, fun q => ?_⟩
  have := Int32.lt_iff_toInt_lt.mp q
  rw [e] at this
  have z : (0 : Int32).toInt = 0 := rfl
  omega
def refOf : Value → Nat | .ref b => b | _ => 0
theorem boxes_list (B : Bxs Z a c K d 256 val) : ∃ bs : List Nat, bs.length = 256 ∧ c.slots = (bs.map (fun b => Value.ref b)).toArray ∧ ∀ i b, bs[i]? = some b → Exa Z Z.heap b K ∧ Fld Z Z.heap b K "value" d (val (Int32.ofNat i)) := by
  obtain ⟨-, hs, -, hb⟩ := B
  have hs : c.slots.size = 256 := hs
  have key : ∀ i, i < 256 → ∃ b : Addr, c.slots[i]? = some (.ref b) ∧ Exa Z Z.heap b K ∧ Fld Z Z.heap b K "value" d (val (Int32.ofNat i)) := fun i hi => by
    obtain ⟨e1, e2⟩ := i32_clamp hi
    obtain ⟨b, h1, h2, h3⟩ := hb (Int32.ofNat i) (fun q => q.elim e2 (fun q => by rw [e1] at q; omega))
    rw [e1] at h1
    exact ⟨b, h1, h2, h3⟩
  refine ⟨c.slots.toList.map refOf, by simpa using hs, ?_, fun i b h => ?_⟩
  · apply Array.ext_getElem?
    intro i
    by_cases hi : i < 256
    · obtain ⟨b, h1, -, -⟩ := key i hi
      rw [h1]
      simp [h1, refOf]
    · rw [Array.getElem?_eq_none (by omega), Array.getElem?_eq_none (by simp; omega)]
  · have hi : i < 256 := by
      have := (List.getElem?_eq_some_iff.mp h).1
      simpa [hs] using this
    obtain ⟨b', h1, h2, h3⟩ := key i hi
    have : b = b' := by
      simp [h1, refOf] at h
      exact h.symm
    subst this
    exact ⟨h2, h3⟩
def boxH (cid : Nat) (K : String) (val : Int32 → Value) : Hp := (List.range 256).map (fun i => ((.inr cid, [val (Int32.ofNat i)]) : Obj)) ++ [(.inl (.object K), (List.range 256).map Value.ref)]
theorem boxH_len (cid : Nat) (K : String) (val : Int32 → Value) : (boxH cid K val).length = 257 := by simp [boxH]
theorem boxH_box {cid : Nat} {K : String} {val : Int32 → Value} {i : Nat} (hi : i < 256) : (boxH cid K val)[i]? = some (.inr cid, [val (Int32.ofNat i)]) := by
  unfold boxH
  rw [List.getElem?_append_left (by simpa using hi)]
  simp [hi]
theorem boxH_arr {cid : Nat} {K : String} {val : Int32 → Value} : (boxH cid K val)[256]? = some (.inl (.object K), (List.range 256).map Value.ref) := by
  unfold boxH
  rw [List.getElem?_append_right (by simp)]
  simp
theorem boxes_nodup {bs : List Nat} (hv : ∀ i j, i < 256 → j < 256 → val (Int32.ofNat i) = val (Int32.ofNat j) → i = j) (hl : bs.length = 256) (hb : ∀ i b, bs[i]? = some b → Exa Z Z.heap b K ∧ Fld Z Z.heap b K "value" d (val (Int32.ofNat i))) : bs.Nodup := by
  refine List.pairwise_iff_getElem.mpr fun i j hi hj hij e => ?_
  have h1 : bs[j]? = some bs[j] := List.getElem?_eq_getElem hj
  have h0 : bs[i]? = some bs[j] := by rw [List.getElem?_eq_getElem hi, e]
  have := fld_inj (hb _ _ h0).2 (hb _ _ h1).2
  have := hv i j (by omega) (by omega) this
  omega
theorem boxes_obj {P : Prg} {ρ : Nat → Addr} {cid : Nat} {ty : FieldType} {bs : List Nat} (hj : 257 ≤ P.j0) (hn : P.cname cid = K) (hf : P.flds cid = [(K, "value", d, ty)]) (hv : ∀ i j, val i = .ref j → False) (hl : bs.length = 256) (hs : c.slots = (bs.map (fun b => Value.ref b)).toArray)
    (hb : ∀ i b, bs[i]? = some b → Exa Z Z.heap b K ∧ Fld Z Z.heap b K "value" d (val (Int32.ofNat i))) (A : Arr Z Z.heap a c (.object K)) (hr : ∀ i b, bs[i]? = some b → ρ i = b) (ha : ρ 256 = a) {i : Nat} {o : Obj} (h : (boxH cid K val)[i]? = some o) : ObjOk P Z ρ Z.heap i o := by
  have hi : i < 257 := by rw [← boxH_len cid K val]; exact (List.getElem?_eq_some_iff.mp h).1
  by_cases q : i < 256
  · rw [boxH_box q] at h
    cases h
    have e : bs[i]? = some bs[i] := List.getElem?_eq_getElem (by omega)
    obtain ⟨E, F⟩ := hb i _ e
    refine fun _ => ⟨by rw [hr i _ e, hn]; exact E, fun q v fd h1 h2 => ?_⟩
    rw [hf] at h2
    match q, h1, h2 with
    | 0, h1, h2 =>
      cases h1; cases h2
      rw [hr i _ e]
      have : tv ρ (val (Int32.ofNat i)) = val (Int32.ofNat i) := by
        cases q : val (Int32.ofNat i) <;> first | rfl | exact (hv _ _ q).elim
      rw [this]
      exact F
  · have : i = 256 := by omega
    subst this
    rw [boxH_arr] at h
    cases h
    refine ⟨c, by rw [ha]; exact A, ?_, fun q => by omega, fun q => by omega⟩
    rw [hs]
    apply congrArg
    apply List.ext_getElem?
    intro i
    by_cases hi : i < 256
    · have e : bs[i]? = some bs[i] := List.getElem?_eq_getElem (by omega)
      simp [e, hi, tv, hr i _ e]
    · rw [List.getElem?_eq_none (by simp; omega), List.getElem?_eq_none (by simp; omega)]
theorem exa_ne {h : Heap} {a b : Addr} {C D : String} (E : Exa Z h a C) (F : Exa Z h b D) (hn : C ≠ D) : a ≠ b := fun e => by
  subst e
  obtain ⟨c1, k1, a1, a2, a3, -⟩ := E
  obtain ⟨c2, k2, b1, b2, b3, -⟩ := F
  cases a1.symm.trans b1
  obtain ⟨k, e1, e2⟩ := Vm.findClass_spec a2
  obtain ⟨k', f1, f2⟩ := Vm.findClass_spec b2
  cases e1.symm.trans f1
  exact hn (e2.symm.trans f2)
theorem box_start {args : Array Value} {t F : Term} (et : ∀ idx, t.eval args Z none idx Z = some (.ref a)) (hA : (Jvm.Cond.arrayOf t (.object K)).value args Z none Z [] = some true) (hl : (Jvm.Cond.eq (.length t) (.int 256)).value args Z none Z [] = some true)
    (h : (Jvm.Cond.all t (.and (.exactly (.elem t (.index 0)) K) (.eq (.field (.elem t (.index 0)) K "value" d) F))).value args Z none Z [] = some true)
    (hv : ∀ (X : Term) (j : Int32), ¬ j < 0 → (Jvm.Cond.eq X F).value args Z none Z [j.toNatClampNeg] = some true → X.eval args Z none [j.toNatClampNeg] Z = some (val j)) : ∃ c, Bxs Z a c K d 256 val := by
  obtain ⟨c, A⟩ := Arr.start (et []) hA
  have e := eqv_i (Term.int_eval 256) hl
  have AA := A.fin (Vm.Alike.refl _)
  have q : c.slots.size < 2 ^ 31 := by
    apply Classical.byContradiction
    intro q
    simp [Term.eval, et [], AA, q] at e
  rw [len_f (et []) AA q] at e
  exact ⟨c, Bxs.start et A q (Value.int.inj (Option.some.inj e)) (by decide) h hv⟩
end Box
/-! ### a class that isn't another's heir, where that other is known to be instantiable -/
section No
variable {Z : State} {a0 : Array Value}
theorem ns_root {O K : String} {n : Nat} (w : (Jvm.Cond.noSuperclass O).before a0 Z = true) (wk : (Jvm.Cond.instantiable K n).before a0 Z = true) (hn : O ≠ K) : NS Z O K := by
  obtain ⟨c, k, h1, h2, h3, -, -⟩ := Cond.noSuperclass_spec w
  obtain ⟨t, kt, g1, -⟩ := Cond.instantiable_spec wk
  have ne := ids_ne h1 g1 hn
  refine ⟨c, t, h1, g1, fun fuel => ?_⟩
  cases fuel with
  | zero => rfl
  | succ f => simp [Vm.isSubclassAux, ne, h2, h3]
theorem ns_no {C S K : String} {n : Nat} (w : (Jvm.Cond.superclass C S).before a0 Z = true) (wk : (Jvm.Cond.instantiable K n).before a0 Z = true) (m : NS Z C K) (hn : C ≠ K) : ∃ c t, Z.vm.findClass C = some c ∧ Z.vm.findClass K = some t ∧ Z.vm.assignable c t = false := by
  obtain ⟨c, t, h0, g0, n3⟩ := m
  obtain ⟨p, k, kp, h1, h2, h3, h4, h5, -, h7⟩ := Cond.superclass_spec h0 w
  obtain ⟨t', kt, g1, g2, g3, g4, -⟩ := Cond.instantiable_spec wk
  cases g0.symm.trans g1
  have g5 : kt.isInterface = false := by
    cases q : kt.isInterface with
    | false => rfl
    | true => rw [q] at g4; cases g4
  have ne := ids_ne h0 g0 hn
  refine ⟨c, t, h0, g0, ?_⟩
  show Z.vm.assignableAux (255 + 1) c t = false
  simp [Vm.assignableAux, ne, h2, g2, h5, g3, g5, Vm.isSubclass, n3]
theorem ins_no {h : Heap} {a : Addr} {C K : String} (E : Exa Z h a C) (F : ∃ c t, Z.vm.findClass C = some c ∧ Z.vm.findClass K = some t ∧ Z.vm.assignable c t = false) : Ins Z h a K false := by
  obtain ⟨c, t, f1, f2, f3⟩ := F
  obtain ⟨cell, k, e1, e2, -⟩ := E
  cases f1.symm.trans e2
  exact ⟨cell, t, e1, f2, by rw [f3, Bool.and_false]⟩
end No
end Jvm.MM
namespace Jvm.Pilot.@@N@@
open Jvm Jvm.ClassFile Sem Op Lib Jvm.Free Jvm.Stand Jvm.LawKit Jvm.RoadKit Bundle Jvm.MM Jvm.Pilot.@@N@@.Jvm.D
def mths : List Mth := [(x, code, maxLocals, ret, room_1),
  (⟨"java/lang/Math", "max", "(II)I"⟩, jdk_29_method_65_code, 2, (some .int), { frames := 0, cells := 0, slots := 0, locals := 0 }),
  (⟨"com/example/cardinality/cardinality/Restriction", "<init>", "(Lcom/example/cardinality/cardinality/Restriction$Kind;JIIZ)V"⟩, prog_13_method_2_code, 7, none, { frames := 1, cells := 0, slots := 0, locals := 12 }),
  (⟨"com/example/cardinality/cardinality/Restriction", "equals", "(Ljava/lang/Object;)Z"⟩, prog_13_method_10_code, 3, (some .boolean), { frames := 0, cells := 0, slots := 0, locals := 0 }),
  (⟨"java/lang/Long", "valueOf", "(J)Ljava/lang/Long;"⟩, jdk_35_method_24_code, 3, (some (.object "java/lang/Long")), { frames := 3, cells := 1, slots := 1, locals := 39 }),
  (⟨"java/lang/Long", "<init>", "(J)V"⟩, jdk_35_method_26_code, 3, none, { frames := 2, cells := 0, slots := 0, locals := 24 }),
  (⟨"java/lang/Number", "<init>", "()V"⟩, jdk_18_method_1_code, 1, none, { frames := 1, cells := 0, slots := 0, locals := 12 })]
def clss : List Cls := [("com/example/cardinality/cardinality/Restriction$Kind", 0, []),
  ("com/example/cardinality/cardinality/Restriction", 5, [("com/example/cardinality/cardinality/Restriction", "kind", "Lcom/example/cardinality/cardinality/Restriction$Kind;", (.object "com/example/cardinality/cardinality/Restriction$Kind")), ("com/example/cardinality/cardinality/Restriction", "number", "J", .long), ("com/example/cardinality/cardinality/Restriction", "role", "I", .int), ("com/example/cardinality/cardinality/Restriction", "filler", "I", .int), ("com/example/cardinality/cardinality/Restriction", "outside", "Z", .boolean)]),
  ("java/lang/Long", 1, [("java/lang/Long", "value", "J", .long)])]
def Pg : Prg := (mths, clss, [(3, 31, 1, 0), (3, 35, 1, 1), (3, 39, 1, 2), (3, 43, 1, 3), (3, 46, 1, 4)], [(2, 31, 1, 0), (2, 35, 1, 1), (2, 39, 1, 2), (2, 43, 1, 3), (2, 46, 1, 4), (5, 273, 2, 0)], [(0, 13, 0), (0, 7, 1), (4, 234, 2)], [("com/example/cardinality/cardinality/Restriction$Kind", "AT_LEAST", "Lcom/example/cardinality/cardinality/Restriction$Kind;", .ref 257), ("com/example/cardinality/cardinality/Restriction$Kind", "AT_MOST", "Lcom/example/cardinality/cardinality/Restriction$Kind;", .ref 258), ("java/lang/Long$LongCache", "cache", "[Ljava/lang/Long;", .ref 256)], [(0, 27, 1), (4, 1, 2)], [], [], [(3, 2, (.inr 1), true), (3, 2, (.inr 2), false)], [(0, 20, 2147483647)], [(0, 18, 9223372036854775807), (4, 230, (-128)), (4, 232, 127)], [(0, 21, 0, 2, 1), (0, 29, 1, 5, 2), (0, 32, 2, 1, 0), (0, 36, 0, 1, 4), (2, 7, 6, 0, 0), (4, 240, 1, 1, 5), (5, 270, 1, 0, 6), (6, 1, 6, 0, 0)], [(0, 32, 1, 1, 3)], [], 259)
section Words
variable {Z : State} {a0 : Array Value} (hw : ∀ d ∈ tables_1, d.before a0 Z = true)
theorem cl1 (hw : ∀ d ∈ tables_1, d.before a0 Z = true) : ClsOk Z a0 ("com/example/cardinality/cardinality/Restriction", 5, [("com/example/cardinality/cardinality/Restriction", "kind", "Lcom/example/cardinality/cardinality/Restriction$Kind;", (.object "com/example/cardinality/cardinality/Restriction$Kind")), ("com/example/cardinality/cardinality/Restriction", "number", "J", .long), ("com/example/cardinality/cardinality/Restriction", "role", "I", .int), ("com/example/cardinality/cardinality/Restriction", "filler", "I", .int), ("com/example/cardinality/cardinality/Restriction", "outside", "Z", .boolean)]) := ⟨(hw _ (List.mem_of_getElem? (i := 10) rfl)), am_cons (⟨Or.inr (hw _ (List.mem_of_getElem? (i := 19) rfl)), by decide⟩) (am_cons (⟨Or.inr (hw _ (List.mem_of_getElem? (i := 21) rfl)), by decide⟩) (am_cons (⟨Or.inr (hw _ (List.mem_of_getElem? (i := 23) rfl)), by decide⟩) (am_cons (⟨Or.inr (hw _ (List.mem_of_getElem? (i := 25) rfl)), by decide⟩) (am_cons (⟨Or.inr (hw _ (List.mem_of_getElem? (i := 27) rfl)), by decide⟩) (am_nil))))), by decide⟩
theorem cl2 (hw : ∀ d ∈ tables_1, d.before a0 Z = true) : ClsOk Z a0 ("java/lang/Long", 1, [("java/lang/Long", "value", "J", .long)]) := ⟨(hw _ (List.mem_of_getElem? (i := 49) rfl)), am_cons (⟨Or.inr (hw _ (List.mem_of_getElem? (i := 62) rfl)), by decide⟩) (am_nil), by decide⟩
theorem pf0 : plainFor (x : MethodName) = true := by first | exact plainFor_of_name (by decide +kernel) | decide +kernel
theorem pf1 : plainFor (⟨"java/lang/Math", "max", "(II)I"⟩ : MethodName) = true := by first | exact plainFor_of_name (by decide +kernel) | decide +kernel
theorem mo1 (hw : ∀ d ∈ tables_1, d.before a0 Z = true) : MthOk Z a0 (⟨"java/lang/Math", "max", "(II)I"⟩, jdk_29_method_65_code, 2, (some .int), { frames := 0, cells := 0, slots := 0, locals := 0 }) := ⟨(hw _ (List.mem_of_getElem? (i := 8) rfl)), (hw _ (List.mem_of_getElem? (i := 7) rfl)), pf1, by decide⟩
theorem pf2 : plainFor (⟨"com/example/cardinality/cardinality/Restriction", "<init>", "(Lcom/example/cardinality/cardinality/Restriction$Kind;JIIZ)V"⟩ : MethodName) = true := by first | exact plainFor_of_name (by decide +kernel) | decide +kernel
theorem mo2 (hw : ∀ d ∈ tables_1, d.before a0 Z = true) : MthOk Z a0 (⟨"com/example/cardinality/cardinality/Restriction", "<init>", "(Lcom/example/cardinality/cardinality/Restriction$Kind;JIIZ)V"⟩, prog_13_method_2_code, 7, none, { frames := 1, cells := 0, slots := 0, locals := 12 }) := ⟨(hw _ (List.mem_of_getElem? (i := 14) rfl)), (hw _ (List.mem_of_getElem? (i := 11) rfl)), pf2, by decide⟩
theorem pf3 : plainFor (⟨"com/example/cardinality/cardinality/Restriction", "equals", "(Ljava/lang/Object;)Z"⟩ : MethodName) = true := by first | exact plainFor_of_name (by decide +kernel) | decide +kernel
theorem mo3 (hw : ∀ d ∈ tables_1, d.before a0 Z = true) : MthOk Z a0 (⟨"com/example/cardinality/cardinality/Restriction", "equals", "(Ljava/lang/Object;)Z"⟩, prog_13_method_10_code, 3, (some .boolean), { frames := 0, cells := 0, slots := 0, locals := 0 }) := ⟨(hw _ (List.mem_of_getElem? (i := 32) rfl)), (hw _ (List.mem_of_getElem? (i := 11) rfl)), pf3, by decide⟩
theorem pf4 : plainFor (⟨"java/lang/Long", "valueOf", "(J)Ljava/lang/Long;"⟩ : MethodName) = true := by first | exact plainFor_of_name (by decide +kernel) | decide +kernel
theorem mo4 (hw : ∀ d ∈ tables_1, d.before a0 Z = true) : MthOk Z a0 (⟨"java/lang/Long", "valueOf", "(J)Ljava/lang/Long;"⟩, jdk_35_method_24_code, 3, (some (.object "java/lang/Long")), { frames := 3, cells := 1, slots := 1, locals := 39 }) := ⟨(hw _ (List.mem_of_getElem? (i := 38) rfl)), (hw _ (List.mem_of_getElem? (i := 37) rfl)), pf4, by decide⟩
theorem pf5 : plainFor (⟨"java/lang/Long", "<init>", "(J)V"⟩ : MethodName) = true := by first | exact plainFor_of_name (by decide +kernel) | decide +kernel
theorem mo5 (hw : ∀ d ∈ tables_1, d.before a0 Z = true) : MthOk Z a0 (⟨"java/lang/Long", "<init>", "(J)V"⟩, jdk_35_method_26_code, 3, none, { frames := 2, cells := 0, slots := 0, locals := 24 }) := ⟨(hw _ (List.mem_of_getElem? (i := 53) rfl)), (hw _ (List.mem_of_getElem? (i := 37) rfl)), pf5, by decide⟩
theorem pf6 : plainFor (⟨"java/lang/Number", "<init>", "()V"⟩ : MethodName) = true := by first | exact plainFor_of_name (by decide +kernel) | decide +kernel
theorem mo6 (hw : ∀ d ∈ tables_1, d.before a0 Z = true) : MthOk Z a0 (⟨"java/lang/Number", "<init>", "()V"⟩, jdk_18_method_1_code, 1, none, { frames := 1, cells := 0, slots := 0, locals := 12 }) := ⟨(hw _ (List.mem_of_getElem? (i := 59) rfl)), (hw _ (List.mem_of_getElem? (i := 58) rfl)), pf6, by decide⟩
theorem ok_fl (hw : ∀ d ∈ tables_1, d.before a0 Z = true) : ∀ q ∈ Pg.fl, FlOk Pg Z a0 q :=
  am_cons (⟨("com/example/cardinality/cardinality/Restriction", "kind", "Lcom/example/cardinality/cardinality/Restriction$Kind;", (.object "com/example/cardinality/cardinality/Restriction$Kind")), rfl, "com/example/cardinality/cardinality/Restriction", (hw _ (List.mem_of_getElem? (i := 18) rfl)), Via.refl⟩) (am_cons (⟨("com/example/cardinality/cardinality/Restriction", "number", "J", .long), rfl, "com/example/cardinality/cardinality/Restriction", (hw _ (List.mem_of_getElem? (i := 20) rfl)), Via.refl⟩) (am_cons (⟨("com/example/cardinality/cardinality/Restriction", "role", "I", .int), rfl, "com/example/cardinality/cardinality/Restriction", (hw _ (List.mem_of_getElem? (i := 22) rfl)), Via.refl⟩) (am_cons (⟨("com/example/cardinality/cardinality/Restriction", "filler", "I", .int), rfl, "com/example/cardinality/cardinality/Restriction", (hw _ (List.mem_of_getElem? (i := 24) rfl)), Via.refl⟩) (am_cons (⟨("com/example/cardinality/cardinality/Restriction", "outside", "Z", .boolean), rfl, "com/example/cardinality/cardinality/Restriction", (hw _ (List.mem_of_getElem? (i := 26) rfl)), Via.refl⟩) (am_nil)))))
theorem ok_fw (hw : ∀ d ∈ tables_1, d.before a0 Z = true) : ∀ q ∈ Pg.fw, FwOk Pg Z a0 q :=
  am_cons (⟨("com/example/cardinality/cardinality/Restriction", 5, [("com/example/cardinality/cardinality/Restriction", "kind", "Lcom/example/cardinality/cardinality/Restriction$Kind;", (.object "com/example/cardinality/cardinality/Restriction$Kind")), ("com/example/cardinality/cardinality/Restriction", "number", "J", .long), ("com/example/cardinality/cardinality/Restriction", "role", "I", .int), ("com/example/cardinality/cardinality/Restriction", "filler", "I", .int), ("com/example/cardinality/cardinality/Restriction", "outside", "Z", .boolean)]), rfl, cl1 hw, ("com/example/cardinality/cardinality/Restriction", "kind", "Lcom/example/cardinality/cardinality/Restriction$Kind;", (.object "com/example/cardinality/cardinality/Restriction$Kind")), rfl, ⟨"com/example/cardinality/cardinality/Restriction", (hw _ (List.mem_of_getElem? (i := 18) rfl)), Via.refl⟩, (Or.inr ⟨(hw _ (List.mem_of_getElem? (i := 19) rfl)), rfl, rfl⟩)⟩) (am_cons (⟨("com/example/cardinality/cardinality/Restriction", 5, [("com/example/cardinality/cardinality/Restriction", "kind", "Lcom/example/cardinality/cardinality/Restriction$Kind;", (.object "com/example/cardinality/cardinality/Restriction$Kind")), ("com/example/cardinality/cardinality/Restriction", "number", "J", .long), ("com/example/cardinality/cardinality/Restriction", "role", "I", .int), ("com/example/cardinality/cardinality/Restriction", "filler", "I", .int), ("com/example/cardinality/cardinality/Restriction", "outside", "Z", .boolean)]), rfl, cl1 hw, ("com/example/cardinality/cardinality/Restriction", "number", "J", .long), rfl, ⟨"com/example/cardinality/cardinality/Restriction", (hw _ (List.mem_of_getElem? (i := 20) rfl)), Via.refl⟩, (Or.inr ⟨(hw _ (List.mem_of_getElem? (i := 21) rfl)), rfl, rfl⟩)⟩) (am_cons (⟨("com/example/cardinality/cardinality/Restriction", 5, [("com/example/cardinality/cardinality/Restriction", "kind", "Lcom/example/cardinality/cardinality/Restriction$Kind;", (.object "com/example/cardinality/cardinality/Restriction$Kind")), ("com/example/cardinality/cardinality/Restriction", "number", "J", .long), ("com/example/cardinality/cardinality/Restriction", "role", "I", .int), ("com/example/cardinality/cardinality/Restriction", "filler", "I", .int), ("com/example/cardinality/cardinality/Restriction", "outside", "Z", .boolean)]), rfl, cl1 hw, ("com/example/cardinality/cardinality/Restriction", "role", "I", .int), rfl, ⟨"com/example/cardinality/cardinality/Restriction", (hw _ (List.mem_of_getElem? (i := 22) rfl)), Via.refl⟩, (Or.inr ⟨(hw _ (List.mem_of_getElem? (i := 23) rfl)), rfl, rfl⟩)⟩) (am_cons (⟨("com/example/cardinality/cardinality/Restriction", 5, [("com/example/cardinality/cardinality/Restriction", "kind", "Lcom/example/cardinality/cardinality/Restriction$Kind;", (.object "com/example/cardinality/cardinality/Restriction$Kind")), ("com/example/cardinality/cardinality/Restriction", "number", "J", .long), ("com/example/cardinality/cardinality/Restriction", "role", "I", .int), ("com/example/cardinality/cardinality/Restriction", "filler", "I", .int), ("com/example/cardinality/cardinality/Restriction", "outside", "Z", .boolean)]), rfl, cl1 hw, ("com/example/cardinality/cardinality/Restriction", "filler", "I", .int), rfl, ⟨"com/example/cardinality/cardinality/Restriction", (hw _ (List.mem_of_getElem? (i := 24) rfl)), Via.refl⟩, (Or.inr ⟨(hw _ (List.mem_of_getElem? (i := 25) rfl)), rfl, rfl⟩)⟩) (am_cons (⟨("com/example/cardinality/cardinality/Restriction", 5, [("com/example/cardinality/cardinality/Restriction", "kind", "Lcom/example/cardinality/cardinality/Restriction$Kind;", (.object "com/example/cardinality/cardinality/Restriction$Kind")), ("com/example/cardinality/cardinality/Restriction", "number", "J", .long), ("com/example/cardinality/cardinality/Restriction", "role", "I", .int), ("com/example/cardinality/cardinality/Restriction", "filler", "I", .int), ("com/example/cardinality/cardinality/Restriction", "outside", "Z", .boolean)]), rfl, cl1 hw, ("com/example/cardinality/cardinality/Restriction", "outside", "Z", .boolean), rfl, ⟨"com/example/cardinality/cardinality/Restriction", (hw _ (List.mem_of_getElem? (i := 26) rfl)), Via.refl⟩, (Or.inr ⟨(hw _ (List.mem_of_getElem? (i := 27) rfl)), rfl, rfl⟩)⟩) (am_cons (⟨("java/lang/Long", 1, [("java/lang/Long", "value", "J", .long)]), rfl, cl2 hw, ("java/lang/Long", "value", "J", .long), rfl, ⟨"java/lang/Long", (hw _ (List.mem_of_getElem? (i := 61) rfl)), Via.refl⟩, (Or.inr ⟨(hw _ (List.mem_of_getElem? (i := 62) rfl)), rfl, rfl⟩)⟩) (am_nil))))))
theorem ok_sf (hw : ∀ d ∈ tables_1, d.before a0 Z = true) : ∀ q ∈ Pg.sf, SfOk Pg Z a0 q :=
  am_cons (⟨("com/example/cardinality/cardinality/Restriction$Kind", "AT_LEAST", "Lcom/example/cardinality/cardinality/Restriction$Kind;", .ref 257), rfl, "com/example/cardinality/cardinality/Restriction$Kind", (hw _ (List.mem_of_getElem? (i := 0) rfl)), Via.refl⟩) (am_cons (⟨("com/example/cardinality/cardinality/Restriction$Kind", "AT_MOST", "Lcom/example/cardinality/cardinality/Restriction$Kind;", .ref 258), rfl, "com/example/cardinality/cardinality/Restriction$Kind", (hw _ (List.mem_of_getElem? (i := 46) rfl)), Via.refl⟩) (am_cons (⟨("java/lang/Long$LongCache", "cache", "[Ljava/lang/Long;", .ref 256), rfl, "java/lang/Long$LongCache", (hw _ (List.mem_of_getElem? (i := 41) rfl)), Via.refl⟩) (am_nil)))
theorem ok_nw (hw : ∀ d ∈ tables_1, d.before a0 Z = true) : ∀ q ∈ Pg.nw, NwOk Pg Z a0 q :=
  am_cons (⟨("com/example/cardinality/cardinality/Restriction", 5, [("com/example/cardinality/cardinality/Restriction", "kind", "Lcom/example/cardinality/cardinality/Restriction$Kind;", (.object "com/example/cardinality/cardinality/Restriction$Kind")), ("com/example/cardinality/cardinality/Restriction", "number", "J", .long), ("com/example/cardinality/cardinality/Restriction", "role", "I", .int), ("com/example/cardinality/cardinality/Restriction", "filler", "I", .int), ("com/example/cardinality/cardinality/Restriction", "outside", "Z", .boolean)]), rfl, cl1 hw, (hw _ (List.mem_of_getElem? (i := 9) rfl)), (hw _ (List.mem_of_getElem? (i := 11) rfl))⟩) (am_cons (⟨("java/lang/Long", 1, [("java/lang/Long", "value", "J", .long)]), rfl, cl2 hw, (hw _ (List.mem_of_getElem? (i := 48) rfl)), (hw _ (List.mem_of_getElem? (i := 37) rfl))⟩) (am_nil))
theorem ok_na (hw : ∀ d ∈ tables_1, d.before a0 Z = true) : ∀ q ∈ Pg.na, NaOk Pg Z a0 q :=
  am_nil
theorem ok_ca {ρ : Nat → Addr} (hw : ∀ d ∈ tables_1, d.before a0 Z = true) : ∀ q ∈ Pg.ca, CaOk Pg Z a0 ρ q :=
  am_cons (⟨"com/example/cardinality/cardinality/Restriction", (hw _ (List.mem_of_getElem? (i := 33) rfl)), fun h i vs Q => Ins.self (Q (by decide)).1, fun q => by cases q⟩) (am_cons (⟨"com/example/cardinality/cardinality/Restriction", (hw _ (List.mem_of_getElem? (i := 33) rfl)), fun h i vs Q => ins_no (Q (by decide)).1 (ns_no (hw _ (List.mem_of_getElem? (i := 43) rfl)) (hw _ (List.mem_of_getElem? (i := 10) rfl)) (NS.step (hw _ (List.mem_of_getElem? (i := 43) rfl)) (NS.step (hw _ (List.mem_of_getElem? (i := 44) rfl)) (ns_root (hw _ (List.mem_of_getElem? (i := 45) rfl)) (hw _ (List.mem_of_getElem? (i := 10) rfl)) (by decide)) (by decide)) (by decide)) (by decide)), fun _ => ⟨2, rfl, by decide⟩⟩) (am_nil))
theorem ok_ki (hw : ∀ d ∈ tables_1, d.before a0 Z = true) : ∀ q ∈ Pg.ki, KiOk Pg Z a0 q :=
  am_cons ((hw _ (List.mem_of_getElem? (i := 4) rfl))) (am_nil)
theorem ok_kl (hw : ∀ d ∈ tables_1, d.before a0 Z = true) : ∀ q ∈ Pg.kl, KlOk Pg Z a0 q :=
  am_cons ((hw _ (List.mem_of_getElem? (i := 3) rfl))) (am_cons ((hw _ (List.mem_of_getElem? (i := 39) rfl))) (am_cons ((hw _ (List.mem_of_getElem? (i := 40) rfl))) (am_nil)))
theorem ok_ic (hw : ∀ d ∈ tables_1, d.before a0 Z = true) : ∀ q ∈ Pg.ic, IcOk Pg Z a0 q :=
  am_cons (⟨(hw _ (List.mem_of_getElem? (i := 5) rfl)), (hw _ (List.mem_of_getElem? (i := 6) rfl)), mo1 hw, (show Arity "(II)I" 2 from Arity.of (by decide +kernel))⟩) (am_cons (⟨rfl, (hw _ (List.mem_of_getElem? (i := 12) rfl)), (hw _ (List.mem_of_getElem? (i := 13) rfl)), mo2 hw, rfl, (show Arity "(Lcom/example/cardinality/cardinality/Restriction$Kind;JIIZ)V" 5 from Arity.of (by decide +kernel))⟩) (am_cons (trivial) (am_cons (⟨(hw _ (List.mem_of_getElem? (i := 35) rfl)), (hw _ (List.mem_of_getElem? (i := 36) rfl)), mo4 hw, (show Arity "(J)Ljava/lang/Long;" 1 from Arity.of (by decide +kernel))⟩) (am_cons (⟨(hw _ (List.mem_of_getElem? (i := 15) rfl)), (hw _ (List.mem_of_getElem? (i := 16) rfl)), (hw _ (List.mem_of_getElem? (i := 17) rfl))⟩) (am_cons (⟨rfl, (hw _ (List.mem_of_getElem? (i := 50) rfl)), (hw _ (List.mem_of_getElem? (i := 51) rfl)), mo5 hw, rfl, (show Arity "(J)V" 1 from Arity.of (by decide +kernel))⟩) (am_cons (⟨rfl, (hw _ (List.mem_of_getElem? (i := 54) rfl)), (hw _ (List.mem_of_getElem? (i := 55) rfl)), mo6 hw, rfl, (show Arity "()V" 0 from Arity.of (by decide +kernel))⟩) (am_cons (⟨(hw _ (List.mem_of_getElem? (i := 60) rfl)), (hw _ (List.mem_of_getElem? (i := 16) rfl)), (hw _ (List.mem_of_getElem? (i := 17) rfl))⟩) (am_nil))))))))
theorem ok_vc (hw : ∀ d ∈ tables_1, d.before a0 Z = true) : ∀ q ∈ Pg.vc, VcOk Pg Z a0 q :=
  am_cons (⟨⟨"com/example/cardinality/cardinality/Restriction", "equals", "(Ljava/lang/Object;)Z"⟩, (hw _ (List.mem_of_getElem? (i := 28) rfl)), (hw _ (List.mem_of_getElem? (i := 29) rfl)), Or.inl ⟨_, (hw _ (List.mem_of_getElem? (i := 31) rfl))⟩, (hw _ (List.mem_of_getElem? (i := 31) rfl)), (hw _ (List.mem_of_getElem? (i := 30) rfl)), mo3 hw, by decide, (show Arity "(Ljava/lang/Object;)Z" 1 from Arity.of (by decide +kernel)), by decide⟩) (am_nil)
theorem ok_ats (hw : ∀ d ∈ tables_1, d.before a0 Z = true) : ∀ ty ∈ Pg.ats, Wd Z a0 (.arrayClass ty) :=
  am_nil
theorem okP {ρ : Nat → Addr} (hw : ∀ d ∈ tables_1, d.before a0 Z = true) : PrgOk Pg Z a0 ρ := ⟨ok_fl hw, ok_fw hw, ok_sf hw, ok_nw hw, ok_na hw, ok_ats hw, ok_ca (ρ := ρ) hw, ok_ki hw, ok_kl hw, ok_ic hw, ok_vc hw⟩
end Words
theorem j0_eq : Pg.j0 = 259 := rfl
theorem d0_0 : decode (Pg.mt 0).code 0 = .ok (.lload 7, 2) := by decide +kernel
theorem w0_0 {L : List Slot} {S : List Value} {H : Hp} {k : Nat} {n : Nat} {Q : MRes → Prop} {l0 l1 l2 l3 l4 l5 l6 : Slot} {x : Int64} : Wp Pg 0 (0, l0 :: l1 :: l2 :: l3 :: l4 :: l5 :: l6 :: .val (.long x) :: L, S, H, k, n) Q ↔ Wp Pg 0 (2, l0 :: l1 :: l2 :: l3 :: l4 :: l5 :: l6 :: .val (.long x) :: L, (.long x) :: S, H, k, n) Q := gP d0_0 rfl rfl
theorem d0_2 : decode (Pg.mt 0).code 2 = .ok (.bipush 32, 2) := by decide +kernel
theorem w0_2 {L : List Slot} {S : List Value} {H : Hp} {k : Nat} {n : Nat} {Q : MRes → Prop} : Wp Pg 0 (2, L, S, H, k, n) Q ↔ Wp Pg 0 (4, L, (.int 32) :: S, H, k, n) Q := gP d0_2 rfl rfl
theorem d0_4 : decode (Pg.mt 0).code 4 = .ok (.lushr, 1) := by decide +kernel
theorem w0_4 {L : List Slot} {S : List Value} {H : Hp} {k : Nat} {n : Nat} {Q : MRes → Prop} {x : Int64} {y : Int32} : Wp Pg 0 (4, L, (.int y) :: (.long x) :: S, H, k, n) Q ↔ Wp Pg 0 (5, L, (.long (XT.ushrL x y)) :: S, H, k, n) Q := gP d0_4 rfl rfl
theorem d0_5 : decode (Pg.mt 0).code 5 = .ok (.l2i, 1) := by decide +kernel
theorem w0_5 {L : List Slot} {S : List Value} {H : Hp} {k : Nat} {n : Nat} {Q : MRes → Prop} {x : Int64} : Wp Pg 0 (5, L, (.long x) :: S, H, k, n) Q ↔ Wp Pg 0 (6, L, (.int x.toInt32) :: S, H, k, n) Q := gP d0_5 rfl rfl
theorem d0_6 : decode (Pg.mt 0).code 6 = .ok (.istore 9, 2) := by decide +kernel
theorem w0_6 {L : List Slot} {S : List Value} {H : Hp} {k : Nat} {n : Nat} {Q : MRes → Prop} {l0 l1 l2 l3 l4 l5 l6 l7 l8 : Slot} {o : Slot} {x : Int32} (ho : s1 o = true) : Wp Pg 0 (6, l0 :: l1 :: l2 :: l3 :: l4 :: l5 :: l6 :: l7 :: l8 :: o :: L, (.int x) :: S, H, k, n) Q ↔ Wp Pg 0 (8, l0 :: l1 :: l2 :: l3 :: l4 :: l5 :: l6 :: l7 :: l8 :: .val (.int x) :: L, S, H, k, n) Q := gP d0_6 rfl (st1_eq (o := o) rfl ho rfl)
theorem d0_8 : decode (Pg.mt 0).code 8 = .ok (.lload 7, 2) := by decide +kernel
theorem w0_8 {L : List Slot} {S : List Value} {H : Hp} {k : Nat} {n : Nat} {Q : MRes → Prop} {l0 l1 l2 l3 l4 l5 l6 : Slot} {x : Int64} : Wp Pg 0 (8, l0 :: l1 :: l2 :: l3 :: l4 :: l5 :: l6 :: .val (.long x) :: L, S, H, k, n) Q ↔ Wp Pg 0 (10, l0 :: l1 :: l2 :: l3 :: l4 :: l5 :: l6 :: .val (.long x) :: L, (.long x) :: S, H, k, n) Q := gP d0_8 rfl rfl
theorem d0_10 : decode (Pg.mt 0).code 10 = .ok (.l2i, 1) := by decide +kernel
theorem w0_10 {L : List Slot} {S : List Value} {H : Hp} {k : Nat} {n : Nat} {Q : MRes → Prop} {x : Int64} : Wp Pg 0 (10, L, (.long x) :: S, H, k, n) Q ↔ Wp Pg 0 (11, L, (.int x.toInt32) :: S, H, k, n) Q := gP d0_10 rfl rfl
theorem d0_11 : decode (Pg.mt 0).code 11 = .ok (.istore 10, 2) := by decide +kernel
theorem w0_11 {L : List Slot} {S : List Value} {H : Hp} {k : Nat} {n : Nat} {Q : MRes → Prop} {l0 l1 l2 l3 l4 l5 l6 l7 l8 l9 : Slot} {o : Slot} {x : Int32} (ho : s1 o = true) : Wp Pg 0 (11, l0 :: l1 :: l2 :: l3 :: l4 :: l5 :: l6 :: l7 :: l8 :: l9 :: o :: L, (.int x) :: S, H, k, n) Q ↔ Wp Pg 0 (13, l0 :: l1 :: l2 :: l3 :: l4 :: l5 :: l6 :: l7 :: l8 :: l9 :: .val (.int x) :: L, S, H, k, n) Q := gP d0_11 rfl (st1_eq (o := o) rfl ho rfl)
theorem d0_13 : decode (Pg.mt 0).code 13 = .ok (.iload 9, 2) := by decide +kernel
theorem w0_13 {L : List Slot} {S : List Value} {H : Hp} {k : Nat} {n : Nat} {Q : MRes → Prop} {l0 l1 l2 l3 l4 l5 l6 l7 l8 : Slot} {x : Int32} : Wp Pg 0 (13, l0 :: l1 :: l2 :: l3 :: l4 :: l5 :: l6 :: l7 :: l8 :: .val (.int x) :: L, S, H, k, n) Q ↔ Wp Pg 0 (15, l0 :: l1 :: l2 :: l3 :: l4 :: l5 :: l6 :: l7 :: l8 :: .val (.int x) :: L, (.int x) :: S, H, k, n) Q := gP d0_13 rfl rfl
theorem d0_15 : decode (Pg.mt 0).code 15 = .ok (.iconst 1, 1) := by decide +kernel
theorem w0_15 {L : List Slot} {S : List Value} {H : Hp} {k : Nat} {n : Nat} {Q : MRes → Prop} : Wp Pg 0 (15, L, S, H, k, n) Q ↔ Wp Pg 0 (16, L, (.int 1) :: S, H, k, n) Q := gP d0_15 rfl rfl
theorem d0_16 : decode (Pg.mt 0).code 16 = .ok (.iand, 1) := by decide +kernel
theorem w0_16 {L : List Slot} {S : List Value} {H : Hp} {k : Nat} {n : Nat} {Q : MRes → Prop} {x y : Int32} : Wp Pg 0 (16, L, (.int y) :: (.int x) :: S, H, k, n) Q ↔ Wp Pg 0 (17, L, (.int (x &&& y)) :: S, H, k, n) Q := gP d0_16 rfl rfl
theorem d0_17 : decode (Pg.mt 0).code 17 = .ok (.ifCond .eq 9, 3) := by decide +kernel
theorem w0_17 {L : List Slot} {S : List Value} {H : Hp} {k : Nat} {n : Nat} {Q : MRes → Prop} {x : Int32} : Wp Pg 0 (17, L, (.int x) :: S, H, k, n) Q ↔ if x = 0 then Wp Pg 0 (26, L, S, H, k, n) Q else Wp Pg 0 (20, L, S, H, k, n) Q := gIf d0_17 (by decide) (by decide) (c_eq x)
theorem d0_20 : decode (Pg.mt 0).code 20 = .ok (.getstatic 7, 3) := by decide +kernel
theorem w0_20 {L : List Slot} {S : List Value} {H : Hp} {k : Nat} {n : Nat} {Q : MRes → Prop} : Wp Pg 0 (20, L, S, H, k, n) Q ↔ Wp Pg 0 (23, L, (.ref 258) :: S, H, k, n) Q := gH d0_20 rfl rfl
theorem d0_23 : decode (Pg.mt 0).code 23 = .ok (.goto 6, 3) := by decide +kernel
theorem w0_23 {L : List Slot} {S : List Value} {H : Hp} {k : Nat} {n : Nat} {Q : MRes → Prop} : Wp Pg 0 (23, L, S, H, k, n) Q ↔ Wp Pg 0 (29, L, S, H, k, n) Q := gGoto d0_23 (by decide) (by decide)
theorem d0_26 : decode (Pg.mt 0).code 26 = .ok (.getstatic 13, 3) := by decide +kernel
theorem w0_26 {L : List Slot} {S : List Value} {H : Hp} {k : Nat} {n : Nat} {Q : MRes → Prop} : Wp Pg 0 (26, L, S, H, k, n) Q ↔ Wp Pg 0 (29, L, (.ref 257) :: S, H, k, n) Q := gH d0_26 rfl rfl
theorem d0_29 : decode (Pg.mt 0).code 29 = .ok (.astore 11, 2) := by decide +kernel
theorem w0_29 {L : List Slot} {S : List Value} {H : Hp} {k : Nat} {n : Nat} {Q : MRes → Prop} {l0 l1 l2 l3 l4 l5 l6 l7 l8 l9 l10 : Slot} {o : Slot} {v : Value} (ho : s1 o = true) (hv : isA v = true) : Wp Pg 0 (29, l0 :: l1 :: l2 :: l3 :: l4 :: l5 :: l6 :: l7 :: l8 :: l9 :: l10 :: o :: L, v :: S, H, k, n) Q ↔ Wp Pg 0 (31, l0 :: l1 :: l2 :: l3 :: l4 :: l5 :: l6 :: l7 :: l8 :: l9 :: l10 :: .val v :: L, S, H, k, n) Q := gP d0_29 rfl (st1_eq (o := o) rfl ho hv)
theorem d0_31 : decode (Pg.mt 0).code 31 = .ok (.iload 9, 2) := by decide +kernel
theorem w0_31 {L : List Slot} {S : List Value} {H : Hp} {k : Nat} {n : Nat} {Q : MRes → Prop} {l0 l1 l2 l3 l4 l5 l6 l7 l8 : Slot} {x : Int32} : Wp Pg 0 (31, l0 :: l1 :: l2 :: l3 :: l4 :: l5 :: l6 :: l7 :: l8 :: .val (.int x) :: L, S, H, k, n) Q ↔ Wp Pg 0 (33, l0 :: l1 :: l2 :: l3 :: l4 :: l5 :: l6 :: l7 :: l8 :: .val (.int x) :: L, (.int x) :: S, H, k, n) Q := gP d0_31 rfl rfl
theorem d0_33 : decode (Pg.mt 0).code 33 = .ok (.iconst 2, 1) := by decide +kernel
theorem w0_33 {L : List Slot} {S : List Value} {H : Hp} {k : Nat} {n : Nat} {Q : MRes → Prop} : Wp Pg 0 (33, L, S, H, k, n) Q ↔ Wp Pg 0 (34, L, (.int 2) :: S, H, k, n) Q := gP d0_33 rfl rfl
theorem d0_34 : decode (Pg.mt 0).code 34 = .ok (.iand, 1) := by decide +kernel
theorem w0_34 {L : List Slot} {S : List Value} {H : Hp} {k : Nat} {n : Nat} {Q : MRes → Prop} {x y : Int32} : Wp Pg 0 (34, L, (.int y) :: (.int x) :: S, H, k, n) Q ↔ Wp Pg 0 (35, L, (.int (x &&& y)) :: S, H, k, n) Q := gP d0_34 rfl rfl
theorem d0_35 : decode (Pg.mt 0).code 35 = .ok (.ifCond .eq 9, 3) := by decide +kernel
theorem w0_35 {L : List Slot} {S : List Value} {H : Hp} {k : Nat} {n : Nat} {Q : MRes → Prop} {x : Int32} : Wp Pg 0 (35, L, (.int x) :: S, H, k, n) Q ↔ if x = 0 then Wp Pg 0 (44, L, S, H, k, n) Q else Wp Pg 0 (38, L, S, H, k, n) Q := gIf d0_35 (by decide) (by decide) (c_eq x)
theorem d0_38 : decode (Pg.mt 0).code 38 = .ok (.getstatic 7, 3) := by decide +kernel
theorem w0_38 {L : List Slot} {S : List Value} {H : Hp} {k : Nat} {n : Nat} {Q : MRes → Prop} : Wp Pg 0 (38, L, S, H, k, n) Q ↔ Wp Pg 0 (41, L, (.ref 258) :: S, H, k, n) Q := gH d0_38 rfl rfl
theorem d0_41 : decode (Pg.mt 0).code 41 = .ok (.goto 6, 3) := by decide +kernel
theorem w0_41 {L : List Slot} {S : List Value} {H : Hp} {k : Nat} {n : Nat} {Q : MRes → Prop} : Wp Pg 0 (41, L, S, H, k, n) Q ↔ Wp Pg 0 (47, L, S, H, k, n) Q := gGoto d0_41 (by decide) (by decide)
theorem d0_44 : decode (Pg.mt 0).code 44 = .ok (.getstatic 13, 3) := by decide +kernel
theorem w0_44 {L : List Slot} {S : List Value} {H : Hp} {k : Nat} {n : Nat} {Q : MRes → Prop} : Wp Pg 0 (44, L, S, H, k, n) Q ↔ Wp Pg 0 (47, L, (.ref 257) :: S, H, k, n) Q := gH d0_44 rfl rfl
theorem d0_47 : decode (Pg.mt 0).code 47 = .ok (.astore 12, 2) := by decide +kernel
theorem w0_47 {L : List Slot} {S : List Value} {H : Hp} {k : Nat} {n : Nat} {Q : MRes → Prop} {l0 l1 l2 l3 l4 l5 l6 l7 l8 l9 l10 l11 : Slot} {o : Slot} {v : Value} (ho : s1 o = true) (hv : isA v = true) : Wp Pg 0 (47, l0 :: l1 :: l2 :: l3 :: l4 :: l5 :: l6 :: l7 :: l8 :: l9 :: l10 :: l11 :: o :: L, v :: S, H, k, n) Q ↔ Wp Pg 0 (49, l0 :: l1 :: l2 :: l3 :: l4 :: l5 :: l6 :: l7 :: l8 :: l9 :: l10 :: l11 :: .val v :: L, S, H, k, n) Q := gP d0_47 rfl (st1_eq (o := o) rfl ho hv)
theorem d0_49 : decode (Pg.mt 0).code 49 = .ok (.lload_n 0, 1) := by decide +kernel
theorem w0_49 {L : List Slot} {S : List Value} {H : Hp} {k : Nat} {n : Nat} {Q : MRes → Prop}  {x : Int64} : Wp Pg 0 (49, .val (.long x) :: L, S, H, k, n) Q ↔ Wp Pg 0 (50, .val (.long x) :: L, (.long x) :: S, H, k, n) Q := gP d0_49 rfl rfl
theorem d0_50 : decode (Pg.mt 0).code 50 = .ok (.ldc2_w 18, 3) := by decide +kernel
theorem w0_50 {L : List Slot} {S : List Value} {H : Hp} {k : Nat} {n : Nat} {Q : MRes → Prop} : Wp Pg 0 (50, L, S, H, k, n) Q ↔ Wp Pg 0 (53, L, (.long 9223372036854775807) :: S, H, k, n) Q := gH d0_50 rfl rfl
theorem d0_53 : decode (Pg.mt 0).code 53 = .ok (.land, 1) := by decide +kernel
theorem w0_53 {L : List Slot} {S : List Value} {H : Hp} {k : Nat} {n : Nat} {Q : MRes → Prop} {x y : Int64} : Wp Pg 0 (53, L, (.long y) :: (.long x) :: S, H, k, n) Q ↔ Wp Pg 0 (54, L, (.long (x &&& y)) :: S, H, k, n) Q := gP d0_53 rfl rfl
theorem d0_54 : decode (Pg.mt 0).code 54 = .ok (.lstore 13, 2) := by decide +kernel
theorem w0_54 {L : List Slot} {S : List Value} {H : Hp} {k : Nat} {n : Nat} {Q : MRes → Prop} {l0 l1 l2 l3 l4 l5 l6 l7 l8 l9 l10 l11 l12 : Slot} {o o' : Slot} {x : Int64} (ho : s2 o = true) (ho' : s3 o' = true) : Wp Pg 0 (54, l0 :: l1 :: l2 :: l3 :: l4 :: l5 :: l6 :: l7 :: l8 :: l9 :: l10 :: l11 :: l12 :: o :: o' :: L, (.long x) :: S, H, k, n) Q ↔ Wp Pg 0 (56, l0 :: l1 :: l2 :: l3 :: l4 :: l5 :: l6 :: l7 :: l8 :: l9 :: l10 :: l11 :: l12 :: .val (.long x) :: .second :: L, S, H, k, n) Q := gP d0_54 rfl (st2_eq (o := o) (o' := o') rfl rfl ho ho' rfl)
theorem d0_56 : decode (Pg.mt 0).code 56 = .ok (.iload 9, 2) := by decide +kernel
theorem w0_56 {L : List Slot} {S : List Value} {H : Hp} {k : Nat} {n : Nat} {Q : MRes → Prop} {l0 l1 l2 l3 l4 l5 l6 l7 l8 : Slot} {x : Int32} : Wp Pg 0 (56, l0 :: l1 :: l2 :: l3 :: l4 :: l5 :: l6 :: l7 :: l8 :: .val (.int x) :: L, S, H, k, n) Q ↔ Wp Pg 0 (58, l0 :: l1 :: l2 :: l3 :: l4 :: l5 :: l6 :: l7 :: l8 :: .val (.int x) :: L, (.int x) :: S, H, k, n) Q := gP d0_56 rfl rfl
theorem d0_58 : decode (Pg.mt 0).code 58 = .ok (.bipush 16, 2) := by decide +kernel
theorem w0_58 {L : List Slot} {S : List Value} {H : Hp} {k : Nat} {n : Nat} {Q : MRes → Prop} : Wp Pg 0 (58, L, S, H, k, n) Q ↔ Wp Pg 0 (60, L, (.int 16) :: S, H, k, n) Q := gP d0_58 rfl rfl
theorem d0_60 : decode (Pg.mt 0).code 60 = .ok (.iand, 1) := by decide +kernel
theorem w0_60 {L : List Slot} {S : List Value} {H : Hp} {k : Nat} {n : Nat} {Q : MRes → Prop} {x y : Int32} : Wp Pg 0 (60, L, (.int y) :: (.int x) :: S, H, k, n) Q ↔ Wp Pg 0 (61, L, (.int (x &&& y)) :: S, H, k, n) Q := gP d0_60 rfl rfl
theorem d0_61 : decode (Pg.mt 0).code 61 = .ok (.ifCond .eq 8, 3) := by decide +kernel
theorem w0_61 {L : List Slot} {S : List Value} {H : Hp} {k : Nat} {n : Nat} {Q : MRes → Prop} {x : Int32} : Wp Pg 0 (61, L, (.int x) :: S, H, k, n) Q ↔ if x = 0 then Wp Pg 0 (69, L, S, H, k, n) Q else Wp Pg 0 (64, L, S, H, k, n) Q := gIf d0_61 (by decide) (by decide) (c_eq x)
theorem d0_64 : decode (Pg.mt 0).code 64 = .ok (.lload 13, 2) := by decide +kernel
theorem w0_64 {L : List Slot} {S : List Value} {H : Hp} {k : Nat} {n : Nat} {Q : MRes → Prop} {l0 l1 l2 l3 l4 l5 l6 l7 l8 l9 l10 l11 l12 : Slot} {x : Int64} : Wp Pg 0 (64, l0 :: l1 :: l2 :: l3 :: l4 :: l5 :: l6 :: l7 :: l8 :: l9 :: l10 :: l11 :: l12 :: .val (.long x) :: L, S, H, k, n) Q ↔ Wp Pg 0 (66, l0 :: l1 :: l2 :: l3 :: l4 :: l5 :: l6 :: l7 :: l8 :: l9 :: l10 :: l11 :: l12 :: .val (.long x) :: L, (.long x) :: S, H, k, n) Q := gP d0_64 rfl rfl
theorem d0_66 : decode (Pg.mt 0).code 66 = .ok (.goto 8, 3) := by decide +kernel
theorem w0_66 {L : List Slot} {S : List Value} {H : Hp} {k : Nat} {n : Nat} {Q : MRes → Prop} : Wp Pg 0 (66, L, S, H, k, n) Q ↔ Wp Pg 0 (74, L, S, H, k, n) Q := gGoto d0_66 (by decide) (by decide)
theorem d0_69 : decode (Pg.mt 0).code 69 = .ok (.lload_n 2, 1) := by decide +kernel
theorem w0_69 {L : List Slot} {S : List Value} {H : Hp} {k : Nat} {n : Nat} {Q : MRes → Prop} {l0 l1 : Slot} {x : Int64} : Wp Pg 0 (69, l0 :: l1 :: .val (.long x) :: L, S, H, k, n) Q ↔ Wp Pg 0 (70, l0 :: l1 :: .val (.long x) :: L, (.long x) :: S, H, k, n) Q := gP d0_69 rfl rfl
theorem d0_70 : decode (Pg.mt 0).code 70 = .ok (.ldc2_w 18, 3) := by decide +kernel
theorem w0_70 {L : List Slot} {S : List Value} {H : Hp} {k : Nat} {n : Nat} {Q : MRes → Prop} : Wp Pg 0 (70, L, S, H, k, n) Q ↔ Wp Pg 0 (73, L, (.long 9223372036854775807) :: S, H, k, n) Q := gH d0_70 rfl rfl
theorem d0_73 : decode (Pg.mt 0).code 73 = .ok (.land, 1) := by decide +kernel
theorem w0_73 {L : List Slot} {S : List Value} {H : Hp} {k : Nat} {n : Nat} {Q : MRes → Prop} {x y : Int64} : Wp Pg 0 (73, L, (.long y) :: (.long x) :: S, H, k, n) Q ↔ Wp Pg 0 (74, L, (.long (x &&& y)) :: S, H, k, n) Q := gP d0_73 rfl rfl
theorem d0_74 : decode (Pg.mt 0).code 74 = .ok (.lstore 15, 2) := by decide +kernel
theorem w0_74 {L : List Slot} {S : List Value} {H : Hp} {k : Nat} {n : Nat} {Q : MRes → Prop} {l0 l1 l2 l3 l4 l5 l6 l7 l8 l9 l10 l11 l12 l13 l14 : Slot} {o o' : Slot} {x : Int64} (ho : s2 o = true) (ho' : s3 o' = true) : Wp Pg 0 (74, l0 :: l1 :: l2 :: l3 :: l4 :: l5 :: l6 :: l7 :: l8 :: l9 :: l10 :: l11 :: l12 :: l13 :: l14 :: o :: o' :: L, (.long x) :: S, H, k, n) Q ↔ Wp Pg 0 (76, l0 :: l1 :: l2 :: l3 :: l4 :: l5 :: l6 :: l7 :: l8 :: l9 :: l10 :: l11 :: l12 :: l13 :: l14 :: .val (.long x) :: .second :: L, S, H, k, n) Q := gP d0_74 rfl (st2_eq (o := o) (o' := o') rfl rfl ho ho' rfl)
theorem d0_76 : decode (Pg.mt 0).code 76 = .ok (.iload 4, 2) := by decide +kernel
theorem w0_76 {L : List Slot} {S : List Value} {H : Hp} {k : Nat} {n : Nat} {Q : MRes → Prop} {l0 l1 l2 l3 : Slot} {x : Int32} : Wp Pg 0 (76, l0 :: l1 :: l2 :: l3 :: .val (.int x) :: L, S, H, k, n) Q ↔ Wp Pg 0 (78, l0 :: l1 :: l2 :: l3 :: .val (.int x) :: L, (.int x) :: S, H, k, n) Q := gP d0_76 rfl rfl
theorem d0_78 : decode (Pg.mt 0).code 78 = .ok (.ldc 20, 2) := by decide +kernel
theorem w0_78 {L : List Slot} {S : List Value} {H : Hp} {k : Nat} {n : Nat} {Q : MRes → Prop} : Wp Pg 0 (78, L, S, H, k, n) Q ↔ Wp Pg 0 (80, L, (.int 2147483647) :: S, H, k, n) Q := gH d0_78 rfl rfl
theorem d0_80 : decode (Pg.mt 0).code 80 = .ok (.iand, 1) := by decide +kernel
theorem w0_80 {L : List Slot} {S : List Value} {H : Hp} {k : Nat} {n : Nat} {Q : MRes → Prop} {x y : Int32} : Wp Pg 0 (80, L, (.int y) :: (.int x) :: S, H, k, n) Q ↔ Wp Pg 0 (81, L, (.int (x &&& y)) :: S, H, k, n) Q := gP d0_80 rfl rfl
theorem d0_81 : decode (Pg.mt 0).code 81 = .ok (.istore 17, 2) := by decide +kernel
theorem w0_81 {L : List Slot} {S : List Value} {H : Hp} {k : Nat} {n : Nat} {Q : MRes → Prop} {l0 l1 l2 l3 l4 l5 l6 l7 l8 l9 l10 l11 l12 l13 l14 l15 l16 : Slot} {o : Slot} {x : Int32} (ho : s1 o = true) : Wp Pg 0 (81, l0 :: l1 :: l2 :: l3 :: l4 :: l5 :: l6 :: l7 :: l8 :: l9 :: l10 :: l11 :: l12 :: l13 :: l14 :: l15 :: l16 :: o :: L, (.int x) :: S, H, k, n) Q ↔ Wp Pg 0 (83, l0 :: l1 :: l2 :: l3 :: l4 :: l5 :: l6 :: l7 :: l8 :: l9 :: l10 :: l11 :: l12 :: l13 :: l14 :: l15 :: l16 :: .val (.int x) :: L, S, H, k, n) Q := gP d0_81 rfl (st1_eq (o := o) rfl ho rfl)
theorem d0_83 : decode (Pg.mt 0).code 83 = .ok (.iload 9, 2) := by decide +kernel
theorem w0_83 {L : List Slot} {S : List Value} {H : Hp} {k : Nat} {n : Nat} {Q : MRes → Prop} {l0 l1 l2 l3 l4 l5 l6 l7 l8 : Slot} {x : Int32} : Wp Pg 0 (83, l0 :: l1 :: l2 :: l3 :: l4 :: l5 :: l6 :: l7 :: l8 :: .val (.int x) :: L, S, H, k, n) Q ↔ Wp Pg 0 (85, l0 :: l1 :: l2 :: l3 :: l4 :: l5 :: l6 :: l7 :: l8 :: .val (.int x) :: L, (.int x) :: S, H, k, n) Q := gP d0_83 rfl rfl
theorem d0_85 : decode (Pg.mt 0).code 85 = .ok (.bipush 32, 2) := by decide +kernel
theorem w0_85 {L : List Slot} {S : List Value} {H : Hp} {k : Nat} {n : Nat} {Q : MRes → Prop} : Wp Pg 0 (85, L, S, H, k, n) Q ↔ Wp Pg 0 (87, L, (.int 32) :: S, H, k, n) Q := gP d0_85 rfl rfl
theorem d0_87 : decode (Pg.mt 0).code 87 = .ok (.iand, 1) := by decide +kernel
theorem w0_87 {L : List Slot} {S : List Value} {H : Hp} {k : Nat} {n : Nat} {Q : MRes → Prop} {x y : Int32} : Wp Pg 0 (87, L, (.int y) :: (.int x) :: S, H, k, n) Q ↔ Wp Pg 0 (88, L, (.int (x &&& y)) :: S, H, k, n) Q := gP d0_87 rfl rfl
theorem d0_88 : decode (Pg.mt 0).code 88 = .ok (.ifCond .eq 8, 3) := by decide +kernel
theorem w0_88 {L : List Slot} {S : List Value} {H : Hp} {k : Nat} {n : Nat} {Q : MRes → Prop} {x : Int32} : Wp Pg 0 (88, L, (.int x) :: S, H, k, n) Q ↔ if x = 0 then Wp Pg 0 (96, L, S, H, k, n) Q else Wp Pg 0 (91, L, S, H, k, n) Q := gIf d0_88 (by decide) (by decide) (c_eq x)
theorem d0_91 : decode (Pg.mt 0).code 91 = .ok (.iload 17, 2) := by decide +kernel
theorem w0_91 {L : List Slot} {S : List Value} {H : Hp} {k : Nat} {n : Nat} {Q : MRes → Prop} {l0 l1 l2 l3 l4 l5 l6 l7 l8 l9 l10 l11 l12 l13 l14 l15 l16 : Slot} {x : Int32} : Wp Pg 0 (91, l0 :: l1 :: l2 :: l3 :: l4 :: l5 :: l6 :: l7 :: l8 :: l9 :: l10 :: l11 :: l12 :: l13 :: l14 :: l15 :: l16 :: .val (.int x) :: L, S, H, k, n) Q ↔ Wp Pg 0 (93, l0 :: l1 :: l2 :: l3 :: l4 :: l5 :: l6 :: l7 :: l8 :: l9 :: l10 :: l11 :: l12 :: l13 :: l14 :: l15 :: l16 :: .val (.int x) :: L, (.int x) :: S, H, k, n) Q := gP d0_91 rfl rfl
theorem d0_93 : decode (Pg.mt 0).code 93 = .ok (.goto 8, 3) := by decide +kernel
theorem w0_93 {L : List Slot} {S : List Value} {H : Hp} {k : Nat} {n : Nat} {Q : MRes → Prop} : Wp Pg 0 (93, L, S, H, k, n) Q ↔ Wp Pg 0 (101, L, S, H, k, n) Q := gGoto d0_93 (by decide) (by decide)
theorem d0_96 : decode (Pg.mt 0).code 96 = .ok (.iload 5, 2) := by decide +kernel
theorem w0_96 {L : List Slot} {S : List Value} {H : Hp} {k : Nat} {n : Nat} {Q : MRes → Prop} {l0 l1 l2 l3 l4 : Slot} {x : Int32} : Wp Pg 0 (96, l0 :: l1 :: l2 :: l3 :: l4 :: .val (.int x) :: L, S, H, k, n) Q ↔ Wp Pg 0 (98, l0 :: l1 :: l2 :: l3 :: l4 :: .val (.int x) :: L, (.int x) :: S, H, k, n) Q := gP d0_96 rfl rfl
theorem d0_98 : decode (Pg.mt 0).code 98 = .ok (.ldc 20, 2) := by decide +kernel
theorem w0_98 {L : List Slot} {S : List Value} {H : Hp} {k : Nat} {n : Nat} {Q : MRes → Prop} : Wp Pg 0 (98, L, S, H, k, n) Q ↔ Wp Pg 0 (100, L, (.int 2147483647) :: S, H, k, n) Q := gH d0_98 rfl rfl
theorem d0_100 : decode (Pg.mt 0).code 100 = .ok (.iand, 1) := by decide +kernel
theorem w0_100 {L : List Slot} {S : List Value} {H : Hp} {k : Nat} {n : Nat} {Q : MRes → Prop} {x y : Int32} : Wp Pg 0 (100, L, (.int y) :: (.int x) :: S, H, k, n) Q ↔ Wp Pg 0 (101, L, (.int (x &&& y)) :: S, H, k, n) Q := gP d0_100 rfl rfl
theorem d0_101 : decode (Pg.mt 0).code 101 = .ok (.istore 18, 2) := by decide +kernel
theorem w0_101 {L : List Slot} {S : List Value} {H : Hp} {k : Nat} {n : Nat} {Q : MRes → Prop} {l0 l1 l2 l3 l4 l5 l6 l7 l8 l9 l10 l11 l12 l13 l14 l15 l16 l17 : Slot} {o : Slot} {x : Int32} (ho : s1 o = true) : Wp Pg 0 (101, l0 :: l1 :: l2 :: l3 :: l4 :: l5 :: l6 :: l7 :: l8 :: l9 :: l10 :: l11 :: l12 :: l13 :: l14 :: l15 :: l16 :: l17 :: o :: L, (.int x) :: S, H, k, n) Q ↔ Wp Pg 0 (103, l0 :: l1 :: l2 :: l3 :: l4 :: l5 :: l6 :: l7 :: l8 :: l9 :: l10 :: l11 :: l12 :: l13 :: l14 :: l15 :: l16 :: l17 :: .val (.int x) :: L, S, H, k, n) Q := gP d0_101 rfl (st1_eq (o := o) rfl ho rfl)
theorem d0_103 : decode (Pg.mt 0).code 103 = .ok (.iload 6, 2) := by decide +kernel
theorem w0_103 {L : List Slot} {S : List Value} {H : Hp} {k : Nat} {n : Nat} {Q : MRes → Prop} {l0 l1 l2 l3 l4 l5 : Slot} {x : Int32} : Wp Pg 0 (103, l0 :: l1 :: l2 :: l3 :: l4 :: l5 :: .val (.int x) :: L, S, H, k, n) Q ↔ Wp Pg 0 (105, l0 :: l1 :: l2 :: l3 :: l4 :: l5 :: .val (.int x) :: L, (.int x) :: S, H, k, n) Q := gP d0_103 rfl rfl
theorem d0_105 : decode (Pg.mt 0).code 105 = .ok (.iconst (-1), 1) := by decide +kernel
theorem w0_105 {L : List Slot} {S : List Value} {H : Hp} {k : Nat} {n : Nat} {Q : MRes → Prop} : Wp Pg 0 (105, L, S, H, k, n) Q ↔ Wp Pg 0 (106, L, (.int (-1)) :: S, H, k, n) Q := gP d0_105 rfl rfl
theorem d0_106 : decode (Pg.mt 0).code 106 = .ok (.invokestatic 21, 3) := by decide +kernel
theorem w0_106 {L : List Slot} {S : List Value} {H : Hp} {k : Nat} {n : Nat} {Q : MRes → Prop} {a0 : Int32} {a1 : Int32}  (h1 : L.length = 26) (h2 : wt S ≤ 0) (h3 : k + 0 ≤ 16) (h4 : n + 0 ≤ 128) : Wp Pg 0 (106, L, (.int a1) :: (.int a0) :: S, H, k, n) Q ↔ Wp Pg 1 (0, [.val (.int a0), .val (.int a1)], [], H, 0, 0) fun r => Wp Pg 0 (109, L, r.1.toList ++ S, r.2, k + 0, n + 0) Q := gCall d0_106 rfl rfl (M := 26) (W := 0) (C := 16) (Sl := 128) (c := 0) (s := 0) ⟨rfl, by decide, by decide, rfl, rfl, rfl, rfl⟩ (by show entL [(.int a0), (.int a1)] 2 = _; rw [entL, laid_c1 rfl, laid_c1 rfl, laid_nil]; rfl) h1 h2 h3 h4
theorem d0_109 : decode (Pg.mt 0).code 109 = .ok (.istore 19, 2) := by decide +kernel
theorem w0_109 {L : List Slot} {S : List Value} {H : Hp} {k : Nat} {n : Nat} {Q : MRes → Prop} {l0 l1 l2 l3 l4 l5 l6 l7 l8 l9 l10 l11 l12 l13 l14 l15 l16 l17 l18 : Slot} {o : Slot} {x : Int32} (ho : s1 o = true) : Wp Pg 0 (109, l0 :: l1 :: l2 :: l3 :: l4 :: l5 :: l6 :: l7 :: l8 :: l9 :: l10 :: l11 :: l12 :: l13 :: l14 :: l15 :: l16 :: l17 :: l18 :: o :: L, (.int x) :: S, H, k, n) Q ↔ Wp Pg 0 (111, l0 :: l1 :: l2 :: l3 :: l4 :: l5 :: l6 :: l7 :: l8 :: l9 :: l10 :: l11 :: l12 :: l13 :: l14 :: l15 :: l16 :: l17 :: l18 :: .val (.int x) :: L, S, H, k, n) Q := gP d0_109 rfl (st1_eq (o := o) rfl ho rfl)
theorem d0_111 : decode (Pg.mt 0).code 111 = .ok (.iload 9, 2) := by decide +kernel
theorem w0_111 {L : List Slot} {S : List Value} {H : Hp} {k : Nat} {n : Nat} {Q : MRes → Prop} {l0 l1 l2 l3 l4 l5 l6 l7 l8 : Slot} {x : Int32} : Wp Pg 0 (111, l0 :: l1 :: l2 :: l3 :: l4 :: l5 :: l6 :: l7 :: l8 :: .val (.int x) :: L, S, H, k, n) Q ↔ Wp Pg 0 (113, l0 :: l1 :: l2 :: l3 :: l4 :: l5 :: l6 :: l7 :: l8 :: .val (.int x) :: L, (.int x) :: S, H, k, n) Q := gP d0_111 rfl rfl
theorem d0_113 : decode (Pg.mt 0).code 113 = .ok (.bipush 64, 2) := by decide +kernel
theorem w0_113 {L : List Slot} {S : List Value} {H : Hp} {k : Nat} {n : Nat} {Q : MRes → Prop} : Wp Pg 0 (113, L, S, H, k, n) Q ↔ Wp Pg 0 (115, L, (.int 64) :: S, H, k, n) Q := gP d0_113 rfl rfl
theorem d0_115 : decode (Pg.mt 0).code 115 = .ok (.iand, 1) := by decide +kernel
theorem w0_115 {L : List Slot} {S : List Value} {H : Hp} {k : Nat} {n : Nat} {Q : MRes → Prop} {x y : Int32} : Wp Pg 0 (115, L, (.int y) :: (.int x) :: S, H, k, n) Q ↔ Wp Pg 0 (116, L, (.int (x &&& y)) :: S, H, k, n) Q := gP d0_115 rfl rfl
theorem d0_116 : decode (Pg.mt 0).code 116 = .ok (.ifCond .eq 8, 3) := by decide +kernel
theorem w0_116 {L : List Slot} {S : List Value} {H : Hp} {k : Nat} {n : Nat} {Q : MRes → Prop} {x : Int32} : Wp Pg 0 (116, L, (.int x) :: S, H, k, n) Q ↔ if x = 0 then Wp Pg 0 (124, L, S, H, k, n) Q else Wp Pg 0 (119, L, S, H, k, n) Q := gIf d0_116 (by decide) (by decide) (c_eq x)
theorem d0_119 : decode (Pg.mt 0).code 119 = .ok (.iload 19, 2) := by decide +kernel
theorem w0_119 {L : List Slot} {S : List Value} {H : Hp} {k : Nat} {n : Nat} {Q : MRes → Prop} {l0 l1 l2 l3 l4 l5 l6 l7 l8 l9 l10 l11 l12 l13 l14 l15 l16 l17 l18 : Slot} {x : Int32} : Wp Pg 0 (119, l0 :: l1 :: l2 :: l3 :: l4 :: l5 :: l6 :: l7 :: l8 :: l9 :: l10 :: l11 :: l12 :: l13 :: l14 :: l15 :: l16 :: l17 :: l18 :: .val (.int x) :: L, S, H, k, n) Q ↔ Wp Pg 0 (121, l0 :: l1 :: l2 :: l3 :: l4 :: l5 :: l6 :: l7 :: l8 :: l9 :: l10 :: l11 :: l12 :: l13 :: l14 :: l15 :: l16 :: l17 :: l18 :: .val (.int x) :: L, (.int x) :: S, H, k, n) Q := gP d0_119 rfl rfl
theorem d0_121 : decode (Pg.mt 0).code 121 = .ok (.goto 9, 3) := by decide +kernel
theorem w0_121 {L : List Slot} {S : List Value} {H : Hp} {k : Nat} {n : Nat} {Q : MRes → Prop} : Wp Pg 0 (121, L, S, H, k, n) Q ↔ Wp Pg 0 (130, L, S, H, k, n) Q := gGoto d0_121 (by decide) (by decide)
theorem d0_124 : decode (Pg.mt 0).code 124 = .ok (.iload 10, 2) := by decide +kernel
theorem w0_124 {L : List Slot} {S : List Value} {H : Hp} {k : Nat} {n : Nat} {Q : MRes → Prop} {l0 l1 l2 l3 l4 l5 l6 l7 l8 l9 : Slot} {x : Int32} : Wp Pg 0 (124, l0 :: l1 :: l2 :: l3 :: l4 :: l5 :: l6 :: l7 :: l8 :: l9 :: .val (.int x) :: L, S, H, k, n) Q ↔ Wp Pg 0 (126, l0 :: l1 :: l2 :: l3 :: l4 :: l5 :: l6 :: l7 :: l8 :: l9 :: .val (.int x) :: L, (.int x) :: S, H, k, n) Q := gP d0_124 rfl rfl
theorem d0_126 : decode (Pg.mt 0).code 126 = .ok (.iconst (-1), 1) := by decide +kernel
theorem w0_126 {L : List Slot} {S : List Value} {H : Hp} {k : Nat} {n : Nat} {Q : MRes → Prop} : Wp Pg 0 (126, L, S, H, k, n) Q ↔ Wp Pg 0 (127, L, (.int (-1)) :: S, H, k, n) Q := gP d0_126 rfl rfl
theorem d0_127 : decode (Pg.mt 0).code 127 = .ok (.invokestatic 21, 3) := by decide +kernel
theorem w0_127 {L : List Slot} {S : List Value} {H : Hp} {k : Nat} {n : Nat} {Q : MRes → Prop} {a0 : Int32} {a1 : Int32}  (h1 : L.length = 26) (h2 : wt S ≤ 0) (h3 : k + 0 ≤ 16) (h4 : n + 0 ≤ 128) : Wp Pg 0 (127, L, (.int a1) :: (.int a0) :: S, H, k, n) Q ↔ Wp Pg 1 (0, [.val (.int a0), .val (.int a1)], [], H, 0, 0) fun r => Wp Pg 0 (130, L, r.1.toList ++ S, r.2, k + 0, n + 0) Q := gCall d0_127 rfl rfl (M := 26) (W := 0) (C := 16) (Sl := 128) (c := 0) (s := 0) ⟨rfl, by decide, by decide, rfl, rfl, rfl, rfl⟩ (by show entL [(.int a0), (.int a1)] 2 = _; rw [entL, laid_c1 rfl, laid_c1 rfl, laid_nil]; rfl) h1 h2 h3 h4
theorem d0_130 : decode (Pg.mt 0).code 130 = .ok (.istore 20, 2) := by decide +kernel
theorem w0_130 {L : List Slot} {S : List Value} {H : Hp} {k : Nat} {n : Nat} {Q : MRes → Prop} {l0 l1 l2 l3 l4 l5 l6 l7 l8 l9 l10 l11 l12 l13 l14 l15 l16 l17 l18 l19 : Slot} {o : Slot} {x : Int32} (ho : s1 o = true) : Wp Pg 0 (130, l0 :: l1 :: l2 :: l3 :: l4 :: l5 :: l6 :: l7 :: l8 :: l9 :: l10 :: l11 :: l12 :: l13 :: l14 :: l15 :: l16 :: l17 :: l18 :: l19 :: o :: L, (.int x) :: S, H, k, n) Q ↔ Wp Pg 0 (132, l0 :: l1 :: l2 :: l3 :: l4 :: l5 :: l6 :: l7 :: l8 :: l9 :: l10 :: l11 :: l12 :: l13 :: l14 :: l15 :: l16 :: l17 :: l18 :: l19 :: .val (.int x) :: L, S, H, k, n) Q := gP d0_130 rfl (st1_eq (o := o) rfl ho rfl)
theorem d0_132 : decode (Pg.mt 0).code 132 = .ok (.iload 9, 2) := by decide +kernel
theorem w0_132 {L : List Slot} {S : List Value} {H : Hp} {k : Nat} {n : Nat} {Q : MRes → Prop} {l0 l1 l2 l3 l4 l5 l6 l7 l8 : Slot} {x : Int32} : Wp Pg 0 (132, l0 :: l1 :: l2 :: l3 :: l4 :: l5 :: l6 :: l7 :: l8 :: .val (.int x) :: L, S, H, k, n) Q ↔ Wp Pg 0 (134, l0 :: l1 :: l2 :: l3 :: l4 :: l5 :: l6 :: l7 :: l8 :: .val (.int x) :: L, (.int x) :: S, H, k, n) Q := gP d0_132 rfl rfl
theorem d0_134 : decode (Pg.mt 0).code 134 = .ok (.iconst 4, 1) := by decide +kernel
theorem w0_134 {L : List Slot} {S : List Value} {H : Hp} {k : Nat} {n : Nat} {Q : MRes → Prop} : Wp Pg 0 (134, L, S, H, k, n) Q ↔ Wp Pg 0 (135, L, (.int 4) :: S, H, k, n) Q := gP d0_134 rfl rfl
theorem d0_135 : decode (Pg.mt 0).code 135 = .ok (.iand, 1) := by decide +kernel
theorem w0_135 {L : List Slot} {S : List Value} {H : Hp} {k : Nat} {n : Nat} {Q : MRes → Prop} {x y : Int32} : Wp Pg 0 (135, L, (.int y) :: (.int x) :: S, H, k, n) Q ↔ Wp Pg 0 (136, L, (.int (x &&& y)) :: S, H, k, n) Q := gP d0_135 rfl rfl
theorem d0_136 : decode (Pg.mt 0).code 136 = .ok (.ifCond .eq 12, 3) := by decide +kernel
theorem w0_136 {L : List Slot} {S : List Value} {H : Hp} {k : Nat} {n : Nat} {Q : MRes → Prop} {x : Int32} : Wp Pg 0 (136, L, (.int x) :: S, H, k, n) Q ↔ if x = 0 then Wp Pg 0 (148, L, S, H, k, n) Q else Wp Pg 0 (139, L, S, H, k, n) Q := gIf d0_136 (by decide) (by decide) (c_eq x)
theorem d0_139 : decode (Pg.mt 0).code 139 = .ok (.iload 19, 2) := by decide +kernel
theorem w0_139 {L : List Slot} {S : List Value} {H : Hp} {k : Nat} {n : Nat} {Q : MRes → Prop} {l0 l1 l2 l3 l4 l5 l6 l7 l8 l9 l10 l11 l12 l13 l14 l15 l16 l17 l18 : Slot} {x : Int32} : Wp Pg 0 (139, l0 :: l1 :: l2 :: l3 :: l4 :: l5 :: l6 :: l7 :: l8 :: l9 :: l10 :: l11 :: l12 :: l13 :: l14 :: l15 :: l16 :: l17 :: l18 :: .val (.int x) :: L, S, H, k, n) Q ↔ Wp Pg 0 (141, l0 :: l1 :: l2 :: l3 :: l4 :: l5 :: l6 :: l7 :: l8 :: l9 :: l10 :: l11 :: l12 :: l13 :: l14 :: l15 :: l16 :: l17 :: l18 :: .val (.int x) :: L, (.int x) :: S, H, k, n) Q := gP d0_139 rfl rfl
theorem d0_141 : decode (Pg.mt 0).code 141 = .ok (.ifCond .le 7, 3) := by decide +kernel
theorem w0_141 {L : List Slot} {S : List Value} {H : Hp} {k : Nat} {n : Nat} {Q : MRes → Prop} {x : Int32} : Wp Pg 0 (141, L, (.int x) :: S, H, k, n) Q ↔ if x ≤ 0 then Wp Pg 0 (148, L, S, H, k, n) Q else Wp Pg 0 (144, L, S, H, k, n) Q := gIf d0_141 (by decide) (by decide) (c_le x)
theorem d0_144 : decode (Pg.mt 0).code 144 = .ok (.iconst 1, 1) := by decide +kernel
theorem w0_144 {L : List Slot} {S : List Value} {H : Hp} {k : Nat} {n : Nat} {Q : MRes → Prop} : Wp Pg 0 (144, L, S, H, k, n) Q ↔ Wp Pg 0 (145, L, (.int 1) :: S, H, k, n) Q := gP d0_144 rfl rfl
theorem d0_145 : decode (Pg.mt 0).code 145 = .ok (.goto 4, 3) := by decide +kernel
theorem w0_145 {L : List Slot} {S : List Value} {H : Hp} {k : Nat} {n : Nat} {Q : MRes → Prop} : Wp Pg 0 (145, L, S, H, k, n) Q ↔ Wp Pg 0 (149, L, S, H, k, n) Q := gGoto d0_145 (by decide) (by decide)
theorem d0_148 : decode (Pg.mt 0).code 148 = .ok (.iconst 0, 1) := by decide +kernel
theorem w0_148 {L : List Slot} {S : List Value} {H : Hp} {k : Nat} {n : Nat} {Q : MRes → Prop} : Wp Pg 0 (148, L, S, H, k, n) Q ↔ Wp Pg 0 (149, L, (.int 0) :: S, H, k, n) Q := gP d0_148 rfl rfl
theorem d0_149 : decode (Pg.mt 0).code 149 = .ok (.istore 21, 2) := by decide +kernel
theorem w0_149 {L : List Slot} {S : List Value} {H : Hp} {k : Nat} {n : Nat} {Q : MRes → Prop} {l0 l1 l2 l3 l4 l5 l6 l7 l8 l9 l10 l11 l12 l13 l14 l15 l16 l17 l18 l19 l20 : Slot} {o : Slot} {x : Int32} (ho : s1 o = true) : Wp Pg 0 (149, l0 :: l1 :: l2 :: l3 :: l4 :: l5 :: l6 :: l7 :: l8 :: l9 :: l10 :: l11 :: l12 :: l13 :: l14 :: l15 :: l16 :: l17 :: l18 :: l19 :: l20 :: o :: L, (.int x) :: S, H, k, n) Q ↔ Wp Pg 0 (151, l0 :: l1 :: l2 :: l3 :: l4 :: l5 :: l6 :: l7 :: l8 :: l9 :: l10 :: l11 :: l12 :: l13 :: l14 :: l15 :: l16 :: l17 :: l18 :: l19 :: l20 :: .val (.int x) :: L, S, H, k, n) Q := gP d0_149 rfl (st1_eq (o := o) rfl ho rfl)
theorem d0_151 : decode (Pg.mt 0).code 151 = .ok (.iload 9, 2) := by decide +kernel
theorem w0_151 {L : List Slot} {S : List Value} {H : Hp} {k : Nat} {n : Nat} {Q : MRes → Prop} {l0 l1 l2 l3 l4 l5 l6 l7 l8 : Slot} {x : Int32} : Wp Pg 0 (151, l0 :: l1 :: l2 :: l3 :: l4 :: l5 :: l6 :: l7 :: l8 :: .val (.int x) :: L, S, H, k, n) Q ↔ Wp Pg 0 (153, l0 :: l1 :: l2 :: l3 :: l4 :: l5 :: l6 :: l7 :: l8 :: .val (.int x) :: L, (.int x) :: S, H, k, n) Q := gP d0_151 rfl rfl
theorem d0_153 : decode (Pg.mt 0).code 153 = .ok (.bipush 8, 2) := by decide +kernel
theorem w0_153 {L : List Slot} {S : List Value} {H : Hp} {k : Nat} {n : Nat} {Q : MRes → Prop} : Wp Pg 0 (153, L, S, H, k, n) Q ↔ Wp Pg 0 (155, L, (.int 8) :: S, H, k, n) Q := gP d0_153 rfl rfl
theorem d0_155 : decode (Pg.mt 0).code 155 = .ok (.iand, 1) := by decide +kernel
theorem w0_155 {L : List Slot} {S : List Value} {H : Hp} {k : Nat} {n : Nat} {Q : MRes → Prop} {x y : Int32} : Wp Pg 0 (155, L, (.int y) :: (.int x) :: S, H, k, n) Q ↔ Wp Pg 0 (156, L, (.int (x &&& y)) :: S, H, k, n) Q := gP d0_155 rfl rfl
theorem d0_156 : decode (Pg.mt 0).code 156 = .ok (.ifCond .eq 12, 3) := by decide +kernel
theorem w0_156 {L : List Slot} {S : List Value} {H : Hp} {k : Nat} {n : Nat} {Q : MRes → Prop} {x : Int32} : Wp Pg 0 (156, L, (.int x) :: S, H, k, n) Q ↔ if x = 0 then Wp Pg 0 (168, L, S, H, k, n) Q else Wp Pg 0 (159, L, S, H, k, n) Q := gIf d0_156 (by decide) (by decide) (c_eq x)
theorem d0_159 : decode (Pg.mt 0).code 159 = .ok (.iload 20, 2) := by decide +kernel
theorem w0_159 {L : List Slot} {S : List Value} {H : Hp} {k : Nat} {n : Nat} {Q : MRes → Prop} {l0 l1 l2 l3 l4 l5 l6 l7 l8 l9 l10 l11 l12 l13 l14 l15 l16 l17 l18 l19 : Slot} {x : Int32} : Wp Pg 0 (159, l0 :: l1 :: l2 :: l3 :: l4 :: l5 :: l6 :: l7 :: l8 :: l9 :: l10 :: l11 :: l12 :: l13 :: l14 :: l15 :: l16 :: l17 :: l18 :: l19 :: .val (.int x) :: L, S, H, k, n) Q ↔ Wp Pg 0 (161, l0 :: l1 :: l2 :: l3 :: l4 :: l5 :: l6 :: l7 :: l8 :: l9 :: l10 :: l11 :: l12 :: l13 :: l14 :: l15 :: l16 :: l17 :: l18 :: l19 :: .val (.int x) :: L, (.int x) :: S, H, k, n) Q := gP d0_159 rfl rfl
theorem d0_161 : decode (Pg.mt 0).code 161 = .ok (.ifCond .le 7, 3) := by decide +kernel
theorem w0_161 {L : List Slot} {S : List Value} {H : Hp} {k : Nat} {n : Nat} {Q : MRes → Prop} {x : Int32} : Wp Pg 0 (161, L, (.int x) :: S, H, k, n) Q ↔ if x ≤ 0 then Wp Pg 0 (168, L, S, H, k, n) Q else Wp Pg 0 (164, L, S, H, k, n) Q := gIf d0_161 (by decide) (by decide) (c_le x)
theorem d0_164 : decode (Pg.mt 0).code 164 = .ok (.iconst 1, 1) := by decide +kernel
theorem w0_164 {L : List Slot} {S : List Value} {H : Hp} {k : Nat} {n : Nat} {Q : MRes → Prop} : Wp Pg 0 (164, L, S, H, k, n) Q ↔ Wp Pg 0 (165, L, (.int 1) :: S, H, k, n) Q := gP d0_164 rfl rfl
theorem d0_165 : decode (Pg.mt 0).code 165 = .ok (.goto 4, 3) := by decide +kernel
theorem w0_165 {L : List Slot} {S : List Value} {H : Hp} {k : Nat} {n : Nat} {Q : MRes → Prop} : Wp Pg 0 (165, L, S, H, k, n) Q ↔ Wp Pg 0 (169, L, S, H, k, n) Q := gGoto d0_165 (by decide) (by decide)
theorem d0_168 : decode (Pg.mt 0).code 168 = .ok (.iconst 0, 1) := by decide +kernel
theorem w0_168 {L : List Slot} {S : List Value} {H : Hp} {k : Nat} {n : Nat} {Q : MRes → Prop} : Wp Pg 0 (168, L, S, H, k, n) Q ↔ Wp Pg 0 (169, L, (.int 0) :: S, H, k, n) Q := gP d0_168 rfl rfl
theorem d0_169 : decode (Pg.mt 0).code 169 = .ok (.istore 22, 2) := by decide +kernel
theorem w0_169 {L : List Slot} {S : List Value} {H : Hp} {k : Nat} {n : Nat} {Q : MRes → Prop} {l0 l1 l2 l3 l4 l5 l6 l7 l8 l9 l10 l11 l12 l13 l14 l15 l16 l17 l18 l19 l20 l21 : Slot} {o : Slot} {x : Int32} (ho : s1 o = true) : Wp Pg 0 (169, l0 :: l1 :: l2 :: l3 :: l4 :: l5 :: l6 :: l7 :: l8 :: l9 :: l10 :: l11 :: l12 :: l13 :: l14 :: l15 :: l16 :: l17 :: l18 :: l19 :: l20 :: l21 :: o :: L, (.int x) :: S, H, k, n) Q ↔ Wp Pg 0 (171, l0 :: l1 :: l2 :: l3 :: l4 :: l5 :: l6 :: l7 :: l8 :: l9 :: l10 :: l11 :: l12 :: l13 :: l14 :: l15 :: l16 :: l17 :: l18 :: l19 :: l20 :: l21 :: .val (.int x) :: L, S, H, k, n) Q := gP d0_169 rfl (st1_eq (o := o) rfl ho rfl)
theorem d0_171 : decode (Pg.mt 0).code 171 = .ok (.new 27, 3) := by decide +kernel
theorem w0_171 {L : List Slot} {S : List Value} {H : Hp} {k : Nat} {n : Nat} {Q : MRes → Prop} (h1 : k + 1 ≤ 16) (h2 : n + 5 ≤ 128) : Wp Pg 0 (171, L, S, H, k, n) Q ↔ Wp Pg 0 (174, L, (.ref H.length) :: S, H ++ [(.inr 1, [.null, .long 0, .int 0, .int 0, .int 0])], k + 1, n + 5) Q := gNew d0_171 rfl rfl rfl rfl rfl h1 h2
theorem d0_174 : decode (Pg.mt 0).code 174 = .ok (.dup, 1) := by decide +kernel
theorem w0_174 {L : List Slot} {S : List Value} {H : Hp} {k : Nat} {n : Nat} {Q : MRes → Prop} {v : Value} (hv : cat v = 1) : Wp Pg 0 (174, L, v :: S, H, k, n) Q ↔ Wp Pg 0 (175, L, v :: v :: S, H, k, n) Q := gP d0_174 rfl (by simp only [plainI, fdup, if_pos hv, keepL])
theorem d0_175 : decode (Pg.mt 0).code 175 = .ok (.aload 11, 2) := by decide +kernel
theorem w0_175 {L : List Slot} {S : List Value} {H : Hp} {k : Nat} {n : Nat} {Q : MRes → Prop} {l0 l1 l2 l3 l4 l5 l6 l7 l8 l9 l10 : Slot} {v : Value} (hv : isA v = true) : Wp Pg 0 (175, l0 :: l1 :: l2 :: l3 :: l4 :: l5 :: l6 :: l7 :: l8 :: l9 :: l10 :: .val v :: L, S, H, k, n) Q ↔ Wp Pg 0 (177, l0 :: l1 :: l2 :: l3 :: l4 :: l5 :: l6 :: l7 :: l8 :: l9 :: l10 :: .val v :: L, v :: S, H, k, n) Q := gP d0_175 rfl (by show (if isA v = true then _ else _) = _; rw [if_pos hv])
theorem d0_177 : decode (Pg.mt 0).code 177 = .ok (.lload 13, 2) := by decide +kernel
theorem w0_177 {L : List Slot} {S : List Value} {H : Hp} {k : Nat} {n : Nat} {Q : MRes → Prop} {l0 l1 l2 l3 l4 l5 l6 l7 l8 l9 l10 l11 l12 : Slot} {x : Int64} : Wp Pg 0 (177, l0 :: l1 :: l2 :: l3 :: l4 :: l5 :: l6 :: l7 :: l8 :: l9 :: l10 :: l11 :: l12 :: .val (.long x) :: L, S, H, k, n) Q ↔ Wp Pg 0 (179, l0 :: l1 :: l2 :: l3 :: l4 :: l5 :: l6 :: l7 :: l8 :: l9 :: l10 :: l11 :: l12 :: .val (.long x) :: L, (.long x) :: S, H, k, n) Q := gP d0_177 rfl rfl
theorem d0_179 : decode (Pg.mt 0).code 179 = .ok (.iload 17, 2) := by decide +kernel
theorem w0_179 {L : List Slot} {S : List Value} {H : Hp} {k : Nat} {n : Nat} {Q : MRes → Prop} {l0 l1 l2 l3 l4 l5 l6 l7 l8 l9 l10 l11 l12 l13 l14 l15 l16 : Slot} {x : Int32} : Wp Pg 0 (179, l0 :: l1 :: l2 :: l3 :: l4 :: l5 :: l6 :: l7 :: l8 :: l9 :: l10 :: l11 :: l12 :: l13 :: l14 :: l15 :: l16 :: .val (.int x) :: L, S, H, k, n) Q ↔ Wp Pg 0 (181, l0 :: l1 :: l2 :: l3 :: l4 :: l5 :: l6 :: l7 :: l8 :: l9 :: l10 :: l11 :: l12 :: l13 :: l14 :: l15 :: l16 :: .val (.int x) :: L, (.int x) :: S, H, k, n) Q := gP d0_179 rfl rfl
theorem d0_181 : decode (Pg.mt 0).code 181 = .ok (.iload 19, 2) := by decide +kernel
theorem w0_181 {L : List Slot} {S : List Value} {H : Hp} {k : Nat} {n : Nat} {Q : MRes → Prop} {l0 l1 l2 l3 l4 l5 l6 l7 l8 l9 l10 l11 l12 l13 l14 l15 l16 l17 l18 : Slot} {x : Int32} : Wp Pg 0 (181, l0 :: l1 :: l2 :: l3 :: l4 :: l5 :: l6 :: l7 :: l8 :: l9 :: l10 :: l11 :: l12 :: l13 :: l14 :: l15 :: l16 :: l17 :: l18 :: .val (.int x) :: L, S, H, k, n) Q ↔ Wp Pg 0 (183, l0 :: l1 :: l2 :: l3 :: l4 :: l5 :: l6 :: l7 :: l8 :: l9 :: l10 :: l11 :: l12 :: l13 :: l14 :: l15 :: l16 :: l17 :: l18 :: .val (.int x) :: L, (.int x) :: S, H, k, n) Q := gP d0_181 rfl rfl
theorem d0_183 : decode (Pg.mt 0).code 183 = .ok (.iload 21, 2) := by decide +kernel
theorem w0_183 {L : List Slot} {S : List Value} {H : Hp} {k : Nat} {n : Nat} {Q : MRes → Prop} {l0 l1 l2 l3 l4 l5 l6 l7 l8 l9 l10 l11 l12 l13 l14 l15 l16 l17 l18 l19 l20 : Slot} {x : Int32} : Wp Pg 0 (183, l0 :: l1 :: l2 :: l3 :: l4 :: l5 :: l6 :: l7 :: l8 :: l9 :: l10 :: l11 :: l12 :: l13 :: l14 :: l15 :: l16 :: l17 :: l18 :: l19 :: l20 :: .val (.int x) :: L, S, H, k, n) Q ↔ Wp Pg 0 (185, l0 :: l1 :: l2 :: l3 :: l4 :: l5 :: l6 :: l7 :: l8 :: l9 :: l10 :: l11 :: l12 :: l13 :: l14 :: l15 :: l16 :: l17 :: l18 :: l19 :: l20 :: .val (.int x) :: L, (.int x) :: S, H, k, n) Q := gP d0_183 rfl rfl
theorem d0_185 : decode (Pg.mt 0).code 185 = .ok (.invokespecial 29, 3) := by decide +kernel
theorem w0_185 {L : List Slot} {S : List Value} {H : Hp} {k : Nat} {n : Nat} {Q : MRes → Prop} {a0 : Value} {a1 : Int64} {a2 : Int32} {a3 : Int32} {a4 : Int32} {a : Nat}  (h_a0 : cat a0 = 1) (h1 : L.length = 26) (h2 : wt S ≤ 1) (h3 : k + 0 ≤ 16) (h4 : n + 0 ≤ 128) : Wp Pg 0 (185, L, (.int a4) :: (.int a3) :: (.int a2) :: (.long a1) :: a0 :: (.ref a) :: S, H, k, n) Q ↔ Wp Pg 2 (0, [.val (.ref a), .val a0, .val (.long a1), .second, .val (.int a2), .val (.int a3), .val (.int a4)], [], H, 0, 0) fun r => Wp Pg 0 (188, L, r.1.toList ++ S, r.2, k + 0, n + 0) Q := gCall d0_185 rfl rfl (M := 26) (W := 1) (C := 16) (Sl := 128) (c := 0) (s := 0) ⟨rfl, by decide, by decide, rfl, rfl, rfl, rfl⟩ (by show entL [(.ref a), a0, (.long a1), (.int a2), (.int a3), (.int a4)] 7 = _; rw [entL, laid_c1 rfl, laid_c1 h_a0, laid_c2 rfl, laid_c1 rfl, laid_c1 rfl, laid_c1 rfl, laid_nil]; rfl) h1 h2 h3 h4
theorem d0_188 : decode (Pg.mt 0).code 188 = .ok (.astore 23, 2) := by decide +kernel
theorem w0_188 {L : List Slot} {S : List Value} {H : Hp} {k : Nat} {n : Nat} {Q : MRes → Prop} {l0 l1 l2 l3 l4 l5 l6 l7 l8 l9 l10 l11 l12 l13 l14 l15 l16 l17 l18 l19 l20 l21 l22 : Slot} {o : Slot} {v : Value} (ho : s1 o = true) (hv : isA v = true) : Wp Pg 0 (188, l0 :: l1 :: l2 :: l3 :: l4 :: l5 :: l6 :: l7 :: l8 :: l9 :: l10 :: l11 :: l12 :: l13 :: l14 :: l15 :: l16 :: l17 :: l18 :: l19 :: l20 :: l21 :: l22 :: o :: L, v :: S, H, k, n) Q ↔ Wp Pg 0 (190, l0 :: l1 :: l2 :: l3 :: l4 :: l5 :: l6 :: l7 :: l8 :: l9 :: l10 :: l11 :: l12 :: l13 :: l14 :: l15 :: l16 :: l17 :: l18 :: l19 :: l20 :: l21 :: l22 :: .val v :: L, S, H, k, n) Q := gP d0_188 rfl (st1_eq (o := o) rfl ho hv)
theorem d0_190 : decode (Pg.mt 0).code 190 = .ok (.new 27, 3) := by decide +kernel
theorem w0_190 {L : List Slot} {S : List Value} {H : Hp} {k : Nat} {n : Nat} {Q : MRes → Prop} (h1 : k + 1 ≤ 16) (h2 : n + 5 ≤ 128) : Wp Pg 0 (190, L, S, H, k, n) Q ↔ Wp Pg 0 (193, L, (.ref H.length) :: S, H ++ [(.inr 1, [.null, .long 0, .int 0, .int 0, .int 0])], k + 1, n + 5) Q := gNew d0_190 rfl rfl rfl rfl rfl h1 h2
theorem d0_193 : decode (Pg.mt 0).code 193 = .ok (.dup, 1) := by decide +kernel
theorem w0_193 {L : List Slot} {S : List Value} {H : Hp} {k : Nat} {n : Nat} {Q : MRes → Prop} {v : Value} (hv : cat v = 1) : Wp Pg 0 (193, L, v :: S, H, k, n) Q ↔ Wp Pg 0 (194, L, v :: v :: S, H, k, n) Q := gP d0_193 rfl (by simp only [plainI, fdup, if_pos hv, keepL])
theorem d0_194 : decode (Pg.mt 0).code 194 = .ok (.aload 12, 2) := by decide +kernel
theorem w0_194 {L : List Slot} {S : List Value} {H : Hp} {k : Nat} {n : Nat} {Q : MRes → Prop} {l0 l1 l2 l3 l4 l5 l6 l7 l8 l9 l10 l11 : Slot} {v : Value} (hv : isA v = true) : Wp Pg 0 (194, l0 :: l1 :: l2 :: l3 :: l4 :: l5 :: l6 :: l7 :: l8 :: l9 :: l10 :: l11 :: .val v :: L, S, H, k, n) Q ↔ Wp Pg 0 (196, l0 :: l1 :: l2 :: l3 :: l4 :: l5 :: l6 :: l7 :: l8 :: l9 :: l10 :: l11 :: .val v :: L, v :: S, H, k, n) Q := gP d0_194 rfl (by show (if isA v = true then _ else _) = _; rw [if_pos hv])
theorem d0_196 : decode (Pg.mt 0).code 196 = .ok (.lload 15, 2) := by decide +kernel
theorem w0_196 {L : List Slot} {S : List Value} {H : Hp} {k : Nat} {n : Nat} {Q : MRes → Prop} {l0 l1 l2 l3 l4 l5 l6 l7 l8 l9 l10 l11 l12 l13 l14 : Slot} {x : Int64} : Wp Pg 0 (196, l0 :: l1 :: l2 :: l3 :: l4 :: l5 :: l6 :: l7 :: l8 :: l9 :: l10 :: l11 :: l12 :: l13 :: l14 :: .val (.long x) :: L, S, H, k, n) Q ↔ Wp Pg 0 (198, l0 :: l1 :: l2 :: l3 :: l4 :: l5 :: l6 :: l7 :: l8 :: l9 :: l10 :: l11 :: l12 :: l13 :: l14 :: .val (.long x) :: L, (.long x) :: S, H, k, n) Q := gP d0_196 rfl rfl
theorem d0_198 : decode (Pg.mt 0).code 198 = .ok (.iload 18, 2) := by decide +kernel
theorem w0_198 {L : List Slot} {S : List Value} {H : Hp} {k : Nat} {n : Nat} {Q : MRes → Prop} {l0 l1 l2 l3 l4 l5 l6 l7 l8 l9 l10 l11 l12 l13 l14 l15 l16 l17 : Slot} {x : Int32} : Wp Pg 0 (198, l0 :: l1 :: l2 :: l3 :: l4 :: l5 :: l6 :: l7 :: l8 :: l9 :: l10 :: l11 :: l12 :: l13 :: l14 :: l15 :: l16 :: l17 :: .val (.int x) :: L, S, H, k, n) Q ↔ Wp Pg 0 (200, l0 :: l1 :: l2 :: l3 :: l4 :: l5 :: l6 :: l7 :: l8 :: l9 :: l10 :: l11 :: l12 :: l13 :: l14 :: l15 :: l16 :: l17 :: .val (.int x) :: L, (.int x) :: S, H, k, n) Q := gP d0_198 rfl rfl
theorem d0_200 : decode (Pg.mt 0).code 200 = .ok (.iload 20, 2) := by decide +kernel
theorem w0_200 {L : List Slot} {S : List Value} {H : Hp} {k : Nat} {n : Nat} {Q : MRes → Prop} {l0 l1 l2 l3 l4 l5 l6 l7 l8 l9 l10 l11 l12 l13 l14 l15 l16 l17 l18 l19 : Slot} {x : Int32} : Wp Pg 0 (200, l0 :: l1 :: l2 :: l3 :: l4 :: l5 :: l6 :: l7 :: l8 :: l9 :: l10 :: l11 :: l12 :: l13 :: l14 :: l15 :: l16 :: l17 :: l18 :: l19 :: .val (.int x) :: L, S, H, k, n) Q ↔ Wp Pg 0 (202, l0 :: l1 :: l2 :: l3 :: l4 :: l5 :: l6 :: l7 :: l8 :: l9 :: l10 :: l11 :: l12 :: l13 :: l14 :: l15 :: l16 :: l17 :: l18 :: l19 :: .val (.int x) :: L, (.int x) :: S, H, k, n) Q := gP d0_200 rfl rfl
theorem d0_202 : decode (Pg.mt 0).code 202 = .ok (.iload 22, 2) := by decide +kernel
theorem w0_202 {L : List Slot} {S : List Value} {H : Hp} {k : Nat} {n : Nat} {Q : MRes → Prop} {l0 l1 l2 l3 l4 l5 l6 l7 l8 l9 l10 l11 l12 l13 l14 l15 l16 l17 l18 l19 l20 l21 : Slot} {x : Int32} : Wp Pg 0 (202, l0 :: l1 :: l2 :: l3 :: l4 :: l5 :: l6 :: l7 :: l8 :: l9 :: l10 :: l11 :: l12 :: l13 :: l14 :: l15 :: l16 :: l17 :: l18 :: l19 :: l20 :: l21 :: .val (.int x) :: L, S, H, k, n) Q ↔ Wp Pg 0 (204, l0 :: l1 :: l2 :: l3 :: l4 :: l5 :: l6 :: l7 :: l8 :: l9 :: l10 :: l11 :: l12 :: l13 :: l14 :: l15 :: l16 :: l17 :: l18 :: l19 :: l20 :: l21 :: .val (.int x) :: L, (.int x) :: S, H, k, n) Q := gP d0_202 rfl rfl
theorem d0_204 : decode (Pg.mt 0).code 204 = .ok (.invokespecial 29, 3) := by decide +kernel
theorem w0_204 {L : List Slot} {S : List Value} {H : Hp} {k : Nat} {n : Nat} {Q : MRes → Prop} {a0 : Value} {a1 : Int64} {a2 : Int32} {a3 : Int32} {a4 : Int32} {a : Nat}  (h_a0 : cat a0 = 1) (h1 : L.length = 26) (h2 : wt S ≤ 1) (h3 : k + 0 ≤ 16) (h4 : n + 0 ≤ 128) : Wp Pg 0 (204, L, (.int a4) :: (.int a3) :: (.int a2) :: (.long a1) :: a0 :: (.ref a) :: S, H, k, n) Q ↔ Wp Pg 2 (0, [.val (.ref a), .val a0, .val (.long a1), .second, .val (.int a2), .val (.int a3), .val (.int a4)], [], H, 0, 0) fun r => Wp Pg 0 (207, L, r.1.toList ++ S, r.2, k + 0, n + 0) Q := gCall d0_204 rfl rfl (M := 26) (W := 1) (C := 16) (Sl := 128) (c := 0) (s := 0) ⟨rfl, by decide, by decide, rfl, rfl, rfl, rfl⟩ (by show entL [(.ref a), a0, (.long a1), (.int a2), (.int a3), (.int a4)] 7 = _; rw [entL, laid_c1 rfl, laid_c1 h_a0, laid_c2 rfl, laid_c1 rfl, laid_c1 rfl, laid_c1 rfl, laid_nil]; rfl) h1 h2 h3 h4
theorem d0_207 : decode (Pg.mt 0).code 207 = .ok (.astore 24, 2) := by decide +kernel
theorem w0_207 {L : List Slot} {S : List Value} {H : Hp} {k : Nat} {n : Nat} {Q : MRes → Prop} {l0 l1 l2 l3 l4 l5 l6 l7 l8 l9 l10 l11 l12 l13 l14 l15 l16 l17 l18 l19 l20 l21 l22 l23 : Slot} {o : Slot} {v : Value} (ho : s1 o = true) (hv : isA v = true) : Wp Pg 0 (207, l0 :: l1 :: l2 :: l3 :: l4 :: l5 :: l6 :: l7 :: l8 :: l9 :: l10 :: l11 :: l12 :: l13 :: l14 :: l15 :: l16 :: l17 :: l18 :: l19 :: l20 :: l21 :: l22 :: l23 :: o :: L, v :: S, H, k, n) Q ↔ Wp Pg 0 (209, l0 :: l1 :: l2 :: l3 :: l4 :: l5 :: l6 :: l7 :: l8 :: l9 :: l10 :: l11 :: l12 :: l13 :: l14 :: l15 :: l16 :: l17 :: l18 :: l19 :: l20 :: l21 :: l22 :: l23 :: .val v :: L, S, H, k, n) Q := gP d0_207 rfl (st1_eq (o := o) rfl ho hv)
theorem d0_209 : decode (Pg.mt 0).code 209 = .ok (.aload 11, 2) := by decide +kernel
theorem w0_209 {L : List Slot} {S : List Value} {H : Hp} {k : Nat} {n : Nat} {Q : MRes → Prop} {l0 l1 l2 l3 l4 l5 l6 l7 l8 l9 l10 : Slot} {v : Value} (hv : isA v = true) : Wp Pg 0 (209, l0 :: l1 :: l2 :: l3 :: l4 :: l5 :: l6 :: l7 :: l8 :: l9 :: l10 :: .val v :: L, S, H, k, n) Q ↔ Wp Pg 0 (211, l0 :: l1 :: l2 :: l3 :: l4 :: l5 :: l6 :: l7 :: l8 :: l9 :: l10 :: .val v :: L, v :: S, H, k, n) Q := gP d0_209 rfl (by show (if isA v = true then _ else _) = _; rw [if_pos hv])
theorem d0_211 : decode (Pg.mt 0).code 211 = .ok (.aload 12, 2) := by decide +kernel
theorem w0_211 {L : List Slot} {S : List Value} {H : Hp} {k : Nat} {n : Nat} {Q : MRes → Prop} {l0 l1 l2 l3 l4 l5 l6 l7 l8 l9 l10 l11 : Slot} {v : Value} (hv : isA v = true) : Wp Pg 0 (211, l0 :: l1 :: l2 :: l3 :: l4 :: l5 :: l6 :: l7 :: l8 :: l9 :: l10 :: l11 :: .val v :: L, S, H, k, n) Q ↔ Wp Pg 0 (213, l0 :: l1 :: l2 :: l3 :: l4 :: l5 :: l6 :: l7 :: l8 :: l9 :: l10 :: l11 :: .val v :: L, v :: S, H, k, n) Q := gP d0_211 rfl (by show (if isA v = true then _ else _) = _; rw [if_pos hv])
theorem d0_213 : decode (Pg.mt 0).code 213 = .ok (.if_acmp .ne 36, 3) := by decide +kernel
theorem w0_213 {L : List Slot} {S : List Value} {H : Hp} {k : Nat} {n : Nat} {Q : MRes → Prop} {v u : Value} (hv : isA v = true) (hu : isA u = true) : Wp Pg 0 (213, L, u :: v :: S, H, k, n) Q ↔ if v ≠ u then Wp Pg 0 (249, L, S, H, k, n) Q else Wp Pg 0 (216, L, S, H, k, n) Q := gAcmp hv hu d0_213 (by decide) (by decide) rfl
theorem d0_216 : decode (Pg.mt 0).code 216 = .ok (.lload 13, 2) := by decide +kernel
theorem w0_216 {L : List Slot} {S : List Value} {H : Hp} {k : Nat} {n : Nat} {Q : MRes → Prop} {l0 l1 l2 l3 l4 l5 l6 l7 l8 l9 l10 l11 l12 : Slot} {x : Int64} : Wp Pg 0 (216, l0 :: l1 :: l2 :: l3 :: l4 :: l5 :: l6 :: l7 :: l8 :: l9 :: l10 :: l11 :: l12 :: .val (.long x) :: L, S, H, k, n) Q ↔ Wp Pg 0 (218, l0 :: l1 :: l2 :: l3 :: l4 :: l5 :: l6 :: l7 :: l8 :: l9 :: l10 :: l11 :: l12 :: .val (.long x) :: L, (.long x) :: S, H, k, n) Q := gP d0_216 rfl rfl
theorem d0_218 : decode (Pg.mt 0).code 218 = .ok (.lload 15, 2) := by decide +kernel
theorem w0_218 {L : List Slot} {S : List Value} {H : Hp} {k : Nat} {n : Nat} {Q : MRes → Prop} {l0 l1 l2 l3 l4 l5 l6 l7 l8 l9 l10 l11 l12 l13 l14 : Slot} {x : Int64} : Wp Pg 0 (218, l0 :: l1 :: l2 :: l3 :: l4 :: l5 :: l6 :: l7 :: l8 :: l9 :: l10 :: l11 :: l12 :: l13 :: l14 :: .val (.long x) :: L, S, H, k, n) Q ↔ Wp Pg 0 (220, l0 :: l1 :: l2 :: l3 :: l4 :: l5 :: l6 :: l7 :: l8 :: l9 :: l10 :: l11 :: l12 :: l13 :: l14 :: .val (.long x) :: L, (.long x) :: S, H, k, n) Q := gP d0_218 rfl rfl
theorem d0_220 : decode (Pg.mt 0).code 220 = .ok (.lcmp, 1) := by decide +kernel
theorem w0_220 {L : List Slot} {S : List Value} {H : Hp} {k : Nat} {n : Nat} {Q : MRes → Prop} {x y : Int64} : Wp Pg 0 (220, L, (.long y) :: (.long x) :: S, H, k, n) Q ↔ Wp Pg 0 (221, L, (.int (XT.cmpL x y)) :: S, H, k, n) Q := gP d0_220 rfl rfl
theorem d0_221 : decode (Pg.mt 0).code 221 = .ok (.ifCond .ne 28, 3) := by decide +kernel
theorem w0_221 {L : List Slot} {S : List Value} {H : Hp} {k : Nat} {n : Nat} {Q : MRes → Prop} {x : Int32} : Wp Pg 0 (221, L, (.int x) :: S, H, k, n) Q ↔ if ¬ x = 0 then Wp Pg 0 (249, L, S, H, k, n) Q else Wp Pg 0 (224, L, S, H, k, n) Q := gIf d0_221 (by decide) (by decide) (c_ne x)
theorem d0_224 : decode (Pg.mt 0).code 224 = .ok (.iload 17, 2) := by decide +kernel
theorem w0_224 {L : List Slot} {S : List Value} {H : Hp} {k : Nat} {n : Nat} {Q : MRes → Prop} {l0 l1 l2 l3 l4 l5 l6 l7 l8 l9 l10 l11 l12 l13 l14 l15 l16 : Slot} {x : Int32} : Wp Pg 0 (224, l0 :: l1 :: l2 :: l3 :: l4 :: l5 :: l6 :: l7 :: l8 :: l9 :: l10 :: l11 :: l12 :: l13 :: l14 :: l15 :: l16 :: .val (.int x) :: L, S, H, k, n) Q ↔ Wp Pg 0 (226, l0 :: l1 :: l2 :: l3 :: l4 :: l5 :: l6 :: l7 :: l8 :: l9 :: l10 :: l11 :: l12 :: l13 :: l14 :: l15 :: l16 :: .val (.int x) :: L, (.int x) :: S, H, k, n) Q := gP d0_224 rfl rfl
theorem d0_226 : decode (Pg.mt 0).code 226 = .ok (.iload 18, 2) := by decide +kernel
theorem w0_226 {L : List Slot} {S : List Value} {H : Hp} {k : Nat} {n : Nat} {Q : MRes → Prop} {l0 l1 l2 l3 l4 l5 l6 l7 l8 l9 l10 l11 l12 l13 l14 l15 l16 l17 : Slot} {x : Int32} : Wp Pg 0 (226, l0 :: l1 :: l2 :: l3 :: l4 :: l5 :: l6 :: l7 :: l8 :: l9 :: l10 :: l11 :: l12 :: l13 :: l14 :: l15 :: l16 :: l17 :: .val (.int x) :: L, S, H, k, n) Q ↔ Wp Pg 0 (228, l0 :: l1 :: l2 :: l3 :: l4 :: l5 :: l6 :: l7 :: l8 :: l9 :: l10 :: l11 :: l12 :: l13 :: l14 :: l15 :: l16 :: l17 :: .val (.int x) :: L, (.int x) :: S, H, k, n) Q := gP d0_226 rfl rfl
theorem d0_228 : decode (Pg.mt 0).code 228 = .ok (.if_icmp .ne 21, 3) := by decide +kernel
theorem w0_228 {L : List Slot} {S : List Value} {H : Hp} {k : Nat} {n : Nat} {Q : MRes → Prop} {x y : Int32} : Wp Pg 0 (228, L, (.int y) :: (.int x) :: S, H, k, n) Q ↔ if ¬ x = y then Wp Pg 0 (249, L, S, H, k, n) Q else Wp Pg 0 (231, L, S, H, k, n) Q := gIcmp d0_228 (by decide) (by decide) (i_ne x y)
theorem d0_231 : decode (Pg.mt 0).code 231 = .ok (.iload 19, 2) := by decide +kernel
theorem w0_231 {L : List Slot} {S : List Value} {H : Hp} {k : Nat} {n : Nat} {Q : MRes → Prop} {l0 l1 l2 l3 l4 l5 l6 l7 l8 l9 l10 l11 l12 l13 l14 l15 l16 l17 l18 : Slot} {x : Int32} : Wp Pg 0 (231, l0 :: l1 :: l2 :: l3 :: l4 :: l5 :: l6 :: l7 :: l8 :: l9 :: l10 :: l11 :: l12 :: l13 :: l14 :: l15 :: l16 :: l17 :: l18 :: .val (.int x) :: L, S, H, k, n) Q ↔ Wp Pg 0 (233, l0 :: l1 :: l2 :: l3 :: l4 :: l5 :: l6 :: l7 :: l8 :: l9 :: l10 :: l11 :: l12 :: l13 :: l14 :: l15 :: l16 :: l17 :: l18 :: .val (.int x) :: L, (.int x) :: S, H, k, n) Q := gP d0_231 rfl rfl
theorem d0_233 : decode (Pg.mt 0).code 233 = .ok (.iload 20, 2) := by decide +kernel
theorem w0_233 {L : List Slot} {S : List Value} {H : Hp} {k : Nat} {n : Nat} {Q : MRes → Prop} {l0 l1 l2 l3 l4 l5 l6 l7 l8 l9 l10 l11 l12 l13 l14 l15 l16 l17 l18 l19 : Slot} {x : Int32} : Wp Pg 0 (233, l0 :: l1 :: l2 :: l3 :: l4 :: l5 :: l6 :: l7 :: l8 :: l9 :: l10 :: l11 :: l12 :: l13 :: l14 :: l15 :: l16 :: l17 :: l18 :: l19 :: .val (.int x) :: L, S, H, k, n) Q ↔ Wp Pg 0 (235, l0 :: l1 :: l2 :: l3 :: l4 :: l5 :: l6 :: l7 :: l8 :: l9 :: l10 :: l11 :: l12 :: l13 :: l14 :: l15 :: l16 :: l17 :: l18 :: l19 :: .val (.int x) :: L, (.int x) :: S, H, k, n) Q := gP d0_233 rfl rfl
theorem d0_235 : decode (Pg.mt 0).code 235 = .ok (.if_icmp .ne 14, 3) := by decide +kernel
theorem w0_235 {L : List Slot} {S : List Value} {H : Hp} {k : Nat} {n : Nat} {Q : MRes → Prop} {x y : Int32} : Wp Pg 0 (235, L, (.int y) :: (.int x) :: S, H, k, n) Q ↔ if ¬ x = y then Wp Pg 0 (249, L, S, H, k, n) Q else Wp Pg 0 (238, L, S, H, k, n) Q := gIcmp d0_235 (by decide) (by decide) (i_ne x y)
theorem d0_238 : decode (Pg.mt 0).code 238 = .ok (.iload 21, 2) := by decide +kernel
theorem w0_238 {L : List Slot} {S : List Value} {H : Hp} {k : Nat} {n : Nat} {Q : MRes → Prop} {l0 l1 l2 l3 l4 l5 l6 l7 l8 l9 l10 l11 l12 l13 l14 l15 l16 l17 l18 l19 l20 : Slot} {x : Int32} : Wp Pg 0 (238, l0 :: l1 :: l2 :: l3 :: l4 :: l5 :: l6 :: l7 :: l8 :: l9 :: l10 :: l11 :: l12 :: l13 :: l14 :: l15 :: l16 :: l17 :: l18 :: l19 :: l20 :: .val (.int x) :: L, S, H, k, n) Q ↔ Wp Pg 0 (240, l0 :: l1 :: l2 :: l3 :: l4 :: l5 :: l6 :: l7 :: l8 :: l9 :: l10 :: l11 :: l12 :: l13 :: l14 :: l15 :: l16 :: l17 :: l18 :: l19 :: l20 :: .val (.int x) :: L, (.int x) :: S, H, k, n) Q := gP d0_238 rfl rfl
theorem d0_240 : decode (Pg.mt 0).code 240 = .ok (.iload 22, 2) := by decide +kernel
theorem w0_240 {L : List Slot} {S : List Value} {H : Hp} {k : Nat} {n : Nat} {Q : MRes → Prop} {l0 l1 l2 l3 l4 l5 l6 l7 l8 l9 l10 l11 l12 l13 l14 l15 l16 l17 l18 l19 l20 l21 : Slot} {x : Int32} : Wp Pg 0 (240, l0 :: l1 :: l2 :: l3 :: l4 :: l5 :: l6 :: l7 :: l8 :: l9 :: l10 :: l11 :: l12 :: l13 :: l14 :: l15 :: l16 :: l17 :: l18 :: l19 :: l20 :: l21 :: .val (.int x) :: L, S, H, k, n) Q ↔ Wp Pg 0 (242, l0 :: l1 :: l2 :: l3 :: l4 :: l5 :: l6 :: l7 :: l8 :: l9 :: l10 :: l11 :: l12 :: l13 :: l14 :: l15 :: l16 :: l17 :: l18 :: l19 :: l20 :: l21 :: .val (.int x) :: L, (.int x) :: S, H, k, n) Q := gP d0_240 rfl rfl
theorem d0_242 : decode (Pg.mt 0).code 242 = .ok (.if_icmp .ne 7, 3) := by decide +kernel
theorem w0_242 {L : List Slot} {S : List Value} {H : Hp} {k : Nat} {n : Nat} {Q : MRes → Prop} {x y : Int32} : Wp Pg 0 (242, L, (.int y) :: (.int x) :: S, H, k, n) Q ↔ if ¬ x = y then Wp Pg 0 (249, L, S, H, k, n) Q else Wp Pg 0 (245, L, S, H, k, n) Q := gIcmp d0_242 (by decide) (by decide) (i_ne x y)
theorem d0_245 : decode (Pg.mt 0).code 245 = .ok (.iconst 1, 1) := by decide +kernel
theorem w0_245 {L : List Slot} {S : List Value} {H : Hp} {k : Nat} {n : Nat} {Q : MRes → Prop} : Wp Pg 0 (245, L, S, H, k, n) Q ↔ Wp Pg 0 (246, L, (.int 1) :: S, H, k, n) Q := gP d0_245 rfl rfl
theorem d0_246 : decode (Pg.mt 0).code 246 = .ok (.goto 4, 3) := by decide +kernel
theorem w0_246 {L : List Slot} {S : List Value} {H : Hp} {k : Nat} {n : Nat} {Q : MRes → Prop} : Wp Pg 0 (246, L, S, H, k, n) Q ↔ Wp Pg 0 (250, L, S, H, k, n) Q := gGoto d0_246 (by decide) (by decide)
theorem d0_249 : decode (Pg.mt 0).code 249 = .ok (.iconst 0, 1) := by decide +kernel
theorem w0_249 {L : List Slot} {S : List Value} {H : Hp} {k : Nat} {n : Nat} {Q : MRes → Prop} : Wp Pg 0 (249, L, S, H, k, n) Q ↔ Wp Pg 0 (250, L, (.int 0) :: S, H, k, n) Q := gP d0_249 rfl rfl
theorem d0_250 : decode (Pg.mt 0).code 250 = .ok (.istore 25, 2) := by decide +kernel
theorem w0_250 {L : List Slot} {S : List Value} {H : Hp} {k : Nat} {n : Nat} {Q : MRes → Prop} {l0 l1 l2 l3 l4 l5 l6 l7 l8 l9 l10 l11 l12 l13 l14 l15 l16 l17 l18 l19 l20 l21 l22 l23 l24 : Slot} {o : Slot} {x : Int32} (ho : s1 o = true) : Wp Pg 0 (250, l0 :: l1 :: l2 :: l3 :: l4 :: l5 :: l6 :: l7 :: l8 :: l9 :: l10 :: l11 :: l12 :: l13 :: l14 :: l15 :: l16 :: l17 :: l18 :: l19 :: l20 :: l21 :: l22 :: l23 :: l24 :: o :: L, (.int x) :: S, H, k, n) Q ↔ Wp Pg 0 (252, l0 :: l1 :: l2 :: l3 :: l4 :: l5 :: l6 :: l7 :: l8 :: l9 :: l10 :: l11 :: l12 :: l13 :: l14 :: l15 :: l16 :: l17 :: l18 :: l19 :: l20 :: l21 :: l22 :: l23 :: l24 :: .val (.int x) :: L, S, H, k, n) Q := gP d0_250 rfl (st1_eq (o := o) rfl ho rfl)
theorem d0_252 : decode (Pg.mt 0).code 252 = .ok (.aload 23, 2) := by decide +kernel
theorem w0_252 {L : List Slot} {S : List Value} {H : Hp} {k : Nat} {n : Nat} {Q : MRes → Prop} {l0 l1 l2 l3 l4 l5 l6 l7 l8 l9 l10 l11 l12 l13 l14 l15 l16 l17 l18 l19 l20 l21 l22 : Slot} {v : Value} (hv : isA v = true) : Wp Pg 0 (252, l0 :: l1 :: l2 :: l3 :: l4 :: l5 :: l6 :: l7 :: l8 :: l9 :: l10 :: l11 :: l12 :: l13 :: l14 :: l15 :: l16 :: l17 :: l18 :: l19 :: l20 :: l21 :: l22 :: .val v :: L, S, H, k, n) Q ↔ Wp Pg 0 (254, l0 :: l1 :: l2 :: l3 :: l4 :: l5 :: l6 :: l7 :: l8 :: l9 :: l10 :: l11 :: l12 :: l13 :: l14 :: l15 :: l16 :: l17 :: l18 :: l19 :: l20 :: l21 :: l22 :: .val v :: L, v :: S, H, k, n) Q := gP d0_252 rfl (by show (if isA v = true then _ else _) = _; rw [if_pos hv])
theorem d0_254 : decode (Pg.mt 0).code 254 = .ok (.aload 24, 2) := by decide +kernel
theorem w0_254 {L : List Slot} {S : List Value} {H : Hp} {k : Nat} {n : Nat} {Q : MRes → Prop} {l0 l1 l2 l3 l4 l5 l6 l7 l8 l9 l10 l11 l12 l13 l14 l15 l16 l17 l18 l19 l20 l21 l22 l23 : Slot} {v : Value} (hv : isA v = true) : Wp Pg 0 (254, l0 :: l1 :: l2 :: l3 :: l4 :: l5 :: l6 :: l7 :: l8 :: l9 :: l10 :: l11 :: l12 :: l13 :: l14 :: l15 :: l16 :: l17 :: l18 :: l19 :: l20 :: l21 :: l22 :: l23 :: .val v :: L, S, H, k, n) Q ↔ Wp Pg 0 (256, l0 :: l1 :: l2 :: l3 :: l4 :: l5 :: l6 :: l7 :: l8 :: l9 :: l10 :: l11 :: l12 :: l13 :: l14 :: l15 :: l16 :: l17 :: l18 :: l19 :: l20 :: l21 :: l22 :: l23 :: .val v :: L, v :: S, H, k, n) Q := gP d0_254 rfl (by show (if isA v = true then _ else _) = _; rw [if_pos hv])
theorem d0_256 : decode (Pg.mt 0).code 256 = .ok (.invokevirtual 32, 3) := by decide +kernel
theorem w0_256 {L : List Slot} {S : List Value} {H : Hp} {k : Nat} {n : Nat} {Q : MRes → Prop} {a0 : Value} {a : Nat}  (ho : kdOf H a = some 1) (h_a0 : cat a0 = 1) (h1 : L.length = 26) (h2 : wt S ≤ 0) (h3 : k + 0 ≤ 16) (h4 : n + 0 ≤ 128) : Wp Pg 0 (256, L, a0 :: (.ref a) :: S, H, k, n) Q ↔ Wp Pg 3 (0, [.val (.ref a), .val a0, .unset], [], H, 0, 0) fun r => Wp Pg 0 (259, L, r.1.toList ++ S, r.2, k + 0, n + 0) Q := gVirt (np := 1) (cid := 1) d0_256 rfl rfl rfl (M := 26) (W := 0) (C := 16) (Sl := 128) (c := 0) (s := 0) ⟨rfl, by decide, by decide, rfl, rfl, rfl, rfl⟩ (by show entL [(.ref a), a0] 3 = _; rw [entL, laid_c1 rfl, laid_c1 h_a0, laid_nil]; rfl) ho h1 h2 h3 h4
theorem d0_259 : decode (Pg.mt 0).code 259 = .ok (.iload 25, 2) := by decide +kernel
theorem w0_259 {L : List Slot} {S : List Value} {H : Hp} {k : Nat} {n : Nat} {Q : MRes → Prop} {l0 l1 l2 l3 l4 l5 l6 l7 l8 l9 l10 l11 l12 l13 l14 l15 l16 l17 l18 l19 l20 l21 l22 l23 l24 : Slot} {x : Int32} : Wp Pg 0 (259, l0 :: l1 :: l2 :: l3 :: l4 :: l5 :: l6 :: l7 :: l8 :: l9 :: l10 :: l11 :: l12 :: l13 :: l14 :: l15 :: l16 :: l17 :: l18 :: l19 :: l20 :: l21 :: l22 :: l23 :: l24 :: .val (.int x) :: L, S, H, k, n) Q ↔ Wp Pg 0 (261, l0 :: l1 :: l2 :: l3 :: l4 :: l5 :: l6 :: l7 :: l8 :: l9 :: l10 :: l11 :: l12 :: l13 :: l14 :: l15 :: l16 :: l17 :: l18 :: l19 :: l20 :: l21 :: l22 :: l23 :: l24 :: .val (.int x) :: L, (.int x) :: S, H, k, n) Q := gP d0_259 rfl rfl
theorem d0_261 : decode (Pg.mt 0).code 261 = .ok (.if_icmp .ne 51, 3) := by decide +kernel
theorem w0_261 {L : List Slot} {S : List Value} {H : Hp} {k : Nat} {n : Nat} {Q : MRes → Prop} {x y : Int32} : Wp Pg 0 (261, L, (.int y) :: (.int x) :: S, H, k, n) Q ↔ if ¬ x = y then Wp Pg 0 (312, L, S, H, k, n) Q else Wp Pg 0 (264, L, S, H, k, n) Q := gIcmp d0_261 (by decide) (by decide) (i_ne x y)
theorem d0_264 : decode (Pg.mt 0).code 264 = .ok (.aload 24, 2) := by decide +kernel
theorem w0_264 {L : List Slot} {S : List Value} {H : Hp} {k : Nat} {n : Nat} {Q : MRes → Prop} {l0 l1 l2 l3 l4 l5 l6 l7 l8 l9 l10 l11 l12 l13 l14 l15 l16 l17 l18 l19 l20 l21 l22 l23 : Slot} {v : Value} (hv : isA v = true) : Wp Pg 0 (264, l0 :: l1 :: l2 :: l3 :: l4 :: l5 :: l6 :: l7 :: l8 :: l9 :: l10 :: l11 :: l12 :: l13 :: l14 :: l15 :: l16 :: l17 :: l18 :: l19 :: l20 :: l21 :: l22 :: l23 :: .val v :: L, S, H, k, n) Q ↔ Wp Pg 0 (266, l0 :: l1 :: l2 :: l3 :: l4 :: l5 :: l6 :: l7 :: l8 :: l9 :: l10 :: l11 :: l12 :: l13 :: l14 :: l15 :: l16 :: l17 :: l18 :: l19 :: l20 :: l21 :: l22 :: l23 :: .val v :: L, v :: S, H, k, n) Q := gP d0_264 rfl (by show (if isA v = true then _ else _) = _; rw [if_pos hv])
theorem d0_266 : decode (Pg.mt 0).code 266 = .ok (.aload 23, 2) := by decide +kernel
theorem w0_266 {L : List Slot} {S : List Value} {H : Hp} {k : Nat} {n : Nat} {Q : MRes → Prop} {l0 l1 l2 l3 l4 l5 l6 l7 l8 l9 l10 l11 l12 l13 l14 l15 l16 l17 l18 l19 l20 l21 l22 : Slot} {v : Value} (hv : isA v = true) : Wp Pg 0 (266, l0 :: l1 :: l2 :: l3 :: l4 :: l5 :: l6 :: l7 :: l8 :: l9 :: l10 :: l11 :: l12 :: l13 :: l14 :: l15 :: l16 :: l17 :: l18 :: l19 :: l20 :: l21 :: l22 :: .val v :: L, S, H, k, n) Q ↔ Wp Pg 0 (268, l0 :: l1 :: l2 :: l3 :: l4 :: l5 :: l6 :: l7 :: l8 :: l9 :: l10 :: l11 :: l12 :: l13 :: l14 :: l15 :: l16 :: l17 :: l18 :: l19 :: l20 :: l21 :: l22 :: .val v :: L, v :: S, H, k, n) Q := gP d0_266 rfl (by show (if isA v = true then _ else _) = _; rw [if_pos hv])
theorem d0_268 : decode (Pg.mt 0).code 268 = .ok (.invokevirtual 32, 3) := by decide +kernel
theorem w0_268 {L : List Slot} {S : List Value} {H : Hp} {k : Nat} {n : Nat} {Q : MRes → Prop} {a0 : Value} {a : Nat}  (ho : kdOf H a = some 1) (h_a0 : cat a0 = 1) (h1 : L.length = 26) (h2 : wt S ≤ 0) (h3 : k + 0 ≤ 16) (h4 : n + 0 ≤ 128) : Wp Pg 0 (268, L, a0 :: (.ref a) :: S, H, k, n) Q ↔ Wp Pg 3 (0, [.val (.ref a), .val a0, .unset], [], H, 0, 0) fun r => Wp Pg 0 (271, L, r.1.toList ++ S, r.2, k + 0, n + 0) Q := gVirt (np := 1) (cid := 1) d0_268 rfl rfl rfl (M := 26) (W := 0) (C := 16) (Sl := 128) (c := 0) (s := 0) ⟨rfl, by decide, by decide, rfl, rfl, rfl, rfl⟩ (by show entL [(.ref a), a0] 3 = _; rw [entL, laid_c1 rfl, laid_c1 h_a0, laid_nil]; rfl) ho h1 h2 h3 h4
theorem d0_271 : decode (Pg.mt 0).code 271 = .ok (.iload 25, 2) := by decide +kernel
theorem w0_271 {L : List Slot} {S : List Value} {H : Hp} {k : Nat} {n : Nat} {Q : MRes → Prop} {l0 l1 l2 l3 l4 l5 l6 l7 l8 l9 l10 l11 l12 l13 l14 l15 l16 l17 l18 l19 l20 l21 l22 l23 l24 : Slot} {x : Int32} : Wp Pg 0 (271, l0 :: l1 :: l2 :: l3 :: l4 :: l5 :: l6 :: l7 :: l8 :: l9 :: l10 :: l11 :: l12 :: l13 :: l14 :: l15 :: l16 :: l17 :: l18 :: l19 :: l20 :: l21 :: l22 :: l23 :: l24 :: .val (.int x) :: L, S, H, k, n) Q ↔ Wp Pg 0 (273, l0 :: l1 :: l2 :: l3 :: l4 :: l5 :: l6 :: l7 :: l8 :: l9 :: l10 :: l11 :: l12 :: l13 :: l14 :: l15 :: l16 :: l17 :: l18 :: l19 :: l20 :: l21 :: l22 :: l23 :: l24 :: .val (.int x) :: L, (.int x) :: S, H, k, n) Q := gP d0_271 rfl rfl
theorem d0_273 : decode (Pg.mt 0).code 273 = .ok (.if_icmp .ne 39, 3) := by decide +kernel
theorem w0_273 {L : List Slot} {S : List Value} {H : Hp} {k : Nat} {n : Nat} {Q : MRes → Prop} {x y : Int32} : Wp Pg 0 (273, L, (.int y) :: (.int x) :: S, H, k, n) Q ↔ if ¬ x = y then Wp Pg 0 (312, L, S, H, k, n) Q else Wp Pg 0 (276, L, S, H, k, n) Q := gIcmp d0_273 (by decide) (by decide) (i_ne x y)
theorem d0_276 : decode (Pg.mt 0).code 276 = .ok (.aload 23, 2) := by decide +kernel
theorem w0_276 {L : List Slot} {S : List Value} {H : Hp} {k : Nat} {n : Nat} {Q : MRes → Prop} {l0 l1 l2 l3 l4 l5 l6 l7 l8 l9 l10 l11 l12 l13 l14 l15 l16 l17 l18 l19 l20 l21 l22 : Slot} {v : Value} (hv : isA v = true) : Wp Pg 0 (276, l0 :: l1 :: l2 :: l3 :: l4 :: l5 :: l6 :: l7 :: l8 :: l9 :: l10 :: l11 :: l12 :: l13 :: l14 :: l15 :: l16 :: l17 :: l18 :: l19 :: l20 :: l21 :: l22 :: .val v :: L, S, H, k, n) Q ↔ Wp Pg 0 (278, l0 :: l1 :: l2 :: l3 :: l4 :: l5 :: l6 :: l7 :: l8 :: l9 :: l10 :: l11 :: l12 :: l13 :: l14 :: l15 :: l16 :: l17 :: l18 :: l19 :: l20 :: l21 :: l22 :: .val v :: L, v :: S, H, k, n) Q := gP d0_276 rfl (by show (if isA v = true then _ else _) = _; rw [if_pos hv])
theorem d0_278 : decode (Pg.mt 0).code 278 = .ok (.aload 23, 2) := by decide +kernel
theorem w0_278 {L : List Slot} {S : List Value} {H : Hp} {k : Nat} {n : Nat} {Q : MRes → Prop} {l0 l1 l2 l3 l4 l5 l6 l7 l8 l9 l10 l11 l12 l13 l14 l15 l16 l17 l18 l19 l20 l21 l22 : Slot} {v : Value} (hv : isA v = true) : Wp Pg 0 (278, l0 :: l1 :: l2 :: l3 :: l4 :: l5 :: l6 :: l7 :: l8 :: l9 :: l10 :: l11 :: l12 :: l13 :: l14 :: l15 :: l16 :: l17 :: l18 :: l19 :: l20 :: l21 :: l22 :: .val v :: L, S, H, k, n) Q ↔ Wp Pg 0 (280, l0 :: l1 :: l2 :: l3 :: l4 :: l5 :: l6 :: l7 :: l8 :: l9 :: l10 :: l11 :: l12 :: l13 :: l14 :: l15 :: l16 :: l17 :: l18 :: l19 :: l20 :: l21 :: l22 :: .val v :: L, v :: S, H, k, n) Q := gP d0_278 rfl (by show (if isA v = true then _ else _) = _; rw [if_pos hv])
theorem d0_280 : decode (Pg.mt 0).code 280 = .ok (.invokevirtual 32, 3) := by decide +kernel
theorem w0_280 {L : List Slot} {S : List Value} {H : Hp} {k : Nat} {n : Nat} {Q : MRes → Prop} {a0 : Value} {a : Nat}  (ho : kdOf H a = some 1) (h_a0 : cat a0 = 1) (h1 : L.length = 26) (h2 : wt S ≤ 0) (h3 : k + 0 ≤ 16) (h4 : n + 0 ≤ 128) : Wp Pg 0 (280, L, a0 :: (.ref a) :: S, H, k, n) Q ↔ Wp Pg 3 (0, [.val (.ref a), .val a0, .unset], [], H, 0, 0) fun r => Wp Pg 0 (283, L, r.1.toList ++ S, r.2, k + 0, n + 0) Q := gVirt (np := 1) (cid := 1) d0_280 rfl rfl rfl (M := 26) (W := 0) (C := 16) (Sl := 128) (c := 0) (s := 0) ⟨rfl, by decide, by decide, rfl, rfl, rfl, rfl⟩ (by show entL [(.ref a), a0] 3 = _; rw [entL, laid_c1 rfl, laid_c1 h_a0, laid_nil]; rfl) ho h1 h2 h3 h4
theorem d0_283 : decode (Pg.mt 0).code 283 = .ok (.ifCond .eq 29, 3) := by decide +kernel
theorem w0_283 {L : List Slot} {S : List Value} {H : Hp} {k : Nat} {n : Nat} {Q : MRes → Prop} {x : Int32} : Wp Pg 0 (283, L, (.int x) :: S, H, k, n) Q ↔ if x = 0 then Wp Pg 0 (312, L, S, H, k, n) Q else Wp Pg 0 (286, L, S, H, k, n) Q := gIf d0_283 (by decide) (by decide) (c_eq x)
theorem d0_286 : decode (Pg.mt 0).code 286 = .ok (.aload 23, 2) := by decide +kernel
theorem w0_286 {L : List Slot} {S : List Value} {H : Hp} {k : Nat} {n : Nat} {Q : MRes → Prop} {l0 l1 l2 l3 l4 l5 l6 l7 l8 l9 l10 l11 l12 l13 l14 l15 l16 l17 l18 l19 l20 l21 l22 : Slot} {v : Value} (hv : isA v = true) : Wp Pg 0 (286, l0 :: l1 :: l2 :: l3 :: l4 :: l5 :: l6 :: l7 :: l8 :: l9 :: l10 :: l11 :: l12 :: l13 :: l14 :: l15 :: l16 :: l17 :: l18 :: l19 :: l20 :: l21 :: l22 :: .val v :: L, S, H, k, n) Q ↔ Wp Pg 0 (288, l0 :: l1 :: l2 :: l3 :: l4 :: l5 :: l6 :: l7 :: l8 :: l9 :: l10 :: l11 :: l12 :: l13 :: l14 :: l15 :: l16 :: l17 :: l18 :: l19 :: l20 :: l21 :: l22 :: .val v :: L, v :: S, H, k, n) Q := gP d0_286 rfl (by show (if isA v = true then _ else _) = _; rw [if_pos hv])
theorem d0_288 : decode (Pg.mt 0).code 288 = .ok (.aconst_null, 1) := by decide +kernel
theorem w0_288 {L : List Slot} {S : List Value} {H : Hp} {k : Nat} {n : Nat} {Q : MRes → Prop} : Wp Pg 0 (288, L, S, H, k, n) Q ↔ Wp Pg 0 (289, L, .null :: S, H, k, n) Q := gP d0_288 rfl rfl
theorem d0_289 : decode (Pg.mt 0).code 289 = .ok (.invokevirtual 32, 3) := by decide +kernel
theorem w0_289 {L : List Slot} {S : List Value} {H : Hp} {k : Nat} {n : Nat} {Q : MRes → Prop} {a0 : Value} {a : Nat}  (ho : kdOf H a = some 1) (h_a0 : cat a0 = 1) (h1 : L.length = 26) (h2 : wt S ≤ 0) (h3 : k + 0 ≤ 16) (h4 : n + 0 ≤ 128) : Wp Pg 0 (289, L, a0 :: (.ref a) :: S, H, k, n) Q ↔ Wp Pg 3 (0, [.val (.ref a), .val a0, .unset], [], H, 0, 0) fun r => Wp Pg 0 (292, L, r.1.toList ++ S, r.2, k + 0, n + 0) Q := gVirt (np := 1) (cid := 1) d0_289 rfl rfl rfl (M := 26) (W := 0) (C := 16) (Sl := 128) (c := 0) (s := 0) ⟨rfl, by decide, by decide, rfl, rfl, rfl, rfl⟩ (by show entL [(.ref a), a0] 3 = _; rw [entL, laid_c1 rfl, laid_c1 h_a0, laid_nil]; rfl) ho h1 h2 h3 h4
theorem d0_292 : decode (Pg.mt 0).code 292 = .ok (.ifCond .ne 20, 3) := by decide +kernel
theorem w0_292 {L : List Slot} {S : List Value} {H : Hp} {k : Nat} {n : Nat} {Q : MRes → Prop} {x : Int32} : Wp Pg 0 (292, L, (.int x) :: S, H, k, n) Q ↔ if ¬ x = 0 then Wp Pg 0 (312, L, S, H, k, n) Q else Wp Pg 0 (295, L, S, H, k, n) Q := gIf d0_292 (by decide) (by decide) (c_ne x)
theorem d0_295 : decode (Pg.mt 0).code 295 = .ok (.aload 23, 2) := by decide +kernel
theorem w0_295 {L : List Slot} {S : List Value} {H : Hp} {k : Nat} {n : Nat} {Q : MRes → Prop} {l0 l1 l2 l3 l4 l5 l6 l7 l8 l9 l10 l11 l12 l13 l14 l15 l16 l17 l18 l19 l20 l21 l22 : Slot} {v : Value} (hv : isA v = true) : Wp Pg 0 (295, l0 :: l1 :: l2 :: l3 :: l4 :: l5 :: l6 :: l7 :: l8 :: l9 :: l10 :: l11 :: l12 :: l13 :: l14 :: l15 :: l16 :: l17 :: l18 :: l19 :: l20 :: l21 :: l22 :: .val v :: L, S, H, k, n) Q ↔ Wp Pg 0 (297, l0 :: l1 :: l2 :: l3 :: l4 :: l5 :: l6 :: l7 :: l8 :: l9 :: l10 :: l11 :: l12 :: l13 :: l14 :: l15 :: l16 :: l17 :: l18 :: l19 :: l20 :: l21 :: l22 :: .val v :: L, v :: S, H, k, n) Q := gP d0_295 rfl (by show (if isA v = true then _ else _) = _; rw [if_pos hv])
theorem d0_297 : decode (Pg.mt 0).code 297 = .ok (.lload 13, 2) := by decide +kernel
theorem w0_297 {L : List Slot} {S : List Value} {H : Hp} {k : Nat} {n : Nat} {Q : MRes → Prop} {l0 l1 l2 l3 l4 l5 l6 l7 l8 l9 l10 l11 l12 : Slot} {x : Int64} : Wp Pg 0 (297, l0 :: l1 :: l2 :: l3 :: l4 :: l5 :: l6 :: l7 :: l8 :: l9 :: l10 :: l11 :: l12 :: .val (.long x) :: L, S, H, k, n) Q ↔ Wp Pg 0 (299, l0 :: l1 :: l2 :: l3 :: l4 :: l5 :: l6 :: l7 :: l8 :: l9 :: l10 :: l11 :: l12 :: .val (.long x) :: L, (.long x) :: S, H, k, n) Q := gP d0_297 rfl rfl
theorem d0_299 : decode (Pg.mt 0).code 299 = .ok (.invokestatic 36, 3) := by decide +kernel
theorem w0_299 {L : List Slot} {S : List Value} {H : Hp} {k : Nat} {n : Nat} {Q : MRes → Prop} {a0 : Int64}  (h1 : L.length = 26) (h2 : wt S ≤ 1) (h3 : k + 1 ≤ 16) (h4 : n + 1 ≤ 128) : Wp Pg 0 (299, L, (.long a0) :: S, H, k, n) Q ↔ Wp Pg 4 (0, [.val (.long a0), .second, .unset], [], H, 0, 0) fun r => Wp Pg 0 (302, L, r.1.toList ++ S, r.2, k + 1, n + 1) Q := gCall d0_299 rfl rfl (M := 26) (W := 1) (C := 16) (Sl := 128) (c := 1) (s := 1) ⟨rfl, by decide, by decide, rfl, rfl, rfl, rfl⟩ (by show entL [(.long a0)] 3 = _; rw [entL, laid_c2 rfl, laid_nil]; rfl) h1 h2 h3 h4
theorem d0_302 : decode (Pg.mt 0).code 302 = .ok (.invokevirtual 32, 3) := by decide +kernel
theorem w0_302 {L : List Slot} {S : List Value} {H : Hp} {k : Nat} {n : Nat} {Q : MRes → Prop} {a0 : Value} {a : Nat}  (ho : kdOf H a = some 1) (h_a0 : cat a0 = 1) (h1 : L.length = 26) (h2 : wt S ≤ 0) (h3 : k + 0 ≤ 16) (h4 : n + 0 ≤ 128) : Wp Pg 0 (302, L, a0 :: (.ref a) :: S, H, k, n) Q ↔ Wp Pg 3 (0, [.val (.ref a), .val a0, .unset], [], H, 0, 0) fun r => Wp Pg 0 (305, L, r.1.toList ++ S, r.2, k + 0, n + 0) Q := gVirt (np := 1) (cid := 1) d0_302 rfl rfl rfl (M := 26) (W := 0) (C := 16) (Sl := 128) (c := 0) (s := 0) ⟨rfl, by decide, by decide, rfl, rfl, rfl, rfl⟩ (by show entL [(.ref a), a0] 3 = _; rw [entL, laid_c1 rfl, laid_c1 h_a0, laid_nil]; rfl) ho h1 h2 h3 h4
theorem d0_305 : decode (Pg.mt 0).code 305 = .ok (.ifCond .ne 7, 3) := by decide +kernel
theorem w0_305 {L : List Slot} {S : List Value} {H : Hp} {k : Nat} {n : Nat} {Q : MRes → Prop} {x : Int32} : Wp Pg 0 (305, L, (.int x) :: S, H, k, n) Q ↔ if ¬ x = 0 then Wp Pg 0 (312, L, S, H, k, n) Q else Wp Pg 0 (308, L, S, H, k, n) Q := gIf d0_305 (by decide) (by decide) (c_ne x)
theorem d0_308 : decode (Pg.mt 0).code 308 = .ok (.iconst 1, 1) := by decide +kernel
theorem w0_308 {L : List Slot} {S : List Value} {H : Hp} {k : Nat} {n : Nat} {Q : MRes → Prop} : Wp Pg 0 (308, L, S, H, k, n) Q ↔ Wp Pg 0 (309, L, (.int 1) :: S, H, k, n) Q := gP d0_308 rfl rfl
theorem d0_309 : decode (Pg.mt 0).code 309 = .ok (.goto 4, 3) := by decide +kernel
theorem w0_309 {L : List Slot} {S : List Value} {H : Hp} {k : Nat} {n : Nat} {Q : MRes → Prop} : Wp Pg 0 (309, L, S, H, k, n) Q ↔ Wp Pg 0 (313, L, S, H, k, n) Q := gGoto d0_309 (by decide) (by decide)
theorem d0_312 : decode (Pg.mt 0).code 312 = .ok (.iconst 0, 1) := by decide +kernel
theorem w0_312 {L : List Slot} {S : List Value} {H : Hp} {k : Nat} {n : Nat} {Q : MRes → Prop} : Wp Pg 0 (312, L, S, H, k, n) Q ↔ Wp Pg 0 (313, L, (.int 0) :: S, H, k, n) Q := gP d0_312 rfl rfl
theorem d0_313 : decode (Pg.mt 0).code 313 = .ok (.ireturn, 1) := by decide +kernel
theorem w0_313 {L : List Slot} {S : List Value} {H : Hp} {k : Nat} {n : Nat} {Q : MRes → Prop} {x : Int32} (h1 : k ≤ 16) (h2 : n ≤ 128) : Wp Pg 0 (313, L, (.int x) :: S, H, k, n) Q ↔ Q (some (.int (x &&& 1)), H) := gRet d0_313 rfl rfl rfl rfl h1 h2
theorem d1_0 : decode (Pg.mt 1).code 0 = .ok (.iload_n 0, 1) := by decide +kernel
theorem w1_0 {L : List Slot} {S : List Value} {H : Hp} {k : Nat} {n : Nat} {Q : MRes → Prop}  {x : Int32} : Wp Pg 1 (0, .val (.int x) :: L, S, H, k, n) Q ↔ Wp Pg 1 (1, .val (.int x) :: L, (.int x) :: S, H, k, n) Q := gP d1_0 rfl rfl
theorem d1_1 : decode (Pg.mt 1).code 1 = .ok (.iload_n 1, 1) := by decide +kernel
theorem w1_1 {L : List Slot} {S : List Value} {H : Hp} {k : Nat} {n : Nat} {Q : MRes → Prop} {l0 : Slot} {x : Int32} : Wp Pg 1 (1, l0 :: .val (.int x) :: L, S, H, k, n) Q ↔ Wp Pg 1 (2, l0 :: .val (.int x) :: L, (.int x) :: S, H, k, n) Q := gP d1_1 rfl rfl
theorem d1_2 : decode (Pg.mt 1).code 2 = .ok (.if_icmp .lt 7, 3) := by decide +kernel
theorem w1_2 {L : List Slot} {S : List Value} {H : Hp} {k : Nat} {n : Nat} {Q : MRes → Prop} {x y : Int32} : Wp Pg 1 (2, L, (.int y) :: (.int x) :: S, H, k, n) Q ↔ if x < y then Wp Pg 1 (9, L, S, H, k, n) Q else Wp Pg 1 (5, L, S, H, k, n) Q := gIcmp d1_2 (by decide) (by decide) (i_lt x y)
theorem d1_5 : decode (Pg.mt 1).code 5 = .ok (.iload_n 0, 1) := by decide +kernel
theorem w1_5 {L : List Slot} {S : List Value} {H : Hp} {k : Nat} {n : Nat} {Q : MRes → Prop}  {x : Int32} : Wp Pg 1 (5, .val (.int x) :: L, S, H, k, n) Q ↔ Wp Pg 1 (6, .val (.int x) :: L, (.int x) :: S, H, k, n) Q := gP d1_5 rfl rfl
theorem d1_6 : decode (Pg.mt 1).code 6 = .ok (.goto 4, 3) := by decide +kernel
theorem w1_6 {L : List Slot} {S : List Value} {H : Hp} {k : Nat} {n : Nat} {Q : MRes → Prop} : Wp Pg 1 (6, L, S, H, k, n) Q ↔ Wp Pg 1 (10, L, S, H, k, n) Q := gGoto d1_6 (by decide) (by decide)
theorem d1_9 : decode (Pg.mt 1).code 9 = .ok (.iload_n 1, 1) := by decide +kernel
theorem w1_9 {L : List Slot} {S : List Value} {H : Hp} {k : Nat} {n : Nat} {Q : MRes → Prop} {l0 : Slot} {x : Int32} : Wp Pg 1 (9, l0 :: .val (.int x) :: L, S, H, k, n) Q ↔ Wp Pg 1 (10, l0 :: .val (.int x) :: L, (.int x) :: S, H, k, n) Q := gP d1_9 rfl rfl
theorem d1_10 : decode (Pg.mt 1).code 10 = .ok (.ireturn, 1) := by decide +kernel
theorem w1_10 {L : List Slot} {S : List Value} {H : Hp} {k : Nat} {n : Nat} {Q : MRes → Prop} {x : Int32} (h1 : k ≤ 0) (h2 : n ≤ 0) : Wp Pg 1 (10, L, (.int x) :: S, H, k, n) Q ↔ Q (some (.int (x)), H) := gRet d1_10 rfl rfl rfl rfl h1 h2
theorem d2_0 : decode (Pg.mt 2).code 0 = .ok (.aload_n 0, 1) := by decide +kernel
theorem w2_0 {L : List Slot} {S : List Value} {H : Hp} {k : Nat} {n : Nat} {Q : MRes → Prop}  {v : Value} (hv : isA v = true) : Wp Pg 2 (0, .val v :: L, S, H, k, n) Q ↔ Wp Pg 2 (1, .val v :: L, v :: S, H, k, n) Q := gP d2_0 rfl (by show (if isA v = true then _ else _) = _; rw [if_pos hv])
theorem d2_1 : decode (Pg.mt 2).code 1 = .ok (.invokespecial 7, 3) := by decide +kernel
theorem w2_1 {L : List Slot} {S : List Value} {H : Hp} {k : Nat} {n : Nat} {Q : MRes → Prop} {a : Nat} (h1 : L.length = 7) (h2 : wt S + 12 ≤ 12) : Wp Pg 2 (1, L, (.ref a) :: S, H, k, n) Q ↔ Wp Pg 2 (4, L, S, H, k, n) Q := gObj d2_1 rfl rfl rfl rfl (by decide) h1 h2
theorem d2_4 : decode (Pg.mt 2).code 4 = .ok (.lload_n 2, 1) := by decide +kernel
theorem w2_4 {L : List Slot} {S : List Value} {H : Hp} {k : Nat} {n : Nat} {Q : MRes → Prop} {l0 l1 : Slot} {x : Int64} : Wp Pg 2 (4, l0 :: l1 :: .val (.long x) :: L, S, H, k, n) Q ↔ Wp Pg 2 (5, l0 :: l1 :: .val (.long x) :: L, (.long x) :: S, H, k, n) Q := gP d2_4 rfl rfl
theorem d2_5 : decode (Pg.mt 2).code 5 = .ok (.lconst 0, 1) := by decide +kernel
theorem w2_5 {L : List Slot} {S : List Value} {H : Hp} {k : Nat} {n : Nat} {Q : MRes → Prop} : Wp Pg 2 (5, L, S, H, k, n) Q ↔ Wp Pg 2 (6, L, (.long 0) :: S, H, k, n) Q := gP d2_5 rfl rfl
theorem d2_6 : decode (Pg.mt 2).code 6 = .ok (.lcmp, 1) := by decide +kernel
theorem w2_6 {L : List Slot} {S : List Value} {H : Hp} {k : Nat} {n : Nat} {Q : MRes → Prop} {x y : Int64} : Wp Pg 2 (6, L, (.long y) :: (.long x) :: S, H, k, n) Q ↔ Wp Pg 2 (7, L, (.int (XT.cmpL x y)) :: S, H, k, n) Q := gP d2_6 rfl rfl
theorem d2_7 : decode (Pg.mt 2).code 7 = .ok (.ifCond .lt 24, 3) := by decide +kernel
theorem w2_7 {L : List Slot} {S : List Value} {H : Hp} {k : Nat} {n : Nat} {Q : MRes → Prop} {x : Int32} : Wp Pg 2 (7, L, (.int x) :: S, H, k, n) Q ↔ if x < 0 then Wp Pg 2 (31, L, S, H, k, n) Q else Wp Pg 2 (10, L, S, H, k, n) Q := gIf d2_7 (by decide) (by decide) (c_lt x)
theorem d2_10 : decode (Pg.mt 2).code 10 = .ok (.iload 4, 2) := by decide +kernel
theorem w2_10 {L : List Slot} {S : List Value} {H : Hp} {k : Nat} {n : Nat} {Q : MRes → Prop} {l0 l1 l2 l3 : Slot} {x : Int32} : Wp Pg 2 (10, l0 :: l1 :: l2 :: l3 :: .val (.int x) :: L, S, H, k, n) Q ↔ Wp Pg 2 (12, l0 :: l1 :: l2 :: l3 :: .val (.int x) :: L, (.int x) :: S, H, k, n) Q := gP d2_10 rfl rfl
theorem d2_12 : decode (Pg.mt 2).code 12 = .ok (.ifCond .lt 19, 3) := by decide +kernel
theorem w2_12 {L : List Slot} {S : List Value} {H : Hp} {k : Nat} {n : Nat} {Q : MRes → Prop} {x : Int32} : Wp Pg 2 (12, L, (.int x) :: S, H, k, n) Q ↔ if x < 0 then Wp Pg 2 (31, L, S, H, k, n) Q else Wp Pg 2 (15, L, S, H, k, n) Q := gIf d2_12 (by decide) (by decide) (c_lt x)
theorem d2_15 : decode (Pg.mt 2).code 15 = .ok (.iload 5, 2) := by decide +kernel
theorem w2_15 {L : List Slot} {S : List Value} {H : Hp} {k : Nat} {n : Nat} {Q : MRes → Prop} {l0 l1 l2 l3 l4 : Slot} {x : Int32} : Wp Pg 2 (15, l0 :: l1 :: l2 :: l3 :: l4 :: .val (.int x) :: L, S, H, k, n) Q ↔ Wp Pg 2 (17, l0 :: l1 :: l2 :: l3 :: l4 :: .val (.int x) :: L, (.int x) :: S, H, k, n) Q := gP d2_15 rfl rfl
theorem d2_17 : decode (Pg.mt 2).code 17 = .ok (.iconst (-1), 1) := by decide +kernel
theorem w2_17 {L : List Slot} {S : List Value} {H : Hp} {k : Nat} {n : Nat} {Q : MRes → Prop} : Wp Pg 2 (17, L, S, H, k, n) Q ↔ Wp Pg 2 (18, L, (.int (-1)) :: S, H, k, n) Q := gP d2_17 rfl rfl
theorem d2_18 : decode (Pg.mt 2).code 18 = .ok (.if_icmp .lt 13, 3) := by decide +kernel
theorem w2_18 {L : List Slot} {S : List Value} {H : Hp} {k : Nat} {n : Nat} {Q : MRes → Prop} {x y : Int32} : Wp Pg 2 (18, L, (.int y) :: (.int x) :: S, H, k, n) Q ↔ if x < y then Wp Pg 2 (31, L, S, H, k, n) Q else Wp Pg 2 (21, L, S, H, k, n) Q := gIcmp d2_18 (by decide) (by decide) (i_lt x y)
theorem d2_21 : decode (Pg.mt 2).code 21 = .ok (.iload 6, 2) := by decide +kernel
theorem w2_21 {L : List Slot} {S : List Value} {H : Hp} {k : Nat} {n : Nat} {Q : MRes → Prop} {l0 l1 l2 l3 l4 l5 : Slot} {x : Int32} : Wp Pg 2 (21, l0 :: l1 :: l2 :: l3 :: l4 :: l5 :: .val (.int x) :: L, S, H, k, n) Q ↔ Wp Pg 2 (23, l0 :: l1 :: l2 :: l3 :: l4 :: l5 :: .val (.int x) :: L, (.int x) :: S, H, k, n) Q := gP d2_21 rfl rfl
theorem d2_23 : decode (Pg.mt 2).code 23 = .ok (.ifCond .eq 42, 3) := by decide +kernel
theorem w2_23 {L : List Slot} {S : List Value} {H : Hp} {k : Nat} {n : Nat} {Q : MRes → Prop} {x : Int32} : Wp Pg 2 (23, L, (.int x) :: S, H, k, n) Q ↔ if x = 0 then Wp Pg 2 (65, L, S, H, k, n) Q else Wp Pg 2 (26, L, S, H, k, n) Q := gIf d2_23 (by decide) (by decide) (c_eq x)
theorem d2_26 : decode (Pg.mt 2).code 26 = .ok (.iload 5, 2) := by decide +kernel
theorem w2_26 {L : List Slot} {S : List Value} {H : Hp} {k : Nat} {n : Nat} {Q : MRes → Prop} {l0 l1 l2 l3 l4 : Slot} {x : Int32} : Wp Pg 2 (26, l0 :: l1 :: l2 :: l3 :: l4 :: .val (.int x) :: L, S, H, k, n) Q ↔ Wp Pg 2 (28, l0 :: l1 :: l2 :: l3 :: l4 :: .val (.int x) :: L, (.int x) :: S, H, k, n) Q := gP d2_26 rfl rfl
theorem d2_28 : decode (Pg.mt 2).code 28 = .ok (.ifCond .gt 37, 3) := by decide +kernel
theorem w2_28 {L : List Slot} {S : List Value} {H : Hp} {k : Nat} {n : Nat} {Q : MRes → Prop} {x : Int32} : Wp Pg 2 (28, L, (.int x) :: S, H, k, n) Q ↔ if 0 < x then Wp Pg 2 (65, L, S, H, k, n) Q else Wp Pg 2 (31, L, S, H, k, n) Q := gIf d2_28 (by decide) (by decide) (c_gt x)
theorem d2_65 : decode (Pg.mt 2).code 65 = .ok (.aload_n 0, 1) := by decide +kernel
theorem w2_65 {L : List Slot} {S : List Value} {H : Hp} {k : Nat} {n : Nat} {Q : MRes → Prop}  {v : Value} (hv : isA v = true) : Wp Pg 2 (65, .val v :: L, S, H, k, n) Q ↔ Wp Pg 2 (66, .val v :: L, v :: S, H, k, n) Q := gP d2_65 rfl (by show (if isA v = true then _ else _) = _; rw [if_pos hv])
theorem d2_66 : decode (Pg.mt 2).code 66 = .ok (.aload_n 1, 1) := by decide +kernel
theorem w2_66 {L : List Slot} {S : List Value} {H : Hp} {k : Nat} {n : Nat} {Q : MRes → Prop} {l0 : Slot} {v : Value} (hv : isA v = true) : Wp Pg 2 (66, l0 :: .val v :: L, S, H, k, n) Q ↔ Wp Pg 2 (67, l0 :: .val v :: L, v :: S, H, k, n) Q := gP d2_66 rfl (by show (if isA v = true then _ else _) = _; rw [if_pos hv])
theorem d2_67 : decode (Pg.mt 2).code 67 = .ok (.putfield 31, 3) := by decide +kernel
theorem w2_67 {L : List Slot} {S : List Value} {H : Hp} {k : Nat} {n : Nat} {Q : MRes → Prop} {a : Nat} {v : Value} : Wp Pg 2 (67, L, v :: (.ref a) :: S, H, k, n) Q ↔ ∃ H', wrF Pg 2 31 H a v = some H' ∧ Wp Pg 2 (70, L, S, H', k, n) Q := gPut d2_67
theorem d2_70 : decode (Pg.mt 2).code 70 = .ok (.aload_n 0, 1) := by decide +kernel
theorem w2_70 {L : List Slot} {S : List Value} {H : Hp} {k : Nat} {n : Nat} {Q : MRes → Prop}  {v : Value} (hv : isA v = true) : Wp Pg 2 (70, .val v :: L, S, H, k, n) Q ↔ Wp Pg 2 (71, .val v :: L, v :: S, H, k, n) Q := gP d2_70 rfl (by show (if isA v = true then _ else _) = _; rw [if_pos hv])
theorem d2_71 : decode (Pg.mt 2).code 71 = .ok (.lload_n 2, 1) := by decide +kernel
theorem w2_71 {L : List Slot} {S : List Value} {H : Hp} {k : Nat} {n : Nat} {Q : MRes → Prop} {l0 l1 : Slot} {x : Int64} : Wp Pg 2 (71, l0 :: l1 :: .val (.long x) :: L, S, H, k, n) Q ↔ Wp Pg 2 (72, l0 :: l1 :: .val (.long x) :: L, (.long x) :: S, H, k, n) Q := gP d2_71 rfl rfl
theorem d2_72 : decode (Pg.mt 2).code 72 = .ok (.putfield 35, 3) := by decide +kernel
theorem w2_72 {L : List Slot} {S : List Value} {H : Hp} {k : Nat} {n : Nat} {Q : MRes → Prop} {a : Nat} {v : Value} : Wp Pg 2 (72, L, v :: (.ref a) :: S, H, k, n) Q ↔ ∃ H', wrF Pg 2 35 H a v = some H' ∧ Wp Pg 2 (75, L, S, H', k, n) Q := gPut d2_72
theorem d2_75 : decode (Pg.mt 2).code 75 = .ok (.aload_n 0, 1) := by decide +kernel
theorem w2_75 {L : List Slot} {S : List Value} {H : Hp} {k : Nat} {n : Nat} {Q : MRes → Prop}  {v : Value} (hv : isA v = true) : Wp Pg 2 (75, .val v :: L, S, H, k, n) Q ↔ Wp Pg 2 (76, .val v :: L, v :: S, H, k, n) Q := gP d2_75 rfl (by show (if isA v = true then _ else _) = _; rw [if_pos hv])
theorem d2_76 : decode (Pg.mt 2).code 76 = .ok (.iload 4, 2) := by decide +kernel
theorem w2_76 {L : List Slot} {S : List Value} {H : Hp} {k : Nat} {n : Nat} {Q : MRes → Prop} {l0 l1 l2 l3 : Slot} {x : Int32} : Wp Pg 2 (76, l0 :: l1 :: l2 :: l3 :: .val (.int x) :: L, S, H, k, n) Q ↔ Wp Pg 2 (78, l0 :: l1 :: l2 :: l3 :: .val (.int x) :: L, (.int x) :: S, H, k, n) Q := gP d2_76 rfl rfl
theorem d2_78 : decode (Pg.mt 2).code 78 = .ok (.putfield 39, 3) := by decide +kernel
theorem w2_78 {L : List Slot} {S : List Value} {H : Hp} {k : Nat} {n : Nat} {Q : MRes → Prop} {a : Nat} {v : Value} : Wp Pg 2 (78, L, v :: (.ref a) :: S, H, k, n) Q ↔ ∃ H', wrF Pg 2 39 H a v = some H' ∧ Wp Pg 2 (81, L, S, H', k, n) Q := gPut d2_78
theorem d2_81 : decode (Pg.mt 2).code 81 = .ok (.aload_n 0, 1) := by decide +kernel
theorem w2_81 {L : List Slot} {S : List Value} {H : Hp} {k : Nat} {n : Nat} {Q : MRes → Prop}  {v : Value} (hv : isA v = true) : Wp Pg 2 (81, .val v :: L, S, H, k, n) Q ↔ Wp Pg 2 (82, .val v :: L, v :: S, H, k, n) Q := gP d2_81 rfl (by show (if isA v = true then _ else _) = _; rw [if_pos hv])
theorem d2_82 : decode (Pg.mt 2).code 82 = .ok (.iload 5, 2) := by decide +kernel
theorem w2_82 {L : List Slot} {S : List Value} {H : Hp} {k : Nat} {n : Nat} {Q : MRes → Prop} {l0 l1 l2 l3 l4 : Slot} {x : Int32} : Wp Pg 2 (82, l0 :: l1 :: l2 :: l3 :: l4 :: .val (.int x) :: L, S, H, k, n) Q ↔ Wp Pg 2 (84, l0 :: l1 :: l2 :: l3 :: l4 :: .val (.int x) :: L, (.int x) :: S, H, k, n) Q := gP d2_82 rfl rfl
theorem d2_84 : decode (Pg.mt 2).code 84 = .ok (.putfield 43, 3) := by decide +kernel
theorem w2_84 {L : List Slot} {S : List Value} {H : Hp} {k : Nat} {n : Nat} {Q : MRes → Prop} {a : Nat} {v : Value} : Wp Pg 2 (84, L, v :: (.ref a) :: S, H, k, n) Q ↔ ∃ H', wrF Pg 2 43 H a v = some H' ∧ Wp Pg 2 (87, L, S, H', k, n) Q := gPut d2_84
theorem d2_87 : decode (Pg.mt 2).code 87 = .ok (.aload_n 0, 1) := by decide +kernel
theorem w2_87 {L : List Slot} {S : List Value} {H : Hp} {k : Nat} {n : Nat} {Q : MRes → Prop}  {v : Value} (hv : isA v = true) : Wp Pg 2 (87, .val v :: L, S, H, k, n) Q ↔ Wp Pg 2 (88, .val v :: L, v :: S, H, k, n) Q := gP d2_87 rfl (by show (if isA v = true then _ else _) = _; rw [if_pos hv])
theorem d2_88 : decode (Pg.mt 2).code 88 = .ok (.iload 6, 2) := by decide +kernel
theorem w2_88 {L : List Slot} {S : List Value} {H : Hp} {k : Nat} {n : Nat} {Q : MRes → Prop} {l0 l1 l2 l3 l4 l5 : Slot} {x : Int32} : Wp Pg 2 (88, l0 :: l1 :: l2 :: l3 :: l4 :: l5 :: .val (.int x) :: L, S, H, k, n) Q ↔ Wp Pg 2 (90, l0 :: l1 :: l2 :: l3 :: l4 :: l5 :: .val (.int x) :: L, (.int x) :: S, H, k, n) Q := gP d2_88 rfl rfl
theorem d2_90 : decode (Pg.mt 2).code 90 = .ok (.putfield 46, 3) := by decide +kernel
theorem w2_90 {L : List Slot} {S : List Value} {H : Hp} {k : Nat} {n : Nat} {Q : MRes → Prop} {a : Nat} {v : Value} : Wp Pg 2 (90, L, v :: (.ref a) :: S, H, k, n) Q ↔ ∃ H', wrF Pg 2 46 H a v = some H' ∧ Wp Pg 2 (93, L, S, H', k, n) Q := gPut d2_90
theorem d2_93 : decode (Pg.mt 2).code 93 = .ok (.return_, 1) := by decide +kernel
theorem w2_93 {L : List Slot} {H : Hp} {k : Nat} {n : Nat} {Q : MRes → Prop} (h1 : k ≤ 0) (h2 : n ≤ 0) : Wp Pg 2 (93, L, [], H, k, n) Q ↔ Q (none, H) := gRet d2_93 rfl rfl rfl rfl h1 h2
theorem d3_0 : decode (Pg.mt 3).code 0 = .ok (.aload_n 1, 1) := by decide +kernel
theorem w3_0 {L : List Slot} {S : List Value} {H : Hp} {k : Nat} {n : Nat} {Q : MRes → Prop} {l0 : Slot} {v : Value} (hv : isA v = true) : Wp Pg 3 (0, l0 :: .val v :: L, S, H, k, n) Q ↔ Wp Pg 3 (1, l0 :: .val v :: L, v :: S, H, k, n) Q := gP d3_0 rfl (by show (if isA v = true then _ else _) = _; rw [if_pos hv])
theorem d3_1 : decode (Pg.mt 3).code 1 = .ok (.instanceof 2, 3) := by decide +kernel
theorem w3_1 {L : List Slot} {S : List Value} {H : Hp} {k : Nat} {n : Nat} {Q : MRes → Prop} {a : Nat} : Wp Pg 3 (1, L, (.ref a) :: S, H, k, n) Q ↔ ∃ b, castI Pg 3 2 H a = some b ∧ Wp Pg 3 (4, L, (.int (if b = true then 1 else 0)) :: S, H, k, n) Q := gInst d3_1
theorem w3_1n {L : List Slot} {S : List Value} {H : Hp} {k : Nat} {n : Nat} {Q : MRes → Prop} : Wp Pg 3 (1, L, .null :: S, H, k, n) Q ↔ Wp Pg 3 (4, L, (.int 0) :: S, H, k, n) Q := gInst0 d3_1
theorem d3_4 : decode (Pg.mt 3).code 4 = .ok (.ifCond .ne 5, 3) := by decide +kernel
theorem w3_4 {L : List Slot} {S : List Value} {H : Hp} {k : Nat} {n : Nat} {Q : MRes → Prop} {x : Int32} : Wp Pg 3 (4, L, (.int x) :: S, H, k, n) Q ↔ if ¬ x = 0 then Wp Pg 3 (9, L, S, H, k, n) Q else Wp Pg 3 (7, L, S, H, k, n) Q := gIf d3_4 (by decide) (by decide) (c_ne x)
theorem d3_7 : decode (Pg.mt 3).code 7 = .ok (.iconst 0, 1) := by decide +kernel
theorem w3_7 {L : List Slot} {S : List Value} {H : Hp} {k : Nat} {n : Nat} {Q : MRes → Prop} : Wp Pg 3 (7, L, S, H, k, n) Q ↔ Wp Pg 3 (8, L, (.int 0) :: S, H, k, n) Q := gP d3_7 rfl rfl
theorem d3_8 : decode (Pg.mt 3).code 8 = .ok (.ireturn, 1) := by decide +kernel
theorem w3_8 {L : List Slot} {S : List Value} {H : Hp} {k : Nat} {n : Nat} {Q : MRes → Prop} {x : Int32} (h1 : k ≤ 0) (h2 : n ≤ 0) : Wp Pg 3 (8, L, (.int x) :: S, H, k, n) Q ↔ Q (some (.int (x &&& 1)), H) := gRet d3_8 rfl rfl rfl rfl h1 h2
theorem d3_9 : decode (Pg.mt 3).code 9 = .ok (.aload_n 1, 1) := by decide +kernel
theorem w3_9 {L : List Slot} {S : List Value} {H : Hp} {k : Nat} {n : Nat} {Q : MRes → Prop} {l0 : Slot} {v : Value} (hv : isA v = true) : Wp Pg 3 (9, l0 :: .val v :: L, S, H, k, n) Q ↔ Wp Pg 3 (10, l0 :: .val v :: L, v :: S, H, k, n) Q := gP d3_9 rfl (by show (if isA v = true then _ else _) = _; rw [if_pos hv])
theorem d3_10 : decode (Pg.mt 3).code 10 = .ok (.checkcast 2, 3) := by decide +kernel
theorem w3_10 {L : List Slot} {S : List Value} {H : Hp} {k : Nat} {n : Nat} {Q : MRes → Prop} {a : Nat} : Wp Pg 3 (10, L, (.ref a) :: S, H, k, n) Q ↔ castI Pg 3 2 H a = some true ∧ Wp Pg 3 (13, L, (.ref a) :: S, H, k, n) Q := gCast d3_10
theorem w3_10n {L : List Slot} {S : List Value} {H : Hp} {k : Nat} {n : Nat} {Q : MRes → Prop} : Wp Pg 3 (10, L, .null :: S, H, k, n) Q ↔ Wp Pg 3 (13, L, .null :: S, H, k, n) Q := gCast0 d3_10
theorem d3_13 : decode (Pg.mt 3).code 13 = .ok (.astore_n 2, 1) := by decide +kernel
theorem w3_13 {L : List Slot} {S : List Value} {H : Hp} {k : Nat} {n : Nat} {Q : MRes → Prop} {l0 l1 : Slot} {o : Slot} {v : Value} (ho : s1 o = true) (hv : isA v = true) : Wp Pg 3 (13, l0 :: l1 :: o :: L, v :: S, H, k, n) Q ↔ Wp Pg 3 (14, l0 :: l1 :: .val v :: L, S, H, k, n) Q := gP d3_13 rfl (st1_eq (o := o) rfl ho hv)
theorem d3_14 : decode (Pg.mt 3).code 14 = .ok (.aload_n 0, 1) := by decide +kernel
theorem w3_14 {L : List Slot} {S : List Value} {H : Hp} {k : Nat} {n : Nat} {Q : MRes → Prop}  {v : Value} (hv : isA v = true) : Wp Pg 3 (14, .val v :: L, S, H, k, n) Q ↔ Wp Pg 3 (15, .val v :: L, v :: S, H, k, n) Q := gP d3_14 rfl (by show (if isA v = true then _ else _) = _; rw [if_pos hv])
theorem d3_15 : decode (Pg.mt 3).code 15 = .ok (.getfield 31, 3) := by decide +kernel
theorem w3_15 {L : List Slot} {S : List Value} {H : Hp} {k : Nat} {n : Nat} {Q : MRes → Prop} {a : Nat} : Wp Pg 3 (15, L, (.ref a) :: S, H, k, n) Q ↔ ∃ v, rdF Pg 3 31 H a = some v ∧ Wp Pg 3 (18, L, v :: S, H, k, n) Q := gGet d3_15
theorem d3_18 : decode (Pg.mt 3).code 18 = .ok (.aload_n 2, 1) := by decide +kernel
theorem w3_18 {L : List Slot} {S : List Value} {H : Hp} {k : Nat} {n : Nat} {Q : MRes → Prop} {l0 l1 : Slot} {v : Value} (hv : isA v = true) : Wp Pg 3 (18, l0 :: l1 :: .val v :: L, S, H, k, n) Q ↔ Wp Pg 3 (19, l0 :: l1 :: .val v :: L, v :: S, H, k, n) Q := gP d3_18 rfl (by show (if isA v = true then _ else _) = _; rw [if_pos hv])
theorem d3_19 : decode (Pg.mt 3).code 19 = .ok (.getfield 31, 3) := by decide +kernel
theorem w3_19 {L : List Slot} {S : List Value} {H : Hp} {k : Nat} {n : Nat} {Q : MRes → Prop} {a : Nat} : Wp Pg 3 (19, L, (.ref a) :: S, H, k, n) Q ↔ ∃ v, rdF Pg 3 31 H a = some v ∧ Wp Pg 3 (22, L, v :: S, H, k, n) Q := gGet d3_19
theorem d3_22 : decode (Pg.mt 3).code 22 = .ok (.if_acmp .ne 52, 3) := by decide +kernel
theorem w3_22 {L : List Slot} {S : List Value} {H : Hp} {k : Nat} {n : Nat} {Q : MRes → Prop} {v u : Value} (hv : isA v = true) (hu : isA u = true) : Wp Pg 3 (22, L, u :: v :: S, H, k, n) Q ↔ if v ≠ u then Wp Pg 3 (74, L, S, H, k, n) Q else Wp Pg 3 (25, L, S, H, k, n) Q := gAcmp hv hu d3_22 (by decide) (by decide) rfl
theorem d3_25 : decode (Pg.mt 3).code 25 = .ok (.aload_n 0, 1) := by decide +kernel
theorem w3_25 {L : List Slot} {S : List Value} {H : Hp} {k : Nat} {n : Nat} {Q : MRes → Prop}  {v : Value} (hv : isA v = true) : Wp Pg 3 (25, .val v :: L, S, H, k, n) Q ↔ Wp Pg 3 (26, .val v :: L, v :: S, H, k, n) Q := gP d3_25 rfl (by show (if isA v = true then _ else _) = _; rw [if_pos hv])
theorem d3_26 : decode (Pg.mt 3).code 26 = .ok (.getfield 35, 3) := by decide +kernel
theorem w3_26 {L : List Slot} {S : List Value} {H : Hp} {k : Nat} {n : Nat} {Q : MRes → Prop} {a : Nat} : Wp Pg 3 (26, L, (.ref a) :: S, H, k, n) Q ↔ ∃ v, rdF Pg 3 35 H a = some v ∧ Wp Pg 3 (29, L, v :: S, H, k, n) Q := gGet d3_26
theorem d3_29 : decode (Pg.mt 3).code 29 = .ok (.aload_n 2, 1) := by decide +kernel
theorem w3_29 {L : List Slot} {S : List Value} {H : Hp} {k : Nat} {n : Nat} {Q : MRes → Prop} {l0 l1 : Slot} {v : Value} (hv : isA v = true) : Wp Pg 3 (29, l0 :: l1 :: .val v :: L, S, H, k, n) Q ↔ Wp Pg 3 (30, l0 :: l1 :: .val v :: L, v :: S, H, k, n) Q := gP d3_29 rfl (by show (if isA v = true then _ else _) = _; rw [if_pos hv])
theorem d3_30 : decode (Pg.mt 3).code 30 = .ok (.getfield 35, 3) := by decide +kernel
theorem w3_30 {L : List Slot} {S : List Value} {H : Hp} {k : Nat} {n : Nat} {Q : MRes → Prop} {a : Nat} : Wp Pg 3 (30, L, (.ref a) :: S, H, k, n) Q ↔ ∃ v, rdF Pg 3 35 H a = some v ∧ Wp Pg 3 (33, L, v :: S, H, k, n) Q := gGet d3_30
theorem d3_33 : decode (Pg.mt 3).code 33 = .ok (.lcmp, 1) := by decide +kernel
theorem w3_33 {L : List Slot} {S : List Value} {H : Hp} {k : Nat} {n : Nat} {Q : MRes → Prop} {x y : Int64} : Wp Pg 3 (33, L, (.long y) :: (.long x) :: S, H, k, n) Q ↔ Wp Pg 3 (34, L, (.int (XT.cmpL x y)) :: S, H, k, n) Q := gP d3_33 rfl rfl
theorem d3_34 : decode (Pg.mt 3).code 34 = .ok (.ifCond .ne 40, 3) := by decide +kernel
theorem w3_34 {L : List Slot} {S : List Value} {H : Hp} {k : Nat} {n : Nat} {Q : MRes → Prop} {x : Int32} : Wp Pg 3 (34, L, (.int x) :: S, H, k, n) Q ↔ if ¬ x = 0 then Wp Pg 3 (74, L, S, H, k, n) Q else Wp Pg 3 (37, L, S, H, k, n) Q := gIf d3_34 (by decide) (by decide) (c_ne x)
theorem d3_37 : decode (Pg.mt 3).code 37 = .ok (.aload_n 0, 1) := by decide +kernel
theorem w3_37 {L : List Slot} {S : List Value} {H : Hp} {k : Nat} {n : Nat} {Q : MRes → Prop}  {v : Value} (hv : isA v = true) : Wp Pg 3 (37, .val v :: L, S, H, k, n) Q ↔ Wp Pg 3 (38, .val v :: L, v :: S, H, k, n) Q := gP d3_37 rfl (by show (if isA v = true then _ else _) = _; rw [if_pos hv])
theorem d3_38 : decode (Pg.mt 3).code 38 = .ok (.getfield 39, 3) := by decide +kernel
theorem w3_38 {L : List Slot} {S : List Value} {H : Hp} {k : Nat} {n : Nat} {Q : MRes → Prop} {a : Nat} : Wp Pg 3 (38, L, (.ref a) :: S, H, k, n) Q ↔ ∃ v, rdF Pg 3 39 H a = some v ∧ Wp Pg 3 (41, L, v :: S, H, k, n) Q := gGet d3_38
theorem d3_41 : decode (Pg.mt 3).code 41 = .ok (.aload_n 2, 1) := by decide +kernel
theorem w3_41 {L : List Slot} {S : List Value} {H : Hp} {k : Nat} {n : Nat} {Q : MRes → Prop} {l0 l1 : Slot} {v : Value} (hv : isA v = true) : Wp Pg 3 (41, l0 :: l1 :: .val v :: L, S, H, k, n) Q ↔ Wp Pg 3 (42, l0 :: l1 :: .val v :: L, v :: S, H, k, n) Q := gP d3_41 rfl (by show (if isA v = true then _ else _) = _; rw [if_pos hv])
theorem d3_42 : decode (Pg.mt 3).code 42 = .ok (.getfield 39, 3) := by decide +kernel
theorem w3_42 {L : List Slot} {S : List Value} {H : Hp} {k : Nat} {n : Nat} {Q : MRes → Prop} {a : Nat} : Wp Pg 3 (42, L, (.ref a) :: S, H, k, n) Q ↔ ∃ v, rdF Pg 3 39 H a = some v ∧ Wp Pg 3 (45, L, v :: S, H, k, n) Q := gGet d3_42
theorem d3_45 : decode (Pg.mt 3).code 45 = .ok (.if_icmp .ne 29, 3) := by decide +kernel
theorem w3_45 {L : List Slot} {S : List Value} {H : Hp} {k : Nat} {n : Nat} {Q : MRes → Prop} {x y : Int32} : Wp Pg 3 (45, L, (.int y) :: (.int x) :: S, H, k, n) Q ↔ if ¬ x = y then Wp Pg 3 (74, L, S, H, k, n) Q else Wp Pg 3 (48, L, S, H, k, n) Q := gIcmp d3_45 (by decide) (by decide) (i_ne x y)
theorem d3_48 : decode (Pg.mt 3).code 48 = .ok (.aload_n 0, 1) := by decide +kernel
theorem w3_48 {L : List Slot} {S : List Value} {H : Hp} {k : Nat} {n : Nat} {Q : MRes → Prop}  {v : Value} (hv : isA v = true) : Wp Pg 3 (48, .val v :: L, S, H, k, n) Q ↔ Wp Pg 3 (49, .val v :: L, v :: S, H, k, n) Q := gP d3_48 rfl (by show (if isA v = true then _ else _) = _; rw [if_pos hv])
theorem d3_49 : decode (Pg.mt 3).code 49 = .ok (.getfield 43, 3) := by decide +kernel
theorem w3_49 {L : List Slot} {S : List Value} {H : Hp} {k : Nat} {n : Nat} {Q : MRes → Prop} {a : Nat} : Wp Pg 3 (49, L, (.ref a) :: S, H, k, n) Q ↔ ∃ v, rdF Pg 3 43 H a = some v ∧ Wp Pg 3 (52, L, v :: S, H, k, n) Q := gGet d3_49
theorem d3_52 : decode (Pg.mt 3).code 52 = .ok (.aload_n 2, 1) := by decide +kernel
theorem w3_52 {L : List Slot} {S : List Value} {H : Hp} {k : Nat} {n : Nat} {Q : MRes → Prop} {l0 l1 : Slot} {v : Value} (hv : isA v = true) : Wp Pg 3 (52, l0 :: l1 :: .val v :: L, S, H, k, n) Q ↔ Wp Pg 3 (53, l0 :: l1 :: .val v :: L, v :: S, H, k, n) Q := gP d3_52 rfl (by show (if isA v = true then _ else _) = _; rw [if_pos hv])
theorem d3_53 : decode (Pg.mt 3).code 53 = .ok (.getfield 43, 3) := by decide +kernel
theorem w3_53 {L : List Slot} {S : List Value} {H : Hp} {k : Nat} {n : Nat} {Q : MRes → Prop} {a : Nat} : Wp Pg 3 (53, L, (.ref a) :: S, H, k, n) Q ↔ ∃ v, rdF Pg 3 43 H a = some v ∧ Wp Pg 3 (56, L, v :: S, H, k, n) Q := gGet d3_53
theorem d3_56 : decode (Pg.mt 3).code 56 = .ok (.if_icmp .ne 18, 3) := by decide +kernel
theorem w3_56 {L : List Slot} {S : List Value} {H : Hp} {k : Nat} {n : Nat} {Q : MRes → Prop} {x y : Int32} : Wp Pg 3 (56, L, (.int y) :: (.int x) :: S, H, k, n) Q ↔ if ¬ x = y then Wp Pg 3 (74, L, S, H, k, n) Q else Wp Pg 3 (59, L, S, H, k, n) Q := gIcmp d3_56 (by decide) (by decide) (i_ne x y)
theorem d3_59 : decode (Pg.mt 3).code 59 = .ok (.aload_n 0, 1) := by decide +kernel
theorem w3_59 {L : List Slot} {S : List Value} {H : Hp} {k : Nat} {n : Nat} {Q : MRes → Prop}  {v : Value} (hv : isA v = true) : Wp Pg 3 (59, .val v :: L, S, H, k, n) Q ↔ Wp Pg 3 (60, .val v :: L, v :: S, H, k, n) Q := gP d3_59 rfl (by show (if isA v = true then _ else _) = _; rw [if_pos hv])
theorem d3_60 : decode (Pg.mt 3).code 60 = .ok (.getfield 46, 3) := by decide +kernel
theorem w3_60 {L : List Slot} {S : List Value} {H : Hp} {k : Nat} {n : Nat} {Q : MRes → Prop} {a : Nat} : Wp Pg 3 (60, L, (.ref a) :: S, H, k, n) Q ↔ ∃ v, rdF Pg 3 46 H a = some v ∧ Wp Pg 3 (63, L, v :: S, H, k, n) Q := gGet d3_60
theorem d3_63 : decode (Pg.mt 3).code 63 = .ok (.aload_n 2, 1) := by decide +kernel
theorem w3_63 {L : List Slot} {S : List Value} {H : Hp} {k : Nat} {n : Nat} {Q : MRes → Prop} {l0 l1 : Slot} {v : Value} (hv : isA v = true) : Wp Pg 3 (63, l0 :: l1 :: .val v :: L, S, H, k, n) Q ↔ Wp Pg 3 (64, l0 :: l1 :: .val v :: L, v :: S, H, k, n) Q := gP d3_63 rfl (by show (if isA v = true then _ else _) = _; rw [if_pos hv])
theorem d3_64 : decode (Pg.mt 3).code 64 = .ok (.getfield 46, 3) := by decide +kernel
theorem w3_64 {L : List Slot} {S : List Value} {H : Hp} {k : Nat} {n : Nat} {Q : MRes → Prop} {a : Nat} : Wp Pg 3 (64, L, (.ref a) :: S, H, k, n) Q ↔ ∃ v, rdF Pg 3 46 H a = some v ∧ Wp Pg 3 (67, L, v :: S, H, k, n) Q := gGet d3_64
theorem d3_67 : decode (Pg.mt 3).code 67 = .ok (.if_icmp .ne 7, 3) := by decide +kernel
theorem w3_67 {L : List Slot} {S : List Value} {H : Hp} {k : Nat} {n : Nat} {Q : MRes → Prop} {x y : Int32} : Wp Pg 3 (67, L, (.int y) :: (.int x) :: S, H, k, n) Q ↔ if ¬ x = y then Wp Pg 3 (74, L, S, H, k, n) Q else Wp Pg 3 (70, L, S, H, k, n) Q := gIcmp d3_67 (by decide) (by decide) (i_ne x y)
theorem d3_70 : decode (Pg.mt 3).code 70 = .ok (.iconst 1, 1) := by decide +kernel
theorem w3_70 {L : List Slot} {S : List Value} {H : Hp} {k : Nat} {n : Nat} {Q : MRes → Prop} : Wp Pg 3 (70, L, S, H, k, n) Q ↔ Wp Pg 3 (71, L, (.int 1) :: S, H, k, n) Q := gP d3_70 rfl rfl
theorem d3_71 : decode (Pg.mt 3).code 71 = .ok (.goto 4, 3) := by decide +kernel
theorem w3_71 {L : List Slot} {S : List Value} {H : Hp} {k : Nat} {n : Nat} {Q : MRes → Prop} : Wp Pg 3 (71, L, S, H, k, n) Q ↔ Wp Pg 3 (75, L, S, H, k, n) Q := gGoto d3_71 (by decide) (by decide)
theorem d3_74 : decode (Pg.mt 3).code 74 = .ok (.iconst 0, 1) := by decide +kernel
theorem w3_74 {L : List Slot} {S : List Value} {H : Hp} {k : Nat} {n : Nat} {Q : MRes → Prop} : Wp Pg 3 (74, L, S, H, k, n) Q ↔ Wp Pg 3 (75, L, (.int 0) :: S, H, k, n) Q := gP d3_74 rfl rfl
theorem d3_75 : decode (Pg.mt 3).code 75 = .ok (.ireturn, 1) := by decide +kernel
theorem w3_75 {L : List Slot} {S : List Value} {H : Hp} {k : Nat} {n : Nat} {Q : MRes → Prop} {x : Int32} (h1 : k ≤ 0) (h2 : n ≤ 0) : Wp Pg 3 (75, L, (.int x) :: S, H, k, n) Q ↔ Q (some (.int (x &&& 1)), H) := gRet d3_75 rfl rfl rfl rfl h1 h2
theorem d4_0 : decode (Pg.mt 4).code 0 = .ok (.sipush 128, 3) := by decide +kernel
theorem w4_0 {L : List Slot} {S : List Value} {H : Hp} {k : Nat} {n : Nat} {Q : MRes → Prop} : Wp Pg 4 (0, L, S, H, k, n) Q ↔ Wp Pg 4 (3, L, (.int 128) :: S, H, k, n) Q := gP d4_0 rfl rfl
theorem d4_3 : decode (Pg.mt 4).code 3 = .ok (.istore_n 2, 1) := by decide +kernel
theorem w4_3 {L : List Slot} {S : List Value} {H : Hp} {k : Nat} {n : Nat} {Q : MRes → Prop} {l0 l1 : Slot} {o : Slot} {x : Int32} (ho : s1 o = true) : Wp Pg 4 (3, l0 :: l1 :: o :: L, (.int x) :: S, H, k, n) Q ↔ Wp Pg 4 (4, l0 :: l1 :: .val (.int x) :: L, S, H, k, n) Q := gP d4_3 rfl (st1_eq (o := o) rfl ho rfl)
theorem d4_4 : decode (Pg.mt 4).code 4 = .ok (.lload_n 0, 1) := by decide +kernel
theorem w4_4 {L : List Slot} {S : List Value} {H : Hp} {k : Nat} {n : Nat} {Q : MRes → Prop}  {x : Int64} : Wp Pg 4 (4, .val (.long x) :: L, S, H, k, n) Q ↔ Wp Pg 4 (5, .val (.long x) :: L, (.long x) :: S, H, k, n) Q := gP d4_4 rfl rfl
theorem d4_5 : decode (Pg.mt 4).code 5 = .ok (.ldc2_w 230, 3) := by decide +kernel
theorem w4_5 {L : List Slot} {S : List Value} {H : Hp} {k : Nat} {n : Nat} {Q : MRes → Prop} : Wp Pg 4 (5, L, S, H, k, n) Q ↔ Wp Pg 4 (8, L, (.long (-128)) :: S, H, k, n) Q := gH d4_5 rfl rfl
theorem d4_8 : decode (Pg.mt 4).code 8 = .ok (.lcmp, 1) := by decide +kernel
theorem w4_8 {L : List Slot} {S : List Value} {H : Hp} {k : Nat} {n : Nat} {Q : MRes → Prop} {x y : Int64} : Wp Pg 4 (8, L, (.long y) :: (.long x) :: S, H, k, n) Q ↔ Wp Pg 4 (9, L, (.int (XT.cmpL x y)) :: S, H, k, n) Q := gP d4_8 rfl rfl
theorem d4_9 : decode (Pg.mt 4).code 9 = .ok (.ifCond .lt 22, 3) := by decide +kernel
theorem w4_9 {L : List Slot} {S : List Value} {H : Hp} {k : Nat} {n : Nat} {Q : MRes → Prop} {x : Int32} : Wp Pg 4 (9, L, (.int x) :: S, H, k, n) Q ↔ if x < 0 then Wp Pg 4 (31, L, S, H, k, n) Q else Wp Pg 4 (12, L, S, H, k, n) Q := gIf d4_9 (by decide) (by decide) (c_lt x)
theorem d4_12 : decode (Pg.mt 4).code 12 = .ok (.lload_n 0, 1) := by decide +kernel
theorem w4_12 {L : List Slot} {S : List Value} {H : Hp} {k : Nat} {n : Nat} {Q : MRes → Prop}  {x : Int64} : Wp Pg 4 (12, .val (.long x) :: L, S, H, k, n) Q ↔ Wp Pg 4 (13, .val (.long x) :: L, (.long x) :: S, H, k, n) Q := gP d4_12 rfl rfl
theorem d4_13 : decode (Pg.mt 4).code 13 = .ok (.ldc2_w 232, 3) := by decide +kernel
theorem w4_13 {L : List Slot} {S : List Value} {H : Hp} {k : Nat} {n : Nat} {Q : MRes → Prop} : Wp Pg 4 (13, L, S, H, k, n) Q ↔ Wp Pg 4 (16, L, (.long 127) :: S, H, k, n) Q := gH d4_13 rfl rfl
theorem d4_16 : decode (Pg.mt 4).code 16 = .ok (.lcmp, 1) := by decide +kernel
theorem w4_16 {L : List Slot} {S : List Value} {H : Hp} {k : Nat} {n : Nat} {Q : MRes → Prop} {x y : Int64} : Wp Pg 4 (16, L, (.long y) :: (.long x) :: S, H, k, n) Q ↔ Wp Pg 4 (17, L, (.int (XT.cmpL x y)) :: S, H, k, n) Q := gP d4_16 rfl rfl
theorem d4_17 : decode (Pg.mt 4).code 17 = .ok (.ifCond .gt 14, 3) := by decide +kernel
theorem w4_17 {L : List Slot} {S : List Value} {H : Hp} {k : Nat} {n : Nat} {Q : MRes → Prop} {x : Int32} : Wp Pg 4 (17, L, (.int x) :: S, H, k, n) Q ↔ if 0 < x then Wp Pg 4 (31, L, S, H, k, n) Q else Wp Pg 4 (20, L, S, H, k, n) Q := gIf d4_17 (by decide) (by decide) (c_gt x)
theorem d4_20 : decode (Pg.mt 4).code 20 = .ok (.getstatic 234, 3) := by decide +kernel
theorem w4_20 {L : List Slot} {S : List Value} {H : Hp} {k : Nat} {n : Nat} {Q : MRes → Prop} : Wp Pg 4 (20, L, S, H, k, n) Q ↔ Wp Pg 4 (23, L, (.ref 256) :: S, H, k, n) Q := gH d4_20 rfl rfl
theorem d4_23 : decode (Pg.mt 4).code 23 = .ok (.lload_n 0, 1) := by decide +kernel
theorem w4_23 {L : List Slot} {S : List Value} {H : Hp} {k : Nat} {n : Nat} {Q : MRes → Prop}  {x : Int64} : Wp Pg 4 (23, .val (.long x) :: L, S, H, k, n) Q ↔ Wp Pg 4 (24, .val (.long x) :: L, (.long x) :: S, H, k, n) Q := gP d4_23 rfl rfl
theorem d4_24 : decode (Pg.mt 4).code 24 = .ok (.l2i, 1) := by decide +kernel
theorem w4_24 {L : List Slot} {S : List Value} {H : Hp} {k : Nat} {n : Nat} {Q : MRes → Prop} {x : Int64} : Wp Pg 4 (24, L, (.long x) :: S, H, k, n) Q ↔ Wp Pg 4 (25, L, (.int x.toInt32) :: S, H, k, n) Q := gP d4_24 rfl rfl
theorem d4_25 : decode (Pg.mt 4).code 25 = .ok (.sipush 128, 3) := by decide +kernel
theorem w4_25 {L : List Slot} {S : List Value} {H : Hp} {k : Nat} {n : Nat} {Q : MRes → Prop} : Wp Pg 4 (25, L, S, H, k, n) Q ↔ Wp Pg 4 (28, L, (.int 128) :: S, H, k, n) Q := gP d4_25 rfl rfl
theorem d4_28 : decode (Pg.mt 4).code 28 = .ok (.iadd, 1) := by decide +kernel
theorem w4_28 {L : List Slot} {S : List Value} {H : Hp} {k : Nat} {n : Nat} {Q : MRes → Prop} {x y : Int32} : Wp Pg 4 (28, L, (.int y) :: (.int x) :: S, H, k, n) Q ↔ Wp Pg 4 (29, L, (.int (x + y)) :: S, H, k, n) Q := gP d4_28 rfl rfl
theorem d4_29 : decode (Pg.mt 4).code 29 = .ok (.aaload, 1) := by decide +kernel
theorem w4_29 {L : List Slot} {S : List Value} {H : Hp} {k : Nat} {n : Nat} {Q : MRes → Prop} {a : Nat} {x : Int32} : Wp Pg 4 (29, L, (.int x) :: (.ref a) :: S, H, k, n) Q ↔ ∃ v, ldA .aaload H a x = some v ∧ Wp Pg 4 (30, L, v :: S, H, k, n) Q := gLdA (by simp) d4_29
theorem d4_30 : decode (Pg.mt 4).code 30 = .ok (.areturn, 1) := by decide +kernel
theorem w4_30 {L : List Slot} {S : List Value} {H : Hp} {k : Nat} {n : Nat} {Q : MRes → Prop} {a : Nat} (h1 : k ≤ 1) (h2 : n ≤ 1) : Wp Pg 4 (30, L, (.ref a) :: S, H, k, n) Q ↔ Q (some (.ref a), H) := gRet d4_30 rfl rfl rfl rfl h1 h2
theorem w4_30n {L : List Slot} {S : List Value} {H : Hp} {k : Nat} {n : Nat} {Q : MRes → Prop} (h1 : k ≤ 1) (h2 : n ≤ 1) : Wp Pg 4 (30, L, .null :: S, H, k, n) Q ↔ Q (some .null, H) := gRet d4_30 rfl rfl rfl rfl h1 h2
theorem d4_31 : decode (Pg.mt 4).code 31 = .ok (.new 1, 3) := by decide +kernel
theorem w4_31 {L : List Slot} {S : List Value} {H : Hp} {k : Nat} {n : Nat} {Q : MRes → Prop} (h1 : k + 1 ≤ 1) (h2 : n + 1 ≤ 1) : Wp Pg 4 (31, L, S, H, k, n) Q ↔ Wp Pg 4 (34, L, (.ref H.length) :: S, H ++ [(.inr 2, [.long 0])], k + 1, n + 1) Q := gNew d4_31 rfl rfl rfl rfl rfl h1 h2
theorem d4_34 : decode (Pg.mt 4).code 34 = .ok (.dup, 1) := by decide +kernel
theorem w4_34 {L : List Slot} {S : List Value} {H : Hp} {k : Nat} {n : Nat} {Q : MRes → Prop} {v : Value} (hv : cat v = 1) : Wp Pg 4 (34, L, v :: S, H, k, n) Q ↔ Wp Pg 4 (35, L, v :: v :: S, H, k, n) Q := gP d4_34 rfl (by simp only [plainI, fdup, if_pos hv, keepL])
theorem d4_35 : decode (Pg.mt 4).code 35 = .ok (.lload_n 0, 1) := by decide +kernel
theorem w4_35 {L : List Slot} {S : List Value} {H : Hp} {k : Nat} {n : Nat} {Q : MRes → Prop}  {x : Int64} : Wp Pg 4 (35, .val (.long x) :: L, S, H, k, n) Q ↔ Wp Pg 4 (36, .val (.long x) :: L, (.long x) :: S, H, k, n) Q := gP d4_35 rfl rfl
theorem d4_36 : decode (Pg.mt 4).code 36 = .ok (.invokespecial 240, 3) := by decide +kernel
theorem w4_36 {L : List Slot} {S : List Value} {H : Hp} {k : Nat} {n : Nat} {Q : MRes → Prop} {a0 : Int64} {a : Nat}  (h1 : L.length = 3) (h2 : wt S ≤ 1) (h3 : k + 0 ≤ 1) (h4 : n + 0 ≤ 1) : Wp Pg 4 (36, L, (.long a0) :: (.ref a) :: S, H, k, n) Q ↔ Wp Pg 5 (0, [.val (.ref a), .val (.long a0), .second], [], H, 0, 0) fun r => Wp Pg 4 (39, L, r.1.toList ++ S, r.2, k + 0, n + 0) Q := gCall d4_36 rfl rfl (M := 3) (W := 1) (C := 1) (Sl := 1) (c := 0) (s := 0) ⟨rfl, by decide, by decide, rfl, rfl, rfl, rfl⟩ (by show entL [(.ref a), (.long a0)] 3 = _; rw [entL, laid_c1 rfl, laid_c2 rfl, laid_nil]; rfl) h1 h2 h3 h4
theorem d4_39 : decode (Pg.mt 4).code 39 = .ok (.areturn, 1) := by decide +kernel
theorem w4_39 {L : List Slot} {S : List Value} {H : Hp} {k : Nat} {n : Nat} {Q : MRes → Prop} {a : Nat} (h1 : k ≤ 1) (h2 : n ≤ 1) : Wp Pg 4 (39, L, (.ref a) :: S, H, k, n) Q ↔ Q (some (.ref a), H) := gRet d4_39 rfl rfl rfl rfl h1 h2
theorem w4_39n {L : List Slot} {S : List Value} {H : Hp} {k : Nat} {n : Nat} {Q : MRes → Prop} (h1 : k ≤ 1) (h2 : n ≤ 1) : Wp Pg 4 (39, L, .null :: S, H, k, n) Q ↔ Q (some .null, H) := gRet d4_39 rfl rfl rfl rfl h1 h2
theorem d5_0 : decode (Pg.mt 5).code 0 = .ok (.aload_n 0, 1) := by decide +kernel
theorem w5_0 {L : List Slot} {S : List Value} {H : Hp} {k : Nat} {n : Nat} {Q : MRes → Prop}  {v : Value} (hv : isA v = true) : Wp Pg 5 (0, .val v :: L, S, H, k, n) Q ↔ Wp Pg 5 (1, .val v :: L, v :: S, H, k, n) Q := gP d5_0 rfl (by show (if isA v = true then _ else _) = _; rw [if_pos hv])
theorem d5_1 : decode (Pg.mt 5).code 1 = .ok (.invokespecial 270, 3) := by decide +kernel
theorem w5_1 {L : List Slot} {S : List Value} {H : Hp} {k : Nat} {n : Nat} {Q : MRes → Prop} {a : Nat}  (h1 : L.length = 3) (h2 : wt S ≤ 0) (h3 : k + 0 ≤ 0) (h4 : n + 0 ≤ 0) : Wp Pg 5 (1, L, (.ref a) :: S, H, k, n) Q ↔ Wp Pg 6 (0, [.val (.ref a)], [], H, 0, 0) fun r => Wp Pg 5 (4, L, r.1.toList ++ S, r.2, k + 0, n + 0) Q := gCall d5_1 rfl rfl (M := 3) (W := 0) (C := 0) (Sl := 0) (c := 0) (s := 0) ⟨rfl, by decide, by decide, rfl, rfl, rfl, rfl⟩ (by show entL [(.ref a)] 1 = _; rw [entL, laid_c1 rfl, laid_nil]; rfl) h1 h2 h3 h4
theorem d5_4 : decode (Pg.mt 5).code 4 = .ok (.aload_n 0, 1) := by decide +kernel
theorem w5_4 {L : List Slot} {S : List Value} {H : Hp} {k : Nat} {n : Nat} {Q : MRes → Prop}  {v : Value} (hv : isA v = true) : Wp Pg 5 (4, .val v :: L, S, H, k, n) Q ↔ Wp Pg 5 (5, .val v :: L, v :: S, H, k, n) Q := gP d5_4 rfl (by show (if isA v = true then _ else _) = _; rw [if_pos hv])
theorem d5_5 : decode (Pg.mt 5).code 5 = .ok (.lload_n 1, 1) := by decide +kernel
theorem w5_5 {L : List Slot} {S : List Value} {H : Hp} {k : Nat} {n : Nat} {Q : MRes → Prop} {l0 : Slot} {x : Int64} : Wp Pg 5 (5, l0 :: .val (.long x) :: L, S, H, k, n) Q ↔ Wp Pg 5 (6, l0 :: .val (.long x) :: L, (.long x) :: S, H, k, n) Q := gP d5_5 rfl rfl
theorem d5_6 : decode (Pg.mt 5).code 6 = .ok (.putfield 273, 3) := by decide +kernel
theorem w5_6 {L : List Slot} {S : List Value} {H : Hp} {k : Nat} {n : Nat} {Q : MRes → Prop} {a : Nat} {v : Value} : Wp Pg 5 (6, L, v :: (.ref a) :: S, H, k, n) Q ↔ ∃ H', wrF Pg 5 273 H a v = some H' ∧ Wp Pg 5 (9, L, S, H', k, n) Q := gPut d5_6
theorem d5_9 : decode (Pg.mt 5).code 9 = .ok (.return_, 1) := by decide +kernel
theorem w5_9 {L : List Slot} {H : Hp} {k : Nat} {n : Nat} {Q : MRes → Prop} (h1 : k ≤ 0) (h2 : n ≤ 0) : Wp Pg 5 (9, L, [], H, k, n) Q ↔ Q (none, H) := gRet d5_9 rfl rfl rfl rfl h1 h2
theorem d6_0 : decode (Pg.mt 6).code 0 = .ok (.aload_n 0, 1) := by decide +kernel
theorem w6_0 {L : List Slot} {S : List Value} {H : Hp} {k : Nat} {n : Nat} {Q : MRes → Prop}  {v : Value} (hv : isA v = true) : Wp Pg 6 (0, .val v :: L, S, H, k, n) Q ↔ Wp Pg 6 (1, .val v :: L, v :: S, H, k, n) Q := gP d6_0 rfl (by show (if isA v = true then _ else _) = _; rw [if_pos hv])
theorem d6_1 : decode (Pg.mt 6).code 1 = .ok (.invokespecial 1, 3) := by decide +kernel
theorem w6_1 {L : List Slot} {S : List Value} {H : Hp} {k : Nat} {n : Nat} {Q : MRes → Prop} {a : Nat} (h1 : L.length = 1) (h2 : wt S + 12 ≤ 12) : Wp Pg 6 (1, L, (.ref a) :: S, H, k, n) Q ↔ Wp Pg 6 (4, L, S, H, k, n) Q := gObj d6_1 rfl rfl rfl rfl (by decide) h1 h2
theorem d6_4 : decode (Pg.mt 6).code 4 = .ok (.return_, 1) := by decide +kernel
theorem w6_4 {L : List Slot} {H : Hp} {k : Nat} {n : Nat} {Q : MRes → Prop} (h1 : k ≤ 0) (h2 : n ≤ 0) : Wp Pg 6 (4, L, [], H, k, n) Q ↔ Q (none, H) := gRet d6_4 rfl rfl rfl rfl h1 h2
theorem r3_31_1 (vs : List Value) : rdO Pg 3 31 (.inr 1, vs) = vs[0]? := rfl
theorem r3_35_1 (vs : List Value) : rdO Pg 3 35 (.inr 1, vs) = vs[1]? := rfl
theorem r3_39_1 (vs : List Value) : rdO Pg 3 39 (.inr 1, vs) = vs[2]? := rfl
theorem r3_43_1 (vs : List Value) : rdO Pg 3 43 (.inr 1, vs) = vs[3]? := rfl
theorem r3_46_1 (vs : List Value) : rdO Pg 3 46 (.inr 1, vs) = vs[4]? := rfl
theorem q2_31_1 (x : Nat) (u0 u1 u2 u3 u4 : Value) : wrO Pg 2 31 (.ref x) (.inr 1, [u0, u1, u2, u3, u4]) = some (.inr 1, [.ref x, u1, u2, u3, u4]) := rfl
theorem q2_31_1n (u0 u1 u2 u3 u4 : Value) : wrO Pg 2 31 .null (.inr 1, [u0, u1, u2, u3, u4]) = some (.inr 1, [.null, u1, u2, u3, u4]) := rfl
theorem q2_35_1 (x : Int64) (u0 u1 u2 u3 u4 : Value) : wrO Pg 2 35 (.long x) (.inr 1, [u0, u1, u2, u3, u4]) = some (.inr 1, [u0, .long x, u2, u3, u4]) := rfl
theorem q2_39_1 (x : Int32) (u0 u1 u2 u3 u4 : Value) : wrO Pg 2 39 (.int x) (.inr 1, [u0, u1, u2, u3, u4]) = some (.inr 1, [u0, u1, .int x, u3, u4]) := rfl
theorem q2_43_1 (x : Int32) (u0 u1 u2 u3 u4 : Value) : wrO Pg 2 43 (.int x) (.inr 1, [u0, u1, u2, u3, u4]) = some (.inr 1, [u0, u1, u2, .int x, u4]) := rfl
theorem q2_46_1 (x : Int32) (u0 u1 u2 u3 u4 : Value) : wrO Pg 2 46 (.int x) (.inr 1, [u0, u1, u2, u3, u4]) = some (.inr 1, [u0, u1, u2, u3, .int (x &&& 1)]) := rfl
theorem q5_273_2 (x : Int64) (u0 : Value) : wrO Pg 5 273 (.long x) (.inr 2, [u0]) = some (.inr 2, [.long x]) := rfl
theorem k3_2_0 : lkK Pg.ca 3 2 (.inr 1) = some true := by decide
theorem k3_2_1 : lkK Pg.ca 3 2 (.inr 2) = some false := by decide
def own_v (j : Int32) : Value := .long (j - 128).toInt64
def own_H0 : Hp := boxH 2 "java/lang/Long" own_v ++ [(.inr 0, []), (.inr 0, [])]
theorem own_len : own_H0.length = 259 := by rw [own_H0, List.length_append, boxH_len]; rfl
theorem own_inj : ∀ i j, i < 256 → j < 256 → own_v (Int32.ofNat i) = own_v (Int32.ofNat j) → i = j := fun i j hi hj h => by
  have h : (Int32.ofNat i - 128).toInt64 = (Int32.ofNat j - 128).toInt64 := Value.long.inj h
  have e := congrArg Int64.toInt h
  rw [Int32.toInt_toInt64, Int32.toInt_toInt64, Int32.toInt_inj] at e
  have h : Int32.ofNat i = Int32.ofNat j := by
    have := congrArg (· + 128) e
    simpa [Int32.sub_add_cancel] using this
  have e := congrArg Int32.toInt h
  rw [Int32.toInt_ofNat_small (by omega), Int32.toInt_ofNat_small (by omega)] at e
  omega
theorem own_nref : ∀ (i : Int32) (j : Addr), own_v i = .ref j → False := fun i j h => by cases h
def own_G (H : Hp) : Prop := H[256]? = some (.inl (.object "java/lang/Long"), (List.range 256).map Value.ref) ∧ (∀ i, i < 256 → ∃ vs, H[i]? = some (.inr 2, vs)) ∧ 259 ≤ H.length
theorem own_app {H : Hp} {i : Nat} {o o' : Obj} (h : H[i]? = some o) : (H ++ [o'])[i]? = some o := by
  rw [List.getElem?_append_left (List.getElem?_eq_some_iff.mp h).1]; exact h
theorem own_apps {H K : Hp} {i : Nat} {o : Obj} (h : H[i]? = some o) : (H ++ K)[i]? = some o := by
  rw [List.getElem?_append_left (List.getElem?_eq_some_iff.mp h).1]; exact h
theorem own_g0 : own_G own_H0 := ⟨own_apps boxH_arr, fun i hi => ⟨_, own_apps (boxH_box hi)⟩, Nat.le_of_eq own_len.symm⟩
theorem own_gs {H : Hp} (g : own_G H) (o : Obj) : own_G (H ++ [o]) := ⟨own_app g.1, fun i hi => (g.2.1 i hi).elim fun vs h => ⟨vs, own_app h⟩, by rw [List.length_append]; exact Nat.le_trans g.2.2 (Nat.le_add_right _ _)⟩
theorem own_get (H : Hp) (o : Obj) : (H ++ [o])[H.length]? = some o := by simp
theorem own_set (H : Hp) (o o' : Obj) : (H ++ [o]).set H.length o' = H ++ [o'] := by simp
theorem own_mask (x : Int64) : ¬ (x &&& 9223372036854775807) < 0 := by
  intro h
  have h := Int64.lt_iff_toInt_lt.mp h
  have z : (0 : Int64).toInt = 0 := rfl
  have m : (x &&& 9223372036854775807).toBitVec.msb = false := by
    rw [Int64.toBitVec_and, BitVec.msb_and]
    have : (9223372036854775807 : Int64).toBitVec.msb = false := by decide
    rw [this, Bool.and_false]
  have e : (x &&& 9223372036854775807).toInt = (x &&& 9223372036854775807).toBitVec.toInt := rfl
  rw [e, BitVec.toInt_eq_msb_cond, m] at h
  simp at h
  omega
theorem own_mask32 (x : Int32) : ¬ (x &&& 2147483647) < 0 := fun h => by
  have h := Int32.lt_iff_toInt_lt.mp h
  have z : (0 : Int32).toInt = 0 := rfl
  have := pos_mask x
  omega
theorem own_idx (x : Int64) (h1 : ¬ x < -128) (h2 : ¬ 127 < x) : ∃ i, i < 256 ∧ x.toInt32 + 128 = Int32.ofNat i := by
  have a1 : (-128 : Int) ≤ x.toInt := Int64.le_iff_toInt_le.mp (Int64.not_lt.mp h1)
  have a2 : x.toInt ≤ 127 := Int64.le_iff_toInt_le.mp (Int64.not_lt.mp h2)
  have : (128 : Int32).toInt = 128 := rfl
  have e : (x.toInt32 + 128).toInt = x.toInt + 128 := by
    rw [Int32.toInt_add, Int64.toInt_toInt32, this, Int.bmod_eq_of_le (n := x.toInt) (by omega) (by omega), Int.bmod_eq_of_le (by omega) (by omega)]
  exact nat_range (by omega) (by omega)
theorem own_ld {H : Hp} (g : own_G H) {x : Int64} (h1 : ¬ x < -128) (h2 : ¬ 127 < x) : ∃ i, i < 256 ∧ ldA .aaload H 256 (x.toInt32 + 128) = some (.ref i) := by
  obtain ⟨i, hi, e⟩ := own_idx x h1 h2
  obtain ⟨e1, e2⟩ := i32_clamp hi
  refine ⟨i, hi, ?_⟩
  rw [e]
  simp only [ldA, g.1, e1]
  rw [if_pos ⟨rfl, e2⟩]
  simp [hi]
theorem own_val (x : Int64) {H : Hp} (g : own_G H) {Q : MRes → Prop} (hq : ∀ (H' : Hp) (r : Nat), (∃ vs, H'[r]? = some (.inr 2, vs)) → (∀ (i : Nat) (o : Obj), H[i]? = some o → H'[i]? = some o) → Q (some (.ref r), H')) : Wp Pg 4 (0, [.val (.long x), .second, .unset], [], H, 0, 0) Q := by
  have hn : ¬ H.length < 259 := by have := g.2.2; omega
  have hN := hq (H ++ [(.inr 2, [.long x])]) H.length ⟨_, own_get _ _⟩ (fun i o h => own_app h)
  by_cases h1 : x < -128
  · simp +decide only [w4_0, w4_3, w4_4, w4_5, w4_8, w4_9, w4_12, w4_13, w4_16, w4_17, w4_20, w4_23, w4_24, w4_25, w4_28, w4_29, w4_30, w4_30n, w4_31, w4_34, w4_35, w4_36, w4_39, w4_39n, w5_0, w5_1, w5_4, w5_5, w5_6, w5_9, w6_0, w6_1, w6_4, r3_31_1, r3_35_1, r3_39_1, r3_43_1, r3_46_1, q2_31_1, q2_31_1n, q2_35_1, q2_39_1, q2_43_1, q2_46_1, q5_273_2, List.length_cons, List.length_nil, List.length_append, List.length_set, List.length_replicate, wt_nil, wt_int, wt_ref, wt_null, wt_long, wt_double, s1_unset, s1_int, s1_ref, s1_null, s2_unset, s2_val, s3_unset, s3_second, s3_int, s3_ref, isA_ref', isA_null', cat_int, cat_ref, cat_null, List.cons_append, List.nil_append, List.getElem?_cons_zero, List.getElem?_cons_succ, List.getElem?_nil, List.set_cons_zero, List.set_cons_succ, Option.toList_some, Option.toList_none, Option.some.injEq, exists_eq_left', Option.bind_some, Option.map_some, kdOf_eq, kdO_obj, rdF_eq, wrF_eq, alen_eq, ldA_eq, ldO_i, ldO_b, ldO_c, ldO_a, stA_i, stO_i, stA_b, stO_b, stA_c, stO_c, stA_d, stO_d, ldO_d, j0_eq, Nat.not_lt_zero, if_true, if_false, not_false_eq_true, not_true_eq_false, true_and, and_true, reduceCtorEq, Value.ref.injEq, ne_eq, Nat.zero_add, Nat.add_zero, Nat.reduceAdd, Nat.reduceLeDiff, Nat.le_refl, Nat.reduceLT, Nat.zero_le, Value.int.injEq, Value.long.injEq, tn0, tn1, tn2, tn3, tn4, tn5, tn6, tn7, tn8, tn9, tl0, tl1, tl2, tl3, tl4, tl5, tl6, tl7, tl8, tl9, rp0, rp1, rp2, rp3, rp4, rp5, rp6, rp7, rp8, rp9, alO_a, an0, an1, ↓reduceIte, Int32.reduceAdd, Int32.reduceSub, Int32.reduceMul, Int32.reduceLT, Int32.reduceLE, Int32.reduceToNatClampNeg, Int64.reduceLT, Int64.reduceLE, Int64.reduceAdd, on0, on1, on2, on3, on4, on5, on6, on7, on8, on9, own_get, own_set, hn, cmp_lt, cmp_gt, h1, hN]
  · by_cases h2 : 127 < x
    · simp +decide only [w4_0, w4_3, w4_4, w4_5, w4_8, w4_9, w4_12, w4_13, w4_16, w4_17, w4_20, w4_23, w4_24, w4_25, w4_28, w4_29, w4_30, w4_30n, w4_31, w4_34, w4_35, w4_36, w4_39, w4_39n, w5_0, w5_1, w5_4, w5_5, w5_6, w5_9, w6_0, w6_1, w6_4, r3_31_1, r3_35_1, r3_39_1, r3_43_1, r3_46_1, q2_31_1, q2_31_1n, q2_35_1, q2_39_1, q2_43_1, q2_46_1, q5_273_2, List.length_cons, List.length_nil, List.length_append, List.length_set, List.length_replicate, wt_nil, wt_int, wt_ref, wt_null, wt_long, wt_double, s1_unset, s1_int, s1_ref, s1_null, s2_unset, s2_val, s3_unset, s3_second, s3_int, s3_ref, isA_ref', isA_null', cat_int, cat_ref, cat_null, List.cons_append, List.nil_append, List.getElem?_cons_zero, List.getElem?_cons_succ, List.getElem?_nil, List.set_cons_zero, List.set_cons_succ, Option.toList_some, Option.toList_none, Option.some.injEq, exists_eq_left', Option.bind_some, Option.map_some, kdOf_eq, kdO_obj, rdF_eq, wrF_eq, alen_eq, ldA_eq, ldO_i, ldO_b, ldO_c, ldO_a, stA_i, stO_i, stA_b, stO_b, stA_c, stO_c, stA_d, stO_d, ldO_d, j0_eq, Nat.not_lt_zero, if_true, if_false, not_false_eq_true, not_true_eq_false, true_and, and_true, reduceCtorEq, Value.ref.injEq, ne_eq, Nat.zero_add, Nat.add_zero, Nat.reduceAdd, Nat.reduceLeDiff, Nat.le_refl, Nat.reduceLT, Nat.zero_le, Value.int.injEq, Value.long.injEq, tn0, tn1, tn2, tn3, tn4, tn5, tn6, tn7, tn8, tn9, tl0, tl1, tl2, tl3, tl4, tl5, tl6, tl7, tl8, tl9, rp0, rp1, rp2, rp3, rp4, rp5, rp6, rp7, rp8, rp9, alO_a, an0, an1, ↓reduceIte, Int32.reduceAdd, Int32.reduceSub, Int32.reduceMul, Int32.reduceLT, Int32.reduceLE, Int32.reduceToNatClampNeg, Int64.reduceLT, Int64.reduceLE, Int64.reduceAdd, on0, on1, on2, on3, on4, on5, on6, on7, on8, on9, own_get, own_set, hn, cmp_lt, cmp_gt, h1, h2, hN]
    · obtain ⟨i, hi, e⟩ := own_ld g h1 h2
      simp +decide only [w4_0, w4_3, w4_4, w4_5, w4_8, w4_9, w4_12, w4_13, w4_16, w4_17, w4_20, w4_23, w4_24, w4_25, w4_28, List.length_cons, List.length_nil, List.length_append, List.length_set, List.length_replicate, wt_nil, wt_int, wt_ref, wt_null, wt_long, wt_double, s1_unset, s1_int, s1_ref, s1_null, s2_unset, s2_val, s3_unset, s3_second, s3_int, s3_ref, isA_ref', isA_null', cat_int, cat_ref, cat_null, List.cons_append, List.nil_append, List.getElem?_cons_zero, List.getElem?_cons_succ, List.getElem?_nil, List.set_cons_zero, List.set_cons_succ, Option.toList_some, Option.toList_none, Option.some.injEq, exists_eq_left', Option.bind_some, Option.map_some, kdOf_eq, kdO_obj, rdF_eq, wrF_eq, alen_eq, ldA_eq, ldO_i, ldO_b, ldO_c, ldO_a, stA_i, stO_i, stA_b, stO_b, stA_c, stO_c, stA_d, stO_d, ldO_d, j0_eq, Nat.not_lt_zero, if_true, if_false, not_false_eq_true, not_true_eq_false, true_and, and_true, reduceCtorEq, Value.ref.injEq, ne_eq, Nat.zero_add, Nat.add_zero, Nat.reduceAdd, Nat.reduceLeDiff, Nat.le_refl, Nat.reduceLT, Nat.zero_le, Value.int.injEq, Value.long.injEq, tn0, tn1, tn2, tn3, tn4, tn5, tn6, tn7, tn8, tn9, tl0, tl1, tl2, tl3, tl4, tl5, tl6, tl7, tl8, tl9, rp0, rp1, rp2, rp3, rp4, rp5, rp6, rp7, rp8, rp9, alO_a, an0, an1, ↓reduceIte, Int32.reduceAdd, Int32.reduceSub, Int32.reduceMul, Int32.reduceLT, Int32.reduceLE, Int32.reduceToNatClampNeg, Int64.reduceLT, Int64.reduceLE, Int64.reduceAdd, on0, on1, on2, on3, on4, on5, on6, on7, on8, on9, cmp_lt, cmp_gt, h1, h2]
      rw [w4_29]
      refine ⟨_, e, ?_⟩
      rw [w4_30 (by decide) (by decide)]
      exact hq H i (g.2.1 i hi) (fun _ _ h => h)
theorem own_init {k : Nat} {m : Int64} {r f o : Int32} (hm : ¬ m < 0) (hr : ¬ r < 0) (hf : ¬ f < -1) (ho : o = 0 ∨ o = 1 ∧ 0 < f) {H : Hp} {a : Nat} (ha : a = H.length) (hn : ¬ H.length < 259) {Q : MRes → Prop} (hq : Q (none, H ++ [(.inr 1, [.ref k, .long m, .int r, .int f, .int o])])) :
    Wp Pg 2 (0, [.val (.ref a), .val (.ref k), .val (.long m), .second, .val (.int r), .val (.int f), .val (.int o)], [], H ++ [(.inr 1, [.null, .long 0, .int 0, .int 0, .int 0])], 0, 0) Q := by
  subst ha
  rcases ho with rfl | ⟨rfl, hp⟩
  · simp +decide only [w2_0, w2_1, w2_4, w2_5, w2_6, w2_7, w2_10, w2_12, w2_15, w2_17, w2_18, w2_21, w2_23, w2_26, w2_28, w2_65, w2_66, w2_67, w2_70, w2_71, w2_72, w2_75, w2_76, w2_78, w2_81, w2_82, w2_84, w2_87, w2_88, w2_90, w2_93, r3_31_1, r3_35_1, r3_39_1, r3_43_1, r3_46_1, q2_31_1, q2_31_1n, q2_35_1, q2_39_1, q2_43_1, q2_46_1, q5_273_2, List.length_cons, List.length_nil, List.length_append, List.length_set, List.length_replicate, wt_nil, wt_int, wt_ref, wt_null, wt_long, wt_double, s1_unset, s1_int, s1_ref, s1_null, s2_unset, s2_val, s3_unset, s3_second, s3_int, s3_ref, isA_ref', isA_null', cat_int, cat_ref, cat_null, List.cons_append, List.nil_append, List.getElem?_cons_zero, List.getElem?_cons_succ, List.getElem?_nil, List.set_cons_zero, List.set_cons_succ, Option.toList_some, Option.toList_none, Option.some.injEq, exists_eq_left', Option.bind_some, Option.map_some, kdOf_eq, kdO_obj, rdF_eq, wrF_eq, alen_eq, ldA_eq, ldO_i, ldO_b, ldO_c, ldO_a, stA_i, stO_i, stA_b, stO_b, stA_c, stO_c, stA_d, stO_d, ldO_d, j0_eq, Nat.not_lt_zero, if_true, if_false, not_false_eq_true, not_true_eq_false, true_and, and_true, reduceCtorEq, Value.ref.injEq, ne_eq, Nat.zero_add, Nat.add_zero, Nat.reduceAdd, Nat.reduceLeDiff, Nat.le_refl, Nat.reduceLT, Nat.zero_le, Value.int.injEq, Value.long.injEq, tn0, tn1, tn2, tn3, tn4, tn5, tn6, tn7, tn8, tn9, tl0, tl1, tl2, tl3, tl4, tl5, tl6, tl7, tl8, tl9, rp0, rp1, rp2, rp3, rp4, rp5, rp6, rp7, rp8, rp9, alO_a, an0, an1, ↓reduceIte, Int32.reduceAdd, Int32.reduceSub, Int32.reduceMul, Int32.reduceLT, Int32.reduceLE, Int32.reduceToNatClampNeg, Int64.reduceLT, Int64.reduceLE, Int64.reduceAdd, on0, on1, on2, on3, on4, on5, on6, on7, on8, on9, own_get, own_set, hn, cmp_lt, hm, hr, hf, hq]
  · simp +decide only [w2_0, w2_1, w2_4, w2_5, w2_6, w2_7, w2_10, w2_12, w2_15, w2_17, w2_18, w2_21, w2_23, w2_26, w2_28, w2_65, w2_66, w2_67, w2_70, w2_71, w2_72, w2_75, w2_76, w2_78, w2_81, w2_82, w2_84, w2_87, w2_88, w2_90, w2_93, r3_31_1, r3_35_1, r3_39_1, r3_43_1, r3_46_1, q2_31_1, q2_31_1n, q2_35_1, q2_39_1, q2_43_1, q2_46_1, q5_273_2, List.length_cons, List.length_nil, List.length_append, List.length_set, List.length_replicate, wt_nil, wt_int, wt_ref, wt_null, wt_long, wt_double, s1_unset, s1_int, s1_ref, s1_null, s2_unset, s2_val, s3_unset, s3_second, s3_int, s3_ref, isA_ref', isA_null', cat_int, cat_ref, cat_null, List.cons_append, List.nil_append, List.getElem?_cons_zero, List.getElem?_cons_succ, List.getElem?_nil, List.set_cons_zero, List.set_cons_succ, Option.toList_some, Option.toList_none, Option.some.injEq, exists_eq_left', Option.bind_some, Option.map_some, kdOf_eq, kdO_obj, rdF_eq, wrF_eq, alen_eq, ldA_eq, ldO_i, ldO_b, ldO_c, ldO_a, stA_i, stO_i, stA_b, stO_b, stA_c, stO_c, stA_d, stO_d, ldO_d, j0_eq, Nat.not_lt_zero, if_true, if_false, not_false_eq_true, not_true_eq_false, true_and, and_true, reduceCtorEq, Value.ref.injEq, ne_eq, Nat.zero_add, Nat.add_zero, Nat.reduceAdd, Nat.reduceLeDiff, Nat.le_refl, Nat.reduceLT, Nat.zero_le, Value.int.injEq, Value.long.injEq, tn0, tn1, tn2, tn3, tn4, tn5, tn6, tn7, tn8, tn9, tl0, tl1, tl2, tl3, tl4, tl5, tl6, tl7, tl8, tl9, rp0, rp1, rp2, rp3, rp4, rp5, rp6, rp7, rp8, rp9, alO_a, an0, an1, ↓reduceIte, Int32.reduceAdd, Int32.reduceSub, Int32.reduceMul, Int32.reduceLT, Int32.reduceLE, Int32.reduceToNatClampNeg, Int64.reduceLT, Int64.reduceLE, Int64.reduceAdd, on0, on1, on2, on3, on4, on5, on6, on7, on8, on9, own_get, own_set, hn, cmp_lt, hm, hr, hf, hp, hq]
def own_C (a1 a2 : Nat) (m1 m2 : Int64) (r1 r2 f1 f2 o1 o2 E : Int32) : Prop := (a1 = a2 ∧ m1 = m2 ∧ r1 = r2 ∧ f1 = f2 ∧ o1 = o2) ∧ E = 1 ∨ ¬ (a1 = a2 ∧ m1 = m2 ∧ r1 = r2 ∧ f1 = f2 ∧ o1 = o2) ∧ E = 0
theorem own_C.symm {a1 a2 : Nat} {m1 m2 : Int64} {r1 r2 f1 f2 o1 o2 E : Int32} (h : own_C a1 a2 m1 m2 r1 r2 f1 f2 o1 o2 E) : own_C a2 a1 m2 m1 r2 r1 f2 f1 o2 o1 E := by
  rcases h with ⟨⟨h1, h2, h3, h4, h5⟩, e⟩ | ⟨h, e⟩
  · exact Or.inl ⟨⟨h1.symm, h2.symm, h3.symm, h4.symm, h5.symm⟩, e⟩
  · exact Or.inr ⟨fun ⟨h1, h2, h3, h4, h5⟩ => h ⟨h1.symm, h2.symm, h3.symm, h4.symm, h5.symm⟩, e⟩
theorem own_eqs {H : Hp} {a b a1 a2 : Nat} {m1 m2 : Int64} {r1 r2 f1 f2 o1 o2 E : Int32} (e1 : H[a]? = some (.inr 1, [.ref a1, .long m1, .int r1, .int f1, .int o1])) (e2 : H[b]? = some (.inr 1, [.ref a2, .long m2, .int r2, .int f2, .int o2])) (hE : own_C a1 a2 m1 m2 r1 r2 f1 f2 o1 o2 E) {Q : MRes → Prop} (hq : Q (some (.int E), H)) :
    Wp Pg 3 (0, [.val (.ref a), .val (.ref b), .unset], [], H, 0, 0) Q := by
  have c2 : castI Pg 3 2 H b = some true := by simp only [castI, e2]; decide
  rcases hE with ⟨⟨h1, h2, h3, h4, h5⟩, e⟩ | ⟨h, e⟩
  · subst e h1 h2 h3 h4 h5
    simp +decide only [w3_0, w3_1, w3_1n, w3_4, w3_7, w3_8, w3_9, w3_10, w3_10n, w3_13, w3_14, w3_15, w3_18, w3_19, w3_22, w3_25, w3_26, w3_29, w3_30, w3_33, w3_34, w3_37, w3_38, w3_41, w3_42, w3_45, w3_48, w3_49, w3_52, w3_53, w3_56, w3_59, w3_60, w3_63, w3_64, w3_67, w3_70, w3_71, w3_74, w3_75, r3_31_1, r3_35_1, r3_39_1, r3_43_1, r3_46_1, q2_31_1, q2_31_1n, q2_35_1, q2_39_1, q2_43_1, q2_46_1, q5_273_2, List.length_cons, List.length_nil, List.length_append, List.length_set, List.length_replicate, wt_nil, wt_int, wt_ref, wt_null, wt_long, wt_double, s1_unset, s1_int, s1_ref, s1_null, s2_unset, s2_val, s3_unset, s3_second, s3_int, s3_ref, isA_ref', isA_null', cat_int, cat_ref, cat_null, List.cons_append, List.nil_append, List.getElem?_cons_zero, List.getElem?_cons_succ, List.getElem?_nil, List.set_cons_zero, List.set_cons_succ, Option.toList_some, Option.toList_none, Option.some.injEq, exists_eq_left', Option.bind_some, Option.map_some, kdOf_eq, kdO_obj, rdF_eq, wrF_eq, alen_eq, ldA_eq, ldO_i, ldO_b, ldO_c, ldO_a, stA_i, stO_i, stA_b, stO_b, stA_c, stO_c, stA_d, stO_d, ldO_d, j0_eq, Nat.not_lt_zero, if_true, if_false, not_false_eq_true, not_true_eq_false, true_and, and_true, reduceCtorEq, Value.ref.injEq, ne_eq, Nat.zero_add, Nat.add_zero, Nat.reduceAdd, Nat.reduceLeDiff, Nat.le_refl, Nat.reduceLT, Nat.zero_le, Value.int.injEq, Value.long.injEq, tn0, tn1, tn2, tn3, tn4, tn5, tn6, tn7, tn8, tn9, tl0, tl1, tl2, tl3, tl4, tl5, tl6, tl7, tl8, tl9, rp0, rp1, rp2, rp3, rp4, rp5, rp6, rp7, rp8, rp9, alO_a, an0, an1, ↓reduceIte, Int32.reduceAdd, Int32.reduceSub, Int32.reduceMul, Int32.reduceLT, Int32.reduceLE, Int32.reduceToNatClampNeg, Int64.reduceLT, Int64.reduceLE, Int64.reduceAdd, on0, on1, on2, on3, on4, on5, on6, on7, on8, on9, e1, e2, c2, cmp_eq, hq]
  · subst e
    by_cases ha : a1 = a2
    · by_cases hm : m1 = m2
      · by_cases hr : r1 = r2
        · by_cases hf : f1 = f2
          · by_cases ho : o1 = o2
            · exact absurd ⟨ha, hm, hr, hf, ho⟩ h
            · simp +decide only [w3_0, w3_1, w3_1n, w3_4, w3_7, w3_8, w3_9, w3_10, w3_10n, w3_13, w3_14, w3_15, w3_18, w3_19, w3_22, w3_25, w3_26, w3_29, w3_30, w3_33, w3_34, w3_37, w3_38, w3_41, w3_42, w3_45, w3_48, w3_49, w3_52, w3_53, w3_56, w3_59, w3_60, w3_63, w3_64, w3_67, w3_70, w3_71, w3_74, w3_75, r3_31_1, r3_35_1, r3_39_1, r3_43_1, r3_46_1, q2_31_1, q2_31_1n, q2_35_1, q2_39_1, q2_43_1, q2_46_1, q5_273_2, List.length_cons, List.length_nil, List.length_append, List.length_set, List.length_replicate, wt_nil, wt_int, wt_ref, wt_null, wt_long, wt_double, s1_unset, s1_int, s1_ref, s1_null, s2_unset, s2_val, s3_unset, s3_second, s3_int, s3_ref, isA_ref', isA_null', cat_int, cat_ref, cat_null, List.cons_append, List.nil_append, List.getElem?_cons_zero, List.getElem?_cons_succ, List.getElem?_nil, List.set_cons_zero, List.set_cons_succ, Option.toList_some, Option.toList_none, Option.some.injEq, exists_eq_left', Option.bind_some, Option.map_some, kdOf_eq, kdO_obj, rdF_eq, wrF_eq, alen_eq, ldA_eq, ldO_i, ldO_b, ldO_c, ldO_a, stA_i, stO_i, stA_b, stO_b, stA_c, stO_c, stA_d, stO_d, ldO_d, j0_eq, Nat.not_lt_zero, if_true, if_false, not_false_eq_true, not_true_eq_false, true_and, and_true, reduceCtorEq, Value.ref.injEq, ne_eq, Nat.zero_add, Nat.add_zero, Nat.reduceAdd, Nat.reduceLeDiff, Nat.le_refl, Nat.reduceLT, Nat.zero_le, Value.int.injEq, Value.long.injEq, tn0, tn1, tn2, tn3, tn4, tn5, tn6, tn7, tn8, tn9, tl0, tl1, tl2, tl3, tl4, tl5, tl6, tl7, tl8, tl9, rp0, rp1, rp2, rp3, rp4, rp5, rp6, rp7, rp8, rp9, alO_a, an0, an1, ↓reduceIte, Int32.reduceAdd, Int32.reduceSub, Int32.reduceMul, Int32.reduceLT, Int32.reduceLE, Int32.reduceToNatClampNeg, Int64.reduceLT, Int64.reduceLE, Int64.reduceAdd, on0, on1, on2, on3, on4, on5, on6, on7, on8, on9, e1, e2, c2, cmp_eq, ha, hm, hr, hf, ho, hq]
          · simp +decide only [w3_0, w3_1, w3_1n, w3_4, w3_7, w3_8, w3_9, w3_10, w3_10n, w3_13, w3_14, w3_15, w3_18, w3_19, w3_22, w3_25, w3_26, w3_29, w3_30, w3_33, w3_34, w3_37, w3_38, w3_41, w3_42, w3_45, w3_48, w3_49, w3_52, w3_53, w3_56, w3_59, w3_60, w3_63, w3_64, w3_67, w3_70, w3_71, w3_74, w3_75, r3_31_1, r3_35_1, r3_39_1, r3_43_1, r3_46_1, q2_31_1, q2_31_1n, q2_35_1, q2_39_1, q2_43_1, q2_46_1, q5_273_2, List.length_cons, List.length_nil, List.length_append, List.length_set, List.length_replicate, wt_nil, wt_int, wt_ref, wt_null, wt_long, wt_double, s1_unset, s1_int, s1_ref, s1_null, s2_unset, s2_val, s3_unset, s3_second, s3_int, s3_ref, isA_ref', isA_null', cat_int, cat_ref, cat_null, List.cons_append, List.nil_append, List.getElem?_cons_zero, List.getElem?_cons_succ, List.getElem?_nil, List.set_cons_zero, List.set_cons_succ, Option.toList_some, Option.toList_none, Option.some.injEq, exists_eq_left', Option.bind_some, Option.map_some, kdOf_eq, kdO_obj, rdF_eq, wrF_eq, alen_eq, ldA_eq, ldO_i, ldO_b, ldO_c, ldO_a, stA_i, stO_i, stA_b, stO_b, stA_c, stO_c, stA_d, stO_d, ldO_d, j0_eq, Nat.not_lt_zero, if_true, if_false, not_false_eq_true, not_true_eq_false, true_and, and_true, reduceCtorEq, Value.ref.injEq, ne_eq, Nat.zero_add, Nat.add_zero, Nat.reduceAdd, Nat.reduceLeDiff, Nat.le_refl, Nat.reduceLT, Nat.zero_le, Value.int.injEq, Value.long.injEq, tn0, tn1, tn2, tn3, tn4, tn5, tn6, tn7, tn8, tn9, tl0, tl1, tl2, tl3, tl4, tl5, tl6, tl7, tl8, tl9, rp0, rp1, rp2, rp3, rp4, rp5, rp6, rp7, rp8, rp9, alO_a, an0, an1, ↓reduceIte, Int32.reduceAdd, Int32.reduceSub, Int32.reduceMul, Int32.reduceLT, Int32.reduceLE, Int32.reduceToNatClampNeg, Int64.reduceLT, Int64.reduceLE, Int64.reduceAdd, on0, on1, on2, on3, on4, on5, on6, on7, on8, on9, e1, e2, c2, cmp_eq, ha, hm, hr, hf, hq]
        · simp +decide only [w3_0, w3_1, w3_1n, w3_4, w3_7, w3_8, w3_9, w3_10, w3_10n, w3_13, w3_14, w3_15, w3_18, w3_19, w3_22, w3_25, w3_26, w3_29, w3_30, w3_33, w3_34, w3_37, w3_38, w3_41, w3_42, w3_45, w3_48, w3_49, w3_52, w3_53, w3_56, w3_59, w3_60, w3_63, w3_64, w3_67, w3_70, w3_71, w3_74, w3_75, r3_31_1, r3_35_1, r3_39_1, r3_43_1, r3_46_1, q2_31_1, q2_31_1n, q2_35_1, q2_39_1, q2_43_1, q2_46_1, q5_273_2, List.length_cons, List.length_nil, List.length_append, List.length_set, List.length_replicate, wt_nil, wt_int, wt_ref, wt_null, wt_long, wt_double, s1_unset, s1_int, s1_ref, s1_null, s2_unset, s2_val, s3_unset, s3_second, s3_int, s3_ref, isA_ref', isA_null', cat_int, cat_ref, cat_null, List.cons_append, List.nil_append, List.getElem?_cons_zero, List.getElem?_cons_succ, List.getElem?_nil, List.set_cons_zero, List.set_cons_succ, Option.toList_some, Option.toList_none, Option.some.injEq, exists_eq_left', Option.bind_some, Option.map_some, kdOf_eq, kdO_obj, rdF_eq, wrF_eq, alen_eq, ldA_eq, ldO_i, ldO_b, ldO_c, ldO_a, stA_i, stO_i, stA_b, stO_b, stA_c, stO_c, stA_d, stO_d, ldO_d, j0_eq, Nat.not_lt_zero, if_true, if_false, not_false_eq_true, not_true_eq_false, true_and, and_true, reduceCtorEq, Value.ref.injEq, ne_eq, Nat.zero_add, Nat.add_zero, Nat.reduceAdd, Nat.reduceLeDiff, Nat.le_refl, Nat.reduceLT, Nat.zero_le, Value.int.injEq, Value.long.injEq, tn0, tn1, tn2, tn3, tn4, tn5, tn6, tn7, tn8, tn9, tl0, tl1, tl2, tl3, tl4, tl5, tl6, tl7, tl8, tl9, rp0, rp1, rp2, rp3, rp4, rp5, rp6, rp7, rp8, rp9, alO_a, an0, an1, ↓reduceIte, Int32.reduceAdd, Int32.reduceSub, Int32.reduceMul, Int32.reduceLT, Int32.reduceLE, Int32.reduceToNatClampNeg, Int64.reduceLT, Int64.reduceLE, Int64.reduceAdd, on0, on1, on2, on3, on4, on5, on6, on7, on8, on9, e1, e2, c2, cmp_eq, ha, hm, hr, hq]
      · simp +decide only [w3_0, w3_1, w3_1n, w3_4, w3_7, w3_8, w3_9, w3_10, w3_10n, w3_13, w3_14, w3_15, w3_18, w3_19, w3_22, w3_25, w3_26, w3_29, w3_30, w3_33, w3_34, w3_37, w3_38, w3_41, w3_42, w3_45, w3_48, w3_49, w3_52, w3_53, w3_56, w3_59, w3_60, w3_63, w3_64, w3_67, w3_70, w3_71, w3_74, w3_75, r3_31_1, r3_35_1, r3_39_1, r3_43_1, r3_46_1, q2_31_1, q2_31_1n, q2_35_1, q2_39_1, q2_43_1, q2_46_1, q5_273_2, List.length_cons, List.length_nil, List.length_append, List.length_set, List.length_replicate, wt_nil, wt_int, wt_ref, wt_null, wt_long, wt_double, s1_unset, s1_int, s1_ref, s1_null, s2_unset, s2_val, s3_unset, s3_second, s3_int, s3_ref, isA_ref', isA_null', cat_int, cat_ref, cat_null, List.cons_append, List.nil_append, List.getElem?_cons_zero, List.getElem?_cons_succ, List.getElem?_nil, List.set_cons_zero, List.set_cons_succ, Option.toList_some, Option.toList_none, Option.some.injEq, exists_eq_left', Option.bind_some, Option.map_some, kdOf_eq, kdO_obj, rdF_eq, wrF_eq, alen_eq, ldA_eq, ldO_i, ldO_b, ldO_c, ldO_a, stA_i, stO_i, stA_b, stO_b, stA_c, stO_c, stA_d, stO_d, ldO_d, j0_eq, Nat.not_lt_zero, if_true, if_false, not_false_eq_true, not_true_eq_false, true_and, and_true, reduceCtorEq, Value.ref.injEq, ne_eq, Nat.zero_add, Nat.add_zero, Nat.reduceAdd, Nat.reduceLeDiff, Nat.le_refl, Nat.reduceLT, Nat.zero_le, Value.int.injEq, Value.long.injEq, tn0, tn1, tn2, tn3, tn4, tn5, tn6, tn7, tn8, tn9, tl0, tl1, tl2, tl3, tl4, tl5, tl6, tl7, tl8, tl9, rp0, rp1, rp2, rp3, rp4, rp5, rp6, rp7, rp8, rp9, alO_a, an0, an1, ↓reduceIte, Int32.reduceAdd, Int32.reduceSub, Int32.reduceMul, Int32.reduceLT, Int32.reduceLE, Int32.reduceToNatClampNeg, Int64.reduceLT, Int64.reduceLE, Int64.reduceAdd, on0, on1, on2, on3, on4, on5, on6, on7, on8, on9, e1, e2, c2, cmp_eq, ha, hm, hq]
    · simp +decide only [w3_0, w3_1, w3_1n, w3_4, w3_7, w3_8, w3_9, w3_10, w3_10n, w3_13, w3_14, w3_15, w3_18, w3_19, w3_22, w3_25, w3_26, w3_29, w3_30, w3_33, w3_34, w3_37, w3_38, w3_41, w3_42, w3_45, w3_48, w3_49, w3_52, w3_53, w3_56, w3_59, w3_60, w3_63, w3_64, w3_67, w3_70, w3_71, w3_74, w3_75, r3_31_1, r3_35_1, r3_39_1, r3_43_1, r3_46_1, q2_31_1, q2_31_1n, q2_35_1, q2_39_1, q2_43_1, q2_46_1, q5_273_2, List.length_cons, List.length_nil, List.length_append, List.length_set, List.length_replicate, wt_nil, wt_int, wt_ref, wt_null, wt_long, wt_double, s1_unset, s1_int, s1_ref, s1_null, s2_unset, s2_val, s3_unset, s3_second, s3_int, s3_ref, isA_ref', isA_null', cat_int, cat_ref, cat_null, List.cons_append, List.nil_append, List.getElem?_cons_zero, List.getElem?_cons_succ, List.getElem?_nil, List.set_cons_zero, List.set_cons_succ, Option.toList_some, Option.toList_none, Option.some.injEq, exists_eq_left', Option.bind_some, Option.map_some, kdOf_eq, kdO_obj, rdF_eq, wrF_eq, alen_eq, ldA_eq, ldO_i, ldO_b, ldO_c, ldO_a, stA_i, stO_i, stA_b, stO_b, stA_c, stO_c, stA_d, stO_d, ldO_d, j0_eq, Nat.not_lt_zero, if_true, if_false, not_false_eq_true, not_true_eq_false, true_and, and_true, reduceCtorEq, Value.ref.injEq, ne_eq, Nat.zero_add, Nat.add_zero, Nat.reduceAdd, Nat.reduceLeDiff, Nat.le_refl, Nat.reduceLT, Nat.zero_le, Value.int.injEq, Value.long.injEq, tn0, tn1, tn2, tn3, tn4, tn5, tn6, tn7, tn8, tn9, tl0, tl1, tl2, tl3, tl4, tl5, tl6, tl7, tl8, tl9, rp0, rp1, rp2, rp3, rp4, rp5, rp6, rp7, rp8, rp9, alO_a, an0, an1, ↓reduceIte, Int32.reduceAdd, Int32.reduceSub, Int32.reduceMul, Int32.reduceLT, Int32.reduceLE, Int32.reduceToNatClampNeg, Int64.reduceLT, Int64.reduceLE, Int64.reduceAdd, on0, on1, on2, on3, on4, on5, on6, on7, on8, on9, e1, e2, c2, cmp_eq, ha, hq]
theorem own_250 (x0 x1 : Int64) (x2 x3 x4 : Int32) (x5 : Int64) (fl fr : Int32) (a1 a2 : Nat) (m1 m2 : Int64) (r1 r2 f1 f2 o1 o2 : Int32) (E : Int32) (hE : own_C a1 a2 m1 m2 r1 r2 f1 f2 o1 o2 E) {H : Hp} (g : own_G H) (e1 : H[259]? = some (.inr 1, [.ref a1, .long m1, .int r1, .int f1, .int o1])) (e2 : H[260]? = some (.inr 1, [.ref a2, .long m2, .int r2, .int f2, .int o2])) : Wp Pg 0 (250, [.val (.long x0), .second, .val (.long x1), .second, .val (.int x2), .val (.int x3), .val (.int x4), .val (.long x5), .second, .val (.int fl), .val (.int fr), .val (.ref a1), .val (.ref a2), .val (.long m1), .second, .val (.long m2), .second, .val (.int r1), .val (.int r2), .val (.int f1), .val (.int f2), .val (.int o1), .val (.int o2), .val (.ref 259), .val (.ref 260), .unset], [.int E], H, 2, 10) (fun r => r.1 = some (.int 1)) := by
  simp +decide only [w0_250, w0_252, w0_254, w0_256, w1_0, w1_1, w1_2, w1_5, w1_6, w1_9, w1_10, List.length_cons, List.length_nil, List.length_append, List.length_set, List.length_replicate, wt_nil, wt_int, wt_ref, wt_null, wt_long, wt_double, s1_unset, s1_int, s1_ref, s1_null, s2_unset, s2_val, s3_unset, s3_second, s3_int, s3_ref, isA_ref', isA_null', cat_int, cat_ref, cat_null, List.cons_append, List.nil_append, List.getElem?_cons_zero, List.getElem?_cons_succ, List.getElem?_nil, List.set_cons_zero, List.set_cons_succ, Option.toList_some, Option.toList_none, Option.some.injEq, exists_eq_left', Option.bind_some, Option.map_some, kdOf_eq, kdO_obj, rdF_eq, wrF_eq, alen_eq, ldA_eq, ldO_i, ldO_b, ldO_c, ldO_a, stA_i, stO_i, stA_b, stO_b, stA_c, stO_c, stA_d, stO_d, ldO_d, j0_eq, Nat.not_lt_zero, if_true, if_false, not_false_eq_true, not_true_eq_false, true_and, and_true, reduceCtorEq, Value.ref.injEq, ne_eq, Nat.zero_add, Nat.add_zero, Nat.reduceAdd, Nat.reduceLeDiff, Nat.le_refl, Nat.reduceLT, Nat.zero_le, Value.int.injEq, Value.long.injEq, tn0, tn1, tn2, tn3, tn4, tn5, tn6, tn7, tn8, tn9, tl0, tl1, tl2, tl3, tl4, tl5, tl6, tl7, tl8, tl9, rp0, rp1, rp2, rp3, rp4, rp5, rp6, rp7, rp8, rp9, alO_a, an0, an1, ↓reduceIte, Int32.reduceAdd, Int32.reduceSub, Int32.reduceMul, Int32.reduceLT, Int32.reduceLE, Int32.reduceToNatClampNeg, Int64.reduceLT, Int64.reduceLE, Int64.reduceAdd, on0, on1, on2, on3, on4, on5, on6, on7, on8, on9, e1]
  refine own_eqs e1 e2 hE ?_
  simp +decide only [w0_259, w0_261, w0_264, w0_266, w0_268, w1_0, w1_1, w1_2, w1_5, w1_6, w1_9, w1_10, List.length_cons, List.length_nil, List.length_append, List.length_set, List.length_replicate, wt_nil, wt_int, wt_ref, wt_null, wt_long, wt_double, s1_unset, s1_int, s1_ref, s1_null, s2_unset, s2_val, s3_unset, s3_second, s3_int, s3_ref, isA_ref', isA_null', cat_int, cat_ref, cat_null, List.cons_append, List.nil_append, List.getElem?_cons_zero, List.getElem?_cons_succ, List.getElem?_nil, List.set_cons_zero, List.set_cons_succ, Option.toList_some, Option.toList_none, Option.some.injEq, exists_eq_left', Option.bind_some, Option.map_some, kdOf_eq, kdO_obj, rdF_eq, wrF_eq, alen_eq, ldA_eq, ldO_i, ldO_b, ldO_c, ldO_a, stA_i, stO_i, stA_b, stO_b, stA_c, stO_c, stA_d, stO_d, ldO_d, j0_eq, Nat.not_lt_zero, if_true, if_false, not_false_eq_true, not_true_eq_false, true_and, and_true, reduceCtorEq, Value.ref.injEq, ne_eq, Nat.zero_add, Nat.add_zero, Nat.reduceAdd, Nat.reduceLeDiff, Nat.le_refl, Nat.reduceLT, Nat.zero_le, Value.int.injEq, Value.long.injEq, tn0, tn1, tn2, tn3, tn4, tn5, tn6, tn7, tn8, tn9, tl0, tl1, tl2, tl3, tl4, tl5, tl6, tl7, tl8, tl9, rp0, rp1, rp2, rp3, rp4, rp5, rp6, rp7, rp8, rp9, alO_a, an0, an1, ↓reduceIte, Int32.reduceAdd, Int32.reduceSub, Int32.reduceMul, Int32.reduceLT, Int32.reduceLE, Int32.reduceToNatClampNeg, Int64.reduceLT, Int64.reduceLE, Int64.reduceAdd, on0, on1, on2, on3, on4, on5, on6, on7, on8, on9, e2]
  refine own_eqs e2 e1 hE.symm ?_
  simp +decide only [w0_271, w0_273, w0_276, w0_278, w0_280, w1_0, w1_1, w1_2, w1_5, w1_6, w1_9, w1_10, List.length_cons, List.length_nil, List.length_append, List.length_set, List.length_replicate, wt_nil, wt_int, wt_ref, wt_null, wt_long, wt_double, s1_unset, s1_int, s1_ref, s1_null, s2_unset, s2_val, s3_unset, s3_second, s3_int, s3_ref, isA_ref', isA_null', cat_int, cat_ref, cat_null, List.cons_append, List.nil_append, List.getElem?_cons_zero, List.getElem?_cons_succ, List.getElem?_nil, List.set_cons_zero, List.set_cons_succ, Option.toList_some, Option.toList_none, Option.some.injEq, exists_eq_left', Option.bind_some, Option.map_some, kdOf_eq, kdO_obj, rdF_eq, wrF_eq, alen_eq, ldA_eq, ldO_i, ldO_b, ldO_c, ldO_a, stA_i, stO_i, stA_b, stO_b, stA_c, stO_c, stA_d, stO_d, ldO_d, j0_eq, Nat.not_lt_zero, if_true, if_false, not_false_eq_true, not_true_eq_false, true_and, and_true, reduceCtorEq, Value.ref.injEq, ne_eq, Nat.zero_add, Nat.add_zero, Nat.reduceAdd, Nat.reduceLeDiff, Nat.le_refl, Nat.reduceLT, Nat.zero_le, Value.int.injEq, Value.long.injEq, tn0, tn1, tn2, tn3, tn4, tn5, tn6, tn7, tn8, tn9, tl0, tl1, tl2, tl3, tl4, tl5, tl6, tl7, tl8, tl9, rp0, rp1, rp2, rp3, rp4, rp5, rp6, rp7, rp8, rp9, alO_a, an0, an1, ↓reduceIte, Int32.reduceAdd, Int32.reduceSub, Int32.reduceMul, Int32.reduceLT, Int32.reduceLE, Int32.reduceToNatClampNeg, Int64.reduceLT, Int64.reduceLE, Int64.reduceAdd, on0, on1, on2, on3, on4, on5, on6, on7, on8, on9, e1]
  refine own_eqs (E := 1) e1 e1 (Or.inl ⟨⟨rfl, rfl, rfl, rfl, rfl⟩, rfl⟩) ?_
  simp +decide only [w0_283, w0_286, w0_288, w0_289, w0_292, w0_295, w0_297, w0_299, w1_0, w1_1, w1_2, w1_5, w1_6, w1_9, w1_10, List.length_cons, List.length_nil, List.length_append, List.length_set, List.length_replicate, wt_nil, wt_int, wt_ref, wt_null, wt_long, wt_double, s1_unset, s1_int, s1_ref, s1_null, s2_unset, s2_val, s3_unset, s3_second, s3_int, s3_ref, isA_ref', isA_null', cat_int, cat_ref, cat_null, List.cons_append, List.nil_append, List.getElem?_cons_zero, List.getElem?_cons_succ, List.getElem?_nil, List.set_cons_zero, List.set_cons_succ, Option.toList_some, Option.toList_none, Option.some.injEq, exists_eq_left', Option.bind_some, Option.map_some, kdOf_eq, kdO_obj, rdF_eq, wrF_eq, alen_eq, ldA_eq, ldO_i, ldO_b, ldO_c, ldO_a, stA_i, stO_i, stA_b, stO_b, stA_c, stO_c, stA_d, stO_d, ldO_d, j0_eq, Nat.not_lt_zero, if_true, if_false, not_false_eq_true, not_true_eq_false, true_and, and_true, reduceCtorEq, Value.ref.injEq, ne_eq, Nat.zero_add, Nat.add_zero, Nat.reduceAdd, Nat.reduceLeDiff, Nat.le_refl, Nat.reduceLT, Nat.zero_le, Value.int.injEq, Value.long.injEq, tn0, tn1, tn2, tn3, tn4, tn5, tn6, tn7, tn8, tn9, tl0, tl1, tl2, tl3, tl4, tl5, tl6, tl7, tl8, tl9, rp0, rp1, rp2, rp3, rp4, rp5, rp6, rp7, rp8, rp9, alO_a, an0, an1, ↓reduceIte, Int32.reduceAdd, Int32.reduceSub, Int32.reduceMul, Int32.reduceLT, Int32.reduceLE, Int32.reduceToNatClampNeg, Int64.reduceLT, Int64.reduceLE, Int64.reduceAdd, on0, on1, on2, on3, on4, on5, on6, on7, on8, on9, e1, w3_0, w3_1, w3_1n, w3_4, w3_7, w3_8, w3_9, w3_10, w3_10n, w3_13, w3_14, w3_15, w3_18, w3_19, w3_22, w3_25, w3_26, w3_29, w3_30, w3_33, w3_34, w3_37, w3_38, w3_41, w3_42, w3_45, w3_48, w3_49, w3_52, w3_53, w3_56, w3_59, w3_60, w3_63, w3_64, w3_67, w3_70, w3_71, w3_74, w3_75]
  refine own_val m1 g fun H' r hr m => ?_
  have d1' := m _ _ e1
  have c' : castI Pg 3 2 H' r = some false := by obtain ⟨vs, h⟩ := hr; simp only [castI, h]; decide
  simp +decide only [w0_302, w0_305, w0_308, w0_309, w0_312, w0_313, w1_0, w1_1, w1_2, w1_5, w1_6, w1_9, w1_10, List.length_cons, List.length_nil, List.length_append, List.length_set, List.length_replicate, wt_nil, wt_int, wt_ref, wt_null, wt_long, wt_double, s1_unset, s1_int, s1_ref, s1_null, s2_unset, s2_val, s3_unset, s3_second, s3_int, s3_ref, isA_ref', isA_null', cat_int, cat_ref, cat_null, List.cons_append, List.nil_append, List.getElem?_cons_zero, List.getElem?_cons_succ, List.getElem?_nil, List.set_cons_zero, List.set_cons_succ, Option.toList_some, Option.toList_none, Option.some.injEq, exists_eq_left', Option.bind_some, Option.map_some, kdOf_eq, kdO_obj, rdF_eq, wrF_eq, alen_eq, ldA_eq, ldO_i, ldO_b, ldO_c, ldO_a, stA_i, stO_i, stA_b, stO_b, stA_c, stO_c, stA_d, stO_d, ldO_d, j0_eq, Nat.not_lt_zero, if_true, if_false, not_false_eq_true, not_true_eq_false, true_and, and_true, reduceCtorEq, Value.ref.injEq, ne_eq, Nat.zero_add, Nat.add_zero, Nat.reduceAdd, Nat.reduceLeDiff, Nat.le_refl, Nat.reduceLT, Nat.zero_le, Value.int.injEq, Value.long.injEq, tn0, tn1, tn2, tn3, tn4, tn5, tn6, tn7, tn8, tn9, tl0, tl1, tl2, tl3, tl4, tl5, tl6, tl7, tl8, tl9, rp0, rp1, rp2, rp3, rp4, rp5, rp6, rp7, rp8, rp9, alO_a, an0, an1, ↓reduceIte, Int32.reduceAdd, Int32.reduceSub, Int32.reduceMul, Int32.reduceLT, Int32.reduceLE, Int32.reduceToNatClampNeg, Int64.reduceLT, Int64.reduceLE, Int64.reduceAdd, on0, on1, on2, on3, on4, on5, on6, on7, on8, on9, d1', w3_0, w3_1, w3_1n, w3_4, w3_7, w3_8, w3_9, w3_10, w3_10n, w3_13, w3_14, w3_15, w3_18, w3_19, w3_22, w3_25, w3_26, w3_29, w3_30, w3_33, w3_34, w3_37, w3_38, w3_41, w3_42, w3_45, w3_48, w3_49, w3_52, w3_53, w3_56, w3_59, w3_60, w3_63, w3_64, w3_67, w3_70, w3_71, w3_74, w3_75, c']
theorem own_209 (x0 x1 : Int64) (x2 x3 x4 : Int32) (x5 : Int64) (fl fr : Int32) (a1 a2 : Nat) (m1 m2 : Int64) (r1 r2 f1 f2 o1 o2 : Int32) {H : Hp} (g : own_G H) (e1 : H[259]? = some (.inr 1, [.ref a1, .long m1, .int r1, .int f1, .int o1])) (e2 : H[260]? = some (.inr 1, [.ref a2, .long m2, .int r2, .int f2, .int o2])) : Wp Pg 0 (209, [.val (.long x0), .second, .val (.long x1), .second, .val (.int x2), .val (.int x3), .val (.int x4), .val (.long x5), .second, .val (.int fl), .val (.int fr), .val (.ref a1), .val (.ref a2), .val (.long m1), .second, .val (.long m2), .second, .val (.int r1), .val (.int r2), .val (.int f1), .val (.int f2), .val (.int o1), .val (.int o2), .val (.ref 259), .val (.ref 260), .unset], [], H, 2, 10) (fun r => r.1 = some (.int 1)) := by
  by_cases ha : a1 = a2
  · subst ha
    by_cases hm : m1 = m2
    · subst hm
      by_cases hr : r1 = r2
      · subst hr
        by_cases hf : f1 = f2
        · subst hf
          by_cases ho : o1 = o2
          · subst ho
            simp +decide only [w0_209, w0_211, w0_213, w0_216, w0_218, w0_220, w0_221, w0_224, w0_226, w0_228, w0_231, w0_233, w0_235, w0_238, w0_240, w0_242, w0_245, w0_246, w0_249, List.length_cons, List.length_nil, List.length_append, List.length_set, List.length_replicate, wt_nil, wt_int, wt_ref, wt_null, wt_long, wt_double, s1_unset, s1_int, s1_ref, s1_null, s2_unset, s2_val, s3_unset, s3_second, s3_int, s3_ref, isA_ref', isA_null', cat_int, cat_ref, cat_null, List.cons_append, List.nil_append, List.getElem?_cons_zero, List.getElem?_cons_succ, List.getElem?_nil, List.set_cons_zero, List.set_cons_succ, Option.toList_some, Option.toList_none, Option.some.injEq, exists_eq_left', Option.bind_some, Option.map_some, kdOf_eq, kdO_obj, rdF_eq, wrF_eq, alen_eq, ldA_eq, ldO_i, ldO_b, ldO_c, ldO_a, stA_i, stO_i, stA_b, stO_b, stA_c, stO_c, stA_d, stO_d, ldO_d, j0_eq, Nat.not_lt_zero, if_true, if_false, not_false_eq_true, not_true_eq_false, true_and, and_true, reduceCtorEq, Value.ref.injEq, ne_eq, Nat.zero_add, Nat.add_zero, Nat.reduceAdd, Nat.reduceLeDiff, Nat.le_refl, Nat.reduceLT, Nat.zero_le, Value.int.injEq, Value.long.injEq, tn0, tn1, tn2, tn3, tn4, tn5, tn6, tn7, tn8, tn9, tl0, tl1, tl2, tl3, tl4, tl5, tl6, tl7, tl8, tl9, rp0, rp1, rp2, rp3, rp4, rp5, rp6, rp7, rp8, rp9, alO_a, an0, an1, ↓reduceIte, Int32.reduceAdd, Int32.reduceSub, Int32.reduceMul, Int32.reduceLT, Int32.reduceLE, Int32.reduceToNatClampNeg, Int64.reduceLT, Int64.reduceLE, Int64.reduceAdd, on0, on1, on2, on3, on4, on5, on6, on7, on8, on9, cmp_eq]
            exact own_250 x0 x1 x2 x3 x4 x5 fl fr a1 a1 m1 m1 r1 r1 f1 f1 o1 o1 1 (Or.inl ⟨⟨rfl, rfl, rfl, rfl, rfl⟩, rfl⟩) g e1 e2
          · simp +decide only [w0_209, w0_211, w0_213, w0_216, w0_218, w0_220, w0_221, w0_224, w0_226, w0_228, w0_231, w0_233, w0_235, w0_238, w0_240, w0_242, w0_245, w0_246, w0_249, List.length_cons, List.length_nil, List.length_append, List.length_set, List.length_replicate, wt_nil, wt_int, wt_ref, wt_null, wt_long, wt_double, s1_unset, s1_int, s1_ref, s1_null, s2_unset, s2_val, s3_unset, s3_second, s3_int, s3_ref, isA_ref', isA_null', cat_int, cat_ref, cat_null, List.cons_append, List.nil_append, List.getElem?_cons_zero, List.getElem?_cons_succ, List.getElem?_nil, List.set_cons_zero, List.set_cons_succ, Option.toList_some, Option.toList_none, Option.some.injEq, exists_eq_left', Option.bind_some, Option.map_some, kdOf_eq, kdO_obj, rdF_eq, wrF_eq, alen_eq, ldA_eq, ldO_i, ldO_b, ldO_c, ldO_a, stA_i, stO_i, stA_b, stO_b, stA_c, stO_c, stA_d, stO_d, ldO_d, j0_eq, Nat.not_lt_zero, if_true, if_false, not_false_eq_true, not_true_eq_false, true_and, and_true, reduceCtorEq, Value.ref.injEq, ne_eq, Nat.zero_add, Nat.add_zero, Nat.reduceAdd, Nat.reduceLeDiff, Nat.le_refl, Nat.reduceLT, Nat.zero_le, Value.int.injEq, Value.long.injEq, tn0, tn1, tn2, tn3, tn4, tn5, tn6, tn7, tn8, tn9, tl0, tl1, tl2, tl3, tl4, tl5, tl6, tl7, tl8, tl9, rp0, rp1, rp2, rp3, rp4, rp5, rp6, rp7, rp8, rp9, alO_a, an0, an1, ↓reduceIte, Int32.reduceAdd, Int32.reduceSub, Int32.reduceMul, Int32.reduceLT, Int32.reduceLE, Int32.reduceToNatClampNeg, Int64.reduceLT, Int64.reduceLE, Int64.reduceAdd, on0, on1, on2, on3, on4, on5, on6, on7, on8, on9, cmp_eq, ho]
            exact own_250 x0 x1 x2 x3 x4 x5 fl fr a1 a1 m1 m1 r1 r1 f1 f1 o1 o2 0 (Or.inr ⟨(fun z => ho z.2.2.2.2), rfl⟩) g e1 e2
        · simp +decide only [w0_209, w0_211, w0_213, w0_216, w0_218, w0_220, w0_221, w0_224, w0_226, w0_228, w0_231, w0_233, w0_235, w0_238, w0_240, w0_242, w0_245, w0_246, w0_249, List.length_cons, List.length_nil, List.length_append, List.length_set, List.length_replicate, wt_nil, wt_int, wt_ref, wt_null, wt_long, wt_double, s1_unset, s1_int, s1_ref, s1_null, s2_unset, s2_val, s3_unset, s3_second, s3_int, s3_ref, isA_ref', isA_null', cat_int, cat_ref, cat_null, List.cons_append, List.nil_append, List.getElem?_cons_zero, List.getElem?_cons_succ, List.getElem?_nil, List.set_cons_zero, List.set_cons_succ, Option.toList_some, Option.toList_none, Option.some.injEq, exists_eq_left', Option.bind_some, Option.map_some, kdOf_eq, kdO_obj, rdF_eq, wrF_eq, alen_eq, ldA_eq, ldO_i, ldO_b, ldO_c, ldO_a, stA_i, stO_i, stA_b, stO_b, stA_c, stO_c, stA_d, stO_d, ldO_d, j0_eq, Nat.not_lt_zero, if_true, if_false, not_false_eq_true, not_true_eq_false, true_and, and_true, reduceCtorEq, Value.ref.injEq, ne_eq, Nat.zero_add, Nat.add_zero, Nat.reduceAdd, Nat.reduceLeDiff, Nat.le_refl, Nat.reduceLT, Nat.zero_le, Value.int.injEq, Value.long.injEq, tn0, tn1, tn2, tn3, tn4, tn5, tn6, tn7, tn8, tn9, tl0, tl1, tl2, tl3, tl4, tl5, tl6, tl7, tl8, tl9, rp0, rp1, rp2, rp3, rp4, rp5, rp6, rp7, rp8, rp9, alO_a, an0, an1, ↓reduceIte, Int32.reduceAdd, Int32.reduceSub, Int32.reduceMul, Int32.reduceLT, Int32.reduceLE, Int32.reduceToNatClampNeg, Int64.reduceLT, Int64.reduceLE, Int64.reduceAdd, on0, on1, on2, on3, on4, on5, on6, on7, on8, on9, cmp_eq, hf]
          exact own_250 x0 x1 x2 x3 x4 x5 fl fr a1 a1 m1 m1 r1 r1 f1 f2 o1 o2 0 (Or.inr ⟨(fun z => hf z.2.2.2.1), rfl⟩) g e1 e2
      · simp +decide only [w0_209, w0_211, w0_213, w0_216, w0_218, w0_220, w0_221, w0_224, w0_226, w0_228, w0_231, w0_233, w0_235, w0_238, w0_240, w0_242, w0_245, w0_246, w0_249, List.length_cons, List.length_nil, List.length_append, List.length_set, List.length_replicate, wt_nil, wt_int, wt_ref, wt_null, wt_long, wt_double, s1_unset, s1_int, s1_ref, s1_null, s2_unset, s2_val, s3_unset, s3_second, s3_int, s3_ref, isA_ref', isA_null', cat_int, cat_ref, cat_null, List.cons_append, List.nil_append, List.getElem?_cons_zero, List.getElem?_cons_succ, List.getElem?_nil, List.set_cons_zero, List.set_cons_succ, Option.toList_some, Option.toList_none, Option.some.injEq, exists_eq_left', Option.bind_some, Option.map_some, kdOf_eq, kdO_obj, rdF_eq, wrF_eq, alen_eq, ldA_eq, ldO_i, ldO_b, ldO_c, ldO_a, stA_i, stO_i, stA_b, stO_b, stA_c, stO_c, stA_d, stO_d, ldO_d, j0_eq, Nat.not_lt_zero, if_true, if_false, not_false_eq_true, not_true_eq_false, true_and, and_true, reduceCtorEq, Value.ref.injEq, ne_eq, Nat.zero_add, Nat.add_zero, Nat.reduceAdd, Nat.reduceLeDiff, Nat.le_refl, Nat.reduceLT, Nat.zero_le, Value.int.injEq, Value.long.injEq, tn0, tn1, tn2, tn3, tn4, tn5, tn6, tn7, tn8, tn9, tl0, tl1, tl2, tl3, tl4, tl5, tl6, tl7, tl8, tl9, rp0, rp1, rp2, rp3, rp4, rp5, rp6, rp7, rp8, rp9, alO_a, an0, an1, ↓reduceIte, Int32.reduceAdd, Int32.reduceSub, Int32.reduceMul, Int32.reduceLT, Int32.reduceLE, Int32.reduceToNatClampNeg, Int64.reduceLT, Int64.reduceLE, Int64.reduceAdd, on0, on1, on2, on3, on4, on5, on6, on7, on8, on9, cmp_eq, hr]
        exact own_250 x0 x1 x2 x3 x4 x5 fl fr a1 a1 m1 m1 r1 r2 f1 f2 o1 o2 0 (Or.inr ⟨(fun z => hr z.2.2.1), rfl⟩) g e1 e2
    · simp +decide only [w0_209, w0_211, w0_213, w0_216, w0_218, w0_220, w0_221, w0_224, w0_226, w0_228, w0_231, w0_233, w0_235, w0_238, w0_240, w0_242, w0_245, w0_246, w0_249, List.length_cons, List.length_nil, List.length_append, List.length_set, List.length_replicate, wt_nil, wt_int, wt_ref, wt_null, wt_long, wt_double, s1_unset, s1_int, s1_ref, s1_null, s2_unset, s2_val, s3_unset, s3_second, s3_int, s3_ref, isA_ref', isA_null', cat_int, cat_ref, cat_null, List.cons_append, List.nil_append, List.getElem?_cons_zero, List.getElem?_cons_succ, List.getElem?_nil, List.set_cons_zero, List.set_cons_succ, Option.toList_some, Option.toList_none, Option.some.injEq, exists_eq_left', Option.bind_some, Option.map_some, kdOf_eq, kdO_obj, rdF_eq, wrF_eq, alen_eq, ldA_eq, ldO_i, ldO_b, ldO_c, ldO_a, stA_i, stO_i, stA_b, stO_b, stA_c, stO_c, stA_d, stO_d, ldO_d, j0_eq, Nat.not_lt_zero, if_true, if_false, not_false_eq_true, not_true_eq_false, true_and, and_true, reduceCtorEq, Value.ref.injEq, ne_eq, Nat.zero_add, Nat.add_zero, Nat.reduceAdd, Nat.reduceLeDiff, Nat.le_refl, Nat.reduceLT, Nat.zero_le, Value.int.injEq, Value.long.injEq, tn0, tn1, tn2, tn3, tn4, tn5, tn6, tn7, tn8, tn9, tl0, tl1, tl2, tl3, tl4, tl5, tl6, tl7, tl8, tl9, rp0, rp1, rp2, rp3, rp4, rp5, rp6, rp7, rp8, rp9, alO_a, an0, an1, ↓reduceIte, Int32.reduceAdd, Int32.reduceSub, Int32.reduceMul, Int32.reduceLT, Int32.reduceLE, Int32.reduceToNatClampNeg, Int64.reduceLT, Int64.reduceLE, Int64.reduceAdd, on0, on1, on2, on3, on4, on5, on6, on7, on8, on9, cmp_eq, hm]
      exact own_250 x0 x1 x2 x3 x4 x5 fl fr a1 a1 m1 m2 r1 r2 f1 f2 o1 o2 0 (Or.inr ⟨(fun z => hm z.2.1), rfl⟩) g e1 e2
  · simp +decide only [w0_209, w0_211, w0_213, w0_216, w0_218, w0_220, w0_221, w0_224, w0_226, w0_228, w0_231, w0_233, w0_235, w0_238, w0_240, w0_242, w0_245, w0_246, w0_249, List.length_cons, List.length_nil, List.length_append, List.length_set, List.length_replicate, wt_nil, wt_int, wt_ref, wt_null, wt_long, wt_double, s1_unset, s1_int, s1_ref, s1_null, s2_unset, s2_val, s3_unset, s3_second, s3_int, s3_ref, isA_ref', isA_null', cat_int, cat_ref, cat_null, List.cons_append, List.nil_append, List.getElem?_cons_zero, List.getElem?_cons_succ, List.getElem?_nil, List.set_cons_zero, List.set_cons_succ, Option.toList_some, Option.toList_none, Option.some.injEq, exists_eq_left', Option.bind_some, Option.map_some, kdOf_eq, kdO_obj, rdF_eq, wrF_eq, alen_eq, ldA_eq, ldO_i, ldO_b, ldO_c, ldO_a, stA_i, stO_i, stA_b, stO_b, stA_c, stO_c, stA_d, stO_d, ldO_d, j0_eq, Nat.not_lt_zero, if_true, if_false, not_false_eq_true, not_true_eq_false, true_and, and_true, reduceCtorEq, Value.ref.injEq, ne_eq, Nat.zero_add, Nat.add_zero, Nat.reduceAdd, Nat.reduceLeDiff, Nat.le_refl, Nat.reduceLT, Nat.zero_le, Value.int.injEq, Value.long.injEq, tn0, tn1, tn2, tn3, tn4, tn5, tn6, tn7, tn8, tn9, tl0, tl1, tl2, tl3, tl4, tl5, tl6, tl7, tl8, tl9, rp0, rp1, rp2, rp3, rp4, rp5, rp6, rp7, rp8, rp9, alO_a, an0, an1, ↓reduceIte, Int32.reduceAdd, Int32.reduceSub, Int32.reduceMul, Int32.reduceLT, Int32.reduceLE, Int32.reduceToNatClampNeg, Int64.reduceLT, Int64.reduceLE, Int64.reduceAdd, on0, on1, on2, on3, on4, on5, on6, on7, on8, on9, cmp_eq, ha]
    exact own_250 x0 x1 x2 x3 x4 x5 fl fr a1 a2 m1 m2 r1 r2 f1 f2 o1 o2 0 (Or.inr ⟨(fun z => ha z.1), rfl⟩) g e1 e2
theorem own_171 (x0 x1 : Int64) (x2 x3 x4 : Int32) (x5 : Int64) (fl fr : Int32) (a1 : Nat) (a2 : Nat) (m1 : Int64) (hm1 : ¬ m1 < 0) (m2 : Int64) (hm2 : ¬ m2 < 0) (r1 : Int32) (hr1 : ¬ r1 < 0) (r2 : Int32) (hr2 : ¬ r2 < 0) (f1 : Int32) (hf1 : ¬ f1 < -1) (f2 : Int32) (hf2 : ¬ f2 < -1) (o1 : Int32) (ho1 : o1 = 0 ∨ o1 = 1 ∧ 0 < f1) (o2 : Int32) (ho2 : o2 = 0 ∨ o2 = 1 ∧ 0 < f2) : Wp Pg 0 (171, [.val (.long x0), .second, .val (.long x1), .second, .val (.int x2), .val (.int x3), .val (.int x4), .val (.long x5), .second, .val (.int fl), .val (.int fr), .val (.ref a1), .val (.ref a2), .val (.long m1), .second, .val (.long m2), .second, .val (.int r1), .val (.int r2), .val (.int f1), .val (.int f2), .val (.int o1), .val (.int o2), .unset, .unset, .unset], [], own_H0, 0, 0) (fun r => r.1 = some (.int 1)) := by
  simp +decide only [w0_171, w0_174, w0_175, w0_177, w0_179, w0_181, w0_183, w0_185, List.length_cons, List.length_nil, List.length_append, List.length_set, List.length_replicate, wt_nil, wt_int, wt_ref, wt_null, wt_long, wt_double, s1_unset, s1_int, s1_ref, s1_null, s2_unset, s2_val, s3_unset, s3_second, s3_int, s3_ref, isA_ref', isA_null', cat_int, cat_ref, cat_null, List.cons_append, List.nil_append, List.getElem?_cons_zero, List.getElem?_cons_succ, List.getElem?_nil, List.set_cons_zero, List.set_cons_succ, Option.toList_some, Option.toList_none, Option.some.injEq, exists_eq_left', Option.bind_some, Option.map_some, kdOf_eq, kdO_obj, rdF_eq, wrF_eq, alen_eq, ldA_eq, ldO_i, ldO_b, ldO_c, ldO_a, stA_i, stO_i, stA_b, stO_b, stA_c, stO_c, stA_d, stO_d, ldO_d, j0_eq, Nat.not_lt_zero, if_true, if_false, not_false_eq_true, not_true_eq_false, true_and, and_true, reduceCtorEq, Value.ref.injEq, ne_eq, Nat.zero_add, Nat.add_zero, Nat.reduceAdd, Nat.reduceLeDiff, Nat.le_refl, Nat.reduceLT, Nat.zero_le, Value.int.injEq, Value.long.injEq, tn0, tn1, tn2, tn3, tn4, tn5, tn6, tn7, tn8, tn9, tl0, tl1, tl2, tl3, tl4, tl5, tl6, tl7, tl8, tl9, rp0, rp1, rp2, rp3, rp4, rp5, rp6, rp7, rp8, rp9, alO_a, an0, an1, ↓reduceIte, Int32.reduceAdd, Int32.reduceSub, Int32.reduceMul, Int32.reduceLT, Int32.reduceLE, Int32.reduceToNatClampNeg, Int64.reduceLT, Int64.reduceLE, Int64.reduceAdd, on0, on1, on2, on3, on4, on5, on6, on7, on8, on9, own_len]
  refine own_init hm1 hr1 hf1 ho1 own_len.symm (by rw [own_len]; decide) ?_
  simp +decide only [w0_188, w0_190, w0_193, w0_194, w0_196, w0_198, w0_200, w0_202, w0_204, List.length_cons, List.length_nil, List.length_append, List.length_set, List.length_replicate, wt_nil, wt_int, wt_ref, wt_null, wt_long, wt_double, s1_unset, s1_int, s1_ref, s1_null, s2_unset, s2_val, s3_unset, s3_second, s3_int, s3_ref, isA_ref', isA_null', cat_int, cat_ref, cat_null, List.cons_append, List.nil_append, List.getElem?_cons_zero, List.getElem?_cons_succ, List.getElem?_nil, List.set_cons_zero, List.set_cons_succ, Option.toList_some, Option.toList_none, Option.some.injEq, exists_eq_left', Option.bind_some, Option.map_some, kdOf_eq, kdO_obj, rdF_eq, wrF_eq, alen_eq, ldA_eq, ldO_i, ldO_b, ldO_c, ldO_a, stA_i, stO_i, stA_b, stO_b, stA_c, stO_c, stA_d, stO_d, ldO_d, j0_eq, Nat.not_lt_zero, if_true, if_false, not_false_eq_true, not_true_eq_false, true_and, and_true, reduceCtorEq, Value.ref.injEq, ne_eq, Nat.zero_add, Nat.add_zero, Nat.reduceAdd, Nat.reduceLeDiff, Nat.le_refl, Nat.reduceLT, Nat.zero_le, Value.int.injEq, Value.long.injEq, tn0, tn1, tn2, tn3, tn4, tn5, tn6, tn7, tn8, tn9, tl0, tl1, tl2, tl3, tl4, tl5, tl6, tl7, tl8, tl9, rp0, rp1, rp2, rp3, rp4, rp5, rp6, rp7, rp8, rp9, alO_a, an0, an1, ↓reduceIte, Int32.reduceAdd, Int32.reduceSub, Int32.reduceMul, Int32.reduceLT, Int32.reduceLE, Int32.reduceToNatClampNeg, Int64.reduceLT, Int64.reduceLE, Int64.reduceAdd, on0, on1, on2, on3, on4, on5, on6, on7, on8, on9, own_len]
  refine own_init hm2 hr2 hf2 ho2 (by rw [List.length_append, own_len]; rfl) (by rw [List.length_append, own_len]; exact Nat.not_lt.mpr (Nat.le_add_right _ _)) ?_
  simp +decide only [w0_207, List.length_cons, List.length_nil, List.length_append, List.length_set, List.length_replicate, wt_nil, wt_int, wt_ref, wt_null, wt_long, wt_double, s1_unset, s1_int, s1_ref, s1_null, s2_unset, s2_val, s3_unset, s3_second, s3_int, s3_ref, isA_ref', isA_null', cat_int, cat_ref, cat_null, List.cons_append, List.nil_append, List.getElem?_cons_zero, List.getElem?_cons_succ, List.getElem?_nil, List.set_cons_zero, List.set_cons_succ, Option.toList_some, Option.toList_none, Option.some.injEq, exists_eq_left', Option.bind_some, Option.map_some, kdOf_eq, kdO_obj, rdF_eq, wrF_eq, alen_eq, ldA_eq, ldO_i, ldO_b, ldO_c, ldO_a, stA_i, stO_i, stA_b, stO_b, stA_c, stO_c, stA_d, stO_d, ldO_d, j0_eq, Nat.not_lt_zero, if_true, if_false, not_false_eq_true, not_true_eq_false, true_and, and_true, reduceCtorEq, Value.ref.injEq, ne_eq, Nat.zero_add, Nat.add_zero, Nat.reduceAdd, Nat.reduceLeDiff, Nat.le_refl, Nat.reduceLT, Nat.zero_le, Value.int.injEq, Value.long.injEq, tn0, tn1, tn2, tn3, tn4, tn5, tn6, tn7, tn8, tn9, tl0, tl1, tl2, tl3, tl4, tl5, tl6, tl7, tl8, tl9, rp0, rp1, rp2, rp3, rp4, rp5, rp6, rp7, rp8, rp9, alO_a, an0, an1, ↓reduceIte, Int32.reduceAdd, Int32.reduceSub, Int32.reduceMul, Int32.reduceLT, Int32.reduceLE, Int32.reduceToNatClampNeg, Int64.reduceLT, Int64.reduceLE, Int64.reduceAdd, on0, on1, on2, on3, on4, on5, on6, on7, on8, on9]
  exact own_209 x0 x1 x2 x3 x4 x5 fl fr a1 a2 m1 m2 r1 r2 f1 f2 o1 o2 (own_gs (own_gs own_g0 _) _) (own_app (by rw [← own_len]; exact own_get _ _)) (by rw [show 260 = (own_H0 ++ [((.inr 1, [.ref a1, .long m1, .int r1, .int f1, .int o1]) : Obj)]).length by rw [List.length_append, own_len]; rfl]; exact own_get _ _)
theorem own_151 (x0 x1 : Int64) (x2 x3 x4 : Int32) (x5 : Int64) (fl fr : Int32) (a1 : Nat) (a2 : Nat) (m1 : Int64) (hm1 : ¬ m1 < 0) (m2 : Int64) (hm2 : ¬ m2 < 0) (r1 : Int32) (hr1 : ¬ r1 < 0) (r2 : Int32) (hr2 : ¬ r2 < 0) (f1 : Int32) (hf1 : ¬ f1 < -1) (f2 : Int32) (hf2 : ¬ f2 < -1) (o1 : Int32) (ho1 : o1 = 0 ∨ o1 = 1 ∧ 0 < f1) : Wp Pg 0 (151, [.val (.long x0), .second, .val (.long x1), .second, .val (.int x2), .val (.int x3), .val (.int x4), .val (.long x5), .second, .val (.int fl), .val (.int fr), .val (.ref a1), .val (.ref a2), .val (.long m1), .second, .val (.long m2), .second, .val (.int r1), .val (.int r2), .val (.int f1), .val (.int f2), .val (.int o1), .unset, .unset, .unset, .unset], [], own_H0, 0, 0) (fun r => r.1 = some (.int 1)) := by
  by_cases h : fl &&& 8 = 0
  · simp +decide only [w0_151, w0_153, w0_155, w0_156, w0_159, w0_161, w0_164, w0_165, w0_168, w0_169, w1_0, w1_1, w1_2, w1_5, w1_6, w1_9, w1_10, List.length_cons, List.length_nil, List.length_append, List.length_set, List.length_replicate, wt_nil, wt_int, wt_ref, wt_null, wt_long, wt_double, s1_unset, s1_int, s1_ref, s1_null, s2_unset, s2_val, s3_unset, s3_second, s3_int, s3_ref, isA_ref', isA_null', cat_int, cat_ref, cat_null, List.cons_append, List.nil_append, List.getElem?_cons_zero, List.getElem?_cons_succ, List.getElem?_nil, List.set_cons_zero, List.set_cons_succ, Option.toList_some, Option.toList_none, Option.some.injEq, exists_eq_left', Option.bind_some, Option.map_some, kdOf_eq, kdO_obj, rdF_eq, wrF_eq, alen_eq, ldA_eq, ldO_i, ldO_b, ldO_c, ldO_a, stA_i, stO_i, stA_b, stO_b, stA_c, stO_c, stA_d, stO_d, ldO_d, j0_eq, Nat.not_lt_zero, if_true, if_false, not_false_eq_true, not_true_eq_false, true_and, and_true, reduceCtorEq, Value.ref.injEq, ne_eq, Nat.zero_add, Nat.add_zero, Nat.reduceAdd, Nat.reduceLeDiff, Nat.le_refl, Nat.reduceLT, Nat.zero_le, Value.int.injEq, Value.long.injEq, tn0, tn1, tn2, tn3, tn4, tn5, tn6, tn7, tn8, tn9, tl0, tl1, tl2, tl3, tl4, tl5, tl6, tl7, tl8, tl9, rp0, rp1, rp2, rp3, rp4, rp5, rp6, rp7, rp8, rp9, alO_a, an0, an1, ↓reduceIte, Int32.reduceAdd, Int32.reduceSub, Int32.reduceMul, Int32.reduceLT, Int32.reduceLE, Int32.reduceToNatClampNeg, Int64.reduceLT, Int64.reduceLE, Int64.reduceAdd, on0, on1, on2, on3, on4, on5, on6, on7, on8, on9, h]
    exact own_171 x0 x1 x2 x3 x4 x5 fl fr a1 a2 m1 hm1 m2 hm2 r1 hr1 r2 hr2 f1 hf1 f2 hf2 o1 ho1 0 (Or.inl rfl)
  · by_cases k : f2 ≤ 0
    · simp +decide only [w0_151, w0_153, w0_155, w0_156, w0_159, w0_161, w0_164, w0_165, w0_168, w0_169, w1_0, w1_1, w1_2, w1_5, w1_6, w1_9, w1_10, List.length_cons, List.length_nil, List.length_append, List.length_set, List.length_replicate, wt_nil, wt_int, wt_ref, wt_null, wt_long, wt_double, s1_unset, s1_int, s1_ref, s1_null, s2_unset, s2_val, s3_unset, s3_second, s3_int, s3_ref, isA_ref', isA_null', cat_int, cat_ref, cat_null, List.cons_append, List.nil_append, List.getElem?_cons_zero, List.getElem?_cons_succ, List.getElem?_nil, List.set_cons_zero, List.set_cons_succ, Option.toList_some, Option.toList_none, Option.some.injEq, exists_eq_left', Option.bind_some, Option.map_some, kdOf_eq, kdO_obj, rdF_eq, wrF_eq, alen_eq, ldA_eq, ldO_i, ldO_b, ldO_c, ldO_a, stA_i, stO_i, stA_b, stO_b, stA_c, stO_c, stA_d, stO_d, ldO_d, j0_eq, Nat.not_lt_zero, if_true, if_false, not_false_eq_true, not_true_eq_false, true_and, and_true, reduceCtorEq, Value.ref.injEq, ne_eq, Nat.zero_add, Nat.add_zero, Nat.reduceAdd, Nat.reduceLeDiff, Nat.le_refl, Nat.reduceLT, Nat.zero_le, Value.int.injEq, Value.long.injEq, tn0, tn1, tn2, tn3, tn4, tn5, tn6, tn7, tn8, tn9, tl0, tl1, tl2, tl3, tl4, tl5, tl6, tl7, tl8, tl9, rp0, rp1, rp2, rp3, rp4, rp5, rp6, rp7, rp8, rp9, alO_a, an0, an1, ↓reduceIte, Int32.reduceAdd, Int32.reduceSub, Int32.reduceMul, Int32.reduceLT, Int32.reduceLE, Int32.reduceToNatClampNeg, Int64.reduceLT, Int64.reduceLE, Int64.reduceAdd, on0, on1, on2, on3, on4, on5, on6, on7, on8, on9, h, k]
      exact own_171 x0 x1 x2 x3 x4 x5 fl fr a1 a2 m1 hm1 m2 hm2 r1 hr1 r2 hr2 f1 hf1 f2 hf2 o1 ho1 0 (Or.inl rfl)
    · simp +decide only [w0_151, w0_153, w0_155, w0_156, w0_159, w0_161, w0_164, w0_165, w0_168, w0_169, w1_0, w1_1, w1_2, w1_5, w1_6, w1_9, w1_10, List.length_cons, List.length_nil, List.length_append, List.length_set, List.length_replicate, wt_nil, wt_int, wt_ref, wt_null, wt_long, wt_double, s1_unset, s1_int, s1_ref, s1_null, s2_unset, s2_val, s3_unset, s3_second, s3_int, s3_ref, isA_ref', isA_null', cat_int, cat_ref, cat_null, List.cons_append, List.nil_append, List.getElem?_cons_zero, List.getElem?_cons_succ, List.getElem?_nil, List.set_cons_zero, List.set_cons_succ, Option.toList_some, Option.toList_none, Option.some.injEq, exists_eq_left', Option.bind_some, Option.map_some, kdOf_eq, kdO_obj, rdF_eq, wrF_eq, alen_eq, ldA_eq, ldO_i, ldO_b, ldO_c, ldO_a, stA_i, stO_i, stA_b, stO_b, stA_c, stO_c, stA_d, stO_d, ldO_d, j0_eq, Nat.not_lt_zero, if_true, if_false, not_false_eq_true, not_true_eq_false, true_and, and_true, reduceCtorEq, Value.ref.injEq, ne_eq, Nat.zero_add, Nat.add_zero, Nat.reduceAdd, Nat.reduceLeDiff, Nat.le_refl, Nat.reduceLT, Nat.zero_le, Value.int.injEq, Value.long.injEq, tn0, tn1, tn2, tn3, tn4, tn5, tn6, tn7, tn8, tn9, tl0, tl1, tl2, tl3, tl4, tl5, tl6, tl7, tl8, tl9, rp0, rp1, rp2, rp3, rp4, rp5, rp6, rp7, rp8, rp9, alO_a, an0, an1, ↓reduceIte, Int32.reduceAdd, Int32.reduceSub, Int32.reduceMul, Int32.reduceLT, Int32.reduceLE, Int32.reduceToNatClampNeg, Int64.reduceLT, Int64.reduceLE, Int64.reduceAdd, on0, on1, on2, on3, on4, on5, on6, on7, on8, on9, h, k]
      exact own_171 x0 x1 x2 x3 x4 x5 fl fr a1 a2 m1 hm1 m2 hm2 r1 hr1 r2 hr2 f1 hf1 f2 hf2 o1 ho1 1 (Or.inr ⟨rfl, Int32.not_le.mp k⟩)
theorem own_132 (x0 x1 : Int64) (x2 x3 x4 : Int32) (x5 : Int64) (fl fr : Int32) (a1 : Nat) (a2 : Nat) (m1 : Int64) (hm1 : ¬ m1 < 0) (m2 : Int64) (hm2 : ¬ m2 < 0) (r1 : Int32) (hr1 : ¬ r1 < 0) (r2 : Int32) (hr2 : ¬ r2 < 0) (f1 : Int32) (hf1 : ¬ f1 < -1) (f2 : Int32) (hf2 : ¬ f2 < -1) : Wp Pg 0 (132, [.val (.long x0), .second, .val (.long x1), .second, .val (.int x2), .val (.int x3), .val (.int x4), .val (.long x5), .second, .val (.int fl), .val (.int fr), .val (.ref a1), .val (.ref a2), .val (.long m1), .second, .val (.long m2), .second, .val (.int r1), .val (.int r2), .val (.int f1), .val (.int f2), .unset, .unset, .unset, .unset, .unset], [], own_H0, 0, 0) (fun r => r.1 = some (.int 1)) := by
  by_cases h : fl &&& 4 = 0
  · simp +decide only [w0_132, w0_134, w0_135, w0_136, w0_139, w0_141, w0_144, w0_145, w0_148, w0_149, w1_0, w1_1, w1_2, w1_5, w1_6, w1_9, w1_10, List.length_cons, List.length_nil, List.length_append, List.length_set, List.length_replicate, wt_nil, wt_int, wt_ref, wt_null, wt_long, wt_double, s1_unset, s1_int, s1_ref, s1_null, s2_unset, s2_val, s3_unset, s3_second, s3_int, s3_ref, isA_ref', isA_null', cat_int, cat_ref, cat_null, List.cons_append, List.nil_append, List.getElem?_cons_zero, List.getElem?_cons_succ, List.getElem?_nil, List.set_cons_zero, List.set_cons_succ, Option.toList_some, Option.toList_none, Option.some.injEq, exists_eq_left', Option.bind_some, Option.map_some, kdOf_eq, kdO_obj, rdF_eq, wrF_eq, alen_eq, ldA_eq, ldO_i, ldO_b, ldO_c, ldO_a, stA_i, stO_i, stA_b, stO_b, stA_c, stO_c, stA_d, stO_d, ldO_d, j0_eq, Nat.not_lt_zero, if_true, if_false, not_false_eq_true, not_true_eq_false, true_and, and_true, reduceCtorEq, Value.ref.injEq, ne_eq, Nat.zero_add, Nat.add_zero, Nat.reduceAdd, Nat.reduceLeDiff, Nat.le_refl, Nat.reduceLT, Nat.zero_le, Value.int.injEq, Value.long.injEq, tn0, tn1, tn2, tn3, tn4, tn5, tn6, tn7, tn8, tn9, tl0, tl1, tl2, tl3, tl4, tl5, tl6, tl7, tl8, tl9, rp0, rp1, rp2, rp3, rp4, rp5, rp6, rp7, rp8, rp9, alO_a, an0, an1, ↓reduceIte, Int32.reduceAdd, Int32.reduceSub, Int32.reduceMul, Int32.reduceLT, Int32.reduceLE, Int32.reduceToNatClampNeg, Int64.reduceLT, Int64.reduceLE, Int64.reduceAdd, on0, on1, on2, on3, on4, on5, on6, on7, on8, on9, h]
    exact own_151 x0 x1 x2 x3 x4 x5 fl fr a1 a2 m1 hm1 m2 hm2 r1 hr1 r2 hr2 f1 hf1 f2 hf2 0 (Or.inl rfl)
  · by_cases k : f1 ≤ 0
    · simp +decide only [w0_132, w0_134, w0_135, w0_136, w0_139, w0_141, w0_144, w0_145, w0_148, w0_149, w1_0, w1_1, w1_2, w1_5, w1_6, w1_9, w1_10, List.length_cons, List.length_nil, List.length_append, List.length_set, List.length_replicate, wt_nil, wt_int, wt_ref, wt_null, wt_long, wt_double, s1_unset, s1_int, s1_ref, s1_null, s2_unset, s2_val, s3_unset, s3_second, s3_int, s3_ref, isA_ref', isA_null', cat_int, cat_ref, cat_null, List.cons_append, List.nil_append, List.getElem?_cons_zero, List.getElem?_cons_succ, List.getElem?_nil, List.set_cons_zero, List.set_cons_succ, Option.toList_some, Option.toList_none, Option.some.injEq, exists_eq_left', Option.bind_some, Option.map_some, kdOf_eq, kdO_obj, rdF_eq, wrF_eq, alen_eq, ldA_eq, ldO_i, ldO_b, ldO_c, ldO_a, stA_i, stO_i, stA_b, stO_b, stA_c, stO_c, stA_d, stO_d, ldO_d, j0_eq, Nat.not_lt_zero, if_true, if_false, not_false_eq_true, not_true_eq_false, true_and, and_true, reduceCtorEq, Value.ref.injEq, ne_eq, Nat.zero_add, Nat.add_zero, Nat.reduceAdd, Nat.reduceLeDiff, Nat.le_refl, Nat.reduceLT, Nat.zero_le, Value.int.injEq, Value.long.injEq, tn0, tn1, tn2, tn3, tn4, tn5, tn6, tn7, tn8, tn9, tl0, tl1, tl2, tl3, tl4, tl5, tl6, tl7, tl8, tl9, rp0, rp1, rp2, rp3, rp4, rp5, rp6, rp7, rp8, rp9, alO_a, an0, an1, ↓reduceIte, Int32.reduceAdd, Int32.reduceSub, Int32.reduceMul, Int32.reduceLT, Int32.reduceLE, Int32.reduceToNatClampNeg, Int64.reduceLT, Int64.reduceLE, Int64.reduceAdd, on0, on1, on2, on3, on4, on5, on6, on7, on8, on9, h, k]
      exact own_151 x0 x1 x2 x3 x4 x5 fl fr a1 a2 m1 hm1 m2 hm2 r1 hr1 r2 hr2 f1 hf1 f2 hf2 0 (Or.inl rfl)
    · simp +decide only [w0_132, w0_134, w0_135, w0_136, w0_139, w0_141, w0_144, w0_145, w0_148, w0_149, w1_0, w1_1, w1_2, w1_5, w1_6, w1_9, w1_10, List.length_cons, List.length_nil, List.length_append, List.length_set, List.length_replicate, wt_nil, wt_int, wt_ref, wt_null, wt_long, wt_double, s1_unset, s1_int, s1_ref, s1_null, s2_unset, s2_val, s3_unset, s3_second, s3_int, s3_ref, isA_ref', isA_null', cat_int, cat_ref, cat_null, List.cons_append, List.nil_append, List.getElem?_cons_zero, List.getElem?_cons_succ, List.getElem?_nil, List.set_cons_zero, List.set_cons_succ, Option.toList_some, Option.toList_none, Option.some.injEq, exists_eq_left', Option.bind_some, Option.map_some, kdOf_eq, kdO_obj, rdF_eq, wrF_eq, alen_eq, ldA_eq, ldO_i, ldO_b, ldO_c, ldO_a, stA_i, stO_i, stA_b, stO_b, stA_c, stO_c, stA_d, stO_d, ldO_d, j0_eq, Nat.not_lt_zero, if_true, if_false, not_false_eq_true, not_true_eq_false, true_and, and_true, reduceCtorEq, Value.ref.injEq, ne_eq, Nat.zero_add, Nat.add_zero, Nat.reduceAdd, Nat.reduceLeDiff, Nat.le_refl, Nat.reduceLT, Nat.zero_le, Value.int.injEq, Value.long.injEq, tn0, tn1, tn2, tn3, tn4, tn5, tn6, tn7, tn8, tn9, tl0, tl1, tl2, tl3, tl4, tl5, tl6, tl7, tl8, tl9, rp0, rp1, rp2, rp3, rp4, rp5, rp6, rp7, rp8, rp9, alO_a, an0, an1, ↓reduceIte, Int32.reduceAdd, Int32.reduceSub, Int32.reduceMul, Int32.reduceLT, Int32.reduceLE, Int32.reduceToNatClampNeg, Int64.reduceLT, Int64.reduceLE, Int64.reduceAdd, on0, on1, on2, on3, on4, on5, on6, on7, on8, on9, h, k]
      exact own_151 x0 x1 x2 x3 x4 x5 fl fr a1 a2 m1 hm1 m2 hm2 r1 hr1 r2 hr2 f1 hf1 f2 hf2 1 (Or.inr ⟨rfl, Int32.not_le.mp k⟩)
theorem own_111 (x0 x1 : Int64) (x2 x3 x4 : Int32) (x5 : Int64) (fl fr : Int32) (a1 : Nat) (a2 : Nat) (m1 : Int64) (hm1 : ¬ m1 < 0) (m2 : Int64) (hm2 : ¬ m2 < 0) (r1 : Int32) (hr1 : ¬ r1 < 0) (r2 : Int32) (hr2 : ¬ r2 < 0) (f1 : Int32) (hf1 : ¬ f1 < -1) : Wp Pg 0 (111, [.val (.long x0), .second, .val (.long x1), .second, .val (.int x2), .val (.int x3), .val (.int x4), .val (.long x5), .second, .val (.int fl), .val (.int fr), .val (.ref a1), .val (.ref a2), .val (.long m1), .second, .val (.long m2), .second, .val (.int r1), .val (.int r2), .val (.int f1), .unset, .unset, .unset, .unset, .unset, .unset], [], own_H0, 0, 0) (fun r => r.1 = some (.int 1)) := by
  by_cases h : fl &&& 64 = 0
  · by_cases k : fr < -1
    · simp +decide only [w0_111, w0_113, w0_115, w0_116, w0_119, w0_121, w0_124, w0_126, w0_127, w0_130, w1_0, w1_1, w1_2, w1_5, w1_6, w1_9, w1_10, List.length_cons, List.length_nil, List.length_append, List.length_set, List.length_replicate, wt_nil, wt_int, wt_ref, wt_null, wt_long, wt_double, s1_unset, s1_int, s1_ref, s1_null, s2_unset, s2_val, s3_unset, s3_second, s3_int, s3_ref, isA_ref', isA_null', cat_int, cat_ref, cat_null, List.cons_append, List.nil_append, List.getElem?_cons_zero, List.getElem?_cons_succ, List.getElem?_nil, List.set_cons_zero, List.set_cons_succ, Option.toList_some, Option.toList_none, Option.some.injEq, exists_eq_left', Option.bind_some, Option.map_some, kdOf_eq, kdO_obj, rdF_eq, wrF_eq, alen_eq, ldA_eq, ldO_i, ldO_b, ldO_c, ldO_a, stA_i, stO_i, stA_b, stO_b, stA_c, stO_c, stA_d, stO_d, ldO_d, j0_eq, Nat.not_lt_zero, if_true, if_false, not_false_eq_true, not_true_eq_false, true_and, and_true, reduceCtorEq, Value.ref.injEq, ne_eq, Nat.zero_add, Nat.add_zero, Nat.reduceAdd, Nat.reduceLeDiff, Nat.le_refl, Nat.reduceLT, Nat.zero_le, Value.int.injEq, Value.long.injEq, tn0, tn1, tn2, tn3, tn4, tn5, tn6, tn7, tn8, tn9, tl0, tl1, tl2, tl3, tl4, tl5, tl6, tl7, tl8, tl9, rp0, rp1, rp2, rp3, rp4, rp5, rp6, rp7, rp8, rp9, alO_a, an0, an1, ↓reduceIte, Int32.reduceAdd, Int32.reduceSub, Int32.reduceMul, Int32.reduceLT, Int32.reduceLE, Int32.reduceToNatClampNeg, Int64.reduceLT, Int64.reduceLE, Int64.reduceAdd, on0, on1, on2, on3, on4, on5, on6, on7, on8, on9, h, k]
      exact own_132 x0 x1 x2 x3 x4 x5 fl fr a1 a2 m1 hm1 m2 hm2 r1 hr1 r2 hr2 f1 hf1 (-1) (by decide)
    · simp +decide only [w0_111, w0_113, w0_115, w0_116, w0_119, w0_121, w0_124, w0_126, w0_127, w0_130, w1_0, w1_1, w1_2, w1_5, w1_6, w1_9, w1_10, List.length_cons, List.length_nil, List.length_append, List.length_set, List.length_replicate, wt_nil, wt_int, wt_ref, wt_null, wt_long, wt_double, s1_unset, s1_int, s1_ref, s1_null, s2_unset, s2_val, s3_unset, s3_second, s3_int, s3_ref, isA_ref', isA_null', cat_int, cat_ref, cat_null, List.cons_append, List.nil_append, List.getElem?_cons_zero, List.getElem?_cons_succ, List.getElem?_nil, List.set_cons_zero, List.set_cons_succ, Option.toList_some, Option.toList_none, Option.some.injEq, exists_eq_left', Option.bind_some, Option.map_some, kdOf_eq, kdO_obj, rdF_eq, wrF_eq, alen_eq, ldA_eq, ldO_i, ldO_b, ldO_c, ldO_a, stA_i, stO_i, stA_b, stO_b, stA_c, stO_c, stA_d, stO_d, ldO_d, j0_eq, Nat.not_lt_zero, if_true, if_false, not_false_eq_true, not_true_eq_false, true_and, and_true, reduceCtorEq, Value.ref.injEq, ne_eq, Nat.zero_add, Nat.add_zero, Nat.reduceAdd, Nat.reduceLeDiff, Nat.le_refl, Nat.reduceLT, Nat.zero_le, Value.int.injEq, Value.long.injEq, tn0, tn1, tn2, tn3, tn4, tn5, tn6, tn7, tn8, tn9, tl0, tl1, tl2, tl3, tl4, tl5, tl6, tl7, tl8, tl9, rp0, rp1, rp2, rp3, rp4, rp5, rp6, rp7, rp8, rp9, alO_a, an0, an1, ↓reduceIte, Int32.reduceAdd, Int32.reduceSub, Int32.reduceMul, Int32.reduceLT, Int32.reduceLE, Int32.reduceToNatClampNeg, Int64.reduceLT, Int64.reduceLE, Int64.reduceAdd, on0, on1, on2, on3, on4, on5, on6, on7, on8, on9, h, k]
      exact own_132 x0 x1 x2 x3 x4 x5 fl fr a1 a2 m1 hm1 m2 hm2 r1 hr1 r2 hr2 f1 hf1 fr k
  · simp +decide only [w0_111, w0_113, w0_115, w0_116, w0_119, w0_121, w0_124, w0_126, w0_127, w0_130, w1_0, w1_1, w1_2, w1_5, w1_6, w1_9, w1_10, List.length_cons, List.length_nil, List.length_append, List.length_set, List.length_replicate, wt_nil, wt_int, wt_ref, wt_null, wt_long, wt_double, s1_unset, s1_int, s1_ref, s1_null, s2_unset, s2_val, s3_unset, s3_second, s3_int, s3_ref, isA_ref', isA_null', cat_int, cat_ref, cat_null, List.cons_append, List.nil_append, List.getElem?_cons_zero, List.getElem?_cons_succ, List.getElem?_nil, List.set_cons_zero, List.set_cons_succ, Option.toList_some, Option.toList_none, Option.some.injEq, exists_eq_left', Option.bind_some, Option.map_some, kdOf_eq, kdO_obj, rdF_eq, wrF_eq, alen_eq, ldA_eq, ldO_i, ldO_b, ldO_c, ldO_a, stA_i, stO_i, stA_b, stO_b, stA_c, stO_c, stA_d, stO_d, ldO_d, j0_eq, Nat.not_lt_zero, if_true, if_false, not_false_eq_true, not_true_eq_false, true_and, and_true, reduceCtorEq, Value.ref.injEq, ne_eq, Nat.zero_add, Nat.add_zero, Nat.reduceAdd, Nat.reduceLeDiff, Nat.le_refl, Nat.reduceLT, Nat.zero_le, Value.int.injEq, Value.long.injEq, tn0, tn1, tn2, tn3, tn4, tn5, tn6, tn7, tn8, tn9, tl0, tl1, tl2, tl3, tl4, tl5, tl6, tl7, tl8, tl9, rp0, rp1, rp2, rp3, rp4, rp5, rp6, rp7, rp8, rp9, alO_a, an0, an1, ↓reduceIte, Int32.reduceAdd, Int32.reduceSub, Int32.reduceMul, Int32.reduceLT, Int32.reduceLE, Int32.reduceToNatClampNeg, Int64.reduceLT, Int64.reduceLE, Int64.reduceAdd, on0, on1, on2, on3, on4, on5, on6, on7, on8, on9, h]
    exact own_132 x0 x1 x2 x3 x4 x5 fl fr a1 a2 m1 hm1 m2 hm2 r1 hr1 r2 hr2 f1 hf1 f1 hf1
theorem own_103 (x0 x1 : Int64) (x2 x3 x4 : Int32) (x5 : Int64) (fl fr : Int32) (a1 : Nat) (a2 : Nat) (m1 : Int64) (hm1 : ¬ m1 < 0) (m2 : Int64) (hm2 : ¬ m2 < 0) (r1 : Int32) (hr1 : ¬ r1 < 0) (r2 : Int32) (hr2 : ¬ r2 < 0) : Wp Pg 0 (103, [.val (.long x0), .second, .val (.long x1), .second, .val (.int x2), .val (.int x3), .val (.int x4), .val (.long x5), .second, .val (.int fl), .val (.int fr), .val (.ref a1), .val (.ref a2), .val (.long m1), .second, .val (.long m2), .second, .val (.int r1), .val (.int r2), .unset, .unset, .unset, .unset, .unset, .unset, .unset], [], own_H0, 0, 0) (fun r => r.1 = some (.int 1)) := by
  by_cases k : x4 < -1
  · simp +decide only [w0_103, w0_105, w0_106, w0_109, w1_0, w1_1, w1_2, w1_5, w1_6, w1_9, w1_10, List.length_cons, List.length_nil, List.length_append, List.length_set, List.length_replicate, wt_nil, wt_int, wt_ref, wt_null, wt_long, wt_double, s1_unset, s1_int, s1_ref, s1_null, s2_unset, s2_val, s3_unset, s3_second, s3_int, s3_ref, isA_ref', isA_null', cat_int, cat_ref, cat_null, List.cons_append, List.nil_append, List.getElem?_cons_zero, List.getElem?_cons_succ, List.getElem?_nil, List.set_cons_zero, List.set_cons_succ, Option.toList_some, Option.toList_none, Option.some.injEq, exists_eq_left', Option.bind_some, Option.map_some, kdOf_eq, kdO_obj, rdF_eq, wrF_eq, alen_eq, ldA_eq, ldO_i, ldO_b, ldO_c, ldO_a, stA_i, stO_i, stA_b, stO_b, stA_c, stO_c, stA_d, stO_d, ldO_d, j0_eq, Nat.not_lt_zero, if_true, if_false, not_false_eq_true, not_true_eq_false, true_and, and_true, reduceCtorEq, Value.ref.injEq, ne_eq, Nat.zero_add, Nat.add_zero, Nat.reduceAdd, Nat.reduceLeDiff, Nat.le_refl, Nat.reduceLT, Nat.zero_le, Value.int.injEq, Value.long.injEq, tn0, tn1, tn2, tn3, tn4, tn5, tn6, tn7, tn8, tn9, tl0, tl1, tl2, tl3, tl4, tl5, tl6, tl7, tl8, tl9, rp0, rp1, rp2, rp3, rp4, rp5, rp6, rp7, rp8, rp9, alO_a, an0, an1, ↓reduceIte, Int32.reduceAdd, Int32.reduceSub, Int32.reduceMul, Int32.reduceLT, Int32.reduceLE, Int32.reduceToNatClampNeg, Int64.reduceLT, Int64.reduceLE, Int64.reduceAdd, on0, on1, on2, on3, on4, on5, on6, on7, on8, on9, k]
    exact own_111 x0 x1 x2 x3 x4 x5 fl fr a1 a2 m1 hm1 m2 hm2 r1 hr1 r2 hr2 (-1) (by decide)
  · simp +decide only [w0_103, w0_105, w0_106, w0_109, w1_0, w1_1, w1_2, w1_5, w1_6, w1_9, w1_10, List.length_cons, List.length_nil, List.length_append, List.length_set, List.length_replicate, wt_nil, wt_int, wt_ref, wt_null, wt_long, wt_double, s1_unset, s1_int, s1_ref, s1_null, s2_unset, s2_val, s3_unset, s3_second, s3_int, s3_ref, isA_ref', isA_null', cat_int, cat_ref, cat_null, List.cons_append, List.nil_append, List.getElem?_cons_zero, List.getElem?_cons_succ, List.getElem?_nil, List.set_cons_zero, List.set_cons_succ, Option.toList_some, Option.toList_none, Option.some.injEq, exists_eq_left', Option.bind_some, Option.map_some, kdOf_eq, kdO_obj, rdF_eq, wrF_eq, alen_eq, ldA_eq, ldO_i, ldO_b, ldO_c, ldO_a, stA_i, stO_i, stA_b, stO_b, stA_c, stO_c, stA_d, stO_d, ldO_d, j0_eq, Nat.not_lt_zero, if_true, if_false, not_false_eq_true, not_true_eq_false, true_and, and_true, reduceCtorEq, Value.ref.injEq, ne_eq, Nat.zero_add, Nat.add_zero, Nat.reduceAdd, Nat.reduceLeDiff, Nat.le_refl, Nat.reduceLT, Nat.zero_le, Value.int.injEq, Value.long.injEq, tn0, tn1, tn2, tn3, tn4, tn5, tn6, tn7, tn8, tn9, tl0, tl1, tl2, tl3, tl4, tl5, tl6, tl7, tl8, tl9, rp0, rp1, rp2, rp3, rp4, rp5, rp6, rp7, rp8, rp9, alO_a, an0, an1, ↓reduceIte, Int32.reduceAdd, Int32.reduceSub, Int32.reduceMul, Int32.reduceLT, Int32.reduceLE, Int32.reduceToNatClampNeg, Int64.reduceLT, Int64.reduceLE, Int64.reduceAdd, on0, on1, on2, on3, on4, on5, on6, on7, on8, on9, k]
    exact own_111 x0 x1 x2 x3 x4 x5 fl fr a1 a2 m1 hm1 m2 hm2 r1 hr1 r2 hr2 x4 k
theorem own_83 (x0 x1 : Int64) (x2 x3 x4 : Int32) (x5 : Int64) (fl fr : Int32) (a1 : Nat) (a2 : Nat) (m1 : Int64) (hm1 : ¬ m1 < 0) (m2 : Int64) (hm2 : ¬ m2 < 0) (r1 : Int32) (hr1 : ¬ r1 < 0) : Wp Pg 0 (83, [.val (.long x0), .second, .val (.long x1), .second, .val (.int x2), .val (.int x3), .val (.int x4), .val (.long x5), .second, .val (.int fl), .val (.int fr), .val (.ref a1), .val (.ref a2), .val (.long m1), .second, .val (.long m2), .second, .val (.int r1), .unset, .unset, .unset, .unset, .unset, .unset, .unset, .unset], [], own_H0, 0, 0) (fun r => r.1 = some (.int 1)) := by
  by_cases h : fl &&& 32 = 0
  · simp +decide only [w0_83, w0_85, w0_87, w0_88, w0_91, w0_93, w0_96, w0_98, w0_100, w0_101, w1_0, w1_1, w1_2, w1_5, w1_6, w1_9, w1_10, List.length_cons, List.length_nil, List.length_append, List.length_set, List.length_replicate, wt_nil, wt_int, wt_ref, wt_null, wt_long, wt_double, s1_unset, s1_int, s1_ref, s1_null, s2_unset, s2_val, s3_unset, s3_second, s3_int, s3_ref, isA_ref', isA_null', cat_int, cat_ref, cat_null, List.cons_append, List.nil_append, List.getElem?_cons_zero, List.getElem?_cons_succ, List.getElem?_nil, List.set_cons_zero, List.set_cons_succ, Option.toList_some, Option.toList_none, Option.some.injEq, exists_eq_left', Option.bind_some, Option.map_some, kdOf_eq, kdO_obj, rdF_eq, wrF_eq, alen_eq, ldA_eq, ldO_i, ldO_b, ldO_c, ldO_a, stA_i, stO_i, stA_b, stO_b, stA_c, stO_c, stA_d, stO_d, ldO_d, j0_eq, Nat.not_lt_zero, if_true, if_false, not_false_eq_true, not_true_eq_false, true_and, and_true, reduceCtorEq, Value.ref.injEq, ne_eq, Nat.zero_add, Nat.add_zero, Nat.reduceAdd, Nat.reduceLeDiff, Nat.le_refl, Nat.reduceLT, Nat.zero_le, Value.int.injEq, Value.long.injEq, tn0, tn1, tn2, tn3, tn4, tn5, tn6, tn7, tn8, tn9, tl0, tl1, tl2, tl3, tl4, tl5, tl6, tl7, tl8, tl9, rp0, rp1, rp2, rp3, rp4, rp5, rp6, rp7, rp8, rp9, alO_a, an0, an1, ↓reduceIte, Int32.reduceAdd, Int32.reduceSub, Int32.reduceMul, Int32.reduceLT, Int32.reduceLE, Int32.reduceToNatClampNeg, Int64.reduceLT, Int64.reduceLE, Int64.reduceAdd, on0, on1, on2, on3, on4, on5, on6, on7, on8, on9, h]
    exact own_103 x0 x1 x2 x3 x4 x5 fl fr a1 a2 m1 hm1 m2 hm2 r1 hr1 _ (own_mask32 x3)
  · simp +decide only [w0_83, w0_85, w0_87, w0_88, w0_91, w0_93, w0_96, w0_98, w0_100, w0_101, w1_0, w1_1, w1_2, w1_5, w1_6, w1_9, w1_10, List.length_cons, List.length_nil, List.length_append, List.length_set, List.length_replicate, wt_nil, wt_int, wt_ref, wt_null, wt_long, wt_double, s1_unset, s1_int, s1_ref, s1_null, s2_unset, s2_val, s3_unset, s3_second, s3_int, s3_ref, isA_ref', isA_null', cat_int, cat_ref, cat_null, List.cons_append, List.nil_append, List.getElem?_cons_zero, List.getElem?_cons_succ, List.getElem?_nil, List.set_cons_zero, List.set_cons_succ, Option.toList_some, Option.toList_none, Option.some.injEq, exists_eq_left', Option.bind_some, Option.map_some, kdOf_eq, kdO_obj, rdF_eq, wrF_eq, alen_eq, ldA_eq, ldO_i, ldO_b, ldO_c, ldO_a, stA_i, stO_i, stA_b, stO_b, stA_c, stO_c, stA_d, stO_d, ldO_d, j0_eq, Nat.not_lt_zero, if_true, if_false, not_false_eq_true, not_true_eq_false, true_and, and_true, reduceCtorEq, Value.ref.injEq, ne_eq, Nat.zero_add, Nat.add_zero, Nat.reduceAdd, Nat.reduceLeDiff, Nat.le_refl, Nat.reduceLT, Nat.zero_le, Value.int.injEq, Value.long.injEq, tn0, tn1, tn2, tn3, tn4, tn5, tn6, tn7, tn8, tn9, tl0, tl1, tl2, tl3, tl4, tl5, tl6, tl7, tl8, tl9, rp0, rp1, rp2, rp3, rp4, rp5, rp6, rp7, rp8, rp9, alO_a, an0, an1, ↓reduceIte, Int32.reduceAdd, Int32.reduceSub, Int32.reduceMul, Int32.reduceLT, Int32.reduceLE, Int32.reduceToNatClampNeg, Int64.reduceLT, Int64.reduceLE, Int64.reduceAdd, on0, on1, on2, on3, on4, on5, on6, on7, on8, on9, h]
    exact own_103 x0 x1 x2 x3 x4 x5 fl fr a1 a2 m1 hm1 m2 hm2 r1 hr1 r1 hr1
theorem own_76 (x0 x1 : Int64) (x2 x3 x4 : Int32) (x5 : Int64) (fl fr : Int32) (a1 : Nat) (a2 : Nat) (m1 : Int64) (hm1 : ¬ m1 < 0) (m2 : Int64) (hm2 : ¬ m2 < 0) : Wp Pg 0 (76, [.val (.long x0), .second, .val (.long x1), .second, .val (.int x2), .val (.int x3), .val (.int x4), .val (.long x5), .second, .val (.int fl), .val (.int fr), .val (.ref a1), .val (.ref a2), .val (.long m1), .second, .val (.long m2), .second, .unset, .unset, .unset, .unset, .unset, .unset, .unset, .unset, .unset], [], own_H0, 0, 0) (fun r => r.1 = some (.int 1)) := by
  simp +decide only [w0_76, w0_78, w0_80, w0_81, w1_0, w1_1, w1_2, w1_5, w1_6, w1_9, w1_10, List.length_cons, List.length_nil, List.length_append, List.length_set, List.length_replicate, wt_nil, wt_int, wt_ref, wt_null, wt_long, wt_double, s1_unset, s1_int, s1_ref, s1_null, s2_unset, s2_val, s3_unset, s3_second, s3_int, s3_ref, isA_ref', isA_null', cat_int, cat_ref, cat_null, List.cons_append, List.nil_append, List.getElem?_cons_zero, List.getElem?_cons_succ, List.getElem?_nil, List.set_cons_zero, List.set_cons_succ, Option.toList_some, Option.toList_none, Option.some.injEq, exists_eq_left', Option.bind_some, Option.map_some, kdOf_eq, kdO_obj, rdF_eq, wrF_eq, alen_eq, ldA_eq, ldO_i, ldO_b, ldO_c, ldO_a, stA_i, stO_i, stA_b, stO_b, stA_c, stO_c, stA_d, stO_d, ldO_d, j0_eq, Nat.not_lt_zero, if_true, if_false, not_false_eq_true, not_true_eq_false, true_and, and_true, reduceCtorEq, Value.ref.injEq, ne_eq, Nat.zero_add, Nat.add_zero, Nat.reduceAdd, Nat.reduceLeDiff, Nat.le_refl, Nat.reduceLT, Nat.zero_le, Value.int.injEq, Value.long.injEq, tn0, tn1, tn2, tn3, tn4, tn5, tn6, tn7, tn8, tn9, tl0, tl1, tl2, tl3, tl4, tl5, tl6, tl7, tl8, tl9, rp0, rp1, rp2, rp3, rp4, rp5, rp6, rp7, rp8, rp9, alO_a, an0, an1, ↓reduceIte, Int32.reduceAdd, Int32.reduceSub, Int32.reduceMul, Int32.reduceLT, Int32.reduceLE, Int32.reduceToNatClampNeg, Int64.reduceLT, Int64.reduceLE, Int64.reduceAdd, on0, on1, on2, on3, on4, on5, on6, on7, on8, on9]
  exact own_83 x0 x1 x2 x3 x4 x5 fl fr a1 a2 m1 hm1 m2 hm2 _ (own_mask32 x2)
theorem own_56 (x0 x1 : Int64) (x2 x3 x4 : Int32) (x5 : Int64) (fl fr : Int32) (a1 : Nat) (a2 : Nat) (m1 : Int64) (hm1 : ¬ m1 < 0) : Wp Pg 0 (56, [.val (.long x0), .second, .val (.long x1), .second, .val (.int x2), .val (.int x3), .val (.int x4), .val (.long x5), .second, .val (.int fl), .val (.int fr), .val (.ref a1), .val (.ref a2), .val (.long m1), .second, .unset, .unset, .unset, .unset, .unset, .unset, .unset, .unset, .unset, .unset, .unset], [], own_H0, 0, 0) (fun r => r.1 = some (.int 1)) := by
  by_cases h : fl &&& 16 = 0
  · simp +decide only [w0_56, w0_58, w0_60, w0_61, w0_64, w0_66, w0_69, w0_70, w0_73, w0_74, w1_0, w1_1, w1_2, w1_5, w1_6, w1_9, w1_10, List.length_cons, List.length_nil, List.length_append, List.length_set, List.length_replicate, wt_nil, wt_int, wt_ref, wt_null, wt_long, wt_double, s1_unset, s1_int, s1_ref, s1_null, s2_unset, s2_val, s3_unset, s3_second, s3_int, s3_ref, isA_ref', isA_null', cat_int, cat_ref, cat_null, List.cons_append, List.nil_append, List.getElem?_cons_zero, List.getElem?_cons_succ, List.getElem?_nil, List.set_cons_zero, List.set_cons_succ, Option.toList_some, Option.toList_none, Option.some.injEq, exists_eq_left', Option.bind_some, Option.map_some, kdOf_eq, kdO_obj, rdF_eq, wrF_eq, alen_eq, ldA_eq, ldO_i, ldO_b, ldO_c, ldO_a, stA_i, stO_i, stA_b, stO_b, stA_c, stO_c, stA_d, stO_d, ldO_d, j0_eq, Nat.not_lt_zero, if_true, if_false, not_false_eq_true, not_true_eq_false, true_and, and_true, reduceCtorEq, Value.ref.injEq, ne_eq, Nat.zero_add, Nat.add_zero, Nat.reduceAdd, Nat.reduceLeDiff, Nat.le_refl, Nat.reduceLT, Nat.zero_le, Value.int.injEq, Value.long.injEq, tn0, tn1, tn2, tn3, tn4, tn5, tn6, tn7, tn8, tn9, tl0, tl1, tl2, tl3, tl4, tl5, tl6, tl7, tl8, tl9, rp0, rp1, rp2, rp3, rp4, rp5, rp6, rp7, rp8, rp9, alO_a, an0, an1, ↓reduceIte, Int32.reduceAdd, Int32.reduceSub, Int32.reduceMul, Int32.reduceLT, Int32.reduceLE, Int32.reduceToNatClampNeg, Int64.reduceLT, Int64.reduceLE, Int64.reduceAdd, on0, on1, on2, on3, on4, on5, on6, on7, on8, on9, h]
    exact own_76 x0 x1 x2 x3 x4 x5 fl fr a1 a2 m1 hm1 _ (own_mask x1)
  · simp +decide only [w0_56, w0_58, w0_60, w0_61, w0_64, w0_66, w0_69, w0_70, w0_73, w0_74, w1_0, w1_1, w1_2, w1_5, w1_6, w1_9, w1_10, List.length_cons, List.length_nil, List.length_append, List.length_set, List.length_replicate, wt_nil, wt_int, wt_ref, wt_null, wt_long, wt_double, s1_unset, s1_int, s1_ref, s1_null, s2_unset, s2_val, s3_unset, s3_second, s3_int, s3_ref, isA_ref', isA_null', cat_int, cat_ref, cat_null, List.cons_append, List.nil_append, List.getElem?_cons_zero, List.getElem?_cons_succ, List.getElem?_nil, List.set_cons_zero, List.set_cons_succ, Option.toList_some, Option.toList_none, Option.some.injEq, exists_eq_left', Option.bind_some, Option.map_some, kdOf_eq, kdO_obj, rdF_eq, wrF_eq, alen_eq, ldA_eq, ldO_i, ldO_b, ldO_c, ldO_a, stA_i, stO_i, stA_b, stO_b, stA_c, stO_c, stA_d, stO_d, ldO_d, j0_eq, Nat.not_lt_zero, if_true, if_false, not_false_eq_true, not_true_eq_false, true_and, and_true, reduceCtorEq, Value.ref.injEq, ne_eq, Nat.zero_add, Nat.add_zero, Nat.reduceAdd, Nat.reduceLeDiff, Nat.le_refl, Nat.reduceLT, Nat.zero_le, Value.int.injEq, Value.long.injEq, tn0, tn1, tn2, tn3, tn4, tn5, tn6, tn7, tn8, tn9, tl0, tl1, tl2, tl3, tl4, tl5, tl6, tl7, tl8, tl9, rp0, rp1, rp2, rp3, rp4, rp5, rp6, rp7, rp8, rp9, alO_a, an0, an1, ↓reduceIte, Int32.reduceAdd, Int32.reduceSub, Int32.reduceMul, Int32.reduceLT, Int32.reduceLE, Int32.reduceToNatClampNeg, Int64.reduceLT, Int64.reduceLE, Int64.reduceAdd, on0, on1, on2, on3, on4, on5, on6, on7, on8, on9, h]
    exact own_76 x0 x1 x2 x3 x4 x5 fl fr a1 a2 m1 hm1 m1 hm1
theorem own_49 (x0 x1 : Int64) (x2 x3 x4 : Int32) (x5 : Int64) (fl fr : Int32) (a1 : Nat) (a2 : Nat) : Wp Pg 0 (49, [.val (.long x0), .second, .val (.long x1), .second, .val (.int x2), .val (.int x3), .val (.int x4), .val (.long x5), .second, .val (.int fl), .val (.int fr), .val (.ref a1), .val (.ref a2), .unset, .unset, .unset, .unset, .unset, .unset, .unset, .unset, .unset, .unset, .unset, .unset, .unset], [], own_H0, 0, 0) (fun r => r.1 = some (.int 1)) := by
  simp +decide only [w0_49, w0_50, w0_53, w0_54, w1_0, w1_1, w1_2, w1_5, w1_6, w1_9, w1_10, List.length_cons, List.length_nil, List.length_append, List.length_set, List.length_replicate, wt_nil, wt_int, wt_ref, wt_null, wt_long, wt_double, s1_unset, s1_int, s1_ref, s1_null, s2_unset, s2_val, s3_unset, s3_second, s3_int, s3_ref, isA_ref', isA_null', cat_int, cat_ref, cat_null, List.cons_append, List.nil_append, List.getElem?_cons_zero, List.getElem?_cons_succ, List.getElem?_nil, List.set_cons_zero, List.set_cons_succ, Option.toList_some, Option.toList_none, Option.some.injEq, exists_eq_left', Option.bind_some, Option.map_some, kdOf_eq, kdO_obj, rdF_eq, wrF_eq, alen_eq, ldA_eq, ldO_i, ldO_b, ldO_c, ldO_a, stA_i, stO_i, stA_b, stO_b, stA_c, stO_c, stA_d, stO_d, ldO_d, j0_eq, Nat.not_lt_zero, if_true, if_false, not_false_eq_true, not_true_eq_false, true_and, and_true, reduceCtorEq, Value.ref.injEq, ne_eq, Nat.zero_add, Nat.add_zero, Nat.reduceAdd, Nat.reduceLeDiff, Nat.le_refl, Nat.reduceLT, Nat.zero_le, Value.int.injEq, Value.long.injEq, tn0, tn1, tn2, tn3, tn4, tn5, tn6, tn7, tn8, tn9, tl0, tl1, tl2, tl3, tl4, tl5, tl6, tl7, tl8, tl9, rp0, rp1, rp2, rp3, rp4, rp5, rp6, rp7, rp8, rp9, alO_a, an0, an1, ↓reduceIte, Int32.reduceAdd, Int32.reduceSub, Int32.reduceMul, Int32.reduceLT, Int32.reduceLE, Int32.reduceToNatClampNeg, Int64.reduceLT, Int64.reduceLE, Int64.reduceAdd, on0, on1, on2, on3, on4, on5, on6, on7, on8, on9]
  exact own_56 x0 x1 x2 x3 x4 x5 fl fr a1 a2 _ (own_mask x0)
theorem own_31 (x0 x1 : Int64) (x2 x3 x4 : Int32) (x5 : Int64) (fl fr : Int32) (a1 : Nat) : Wp Pg 0 (31, [.val (.long x0), .second, .val (.long x1), .second, .val (.int x2), .val (.int x3), .val (.int x4), .val (.long x5), .second, .val (.int fl), .val (.int fr), .val (.ref a1), .unset, .unset, .unset, .unset, .unset, .unset, .unset, .unset, .unset, .unset, .unset, .unset, .unset, .unset], [], own_H0, 0, 0) (fun r => r.1 = some (.int 1)) := by
  by_cases h : fl &&& 2 = 0
  · simp +decide only [w0_31, w0_33, w0_34, w0_35, w0_38, w0_41, w0_44, w0_47, w1_0, w1_1, w1_2, w1_5, w1_6, w1_9, w1_10, List.length_cons, List.length_nil, List.length_append, List.length_set, List.length_replicate, wt_nil, wt_int, wt_ref, wt_null, wt_long, wt_double, s1_unset, s1_int, s1_ref, s1_null, s2_unset, s2_val, s3_unset, s3_second, s3_int, s3_ref, isA_ref', isA_null', cat_int, cat_ref, cat_null, List.cons_append, List.nil_append, List.getElem?_cons_zero, List.getElem?_cons_succ, List.getElem?_nil, List.set_cons_zero, List.set_cons_succ, Option.toList_some, Option.toList_none, Option.some.injEq, exists_eq_left', Option.bind_some, Option.map_some, kdOf_eq, kdO_obj, rdF_eq, wrF_eq, alen_eq, ldA_eq, ldO_i, ldO_b, ldO_c, ldO_a, stA_i, stO_i, stA_b, stO_b, stA_c, stO_c, stA_d, stO_d, ldO_d, j0_eq, Nat.not_lt_zero, if_true, if_false, not_false_eq_true, not_true_eq_false, true_and, and_true, reduceCtorEq, Value.ref.injEq, ne_eq, Nat.zero_add, Nat.add_zero, Nat.reduceAdd, Nat.reduceLeDiff, Nat.le_refl, Nat.reduceLT, Nat.zero_le, Value.int.injEq, Value.long.injEq, tn0, tn1, tn2, tn3, tn4, tn5, tn6, tn7, tn8, tn9, tl0, tl1, tl2, tl3, tl4, tl5, tl6, tl7, tl8, tl9, rp0, rp1, rp2, rp3, rp4, rp5, rp6, rp7, rp8, rp9, alO_a, an0, an1, ↓reduceIte, Int32.reduceAdd, Int32.reduceSub, Int32.reduceMul, Int32.reduceLT, Int32.reduceLE, Int32.reduceToNatClampNeg, Int64.reduceLT, Int64.reduceLE, Int64.reduceAdd, on0, on1, on2, on3, on4, on5, on6, on7, on8, on9, h]
    exact own_49 x0 x1 x2 x3 x4 x5 fl fr a1 _
  · simp +decide only [w0_31, w0_33, w0_34, w0_35, w0_38, w0_41, w0_44, w0_47, w1_0, w1_1, w1_2, w1_5, w1_6, w1_9, w1_10, List.length_cons, List.length_nil, List.length_append, List.length_set, List.length_replicate, wt_nil, wt_int, wt_ref, wt_null, wt_long, wt_double, s1_unset, s1_int, s1_ref, s1_null, s2_unset, s2_val, s3_unset, s3_second, s3_int, s3_ref, isA_ref', isA_null', cat_int, cat_ref, cat_null, List.cons_append, List.nil_append, List.getElem?_cons_zero, List.getElem?_cons_succ, List.getElem?_nil, List.set_cons_zero, List.set_cons_succ, Option.toList_some, Option.toList_none, Option.some.injEq, exists_eq_left', Option.bind_some, Option.map_some, kdOf_eq, kdO_obj, rdF_eq, wrF_eq, alen_eq, ldA_eq, ldO_i, ldO_b, ldO_c, ldO_a, stA_i, stO_i, stA_b, stO_b, stA_c, stO_c, stA_d, stO_d, ldO_d, j0_eq, Nat.not_lt_zero, if_true, if_false, not_false_eq_true, not_true_eq_false, true_and, and_true, reduceCtorEq, Value.ref.injEq, ne_eq, Nat.zero_add, Nat.add_zero, Nat.reduceAdd, Nat.reduceLeDiff, Nat.le_refl, Nat.reduceLT, Nat.zero_le, Value.int.injEq, Value.long.injEq, tn0, tn1, tn2, tn3, tn4, tn5, tn6, tn7, tn8, tn9, tl0, tl1, tl2, tl3, tl4, tl5, tl6, tl7, tl8, tl9, rp0, rp1, rp2, rp3, rp4, rp5, rp6, rp7, rp8, rp9, alO_a, an0, an1, ↓reduceIte, Int32.reduceAdd, Int32.reduceSub, Int32.reduceMul, Int32.reduceLT, Int32.reduceLE, Int32.reduceToNatClampNeg, Int64.reduceLT, Int64.reduceLE, Int64.reduceAdd, on0, on1, on2, on3, on4, on5, on6, on7, on8, on9, h]
    exact own_49 x0 x1 x2 x3 x4 x5 fl fr a1 _
theorem own_13 (x0 x1 : Int64) (x2 x3 x4 : Int32) (x5 : Int64) (fl fr : Int32) : Wp Pg 0 (13, [.val (.long x0), .second, .val (.long x1), .second, .val (.int x2), .val (.int x3), .val (.int x4), .val (.long x5), .second, .val (.int fl), .val (.int fr), .unset, .unset, .unset, .unset, .unset, .unset, .unset, .unset, .unset, .unset, .unset, .unset, .unset, .unset, .unset], [], own_H0, 0, 0) (fun r => r.1 = some (.int 1)) := by
  by_cases h : fl &&& 1 = 0
  · simp +decide only [w0_13, w0_15, w0_16, w0_17, w0_20, w0_23, w0_26, w0_29, w1_0, w1_1, w1_2, w1_5, w1_6, w1_9, w1_10, List.length_cons, List.length_nil, List.length_append, List.length_set, List.length_replicate, wt_nil, wt_int, wt_ref, wt_null, wt_long, wt_double, s1_unset, s1_int, s1_ref, s1_null, s2_unset, s2_val, s3_unset, s3_second, s3_int, s3_ref, isA_ref', isA_null', cat_int, cat_ref, cat_null, List.cons_append, List.nil_append, List.getElem?_cons_zero, List.getElem?_cons_succ, List.getElem?_nil, List.set_cons_zero, List.set_cons_succ, Option.toList_some, Option.toList_none, Option.some.injEq, exists_eq_left', Option.bind_some, Option.map_some, kdOf_eq, kdO_obj, rdF_eq, wrF_eq, alen_eq, ldA_eq, ldO_i, ldO_b, ldO_c, ldO_a, stA_i, stO_i, stA_b, stO_b, stA_c, stO_c, stA_d, stO_d, ldO_d, j0_eq, Nat.not_lt_zero, if_true, if_false, not_false_eq_true, not_true_eq_false, true_and, and_true, reduceCtorEq, Value.ref.injEq, ne_eq, Nat.zero_add, Nat.add_zero, Nat.reduceAdd, Nat.reduceLeDiff, Nat.le_refl, Nat.reduceLT, Nat.zero_le, Value.int.injEq, Value.long.injEq, tn0, tn1, tn2, tn3, tn4, tn5, tn6, tn7, tn8, tn9, tl0, tl1, tl2, tl3, tl4, tl5, tl6, tl7, tl8, tl9, rp0, rp1, rp2, rp3, rp4, rp5, rp6, rp7, rp8, rp9, alO_a, an0, an1, ↓reduceIte, Int32.reduceAdd, Int32.reduceSub, Int32.reduceMul, Int32.reduceLT, Int32.reduceLE, Int32.reduceToNatClampNeg, Int64.reduceLT, Int64.reduceLE, Int64.reduceAdd, on0, on1, on2, on3, on4, on5, on6, on7, on8, on9, h]
    exact own_31 x0 x1 x2 x3 x4 x5 fl fr _
  · simp +decide only [w0_13, w0_15, w0_16, w0_17, w0_20, w0_23, w0_26, w0_29, w1_0, w1_1, w1_2, w1_5, w1_6, w1_9, w1_10, List.length_cons, List.length_nil, List.length_append, List.length_set, List.length_replicate, wt_nil, wt_int, wt_ref, wt_null, wt_long, wt_double, s1_unset, s1_int, s1_ref, s1_null, s2_unset, s2_val, s3_unset, s3_second, s3_int, s3_ref, isA_ref', isA_null', cat_int, cat_ref, cat_null, List.cons_append, List.nil_append, List.getElem?_cons_zero, List.getElem?_cons_succ, List.getElem?_nil, List.set_cons_zero, List.set_cons_succ, Option.toList_some, Option.toList_none, Option.some.injEq, exists_eq_left', Option.bind_some, Option.map_some, kdOf_eq, kdO_obj, rdF_eq, wrF_eq, alen_eq, ldA_eq, ldO_i, ldO_b, ldO_c, ldO_a, stA_i, stO_i, stA_b, stO_b, stA_c, stO_c, stA_d, stO_d, ldO_d, j0_eq, Nat.not_lt_zero, if_true, if_false, not_false_eq_true, not_true_eq_false, true_and, and_true, reduceCtorEq, Value.ref.injEq, ne_eq, Nat.zero_add, Nat.add_zero, Nat.reduceAdd, Nat.reduceLeDiff, Nat.le_refl, Nat.reduceLT, Nat.zero_le, Value.int.injEq, Value.long.injEq, tn0, tn1, tn2, tn3, tn4, tn5, tn6, tn7, tn8, tn9, tl0, tl1, tl2, tl3, tl4, tl5, tl6, tl7, tl8, tl9, rp0, rp1, rp2, rp3, rp4, rp5, rp6, rp7, rp8, rp9, alO_a, an0, an1, ↓reduceIte, Int32.reduceAdd, Int32.reduceSub, Int32.reduceMul, Int32.reduceLT, Int32.reduceLE, Int32.reduceToNatClampNeg, Int64.reduceLT, Int64.reduceLE, Int64.reduceAdd, on0, on1, on2, on3, on4, on5, on6, on7, on8, on9, h]
    exact own_31 x0 x1 x2 x3 x4 x5 fl fr _
theorem law_wp (x0 x1 : Int64) (x2 x3 x4 : Int32) (x5 : Int64) : Wp Pg 0 (0, [.val (.long x0), .second, .val (.long x1), .second, .val (.int x2), .val (.int x3), .val (.int x4), .val (.long x5), .second, .unset, .unset, .unset, .unset, .unset, .unset, .unset, .unset, .unset, .unset, .unset, .unset, .unset, .unset, .unset, .unset, .unset], [], own_H0, 0, 0) (fun r => r.1 = some (.int 1)) := by
  simp +decide only [w0_0, w0_2, w0_4, w0_5, w0_6, w0_8, w0_10, w0_11, w1_0, w1_1, w1_2, w1_5, w1_6, w1_9, w1_10, List.length_cons, List.length_nil, List.length_append, List.length_set, List.length_replicate, wt_nil, wt_int, wt_ref, wt_null, wt_long, wt_double, s1_unset, s1_int, s1_ref, s1_null, s2_unset, s2_val, s3_unset, s3_second, s3_int, s3_ref, isA_ref', isA_null', cat_int, cat_ref, cat_null, List.cons_append, List.nil_append, List.getElem?_cons_zero, List.getElem?_cons_succ, List.getElem?_nil, List.set_cons_zero, List.set_cons_succ, Option.toList_some, Option.toList_none, Option.some.injEq, exists_eq_left', Option.bind_some, Option.map_some, kdOf_eq, kdO_obj, rdF_eq, wrF_eq, alen_eq, ldA_eq, ldO_i, ldO_b, ldO_c, ldO_a, stA_i, stO_i, stA_b, stO_b, stA_c, stO_c, stA_d, stO_d, ldO_d, j0_eq, Nat.not_lt_zero, if_true, if_false, not_false_eq_true, not_true_eq_false, true_and, and_true, reduceCtorEq, Value.ref.injEq, ne_eq, Nat.zero_add, Nat.add_zero, Nat.reduceAdd, Nat.reduceLeDiff, Nat.le_refl, Nat.reduceLT, Nat.zero_le, Value.int.injEq, Value.long.injEq, tn0, tn1, tn2, tn3, tn4, tn5, tn6, tn7, tn8, tn9, tl0, tl1, tl2, tl3, tl4, tl5, tl6, tl7, tl8, tl9, rp0, rp1, rp2, rp3, rp4, rp5, rp6, rp7, rp8, rp9, alO_a, an0, an1, ↓reduceIte, Int32.reduceAdd, Int32.reduceSub, Int32.reduceMul, Int32.reduceLT, Int32.reduceLE, Int32.reduceToNatClampNeg, Int64.reduceLT, Int64.reduceLE, Int64.reduceAdd, on0, on1, on2, on3, on4, on5, on6, on7, on8, on9]
  exact own_13 x0 x1 x2 x3 x4 x5 _ _
set_option maxRecDepth 65536 in
set_option maxHeartbeats 40000000 in
theorem comes_1 {Post : Tables → Env → Array Value → State → Outcome → State → Prop} (hpost : ∀ tb e args s v u, (limb_1_1.after args s (.returned v) u = true ∧ limb_1_2.after args s (.returned v) u = true ∧ True) → FrameEnd s (.returned v) u (Jvm.fieldLocs frame_1_writes args s ++ Jvm.arrayLocs frame_1_arrays args s ++ Jvm.staticLocs frame_1_statics s) 16 128 → Post tb e args s (.returned v) u) :
    ArmFor flags0 classFile x code maxLocals ret World_1 tables_1 room_1 Calls_1 rest_1 Pre_1 Post := by
  intro l hfl _ _ p e ha hc hk s m args below hf hA hF happ hP
  obtain ⟨hcalls, hrest, hpre⟩ := hP
  obtain ⟨-, -, -, hnamed, -, -, -, hat⟩ := (Spec.applies_iff hf).mp happ
  obtain ⟨hg, hn⟩ := and_e (Cond.before_iff.mp (show (Jvm.Cond.and given_1 narrow_1).before args s = true from hpre))
  obtain ⟨hcnt, g0⟩ := and_e hg
  obtain ⟨q0, g1⟩ := and_e g0
  obtain ⟨q1, g2⟩ := and_e g1
  obtain ⟨q2, g3⟩ := and_e g2
  obtain ⟨q3, g4⟩ := and_e g3
  obtain ⟨q4, g5⟩ := and_e g4
  have q5 := g5
  obtain ⟨w0, w1, w2, w3, w4, w5, rfl⟩ : ∃ w0 w1 w2 w3 w4 w5 : Value, args = #[w0, w1, w2, w3, w4, w5] := by
    have hs : args.size = 6 := by simpa [Cond.value, given_1] using hcnt
    obtain ⟨L⟩ := args
    match L, hs with
    | [w0, w1, w2, w3, w4, w5], _ => exact ⟨w0, w1, w2, w3, w4, w5, rfl⟩
  have hw := fun d (hd : d ∈ tables_1) => atoms_spec (ws := Jvm.Cond.code x code maxLocals ret :: tables_1) hat d (List.mem_cons_of_mem _ hd)
  obtain ⟨x0, e0⟩ := isL_v q0
  obtain rfl : w0 = (.long x0) := Option.some.inj e0
  obtain ⟨x1, e1⟩ := isL_v q1
  obtain rfl : w1 = (.long x1) := Option.some.inj e1
  obtain ⟨x2, e2⟩ := is_v q2
  obtain rfl : w2 = (.int x2) := Option.some.inj e2
  obtain ⟨x3, e3⟩ := is_v q3
  obtain rfl : w3 = (.int x3) := Option.some.inj e3
  obtain ⟨x4, e4⟩ := is_v q4
  obtain rfl : w4 = (.int x4) := Option.some.inj e4
  obtain ⟨x5, e5⟩ := isL_v q5
  obtain rfl : w5 = (.long x5) := Option.some.inj e5
  obtain ⟨hsets, hown0⟩ := atoms_of _ (rest_1_c_eq ▸ (show rest_1_c.before _ s = true from hrest))
  obtain ⟨n1, hn⟩ := and_e hn
  obtain ⟨n2, hn⟩ := and_e hn
  obtain ⟨n3, n4⟩ := and_e hn
  obtain ⟨aL, vL, EL⟩ := ex_start n1
  obtain ⟨aM, vM, EM⟩ := ex_start n2
  have FL := fld_eq vL (Term.int_eval 0) n3 rfl
  have FM := fld_eq vM (Term.int_eval 1) n4 rfl
  have neLM : aL ≠ aM := fun e => by subst e; exact absurd (Value.int.inj (fld_inj FL FM)) (by decide)
  have SL := Sta.start vL (Or.inr ⟨(hw _ (List.mem_of_getElem? (i := 1) rfl)), (hw _ (List.mem_of_getElem? (i := 2) rfl))⟩)
  have SM := Sta.start vM (Or.inr ⟨(hw _ (List.mem_of_getElem? (i := 1) rfl)), (hw _ (List.mem_of_getElem? (i := 47) rfl))⟩)
  obtain ⟨aC, vC, EC⟩ := ex_start (Cond.before_iff.mp (hsets _ (List.mem_of_getElem? (i := 3) rfl)))
  have SC := Sta.start vC (Or.inl (hsets _ (List.mem_of_getElem? (i := 1) rfl)))
  obtain ⟨cC, BX⟩ := box_start (val := own_v) (fun _ => vC) (Cond.before_iff.mp (hsets _ (List.mem_of_getElem? (i := 2) rfl))) (Cond.before_iff.mp (hsets _ (List.mem_of_getElem? (i := 4) rfl))) (Cond.before_iff.mp (hsets _ (List.mem_of_getElem? (i := 5) rfl))) (fun X j nn h => eqv_l (by simp [Term.eval, Unary.apply, (back32 nn).1]) h)
  obtain ⟨bs, bl, bq, bb⟩ := boxes_list BX
  have nd : (bs ++ [aC, aL, aM]).Nodup := by
    refine List.nodup_append.mpr ⟨boxes_nodup (val := own_v) own_inj bl bb, ?_, fun b hb c hc e => ?_⟩
    · simp only [List.nodup_cons, List.mem_cons, List.not_mem_nil, or_false, not_or, not_false_eq_true, List.nodup_nil, and_true]
      exact ⟨⟨exa_ne EC EL (by decide), exa_ne EC EM (by decide)⟩, neLM⟩
    · obtain ⟨i, hi⟩ := List.mem_iff_getElem?.mp hb
      simp only [List.mem_cons, List.not_mem_nil, or_false] at hc
      rcases hc with rfl | rfl | rfl
      · exact exa_ne (bb i b hi).1 EC (by decide) e
      · exact exa_ne (bb i b hi).1 EL (by decide) e
      · exact exa_ne (bb i b hi).1 EM (by decide) e
  have RO : RhoOk Pg (rhoL (bs ++ [aC, aL, aM]) s.heap.size) s.heap.size := rhoL_ok (by rw [List.length_append, bl]; rfl) nd (fun b hb => by
    rcases List.mem_append.mp hb with hb | hb
    · obtain ⟨i, hi⟩ := List.mem_iff_getElem?.mp hb
      exact (bb i b hi).1.lt
    · simp only [List.mem_cons, List.not_mem_nil, or_false] at hb
      rcases hb with rfl | rfl | rfl
      · exact EC.lt
      · exact EL.lt
      · exact EM.lt)
  have r1 : ∀ i b, bs[i]? = some b → rhoL (bs ++ [aC, aL, aM]) s.heap.size i = b := fun i b h => rhoL_old (by rw [List.getElem?_append_left (List.getElem?_eq_some_iff.mp h).1]; exact h)
  have r2 : rhoL (bs ++ [aC, aL, aM]) s.heap.size 256 = aC := rhoL_old (by rw [List.getElem?_append_right (by omega), bl]; rfl)
  have r3 : rhoL (bs ++ [aC, aL, aM]) s.heap.size 257 = aL := rhoL_old (by rw [List.getElem?_append_right (by omega), bl]; rfl)
  have r4 : rhoL (bs ++ [aC, aL, aM]) s.heap.size 258 = aM := rhoL_old (by rw [List.getElem?_append_right (by omega), bl]; rfl)
  generalize rhoL (bs ++ [aC, aL, aM]) s.heap.size = rr at RO r1 r2 r3 r4
  have tC : tv rr (.ref 256) = .ref aC := congrArg Value.ref r2
  have tL' : tv rr (.ref 257) = .ref aL := congrArg Value.ref r3
  have tM : tv rr (.ref 258) = .ref aM := congrArg Value.ref r4
  rw [← tC] at SC
  rw [← tL'] at SL
  rw [← tM] at SM
  have K : Pic Pg s rr s.heap.size s.heap own_H0 := by
    refine ⟨Nat.le_of_eq own_len.symm, by rw [own_len]; rfl, fun i o h => ?_, am_cons SL (am_cons SM (am_cons SC am_nil))⟩
    by_cases q : i < 257
    · rw [own_H0, List.getElem?_append_left (by rw [boxH_len]; exact q)] at h
      exact boxes_obj (val := own_v) (by decide) rfl rfl own_nref bl bq bb BX.1 r1 r2 h
    · rw [own_H0, List.getElem?_append_right (by rw [boxH_len]; omega), boxH_len] at h
      obtain ⟨j, rfl⟩ : ∃ j, i = j + 257 := ⟨i - 257, by omega⟩
      rw [Nat.add_sub_cancel] at h
      match j, h with
      | 0, h => cases h; exact fun _ => ⟨by rw [r3]; exact EL, fun q v fd h => by simp at h⟩
      | 1, h => cases h; exact fun _ => ⟨by rw [r4]; exact EM, fun q v fd h => by simp at h⟩
  obtain ⟨f, r, hrun, hr⟩ := law_wp x0 x1 x2 x3 x4 x5
  have hS := run_sound (l := l) (okP hw) RO f 0 _ r hrun
  have met := met_of (P := Pg) (j := 0) (as := [(.long x0), (.long x1), (.int x2), (.int x3), (.int x4), (.long x5)]) pf0 hS K tables_1
  obtain ⟨v, H'⟩ := r
  obtain rfl : v = some (.int 1) := hr
  obtain ⟨n, o, h1, h2, h3, _, L, rfl, ⟨rfl, hp, N⟩, hq⟩ := met p e ha hc hk s m _ below hf ((Spec.applies_iff_loose hf).mp happ).1 ⟨rfl, State.Warmed39.refl s, rfl⟩ trivial
  refine ⟨n, _, h1, h2, h3, hpost _ _ _ _ _ _ ⟨Cond.after_iff.mpr rfl, Cond.after_iff.mpr (eq_i res_at (Term.int_eval (1)) rfl), trivial⟩ ⟨hq.1, hq.2.1, (hq.2.2.sift fun y hy => Or.inr (N y hy)).mono (by decide) (by decide)⟩⟩
theorem main_1_1 : Claimed_1_1 := comes_1 fun _ _ _ _ _ _ h hF => ⟨h.1, hF⟩
theorem main_1_2 : Claimed_1_2 := comes_1 fun _ _ _ _ _ _ h hF => ⟨h.2.1, hF⟩
end Jvm.Pilot.@@N@@
namespace Jvm.Pilot.@@N@@
open Jvm Jvm.ClassFile Sem Op Lib Jvm.Free Jvm.Stand Jvm.Pilot.@@N@@.Jvm.D
/-! MADE BY PROGRAM (witnessworld.py) out of the Statement's table words and the real class files: 19 classes; the members and pool entries that the words name. The judged class is class 1, her method 1. -/
namespace start1
open Jvm.ClassFile
def u (s : String) : CpInfo := .utf8 (stringToUtf16 s)
/-- a pool by its gaps: so many unusable entries, then the entry; so many at the end -/
def gap : Nat → List CpInfo → List CpInfo
  | 0, r => r
  | n + 1, r => .unusable :: gap n r
def poolList (es : List (Nat × CpInfo)) (last : Nat) : List CpInfo := es.foldr (fun e r => gap e.1 (e.2 :: r)) (gap last [])
def pool (es : List (Nat × CpInfo)) (last : Nat) : Array CpInfo := ⟨poolList es last⟩
def fileOf (pool : Array CpInfo) (this : Nat) (attrs : Array Attribute := #[]) (ms : Array MethodInfo := #[]) (fl : Nat := 33) (sup : Nat := 0) (ifs : Array Nat := #[]) (fds : Array FieldInfo := #[]) : ClassFile where
  minorVersion := 0
  majorVersion := 65
  constantPool := pool
  accessFlags := fl
  thisClass := this
  superClass := sup
  interfaces := ifs
  fields := fds
  methods := ms
  attributes := attrs
def plain (name : String) (sup : Option ClassId) : Class where
  name := name
  kind := .ordinary
  loader := none
  accessFlags := 33
  super := sup
  interfaces := #[]
  cf := none
  fields := #[]
  methods := #[]
  instanceTypes := #[]
  staticTypes := #[]
  resolved := #[]
  callSites := []
  init := .initialized
  statics := none
  mirror := none

def pool0 : Array CpInfo := pool [(5, u "<init>"), (0, u "()V"), (1, .class_ 10), (1, u "java/lang/Object")] 113

def k0c0 : Code := { maxStack := 0, maxLocals := 1, code := object_method_1_code, exceptionTable := #[], attributes := #[] }
def k0m0 : Method := { name := "<init>", desc := "()V", sig := { parameters := [], returnType := none }, accessFlags := 1, code := some k0c0 }
/-- java/lang/Object -/
def k0 : Class := { plain "java/lang/Object" none with
  accessFlags := 33
  interfaces := #[]
  cf := some (fileOf pool0 8 #[] #[{ accessFlags := 1, nameIndex := 5, descriptorIndex := 6, attributes := #[] }] 33 0 #[] #[])
  fields := #[]
  methods := #[k0m0]
  instanceTypes := #[]
  staticTypes := #[]
  resolved := Array.replicate 124 none
  statics := none }

def pool1 : Array CpInfo := pool [(2, .class_ 4), (1, u "java/lang/Object"), (0, u "<init>"), (0, u "()V"), (0, .fieldref 8 9), (0, .class_ 10), (0, .nameAndType 11 12), (0, u "com/example/cardinality/cardinality/Restriction$Kind"), (0, u "AT_MOST"), (0, u "Lcom/example/cardinality/cardinality/Restriction$Kind;"), (0, .fieldref 8 14), (0, .nameAndType 15 12), (0, u "AT_LEAST"), (0, .class_ 17), (0, u "java/lang/Long"), (0, .long 9223372036854775807), (1, .integer 2147483647), (0, .methodref 22 23), (0, .class_ 24), (0, .nameAndType 25 26), (0, u "java/lang/Math"), (0, u "max"), (0, u "(II)I"), (0, .class_ 28), (0, u "com/example/cardinality/cardinality/Restriction"), (0, .methodref 27 30), (0, .nameAndType 5 31), (0, u "(Lcom/example/cardinality/cardinality/Restriction$Kind;JIIZ)V"), (0, .methodref 27 33), (0, .nameAndType 34 35), (0, u "equals"), (0, u "(Ljava/lang/Object;)Z"), (0, .methodref 16 37), (0, .nameAndType 38 39), (0, u "valueOf"), (0, u "(J)Ljava/lang/Long;"), (0, .class_ 41), (0, u "com/example/cardinality/cardinality/RestrictionEqualsPinLaw"), (2, u "law"), (0, u "(JJIIIJ)Z")] 5

def k1m0 : Method := { name := "<init>", desc := "()V", sig := { parameters := [], returnType := none }, accessFlags := 1, code := none }
def k1c1 : Code := { maxStack := 8, maxLocals := 26, code := code, exceptionTable := #[], attributes := #[] }
def k1m1 : Method := { name := "law", desc := "(JJIIIJ)Z", sig := { parameters := [.long, .long, .int, .int, .int, .long], returnType := some .boolean }, accessFlags := 9, code := some k1c1 }
/-- com/example/cardinality/cardinality/RestrictionEqualsPinLaw -/
def k1 : Class := { plain "com/example/cardinality/cardinality/RestrictionEqualsPinLaw" (some 0) with
  accessFlags := 49
  interfaces := #[]
  cf := some (fileOf pool1 40 #[] #[{ accessFlags := 1, nameIndex := 5, descriptorIndex := 6, attributes := #[] }, { accessFlags := 9, nameIndex := 44, descriptorIndex := 45, attributes := #[] }] 49 2 #[] #[])
  fields := #[]
  methods := #[k1m0, k1m1]
  instanceTypes := #[]
  staticTypes := #[]
  resolved := Array.replicate 51 none
  statics := none }

def pool2 : Array CpInfo := pool [(1, .class_ 2), (0, u "java/lang/constant/Constable"), (0, .class_ 4), (0, u "java/lang/Object")] 6

/-- java/lang/constant/Constable -/
def k2 : Class := { plain "java/lang/constant/Constable" (some 0) with
  accessFlags := 1537
  interfaces := #[]
  cf := some (fileOf pool2 1 #[] #[] 1537 3 #[] #[])
  fields := #[]
  methods := #[]
  instanceTypes := #[]
  staticTypes := #[]
  resolved := Array.replicate 11 none
  statics := none }

def pool3 : Array CpInfo := pool [(1, .class_ 2), (0, u "java/lang/Comparable"), (0, .class_ 4), (0, u "java/lang/Object")] 7

/-- java/lang/Comparable -/
def k3 : Class := { plain "java/lang/Comparable" (some 0) with
  accessFlags := 1537
  interfaces := #[]
  cf := some (fileOf pool3 1 #[] #[] 1537 3 #[] #[])
  fields := #[]
  methods := #[]
  instanceTypes := #[]
  staticTypes := #[]
  resolved := Array.replicate 12 none
  statics := none }

def pool4 : Array CpInfo := pool [(1, .class_ 2), (0, u "java/io/Serializable"), (0, .class_ 4), (0, u "java/lang/Object")] 2

/-- java/io/Serializable -/
def k4 : Class := { plain "java/io/Serializable" (some 0) with
  accessFlags := 1537
  interfaces := #[]
  cf := some (fileOf pool4 1 #[] #[] 1537 3 #[] #[])
  fields := #[]
  methods := #[]
  instanceTypes := #[]
  staticTypes := #[]
  resolved := Array.replicate 7 none
  statics := none }

def pool5 : Array CpInfo := pool [(2, .class_ 4), (1, u "java/lang/Enum"), (0, u "name"), (0, u "Ljava/lang/String;"), (2, u "ordinal"), (0, u "I"), (1, .class_ 14), (1, u "java/lang/Object"), (4, u "hash"), (86, .class_ 108), (1, u "java/lang/Enum$EnumDesc"), (2, .class_ 112), (0, u "java/lang/constant/Constable"), (0, .class_ 114), (0, u "java/lang/Comparable"), (0, .class_ 116), (0, u "java/io/Serializable")] 87

/-- java/lang/Enum -/
def k5 : Class := { plain "java/lang/Enum" (some 0) with
  accessFlags := 1057
  interfaces := #[2, 3, 4]
  cf := some (fileOf pool5 2 #[.nestMembers #[106]] #[] 1057 12 #[111, 113, 115] #[{ accessFlags := 18, nameIndex := 5, descriptorIndex := 6, attributes := #[] }, { accessFlags := 18, nameIndex := 9, descriptorIndex := 10, attributes := #[] }, { accessFlags := 2, nameIndex := 19, descriptorIndex := 10, attributes := #[] }])
  fields := #[{ name := "name", type := (.object "java/lang/String"), accessFlags := 18, slot := 0, constantValue := 0 }, { name := "ordinal", type := .int, accessFlags := 18, slot := 1, constantValue := 0 }, { name := "hash", type := .int, accessFlags := 2, slot := 2, constantValue := 0 }]
  methods := #[]
  instanceTypes := #[(.object "java/lang/String"), .int, .int]
  staticTypes := #[]
  resolved := Array.replicate 204 none
  statics := none }

def pool6 : Array CpInfo := pool [(1, .class_ 2), (0, u "com/example/cardinality/cardinality/Restriction$Kind"), (2, u "AT_LEAST"), (0, u "Lcom/example/cardinality/cardinality/Restriction$Kind;"), (2, u "AT_MOST"), (2, u "$VALUES"), (0, u "[Lcom/example/cardinality/cardinality/Restriction$Kind;"), (6, .class_ 22), (1, u "java/lang/Enum"), (25, .class_ 49), (0, u "com/example/cardinality/cardinality/Restriction")] 2

/-- com/example/cardinality/cardinality/Restriction$Kind -/
def k6 : Class := { plain "com/example/cardinality/cardinality/Restriction$Kind" (some 5) with
  accessFlags := 16432
  interfaces := #[]
  cf := some (fileOf pool6 1 #[.nestHost 48] #[] 16432 20 #[] #[{ accessFlags := 16409, nameIndex := 5, descriptorIndex := 6, attributes := #[] }, { accessFlags := 16409, nameIndex := 9, descriptorIndex := 6, attributes := #[] }, { accessFlags := 4122, nameIndex := 12, descriptorIndex := 13, attributes := #[] }])
  fields := #[{ name := "AT_LEAST", type := (.object "com/example/cardinality/cardinality/Restriction$Kind"), accessFlags := 16409, slot := 0, constantValue := 0 }, { name := "AT_MOST", type := (.object "com/example/cardinality/cardinality/Restriction$Kind"), accessFlags := 16409, slot := 1, constantValue := 0 }, { name := "$VALUES", type := (.array (.object "com/example/cardinality/cardinality/Restriction$Kind")), accessFlags := 4122, slot := 2, constantValue := 0 }]
  methods := #[]
  instanceTypes := #[(.object "java/lang/String"), .int, .int]
  staticTypes := #[(.object "com/example/cardinality/cardinality/Restriction$Kind"), (.object "com/example/cardinality/cardinality/Restriction$Kind"), (.array (.object "com/example/cardinality/cardinality/Restriction$Kind"))]
  resolved := Array.replicate 52 none
  statics := some 0 }

def pool7 : Array CpInfo := pool [(1, .class_ 2), (0, u "java/lang/Math"), (1, .class_ 6), (1, u "java/lang/Object"), (0, u "<init>"), (0, u "()V"), (89, .class_ 100), (1, u "java/lang/Math$RandomNumberGeneratorHolder"), (71, u "negativeZeroFloatBits"), (0, u "J"), (2, u "negativeZeroDoubleBits"), (21, u "max"), (46, u "$assertionsDisabled"), (0, u "Z"), (88, u "(II)I"), (2, u "twoToTheDoubleScaleDown"), (0, u "D"), (4, u "twoToTheDoubleScaleUp"), (9, u "E"), (3, u "PI"), (2, u "TAU"), (2, u "DEGREES_TO_RADIANS"), (0, u "RADIANS_TO_DEGREES")] 94

def k7m0 : Method := { name := "<init>", desc := "()V", sig := { parameters := [], returnType := none }, accessFlags := 2, code := none }
def k7c1 : Code := { maxStack := 2, maxLocals := 2, code := jdk_29_method_65_code, exceptionTable := #[], attributes := #[] }
def k7m1 : Method := { name := "max", desc := "(II)I", sig := { parameters := [.int, .int], returnType := some .int }, accessFlags := 9, code := some k7c1 }
/-- java/lang/Math -/
def k7 : Class := { plain "java/lang/Math" (some 0) with
  accessFlags := 49
  interfaces := #[]
  cf := some (fileOf pool7 1 #[.nestMembers #[98]] #[{ accessFlags := 2, nameIndex := 7, descriptorIndex := 8, attributes := #[] }, { accessFlags := 9, nameIndex := 198, descriptorIndex := 335, attributes := #[] }] 49 4 #[] #[{ accessFlags := 25, nameIndex := 354, descriptorIndex := 339, attributes := #[] }, { accessFlags := 25, nameIndex := 358, descriptorIndex := 339, attributes := #[] }, { accessFlags := 25, nameIndex := 361, descriptorIndex := 339, attributes := #[] }, { accessFlags := 26, nameIndex := 364, descriptorIndex := 339, attributes := #[] }, { accessFlags := 26, nameIndex := 365, descriptorIndex := 339, attributes := #[] }, { accessFlags := 26, nameIndex := 172, descriptorIndex := 173, attributes := #[] }, { accessFlags := 26, nameIndex := 176, descriptorIndex := 173, attributes := #[] }, { accessFlags := 8, nameIndex := 344, descriptorIndex := 339, attributes := #[] }, { accessFlags := 8, nameIndex := 338, descriptorIndex := 339, attributes := #[] }, { accessFlags := 4120, nameIndex := 245, descriptorIndex := 246, attributes := #[] }])
  fields := #[{ name := "E", type := .double, accessFlags := 25, slot := 0, constantValue := 0 }, { name := "PI", type := .double, accessFlags := 25, slot := 1, constantValue := 0 }, { name := "TAU", type := .double, accessFlags := 25, slot := 2, constantValue := 0 }, { name := "DEGREES_TO_RADIANS", type := .double, accessFlags := 26, slot := 3, constantValue := 0 }, { name := "RADIANS_TO_DEGREES", type := .double, accessFlags := 26, slot := 4, constantValue := 0 }, { name := "negativeZeroFloatBits", type := .long, accessFlags := 26, slot := 5, constantValue := 0 }, { name := "negativeZeroDoubleBits", type := .long, accessFlags := 26, slot := 6, constantValue := 0 }, { name := "twoToTheDoubleScaleUp", type := .double, accessFlags := 8, slot := 7, constantValue := 0 }, { name := "twoToTheDoubleScaleDown", type := .double, accessFlags := 8, slot := 8, constantValue := 0 }, { name := "$assertionsDisabled", type := .boolean, accessFlags := 4120, slot := 9, constantValue := 0 }]
  methods := #[k7m0, k7m1]
  instanceTypes := #[]
  staticTypes := #[.double, .double, .double, .double, .double, .long, .long, .double, .double, .boolean]
  resolved := Array.replicate 460 none
  statics := none }

def pool8 : Array CpInfo := pool [(2, .class_ 4), (1, u "com/example/cardinality/cardinality/Restriction"), (0, u "<init>"), (0, u "(Lcom/example/cardinality/cardinality/Restriction$Kind;JIIZ)V"), (0, .methodref 8 9), (0, .class_ 10), (0, .nameAndType 5 11), (0, u "java/lang/Object"), (0, u "()V"), (19, .fieldref 2 32), (0, .nameAndType 33 34), (0, u "kind"), (0, u "Lcom/example/cardinality/cardinality/Restriction$Kind;"), (0, .fieldref 2 36), (0, .nameAndType 37 38), (0, u "number"), (0, u "J"), (0, .fieldref 2 40), (0, .nameAndType 41 42), (0, u "role"), (0, u "I"), (0, .fieldref 2 44), (0, .nameAndType 45 42), (0, u "filler"), (0, .fieldref 2 47), (0, .nameAndType 48 49), (0, u "outside"), (0, u "Z"), (7, .class_ 59), (1, u "com/example/cardinality/cardinality/Restriction$Kind"), (26, u "THING"), (13, u "equals"), (0, u "(Ljava/lang/Object;)Z")] 25

def k8c0 : Code := { maxStack := 8, maxLocals := 7, code := prog_13_method_2_code, exceptionTable := #[], attributes := #[] }
def k8m0 : Method := { name := "<init>", desc := "(Lcom/example/cardinality/cardinality/Restriction$Kind;JIIZ)V", sig := { parameters := [(.object "com/example/cardinality/cardinality/Restriction$Kind"), .long, .int, .int, .boolean], returnType := none }, accessFlags := 0, code := some k8c0 }
def k8c1 : Code := { maxStack := 4, maxLocals := 3, code := prog_13_method_10_code, exceptionTable := #[], attributes := #[] }
def k8m1 : Method := { name := "equals", desc := "(Ljava/lang/Object;)Z", sig := { parameters := [(.object "java/lang/Object")], returnType := some .boolean }, accessFlags := 1, code := some k8c1 }
/-- com/example/cardinality/cardinality/Restriction -/
def k8 : Class := { plain "com/example/cardinality/cardinality/Restriction" (some 0) with
  accessFlags := 48
  interfaces := #[]
  cf := some (fileOf pool8 2 #[.nestMembers #[57]] #[{ accessFlags := 0, nameIndex := 5, descriptorIndex := 6, attributes := #[] }, { accessFlags := 1, nameIndex := 100, descriptorIndex := 101, attributes := #[] }] 48 8 #[] #[{ accessFlags := 24, nameIndex := 86, descriptorIndex := 42, attributes := #[] }, { accessFlags := 18, nameIndex := 33, descriptorIndex := 34, attributes := #[] }, { accessFlags := 18, nameIndex := 37, descriptorIndex := 38, attributes := #[] }, { accessFlags := 18, nameIndex := 41, descriptorIndex := 42, attributes := #[] }, { accessFlags := 18, nameIndex := 45, descriptorIndex := 42, attributes := #[] }, { accessFlags := 18, nameIndex := 48, descriptorIndex := 49, attributes := #[] }])
  fields := #[{ name := "THING", type := .int, accessFlags := 24, slot := 0, constantValue := 0 }, { name := "kind", type := (.object "com/example/cardinality/cardinality/Restriction$Kind"), accessFlags := 18, slot := 0, constantValue := 0 }, { name := "number", type := .long, accessFlags := 18, slot := 1, constantValue := 0 }, { name := "role", type := .int, accessFlags := 18, slot := 2, constantValue := 0 }, { name := "filler", type := .int, accessFlags := 18, slot := 3, constantValue := 0 }, { name := "outside", type := .boolean, accessFlags := 18, slot := 4, constantValue := 0 }]
  methods := #[k8m0, k8m1]
  instanceTypes := #[(.object "com/example/cardinality/cardinality/Restriction$Kind"), .long, .int, .int, .boolean]
  staticTypes := #[.int]
  resolved := Array.replicate 127 none
  statics := none }

def pool9 : Array CpInfo := pool [(1, .methodref 2 3), (0, .class_ 4), (0, .nameAndType 5 6), (0, u "java/lang/Object"), (0, u "<init>"), (0, u "()V"), (1, .class_ 10), (1, u "java/lang/Number"), (2, .class_ 14), (0, u "java/io/Serializable"), (0, u "serialVersionUID"), (0, u "J")] 20

def k9c0 : Code := { maxStack := 1, maxLocals := 1, code := jdk_18_method_1_code, exceptionTable := #[], attributes := #[] }
def k9m0 : Method := { name := "<init>", desc := "()V", sig := { parameters := [], returnType := none }, accessFlags := 1, code := some k9c0 }
/-- java/lang/Number -/
def k9 : Class := { plain "java/lang/Number" (some 0) with
  accessFlags := 1057
  interfaces := #[4]
  cf := some (fileOf pool9 8 #[] #[{ accessFlags := 1, nameIndex := 5, descriptorIndex := 6, attributes := #[] }] 1057 2 #[13] #[{ accessFlags := 26, nameIndex := 15, descriptorIndex := 16, attributes := #[] }])
  fields := #[{ name := "serialVersionUID", type := .long, accessFlags := 26, slot := 0, constantValue := 0 }]
  methods := #[k9m0]
  instanceTypes := #[]
  staticTypes := #[.long]
  resolved := Array.replicate 37 none
  statics := none }

def pool10 : Array CpInfo := pool [(1, .class_ 2), (0, u "java/lang/constant/ConstantDesc"), (0, .class_ 4), (0, u "java/lang/Object")] 32

/-- java/lang/constant/ConstantDesc -/
def k10 : Class := { plain "java/lang/constant/ConstantDesc" (some 0) with
  accessFlags := 1537
  interfaces := #[]
  cf := some (fileOf pool10 1 #[] #[] 1537 3 #[] #[])
  fields := #[]
  methods := #[]
  instanceTypes := #[]
  staticTypes := #[]
  resolved := Array.replicate 37 none
  statics := none }

def pool11 : Array CpInfo := pool [(1, .class_ 2), (0, u "java/lang/Long"), (55, .nameAndType 59 60), (0, u "<init>"), (0, u "()V"), (24, u "valueOf"), (143, u "(J)Ljava/lang/Long;"), (0, .long 18446744073709551488), (1, .long 127), (1, .fieldref 235 236), (0, .class_ 237), (0, .nameAndType 238 239), (0, u "java/lang/Long$LongCache"), (0, u "cache"), (0, u "[Ljava/lang/Long;"), (0, .methodref 1 241), (0, .nameAndType 59 242), (0, u "(J)V"), (27, .methodref 271 58), (0, .class_ 272), (0, u "java/lang/Number"), (0, .fieldref 1 274), (0, .nameAndType 275 276), (0, u "value"), (0, u "J"), (84, u "TYPE"), (0, u "Ljava/lang/Class;"), (0, .class_ 364), (0, u "java/lang/Comparable"), (0, .class_ 366), (0, u "java/lang/constant/Constable"), (0, .class_ 368), (0, u "java/lang/constant/ConstantDesc"), (0, u "MIN_VALUE"), (1, u "MAX_VALUE"), (4, u "SIZE"), (0, u "I"), (1, u "BYTES"), (1, u "serialVersionUID")] 142

def k11c0 : Code := { maxStack := 4, maxLocals := 3, code := jdk_35_method_24_code, exceptionTable := #[], attributes := #[] }
def k11m0 : Method := { name := "valueOf", desc := "(J)Ljava/lang/Long;", sig := { parameters := [.long], returnType := some (.object "java/lang/Long") }, accessFlags := 9, code := some k11c0 }
def k11c1 : Code := { maxStack := 3, maxLocals := 3, code := jdk_35_method_26_code, exceptionTable := #[], attributes := #[] }
def k11m1 : Method := { name := "<init>", desc := "(J)V", sig := { parameters := [.long], returnType := none }, accessFlags := 1, code := some k11c1 }
/-- java/lang/Long -/
def k11 : Class := { plain "java/lang/Long" (some 9) with
  accessFlags := 49
  interfaces := #[3, 2, 10]
  cf := some (fileOf pool11 1 #[.nestMembers #[235]] #[{ accessFlags := 9, nameIndex := 85, descriptorIndex := 229, attributes := #[] }, { accessFlags := 1, nameIndex := 59, descriptorIndex := 242, attributes := #[] }] 49 271 #[363, 365, 367] #[{ accessFlags := 25, nameIndex := 369, descriptorIndex := 276, attributes := #[] }, { accessFlags := 25, nameIndex := 371, descriptorIndex := 276, attributes := #[] }, { accessFlags := 25, nameIndex := 361, descriptorIndex := 362, attributes := #[] }, { accessFlags := 18, nameIndex := 275, descriptorIndex := 276, attributes := #[] }, { accessFlags := 25, nameIndex := 376, descriptorIndex := 377, attributes := #[] }, { accessFlags := 25, nameIndex := 379, descriptorIndex := 377, attributes := #[] }, { accessFlags := 26, nameIndex := 381, descriptorIndex := 276, attributes := #[] }])
  fields := #[{ name := "MIN_VALUE", type := .long, accessFlags := 25, slot := 0, constantValue := 0 }, { name := "MAX_VALUE", type := .long, accessFlags := 25, slot := 1, constantValue := 0 }, { name := "TYPE", type := (.object "java/lang/Class"), accessFlags := 25, slot := 2, constantValue := 0 }, { name := "value", type := .long, accessFlags := 18, slot := 0, constantValue := 0 }, { name := "SIZE", type := .int, accessFlags := 25, slot := 3, constantValue := 0 }, { name := "BYTES", type := .int, accessFlags := 25, slot := 4, constantValue := 0 }, { name := "serialVersionUID", type := .long, accessFlags := 26, slot := 5, constantValue := 0 }]
  methods := #[k11m0, k11m1]
  instanceTypes := #[.long]
  staticTypes := #[.long, .long, (.object "java/lang/Class"), .int, .int, .long]
  resolved := Array.replicate 524 none
  statics := none }

def pool12 : Array CpInfo := pool [(2, .class_ 4), (1, u "java/lang/Object"), (0, u "<init>"), (0, u "()V"), (0, .class_ 8), (0, u "java/lang/Long"), (7, .class_ 18), (1, u "java/lang/Long$LongCache"), (0, u "$assertionsDisabled"), (0, u "Z"), (8, u "archivedCache"), (0, u "[Ljava/lang/Long;"), (7, u "cache")] 24

def k12m0 : Method := { name := "<init>", desc := "()V", sig := { parameters := [], returnType := none }, accessFlags := 2, code := none }
/-- java/lang/Long$LongCache -/
def k12 : Class := { plain "java/lang/Long$LongCache" (some 0) with
  accessFlags := 48
  interfaces := #[]
  cf := some (fileOf pool12 16 #[.nestHost 7] #[{ accessFlags := 2, nameIndex := 5, descriptorIndex := 6, attributes := #[] }] 48 2 #[] #[{ accessFlags := 24, nameIndex := 38, descriptorIndex := 30, attributes := #[] }, { accessFlags := 8, nameIndex := 29, descriptorIndex := 30, attributes := #[] }, { accessFlags := 4120, nameIndex := 19, descriptorIndex := 20, attributes := #[] }])
  fields := #[{ name := "cache", type := (.array (.object "java/lang/Long")), accessFlags := 24, slot := 0, constantValue := 0 }, { name := "archivedCache", type := (.array (.object "java/lang/Long")), accessFlags := 8, slot := 1, constantValue := 0 }, { name := "$assertionsDisabled", type := .boolean, accessFlags := 4120, slot := 2, constantValue := 0 }]
  methods := #[k12m0]
  instanceTypes := #[]
  staticTypes := #[(.array (.object "java/lang/Long")), (.array (.object "java/lang/Long")), .boolean]
  resolved := Array.replicate 63 none
  statics := some 1 }

def pool13 : Array CpInfo := pool [(1, u "java/lang/Cloneable"), (0, .class_ 1), (0, u "java/lang/Object"), (0, .class_ 3)] 3

/-- java/lang/Cloneable -/
def k13 : Class := { plain "java/lang/Cloneable" (some 0) with
  accessFlags := 1537
  interfaces := #[]
  cf := some (fileOf pool13 2 #[] #[] 1537 4 #[] #[])
  fields := #[]
  methods := #[]
  instanceTypes := #[]
  staticTypes := #[]
  resolved := Array.replicate 8 none
  statics := none }

/-- the primitive byte -/
def k14 : Class := { plain "byte" none with kind := .primitive 'B', accessFlags := 0x411 }
/-- [B -/
def k15 : Class := { plain "[B" (some 0) with kind := .array 14 .byte, interfaces := #[13, 4], accessFlags := 1041 }

/-- the primitive int -/
def k16 : Class := { plain "int" none with kind := .primitive 'I', accessFlags := 0x411 }
/-- [I -/
def k17 : Class := { plain "[I" (some 0) with kind := .array 16 .int, interfaces := #[13, 4], accessFlags := 1041 }

/-- [Ljava/lang/Long; -/
def k18 : Class := { plain "[Ljava/lang/Long;" (some 0) with kind := .array 11 (.object "java/lang/Long"), interfaces := #[13, 4], accessFlags := 1041 }

def heap : Heap := #[{ cls := 6, slots := #[.ref 259, .ref 260, .null], vm := .statics 6 },
  { cls := 12, slots := #[.ref 2, .null, .int 0], vm := .statics 12 },
  { cls := 18, slots := #[.ref 3, .ref 4, .ref 5, .ref 6, .ref 7, .ref 8, .ref 9, .ref 10, .ref 11, .ref 12, .ref 13, .ref 14, .ref 15, .ref 16, .ref 17, .ref 18, .ref 19, .ref 20, .ref 21, .ref 22, .ref 23, .ref 24, .ref 25, .ref 26, .ref 27, .ref 28, .ref 29, .ref 30, .ref 31, .ref 32, .ref 33, .ref 34, .ref 35, .ref 36, .ref 37, .ref 38, .ref 39, .ref 40, .ref 41, .ref 42, .ref 43, .ref 44, .ref 45, .ref 46, .ref 47, .ref 48, .ref 49, .ref 50, .ref 51, .ref 52, .ref 53, .ref 54, .ref 55, .ref 56, .ref 57, .ref 58, .ref 59, .ref 60, .ref 61, .ref 62, .ref 63, .ref 64, .ref 65, .ref 66, .ref 67, .ref 68, .ref 69, .ref 70, .ref 71, .ref 72, .ref 73, .ref 74, .ref 75, .ref 76, .ref 77, .ref 78, .ref 79, .ref 80, .ref 81, .ref 82, .ref 83, .ref 84, .ref 85, .ref 86, .ref 87, .ref 88, .ref 89, .ref 90, .ref 91, .ref 92, .ref 93, .ref 94, .ref 95, .ref 96, .ref 97, .ref 98, .ref 99, .ref 100, .ref 101, .ref 102, .ref 103, .ref 104, .ref 105, .ref 106, .ref 107, .ref 108, .ref 109, .ref 110, .ref 111, .ref 112, .ref 113, .ref 114, .ref 115, .ref 116, .ref 117, .ref 118, .ref 119, .ref 120, .ref 121, .ref 122, .ref 123, .ref 124, .ref 125, .ref 126, .ref 127, .ref 128, .ref 129, .ref 130, .ref 131, .ref 132, .ref 133, .ref 134, .ref 135, .ref 136, .ref 137, .ref 138, .ref 139, .ref 140, .ref 141, .ref 142, .ref 143, .ref 144, .ref 145, .ref 146, .ref 147, .ref 148, .ref 149, .ref 150, .ref 151, .ref 152, .ref 153, .ref 154, .ref 155, .ref 156, .ref 157, .ref 158, .ref 159, .ref 160, .ref 161, .ref 162, .ref 163, .ref 164, .ref 165, .ref 166, .ref 167, .ref 168, .ref 169, .ref 170, .ref 171, .ref 172, .ref 173, .ref 174, .ref 175, .ref 176, .ref 177, .ref 178, .ref 179, .ref 180, .ref 181, .ref 182, .ref 183, .ref 184, .ref 185, .ref 186, .ref 187, .ref 188, .ref 189, .ref 190, .ref 191, .ref 192, .ref 193, .ref 194, .ref 195, .ref 196, .ref 197, .ref 198, .ref 199, .ref 200, .ref 201, .ref 202, .ref 203, .ref 204, .ref 205, .ref 206, .ref 207, .ref 208, .ref 209, .ref 210, .ref 211, .ref 212, .ref 213, .ref 214, .ref 215, .ref 216, .ref 217, .ref 218, .ref 219, .ref 220, .ref 221, .ref 222, .ref 223, .ref 224, .ref 225, .ref 226, .ref 227, .ref 228, .ref 229, .ref 230, .ref 231, .ref 232, .ref 233, .ref 234, .ref 235, .ref 236, .ref 237, .ref 238, .ref 239, .ref 240, .ref 241, .ref 242, .ref 243, .ref 244, .ref 245, .ref 246, .ref 247, .ref 248, .ref 249, .ref 250, .ref 251, .ref 252, .ref 253, .ref 254, .ref 255, .ref 256, .ref 257, .ref 258], vm := .none },
  { cls := 11, slots := #[.long (-128)], vm := .none },
  { cls := 11, slots := #[.long (-127)], vm := .none },
  { cls := 11, slots := #[.long (-126)], vm := .none },
  { cls := 11, slots := #[.long (-125)], vm := .none },
  { cls := 11, slots := #[.long (-124)], vm := .none },
  { cls := 11, slots := #[.long (-123)], vm := .none },
  { cls := 11, slots := #[.long (-122)], vm := .none },
  { cls := 11, slots := #[.long (-121)], vm := .none },
  { cls := 11, slots := #[.long (-120)], vm := .none },
  { cls := 11, slots := #[.long (-119)], vm := .none },
  { cls := 11, slots := #[.long (-118)], vm := .none },
  { cls := 11, slots := #[.long (-117)], vm := .none },
  { cls := 11, slots := #[.long (-116)], vm := .none },
  { cls := 11, slots := #[.long (-115)], vm := .none },
  { cls := 11, slots := #[.long (-114)], vm := .none },
  { cls := 11, slots := #[.long (-113)], vm := .none },
  { cls := 11, slots := #[.long (-112)], vm := .none },
  { cls := 11, slots := #[.long (-111)], vm := .none },
  { cls := 11, slots := #[.long (-110)], vm := .none },
  { cls := 11, slots := #[.long (-109)], vm := .none },
  { cls := 11, slots := #[.long (-108)], vm := .none },
  { cls := 11, slots := #[.long (-107)], vm := .none },
  { cls := 11, slots := #[.long (-106)], vm := .none },
  { cls := 11, slots := #[.long (-105)], vm := .none },
  { cls := 11, slots := #[.long (-104)], vm := .none },
  { cls := 11, slots := #[.long (-103)], vm := .none },
  { cls := 11, slots := #[.long (-102)], vm := .none },
  { cls := 11, slots := #[.long (-101)], vm := .none },
  { cls := 11, slots := #[.long (-100)], vm := .none },
  { cls := 11, slots := #[.long (-99)], vm := .none },
  { cls := 11, slots := #[.long (-98)], vm := .none },
  { cls := 11, slots := #[.long (-97)], vm := .none },
  { cls := 11, slots := #[.long (-96)], vm := .none },
  { cls := 11, slots := #[.long (-95)], vm := .none },
  { cls := 11, slots := #[.long (-94)], vm := .none },
  { cls := 11, slots := #[.long (-93)], vm := .none },
  { cls := 11, slots := #[.long (-92)], vm := .none },
  { cls := 11, slots := #[.long (-91)], vm := .none },
  { cls := 11, slots := #[.long (-90)], vm := .none },
  { cls := 11, slots := #[.long (-89)], vm := .none },
  { cls := 11, slots := #[.long (-88)], vm := .none },
  { cls := 11, slots := #[.long (-87)], vm := .none },
  { cls := 11, slots := #[.long (-86)], vm := .none },
  { cls := 11, slots := #[.long (-85)], vm := .none },
  { cls := 11, slots := #[.long (-84)], vm := .none },
  { cls := 11, slots := #[.long (-83)], vm := .none },
  { cls := 11, slots := #[.long (-82)], vm := .none },
  { cls := 11, slots := #[.long (-81)], vm := .none },
  { cls := 11, slots := #[.long (-80)], vm := .none },
  { cls := 11, slots := #[.long (-79)], vm := .none },
  { cls := 11, slots := #[.long (-78)], vm := .none },
  { cls := 11, slots := #[.long (-77)], vm := .none },
  { cls := 11, slots := #[.long (-76)], vm := .none },
  { cls := 11, slots := #[.long (-75)], vm := .none },
  { cls := 11, slots := #[.long (-74)], vm := .none },
  { cls := 11, slots := #[.long (-73)], vm := .none },
  { cls := 11, slots := #[.long (-72)], vm := .none },
  { cls := 11, slots := #[.long (-71)], vm := .none },
  { cls := 11, slots := #[.long (-70)], vm := .none },
  { cls := 11, slots := #[.long (-69)], vm := .none },
  { cls := 11, slots := #[.long (-68)], vm := .none },
  { cls := 11, slots := #[.long (-67)], vm := .none },
  { cls := 11, slots := #[.long (-66)], vm := .none },
  { cls := 11, slots := #[.long (-65)], vm := .none },
  { cls := 11, slots := #[.long (-64)], vm := .none },
  { cls := 11, slots := #[.long (-63)], vm := .none },
  { cls := 11, slots := #[.long (-62)], vm := .none },
  { cls := 11, slots := #[.long (-61)], vm := .none },
  { cls := 11, slots := #[.long (-60)], vm := .none },
  { cls := 11, slots := #[.long (-59)], vm := .none },
  { cls := 11, slots := #[.long (-58)], vm := .none },
  { cls := 11, slots := #[.long (-57)], vm := .none },
  { cls := 11, slots := #[.long (-56)], vm := .none },
  { cls := 11, slots := #[.long (-55)], vm := .none },
  { cls := 11, slots := #[.long (-54)], vm := .none },
  { cls := 11, slots := #[.long (-53)], vm := .none },
  { cls := 11, slots := #[.long (-52)], vm := .none },
  { cls := 11, slots := #[.long (-51)], vm := .none },
  { cls := 11, slots := #[.long (-50)], vm := .none },
  { cls := 11, slots := #[.long (-49)], vm := .none },
  { cls := 11, slots := #[.long (-48)], vm := .none },
  { cls := 11, slots := #[.long (-47)], vm := .none },
  { cls := 11, slots := #[.long (-46)], vm := .none },
  { cls := 11, slots := #[.long (-45)], vm := .none },
  { cls := 11, slots := #[.long (-44)], vm := .none },
  { cls := 11, slots := #[.long (-43)], vm := .none },
  { cls := 11, slots := #[.long (-42)], vm := .none },
  { cls := 11, slots := #[.long (-41)], vm := .none },
  { cls := 11, slots := #[.long (-40)], vm := .none },
  { cls := 11, slots := #[.long (-39)], vm := .none },
  { cls := 11, slots := #[.long (-38)], vm := .none },
  { cls := 11, slots := #[.long (-37)], vm := .none },
  { cls := 11, slots := #[.long (-36)], vm := .none },
  { cls := 11, slots := #[.long (-35)], vm := .none },
  { cls := 11, slots := #[.long (-34)], vm := .none },
  { cls := 11, slots := #[.long (-33)], vm := .none },
  { cls := 11, slots := #[.long (-32)], vm := .none },
  { cls := 11, slots := #[.long (-31)], vm := .none },
  { cls := 11, slots := #[.long (-30)], vm := .none },
  { cls := 11, slots := #[.long (-29)], vm := .none },
  { cls := 11, slots := #[.long (-28)], vm := .none },
  { cls := 11, slots := #[.long (-27)], vm := .none },
  { cls := 11, slots := #[.long (-26)], vm := .none },
  { cls := 11, slots := #[.long (-25)], vm := .none },
  { cls := 11, slots := #[.long (-24)], vm := .none },
  { cls := 11, slots := #[.long (-23)], vm := .none },
  { cls := 11, slots := #[.long (-22)], vm := .none },
  { cls := 11, slots := #[.long (-21)], vm := .none },
  { cls := 11, slots := #[.long (-20)], vm := .none },
  { cls := 11, slots := #[.long (-19)], vm := .none },
  { cls := 11, slots := #[.long (-18)], vm := .none },
  { cls := 11, slots := #[.long (-17)], vm := .none },
  { cls := 11, slots := #[.long (-16)], vm := .none },
  { cls := 11, slots := #[.long (-15)], vm := .none },
  { cls := 11, slots := #[.long (-14)], vm := .none },
  { cls := 11, slots := #[.long (-13)], vm := .none },
  { cls := 11, slots := #[.long (-12)], vm := .none },
  { cls := 11, slots := #[.long (-11)], vm := .none },
  { cls := 11, slots := #[.long (-10)], vm := .none },
  { cls := 11, slots := #[.long (-9)], vm := .none },
  { cls := 11, slots := #[.long (-8)], vm := .none },
  { cls := 11, slots := #[.long (-7)], vm := .none },
  { cls := 11, slots := #[.long (-6)], vm := .none },
  { cls := 11, slots := #[.long (-5)], vm := .none },
  { cls := 11, slots := #[.long (-4)], vm := .none },
  { cls := 11, slots := #[.long (-3)], vm := .none },
  { cls := 11, slots := #[.long (-2)], vm := .none },
  { cls := 11, slots := #[.long (-1)], vm := .none },
  { cls := 11, slots := #[.long 0], vm := .none },
  { cls := 11, slots := #[.long 1], vm := .none },
  { cls := 11, slots := #[.long 2], vm := .none },
  { cls := 11, slots := #[.long 3], vm := .none },
  { cls := 11, slots := #[.long 4], vm := .none },
  { cls := 11, slots := #[.long 5], vm := .none },
  { cls := 11, slots := #[.long 6], vm := .none },
  { cls := 11, slots := #[.long 7], vm := .none },
  { cls := 11, slots := #[.long 8], vm := .none },
  { cls := 11, slots := #[.long 9], vm := .none },
  { cls := 11, slots := #[.long 10], vm := .none },
  { cls := 11, slots := #[.long 11], vm := .none },
  { cls := 11, slots := #[.long 12], vm := .none },
  { cls := 11, slots := #[.long 13], vm := .none },
  { cls := 11, slots := #[.long 14], vm := .none },
  { cls := 11, slots := #[.long 15], vm := .none },
  { cls := 11, slots := #[.long 16], vm := .none },
  { cls := 11, slots := #[.long 17], vm := .none },
  { cls := 11, slots := #[.long 18], vm := .none },
  { cls := 11, slots := #[.long 19], vm := .none },
  { cls := 11, slots := #[.long 20], vm := .none },
  { cls := 11, slots := #[.long 21], vm := .none },
  { cls := 11, slots := #[.long 22], vm := .none },
  { cls := 11, slots := #[.long 23], vm := .none },
  { cls := 11, slots := #[.long 24], vm := .none },
  { cls := 11, slots := #[.long 25], vm := .none },
  { cls := 11, slots := #[.long 26], vm := .none },
  { cls := 11, slots := #[.long 27], vm := .none },
  { cls := 11, slots := #[.long 28], vm := .none },
  { cls := 11, slots := #[.long 29], vm := .none },
  { cls := 11, slots := #[.long 30], vm := .none },
  { cls := 11, slots := #[.long 31], vm := .none },
  { cls := 11, slots := #[.long 32], vm := .none },
  { cls := 11, slots := #[.long 33], vm := .none },
  { cls := 11, slots := #[.long 34], vm := .none },
  { cls := 11, slots := #[.long 35], vm := .none },
  { cls := 11, slots := #[.long 36], vm := .none },
  { cls := 11, slots := #[.long 37], vm := .none },
  { cls := 11, slots := #[.long 38], vm := .none },
  { cls := 11, slots := #[.long 39], vm := .none },
  { cls := 11, slots := #[.long 40], vm := .none },
  { cls := 11, slots := #[.long 41], vm := .none },
  { cls := 11, slots := #[.long 42], vm := .none },
  { cls := 11, slots := #[.long 43], vm := .none },
  { cls := 11, slots := #[.long 44], vm := .none },
  { cls := 11, slots := #[.long 45], vm := .none },
  { cls := 11, slots := #[.long 46], vm := .none },
  { cls := 11, slots := #[.long 47], vm := .none },
  { cls := 11, slots := #[.long 48], vm := .none },
  { cls := 11, slots := #[.long 49], vm := .none },
  { cls := 11, slots := #[.long 50], vm := .none },
  { cls := 11, slots := #[.long 51], vm := .none },
  { cls := 11, slots := #[.long 52], vm := .none },
  { cls := 11, slots := #[.long 53], vm := .none },
  { cls := 11, slots := #[.long 54], vm := .none },
  { cls := 11, slots := #[.long 55], vm := .none },
  { cls := 11, slots := #[.long 56], vm := .none },
  { cls := 11, slots := #[.long 57], vm := .none },
  { cls := 11, slots := #[.long 58], vm := .none },
  { cls := 11, slots := #[.long 59], vm := .none },
  { cls := 11, slots := #[.long 60], vm := .none },
  { cls := 11, slots := #[.long 61], vm := .none },
  { cls := 11, slots := #[.long 62], vm := .none },
  { cls := 11, slots := #[.long 63], vm := .none },
  { cls := 11, slots := #[.long 64], vm := .none },
  { cls := 11, slots := #[.long 65], vm := .none },
  { cls := 11, slots := #[.long 66], vm := .none },
  { cls := 11, slots := #[.long 67], vm := .none },
  { cls := 11, slots := #[.long 68], vm := .none },
  { cls := 11, slots := #[.long 69], vm := .none },
  { cls := 11, slots := #[.long 70], vm := .none },
  { cls := 11, slots := #[.long 71], vm := .none },
  { cls := 11, slots := #[.long 72], vm := .none },
  { cls := 11, slots := #[.long 73], vm := .none },
  { cls := 11, slots := #[.long 74], vm := .none },
  { cls := 11, slots := #[.long 75], vm := .none },
  { cls := 11, slots := #[.long 76], vm := .none },
  { cls := 11, slots := #[.long 77], vm := .none },
  { cls := 11, slots := #[.long 78], vm := .none },
  { cls := 11, slots := #[.long 79], vm := .none },
  { cls := 11, slots := #[.long 80], vm := .none },
  { cls := 11, slots := #[.long 81], vm := .none },
  { cls := 11, slots := #[.long 82], vm := .none },
  { cls := 11, slots := #[.long 83], vm := .none },
  { cls := 11, slots := #[.long 84], vm := .none },
  { cls := 11, slots := #[.long 85], vm := .none },
  { cls := 11, slots := #[.long 86], vm := .none },
  { cls := 11, slots := #[.long 87], vm := .none },
  { cls := 11, slots := #[.long 88], vm := .none },
  { cls := 11, slots := #[.long 89], vm := .none },
  { cls := 11, slots := #[.long 90], vm := .none },
  { cls := 11, slots := #[.long 91], vm := .none },
  { cls := 11, slots := #[.long 92], vm := .none },
  { cls := 11, slots := #[.long 93], vm := .none },
  { cls := 11, slots := #[.long 94], vm := .none },
  { cls := 11, slots := #[.long 95], vm := .none },
  { cls := 11, slots := #[.long 96], vm := .none },
  { cls := 11, slots := #[.long 97], vm := .none },
  { cls := 11, slots := #[.long 98], vm := .none },
  { cls := 11, slots := #[.long 99], vm := .none },
  { cls := 11, slots := #[.long 100], vm := .none },
  { cls := 11, slots := #[.long 101], vm := .none },
  { cls := 11, slots := #[.long 102], vm := .none },
  { cls := 11, slots := #[.long 103], vm := .none },
  { cls := 11, slots := #[.long 104], vm := .none },
  { cls := 11, slots := #[.long 105], vm := .none },
  { cls := 11, slots := #[.long 106], vm := .none },
  { cls := 11, slots := #[.long 107], vm := .none },
  { cls := 11, slots := #[.long 108], vm := .none },
  { cls := 11, slots := #[.long 109], vm := .none },
  { cls := 11, slots := #[.long 110], vm := .none },
  { cls := 11, slots := #[.long 111], vm := .none },
  { cls := 11, slots := #[.long 112], vm := .none },
  { cls := 11, slots := #[.long 113], vm := .none },
  { cls := 11, slots := #[.long 114], vm := .none },
  { cls := 11, slots := #[.long 115], vm := .none },
  { cls := 11, slots := #[.long 116], vm := .none },
  { cls := 11, slots := #[.long 117], vm := .none },
  { cls := 11, slots := #[.long 118], vm := .none },
  { cls := 11, slots := #[.long 119], vm := .none },
  { cls := 11, slots := #[.long 120], vm := .none },
  { cls := 11, slots := #[.long 121], vm := .none },
  { cls := 11, slots := #[.long 122], vm := .none },
  { cls := 11, slots := #[.long 123], vm := .none },
  { cls := 11, slots := #[.long 124], vm := .none },
  { cls := 11, slots := #[.long 125], vm := .none },
  { cls := 11, slots := #[.long 126], vm := .none },
  { cls := 11, slots := #[.long 127], vm := .none },
  { cls := 6, slots := #[.null, .int 0, .int 0], vm := .none },
  { cls := 6, slots := #[.null, .int 1, .int 0], vm := .none }]
def classes : Array Class := #[k0, k1, k2, k3, k4, k5, k6, k7, k8, k9, k10, k11, k12, k13, k14, k15, k16, k17, k18]
def interned : List (Array UInt16 × Addr) := []
def slotsUsed : Nat := 524
def theMethod : MethodId := ⟨1, 1⟩
def args0 : Array Value := #[.long 1, .long 2, .int 3, .int 4, .int 5, .long 6]
def aboutOver (below : List Frame) : State where
  vm := { classes := classes, interned := interned.toArray }
  heap := heap
  slotsUsed := slotsUsed
  threads := #[{ frames := .invoking theMethod args0 :: below }]
def below0 : List Frame := [.native { method := ⟨0, 0⟩, args := #[] }]
def about1 : State := aboutOver below0
def p0 : Program := .bare "" "" ""
def e0 : Env := launch0.env 0 0 0
theorem w_frames : about1.frames = Frame.invoking theMethod args0 :: below0 := rfl
set_option maxRecDepth 65536 in
theorem w_args : argsFit about1.vm theMethod args0 = true := by decide +kernel
set_option maxRecDepth 65536 in
theorem w_heap : heapFits about1 = true := by decide +kernel
set_option maxRecDepth 65536 in
theorem w_runnable : about1.curStatus? = some .runnable := by decide +kernel
set_option maxRecDepth 65536 in
theorem w_alone : about1.alone = true := by decide +kernel
set_option maxRecDepth 65536 in
theorem w_named : about1.methodNamed? x = some theMethod := by decide +kernel
set_option maxRecDepth 65536 in
theorem w_hears : about1.hears theMethod below0 = true := by decide +kernel
set_option maxRecDepth 65536 in
theorem w_ripe : about1.ripe theMethod args0 below0 = true := by decide +kernel
theorem w_running : about1.status = .running := rfl
set_option maxRecDepth 65536 in
theorem w_room : about1.hasRoom e0.platform room_1 = true :=
  launch0.hasRoom_least _ room_1 (by decide +kernel) (by decide +kernel) (by decide +kernel) (by decide +kernel) (by decide +kernel) (by decide +kernel)
theorem allAtoms_all (ts : List Jvm.Cond) (a : Array Jvm.Value) (st : Jvm.State) : (allAtoms ts).before a st = ts.all (fun c => c.before a st) := by
  induction ts with
  | nil => rfl
  | cons c t ih =>
    show (Jvm.Cond.and c (allAtoms t)).before a st = _
    rw [Jvm.Cond.before_and, ih, List.all_cons]
def words1 : List Jvm.Cond := Jvm.Cond.code x code maxLocals ret :: tables_1
/-- a 'code' word, met by the world's own term for the bytes: nothing is compared byte by byte -/
theorem code_word {y : MethodName} {bytes : ByteArray} {mx : Nat} {rt : Option FieldType} {a : Array Value} {s : State} {m : MethodId} {meth : Method} {c : Code} (h1 : s.methodNamed? y = some m) (h2 : s.vm.method? m = some meth) (h3 : meth.code = some c) (h4 : c.code = bytes)
    (h5 : (c.maxLocals == mx && c.exceptionTable.isEmpty && decide (c.maxStack ≤ mostOperands) && decide (meth.sig.returnType = rt) && !meth.locks && decide (parseMethodDescriptor y.desc = some meth.sig)) = true) : (Jvm.Cond.code y bytes mx rt).before a s = true := by
  simp only [Bool.and_eq_true, beq_iff_eq, Bool.not_eq_true', decide_eq_true_eq] at h5
  obtain ⟨⟨⟨⟨⟨g1, g2⟩, g3⟩, g4⟩, g5⟩, g6⟩ := h5
  simp [Cond.before, Cond.holds, Cond.value, h1, h2, h3, h4, g1, g2, g3, g4, g5, g6]
def isCode : Jvm.Cond → Bool
  | .code _ _ _ _ => true
  | _ => false
theorem all_split {L : List Jvm.Cond} {P : Jvm.Cond → Bool} (h1 : L.all (fun c => isCode c || P c) = true) (h2 : ∀ c ∈ L.filter isCode, P c = true) : L.all P = true := by
  refine List.all_eq_true.mpr fun c hc => ?_
  have h := List.all_eq_true.mp h1 c hc
  rcases Bool.eq_false_or_eq_true (isCode c) with hi | hi
  · exact h2 c (List.mem_filter.mpr ⟨hc, hi⟩)
  · simpa [hi] using h
set_option maxRecDepth 65536 in
theorem w_c0 : (Jvm.Cond.code x code maxLocals ret).before args0 about1 = true := code_word (m := ⟨1, 1⟩) (meth := k1m1) (c := k1c1) (by decide +kernel) rfl rfl rfl (by decide +kernel)
set_option maxRecDepth 65536 in
theorem w_c1 : (Jvm.Cond.code ({ cls := "java/lang/Math", name := "max", desc := "(II)I" } : Jvm.MethodName) jdk_29_method_65_code (2 : Nat) (Option.some Jvm.ClassFile.FieldType.int)).before args0 about1 = true := code_word (m := ⟨7, 1⟩) (meth := k7m1) (c := k7c1) (by decide +kernel) rfl rfl rfl (by decide +kernel)
set_option maxRecDepth 65536 in
theorem w_c2 : (Jvm.Cond.code ({ cls := "com/example/cardinality/cardinality/Restriction", name := "<init>", desc := "(Lcom/example/cardinality/cardinality/Restriction$Kind;JIIZ)V" } : Jvm.MethodName) prog_13_method_2_code (7 : Nat) (Option.none : Option Jvm.ClassFile.FieldType)).before args0 about1 = true := code_word (m := ⟨8, 0⟩) (meth := k8m0) (c := k8c0) (by decide +kernel) rfl rfl rfl (by decide +kernel)
set_option maxRecDepth 65536 in
theorem w_c3 : (Jvm.Cond.code ({ cls := "java/lang/Object", name := "<init>", desc := "()V" } : Jvm.MethodName) object_method_1_code (1 : Nat) (Option.none : Option Jvm.ClassFile.FieldType)).before args0 about1 = true := code_word (m := ⟨0, 0⟩) (meth := k0m0) (c := k0c0) (by decide +kernel) rfl rfl rfl (by decide +kernel)
set_option maxRecDepth 65536 in
theorem w_c4 : (Jvm.Cond.code ({ cls := "com/example/cardinality/cardinality/Restriction", name := "equals", desc := "(Ljava/lang/Object;)Z" } : Jvm.MethodName) prog_13_method_10_code (3 : Nat) (Option.some Jvm.ClassFile.FieldType.boolean)).before args0 about1 = true := code_word (m := ⟨8, 1⟩) (meth := k8m1) (c := k8c1) (by decide +kernel) rfl rfl rfl (by decide +kernel)
set_option maxRecDepth 65536 in
theorem w_c5 : (Jvm.Cond.code ({ cls := "java/lang/Long", name := "valueOf", desc := "(J)Ljava/lang/Long;" } : Jvm.MethodName) jdk_35_method_24_code (3 : Nat) (Option.some (Jvm.ClassFile.FieldType.object "java/lang/Long"))).before args0 about1 = true := code_word (m := ⟨11, 0⟩) (meth := k11m0) (c := k11c0) (by decide +kernel) rfl rfl rfl (by decide +kernel)
set_option maxRecDepth 65536 in
theorem w_c6 : (Jvm.Cond.code ({ cls := "java/lang/Long", name := "<init>", desc := "(J)V" } : Jvm.MethodName) jdk_35_method_26_code (3 : Nat) (Option.none : Option Jvm.ClassFile.FieldType)).before args0 about1 = true := code_word (m := ⟨11, 1⟩) (meth := k11m1) (c := k11c1) (by decide +kernel) rfl rfl rfl (by decide +kernel)
set_option maxRecDepth 65536 in
theorem w_c7 : (Jvm.Cond.code ({ cls := "java/lang/Number", name := "<init>", desc := "()V" } : Jvm.MethodName) jdk_18_method_1_code (1 : Nat) (Option.none : Option Jvm.ClassFile.FieldType)).before args0 about1 = true := code_word (m := ⟨9, 0⟩) (meth := k9m0) (c := k9c0) (by decide +kernel) rfl rfl rfl (by decide +kernel)
def codes1 : List Jvm.Cond := [Jvm.Cond.code x code maxLocals ret, Jvm.Cond.code ({ cls := "java/lang/Math", name := "max", desc := "(II)I" } : Jvm.MethodName) jdk_29_method_65_code (2 : Nat) (Option.some Jvm.ClassFile.FieldType.int), Jvm.Cond.code ({ cls := "com/example/cardinality/cardinality/Restriction", name := "<init>", desc := "(Lcom/example/cardinality/cardinality/Restriction$Kind;JIIZ)V" } : Jvm.MethodName) prog_13_method_2_code (7 : Nat) (Option.none : Option Jvm.ClassFile.FieldType), Jvm.Cond.code ({ cls := "java/lang/Object", name := "<init>", desc := "()V" } : Jvm.MethodName) object_method_1_code (1 : Nat) (Option.none : Option Jvm.ClassFile.FieldType), Jvm.Cond.code ({ cls := "com/example/cardinality/cardinality/Restriction", name := "equals", desc := "(Ljava/lang/Object;)Z" } : Jvm.MethodName) prog_13_method_10_code (3 : Nat) (Option.some Jvm.ClassFile.FieldType.boolean), Jvm.Cond.code ({ cls := "java/lang/Long", name := "valueOf", desc := "(J)Ljava/lang/Long;" } : Jvm.MethodName) jdk_35_method_24_code (3 : Nat) (Option.some (Jvm.ClassFile.FieldType.object "java/lang/Long")), Jvm.Cond.code ({ cls := "java/lang/Long", name := "<init>", desc := "(J)V" } : Jvm.MethodName) jdk_35_method_26_code (3 : Nat) (Option.none : Option Jvm.ClassFile.FieldType), Jvm.Cond.code ({ cls := "java/lang/Number", name := "<init>", desc := "()V" } : Jvm.MethodName) jdk_18_method_1_code (1 : Nat) (Option.none : Option Jvm.ClassFile.FieldType)]
set_option maxRecDepth 65536 in
theorem codes_eq : words1.filter isCode = codes1 := rfl
theorem w_codes : ∀ c ∈ words1.filter isCode, c.before args0 about1 = true := by
  rw [codes_eq]
  intro c hc
  simp only [codes1, List.mem_cons, List.not_mem_nil, or_false] at hc
  rcases hc with rfl | rfl | rfl | rfl | rfl | rfl | rfl | rfl
  · exact w_c0
  · exact w_c1
  · exact w_c2
  · exact w_c3
  · exact w_c4
  · exact w_c5
  · exact w_c6
  · exact w_c7
set_option maxRecDepth 65536 in
theorem w_t1 : (words1.take 24).all (fun c => isCode c || c.before args0 about1) = true := by decide +kernel
set_option maxRecDepth 65536 in
theorem w_t2 : ((words1.drop 24).take 24).all (fun c => isCode c || c.before args0 about1) = true := by decide +kernel
set_option maxRecDepth 65536 in
theorem w_t3 : ((words1.drop 24).drop 24).all (fun c => isCode c || c.before args0 about1) = true := by decide +kernel
theorem w_tables : (allAtoms (Jvm.Cond.code x code maxLocals ret :: tables_1)).before args0 about1 = true := by
  rw [allAtoms_all]
  show words1.all (fun c => c.before args0 about1) = true
  refine all_split ?_ w_codes
  rw [← List.take_append_drop 24 words1, List.all_append, w_t1, ← List.take_append_drop 24 (words1.drop 24), List.all_append, w_t2, w_t3]
  rfl
set_option maxRecDepth 65536 in
theorem w_rest : rest_1_c.before args0 about1 = true := by decide +kernel
set_option maxRecDepth 65536 in
theorem w_case : (Jvm.Cond.and given_1 narrow_1).before args0 about1 = true := by decide +kernel
theorem w_applies : (headSpec (Jvm.Cond.code x code maxLocals ret :: tables_1) room_1).applies x e0.platform about1 = true :=
  (Spec.applies_iff w_frames).mpr ⟨w_running, w_runnable, w_alone, w_named, w_hears, w_ripe, w_room, w_tables⟩
theorem atStart : AtStart classFile x code maxLocals ret World_1 tables_1 room_1 Calls_1 rest_1 Pre_1 launch0 p0 e0 about1 theMethod args0 below0 :=
  ⟨lists_1, trivial, launch0.admits_env _ _ _, launch0.least_env, fairChoices_fair.cas, fairChoices_fair.clock, w_frames, w_args, w_heap, w_applies, trivial, w_rest, w_case⟩
end start1
theorem witness_1 : WitnessClaimed_1 := ⟨start1.p0, start1.e0, start1.about1, start1.theMethod, start1.args0, start1.below0, start1.atStart⟩
end Jvm.Pilot.@@N@@
