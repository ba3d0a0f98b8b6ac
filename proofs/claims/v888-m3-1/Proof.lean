import JvmDerived
import JvmDerived.Pilot.@@N@@Statement
import JvmDerived.Pilot.@@N@@Code
set_option linter.unusedVariables false
set_option linter.unusedSimpArgs false
namespace Jvm.MM
open Jvm Jvm.ClassFile Sem Op Lib Jvm.Free Jvm.Stand Jvm.LawKit Jvm.RoadKit
/-! A small machine over a picture of the new objects; its soundness over the library's laws. -/
abbrev Kd : Type := Sum FieldType Nat
abbrev Obj : Type := Kd × List Value
abbrev Hp : Type := List Obj
abbrev St : Type := Nat × List Slot × List Value × Hp × Nat × Nat
abbrev MRes : Type := Option Value × Hp
abbrev Mth : Type := MethodName × ByteArray × Nat × Option FieldType × Room
abbrev Fds : Type := List (String × String × String × FieldType)
abbrev Cls : Type := String × Nat × Fds
/-- methods; classes; fields read and fields written (method, entry, class, place); statics (method, entry, number) and their values; new and anewarray (method, entry, class); the kinds of arrays made; casts (method, entry, kind, answer); int and long constants; static and special calls (method, entry, kind, parameters, callee); virtual calls (method, entry, class, parameters, callee); the greatest lengths of new arrays (method, pc, cap); how many objects stood already -/
abbrev Prg : Type := List Mth × List Cls × List (Nat × Nat × Nat × Nat) × List (Nat × Nat × Nat × Nat) × List (Nat × Nat × Nat) × List (String × String × String × Value) × List (Nat × Nat × Nat) × List (Nat × Nat × Nat) × List FieldType × List (Nat × Nat × Kd × Bool) × List (Nat × Nat × Int32) × List (Nat × Nat × Int64) × List (Nat × Nat × Nat × Nat × Nat) × List (Nat × Nat × Nat × Nat × Nat) × List (Nat × Nat × Nat) × Nat
def Prg.ms (P : Prg) := P.1
def Prg.cs (P : Prg) := P.2.1
def Prg.fl (P : Prg) := P.2.2.1
def Prg.fw (P : Prg) := P.2.2.2.1
def Prg.sf (P : Prg) := P.2.2.2.2.1
def Prg.sv (P : Prg) := P.2.2.2.2.2.1
def Prg.nw (P : Prg) := P.2.2.2.2.2.2.1
def Prg.na (P : Prg) := P.2.2.2.2.2.2.2.1
def Prg.ats (P : Prg) := P.2.2.2.2.2.2.2.2.1
def Prg.ca (P : Prg) := P.2.2.2.2.2.2.2.2.2.1
def Prg.ki (P : Prg) := P.2.2.2.2.2.2.2.2.2.2.1
def Prg.kl (P : Prg) := P.2.2.2.2.2.2.2.2.2.2.2.1
def Prg.ic (P : Prg) := P.2.2.2.2.2.2.2.2.2.2.2.2.1
def Prg.vc (P : Prg) := P.2.2.2.2.2.2.2.2.2.2.2.2.2.1
def Prg.cp (P : Prg) := P.2.2.2.2.2.2.2.2.2.2.2.2.2.2.1
def Prg.j0 (P : Prg) := P.2.2.2.2.2.2.2.2.2.2.2.2.2.2.2
def dummy : Mth := (⟨"", "", ""⟩, ⟨#[]⟩, 0, none, { frames := 0, cells := 0, slots := 0, locals := 0 })
def Prg.mt (P : Prg) (j : Nat) : Mth := match P.ms[j]? with | some M => M | none => dummy
def Mth.y (M : Mth) : MethodName := M.1
def Mth.code (M : Mth) : ByteArray := M.2.1
def Mth.mx (M : Mth) : Nat := M.2.2.1
def Mth.ret (M : Mth) : Option FieldType := M.2.2.2.1
def Mth.rm (M : Mth) : Room := M.2.2.2.2
def Prg.cname (P : Prg) (c : Nat) : String := match P.cs[c]? with | some C => C.1 | none => ""
def Prg.flds (P : Prg) (c : Nat) : Fds := match P.cs[c]? with | some C => C.2.2 | none => []
def Prg.nsl (P : Prg) (c : Nat) : Nat := match P.cs[c]? with | some C => C.2.1 | none => 0
def lk2 {α : Type} : List (Nat × Nat × α) → Nat → Nat → Option α
  | [], _, _ => none
  | x :: r, j, i => if x.1 = j ∧ x.2.1 = i then some x.2.2 else lk2 r j i
def lk3 {α : Type} : List (Nat × Nat × Nat × α) → Nat → Nat → Nat → Option α
  | [], _, _, _ => none
  | x :: r, j, i, c => if x.1 = j ∧ x.2.1 = i ∧ x.2.2.1 = c then some x.2.2.2 else lk3 r j i c
def lkK : List (Nat × Nat × Kd × Bool) → Nat → Nat → Kd → Option Bool
  | [], _, _, _ => none
  | x :: r, j, i, c => if x.1 = j ∧ x.2.1 = i ∧ x.2.2.1 = c then some x.2.2.2 else lkK r j i c
theorem lk2_mem {α : Type} : ∀ {T : List (Nat × Nat × α)} {j i : Nat} {x : α}, lk2 T j i = some x → (j, i, x) ∈ T
  | [], _, _, _, h => by cases h
  | y :: r, j, i, x, h => by
    obtain ⟨a, b, z⟩ := y
    by_cases q : a = j ∧ b = i
    · rw [show lk2 ((a, b, z) :: r) j i = some z from if_pos q] at h
      obtain ⟨rfl, rfl⟩ := q
      cases h
      exact List.mem_cons_self
    · rw [show lk2 ((a, b, z) :: r) j i = lk2 r j i from if_neg q] at h
      exact List.mem_cons_of_mem _ (lk2_mem h)
theorem lk3_mem {α : Type} : ∀ {T : List (Nat × Nat × Nat × α)} {j i c : Nat} {x : α}, lk3 T j i c = some x → (j, i, c, x) ∈ T
  | [], _, _, _, _, h => by cases h
  | y :: r, j, i, c, x, h => by
    obtain ⟨a, b, d, z⟩ := y
    by_cases q : a = j ∧ b = i ∧ d = c
    · rw [show lk3 ((a, b, d, z) :: r) j i c = some z from if_pos q] at h
      obtain ⟨rfl, rfl, rfl⟩ := q
      cases h
      exact List.mem_cons_self
    · rw [show lk3 ((a, b, d, z) :: r) j i c = lk3 r j i c from if_neg q] at h
      exact List.mem_cons_of_mem _ (lk3_mem h)
theorem lkK_mem : ∀ {T : List (Nat × Nat × Kd × Bool)} {j i : Nat} {c : Kd} {x : Bool}, lkK T j i c = some x → (j, i, c, x) ∈ T
  | [], _, _, _, _, h => by cases h
  | y :: r, j, i, c, x, h => by
    obtain ⟨a, b, d, z⟩ := y
    by_cases q : a = j ∧ b = i ∧ d = c
    · rw [show lkK ((a, b, d, z) :: r) j i c = some z from if_pos q] at h
      obtain ⟨rfl, rfl, rfl⟩ := q
      cases h
      exact List.mem_cons_self
    · rw [show lkK ((a, b, d, z) :: r) j i c = lkK r j i c from if_neg q] at h
      exact List.mem_cons_of_mem _ (lkK_mem h)
/-! ### the steps -/
def ilen : Instr → Nat
  | .aload _ | .astore _ | .iload _ | .istore _ | .lload _ | .lstore _ | .dload _ | .dstore _ | .bipush _ | .ldc _ | .newarray _ => 2
  | .sipush _ | .iinc _ _ | .getfield _ | .putfield _ | .getstatic _ | .goto _ | .ifCond _ _ | .if_icmp _ _ | .if_acmp _ _ | .ifnull _ | .ifnonnull _ | .new _ | .anewarray _ | .checkcast _ | .instanceof _ | .invokestatic _ | .invokespecial _ | .invokevirtual _ | .ldc2_w _ => 3
  | _ => 1
def isI : Value → Bool | .int _ => true | _ => false
def isJ : Value → Bool | .long _ => true | _ => false
def isD : Value → Bool | .double _ => true | _ => false
def isA : Value → Bool | .null => true | .ref _ => true | _ => false
def cat : Value → Nat | .long _ => 2 | .double _ => 2 | _ => 1
def wt : List Value → Nat | [] => 0 | v :: r => cat v + wt r
def s1 : Slot → Bool | .unset => true | .val v => cat v == 1 | .second => false
def ld (q : Value → Bool) (L : List Slot) (k : Nat) (S : List Value) : Option (List Slot × List Value) := match L[k]? with | some (.val v) => if q v = true then some (L, v :: S) else none | _ => none
def so1 (L : List Slot) (k : Nat) : Bool := match L[k]? with | some o => s1 o | none => false
def so2 (L : List Slot) (k : Nat) : Bool := (match L[k]? with | some (.val _) => true | some .unset => true | _ => false) && (match L[k + 1]? with | some (.val v) => cat v == 1 | some _ => true | none => false)
def st1 (q : Value → Bool) (L : List Slot) (k : Nat) : List Value → Option (List Slot × List Value)
  | v :: S => if (q v && so1 L k) = true then some (L.set k (.val v), S) else none
  | [] => none
def st2 (q : Value → Bool) (L : List Slot) (k : Nat) : List Value → Option (List Slot × List Value)
  | v :: S => if (q v && so2 L k) = true then some ((L.set k (.val v)).set (k + 1) .second, S) else none
  | [] => none
def inc (L : List Slot) (k : Nat) (c : Int) (S : List Value) : Option (List Slot × List Value) := match L[k]? with | some (.val (.int x)) => some (L.set k (.val (.int (x + Int32.ofInt c))), S) | _ => none
def bI (f : Int32 → Int32 → Int32) : List Value → Option (List Value) | .int y :: .int x :: r => some (.int (f x y) :: r) | _ => none
def dI (f : Int32 → Int32 → Int32) : List Value → Option (List Value) | .int y :: .int x :: r => if y = 0 then none else some (.int (f x y) :: r) | _ => none
def uI (f : Int32 → Value) : List Value → Option (List Value) | .int x :: r => some (f x :: r) | _ => none
def bJ (f : Int64 → Int64 → Value) : List Value → Option (List Value) | .long y :: .long x :: r => some (f x y :: r) | _ => none
def sJ (f : Int64 → Int32 → Int64) : List Value → Option (List Value) | .int y :: .long x :: r => some (.long (f x y) :: r) | _ => none
def uJ (f : Int64 → Value) : List Value → Option (List Value) | .long x :: r => some (f x :: r) | _ => none
def bD (f : UInt64 → UInt64 → Value) : List Value → Option (List Value) | .double y :: .double x :: r => some (f x y :: r) | _ => none
def fdup : List Value → Option (List Value) | x :: r => if cat x = 1 then some (x :: x :: r) else none | _ => none
def fpop : List Value → Option (List Value) | x :: r => if cat x = 1 then some r else none | _ => none
def fdx1 : List Value → Option (List Value) | x :: y :: r => if cat x = 1 ∧ cat y = 1 then some (x :: y :: x :: r) else none | _ => none
def fd2 : List Value → Option (List Value)
  | .long x :: r => some (.long x :: .long x :: r)
  | x :: y :: r => if cat x = 1 ∧ cat y = 1 then some (x :: y :: x :: y :: r) else none
  | _ => none
def keepL (L : List Slot) (o : Option (List Value)) : Option (List Slot × List Value) := match o with | some S => some (L, S) | none => none
def plainI (i : Instr) (L : List Slot) (S : List Value) : Option (List Slot × List Value) :=
  match i with
  | .aconst_null => some (L, .null :: S)
  | .iconst k => some (L, .int (Int32.ofInt k) :: S)
  | .bipush k => some (L, .int (Int8.ofInt k).toInt32 :: S)
  | .sipush k => some (L, .int (Int16.ofInt k).toInt32 :: S)
  | .lconst k => some (L, .long (Int64.ofNat k) :: S)
  | .iload k => ld isI L k S
  | .iload_n k => ld isI L k.val S
  | .lload k => ld isJ L k S
  | .lload_n k => ld isJ L k.val S
  | .aload k => ld isA L k S
  | .aload_n k => ld isA L k.val S
  | .istore k => st1 isI L k S
  | .istore_n k => st1 isI L k.val S
  | .astore k => st1 isA L k S
  | .astore_n k => st1 isA L k.val S
  | .lstore k => st2 isJ L k S
  | .lstore_n k => st2 isJ L k.val S
  | .dload k => ld isD L k S
  | .dload_n k => ld isD L k.val S
  | .dstore k => st2 isD L k S
  | .dstore_n k => st2 isD L k.val S
  | .dconst d => some (L, .double (if d = 0 then FP.dconst0 else FP.dconst1) :: S)
  | .i2d => keepL L (uI (fun x => .double (FP.i2d x)) S)
  | .dcmp o => keepL L (bD (fun x y => .int (cmpValue (FP.dcmp x y) o)) S)
  | .iinc k c => inc L k c S
  | .iadd => keepL L (bI (fun x y => x + y) S)
  | .isub => keepL L (bI (fun x y => x - y) S)
  | .imul => keepL L (bI (fun x y => x * y) S)
  | .iand => keepL L (bI (fun x y => x &&& y) S)
  | .ior => keepL L (bI (fun x y => x ||| y) S)
  | .ixor => keepL L (bI (fun x y => x ^^^ y) S)
  | .ishl => keepL L (bI (fun x y => x <<< (y &&& 31)) S)
  | .ishr => keepL L (bI (fun x y => x >>> (y &&& 31)) S)
  | .iushr => keepL L (bI XT.ushr S)
  | .irem => keepL L (dI (fun x y => x % y) S)
  | .idiv => keepL L (dI (fun x y => x / y) S)
  | .ineg => keepL L (uI (fun x => .int (-x)) S)
  | .i2l => keepL L (uI (fun x => .long x.toInt64) S)
  | .i2b => keepL L (uI (fun x => .int x.toInt8.toInt32) S)
  | .i2c => keepL L (uI (fun x => .int x.toUInt32.toUInt16.toUInt32.toInt32) S)
  | .i2s => keepL L (uI (fun x => .int x.toInt16.toInt32) S)
  | .l2i => keepL L (uJ (fun x => .int x.toInt32) S)
  | .ladd => keepL L (bJ (fun x y => .long (x + y)) S)
  | .lsub => keepL L (bJ (fun x y => .long (x - y)) S)
  | .lmul => keepL L (bJ (fun x y => .long (x * y)) S)
  | .land => keepL L (bJ (fun x y => .long (x &&& y)) S)
  | .lor => keepL L (bJ (fun x y => .long (x ||| y)) S)
  | .lxor => keepL L (bJ (fun x y => .long (x ^^^ y)) S)
  | .lcmp => keepL L (bJ (fun x y => .int (XT.cmpL x y)) S)
  | .lshl => keepL L (sJ (fun x y => x <<< (y.toInt64 &&& 63)) S)
  | .lshr => keepL L (sJ (fun x y => x >>> (y.toInt64 &&& 63)) S)
  | .lushr => keepL L (sJ XT.ushrL S)
  | .dup => keepL L (fdup S)
  | .pop => keepL L (fpop S)
  | .dup_x1 => keepL L (fdx1 S)
  | .dup2 => keepL L (fd2 S)
  | _ => none
/-- taken or not; the offset; the stack behind -/
def brI (i : Instr) (S : List Value) : Option (Bool × Int × List Value) :=
  match i with
  | .goto o => some (true, o, S)
  | .ifCond c o => match S with | .int x :: r => some (ifCond.holds c x, o, r) | _ => none
  | .if_icmp c o => match S with | .int y :: .int x :: r => some (if_icmp.holds c x y, o, r) | _ => none
  | .if_acmp c o => match S with | y :: x :: r => if (isA x && isA y) = true then some (XT.acmp c x y, o, r) else none | _ => none
  | .ifnull o => match S with | .null :: r => some (true, o, r) | .ref _ :: r => some (false, o, r) | _ => none
  | .ifnonnull o => match S with | .null :: r => some (false, o, r) | .ref _ :: r => some (true, o, r) | _ => none
  | _ => none
/-- what a place of this type keeps of a value -/
def vty : FieldType → Value → Option Value
  | .int, .int x => some (.int x)
  | .boolean, .int x => some (.int (x &&& 1))
  | .byte, .int x => some (.int x.toInt8.toInt32)
  | .char, .int x => some (.int x.toUInt32.toUInt16.toUInt32.toInt32)
  | .short, .int x => some (.int x.toInt16.toInt32)
  | .long, .long x => some (.long x)
  | .double, .double x => some (.double x)
  | .object _, .null => some .null
  | .object _, .ref a => some (.ref a)
  | .array _, .null => some .null
  | .array _, .ref a => some (.ref a)
  | _, _ => none
def dft : FieldType → Value
  | .boolean | .byte | .char | .short | .int => .int 0
  | .long => .long 0
  | .float => .float 0
  | .double => .double 0
  | .object _ | .array _ => .null
/-- which component types an array load or store takes -/
def aty : Instr → FieldType → Bool
  | .iaload, .int | .iastore, .int | .baload, .byte | .bastore, .byte | .caload, .char | .castore, .char | .saload, .short | .laload, .long | .lastore, .long | .daload, .double | .dastore, .double => true
  | .aaload, .object _ => true
  | .aastore, .object _ => true
  | _, _ => false
def ldA (i : Instr) (H : Hp) (a : Nat) (x : Int32) : Option Value :=
  match H[a]? with
  | some (.inl ty, vs) => if aty i ty = true ∧ ¬ x < 0 then vs[x.toNatClampNeg]? else none
  | _ => none
def alen (H : Hp) (a : Nat) : Option Int32 :=
  match H[a]? with
  | some (.inl _, vs) => some vs.length.toInt32
  | _ => none
def stoOk (P : Prg) (H : Hp) : FieldType → Value → Bool
  | .object C, .ref b => match H[b]? with | some (.inr cid, _) => decide (cid < P.cs.length) && (P.cname cid == C) | _ => false
  | _, _ => true
def stA (P : Prg) (i : Instr) (H : Hp) (a : Nat) (x : Int32) (v : Value) : Option Hp :=
  if a < P.j0 then none else
  match H[a]? with
  | some (.inl ty, vs) => match vty ty v with
    | some v' => if aty i ty = true ∧ ¬ x < 0 ∧ x.toNatClampNeg < vs.length ∧ stoOk P H ty v' = true then some (H.set a (.inl ty, vs.set x.toNatClampNeg v')) else none
    | none => none
  | _ => none
def rdO (P : Prg) (j idx : Nat) (o : Obj) : Option Value :=
  match o with
  | (.inr cid, vs) => match lk3 P.fl j idx cid with | some q => vs[q]? | none => none
  | _ => none
def rdF (P : Prg) (j idx : Nat) (H : Hp) (a : Nat) : Option Value := match H[a]? with | some o => rdO P j idx o | none => none
def wrO (P : Prg) (j idx : Nat) (v : Value) (o : Obj) : Option Obj :=
  match o with
  | (.inr cid, vs) => match lk3 P.fw j idx cid with
    | some q => match (P.flds cid)[q]? with
      | some fd => match vty fd.2.2.2 v with
        | some v' => if q < vs.length then some (.inr cid, vs.set q v') else none
        | none => none
      | none => none
    | none => none
  | _ => none
def wrF (P : Prg) (j idx : Nat) (H : Hp) (a : Nat) (v : Value) : Option Hp :=
  if a < P.j0 then none else
  match H[a]? with | some o => (match wrO P j idx v o with | some o' => some (H.set a o') | none => none) | none => none
def newC (P : Prg) (j idx : Nat) (H : Hp) (k n : Nat) : Option (Hp × Nat × Nat) :=
  match lk2 P.nw j idx with
  | some cid => if k + 1 ≤ (P.mt j).rm.cells ∧ n + P.nsl cid ≤ (P.mt j).rm.slots then some (H ++ [(.inr cid, (P.flds cid).map fun fd => dft fd.2.2.2)], k + 1, n + P.nsl cid) else none
  | none => none
def newA (P : Prg) (j pc : Nat) (ty : FieldType) (len : Int32) (H : Hp) (k n : Nat) : Option (Hp × Nat × Nat) :=
  match lk2 P.cp j pc with
  | some cap => if ¬ len < 0 ∧ len.toNatClampNeg ≤ cap ∧ cap * 8 ≤ 536870912 ∧ k + 1 ≤ (P.mt j).rm.cells ∧ n + cap ≤ (P.mt j).rm.slots then some (H ++ [(.inl ty, List.replicate len.toNatClampNeg (dft ty))], k + 1, n + cap) else none
  | none => none
def castI (P : Prg) (j idx : Nat) (H : Hp) (a : Nat) : Option Bool := match H[a]? with | some o => lkK P.ca j idx o.1 | none => none
abbrev HR : Type := List Value × Hp × Nat × Nat
def hLdc (P : Prg) (j idx : Nat) (S : List Value) (H : Hp) (k n : Nat) : Option HR := match lk2 P.ki j idx with | some v => some (.int v :: S, H, k, n) | none => none
def hLdc2 (P : Prg) (j idx : Nat) (S : List Value) (H : Hp) (k n : Nat) : Option HR := match lk2 P.kl j idx with | some v => some (.long v :: S, H, k, n) | none => none
def hGs (P : Prg) (j idx : Nat) (S : List Value) (H : Hp) (k n : Nat) : Option HR := match lk2 P.sf j idx with | some q => (match P.sv[q]? with | some d => some (d.2.2.2 :: S, H, k, n) | none => none) | none => none
def hGet (P : Prg) (j idx : Nat) (S : List Value) (H : Hp) (k n : Nat) : Option HR := match S with | .ref a :: r => (match rdF P j idx H a with | some v => some (v :: r, H, k, n) | none => none) | _ => none
def hPut (P : Prg) (j idx : Nat) (S : List Value) (H : Hp) (k n : Nat) : Option HR := match S with | v :: .ref a :: r => (match wrF P j idx H a v with | some H' => some (r, H', k, n) | none => none) | _ => none
def hNew (P : Prg) (j idx : Nat) (S : List Value) (H : Hp) (k n : Nat) : Option HR := match newC P j idx H k n with | some x => some (.ref H.length :: S, x.1, x.2.1, x.2.2) | none => none
def hNewA (P : Prg) (j pc : Nat) (t : ArrayType) (S : List Value) (H : Hp) (k n : Nat) : Option HR := match S with | .int len :: r => (if newarray.typeOf t ∈ P.ats then (match newA P j pc (newarray.typeOf t) len H k n with | some x => some (.ref H.length :: r, x.1, x.2.1, x.2.2) | none => none) else none) | _ => none
def hNewR (P : Prg) (j pc idx : Nat) (S : List Value) (H : Hp) (k n : Nat) : Option HR := match S with
  | .int len :: r => (match lk2 P.na j idx with
    | some cid => (match newA P j pc (.object (P.cname cid)) len H k n with | some x => some (.ref H.length :: r, x.1, x.2.1, x.2.2) | none => none)
    | none => none)
  | _ => none
def hLen (S : List Value) (H : Hp) (k n : Nat) : Option HR := match S with | .ref a :: r => (match alen H a with | some v => some (.int v :: r, H, k, n) | none => none) | _ => none
def hLda (i : Instr) (S : List Value) (H : Hp) (k n : Nat) : Option HR := match S with | .int x :: .ref a :: r => (match ldA i H a x with | some v => some (v :: r, H, k, n) | none => none) | _ => none
def hSta (P : Prg) (i : Instr) (S : List Value) (H : Hp) (k n : Nat) : Option HR := match S with | v :: .int x :: .ref a :: r => (match stA P i H a x v with | some H' => some (r, H', k, n) | none => none) | _ => none
def hCast (P : Prg) (j idx : Nat) (S : List Value) (H : Hp) (k n : Nat) : Option HR := match S with
  | .null :: r => some (.null :: r, H, k, n)
  | .ref a :: r => (match castI P j idx H a with | some true => some (.ref a :: r, H, k, n) | _ => none)
  | _ => none
def hInst (P : Prg) (j idx : Nat) (S : List Value) (H : Hp) (k n : Nat) : Option HR := match S with
  | .null :: r => some (.int 0 :: r, H, k, n)
  | .ref a :: r => (match castI P j idx H a with | some true => some (.int 1 :: r, H, k, n) | some false => some (.int 0 :: r, H, k, n) | none => none)
  | _ => none
def heapI (P : Prg) (j pc : Nat) (i : Instr) (S : List Value) (H : Hp) (k n : Nat) : Option HR :=
  match i with
  | .ldc idx => hLdc P j idx S H k n
  | .ldc2_w idx => hLdc2 P j idx S H k n
  | .getstatic idx => hGs P j idx S H k n
  | .getfield idx => hGet P j idx S H k n
  | .putfield idx => hPut P j idx S H k n
  | .new idx => hNew P j idx S H k n
  | .newarray t => hNewA P j pc t S H k n
  | .anewarray idx => hNewR P j pc idx S H k n
  | .arraylength => hLen S H k n
  | .iaload => hLda .iaload S H k n
  | .baload => hLda .baload S H k n
  | .caload => hLda .caload S H k n
  | .saload => hLda .saload S H k n
  | .laload => hLda .laload S H k n
  | .aaload => hLda .aaload S H k n
  | .daload => hLda .daload S H k n
  | .iastore => hSta P .iastore S H k n
  | .bastore => hSta P .bastore S H k n
  | .castore => hSta P .castore S H k n
  | .lastore => hSta P .lastore S H k n
  | .aastore => hSta P .aastore S H k n
  | .dastore => hSta P .dastore S H k n
  | .checkcast idx => hCast P j idx S H k n
  | .instanceof idx => hInst P j idx S H k n
  | _ => none
/-- what returns -/
def retI (t : Option FieldType) (i : Instr) (S : List Value) : Option (Option Value) :=
  match i with
  | .return_ => match t, S with | none, [] => some none | _, _ => none
  | .ireturn => match t, S with
    | some .int, .int x :: _ => some (some (.int x))
    | some .boolean, .int x :: _ => some (some (.int (x &&& 1)))
    | some .byte, .int x :: _ => some (some (.int x.toInt8.toInt32))
    | some .char, .int x :: _ => some (some (.int x.toUInt32.toUInt16.toUInt32.toInt32))
    | some .short, .int x :: _ => some (some (.int x.toInt16.toInt32))
    | _, _ => none
  | .lreturn => match t, S with | some .long, .long x :: _ => some (some (.long x)) | _, _ => none
  | .dreturn => match t, S with | some .double, .double x :: _ => some (some (.double x)) | _, _ => none
  | .areturn => match t, S with
    | some (.object _), .null :: _ => some (some .null)
    | some (.object _), .ref a :: _ => some (some (.ref a))
    | some (.array _), .null :: _ => some (some .null)
    | some (.array _), .ref a :: _ => some (some (.ref a))
    | _, _ => none
  | _ => none
def laid : List Value → List Slot
  | [] => []
  | v :: vs => if cat v = 2 then .val v :: .second :: laid vs else .val v :: laid vs
def entL (as : List Value) (mx : Nat) : List Slot := laid as ++ List.replicate (mx - (laid as).length) .unset
/-- the callee, its arguments, what lies under them -/
def calI (P : Prg) (j : Nat) (i : Instr) (S : List Value) (H : Hp) : Option (Nat × List Value × List Value) :=
  match i with
  | .invokestatic idx => match lk2 P.ic j idx with
    | some (0, np, j') => if np ≤ S.length then some (j', (S.take np).reverse, S.drop np) else none
    | _ => none
  | .invokespecial idx => match lk2 P.ic j idx with
    | some (1, np, j') => (match S.drop np with | .ref a :: r => some (j', .ref a :: (S.take np).reverse, r) | _ => none)
    | _ => none
  | .invokevirtual idx => match lk2 P.ic j idx with
    | some (2, np, _) => (match S.drop np with
      | .ref a :: r => (match H[a]? with
        | some (.inr cid, _) => (match lk3 P.vc j idx cid with | some (np', j') => if np' = np then some (j', .ref a :: (S.take np).reverse, r) else none | none => none)
        | _ => none)
      | _ => none)
    | _ => none
  | _ => none
/-- Object's own constructor -/
def objI (P : Prg) (j : Nat) (i : Instr) (L : List Slot) (S : List Value) : Option (List Value) :=
  match i with
  | .invokespecial idx => match lk2 P.ic j idx with
    | some (6, _, _) => (match S with | .ref a :: r => if L.length = (P.mt j).mx ∧ 1 ≤ (P.mt j).rm.frames ∧ wt r + 12 ≤ (P.mt j).rm.locals then some r else none | _ => none)
    | _ => none
  | _ => none
/-- an int array's own copy -/
def clnA (P : Prg) (j pc : Nat) (L : List Slot) (r : List Value) (H : Hp) (a k n : Nat) : Option HR :=
  match H[a]? with
  | some (.inl .int, vs) => (match lk2 P.cp j pc with
    | some cap => if (P.j0 ≤ a ∧ vs.all isI = true) ∧ (L.length = (P.mt j).mx ∧ 1 ≤ (P.mt j).rm.frames ∧ wt r + 14 ≤ (P.mt j).rm.locals) ∧ vs.length ≤ cap ∧ k + 1 ≤ (P.mt j).rm.cells ∧ n + cap ≤ (P.mt j).rm.slots then some (.ref H.length :: r, H ++ [(.inl .int, vs)], k + 1, n + cap) else none
    | none => none)
  | _ => none
def clnI (P : Prg) (j pc : Nat) (i : Instr) (L : List Slot) (S : List Value) (H : Hp) (k n : Nat) : Option HR :=
  match i with
  | .invokevirtual idx => match lk2 P.ic j idx with
    | some (7, _, _) => (match S with | .ref a :: r => clnA P j pc L r H a k n | _ => none)
    | _ => none
  | _ => none
def isCall (P : Prg) (j : Nat) : Instr → Nat
  | .invokestatic _ => 1
  | .invokevirtual idx => match lk2 P.ic j idx with | some (7, _, _) => 6 | _ => 1
  | .invokespecial idx => match lk2 P.ic j idx with | some (1, _, _) => 1 | _ => 2
  | .return_ | .ireturn | .lreturn | .areturn | .dreturn => 3
  | .goto _ | .ifCond _ _ | .if_icmp _ _ | .if_acmp _ _ | .ifnull _ | .ifnonnull _ => 4
  | .ldc _ | .ldc2_w _ | .getstatic _ | .getfield _ | .putfield _ | .new _ | .newarray _ | .anewarray _ | .arraylength | .iaload | .baload | .caload | .saload | .laload | .aaload | .daload | .iastore | .bastore | .castore | .lastore | .aastore | .dastore | .checkcast _ | .instanceof _ => 5
  | _ => 0
/-- the steps that neither call nor return -/
def stepI (P : Prg) (j : Nat) (i : Instr) : St → Option St
  | (pc, L, S, H, k, n) => match isCall P j i with
    | 0 => (match plainI i L S with | some x => some (pc + ilen i, x.1, x.2, H, k, n) | none => none)
    | 2 => (match objI P j i L S with | some r => some (pc + ilen i, L, r, H, k, n) | none => none)
    | 4 => (match brI i S with
      | some (true, o, r) => if 0 ≤ (pc : Int) + o then some (((pc : Int) + o).toNat, L, r, H, k, n) else none
      | some (false, o, r) => some (pc + ilen i, L, r, H, k, n)
      | none => none)
    | 5 => (match heapI P j pc i S H k n with | some x => some (pc + ilen i, L, x.1, x.2.1, x.2.2.1, x.2.2.2) | none => none)
    | 6 => (match clnI P j pc i L S H k n with | some x => some (pc + ilen i, L, x.1, x.2.1, x.2.2.1, x.2.2.2) | none => none)
    | _ => none
/-- the room that a call asks -/
def rmOk (P : Prg) (j j' : Nat) (L : List Slot) (r : List Value) (k n : Nat) : Bool :=
  decide (L.length = (P.mt j).mx) && (decide ((P.mt j').rm.frames + 1 ≤ (P.mt j).rm.frames) && (decide (wt r + ((P.mt j').mx + 11) + (P.mt j').rm.locals ≤ (P.mt j).rm.locals) && (decide (k + (P.mt j').rm.cells ≤ (P.mt j).rm.cells) && decide (n + (P.mt j').rm.slots ≤ (P.mt j).rm.slots))))
def run (P : Prg) : Nat → Nat → St → Option MRes
  | 0, _, _ => none
  | f + 1, j, (pc, L, S, H, k, n) =>
    match decode (P.mt j).code pc with
    | .error _ => none
    | .ok (i, len) =>
      if len = ilen i then
        match isCall P j i with
        | 3 => (match retI (P.mt j).ret i S with | some v => if k ≤ (P.mt j).rm.cells ∧ n ≤ (P.mt j).rm.slots then some (v, H) else none | none => none)
        | 1 => (match calI P j i S H with
          | some (j', as, r) =>
            if rmOk P j j' L r k n = true then
              (match run P f j' (0, entL as (P.mt j').mx, [], H, 0, 0) with
              | some (v, H') => run P f j (pc + 3, L, v.toList ++ r, H', k + (P.mt j').rm.cells, n + (P.mt j').rm.slots)
              | none => none)
            else none
          | none => none)
        | _ => (match stepI P j i (pc, L, S, H, k, n) with | some st' => run P f j st' | none => none)
      else none
end Jvm.MM
namespace Jvm.MM
open Jvm Jvm.ClassFile Sem Op Lib Jvm.Free Jvm.Stand Jvm.LawKit Jvm.RoadKit
/-! ### from the machine's values to the heap's -/
def tv (ρ : Nat → Addr) : Value → Value
  | .ref i => .ref (ρ i)
  | v => v
def ts (ρ : Nat → Addr) : Slot → Slot
  | .val v => .val (tv ρ v)
  | x => x
abbrev tS (ρ : Nat → Addr) (S : List Value) : List Value := S.map (tv ρ)
abbrev tL (ρ : Nat → Addr) (L : List Slot) : Array Slot := (L.map (ts ρ)).toArray
section Tr
variable {ρ : Nat → Addr}
theorem cat_eq (v : Value) : v.category = cat v := by cases v <;> rfl
theorem cat_tv (v : Value) : cat (tv ρ v) = cat v := by cases v <;> rfl
theorem wt_eq : ∀ S : List Value, ((S.map (tv ρ)).map fun v => v.category).sum = wt S
  | [] => rfl
  | v :: r => by
    have ih := wt_eq r
    show ((tv ρ v).category :: (r.map (tv ρ)).map fun v => v.category).sum = cat v + wt r
    rw [List.sum_cons, ih, cat_eq, cat_tv]
theorem tL_get {L : List Slot} {k : Nat} {o : Slot} (h : L[k]? = some o) : (tL ρ L)[k]? = some (ts ρ o) := by simp [h]
theorem tL_set (L : List Slot) (k : Nat) (o : Slot) : (tL ρ L).setIfInBounds k (ts ρ o) = tL ρ (L.set k o) := by
  apply Array.toList_inj.mp
  simp [Array.toList_setIfInBounds, List.map_set]
theorem isA_ref {v : Value} (h : isA v = true) : (tv ρ v).isRef = true := by cases v <;> first | rfl | cases h
theorem isA_cat {v : Value} (h : isA v = true) : cat v = 1 := by cases v <;> first | rfl | cases h
theorem isI_inv {v : Value} (h : isI v = true) : ∃ x, v = .int x := by cases v <;> first | exact ⟨_, rfl⟩ | cases h
theorem isJ_inv {v : Value} (h : isJ v = true) : ∃ x, v = .long x := by cases v <;> first | exact ⟨_, rfl⟩ | cases h
theorem isD_inv {v : Value} (h : isD v = true) : ∃ x, v = .double x := by cases v <;> first | exact ⟨_, rfl⟩ | cases h
theorem isA_inv {v : Value} (h : isA v = true) : v = .null ∨ ∃ a, v = .ref a := by cases v <;> first | exact Or.inl rfl | exact Or.inr ⟨_, rfl⟩ | cases h
theorem s1_inv {o : Slot} (h : s1 o = true) : ts ρ o = .unset ∨ ∃ w, ts ρ o = .val w ∧ w.category = 1 := by
  cases o with
  | unset => exact Or.inl rfl
  | second => cases h
  | val v => exact Or.inr ⟨tv ρ v, rfl, by rw [cat_eq, cat_tv]; simpa [s1] using h⟩
theorem ld_inv {q : Value → Bool} {L L' : List Slot} {k : Nat} {S S' : List Value} (h : ld q L k S = some (L', S')) : ∃ v, L[k]? = some (.val v) ∧ q v = true ∧ L' = L ∧ S' = v :: S := by
  unfold ld at h
  split at h
  · rename_i v hv
    split at h
    · rename_i hq
      cases h
      exact ⟨v, hv, hq, rfl, rfl⟩
    · cases h
  · cases h
theorem st1_inv {q : Value → Bool} {L L' : List Slot} {k : Nat} {S S' : List Value} (h : st1 q L k S = some (L', S')) : ∃ v o, S = v :: S' ∧ q v = true ∧ L[k]? = some o ∧ s1 o = true ∧ L' = L.set k (.val v) := by
  cases S with
  | nil => cases h
  | cons v r =>
    have h : (if (q v && so1 L k) = true then some (L.set k (.val v), r) else none) = some (L', S') := h
    split at h
    · rename_i hq
      obtain ⟨h1, h2⟩ := Bool.and_eq_true_iff.mp hq
      cases h
      unfold so1 at h2
      split at h2
      · rename_i o ho
        exact ⟨v, o, rfl, h1, ho, h2, rfl⟩
      · cases h2
    · cases h
theorem st2_inv {q : Value → Bool} {L L' : List Slot} {k : Nat} {S S' : List Value} (h : st2 q L k S = some (L', S')) : ∃ v, S = v :: S' ∧ q v = true ∧ so2 L k = true ∧ L' = (L.set k (.val v)).set (k + 1) .second := by
  cases S with
  | nil => cases h
  | cons v r =>
    have h : (if (q v && so2 L k) = true then some ((L.set k (.val v)).set (k + 1) .second, r) else none) = some (L', S') := h
    split at h
    · rename_i hq
      obtain ⟨h1, h2⟩ := Bool.and_eq_true_iff.mp hq
      cases h
      exact ⟨v, rfl, h1, h2, rfl⟩
    · cases h
theorem sl1 {L : List Slot} {k : Nat} {o : Slot} {v : Value} (h : L[k]? = some o) (hs : s1 o = true) (hv : cat v = 1) : storeLocals (tL ρ L) k (tv ρ v) = some (tL ρ (L.set k (.val v))) := by
  rw [XS.store1 (tL_get (ρ := ρ) h) (s1_inv hs) (by rw [cat_eq, cat_tv]; exact hv)]
  exact congrArg some (tL_set L k (.val v))
theorem self2 {l : Array Slot} {k : Nat} {o : Slot} {v : Value} (hv : v.category = 2) (h : l[k + 1]? = some o) (ho : ∀ w, o = .val w → w.category = 1) : storeSelf l k v = some ((l.setIfInBounds k (.val v)).setIfInBounds (k + 1) .second) := by
  have hk : k + 1 < l.size := (Array.getElem?_eq_some_iff.mp h).1
  have a1 : setAt l k (.val v) = some (l.setIfInBounds k (.val v)) := if_pos (by omega)
  have a2 : (l.setIfInBounds k (.val v))[k + 1]? = some o := by rw [Array.getElem?_setIfInBounds_ne (by omega)]; exact h
  have a3 : setAt (l.setIfInBounds k (.val v)) (k + 1) .second = some ((l.setIfInBounds k (.val v)).setIfInBounds (k + 1) .second) := if_pos (by simpa using hk)
  cases o with
  | unset => simp [storeSelf, a1, a2, a3, hv]
  | second => simp [storeSelf, a1, a2, a3, hv]
  | val w => simp [storeSelf, a1, a2, a3, hv, ho w rfl]
theorem sl2 {L : List Slot} {k : Nat} {v : Value} (h : so2 L k = true) (hv : cat v = 2) : storeLocals (tL ρ L) k (tv ρ v) = some (tL ρ ((L.set k (.val v)).set (k + 1) .second)) := by
  have hv' : (tv ρ v).category = 2 := by rw [cat_eq, cat_tv]; exact hv
  have e : tL ρ ((L.set k (.val v)).set (k + 1) .second) = ((tL ρ L).setIfInBounds k (.val (tv ρ v))).setIfInBounds (k + 1) .second := by
    rw [← tL_set, ← tL_set]; rfl
  rw [e]
  simp only [so2, Bool.and_eq_true] at h
  obtain ⟨h1, h2⟩ := h
  obtain ⟨o, ho⟩ : ∃ o, L[k + 1]? = some o := by
    cases q : L[k + 1]? with
    | none => rw [q] at h2; cases h2
    | some o => exact ⟨o, rfl⟩
  rw [ho] at h2
  have g2 := tL_get (ρ := ρ) ho
  have c2 : ∀ w, ts ρ o = .val w → w.category = 1 := fun w hw => by
    cases o with
    | unset => cases hw
    | second => cases hw
    | val u => cases hw; rw [cat_eq, cat_tv]; simpa using h2
  cases q : L[k]? with
  | none => rw [q] at h1; cases h1
  | some o1 =>
    have g1 := tL_get (ρ := ρ) q
    cases o1 with
    | second => rw [q] at h1; cases h1
    | unset =>
      have : storeLocals (tL ρ L) k (tv ρ v) = storeSelf (tL ρ L) k (tv ρ v) := by
        have g1' : (tL ρ L)[k]? = some .unset := g1
        simp only [storeLocals, g1', Option.bind_eq_bind, Option.bind_some]
      rw [this, self2 hv' g2 c2]
    | val u =>
      have g1' : (tL ρ L)[k]? = some (.val (tv ρ u)) := g1
      by_cases hc : (tv ρ u).category = 2
      · have hs : k + 1 < (tL ρ L).size := (Array.getElem?_eq_some_iff.mp g2).1
        have a1 : setAt (tL ρ L) (k + 1) .unset = some ((tL ρ L).setIfInBounds (k + 1) .unset) := if_pos hs
        have : storeLocals (tL ρ L) k (tv ρ v) = storeSelf ((tL ρ L).setIfInBounds (k + 1) .unset) k (tv ρ v) := by
          simp only [storeLocals, g1', Option.bind_eq_bind, Option.bind_some, hc, if_true, a1]
        rw [this, self2 (o := .unset) hv' (by rw [Array.getElem?_setIfInBounds_self_of_lt hs]) (fun w hw => by cases hw)]
        congr 1
        apply Array.toList_inj.mp
        simp only [Array.toList_setIfInBounds]
        rw [List.set_comm _ _ (by omega : k + 1 ≠ k), List.set_set]
      · have : storeLocals (tL ρ L) k (tv ρ v) = storeSelf (tL ρ L) k (tv ρ v) := by
          simp only [storeLocals, g1', Option.bind_eq_bind, Option.bind_some, hc, if_false]
        rw [this, self2 hv' g2 c2]
theorem keepL_inv {L L' : List Slot} {o : Option (List Value)} {S' : List Value} (h : keepL L o = some (L', S')) : L' = L ∧ o = some S' := by
  cases o with
  | none => cases h
  | some S => cases h; exact ⟨rfl, rfl⟩
theorem inc_inv {L L' : List Slot} {k : Nat} {c : Int} {S S' : List Value} (h : inc L k c S = some (L', S')) : ∃ x, L[k]? = some (.val (.int x)) ∧ L' = L.set k (.val (.int (x + Int32.ofInt c))) ∧ S' = S := by
  unfold inc at h
  split at h
  · rename_i x hx
    cases h
    exact ⟨x, hx, rfl, rfl⟩
  · cases h
theorem bI_inv {f : Int32 → Int32 → Int32} {S S' : List Value} (h : bI f S = some S') : ∃ x y r, S = .int y :: .int x :: r ∧ S' = .int (f x y) :: r := by
  unfold bI at h; split at h
  · cases h; exact ⟨_, _, _, rfl, rfl⟩
  · cases h
theorem dI_inv {f : Int32 → Int32 → Int32} {S S' : List Value} (h : dI f S = some S') : ∃ x y r, S = .int y :: .int x :: r ∧ y ≠ 0 ∧ S' = .int (f x y) :: r := by
  unfold dI at h; split at h
  · split at h
    · cases h
    · rename_i q; cases h; exact ⟨_, _, _, rfl, q, rfl⟩
  · cases h
theorem uI_inv {f : Int32 → Value} {S S' : List Value} (h : uI f S = some S') : ∃ x r, S = .int x :: r ∧ S' = f x :: r := by
  unfold uI at h; split at h
  · cases h; exact ⟨_, _, rfl, rfl⟩
  · cases h
theorem uJ_inv {f : Int64 → Value} {S S' : List Value} (h : uJ f S = some S') : ∃ x r, S = .long x :: r ∧ S' = f x :: r := by
  unfold uJ at h; split at h
  · cases h; exact ⟨_, _, rfl, rfl⟩
  · cases h
theorem bJ_inv {f : Int64 → Int64 → Value} {S S' : List Value} (h : bJ f S = some S') : ∃ x y r, S = .long y :: .long x :: r ∧ S' = f x y :: r := by
  unfold bJ at h; split at h
  · cases h; exact ⟨_, _, _, rfl, rfl⟩
  · cases h
theorem bD_inv {f : UInt64 → UInt64 → Value} {S S' : List Value} (h : bD f S = some S') : ∃ x y r, S = .double y :: .double x :: r ∧ S' = f x y :: r := by
  unfold bD at h; split at h
  · cases h; exact ⟨_, _, _, rfl, rfl⟩
  · cases h
theorem sJ_inv {f : Int64 → Int32 → Int64} {S S' : List Value} (h : sJ f S = some S') : ∃ x y r, S = .int y :: .long x :: r ∧ S' = .long (f x y) :: r := by
  unfold sJ at h; split at h
  · cases h; exact ⟨_, _, _, rfl, rfl⟩
  · cases h
theorem fdup_inv {S S' : List Value} (h : fdup S = some S') : ∃ x r, S = x :: r ∧ cat x = 1 ∧ S' = x :: x :: r := by
  unfold fdup at h; split at h
  · split at h
    · rename_i q; cases h; exact ⟨_, _, rfl, q, rfl⟩
    · cases h
  · cases h
theorem fpop_inv {S S' : List Value} (h : fpop S = some S') : ∃ x, S = x :: S' ∧ cat x = 1 := by
  unfold fpop at h; split at h
  · split at h
    · rename_i q; cases h; exact ⟨_, rfl, q⟩
    · cases h
  · cases h
theorem fdx1_inv {S S' : List Value} (h : fdx1 S = some S') : ∃ x y r, S = x :: y :: r ∧ cat x = 1 ∧ cat y = 1 ∧ S' = x :: y :: x :: r := by
  unfold fdx1 at h; split at h
  · split at h
    · rename_i q; cases h; exact ⟨_, _, _, rfl, q.1, q.2, rfl⟩
    · cases h
  · cases h
theorem fd2_inv {S S' : List Value} (h : fd2 S = some S') : (∃ x r, S = .long x :: r ∧ S' = .long x :: .long x :: r) ∨ ∃ x y r, S = x :: y :: r ∧ cat x = 1 ∧ cat y = 1 ∧ S' = x :: y :: x :: y :: r := by
  unfold fd2 at h; split at h
  · cases h; exact Or.inl ⟨_, _, rfl, rfl⟩
  · split at h
    · rename_i q; cases h; exact Or.inr ⟨_, _, _, rfl, q.1, q.2, rfl⟩
    · cases h
  · cases h
end Tr
section Plain
variable {p : Program} {l : Launch} {e : Env} {R : Room} {s : State} {m : MethodId} {args : Array Value} {below : List Frame} {meth : Method} {c : Code} {T : State} {locs : List Loc} {cells slots : Nat} {ρ : Nat → Addr}
set_option maxHeartbeats 4000000 in
theorem plain_ok (X : Stand p l e R s m args below meth c T locs cells slots) (hx : p.tables.exec = Jvm.exec) {i : Instr} {L L' : List Slot} {S S' : List Value} {pc : Nat} (h : plainI i L S = some (L', S')) (hd : decode c.code pc = .ok (i, ilen i)) {target : State}
    (hr : Steps p.tables e below (T.setTop (mkF m (pc + ilen i) (tL ρ L') (tS ρ S'))) target) : Steps p.tables e below (T.setTop (mkF m pc (tL ρ L) (tS ρ S))) target := by
  cases i
  case aconst_null => cases h; exact XS.aconstNull X.here hx rfl hd hr
  case iconst k => cases h; exact XS.iconst X.here hx rfl hd hr
  case bipush k => cases h; exact XS.bipush X.here hx rfl hd hr
  case sipush k => cases h; exact XS.sipush X.here hx rfl hd hr
  case lconst k => cases h; exact XT.lconst X.here hx rfl hd hr
  case iload k =>
    obtain ⟨v, h1, h2, rfl, rfl⟩ := ld_inv h
    obtain ⟨x, rfl⟩ := isI_inv h2
    exact XS.iload X.here hx rfl hd (tL_get h1) hr
  case iload_n k =>
    obtain ⟨v, h1, h2, rfl, rfl⟩ := ld_inv h
    obtain ⟨x, rfl⟩ := isI_inv h2
    exact XS.iloadN X.here hx rfl hd (tL_get h1) hr
  case lload k =>
    obtain ⟨v, h1, h2, rfl, rfl⟩ := ld_inv h
    obtain ⟨x, rfl⟩ := isJ_inv h2
    exact XT.lload X.here hx rfl hd (tL_get h1) hr
  case lload_n k =>
    obtain ⟨v, h1, h2, rfl, rfl⟩ := ld_inv h
    obtain ⟨x, rfl⟩ := isJ_inv h2
    exact XT.lloadN X.here hx rfl hd (tL_get h1) hr
  case dload k =>
    obtain ⟨v, h1, h2, rfl, rfl⟩ := ld_inv h
    obtain ⟨x, rfl⟩ := isD_inv h2
    exact XS.dload X.here hx rfl hd (tL_get h1) hr
  case dload_n k =>
    obtain ⟨v, h1, h2, rfl, rfl⟩ := ld_inv h
    obtain ⟨x, rfl⟩ := isD_inv h2
    exact XS.dloadN X.here hx rfl hd (tL_get h1) hr
  case dstore k =>
    obtain ⟨v, rfl, h1, h2, rfl⟩ := st2_inv h
    obtain ⟨x, rfl⟩ := isD_inv h1
    exact XS.dstore X.here hx rfl hd rfl (sl2 (v := .double x) h2 rfl) hr
  case dstore_n k =>
    obtain ⟨v, rfl, h1, h2, rfl⟩ := st2_inv h
    obtain ⟨x, rfl⟩ := isD_inv h1
    exact XS.dstoreN X.here hx rfl hd rfl (sl2 (v := .double x) h2 rfl) hr
  case dconst d =>
    cases h
    match d, hd, hr with
    | 0, hd, hr => exact XS.dconst0 X.here hx rfl hd rfl hr
    | 1, hd, hr => exact XS.dconst1 X.here hx rfl hd rfl hr
  case i2d =>
    obtain ⟨rfl, h'⟩ := keepL_inv h
    obtain ⟨x, r, rfl, rfl⟩ := uI_inv h'
    exact XS.i2dS X.here hx rfl hd rfl rfl hr
  case dcmp o =>
    obtain ⟨rfl, h'⟩ := keepL_inv h
    obtain ⟨x, y, r, rfl, rfl⟩ := bD_inv h'
    exact XS.dcmpS X.here hx rfl hd rfl rfl hr
  case aload k =>
    obtain ⟨v, h1, h2, rfl, rfl⟩ := ld_inv h
    exact XS.aload X.here hx rfl hd (tL_get h1) (isA_ref h2) hr
  case aload_n k =>
    obtain ⟨v, h1, h2, rfl, rfl⟩ := ld_inv h
    exact XS.aloadN X.here hx rfl hd (tL_get h1) (isA_ref h2) hr
  case istore k =>
    obtain ⟨v, o, rfl, h1, h2, h3, rfl⟩ := st1_inv h
    obtain ⟨x, rfl⟩ := isI_inv h1
    exact XS.istore X.here hx rfl hd rfl (sl1 (v := .int x) h2 h3 rfl) hr
  case istore_n k =>
    obtain ⟨v, o, rfl, h1, h2, h3, rfl⟩ := st1_inv h
    obtain ⟨x, rfl⟩ := isI_inv h1
    exact XS.istoreN X.here hx rfl hd rfl (sl1 (v := .int x) h2 h3 rfl) hr
  case astore k =>
    obtain ⟨v, o, rfl, h1, h2, h3, rfl⟩ := st1_inv h
    exact XS.astore X.here hx rfl hd rfl (isA_ref h1) (sl1 h2 h3 (isA_cat h1)) hr
  case astore_n k =>
    obtain ⟨v, o, rfl, h1, h2, h3, rfl⟩ := st1_inv h
    exact XS.astoreN X.here hx rfl hd rfl (isA_ref h1) (sl1 h2 h3 (isA_cat h1)) hr
  case lstore k =>
    obtain ⟨v, rfl, h1, h2, rfl⟩ := st2_inv h
    obtain ⟨x, rfl⟩ := isJ_inv h1
    exact XT.lstore X.here hx rfl hd rfl (sl2 (v := .long x) h2 rfl) hr
  case lstore_n k =>
    obtain ⟨v, rfl, h1, h2, rfl⟩ := st2_inv h
    obtain ⟨x, rfl⟩ := isJ_inv h1
    exact XT.lstoreN X.here hx rfl hd rfl (sl2 (v := .long x) h2 rfl) hr
  case iinc k c0 =>
    obtain ⟨x, h1, rfl, rfl⟩ := inc_inv h
    exact XS.iinc X.here hx rfl hd (tL_get h1) (sl1 (v := .int (x + Int32.ofInt c0)) h1 rfl rfl) hr
  case iadd =>
    obtain ⟨rfl, h'⟩ := keepL_inv h
    obtain ⟨x, y, r, rfl, rfl⟩ := bI_inv h'
    exact XS.iadd X.here hx rfl hd rfl hr
  case isub =>
    obtain ⟨rfl, h'⟩ := keepL_inv h
    obtain ⟨x, y, r, rfl, rfl⟩ := bI_inv h'
    exact XS.isub X.here hx rfl hd rfl hr
  case imul =>
    obtain ⟨rfl, h'⟩ := keepL_inv h
    obtain ⟨x, y, r, rfl, rfl⟩ := bI_inv h'
    exact XS.imul X.here hx rfl hd rfl hr
  case iand =>
    obtain ⟨rfl, h'⟩ := keepL_inv h
    obtain ⟨x, y, r, rfl, rfl⟩ := bI_inv h'
    exact XS.iand X.here hx rfl hd rfl hr
  case ior =>
    obtain ⟨rfl, h'⟩ := keepL_inv h
    obtain ⟨x, y, r, rfl, rfl⟩ := bI_inv h'
    exact XT.ior X.here hx rfl hd rfl hr
  case ixor =>
    obtain ⟨rfl, h'⟩ := keepL_inv h
    obtain ⟨x, y, r, rfl, rfl⟩ := bI_inv h'
    exact XT.ixor X.here hx rfl hd rfl hr
  case ishl =>
    obtain ⟨rfl, h'⟩ := keepL_inv h
    obtain ⟨x, y, r, rfl, rfl⟩ := bI_inv h'
    exact XT.ishl X.here hx rfl hd rfl hr
  case ishr =>
    obtain ⟨rfl, h'⟩ := keepL_inv h
    obtain ⟨x, y, r, rfl, rfl⟩ := bI_inv h'
    exact XT.ishr X.here hx rfl hd rfl hr
  case iushr =>
    obtain ⟨rfl, h'⟩ := keepL_inv h
    obtain ⟨x, y, r, rfl, rfl⟩ := bI_inv h'
    exact XT.iushr X.here hx rfl hd rfl hr
  case irem =>
    obtain ⟨rfl, h'⟩ := keepL_inv h
    obtain ⟨x, y, r, rfl, hy, rfl⟩ := dI_inv h'
    exact iremM X hx rfl hd rfl hy hr
  case idiv =>
    obtain ⟨rfl, h'⟩ := keepL_inv h
    obtain ⟨x, y, r, rfl, hy, rfl⟩ := dI_inv h'
    exact XS.idiv X.here hx rfl hd rfl hy hr
  case ineg =>
    obtain ⟨rfl, h'⟩ := keepL_inv h
    obtain ⟨x, r, rfl, rfl⟩ := uI_inv h'
    exact XS.ineg X.here hx rfl hd rfl hr
  case i2l =>
    obtain ⟨rfl, h'⟩ := keepL_inv h
    obtain ⟨x, r, rfl, rfl⟩ := uI_inv h'
    exact XT.i2l X.here hx rfl hd rfl hr
  case i2b =>
    obtain ⟨rfl, h'⟩ := keepL_inv h
    obtain ⟨x, r, rfl, rfl⟩ := uI_inv h'
    exact XT.i2b X.here hx rfl hd rfl hr
  case i2c =>
    obtain ⟨rfl, h'⟩ := keepL_inv h
    obtain ⟨x, r, rfl, rfl⟩ := uI_inv h'
    exact XT.i2c X.here hx rfl hd rfl hr
  case i2s =>
    obtain ⟨rfl, h'⟩ := keepL_inv h
    obtain ⟨x, r, rfl, rfl⟩ := uI_inv h'
    exact XT.i2s X.here hx rfl hd rfl hr
  case l2i =>
    obtain ⟨rfl, h'⟩ := keepL_inv h
    obtain ⟨x, r, rfl, rfl⟩ := uJ_inv h'
    exact XT.l2i X.here hx rfl hd rfl hr
  case ladd =>
    obtain ⟨rfl, h'⟩ := keepL_inv h
    obtain ⟨x, y, r, rfl, rfl⟩ := bJ_inv h'
    exact XT.ladd X.here hx rfl hd rfl hr
  case lsub =>
    obtain ⟨rfl, h'⟩ := keepL_inv h
    obtain ⟨x, y, r, rfl, rfl⟩ := bJ_inv h'
    exact XT.lsub X.here hx rfl hd rfl hr
  case lmul =>
    obtain ⟨rfl, h'⟩ := keepL_inv h
    obtain ⟨x, y, r, rfl, rfl⟩ := bJ_inv h'
    exact XT.lmul X.here hx rfl hd rfl hr
  case land =>
    obtain ⟨rfl, h'⟩ := keepL_inv h
    obtain ⟨x, y, r, rfl, rfl⟩ := bJ_inv h'
    exact XT.land X.here hx rfl hd rfl hr
  case lor =>
    obtain ⟨rfl, h'⟩ := keepL_inv h
    obtain ⟨x, y, r, rfl, rfl⟩ := bJ_inv h'
    exact XT.lor X.here hx rfl hd rfl hr
  case lxor =>
    obtain ⟨rfl, h'⟩ := keepL_inv h
    obtain ⟨x, y, r, rfl, rfl⟩ := bJ_inv h'
    exact XT.lxor X.here hx rfl hd rfl hr
  case lcmp =>
    obtain ⟨rfl, h'⟩ := keepL_inv h
    obtain ⟨x, y, r, rfl, rfl⟩ := bJ_inv h'
    exact XT.lcmp X.here hx rfl hd rfl hr
  case lshl =>
    obtain ⟨rfl, h'⟩ := keepL_inv h
    obtain ⟨x, y, r, rfl, rfl⟩ := sJ_inv h'
    exact XT.lshl X.here hx rfl hd rfl hr
  case lshr =>
    obtain ⟨rfl, h'⟩ := keepL_inv h
    obtain ⟨x, y, r, rfl, rfl⟩ := sJ_inv h'
    exact XT.lshr X.here hx rfl hd rfl hr
  case lushr =>
    obtain ⟨rfl, h'⟩ := keepL_inv h
    obtain ⟨x, y, r, rfl, rfl⟩ := sJ_inv h'
    exact XT.lushr X.here hx rfl hd rfl hr
  case dup =>
    obtain ⟨rfl, h'⟩ := keepL_inv h
    obtain ⟨x, r, rfl, hc, rfl⟩ := fdup_inv h'
    exact XS.dup X.here hx rfl hd rfl (by rw [cat_eq, cat_tv]; exact hc) hr
  case pop =>
    obtain ⟨rfl, h'⟩ := keepL_inv h
    obtain ⟨x, rfl, hc⟩ := fpop_inv h'
    exact XT.pop X.here hx rfl hd rfl (by rw [cat_eq, cat_tv]; exact hc) hr
  case dup_x1 =>
    obtain ⟨rfl, h'⟩ := keepL_inv h
    obtain ⟨x, y, r, rfl, hc, hc', rfl⟩ := fdx1_inv h'
    exact XT.dupX1 X.here hx rfl hd rfl (by rw [cat_eq, cat_tv]; exact hc) (by rw [cat_eq, cat_tv]; exact hc') hr
  case dup2 =>
    obtain ⟨rfl, h'⟩ := keepL_inv h
    rcases fd2_inv h' with ⟨x, r, rfl, rfl⟩ | ⟨x, y, r, rfl, hc, hc', rfl⟩
    · exact XT.dup2L X.here hx rfl hd rfl hr
    · exact XT.dup2 X.here hx rfl hd rfl (by rw [cat_eq, cat_tv]; exact hc) (by rw [cat_eq, cat_tv]; exact hc') hr
  all_goals (exact absurd h (fun q => by cases q))
theorem acmp_tv (inj : ∀ i j, ρ i = ρ j → i = j) (cd : ACond) {x y : Value} (h1 : isA x = true) (h2 : isA y = true) : XT.acmp cd (tv ρ x) (tv ρ y) = XT.acmp cd x y := by
  have e : (tv ρ x = tv ρ y) ↔ x = y := by
    rcases isA_inv h1 with rfl | ⟨a, rfl⟩ <;> rcases isA_inv h2 with rfl | ⟨b, rfl⟩
    · exact Iff.rfl
    · exact ⟨fun q => (by cases q), fun q => (by cases q)⟩
    · exact ⟨fun q => (by cases q), fun q => (by cases q)⟩
    · exact ⟨fun q => (by rw [inj _ _ (Value.ref.inj q)]), fun q => (by rw [q])⟩
  cases cd
  · show decide (tv ρ x = tv ρ y) = decide (x = y)
    exact decide_eq_decide.mpr e
  · show decide (tv ρ x ≠ tv ρ y) = decide (x ≠ y)
    exact decide_eq_decide.mpr (not_congr e)
theorem br_ok (inj : ∀ i j, ρ i = ρ j → i = j) (X : Stand p l e R s m args below meth c T locs cells slots) (hx : p.tables.exec = Jvm.exec) {i : Instr} {S r : List Value} {b : Bool} {o : Int} {pc pc' : Nat} {L : Array Slot} (h : brI i S = some (b, o, r)) (hd : decode c.code pc = .ok (i, ilen i))
    (hp : (b = true ∧ 0 ≤ (pc : Int) + o ∧ ((pc : Int) + o).toNat = pc') ∨ (b = false ∧ pc' = pc + ilen i)) {target : State}
    (hr : Steps p.tables e below (T.setTop (mkF m pc' L (tS ρ r))) target) : Steps p.tables e below (T.setTop (mkF m pc L (tS ρ S))) target := by
  cases i
  case goto o' =>
    cases h
    rcases hp with ⟨-, ho, hp⟩ | ⟨q, -⟩
    · exact XS.goto X.here hx rfl (pc0 := pc) rfl hd ho hp hr
    · cases q
  case ifCond cd o' =>
    simp only [brI] at h
    split at h
    · cases h
      rcases hp with ⟨hb, ho, hp⟩ | ⟨hb, rfl⟩
      · exact XS.ifYes X.here hx rfl (pc0 := pc) rfl hd rfl hb ho hp hr
      · exact XS.ifNo X.here hx rfl hd rfl hb hr
    · cases h
  case if_icmp cd o' =>
    simp only [brI] at h
    split at h
    · cases h
      rcases hp with ⟨hb, ho, hp⟩ | ⟨hb, rfl⟩
      · exact XS.icmpYes X.here hx rfl (pc0 := pc) rfl hd rfl hb ho hp hr
      · exact XS.icmpNo X.here hx rfl hd rfl hb hr
    · cases h
  case if_acmp cd o' =>
    simp only [brI] at h
    split at h
    · split at h
      · rename_i q
        simp only [Bool.and_eq_true] at q
        cases h
        rcases hp with ⟨hb, ho, hp⟩ | ⟨hb, rfl⟩
        · exact XT.acmpYes X.here hx rfl (pc0 := pc) rfl hd rfl (isA_ref q.1) (isA_ref q.2) (by rw [acmp_tv inj _ q.1 q.2]; exact hb) ho hp hr
        · exact XT.acmpNo X.here hx rfl hd rfl (isA_ref q.1) (isA_ref q.2) (by rw [acmp_tv inj _ q.1 q.2]; exact hb) hr
      · cases h
    · cases h
  case ifnull o' =>
    simp only [brI] at h
    split at h
    · cases h
      rcases hp with ⟨-, ho, hp⟩ | ⟨q, -⟩
      · exact XS.ifnullYes X.here hx rfl (pc0 := pc) rfl hd rfl ho hp hr
      · cases q
    · cases h
      rcases hp with ⟨q, -⟩ | ⟨-, rfl⟩
      · cases q
      · exact XS.ifnullNo X.here hx rfl hd rfl hr
    · cases h
  case ifnonnull o' =>
    simp only [brI] at h
    split at h
    · cases h
      rcases hp with ⟨q, -⟩ | ⟨-, rfl⟩
      · cases q
      · exact XT.ifnonnullNo X.here hx rfl hd rfl hr
    · cases h
      rcases hp with ⟨-, ho, hp⟩ | ⟨q, -⟩
      · exact XT.ifnonnullYes X.here hx rfl (pc0 := pc) rfl hd rfl ho hp hr
      · cases q
    · cases h
  all_goals (exact absurd h (fun q => by cases q))
end Plain
end Jvm.MM
namespace Jvm.MM
open Jvm Jvm.ClassFile Sem Op Lib Jvm.Free Jvm.Stand Jvm.LawKit Jvm.RoadKit
/-! ### the picture of the heap, what the tables must say -/
section Pics
variable (P : Prg) (Z : State) (a0 : Array Value) (ρ : Nat → Addr) (n0 : Nat)
def ObjOk (h : Heap) (i : Nat) : Obj → Prop
  | (.inl ty, vs) => ∃ c : Cell, Arr Z h (ρ i) c ty ∧ c.slots = (vs.map (tv ρ)).toArray ∧ (P.j0 ≤ i → ∀ C, ty = .object C → Ovr Z c.cls C) ∧ (P.j0 ≤ i → ty = .int → Exa Z h (ρ i) "[I")
  | (.inr cid, vs) => cid < P.cs.length → Exa Z h (ρ i) (P.cname cid) ∧ ∀ (q : Nat) (v : Value) (fd : String × String × String × FieldType), vs[q]? = some v → (P.flds cid)[q]? = some fd → Fld Z h (ρ i) fd.1 fd.2.1 fd.2.2.1 (tv ρ v)
def Pic (h : Heap) (H : Hp) : Prop := P.j0 ≤ H.length ∧ h.size = n0 + (H.length - P.j0) ∧ (∀ (i : Nat) (o : Obj), H[i]? = some o → ObjOk P Z ρ h i o) ∧ ∀ q ∈ P.sv, Sta Z h q.1 q.2.1 q.2.2.1 (tv ρ q.2.2.2)
def RhoOk : Prop := (∀ i, P.j0 ≤ i → ρ i = n0 + (i - P.j0)) ∧ ∀ i j, ρ i = ρ j → i = j
def Wd (d : Jvm.Cond) : Prop := d.before a0 Z = true
def ClsOk (C : Cls) : Prop := Wd Z a0 (.instantiable C.1 C.2.1) ∧ (∀ fd ∈ C.2.2, Laid Z a0 C.1 fd.1 fd.2.1 fd.2.2.1 ∧ parseFieldDescriptor fd.2.2.1 = some fd.2.2.2) ∧ (C.2.2.map fun fd => fd.2.1).Nodup
def LnkOk (j idx : Nat) (O n d : String) : Prop := ∃ R0, Wd Z a0 (.fieldLink (P.mt j).y.cls idx R0 n d) ∧ Via Z R0 O n d
def FlOk (x : Nat × Nat × Nat × Nat) : Prop := ∃ fd, (P.flds x.2.2.1)[x.2.2.2]? = some fd ∧ LnkOk P Z a0 x.1 x.2.1 fd.1 fd.2.1 fd.2.2.1
def FwOk (x : Nat × Nat × Nat × Nat) : Prop := ∃ C, P.cs[x.2.2.1]? = some C ∧ ClsOk Z a0 C ∧ ∃ fd, C.2.2[x.2.2.2]? = some fd ∧ LnkOk P Z a0 x.1 x.2.1 fd.1 fd.2.1 fd.2.2.1 ∧ (Wd Z a0 (.lays C.1 fd.1 fd.2.1 fd.2.2.1) ∨ (Wd Z a0 (.laysFinal C.1 fd.1 fd.2.1 fd.2.2.1) ∧ (P.mt x.1).y.cls = fd.1 ∧ (P.mt x.1).y.name = "<init>"))
def SfOk (x : Nat × Nat × Nat) : Prop := ∃ d, P.sv[x.2.2]? = some d ∧ LnkOk P Z a0 x.1 x.2.1 d.1 d.2.1 d.2.2.1
def NwOk (x : Nat × Nat × Nat) : Prop := ∃ C, P.cs[x.2.2]? = some C ∧ ClsOk Z a0 C ∧ Wd Z a0 (.classLink (P.mt x.1).y.cls x.2.1 C.1) ∧ Wd Z a0 (.initialized C.1)
def NaOk (x : Nat × Nat × Nat) : Prop := Wd Z a0 (.classLink (P.mt x.1).y.cls x.2.1 (P.cname x.2.2)) ∧ Wd Z a0 (.arrayOver (.object (P.cname x.2.2)))
def CaOk (x : Nat × Nat × Kd × Bool) : Prop := ∃ K, Wd Z a0 (.classLink (P.mt x.1).y.cls x.2.1 K) ∧ (∀ (h : Heap) (i : Nat) (vs : List Value), ObjOk P Z ρ h i (x.2.2.1, vs) → Ins Z h (ρ i) K x.2.2.2) ∧ (x.2.2.2 = false → ∃ cid, x.2.2.1 = .inr cid ∧ cid < P.cs.length)
def KiOk (x : Nat × Nat × Int32) : Prop := Wd Z a0 (.constant (P.mt x.1).y.cls x.2.1 x.2.2)
def KlOk (x : Nat × Nat × Int64) : Prop := Wd Z a0 (.constantLong (P.mt x.1).y.cls x.2.1 x.2.2)
abbrev noMH (c : String) : Prop := c ≠ "java/lang/invoke/MethodHandle" ∧ c ≠ "java/lang/invoke/VarHandle"
def MthOk (M : Mth) : Prop := Wd Z a0 (.code M.y M.code M.mx M.ret) ∧ Wd Z a0 (.initialized M.y.cls) ∧ plainFor M.y = true ∧ noMH M.y.cls
def Arity (d : String) (np : Nat) : Prop := ∀ sig, parseMethodDescriptor d = some sig → np = sig.parameters.length
def IcOk (x : Nat × Nat × Nat × Nat × Nat) : Prop :=
  match x with
  | (j, idx, 0, np, j') => Wd Z a0 (.methodLink (P.mt j).y.cls idx (P.mt j').y) ∧ Wd Z a0 (.static (P.mt j').y) ∧ MthOk Z a0 (P.mt j') ∧ Arity (P.mt j').y.desc np
  | (j, idx, 1, np, j') => (P.mt j').y.name = "<init>" ∧ Wd Z a0 (.methodLink (P.mt j).y.cls idx (P.mt j').y) ∧ Wd Z a0 (.instanceMethod (P.mt j').y) ∧ MthOk Z a0 (P.mt j') ∧ (P.mt j').ret = none ∧ Arity (P.mt j').y.desc np
  | (j, idx, 7, _, _) => Wd Z a0 (.methodLink (P.mt j).y.cls idx ⟨"[I", "clone", "()Ljava/lang/Object;"⟩) ∧ Wd Z a0 (.sameMethod "[I" "java/lang/Object" "clone" "()Ljava/lang/Object;") ∧ Wd Z a0 (.native ⟨"java/lang/Object", "clone", "()Ljava/lang/Object;"⟩) ∧ Wd Z a0 (.instanceMethod ⟨"java/lang/Object", "clone", "()Ljava/lang/Object;"⟩) ∧ Wd Z a0 (.selects "[I" ⟨"[I", "clone", "()Ljava/lang/Object;"⟩ ⟨"java/lang/Object", "clone", "()Ljava/lang/Object;"⟩) ∧ Wd Z a0 (.castable "[I" "java/lang/Cloneable")
  | (j, idx, 6, _, _) => Wd Z a0 (.methodLink (P.mt j).y.cls idx Lib.objectInit) ∧ Wd Z a0 (.instanceMethod Lib.objectInit) ∧ Wd Z a0 (.code Lib.objectInit ⟨#[0xb1]⟩ 1 none)
  | _ => True
def NfOk (y : MethodName) : Prop := (∃ C, Wd Z a0 (.selects C y y)) ∨ (∃ S, Wd Z a0 (.superclass y.cls S)) ∨ Wd Z a0 (.noSuperclass y.cls)
def VcOk (x : Nat × Nat × Nat × Nat × Nat) : Prop :=
  match x with
  | (j, idx, cid, np, j') => ∃ y : MethodName, Wd Z a0 (.methodLink (P.mt j).y.cls idx y) ∧ Wd Z a0 (.declares y) ∧ NfOk Z a0 y ∧ Wd Z a0 (.selects (P.cname cid) y (P.mt j').y) ∧ Wd Z a0 (.instanceMethod (P.mt j').y) ∧ MthOk Z a0 (P.mt j') ∧ noMH y.cls ∧ Arity y.desc np ∧ cid < P.cs.length
def PrgOk : Prop := (∀ x ∈ P.fl, FlOk P Z a0 x) ∧ (∀ x ∈ P.fw, FwOk P Z a0 x) ∧ (∀ x ∈ P.sf, SfOk P Z a0 x) ∧ (∀ x ∈ P.nw, NwOk P Z a0 x) ∧ (∀ x ∈ P.na, NaOk P Z a0 x) ∧ (∀ ty ∈ P.ats, Wd Z a0 (.arrayClass ty)) ∧ (∀ x ∈ P.ca, CaOk P Z a0 ρ x) ∧ (∀ x ∈ P.ki, KiOk P Z a0 x) ∧ (∀ x ∈ P.kl, KlOk P Z a0 x) ∧ (∀ x ∈ P.ic, IcOk P Z a0 x) ∧ ∀ x ∈ P.vc, VcOk P Z a0 x
def Ctx (j : Nat) (p : Program) (s : State) (m : MethodId) (meth : Method) (c : Code) : Prop := p.tables.exec = Jvm.exec ∧ Z.Warmed39 s.vm ∧ s.vm.findClass (P.mt j).y.cls = some m.cls ∧ c.code = (P.mt j).code ∧ c.maxLocals = (P.mt j).mx ∧ meth.sig.returnType = (P.mt j).ret ∧ meth.name = (P.mt j).y.name ∧ meth.locks = false
end Pics
section PicLaws
variable {P : Prg} {Z : State} {a0 : Array Value} {ρ : Nat → Addr} {n0 : Nat} {h h' : Heap} {H : Hp}
theorem ObjOk.ext (E : Ext h h') {i : Nat} {o : Obj} (K : ObjOk P Z ρ h i o) : ObjOk P Z ρ h' i o := by
  obtain ⟨kd, vs⟩ := o
  cases kd with
  | inl ty => obtain ⟨c, k1, k2, k3, k4⟩ := K; exact ⟨c, k1.ext E, k2, k3, fun q t => (k4 q t).ext E⟩
  | inr cid => exact fun hl => ⟨(K hl).1.ext E, fun q v fd h1 h2 => ((K hl).2 q v fd h1 h2).ext E⟩
theorem ObjOk.other {b : Addr} {sl : Nat} {v : Value} (W : Wr h h' b sl v) {i : Nat} {o : Obj} (hne : ρ i ≠ b) (K : ObjOk P Z ρ h i o) : ObjOk P Z ρ h' i o := by
  obtain ⟨kd, vs⟩ := o
  cases kd with
  | inl ty => obtain ⟨c, k1, k2, k3, k4⟩ := K; exact ⟨c, k1.other W hne, k2, k3, fun q t => (k4 q t).wr W⟩
  | inr cid => exact fun hl => ⟨(K hl).1.wr W, fun q v fd h1 h2 => ((K hl).2 q v fd h1 h2).other W (Or.inl hne)⟩
theorem Pic.push (K : Pic P Z ρ n0 h H) (E : Ext h h') (hs : h'.size = h.size + 1) {o : Obj} (ho : ObjOk P Z ρ h' H.length o) : Pic P Z ρ n0 h' (H ++ [o]) := by
  obtain ⟨k1, k2, k3, k4⟩ := K
  refine ⟨by simp only [List.length_append, List.length_cons, List.length_nil]; omega, by simp only [List.length_append, List.length_cons, List.length_nil]; omega, fun i o' hi => ?_, fun q hq => (k4 q hq).ext E⟩
  by_cases hl : i < H.length
  · rw [List.getElem?_append_left hl] at hi
    exact (k3 i o' hi).ext E
  · rw [List.getElem?_append_right (by omega)] at hi
    obtain ⟨hi1, hi2⟩ := List.getElem?_eq_some_iff.mp hi
    simp only [List.length_cons, List.length_nil] at hi1
    have e : i = H.length := by omega
    subst e
    simp at hi2
    subst hi2
    exact ho
theorem Pic.addr (RO : RhoOk P ρ n0) (K : Pic P Z ρ n0 h H) : ρ H.length = h.size := by
  rw [RO.1 _ K.1, K.2.1]
theorem Pic.write (RO : RhoOk P ρ n0) (K : Pic P Z ρ n0 h H) {a sl : Nat} {v : Value} (W : Wr h h' (ρ a) sl v) {o o' : Obj} (ha : H[a]? = some o) (ho : ObjOk P Z ρ h' a o') : Pic P Z ρ n0 h' (H.set a o') := by
  obtain ⟨k1, k2, k3, k4⟩ := K
  refine ⟨by simpa using k1, by rw [W.size, List.length_set]; exact k2, fun i u hi => ?_, fun q hq => (k4 q hq).wr W⟩
  by_cases e : a = i
  · subst e
    rw [List.getElem?_set_self (List.getElem?_eq_some_iff.mp ha).1] at hi
    cases hi
    exact ho
  · rw [List.getElem?_set_ne e] at hi
    exact (k3 i u hi).other W fun q => e (RO.2 _ _ q).symm
theorem dft_eq (ty : FieldType) : dft ty = defaultValue ty := by cases ty <;> rfl
theorem tv_dft (ty : FieldType) : tv ρ (dft ty) = defaultValue ty := by cases ty <;> rfl
theorem vty_ok {ty : FieldType} {v v' : Value} (h : vty ty v = some v') : narrow ty (tv ρ v) = tv ρ v' ∧ fits ty (tv ρ v') = true := by
  cases ty
  case boolean => cases v <;> cases h; exact ⟨rfl, fits_nar_bool _⟩
  case byte => cases v <;> cases h; exact ⟨rfl, fits_nar_byte _⟩
  case char => cases v <;> cases h; exact ⟨rfl, fits_nar_char _⟩
  case short => cases v <;> cases h; exact ⟨rfl, fits_nar_short _⟩
  case int => cases v <;> cases h; exact ⟨rfl, rfl⟩
  case long => cases v <;> cases h; exact ⟨rfl, rfl⟩
  case double => cases v <;> cases h; exact ⟨rfl, rfl⟩
  case float => cases v <;> cases h
  case object c =>
    cases v <;> cases h
    · exact ⟨rfl, rfl⟩
    · exact ⟨rfl, rfl⟩
  case array c =>
    cases v <;> cases h
    · exact ⟨rfl, rfl⟩
    · exact ⟨rfl, rfl⟩
theorem fl_lt {P : Prg} {cid q : Nat} {fd : String × String × String × FieldType} (h : (P.flds cid)[q]? = some fd) : cid < P.cs.length := by
  unfold Prg.flds at h
  split at h
  · rename_i hC
    exact (List.getElem?_eq_some_iff.mp hC).1
  · simp at h
theorem cname_of {P : Prg} {cid : Nat} {C : Cls} (h : P.cs[cid]? = some C) : P.cname cid = C.1 ∧ P.flds cid = C.2.2 ∧ P.nsl cid = C.2.1 := by
  simp only [Prg.cname, Prg.flds, Prg.nsl, h]; exact ⟨trivial, trivial, trivial⟩
end PicLaws
section NewLaws
variable {p : Program} {l : Launch} {e : Env} {R : Room} {s : State} {m : MethodId} {args : Array Value} {below : List Frame} {meth : Method} {c : Code} {T : State} {locs : List Loc} {cells slots : Nat} {Z : State} {a0 : Array Value}
theorem ext_push (h : Heap) (x : Cell) : Ext h (h.push x) := ⟨by simp, fun a c q => by rw [Array.getElem?_push_lt (Array.getElem?_eq_some_iff.mp q).1]; exact (Array.getElem?_eq_getElem _).symm.trans q⟩
theorem newO1 (X : Stand p l e R s m args below meth c T locs cells slots) (hx : p.tables.exec = Jvm.exec) (hZ : Z.Warmed39 s.vm) {own C : String} {index n : Nat} (hown : s.vm.findClass own = some m.cls) (w : (Jvm.Cond.classLink own index C).before a0 Z = true) (wi : (Jvm.Cond.instantiable C n).before a0 Z = true) (wz : (Jvm.Cond.initialized C).before a0 Z = true)
    {g : JFrame} (hg : g.method = m) (hd : decode c.code g.pc = .ok (.new index, 3)) (hc : cells + 1 ≤ R.cells) (hl : slots + n ≤ R.slots) :
    ∃ T', Stand p l e R s m args below meth c T' locs (cells + 1) (slots + n) ∧ Ext T.heap T'.heap ∧ T'.heap.size = T.heap.size + 1 ∧ Exa Z T'.heap T.heap.size C ∧ (∀ {O nm d : String} {ty : FieldType}, Laid Z a0 C O nm d → parseFieldDescriptor d = some ty → Fld Z T'.heap T.heap.size O nm d (defaultValue ty)) ∧
      ∀ target, Steps p.tables e below (T'.setTop { g with pc := g.pc + 3, stack := .ref T.heap.size :: g.stack }) target → Steps p.tables e below (T.setTop g) target := by
  obtain ⟨vm', cC, kC, h1, h2, h3, h4, X', st⟩ := X.newCold hx hown (mv hZ w) (mv hZ wi) (mv hZ wz) hg hd hc hl
  rw [hZ.alike.findClass] at h1
  obtain ⟨kZ, z1, -⟩ := Vm.findClass_spec h1
  obtain ⟨k', z2, z3⟩ := hZ.alike.2.2 _ _ z1
  cases h2.symm.trans z2
  have ei : kC.instanceTypes = kZ.instanceTypes := by rw [z3]
  have hN : (T.heap.push { cls := cC, slots := kC.instanceTypes.map defaultValue, vm := .none })[T.heap.size]? = some { cls := cC, slots := kC.instanceTypes.map defaultValue, vm := .none } := by simp
  refine ⟨_, X', ext_push T.heap _, ?_, ⟨_, kZ, hN, h1, z1, rfl, fun _ => by simp [ei]⟩, fun {O nm d ty} L ht => ?_, st⟩
  · show (T.heap.push _).size = _
    simp
  · obtain ⟨c1, k1, cf, kf, i, f, a1, a2, a3, a4, a5, a6, -⟩ := L.spec
    cases h1.symm.trans a1
    cases z1.symm.trans a2
    exact ⟨_, cf, kf, i, f, hN, a3, a4, by simp, rfl, a5, by simp [ei, a6, (State.fieldFound?_type a3 ht).2]⟩
theorem newP1 (X : Stand p l e R s m args below meth c T locs cells slots) (hx : p.tables.exec = Jvm.exec) (hZ : Z.Warmed39 s.vm) {aty : ArrayType} (w : (Jvm.Cond.arrayClass (newarray.typeOf aty)).before a0 Z = true) {g : JFrame} (hg : g.method = m) (hd : decode c.code g.pc = .ok (.newarray aty, 2)) {n : Int32} {rest : List Value} (hs : g.stack = .int n :: rest)
    (hn : ¬ n < 0) {cap : Nat} (hcap : n.toNatClampNeg ≤ cap) (hb : cap * 8 ≤ 536870912) (hc : cells + 1 ≤ R.cells) (hl : slots + cap ≤ R.slots) :
    ∃ T' cA, Stand p l e R s m args below meth c T' locs (cells + 1) (slots + cap) ∧ Ext T.heap T'.heap ∧ T'.heap.size = T.heap.size + 1 ∧ Arr Z T'.heap T.heap.size (RoadKit.newA cA (newarray.typeOf aty) n) (newarray.typeOf aty) ∧ (newarray.typeOf aty = .int → Exa Z T'.heap T.heap.size "[I") ∧
      ∀ target, Steps p.tables e below (T'.setTop { g with pc := g.pc + 2, stack := .ref T.heap.size :: rest }) target → Steps p.tables e below (T.setTop g) target := by
  have hcb : componentBytes (newarray.typeOf aty) ≤ 8 := by cases aty <;> decide
  obtain ⟨cA, kA, comp, h1, h2, h3, X', st⟩ := X.newarrayPrim hx (mvA hZ w) hg hd hs hn (Nat.le_trans (Nat.mul_le_mul hcap hcb) hb) hc (by omega)
  rw [hZ.alike.findClass] at h1
  obtain ⟨kZ, z1, -⟩ := Vm.findClass_spec h1
  obtain ⟨k', z2, z3⟩ := hZ.alike.2.2 _ _ z1
  cases h2.symm.trans z2
  have kk : kZ.kind = .array comp (newarray.typeOf aty) := by rw [← h3, z3]
  have hN : (T.heap.push (RoadKit.newA cA (newarray.typeOf aty) n))[T.heap.size]? = some (RoadKit.newA cA (newarray.typeOf aty) n) := by simp
  refine ⟨_, cA, X'.more (Nat.le_refl _) (by omega), ext_push T.heap _, ?_, ⟨hN, ⟨by simp [RoadKit.newA], kZ, z1, comp, kk⟩, by simp [RoadKit.newA]⟩, fun ti => ⟨_, kZ, hN, by rw [ti] at h1; exact h1, z1, rfl, fun q => by rw [kk] at q; cases q⟩, st⟩
  · show (T.heap.push _).size = _
    simp
theorem newR1 (X : Stand p l e R s m args below meth c T locs cells slots) (hx : p.tables.exec = Jvm.exec) (hZ : Z.Warmed39 s.vm) {own C : String} {index : Nat} (hown : s.vm.findClass own = some m.cls) (w1 : (Jvm.Cond.classLink own index C).before a0 Z = true) (w2 : (Jvm.Cond.arrayOver (.object C)).before a0 Z = true)
    {g : JFrame} (hg : g.method = m) (hd : decode c.code g.pc = .ok (.anewarray index, 3)) {n : Int32} {rest : List Value} (hs : g.stack = .int n :: rest) (hn : ¬ n < 0) {cap : Nat} (hcap : n.toNatClampNeg ≤ cap) (hb : cap * 8 ≤ 536870912) (hc : cells + 1 ≤ R.cells) (hl : slots + cap ≤ R.slots) :
    ∃ T' cA, Stand p l e R s m args below meth c T' locs (cells + 1) (slots + cap) ∧ Ext T.heap T'.heap ∧ T'.heap.size = T.heap.size + 1 ∧ Arr Z T'.heap T.heap.size (RoadKit.newA cA (.object C) n) (.object C) ∧ Ovr Z cA C ∧
      ∀ target, Steps p.tables e below (T'.setTop { g with pc := g.pc + 3, stack := .ref T.heap.size :: rest }) target → Steps p.tables e below (T.setTop g) target := by
  have w2' : (Jvm.Cond.arrayOver (.object C)).before args s = true := Jvm.Cond.arrayOver_alike hZ.alike w2
  obtain ⟨vm₁, cA, kA, comp, -, h1, h2, h3, h4, X', st⟩ := X.anewarrayRefK hx hown (mv hZ w1) w2' hg hd hs hn (by omega) hc (by omega)
  rw [hZ.alike.findClass] at h1
  obtain ⟨kZ, z1, -⟩ := Vm.findClass_spec h1
  obtain ⟨k', z2, z3⟩ := hZ.alike.2.2 _ _ z1
  cases h2.symm.trans z2
  refine ⟨_, cA, X'.more (Nat.le_refl _) (by omega), ext_push T.heap _, ?_, ⟨?_, ⟨by simp [RoadKit.newA], kZ, z1, comp, by rw [← h3, z3]⟩, by simp [RoadKit.newA]⟩, ⟨kZ, comp, z1, by rw [← h3, z3], by rw [← hZ.alike.findClass]; exact h4⟩, st⟩
  · show (T.heap.push _).size = _
    simp
  · show (T.heap.push _)[T.heap.size]? = _
    simp [RoadKit.newA, defaultValue]
theorem clone1 (X : Stand p l e R s m args below meth c T locs cells slots) (hx : p.tables.exec = Jvm.exec) (hZ : Z.Warmed39 s.vm) {own ad : String} {index : Nat} (hown : s.vm.findClass own = some m.cls)
    (w1 : (Jvm.Cond.methodLink own index ⟨ad, "clone", "()Ljava/lang/Object;"⟩).before a0 Z = true) (w2 : (Jvm.Cond.sameMethod ad "java/lang/Object" "clone" "()Ljava/lang/Object;").before a0 Z = true) (w3 : (Jvm.Cond.native ⟨"java/lang/Object", "clone", "()Ljava/lang/Object;"⟩).before a0 Z = true)
    (w4 : (Jvm.Cond.instanceMethod ⟨"java/lang/Object", "clone", "()Ljava/lang/Object;"⟩).before a0 Z = true) (w5 : (Jvm.Cond.selects ad ⟨ad, "clone", "()Ljava/lang/Object;"⟩ ⟨"java/lang/Object", "clone", "()Ljava/lang/Object;"⟩).before a0 Z = true) (w6 : (Jvm.Cond.castable ad "java/lang/Cloneable").before a0 Z = true)
    {a : Addr} {cl : Cell} {ty : FieldType} (A : Arr Z T.heap a cl ty) (E : Exa Z T.heap a ad) (F : FitC Z cl) {g : JFrame} (hg : g.method = m) (hsize : g.locals.size = c.maxLocals) {rest : List Value} (hs : g.stack = .ref a :: rest) (hd : decode c.code g.pc = .ok (.invokevirtual index, 3))
    (hf : 1 ≤ R.frames) (hl : 2 * g.monitorRoom + (rest.map fun v => v.category).sum + 14 ≤ R.locals) {cap : Nat} (hcap : cl.slots.size ≤ cap) (hc : cells + 1 ≤ R.cells) (hsl : slots + cap ≤ R.slots) :
    ∃ T', Stand p l e R s m args below meth c T' locs (cells + 1) (slots + cap) ∧ Ext T.heap T'.heap ∧ T'.heap.size = T.heap.size + 1 ∧ (∃ cl', cl'.slots = cl.slots ∧ Arr Z T'.heap T.heap.size cl' ty) ∧ Exa Z T'.heap T.heap.size ad ∧
      ∀ target, Steps p.tables e below (T'.setTop { g with pc := g.pc + 3, stack := .ref T.heap.size :: rest }) target → Steps p.tables e below (T.setTop g) target := by
  obtain ⟨c2, k, e1, e2, e3, -, e5⟩ := E
  cases A.1.symm.trans e1
  obtain ⟨c1, cC, g1, g2, g3⟩ := Jvm.Cond.castable_spec w6
  cases e2.symm.trans g1
  have hal : Z.vm.Alike T.vm := hZ.alike.trans X.warmed.alike
  obtain ⟨vm', X', st⟩ := X.cloneArray hx hown (mv hZ w1) (mv hZ w2) (mv hZ w3) (mv hZ w4) (mv hZ w5) (a := a) A.1 A.2.1.1 A.2.2 (by rw [hZ.alike.findClass]; exact e2) (by rw [hZ.alike.findClass]; exact g2) (by rw [hZ.alike.assignable]; exact g3)
    (fun i v hv => by have q := F i v hv; rw [← State.fitsSlot_setVm hal] at q; exact q) hg hsize hs hd hf hl hc (by omega)
    (by obtain ⟨-, k2, hk2, comp, hkind⟩ := A.2.1; rw [hZ.alike.clonesLoader]; exact Vm.clonesLoader_of_array hk2 hkind)
  have hN : (T.heap.push { cls := cl.cls, slots := cl.slots })[T.heap.size]? = some { cls := cl.cls, slots := cl.slots } := by simp
  refine ⟨_, X'.more (Nat.le_refl _) (by omega), ext_push T.heap _, ?_, ⟨{ cls := cl.cls, slots := cl.slots }, rfl, hN, ⟨fun _ z => (by cases z), A.2.1.2⟩, fun z => (by cases z)⟩, ⟨_, k, hN, e2, e3, rfl, e5⟩, st⟩
  show (T.heap.push _).size = _
  simp
end NewLaws
/-! ### the steps over the heap -/
section HeapLaws
variable {P : Prg} {Z : State} {a0 : Array Value} {ρ : Nat → Addr} {n0 : Nat} {H : Hp} {p : Program} {l : Launch} {e : Env} {s : State} {m : MethodId} {args : Array Value} {below : List Frame} {meth : Method} {c : Code} {T : State} {locs : List Loc} {k n j pc : Nat} {L : List Slot}
/-- what a step over the heap leaves -/
def Leaves (P : Prg) (l : Launch) (Z : State) (ρ : Nat → Addr) (n0 j : Nat) (p : Program) (e : Env) (s : State) (m : MethodId) (args : Array Value) (below : List Frame) (meth : Method) (c : Code) (T : State) (pc pc' : Nat) (L L' : List Slot) (S S' : List Value) (H' : Hp) (k' n' : Nat) : Prop :=
  ∃ T' locs', Stand p l e (P.mt j).rm s m args below meth c T' locs' k' n' ∧ Pic P Z ρ n0 T'.heap H' ∧ Fr n0 locs' ∧ ∀ target, Steps p.tables e below (T'.setTop (mkF m pc' (tL ρ L') (tS ρ S'))) target → Steps p.tables e below (T.setTop (mkF m pc (tL ρ L) (tS ρ S))) target
theorem get_ok (PO : PrgOk P Z a0 ρ) (C : Ctx P Z j p s m meth c) (X : Stand p l e (P.mt j).rm s m args below meth c T locs k n) (K : Pic P Z ρ n0 T.heap H) (N : Fr n0 locs) {idx a : Nat} {v : Value} {r : List Value} (h : rdF P j idx H a = some v) (hd : decode c.code pc = .ok (.getfield idx, 3)) :
    Leaves P l Z ρ n0 j p e s m args below meth c T pc (pc + 3) L L (.ref a :: r) (v :: r) H k n := by
  obtain ⟨hx, hZ, hown, -⟩ := C
  unfold rdF at h
  split at h
  · rename_i o ho
    unfold rdO at h
    split at h
    · rename_i cid vs
      split at h
      · rename_i q hq
        obtain ⟨fd, f1, R0, w, via⟩ := PO.1 _ (lk3_mem hq)
        have F := (K.2.2.1 a _ ho (fl_lt f1)).2 q v fd h f1
        obtain ⟨T', X', e', st⟩ := getF X hx hZ hown (host := "") (Or.inl w) via rfl F (g := mkF m pc (tL ρ L) (tS ρ (.ref a :: r))) rfl rfl hd
        exact ⟨T', locs, X', by rw [e']; exact K, N, st⟩
      · cases h
    · cases h
  · cases h
theorem nodup_ne {fs : Fds} (hn : (fs.map fun fd => fd.2.1).Nodup) {q q' : Nat} {fd fd' : String × String × String × FieldType} (h : fs[q]? = some fd) (h' : fs[q']? = some fd') (ne : q ≠ q') : fd.2.1 ≠ fd'.2.1 := fun e => by
  obtain ⟨h1, h2⟩ := List.getElem?_eq_some_iff.mp h
  obtain ⟨g1, g2⟩ := List.getElem?_eq_some_iff.mp h'
  have := (List.getElem_inj (i := q) (j := q') (h₀ := by simpa using h1) (h₁ := by simpa using g1) hn).mp (by simp [h2, g2, e])
  exact ne this
theorem put_ok (PO : PrgOk P Z a0 ρ) (RO : RhoOk P ρ n0) (C : Ctx P Z j p s m meth c) (X : Stand p l e (P.mt j).rm s m args below meth c T locs k n) (K : Pic P Z ρ n0 T.heap H) (N : Fr n0 locs) {idx a : Nat} {v : Value} {r : List Value} {H' : Hp} (h : wrF P j idx H a v = some H') (hd : decode c.code pc = .ok (.putfield idx, 3)) :
    Leaves P l Z ρ n0 j p e s m args below meth c T pc (pc + 3) L L (v :: .ref a :: r) r H' k n := by
  obtain ⟨hx, hZ, hown, -, -, -, hnm, -⟩ := C
  unfold wrF at h
  split at h
  · cases h
  · rename_i hj
    split at h
    · rename_i o ho
      split at h
      · rename_i o' ho'
        cases h
        unfold wrO at ho'
        split at ho'
        · rename_i cid vs
          split at ho'
          · rename_i q hq
            split at ho'
            · rename_i fd hfd
              split at ho'
              · rename_i v' hv'
                split at ho'
                · rename_i hlt
                  cases ho'
                  obtain ⟨C, c1, ⟨wi, wl, wn⟩, fd', f1, ⟨R0, w, via⟩, f3⟩ := PO.2.1 _ (lk3_mem hq)
                  dsimp only at c1 f1 w via f3
                  obtain ⟨e1, e2, e3⟩ := cname_of c1
                  rw [e2] at hfd
                  cases f1.symm.trans hfd
                  obtain ⟨E, F⟩ := K.2.2.1 a _ ho (List.getElem?_eq_some_iff.mp c1).1
                  rw [e1] at E
                  rw [e2] at F
                  obtain ⟨u, hu⟩ : ∃ u, vs[q]? = some u := ⟨_, List.getElem?_eq_getElem hlt⟩
                  have Fq := F q u fd hu f1
                  obtain ⟨b1, b2⟩ := vty_ok (ρ := ρ) hv'
                  have lq := wl fd (List.mem_of_getElem? f1)
                  obtain ⟨T', h', X', e', W, st⟩ := putFN X hx hZ hown w via rfl Fq E (f3.imp id fun t => ⟨t.1, t.2.1, hnm.trans t.2.2⟩) wi lq.2 b1 b2 (g := mkF m pc (tL ρ L) (tS ρ (v :: .ref a :: r))) rfl rfl hd
                  have ge : n0 ≤ ρ a := by rw [RO.1 a (by omega)]; omega
                  refine ⟨T', _, X', ?_, Fr.snoc X' N ge, st⟩
                  rw [e']
                  refine K.write RO W ho fun _ => ⟨by rw [e1]; exact E.wr W, fun q' v'' fd'' g1 g2 => ?_⟩
                  rw [e2] at g2
                  by_cases eq : q = q'
                  · subst eq
                    cases f1.symm.trans g2
                    rw [List.getElem?_set_self hlt] at g1
                    cases g1
                    exact Fq.same W
                  · rw [List.getElem?_set_ne eq] at g1
                    have l2 := wl fd'' (List.mem_of_getElem? g2)
                    exact (F q' v'' fd'' g1 g2).other W (Or.inr (slot_ne l2.1 lq.1 (nodup_ne wn g2 f1 (Ne.symm eq)) l2.2 lq.2))
                · cases ho'
              · cases ho'
            · cases ho'
          · cases ho'
        · cases ho'
      · cases h
    · cases h
theorem new_ok (PO : PrgOk P Z a0 ρ) (RO : RhoOk P ρ n0) (C : Ctx P Z j p s m meth c) (X : Stand p l e (P.mt j).rm s m args below meth c T locs k n) (K : Pic P Z ρ n0 T.heap H) (N : Fr n0 locs) {idx : Nat} {S : List Value} {x : Hp × Nat × Nat} (h : newC P j idx H k n = some x) (hd : decode c.code pc = .ok (.new idx, 3)) :
    Leaves P l Z ρ n0 j p e s m args below meth c T pc (pc + 3) L L S (.ref H.length :: S) x.1 x.2.1 x.2.2 := by
  obtain ⟨hx, hZ, hown, -⟩ := C
  unfold newC at h
  split at h
  · rename_i cid hq
    split at h
    · rename_i hc
      cases h
      obtain ⟨C, c1, ⟨wi, wl, wn⟩, w1, w2⟩ := PO.2.2.2.1 _ (lk2_mem hq)
      dsimp only at c1 w1 w2
      obtain ⟨e1, e2, e3⟩ := cname_of c1
      rw [e3] at hc
      obtain ⟨T', X', E, hsz, A, D, st⟩ := newO1 X hx hZ hown w1 wi w2 (g := mkF m pc (tL ρ L) (tS ρ S)) rfl hd hc.1 hc.2
      have ad := K.addr RO
      rw [← ad] at A D st
      refine ⟨T', locs, by rw [e3]; exact X', K.push E hsz (fun _ => ⟨by rw [e1]; exact A, fun q v fd g1 g2 => ?_⟩), N, st⟩
      rw [e2] at g1 g2
      simp only [List.getElem?_map, g2, Option.map_some, Option.some.injEq] at g1
      subst g1
      have lq := wl fd (List.mem_of_getElem? g2)
      rw [tv_dft]
      exact D lq.1 lq.2
    · cases h
  · cases h
theorem slots_new (cA : ClassId) (ty : FieldType) (len : Int32) : (RoadKit.newA cA ty len).slots = ((List.replicate len.toNatClampNeg (dft ty)).map (tv ρ)).toArray := by
  apply Array.toList_inj.mp
  simp [RoadKit.newA, tv_dft]
theorem newP_ok (PO : PrgOk P Z a0 ρ) (RO : RhoOk P ρ n0) (C : Ctx P Z j p s m meth c) (X : Stand p l e (P.mt j).rm s m args below meth c T locs k n) (K : Pic P Z ρ n0 T.heap H) (N : Fr n0 locs) {t : ArrayType} {len : Int32} {r : List Value} {x : Hp × Nat × Nat} (ht : newarray.typeOf t ∈ P.ats) (h : newA P j pc (newarray.typeOf t) len H k n = some x) (hd : decode c.code pc = .ok (.newarray t, 2)) :
    Leaves P l Z ρ n0 j p e s m args below meth c T pc (pc + 2) L L (.int len :: r) (.ref H.length :: r) x.1 x.2.1 x.2.2 := by
  obtain ⟨hx, hZ, hown, -⟩ := C
  unfold newA at h
  split at h
  · rename_i cap hq
    split at h
    · rename_i hc
      cases h
      obtain ⟨T', cA, X', E, hsz, A, B, st⟩ := newP1 X hx hZ (PO.2.2.2.2.2.1 _ ht) (g := mkF m pc (tL ρ L) (tS ρ (.int len :: r))) rfl hd rfl hc.1 hc.2.1 hc.2.2.1 hc.2.2.2.1 hc.2.2.2.2
      have ad := K.addr RO
      rw [← ad] at A B st
      exact ⟨T', locs, X', K.push E hsz ⟨_, A, slots_new _ _ _, fun _ C0 hC => (by cases t <;> cases hC), fun _ ht => B ht⟩, N, st⟩
    · cases h
  · cases h
theorem newR_ok (PO : PrgOk P Z a0 ρ) (RO : RhoOk P ρ n0) (C : Ctx P Z j p s m meth c) (X : Stand p l e (P.mt j).rm s m args below meth c T locs k n) (K : Pic P Z ρ n0 T.heap H) (N : Fr n0 locs) {idx cid : Nat} {len : Int32} {r : List Value} {x : Hp × Nat × Nat} (hq : lk2 P.na j idx = some cid) (h : newA P j pc (.object (P.cname cid)) len H k n = some x) (hd : decode c.code pc = .ok (.anewarray idx, 3)) :
    Leaves P l Z ρ n0 j p e s m args below meth c T pc (pc + 3) L L (.int len :: r) (.ref H.length :: r) x.1 x.2.1 x.2.2 := by
  obtain ⟨hx, hZ, hown, -⟩ := C
  unfold newA at h
  split at h
  · split at h
    · rename_i hc
      cases h
      obtain ⟨w1, w2⟩ := PO.2.2.2.2.1 _ (lk2_mem hq)
      obtain ⟨T', cA, X', E, hsz, A, O, st⟩ := newR1 X hx hZ hown w1 w2 (g := mkF m pc (tL ρ L) (tS ρ (.int len :: r))) rfl hd rfl hc.1 hc.2.1 hc.2.2.1 hc.2.2.2.1 hc.2.2.2.2
      have ad := K.addr RO
      rw [← ad] at A st
      exact ⟨T', locs, X', K.push E hsz ⟨_, A, slots_new _ _ _, fun _ C0 hC => (by cases hC; exact O), fun _ ht => (by cases ht)⟩, N, st⟩
    · cases h
  · cases h
theorem len_ok (C : Ctx P Z j p s m meth c) (X : Stand p l e (P.mt j).rm s m args below meth c T locs k n) (K : Pic P Z ρ n0 T.heap H) (N : Fr n0 locs) {a : Nat} {v : Int32} {r : List Value} (h : alen H a = some v) (hd : decode c.code pc = .ok (.arraylength, 1)) :
    Leaves P l Z ρ n0 j p e s m args below meth c T pc (pc + 1) L L (.ref a :: r) (.int v :: r) H k n := by
  obtain ⟨hx, hZ, hown, -⟩ := C
  unfold alen at h
  split at h
  · rename_i ty vs ho
    cases h
    obtain ⟨cl, A, hs, -⟩ := K.2.2.1 a _ ho
    have es : cl.slots.size = vs.length := by rw [hs]; simp
    refine ⟨T, locs, X, K, N, fun target hr => X.arraylength hx A.1 (State.isArrayOf_alike hZ.alike A.2.1) (g := mkF m pc (tL ρ L) (tS ρ (.ref a :: r))) rfl rfl hd target ?_⟩
    rw [es]
    exact hr
  · cases h
theorem lda_ok (C : Ctx P Z j p s m meth c) (X : Stand p l e (P.mt j).rm s m args below meth c T locs k n) (K : Pic P Z ρ n0 T.heap H) (N : Fr n0 locs) {i : Instr} (hi : i = .iaload ∨ i = .baload ∨ i = .caload ∨ i = .saload ∨ i = .laload ∨ i = .aaload ∨ i = .daload) {a : Nat} {x : Int32} {v : Value} {r : List Value} (h : ldA i H a x = some v) (hd : decode c.code pc = .ok (i, 1)) :
    Leaves P l Z ρ n0 j p e s m args below meth c T pc (pc + 1) L L (.int x :: .ref a :: r) (v :: r) H k n := by
  obtain ⟨hx, hZ, hown, -⟩ := C
  unfold ldA at h
  split at h
  · rename_i ty vs ho
    split at h
    · rename_i hc
      obtain ⟨cl, A, hs, -⟩ := K.2.2.1 a _ ho
      have es : cl.slots.size = vs.length := by rw [hs]; simp
      have hin : ¬ (x < 0 ∨ cl.slots.size ≤ x.toNatClampNeg) := fun q => by
        rcases q with q | q
        · exact hc.2 q
        · rw [es] at q
          exact absurd (List.getElem?_eq_some_iff.mp h).1 (Nat.not_lt.mpr q)
      have hv : cl.slots[x.toNatClampNeg]? = some (tv ρ v) := by rw [hs]; simp [h]
      have hA := State.isArrayOf_alike hZ.alike A.2.1
      refine ⟨T, locs, X, K, N, fun target hr => ?_⟩
      have ht := hc.1
      rcases hi with rfl | rfl | rfl | rfl | rfl | rfl | rfl <;> cases ty <;> first
        | (cases ht; done)
        | exact X.iaload hx A.1 hA A.2.2 hin hv (g := mkF m pc (tL ρ L) (tS ρ (.int x :: .ref a :: r))) rfl rfl hd target hr
        | exact X.baloadBytes hx A.1 hA A.2.2 hin hv (g := mkF m pc (tL ρ L) (tS ρ (.int x :: .ref a :: r))) rfl rfl hd target hr
        | exact X.caload hx A.1 hA A.2.2 hin hv (g := mkF m pc (tL ρ L) (tS ρ (.int x :: .ref a :: r))) rfl rfl hd target hr
        | exact X.saload hx A.1 hA A.2.2 hin hv (g := mkF m pc (tL ρ L) (tS ρ (.int x :: .ref a :: r))) rfl rfl hd target hr
        | exact X.laload hx A.1 hA A.2.2 hin hv (g := mkF m pc (tL ρ L) (tS ρ (.int x :: .ref a :: r))) rfl rfl hd target hr
        | exact X.aaload hx A.1 hA rfl A.2.2 hin hv (g := mkF m pc (tL ρ L) (tS ρ (.int x :: .ref a :: r))) rfl rfl hd target hr
        | exact X.daload hx A.1 hA A.2.2 hin hv (g := mkF m pc (tL ρ L) (tS ρ (.int x :: .ref a :: r))) rfl rfl hd target hr
    · cases h
  · cases h
theorem set_tv (vs : List Value) (q : Nat) (v : Value) : ((vs.map (tv ρ)).toArray).setIfInBounds q (tv ρ v) = ((vs.set q v).map (tv ρ)).toArray := by
  apply Array.toList_inj.mp
  simp [Array.toList_setIfInBounds, List.map_set]
theorem sta_ok (RO : RhoOk P ρ n0) (C : Ctx P Z j p s m meth c) (X : Stand p l e (P.mt j).rm s m args below meth c T locs k n) (K : Pic P Z ρ n0 T.heap H) (N : Fr n0 locs) {i : Instr} (hi : i = .iastore ∨ i = .bastore ∨ i = .castore ∨ i = .lastore ∨ i = .aastore ∨ i = .dastore) {a : Nat} {x : Int32} {v : Value} {r : List Value} {H' : Hp} (h : stA P i H a x v = some H') (hd : decode c.code pc = .ok (i, 1)) :
    Leaves P l Z ρ n0 j p e s m args below meth c T pc (pc + 1) L L (v :: .int x :: .ref a :: r) r H' k n := by
  obtain ⟨hx, hZ, hown, -⟩ := C
  unfold stA at h
  split at h
  · cases h
  · rename_i hj
    split at h
    · rename_i ty vs ho
      split at h
      · rename_i v' hv'
        split at h
        · rename_i hc
          cases h
          obtain ⟨cl, A, hs, hov, hex⟩ := K.2.2.1 a _ ho
          have es : cl.slots.size = vs.length := by rw [hs]; simp
          have hin : ¬ (x < 0 ∨ cl.slots.size ≤ x.toNatClampNeg) := fun q => by
            rcases q with q | q
            · exact hc.2.1 q
            · rw [es] at q
              exact absurd hc.2.2.1 (Nat.not_lt.mpr q)
          have ge : n0 ≤ ρ a := by rw [RO.1 a (by omega)]; omega
          have fin : ∀ {T' : State} {h' : Heap} (X' : Stand p l e (P.mt j).rm s m args below meth c T' (locs ++ [⟨ρ a, x.toNatClampNeg⟩]) k n) (e' : T'.heap = h') (W : Wr T.heap h' (ρ a) x.toNatClampNeg (tv ρ v')) (st : ∀ target, Steps p.tables e below (T'.setTop (mkF m (pc + 1) (tL ρ L) (tS ρ r))) target → Steps p.tables e below (T.setTop (mkF m pc (tL ρ L) (tS ρ (v :: .int x :: .ref a :: r)))) target),
              Leaves P l Z ρ n0 j p e s m args below meth c T pc (pc + 1) L L (v :: .int x :: .ref a :: r) r (H.set a (.inl ty, vs.set x.toNatClampNeg v')) k n := by
            intro T' h' X' e' W st
            refine ⟨T', _, X', ?_, Fr.snoc X' N ge, st⟩
            rw [e']
            refine K.write RO W ho ⟨_, A.same W, ?_, hov, fun q t => (hex q t).wr W⟩
            show cl.slots.setIfInBounds _ _ = _
            rw [hs]
            exact set_tv vs _ _
          have ht := hc.1
          rcases hi with rfl | rfl | rfl | rfl | rfl | rfl
          · obtain rfl : ty = .int := by cases ty <;> first | rfl | cases ht
            obtain ⟨b, rfl, rfl⟩ : ∃ b, v = .int b ∧ v' = .int b := by cases v <;> cases hv'; exact ⟨_, rfl, rfl⟩
            obtain ⟨T', h', X', e', W, st⟩ := stI X hx hZ rfl A hin (g := mkF m pc (tL ρ L) (tS ρ (.int b :: .int x :: .ref a :: r))) rfl rfl hd
            exact fin X' e' W st
          · obtain rfl : ty = .byte := by cases ty <;> first | rfl | cases ht
            obtain ⟨b, rfl, rfl⟩ : ∃ b : Int32, v = .int b ∧ v' = .int b.toInt8.toInt32 := by cases v <;> cases hv'; exact ⟨_, rfl, rfl⟩
            obtain ⟨T', h', X', e', W, st⟩ := stB X hx hZ rfl A hin (g := mkF m pc (tL ρ L) (tS ρ (.int b :: .int x :: .ref a :: r))) rfl rfl hd
            exact fin X' e' W st
          · obtain rfl : ty = .char := by cases ty <;> first | rfl | cases ht
            obtain ⟨b, rfl, rfl⟩ : ∃ b : Int32, v = .int b ∧ v' = .int b.toUInt32.toUInt16.toUInt32.toInt32 := by cases v <;> cases hv'; exact ⟨_, rfl, rfl⟩
            obtain ⟨T', h', X', e', W, st⟩ := RoadKit.stC X hx hZ rfl A hin (g := mkF m pc (tL ρ L) (tS ρ (.int b :: .int x :: .ref a :: r))) rfl rfl hd
            exact fin X' e' W st
          · obtain rfl : ty = .long := by cases ty <;> first | rfl | cases ht
            obtain ⟨b, rfl, rfl⟩ : ∃ b, v = .long b ∧ v' = .long b := by cases v <;> cases hv'; exact ⟨_, rfl, rfl⟩
            obtain ⟨T', h', X', e', W, st⟩ := stJ X hx hZ rfl A hin (g := mkF m pc (tL ρ L) (tS ρ (.long b :: .int x :: .ref a :: r))) rfl rfl hd
            exact fin X' e' W st
          · obtain ⟨C0, rfl⟩ : ∃ C0, ty = .object C0 := by cases ty <;> first | exact ⟨_, rfl⟩ | cases ht
            obtain ⟨rfl, hvr⟩ : v' = v ∧ (v = .null ∨ ∃ b, v = .ref b) := by
              cases v <;> cases hv'
              · exact ⟨rfl, Or.inl rfl⟩
              · exact ⟨rfl, Or.inr ⟨_, rfl⟩⟩
            rcases hvr with rfl | ⟨b, rfl⟩
            · obtain ⟨T', h', X', e', W, st⟩ := RoadKit.stR X hx hZ rfl A hin rfl (Or.inl rfl) (g := mkF m pc (tL ρ L) (tS ρ (.null :: .int x :: .ref a :: r))) rfl rfl hd
              exact fin X' e' W st
            · have q := hc.2.2.2
              simp only [stoOk] at q
              split at q
              · rename_i cid ws hb
                simp only [Bool.and_eq_true, decide_eq_true_eq] at q
                have I := Ins.self (K.2.2.1 b _ hb q.1).1
                rw [eq_of_beq q.2] at I
                obtain ⟨T', h', X', e', W, st⟩ := RoadKit.stR X hx hZ rfl A hin rfl (Sto.of A (hov (by omega) C0 rfl) I) (g := mkF m pc (tL ρ L) (tS ρ (.ref b :: .int x :: .ref a :: r))) rfl rfl hd
                exact fin X' e' W st
              · cases q
          · obtain rfl : ty = .double := by cases ty <;> first | rfl | cases ht
            obtain ⟨b, rfl, rfl⟩ : ∃ b, v = .double b ∧ v' = .double b := by cases v <;> cases hv'; exact ⟨_, rfl, rfl⟩
            obtain ⟨T', h', X', e', W, st⟩ := stD X hx hZ rfl A hin (g := mkF m pc (tL ρ L) (tS ρ (.double b :: .int x :: .ref a :: r))) rfl rfl hd
            exact fin X' e' W st
        · cases h
      · cases h
    · cases h
theorem cast_ok (PO : PrgOk P Z a0 ρ) (C : Ctx P Z j p s m meth c) (X : Stand p l e (P.mt j).rm s m args below meth c T locs k n) (K : Pic P Z ρ n0 T.heap H) (N : Fr n0 locs) {idx a : Nat} {r : List Value} (h : castI P j idx H a = some true) (hd : decode c.code pc = .ok (.checkcast idx, 3)) :
    Leaves P l Z ρ n0 j p e s m args below meth c T pc (pc + 3) L L (.ref a :: r) (.ref a :: r) H k n := by
  obtain ⟨hx, hZ, hown, -⟩ := C
  unfold castI at h
  split at h
  · rename_i o ho
    obtain ⟨K0, w, hI, -⟩ := PO.2.2.2.2.2.2.1 _ (lkK_mem h)
    obtain ⟨T', X', e', st⟩ := castY X hx hZ hown w rfl (hI T.heap a o.2 (K.2.2.1 a _ ho)) (g := mkF m pc (tL ρ L) (tS ρ (.ref a :: r))) rfl rfl hd
    exact ⟨T', locs, X', by rw [e']; exact K, N, st⟩
  · cases h
theorem inst_ok (PO : PrgOk P Z a0 ρ) (C : Ctx P Z j p s m meth c) (X : Stand p l e (P.mt j).rm s m args below meth c T locs k n) (K : Pic P Z ρ n0 T.heap H) (N : Fr n0 locs) {idx a : Nat} {r : List Value} {b : Bool} (h : castI P j idx H a = some b) (hd : decode c.code pc = .ok (.instanceof idx, 3)) :
    Leaves P l Z ρ n0 j p e s m args below meth c T pc (pc + 3) L L (.ref a :: r) (.int (if b = true then 1 else 0) :: r) H k n := by
  obtain ⟨hx, hZ, hown, -⟩ := C
  unfold castI at h
  split at h
  · rename_i o ho
    obtain ⟨K0, w, hI, hf⟩ := PO.2.2.2.2.2.2.1 _ (lkK_mem h)
    have I := hI T.heap a o.2 (K.2.2.1 a _ ho)
    dsimp only at w I hf
    cases b with
    | true =>
      obtain ⟨T', X', e', st⟩ := instY X hx hZ hown w rfl I (g := mkF m pc (tL ρ L) (tS ρ (.ref a :: r))) rfl rfl hd
      exact ⟨T', locs, X', by rw [e']; exact K, N, st⟩
    | false =>
      obtain ⟨cid, hk, hlt⟩ := hf rfl
      have KO := K.2.2.1 a _ ho
      obtain ⟨kd, vs⟩ := o
      dsimp only at hk
      subst hk
      obtain ⟨cell, kz, q1, q2, q3, q4, q5⟩ := (KO hlt).1
      obtain ⟨cell', cT, i1, i2, i3⟩ := I
      cases q1.symm.trans i1
      obtain ⟨k', r1, -⟩ := hZ.alike.2.2 _ _ q3
      obtain ⟨vm', X', st⟩ := Jvm.Sym.instanceofNoAt X hx hown (mv hZ w) q1 q4 r1 (by rw [hZ.alike.findClass]; exact i2) (by rw [hZ.alike.assignable]; simpa [q4] using i3) (g := mkF m pc (tL ρ L) (tS ρ (.ref a :: r))) rfl rfl hd
      exact ⟨_, locs, X', K, N, st⟩
  · cases h
theorem cln_ok (PO : PrgOk P Z a0 ρ) (RO : RhoOk P ρ n0) (C : Ctx P Z j p s m meth c) (X : Stand p l e (P.mt j).rm s m args below meth c T locs k n) (K : Pic P Z ρ n0 T.heap H) (N : Fr n0 locs) {idx a np j' : Nat} {r : List Value} {x : HR} (hq : lk2 P.ic j idx = some (7, np, j')) (h : clnA P j pc L r H a k n = some x) (hd : decode c.code pc = .ok (.invokevirtual idx, 3)) :
    Leaves P l Z ρ n0 j p e s m args below meth c T pc (pc + 3) L L (.ref a :: r) x.1 x.2.1 x.2.2.1 x.2.2.2 := by
  obtain ⟨hx, hZ, hown, -, hml, -⟩ := C
  unfold clnA at h
  split at h
  · rename_i vs ho
    split at h
    · rename_i cap hcp
      split at h
      · rename_i hc
        cases h
        obtain ⟨⟨hj, hI⟩, ⟨g1, g2, g3⟩, g4, g5, g6⟩ := hc
        obtain ⟨w1, w2, w3, w4, w5, w6⟩ := PO.2.2.2.2.2.2.2.2.2.1 _ (lk2_mem hq)
        obtain ⟨cl, A, hs, hov, hex⟩ := K.2.2.1 a _ ho
        have es : cl.slots.size = vs.length := by rw [hs]; simp
        have F : FitC Z cl := fitC_of A fun i hi v hv => by
          rw [hs] at hv
          simp only [List.getElem?_toArray, List.getElem?_map, Option.map_eq_some_iff] at hv
          obtain ⟨u, hu, rfl⟩ := hv
          have := List.all_eq_true.mp hI u (List.mem_of_getElem? hu)
          cases u <;> first | rfl | cases this
        obtain ⟨T', X', E, hsz, ⟨cl', hs', A'⟩, E', st⟩ := clone1 X hx hZ hown w1 w2 w3 w4 w5 w6 A (hex hj rfl) F (g := mkF m pc (tL ρ L) (tS ρ (.ref a :: r))) rfl (by rw [hml, ← g1]; simp) (rest := tS ρ r) rfl hd g2 (by show 2 * 0 + _ + 14 ≤ _; rw [wt_eq]; omega) (by rw [es]; exact g4) g5 g6
        have ad := K.addr RO
        rw [← ad] at A' E' st
        exact ⟨T', locs, X', K.push E hsz ⟨cl', A', by rw [hs']; exact hs, fun _ C0 hC => (by cases hC), fun _ _ => E'⟩, N, st⟩
      · cases h
    · cases h
  · cases h
end HeapLaws
end Jvm.MM
namespace Jvm.MM
open Jvm Jvm.ClassFile Sem Op Lib Jvm.Free Jvm.Stand Jvm.LawKit Jvm.RoadKit
/-! ### the whole run -/
section Sound
variable {P : Prg} {Z : State} {a0 : Array Value} {ρ : Nat → Addr} {n0 : Nat} {l : Launch}
def Snd (P : Prg) (l : Launch) (Z : State) (ρ : Nat → Addr) (n0 j : Nat) : St → MRes → Prop
  | (pc, L, S, H, k, n), r => ∀ (p : Program) (e : Env) (s : State) (m : MethodId) (args : Array Value) (below : List Frame) (meth : Method) (c : Code) (T : State) (locs : List Loc),
    Ctx P Z j p s m meth c → Stand p l e (P.mt j).rm s m args below meth c T locs k n → Pic P Z ρ n0 T.heap H → Fr n0 locs →
    ∃ s₂ L', Steps p.tables e below (T.setTop (mkF m pc (tL ρ L) (tS ρ S))) s₂ ∧ s₂.status = .running ∧ Ended s₂ below (.returned (r.1.map (tv ρ))) ∧ Pic P Z ρ n0 s₂.heap r.2 ∧ Fr n0 L' ∧ FrameEnd s (.returned (r.1.map (tv ρ))) s₂ L' (P.mt j).rm.cells (P.mt j).rm.slots
/-- what a call leaves -/
def Qm (P : Prg) (Z : State) (ρ : Nat → Addr) (n0 : Nat) (r : MRes) (v : Option Value) (h : Heap) (L : List Loc) : Prop := v = r.1.map (tv ρ) ∧ Pic P Z ρ n0 h r.2 ∧ Fr n0 L
theorem laid_tr : ∀ as : List Value, Jvm.Sym.laidSlots (as.map (tv ρ)) = (laid as).map (ts ρ)
  | [] => rfl
  | v :: r => by
    have ih := laid_tr r
    show (if (tv ρ v).category = 2 then Slot.val (tv ρ v) :: .second :: Jvm.Sym.laidSlots (r.map (tv ρ)) else .val (tv ρ v) :: Jvm.Sym.laidSlots (r.map (tv ρ))) = (if cat v = 2 then Slot.val v :: .second :: laid r else .val v :: laid r).map (ts ρ)
    rw [cat_eq, cat_tv, ih]
    split <;> rfl
theorem ent_tr (as : List Value) (mx : Nat) : Jvm.Sym.laidSlots (tS ρ as).toArray.toList ++ List.replicate (mx - (Jvm.Sym.laidSlots (tS ρ as).toArray.toList).length) Slot.unset = (tL ρ (entL as mx)).toList := by
  show Jvm.Sym.laidSlots (as.map (tv ρ)) ++ List.replicate (mx - (Jvm.Sym.laidSlots (as.map (tv ρ))).length) Slot.unset = (laid as ++ List.replicate (mx - (laid as).length) Slot.unset).map (ts ρ)
  rw [laid_tr, List.length_map, List.map_append, List.map_replicate]
  rfl
theorem met_of {j : Nat} {as : List Value} {H : Hp} {r : MRes} {h0 : Heap} (hpl : plainFor (P.mt j).y = true) (hS : Snd P l Z ρ n0 j (0, entL as (P.mt j).mx, [], H, 0, 0) r) (K : Pic P Z ρ n0 h0 H) (ws : List Jvm.Cond) :
    MetFree l (P.mt j).y (head1 (Jvm.Cond.code (P.mt j).y (P.mt j).code (P.mt j).mx (P.mt j).ret :: ws) (P.mt j).rm) (fun a U => a = (tS ρ as).toArray ∧ Z.Warmed39 U.vm ∧ U.heap = h0) (fun _ _ _ _ _ => True) (fun _ U o U' => ∃ v L, o = .returned v ∧ Qm P Z ρ n0 r v U'.heap L ∧ FrameEnd U o U' L (P.mt j).rm.cells (P.mt j).rm.slots) := by
  refine MetFree.of_bodySF hpl hisR ?_
  intro p e s m args below meth c s₁ Bd hml0 hP hK
  obtain ⟨rfl, hZ, hh⟩ := hP
  have hown : s.vm.findClass (P.mt j).y.cls = some m.cls := findClass_of_methodNamed Bd.named
  have hnm := (name_of_methodNamed Bd.named Bd.method).1
  have X0 : Stand p l e (P.mt j).rm s m (tS ρ as).toArray below meth c s₁ [] 0 0 := Stand.of_body Bd
  have e0 : s₁.heap = h0 := by rw [← hh, Bd.state]; rfl
  have Cx : Ctx P Z j p s m meth c := ⟨Bd.exec, hZ, hown, Bd.bytes, hml0, Bd.returns, hnm, Bd.notSynchronized⟩
  obtain ⟨s₂, L', st, h1, h2, h3, h4, h5⟩ := hS p e s m _ below meth c s₁ [] Cx X0 (by rw [e0]; exact K) (Fr.nil n0)
  exact ⟨s₂, _, (XT.entry (ent_tr as _)).trans st, h1, h2, _, L', rfl, ⟨rfl, h3, h4⟩, h5⟩
section At
variable {H : Hp} {p : Program} {e : Env} {s : State} {m : MethodId} {args : Array Value} {below : List Frame} {meth : Method} {c : Code} {T : State} {locs : List Loc} {k n j pc : Nat} {L : List Slot}
theorem rm_inv {j j' : Nat} {L : List Slot} {r : List Value} {k n : Nat} (h : rmOk P j j' L r k n = true) : L.length = (P.mt j).mx ∧ (P.mt j').rm.frames + 1 ≤ (P.mt j).rm.frames ∧ wt r + ((P.mt j').mx + 11) + (P.mt j').rm.locals ≤ (P.mt j).rm.locals ∧ k + (P.mt j').rm.cells ≤ (P.mt j).rm.cells ∧ n + (P.mt j').rm.slots ≤ (P.mt j).rm.slots := by
  simpa only [rmOk, Bool.and_eq_true, decide_eq_true_eq] using h
theorem tS_opt (v : Option Value) (r : List Value) : (v.map (tv ρ)).toList ++ tS ρ r = tS ρ (v.toList ++ r) := by cases v <;> rfl
theorem take_stack (S : List Value) (np : Nat) : tS ρ S = (tS ρ (S.take np).reverse).reverse ++ tS ρ (S.drop np) := by
  rw [← List.map_reverse, List.reverse_reverse, ← List.map_append, List.take_append_drop]
theorem take_len {S : List Value} {np : Nat} (h : np ≤ S.length) : (tS ρ (S.take np).reverse).length = np := by simp [Nat.min_eq_left h]
theorem callS_ok (PO : PrgOk P Z a0 ρ) (C : Ctx P Z j p s m meth c) (X : Stand p l e (P.mt j).rm s m args below meth c T locs k n) (K : Pic P Z ρ n0 T.heap H) (N : Fr n0 locs) {idx np j' : Nat} {S : List Value} (hq : lk2 P.ic j idx = some (0, np, j')) (hnp : np ≤ S.length) (hrm : rmOk P j j' L (S.drop np) k n = true) (hd : decode c.code pc = .ok (.invokestatic idx, 3))
    {r : MRes} (hS : Snd P l Z ρ n0 j' (0, entL (S.take np).reverse (P.mt j').mx, [], H, 0, 0) r) :
    Leaves P l Z ρ n0 j p e s m args below meth c T pc (pc + 3) L L S (r.1.toList ++ S.drop np) r.2 (k + (P.mt j').rm.cells) (n + (P.mt j').rm.slots) := by
  obtain ⟨hx, hZ, hown, -, hml, -⟩ := C
  obtain ⟨g1, g2, g3, g4, g5⟩ := rm_inv hrm
  obtain ⟨w1, w2, ⟨w3, w4, w5, w6⟩, w7⟩ := PO.2.2.2.2.2.2.2.2.2.1 _ (lk2_mem hq)
  have met := met_of w5 hS K []
  obtain ⟨v, vm₁, ⟨T', L2, k2, n2⟩, -, X', ⟨Lc, ⟨hv, hp, hN⟩, l1, l2, l3⟩, st⟩ := Jvm.LawKit.callS X hx (y := (P.mt j').y) hown (mvT hZ w1) (mvT hZ w2) (mvT hZ w4) (mvT hZ w3) w6 (backOf (W := wt (S.drop np)) (Q := Qm P Z ρ n0 r) met hZ w3 w4 g2 g3) (g := mkF m pc (tL ρ L) (tS ρ S)) rfl (by rw [hml, ← g1]; simp) (argsL := tS ρ (S.take np).reverse) (rest := tS ρ (S.drop np)) (fun sig hsig => by rw [take_len hnp]; exact w7 sig hsig) (take_stack S np) (by show 2 * 0 + _ ≤ _; rw [wt_eq]; omega) hd (fun _ _ => ⟨rfl, rfl, g4, g5⟩)
  dsimp only [Pt.U, Pt.locs, Pt.cells, Pt.slots] at X' hp l1 l2 l3 st
  subst l1 l2 l3 hv
  refine ⟨T', _, X', hp, Fr.app N hN, fun target hr => st target ?_⟩
  rw [tS_opt]
  exact hr
theorem callI_ok (PO : PrgOk P Z a0 ρ) (C : Ctx P Z j p s m meth c) (X : Stand p l e (P.mt j).rm s m args below meth c T locs k n) (K : Pic P Z ρ n0 T.heap H) (N : Fr n0 locs) {idx np j' a : Nat} {S rr : List Value} (hq : lk2 P.ic j idx = some (1, np, j')) (hdr : S.drop np = .ref a :: rr) (hrm : rmOk P j j' L rr k n = true) (hd : decode c.code pc = .ok (.invokespecial idx, 3))
    {r : MRes} (hS : Snd P l Z ρ n0 j' (0, entL (.ref a :: (S.take np).reverse) (P.mt j').mx, [], H, 0, 0) r) :
    Leaves P l Z ρ n0 j p e s m args below meth c T pc (pc + 3) L L S (r.1.toList ++ rr) r.2 (k + (P.mt j').rm.cells) (n + (P.mt j').rm.slots) := by
  obtain ⟨hx, hZ, hown, -, hml, -⟩ := C
  obtain ⟨g1, g2, g3, g4, g5⟩ := rm_inv hrm
  obtain ⟨w0, w1, w2, ⟨w3, w4, w5, w6⟩, w8, w7⟩ := PO.2.2.2.2.2.2.2.2.2.1 _ (lk2_mem hq)
  have hnp : np ≤ S.length := by
    have := congrArg List.length hdr
    simp only [List.length_drop, List.length_cons] at this
    omega
  have met := met_of w5 hS K []
  have w3' : (Jvm.Cond.code (P.mt j').y (P.mt j').code (P.mt j').mx none).before a0 Z = true := by rw [← w8]; exact w3
  obtain ⟨v, vm₁, ⟨T', L2, k2, n2⟩, -, X', ⟨Lc, ⟨hv, hp, hN⟩, l1, l2, l3⟩, st⟩ := X.specialBack hx (y := (P.mt j').y) w0 hown (mvT hZ w1) (mvT hZ w2) (mvT hZ w3') w6 (backOf (W := wt rr) (Q := Qm P Z ρ n0 r) met hZ w3 w4 g2 g3) (g := mkF m pc (tL ρ L) (tS ρ S)) rfl (by rw [hml, ← g1]; simp) (Steps.refl _) (a := ρ a) (argsL := tS ρ (S.take np).reverse) (rest := tS ρ rr) (fun sig hsig => by rw [take_len hnp]; exact w7 sig hsig) ((take_stack S np).trans (by rw [hdr]; rfl)) (by show 2 * 0 + _ ≤ _; rw [wt_eq]; omega) hd (fun _ _ => ⟨rfl, rfl, g4, g5⟩)
  dsimp only [Pt.U, Pt.locs, Pt.cells, Pt.slots] at X' hp l1 l2 l3 st
  subst l1 l2 l3 hv
  refine ⟨T', _, X', hp, Fr.app N hN, fun target hr => st.trans ?_⟩
  rw [tS_opt]
  exact hr
theorem nf_ok {y : MethodName} (hZ : Z.Warmed39 s.vm) (h : NfOk Z a0 y) : NotFace s y := by
  rcases h with ⟨C, w⟩ | ⟨S, w⟩ | w
  · exact notFace_of_selects (args := #[]) (mvT hZ w)
  · exact nf_super (args := #[]) (mvT hZ w)
  · exact nf_top (args := #[]) (mvT hZ w)
theorem callV_ok (PO : PrgOk P Z a0 ρ) (C : Ctx P Z j p s m meth c) (X : Stand p l e (P.mt j).rm s m args below meth c T locs k n) (K : Pic P Z ρ n0 T.heap H) (N : Fr n0 locs) {idx np j' a cid : Nat} {S rr vs : List Value} (hq : lk3 P.vc j idx cid = some (np, j')) (hdr : S.drop np = .ref a :: rr) (ho : H[a]? = some (.inr cid, vs)) (hrm : rmOk P j j' L rr k n = true) (hd : decode c.code pc = .ok (.invokevirtual idx, 3))
    {r : MRes} (hS : Snd P l Z ρ n0 j' (0, entL (.ref a :: (S.take np).reverse) (P.mt j').mx, [], H, 0, 0) r) :
    Leaves P l Z ρ n0 j p e s m args below meth c T pc (pc + 3) L L S (r.1.toList ++ rr) r.2 (k + (P.mt j').rm.cells) (n + (P.mt j').rm.slots) := by
  obtain ⟨hx, hZ, hown, -, hml, -⟩ := C
  obtain ⟨g1, g2, g3, g4, g5⟩ := rm_inv hrm
  obtain ⟨y, w1, w2, wn, w8, w9, ⟨w3, w4, w5, w6⟩, w10, w7, hlt⟩ := PO.2.2.2.2.2.2.2.2.2.2 _ (lk3_mem hq)
  have hnp : np ≤ S.length := by
    have := congrArg List.length hdr
    simp only [List.length_drop, List.length_cons] at this
    omega
  have met := met_of w5 hS K []
  obtain ⟨cB, kB, q1, q2, q3⟩ := isOf hZ rfl (K.2.2.1 a _ ho hlt).1
  obtain ⟨v, vm₁, ⟨T', L2, k2, n2⟩, -, X', ⟨Lc, ⟨hv, hp, hN⟩, l1, l2, l3⟩, st⟩ := X.virtualBack hx (y := y) (z := (P.mt j').y) hown (mvT hZ w1) (mvT hZ w2) (nf_ok hZ wn) (mvT hZ w8) (mvT hZ w9) w10 (backOf (W := wt rr) (Q := Qm P Z ρ n0 r) met hZ w3 w4 g2 g3) q1 q3 (g := mkF m pc (tL ρ L) (tS ρ S)) rfl (by rw [hml, ← g1]; simp) (Steps.refl _) (argsL := tS ρ (S.take np).reverse) (rest := tS ρ rr) (fun sig hsig => by rw [take_len hnp]; exact w7 sig hsig) ((take_stack S np).trans (by rw [hdr]; rfl)) (by show 2 * 0 + _ ≤ _; rw [wt_eq]; omega) hd (fun _ _ => ⟨rfl, rfl, g4, g5⟩)
  dsimp only [Pt.U, Pt.locs, Pt.cells, Pt.slots] at X' hp l1 l2 l3 st
  subst l1 l2 l3 hv
  refine ⟨T', _, X', hp, Fr.app N hN, fun target hr => st.trans ?_⟩
  rw [tS_opt]
  exact hr
set_option maxHeartbeats 8000000 in
theorem call_ok (PO : PrgOk P Z a0 ρ) (C : Ctx P Z j p s m meth c) (X : Stand p l e (P.mt j).rm s m args below meth c T locs k n) (K : Pic P Z ρ n0 T.heap H) (N : Fr n0 locs) {i : Instr} {j' : Nat} {S as rr : List Value} (hc : calI P j i S H = some (j', as, rr)) (hrm : rmOk P j j' L rr k n = true) (hd : decode c.code pc = .ok (i, ilen i))
    {r : MRes} (hS : Snd P l Z ρ n0 j' (0, entL as (P.mt j').mx, [], H, 0, 0) r) :
    Leaves P l Z ρ n0 j p e s m args below meth c T pc (pc + 3) L L S (r.1.toList ++ rr) r.2 (k + (P.mt j').rm.cells) (n + (P.mt j').rm.slots) := by
  cases i
  case invokestatic idx =>
    simp only [calI] at hc
    split at hc
    · rename_i np j'' hq
      split at hc
      · rename_i hnp
        cases hc
        exact callS_ok PO C X K N hq hnp hrm hd hS
      · cases hc
    · cases hc
  case invokespecial idx =>
    simp only [calI] at hc
    split at hc
    · rename_i np j'' hq
      split at hc
      · rename_i a r0 hdr
        cases hc
        exact callI_ok PO C X K N hq hdr hrm hd hS
      · cases hc
    · cases hc
  case invokevirtual idx =>
    simp only [calI] at hc
    split at hc
    · rename_i np j'' hq
      split at hc
      · rename_i a r0 hdr
        split at hc
        · rename_i cid vs ho
          split at hc
          · rename_i np' j3 hq3
            split at hc
            · rename_i en
              subst en
              cases hc
              exact callV_ok PO C X K N hq3 hdr ho hrm hd hS
            · cases hc
          · cases hc
        · cases hc
      · cases hc
    · cases hc
  all_goals (exact absurd hc (fun q => by cases q))
theorem hLdc_ok (PO : PrgOk P Z a0 ρ) (RO : RhoOk P ρ n0) (C : Ctx P Z j p s m meth c) (X : Stand p l e (P.mt j).rm s m args below meth c T locs k n) (K : Pic P Z ρ n0 T.heap H) (N : Fr n0 locs) {idx : Nat} {S : List Value} {x : HR} (h : hLdc P j idx S H k n = some x) (hd : decode c.code pc = .ok (.ldc idx, 2)) :
    Leaves P l Z ρ n0 j p e s m args below meth c T pc (pc + 2) L L S x.1 x.2.1 x.2.2.1 x.2.2.2 := by
  obtain ⟨hx, hZ, hown, -⟩ := C
  unfold hLdc at h
  split at h
  · rename_i v hq
    cases h
    have w0 := PO.2.2.2.2.2.2.2.1 (j, idx, v) (lk2_mem hq)
    have w : (Jvm.Cond.constant (P.mt j).y.cls idx v).before a0 Z = true := w0
    exact ⟨T, locs, X, K, N, X.ldcInt hx hown (mvT hZ w) (g := mkF m pc (tL ρ L) (tS ρ S)) rfl hd⟩
  · cases h
theorem hLdc2_ok (PO : PrgOk P Z a0 ρ) (RO : RhoOk P ρ n0) (C : Ctx P Z j p s m meth c) (X : Stand p l e (P.mt j).rm s m args below meth c T locs k n) (K : Pic P Z ρ n0 T.heap H) (N : Fr n0 locs) {idx : Nat} {S : List Value} {x : HR} (h : hLdc2 P j idx S H k n = some x) (hd : decode c.code pc = .ok (.ldc2_w idx, 3)) :
    Leaves P l Z ρ n0 j p e s m args below meth c T pc (pc + 3) L L S x.1 x.2.1 x.2.2.1 x.2.2.2 := by
  obtain ⟨hx, hZ, hown, -⟩ := C
  unfold hLdc2 at h
  split at h
  · rename_i v hq
    cases h
    have w0 := PO.2.2.2.2.2.2.2.2.1 (j, idx, v) (lk2_mem hq)
    have w : (Jvm.Cond.constantLong (P.mt j).y.cls idx v).before a0 Z = true := w0
    exact ⟨T, locs, X, K, N, X.ldc2Long hx hown (mvT hZ w) (g := mkF m pc (tL ρ L) (tS ρ S)) rfl hd⟩
  · cases h
theorem hGs_ok (PO : PrgOk P Z a0 ρ) (RO : RhoOk P ρ n0) (C : Ctx P Z j p s m meth c) (X : Stand p l e (P.mt j).rm s m args below meth c T locs k n) (K : Pic P Z ρ n0 T.heap H) (N : Fr n0 locs) {idx : Nat} {S : List Value} {x : HR} (h : hGs P j idx S H k n = some x) (hd : decode c.code pc = .ok (.getstatic idx, 3)) :
    Leaves P l Z ρ n0 j p e s m args below meth c T pc (pc + 3) L L S x.1 x.2.1 x.2.2.1 x.2.2.2 := by
  obtain ⟨hx, hZ, hown, -⟩ := C
  unfold hGs at h
  split at h
  · rename_i q hq
    split at h
    · rename_i d hdq
      cases h
      obtain ⟨d', d1, R0, w, via⟩ := PO.2.2.1 _ (lk2_mem hq)
      dsimp only at d1 w via
      cases d1.symm.trans hdq
      obtain ⟨T', X', e', st⟩ := getS (host := "") X hx hZ hown w via rfl (K.2.2.2 d (List.mem_of_getElem? hdq)) (g := mkF m pc (tL ρ L) (tS ρ S)) rfl hd
      exact ⟨T', locs, X', by rw [e']; exact K, N, st⟩
    · cases h
  · cases h
theorem hGet_ok (PO : PrgOk P Z a0 ρ) (RO : RhoOk P ρ n0) (C : Ctx P Z j p s m meth c) (X : Stand p l e (P.mt j).rm s m args below meth c T locs k n) (K : Pic P Z ρ n0 T.heap H) (N : Fr n0 locs) {idx : Nat} {S : List Value} {x : HR} (h : hGet P j idx S H k n = some x) (hd : decode c.code pc = .ok (.getfield idx, 3)) :
    Leaves P l Z ρ n0 j p e s m args below meth c T pc (pc + 3) L L S x.1 x.2.1 x.2.2.1 x.2.2.2 := by
  unfold hGet at h
  split at h
  · split at h
    · rename_i v hv
      cases h
      exact get_ok PO C X K N hv hd
    · cases h
  · cases h
theorem hPut_ok (PO : PrgOk P Z a0 ρ) (RO : RhoOk P ρ n0) (C : Ctx P Z j p s m meth c) (X : Stand p l e (P.mt j).rm s m args below meth c T locs k n) (K : Pic P Z ρ n0 T.heap H) (N : Fr n0 locs) {idx : Nat} {S : List Value} {x : HR} (h : hPut P j idx S H k n = some x) (hd : decode c.code pc = .ok (.putfield idx, 3)) :
    Leaves P l Z ρ n0 j p e s m args below meth c T pc (pc + 3) L L S x.1 x.2.1 x.2.2.1 x.2.2.2 := by
  unfold hPut at h
  split at h
  · split at h
    · rename_i v hv
      cases h
      exact put_ok PO RO C X K N hv hd
    · cases h
  · cases h
theorem hNew_ok (PO : PrgOk P Z a0 ρ) (RO : RhoOk P ρ n0) (C : Ctx P Z j p s m meth c) (X : Stand p l e (P.mt j).rm s m args below meth c T locs k n) (K : Pic P Z ρ n0 T.heap H) (N : Fr n0 locs) {idx : Nat} {S : List Value} {x : HR} (h : hNew P j idx S H k n = some x) (hd : decode c.code pc = .ok (.new idx, 3)) :
    Leaves P l Z ρ n0 j p e s m args below meth c T pc (pc + 3) L L S x.1 x.2.1 x.2.2.1 x.2.2.2 := by
  unfold hNew at h
  split at h
  · rename_i y hy
    cases h
    exact new_ok PO RO C X K N hy hd
  · cases h
theorem hNewA_ok (PO : PrgOk P Z a0 ρ) (RO : RhoOk P ρ n0) (C : Ctx P Z j p s m meth c) (X : Stand p l e (P.mt j).rm s m args below meth c T locs k n) (K : Pic P Z ρ n0 T.heap H) (N : Fr n0 locs) {t : ArrayType} {S : List Value} {x : HR} (h : hNewA P j pc t S H k n = some x) (hd : decode c.code pc = .ok (.newarray t, 2)) :
    Leaves P l Z ρ n0 j p e s m args below meth c T pc (pc + 2) L L S x.1 x.2.1 x.2.2.1 x.2.2.2 := by
  unfold hNewA at h
  split at h
  · split at h
    · rename_i ht
      split at h
      · rename_i y hy
        cases h
        exact newP_ok PO RO C X K N ht hy hd
      · cases h
    · cases h
  · cases h
theorem hNewR_ok (PO : PrgOk P Z a0 ρ) (RO : RhoOk P ρ n0) (C : Ctx P Z j p s m meth c) (X : Stand p l e (P.mt j).rm s m args below meth c T locs k n) (K : Pic P Z ρ n0 T.heap H) (N : Fr n0 locs) {idx : Nat} {S : List Value} {x : HR} (h : hNewR P j pc idx S H k n = some x) (hd : decode c.code pc = .ok (.anewarray idx, 3)) :
    Leaves P l Z ρ n0 j p e s m args below meth c T pc (pc + 3) L L S x.1 x.2.1 x.2.2.1 x.2.2.2 := by
  unfold hNewR at h
  split at h
  · split at h
    · rename_i cid hq
      split at h
      · rename_i y hy
        cases h
        exact newR_ok PO RO C X K N hq hy hd
      · cases h
    · cases h
  · cases h
theorem hLen_ok (PO : PrgOk P Z a0 ρ) (RO : RhoOk P ρ n0) (C : Ctx P Z j p s m meth c) (X : Stand p l e (P.mt j).rm s m args below meth c T locs k n) (K : Pic P Z ρ n0 T.heap H) (N : Fr n0 locs)  {S : List Value} {x : HR} (h : hLen S H k n = some x) (hd : decode c.code pc = .ok (.arraylength, 1)) :
    Leaves P l Z ρ n0 j p e s m args below meth c T pc (pc + 1) L L S x.1 x.2.1 x.2.2.1 x.2.2.2 := by
  unfold hLen at h
  split at h
  · split at h
    · rename_i v hv
      cases h
      exact len_ok C X K N hv hd
    · cases h
  · cases h
theorem hLda_ok (PO : PrgOk P Z a0 ρ) (RO : RhoOk P ρ n0) (C : Ctx P Z j p s m meth c) (X : Stand p l e (P.mt j).rm s m args below meth c T locs k n) (K : Pic P Z ρ n0 T.heap H) (N : Fr n0 locs) {i : Instr} (hi : i = .iaload ∨ i = .baload ∨ i = .caload ∨ i = .saload ∨ i = .laload ∨ i = .aaload ∨ i = .daload) {S : List Value} {x : HR} (h : hLda i S H k n = some x) (hd : decode c.code pc = .ok (i, 1)) :
    Leaves P l Z ρ n0 j p e s m args below meth c T pc (pc + 1) L L S x.1 x.2.1 x.2.2.1 x.2.2.2 := by
  unfold hLda at h
  split at h
  · split at h
    · rename_i v hv
      cases h
      exact lda_ok C X K N hi hv hd
    · cases h
  · cases h
theorem hSta_ok (PO : PrgOk P Z a0 ρ) (RO : RhoOk P ρ n0) (C : Ctx P Z j p s m meth c) (X : Stand p l e (P.mt j).rm s m args below meth c T locs k n) (K : Pic P Z ρ n0 T.heap H) (N : Fr n0 locs) {i : Instr} (hi : i = .iastore ∨ i = .bastore ∨ i = .castore ∨ i = .lastore ∨ i = .aastore ∨ i = .dastore) {S : List Value} {x : HR} (h : hSta P i S H k n = some x) (hd : decode c.code pc = .ok (i, 1)) :
    Leaves P l Z ρ n0 j p e s m args below meth c T pc (pc + 1) L L S x.1 x.2.1 x.2.2.1 x.2.2.2 := by
  unfold hSta at h
  split at h
  · split at h
    · rename_i v hv
      cases h
      exact sta_ok RO C X K N hi hv hd
    · cases h
  · cases h
theorem hCast_ok (PO : PrgOk P Z a0 ρ) (RO : RhoOk P ρ n0) (C : Ctx P Z j p s m meth c) (X : Stand p l e (P.mt j).rm s m args below meth c T locs k n) (K : Pic P Z ρ n0 T.heap H) (N : Fr n0 locs) {idx : Nat} {S : List Value} {x : HR} (h : hCast P j idx S H k n = some x) (hd : decode c.code pc = .ok (.checkcast idx, 3)) :
    Leaves P l Z ρ n0 j p e s m args below meth c T pc (pc + 3) L L S x.1 x.2.1 x.2.2.1 x.2.2.2 := by
  have hx := C.1
  unfold hCast at h
  split at h
  · cases h
    exact ⟨T, locs, X, K, N, X.checkcastNull hx (g := mkF m pc (tL ρ L) (tS ρ (.null :: _))) rfl rfl hd⟩
  · split at h
    · rename_i hv
      cases h
      exact cast_ok PO C X K N hv hd
    · cases h
  · cases h
theorem hInst_ok (PO : PrgOk P Z a0 ρ) (RO : RhoOk P ρ n0) (C : Ctx P Z j p s m meth c) (X : Stand p l e (P.mt j).rm s m args below meth c T locs k n) (K : Pic P Z ρ n0 T.heap H) (N : Fr n0 locs) {idx : Nat} {S : List Value} {x : HR} (h : hInst P j idx S H k n = some x) (hd : decode c.code pc = .ok (.instanceof idx, 3)) :
    Leaves P l Z ρ n0 j p e s m args below meth c T pc (pc + 3) L L S x.1 x.2.1 x.2.2.1 x.2.2.2 := by
  have hx := C.1
  unfold hInst at h
  split at h
  · cases h
    exact ⟨T, locs, X, K, N, X.instanceofNull hx (g := mkF m pc (tL ρ L) (tS ρ (.null :: _))) rfl rfl hd⟩
  · split at h
    · rename_i hv
      cases h
      exact inst_ok PO C X K N hv hd
    · rename_i hv
      cases h
      exact inst_ok PO C X K N hv hd
    · cases h
  · cases h
theorem heap_ok (PO : PrgOk P Z a0 ρ) (RO : RhoOk P ρ n0) (C : Ctx P Z j p s m meth c) (X : Stand p l e (P.mt j).rm s m args below meth c T locs k n) (K : Pic P Z ρ n0 T.heap H) (N : Fr n0 locs) {i : Instr} {S : List Value} {x : HR} (h : heapI P j pc i S H k n = some x) (hd : decode c.code pc = .ok (i, ilen i)) :
    Leaves P l Z ρ n0 j p e s m args below meth c T pc (pc + ilen i) L L S x.1 x.2.1 x.2.2.1 x.2.2.2 := by
  cases i
  case ldc _ => exact hLdc_ok PO RO C X K N h hd
  case ldc2_w _ => exact hLdc2_ok PO RO C X K N h hd
  case getstatic _ => exact hGs_ok PO RO C X K N h hd
  case getfield _ => exact hGet_ok PO RO C X K N h hd
  case putfield _ => exact hPut_ok PO RO C X K N h hd
  case new _ => exact hNew_ok PO RO C X K N h hd
  case newarray _ => exact hNewA_ok PO RO C X K N h hd
  case anewarray _ => exact hNewR_ok PO RO C X K N h hd
  case arraylength => exact hLen_ok PO RO C X K N h hd
  case checkcast _ => exact hCast_ok PO RO C X K N h hd
  case instanceof _ => exact hInst_ok PO RO C X K N h hd
  case iaload => exact hLda_ok PO RO C X K N (i := .iaload) (by simp) h hd
  case baload => exact hLda_ok PO RO C X K N (i := .baload) (by simp) h hd
  case caload => exact hLda_ok PO RO C X K N (i := .caload) (by simp) h hd
  case saload => exact hLda_ok PO RO C X K N (i := .saload) (by simp) h hd
  case laload => exact hLda_ok PO RO C X K N (i := .laload) (by simp) h hd
  case aaload => exact hLda_ok PO RO C X K N (i := .aaload) (by simp) h hd
  case daload => exact hLda_ok PO RO C X K N (i := .daload) (by simp) h hd
  case iastore => exact hSta_ok PO RO C X K N (i := .iastore) (by simp) h hd
  case bastore => exact hSta_ok PO RO C X K N (i := .bastore) (by simp) h hd
  case castore => exact hSta_ok PO RO C X K N (i := .castore) (by simp) h hd
  case lastore => exact hSta_ok PO RO C X K N (i := .lastore) (by simp) h hd
  case aastore => exact hSta_ok PO RO C X K N (i := .aastore) (by simp) h hd
  case dastore => exact hSta_ok PO RO C X K N (i := .dastore) (by simp) h hd
  all_goals cases h
set_option maxHeartbeats 8000000 in
theorem step_ok (PO : PrgOk P Z a0 ρ) (RO : RhoOk P ρ n0) (C : Ctx P Z j p s m meth c) (X : Stand p l e (P.mt j).rm s m args below meth c T locs k n) (K : Pic P Z ρ n0 T.heap H) (N : Fr n0 locs) {i : Instr} {S S' : List Value} {pc' k' n' : Nat} {L' : List Slot} {H' : Hp} (h : stepI P j i (pc, L, S, H, k, n) = some (pc', L', S', H', k', n')) (hd : decode c.code pc = .ok (i, ilen i)) :
    Leaves P l Z ρ n0 j p e s m args below meth c T pc pc' L L' S S' H' k' n' := by
  have C0 := C
  obtain ⟨hx, hZ, hown, -, hml, -⟩ := C
  simp only [stepI] at h
  split at h
  · split at h
    · rename_i x hx0
      cases h
      exact ⟨T, locs, X, K, N, fun target hr => plain_ok X hx hx0 hd hr⟩
    · cases h
  · split at h
    · rename_i r hr0
      cases h
      cases i
      case invokespecial idx =>
        simp only [objI] at hr0
        split at hr0
        · rename_i hq
          split at hr0
          · rename_i a r'
            split at hr0
            · rename_i hc
              cases hr0
              obtain ⟨w1, w2, w3⟩ := PO.2.2.2.2.2.2.2.2.2.1 _ (lk2_mem hq)
              obtain ⟨T', X', e', st⟩ := initO X hx hZ hown w1 w2 w3 rfl (g := mkF m pc (tL ρ L) (tS ρ (.ref a :: S'))) rfl (by rw [hml, ← hc.1]; simp) rfl hd hc.2.1 (W := wt S') (by show 2 * 0 + _ ≤ _; rw [wt_eq]; omega) hc.2.2
              exact ⟨T', locs, X', by rw [e']; exact K, N, st⟩
            · cases hr0
          · cases hr0
        · cases hr0
      all_goals (exact absurd hr0 (fun q => by cases q))
    · cases h
  · split at h
    · rename_i o r hb
      split at h
      · rename_i ho
        cases h
        exact ⟨T, locs, X, K, N, fun target hr => br_ok RO.2 X hx hb hd (Or.inl ⟨rfl, ho, rfl⟩) hr⟩
      · cases h
    · rename_i o r hb
      cases h
      exact ⟨T, locs, X, K, N, fun target hr => br_ok RO.2 X hx hb hd (Or.inr ⟨rfl, rfl⟩) hr⟩
    · cases h
  · split at h
    · rename_i x hx0
      cases h
      exact heap_ok PO RO C0 X K N hx0 hd
    · cases h
  · split at h
    · rename_i x hx0
      cases h
      cases i
      case invokevirtual idx =>
        simp only [clnI] at hx0
        split at hx0
        · rename_i hq
          split at hx0
          · exact cln_ok PO RO C0 X K N hq hx0 hd
          · cases hx0
        · cases hx0
      all_goals (exact absurd hx0 (fun q => by cases q))
    · cases h
  · cases h
set_option maxHeartbeats 8000000 in
theorem ret_ok (C : Ctx P Z j p s m meth c) (X : Stand p l e (P.mt j).rm s m args below meth c T locs k n) (K : Pic P Z ρ n0 T.heap H) (N : Fr n0 locs) {i : Instr} {S : List Value} {v : Option Value} (h : retI (P.mt j).ret i S = some v) (hk : k ≤ (P.mt j).rm.cells) (hn : n ≤ (P.mt j).rm.slots) (hd : decode c.code pc = .ok (i, ilen i)) :
    ∃ s₂ L', Steps p.tables e below (T.setTop (mkF m pc (tL ρ L) (tS ρ S))) s₂ ∧ s₂.status = .running ∧ Ended s₂ below (.returned (v.map (tv ρ))) ∧ Pic P Z ρ n0 s₂.heap H ∧ Fr n0 L' ∧ FrameEnd s (.returned (v.map (tv ρ))) s₂ L' (P.mt j).rm.cells (P.mt j).rm.slots := by
  obtain ⟨hx, hZ, hown, -, hml, hret, -, hlk⟩ := C
  have hv : meth.sig.returnType = none → v.map (tv ρ) = none := fun q => by
    rw [hret] at q
    rw [q] at h
    cases i <;> simp only [retI] at h <;> first
      | (split at h <;> cases h <;> rfl)
      | cases h
  obtain ⟨fs, hr, hrun, hended, hW, hsame⟩ := X.leave (v := v.map (tv ρ)) hv hlk
  refine ⟨T.setFrames fs, locs, ?_, hrun, hended, K, N, ⟨_, rfl⟩, hW, hsame.mono hk hn⟩
  cases i
  case return_ =>
    simp only [retI] at h
    split at h
    · rename_i q
      cases h
      exact X.returnOut hx (hret.trans q) hd hr
    · cases h
  case ireturn =>
    simp only [retI] at h
    split at h
    · rename_i q
      cases h
      exact retOut X hx (hret.trans q) rfl (Or.inl ⟨rfl, Or.inl rfl, _, rfl⟩) hd hr
    · rename_i q
      cases h
      exact retN X hx (t := .boolean) (hret.trans q) (by simp) hd hr
    · rename_i q
      cases h
      exact retN X hx (t := .byte) (hret.trans q) (by simp) hd hr
    · rename_i q
      cases h
      exact retN X hx (t := .char) (hret.trans q) (by simp) hd hr
    · rename_i q
      cases h
      exact retN X hx (t := .short) (hret.trans q) (by simp) hd hr
    · cases h
  case lreturn =>
    simp only [retI] at h
    split at h
    · rename_i q
      cases h
      exact retOut X hx (hret.trans q) rfl (Or.inr (Or.inl ⟨rfl, rfl, _, rfl⟩)) hd hr
    · cases h
  case dreturn =>
    simp only [retI] at h
    split at h
    · rename_i q
      cases h
      exact retOut X hx (hret.trans q) rfl (Or.inr (Or.inr (Or.inl ⟨rfl, rfl, _, rfl⟩))) hd hr
    · cases h
  case areturn =>
    simp only [retI] at h
    split at h
    · rename_i q
      cases h
      exact retOut X hx (hret.trans q) rfl (Or.inr (Or.inr (Or.inr (Or.inr ⟨rfl, rfl, rfl⟩)))) hd hr
    · rename_i q
      cases h
      exact retOut X hx (hret.trans q) rfl (Or.inr (Or.inr (Or.inr (Or.inr ⟨rfl, rfl, rfl⟩)))) hd hr
    · rename_i q
      cases h
      exact retOut X hx (hret.trans q) rfl (Or.inr (Or.inr (Or.inr (Or.inr ⟨rfl, rfl, rfl⟩)))) hd hr
    · rename_i q
      cases h
      exact retOut X hx (hret.trans q) rfl (Or.inr (Or.inr (Or.inr (Or.inr ⟨rfl, rfl, rfl⟩)))) hd hr
    · cases h
  all_goals (exact absurd h (fun q => by cases q))
end At
/-- one turn of the machine, opened -/
theorem run_inv {f j pc : Nat} {L : List Slot} {S : List Value} {H : Hp} {k n : Nat} {r : MRes} (h : run P (f + 1) j (pc, L, S, H, k, n) = some r) : ∃ i, decode (P.mt j).code pc = .ok (i, ilen i) ∧
    ((isCall P j i = 3 ∧ ∃ v, retI (P.mt j).ret i S = some v ∧ (k ≤ (P.mt j).rm.cells ∧ n ≤ (P.mt j).rm.slots) ∧ r = (v, H)) ∨
     (isCall P j i = 1 ∧ ∃ j' as rr r', calI P j i S H = some (j', as, rr) ∧ rmOk P j j' L rr k n = true ∧ run P f j' (0, entL as (P.mt j').mx, [], H, 0, 0) = some r' ∧ run P f j (pc + 3, L, r'.1.toList ++ rr, r'.2, k + (P.mt j').rm.cells, n + (P.mt j').rm.slots) = some r) ∨
     (isCall P j i ≠ 3 ∧ isCall P j i ≠ 1 ∧ ∃ st', stepI P j i (pc, L, S, H, k, n) = some st' ∧ run P f j st' = some r)) := by
  simp only [run] at h
  split at h
  · cases h
  · rename_i i len hd
    split at h
    · rename_i hl
      subst hl
      refine ⟨i, hd, ?_⟩
      split at h
      · rename_i hi
        split at h
        · rename_i v hv
          split at h
          · rename_i hk
            cases h
            exact Or.inl ⟨hi, v, hv, hk, rfl⟩
          · cases h
        · cases h
      · rename_i hi
        split at h
        · rename_i j' as rr hc
          split at h
          · rename_i hrm
            split at h
            · rename_i v H' hr
              exact Or.inr (Or.inl ⟨hi, j', as, rr, (v, H'), hc, hrm, hr, h⟩)
            · cases h
          · cases h
        · cases h
      · rename_i h3 h1
        split at h
        · rename_i st' hst
          exact Or.inr (Or.inr ⟨h3, h1, st', hst, h⟩)
        · cases h
    · cases h
theorem run_sound (PO : PrgOk P Z a0 ρ) (RO : RhoOk P ρ n0) : ∀ (f j : Nat) (st : St) (r : MRes), run P f j st = some r → Snd P l Z ρ n0 j st r
  | 0, j, (pc, L, S, H, k, n), r, h => by simp only [run] at h; cases h
  | f + 1, j, (pc, L, S, H, k, n), r, h => by
    intro p e s m args below meth c T locs C X K N
    obtain ⟨i, hd, hcase⟩ := run_inv h
    have hd' : decode c.code pc = .ok (i, ilen i) := by rw [C.2.2.2.1]; exact hd
    rcases hcase with ⟨-, v, hv, hk, rfl⟩ | ⟨-, j', as, rr, r', hcal, hrm, h1, h2⟩ | ⟨-, -, ⟨pc', L', S', H', k', n'⟩, hst, h1⟩
    · exact ret_ok C X K N hv hk.1 hk.2 hd'
    · obtain ⟨T', locs', X', K', N', st⟩ := call_ok PO C X K N hcal hrm hd' (run_sound PO RO f j' _ r' h1)
      obtain ⟨s₂, L', g1, g2⟩ := run_sound PO RO f j _ r h2 p e s m args below meth c T' locs' C X' K' N'
      exact ⟨s₂, L', st _ g1, g2⟩
    · obtain ⟨T', locs', X', K', N', st⟩ := step_ok PO RO C X K N hst hd'
      obtain ⟨s₂, L2, g1, g2⟩ := run_sound PO RO f j _ r h1 p e s m args below meth c T' locs' C X' K' N'
      exact ⟨s₂, L2, st _ g1, g2⟩
end Sound
/-! ### the machine's own logic -/
section Logic
variable {P : Prg} {j pc : Nat} {L : List Slot} {S : List Value} {H : Hp} {k n : Nat} {i : Instr} {Q : MRes → Prop}
def Wp (P : Prg) (j : Nat) (st : St) (Q : MRes → Prop) : Prop := ∃ f r, run P f j st = some r ∧ Q r
theorem run_ret {f : Nat} {v : Option Value} (hd : decode (P.mt j).code pc = .ok (i, ilen i)) (hi : isCall P j i = 3) (hv : retI (P.mt j).ret i S = some v) (hk : k ≤ (P.mt j).rm.cells ∧ n ≤ (P.mt j).rm.slots) : run P (f + 1) j (pc, L, S, H, k, n) = some (v, H) := by
  simp only [run, hd, hi, hv, if_pos hk, if_true]
theorem run_call {f j' : Nat} {as rr : List Value} {r' : MRes} (hd : decode (P.mt j).code pc = .ok (i, ilen i)) (hi : isCall P j i = 1) (hc : calI P j i S H = some (j', as, rr)) (hrm : rmOk P j j' L rr k n = true) (h1 : run P f j' (0, entL as (P.mt j').mx, [], H, 0, 0) = some r') :
    run P (f + 1) j (pc, L, S, H, k, n) = run P f j (pc + 3, L, r'.1.toList ++ rr, r'.2, k + (P.mt j').rm.cells, n + (P.mt j').rm.slots) := by
  simp only [run, hd, hi, hc, hrm, h1, if_true]
theorem run_step {f : Nat} {st' : St} (hd : decode (P.mt j).code pc = .ok (i, ilen i)) (h3 : isCall P j i ≠ 3) (h1 : isCall P j i ≠ 1) (h : stepI P j i (pc, L, S, H, k, n) = some st') : run P (f + 1) j (pc, L, S, H, k, n) = run P f j st' := by
  simp only [run, hd, if_true, h]
theorem run_mono1 : ∀ {f j : Nat} {st : St} {r : MRes}, run P f j st = some r → run P (f + 1) j st = some r
  | 0, j, (pc, L, S, H, k, n), r, h => by simp only [run] at h; cases h
  | f + 1, j, (pc, L, S, H, k, n), r, h => by
    obtain ⟨i, hd, hcase⟩ := run_inv h
    rcases hcase with ⟨hi, v, hv, hk, rfl⟩ | ⟨hi, j', as, rr, r', hcal, hrm, h1, h2⟩ | ⟨h3, h1', st', hst, h1⟩
    · exact run_ret hd hi hv hk
    · rw [run_call hd hi hcal hrm (run_mono1 h1)]; exact run_mono1 h2
    · rw [run_step hd h3 h1' hst]; exact run_mono1 h1
theorem run_mono {f g j : Nat} {st : St} {r : MRes} (hfg : f ≤ g) (h : run P f j st = some r) : run P g j st = some r := by
  obtain ⟨d, rfl⟩ := Nat.exists_eq_add_of_le hfg
  induction d with
  | zero => exact h
  | succ d ih => exact run_mono1 (ih (Nat.le_add_right _ _))
theorem wpO (hd : decode (P.mt j).code pc = .ok (i, ilen i)) (h3 : isCall P j i ≠ 3) (h1 : isCall P j i ≠ 1) : Wp P j (pc, L, S, H, k, n) Q ↔ ∃ st', stepI P j i (pc, L, S, H, k, n) = some st' ∧ Wp P j st' Q := by
  constructor
  · rintro ⟨f, r, h, hq⟩
    cases f with
    | zero => simp only [run] at h; cases h
    | succ f =>
      obtain ⟨i', hd', hcase⟩ := run_inv h
      cases hd.symm.trans hd'
      rcases hcase with ⟨hi, -⟩ | ⟨hi, -⟩ | ⟨-, -, st', hst, h1⟩
      · exact absurd hi h3
      · exact absurd hi h1
      · exact ⟨st', hst, f, r, h1, hq⟩
  · rintro ⟨st', hst, f, r, h, hq⟩
    exact ⟨f + 1, r, by rw [run_step hd h3 h1 hst]; exact h, hq⟩
theorem wpS {st' : St} (hd : decode (P.mt j).code pc = .ok (i, ilen i)) (h3 : isCall P j i ≠ 3) (h1 : isCall P j i ≠ 1) (h : stepI P j i (pc, L, S, H, k, n) = some st') : Wp P j (pc, L, S, H, k, n) Q ↔ Wp P j st' Q := by
  rw [wpO hd h3 h1]
  exact ⟨fun ⟨st, e, w⟩ => by cases h.symm.trans e; exact w, fun w => ⟨st', h, w⟩⟩
theorem wpR {v : Option Value} (hd : decode (P.mt j).code pc = .ok (i, ilen i)) (hi : isCall P j i = 3) (hv : retI (P.mt j).ret i S = some v) (hk : k ≤ (P.mt j).rm.cells ∧ n ≤ (P.mt j).rm.slots) : Wp P j (pc, L, S, H, k, n) Q ↔ Q (v, H) := by
  constructor
  · rintro ⟨f, r, h, hq⟩
    cases f with
    | zero => simp only [run] at h; cases h
    | succ f => rw [run_ret hd hi hv hk] at h; cases h; exact hq
  · exact fun hq => ⟨1, _, run_ret hd hi hv hk, hq⟩
theorem wpC {j' : Nat} {as rr : List Value} (hd : decode (P.mt j).code pc = .ok (i, ilen i)) (hi : isCall P j i = 1) (hc : calI P j i S H = some (j', as, rr)) (hrm : rmOk P j j' L rr k n = true) :
    Wp P j (pc, L, S, H, k, n) Q ↔ Wp P j' (0, entL as (P.mt j').mx, [], H, 0, 0) fun r => Wp P j (pc + 3, L, r.1.toList ++ rr, r.2, k + (P.mt j').rm.cells, n + (P.mt j').rm.slots) Q := by
  constructor
  · rintro ⟨f, r, h, hq⟩
    cases f with
    | zero => simp only [run] at h; cases h
    | succ f =>
      obtain ⟨i', hd', hcase⟩ := run_inv h
      cases hd.symm.trans hd'
      rcases hcase with ⟨h3, -⟩ | ⟨-, j1, as1, rr1, r', hc', -, h1, h2⟩ | ⟨-, h1, -⟩
      · rw [hi] at h3; cases h3
      · cases hc.symm.trans hc'
        exact ⟨f, r', h1, f, r, h2, hq⟩
      · exact absurd hi h1
  · rintro ⟨f, r', h1, g, r, h2, hq⟩
    exact ⟨(f + g) + 1, r, by rw [run_call hd hi hc hrm (run_mono (Nat.le_add_right f g) h1)]; exact run_mono (Nat.le_add_left g f) h2, hq⟩
theorem Wp.mono {j : Nat} {st : St} {Q Q' : MRes → Prop} (h : Wp P j st Q) (hq : ∀ r, Q r → Q' r) : Wp P j st Q' := by
  obtain ⟨f, r, h1, h2⟩ := h
  exact ⟨f, r, h1, hq r h2⟩
end Logic
end Jvm.MM
namespace Jvm.MM
open Jvm Jvm.ClassFile Sem Op Lib Jvm.Free Jvm.Stand Jvm.LawKit Jvm.RoadKit
/-! ### the logic's rows, an instruction each -/
section Rows
variable {P : Prg} {j pc : Nat} {L : List Slot} {S : List Value} {H : Hp} {k n : Nat} {i : Instr} {Q : MRes → Prop}
theorem gP {L' : List Slot} {S' : List Value} (hd : decode (P.mt j).code pc = .ok (i, ilen i)) (hk : isCall P j i = 0) (h : plainI i L S = some (L', S')) : Wp P j (pc, L, S, H, k, n) Q ↔ Wp P j (pc + ilen i, L', S', H, k, n) Q :=
  wpS hd (by rw [hk]; decide) (by rw [hk]; decide) (by simp only [stepI, hk, h])
theorem gH {x : List Value × Hp × Nat × Nat} (hd : decode (P.mt j).code pc = .ok (i, ilen i)) (hk : isCall P j i = 5) (h : heapI P j pc i S H k n = some x) : Wp P j (pc, L, S, H, k, n) Q ↔ Wp P j (pc + ilen i, L, x.1, x.2.1, x.2.2.1, x.2.2.2) Q :=
  wpS hd (by rw [hk]; decide) (by rw [hk]; decide) (by simp only [stepI, hk, h])
theorem gHO (hd : decode (P.mt j).code pc = .ok (i, ilen i)) (hk : isCall P j i = 5) : Wp P j (pc, L, S, H, k, n) Q ↔ ∃ x, heapI P j pc i S H k n = some x ∧ Wp P j (pc + ilen i, L, x.1, x.2.1, x.2.2.1, x.2.2.2) Q := by
  rw [wpO hd (by rw [hk]; decide) (by rw [hk]; decide)]
  constructor
  · rintro ⟨st', h, w⟩
    simp only [stepI, hk] at h
    split at h
    · rename_i x hx
      cases h
      exact ⟨x, hx, w⟩
    · cases h
  · rintro ⟨x, hx, w⟩
    exact ⟨_, by simp only [stepI, hk, hx], w⟩
theorem gB {b : Bool} {o : Int} {t : Nat} {r : List Value} (hd : decode (P.mt j).code pc = .ok (i, ilen i)) (hk : isCall P j i = 4) (h : brI i S = some (b, o, r)) (ho : 0 ≤ (pc : Int) + o) (ht : ((pc : Int) + o).toNat = t) : Wp P j (pc, L, S, H, k, n) Q ↔ if b = true then Wp P j (t, L, r, H, k, n) Q else Wp P j (pc + ilen i, L, r, H, k, n) Q := by
  cases b with
  | true => rw [if_pos rfl]; exact wpS hd (by rw [hk]; decide) (by rw [hk]; decide) (by simp only [stepI, hk, h, if_pos ho, ht])
  | false => rw [if_neg (by decide)]; exact wpS hd (by rw [hk]; decide) (by rw [hk]; decide) (by simp only [stepI, hk, h])
theorem gGoto {o : Int} {t : Nat} (hd : decode (P.mt j).code pc = .ok (.goto o, 3)) (ho : 0 ≤ (pc : Int) + o) (ht : ((pc : Int) + o).toNat = t) : Wp P j (pc, L, S, H, k, n) Q ↔ Wp P j (t, L, S, H, k, n) Q := by
  rw [gB (i := .goto o) hd rfl rfl ho ht, if_pos rfl]
theorem iteC {A B : Prop} {c : Prop} [Decidable c] {b : Bool} (h : b = decide c) : (if b = true then A else B) ↔ (if c then A else B) := by
  subst h
  by_cases q : c <;> simp [q]
theorem gIf {cd : ClassFile.Cond} {o : Int} {t : Nat} {x : Int32} {c : Prop} [Decidable c] (hd : decode (P.mt j).code pc = .ok (.ifCond cd o, 3)) (ho : 0 ≤ (pc : Int) + o) (ht : ((pc : Int) + o).toNat = t) (hc : ifCond.holds cd x = decide c) : Wp P j (pc, L, .int x :: S, H, k, n) Q ↔ if c then Wp P j (t, L, S, H, k, n) Q else Wp P j (pc + 3, L, S, H, k, n) Q := by
  rw [gB (i := .ifCond cd o) hd rfl rfl ho ht]
  exact iteC hc
theorem gIcmp {cd : ClassFile.Cond} {o : Int} {t : Nat} {x y : Int32} {c : Prop} [Decidable c] (hd : decode (P.mt j).code pc = .ok (.if_icmp cd o, 3)) (ho : 0 ≤ (pc : Int) + o) (ht : ((pc : Int) + o).toNat = t) (hc : if_icmp.holds cd x y = decide c) : Wp P j (pc, L, .int y :: .int x :: S, H, k, n) Q ↔ if c then Wp P j (t, L, S, H, k, n) Q else Wp P j (pc + 3, L, S, H, k, n) Q := by
  rw [gB (i := .if_icmp cd o) hd rfl rfl ho ht]
  exact iteC hc
theorem c_eq (x : Int32) : ifCond.holds .eq x = decide (x = 0) := by by_cases h : x = 0 <;> simp [ifCond.holds, h]
theorem c_ne (x : Int32) : ifCond.holds .ne x = decide (¬ x = 0) := by by_cases h : x = 0 <;> simp [ifCond.holds, h]
theorem c_lt (x : Int32) : ifCond.holds .lt x = decide (x < 0) := by by_cases h : x < 0 <;> simp [ifCond.holds, h]
theorem c_ge (x : Int32) : ifCond.holds .ge x = decide (0 ≤ x) := by by_cases h : 0 ≤ x <;> simp [ifCond.holds, h]
theorem c_gt (x : Int32) : ifCond.holds .gt x = decide (0 < x) := by by_cases h : 0 < x <;> simp [ifCond.holds, h]
theorem c_le (x : Int32) : ifCond.holds .le x = decide (x ≤ 0) := by by_cases h : x ≤ 0 <;> simp [ifCond.holds, h]
theorem i_eq (x y : Int32) : if_icmp.holds .eq x y = decide (x = y) := by by_cases h : x = y <;> simp [if_icmp.holds, h]
theorem i_ne (x y : Int32) : if_icmp.holds .ne x y = decide (¬ x = y) := by by_cases h : x = y <;> simp [if_icmp.holds, h]
theorem i_lt (x y : Int32) : if_icmp.holds .lt x y = decide (x < y) := by by_cases h : x < y <;> simp [if_icmp.holds, h]
theorem i_ge (x y : Int32) : if_icmp.holds .ge x y = decide (y ≤ x) := by by_cases h : y ≤ x <;> simp [if_icmp.holds, h]
theorem i_gt (x y : Int32) : if_icmp.holds .gt x y = decide (y < x) := by by_cases h : y < x <;> simp [if_icmp.holds, h]
theorem i_le (x y : Int32) : if_icmp.holds .le x y = decide (x ≤ y) := by by_cases h : x ≤ y <;> simp [if_icmp.holds, h]
theorem gNullY {o : Int} {t : Nat} (hd : decode (P.mt j).code pc = .ok (.ifnull o, 3)) (ho : 0 ≤ (pc : Int) + o) (ht : ((pc : Int) + o).toNat = t) : Wp P j (pc, L, .null :: S, H, k, n) Q ↔ Wp P j (t, L, S, H, k, n) Q := by
  rw [gB (i := .ifnull o) hd rfl rfl ho ht, if_pos rfl]
theorem gNullN {o : Int} {a : Nat} (hd : decode (P.mt j).code pc = .ok (.ifnull o, 3)) : Wp P j (pc, L, .ref a :: S, H, k, n) Q ↔ Wp P j (pc + 3, L, S, H, k, n) Q :=
  wpS (i := .ifnull o) hd (show (4 : Nat) ≠ 3 by decide) (show (4 : Nat) ≠ 1 by decide) rfl
theorem gNonnullY {o : Int} {t : Nat} {a : Nat} (hd : decode (P.mt j).code pc = .ok (.ifnonnull o, 3)) (ho : 0 ≤ (pc : Int) + o) (ht : ((pc : Int) + o).toNat = t) : Wp P j (pc, L, .ref a :: S, H, k, n) Q ↔ Wp P j (t, L, S, H, k, n) Q := by
  rw [gB (i := .ifnonnull o) hd rfl rfl ho ht, if_pos rfl]
theorem gNonnullN {o : Int} (hd : decode (P.mt j).code pc = .ok (.ifnonnull o, 3)) : Wp P j (pc, L, .null :: S, H, k, n) Q ↔ Wp P j (pc + 3, L, S, H, k, n) Q :=
  wpS (i := .ifnonnull o) hd (show (4 : Nat) ≠ 3 by decide) (show (4 : Nat) ≠ 1 by decide) rfl
theorem gAcmp {cd : ACond} {o : Int} {t : Nat} {x y : Value} {c : Prop} [Decidable c] (hx : isA x = true) (hy : isA y = true) (hd : decode (P.mt j).code pc = .ok (.if_acmp cd o, 3)) (ho : 0 ≤ (pc : Int) + o) (ht : ((pc : Int) + o).toNat = t) (hc : XT.acmp cd x y = decide c) : Wp P j (pc, L, y :: x :: S, H, k, n) Q ↔ if c then Wp P j (t, L, S, H, k, n) Q else Wp P j (pc + 3, L, S, H, k, n) Q := by
  rw [gB (i := .if_acmp cd o) (b := XT.acmp cd x y) (r := S) hd rfl (by simp [brI, hx, hy]) ho ht]
  exact iteC hc
theorem gX {A : Type} (f : A → HR) (o : Option A) (hd : decode (P.mt j).code pc = .ok (i, ilen i)) (hk : isCall P j i = 5) (h : heapI P j pc i S H k n = o.map f) : Wp P j (pc, L, S, H, k, n) Q ↔ ∃ v, o = some v ∧ Wp P j (pc + ilen i, L, (f v).1, (f v).2.1, (f v).2.2.1, (f v).2.2.2) Q := by
  rw [gHO hd hk, h]
  cases o with
  | none => exact ⟨fun ⟨x, e, _⟩ => (by cases e), fun ⟨x, e, _⟩ => (by cases e)⟩
  | some v => exact ⟨fun ⟨x, e, w⟩ => ⟨v, rfl, (by cases e; exact w)⟩, fun ⟨x, e, w⟩ => ⟨f v, rfl, (by cases e; exact w)⟩⟩
theorem gGet {idx a : Nat} (hd : decode (P.mt j).code pc = .ok (.getfield idx, 3)) : Wp P j (pc, L, .ref a :: S, H, k, n) Q ↔ ∃ v, rdF P j idx H a = some v ∧ Wp P j (pc + 3, L, v :: S, H, k, n) Q :=
  gX (i := .getfield idx) (fun v => (v :: S, H, k, n)) (rdF P j idx H a) hd rfl (by show hGet P j idx (.ref a :: S) H k n = _; simp only [hGet]; cases rdF P j idx H a <;> rfl)
theorem gPut {idx a : Nat} {v : Value} (hd : decode (P.mt j).code pc = .ok (.putfield idx, 3)) : Wp P j (pc, L, v :: .ref a :: S, H, k, n) Q ↔ ∃ H', wrF P j idx H a v = some H' ∧ Wp P j (pc + 3, L, S, H', k, n) Q :=
  gX (i := .putfield idx) (fun H' => (S, H', k, n)) (wrF P j idx H a v) hd rfl (by show hPut P j idx (v :: .ref a :: S) H k n = _; simp only [hPut]; cases wrF P j idx H a v <;> rfl)
theorem gLen {a : Nat} (hd : decode (P.mt j).code pc = .ok (.arraylength, 1)) : Wp P j (pc, L, .ref a :: S, H, k, n) Q ↔ ∃ v, alen H a = some v ∧ Wp P j (pc + 1, L, .int v :: S, H, k, n) Q :=
  gX (i := .arraylength) (fun v => (.int v :: S, H, k, n)) (alen H a) hd rfl (by show hLen (.ref a :: S) H k n = _; simp only [hLen]; cases alen H a <;> rfl)
theorem gLdA {a : Nat} {x : Int32} (hi : i = .iaload ∨ i = .baload ∨ i = .caload ∨ i = .saload ∨ i = .laload ∨ i = .aaload ∨ i = .daload) (hd : decode (P.mt j).code pc = .ok (i, 1)) : Wp P j (pc, L, .int x :: .ref a :: S, H, k, n) Q ↔ ∃ v, ldA i H a x = some v ∧ Wp P j (pc + 1, L, v :: S, H, k, n) Q := by
  rcases hi with rfl | rfl | rfl | rfl | rfl | rfl | rfl
  all_goals exact gX (fun v => (v :: S, H, k, n)) (ldA _ H a x) hd rfl (by show hLda _ (.int x :: .ref a :: S) H k n = _; simp only [hLda]; cases ldA _ H a x <;> rfl)
theorem gStA {a : Nat} {x : Int32} {v : Value} (hi : i = .iastore ∨ i = .bastore ∨ i = .castore ∨ i = .lastore ∨ i = .aastore ∨ i = .dastore) (hd : decode (P.mt j).code pc = .ok (i, 1)) : Wp P j (pc, L, v :: .int x :: .ref a :: S, H, k, n) Q ↔ ∃ H', stA P i H a x v = some H' ∧ Wp P j (pc + 1, L, S, H', k, n) Q := by
  rcases hi with rfl | rfl | rfl | rfl | rfl | rfl
  all_goals exact gX (fun H' => (S, H', k, n)) (stA P _ H a x v) hd rfl (by show hSta P _ (v :: .int x :: .ref a :: S) H k n = _; simp only [hSta]; cases stA P _ H a x v <;> rfl)
theorem gNew {idx cid C Sl ns : Nat} {vs : List Value} (hd : decode (P.mt j).code pc = .ok (.new idx, 3)) (hq : lk2 P.nw j idx = some cid) (hC : (P.mt j).rm.cells = C) (hS : (P.mt j).rm.slots = Sl) (hns : P.nsl cid = ns) (hvs : ((P.flds cid).map fun fd => dft fd.2.2.2) = vs) (h1 : k + 1 ≤ C) (h2 : n + ns ≤ Sl) :
    Wp P j (pc, L, S, H, k, n) Q ↔ Wp P j (pc + 3, L, .ref H.length :: S, H ++ [(.inr cid, vs)], k + 1, n + ns) Q := by
  subst hC hS hns hvs
  have e : heapI P j pc (.new idx) S H k n = some (.ref H.length :: S, H ++ [(.inr cid, (P.flds cid).map fun fd => dft fd.2.2.2)], k + 1, n + P.nsl cid) := by
    simp only [heapI, hNew, newC, hq, if_pos (And.intro h1 h2)]
  exact gH (i := .new idx) hd rfl e
theorem gNewA {t : ArrayType} {ty : FieldType} {cap C Sl : Nat} {len : Int32} (hd : decode (P.mt j).code pc = .ok (.newarray t, 2)) (hty : newarray.typeOf t = ty) (hm : ty ∈ P.ats) (hq : lk2 P.cp j pc = some cap) (hcap : cap * 8 ≤ 536870912) (hC : (P.mt j).rm.cells = C) (hS : (P.mt j).rm.slots = Sl) (h1 : k + 1 ≤ C) (h2 : n + cap ≤ Sl) :
    Wp P j (pc, L, .int len :: S, H, k, n) Q ↔ (¬ len < 0 ∧ len.toNatClampNeg ≤ cap) ∧ Wp P j (pc + 2, L, .ref H.length :: S, H ++ [(.inl ty, List.replicate len.toNatClampNeg (dft ty))], k + 1, n + cap) Q := by
  subst hC hS hty
  rw [gHO (i := .newarray t) hd rfl]
  constructor
  · rintro ⟨x, h, w⟩
    simp only [heapI, hNewA, if_pos hm, newA, hq] at h
    split at h
    · rename_i y hy
      split at hy
      · rename_i hc
        cases hy
        cases h
        exact ⟨⟨hc.1, hc.2.1⟩, w⟩
      · cases hy
    · cases h
  · rintro ⟨hc, w⟩
    exact ⟨((.ref H.length :: S, H ++ [((.inl (newarray.typeOf t) : Kd), List.replicate len.toNatClampNeg (dft (newarray.typeOf t)))], k + 1, n + cap) : HR), by simp only [heapI, hNewA, if_pos hm, newA, hq, if_pos (show ¬ len < 0 ∧ len.toNatClampNeg ≤ cap ∧ cap * 8 ≤ 536870912 ∧ k + 1 ≤ (P.mt j).rm.cells ∧ n + cap ≤ (P.mt j).rm.slots from ⟨hc.1, hc.2, hcap, h1, h2⟩)], w⟩
theorem gNewR {idx cid cap C Sl : Nat} {nm : String} {len : Int32} (hd : decode (P.mt j).code pc = .ok (.anewarray idx, 3)) (hn : lk2 P.na j idx = some cid) (hnm : P.cname cid = nm) (hq : lk2 P.cp j pc = some cap) (hcap : cap * 8 ≤ 536870912) (hC : (P.mt j).rm.cells = C) (hS : (P.mt j).rm.slots = Sl) (h1 : k + 1 ≤ C) (h2 : n + cap ≤ Sl) :
    Wp P j (pc, L, .int len :: S, H, k, n) Q ↔ (¬ len < 0 ∧ len.toNatClampNeg ≤ cap) ∧ Wp P j (pc + 3, L, .ref H.length :: S, H ++ [(.inl (.object nm), List.replicate len.toNatClampNeg .null)], k + 1, n + cap) Q := by
  subst hC hS hnm
  rw [gHO (i := .anewarray idx) hd rfl]
  constructor
  · rintro ⟨x, h, w⟩
    simp only [heapI, hNewR, hn, newA, hq] at h
    split at h
    · rename_i y hy
      split at hy
      · rename_i hc
        cases hy
        cases h
        exact ⟨⟨hc.1, hc.2.1⟩, w⟩
      · cases hy
    · cases h
  · rintro ⟨hc, w⟩
    exact ⟨((.ref H.length :: S, H ++ [((.inl (.object (P.cname cid)) : Kd), List.replicate len.toNatClampNeg Value.null)], k + 1, n + cap) : HR), by simp only [heapI, hNewR, hn, newA, hq, if_pos (show ¬ len < 0 ∧ len.toNatClampNeg ≤ cap ∧ cap * 8 ≤ 536870912 ∧ k + 1 ≤ (P.mt j).rm.cells ∧ n + cap ≤ (P.mt j).rm.slots from ⟨hc.1, hc.2, hcap, h1, h2⟩)]; rfl, w⟩
theorem gCast {idx a : Nat} (hd : decode (P.mt j).code pc = .ok (.checkcast idx, 3)) : Wp P j (pc, L, .ref a :: S, H, k, n) Q ↔ castI P j idx H a = some true ∧ Wp P j (pc + 3, L, .ref a :: S, H, k, n) Q := by
  rw [gHO (i := .checkcast idx) hd rfl]
  constructor
  · rintro ⟨x, h, w⟩
    have h : (match castI P j idx H a with | some true => some ((.ref a :: S, H, k, n) : HR) | _ => none) = some x := h
    split at h
    · rename_i hv; cases h; exact ⟨hv, w⟩
    · cases h
  · rintro ⟨hv, w⟩
    refine ⟨(.ref a :: S, H, k, n), ?_, w⟩
    show (match castI P j idx H a with | some true => some ((.ref a :: S, H, k, n) : HR) | _ => none) = _
    rw [hv]
theorem gCast0 {idx : Nat} (hd : decode (P.mt j).code pc = .ok (.checkcast idx, 3)) : Wp P j (pc, L, .null :: S, H, k, n) Q ↔ Wp P j (pc + 3, L, .null :: S, H, k, n) Q :=
  gH (i := .checkcast idx) (x := (.null :: S, H, k, n)) hd rfl rfl
theorem gInst {idx a : Nat} (hd : decode (P.mt j).code pc = .ok (.instanceof idx, 3)) : Wp P j (pc, L, .ref a :: S, H, k, n) Q ↔ ∃ b, castI P j idx H a = some b ∧ Wp P j (pc + 3, L, .int (if b = true then 1 else 0) :: S, H, k, n) Q := by
  refine gX (i := .instanceof idx) (fun b => (.int (if b = true then 1 else 0) :: S, H, k, n)) (castI P j idx H a) hd rfl ?_
  show (match castI P j idx H a with | some true => some ((.int 1 :: S, H, k, n) : HR) | some false => some (.int 0 :: S, H, k, n) | none => none) = _
  cases castI P j idx H a with
  | none => rfl
  | some b => cases b <;> rfl
theorem gInst0 {idx : Nat} (hd : decode (P.mt j).code pc = .ok (.instanceof idx, 3)) : Wp P j (pc, L, .null :: S, H, k, n) Q ↔ Wp P j (pc + 3, L, .int 0 :: S, H, k, n) Q :=
  gH (i := .instanceof idx) (x := (.int 0 :: S, H, k, n)) hd rfl rfl
theorem gObj {idx a np j0 M F Lc : Nat} (hd : decode (P.mt j).code pc = .ok (.invokespecial idx, 3)) (hq : lk2 P.ic j idx = some (6, np, j0)) (hM : (P.mt j).mx = M) (hF : (P.mt j).rm.frames = F) (hL : (P.mt j).rm.locals = Lc) (hf : 1 ≤ F) (h1 : L.length = M) (h2 : wt S + 12 ≤ Lc) :
    Wp P j (pc, L, .ref a :: S, H, k, n) Q ↔ Wp P j (pc + 3, L, S, H, k, n) Q := by
  subst hM hF hL
  have hk : isCall P j (.invokespecial idx) = 2 := by simp only [isCall, hq]
  exact wpS (i := .invokespecial idx) hd (by rw [hk]; decide) (by rw [hk]; decide) (by simp only [stepI, hk, objI, hq, if_pos (show L.length = (P.mt j).mx ∧ 1 ≤ (P.mt j).rm.frames ∧ wt S + 12 ≤ (P.mt j).rm.locals from ⟨h1, hf, h2⟩)]; rfl)
theorem gRet {v : Option Value} {C Sl : Nat} (hd : decode (P.mt j).code pc = .ok (i, ilen i)) (hi : isCall P j i = 3) (hv : retI (P.mt j).ret i S = some v) (hC : (P.mt j).rm.cells = C) (hS : (P.mt j).rm.slots = Sl) (h1 : k ≤ C) (h2 : n ≤ Sl) : Wp P j (pc, L, S, H, k, n) Q ↔ Q (v, H) := by
  subst hC hS
  exact wpR hd hi hv ⟨h1, h2⟩
/-- the figures of a call: the caller's locals, the weight under the arguments, cells, slots -/
def Figs (P : Prg) (j j' M W C Sl c s : Nat) : Prop := (P.mt j).mx = M ∧ (P.mt j').rm.frames + 1 ≤ (P.mt j).rm.frames ∧ W + ((P.mt j').mx + 11) + (P.mt j').rm.locals ≤ (P.mt j).rm.locals ∧ (P.mt j).rm.cells = C ∧ (P.mt j).rm.slots = Sl ∧ (P.mt j').rm.cells = c ∧ (P.mt j').rm.slots = s
theorem figs_rm {j' M W C Sl c s : Nat} {r : List Value} (F : Figs P j j' M W C Sl c s) (h1 : L.length = M) (h2 : wt r ≤ W) (h3 : k + c ≤ C) (h4 : n + s ≤ Sl) : rmOk P j j' L r k n = true := by
  obtain ⟨f1, f2, f3, f4, f5, f6, f7⟩ := F
  subst f1 f4 f5 f6 f7
  simp only [rmOk, Bool.and_eq_true, decide_eq_true_eq]
  exact ⟨h1, f2, by omega, h3, h4⟩
theorem gCall {j' M W C Sl c s : Nat} {as rr : List Value} {Le : List Slot} (hd : decode (P.mt j).code pc = .ok (i, ilen i)) (hi : isCall P j i = 1) (hc : calI P j i S H = some (j', as, rr)) (F : Figs P j j' M W C Sl c s) (he : entL as (P.mt j').mx = Le) (h1 : L.length = M) (h2 : wt rr ≤ W) (h3 : k + c ≤ C) (h4 : n + s ≤ Sl) :
    Wp P j (pc, L, S, H, k, n) Q ↔ Wp P j' (0, Le, [], H, 0, 0) fun r => Wp P j (pc + 3, L, r.1.toList ++ rr, r.2, k + c, n + s) Q := by
  rw [wpC hd hi hc (figs_rm F h1 h2 h3 h4), he]
  obtain ⟨-, -, -, -, -, rfl, rfl⟩ := F
  exact Iff.rfl
def kdO : Obj → Option Nat | (.inr cid, _) => some cid | _ => none
def kdOf (H : Hp) (a : Nat) : Option Nat := match H[a]? with | some o => kdO o | none => none
theorem gVirt {idx np x0 cid j' a M W C Sl c s : Nat} {rr : List Value} {Le : List Slot} (hd : decode (P.mt j).code pc = .ok (.invokevirtual idx, 3)) (hq : lk2 P.ic j idx = some (2, np, x0)) (hv : lk3 P.vc j idx cid = some (np, j')) (hdr : S.drop np = .ref a :: rr) (F : Figs P j j' M W C Sl c s) (he : entL (.ref a :: (S.take np).reverse) (P.mt j').mx = Le) (ho : kdOf H a = some cid) (h1 : L.length = M) (h2 : wt rr ≤ W) (h3 : k + c ≤ C) (h4 : n + s ≤ Sl) :
    Wp P j (pc, L, S, H, k, n) Q ↔ Wp P j' (0, Le, [], H, 0, 0) fun r => Wp P j (pc + 3, L, r.1.toList ++ rr, r.2, k + c, n + s) Q := by
  refine gCall (i := .invokevirtual idx) hd (by simp only [isCall, hq]) ?_ F he h1 h2 h3 h4
  unfold kdOf at ho
  split at ho
  · rename_i o hH
    obtain ⟨kd, vs⟩ := o
    cases kd with
    | inl t => cases ho
    | inr cid' =>
      cases ho
      simp only [calI, hq, hdr, hH, hv, if_true]
  · cases ho
theorem gClone {idx np x0 a cap M F Lc C Sl : Nat} {rr : List Value} {vs : List Value} (hd : decode (P.mt j).code pc = .ok (.invokevirtual idx, 3)) (hq : lk2 P.ic j idx = some (7, np, x0)) (hcp : lk2 P.cp j pc = some cap) (hM : (P.mt j).mx = M) (hF : (P.mt j).rm.frames = F) (hL : (P.mt j).rm.locals = Lc) (hC : (P.mt j).rm.cells = C) (hS : (P.mt j).rm.slots = Sl) (hf : 1 ≤ F)
    (ho : H[a]? = some (.inl .int, vs)) (hj : P.j0 ≤ a) (hI : vs.all isI = true) (h1 : L.length = M) (h2 : wt rr + 14 ≤ Lc) (h3 : vs.length ≤ cap) (h4 : k + 1 ≤ C) (h5 : n + cap ≤ Sl) :
    Wp P j (pc, L, .ref a :: rr, H, k, n) Q ↔ Wp P j (pc + 3, L, .ref H.length :: rr, H ++ [(.inl .int, vs)], k + 1, n + cap) Q := by
  subst hM hF hL hC hS
  have hk : isCall P j (.invokevirtual idx) = 6 := by simp only [isCall, hq]
  have e : clnI P j pc (.invokevirtual idx) L (.ref a :: rr) H k n = some (.ref H.length :: rr, H ++ [(.inl .int, vs)], k + 1, n + cap) := by
    simp only [clnI, hq, clnA, ho, hcp]
    rw [if_pos ⟨⟨hj, hI⟩, ⟨h1, hf, h2⟩, h3, h4, h5⟩]
  exact wpS (i := .invokevirtual idx) hd (by rw [hk]; decide) (by rw [hk]; decide) (by simp only [stepI, hk, e]; rfl)
theorem wt_nil : wt [] = 0 := id rfl
theorem wt_int (x : Int32) (S : List Value) : wt (.int x :: S) = 1 + wt S := id rfl
theorem wt_ref (x : Nat) (S : List Value) : wt (.ref x :: S) = 1 + wt S := id rfl
theorem wt_null (S : List Value) : wt (.null :: S) = 1 + wt S := id rfl
theorem wt_long (x : Int64) (S : List Value) : wt (.long x :: S) = 2 + wt S := id rfl
theorem wt_double (x : UInt64) (S : List Value) : wt (.double x :: S) = 2 + wt S := id rfl
theorem s1_unset : s1 .unset = true := id rfl
theorem s1_int (x : Int32) : s1 (.val (.int x)) = true := id rfl
theorem s1_ref (x : Nat) : s1 (.val (.ref x)) = true := id rfl
theorem s1_null : s1 (.val .null) = true := id rfl
def s2 : Slot → Bool | .val _ => true | .unset => true | .second => false
def s3 : Slot → Bool | .val v => cat v == 1 | _ => true
theorem s2_unset : s2 .unset = true := id rfl
theorem s2_val (v : Value) : s2 (.val v) = true := id rfl
theorem s3_unset : s3 .unset = true := id rfl
theorem s3_second : s3 .second = true := id rfl
theorem s3_int (x : Int32) : s3 (.val (.int x)) = true := id rfl
theorem s3_ref (x : Nat) : s3 (.val (.ref x)) = true := id rfl
theorem st1_eq {q : Value → Bool} {L : List Slot} {k : Nat} {v : Value} {o : Slot} (h : L[k]? = some o) (ho : s1 o = true) (hq : q v = true) : st1 q L k (v :: S) = some (L.set k (.val v), S) := by
  simp only [st1, so1, h, ho, hq, Bool.and_self, if_true]
theorem st2_eq {q : Value → Bool} {L : List Slot} {k : Nat} {v : Value} {o o' : Slot} (h : L[k]? = some o) (h' : L[k + 1]? = some o') (ho : s2 o = true) (ho' : s3 o' = true) (hq : q v = true) : st2 q L k (v :: S) = some ((L.set k (.val v)).set (k + 1) .second, S) := by
  have e : so2 L k = true := by
    simp only [so2, h, h']
    cases o with
    | second => cases ho
    | unset => cases o' <;> first | rfl | exact ho'
    | val u => cases o' <;> first | rfl | exact ho'
  simp only [st2, e, hq, Bool.and_self, if_true]
theorem rdF_at {idx a : Nat} {o : Obj} (h : H[a]? = some o) : rdF P j idx H a = rdO P j idx o := by simp only [rdF, h]
end Rows
end Jvm.MM
namespace Jvm.MM
open Jvm Jvm.ClassFile Sem Op Lib Jvm.Free Jvm.Stand Jvm.LawKit Jvm.RoadKit
theorem am_nil {α : Type} {p : α → Prop} : ∀ x ∈ ([] : List α), p x := fun x h => nomatch h
theorem am_cons {α : Type} {p : α → Prop} {a : α} {l : List α} (h : p a) (t : ∀ x ∈ l, p x) : ∀ x ∈ a :: l, p x := fun x hx => (List.mem_cons.mp hx).elim (fun q => q ▸ h) (t x)
theorem Arity.of {d : String} {np : Nat} (h : ((parseMethodDescriptor d).map fun sig => sig.parameters.length) = some np) : Arity d np := fun sig hs => by
  rw [hs] at h
  exact (Option.some.inj h).symm
theorem laid_nil : laid [] = [] := rfl
theorem laid_c1 {v : Value} {r : List Value} (h : cat v = 1) : laid (v :: r) = .val v :: laid r := if_neg (by rw [h]; decide)
theorem laid_c2 {v : Value} {r : List Value} (h : cat v = 2) : laid (v :: r) = .val v :: .second :: laid r := if_pos h
theorem isA_ref' (a : Nat) : isA (.ref a) = true := id rfl
theorem isA_null' : isA .null = true := id rfl
theorem cat_int (x : Int32) : cat (.int x) = 1 := id rfl
theorem cat_ref (a : Nat) : cat (.ref a) = 1 := id rfl
theorem cat_null : cat .null = 1 := id rfl
theorem kdOf_eq (H : Hp) (a : Nat) : kdOf H a = (H[a]?).bind kdO := by unfold kdOf; cases H[a]? <;> rfl
theorem kdO_obj (c : Nat) (vs : List Value) : kdO (.inr c, vs) = some c := id rfl
theorem rdF_eq (P : Prg) (j i : Nat) (H : Hp) (a : Nat) : rdF P j i H a = (H[a]?).bind (rdO P j i) := by unfold rdF; cases H[a]? <;> rfl
theorem wrF_eq (P : Prg) (j i : Nat) (H : Hp) (a : Nat) (v : Value) : wrF P j i H a v = if a < P.j0 then none else (H[a]?).bind fun o => (wrO P j i v o).map (H.set a) := by
  unfold wrF
  split
  · rfl
  · cases H[a]? with
    | none => rfl
    | some o => show (match wrO P j i v o with | some o' => some (H.set a o') | none => none) = (wrO P j i v o).map (H.set a); cases wrO P j i v o <;> rfl
def alO : Obj → Option Int32
  | (.inl _, vs) => some vs.length.toInt32
  | _ => none
theorem alO_a (ty : FieldType) (vs : List Value) : alO (.inl ty, vs) = some vs.length.toInt32 := id rfl
theorem alen_eq (H : Hp) (a : Nat) : alen H a = (H[a]?).bind alO := by
  unfold alen
  cases H[a]? with
  | none => rfl
  | some o => obtain ⟨kd, vs⟩ := o; cases kd <;> rfl
def ldO (i : Instr) (x : Int32) : Obj → Option Value
  | (.inl ty, vs) => if aty i ty = true ∧ ¬ x < 0 then vs[x.toNatClampNeg]? else none
  | _ => none
theorem ldA_eq (i : Instr) (H : Hp) (a : Nat) (x : Int32) : ldA i H a x = (H[a]?).bind (ldO i x) := by
  unfold ldA
  cases H[a]? with
  | none => rfl
  | some o => obtain ⟨kd, vs⟩ := o; cases kd <;> rfl
theorem ldO_i (x : Int32) (vs : List Value) : ldO .iaload x (.inl .int, vs) = if x < 0 then none else vs[x.toNatClampNeg]? := by by_cases h : x < 0 <;> simp [ldO, aty, h]
theorem ldO_b (x : Int32) (vs : List Value) : ldO .baload x (.inl .byte, vs) = if x < 0 then none else vs[x.toNatClampNeg]? := by by_cases h : x < 0 <;> simp [ldO, aty, h]
theorem ldO_c (x : Int32) (vs : List Value) : ldO .caload x (.inl .char, vs) = if x < 0 then none else vs[x.toNatClampNeg]? := by by_cases h : x < 0 <;> simp [ldO, aty, h]
theorem ldO_a (x : Int32) (C : String) (vs : List Value) : ldO .aaload x (.inl (.object C), vs) = if x < 0 then none else vs[x.toNatClampNeg]? := by by_cases h : x < 0 <;> simp [ldO, aty, h]
def stO (i : Instr) (x : Int32) (v : Value) : Obj → Option Obj
  | (.inl ty, vs) => if aty i ty = true ∧ ¬ x < 0 ∧ x.toNatClampNeg < vs.length then some (.inl ty, vs.set x.toNatClampNeg v) else none
  | _ => none
theorem stA_gen (P : Prg) (i : Instr) (H : Hp) (a : Nat) (x : Int32) (v w : Value) (hv : ∀ ty, aty i ty = true → vty ty v = some w) (hs : ∀ ty, aty i ty = true → stoOk P H ty w = true) : stA P i H a x v = if a < P.j0 then none else (H[a]?).bind fun o => (stO i x w o).map (H.set a) := by
  unfold stA
  split
  · rfl
  · cases H[a]? with
    | none => rfl
    | some o =>
      obtain ⟨kd, vs⟩ := o
      cases kd with
      | inr c => rfl
      | inl ty =>
        show (match vty ty v with | some v' => if aty i ty = true ∧ ¬ x < 0 ∧ x.toNatClampNeg < vs.length ∧ stoOk P H ty v' = true then some (H.set a (.inl ty, vs.set x.toNatClampNeg v')) else none | none => none) = Option.map (H.set a) (if aty i ty = true ∧ ¬ x < 0 ∧ x.toNatClampNeg < vs.length then some (.inl ty, vs.set x.toNatClampNeg w) else none)
        by_cases ht : aty i ty = true
        · rw [hv ty ht]
          by_cases q : ¬ x < 0 ∧ x.toNatClampNeg < vs.length
          · rw [if_pos ⟨ht, q⟩]
            show (if _ then _ else _) = _
            rw [if_pos ⟨ht, q.1, q.2, hs ty ht⟩]
            rfl
          · rw [if_neg fun z => q z.2]
            show (if _ then _ else _) = _
            rw [if_neg fun z => q ⟨z.2.1, z.2.2.1⟩]
            rfl
        · rw [if_neg fun z => ht z.1]
          cases vty ty v with
          | none => rfl
          | some v' =>
            show (if _ then _ else _) = _
            rw [if_neg fun z => ht z.1]
            rfl
theorem stA_i (P : Prg) (H : Hp) (a : Nat) (x y : Int32) : stA P .iastore H a x (.int y) = if a < P.j0 then none else (H[a]?).bind fun o => (stO .iastore x (.int y) o).map (H.set a) := stA_gen P .iastore H a x _ _ (fun ty h => by cases ty <;> first | rfl | cases h) (fun ty h => by cases ty <;> first | rfl | cases h)
theorem stA_b (P : Prg) (H : Hp) (a : Nat) (x y : Int32) : stA P .bastore H a x (.int y) = if a < P.j0 then none else (H[a]?).bind fun o => (stO .bastore x (.int y.toInt8.toInt32) o).map (H.set a) := stA_gen P .bastore H a x _ _ (fun ty h => by cases ty <;> first | rfl | cases h) (fun ty h => by cases ty <;> first | rfl | cases h)
theorem stA_c (P : Prg) (H : Hp) (a : Nat) (x y : Int32) : stA P .castore H a x (.int y) = if a < P.j0 then none else (H[a]?).bind fun o => (stO .castore x (.int y.toUInt32.toUInt16.toUInt32.toInt32) o).map (H.set a) := stA_gen P .castore H a x _ _ (fun ty h => by cases ty <;> first | rfl | cases h) (fun ty h => by cases ty <;> first | rfl | cases h)
theorem stA_d (P : Prg) (H : Hp) (a : Nat) (x : Int32) (y : UInt64) : stA P .dastore H a x (.double y) = if a < P.j0 then none else (H[a]?).bind fun o => (stO .dastore x (.double y) o).map (H.set a) := stA_gen P .dastore H a x _ _ (fun ty h => by cases ty <;> first | rfl | cases h) (fun ty h => by cases ty <;> first | rfl | cases h)
theorem stO_b (x : Int32) (v : Value) (vs : List Value) : stO .bastore x v (.inl .byte, vs) = if x < 0 then none else if x.toNatClampNeg < vs.length then some (.inl .byte, vs.set x.toNatClampNeg v) else none := by
  by_cases h : x < 0 <;> by_cases h' : x.toNatClampNeg < vs.length <;> simp [stO, aty, h, h']
theorem stO_c (x : Int32) (v : Value) (vs : List Value) : stO .castore x v (.inl .char, vs) = if x < 0 then none else if x.toNatClampNeg < vs.length then some (.inl .char, vs.set x.toNatClampNeg v) else none := by
  by_cases h : x < 0 <;> by_cases h' : x.toNatClampNeg < vs.length <;> simp [stO, aty, h, h']
theorem stO_d (x : Int32) (v : Value) (vs : List Value) : stO .dastore x v (.inl .double, vs) = if x < 0 then none else if x.toNatClampNeg < vs.length then some (.inl .double, vs.set x.toNatClampNeg v) else none := by
  by_cases h : x < 0 <;> by_cases h' : x.toNatClampNeg < vs.length <;> simp [stO, aty, h, h']
theorem ldO_d (x : Int32) (vs : List Value) : ldO .daload x (.inl .double, vs) = if x < 0 then none else vs[x.toNatClampNeg]? := by by_cases h : x < 0 <;> simp [ldO, aty, h]
theorem stO_i (x : Int32) (v : Value) (vs : List Value) : stO .iastore x v (.inl .int, vs) = if x < 0 then none else if x.toNatClampNeg < vs.length then some (.inl .int, vs.set x.toNatClampNeg v) else none := by
  by_cases h : x < 0 <;> by_cases h' : x.toNatClampNeg < vs.length <;> simp [stO, aty, h, h']
theorem tn0 : (0 : Int32).toNatClampNeg = 0 := by decide
theorem tl0 : Nat.toInt32 0 = 0 := by decide
theorem rp0 {α : Type} (a : α) : List.replicate 0 a = [] := rfl
theorem tn1 : (1 : Int32).toNatClampNeg = 1 := by decide
theorem tl1 : Nat.toInt32 1 = 1 := by decide
theorem rp1 {α : Type} (a : α) : List.replicate 1 a = [a] := rfl
theorem tn2 : (2 : Int32).toNatClampNeg = 2 := by decide
theorem tl2 : Nat.toInt32 2 = 2 := by decide
theorem rp2 {α : Type} (a : α) : List.replicate 2 a = [a, a] := rfl
theorem tn3 : (3 : Int32).toNatClampNeg = 3 := by decide
theorem tl3 : Nat.toInt32 3 = 3 := by decide
theorem rp3 {α : Type} (a : α) : List.replicate 3 a = [a, a, a] := rfl
theorem tn4 : (4 : Int32).toNatClampNeg = 4 := by decide
theorem tl4 : Nat.toInt32 4 = 4 := by decide
theorem rp4 {α : Type} (a : α) : List.replicate 4 a = [a, a, a, a] := rfl
theorem tn5 : (5 : Int32).toNatClampNeg = 5 := by decide
theorem tl5 : Nat.toInt32 5 = 5 := by decide
theorem rp5 {α : Type} (a : α) : List.replicate 5 a = [a, a, a, a, a] := rfl
theorem tn6 : (6 : Int32).toNatClampNeg = 6 := by decide
theorem tl6 : Nat.toInt32 6 = 6 := by decide
theorem rp6 {α : Type} (a : α) : List.replicate 6 a = [a, a, a, a, a, a] := rfl
theorem tn7 : (7 : Int32).toNatClampNeg = 7 := by decide
theorem tl7 : Nat.toInt32 7 = 7 := by decide
theorem rp7 {α : Type} (a : α) : List.replicate 7 a = [a, a, a, a, a, a, a] := rfl
theorem tn8 : (8 : Int32).toNatClampNeg = 8 := by decide
theorem tl8 : Nat.toInt32 8 = 8 := by decide
theorem rp8 {α : Type} (a : α) : List.replicate 8 a = [a, a, a, a, a, a, a, a] := rfl
theorem tn9 : (9 : Int32).toNatClampNeg = 9 := by decide
theorem tl9 : Nat.toInt32 9 = 9 := by decide
theorem rp9 {α : Type} (a : α) : List.replicate 9 a = [a, a, a, a, a, a, a, a, a] := rfl
end Jvm.MM
namespace Jvm.MM
open Jvm Jvm.ClassFile Sem Op Lib Jvm.Free Jvm.Stand Jvm.LawKit Jvm.RoadKit
/-! ### a local that isn't read may hold what it will -/
def LeS (a b : Slot) : Prop := a = b ∨ (a = .unset ∧ ∃ x : Int32, b = .val (.int x))
def LeL (L L' : List Slot) : Prop := L.length = L'.length ∧ ∀ (i : Nat) (a : Slot), L[i]? = some a → ∃ b, L'[i]? = some b ∧ LeS a b
theorem LeL.refl (L : List Slot) : LeL L L := ⟨rfl, fun i a h => ⟨a, h, Or.inl rfl⟩⟩
theorem LeL.cons {L L' : List Slot} {a b : Slot} (h : LeS a b) (t : LeL L L') : LeL (a :: L) (b :: L') := by
  refine ⟨by simp [t.1], fun i c hc => ?_⟩
  cases i with
  | zero =>
    simp only [List.getElem?_cons_zero, Option.some.injEq] at hc
    subst hc
    exact ⟨b, by simp, h⟩
  | succ i =>
    simp only [List.getElem?_cons_succ] at hc ⊢
    exact t.2 i c hc
theorem LeL.same {L L' : List Slot} {a : Slot} (t : LeL L L') : LeL (a :: L) (a :: L') := LeL.cons (Or.inl rfl) t
theorem LeL.int {L L' : List Slot} {x : Int32} (t : LeL L L') : LeL (.unset :: L) (.val (.int x) :: L') := LeL.cons (Or.inr ⟨rfl, x, rfl⟩) t
theorem LeL.val {L L' : List Slot} (t : LeL L L') {k : Nat} {v : Value} (h : L[k]? = some (.val v)) : L'[k]? = some (.val v) := by
  obtain ⟨b, h1, h2⟩ := t.2 k _ h
  rcases h2 with rfl | ⟨q, -⟩
  · exact h1
  · cases q
theorem LeL.set {L L' : List Slot} (t : LeL L L') (k : Nat) (a : Slot) : LeL (L.set k a) (L'.set k a) := by
  refine ⟨by simp [t.1], fun i c hc => ?_⟩
  by_cases e : k = i
  · subst e
    have hl : k < L.length := by
      have := (List.getElem?_eq_some_iff.mp hc).1
      simpa using this
    rw [List.getElem?_set_self hl] at hc
    cases hc
    exact ⟨a, List.getElem?_set_self (by rw [← t.1]; exact hl), Or.inl rfl⟩
  · rw [List.getElem?_set_ne e] at hc
    rw [List.getElem?_set_ne e]
    exact t.2 i c hc
theorem ld_le {q : Value → Bool} {L L' L1 : List Slot} {k : Nat} {S S1 : List Value} (t : LeL L L') (h : ld q L k S = some (L1, S1)) : ∃ L1', ld q L' k S = some (L1', S1) ∧ LeL L1 L1' := by
  obtain ⟨v, h1, h2, rfl, rfl⟩ := ld_inv h
  exact ⟨L', by simp only [ld, t.val h1, h2, if_true], t⟩
theorem st1_le {q : Value → Bool} {L L' L1 : List Slot} {k : Nat} {S S1 : List Value} (t : LeL L L') (h : st1 q L k S = some (L1, S1)) : ∃ L1', st1 q L' k S = some (L1', S1) ∧ LeL L1 L1' := by
  obtain ⟨v, o, rfl, h1, h2, h3, rfl⟩ := st1_inv h
  obtain ⟨b, g1, g2⟩ := t.2 k o h2
  have : s1 b = true := by
    rcases g2 with rfl | ⟨-, x, rfl⟩
    · exact h3
    · rfl
  exact ⟨_, st1_eq g1 this h1, t.set k _⟩
theorem st2_le {q : Value → Bool} {L L' L1 : List Slot} {k : Nat} {S S1 : List Value} (t : LeL L L') (h : st2 q L k S = some (L1, S1)) : ∃ L1', st2 q L' k S = some (L1', S1) ∧ LeL L1 L1' := by
  obtain ⟨v, rfl, h1, h2, rfl⟩ := st2_inv h
  simp only [so2, Bool.and_eq_true] at h2
  obtain ⟨a1, a2⟩ := h2
  cases q1 : L[k]? with
  | none => rw [q1] at a1; cases a1
  | some o =>
    cases q2 : L[k + 1]? with
    | none => rw [q2] at a2; cases a2
    | some o' =>
      obtain ⟨b, g1, g2⟩ := t.2 k o q1
      obtain ⟨b', g1', g2'⟩ := t.2 (k + 1) o' q2
      rw [q1] at a1
      rw [q2] at a2
      have e1 : s2 b = true := by
        rcases g2 with rfl | ⟨-, x, rfl⟩
        · cases o <;> first | rfl | cases a1
        · rfl
      have e2 : s3 b' = true := by
        rcases g2' with rfl | ⟨-, x, rfl⟩
        · cases o' <;> first | rfl | exact a2
        · rfl
      exact ⟨_, st2_eq g1 g1' e1 e2 h1, (t.set k _).set _ _⟩
theorem keepL_le {L L' L1 : List Slot} {o : Option (List Value)} {S1 : List Value} (t : LeL L L') (h : keepL L o = some (L1, S1)) : ∃ L1', keepL L' o = some (L1', S1) ∧ LeL L1 L1' := by
  obtain ⟨rfl, rfl⟩ := keepL_inv h
  exact ⟨L', rfl, t⟩
theorem plain_le {i : Instr} {L L' L1 : List Slot} {S S1 : List Value} (t : LeL L L') (h : plainI i L S = some (L1, S1)) : ∃ L1', plainI i L' S = some (L1', S1) ∧ LeL L1 L1' := by
  cases i
  case iinc k c0 =>
    obtain ⟨x, h1, rfl, rfl⟩ := inc_inv h
    exact ⟨_, by simp only [plainI, inc, t.val h1], t.set k _⟩
  all_goals first
    | (cases h; exact ⟨L', rfl, t⟩)
    | exact ld_le t h
    | exact st1_le t h
    | exact st2_le t h
    | exact keepL_le t h
    | exact absurd h (fun q => by cases q)
theorem step_le {P : Prg} {j pc : Nat} {i : Instr} {L L' : List Slot} {S : List Value} {H : Hp} {k n : Nat} {st : St} (t : LeL L L') (h : stepI P j i (pc, L, S, H, k, n) = some st) :
    ∃ L1', LeL st.2.1 L1' ∧ stepI P j i (pc, L', S, H, k, n) = some (st.1, L1', st.2.2) := by
  simp only [stepI] at h ⊢
  split at h
  · split at h
    · rename_i x hx
      cases h
      obtain ⟨L1', g1, g2⟩ := plain_le t hx
      exact ⟨L1', g2, by simp only [g1]⟩
    · cases h
  · split at h
    · rename_i r hr
      cases h
      refine ⟨L', t, ?_⟩
      have : objI P j i L' S = some r := by
        have e : objI P j i L' S = objI P j i L S := by
          cases i <;> first | rfl | simp only [objI, t.1]
        rw [e]; exact hr
      simp only [this]
    · cases h
  · split at h
    · rename_i o r hb
      split at h
      · rename_i ho
        cases h
        exact ⟨L', t, by simp only [hb, if_pos ho]⟩
      · cases h
    · rename_i hb
      cases h
      exact ⟨L', t, by simp only [hb]⟩
    · cases h
  · split at h
    · rename_i x hx
      cases h
      exact ⟨L', t, by simp only [hx]⟩
    · cases h
  · split at h
    · rename_i x hx
      cases h
      refine ⟨L', t, ?_⟩
      have : clnI P j pc i L' S H k n = some x := by
        have e : clnI P j pc i L' S H k n = clnI P j pc i L S H k n := by
          cases i <;> first | rfl | simp only [clnI, clnA, t.1]
        rw [e]; exact hx
      simp only [this]
    · cases h
  · cases h
theorem run_le {P : Prg} : ∀ {f j pc : Nat} {L L' : List Slot} {S : List Value} {H : Hp} {k n : Nat} {r : MRes}, LeL L L' → run P f j (pc, L, S, H, k, n) = some r → run P f j (pc, L', S, H, k, n) = some r
  | 0, j, pc, L, L', S, H, k, n, r, t, h => by simp only [run] at h; cases h
  | f + 1, j, pc, L, L', S, H, k, n, r, t, h => by
    obtain ⟨i, hd, hcase⟩ := run_inv h
    rcases hcase with ⟨hi, v, hv, hk, rfl⟩ | ⟨hi, j', as, rr, r', hcal, hrm, h1, h2⟩ | ⟨h3, h1', ⟨pc', L1, S1, H1, k1, n1⟩, hst, h1⟩
    · exact run_ret hd hi hv hk
    · have hrm' : rmOk P j j' L' rr k n = true := by
        have e : rmOk P j j' L' rr k n = rmOk P j j' L rr k n := by simp only [rmOk, t.1]
        rw [e]; exact hrm
      rw [run_call hd hi hcal hrm' h1]
      exact run_le t h2
    · obtain ⟨L1', g1, g2⟩ := step_le t hst
      rw [run_step hd h3 h1' g2]
      exact run_le g1 h1
theorem wp_run {P : Prg} {j pc : Nat} {L L' : List Slot} {S : List Value} {H : Hp} {k n : Nat} {Q : MRes → Prop} (f : Nat) {v : Option Value} (t : LeL L L') (h : (run P f j (pc, L, S, H, k, n)).map (·.1) = some v) (hq : ∀ H', Q (v, H')) : Wp P j (pc, L', S, H, k, n) Q := by
  cases hr : run P f j (pc, L, S, H, k, n) with
  | none => rw [hr] at h; cases h
  | some r =>
    rw [hr] at h
    obtain ⟨v', H'⟩ := r
    cases h
    exact ⟨f, _, run_le t hr, hq H'⟩
/-! ### a run up to a given pc, with locals laid under it -/
def ovS : Slot → Slot → Slot
  | .unset, b => b
  | a, _ => a
def ov : List Slot → List Slot → List Slot
  | a :: L, b :: B => ovS a b :: ov L B
  | L, _ => L
def Ints (B : List Slot) : Prop := ∀ b ∈ B, b = .unset ∨ ∃ x : Int32, b = .val (.int x)
theorem ov_len : ∀ L B : List Slot, (ov L B).length = L.length
  | [], B => by cases B <;> rfl
  | a :: L, [] => rfl
  | a :: L, b :: B => by show (ov L B).length + 1 = L.length + 1; rw [ov_len L B]
theorem ov_le {B : List Slot} (hB : Ints B) : ∀ L : List Slot, LeL L (ov L B) := by
  induction B with
  | nil => intro L; cases L <;> exact LeL.refl _
  | cons b B ih =>
    intro L
    cases L with
    | nil => exact LeL.refl _
    | cons a L =>
      refine LeL.cons ?_ (ih (fun x hx => hB x (List.mem_cons_of_mem _ hx)) L)
      cases a with
      | unset =>
        rcases hB b List.mem_cons_self with rfl | ⟨x, rfl⟩
        · exact Or.inl rfl
        · exact Or.inr ⟨rfl, x, rfl⟩
      | second => exact Or.inl rfl
      | val v => exact Or.inl rfl
theorem ov_set {a : Slot} (ha : a ≠ .unset) : ∀ (L B : List Slot) (k : Nat), ov (L.set k a) B = (ov L B).set k a
  | [], B, k => by cases B <;> rfl
  | c :: L, [], k => by cases k <;> rfl
  | c :: L, b :: B, 0 => by
    show ovS a b :: ov L B = a :: ov L B
    cases a with
    | unset => exact absurd rfl ha
    | second => rfl
    | val v => rfl
  | c :: L, b :: B, k + 1 => by
    show ovS c b :: ov (L.set k a) B = ovS c b :: (ov L B).set k a
    rw [ov_set ha L B k]
theorem ov_val {L B : List Slot} (hB : Ints B) {k : Nat} {v : Value} (h : L[k]? = some (.val v)) : (ov L B)[k]? = some (.val v) := (ov_le hB L).val h
theorem plain_ov {i : Instr} {L L1 B : List Slot} {S S1 : List Value} (hB : Ints B) (h : plainI i L S = some (L1, S1)) : plainI i (ov L B) S = some (ov L1 B, S1) := by
  have hst1 : ∀ {q : Value → Bool} {k : Nat}, st1 q L k S = some (L1, S1) → st1 q (ov L B) k S = some (ov L1 B, S1) := fun {q k} h => by
    obtain ⟨v, o, rfl, h1, h2, h3, rfl⟩ := st1_inv h
    obtain ⟨b, g1, g2⟩ := (ov_le hB L).2 k o h2
    have : s1 b = true := by
      rcases g2 with rfl | ⟨-, x, rfl⟩
      · exact h3
      · rfl
    rw [st1_eq g1 this h1, ov_set (by simp)]
  have hst2 : ∀ {q : Value → Bool} {k : Nat}, st2 q L k S = some (L1, S1) → st2 q (ov L B) k S = some (ov L1 B, S1) := fun {q k} h => by
    obtain ⟨L1', g1, -⟩ := st2_le (ov_le hB L) h
    obtain ⟨v, rfl, h1, h2, rfl⟩ := st2_inv h
    obtain ⟨v', e1, -, -, e2⟩ := st2_inv g1
    cases e1
    rw [g1, e2, ov_set (by simp), ov_set (by simp)]
  have hld : ∀ {q : Value → Bool} {k : Nat}, ld q L k S = some (L1, S1) → ld q (ov L B) k S = some (ov L1 B, S1) := fun {q k} h => by
    obtain ⟨v, h1, h2, rfl, rfl⟩ := ld_inv h
    simp only [ld, ov_val hB h1, h2, if_true]
  have hkp : ∀ {o : Option (List Value)}, keepL L o = some (L1, S1) → keepL (ov L B) o = some (ov L1 B, S1) := fun {o} h => by
    obtain ⟨rfl, rfl⟩ := keepL_inv h
    rfl
  cases i
  case iinc k c0 =>
    obtain ⟨x, h1, rfl, rfl⟩ := inc_inv h
    show inc (ov L B) k c0 _ = _
    simp only [inc, ov_val hB h1]
    rw [ov_set (by simp)]
  all_goals first
    | (cases h; rfl)
    | exact hld h
    | exact hst1 h
    | exact hst2 h
    | exact hkp h
    | exact absurd h (fun q => by cases q)
theorem step_ov {P : Prg} {j pc : Nat} {i : Instr} {L B : List Slot} {S : List Value} {H : Hp} {k n : Nat} {st : St} (hB : Ints B) (h : stepI P j i (pc, L, S, H, k, n) = some st) : stepI P j i (pc, ov L B, S, H, k, n) = some (st.1, ov st.2.1 B, st.2.2) := by
  simp only [stepI] at h ⊢
  split at h
  · split at h
    · rename_i x hx
      cases h
      simp only [plain_ov hB hx]
    · cases h
  · split at h
    · rename_i r hr
      cases h
      have : objI P j i (ov L B) S = some r := by
        have e : objI P j i (ov L B) S = objI P j i L S := by
          cases i <;> first | rfl | simp only [objI, ov_len]
        rw [e]; exact hr
      simp only [this]
    · cases h
  · split at h
    · rename_i o r hb
      split at h
      · rename_i ho
        cases h
        simp only [hb, if_pos ho]
      · cases h
    · rename_i hb
      cases h
      simp only [hb]
    · cases h
  · split at h
    · rename_i x hx
      cases h
      simp only [hx]
    · cases h
  · split at h
    · rename_i x hx
      cases h
      have : clnI P j pc i (ov L B) S H k n = some x := by
        have e : clnI P j pc i (ov L B) S H k n = clnI P j pc i L S H k n := by
          cases i <;> first | rfl | simp only [clnI, clnA, ov_len]
        rw [e]; exact hx
      simp only [this]
    · cases h
  · cases h
/-- up to pc t, within this frame; a call by 'run' with fuel f -/
def goU (P : Prg) (f t : Nat) : Nat → Nat → St → Option St
  | 0, _, _ => none
  | g + 1, j, (pc, L, S, H, k, n) =>
    if pc = t then some (pc, L, S, H, k, n) else
    match decode (P.mt j).code pc with
    | .error _ => none
    | .ok (i, len) =>
      if len = ilen i then
        match isCall P j i with
        | 3 => none
        | 1 => (match calI P j i S H with
          | some (j', as, r) =>
            if rmOk P j j' L r k n = true then
              (match run P f j' (0, entL as (P.mt j').mx, [], H, 0, 0) with
              | some (v, H') => goU P f t g j (pc + 3, L, v.toList ++ r, H', k + (P.mt j').rm.cells, n + (P.mt j').rm.slots)
              | none => none)
            else none
          | none => none)
        | _ => (match stepI P j i (pc, L, S, H, k, n) with | some st' => goU P f t g j st' | none => none)
      else none
theorem wp_goU {P : Prg} {f t : Nat} {B : List Slot} (hB : Ints B) {Q : MRes → Prop} : ∀ {g j : Nat} {pc : Nat} {L : List Slot} {S : List Value} {H : Hp} {k n : Nat} {st : St}, goU P f t g j (pc, L, S, H, k, n) = some st → Wp P j (st.1, ov st.2.1 B, st.2.2) Q → Wp P j (pc, ov L B, S, H, k, n) Q
  | 0, j, pc, L, S, H, k, n, st, h, w => by simp only [goU] at h; cases h
  | g + 1, j, pc, L, S, H, k, n, st, h, w => by
    simp only [goU] at h
    split at h
    · rename_i e
      cases h
      exact w
    · split at h
      · cases h
      · rename_i i len hd
        split at h
        · rename_i hl
          subst hl
          split at h
          · cases h
          · rename_i hi
            split at h
            · rename_i j' as r hc
              split at h
              · rename_i hrm
                split at h
                · rename_i v H' hr
                  have hrm' : rmOk P j j' (ov L B) r k n = true := by
                    have e : rmOk P j j' (ov L B) r k n = rmOk P j j' L r k n := by simp only [rmOk, ov_len]
                    rw [e]; exact hrm
                  rw [wpC hd hi hc hrm']
                  exact ⟨f, _, hr, wp_goU hB h w⟩
                · cases h
              · cases h
            · cases h
          · rename_i h3 h1
            split at h
            · rename_i st' hst
              obtain ⟨pc', L', S', H', k', n'⟩ := st'
              rw [wpS hd h3 h1 (step_ov hB hst)]
              exact wp_goU hB h w
            · cases h
        · cases h
end Jvm.MM
namespace Jvm.MM
open Jvm Jvm.ClassFile Sem Op Lib Jvm.Free Jvm.Stand Jvm.LawKit Jvm.RoadKit
/-! ### numbers -/
theorem and_range (x m : Int32) (d : Nat) (hd : m.toBitVec.toNat < d) : ∃ i, i < d ∧ x &&& m = Int32.ofNat i := by
  refine ⟨(x &&& m).toBitVec.toNat, ?_, ?_⟩
  · rw [Int32.toBitVec_and, BitVec.toNat_and]
    exact Nat.lt_of_le_of_lt Nat.and_le_right hd
  · apply Int32.toBitVec_inj.mp
    show _ = BitVec.ofNat 32 _
    rw [BitVec.ofNat_toNat, BitVec.setWidth_eq]
theorem nat_range {x : Int32} {d : Nat} (h0 : 0 ≤ x.toInt) (h1 : x.toInt < d) : ∃ i, i < d ∧ x = Int32.ofNat i := by
  refine ⟨x.toInt.toNat, by omega, Int32.toInt_inj.mp ?_⟩
  have := Int32.toInt_lt x
  rw [Int32.toInt_ofNat_small (by omega)]
  omega
theorem pos_mask (x : Int32) : 0 ≤ (x &&& 2147483647).toInt := (c_andS x 2147483647).2.2 (by decide)
theorem rem_range (x m : Int32) (d : Nat) (hm : m.toInt = d) (hd : 0 < d) : ∃ i, i < d ∧ (x &&& 2147483647) % m = Int32.ofNat i := by
  have h0 := pos_mask x
  have h1 := (c_irem (x &&& 2147483647) m d hm).1 h0
  have h2 := Int.emod_nonneg (x &&& 2147483647).toInt (show (d : Int) ≠ 0 by omega)
  have h3 := Int.emod_lt_of_pos (x &&& 2147483647).toInt (show (0 : Int) < d by omega)
  exact nat_range (by omega) (by omega)
theorem cmp_lt (x y : Int64) : (XT.cmpL x y < 0) = (x < y) := by
  unfold XT.cmpL
  apply propext
  by_cases h : y < x
  · rw [if_pos h]
    exact ⟨fun q => absurd q (by decide), fun q => absurd (Int64.lt_trans q h) (Int64.lt_irrefl)⟩
  · rw [if_neg h]
    by_cases e : x = y
    · subst e
      rw [if_pos rfl]
      exact ⟨fun q => absurd q (by decide), fun q => absurd q (Int64.lt_irrefl)⟩
    · rw [if_neg e]
      exact ⟨fun _ => Int64.lt_of_le_of_ne (Int64.not_lt.mp h) e, fun _ => by decide⟩
theorem cmp_gt (x y : Int64) : (0 < XT.cmpL x y) = (y < x) := by
  unfold XT.cmpL
  apply propext
  by_cases h : y < x
  · rw [if_pos h]
    exact ⟨fun _ => h, fun _ => by decide⟩
  · rw [if_neg h]
    by_cases e : x = y
    · rw [if_pos e]
      exact ⟨fun q => absurd q (by decide), fun q => absurd q h⟩
    · rw [if_neg e]
      exact ⟨fun q => absurd q (by decide), fun q => absurd q h⟩
theorem cmp_eq (x y : Int64) : (XT.cmpL x y = 0) = (x = y) := by
  unfold XT.cmpL
  apply propext
  by_cases h : y < x
  · rw [if_pos h]
    exact ⟨fun q => absurd q (by decide), fun q => by subst q; exact absurd h (Int64.lt_irrefl)⟩
  · rw [if_neg h]
    by_cases e : x = y
    · rw [if_pos e]
      exact ⟨fun _ => e, fun _ => rfl⟩
    · rw [if_neg e]
      exact ⟨fun q => absurd q (by decide), fun q => absurd q e⟩
theorem cmp_le (x y : Int64) : (XT.cmpL x y ≤ 0) = (x ≤ y) := by
  have h := cmp_gt x y
  apply propext
  rw [← Int32.not_lt, ← Int64.not_lt, h]
theorem cmp_ge (x y : Int64) : (0 ≤ XT.cmpL x y) = (y ≤ x) := by
  have h := cmp_lt x y
  apply propext
  rw [← Int32.not_lt, ← Int64.not_lt, h]
theorem on0 : Int32.ofNat 0 = 0 := rfl
theorem on1 : Int32.ofNat 1 = 1 := rfl
theorem on2 : Int32.ofNat 2 = 2 := rfl
theorem on3 : Int32.ofNat 3 = 3 := rfl
theorem on4 : Int32.ofNat 4 = 4 := rfl
theorem on5 : Int32.ofNat 5 = 5 := rfl
theorem on6 : Int32.ofNat 6 = 6 := rfl
theorem on7 : Int32.ofNat 7 = 7 := rfl
theorem on8 : Int32.ofNat 8 = 8 := rfl
theorem on9 : Int32.ofNat 9 = 9 := rfl
theorem an0 : (0 : Int32) &&& 1 = 0 := by decide
theorem an1 : (1 : Int32) &&& 1 = 1 := by decide
end Jvm.MM
namespace Jvm.MM
open Jvm Jvm.ClassFile Sem Op Lib Jvm.Free Jvm.Stand Jvm.LawKit Jvm.RoadKit
/-! ### objects that stood at the start -/
def rhoL (as : List Nat) (n0 i : Nat) : Nat := match as[i]? with | some a => a | none => n0 + (i - as.length)
theorem rhoL_old {as : List Nat} {n0 i : Nat} {a : Nat} (h : as[i]? = some a) : rhoL as n0 i = a := by simp only [rhoL, h]
theorem rhoL_new {as : List Nat} {n0 i : Nat} (h : as.length ≤ i) : rhoL as n0 i = n0 + (i - as.length) := by simp only [rhoL, List.getElem?_eq_none h]
theorem rhoL_ok {P : Prg} {as : List Nat} {n0 : Nat} (hj : P.j0 = as.length) (hn : as.Nodup) (hl : ∀ a ∈ as, a < n0) : RhoOk P (rhoL as n0) n0 := by
  refine ⟨fun i hi => by rw [hj] at hi ⊢; exact rhoL_new hi, fun i j h => ?_⟩
  have h : (rhoL as n0 i : Nat) = rhoL as n0 j := h
  by_cases h1 : i < as.length
  · have e1 : as[i]? = some as[i] := List.getElem?_eq_getElem h1
    rw [rhoL_old e1] at h
    by_cases h2 : j < as.length
    · have e2 : as[j]? = some as[j] := List.getElem?_eq_getElem h2
      rw [rhoL_old e2] at h
      exact (List.getElem_inj hn).mp h
    · rw [rhoL_new (by omega)] at h
      have := hl _ (List.getElem_mem h1)
      omega
  · rw [rhoL_new (by omega)] at h
    by_cases h2 : j < as.length
    · have e2 : as[j]? = some as[j] := List.getElem?_eq_getElem h2
      rw [rhoL_old e2] at h
      have := hl _ (List.getElem_mem h2)
      omega
    · rw [rhoL_new (by omega)] at h
      omega
section Start
variable {Z : State} {args : Array Value}
theorem ex_start {t : Term} {C : String} (hx : (Jvm.Cond.exactly t C).value args Z none Z [] = some true) : ∃ a, t.eval args Z none [] Z = some (.ref a) ∧ Exa Z Z.heap a C := by
  have hx' : (Jvm.Cond.exactly t C).before args Z = true := Jvm.Cond.before_iff.mpr hx
  obtain ⟨a', c', cell, k, e1, -⟩ := Jvm.Cond.exactly_spec hx'
  exact ⟨a', e1, Exa.start e1 hx⟩
theorem fld_of {t : Term} {a : Addr} {O n d : String} {v : Value} (ht : t.eval args Z none [] Z = some (.ref a)) (h : (Term.field t O n d).eval args Z none [] Z = some v) : Fld Z Z.heap a O n d v := by
  refine Fld.start ?_
  simpa [Term.eval, ht] using h
theorem fld_eq {t u : Term} {a : Addr} {O n d : String} {v : Value} (ht : t.eval args Z none [] Z = some (.ref a)) (hu : u.eval args Z none [] Z = some v) (h : (Jvm.Cond.eq (.field t O n d) u).value args Z none Z [] = some true) (hv : (match v with | .int _ => true | .long _ => true | _ => false) = true) : Fld Z Z.heap a O n d v := by
  refine fld_of ht ?_
  cases hf : (Term.field t O n d).eval args Z none [] Z with
  | none => simp only [Jvm.Cond.value, hf] at h; cases h
  | some w =>
    simp only [Jvm.Cond.value, hf, hu] at h
    cases v <;> cases w <;> first | (cases hv; done) | (simp at h; done) | (simp at h; rw [h])
end Start
theorem fld_inj {Z : State} {h : Heap} {a : Addr} {O n d : String} {v w : Value} (F : Fld Z h a O n d v) (G : Fld Z h a O n d w) : v = w := by
  obtain ⟨cell, cf, k, i, f, h1, h2, -, -, -, -, h7⟩ := F
  obtain ⟨cell', cf', k', i', f', g1, g2, -, -, -, -, g7⟩ := G
  cases h1.symm.trans g1
  cases h2.symm.trans g2
  exact Option.some.inj (h7.symm.trans g7)
end Jvm.MM
namespace Jvm.MM
open Jvm Jvm.ClassFile Sem Op Lib Jvm.Free Jvm.Stand Jvm.LawKit Jvm.RoadKit
/-! ### the table of boxes that stood at the start -/
section Box
variable {Z : State} {K d : String} {val : Int32 → Value} {a : Addr} {c : Cell}
theorem i32_clamp {i : Nat} (h : i < 256) : (Int32.ofNat i).toNatClampNeg = i ∧ ¬ Int32.ofNat i < 0 := by
  have e : (Int32.ofNat i).toInt = i := Int32.toInt_ofNat_small (by omega)
  refine ⟨by simp only [Int32.toNatClampNeg, e]; rfl, fun q => ?_⟩
  have := Int32.lt_iff_toInt_lt.mp q
  rw [e] at this
  have z : (0 : Int32).toInt = 0 := rfl
  omega
def refOf : Value → Nat | .ref b => b | _ => 0
theorem boxes_list (B : Bxs Z a c K d 256 val) : ∃ bs : List Nat, bs.length = 256 ∧ c.slots = (bs.map (fun b => Value.ref b)).toArray ∧ ∀ i b, bs[i]? = some b → Exa Z Z.heap b K ∧ Fld Z Z.heap b K "value" d (val (Int32.ofNat i)) := by
  obtain ⟨-, hs, -, hb⟩ := B
  have hs : c.slots.size = 256 := hs
  have key : ∀ i, i < 256 → ∃ b : Addr, c.slots[i]? = some (.ref b) ∧ Exa Z Z.heap b K ∧ Fld Z Z.heap b K "value" d (val (Int32.ofNat i)) := fun i hi => by
    obtain ⟨e1, e2⟩ := i32_clamp hi
    obtain ⟨b, h1, h2, h3⟩ := hb (Int32.ofNat i) (fun q => q.elim e2 (fun q => by rw [e1] at q; omega))
    rw [e1] at h1
    exact ⟨b, h1, h2, h3⟩
  refine ⟨c.slots.toList.map refOf, by simpa using hs, ?_, fun i b h => ?_⟩
  · apply Array.ext_getElem?
    intro i
    by_cases hi : i < 256
    · obtain ⟨b, h1, -, -⟩ := key i hi
      rw [h1]
      simp [h1, refOf]
    · rw [Array.getElem?_eq_none (by omega), Array.getElem?_eq_none (by simp; omega)]
  · have hi : i < 256 := by
      have := (List.getElem?_eq_some_iff.mp h).1
      simpa [hs] using this
    obtain ⟨b', h1, h2, h3⟩ := key i hi
    have : b = b' := by
      simp [h1, refOf] at h
      exact h.symm
    subst this
    exact ⟨h2, h3⟩
def boxH (cid : Nat) (K : String) (val : Int32 → Value) : Hp := (List.range 256).map (fun i => ((.inr cid, [val (Int32.ofNat i)]) : Obj)) ++ [(.inl (.object K), (List.range 256).map Value.ref)]
theorem boxH_len (cid : Nat) (K : String) (val : Int32 → Value) : (boxH cid K val).length = 257 := by simp [boxH]
theorem boxH_box {cid : Nat} {K : String} {val : Int32 → Value} {i : Nat} (hi : i < 256) : (boxH cid K val)[i]? = some (.inr cid, [val (Int32.ofNat i)]) := by
  unfold boxH
  rw [List.getElem?_append_left (by simpa using hi)]
  simp [hi]
theorem boxH_arr {cid : Nat} {K : String} {val : Int32 → Value} : (boxH cid K val)[256]? = some (.inl (.object K), (List.range 256).map Value.ref) := by
  unfold boxH
  rw [List.getElem?_append_right (by simp)]
  simp
theorem boxes_nodup {bs : List Nat} (hv : ∀ i j, i < 256 → j < 256 → val (Int32.ofNat i) = val (Int32.ofNat j) → i = j) (hl : bs.length = 256) (hb : ∀ i b, bs[i]? = some b → Exa Z Z.heap b K ∧ Fld Z Z.heap b K "value" d (val (Int32.ofNat i))) : bs.Nodup := by
  refine List.pairwise_iff_getElem.mpr fun i j hi hj hij e => ?_
  have h1 : bs[j]? = some bs[j] := List.getElem?_eq_getElem hj
  have h0 : bs[i]? = some bs[j] := by rw [List.getElem?_eq_getElem hi, e]
  have := fld_inj (hb _ _ h0).2 (hb _ _ h1).2
  have := hv i j (by omega) (by omega) this
  omega
theorem boxes_obj {P : Prg} {ρ : Nat → Addr} {cid : Nat} {ty : FieldType} {bs : List Nat} (hj : 257 ≤ P.j0) (hn : P.cname cid = K) (hf : P.flds cid = [(K, "value", d, ty)]) (hv : ∀ i j, val i = .ref j → False) (hl : bs.length = 256) (hs : c.slots = (bs.map (fun b => Value.ref b)).toArray)
    (hb : ∀ i b, bs[i]? = some b → Exa Z Z.heap b K ∧ Fld Z Z.heap b K "value" d (val (Int32.ofNat i))) (A : Arr Z Z.heap a c (.object K)) (hr : ∀ i b, bs[i]? = some b → ρ i = b) (ha : ρ 256 = a) {i : Nat} {o : Obj} (h : (boxH cid K val)[i]? = some o) : ObjOk P Z ρ Z.heap i o := by
  have hi : i < 257 := by rw [← boxH_len cid K val]; exact (List.getElem?_eq_some_iff.mp h).1
  by_cases q : i < 256
  · rw [boxH_box q] at h
    cases h
    have e : bs[i]? = some bs[i] := List.getElem?_eq_getElem (by omega)
    obtain ⟨E, F⟩ := hb i _ e
    refine fun _ => ⟨by rw [hr i _ e, hn]; exact E, fun q v fd h1 h2 => ?_⟩
    rw [hf] at h2
    match q, h1, h2 with
    | 0, h1, h2 =>
      cases h1; cases h2
      rw [hr i _ e]
      have : tv ρ (val (Int32.ofNat i)) = val (Int32.ofNat i) := by
        cases q : val (Int32.ofNat i) <;> first | rfl | exact (hv _ _ q).elim
      rw [this]
      exact F
  · have : i = 256 := by omega
    subst this
    rw [boxH_arr] at h
    cases h
    refine ⟨c, by rw [ha]; exact A, ?_, fun q => by omega, fun q => by omega⟩
    rw [hs]
    apply congrArg
    apply List.ext_getElem?
    intro i
    by_cases hi : i < 256
    · have e : bs[i]? = some bs[i] := List.getElem?_eq_getElem (by omega)
      simp [e, hi, tv, hr i _ e]
    · rw [List.getElem?_eq_none (by simp; omega), List.getElem?_eq_none (by simp; omega)]
theorem exa_ne {h : Heap} {a b : Addr} {C D : String} (E : Exa Z h a C) (F : Exa Z h b D) (hn : C ≠ D) : a ≠ b := fun e => by
  subst e
  obtain ⟨c1, k1, a1, a2, a3, -⟩ := E
  obtain ⟨c2, k2, b1, b2, b3, -⟩ := F
  cases a1.symm.trans b1
  obtain ⟨k, e1, e2⟩ := Vm.findClass_spec a2
  obtain ⟨k', f1, f2⟩ := Vm.findClass_spec b2
  cases e1.symm.trans f1
  exact hn (e2.symm.trans f2)
theorem box_start {args : Array Value} {t F : Term} (et : ∀ idx, t.eval args Z none idx Z = some (.ref a)) (hA : (Jvm.Cond.arrayOf t (.object K)).value args Z none Z [] = some true) (hl : (Jvm.Cond.eq (.length t) (.int 256)).value args Z none Z [] = some true)
    (h : (Jvm.Cond.all t (.and (.exactly (.elem t (.index 0)) K) (.eq (.field (.elem t (.index 0)) K "value" d) F))).value args Z none Z [] = some true)
    (hv : ∀ (X : Term) (j : Int32), ¬ j < 0 → (Jvm.Cond.eq X F).value args Z none Z [j.toNatClampNeg] = some true → X.eval args Z none [j.toNatClampNeg] Z = some (val j)) : ∃ c, Bxs Z a c K d 256 val := by
  obtain ⟨c, A⟩ := Arr.start (et []) hA
  have e := eqv_i (Term.int_eval 256) hl
  have AA := A.fin (Vm.Alike.refl _)
  have q : c.slots.size < 2 ^ 31 := by
    apply Classical.byContradiction
    intro q
    simp [Term.eval, et [], AA, q] at e
  rw [len_f (et []) AA q] at e
  exact ⟨c, Bxs.start et A q (Value.int.inj (Option.some.inj e)) (by decide) h hv⟩
end Box
/-! ### a class that isn't another's heir, where that other is known to be instantiable -/
section No
variable {Z : State} {a0 : Array Value}
theorem ns_root {O K : String} {n : Nat} (w : (Jvm.Cond.noSuperclass O).before a0 Z = true) (wk : (Jvm.Cond.instantiable K n).before a0 Z = true) (hn : O ≠ K) : NS Z O K := by
  obtain ⟨c, k, h1, h2, h3, -, -⟩ := Cond.noSuperclass_spec w
  obtain ⟨t, kt, g1, -⟩ := Cond.instantiable_spec wk
  have ne := ids_ne h1 g1 hn
  refine ⟨c, t, h1, g1, fun fuel => ?_⟩
  cases fuel with
  | zero => rfl
  | succ f => simp [Vm.isSubclassAux, ne, h2, h3]
theorem ns_no {C S K : String} {n : Nat} (w : (Jvm.Cond.superclass C S).before a0 Z = true) (wk : (Jvm.Cond.instantiable K n).before a0 Z = true) (m : NS Z C K) (hn : C ≠ K) : ∃ c t, Z.vm.findClass C = some c ∧ Z.vm.findClass K = some t ∧ Z.vm.assignable c t = false := by
  obtain ⟨c, t, h0, g0, n3⟩ := m
  obtain ⟨p, k, kp, h1, h2, h3, h4, h5, -, h7⟩ := Cond.superclass_spec h0 w
  obtain ⟨t', kt, g1, g2, g3, g4, -⟩ := Cond.instantiable_spec wk
  cases g0.symm.trans g1
  have g5 : kt.isInterface = false := by
    cases q : kt.isInterface with
    | false => rfl
    | true => rw [q] at g4; cases g4
  have ne := ids_ne h0 g0 hn
  refine ⟨c, t, h0, g0, ?_⟩
  show Z.vm.assignableAux (255 + 1) c t = false
  simp [Vm.assignableAux, ne, h2, g2, h5, g3, g5, Vm.isSubclass, n3]
theorem ins_no {h : Heap} {a : Addr} {C K : String} (E : Exa Z h a C) (F : ∃ c t, Z.vm.findClass C = some c ∧ Z.vm.findClass K = some t ∧ Z.vm.assignable c t = false) : Ins Z h a K false := by
  obtain ⟨c, t, f1, f2, f3⟩ := F
  obtain ⟨cell, k, e1, e2, -⟩ := E
  cases f1.symm.trans e2
  exact ⟨cell, t, e1, f2, by rw [f3, Bool.and_false]⟩
end No
end Jvm.MM
namespace Jvm.Pilot.@@N@@
open Jvm Jvm.ClassFile Sem Op Lib Jvm.Free Jvm.Stand Jvm.LawKit Jvm.RoadKit Bundle Jvm.MM Jvm.Pilot.@@N@@.Jvm.D
def mths : List Mth := [(x, code, maxLocals, ret, room_1),
  (⟨"com/example/cardinality/cardinality/Conjunction", "<init>", "([I[I)V"⟩, prog_2_method_1_code, 3, none, { frames := 4, cells := 2, slots := 6, locals := 79 }),
  (⟨"java/util/Arrays", "sort", "([I)V"⟩, jdk_65_method_2_code, 1, none, { frames := 3, cells := 0, slots := 0, locals := 67 }),
  (⟨"java/util/DualPivotQuicksort", "sort", "([IIII)V"⟩, jdk_2529_method_3_code, 7, none, { frames := 2, cells := 0, slots := 0, locals := 49 }),
  (⟨"java/util/DualPivotQuicksort", "sort", "(Ljava/util/DualPivotQuicksort$Sorter;[IIII)V"⟩, jdk_2529_method_4_code, 21, none, { frames := 1, cells := 0, slots := 0, locals := 17 }),
  (⟨"java/util/DualPivotQuicksort", "insertionSort", "([III)V"⟩, jdk_2529_method_6_code, 6, none, { frames := 0, cells := 0, slots := 0, locals := 0 }),
  (⟨"com/example/cardinality/cardinality/Conjunction", "asHornClause", "()Lcom/example/cardinality/cardinality/Clause;"⟩, prog_2_method_5_code, 2, (some (.object "com/example/cardinality/cardinality/Clause")), { frames := 2, cells := 1, slots := 2, locals := 27 }),
  (⟨"com/example/cardinality/cardinality/Clause", "<init>", "([II)V"⟩, prog_1_method_1_code, 3, none, { frames := 1, cells := 0, slots := 0, locals := 12 }),
  (⟨"com/example/cardinality/cardinality/Clause", "head", "()I"⟩, prog_1_method_3_code, 1, (some .int), { frames := 0, cells := 0, slots := 0, locals := 0 }),
  (⟨"com/example/cardinality/cardinality/Clause", "body", "()[I"⟩, prog_1_method_2_code, 1, (some (.array .int)), { frames := 0, cells := 0, slots := 0, locals := 0 }),
  (⟨"java/lang/Math", "min", "(II)I"⟩, jdk_29_method_69_code, 2, (some .int), { frames := 0, cells := 0, slots := 0, locals := 0 }),
  (⟨"java/lang/Math", "max", "(II)I"⟩, jdk_29_method_65_code, 2, (some .int), { frames := 0, cells := 0, slots := 0, locals := 0 })]
def clss : List Cls := [("com/example/cardinality/cardinality/Conjunction", 2, [("com/example/cardinality/cardinality/Conjunction", "classes", "[I", (.array .int)), ("com/example/cardinality/cardinality/Conjunction", "outside", "[I", (.array .int))]),
  ("com/example/cardinality/cardinality/Clause", 2, [("com/example/cardinality/cardinality/Clause", "body", "[I", (.array .int)), ("com/example/cardinality/cardinality/Clause", "head", "I", .int)])]
def Pg : Prg := (mths, clss, [(1, 13, 0, 0), (1, 18, 0, 1), (6, 18, 0, 1), (6, 13, 0, 0), (8, 13, 1, 1), (9, 7, 1, 0)], [(1, 13, 0, 0), (1, 18, 0, 1), (7, 7, 1, 0), (7, 13, 1, 1)], [], [], [(0, 7, 0), (6, 31, 1)], [], [.int], [(1, 8, (.inl .int), true)], [], [], [(0, 9, 1, 2, 1), (0, 12, 2, 0, 0), (0, 16, 2, 0, 0), (0, 22, 2, 0, 0), (0, 26, 0, 2, 10), (0, 32, 0, 2, 11), (1, 1, 6, 0, 0), (1, 7, 7, 0, 0), (1, 21, 0, 1, 2), (2, 7, 0, 4, 3), (3, 26, 0, 5, 4), (4, 34, 0, 3, 5), (6, 33, 1, 2, 7), (7, 1, 6, 0, 0)], [(0, 12, 0, 0, 6), (0, 16, 1, 0, 8), (0, 22, 1, 0, 9)], [(0, 48, 2), (0, 114, 3), (0, 98, 2), (0, 80, 1), (0, 66, 0), (0, 36, 1), (0, 22, 0), (1, 6, 3), (1, 17, 3)], 0)
section Words
variable {Z : State} {a0 : Array Value} (hw : ∀ d ∈ tables_1, d.before a0 Z = true)
theorem cl0 (hw : ∀ d ∈ tables_1, d.before a0 Z = true) : ClsOk Z a0 ("com/example/cardinality/cardinality/Conjunction", 2, [("com/example/cardinality/cardinality/Conjunction", "classes", "[I", (.array .int)), ("com/example/cardinality/cardinality/Conjunction", "outside", "[I", (.array .int))]) := ⟨(hw _ (List.mem_of_getElem? (i := 2) rfl)), am_cons (⟨Or.inr (hw _ (List.mem_of_getElem? (i := 20) rfl)), by decide⟩) (am_cons (⟨Or.inr (hw _ (List.mem_of_getElem? (i := 22) rfl)), by decide⟩) (am_nil)), by decide⟩
theorem cl1 (hw : ∀ d ∈ tables_1, d.before a0 Z = true) : ClsOk Z a0 ("com/example/cardinality/cardinality/Clause", 2, [("com/example/cardinality/cardinality/Clause", "body", "[I", (.array .int)), ("com/example/cardinality/cardinality/Clause", "head", "I", .int)]) := ⟨(hw _ (List.mem_of_getElem? (i := 43) rfl)), am_cons (⟨Or.inr (hw _ (List.mem_of_getElem? (i := 50) rfl)), by decide⟩) (am_cons (⟨Or.inr (hw _ (List.mem_of_getElem? (i := 52) rfl)), by decide⟩) (am_nil)), by decide⟩
theorem pf0 : plainFor (x : MethodName) = true := by first | exact plainFor_of_name (by decide +kernel) | decide +kernel
theorem pf1 : plainFor (⟨"com/example/cardinality/cardinality/Conjunction", "<init>", "([I[I)V"⟩ : MethodName) = true := by first | exact plainFor_of_name (by decide +kernel) | decide +kernel
theorem mo1 (hw : ∀ d ∈ tables_1, d.before a0 Z = true) : MthOk Z a0 (⟨"com/example/cardinality/cardinality/Conjunction", "<init>", "([I[I)V"⟩, prog_2_method_1_code, 3, none, { frames := 4, cells := 2, slots := 6, locals := 79 }) := ⟨(hw _ (List.mem_of_getElem? (i := 6) rfl)), (hw _ (List.mem_of_getElem? (i := 3) rfl)), pf1, by decide⟩
theorem pf2 : plainFor (⟨"java/util/Arrays", "sort", "([I)V"⟩ : MethodName) = true := by first | exact plainFor_of_name (by decide +kernel) | decide +kernel
theorem mo2 (hw : ∀ d ∈ tables_1, d.before a0 Z = true) : MthOk Z a0 (⟨"java/util/Arrays", "sort", "([I)V"⟩, jdk_65_method_2_code, 1, none, { frames := 3, cells := 0, slots := 0, locals := 67 }) := ⟨(hw _ (List.mem_of_getElem? (i := 26) rfl)), (hw _ (List.mem_of_getElem? (i := 25) rfl)), pf2, by decide⟩
theorem pf3 : plainFor (⟨"java/util/DualPivotQuicksort", "sort", "([IIII)V"⟩ : MethodName) = true := by first | exact plainFor_of_name (by decide +kernel) | decide +kernel
theorem mo3 (hw : ∀ d ∈ tables_1, d.before a0 Z = true) : MthOk Z a0 (⟨"java/util/DualPivotQuicksort", "sort", "([IIII)V"⟩, jdk_2529_method_3_code, 7, none, { frames := 2, cells := 0, slots := 0, locals := 49 }) := ⟨(hw _ (List.mem_of_getElem? (i := 30) rfl)), (hw _ (List.mem_of_getElem? (i := 29) rfl)), pf3, by decide⟩
theorem pf4 : plainFor (⟨"java/util/DualPivotQuicksort", "sort", "(Ljava/util/DualPivotQuicksort$Sorter;[IIII)V"⟩ : MethodName) = true := by first | exact plainFor_of_name (by decide +kernel) | decide +kernel
theorem mo4 (hw : ∀ d ∈ tables_1, d.before a0 Z = true) : MthOk Z a0 (⟨"java/util/DualPivotQuicksort", "sort", "(Ljava/util/DualPivotQuicksort$Sorter;[IIII)V"⟩, jdk_2529_method_4_code, 21, none, { frames := 1, cells := 0, slots := 0, locals := 17 }) := ⟨(hw _ (List.mem_of_getElem? (i := 33) rfl)), (hw _ (List.mem_of_getElem? (i := 29) rfl)), pf4, by decide⟩
theorem pf5 : plainFor (⟨"java/util/DualPivotQuicksort", "insertionSort", "([III)V"⟩ : MethodName) = true := by first | exact plainFor_of_name (by decide +kernel) | decide +kernel
theorem mo5 (hw : ∀ d ∈ tables_1, d.before a0 Z = true) : MthOk Z a0 (⟨"java/util/DualPivotQuicksort", "insertionSort", "([III)V"⟩, jdk_2529_method_6_code, 6, none, { frames := 0, cells := 0, slots := 0, locals := 0 }) := ⟨(hw _ (List.mem_of_getElem? (i := 36) rfl)), (hw _ (List.mem_of_getElem? (i := 29) rfl)), pf5, by decide⟩
theorem pf6 : plainFor (⟨"com/example/cardinality/cardinality/Conjunction", "asHornClause", "()Lcom/example/cardinality/cardinality/Clause;"⟩ : MethodName) = true := by first | exact plainFor_of_name (by decide +kernel) | decide +kernel
theorem mo6 (hw : ∀ d ∈ tables_1, d.before a0 Z = true) : MthOk Z a0 (⟨"com/example/cardinality/cardinality/Conjunction", "asHornClause", "()Lcom/example/cardinality/cardinality/Clause;"⟩, prog_2_method_5_code, 2, (some (.object "com/example/cardinality/cardinality/Clause")), { frames := 2, cells := 1, slots := 2, locals := 27 }) := ⟨(hw _ (List.mem_of_getElem? (i := 41) rfl)), (hw _ (List.mem_of_getElem? (i := 3) rfl)), pf6, by decide⟩
theorem pf7 : plainFor (⟨"com/example/cardinality/cardinality/Clause", "<init>", "([II)V"⟩ : MethodName) = true := by first | exact plainFor_of_name (by decide +kernel) | decide +kernel
theorem mo7 (hw : ∀ d ∈ tables_1, d.before a0 Z = true) : MthOk Z a0 (⟨"com/example/cardinality/cardinality/Clause", "<init>", "([II)V"⟩, prog_1_method_1_code, 3, none, { frames := 1, cells := 0, slots := 0, locals := 12 }) := ⟨(hw _ (List.mem_of_getElem? (i := 47) rfl)), (hw _ (List.mem_of_getElem? (i := 44) rfl)), pf7, by decide⟩
theorem pf8 : plainFor (⟨"com/example/cardinality/cardinality/Clause", "head", "()I"⟩ : MethodName) = true := by first | exact plainFor_of_name (by decide +kernel) | decide +kernel
theorem mo8 (hw : ∀ d ∈ tables_1, d.before a0 Z = true) : MthOk Z a0 (⟨"com/example/cardinality/cardinality/Clause", "head", "()I"⟩, prog_1_method_3_code, 1, (some .int), { frames := 0, cells := 0, slots := 0, locals := 0 }) := ⟨(hw _ (List.mem_of_getElem? (i := 57) rfl)), (hw _ (List.mem_of_getElem? (i := 44) rfl)), pf8, by decide⟩
theorem pf9 : plainFor (⟨"com/example/cardinality/cardinality/Clause", "body", "()[I"⟩ : MethodName) = true := by first | exact plainFor_of_name (by decide +kernel) | decide +kernel
theorem mo9 (hw : ∀ d ∈ tables_1, d.before a0 Z = true) : MthOk Z a0 (⟨"com/example/cardinality/cardinality/Clause", "body", "()[I"⟩, prog_1_method_2_code, 1, (some (.array .int)), { frames := 0, cells := 0, slots := 0, locals := 0 }) := ⟨(hw _ (List.mem_of_getElem? (i := 62) rfl)), (hw _ (List.mem_of_getElem? (i := 44) rfl)), pf9, by decide⟩
theorem pf10 : plainFor (⟨"java/lang/Math", "min", "(II)I"⟩ : MethodName) = true := by first | exact plainFor_of_name (by decide +kernel) | decide +kernel
theorem mo10 (hw : ∀ d ∈ tables_1, d.before a0 Z = true) : MthOk Z a0 (⟨"java/lang/Math", "min", "(II)I"⟩, jdk_29_method_69_code, 2, (some .int), { frames := 0, cells := 0, slots := 0, locals := 0 }) := ⟨(hw _ (List.mem_of_getElem? (i := 66) rfl)), (hw _ (List.mem_of_getElem? (i := 65) rfl)), pf10, by decide⟩
theorem pf11 : plainFor (⟨"java/lang/Math", "max", "(II)I"⟩ : MethodName) = true := by first | exact plainFor_of_name (by decide +kernel) | decide +kernel
theorem mo11 (hw : ∀ d ∈ tables_1, d.before a0 Z = true) : MthOk Z a0 (⟨"java/lang/Math", "max", "(II)I"⟩, jdk_29_method_65_code, 2, (some .int), { frames := 0, cells := 0, slots := 0, locals := 0 }) := ⟨(hw _ (List.mem_of_getElem? (i := 69) rfl)), (hw _ (List.mem_of_getElem? (i := 65) rfl)), pf11, by decide⟩
theorem ok_fl (hw : ∀ d ∈ tables_1, d.before a0 Z = true) : ∀ q ∈ Pg.fl, FlOk Pg Z a0 q :=
  am_cons (⟨("com/example/cardinality/cardinality/Conjunction", "classes", "[I", (.array .int)), rfl, "com/example/cardinality/cardinality/Conjunction", (hw _ (List.mem_of_getElem? (i := 19) rfl)), Via.refl⟩) (am_cons (⟨("com/example/cardinality/cardinality/Conjunction", "outside", "[I", (.array .int)), rfl, "com/example/cardinality/cardinality/Conjunction", (hw _ (List.mem_of_getElem? (i := 21) rfl)), Via.refl⟩) (am_cons (⟨("com/example/cardinality/cardinality/Conjunction", "outside", "[I", (.array .int)), rfl, "com/example/cardinality/cardinality/Conjunction", (hw _ (List.mem_of_getElem? (i := 21) rfl)), Via.refl⟩) (am_cons (⟨("com/example/cardinality/cardinality/Conjunction", "classes", "[I", (.array .int)), rfl, "com/example/cardinality/cardinality/Conjunction", (hw _ (List.mem_of_getElem? (i := 19) rfl)), Via.refl⟩) (am_cons (⟨("com/example/cardinality/cardinality/Clause", "head", "I", .int), rfl, "com/example/cardinality/cardinality/Clause", (hw _ (List.mem_of_getElem? (i := 51) rfl)), Via.refl⟩) (am_cons (⟨("com/example/cardinality/cardinality/Clause", "body", "[I", (.array .int)), rfl, "com/example/cardinality/cardinality/Clause", (hw _ (List.mem_of_getElem? (i := 49) rfl)), Via.refl⟩) (am_nil))))))
theorem ok_fw (hw : ∀ d ∈ tables_1, d.before a0 Z = true) : ∀ q ∈ Pg.fw, FwOk Pg Z a0 q :=
  am_cons (⟨("com/example/cardinality/cardinality/Conjunction", 2, [("com/example/cardinality/cardinality/Conjunction", "classes", "[I", (.array .int)), ("com/example/cardinality/cardinality/Conjunction", "outside", "[I", (.array .int))]), rfl, cl0 hw, ("com/example/cardinality/cardinality/Conjunction", "classes", "[I", (.array .int)), rfl, ⟨"com/example/cardinality/cardinality/Conjunction", (hw _ (List.mem_of_getElem? (i := 19) rfl)), Via.refl⟩, (Or.inr ⟨(hw _ (List.mem_of_getElem? (i := 20) rfl)), rfl, rfl⟩)⟩) (am_cons (⟨("com/example/cardinality/cardinality/Conjunction", 2, [("com/example/cardinality/cardinality/Conjunction", "classes", "[I", (.array .int)), ("com/example/cardinality/cardinality/Conjunction", "outside", "[I", (.array .int))]), rfl, cl0 hw, ("com/example/cardinality/cardinality/Conjunction", "outside", "[I", (.array .int)), rfl, ⟨"com/example/cardinality/cardinality/Conjunction", (hw _ (List.mem_of_getElem? (i := 21) rfl)), Via.refl⟩, (Or.inr ⟨(hw _ (List.mem_of_getElem? (i := 22) rfl)), rfl, rfl⟩)⟩) (am_cons (⟨("com/example/cardinality/cardinality/Clause", 2, [("com/example/cardinality/cardinality/Clause", "body", "[I", (.array .int)), ("com/example/cardinality/cardinality/Clause", "head", "I", .int)]), rfl, cl1 hw, ("com/example/cardinality/cardinality/Clause", "body", "[I", (.array .int)), rfl, ⟨"com/example/cardinality/cardinality/Clause", (hw _ (List.mem_of_getElem? (i := 49) rfl)), Via.refl⟩, (Or.inr ⟨(hw _ (List.mem_of_getElem? (i := 50) rfl)), rfl, rfl⟩)⟩) (am_cons (⟨("com/example/cardinality/cardinality/Clause", 2, [("com/example/cardinality/cardinality/Clause", "body", "[I", (.array .int)), ("com/example/cardinality/cardinality/Clause", "head", "I", .int)]), rfl, cl1 hw, ("com/example/cardinality/cardinality/Clause", "head", "I", .int), rfl, ⟨"com/example/cardinality/cardinality/Clause", (hw _ (List.mem_of_getElem? (i := 51) rfl)), Via.refl⟩, (Or.inr ⟨(hw _ (List.mem_of_getElem? (i := 52) rfl)), rfl, rfl⟩)⟩) (am_nil))))
theorem ok_sf (hw : ∀ d ∈ tables_1, d.before a0 Z = true) : ∀ q ∈ Pg.sf, SfOk Pg Z a0 q :=
  am_nil
theorem ok_nw (hw : ∀ d ∈ tables_1, d.before a0 Z = true) : ∀ q ∈ Pg.nw, NwOk Pg Z a0 q :=
  am_cons (⟨("com/example/cardinality/cardinality/Conjunction", 2, [("com/example/cardinality/cardinality/Conjunction", "classes", "[I", (.array .int)), ("com/example/cardinality/cardinality/Conjunction", "outside", "[I", (.array .int))]), rfl, cl0 hw, (hw _ (List.mem_of_getElem? (i := 1) rfl)), (hw _ (List.mem_of_getElem? (i := 3) rfl))⟩) (am_cons (⟨("com/example/cardinality/cardinality/Clause", 2, [("com/example/cardinality/cardinality/Clause", "body", "[I", (.array .int)), ("com/example/cardinality/cardinality/Clause", "head", "I", .int)]), rfl, cl1 hw, (hw _ (List.mem_of_getElem? (i := 42) rfl)), (hw _ (List.mem_of_getElem? (i := 44) rfl))⟩) (am_nil))
theorem ok_na (hw : ∀ d ∈ tables_1, d.before a0 Z = true) : ∀ q ∈ Pg.na, NaOk Pg Z a0 q :=
  am_nil
theorem ok_ca {ρ : Nat → Addr} (hw : ∀ d ∈ tables_1, d.before a0 Z = true) : ∀ q ∈ Pg.ca, CaOk Pg Z a0 ρ q :=
  am_cons (⟨"[I", (hw _ (List.mem_of_getElem? (i := 17) rfl)), fun h i vs Q => by obtain ⟨_, _, _, _, E⟩ := Q; exact Ins.self (E (Nat.zero_le _) rfl), fun q => by cases q⟩) (am_nil)
theorem ok_ki (hw : ∀ d ∈ tables_1, d.before a0 Z = true) : ∀ q ∈ Pg.ki, KiOk Pg Z a0 q :=
  am_nil
theorem ok_kl (hw : ∀ d ∈ tables_1, d.before a0 Z = true) : ∀ q ∈ Pg.kl, KlOk Pg Z a0 q :=
  am_nil
theorem ok_ic (hw : ∀ d ∈ tables_1, d.before a0 Z = true) : ∀ q ∈ Pg.ic, IcOk Pg Z a0 q :=
  am_cons (⟨rfl, (hw _ (List.mem_of_getElem? (i := 4) rfl)), (hw _ (List.mem_of_getElem? (i := 5) rfl)), mo1 hw, rfl, (show Arity "([I[I)V" 2 from Arity.of (by decide +kernel))⟩) (am_cons (trivial) (am_cons (trivial) (am_cons (trivial) (am_cons (⟨(hw _ (List.mem_of_getElem? (i := 63) rfl)), (hw _ (List.mem_of_getElem? (i := 64) rfl)), mo10 hw, (show Arity "(II)I" 2 from Arity.of (by decide +kernel))⟩) (am_cons (⟨(hw _ (List.mem_of_getElem? (i := 67) rfl)), (hw _ (List.mem_of_getElem? (i := 68) rfl)), mo11 hw, (show Arity "(II)I" 2 from Arity.of (by decide +kernel))⟩) (am_cons (⟨(hw _ (List.mem_of_getElem? (i := 7) rfl)), (hw _ (List.mem_of_getElem? (i := 8) rfl)), (hw _ (List.mem_of_getElem? (i := 9) rfl))⟩) (am_cons (⟨(hw _ (List.mem_of_getElem? (i := 10) rfl)), (hw _ (List.mem_of_getElem? (i := 11) rfl)), (hw _ (List.mem_of_getElem? (i := 15) rfl)), (hw _ (List.mem_of_getElem? (i := 13) rfl)), (hw _ (List.mem_of_getElem? (i := 14) rfl)), (hw _ (List.mem_of_getElem? (i := 16) rfl))⟩) (am_cons (⟨(hw _ (List.mem_of_getElem? (i := 23) rfl)), (hw _ (List.mem_of_getElem? (i := 24) rfl)), mo2 hw, (show Arity "([I)V" 1 from Arity.of (by decide +kernel))⟩) (am_cons (⟨(hw _ (List.mem_of_getElem? (i := 27) rfl)), (hw _ (List.mem_of_getElem? (i := 28) rfl)), mo3 hw, (show Arity "([IIII)V" 4 from Arity.of (by decide +kernel))⟩) (am_cons (⟨(hw _ (List.mem_of_getElem? (i := 31) rfl)), (hw _ (List.mem_of_getElem? (i := 32) rfl)), mo4 hw, (show Arity "(Ljava/util/DualPivotQuicksort$Sorter;[IIII)V" 5 from Arity.of (by decide +kernel))⟩) (am_cons (⟨(hw _ (List.mem_of_getElem? (i := 34) rfl)), (hw _ (List.mem_of_getElem? (i := 35) rfl)), mo5 hw, (show Arity "([III)V" 3 from Arity.of (by decide +kernel))⟩) (am_cons (⟨rfl, (hw _ (List.mem_of_getElem? (i := 45) rfl)), (hw _ (List.mem_of_getElem? (i := 46) rfl)), mo7 hw, rfl, (show Arity "([II)V" 2 from Arity.of (by decide +kernel))⟩) (am_cons (⟨(hw _ (List.mem_of_getElem? (i := 48) rfl)), (hw _ (List.mem_of_getElem? (i := 8) rfl)), (hw _ (List.mem_of_getElem? (i := 9) rfl))⟩) (am_nil))))))))))))))
theorem ok_vc (hw : ∀ d ∈ tables_1, d.before a0 Z = true) : ∀ q ∈ Pg.vc, VcOk Pg Z a0 q :=
  am_cons (⟨⟨"com/example/cardinality/cardinality/Conjunction", "asHornClause", "()Lcom/example/cardinality/cardinality/Clause;"⟩, (hw _ (List.mem_of_getElem? (i := 37) rfl)), (hw _ (List.mem_of_getElem? (i := 38) rfl)), Or.inl ⟨_, (hw _ (List.mem_of_getElem? (i := 40) rfl))⟩, (hw _ (List.mem_of_getElem? (i := 40) rfl)), (hw _ (List.mem_of_getElem? (i := 39) rfl)), mo6 hw, by decide, (show Arity "()Lcom/example/cardinality/cardinality/Clause;" 0 from Arity.of (by decide +kernel)), by decide⟩) (am_cons (⟨⟨"com/example/cardinality/cardinality/Clause", "head", "()I"⟩, (hw _ (List.mem_of_getElem? (i := 53) rfl)), (hw _ (List.mem_of_getElem? (i := 54) rfl)), Or.inl ⟨_, (hw _ (List.mem_of_getElem? (i := 56) rfl))⟩, (hw _ (List.mem_of_getElem? (i := 56) rfl)), (hw _ (List.mem_of_getElem? (i := 55) rfl)), mo8 hw, by decide, (show Arity "()I" 0 from Arity.of (by decide +kernel)), by decide⟩) (am_cons (⟨⟨"com/example/cardinality/cardinality/Clause", "body", "()[I"⟩, (hw _ (List.mem_of_getElem? (i := 58) rfl)), (hw _ (List.mem_of_getElem? (i := 59) rfl)), Or.inl ⟨_, (hw _ (List.mem_of_getElem? (i := 61) rfl))⟩, (hw _ (List.mem_of_getElem? (i := 61) rfl)), (hw _ (List.mem_of_getElem? (i := 60) rfl)), mo9 hw, by decide, (show Arity "()[I" 0 from Arity.of (by decide +kernel)), by decide⟩) (am_nil)))
theorem ok_ats (hw : ∀ d ∈ tables_1, d.before a0 Z = true) : ∀ ty ∈ Pg.ats, Wd Z a0 (.arrayClass ty) :=
  am_cons ((hw _ (List.mem_of_getElem? (i := 0) rfl))) (am_nil)
theorem okP {ρ : Nat → Addr} (hw : ∀ d ∈ tables_1, d.before a0 Z = true) : PrgOk Pg Z a0 ρ := ⟨ok_fl hw, ok_fw hw, ok_sf hw, ok_nw hw, ok_na hw, ok_ats hw, ok_ca (ρ := ρ) hw, ok_ki hw, ok_kl hw, ok_ic hw, ok_vc hw⟩
end Words
theorem j0_eq : Pg.j0 = 0 := rfl
theorem d0_0 : decode (Pg.mt 0).code 0 = .ok (.iload 5, 2) := by decide +kernel
theorem w0_0 {L : List Slot} {S : List Value} {H : Hp} {k : Nat} {n : Nat} {Q : MRes → Prop} {l0 l1 l2 l3 l4 : Slot} {x : Int32} : Wp Pg 0 (0, l0 :: l1 :: l2 :: l3 :: l4 :: .val (.int x) :: L, S, H, k, n) Q ↔ Wp Pg 0 (2, l0 :: l1 :: l2 :: l3 :: l4 :: .val (.int x) :: L, (.int x) :: S, H, k, n) Q := gP d0_0 rfl rfl
theorem d0_2 : decode (Pg.mt 0).code 2 = .ok (.iconst 3, 1) := by decide +kernel
theorem w0_2 {L : List Slot} {S : List Value} {H : Hp} {k : Nat} {n : Nat} {Q : MRes → Prop} : Wp Pg 0 (2, L, S, H, k, n) Q ↔ Wp Pg 0 (3, L, (.int 3) :: S, H, k, n) Q := gP d0_2 rfl rfl
theorem d0_3 : decode (Pg.mt 0).code 3 = .ok (.iand, 1) := by decide +kernel
theorem w0_3 {L : List Slot} {S : List Value} {H : Hp} {k : Nat} {n : Nat} {Q : MRes → Prop} {x y : Int32} : Wp Pg 0 (3, L, (.int y) :: (.int x) :: S, H, k, n) Q ↔ Wp Pg 0 (4, L, (.int (x &&& y)) :: S, H, k, n) Q := gP d0_3 rfl rfl
theorem d0_4 : decode (Pg.mt 0).code 4 = .ok (.iconst 3, 1) := by decide +kernel
theorem w0_4 {L : List Slot} {S : List Value} {H : Hp} {k : Nat} {n : Nat} {Q : MRes → Prop} : Wp Pg 0 (4, L, S, H, k, n) Q ↔ Wp Pg 0 (5, L, (.int 3) :: S, H, k, n) Q := gP d0_4 rfl rfl
theorem d0_5 : decode (Pg.mt 0).code 5 = .ok (.irem, 1) := by decide +kernel
theorem w0_5 {L : List Slot} {S : List Value} {H : Hp} {k : Nat} {n : Nat} {Q : MRes → Prop} {x y : Int32} (hy : ¬ y = 0) : Wp Pg 0 (5, L, (.int y) :: (.int x) :: S, H, k, n) Q ↔ Wp Pg 0 (6, L, (.int (x % y)) :: S, H, k, n) Q := gP d0_5 rfl (by simp only [plainI, dI, if_neg hy, keepL])
theorem d0_6 : decode (Pg.mt 0).code 6 = .ok (.istore 6, 2) := by decide +kernel
theorem w0_6 {L : List Slot} {S : List Value} {H : Hp} {k : Nat} {n : Nat} {Q : MRes → Prop} {l0 l1 l2 l3 l4 l5 : Slot} {o : Slot} {x : Int32} (ho : s1 o = true) : Wp Pg 0 (6, l0 :: l1 :: l2 :: l3 :: l4 :: l5 :: o :: L, (.int x) :: S, H, k, n) Q ↔ Wp Pg 0 (8, l0 :: l1 :: l2 :: l3 :: l4 :: l5 :: .val (.int x) :: L, S, H, k, n) Q := gP d0_6 rfl (st1_eq (o := o) rfl ho rfl)
theorem d0_8 : decode (Pg.mt 0).code 8 = .ok (.iload 5, 2) := by decide +kernel
theorem w0_8 {L : List Slot} {S : List Value} {H : Hp} {k : Nat} {n : Nat} {Q : MRes → Prop} {l0 l1 l2 l3 l4 : Slot} {x : Int32} : Wp Pg 0 (8, l0 :: l1 :: l2 :: l3 :: l4 :: .val (.int x) :: L, S, H, k, n) Q ↔ Wp Pg 0 (10, l0 :: l1 :: l2 :: l3 :: l4 :: .val (.int x) :: L, (.int x) :: S, H, k, n) Q := gP d0_8 rfl rfl
theorem d0_10 : decode (Pg.mt 0).code 10 = .ok (.iconst 2, 1) := by decide +kernel
theorem w0_10 {L : List Slot} {S : List Value} {H : Hp} {k : Nat} {n : Nat} {Q : MRes → Prop} : Wp Pg 0 (10, L, S, H, k, n) Q ↔ Wp Pg 0 (11, L, (.int 2) :: S, H, k, n) Q := gP d0_10 rfl rfl
theorem d0_11 : decode (Pg.mt 0).code 11 = .ok (.iushr, 1) := by decide +kernel
theorem w0_11 {L : List Slot} {S : List Value} {H : Hp} {k : Nat} {n : Nat} {Q : MRes → Prop} {x y : Int32} : Wp Pg 0 (11, L, (.int y) :: (.int x) :: S, H, k, n) Q ↔ Wp Pg 0 (12, L, (.int (XT.ushr x y)) :: S, H, k, n) Q := gP d0_11 rfl rfl
theorem d0_12 : decode (Pg.mt 0).code 12 = .ok (.iconst 3, 1) := by decide +kernel
theorem w0_12 {L : List Slot} {S : List Value} {H : Hp} {k : Nat} {n : Nat} {Q : MRes → Prop} : Wp Pg 0 (12, L, S, H, k, n) Q ↔ Wp Pg 0 (13, L, (.int 3) :: S, H, k, n) Q := gP d0_12 rfl rfl
theorem d0_13 : decode (Pg.mt 0).code 13 = .ok (.iand, 1) := by decide +kernel
theorem w0_13 {L : List Slot} {S : List Value} {H : Hp} {k : Nat} {n : Nat} {Q : MRes → Prop} {x y : Int32} : Wp Pg 0 (13, L, (.int y) :: (.int x) :: S, H, k, n) Q ↔ Wp Pg 0 (14, L, (.int (x &&& y)) :: S, H, k, n) Q := gP d0_13 rfl rfl
theorem d0_14 : decode (Pg.mt 0).code 14 = .ok (.istore 7, 2) := by decide +kernel
theorem w0_14 {L : List Slot} {S : List Value} {H : Hp} {k : Nat} {n : Nat} {Q : MRes → Prop} {l0 l1 l2 l3 l4 l5 l6 : Slot} {o : Slot} {x : Int32} (ho : s1 o = true) : Wp Pg 0 (14, l0 :: l1 :: l2 :: l3 :: l4 :: l5 :: l6 :: o :: L, (.int x) :: S, H, k, n) Q ↔ Wp Pg 0 (16, l0 :: l1 :: l2 :: l3 :: l4 :: l5 :: l6 :: .val (.int x) :: L, S, H, k, n) Q := gP d0_14 rfl (st1_eq (o := o) rfl ho rfl)
theorem d0_16 : decode (Pg.mt 0).code 16 = .ok (.iload 6, 2) := by decide +kernel
theorem w0_16 {L : List Slot} {S : List Value} {H : Hp} {k : Nat} {n : Nat} {Q : MRes → Prop} {l0 l1 l2 l3 l4 l5 : Slot} {x : Int32} : Wp Pg 0 (16, l0 :: l1 :: l2 :: l3 :: l4 :: l5 :: .val (.int x) :: L, S, H, k, n) Q ↔ Wp Pg 0 (18, l0 :: l1 :: l2 :: l3 :: l4 :: l5 :: .val (.int x) :: L, (.int x) :: S, H, k, n) Q := gP d0_16 rfl rfl
theorem d0_18 : decode (Pg.mt 0).code 18 = .ok (.ifCond .ne 11, 3) := by decide +kernel
theorem w0_18 {L : List Slot} {S : List Value} {H : Hp} {k : Nat} {n : Nat} {Q : MRes → Prop} {x : Int32} : Wp Pg 0 (18, L, (.int x) :: S, H, k, n) Q ↔ if ¬ x = 0 then Wp Pg 0 (29, L, S, H, k, n) Q else Wp Pg 0 (21, L, S, H, k, n) Q := gIf d0_18 (by decide) (by decide) (c_ne x)
theorem d0_21 : decode (Pg.mt 0).code 21 = .ok (.iconst 0, 1) := by decide +kernel
theorem w0_21 {L : List Slot} {S : List Value} {H : Hp} {k : Nat} {n : Nat} {Q : MRes → Prop} : Wp Pg 0 (21, L, S, H, k, n) Q ↔ Wp Pg 0 (22, L, (.int 0) :: S, H, k, n) Q := gP d0_21 rfl rfl
theorem d0_22 : decode (Pg.mt 0).code 22 = .ok (.newarray .int, 2) := by decide +kernel
theorem w0_22 {L : List Slot} {S : List Value} {H : Hp} {k : Nat} {n : Nat} {Q : MRes → Prop} {x : Int32} (h1 : k + 1 ≤ 24) (h2 : n + 0 ≤ 128) : Wp Pg 0 (22, L, (.int x) :: S, H, k, n) Q ↔ (¬ x < 0 ∧ x.toNatClampNeg ≤ 0) ∧ Wp Pg 0 (24, L, (.ref H.length) :: S, H ++ [(.inl .int, List.replicate x.toNatClampNeg (.int 0))], k + 1, n + 0) Q := gNewA d0_22 rfl (List.mem_of_getElem? (i := 0) rfl) rfl (by decide) rfl rfl h1 h2
theorem d0_24 : decode (Pg.mt 0).code 24 = .ok (.astore 8, 2) := by decide +kernel
theorem w0_24 {L : List Slot} {S : List Value} {H : Hp} {k : Nat} {n : Nat} {Q : MRes → Prop} {l0 l1 l2 l3 l4 l5 l6 l7 : Slot} {o : Slot} {v : Value} (ho : s1 o = true) (hv : isA v = true) : Wp Pg 0 (24, l0 :: l1 :: l2 :: l3 :: l4 :: l5 :: l6 :: l7 :: o :: L, v :: S, H, k, n) Q ↔ Wp Pg 0 (26, l0 :: l1 :: l2 :: l3 :: l4 :: l5 :: l6 :: l7 :: .val v :: L, S, H, k, n) Q := gP d0_24 rfl (st1_eq (o := o) rfl ho hv)
theorem d0_26 : decode (Pg.mt 0).code 26 = .ok (.goto 34, 3) := by decide +kernel
theorem w0_26 {L : List Slot} {S : List Value} {H : Hp} {k : Nat} {n : Nat} {Q : MRes → Prop} : Wp Pg 0 (26, L, S, H, k, n) Q ↔ Wp Pg 0 (60, L, S, H, k, n) Q := gGoto d0_26 (by decide) (by decide)
theorem d0_29 : decode (Pg.mt 0).code 29 = .ok (.iload 6, 2) := by decide +kernel
theorem w0_29 {L : List Slot} {S : List Value} {H : Hp} {k : Nat} {n : Nat} {Q : MRes → Prop} {l0 l1 l2 l3 l4 l5 : Slot} {x : Int32} : Wp Pg 0 (29, l0 :: l1 :: l2 :: l3 :: l4 :: l5 :: .val (.int x) :: L, S, H, k, n) Q ↔ Wp Pg 0 (31, l0 :: l1 :: l2 :: l3 :: l4 :: l5 :: .val (.int x) :: L, (.int x) :: S, H, k, n) Q := gP d0_29 rfl rfl
theorem d0_31 : decode (Pg.mt 0).code 31 = .ok (.iconst 1, 1) := by decide +kernel
theorem w0_31 {L : List Slot} {S : List Value} {H : Hp} {k : Nat} {n : Nat} {Q : MRes → Prop} : Wp Pg 0 (31, L, S, H, k, n) Q ↔ Wp Pg 0 (32, L, (.int 1) :: S, H, k, n) Q := gP d0_31 rfl rfl
theorem d0_32 : decode (Pg.mt 0).code 32 = .ok (.if_icmp .ne 15, 3) := by decide +kernel
theorem w0_32 {L : List Slot} {S : List Value} {H : Hp} {k : Nat} {n : Nat} {Q : MRes → Prop} {x y : Int32} : Wp Pg 0 (32, L, (.int y) :: (.int x) :: S, H, k, n) Q ↔ if ¬ x = y then Wp Pg 0 (47, L, S, H, k, n) Q else Wp Pg 0 (35, L, S, H, k, n) Q := gIcmp d0_32 (by decide) (by decide) (i_ne x y)
theorem d0_35 : decode (Pg.mt 0).code 35 = .ok (.iconst 1, 1) := by decide +kernel
theorem w0_35 {L : List Slot} {S : List Value} {H : Hp} {k : Nat} {n : Nat} {Q : MRes → Prop} : Wp Pg 0 (35, L, S, H, k, n) Q ↔ Wp Pg 0 (36, L, (.int 1) :: S, H, k, n) Q := gP d0_35 rfl rfl
theorem d0_36 : decode (Pg.mt 0).code 36 = .ok (.newarray .int, 2) := by decide +kernel
theorem w0_36 {L : List Slot} {S : List Value} {H : Hp} {k : Nat} {n : Nat} {Q : MRes → Prop} {x : Int32} (h1 : k + 1 ≤ 24) (h2 : n + 1 ≤ 128) : Wp Pg 0 (36, L, (.int x) :: S, H, k, n) Q ↔ (¬ x < 0 ∧ x.toNatClampNeg ≤ 1) ∧ Wp Pg 0 (38, L, (.ref H.length) :: S, H ++ [(.inl .int, List.replicate x.toNatClampNeg (.int 0))], k + 1, n + 1) Q := gNewA d0_36 rfl (List.mem_of_getElem? (i := 0) rfl) rfl (by decide) rfl rfl h1 h2
theorem d0_38 : decode (Pg.mt 0).code 38 = .ok (.dup, 1) := by decide +kernel
theorem w0_38 {L : List Slot} {S : List Value} {H : Hp} {k : Nat} {n : Nat} {Q : MRes → Prop} {v : Value} (hv : cat v = 1) : Wp Pg 0 (38, L, v :: S, H, k, n) Q ↔ Wp Pg 0 (39, L, v :: v :: S, H, k, n) Q := gP d0_38 rfl (by simp only [plainI, fdup, if_pos hv, keepL])
theorem d0_39 : decode (Pg.mt 0).code 39 = .ok (.iconst 0, 1) := by decide +kernel
theorem w0_39 {L : List Slot} {S : List Value} {H : Hp} {k : Nat} {n : Nat} {Q : MRes → Prop} : Wp Pg 0 (39, L, S, H, k, n) Q ↔ Wp Pg 0 (40, L, (.int 0) :: S, H, k, n) Q := gP d0_39 rfl rfl
theorem d0_40 : decode (Pg.mt 0).code 40 = .ok (.iload_n 0, 1) := by decide +kernel
theorem w0_40 {L : List Slot} {S : List Value} {H : Hp} {k : Nat} {n : Nat} {Q : MRes → Prop}  {x : Int32} : Wp Pg 0 (40, .val (.int x) :: L, S, H, k, n) Q ↔ Wp Pg 0 (41, .val (.int x) :: L, (.int x) :: S, H, k, n) Q := gP d0_40 rfl rfl
theorem d0_41 : decode (Pg.mt 0).code 41 = .ok (.iastore, 1) := by decide +kernel
theorem w0_41 {L : List Slot} {S : List Value} {H : Hp} {k : Nat} {n : Nat} {Q : MRes → Prop} {a : Nat} {x : Int32} {v : Value} : Wp Pg 0 (41, L, v :: (.int x) :: (.ref a) :: S, H, k, n) Q ↔ ∃ H', stA Pg .iastore H a x v = some H' ∧ Wp Pg 0 (42, L, S, H', k, n) Q := gStA (by simp) d0_41
theorem d0_42 : decode (Pg.mt 0).code 42 = .ok (.astore 8, 2) := by decide +kernel
theorem w0_42 {L : List Slot} {S : List Value} {H : Hp} {k : Nat} {n : Nat} {Q : MRes → Prop} {l0 l1 l2 l3 l4 l5 l6 l7 : Slot} {o : Slot} {v : Value} (ho : s1 o = true) (hv : isA v = true) : Wp Pg 0 (42, l0 :: l1 :: l2 :: l3 :: l4 :: l5 :: l6 :: l7 :: o :: L, v :: S, H, k, n) Q ↔ Wp Pg 0 (44, l0 :: l1 :: l2 :: l3 :: l4 :: l5 :: l6 :: l7 :: .val v :: L, S, H, k, n) Q := gP d0_42 rfl (st1_eq (o := o) rfl ho hv)
theorem d0_44 : decode (Pg.mt 0).code 44 = .ok (.goto 16, 3) := by decide +kernel
theorem w0_44 {L : List Slot} {S : List Value} {H : Hp} {k : Nat} {n : Nat} {Q : MRes → Prop} : Wp Pg 0 (44, L, S, H, k, n) Q ↔ Wp Pg 0 (60, L, S, H, k, n) Q := gGoto d0_44 (by decide) (by decide)
theorem d0_47 : decode (Pg.mt 0).code 47 = .ok (.iconst 2, 1) := by decide +kernel
theorem w0_47 {L : List Slot} {S : List Value} {H : Hp} {k : Nat} {n : Nat} {Q : MRes → Prop} : Wp Pg 0 (47, L, S, H, k, n) Q ↔ Wp Pg 0 (48, L, (.int 2) :: S, H, k, n) Q := gP d0_47 rfl rfl
theorem d0_48 : decode (Pg.mt 0).code 48 = .ok (.newarray .int, 2) := by decide +kernel
theorem w0_48 {L : List Slot} {S : List Value} {H : Hp} {k : Nat} {n : Nat} {Q : MRes → Prop} {x : Int32} (h1 : k + 1 ≤ 24) (h2 : n + 2 ≤ 128) : Wp Pg 0 (48, L, (.int x) :: S, H, k, n) Q ↔ (¬ x < 0 ∧ x.toNatClampNeg ≤ 2) ∧ Wp Pg 0 (50, L, (.ref H.length) :: S, H ++ [(.inl .int, List.replicate x.toNatClampNeg (.int 0))], k + 1, n + 2) Q := gNewA d0_48 rfl (List.mem_of_getElem? (i := 0) rfl) rfl (by decide) rfl rfl h1 h2
theorem d0_50 : decode (Pg.mt 0).code 50 = .ok (.dup, 1) := by decide +kernel
theorem w0_50 {L : List Slot} {S : List Value} {H : Hp} {k : Nat} {n : Nat} {Q : MRes → Prop} {v : Value} (hv : cat v = 1) : Wp Pg 0 (50, L, v :: S, H, k, n) Q ↔ Wp Pg 0 (51, L, v :: v :: S, H, k, n) Q := gP d0_50 rfl (by simp only [plainI, fdup, if_pos hv, keepL])
theorem d0_51 : decode (Pg.mt 0).code 51 = .ok (.iconst 0, 1) := by decide +kernel
theorem w0_51 {L : List Slot} {S : List Value} {H : Hp} {k : Nat} {n : Nat} {Q : MRes → Prop} : Wp Pg 0 (51, L, S, H, k, n) Q ↔ Wp Pg 0 (52, L, (.int 0) :: S, H, k, n) Q := gP d0_51 rfl rfl
theorem d0_52 : decode (Pg.mt 0).code 52 = .ok (.iload_n 0, 1) := by decide +kernel
theorem w0_52 {L : List Slot} {S : List Value} {H : Hp} {k : Nat} {n : Nat} {Q : MRes → Prop}  {x : Int32} : Wp Pg 0 (52, .val (.int x) :: L, S, H, k, n) Q ↔ Wp Pg 0 (53, .val (.int x) :: L, (.int x) :: S, H, k, n) Q := gP d0_52 rfl rfl
theorem d0_53 : decode (Pg.mt 0).code 53 = .ok (.iastore, 1) := by decide +kernel
theorem w0_53 {L : List Slot} {S : List Value} {H : Hp} {k : Nat} {n : Nat} {Q : MRes → Prop} {a : Nat} {x : Int32} {v : Value} : Wp Pg 0 (53, L, v :: (.int x) :: (.ref a) :: S, H, k, n) Q ↔ ∃ H', stA Pg .iastore H a x v = some H' ∧ Wp Pg 0 (54, L, S, H', k, n) Q := gStA (by simp) d0_53
theorem d0_54 : decode (Pg.mt 0).code 54 = .ok (.dup, 1) := by decide +kernel
theorem w0_54 {L : List Slot} {S : List Value} {H : Hp} {k : Nat} {n : Nat} {Q : MRes → Prop} {v : Value} (hv : cat v = 1) : Wp Pg 0 (54, L, v :: S, H, k, n) Q ↔ Wp Pg 0 (55, L, v :: v :: S, H, k, n) Q := gP d0_54 rfl (by simp only [plainI, fdup, if_pos hv, keepL])
theorem d0_55 : decode (Pg.mt 0).code 55 = .ok (.iconst 1, 1) := by decide +kernel
theorem w0_55 {L : List Slot} {S : List Value} {H : Hp} {k : Nat} {n : Nat} {Q : MRes → Prop} : Wp Pg 0 (55, L, S, H, k, n) Q ↔ Wp Pg 0 (56, L, (.int 1) :: S, H, k, n) Q := gP d0_55 rfl rfl
theorem d0_56 : decode (Pg.mt 0).code 56 = .ok (.iload_n 1, 1) := by decide +kernel
theorem w0_56 {L : List Slot} {S : List Value} {H : Hp} {k : Nat} {n : Nat} {Q : MRes → Prop} {l0 : Slot} {x : Int32} : Wp Pg 0 (56, l0 :: .val (.int x) :: L, S, H, k, n) Q ↔ Wp Pg 0 (57, l0 :: .val (.int x) :: L, (.int x) :: S, H, k, n) Q := gP d0_56 rfl rfl
theorem d0_57 : decode (Pg.mt 0).code 57 = .ok (.iastore, 1) := by decide +kernel
theorem w0_57 {L : List Slot} {S : List Value} {H : Hp} {k : Nat} {n : Nat} {Q : MRes → Prop} {a : Nat} {x : Int32} {v : Value} : Wp Pg 0 (57, L, v :: (.int x) :: (.ref a) :: S, H, k, n) Q ↔ ∃ H', stA Pg .iastore H a x v = some H' ∧ Wp Pg 0 (58, L, S, H', k, n) Q := gStA (by simp) d0_57
theorem d0_58 : decode (Pg.mt 0).code 58 = .ok (.astore 8, 2) := by decide +kernel
theorem w0_58 {L : List Slot} {S : List Value} {H : Hp} {k : Nat} {n : Nat} {Q : MRes → Prop} {l0 l1 l2 l3 l4 l5 l6 l7 : Slot} {o : Slot} {v : Value} (ho : s1 o = true) (hv : isA v = true) : Wp Pg 0 (58, l0 :: l1 :: l2 :: l3 :: l4 :: l5 :: l6 :: l7 :: o :: L, v :: S, H, k, n) Q ↔ Wp Pg 0 (60, l0 :: l1 :: l2 :: l3 :: l4 :: l5 :: l6 :: l7 :: .val v :: L, S, H, k, n) Q := gP d0_58 rfl (st1_eq (o := o) rfl ho hv)
theorem d0_60 : decode (Pg.mt 0).code 60 = .ok (.iload 7, 2) := by decide +kernel
theorem w0_60 {L : List Slot} {S : List Value} {H : Hp} {k : Nat} {n : Nat} {Q : MRes → Prop} {l0 l1 l2 l3 l4 l5 l6 : Slot} {x : Int32} : Wp Pg 0 (60, l0 :: l1 :: l2 :: l3 :: l4 :: l5 :: l6 :: .val (.int x) :: L, S, H, k, n) Q ↔ Wp Pg 0 (62, l0 :: l1 :: l2 :: l3 :: l4 :: l5 :: l6 :: .val (.int x) :: L, (.int x) :: S, H, k, n) Q := gP d0_60 rfl rfl
theorem d0_62 : decode (Pg.mt 0).code 62 = .ok (.ifCond .ne 11, 3) := by decide +kernel
theorem w0_62 {L : List Slot} {S : List Value} {H : Hp} {k : Nat} {n : Nat} {Q : MRes → Prop} {x : Int32} : Wp Pg 0 (62, L, (.int x) :: S, H, k, n) Q ↔ if ¬ x = 0 then Wp Pg 0 (73, L, S, H, k, n) Q else Wp Pg 0 (65, L, S, H, k, n) Q := gIf d0_62 (by decide) (by decide) (c_ne x)
theorem d0_65 : decode (Pg.mt 0).code 65 = .ok (.iconst 0, 1) := by decide +kernel
theorem w0_65 {L : List Slot} {S : List Value} {H : Hp} {k : Nat} {n : Nat} {Q : MRes → Prop} : Wp Pg 0 (65, L, S, H, k, n) Q ↔ Wp Pg 0 (66, L, (.int 0) :: S, H, k, n) Q := gP d0_65 rfl rfl
theorem d0_66 : decode (Pg.mt 0).code 66 = .ok (.newarray .int, 2) := by decide +kernel
theorem w0_66 {L : List Slot} {S : List Value} {H : Hp} {k : Nat} {n : Nat} {Q : MRes → Prop} {x : Int32} (h1 : k + 1 ≤ 24) (h2 : n + 0 ≤ 128) : Wp Pg 0 (66, L, (.int x) :: S, H, k, n) Q ↔ (¬ x < 0 ∧ x.toNatClampNeg ≤ 0) ∧ Wp Pg 0 (68, L, (.ref H.length) :: S, H ++ [(.inl .int, List.replicate x.toNatClampNeg (.int 0))], k + 1, n + 0) Q := gNewA d0_66 rfl (List.mem_of_getElem? (i := 0) rfl) rfl (by decide) rfl rfl h1 h2
theorem d0_68 : decode (Pg.mt 0).code 68 = .ok (.astore 9, 2) := by decide +kernel
theorem w0_68 {L : List Slot} {S : List Value} {H : Hp} {k : Nat} {n : Nat} {Q : MRes → Prop} {l0 l1 l2 l3 l4 l5 l6 l7 l8 : Slot} {o : Slot} {v : Value} (ho : s1 o = true) (hv : isA v = true) : Wp Pg 0 (68, l0 :: l1 :: l2 :: l3 :: l4 :: l5 :: l6 :: l7 :: l8 :: o :: L, v :: S, H, k, n) Q ↔ Wp Pg 0 (70, l0 :: l1 :: l2 :: l3 :: l4 :: l5 :: l6 :: l7 :: l8 :: .val v :: L, S, H, k, n) Q := gP d0_68 rfl (st1_eq (o := o) rfl ho hv)
theorem d0_70 : decode (Pg.mt 0).code 70 = .ok (.goto 61, 3) := by decide +kernel
theorem w0_70 {L : List Slot} {S : List Value} {H : Hp} {k : Nat} {n : Nat} {Q : MRes → Prop} : Wp Pg 0 (70, L, S, H, k, n) Q ↔ Wp Pg 0 (131, L, S, H, k, n) Q := gGoto d0_70 (by decide) (by decide)
theorem d0_73 : decode (Pg.mt 0).code 73 = .ok (.iload 7, 2) := by decide +kernel
theorem w0_73 {L : List Slot} {S : List Value} {H : Hp} {k : Nat} {n : Nat} {Q : MRes → Prop} {l0 l1 l2 l3 l4 l5 l6 : Slot} {x : Int32} : Wp Pg 0 (73, l0 :: l1 :: l2 :: l3 :: l4 :: l5 :: l6 :: .val (.int x) :: L, S, H, k, n) Q ↔ Wp Pg 0 (75, l0 :: l1 :: l2 :: l3 :: l4 :: l5 :: l6 :: .val (.int x) :: L, (.int x) :: S, H, k, n) Q := gP d0_73 rfl rfl
theorem d0_75 : decode (Pg.mt 0).code 75 = .ok (.iconst 1, 1) := by decide +kernel
theorem w0_75 {L : List Slot} {S : List Value} {H : Hp} {k : Nat} {n : Nat} {Q : MRes → Prop} : Wp Pg 0 (75, L, S, H, k, n) Q ↔ Wp Pg 0 (76, L, (.int 1) :: S, H, k, n) Q := gP d0_75 rfl rfl
theorem d0_76 : decode (Pg.mt 0).code 76 = .ok (.if_icmp .ne 15, 3) := by decide +kernel
theorem w0_76 {L : List Slot} {S : List Value} {H : Hp} {k : Nat} {n : Nat} {Q : MRes → Prop} {x y : Int32} : Wp Pg 0 (76, L, (.int y) :: (.int x) :: S, H, k, n) Q ↔ if ¬ x = y then Wp Pg 0 (91, L, S, H, k, n) Q else Wp Pg 0 (79, L, S, H, k, n) Q := gIcmp d0_76 (by decide) (by decide) (i_ne x y)
theorem d0_79 : decode (Pg.mt 0).code 79 = .ok (.iconst 1, 1) := by decide +kernel
theorem w0_79 {L : List Slot} {S : List Value} {H : Hp} {k : Nat} {n : Nat} {Q : MRes → Prop} : Wp Pg 0 (79, L, S, H, k, n) Q ↔ Wp Pg 0 (80, L, (.int 1) :: S, H, k, n) Q := gP d0_79 rfl rfl
theorem d0_80 : decode (Pg.mt 0).code 80 = .ok (.newarray .int, 2) := by decide +kernel
theorem w0_80 {L : List Slot} {S : List Value} {H : Hp} {k : Nat} {n : Nat} {Q : MRes → Prop} {x : Int32} (h1 : k + 1 ≤ 24) (h2 : n + 1 ≤ 128) : Wp Pg 0 (80, L, (.int x) :: S, H, k, n) Q ↔ (¬ x < 0 ∧ x.toNatClampNeg ≤ 1) ∧ Wp Pg 0 (82, L, (.ref H.length) :: S, H ++ [(.inl .int, List.replicate x.toNatClampNeg (.int 0))], k + 1, n + 1) Q := gNewA d0_80 rfl (List.mem_of_getElem? (i := 0) rfl) rfl (by decide) rfl rfl h1 h2
theorem d0_82 : decode (Pg.mt 0).code 82 = .ok (.dup, 1) := by decide +kernel
theorem w0_82 {L : List Slot} {S : List Value} {H : Hp} {k : Nat} {n : Nat} {Q : MRes → Prop} {v : Value} (hv : cat v = 1) : Wp Pg 0 (82, L, v :: S, H, k, n) Q ↔ Wp Pg 0 (83, L, v :: v :: S, H, k, n) Q := gP d0_82 rfl (by simp only [plainI, fdup, if_pos hv, keepL])
theorem d0_83 : decode (Pg.mt 0).code 83 = .ok (.iconst 0, 1) := by decide +kernel
theorem w0_83 {L : List Slot} {S : List Value} {H : Hp} {k : Nat} {n : Nat} {Q : MRes → Prop} : Wp Pg 0 (83, L, S, H, k, n) Q ↔ Wp Pg 0 (84, L, (.int 0) :: S, H, k, n) Q := gP d0_83 rfl rfl
theorem d0_84 : decode (Pg.mt 0).code 84 = .ok (.iload_n 2, 1) := by decide +kernel
theorem w0_84 {L : List Slot} {S : List Value} {H : Hp} {k : Nat} {n : Nat} {Q : MRes → Prop} {l0 l1 : Slot} {x : Int32} : Wp Pg 0 (84, l0 :: l1 :: .val (.int x) :: L, S, H, k, n) Q ↔ Wp Pg 0 (85, l0 :: l1 :: .val (.int x) :: L, (.int x) :: S, H, k, n) Q := gP d0_84 rfl rfl
theorem d0_85 : decode (Pg.mt 0).code 85 = .ok (.iastore, 1) := by decide +kernel
theorem w0_85 {L : List Slot} {S : List Value} {H : Hp} {k : Nat} {n : Nat} {Q : MRes → Prop} {a : Nat} {x : Int32} {v : Value} : Wp Pg 0 (85, L, v :: (.int x) :: (.ref a) :: S, H, k, n) Q ↔ ∃ H', stA Pg .iastore H a x v = some H' ∧ Wp Pg 0 (86, L, S, H', k, n) Q := gStA (by simp) d0_85
theorem d0_86 : decode (Pg.mt 0).code 86 = .ok (.astore 9, 2) := by decide +kernel
theorem w0_86 {L : List Slot} {S : List Value} {H : Hp} {k : Nat} {n : Nat} {Q : MRes → Prop} {l0 l1 l2 l3 l4 l5 l6 l7 l8 : Slot} {o : Slot} {v : Value} (ho : s1 o = true) (hv : isA v = true) : Wp Pg 0 (86, l0 :: l1 :: l2 :: l3 :: l4 :: l5 :: l6 :: l7 :: l8 :: o :: L, v :: S, H, k, n) Q ↔ Wp Pg 0 (88, l0 :: l1 :: l2 :: l3 :: l4 :: l5 :: l6 :: l7 :: l8 :: .val v :: L, S, H, k, n) Q := gP d0_86 rfl (st1_eq (o := o) rfl ho hv)
theorem d0_88 : decode (Pg.mt 0).code 88 = .ok (.goto 43, 3) := by decide +kernel
theorem w0_88 {L : List Slot} {S : List Value} {H : Hp} {k : Nat} {n : Nat} {Q : MRes → Prop} : Wp Pg 0 (88, L, S, H, k, n) Q ↔ Wp Pg 0 (131, L, S, H, k, n) Q := gGoto d0_88 (by decide) (by decide)
theorem d0_91 : decode (Pg.mt 0).code 91 = .ok (.iload 7, 2) := by decide +kernel
theorem w0_91 {L : List Slot} {S : List Value} {H : Hp} {k : Nat} {n : Nat} {Q : MRes → Prop} {l0 l1 l2 l3 l4 l5 l6 : Slot} {x : Int32} : Wp Pg 0 (91, l0 :: l1 :: l2 :: l3 :: l4 :: l5 :: l6 :: .val (.int x) :: L, S, H, k, n) Q ↔ Wp Pg 0 (93, l0 :: l1 :: l2 :: l3 :: l4 :: l5 :: l6 :: .val (.int x) :: L, (.int x) :: S, H, k, n) Q := gP d0_91 rfl rfl
theorem d0_93 : decode (Pg.mt 0).code 93 = .ok (.iconst 2, 1) := by decide +kernel
theorem w0_93 {L : List Slot} {S : List Value} {H : Hp} {k : Nat} {n : Nat} {Q : MRes → Prop} : Wp Pg 0 (93, L, S, H, k, n) Q ↔ Wp Pg 0 (94, L, (.int 2) :: S, H, k, n) Q := gP d0_93 rfl rfl
theorem d0_94 : decode (Pg.mt 0).code 94 = .ok (.if_icmp .ne 19, 3) := by decide +kernel
theorem w0_94 {L : List Slot} {S : List Value} {H : Hp} {k : Nat} {n : Nat} {Q : MRes → Prop} {x y : Int32} : Wp Pg 0 (94, L, (.int y) :: (.int x) :: S, H, k, n) Q ↔ if ¬ x = y then Wp Pg 0 (113, L, S, H, k, n) Q else Wp Pg 0 (97, L, S, H, k, n) Q := gIcmp d0_94 (by decide) (by decide) (i_ne x y)
theorem d0_97 : decode (Pg.mt 0).code 97 = .ok (.iconst 2, 1) := by decide +kernel
theorem w0_97 {L : List Slot} {S : List Value} {H : Hp} {k : Nat} {n : Nat} {Q : MRes → Prop} : Wp Pg 0 (97, L, S, H, k, n) Q ↔ Wp Pg 0 (98, L, (.int 2) :: S, H, k, n) Q := gP d0_97 rfl rfl
theorem d0_98 : decode (Pg.mt 0).code 98 = .ok (.newarray .int, 2) := by decide +kernel
theorem w0_98 {L : List Slot} {S : List Value} {H : Hp} {k : Nat} {n : Nat} {Q : MRes → Prop} {x : Int32} (h1 : k + 1 ≤ 24) (h2 : n + 2 ≤ 128) : Wp Pg 0 (98, L, (.int x) :: S, H, k, n) Q ↔ (¬ x < 0 ∧ x.toNatClampNeg ≤ 2) ∧ Wp Pg 0 (100, L, (.ref H.length) :: S, H ++ [(.inl .int, List.replicate x.toNatClampNeg (.int 0))], k + 1, n + 2) Q := gNewA d0_98 rfl (List.mem_of_getElem? (i := 0) rfl) rfl (by decide) rfl rfl h1 h2
theorem d0_100 : decode (Pg.mt 0).code 100 = .ok (.dup, 1) := by decide +kernel
theorem w0_100 {L : List Slot} {S : List Value} {H : Hp} {k : Nat} {n : Nat} {Q : MRes → Prop} {v : Value} (hv : cat v = 1) : Wp Pg 0 (100, L, v :: S, H, k, n) Q ↔ Wp Pg 0 (101, L, v :: v :: S, H, k, n) Q := gP d0_100 rfl (by simp only [plainI, fdup, if_pos hv, keepL])
theorem d0_101 : decode (Pg.mt 0).code 101 = .ok (.iconst 0, 1) := by decide +kernel
theorem w0_101 {L : List Slot} {S : List Value} {H : Hp} {k : Nat} {n : Nat} {Q : MRes → Prop} : Wp Pg 0 (101, L, S, H, k, n) Q ↔ Wp Pg 0 (102, L, (.int 0) :: S, H, k, n) Q := gP d0_101 rfl rfl
theorem d0_102 : decode (Pg.mt 0).code 102 = .ok (.iload_n 2, 1) := by decide +kernel
theorem w0_102 {L : List Slot} {S : List Value} {H : Hp} {k : Nat} {n : Nat} {Q : MRes → Prop} {l0 l1 : Slot} {x : Int32} : Wp Pg 0 (102, l0 :: l1 :: .val (.int x) :: L, S, H, k, n) Q ↔ Wp Pg 0 (103, l0 :: l1 :: .val (.int x) :: L, (.int x) :: S, H, k, n) Q := gP d0_102 rfl rfl
theorem d0_103 : decode (Pg.mt 0).code 103 = .ok (.iastore, 1) := by decide +kernel
theorem w0_103 {L : List Slot} {S : List Value} {H : Hp} {k : Nat} {n : Nat} {Q : MRes → Prop} {a : Nat} {x : Int32} {v : Value} : Wp Pg 0 (103, L, v :: (.int x) :: (.ref a) :: S, H, k, n) Q ↔ ∃ H', stA Pg .iastore H a x v = some H' ∧ Wp Pg 0 (104, L, S, H', k, n) Q := gStA (by simp) d0_103
theorem d0_104 : decode (Pg.mt 0).code 104 = .ok (.dup, 1) := by decide +kernel
theorem w0_104 {L : List Slot} {S : List Value} {H : Hp} {k : Nat} {n : Nat} {Q : MRes → Prop} {v : Value} (hv : cat v = 1) : Wp Pg 0 (104, L, v :: S, H, k, n) Q ↔ Wp Pg 0 (105, L, v :: v :: S, H, k, n) Q := gP d0_104 rfl (by simp only [plainI, fdup, if_pos hv, keepL])
theorem d0_105 : decode (Pg.mt 0).code 105 = .ok (.iconst 1, 1) := by decide +kernel
theorem w0_105 {L : List Slot} {S : List Value} {H : Hp} {k : Nat} {n : Nat} {Q : MRes → Prop} : Wp Pg 0 (105, L, S, H, k, n) Q ↔ Wp Pg 0 (106, L, (.int 1) :: S, H, k, n) Q := gP d0_105 rfl rfl
theorem d0_106 : decode (Pg.mt 0).code 106 = .ok (.iload_n 3, 1) := by decide +kernel
theorem w0_106 {L : List Slot} {S : List Value} {H : Hp} {k : Nat} {n : Nat} {Q : MRes → Prop} {l0 l1 l2 : Slot} {x : Int32} : Wp Pg 0 (106, l0 :: l1 :: l2 :: .val (.int x) :: L, S, H, k, n) Q ↔ Wp Pg 0 (107, l0 :: l1 :: l2 :: .val (.int x) :: L, (.int x) :: S, H, k, n) Q := gP d0_106 rfl rfl
theorem d0_107 : decode (Pg.mt 0).code 107 = .ok (.iastore, 1) := by decide +kernel
theorem w0_107 {L : List Slot} {S : List Value} {H : Hp} {k : Nat} {n : Nat} {Q : MRes → Prop} {a : Nat} {x : Int32} {v : Value} : Wp Pg 0 (107, L, v :: (.int x) :: (.ref a) :: S, H, k, n) Q ↔ ∃ H', stA Pg .iastore H a x v = some H' ∧ Wp Pg 0 (108, L, S, H', k, n) Q := gStA (by simp) d0_107
theorem d0_108 : decode (Pg.mt 0).code 108 = .ok (.astore 9, 2) := by decide +kernel
theorem w0_108 {L : List Slot} {S : List Value} {H : Hp} {k : Nat} {n : Nat} {Q : MRes → Prop} {l0 l1 l2 l3 l4 l5 l6 l7 l8 : Slot} {o : Slot} {v : Value} (ho : s1 o = true) (hv : isA v = true) : Wp Pg 0 (108, l0 :: l1 :: l2 :: l3 :: l4 :: l5 :: l6 :: l7 :: l8 :: o :: L, v :: S, H, k, n) Q ↔ Wp Pg 0 (110, l0 :: l1 :: l2 :: l3 :: l4 :: l5 :: l6 :: l7 :: l8 :: .val v :: L, S, H, k, n) Q := gP d0_108 rfl (st1_eq (o := o) rfl ho hv)
theorem d0_110 : decode (Pg.mt 0).code 110 = .ok (.goto 21, 3) := by decide +kernel
theorem w0_110 {L : List Slot} {S : List Value} {H : Hp} {k : Nat} {n : Nat} {Q : MRes → Prop} : Wp Pg 0 (110, L, S, H, k, n) Q ↔ Wp Pg 0 (131, L, S, H, k, n) Q := gGoto d0_110 (by decide) (by decide)
theorem d0_113 : decode (Pg.mt 0).code 113 = .ok (.iconst 3, 1) := by decide +kernel
theorem w0_113 {L : List Slot} {S : List Value} {H : Hp} {k : Nat} {n : Nat} {Q : MRes → Prop} : Wp Pg 0 (113, L, S, H, k, n) Q ↔ Wp Pg 0 (114, L, (.int 3) :: S, H, k, n) Q := gP d0_113 rfl rfl
theorem d0_114 : decode (Pg.mt 0).code 114 = .ok (.newarray .int, 2) := by decide +kernel
theorem w0_114 {L : List Slot} {S : List Value} {H : Hp} {k : Nat} {n : Nat} {Q : MRes → Prop} {x : Int32} (h1 : k + 1 ≤ 24) (h2 : n + 3 ≤ 128) : Wp Pg 0 (114, L, (.int x) :: S, H, k, n) Q ↔ (¬ x < 0 ∧ x.toNatClampNeg ≤ 3) ∧ Wp Pg 0 (116, L, (.ref H.length) :: S, H ++ [(.inl .int, List.replicate x.toNatClampNeg (.int 0))], k + 1, n + 3) Q := gNewA d0_114 rfl (List.mem_of_getElem? (i := 0) rfl) rfl (by decide) rfl rfl h1 h2
theorem d0_116 : decode (Pg.mt 0).code 116 = .ok (.dup, 1) := by decide +kernel
theorem w0_116 {L : List Slot} {S : List Value} {H : Hp} {k : Nat} {n : Nat} {Q : MRes → Prop} {v : Value} (hv : cat v = 1) : Wp Pg 0 (116, L, v :: S, H, k, n) Q ↔ Wp Pg 0 (117, L, v :: v :: S, H, k, n) Q := gP d0_116 rfl (by simp only [plainI, fdup, if_pos hv, keepL])
theorem d0_117 : decode (Pg.mt 0).code 117 = .ok (.iconst 0, 1) := by decide +kernel
theorem w0_117 {L : List Slot} {S : List Value} {H : Hp} {k : Nat} {n : Nat} {Q : MRes → Prop} : Wp Pg 0 (117, L, S, H, k, n) Q ↔ Wp Pg 0 (118, L, (.int 0) :: S, H, k, n) Q := gP d0_117 rfl rfl
theorem d0_118 : decode (Pg.mt 0).code 118 = .ok (.iload_n 2, 1) := by decide +kernel
theorem w0_118 {L : List Slot} {S : List Value} {H : Hp} {k : Nat} {n : Nat} {Q : MRes → Prop} {l0 l1 : Slot} {x : Int32} : Wp Pg 0 (118, l0 :: l1 :: .val (.int x) :: L, S, H, k, n) Q ↔ Wp Pg 0 (119, l0 :: l1 :: .val (.int x) :: L, (.int x) :: S, H, k, n) Q := gP d0_118 rfl rfl
theorem d0_119 : decode (Pg.mt 0).code 119 = .ok (.iastore, 1) := by decide +kernel
theorem w0_119 {L : List Slot} {S : List Value} {H : Hp} {k : Nat} {n : Nat} {Q : MRes → Prop} {a : Nat} {x : Int32} {v : Value} : Wp Pg 0 (119, L, v :: (.int x) :: (.ref a) :: S, H, k, n) Q ↔ ∃ H', stA Pg .iastore H a x v = some H' ∧ Wp Pg 0 (120, L, S, H', k, n) Q := gStA (by simp) d0_119
theorem d0_120 : decode (Pg.mt 0).code 120 = .ok (.dup, 1) := by decide +kernel
theorem w0_120 {L : List Slot} {S : List Value} {H : Hp} {k : Nat} {n : Nat} {Q : MRes → Prop} {v : Value} (hv : cat v = 1) : Wp Pg 0 (120, L, v :: S, H, k, n) Q ↔ Wp Pg 0 (121, L, v :: v :: S, H, k, n) Q := gP d0_120 rfl (by simp only [plainI, fdup, if_pos hv, keepL])
theorem d0_121 : decode (Pg.mt 0).code 121 = .ok (.iconst 1, 1) := by decide +kernel
theorem w0_121 {L : List Slot} {S : List Value} {H : Hp} {k : Nat} {n : Nat} {Q : MRes → Prop} : Wp Pg 0 (121, L, S, H, k, n) Q ↔ Wp Pg 0 (122, L, (.int 1) :: S, H, k, n) Q := gP d0_121 rfl rfl
theorem d0_122 : decode (Pg.mt 0).code 122 = .ok (.iload_n 3, 1) := by decide +kernel
theorem w0_122 {L : List Slot} {S : List Value} {H : Hp} {k : Nat} {n : Nat} {Q : MRes → Prop} {l0 l1 l2 : Slot} {x : Int32} : Wp Pg 0 (122, l0 :: l1 :: l2 :: .val (.int x) :: L, S, H, k, n) Q ↔ Wp Pg 0 (123, l0 :: l1 :: l2 :: .val (.int x) :: L, (.int x) :: S, H, k, n) Q := gP d0_122 rfl rfl
theorem d0_123 : decode (Pg.mt 0).code 123 = .ok (.iastore, 1) := by decide +kernel
theorem w0_123 {L : List Slot} {S : List Value} {H : Hp} {k : Nat} {n : Nat} {Q : MRes → Prop} {a : Nat} {x : Int32} {v : Value} : Wp Pg 0 (123, L, v :: (.int x) :: (.ref a) :: S, H, k, n) Q ↔ ∃ H', stA Pg .iastore H a x v = some H' ∧ Wp Pg 0 (124, L, S, H', k, n) Q := gStA (by simp) d0_123
theorem d0_124 : decode (Pg.mt 0).code 124 = .ok (.dup, 1) := by decide +kernel
theorem w0_124 {L : List Slot} {S : List Value} {H : Hp} {k : Nat} {n : Nat} {Q : MRes → Prop} {v : Value} (hv : cat v = 1) : Wp Pg 0 (124, L, v :: S, H, k, n) Q ↔ Wp Pg 0 (125, L, v :: v :: S, H, k, n) Q := gP d0_124 rfl (by simp only [plainI, fdup, if_pos hv, keepL])
theorem d0_125 : decode (Pg.mt 0).code 125 = .ok (.iconst 2, 1) := by decide +kernel
theorem w0_125 {L : List Slot} {S : List Value} {H : Hp} {k : Nat} {n : Nat} {Q : MRes → Prop} : Wp Pg 0 (125, L, S, H, k, n) Q ↔ Wp Pg 0 (126, L, (.int 2) :: S, H, k, n) Q := gP d0_125 rfl rfl
theorem d0_126 : decode (Pg.mt 0).code 126 = .ok (.iload 4, 2) := by decide +kernel
theorem w0_126 {L : List Slot} {S : List Value} {H : Hp} {k : Nat} {n : Nat} {Q : MRes → Prop} {l0 l1 l2 l3 : Slot} {x : Int32} : Wp Pg 0 (126, l0 :: l1 :: l2 :: l3 :: .val (.int x) :: L, S, H, k, n) Q ↔ Wp Pg 0 (128, l0 :: l1 :: l2 :: l3 :: .val (.int x) :: L, (.int x) :: S, H, k, n) Q := gP d0_126 rfl rfl
theorem d0_128 : decode (Pg.mt 0).code 128 = .ok (.iastore, 1) := by decide +kernel
theorem w0_128 {L : List Slot} {S : List Value} {H : Hp} {k : Nat} {n : Nat} {Q : MRes → Prop} {a : Nat} {x : Int32} {v : Value} : Wp Pg 0 (128, L, v :: (.int x) :: (.ref a) :: S, H, k, n) Q ↔ ∃ H', stA Pg .iastore H a x v = some H' ∧ Wp Pg 0 (129, L, S, H', k, n) Q := gStA (by simp) d0_128
theorem d0_129 : decode (Pg.mt 0).code 129 = .ok (.astore 9, 2) := by decide +kernel
theorem w0_129 {L : List Slot} {S : List Value} {H : Hp} {k : Nat} {n : Nat} {Q : MRes → Prop} {l0 l1 l2 l3 l4 l5 l6 l7 l8 : Slot} {o : Slot} {v : Value} (ho : s1 o = true) (hv : isA v = true) : Wp Pg 0 (129, l0 :: l1 :: l2 :: l3 :: l4 :: l5 :: l6 :: l7 :: l8 :: o :: L, v :: S, H, k, n) Q ↔ Wp Pg 0 (131, l0 :: l1 :: l2 :: l3 :: l4 :: l5 :: l6 :: l7 :: l8 :: .val v :: L, S, H, k, n) Q := gP d0_129 rfl (st1_eq (o := o) rfl ho hv)
theorem d0_131 : decode (Pg.mt 0).code 131 = .ok (.new 7, 3) := by decide +kernel
theorem w0_131 {L : List Slot} {S : List Value} {H : Hp} {k : Nat} {n : Nat} {Q : MRes → Prop} (h1 : k + 1 ≤ 24) (h2 : n + 2 ≤ 128) : Wp Pg 0 (131, L, S, H, k, n) Q ↔ Wp Pg 0 (134, L, (.ref H.length) :: S, H ++ [(.inr 0, [.null, .null])], k + 1, n + 2) Q := gNew d0_131 rfl rfl rfl rfl rfl h1 h2
theorem d0_134 : decode (Pg.mt 0).code 134 = .ok (.dup, 1) := by decide +kernel
theorem w0_134 {L : List Slot} {S : List Value} {H : Hp} {k : Nat} {n : Nat} {Q : MRes → Prop} {v : Value} (hv : cat v = 1) : Wp Pg 0 (134, L, v :: S, H, k, n) Q ↔ Wp Pg 0 (135, L, v :: v :: S, H, k, n) Q := gP d0_134 rfl (by simp only [plainI, fdup, if_pos hv, keepL])
theorem d0_135 : decode (Pg.mt 0).code 135 = .ok (.aload 8, 2) := by decide +kernel
theorem w0_135 {L : List Slot} {S : List Value} {H : Hp} {k : Nat} {n : Nat} {Q : MRes → Prop} {l0 l1 l2 l3 l4 l5 l6 l7 : Slot} {v : Value} (hv : isA v = true) : Wp Pg 0 (135, l0 :: l1 :: l2 :: l3 :: l4 :: l5 :: l6 :: l7 :: .val v :: L, S, H, k, n) Q ↔ Wp Pg 0 (137, l0 :: l1 :: l2 :: l3 :: l4 :: l5 :: l6 :: l7 :: .val v :: L, v :: S, H, k, n) Q := gP d0_135 rfl (by show (if isA v = true then _ else _) = _; rw [if_pos hv])
theorem d0_137 : decode (Pg.mt 0).code 137 = .ok (.aload 9, 2) := by decide +kernel
theorem w0_137 {L : List Slot} {S : List Value} {H : Hp} {k : Nat} {n : Nat} {Q : MRes → Prop} {l0 l1 l2 l3 l4 l5 l6 l7 l8 : Slot} {v : Value} (hv : isA v = true) : Wp Pg 0 (137, l0 :: l1 :: l2 :: l3 :: l4 :: l5 :: l6 :: l7 :: l8 :: .val v :: L, S, H, k, n) Q ↔ Wp Pg 0 (139, l0 :: l1 :: l2 :: l3 :: l4 :: l5 :: l6 :: l7 :: l8 :: .val v :: L, v :: S, H, k, n) Q := gP d0_137 rfl (by show (if isA v = true then _ else _) = _; rw [if_pos hv])
theorem d0_139 : decode (Pg.mt 0).code 139 = .ok (.invokespecial 9, 3) := by decide +kernel
theorem w0_139 {L : List Slot} {S : List Value} {H : Hp} {k : Nat} {n : Nat} {Q : MRes → Prop} {a0 : Value} {a1 : Value} {a : Nat}  (h_a0 : cat a0 = 1) (h_a1 : cat a1 = 1) (h1 : L.length = 14) (h2 : wt S ≤ 1) (h3 : k + 2 ≤ 24) (h4 : n + 6 ≤ 128) : Wp Pg 0 (139, L, a1 :: a0 :: (.ref a) :: S, H, k, n) Q ↔ Wp Pg 1 (0, [.val (.ref a), .val a0, .val a1], [], H, 0, 0) fun r => Wp Pg 0 (142, L, r.1.toList ++ S, r.2, k + 2, n + 6) Q := gCall d0_139 rfl rfl (M := 14) (W := 1) (C := 24) (Sl := 128) (c := 2) (s := 6) ⟨rfl, by decide, by decide, rfl, rfl, rfl, rfl⟩ (by show entL [(.ref a), a0, a1] 3 = _; rw [entL, laid_c1 rfl, laid_c1 h_a0, laid_c1 h_a1, laid_nil]; rfl) h1 h2 h3 h4
theorem d0_142 : decode (Pg.mt 0).code 142 = .ok (.astore 10, 2) := by decide +kernel
theorem w0_142 {L : List Slot} {S : List Value} {H : Hp} {k : Nat} {n : Nat} {Q : MRes → Prop} {l0 l1 l2 l3 l4 l5 l6 l7 l8 l9 : Slot} {o : Slot} {v : Value} (ho : s1 o = true) (hv : isA v = true) : Wp Pg 0 (142, l0 :: l1 :: l2 :: l3 :: l4 :: l5 :: l6 :: l7 :: l8 :: l9 :: o :: L, v :: S, H, k, n) Q ↔ Wp Pg 0 (144, l0 :: l1 :: l2 :: l3 :: l4 :: l5 :: l6 :: l7 :: l8 :: l9 :: .val v :: L, S, H, k, n) Q := gP d0_142 rfl (st1_eq (o := o) rfl ho hv)
theorem d0_144 : decode (Pg.mt 0).code 144 = .ok (.aload 10, 2) := by decide +kernel
theorem w0_144 {L : List Slot} {S : List Value} {H : Hp} {k : Nat} {n : Nat} {Q : MRes → Prop} {l0 l1 l2 l3 l4 l5 l6 l7 l8 l9 : Slot} {v : Value} (hv : isA v = true) : Wp Pg 0 (144, l0 :: l1 :: l2 :: l3 :: l4 :: l5 :: l6 :: l7 :: l8 :: l9 :: .val v :: L, S, H, k, n) Q ↔ Wp Pg 0 (146, l0 :: l1 :: l2 :: l3 :: l4 :: l5 :: l6 :: l7 :: l8 :: l9 :: .val v :: L, v :: S, H, k, n) Q := gP d0_144 rfl (by show (if isA v = true then _ else _) = _; rw [if_pos hv])
theorem d0_146 : decode (Pg.mt 0).code 146 = .ok (.invokevirtual 12, 3) := by decide +kernel
theorem w0_146 {L : List Slot} {S : List Value} {H : Hp} {k : Nat} {n : Nat} {Q : MRes → Prop} {a : Nat}  (ho : kdOf H a = some 0) (h1 : L.length = 14) (h2 : wt S ≤ 0) (h3 : k + 1 ≤ 24) (h4 : n + 2 ≤ 128) : Wp Pg 0 (146, L, (.ref a) :: S, H, k, n) Q ↔ Wp Pg 6 (0, [.val (.ref a), .unset], [], H, 0, 0) fun r => Wp Pg 0 (149, L, r.1.toList ++ S, r.2, k + 1, n + 2) Q := gVirt (np := 0) (cid := 0) d0_146 rfl rfl rfl (M := 14) (W := 0) (C := 24) (Sl := 128) (c := 1) (s := 2) ⟨rfl, by decide, by decide, rfl, rfl, rfl, rfl⟩ (by show entL [(.ref a)] 2 = _; rw [entL, laid_c1 rfl, laid_nil]; rfl) ho h1 h2 h3 h4
theorem d0_149 : decode (Pg.mt 0).code 149 = .ok (.astore 11, 2) := by decide +kernel
theorem w0_149 {L : List Slot} {S : List Value} {H : Hp} {k : Nat} {n : Nat} {Q : MRes → Prop} {l0 l1 l2 l3 l4 l5 l6 l7 l8 l9 l10 : Slot} {o : Slot} {v : Value} (ho : s1 o = true) (hv : isA v = true) : Wp Pg 0 (149, l0 :: l1 :: l2 :: l3 :: l4 :: l5 :: l6 :: l7 :: l8 :: l9 :: l10 :: o :: L, v :: S, H, k, n) Q ↔ Wp Pg 0 (151, l0 :: l1 :: l2 :: l3 :: l4 :: l5 :: l6 :: l7 :: l8 :: l9 :: l10 :: .val v :: L, S, H, k, n) Q := gP d0_149 rfl (st1_eq (o := o) rfl ho hv)
theorem d0_151 : decode (Pg.mt 0).code 151 = .ok (.iload 7, 2) := by decide +kernel
theorem w0_151 {L : List Slot} {S : List Value} {H : Hp} {k : Nat} {n : Nat} {Q : MRes → Prop} {l0 l1 l2 l3 l4 l5 l6 : Slot} {x : Int32} : Wp Pg 0 (151, l0 :: l1 :: l2 :: l3 :: l4 :: l5 :: l6 :: .val (.int x) :: L, S, H, k, n) Q ↔ Wp Pg 0 (153, l0 :: l1 :: l2 :: l3 :: l4 :: l5 :: l6 :: .val (.int x) :: L, (.int x) :: S, H, k, n) Q := gP d0_151 rfl rfl
theorem d0_153 : decode (Pg.mt 0).code 153 = .ok (.iconst 2, 1) := by decide +kernel
theorem w0_153 {L : List Slot} {S : List Value} {H : Hp} {k : Nat} {n : Nat} {Q : MRes → Prop} : Wp Pg 0 (153, L, S, H, k, n) Q ↔ Wp Pg 0 (154, L, (.int 2) :: S, H, k, n) Q := gP d0_153 rfl rfl
theorem d0_154 : decode (Pg.mt 0).code 154 = .ok (.if_icmp .lt 14, 3) := by decide +kernel
theorem w0_154 {L : List Slot} {S : List Value} {H : Hp} {k : Nat} {n : Nat} {Q : MRes → Prop} {x y : Int32} : Wp Pg 0 (154, L, (.int y) :: (.int x) :: S, H, k, n) Q ↔ if x < y then Wp Pg 0 (168, L, S, H, k, n) Q else Wp Pg 0 (157, L, S, H, k, n) Q := gIcmp d0_154 (by decide) (by decide) (i_lt x y)
theorem d0_157 : decode (Pg.mt 0).code 157 = .ok (.aload 11, 2) := by decide +kernel
theorem w0_157 {L : List Slot} {S : List Value} {H : Hp} {k : Nat} {n : Nat} {Q : MRes → Prop} {l0 l1 l2 l3 l4 l5 l6 l7 l8 l9 l10 : Slot} {v : Value} (hv : isA v = true) : Wp Pg 0 (157, l0 :: l1 :: l2 :: l3 :: l4 :: l5 :: l6 :: l7 :: l8 :: l9 :: l10 :: .val v :: L, S, H, k, n) Q ↔ Wp Pg 0 (159, l0 :: l1 :: l2 :: l3 :: l4 :: l5 :: l6 :: l7 :: l8 :: l9 :: l10 :: .val v :: L, v :: S, H, k, n) Q := gP d0_157 rfl (by show (if isA v = true then _ else _) = _; rw [if_pos hv])
theorem d0_159 : decode (Pg.mt 0).code 159 = .ok (.ifnonnull 7, 3) := by decide +kernel
theorem w0_159n {L : List Slot} {S : List Value} {H : Hp} {k : Nat} {n : Nat} {Q : MRes → Prop} : Wp Pg 0 (159, L, .null :: S, H, k, n) Q ↔ Wp Pg 0 (162, L, S, H, k, n) Q := gNonnullN d0_159
theorem w0_159 {L : List Slot} {S : List Value} {H : Hp} {k : Nat} {n : Nat} {Q : MRes → Prop} {a : Nat} : Wp Pg 0 (159, L, (.ref a) :: S, H, k, n) Q ↔ Wp Pg 0 (166, L, S, H, k, n) Q := gNonnullY d0_159 (by decide) (by decide)
theorem d0_162 : decode (Pg.mt 0).code 162 = .ok (.iconst 1, 1) := by decide +kernel
theorem w0_162 {L : List Slot} {S : List Value} {H : Hp} {k : Nat} {n : Nat} {Q : MRes → Prop} : Wp Pg 0 (162, L, S, H, k, n) Q ↔ Wp Pg 0 (163, L, (.int 1) :: S, H, k, n) Q := gP d0_162 rfl rfl
theorem d0_163 : decode (Pg.mt 0).code 163 = .ok (.goto 4, 3) := by decide +kernel
theorem w0_163 {L : List Slot} {S : List Value} {H : Hp} {k : Nat} {n : Nat} {Q : MRes → Prop} : Wp Pg 0 (163, L, S, H, k, n) Q ↔ Wp Pg 0 (167, L, S, H, k, n) Q := gGoto d0_163 (by decide) (by decide)
theorem d0_166 : decode (Pg.mt 0).code 166 = .ok (.iconst 0, 1) := by decide +kernel
theorem w0_166 {L : List Slot} {S : List Value} {H : Hp} {k : Nat} {n : Nat} {Q : MRes → Prop} : Wp Pg 0 (166, L, S, H, k, n) Q ↔ Wp Pg 0 (167, L, (.int 0) :: S, H, k, n) Q := gP d0_166 rfl rfl
theorem d0_167 : decode (Pg.mt 0).code 167 = .ok (.ireturn, 1) := by decide +kernel
theorem w0_167 {L : List Slot} {S : List Value} {H : Hp} {k : Nat} {n : Nat} {Q : MRes → Prop} {x : Int32} (h1 : k ≤ 24) (h2 : n ≤ 128) : Wp Pg 0 (167, L, (.int x) :: S, H, k, n) Q ↔ Q (some (.int (x &&& 1)), H) := gRet d0_167 rfl rfl rfl rfl h1 h2
theorem d0_168 : decode (Pg.mt 0).code 168 = .ok (.aload 11, 2) := by decide +kernel
theorem w0_168 {L : List Slot} {S : List Value} {H : Hp} {k : Nat} {n : Nat} {Q : MRes → Prop} {l0 l1 l2 l3 l4 l5 l6 l7 l8 l9 l10 : Slot} {v : Value} (hv : isA v = true) : Wp Pg 0 (168, l0 :: l1 :: l2 :: l3 :: l4 :: l5 :: l6 :: l7 :: l8 :: l9 :: l10 :: .val v :: L, S, H, k, n) Q ↔ Wp Pg 0 (170, l0 :: l1 :: l2 :: l3 :: l4 :: l5 :: l6 :: l7 :: l8 :: l9 :: l10 :: .val v :: L, v :: S, H, k, n) Q := gP d0_168 rfl (by show (if isA v = true then _ else _) = _; rw [if_pos hv])
theorem d0_170 : decode (Pg.mt 0).code 170 = .ok (.ifnonnull 5, 3) := by decide +kernel
theorem w0_170n {L : List Slot} {S : List Value} {H : Hp} {k : Nat} {n : Nat} {Q : MRes → Prop} : Wp Pg 0 (170, L, .null :: S, H, k, n) Q ↔ Wp Pg 0 (173, L, S, H, k, n) Q := gNonnullN d0_170
theorem w0_170 {L : List Slot} {S : List Value} {H : Hp} {k : Nat} {n : Nat} {Q : MRes → Prop} {a : Nat} : Wp Pg 0 (170, L, (.ref a) :: S, H, k, n) Q ↔ Wp Pg 0 (175, L, S, H, k, n) Q := gNonnullY d0_170 (by decide) (by decide)
theorem d0_173 : decode (Pg.mt 0).code 173 = .ok (.iconst 0, 1) := by decide +kernel
theorem w0_173 {L : List Slot} {S : List Value} {H : Hp} {k : Nat} {n : Nat} {Q : MRes → Prop} : Wp Pg 0 (173, L, S, H, k, n) Q ↔ Wp Pg 0 (174, L, (.int 0) :: S, H, k, n) Q := gP d0_173 rfl rfl
theorem d0_174 : decode (Pg.mt 0).code 174 = .ok (.ireturn, 1) := by decide +kernel
theorem w0_174 {L : List Slot} {S : List Value} {H : Hp} {k : Nat} {n : Nat} {Q : MRes → Prop} {x : Int32} (h1 : k ≤ 24) (h2 : n ≤ 128) : Wp Pg 0 (174, L, (.int x) :: S, H, k, n) Q ↔ Q (some (.int (x &&& 1)), H) := gRet d0_174 rfl rfl rfl rfl h1 h2
theorem d0_175 : decode (Pg.mt 0).code 175 = .ok (.iload 7, 2) := by decide +kernel
theorem w0_175 {L : List Slot} {S : List Value} {H : Hp} {k : Nat} {n : Nat} {Q : MRes → Prop} {l0 l1 l2 l3 l4 l5 l6 : Slot} {x : Int32} : Wp Pg 0 (175, l0 :: l1 :: l2 :: l3 :: l4 :: l5 :: l6 :: .val (.int x) :: L, S, H, k, n) Q ↔ Wp Pg 0 (177, l0 :: l1 :: l2 :: l3 :: l4 :: l5 :: l6 :: .val (.int x) :: L, (.int x) :: S, H, k, n) Q := gP d0_175 rfl rfl
theorem d0_177 : decode (Pg.mt 0).code 177 = .ok (.ifCond .ne 7, 3) := by decide +kernel
theorem w0_177 {L : List Slot} {S : List Value} {H : Hp} {k : Nat} {n : Nat} {Q : MRes → Prop} {x : Int32} : Wp Pg 0 (177, L, (.int x) :: S, H, k, n) Q ↔ if ¬ x = 0 then Wp Pg 0 (184, L, S, H, k, n) Q else Wp Pg 0 (180, L, S, H, k, n) Q := gIf d0_177 (by decide) (by decide) (c_ne x)
theorem d0_180 : decode (Pg.mt 0).code 180 = .ok (.iconst 0, 1) := by decide +kernel
theorem w0_180 {L : List Slot} {S : List Value} {H : Hp} {k : Nat} {n : Nat} {Q : MRes → Prop} : Wp Pg 0 (180, L, S, H, k, n) Q ↔ Wp Pg 0 (181, L, (.int 0) :: S, H, k, n) Q := gP d0_180 rfl rfl
theorem d0_181 : decode (Pg.mt 0).code 181 = .ok (.goto 4, 3) := by decide +kernel
theorem w0_181 {L : List Slot} {S : List Value} {H : Hp} {k : Nat} {n : Nat} {Q : MRes → Prop} : Wp Pg 0 (181, L, S, H, k, n) Q ↔ Wp Pg 0 (185, L, S, H, k, n) Q := gGoto d0_181 (by decide) (by decide)
theorem d0_184 : decode (Pg.mt 0).code 184 = .ok (.iload_n 2, 1) := by decide +kernel
theorem w0_184 {L : List Slot} {S : List Value} {H : Hp} {k : Nat} {n : Nat} {Q : MRes → Prop} {l0 l1 : Slot} {x : Int32} : Wp Pg 0 (184, l0 :: l1 :: .val (.int x) :: L, S, H, k, n) Q ↔ Wp Pg 0 (185, l0 :: l1 :: .val (.int x) :: L, (.int x) :: S, H, k, n) Q := gP d0_184 rfl rfl
theorem d0_185 : decode (Pg.mt 0).code 185 = .ok (.istore 12, 2) := by decide +kernel
theorem w0_185 {L : List Slot} {S : List Value} {H : Hp} {k : Nat} {n : Nat} {Q : MRes → Prop} {l0 l1 l2 l3 l4 l5 l6 l7 l8 l9 l10 l11 : Slot} {o : Slot} {x : Int32} (ho : s1 o = true) : Wp Pg 0 (185, l0 :: l1 :: l2 :: l3 :: l4 :: l5 :: l6 :: l7 :: l8 :: l9 :: l10 :: l11 :: o :: L, (.int x) :: S, H, k, n) Q ↔ Wp Pg 0 (187, l0 :: l1 :: l2 :: l3 :: l4 :: l5 :: l6 :: l7 :: l8 :: l9 :: l10 :: l11 :: .val (.int x) :: L, S, H, k, n) Q := gP d0_185 rfl (st1_eq (o := o) rfl ho rfl)
theorem d0_187 : decode (Pg.mt 0).code 187 = .ok (.aload 11, 2) := by decide +kernel
theorem w0_187 {L : List Slot} {S : List Value} {H : Hp} {k : Nat} {n : Nat} {Q : MRes → Prop} {l0 l1 l2 l3 l4 l5 l6 l7 l8 l9 l10 : Slot} {v : Value} (hv : isA v = true) : Wp Pg 0 (187, l0 :: l1 :: l2 :: l3 :: l4 :: l5 :: l6 :: l7 :: l8 :: l9 :: l10 :: .val v :: L, S, H, k, n) Q ↔ Wp Pg 0 (189, l0 :: l1 :: l2 :: l3 :: l4 :: l5 :: l6 :: l7 :: l8 :: l9 :: l10 :: .val v :: L, v :: S, H, k, n) Q := gP d0_187 rfl (by show (if isA v = true then _ else _) = _; rw [if_pos hv])
theorem d0_189 : decode (Pg.mt 0).code 189 = .ok (.invokevirtual 16, 3) := by decide +kernel
theorem w0_189 {L : List Slot} {S : List Value} {H : Hp} {k : Nat} {n : Nat} {Q : MRes → Prop} {a : Nat}  (ho : kdOf H a = some 1) (h1 : L.length = 14) (h2 : wt S ≤ 0) (h3 : k + 0 ≤ 24) (h4 : n + 0 ≤ 128) : Wp Pg 0 (189, L, (.ref a) :: S, H, k, n) Q ↔ Wp Pg 8 (0, [.val (.ref a)], [], H, 0, 0) fun r => Wp Pg 0 (192, L, r.1.toList ++ S, r.2, k + 0, n + 0) Q := gVirt (np := 0) (cid := 1) d0_189 rfl rfl rfl (M := 14) (W := 0) (C := 24) (Sl := 128) (c := 0) (s := 0) ⟨rfl, by decide, by decide, rfl, rfl, rfl, rfl⟩ (by show entL [(.ref a)] 1 = _; rw [entL, laid_c1 rfl, laid_nil]; rfl) ho h1 h2 h3 h4
theorem d0_192 : decode (Pg.mt 0).code 192 = .ok (.iload 12, 2) := by decide +kernel
theorem w0_192 {L : List Slot} {S : List Value} {H : Hp} {k : Nat} {n : Nat} {Q : MRes → Prop} {l0 l1 l2 l3 l4 l5 l6 l7 l8 l9 l10 l11 : Slot} {x : Int32} : Wp Pg 0 (192, l0 :: l1 :: l2 :: l3 :: l4 :: l5 :: l6 :: l7 :: l8 :: l9 :: l10 :: l11 :: .val (.int x) :: L, S, H, k, n) Q ↔ Wp Pg 0 (194, l0 :: l1 :: l2 :: l3 :: l4 :: l5 :: l6 :: l7 :: l8 :: l9 :: l10 :: l11 :: .val (.int x) :: L, (.int x) :: S, H, k, n) Q := gP d0_192 rfl rfl
theorem d0_194 : decode (Pg.mt 0).code 194 = .ok (.if_icmp .eq 5, 3) := by decide +kernel
theorem w0_194 {L : List Slot} {S : List Value} {H : Hp} {k : Nat} {n : Nat} {Q : MRes → Prop} {x y : Int32} : Wp Pg 0 (194, L, (.int y) :: (.int x) :: S, H, k, n) Q ↔ if x = y then Wp Pg 0 (199, L, S, H, k, n) Q else Wp Pg 0 (197, L, S, H, k, n) Q := gIcmp d0_194 (by decide) (by decide) (i_eq x y)
theorem d0_197 : decode (Pg.mt 0).code 197 = .ok (.iconst 0, 1) := by decide +kernel
theorem w0_197 {L : List Slot} {S : List Value} {H : Hp} {k : Nat} {n : Nat} {Q : MRes → Prop} : Wp Pg 0 (197, L, S, H, k, n) Q ↔ Wp Pg 0 (198, L, (.int 0) :: S, H, k, n) Q := gP d0_197 rfl rfl
theorem d0_198 : decode (Pg.mt 0).code 198 = .ok (.ireturn, 1) := by decide +kernel
theorem w0_198 {L : List Slot} {S : List Value} {H : Hp} {k : Nat} {n : Nat} {Q : MRes → Prop} {x : Int32} (h1 : k ≤ 24) (h2 : n ≤ 128) : Wp Pg 0 (198, L, (.int x) :: S, H, k, n) Q ↔ Q (some (.int (x &&& 1)), H) := gRet d0_198 rfl rfl rfl rfl h1 h2
theorem d0_199 : decode (Pg.mt 0).code 199 = .ok (.aload 11, 2) := by decide +kernel
theorem w0_199 {L : List Slot} {S : List Value} {H : Hp} {k : Nat} {n : Nat} {Q : MRes → Prop} {l0 l1 l2 l3 l4 l5 l6 l7 l8 l9 l10 : Slot} {v : Value} (hv : isA v = true) : Wp Pg 0 (199, l0 :: l1 :: l2 :: l3 :: l4 :: l5 :: l6 :: l7 :: l8 :: l9 :: l10 :: .val v :: L, S, H, k, n) Q ↔ Wp Pg 0 (201, l0 :: l1 :: l2 :: l3 :: l4 :: l5 :: l6 :: l7 :: l8 :: l9 :: l10 :: .val v :: L, v :: S, H, k, n) Q := gP d0_199 rfl (by show (if isA v = true then _ else _) = _; rw [if_pos hv])
theorem d0_201 : decode (Pg.mt 0).code 201 = .ok (.invokevirtual 22, 3) := by decide +kernel
theorem w0_201 {L : List Slot} {S : List Value} {H : Hp} {k : Nat} {n : Nat} {Q : MRes → Prop} {a : Nat}  (ho : kdOf H a = some 1) (h1 : L.length = 14) (h2 : wt S ≤ 0) (h3 : k + 0 ≤ 24) (h4 : n + 0 ≤ 128) : Wp Pg 0 (201, L, (.ref a) :: S, H, k, n) Q ↔ Wp Pg 9 (0, [.val (.ref a)], [], H, 0, 0) fun r => Wp Pg 0 (204, L, r.1.toList ++ S, r.2, k + 0, n + 0) Q := gVirt (np := 0) (cid := 1) d0_201 rfl rfl rfl (M := 14) (W := 0) (C := 24) (Sl := 128) (c := 0) (s := 0) ⟨rfl, by decide, by decide, rfl, rfl, rfl, rfl⟩ (by show entL [(.ref a)] 1 = _; rw [entL, laid_c1 rfl, laid_nil]; rfl) ho h1 h2 h3 h4
theorem d0_204 : decode (Pg.mt 0).code 204 = .ok (.astore 13, 2) := by decide +kernel
theorem w0_204 {L : List Slot} {S : List Value} {H : Hp} {k : Nat} {n : Nat} {Q : MRes → Prop} {l0 l1 l2 l3 l4 l5 l6 l7 l8 l9 l10 l11 l12 : Slot} {o : Slot} {v : Value} (ho : s1 o = true) (hv : isA v = true) : Wp Pg 0 (204, l0 :: l1 :: l2 :: l3 :: l4 :: l5 :: l6 :: l7 :: l8 :: l9 :: l10 :: l11 :: l12 :: o :: L, v :: S, H, k, n) Q ↔ Wp Pg 0 (206, l0 :: l1 :: l2 :: l3 :: l4 :: l5 :: l6 :: l7 :: l8 :: l9 :: l10 :: l11 :: l12 :: .val v :: L, S, H, k, n) Q := gP d0_204 rfl (st1_eq (o := o) rfl ho hv)
theorem d0_206 : decode (Pg.mt 0).code 206 = .ok (.aload 13, 2) := by decide +kernel
theorem w0_206 {L : List Slot} {S : List Value} {H : Hp} {k : Nat} {n : Nat} {Q : MRes → Prop} {l0 l1 l2 l3 l4 l5 l6 l7 l8 l9 l10 l11 l12 : Slot} {v : Value} (hv : isA v = true) : Wp Pg 0 (206, l0 :: l1 :: l2 :: l3 :: l4 :: l5 :: l6 :: l7 :: l8 :: l9 :: l10 :: l11 :: l12 :: .val v :: L, S, H, k, n) Q ↔ Wp Pg 0 (208, l0 :: l1 :: l2 :: l3 :: l4 :: l5 :: l6 :: l7 :: l8 :: l9 :: l10 :: l11 :: l12 :: .val v :: L, v :: S, H, k, n) Q := gP d0_206 rfl (by show (if isA v = true then _ else _) = _; rw [if_pos hv])
theorem d0_208 : decode (Pg.mt 0).code 208 = .ok (.ifnull 11, 3) := by decide +kernel
theorem w0_208n {L : List Slot} {S : List Value} {H : Hp} {k : Nat} {n : Nat} {Q : MRes → Prop} : Wp Pg 0 (208, L, .null :: S, H, k, n) Q ↔ Wp Pg 0 (219, L, S, H, k, n) Q := gNullY d0_208 (by decide) (by decide)
theorem w0_208 {L : List Slot} {S : List Value} {H : Hp} {k : Nat} {n : Nat} {Q : MRes → Prop} {a : Nat} : Wp Pg 0 (208, L, (.ref a) :: S, H, k, n) Q ↔ Wp Pg 0 (211, L, S, H, k, n) Q := gNullN d0_208
theorem d0_211 : decode (Pg.mt 0).code 211 = .ok (.aload 13, 2) := by decide +kernel
theorem w0_211 {L : List Slot} {S : List Value} {H : Hp} {k : Nat} {n : Nat} {Q : MRes → Prop} {l0 l1 l2 l3 l4 l5 l6 l7 l8 l9 l10 l11 l12 : Slot} {v : Value} (hv : isA v = true) : Wp Pg 0 (211, l0 :: l1 :: l2 :: l3 :: l4 :: l5 :: l6 :: l7 :: l8 :: l9 :: l10 :: l11 :: l12 :: .val v :: L, S, H, k, n) Q ↔ Wp Pg 0 (213, l0 :: l1 :: l2 :: l3 :: l4 :: l5 :: l6 :: l7 :: l8 :: l9 :: l10 :: l11 :: l12 :: .val v :: L, v :: S, H, k, n) Q := gP d0_211 rfl (by show (if isA v = true then _ else _) = _; rw [if_pos hv])
theorem d0_213 : decode (Pg.mt 0).code 213 = .ok (.arraylength, 1) := by decide +kernel
theorem w0_213 {L : List Slot} {S : List Value} {H : Hp} {k : Nat} {n : Nat} {Q : MRes → Prop} {a : Nat} : Wp Pg 0 (213, L, (.ref a) :: S, H, k, n) Q ↔ ∃ v, alen H a = some v ∧ Wp Pg 0 (214, L, (.int v) :: S, H, k, n) Q := gLen d0_213
theorem d0_214 : decode (Pg.mt 0).code 214 = .ok (.iload 6, 2) := by decide +kernel
theorem w0_214 {L : List Slot} {S : List Value} {H : Hp} {k : Nat} {n : Nat} {Q : MRes → Prop} {l0 l1 l2 l3 l4 l5 : Slot} {x : Int32} : Wp Pg 0 (214, l0 :: l1 :: l2 :: l3 :: l4 :: l5 :: .val (.int x) :: L, S, H, k, n) Q ↔ Wp Pg 0 (216, l0 :: l1 :: l2 :: l3 :: l4 :: l5 :: .val (.int x) :: L, (.int x) :: S, H, k, n) Q := gP d0_214 rfl rfl
theorem d0_216 : decode (Pg.mt 0).code 216 = .ok (.if_icmp .eq 5, 3) := by decide +kernel
theorem w0_216 {L : List Slot} {S : List Value} {H : Hp} {k : Nat} {n : Nat} {Q : MRes → Prop} {x y : Int32} : Wp Pg 0 (216, L, (.int y) :: (.int x) :: S, H, k, n) Q ↔ if x = y then Wp Pg 0 (221, L, S, H, k, n) Q else Wp Pg 0 (219, L, S, H, k, n) Q := gIcmp d0_216 (by decide) (by decide) (i_eq x y)
theorem d0_219 : decode (Pg.mt 0).code 219 = .ok (.iconst 0, 1) := by decide +kernel
theorem w0_219 {L : List Slot} {S : List Value} {H : Hp} {k : Nat} {n : Nat} {Q : MRes → Prop} : Wp Pg 0 (219, L, S, H, k, n) Q ↔ Wp Pg 0 (220, L, (.int 0) :: S, H, k, n) Q := gP d0_219 rfl rfl
theorem d0_220 : decode (Pg.mt 0).code 220 = .ok (.ireturn, 1) := by decide +kernel
theorem w0_220 {L : List Slot} {S : List Value} {H : Hp} {k : Nat} {n : Nat} {Q : MRes → Prop} {x : Int32} (h1 : k ≤ 24) (h2 : n ≤ 128) : Wp Pg 0 (220, L, (.int x) :: S, H, k, n) Q ↔ Q (some (.int (x &&& 1)), H) := gRet d0_220 rfl rfl rfl rfl h1 h2
theorem d0_221 : decode (Pg.mt 0).code 221 = .ok (.iload 6, 2) := by decide +kernel
theorem w0_221 {L : List Slot} {S : List Value} {H : Hp} {k : Nat} {n : Nat} {Q : MRes → Prop} {l0 l1 l2 l3 l4 l5 : Slot} {x : Int32} : Wp Pg 0 (221, l0 :: l1 :: l2 :: l3 :: l4 :: l5 :: .val (.int x) :: L, S, H, k, n) Q ↔ Wp Pg 0 (223, l0 :: l1 :: l2 :: l3 :: l4 :: l5 :: .val (.int x) :: L, (.int x) :: S, H, k, n) Q := gP d0_221 rfl rfl
theorem d0_223 : decode (Pg.mt 0).code 223 = .ok (.iconst 1, 1) := by decide +kernel
theorem w0_223 {L : List Slot} {S : List Value} {H : Hp} {k : Nat} {n : Nat} {Q : MRes → Prop} : Wp Pg 0 (223, L, S, H, k, n) Q ↔ Wp Pg 0 (224, L, (.int 1) :: S, H, k, n) Q := gP d0_223 rfl rfl
theorem d0_224 : decode (Pg.mt 0).code 224 = .ok (.if_icmp .ne 17, 3) := by decide +kernel
theorem w0_224 {L : List Slot} {S : List Value} {H : Hp} {k : Nat} {n : Nat} {Q : MRes → Prop} {x y : Int32} : Wp Pg 0 (224, L, (.int y) :: (.int x) :: S, H, k, n) Q ↔ if ¬ x = y then Wp Pg 0 (241, L, S, H, k, n) Q else Wp Pg 0 (227, L, S, H, k, n) Q := gIcmp d0_224 (by decide) (by decide) (i_ne x y)
theorem d0_227 : decode (Pg.mt 0).code 227 = .ok (.aload 13, 2) := by decide +kernel
theorem w0_227 {L : List Slot} {S : List Value} {H : Hp} {k : Nat} {n : Nat} {Q : MRes → Prop} {l0 l1 l2 l3 l4 l5 l6 l7 l8 l9 l10 l11 l12 : Slot} {v : Value} (hv : isA v = true) : Wp Pg 0 (227, l0 :: l1 :: l2 :: l3 :: l4 :: l5 :: l6 :: l7 :: l8 :: l9 :: l10 :: l11 :: l12 :: .val v :: L, S, H, k, n) Q ↔ Wp Pg 0 (229, l0 :: l1 :: l2 :: l3 :: l4 :: l5 :: l6 :: l7 :: l8 :: l9 :: l10 :: l11 :: l12 :: .val v :: L, v :: S, H, k, n) Q := gP d0_227 rfl (by show (if isA v = true then _ else _) = _; rw [if_pos hv])
theorem d0_229 : decode (Pg.mt 0).code 229 = .ok (.iconst 0, 1) := by decide +kernel
theorem w0_229 {L : List Slot} {S : List Value} {H : Hp} {k : Nat} {n : Nat} {Q : MRes → Prop} : Wp Pg 0 (229, L, S, H, k, n) Q ↔ Wp Pg 0 (230, L, (.int 0) :: S, H, k, n) Q := gP d0_229 rfl rfl
theorem d0_230 : decode (Pg.mt 0).code 230 = .ok (.iaload, 1) := by decide +kernel
theorem w0_230 {L : List Slot} {S : List Value} {H : Hp} {k : Nat} {n : Nat} {Q : MRes → Prop} {a : Nat} {x : Int32} : Wp Pg 0 (230, L, (.int x) :: (.ref a) :: S, H, k, n) Q ↔ ∃ v, ldA .iaload H a x = some v ∧ Wp Pg 0 (231, L, v :: S, H, k, n) Q := gLdA (by simp) d0_230
theorem d0_231 : decode (Pg.mt 0).code 231 = .ok (.iload_n 0, 1) := by decide +kernel
theorem w0_231 {L : List Slot} {S : List Value} {H : Hp} {k : Nat} {n : Nat} {Q : MRes → Prop}  {x : Int32} : Wp Pg 0 (231, .val (.int x) :: L, S, H, k, n) Q ↔ Wp Pg 0 (232, .val (.int x) :: L, (.int x) :: S, H, k, n) Q := gP d0_231 rfl rfl
theorem d0_232 : decode (Pg.mt 0).code 232 = .ok (.if_icmp .ne 7, 3) := by decide +kernel
theorem w0_232 {L : List Slot} {S : List Value} {H : Hp} {k : Nat} {n : Nat} {Q : MRes → Prop} {x y : Int32} : Wp Pg 0 (232, L, (.int y) :: (.int x) :: S, H, k, n) Q ↔ if ¬ x = y then Wp Pg 0 (239, L, S, H, k, n) Q else Wp Pg 0 (235, L, S, H, k, n) Q := gIcmp d0_232 (by decide) (by decide) (i_ne x y)
theorem d0_235 : decode (Pg.mt 0).code 235 = .ok (.iconst 1, 1) := by decide +kernel
theorem w0_235 {L : List Slot} {S : List Value} {H : Hp} {k : Nat} {n : Nat} {Q : MRes → Prop} : Wp Pg 0 (235, L, S, H, k, n) Q ↔ Wp Pg 0 (236, L, (.int 1) :: S, H, k, n) Q := gP d0_235 rfl rfl
theorem d0_236 : decode (Pg.mt 0).code 236 = .ok (.goto 4, 3) := by decide +kernel
theorem w0_236 {L : List Slot} {S : List Value} {H : Hp} {k : Nat} {n : Nat} {Q : MRes → Prop} : Wp Pg 0 (236, L, S, H, k, n) Q ↔ Wp Pg 0 (240, L, S, H, k, n) Q := gGoto d0_236 (by decide) (by decide)
theorem d0_239 : decode (Pg.mt 0).code 239 = .ok (.iconst 0, 1) := by decide +kernel
theorem w0_239 {L : List Slot} {S : List Value} {H : Hp} {k : Nat} {n : Nat} {Q : MRes → Prop} : Wp Pg 0 (239, L, S, H, k, n) Q ↔ Wp Pg 0 (240, L, (.int 0) :: S, H, k, n) Q := gP d0_239 rfl rfl
theorem d0_240 : decode (Pg.mt 0).code 240 = .ok (.ireturn, 1) := by decide +kernel
theorem w0_240 {L : List Slot} {S : List Value} {H : Hp} {k : Nat} {n : Nat} {Q : MRes → Prop} {x : Int32} (h1 : k ≤ 24) (h2 : n ≤ 128) : Wp Pg 0 (240, L, (.int x) :: S, H, k, n) Q ↔ Q (some (.int (x &&& 1)), H) := gRet d0_240 rfl rfl rfl rfl h1 h2
theorem d0_241 : decode (Pg.mt 0).code 241 = .ok (.iload 6, 2) := by decide +kernel
theorem w0_241 {L : List Slot} {S : List Value} {H : Hp} {k : Nat} {n : Nat} {Q : MRes → Prop} {l0 l1 l2 l3 l4 l5 : Slot} {x : Int32} : Wp Pg 0 (241, l0 :: l1 :: l2 :: l3 :: l4 :: l5 :: .val (.int x) :: L, S, H, k, n) Q ↔ Wp Pg 0 (243, l0 :: l1 :: l2 :: l3 :: l4 :: l5 :: .val (.int x) :: L, (.int x) :: S, H, k, n) Q := gP d0_241 rfl rfl
theorem d0_243 : decode (Pg.mt 0).code 243 = .ok (.iconst 2, 1) := by decide +kernel
theorem w0_243 {L : List Slot} {S : List Value} {H : Hp} {k : Nat} {n : Nat} {Q : MRes → Prop} : Wp Pg 0 (243, L, S, H, k, n) Q ↔ Wp Pg 0 (244, L, (.int 2) :: S, H, k, n) Q := gP d0_243 rfl rfl
theorem d0_244 : decode (Pg.mt 0).code 244 = .ok (.if_icmp .ne 33, 3) := by decide +kernel
theorem w0_244 {L : List Slot} {S : List Value} {H : Hp} {k : Nat} {n : Nat} {Q : MRes → Prop} {x y : Int32} : Wp Pg 0 (244, L, (.int y) :: (.int x) :: S, H, k, n) Q ↔ if ¬ x = y then Wp Pg 0 (277, L, S, H, k, n) Q else Wp Pg 0 (247, L, S, H, k, n) Q := gIcmp d0_244 (by decide) (by decide) (i_ne x y)
theorem d0_247 : decode (Pg.mt 0).code 247 = .ok (.aload 13, 2) := by decide +kernel
theorem w0_247 {L : List Slot} {S : List Value} {H : Hp} {k : Nat} {n : Nat} {Q : MRes → Prop} {l0 l1 l2 l3 l4 l5 l6 l7 l8 l9 l10 l11 l12 : Slot} {v : Value} (hv : isA v = true) : Wp Pg 0 (247, l0 :: l1 :: l2 :: l3 :: l4 :: l5 :: l6 :: l7 :: l8 :: l9 :: l10 :: l11 :: l12 :: .val v :: L, S, H, k, n) Q ↔ Wp Pg 0 (249, l0 :: l1 :: l2 :: l3 :: l4 :: l5 :: l6 :: l7 :: l8 :: l9 :: l10 :: l11 :: l12 :: .val v :: L, v :: S, H, k, n) Q := gP d0_247 rfl (by show (if isA v = true then _ else _) = _; rw [if_pos hv])
theorem d0_249 : decode (Pg.mt 0).code 249 = .ok (.iconst 0, 1) := by decide +kernel
theorem w0_249 {L : List Slot} {S : List Value} {H : Hp} {k : Nat} {n : Nat} {Q : MRes → Prop} : Wp Pg 0 (249, L, S, H, k, n) Q ↔ Wp Pg 0 (250, L, (.int 0) :: S, H, k, n) Q := gP d0_249 rfl rfl
theorem d0_250 : decode (Pg.mt 0).code 250 = .ok (.iaload, 1) := by decide +kernel
theorem w0_250 {L : List Slot} {S : List Value} {H : Hp} {k : Nat} {n : Nat} {Q : MRes → Prop} {a : Nat} {x : Int32} : Wp Pg 0 (250, L, (.int x) :: (.ref a) :: S, H, k, n) Q ↔ ∃ v, ldA .iaload H a x = some v ∧ Wp Pg 0 (251, L, v :: S, H, k, n) Q := gLdA (by simp) d0_250
theorem d0_251 : decode (Pg.mt 0).code 251 = .ok (.iload_n 0, 1) := by decide +kernel
theorem w0_251 {L : List Slot} {S : List Value} {H : Hp} {k : Nat} {n : Nat} {Q : MRes → Prop}  {x : Int32} : Wp Pg 0 (251, .val (.int x) :: L, S, H, k, n) Q ↔ Wp Pg 0 (252, .val (.int x) :: L, (.int x) :: S, H, k, n) Q := gP d0_251 rfl rfl
theorem d0_252 : decode (Pg.mt 0).code 252 = .ok (.iload_n 1, 1) := by decide +kernel
theorem w0_252 {L : List Slot} {S : List Value} {H : Hp} {k : Nat} {n : Nat} {Q : MRes → Prop} {l0 : Slot} {x : Int32} : Wp Pg 0 (252, l0 :: .val (.int x) :: L, S, H, k, n) Q ↔ Wp Pg 0 (253, l0 :: .val (.int x) :: L, (.int x) :: S, H, k, n) Q := gP d0_252 rfl rfl
theorem d0_253 : decode (Pg.mt 0).code 253 = .ok (.invokestatic 26, 3) := by decide +kernel
theorem w0_253 {L : List Slot} {S : List Value} {H : Hp} {k : Nat} {n : Nat} {Q : MRes → Prop} {a0 : Int32} {a1 : Int32}  (h1 : L.length = 14) (h2 : wt S ≤ 1) (h3 : k + 0 ≤ 24) (h4 : n + 0 ≤ 128) : Wp Pg 0 (253, L, (.int a1) :: (.int a0) :: S, H, k, n) Q ↔ Wp Pg 10 (0, [.val (.int a0), .val (.int a1)], [], H, 0, 0) fun r => Wp Pg 0 (256, L, r.1.toList ++ S, r.2, k + 0, n + 0) Q := gCall d0_253 rfl rfl (M := 14) (W := 1) (C := 24) (Sl := 128) (c := 0) (s := 0) ⟨rfl, by decide, by decide, rfl, rfl, rfl, rfl⟩ (by show entL [(.int a0), (.int a1)] 2 = _; rw [entL, laid_c1 rfl, laid_c1 rfl, laid_nil]; rfl) h1 h2 h3 h4
theorem d0_256 : decode (Pg.mt 0).code 256 = .ok (.if_icmp .ne 19, 3) := by decide +kernel
theorem w0_256 {L : List Slot} {S : List Value} {H : Hp} {k : Nat} {n : Nat} {Q : MRes → Prop} {x y : Int32} : Wp Pg 0 (256, L, (.int y) :: (.int x) :: S, H, k, n) Q ↔ if ¬ x = y then Wp Pg 0 (275, L, S, H, k, n) Q else Wp Pg 0 (259, L, S, H, k, n) Q := gIcmp d0_256 (by decide) (by decide) (i_ne x y)
theorem d0_259 : decode (Pg.mt 0).code 259 = .ok (.aload 13, 2) := by decide +kernel
theorem w0_259 {L : List Slot} {S : List Value} {H : Hp} {k : Nat} {n : Nat} {Q : MRes → Prop} {l0 l1 l2 l3 l4 l5 l6 l7 l8 l9 l10 l11 l12 : Slot} {v : Value} (hv : isA v = true) : Wp Pg 0 (259, l0 :: l1 :: l2 :: l3 :: l4 :: l5 :: l6 :: l7 :: l8 :: l9 :: l10 :: l11 :: l12 :: .val v :: L, S, H, k, n) Q ↔ Wp Pg 0 (261, l0 :: l1 :: l2 :: l3 :: l4 :: l5 :: l6 :: l7 :: l8 :: l9 :: l10 :: l11 :: l12 :: .val v :: L, v :: S, H, k, n) Q := gP d0_259 rfl (by show (if isA v = true then _ else _) = _; rw [if_pos hv])
theorem d0_261 : decode (Pg.mt 0).code 261 = .ok (.iconst 1, 1) := by decide +kernel
theorem w0_261 {L : List Slot} {S : List Value} {H : Hp} {k : Nat} {n : Nat} {Q : MRes → Prop} : Wp Pg 0 (261, L, S, H, k, n) Q ↔ Wp Pg 0 (262, L, (.int 1) :: S, H, k, n) Q := gP d0_261 rfl rfl
theorem d0_262 : decode (Pg.mt 0).code 262 = .ok (.iaload, 1) := by decide +kernel
theorem w0_262 {L : List Slot} {S : List Value} {H : Hp} {k : Nat} {n : Nat} {Q : MRes → Prop} {a : Nat} {x : Int32} : Wp Pg 0 (262, L, (.int x) :: (.ref a) :: S, H, k, n) Q ↔ ∃ v, ldA .iaload H a x = some v ∧ Wp Pg 0 (263, L, v :: S, H, k, n) Q := gLdA (by simp) d0_262
theorem d0_263 : decode (Pg.mt 0).code 263 = .ok (.iload_n 0, 1) := by decide +kernel
theorem w0_263 {L : List Slot} {S : List Value} {H : Hp} {k : Nat} {n : Nat} {Q : MRes → Prop}  {x : Int32} : Wp Pg 0 (263, .val (.int x) :: L, S, H, k, n) Q ↔ Wp Pg 0 (264, .val (.int x) :: L, (.int x) :: S, H, k, n) Q := gP d0_263 rfl rfl
theorem d0_264 : decode (Pg.mt 0).code 264 = .ok (.iload_n 1, 1) := by decide +kernel
theorem w0_264 {L : List Slot} {S : List Value} {H : Hp} {k : Nat} {n : Nat} {Q : MRes → Prop} {l0 : Slot} {x : Int32} : Wp Pg 0 (264, l0 :: .val (.int x) :: L, S, H, k, n) Q ↔ Wp Pg 0 (265, l0 :: .val (.int x) :: L, (.int x) :: S, H, k, n) Q := gP d0_264 rfl rfl
theorem d0_265 : decode (Pg.mt 0).code 265 = .ok (.invokestatic 32, 3) := by decide +kernel
theorem w0_265 {L : List Slot} {S : List Value} {H : Hp} {k : Nat} {n : Nat} {Q : MRes → Prop} {a0 : Int32} {a1 : Int32}  (h1 : L.length = 14) (h2 : wt S ≤ 1) (h3 : k + 0 ≤ 24) (h4 : n + 0 ≤ 128) : Wp Pg 0 (265, L, (.int a1) :: (.int a0) :: S, H, k, n) Q ↔ Wp Pg 11 (0, [.val (.int a0), .val (.int a1)], [], H, 0, 0) fun r => Wp Pg 0 (268, L, r.1.toList ++ S, r.2, k + 0, n + 0) Q := gCall d0_265 rfl rfl (M := 14) (W := 1) (C := 24) (Sl := 128) (c := 0) (s := 0) ⟨rfl, by decide, by decide, rfl, rfl, rfl, rfl⟩ (by show entL [(.int a0), (.int a1)] 2 = _; rw [entL, laid_c1 rfl, laid_c1 rfl, laid_nil]; rfl) h1 h2 h3 h4
theorem d0_268 : decode (Pg.mt 0).code 268 = .ok (.if_icmp .ne 7, 3) := by decide +kernel
theorem w0_268 {L : List Slot} {S : List Value} {H : Hp} {k : Nat} {n : Nat} {Q : MRes → Prop} {x y : Int32} : Wp Pg 0 (268, L, (.int y) :: (.int x) :: S, H, k, n) Q ↔ if ¬ x = y then Wp Pg 0 (275, L, S, H, k, n) Q else Wp Pg 0 (271, L, S, H, k, n) Q := gIcmp d0_268 (by decide) (by decide) (i_ne x y)
theorem d0_271 : decode (Pg.mt 0).code 271 = .ok (.iconst 1, 1) := by decide +kernel
theorem w0_271 {L : List Slot} {S : List Value} {H : Hp} {k : Nat} {n : Nat} {Q : MRes → Prop} : Wp Pg 0 (271, L, S, H, k, n) Q ↔ Wp Pg 0 (272, L, (.int 1) :: S, H, k, n) Q := gP d0_271 rfl rfl
theorem d0_272 : decode (Pg.mt 0).code 272 = .ok (.goto 4, 3) := by decide +kernel
theorem w0_272 {L : List Slot} {S : List Value} {H : Hp} {k : Nat} {n : Nat} {Q : MRes → Prop} : Wp Pg 0 (272, L, S, H, k, n) Q ↔ Wp Pg 0 (276, L, S, H, k, n) Q := gGoto d0_272 (by decide) (by decide)
theorem d0_275 : decode (Pg.mt 0).code 275 = .ok (.iconst 0, 1) := by decide +kernel
theorem w0_275 {L : List Slot} {S : List Value} {H : Hp} {k : Nat} {n : Nat} {Q : MRes → Prop} : Wp Pg 0 (275, L, S, H, k, n) Q ↔ Wp Pg 0 (276, L, (.int 0) :: S, H, k, n) Q := gP d0_275 rfl rfl
theorem d0_276 : decode (Pg.mt 0).code 276 = .ok (.ireturn, 1) := by decide +kernel
theorem w0_276 {L : List Slot} {S : List Value} {H : Hp} {k : Nat} {n : Nat} {Q : MRes → Prop} {x : Int32} (h1 : k ≤ 24) (h2 : n ≤ 128) : Wp Pg 0 (276, L, (.int x) :: S, H, k, n) Q ↔ Q (some (.int (x &&& 1)), H) := gRet d0_276 rfl rfl rfl rfl h1 h2
theorem d0_277 : decode (Pg.mt 0).code 277 = .ok (.iconst 1, 1) := by decide +kernel
theorem w0_277 {L : List Slot} {S : List Value} {H : Hp} {k : Nat} {n : Nat} {Q : MRes → Prop} : Wp Pg 0 (277, L, S, H, k, n) Q ↔ Wp Pg 0 (278, L, (.int 1) :: S, H, k, n) Q := gP d0_277 rfl rfl
theorem d0_278 : decode (Pg.mt 0).code 278 = .ok (.ireturn, 1) := by decide +kernel
theorem w0_278 {L : List Slot} {S : List Value} {H : Hp} {k : Nat} {n : Nat} {Q : MRes → Prop} {x : Int32} (h1 : k ≤ 24) (h2 : n ≤ 128) : Wp Pg 0 (278, L, (.int x) :: S, H, k, n) Q ↔ Q (some (.int (x &&& 1)), H) := gRet d0_278 rfl rfl rfl rfl h1 h2
theorem d1_0 : decode (Pg.mt 1).code 0 = .ok (.aload_n 0, 1) := by decide +kernel
theorem w1_0 {L : List Slot} {S : List Value} {H : Hp} {k : Nat} {n : Nat} {Q : MRes → Prop}  {v : Value} (hv : isA v = true) : Wp Pg 1 (0, .val v :: L, S, H, k, n) Q ↔ Wp Pg 1 (1, .val v :: L, v :: S, H, k, n) Q := gP d1_0 rfl (by show (if isA v = true then _ else _) = _; rw [if_pos hv])
theorem d1_1 : decode (Pg.mt 1).code 1 = .ok (.invokespecial 1, 3) := by decide +kernel
theorem w1_1 {L : List Slot} {S : List Value} {H : Hp} {k : Nat} {n : Nat} {Q : MRes → Prop} {a : Nat} (h1 : L.length = 3) (h2 : wt S + 12 ≤ 79) : Wp Pg 1 (1, L, (.ref a) :: S, H, k, n) Q ↔ Wp Pg 1 (4, L, S, H, k, n) Q := gObj d1_1 rfl rfl rfl rfl (by decide) h1 h2
theorem d1_4 : decode (Pg.mt 1).code 4 = .ok (.aload_n 0, 1) := by decide +kernel
theorem w1_4 {L : List Slot} {S : List Value} {H : Hp} {k : Nat} {n : Nat} {Q : MRes → Prop}  {v : Value} (hv : isA v = true) : Wp Pg 1 (4, .val v :: L, S, H, k, n) Q ↔ Wp Pg 1 (5, .val v :: L, v :: S, H, k, n) Q := gP d1_4 rfl (by show (if isA v = true then _ else _) = _; rw [if_pos hv])
theorem d1_5 : decode (Pg.mt 1).code 5 = .ok (.aload_n 1, 1) := by decide +kernel
theorem w1_5 {L : List Slot} {S : List Value} {H : Hp} {k : Nat} {n : Nat} {Q : MRes → Prop} {l0 : Slot} {v : Value} (hv : isA v = true) : Wp Pg 1 (5, l0 :: .val v :: L, S, H, k, n) Q ↔ Wp Pg 1 (6, l0 :: .val v :: L, v :: S, H, k, n) Q := gP d1_5 rfl (by show (if isA v = true then _ else _) = _; rw [if_pos hv])
theorem d1_6 : decode (Pg.mt 1).code 6 = .ok (.invokevirtual 7, 3) := by decide +kernel
theorem w1_6 {L : List Slot} {S : List Value} {H : Hp} {k : Nat} {n : Nat} {Q : MRes → Prop} {a : Nat} {vs : List Value} (ho : H[a]? = some (.inl .int, vs)) (hI : vs.all isI = true) (h1 : L.length = 3) (h2 : wt S + 14 ≤ 79) (h3 : vs.length ≤ 3) (h4 : k + 1 ≤ 2) (h5 : n + 3 ≤ 6) : Wp Pg 1 (6, L, (.ref a) :: S, H, k, n) Q ↔ Wp Pg 1 (9, L, (.ref H.length) :: S, H ++ [(.inl .int, vs)], k + 1, n + 3) Q := gClone d1_6 rfl rfl rfl rfl rfl rfl rfl (by decide) ho (Nat.zero_le _) hI h1 h2 h3 h4 h5
theorem d1_9 : decode (Pg.mt 1).code 9 = .ok (.checkcast 8, 3) := by decide +kernel
theorem w1_9 {L : List Slot} {S : List Value} {H : Hp} {k : Nat} {n : Nat} {Q : MRes → Prop} {a : Nat} : Wp Pg 1 (9, L, (.ref a) :: S, H, k, n) Q ↔ castI Pg 1 8 H a = some true ∧ Wp Pg 1 (12, L, (.ref a) :: S, H, k, n) Q := gCast d1_9
theorem w1_9n {L : List Slot} {S : List Value} {H : Hp} {k : Nat} {n : Nat} {Q : MRes → Prop} : Wp Pg 1 (9, L, .null :: S, H, k, n) Q ↔ Wp Pg 1 (12, L, .null :: S, H, k, n) Q := gCast0 d1_9
theorem d1_12 : decode (Pg.mt 1).code 12 = .ok (.putfield 13, 3) := by decide +kernel
theorem w1_12 {L : List Slot} {S : List Value} {H : Hp} {k : Nat} {n : Nat} {Q : MRes → Prop} {a : Nat} {v : Value} : Wp Pg 1 (12, L, v :: (.ref a) :: S, H, k, n) Q ↔ ∃ H', wrF Pg 1 13 H a v = some H' ∧ Wp Pg 1 (15, L, S, H', k, n) Q := gPut d1_12
theorem d1_15 : decode (Pg.mt 1).code 15 = .ok (.aload_n 0, 1) := by decide +kernel
theorem w1_15 {L : List Slot} {S : List Value} {H : Hp} {k : Nat} {n : Nat} {Q : MRes → Prop}  {v : Value} (hv : isA v = true) : Wp Pg 1 (15, .val v :: L, S, H, k, n) Q ↔ Wp Pg 1 (16, .val v :: L, v :: S, H, k, n) Q := gP d1_15 rfl (by show (if isA v = true then _ else _) = _; rw [if_pos hv])
theorem d1_16 : decode (Pg.mt 1).code 16 = .ok (.aload_n 2, 1) := by decide +kernel
theorem w1_16 {L : List Slot} {S : List Value} {H : Hp} {k : Nat} {n : Nat} {Q : MRes → Prop} {l0 l1 : Slot} {v : Value} (hv : isA v = true) : Wp Pg 1 (16, l0 :: l1 :: .val v :: L, S, H, k, n) Q ↔ Wp Pg 1 (17, l0 :: l1 :: .val v :: L, v :: S, H, k, n) Q := gP d1_16 rfl (by show (if isA v = true then _ else _) = _; rw [if_pos hv])
theorem d1_17 : decode (Pg.mt 1).code 17 = .ok (.invokevirtual 7, 3) := by decide +kernel
theorem w1_17 {L : List Slot} {S : List Value} {H : Hp} {k : Nat} {n : Nat} {Q : MRes → Prop} {a : Nat} {vs : List Value} (ho : H[a]? = some (.inl .int, vs)) (hI : vs.all isI = true) (h1 : L.length = 3) (h2 : wt S + 14 ≤ 79) (h3 : vs.length ≤ 3) (h4 : k + 1 ≤ 2) (h5 : n + 3 ≤ 6) : Wp Pg 1 (17, L, (.ref a) :: S, H, k, n) Q ↔ Wp Pg 1 (20, L, (.ref H.length) :: S, H ++ [(.inl .int, vs)], k + 1, n + 3) Q := gClone d1_17 rfl rfl rfl rfl rfl rfl rfl (by decide) ho (Nat.zero_le _) hI h1 h2 h3 h4 h5
theorem d1_20 : decode (Pg.mt 1).code 20 = .ok (.checkcast 8, 3) := by decide +kernel
theorem w1_20 {L : List Slot} {S : List Value} {H : Hp} {k : Nat} {n : Nat} {Q : MRes → Prop} {a : Nat} : Wp Pg 1 (20, L, (.ref a) :: S, H, k, n) Q ↔ castI Pg 1 8 H a = some true ∧ Wp Pg 1 (23, L, (.ref a) :: S, H, k, n) Q := gCast d1_20
theorem w1_20n {L : List Slot} {S : List Value} {H : Hp} {k : Nat} {n : Nat} {Q : MRes → Prop} : Wp Pg 1 (20, L, .null :: S, H, k, n) Q ↔ Wp Pg 1 (23, L, .null :: S, H, k, n) Q := gCast0 d1_20
theorem d1_23 : decode (Pg.mt 1).code 23 = .ok (.putfield 18, 3) := by decide +kernel
theorem w1_23 {L : List Slot} {S : List Value} {H : Hp} {k : Nat} {n : Nat} {Q : MRes → Prop} {a : Nat} {v : Value} : Wp Pg 1 (23, L, v :: (.ref a) :: S, H, k, n) Q ↔ ∃ H', wrF Pg 1 18 H a v = some H' ∧ Wp Pg 1 (26, L, S, H', k, n) Q := gPut d1_23
theorem d1_26 : decode (Pg.mt 1).code 26 = .ok (.aload_n 0, 1) := by decide +kernel
theorem w1_26 {L : List Slot} {S : List Value} {H : Hp} {k : Nat} {n : Nat} {Q : MRes → Prop}  {v : Value} (hv : isA v = true) : Wp Pg 1 (26, .val v :: L, S, H, k, n) Q ↔ Wp Pg 1 (27, .val v :: L, v :: S, H, k, n) Q := gP d1_26 rfl (by show (if isA v = true then _ else _) = _; rw [if_pos hv])
theorem d1_27 : decode (Pg.mt 1).code 27 = .ok (.getfield 13, 3) := by decide +kernel
theorem w1_27 {L : List Slot} {S : List Value} {H : Hp} {k : Nat} {n : Nat} {Q : MRes → Prop} {a : Nat} : Wp Pg 1 (27, L, (.ref a) :: S, H, k, n) Q ↔ ∃ v, rdF Pg 1 13 H a = some v ∧ Wp Pg 1 (30, L, v :: S, H, k, n) Q := gGet d1_27
theorem d1_30 : decode (Pg.mt 1).code 30 = .ok (.invokestatic 21, 3) := by decide +kernel
theorem w1_30 {L : List Slot} {S : List Value} {H : Hp} {k : Nat} {n : Nat} {Q : MRes → Prop} {a0 : Value}  (h_a0 : cat a0 = 1) (h1 : L.length = 3) (h2 : wt S ≤ 0) (h3 : k + 0 ≤ 2) (h4 : n + 0 ≤ 6) : Wp Pg 1 (30, L, a0 :: S, H, k, n) Q ↔ Wp Pg 2 (0, [.val a0], [], H, 0, 0) fun r => Wp Pg 1 (33, L, r.1.toList ++ S, r.2, k + 0, n + 0) Q := gCall d1_30 rfl rfl (M := 3) (W := 0) (C := 2) (Sl := 6) (c := 0) (s := 0) ⟨rfl, by decide, by decide, rfl, rfl, rfl, rfl⟩ (by show entL [a0] 1 = _; rw [entL, laid_c1 h_a0, laid_nil]; rfl) h1 h2 h3 h4
theorem d1_33 : decode (Pg.mt 1).code 33 = .ok (.aload_n 0, 1) := by decide +kernel
theorem w1_33 {L : List Slot} {S : List Value} {H : Hp} {k : Nat} {n : Nat} {Q : MRes → Prop}  {v : Value} (hv : isA v = true) : Wp Pg 1 (33, .val v :: L, S, H, k, n) Q ↔ Wp Pg 1 (34, .val v :: L, v :: S, H, k, n) Q := gP d1_33 rfl (by show (if isA v = true then _ else _) = _; rw [if_pos hv])
theorem d1_34 : decode (Pg.mt 1).code 34 = .ok (.getfield 18, 3) := by decide +kernel
theorem w1_34 {L : List Slot} {S : List Value} {H : Hp} {k : Nat} {n : Nat} {Q : MRes → Prop} {a : Nat} : Wp Pg 1 (34, L, (.ref a) :: S, H, k, n) Q ↔ ∃ v, rdF Pg 1 18 H a = some v ∧ Wp Pg 1 (37, L, v :: S, H, k, n) Q := gGet d1_34
theorem d1_37 : decode (Pg.mt 1).code 37 = .ok (.invokestatic 21, 3) := by decide +kernel
theorem w1_37 {L : List Slot} {S : List Value} {H : Hp} {k : Nat} {n : Nat} {Q : MRes → Prop} {a0 : Value}  (h_a0 : cat a0 = 1) (h1 : L.length = 3) (h2 : wt S ≤ 0) (h3 : k + 0 ≤ 2) (h4 : n + 0 ≤ 6) : Wp Pg 1 (37, L, a0 :: S, H, k, n) Q ↔ Wp Pg 2 (0, [.val a0], [], H, 0, 0) fun r => Wp Pg 1 (40, L, r.1.toList ++ S, r.2, k + 0, n + 0) Q := gCall d1_37 rfl rfl (M := 3) (W := 0) (C := 2) (Sl := 6) (c := 0) (s := 0) ⟨rfl, by decide, by decide, rfl, rfl, rfl, rfl⟩ (by show entL [a0] 1 = _; rw [entL, laid_c1 h_a0, laid_nil]; rfl) h1 h2 h3 h4
theorem d1_40 : decode (Pg.mt 1).code 40 = .ok (.return_, 1) := by decide +kernel
theorem w1_40 {L : List Slot} {H : Hp} {k : Nat} {n : Nat} {Q : MRes → Prop} (h1 : k ≤ 2) (h2 : n ≤ 6) : Wp Pg 1 (40, L, [], H, k, n) Q ↔ Q (none, H) := gRet d1_40 rfl rfl rfl rfl h1 h2
theorem d2_0 : decode (Pg.mt 2).code 0 = .ok (.aload_n 0, 1) := by decide +kernel
theorem w2_0 {L : List Slot} {S : List Value} {H : Hp} {k : Nat} {n : Nat} {Q : MRes → Prop}  {v : Value} (hv : isA v = true) : Wp Pg 2 (0, .val v :: L, S, H, k, n) Q ↔ Wp Pg 2 (1, .val v :: L, v :: S, H, k, n) Q := gP d2_0 rfl (by show (if isA v = true then _ else _) = _; rw [if_pos hv])
theorem d2_1 : decode (Pg.mt 2).code 1 = .ok (.iconst 0, 1) := by decide +kernel
theorem w2_1 {L : List Slot} {S : List Value} {H : Hp} {k : Nat} {n : Nat} {Q : MRes → Prop} : Wp Pg 2 (1, L, S, H, k, n) Q ↔ Wp Pg 2 (2, L, (.int 0) :: S, H, k, n) Q := gP d2_1 rfl rfl
theorem d2_2 : decode (Pg.mt 2).code 2 = .ok (.iconst 0, 1) := by decide +kernel
theorem w2_2 {L : List Slot} {S : List Value} {H : Hp} {k : Nat} {n : Nat} {Q : MRes → Prop} : Wp Pg 2 (2, L, S, H, k, n) Q ↔ Wp Pg 2 (3, L, (.int 0) :: S, H, k, n) Q := gP d2_2 rfl rfl
theorem d2_3 : decode (Pg.mt 2).code 3 = .ok (.aload_n 0, 1) := by decide +kernel
theorem w2_3 {L : List Slot} {S : List Value} {H : Hp} {k : Nat} {n : Nat} {Q : MRes → Prop}  {v : Value} (hv : isA v = true) : Wp Pg 2 (3, .val v :: L, S, H, k, n) Q ↔ Wp Pg 2 (4, .val v :: L, v :: S, H, k, n) Q := gP d2_3 rfl (by show (if isA v = true then _ else _) = _; rw [if_pos hv])
theorem d2_4 : decode (Pg.mt 2).code 4 = .ok (.arraylength, 1) := by decide +kernel
theorem w2_4 {L : List Slot} {S : List Value} {H : Hp} {k : Nat} {n : Nat} {Q : MRes → Prop} {a : Nat} : Wp Pg 2 (4, L, (.ref a) :: S, H, k, n) Q ↔ ∃ v, alen H a = some v ∧ Wp Pg 2 (5, L, (.int v) :: S, H, k, n) Q := gLen d2_4
theorem d2_5 : decode (Pg.mt 2).code 5 = .ok (.invokestatic 7, 3) := by decide +kernel
theorem w2_5 {L : List Slot} {S : List Value} {H : Hp} {k : Nat} {n : Nat} {Q : MRes → Prop} {a0 : Value} {a1 : Int32} {a2 : Int32} {a3 : Int32}  (h_a0 : cat a0 = 1) (h1 : L.length = 1) (h2 : wt S ≤ 0) (h3 : k + 0 ≤ 0) (h4 : n + 0 ≤ 0) : Wp Pg 2 (5, L, (.int a3) :: (.int a2) :: (.int a1) :: a0 :: S, H, k, n) Q ↔ Wp Pg 3 (0, [.val a0, .val (.int a1), .val (.int a2), .val (.int a3), .unset, .unset, .unset], [], H, 0, 0) fun r => Wp Pg 2 (8, L, r.1.toList ++ S, r.2, k + 0, n + 0) Q := gCall d2_5 rfl rfl (M := 1) (W := 0) (C := 0) (Sl := 0) (c := 0) (s := 0) ⟨rfl, by decide, by decide, rfl, rfl, rfl, rfl⟩ (by show entL [a0, (.int a1), (.int a2), (.int a3)] 7 = _; rw [entL, laid_c1 h_a0, laid_c1 rfl, laid_c1 rfl, laid_c1 rfl, laid_nil]; rfl) h1 h2 h3 h4
theorem d2_8 : decode (Pg.mt 2).code 8 = .ok (.return_, 1) := by decide +kernel
theorem w2_8 {L : List Slot} {H : Hp} {k : Nat} {n : Nat} {Q : MRes → Prop} (h1 : k ≤ 0) (h2 : n ≤ 0) : Wp Pg 2 (8, L, [], H, k, n) Q ↔ Q (none, H) := gRet d2_8 rfl rfl rfl rfl h1 h2
theorem d3_0 : decode (Pg.mt 3).code 0 = .ok (.iload_n 3, 1) := by decide +kernel
theorem w3_0 {L : List Slot} {S : List Value} {H : Hp} {k : Nat} {n : Nat} {Q : MRes → Prop} {l0 l1 l2 : Slot} {x : Int32} : Wp Pg 3 (0, l0 :: l1 :: l2 :: .val (.int x) :: L, S, H, k, n) Q ↔ Wp Pg 3 (1, l0 :: l1 :: l2 :: .val (.int x) :: L, (.int x) :: S, H, k, n) Q := gP d3_0 rfl rfl
theorem d3_1 : decode (Pg.mt 3).code 1 = .ok (.iload_n 2, 1) := by decide +kernel
theorem w3_1 {L : List Slot} {S : List Value} {H : Hp} {k : Nat} {n : Nat} {Q : MRes → Prop} {l0 l1 : Slot} {x : Int32} : Wp Pg 3 (1, l0 :: l1 :: .val (.int x) :: L, S, H, k, n) Q ↔ Wp Pg 3 (2, l0 :: l1 :: .val (.int x) :: L, (.int x) :: S, H, k, n) Q := gP d3_1 rfl rfl
theorem d3_2 : decode (Pg.mt 3).code 2 = .ok (.isub, 1) := by decide +kernel
theorem w3_2 {L : List Slot} {S : List Value} {H : Hp} {k : Nat} {n : Nat} {Q : MRes → Prop} {x y : Int32} : Wp Pg 3 (2, L, (.int y) :: (.int x) :: S, H, k, n) Q ↔ Wp Pg 3 (3, L, (.int (x - y)) :: S, H, k, n) Q := gP d3_2 rfl rfl
theorem d3_3 : decode (Pg.mt 3).code 3 = .ok (.istore 4, 2) := by decide +kernel
theorem w3_3 {L : List Slot} {S : List Value} {H : Hp} {k : Nat} {n : Nat} {Q : MRes → Prop} {l0 l1 l2 l3 : Slot} {o : Slot} {x : Int32} (ho : s1 o = true) : Wp Pg 3 (3, l0 :: l1 :: l2 :: l3 :: o :: L, (.int x) :: S, H, k, n) Q ↔ Wp Pg 3 (5, l0 :: l1 :: l2 :: l3 :: .val (.int x) :: L, S, H, k, n) Q := gP d3_3 rfl (st1_eq (o := o) rfl ho rfl)
theorem d3_5 : decode (Pg.mt 3).code 5 = .ok (.iload_n 1, 1) := by decide +kernel
theorem w3_5 {L : List Slot} {S : List Value} {H : Hp} {k : Nat} {n : Nat} {Q : MRes → Prop} {l0 : Slot} {x : Int32} : Wp Pg 3 (5, l0 :: .val (.int x) :: L, S, H, k, n) Q ↔ Wp Pg 3 (6, l0 :: .val (.int x) :: L, (.int x) :: S, H, k, n) Q := gP d3_5 rfl rfl
theorem d3_6 : decode (Pg.mt 3).code 6 = .ok (.iconst 1, 1) := by decide +kernel
theorem w3_6 {L : List Slot} {S : List Value} {H : Hp} {k : Nat} {n : Nat} {Q : MRes → Prop} : Wp Pg 3 (6, L, S, H, k, n) Q ↔ Wp Pg 3 (7, L, (.int 1) :: S, H, k, n) Q := gP d3_6 rfl rfl
theorem d3_7 : decode (Pg.mt 3).code 7 = .ok (.if_icmp .le 61, 3) := by decide +kernel
theorem w3_7 {L : List Slot} {S : List Value} {H : Hp} {k : Nat} {n : Nat} {Q : MRes → Prop} {x y : Int32} : Wp Pg 3 (7, L, (.int y) :: (.int x) :: S, H, k, n) Q ↔ if x ≤ y then Wp Pg 3 (68, L, S, H, k, n) Q else Wp Pg 3 (10, L, S, H, k, n) Q := gIcmp d3_7 (by decide) (by decide) (i_le x y)
theorem d3_10 : decode (Pg.mt 3).code 10 = .ok (.iload 4, 2) := by decide +kernel
theorem w3_10 {L : List Slot} {S : List Value} {H : Hp} {k : Nat} {n : Nat} {Q : MRes → Prop} {l0 l1 l2 l3 : Slot} {x : Int32} : Wp Pg 3 (10, l0 :: l1 :: l2 :: l3 :: .val (.int x) :: L, S, H, k, n) Q ↔ Wp Pg 3 (12, l0 :: l1 :: l2 :: l3 :: .val (.int x) :: L, (.int x) :: S, H, k, n) Q := gP d3_10 rfl rfl
theorem d3_12 : decode (Pg.mt 3).code 12 = .ok (.sipush 4096, 3) := by decide +kernel
theorem w3_12 {L : List Slot} {S : List Value} {H : Hp} {k : Nat} {n : Nat} {Q : MRes → Prop} : Wp Pg 3 (12, L, S, H, k, n) Q ↔ Wp Pg 3 (15, L, (.int 4096) :: S, H, k, n) Q := gP d3_12 rfl rfl
theorem d3_15 : decode (Pg.mt 3).code 15 = .ok (.if_icmp .le 53, 3) := by decide +kernel
theorem w3_15 {L : List Slot} {S : List Value} {H : Hp} {k : Nat} {n : Nat} {Q : MRes → Prop} {x y : Int32} : Wp Pg 3 (15, L, (.int y) :: (.int x) :: S, H, k, n) Q ↔ if x ≤ y then Wp Pg 3 (68, L, S, H, k, n) Q else Wp Pg 3 (18, L, S, H, k, n) Q := gIcmp d3_15 (by decide) (by decide) (i_le x y)
theorem d3_18 : decode (Pg.mt 3).code 18 = .ok (.iload_n 1, 1) := by decide +kernel
theorem w3_18 {L : List Slot} {S : List Value} {H : Hp} {k : Nat} {n : Nat} {Q : MRes → Prop} {l0 : Slot} {x : Int32} : Wp Pg 3 (18, l0 :: .val (.int x) :: L, S, H, k, n) Q ↔ Wp Pg 3 (19, l0 :: .val (.int x) :: L, (.int x) :: S, H, k, n) Q := gP d3_18 rfl rfl
theorem d3_19 : decode (Pg.mt 3).code 19 = .ok (.iload 4, 2) := by decide +kernel
theorem w3_19 {L : List Slot} {S : List Value} {H : Hp} {k : Nat} {n : Nat} {Q : MRes → Prop} {l0 l1 l2 l3 : Slot} {x : Int32} : Wp Pg 3 (19, l0 :: l1 :: l2 :: l3 :: .val (.int x) :: L, S, H, k, n) Q ↔ Wp Pg 3 (21, l0 :: l1 :: l2 :: l3 :: .val (.int x) :: L, (.int x) :: S, H, k, n) Q := gP d3_19 rfl rfl
theorem d3_21 : decode (Pg.mt 3).code 21 = .ok (.bipush 12, 2) := by decide +kernel
theorem w3_21 {L : List Slot} {S : List Value} {H : Hp} {k : Nat} {n : Nat} {Q : MRes → Prop} : Wp Pg 3 (21, L, S, H, k, n) Q ↔ Wp Pg 3 (23, L, (.int 12) :: S, H, k, n) Q := gP d3_21 rfl rfl
theorem d3_23 : decode (Pg.mt 3).code 23 = .ok (.ishr, 1) := by decide +kernel
theorem w3_23 {L : List Slot} {S : List Value} {H : Hp} {k : Nat} {n : Nat} {Q : MRes → Prop} {x y : Int32} : Wp Pg 3 (23, L, (.int y) :: (.int x) :: S, H, k, n) Q ↔ Wp Pg 3 (24, L, (.int (x >>> (y &&& 31))) :: S, H, k, n) Q := gP d3_23 rfl rfl
theorem d3_68 : decode (Pg.mt 3).code 68 = .ok (.aconst_null, 1) := by decide +kernel
theorem w3_68 {L : List Slot} {S : List Value} {H : Hp} {k : Nat} {n : Nat} {Q : MRes → Prop} : Wp Pg 3 (68, L, S, H, k, n) Q ↔ Wp Pg 3 (69, L, .null :: S, H, k, n) Q := gP d3_68 rfl rfl
theorem d3_69 : decode (Pg.mt 3).code 69 = .ok (.aload_n 0, 1) := by decide +kernel
theorem w3_69 {L : List Slot} {S : List Value} {H : Hp} {k : Nat} {n : Nat} {Q : MRes → Prop}  {v : Value} (hv : isA v = true) : Wp Pg 3 (69, .val v :: L, S, H, k, n) Q ↔ Wp Pg 3 (70, .val v :: L, v :: S, H, k, n) Q := gP d3_69 rfl (by show (if isA v = true then _ else _) = _; rw [if_pos hv])
theorem d3_70 : decode (Pg.mt 3).code 70 = .ok (.iconst 0, 1) := by decide +kernel
theorem w3_70 {L : List Slot} {S : List Value} {H : Hp} {k : Nat} {n : Nat} {Q : MRes → Prop} : Wp Pg 3 (70, L, S, H, k, n) Q ↔ Wp Pg 3 (71, L, (.int 0) :: S, H, k, n) Q := gP d3_70 rfl rfl
theorem d3_71 : decode (Pg.mt 3).code 71 = .ok (.iload_n 2, 1) := by decide +kernel
theorem w3_71 {L : List Slot} {S : List Value} {H : Hp} {k : Nat} {n : Nat} {Q : MRes → Prop} {l0 l1 : Slot} {x : Int32} : Wp Pg 3 (71, l0 :: l1 :: .val (.int x) :: L, S, H, k, n) Q ↔ Wp Pg 3 (72, l0 :: l1 :: .val (.int x) :: L, (.int x) :: S, H, k, n) Q := gP d3_71 rfl rfl
theorem d3_72 : decode (Pg.mt 3).code 72 = .ok (.iload_n 3, 1) := by decide +kernel
theorem w3_72 {L : List Slot} {S : List Value} {H : Hp} {k : Nat} {n : Nat} {Q : MRes → Prop} {l0 l1 l2 : Slot} {x : Int32} : Wp Pg 3 (72, l0 :: l1 :: l2 :: .val (.int x) :: L, S, H, k, n) Q ↔ Wp Pg 3 (73, l0 :: l1 :: l2 :: .val (.int x) :: L, (.int x) :: S, H, k, n) Q := gP d3_72 rfl rfl
theorem d3_73 : decode (Pg.mt 3).code 73 = .ok (.invokestatic 26, 3) := by decide +kernel
theorem w3_73 {L : List Slot} {S : List Value} {H : Hp} {k : Nat} {n : Nat} {Q : MRes → Prop} {a0 : Value} {a1 : Value} {a2 : Int32} {a3 : Int32} {a4 : Int32}  (h_a0 : cat a0 = 1) (h_a1 : cat a1 = 1) (h1 : L.length = 7) (h2 : wt S ≤ 0) (h3 : k + 0 ≤ 0) (h4 : n + 0 ≤ 0) : Wp Pg 3 (73, L, (.int a4) :: (.int a3) :: (.int a2) :: a1 :: a0 :: S, H, k, n) Q ↔ Wp Pg 4 (0, [.val a0, .val a1, .val (.int a2), .val (.int a3), .val (.int a4), .unset, .unset, .unset, .unset, .unset, .unset, .unset, .unset, .unset, .unset, .unset, .unset, .unset, .unset, .unset, .unset], [], H, 0, 0) fun r => Wp Pg 3 (76, L, r.1.toList ++ S, r.2, k + 0, n + 0) Q := gCall d3_73 rfl rfl (M := 7) (W := 0) (C := 0) (Sl := 0) (c := 0) (s := 0) ⟨rfl, by decide, by decide, rfl, rfl, rfl, rfl⟩ (by show entL [a0, a1, (.int a2), (.int a3), (.int a4)] 21 = _; rw [entL, laid_c1 h_a0, laid_c1 h_a1, laid_c1 rfl, laid_c1 rfl, laid_c1 rfl, laid_nil]; rfl) h1 h2 h3 h4
theorem d3_76 : decode (Pg.mt 3).code 76 = .ok (.return_, 1) := by decide +kernel
theorem w3_76 {L : List Slot} {H : Hp} {k : Nat} {n : Nat} {Q : MRes → Prop} (h1 : k ≤ 0) (h2 : n ≤ 0) : Wp Pg 3 (76, L, [], H, k, n) Q ↔ Q (none, H) := gRet d3_76 rfl rfl rfl rfl h1 h2
theorem d4_0 : decode (Pg.mt 4).code 0 = .ok (.iload 4, 2) := by decide +kernel
theorem w4_0 {L : List Slot} {S : List Value} {H : Hp} {k : Nat} {n : Nat} {Q : MRes → Prop} {l0 l1 l2 l3 : Slot} {x : Int32} : Wp Pg 4 (0, l0 :: l1 :: l2 :: l3 :: .val (.int x) :: L, S, H, k, n) Q ↔ Wp Pg 4 (2, l0 :: l1 :: l2 :: l3 :: .val (.int x) :: L, (.int x) :: S, H, k, n) Q := gP d4_0 rfl rfl
theorem d4_2 : decode (Pg.mt 4).code 2 = .ok (.iconst 1, 1) := by decide +kernel
theorem w4_2 {L : List Slot} {S : List Value} {H : Hp} {k : Nat} {n : Nat} {Q : MRes → Prop} : Wp Pg 4 (2, L, S, H, k, n) Q ↔ Wp Pg 4 (3, L, (.int 1) :: S, H, k, n) Q := gP d4_2 rfl rfl
theorem d4_3 : decode (Pg.mt 4).code 3 = .ok (.isub, 1) := by decide +kernel
theorem w4_3 {L : List Slot} {S : List Value} {H : Hp} {k : Nat} {n : Nat} {Q : MRes → Prop} {x y : Int32} : Wp Pg 4 (3, L, (.int y) :: (.int x) :: S, H, k, n) Q ↔ Wp Pg 4 (4, L, (.int (x - y)) :: S, H, k, n) Q := gP d4_3 rfl rfl
theorem d4_4 : decode (Pg.mt 4).code 4 = .ok (.istore 5, 2) := by decide +kernel
theorem w4_4 {L : List Slot} {S : List Value} {H : Hp} {k : Nat} {n : Nat} {Q : MRes → Prop} {l0 l1 l2 l3 l4 : Slot} {o : Slot} {x : Int32} (ho : s1 o = true) : Wp Pg 4 (4, l0 :: l1 :: l2 :: l3 :: l4 :: o :: L, (.int x) :: S, H, k, n) Q ↔ Wp Pg 4 (6, l0 :: l1 :: l2 :: l3 :: l4 :: .val (.int x) :: L, S, H, k, n) Q := gP d4_4 rfl (st1_eq (o := o) rfl ho rfl)
theorem d4_6 : decode (Pg.mt 4).code 6 = .ok (.iload 4, 2) := by decide +kernel
theorem w4_6 {L : List Slot} {S : List Value} {H : Hp} {k : Nat} {n : Nat} {Q : MRes → Prop} {l0 l1 l2 l3 : Slot} {x : Int32} : Wp Pg 4 (6, l0 :: l1 :: l2 :: l3 :: .val (.int x) :: L, S, H, k, n) Q ↔ Wp Pg 4 (8, l0 :: l1 :: l2 :: l3 :: .val (.int x) :: L, (.int x) :: S, H, k, n) Q := gP d4_6 rfl rfl
theorem d4_8 : decode (Pg.mt 4).code 8 = .ok (.iload_n 3, 1) := by decide +kernel
theorem w4_8 {L : List Slot} {S : List Value} {H : Hp} {k : Nat} {n : Nat} {Q : MRes → Prop} {l0 l1 l2 : Slot} {x : Int32} : Wp Pg 4 (8, l0 :: l1 :: l2 :: .val (.int x) :: L, S, H, k, n) Q ↔ Wp Pg 4 (9, l0 :: l1 :: l2 :: .val (.int x) :: L, (.int x) :: S, H, k, n) Q := gP d4_8 rfl rfl
theorem d4_9 : decode (Pg.mt 4).code 9 = .ok (.isub, 1) := by decide +kernel
theorem w4_9 {L : List Slot} {S : List Value} {H : Hp} {k : Nat} {n : Nat} {Q : MRes → Prop} {x y : Int32} : Wp Pg 4 (9, L, (.int y) :: (.int x) :: S, H, k, n) Q ↔ Wp Pg 4 (10, L, (.int (x - y)) :: S, H, k, n) Q := gP d4_9 rfl rfl
theorem d4_10 : decode (Pg.mt 4).code 10 = .ok (.istore 6, 2) := by decide +kernel
theorem w4_10 {L : List Slot} {S : List Value} {H : Hp} {k : Nat} {n : Nat} {Q : MRes → Prop} {l0 l1 l2 l3 l4 l5 : Slot} {o : Slot} {x : Int32} (ho : s1 o = true) : Wp Pg 4 (10, l0 :: l1 :: l2 :: l3 :: l4 :: l5 :: o :: L, (.int x) :: S, H, k, n) Q ↔ Wp Pg 4 (12, l0 :: l1 :: l2 :: l3 :: l4 :: l5 :: .val (.int x) :: L, S, H, k, n) Q := gP d4_10 rfl (st1_eq (o := o) rfl ho rfl)
theorem d4_12 : decode (Pg.mt 4).code 12 = .ok (.iload 6, 2) := by decide +kernel
theorem w4_12 {L : List Slot} {S : List Value} {H : Hp} {k : Nat} {n : Nat} {Q : MRes → Prop} {l0 l1 l2 l3 l4 l5 : Slot} {x : Int32} : Wp Pg 4 (12, l0 :: l1 :: l2 :: l3 :: l4 :: l5 :: .val (.int x) :: L, S, H, k, n) Q ↔ Wp Pg 4 (14, l0 :: l1 :: l2 :: l3 :: l4 :: l5 :: .val (.int x) :: L, (.int x) :: S, H, k, n) Q := gP d4_12 rfl rfl
theorem d4_14 : decode (Pg.mt 4).code 14 = .ok (.bipush 65, 2) := by decide +kernel
theorem w4_14 {L : List Slot} {S : List Value} {H : Hp} {k : Nat} {n : Nat} {Q : MRes → Prop} : Wp Pg 4 (14, L, S, H, k, n) Q ↔ Wp Pg 4 (16, L, (.int 65) :: S, H, k, n) Q := gP d4_14 rfl rfl
theorem d4_16 : decode (Pg.mt 4).code 16 = .ok (.iload_n 2, 1) := by decide +kernel
theorem w4_16 {L : List Slot} {S : List Value} {H : Hp} {k : Nat} {n : Nat} {Q : MRes → Prop} {l0 l1 : Slot} {x : Int32} : Wp Pg 4 (16, l0 :: l1 :: .val (.int x) :: L, S, H, k, n) Q ↔ Wp Pg 4 (17, l0 :: l1 :: .val (.int x) :: L, (.int x) :: S, H, k, n) Q := gP d4_16 rfl rfl
theorem d4_17 : decode (Pg.mt 4).code 17 = .ok (.iadd, 1) := by decide +kernel
theorem w4_17 {L : List Slot} {S : List Value} {H : Hp} {k : Nat} {n : Nat} {Q : MRes → Prop} {x y : Int32} : Wp Pg 4 (17, L, (.int y) :: (.int x) :: S, H, k, n) Q ↔ Wp Pg 4 (18, L, (.int (x + y)) :: S, H, k, n) Q := gP d4_17 rfl rfl
theorem d4_18 : decode (Pg.mt 4).code 18 = .ok (.if_icmp .ge 28, 3) := by decide +kernel
theorem w4_18 {L : List Slot} {S : List Value} {H : Hp} {k : Nat} {n : Nat} {Q : MRes → Prop} {x y : Int32} : Wp Pg 4 (18, L, (.int y) :: (.int x) :: S, H, k, n) Q ↔ if y ≤ x then Wp Pg 4 (46, L, S, H, k, n) Q else Wp Pg 4 (21, L, S, H, k, n) Q := gIcmp d4_18 (by decide) (by decide) (i_ge x y)
theorem d4_21 : decode (Pg.mt 4).code 21 = .ok (.iload_n 2, 1) := by decide +kernel
theorem w4_21 {L : List Slot} {S : List Value} {H : Hp} {k : Nat} {n : Nat} {Q : MRes → Prop} {l0 l1 : Slot} {x : Int32} : Wp Pg 4 (21, l0 :: l1 :: .val (.int x) :: L, S, H, k, n) Q ↔ Wp Pg 4 (22, l0 :: l1 :: .val (.int x) :: L, (.int x) :: S, H, k, n) Q := gP d4_21 rfl rfl
theorem d4_22 : decode (Pg.mt 4).code 22 = .ok (.iconst 1, 1) := by decide +kernel
theorem w4_22 {L : List Slot} {S : List Value} {H : Hp} {k : Nat} {n : Nat} {Q : MRes → Prop} : Wp Pg 4 (22, L, S, H, k, n) Q ↔ Wp Pg 4 (23, L, (.int 1) :: S, H, k, n) Q := gP d4_22 rfl rfl
theorem d4_23 : decode (Pg.mt 4).code 23 = .ok (.iand, 1) := by decide +kernel
theorem w4_23 {L : List Slot} {S : List Value} {H : Hp} {k : Nat} {n : Nat} {Q : MRes → Prop} {x y : Int32} : Wp Pg 4 (23, L, (.int y) :: (.int x) :: S, H, k, n) Q ↔ Wp Pg 4 (24, L, (.int (x &&& y)) :: S, H, k, n) Q := gP d4_23 rfl rfl
theorem d4_24 : decode (Pg.mt 4).code 24 = .ok (.ifCond .le 22, 3) := by decide +kernel
theorem w4_24 {L : List Slot} {S : List Value} {H : Hp} {k : Nat} {n : Nat} {Q : MRes → Prop} {x : Int32} : Wp Pg 4 (24, L, (.int x) :: S, H, k, n) Q ↔ if x ≤ 0 then Wp Pg 4 (46, L, S, H, k, n) Q else Wp Pg 4 (27, L, S, H, k, n) Q := gIf d4_24 (by decide) (by decide) (c_le x)
theorem d4_27 : decode (Pg.mt 4).code 27 = .ok (.aload_n 1, 1) := by decide +kernel
theorem w4_27 {L : List Slot} {S : List Value} {H : Hp} {k : Nat} {n : Nat} {Q : MRes → Prop} {l0 : Slot} {v : Value} (hv : isA v = true) : Wp Pg 4 (27, l0 :: .val v :: L, S, H, k, n) Q ↔ Wp Pg 4 (28, l0 :: .val v :: L, v :: S, H, k, n) Q := gP d4_27 rfl (by show (if isA v = true then _ else _) = _; rw [if_pos hv])
theorem d4_28 : decode (Pg.mt 4).code 28 = .ok (.iload_n 3, 1) := by decide +kernel
theorem w4_28 {L : List Slot} {S : List Value} {H : Hp} {k : Nat} {n : Nat} {Q : MRes → Prop} {l0 l1 l2 : Slot} {x : Int32} : Wp Pg 4 (28, l0 :: l1 :: l2 :: .val (.int x) :: L, S, H, k, n) Q ↔ Wp Pg 4 (29, l0 :: l1 :: l2 :: .val (.int x) :: L, (.int x) :: S, H, k, n) Q := gP d4_28 rfl rfl
theorem d4_29 : decode (Pg.mt 4).code 29 = .ok (.iload 4, 2) := by decide +kernel
theorem w4_29 {L : List Slot} {S : List Value} {H : Hp} {k : Nat} {n : Nat} {Q : MRes → Prop} {l0 l1 l2 l3 : Slot} {x : Int32} : Wp Pg 4 (29, l0 :: l1 :: l2 :: l3 :: .val (.int x) :: L, S, H, k, n) Q ↔ Wp Pg 4 (31, l0 :: l1 :: l2 :: l3 :: .val (.int x) :: L, (.int x) :: S, H, k, n) Q := gP d4_29 rfl rfl
theorem d4_31 : decode (Pg.mt 4).code 31 = .ok (.iconst 3, 1) := by decide +kernel
theorem w4_31 {L : List Slot} {S : List Value} {H : Hp} {k : Nat} {n : Nat} {Q : MRes → Prop} : Wp Pg 4 (31, L, S, H, k, n) Q ↔ Wp Pg 4 (32, L, (.int 3) :: S, H, k, n) Q := gP d4_31 rfl rfl
theorem d4_32 : decode (Pg.mt 4).code 32 = .ok (.iload 6, 2) := by decide +kernel
theorem w4_32 {L : List Slot} {S : List Value} {H : Hp} {k : Nat} {n : Nat} {Q : MRes → Prop} {l0 l1 l2 l3 l4 l5 : Slot} {x : Int32} : Wp Pg 4 (32, l0 :: l1 :: l2 :: l3 :: l4 :: l5 :: .val (.int x) :: L, S, H, k, n) Q ↔ Wp Pg 4 (34, l0 :: l1 :: l2 :: l3 :: l4 :: l5 :: .val (.int x) :: L, (.int x) :: S, H, k, n) Q := gP d4_32 rfl rfl
theorem d4_34 : decode (Pg.mt 4).code 34 = .ok (.iconst 5, 1) := by decide +kernel
theorem w4_34 {L : List Slot} {S : List Value} {H : Hp} {k : Nat} {n : Nat} {Q : MRes → Prop} : Wp Pg 4 (34, L, S, H, k, n) Q ↔ Wp Pg 4 (35, L, (.int 5) :: S, H, k, n) Q := gP d4_34 rfl rfl
theorem d4_35 : decode (Pg.mt 4).code 35 = .ok (.ishr, 1) := by decide +kernel
theorem w4_35 {L : List Slot} {S : List Value} {H : Hp} {k : Nat} {n : Nat} {Q : MRes → Prop} {x y : Int32} : Wp Pg 4 (35, L, (.int y) :: (.int x) :: S, H, k, n) Q ↔ Wp Pg 4 (36, L, (.int (x >>> (y &&& 31))) :: S, H, k, n) Q := gP d4_35 rfl rfl
theorem d4_36 : decode (Pg.mt 4).code 36 = .ok (.iconst 3, 1) := by decide +kernel
theorem w4_36 {L : List Slot} {S : List Value} {H : Hp} {k : Nat} {n : Nat} {Q : MRes → Prop} : Wp Pg 4 (36, L, S, H, k, n) Q ↔ Wp Pg 4 (37, L, (.int 3) :: S, H, k, n) Q := gP d4_36 rfl rfl
theorem d4_37 : decode (Pg.mt 4).code 37 = .ok (.ishl, 1) := by decide +kernel
theorem w4_37 {L : List Slot} {S : List Value} {H : Hp} {k : Nat} {n : Nat} {Q : MRes → Prop} {x y : Int32} : Wp Pg 4 (37, L, (.int y) :: (.int x) :: S, H, k, n) Q ↔ Wp Pg 4 (38, L, (.int (x <<< (y &&& 31))) :: S, H, k, n) Q := gP d4_37 rfl rfl
theorem d4_38 : decode (Pg.mt 4).code 38 = .ok (.imul, 1) := by decide +kernel
theorem w4_38 {L : List Slot} {S : List Value} {H : Hp} {k : Nat} {n : Nat} {Q : MRes → Prop} {x y : Int32} : Wp Pg 4 (38, L, (.int y) :: (.int x) :: S, H, k, n) Q ↔ Wp Pg 4 (39, L, (.int (x * y)) :: S, H, k, n) Q := gP d4_38 rfl rfl
theorem d4_39 : decode (Pg.mt 4).code 39 = .ok (.isub, 1) := by decide +kernel
theorem w4_39 {L : List Slot} {S : List Value} {H : Hp} {k : Nat} {n : Nat} {Q : MRes → Prop} {x y : Int32} : Wp Pg 4 (39, L, (.int y) :: (.int x) :: S, H, k, n) Q ↔ Wp Pg 4 (40, L, (.int (x - y)) :: S, H, k, n) Q := gP d4_39 rfl rfl
theorem d4_40 : decode (Pg.mt 4).code 40 = .ok (.iload 4, 2) := by decide +kernel
theorem w4_40 {L : List Slot} {S : List Value} {H : Hp} {k : Nat} {n : Nat} {Q : MRes → Prop} {l0 l1 l2 l3 : Slot} {x : Int32} : Wp Pg 4 (40, l0 :: l1 :: l2 :: l3 :: .val (.int x) :: L, S, H, k, n) Q ↔ Wp Pg 4 (42, l0 :: l1 :: l2 :: l3 :: .val (.int x) :: L, (.int x) :: S, H, k, n) Q := gP d4_40 rfl rfl
theorem d4_46 : decode (Pg.mt 4).code 46 = .ok (.iload 6, 2) := by decide +kernel
theorem w4_46 {L : List Slot} {S : List Value} {H : Hp} {k : Nat} {n : Nat} {Q : MRes → Prop} {l0 l1 l2 l3 l4 l5 : Slot} {x : Int32} : Wp Pg 4 (46, l0 :: l1 :: l2 :: l3 :: l4 :: l5 :: .val (.int x) :: L, S, H, k, n) Q ↔ Wp Pg 4 (48, l0 :: l1 :: l2 :: l3 :: l4 :: l5 :: .val (.int x) :: L, (.int x) :: S, H, k, n) Q := gP d4_46 rfl rfl
theorem d4_48 : decode (Pg.mt 4).code 48 = .ok (.bipush 44, 2) := by decide +kernel
theorem w4_48 {L : List Slot} {S : List Value} {H : Hp} {k : Nat} {n : Nat} {Q : MRes → Prop} : Wp Pg 4 (48, L, S, H, k, n) Q ↔ Wp Pg 4 (50, L, (.int 44) :: S, H, k, n) Q := gP d4_48 rfl rfl
theorem d4_50 : decode (Pg.mt 4).code 50 = .ok (.if_icmp .ge 11, 3) := by decide +kernel
theorem w4_50 {L : List Slot} {S : List Value} {H : Hp} {k : Nat} {n : Nat} {Q : MRes → Prop} {x y : Int32} : Wp Pg 4 (50, L, (.int y) :: (.int x) :: S, H, k, n) Q ↔ if y ≤ x then Wp Pg 4 (61, L, S, H, k, n) Q else Wp Pg 4 (53, L, S, H, k, n) Q := gIcmp d4_50 (by decide) (by decide) (i_ge x y)
theorem d4_53 : decode (Pg.mt 4).code 53 = .ok (.aload_n 1, 1) := by decide +kernel
theorem w4_53 {L : List Slot} {S : List Value} {H : Hp} {k : Nat} {n : Nat} {Q : MRes → Prop} {l0 : Slot} {v : Value} (hv : isA v = true) : Wp Pg 4 (53, l0 :: .val v :: L, S, H, k, n) Q ↔ Wp Pg 4 (54, l0 :: .val v :: L, v :: S, H, k, n) Q := gP d4_53 rfl (by show (if isA v = true then _ else _) = _; rw [if_pos hv])
theorem d4_54 : decode (Pg.mt 4).code 54 = .ok (.iload_n 3, 1) := by decide +kernel
theorem w4_54 {L : List Slot} {S : List Value} {H : Hp} {k : Nat} {n : Nat} {Q : MRes → Prop} {l0 l1 l2 : Slot} {x : Int32} : Wp Pg 4 (54, l0 :: l1 :: l2 :: .val (.int x) :: L, S, H, k, n) Q ↔ Wp Pg 4 (55, l0 :: l1 :: l2 :: .val (.int x) :: L, (.int x) :: S, H, k, n) Q := gP d4_54 rfl rfl
theorem d4_55 : decode (Pg.mt 4).code 55 = .ok (.iload 4, 2) := by decide +kernel
theorem w4_55 {L : List Slot} {S : List Value} {H : Hp} {k : Nat} {n : Nat} {Q : MRes → Prop} {l0 l1 l2 l3 : Slot} {x : Int32} : Wp Pg 4 (55, l0 :: l1 :: l2 :: l3 :: .val (.int x) :: L, S, H, k, n) Q ↔ Wp Pg 4 (57, l0 :: l1 :: l2 :: l3 :: .val (.int x) :: L, (.int x) :: S, H, k, n) Q := gP d4_55 rfl rfl
theorem d4_57 : decode (Pg.mt 4).code 57 = .ok (.invokestatic 34, 3) := by decide +kernel
theorem w4_57 {L : List Slot} {S : List Value} {H : Hp} {k : Nat} {n : Nat} {Q : MRes → Prop} {a0 : Value} {a1 : Int32} {a2 : Int32}  (h_a0 : cat a0 = 1) (h1 : L.length = 21) (h2 : wt S ≤ 0) (h3 : k + 0 ≤ 0) (h4 : n + 0 ≤ 0) : Wp Pg 4 (57, L, (.int a2) :: (.int a1) :: a0 :: S, H, k, n) Q ↔ Wp Pg 5 (0, [.val a0, .val (.int a1), .val (.int a2), .unset, .unset, .unset], [], H, 0, 0) fun r => Wp Pg 4 (60, L, r.1.toList ++ S, r.2, k + 0, n + 0) Q := gCall d4_57 rfl rfl (M := 21) (W := 0) (C := 0) (Sl := 0) (c := 0) (s := 0) ⟨rfl, by decide, by decide, rfl, rfl, rfl, rfl⟩ (by show entL [a0, (.int a1), (.int a2)] 6 = _; rw [entL, laid_c1 h_a0, laid_c1 rfl, laid_c1 rfl, laid_nil]; rfl) h1 h2 h3 h4
theorem d4_60 : decode (Pg.mt 4).code 60 = .ok (.return_, 1) := by decide +kernel
theorem w4_60 {L : List Slot} {H : Hp} {k : Nat} {n : Nat} {Q : MRes → Prop} (h1 : k ≤ 0) (h2 : n ≤ 0) : Wp Pg 4 (60, L, [], H, k, n) Q ↔ Q (none, H) := gRet d4_60 rfl rfl rfl rfl h1 h2
theorem d5_0 : decode (Pg.mt 5).code 0 = .ok (.iload_n 1, 1) := by decide +kernel
theorem w5_0 {L : List Slot} {S : List Value} {H : Hp} {k : Nat} {n : Nat} {Q : MRes → Prop} {l0 : Slot} {x : Int32} : Wp Pg 5 (0, l0 :: .val (.int x) :: L, S, H, k, n) Q ↔ Wp Pg 5 (1, l0 :: .val (.int x) :: L, (.int x) :: S, H, k, n) Q := gP d5_0 rfl rfl
theorem d5_1 : decode (Pg.mt 5).code 1 = .ok (.istore 4, 2) := by decide +kernel
theorem w5_1 {L : List Slot} {S : List Value} {H : Hp} {k : Nat} {n : Nat} {Q : MRes → Prop} {l0 l1 l2 l3 : Slot} {o : Slot} {x : Int32} (ho : s1 o = true) : Wp Pg 5 (1, l0 :: l1 :: l2 :: l3 :: o :: L, (.int x) :: S, H, k, n) Q ↔ Wp Pg 5 (3, l0 :: l1 :: l2 :: l3 :: .val (.int x) :: L, S, H, k, n) Q := gP d5_1 rfl (st1_eq (o := o) rfl ho rfl)
theorem d5_3 : decode (Pg.mt 5).code 3 = .ok (.iinc 4 1, 3) := by decide +kernel
theorem w5_3 {L : List Slot} {S : List Value} {H : Hp} {k : Nat} {n : Nat} {Q : MRes → Prop} {l0 l1 l2 l3 : Slot} {x : Int32} : Wp Pg 5 (3, l0 :: l1 :: l2 :: l3 :: .val (.int x) :: L, S, H, k, n) Q ↔ Wp Pg 5 (6, l0 :: l1 :: l2 :: l3 :: .val (.int (x + 1)) :: L, S, H, k, n) Q := gP d5_3 rfl rfl
theorem d5_6 : decode (Pg.mt 5).code 6 = .ok (.iload 4, 2) := by decide +kernel
theorem w5_6 {L : List Slot} {S : List Value} {H : Hp} {k : Nat} {n : Nat} {Q : MRes → Prop} {l0 l1 l2 l3 : Slot} {x : Int32} : Wp Pg 5 (6, l0 :: l1 :: l2 :: l3 :: .val (.int x) :: L, S, H, k, n) Q ↔ Wp Pg 5 (8, l0 :: l1 :: l2 :: l3 :: .val (.int x) :: L, (.int x) :: S, H, k, n) Q := gP d5_6 rfl rfl
theorem d5_8 : decode (Pg.mt 5).code 8 = .ok (.iload_n 2, 1) := by decide +kernel
theorem w5_8 {L : List Slot} {S : List Value} {H : Hp} {k : Nat} {n : Nat} {Q : MRes → Prop} {l0 l1 : Slot} {x : Int32} : Wp Pg 5 (8, l0 :: l1 :: .val (.int x) :: L, S, H, k, n) Q ↔ Wp Pg 5 (9, l0 :: l1 :: .val (.int x) :: L, (.int x) :: S, H, k, n) Q := gP d5_8 rfl rfl
theorem d5_9 : decode (Pg.mt 5).code 9 = .ok (.if_icmp .ge 58, 3) := by decide +kernel
theorem w5_9 {L : List Slot} {S : List Value} {H : Hp} {k : Nat} {n : Nat} {Q : MRes → Prop} {x y : Int32} : Wp Pg 5 (9, L, (.int y) :: (.int x) :: S, H, k, n) Q ↔ if y ≤ x then Wp Pg 5 (67, L, S, H, k, n) Q else Wp Pg 5 (12, L, S, H, k, n) Q := gIcmp d5_9 (by decide) (by decide) (i_ge x y)
theorem d5_12 : decode (Pg.mt 5).code 12 = .ok (.aload_n 0, 1) := by decide +kernel
theorem w5_12 {L : List Slot} {S : List Value} {H : Hp} {k : Nat} {n : Nat} {Q : MRes → Prop}  {v : Value} (hv : isA v = true) : Wp Pg 5 (12, .val v :: L, S, H, k, n) Q ↔ Wp Pg 5 (13, .val v :: L, v :: S, H, k, n) Q := gP d5_12 rfl (by show (if isA v = true then _ else _) = _; rw [if_pos hv])
theorem d5_13 : decode (Pg.mt 5).code 13 = .ok (.iload 4, 2) := by decide +kernel
theorem w5_13 {L : List Slot} {S : List Value} {H : Hp} {k : Nat} {n : Nat} {Q : MRes → Prop} {l0 l1 l2 l3 : Slot} {x : Int32} : Wp Pg 5 (13, l0 :: l1 :: l2 :: l3 :: .val (.int x) :: L, S, H, k, n) Q ↔ Wp Pg 5 (15, l0 :: l1 :: l2 :: l3 :: .val (.int x) :: L, (.int x) :: S, H, k, n) Q := gP d5_13 rfl rfl
theorem d5_15 : decode (Pg.mt 5).code 15 = .ok (.dup, 1) := by decide +kernel
theorem w5_15 {L : List Slot} {S : List Value} {H : Hp} {k : Nat} {n : Nat} {Q : MRes → Prop} {v : Value} (hv : cat v = 1) : Wp Pg 5 (15, L, v :: S, H, k, n) Q ↔ Wp Pg 5 (16, L, v :: v :: S, H, k, n) Q := gP d5_15 rfl (by simp only [plainI, fdup, if_pos hv, keepL])
theorem d5_16 : decode (Pg.mt 5).code 16 = .ok (.istore_n 3, 1) := by decide +kernel
theorem w5_16 {L : List Slot} {S : List Value} {H : Hp} {k : Nat} {n : Nat} {Q : MRes → Prop} {l0 l1 l2 : Slot} {o : Slot} {x : Int32} (ho : s1 o = true) : Wp Pg 5 (16, l0 :: l1 :: l2 :: o :: L, (.int x) :: S, H, k, n) Q ↔ Wp Pg 5 (17, l0 :: l1 :: l2 :: .val (.int x) :: L, S, H, k, n) Q := gP d5_16 rfl (st1_eq (o := o) rfl ho rfl)
theorem d5_17 : decode (Pg.mt 5).code 17 = .ok (.iaload, 1) := by decide +kernel
theorem w5_17 {L : List Slot} {S : List Value} {H : Hp} {k : Nat} {n : Nat} {Q : MRes → Prop} {a : Nat} {x : Int32} : Wp Pg 5 (17, L, (.int x) :: (.ref a) :: S, H, k, n) Q ↔ ∃ v, ldA .iaload H a x = some v ∧ Wp Pg 5 (18, L, v :: S, H, k, n) Q := gLdA (by simp) d5_17
theorem d5_18 : decode (Pg.mt 5).code 18 = .ok (.istore 5, 2) := by decide +kernel
theorem w5_18 {L : List Slot} {S : List Value} {H : Hp} {k : Nat} {n : Nat} {Q : MRes → Prop} {l0 l1 l2 l3 l4 : Slot} {o : Slot} {x : Int32} (ho : s1 o = true) : Wp Pg 5 (18, l0 :: l1 :: l2 :: l3 :: l4 :: o :: L, (.int x) :: S, H, k, n) Q ↔ Wp Pg 5 (20, l0 :: l1 :: l2 :: l3 :: l4 :: .val (.int x) :: L, S, H, k, n) Q := gP d5_18 rfl (st1_eq (o := o) rfl ho rfl)
theorem d5_20 : decode (Pg.mt 5).code 20 = .ok (.iload 5, 2) := by decide +kernel
theorem w5_20 {L : List Slot} {S : List Value} {H : Hp} {k : Nat} {n : Nat} {Q : MRes → Prop} {l0 l1 l2 l3 l4 : Slot} {x : Int32} : Wp Pg 5 (20, l0 :: l1 :: l2 :: l3 :: l4 :: .val (.int x) :: L, S, H, k, n) Q ↔ Wp Pg 5 (22, l0 :: l1 :: l2 :: l3 :: l4 :: .val (.int x) :: L, (.int x) :: S, H, k, n) Q := gP d5_20 rfl rfl
theorem d5_22 : decode (Pg.mt 5).code 22 = .ok (.aload_n 0, 1) := by decide +kernel
theorem w5_22 {L : List Slot} {S : List Value} {H : Hp} {k : Nat} {n : Nat} {Q : MRes → Prop}  {v : Value} (hv : isA v = true) : Wp Pg 5 (22, .val v :: L, S, H, k, n) Q ↔ Wp Pg 5 (23, .val v :: L, v :: S, H, k, n) Q := gP d5_22 rfl (by show (if isA v = true then _ else _) = _; rw [if_pos hv])
theorem d5_23 : decode (Pg.mt 5).code 23 = .ok (.iload_n 3, 1) := by decide +kernel
theorem w5_23 {L : List Slot} {S : List Value} {H : Hp} {k : Nat} {n : Nat} {Q : MRes → Prop} {l0 l1 l2 : Slot} {x : Int32} : Wp Pg 5 (23, l0 :: l1 :: l2 :: .val (.int x) :: L, S, H, k, n) Q ↔ Wp Pg 5 (24, l0 :: l1 :: l2 :: .val (.int x) :: L, (.int x) :: S, H, k, n) Q := gP d5_23 rfl rfl
theorem d5_24 : decode (Pg.mt 5).code 24 = .ok (.iconst 1, 1) := by decide +kernel
theorem w5_24 {L : List Slot} {S : List Value} {H : Hp} {k : Nat} {n : Nat} {Q : MRes → Prop} : Wp Pg 5 (24, L, S, H, k, n) Q ↔ Wp Pg 5 (25, L, (.int 1) :: S, H, k, n) Q := gP d5_24 rfl rfl
theorem d5_25 : decode (Pg.mt 5).code 25 = .ok (.isub, 1) := by decide +kernel
theorem w5_25 {L : List Slot} {S : List Value} {H : Hp} {k : Nat} {n : Nat} {Q : MRes → Prop} {x y : Int32} : Wp Pg 5 (25, L, (.int y) :: (.int x) :: S, H, k, n) Q ↔ Wp Pg 5 (26, L, (.int (x - y)) :: S, H, k, n) Q := gP d5_25 rfl rfl
theorem d5_26 : decode (Pg.mt 5).code 26 = .ok (.iaload, 1) := by decide +kernel
theorem w5_26 {L : List Slot} {S : List Value} {H : Hp} {k : Nat} {n : Nat} {Q : MRes → Prop} {a : Nat} {x : Int32} : Wp Pg 5 (26, L, (.int x) :: (.ref a) :: S, H, k, n) Q ↔ ∃ v, ldA .iaload H a x = some v ∧ Wp Pg 5 (27, L, v :: S, H, k, n) Q := gLdA (by simp) d5_26
theorem d5_27 : decode (Pg.mt 5).code 27 = .ok (.if_icmp .ge 37, 3) := by decide +kernel
theorem w5_27 {L : List Slot} {S : List Value} {H : Hp} {k : Nat} {n : Nat} {Q : MRes → Prop} {x y : Int32} : Wp Pg 5 (27, L, (.int y) :: (.int x) :: S, H, k, n) Q ↔ if y ≤ x then Wp Pg 5 (64, L, S, H, k, n) Q else Wp Pg 5 (30, L, S, H, k, n) Q := gIcmp d5_27 (by decide) (by decide) (i_ge x y)
theorem d5_30 : decode (Pg.mt 5).code 30 = .ok (.iinc 3 (-1), 3) := by decide +kernel
theorem w5_30 {L : List Slot} {S : List Value} {H : Hp} {k : Nat} {n : Nat} {Q : MRes → Prop} {l0 l1 l2 : Slot} {x : Int32} : Wp Pg 5 (30, l0 :: l1 :: l2 :: .val (.int x) :: L, S, H, k, n) Q ↔ Wp Pg 5 (33, l0 :: l1 :: l2 :: .val (.int (x + (-1))) :: L, S, H, k, n) Q := gP d5_30 rfl rfl
theorem d5_33 : decode (Pg.mt 5).code 33 = .ok (.iload_n 3, 1) := by decide +kernel
theorem w5_33 {L : List Slot} {S : List Value} {H : Hp} {k : Nat} {n : Nat} {Q : MRes → Prop} {l0 l1 l2 : Slot} {x : Int32} : Wp Pg 5 (33, l0 :: l1 :: l2 :: .val (.int x) :: L, S, H, k, n) Q ↔ Wp Pg 5 (34, l0 :: l1 :: l2 :: .val (.int x) :: L, (.int x) :: S, H, k, n) Q := gP d5_33 rfl rfl
theorem d5_34 : decode (Pg.mt 5).code 34 = .ok (.iload_n 1, 1) := by decide +kernel
theorem w5_34 {L : List Slot} {S : List Value} {H : Hp} {k : Nat} {n : Nat} {Q : MRes → Prop} {l0 : Slot} {x : Int32} : Wp Pg 5 (34, l0 :: .val (.int x) :: L, S, H, k, n) Q ↔ Wp Pg 5 (35, l0 :: .val (.int x) :: L, (.int x) :: S, H, k, n) Q := gP d5_34 rfl rfl
theorem d5_35 : decode (Pg.mt 5).code 35 = .ok (.if_icmp .lt 22, 3) := by decide +kernel
theorem w5_35 {L : List Slot} {S : List Value} {H : Hp} {k : Nat} {n : Nat} {Q : MRes → Prop} {x y : Int32} : Wp Pg 5 (35, L, (.int y) :: (.int x) :: S, H, k, n) Q ↔ if x < y then Wp Pg 5 (57, L, S, H, k, n) Q else Wp Pg 5 (38, L, S, H, k, n) Q := gIcmp d5_35 (by decide) (by decide) (i_lt x y)
theorem d5_38 : decode (Pg.mt 5).code 38 = .ok (.iload 5, 2) := by decide +kernel
theorem w5_38 {L : List Slot} {S : List Value} {H : Hp} {k : Nat} {n : Nat} {Q : MRes → Prop} {l0 l1 l2 l3 l4 : Slot} {x : Int32} : Wp Pg 5 (38, l0 :: l1 :: l2 :: l3 :: l4 :: .val (.int x) :: L, S, H, k, n) Q ↔ Wp Pg 5 (40, l0 :: l1 :: l2 :: l3 :: l4 :: .val (.int x) :: L, (.int x) :: S, H, k, n) Q := gP d5_38 rfl rfl
theorem d5_40 : decode (Pg.mt 5).code 40 = .ok (.aload_n 0, 1) := by decide +kernel
theorem w5_40 {L : List Slot} {S : List Value} {H : Hp} {k : Nat} {n : Nat} {Q : MRes → Prop}  {v : Value} (hv : isA v = true) : Wp Pg 5 (40, .val v :: L, S, H, k, n) Q ↔ Wp Pg 5 (41, .val v :: L, v :: S, H, k, n) Q := gP d5_40 rfl (by show (if isA v = true then _ else _) = _; rw [if_pos hv])
theorem d5_41 : decode (Pg.mt 5).code 41 = .ok (.iload_n 3, 1) := by decide +kernel
theorem w5_41 {L : List Slot} {S : List Value} {H : Hp} {k : Nat} {n : Nat} {Q : MRes → Prop} {l0 l1 l2 : Slot} {x : Int32} : Wp Pg 5 (41, l0 :: l1 :: l2 :: .val (.int x) :: L, S, H, k, n) Q ↔ Wp Pg 5 (42, l0 :: l1 :: l2 :: .val (.int x) :: L, (.int x) :: S, H, k, n) Q := gP d5_41 rfl rfl
theorem d5_42 : decode (Pg.mt 5).code 42 = .ok (.iaload, 1) := by decide +kernel
theorem w5_42 {L : List Slot} {S : List Value} {H : Hp} {k : Nat} {n : Nat} {Q : MRes → Prop} {a : Nat} {x : Int32} : Wp Pg 5 (42, L, (.int x) :: (.ref a) :: S, H, k, n) Q ↔ ∃ v, ldA .iaload H a x = some v ∧ Wp Pg 5 (43, L, v :: S, H, k, n) Q := gLdA (by simp) d5_42
theorem d5_43 : decode (Pg.mt 5).code 43 = .ok (.if_icmp .ge 14, 3) := by decide +kernel
theorem w5_43 {L : List Slot} {S : List Value} {H : Hp} {k : Nat} {n : Nat} {Q : MRes → Prop} {x y : Int32} : Wp Pg 5 (43, L, (.int y) :: (.int x) :: S, H, k, n) Q ↔ if y ≤ x then Wp Pg 5 (57, L, S, H, k, n) Q else Wp Pg 5 (46, L, S, H, k, n) Q := gIcmp d5_43 (by decide) (by decide) (i_ge x y)
theorem d5_46 : decode (Pg.mt 5).code 46 = .ok (.aload_n 0, 1) := by decide +kernel
theorem w5_46 {L : List Slot} {S : List Value} {H : Hp} {k : Nat} {n : Nat} {Q : MRes → Prop}  {v : Value} (hv : isA v = true) : Wp Pg 5 (46, .val v :: L, S, H, k, n) Q ↔ Wp Pg 5 (47, .val v :: L, v :: S, H, k, n) Q := gP d5_46 rfl (by show (if isA v = true then _ else _) = _; rw [if_pos hv])
theorem d5_47 : decode (Pg.mt 5).code 47 = .ok (.iload_n 3, 1) := by decide +kernel
theorem w5_47 {L : List Slot} {S : List Value} {H : Hp} {k : Nat} {n : Nat} {Q : MRes → Prop} {l0 l1 l2 : Slot} {x : Int32} : Wp Pg 5 (47, l0 :: l1 :: l2 :: .val (.int x) :: L, S, H, k, n) Q ↔ Wp Pg 5 (48, l0 :: l1 :: l2 :: .val (.int x) :: L, (.int x) :: S, H, k, n) Q := gP d5_47 rfl rfl
theorem d5_48 : decode (Pg.mt 5).code 48 = .ok (.iconst 1, 1) := by decide +kernel
theorem w5_48 {L : List Slot} {S : List Value} {H : Hp} {k : Nat} {n : Nat} {Q : MRes → Prop} : Wp Pg 5 (48, L, S, H, k, n) Q ↔ Wp Pg 5 (49, L, (.int 1) :: S, H, k, n) Q := gP d5_48 rfl rfl
theorem d5_49 : decode (Pg.mt 5).code 49 = .ok (.iadd, 1) := by decide +kernel
theorem w5_49 {L : List Slot} {S : List Value} {H : Hp} {k : Nat} {n : Nat} {Q : MRes → Prop} {x y : Int32} : Wp Pg 5 (49, L, (.int y) :: (.int x) :: S, H, k, n) Q ↔ Wp Pg 5 (50, L, (.int (x + y)) :: S, H, k, n) Q := gP d5_49 rfl rfl
theorem d5_50 : decode (Pg.mt 5).code 50 = .ok (.aload_n 0, 1) := by decide +kernel
theorem w5_50 {L : List Slot} {S : List Value} {H : Hp} {k : Nat} {n : Nat} {Q : MRes → Prop}  {v : Value} (hv : isA v = true) : Wp Pg 5 (50, .val v :: L, S, H, k, n) Q ↔ Wp Pg 5 (51, .val v :: L, v :: S, H, k, n) Q := gP d5_50 rfl (by show (if isA v = true then _ else _) = _; rw [if_pos hv])
theorem d5_51 : decode (Pg.mt 5).code 51 = .ok (.iload_n 3, 1) := by decide +kernel
theorem w5_51 {L : List Slot} {S : List Value} {H : Hp} {k : Nat} {n : Nat} {Q : MRes → Prop} {l0 l1 l2 : Slot} {x : Int32} : Wp Pg 5 (51, l0 :: l1 :: l2 :: .val (.int x) :: L, S, H, k, n) Q ↔ Wp Pg 5 (52, l0 :: l1 :: l2 :: .val (.int x) :: L, (.int x) :: S, H, k, n) Q := gP d5_51 rfl rfl
theorem d5_52 : decode (Pg.mt 5).code 52 = .ok (.iaload, 1) := by decide +kernel
theorem w5_52 {L : List Slot} {S : List Value} {H : Hp} {k : Nat} {n : Nat} {Q : MRes → Prop} {a : Nat} {x : Int32} : Wp Pg 5 (52, L, (.int x) :: (.ref a) :: S, H, k, n) Q ↔ ∃ v, ldA .iaload H a x = some v ∧ Wp Pg 5 (53, L, v :: S, H, k, n) Q := gLdA (by simp) d5_52
theorem d5_53 : decode (Pg.mt 5).code 53 = .ok (.iastore, 1) := by decide +kernel
theorem w5_53 {L : List Slot} {S : List Value} {H : Hp} {k : Nat} {n : Nat} {Q : MRes → Prop} {a : Nat} {x : Int32} {v : Value} : Wp Pg 5 (53, L, v :: (.int x) :: (.ref a) :: S, H, k, n) Q ↔ ∃ H', stA Pg .iastore H a x v = some H' ∧ Wp Pg 5 (54, L, S, H', k, n) Q := gStA (by simp) d5_53
theorem d5_54 : decode (Pg.mt 5).code 54 = .ok (.goto (-24), 3) := by decide +kernel
theorem w5_54 {L : List Slot} {S : List Value} {H : Hp} {k : Nat} {n : Nat} {Q : MRes → Prop} : Wp Pg 5 (54, L, S, H, k, n) Q ↔ Wp Pg 5 (30, L, S, H, k, n) Q := gGoto d5_54 (by decide) (by decide)
theorem d5_57 : decode (Pg.mt 5).code 57 = .ok (.aload_n 0, 1) := by decide +kernel
theorem w5_57 {L : List Slot} {S : List Value} {H : Hp} {k : Nat} {n : Nat} {Q : MRes → Prop}  {v : Value} (hv : isA v = true) : Wp Pg 5 (57, .val v :: L, S, H, k, n) Q ↔ Wp Pg 5 (58, .val v :: L, v :: S, H, k, n) Q := gP d5_57 rfl (by show (if isA v = true then _ else _) = _; rw [if_pos hv])
theorem d5_58 : decode (Pg.mt 5).code 58 = .ok (.iload_n 3, 1) := by decide +kernel
theorem w5_58 {L : List Slot} {S : List Value} {H : Hp} {k : Nat} {n : Nat} {Q : MRes → Prop} {l0 l1 l2 : Slot} {x : Int32} : Wp Pg 5 (58, l0 :: l1 :: l2 :: .val (.int x) :: L, S, H, k, n) Q ↔ Wp Pg 5 (59, l0 :: l1 :: l2 :: .val (.int x) :: L, (.int x) :: S, H, k, n) Q := gP d5_58 rfl rfl
theorem d5_59 : decode (Pg.mt 5).code 59 = .ok (.iconst 1, 1) := by decide +kernel
theorem w5_59 {L : List Slot} {S : List Value} {H : Hp} {k : Nat} {n : Nat} {Q : MRes → Prop} : Wp Pg 5 (59, L, S, H, k, n) Q ↔ Wp Pg 5 (60, L, (.int 1) :: S, H, k, n) Q := gP d5_59 rfl rfl
theorem d5_60 : decode (Pg.mt 5).code 60 = .ok (.iadd, 1) := by decide +kernel
theorem w5_60 {L : List Slot} {S : List Value} {H : Hp} {k : Nat} {n : Nat} {Q : MRes → Prop} {x y : Int32} : Wp Pg 5 (60, L, (.int y) :: (.int x) :: S, H, k, n) Q ↔ Wp Pg 5 (61, L, (.int (x + y)) :: S, H, k, n) Q := gP d5_60 rfl rfl
theorem d5_61 : decode (Pg.mt 5).code 61 = .ok (.iload 5, 2) := by decide +kernel
theorem w5_61 {L : List Slot} {S : List Value} {H : Hp} {k : Nat} {n : Nat} {Q : MRes → Prop} {l0 l1 l2 l3 l4 : Slot} {x : Int32} : Wp Pg 5 (61, l0 :: l1 :: l2 :: l3 :: l4 :: .val (.int x) :: L, S, H, k, n) Q ↔ Wp Pg 5 (63, l0 :: l1 :: l2 :: l3 :: l4 :: .val (.int x) :: L, (.int x) :: S, H, k, n) Q := gP d5_61 rfl rfl
theorem d5_63 : decode (Pg.mt 5).code 63 = .ok (.iastore, 1) := by decide +kernel
theorem w5_63 {L : List Slot} {S : List Value} {H : Hp} {k : Nat} {n : Nat} {Q : MRes → Prop} {a : Nat} {x : Int32} {v : Value} : Wp Pg 5 (63, L, v :: (.int x) :: (.ref a) :: S, H, k, n) Q ↔ ∃ H', stA Pg .iastore H a x v = some H' ∧ Wp Pg 5 (64, L, S, H', k, n) Q := gStA (by simp) d5_63
theorem d5_64 : decode (Pg.mt 5).code 64 = .ok (.goto (-61), 3) := by decide +kernel
theorem w5_64 {L : List Slot} {S : List Value} {H : Hp} {k : Nat} {n : Nat} {Q : MRes → Prop} : Wp Pg 5 (64, L, S, H, k, n) Q ↔ Wp Pg 5 (3, L, S, H, k, n) Q := gGoto d5_64 (by decide) (by decide)
theorem d5_67 : decode (Pg.mt 5).code 67 = .ok (.return_, 1) := by decide +kernel
theorem w5_67 {L : List Slot} {H : Hp} {k : Nat} {n : Nat} {Q : MRes → Prop} (h1 : k ≤ 0) (h2 : n ≤ 0) : Wp Pg 5 (67, L, [], H, k, n) Q ↔ Q (none, H) := gRet d5_67 rfl rfl rfl rfl h1 h2
theorem d6_0 : decode (Pg.mt 6).code 0 = .ok (.aconst_null, 1) := by decide +kernel
theorem w6_0 {L : List Slot} {S : List Value} {H : Hp} {k : Nat} {n : Nat} {Q : MRes → Prop} : Wp Pg 6 (0, L, S, H, k, n) Q ↔ Wp Pg 6 (1, L, .null :: S, H, k, n) Q := gP d6_0 rfl rfl
theorem d6_1 : decode (Pg.mt 6).code 1 = .ok (.astore_n 1, 1) := by decide +kernel
theorem w6_1 {L : List Slot} {S : List Value} {H : Hp} {k : Nat} {n : Nat} {Q : MRes → Prop} {l0 : Slot} {o : Slot} {v : Value} (ho : s1 o = true) (hv : isA v = true) : Wp Pg 6 (1, l0 :: o :: L, v :: S, H, k, n) Q ↔ Wp Pg 6 (2, l0 :: .val v :: L, S, H, k, n) Q := gP d6_1 rfl (st1_eq (o := o) rfl ho hv)
theorem d6_2 : decode (Pg.mt 6).code 2 = .ok (.aload_n 0, 1) := by decide +kernel
theorem w6_2 {L : List Slot} {S : List Value} {H : Hp} {k : Nat} {n : Nat} {Q : MRes → Prop}  {v : Value} (hv : isA v = true) : Wp Pg 6 (2, .val v :: L, S, H, k, n) Q ↔ Wp Pg 6 (3, .val v :: L, v :: S, H, k, n) Q := gP d6_2 rfl (by show (if isA v = true then _ else _) = _; rw [if_pos hv])
theorem d6_3 : decode (Pg.mt 6).code 3 = .ok (.getfield 18, 3) := by decide +kernel
theorem w6_3 {L : List Slot} {S : List Value} {H : Hp} {k : Nat} {n : Nat} {Q : MRes → Prop} {a : Nat} : Wp Pg 6 (3, L, (.ref a) :: S, H, k, n) Q ↔ ∃ v, rdF Pg 6 18 H a = some v ∧ Wp Pg 6 (6, L, v :: S, H, k, n) Q := gGet d6_3
theorem d6_6 : decode (Pg.mt 6).code 6 = .ok (.arraylength, 1) := by decide +kernel
theorem w6_6 {L : List Slot} {S : List Value} {H : Hp} {k : Nat} {n : Nat} {Q : MRes → Prop} {a : Nat} : Wp Pg 6 (6, L, (.ref a) :: S, H, k, n) Q ↔ ∃ v, alen H a = some v ∧ Wp Pg 6 (7, L, (.int v) :: S, H, k, n) Q := gLen d6_6
theorem d6_7 : decode (Pg.mt 6).code 7 = .ok (.iconst 1, 1) := by decide +kernel
theorem w6_7 {L : List Slot} {S : List Value} {H : Hp} {k : Nat} {n : Nat} {Q : MRes → Prop} : Wp Pg 6 (7, L, S, H, k, n) Q ↔ Wp Pg 6 (8, L, (.int 1) :: S, H, k, n) Q := gP d6_7 rfl rfl
theorem d6_8 : decode (Pg.mt 6).code 8 = .ok (.if_icmp .gt 33, 3) := by decide +kernel
theorem w6_8 {L : List Slot} {S : List Value} {H : Hp} {k : Nat} {n : Nat} {Q : MRes → Prop} {x y : Int32} : Wp Pg 6 (8, L, (.int y) :: (.int x) :: S, H, k, n) Q ↔ if y < x then Wp Pg 6 (41, L, S, H, k, n) Q else Wp Pg 6 (11, L, S, H, k, n) Q := gIcmp d6_8 (by decide) (by decide) (i_gt x y)
theorem d6_11 : decode (Pg.mt 6).code 11 = .ok (.new 31, 3) := by decide +kernel
theorem w6_11 {L : List Slot} {S : List Value} {H : Hp} {k : Nat} {n : Nat} {Q : MRes → Prop} (h1 : k + 1 ≤ 1) (h2 : n + 2 ≤ 2) : Wp Pg 6 (11, L, S, H, k, n) Q ↔ Wp Pg 6 (14, L, (.ref H.length) :: S, H ++ [(.inr 1, [.null, .int 0])], k + 1, n + 2) Q := gNew d6_11 rfl rfl rfl rfl rfl h1 h2
theorem d6_14 : decode (Pg.mt 6).code 14 = .ok (.dup, 1) := by decide +kernel
theorem w6_14 {L : List Slot} {S : List Value} {H : Hp} {k : Nat} {n : Nat} {Q : MRes → Prop} {v : Value} (hv : cat v = 1) : Wp Pg 6 (14, L, v :: S, H, k, n) Q ↔ Wp Pg 6 (15, L, v :: v :: S, H, k, n) Q := gP d6_14 rfl (by simp only [plainI, fdup, if_pos hv, keepL])
theorem d6_15 : decode (Pg.mt 6).code 15 = .ok (.aload_n 0, 1) := by decide +kernel
theorem w6_15 {L : List Slot} {S : List Value} {H : Hp} {k : Nat} {n : Nat} {Q : MRes → Prop}  {v : Value} (hv : isA v = true) : Wp Pg 6 (15, .val v :: L, S, H, k, n) Q ↔ Wp Pg 6 (16, .val v :: L, v :: S, H, k, n) Q := gP d6_15 rfl (by show (if isA v = true then _ else _) = _; rw [if_pos hv])
theorem d6_16 : decode (Pg.mt 6).code 16 = .ok (.getfield 13, 3) := by decide +kernel
theorem w6_16 {L : List Slot} {S : List Value} {H : Hp} {k : Nat} {n : Nat} {Q : MRes → Prop} {a : Nat} : Wp Pg 6 (16, L, (.ref a) :: S, H, k, n) Q ↔ ∃ v, rdF Pg 6 13 H a = some v ∧ Wp Pg 6 (19, L, v :: S, H, k, n) Q := gGet d6_16
theorem d6_19 : decode (Pg.mt 6).code 19 = .ok (.aload_n 0, 1) := by decide +kernel
theorem w6_19 {L : List Slot} {S : List Value} {H : Hp} {k : Nat} {n : Nat} {Q : MRes → Prop}  {v : Value} (hv : isA v = true) : Wp Pg 6 (19, .val v :: L, S, H, k, n) Q ↔ Wp Pg 6 (20, .val v :: L, v :: S, H, k, n) Q := gP d6_19 rfl (by show (if isA v = true then _ else _) = _; rw [if_pos hv])
theorem d6_20 : decode (Pg.mt 6).code 20 = .ok (.getfield 18, 3) := by decide +kernel
theorem w6_20 {L : List Slot} {S : List Value} {H : Hp} {k : Nat} {n : Nat} {Q : MRes → Prop} {a : Nat} : Wp Pg 6 (20, L, (.ref a) :: S, H, k, n) Q ↔ ∃ v, rdF Pg 6 18 H a = some v ∧ Wp Pg 6 (23, L, v :: S, H, k, n) Q := gGet d6_20
theorem d6_23 : decode (Pg.mt 6).code 23 = .ok (.arraylength, 1) := by decide +kernel
theorem w6_23 {L : List Slot} {S : List Value} {H : Hp} {k : Nat} {n : Nat} {Q : MRes → Prop} {a : Nat} : Wp Pg 6 (23, L, (.ref a) :: S, H, k, n) Q ↔ ∃ v, alen H a = some v ∧ Wp Pg 6 (24, L, (.int v) :: S, H, k, n) Q := gLen d6_23
theorem d6_24 : decode (Pg.mt 6).code 24 = .ok (.ifCond .ne 7, 3) := by decide +kernel
theorem w6_24 {L : List Slot} {S : List Value} {H : Hp} {k : Nat} {n : Nat} {Q : MRes → Prop} {x : Int32} : Wp Pg 6 (24, L, (.int x) :: S, H, k, n) Q ↔ if ¬ x = 0 then Wp Pg 6 (31, L, S, H, k, n) Q else Wp Pg 6 (27, L, S, H, k, n) Q := gIf d6_24 (by decide) (by decide) (c_ne x)
theorem d6_27 : decode (Pg.mt 6).code 27 = .ok (.iconst 0, 1) := by decide +kernel
theorem w6_27 {L : List Slot} {S : List Value} {H : Hp} {k : Nat} {n : Nat} {Q : MRes → Prop} : Wp Pg 6 (27, L, S, H, k, n) Q ↔ Wp Pg 6 (28, L, (.int 0) :: S, H, k, n) Q := gP d6_27 rfl rfl
theorem d6_28 : decode (Pg.mt 6).code 28 = .ok (.goto 9, 3) := by decide +kernel
theorem w6_28 {L : List Slot} {S : List Value} {H : Hp} {k : Nat} {n : Nat} {Q : MRes → Prop} : Wp Pg 6 (28, L, S, H, k, n) Q ↔ Wp Pg 6 (37, L, S, H, k, n) Q := gGoto d6_28 (by decide) (by decide)
theorem d6_31 : decode (Pg.mt 6).code 31 = .ok (.aload_n 0, 1) := by decide +kernel
theorem w6_31 {L : List Slot} {S : List Value} {H : Hp} {k : Nat} {n : Nat} {Q : MRes → Prop}  {v : Value} (hv : isA v = true) : Wp Pg 6 (31, .val v :: L, S, H, k, n) Q ↔ Wp Pg 6 (32, .val v :: L, v :: S, H, k, n) Q := gP d6_31 rfl (by show (if isA v = true then _ else _) = _; rw [if_pos hv])
theorem d6_32 : decode (Pg.mt 6).code 32 = .ok (.getfield 18, 3) := by decide +kernel
theorem w6_32 {L : List Slot} {S : List Value} {H : Hp} {k : Nat} {n : Nat} {Q : MRes → Prop} {a : Nat} : Wp Pg 6 (32, L, (.ref a) :: S, H, k, n) Q ↔ ∃ v, rdF Pg 6 18 H a = some v ∧ Wp Pg 6 (35, L, v :: S, H, k, n) Q := gGet d6_32
theorem d6_35 : decode (Pg.mt 6).code 35 = .ok (.iconst 0, 1) := by decide +kernel
theorem w6_35 {L : List Slot} {S : List Value} {H : Hp} {k : Nat} {n : Nat} {Q : MRes → Prop} : Wp Pg 6 (35, L, S, H, k, n) Q ↔ Wp Pg 6 (36, L, (.int 0) :: S, H, k, n) Q := gP d6_35 rfl rfl
theorem d6_36 : decode (Pg.mt 6).code 36 = .ok (.iaload, 1) := by decide +kernel
theorem w6_36 {L : List Slot} {S : List Value} {H : Hp} {k : Nat} {n : Nat} {Q : MRes → Prop} {a : Nat} {x : Int32} : Wp Pg 6 (36, L, (.int x) :: (.ref a) :: S, H, k, n) Q ↔ ∃ v, ldA .iaload H a x = some v ∧ Wp Pg 6 (37, L, v :: S, H, k, n) Q := gLdA (by simp) d6_36
theorem d6_37 : decode (Pg.mt 6).code 37 = .ok (.invokespecial 33, 3) := by decide +kernel
theorem w6_37 {L : List Slot} {S : List Value} {H : Hp} {k : Nat} {n : Nat} {Q : MRes → Prop} {a0 : Value} {a1 : Int32} {a : Nat}  (h_a0 : cat a0 = 1) (h1 : L.length = 2) (h2 : wt S ≤ 1) (h3 : k + 0 ≤ 1) (h4 : n + 0 ≤ 2) : Wp Pg 6 (37, L, (.int a1) :: a0 :: (.ref a) :: S, H, k, n) Q ↔ Wp Pg 7 (0, [.val (.ref a), .val a0, .val (.int a1)], [], H, 0, 0) fun r => Wp Pg 6 (40, L, r.1.toList ++ S, r.2, k + 0, n + 0) Q := gCall d6_37 rfl rfl (M := 2) (W := 1) (C := 1) (Sl := 2) (c := 0) (s := 0) ⟨rfl, by decide, by decide, rfl, rfl, rfl, rfl⟩ (by show entL [(.ref a), a0, (.int a1)] 3 = _; rw [entL, laid_c1 rfl, laid_c1 h_a0, laid_c1 rfl, laid_nil]; rfl) h1 h2 h3 h4
theorem d6_40 : decode (Pg.mt 6).code 40 = .ok (.astore_n 1, 1) := by decide +kernel
theorem w6_40 {L : List Slot} {S : List Value} {H : Hp} {k : Nat} {n : Nat} {Q : MRes → Prop} {l0 : Slot} {o : Slot} {v : Value} (ho : s1 o = true) (hv : isA v = true) : Wp Pg 6 (40, l0 :: o :: L, v :: S, H, k, n) Q ↔ Wp Pg 6 (41, l0 :: .val v :: L, S, H, k, n) Q := gP d6_40 rfl (st1_eq (o := o) rfl ho hv)
theorem d6_41 : decode (Pg.mt 6).code 41 = .ok (.aload_n 1, 1) := by decide +kernel
theorem w6_41 {L : List Slot} {S : List Value} {H : Hp} {k : Nat} {n : Nat} {Q : MRes → Prop} {l0 : Slot} {v : Value} (hv : isA v = true) : Wp Pg 6 (41, l0 :: .val v :: L, S, H, k, n) Q ↔ Wp Pg 6 (42, l0 :: .val v :: L, v :: S, H, k, n) Q := gP d6_41 rfl (by show (if isA v = true then _ else _) = _; rw [if_pos hv])
theorem d6_42 : decode (Pg.mt 6).code 42 = .ok (.areturn, 1) := by decide +kernel
theorem w6_42 {L : List Slot} {S : List Value} {H : Hp} {k : Nat} {n : Nat} {Q : MRes → Prop} {a : Nat} (h1 : k ≤ 1) (h2 : n ≤ 2) : Wp Pg 6 (42, L, (.ref a) :: S, H, k, n) Q ↔ Q (some (.ref a), H) := gRet d6_42 rfl rfl rfl rfl h1 h2
theorem w6_42n {L : List Slot} {S : List Value} {H : Hp} {k : Nat} {n : Nat} {Q : MRes → Prop} (h1 : k ≤ 1) (h2 : n ≤ 2) : Wp Pg 6 (42, L, .null :: S, H, k, n) Q ↔ Q (some .null, H) := gRet d6_42 rfl rfl rfl rfl h1 h2
theorem d7_0 : decode (Pg.mt 7).code 0 = .ok (.aload_n 0, 1) := by decide +kernel
theorem w7_0 {L : List Slot} {S : List Value} {H : Hp} {k : Nat} {n : Nat} {Q : MRes → Prop}  {v : Value} (hv : isA v = true) : Wp Pg 7 (0, .val v :: L, S, H, k, n) Q ↔ Wp Pg 7 (1, .val v :: L, v :: S, H, k, n) Q := gP d7_0 rfl (by show (if isA v = true then _ else _) = _; rw [if_pos hv])
theorem d7_1 : decode (Pg.mt 7).code 1 = .ok (.invokespecial 1, 3) := by decide +kernel
theorem w7_1 {L : List Slot} {S : List Value} {H : Hp} {k : Nat} {n : Nat} {Q : MRes → Prop} {a : Nat} (h1 : L.length = 3) (h2 : wt S + 12 ≤ 12) : Wp Pg 7 (1, L, (.ref a) :: S, H, k, n) Q ↔ Wp Pg 7 (4, L, S, H, k, n) Q := gObj d7_1 rfl rfl rfl rfl (by decide) h1 h2
theorem d7_4 : decode (Pg.mt 7).code 4 = .ok (.aload_n 0, 1) := by decide +kernel
theorem w7_4 {L : List Slot} {S : List Value} {H : Hp} {k : Nat} {n : Nat} {Q : MRes → Prop}  {v : Value} (hv : isA v = true) : Wp Pg 7 (4, .val v :: L, S, H, k, n) Q ↔ Wp Pg 7 (5, .val v :: L, v :: S, H, k, n) Q := gP d7_4 rfl (by show (if isA v = true then _ else _) = _; rw [if_pos hv])
theorem d7_5 : decode (Pg.mt 7).code 5 = .ok (.aload_n 1, 1) := by decide +kernel
theorem w7_5 {L : List Slot} {S : List Value} {H : Hp} {k : Nat} {n : Nat} {Q : MRes → Prop} {l0 : Slot} {v : Value} (hv : isA v = true) : Wp Pg 7 (5, l0 :: .val v :: L, S, H, k, n) Q ↔ Wp Pg 7 (6, l0 :: .val v :: L, v :: S, H, k, n) Q := gP d7_5 rfl (by show (if isA v = true then _ else _) = _; rw [if_pos hv])
theorem d7_6 : decode (Pg.mt 7).code 6 = .ok (.putfield 7, 3) := by decide +kernel
theorem w7_6 {L : List Slot} {S : List Value} {H : Hp} {k : Nat} {n : Nat} {Q : MRes → Prop} {a : Nat} {v : Value} : Wp Pg 7 (6, L, v :: (.ref a) :: S, H, k, n) Q ↔ ∃ H', wrF Pg 7 7 H a v = some H' ∧ Wp Pg 7 (9, L, S, H', k, n) Q := gPut d7_6
theorem d7_9 : decode (Pg.mt 7).code 9 = .ok (.aload_n 0, 1) := by decide +kernel
theorem w7_9 {L : List Slot} {S : List Value} {H : Hp} {k : Nat} {n : Nat} {Q : MRes → Prop}  {v : Value} (hv : isA v = true) : Wp Pg 7 (9, .val v :: L, S, H, k, n) Q ↔ Wp Pg 7 (10, .val v :: L, v :: S, H, k, n) Q := gP d7_9 rfl (by show (if isA v = true then _ else _) = _; rw [if_pos hv])
theorem d7_10 : decode (Pg.mt 7).code 10 = .ok (.iload_n 2, 1) := by decide +kernel
theorem w7_10 {L : List Slot} {S : List Value} {H : Hp} {k : Nat} {n : Nat} {Q : MRes → Prop} {l0 l1 : Slot} {x : Int32} : Wp Pg 7 (10, l0 :: l1 :: .val (.int x) :: L, S, H, k, n) Q ↔ Wp Pg 7 (11, l0 :: l1 :: .val (.int x) :: L, (.int x) :: S, H, k, n) Q := gP d7_10 rfl rfl
theorem d7_11 : decode (Pg.mt 7).code 11 = .ok (.putfield 13, 3) := by decide +kernel
theorem w7_11 {L : List Slot} {S : List Value} {H : Hp} {k : Nat} {n : Nat} {Q : MRes → Prop} {a : Nat} {v : Value} : Wp Pg 7 (11, L, v :: (.ref a) :: S, H, k, n) Q ↔ ∃ H', wrF Pg 7 13 H a v = some H' ∧ Wp Pg 7 (14, L, S, H', k, n) Q := gPut d7_11
theorem d7_14 : decode (Pg.mt 7).code 14 = .ok (.return_, 1) := by decide +kernel
theorem w7_14 {L : List Slot} {H : Hp} {k : Nat} {n : Nat} {Q : MRes → Prop} (h1 : k ≤ 0) (h2 : n ≤ 0) : Wp Pg 7 (14, L, [], H, k, n) Q ↔ Q (none, H) := gRet d7_14 rfl rfl rfl rfl h1 h2
theorem d8_0 : decode (Pg.mt 8).code 0 = .ok (.aload_n 0, 1) := by decide +kernel
theorem w8_0 {L : List Slot} {S : List Value} {H : Hp} {k : Nat} {n : Nat} {Q : MRes → Prop}  {v : Value} (hv : isA v = true) : Wp Pg 8 (0, .val v :: L, S, H, k, n) Q ↔ Wp Pg 8 (1, .val v :: L, v :: S, H, k, n) Q := gP d8_0 rfl (by show (if isA v = true then _ else _) = _; rw [if_pos hv])
theorem d8_1 : decode (Pg.mt 8).code 1 = .ok (.getfield 13, 3) := by decide +kernel
theorem w8_1 {L : List Slot} {S : List Value} {H : Hp} {k : Nat} {n : Nat} {Q : MRes → Prop} {a : Nat} : Wp Pg 8 (1, L, (.ref a) :: S, H, k, n) Q ↔ ∃ v, rdF Pg 8 13 H a = some v ∧ Wp Pg 8 (4, L, v :: S, H, k, n) Q := gGet d8_1
theorem d8_4 : decode (Pg.mt 8).code 4 = .ok (.ireturn, 1) := by decide +kernel
theorem w8_4 {L : List Slot} {S : List Value} {H : Hp} {k : Nat} {n : Nat} {Q : MRes → Prop} {x : Int32} (h1 : k ≤ 0) (h2 : n ≤ 0) : Wp Pg 8 (4, L, (.int x) :: S, H, k, n) Q ↔ Q (some (.int (x)), H) := gRet d8_4 rfl rfl rfl rfl h1 h2
theorem d9_0 : decode (Pg.mt 9).code 0 = .ok (.aload_n 0, 1) := by decide +kernel
theorem w9_0 {L : List Slot} {S : List Value} {H : Hp} {k : Nat} {n : Nat} {Q : MRes → Prop}  {v : Value} (hv : isA v = true) : Wp Pg 9 (0, .val v :: L, S, H, k, n) Q ↔ Wp Pg 9 (1, .val v :: L, v :: S, H, k, n) Q := gP d9_0 rfl (by show (if isA v = true then _ else _) = _; rw [if_pos hv])
theorem d9_1 : decode (Pg.mt 9).code 1 = .ok (.getfield 7, 3) := by decide +kernel
theorem w9_1 {L : List Slot} {S : List Value} {H : Hp} {k : Nat} {n : Nat} {Q : MRes → Prop} {a : Nat} : Wp Pg 9 (1, L, (.ref a) :: S, H, k, n) Q ↔ ∃ v, rdF Pg 9 7 H a = some v ∧ Wp Pg 9 (4, L, v :: S, H, k, n) Q := gGet d9_1
theorem d9_4 : decode (Pg.mt 9).code 4 = .ok (.areturn, 1) := by decide +kernel
theorem w9_4 {L : List Slot} {S : List Value} {H : Hp} {k : Nat} {n : Nat} {Q : MRes → Prop} {a : Nat} (h1 : k ≤ 0) (h2 : n ≤ 0) : Wp Pg 9 (4, L, (.ref a) :: S, H, k, n) Q ↔ Q (some (.ref a), H) := gRet d9_4 rfl rfl rfl rfl h1 h2
theorem w9_4n {L : List Slot} {S : List Value} {H : Hp} {k : Nat} {n : Nat} {Q : MRes → Prop} (h1 : k ≤ 0) (h2 : n ≤ 0) : Wp Pg 9 (4, L, .null :: S, H, k, n) Q ↔ Q (some .null, H) := gRet d9_4 rfl rfl rfl rfl h1 h2
theorem d10_0 : decode (Pg.mt 10).code 0 = .ok (.iload_n 0, 1) := by decide +kernel
theorem w10_0 {L : List Slot} {S : List Value} {H : Hp} {k : Nat} {n : Nat} {Q : MRes → Prop}  {x : Int32} : Wp Pg 10 (0, .val (.int x) :: L, S, H, k, n) Q ↔ Wp Pg 10 (1, .val (.int x) :: L, (.int x) :: S, H, k, n) Q := gP d10_0 rfl rfl
theorem d10_1 : decode (Pg.mt 10).code 1 = .ok (.iload_n 1, 1) := by decide +kernel
theorem w10_1 {L : List Slot} {S : List Value} {H : Hp} {k : Nat} {n : Nat} {Q : MRes → Prop} {l0 : Slot} {x : Int32} : Wp Pg 10 (1, l0 :: .val (.int x) :: L, S, H, k, n) Q ↔ Wp Pg 10 (2, l0 :: .val (.int x) :: L, (.int x) :: S, H, k, n) Q := gP d10_1 rfl rfl
theorem d10_2 : decode (Pg.mt 10).code 2 = .ok (.if_icmp .gt 7, 3) := by decide +kernel
theorem w10_2 {L : List Slot} {S : List Value} {H : Hp} {k : Nat} {n : Nat} {Q : MRes → Prop} {x y : Int32} : Wp Pg 10 (2, L, (.int y) :: (.int x) :: S, H, k, n) Q ↔ if y < x then Wp Pg 10 (9, L, S, H, k, n) Q else Wp Pg 10 (5, L, S, H, k, n) Q := gIcmp d10_2 (by decide) (by decide) (i_gt x y)
theorem d10_5 : decode (Pg.mt 10).code 5 = .ok (.iload_n 0, 1) := by decide +kernel
theorem w10_5 {L : List Slot} {S : List Value} {H : Hp} {k : Nat} {n : Nat} {Q : MRes → Prop}  {x : Int32} : Wp Pg 10 (5, .val (.int x) :: L, S, H, k, n) Q ↔ Wp Pg 10 (6, .val (.int x) :: L, (.int x) :: S, H, k, n) Q := gP d10_5 rfl rfl
theorem d10_6 : decode (Pg.mt 10).code 6 = .ok (.goto 4, 3) := by decide +kernel
theorem w10_6 {L : List Slot} {S : List Value} {H : Hp} {k : Nat} {n : Nat} {Q : MRes → Prop} : Wp Pg 10 (6, L, S, H, k, n) Q ↔ Wp Pg 10 (10, L, S, H, k, n) Q := gGoto d10_6 (by decide) (by decide)
theorem d10_9 : decode (Pg.mt 10).code 9 = .ok (.iload_n 1, 1) := by decide +kernel
theorem w10_9 {L : List Slot} {S : List Value} {H : Hp} {k : Nat} {n : Nat} {Q : MRes → Prop} {l0 : Slot} {x : Int32} : Wp Pg 10 (9, l0 :: .val (.int x) :: L, S, H, k, n) Q ↔ Wp Pg 10 (10, l0 :: .val (.int x) :: L, (.int x) :: S, H, k, n) Q := gP d10_9 rfl rfl
theorem d10_10 : decode (Pg.mt 10).code 10 = .ok (.ireturn, 1) := by decide +kernel
theorem w10_10 {L : List Slot} {S : List Value} {H : Hp} {k : Nat} {n : Nat} {Q : MRes → Prop} {x : Int32} (h1 : k ≤ 0) (h2 : n ≤ 0) : Wp Pg 10 (10, L, (.int x) :: S, H, k, n) Q ↔ Q (some (.int (x)), H) := gRet d10_10 rfl rfl rfl rfl h1 h2
theorem d11_0 : decode (Pg.mt 11).code 0 = .ok (.iload_n 0, 1) := by decide +kernel
theorem w11_0 {L : List Slot} {S : List Value} {H : Hp} {k : Nat} {n : Nat} {Q : MRes → Prop}  {x : Int32} : Wp Pg 11 (0, .val (.int x) :: L, S, H, k, n) Q ↔ Wp Pg 11 (1, .val (.int x) :: L, (.int x) :: S, H, k, n) Q := gP d11_0 rfl rfl
theorem d11_1 : decode (Pg.mt 11).code 1 = .ok (.iload_n 1, 1) := by decide +kernel
theorem w11_1 {L : List Slot} {S : List Value} {H : Hp} {k : Nat} {n : Nat} {Q : MRes → Prop} {l0 : Slot} {x : Int32} : Wp Pg 11 (1, l0 :: .val (.int x) :: L, S, H, k, n) Q ↔ Wp Pg 11 (2, l0 :: .val (.int x) :: L, (.int x) :: S, H, k, n) Q := gP d11_1 rfl rfl
theorem d11_2 : decode (Pg.mt 11).code 2 = .ok (.if_icmp .lt 7, 3) := by decide +kernel
theorem w11_2 {L : List Slot} {S : List Value} {H : Hp} {k : Nat} {n : Nat} {Q : MRes → Prop} {x y : Int32} : Wp Pg 11 (2, L, (.int y) :: (.int x) :: S, H, k, n) Q ↔ if x < y then Wp Pg 11 (9, L, S, H, k, n) Q else Wp Pg 11 (5, L, S, H, k, n) Q := gIcmp d11_2 (by decide) (by decide) (i_lt x y)
theorem d11_5 : decode (Pg.mt 11).code 5 = .ok (.iload_n 0, 1) := by decide +kernel
theorem w11_5 {L : List Slot} {S : List Value} {H : Hp} {k : Nat} {n : Nat} {Q : MRes → Prop}  {x : Int32} : Wp Pg 11 (5, .val (.int x) :: L, S, H, k, n) Q ↔ Wp Pg 11 (6, .val (.int x) :: L, (.int x) :: S, H, k, n) Q := gP d11_5 rfl rfl
theorem d11_6 : decode (Pg.mt 11).code 6 = .ok (.goto 4, 3) := by decide +kernel
theorem w11_6 {L : List Slot} {S : List Value} {H : Hp} {k : Nat} {n : Nat} {Q : MRes → Prop} : Wp Pg 11 (6, L, S, H, k, n) Q ↔ Wp Pg 11 (10, L, S, H, k, n) Q := gGoto d11_6 (by decide) (by decide)
theorem d11_9 : decode (Pg.mt 11).code 9 = .ok (.iload_n 1, 1) := by decide +kernel
theorem w11_9 {L : List Slot} {S : List Value} {H : Hp} {k : Nat} {n : Nat} {Q : MRes → Prop} {l0 : Slot} {x : Int32} : Wp Pg 11 (9, l0 :: .val (.int x) :: L, S, H, k, n) Q ↔ Wp Pg 11 (10, l0 :: .val (.int x) :: L, (.int x) :: S, H, k, n) Q := gP d11_9 rfl rfl
theorem d11_10 : decode (Pg.mt 11).code 10 = .ok (.ireturn, 1) := by decide +kernel
theorem w11_10 {L : List Slot} {S : List Value} {H : Hp} {k : Nat} {n : Nat} {Q : MRes → Prop} {x : Int32} (h1 : k ≤ 0) (h2 : n ≤ 0) : Wp Pg 11 (10, L, (.int x) :: S, H, k, n) Q ↔ Q (some (.int (x)), H) := gRet d11_10 rfl rfl rfl rfl h1 h2
theorem r1_13_0 (vs : List Value) : rdO Pg 1 13 (.inr 0, vs) = vs[0]? := rfl
theorem r1_18_0 (vs : List Value) : rdO Pg 1 18 (.inr 0, vs) = vs[1]? := rfl
theorem r6_18_0 (vs : List Value) : rdO Pg 6 18 (.inr 0, vs) = vs[1]? := rfl
theorem r6_13_0 (vs : List Value) : rdO Pg 6 13 (.inr 0, vs) = vs[0]? := rfl
theorem r8_13_1 (vs : List Value) : rdO Pg 8 13 (.inr 1, vs) = vs[1]? := rfl
theorem r9_7_1 (vs : List Value) : rdO Pg 9 7 (.inr 1, vs) = vs[0]? := rfl
theorem q1_13_0 (x : Nat) (u0 u1 : Value) : wrO Pg 1 13 (.ref x) (.inr 0, [u0, u1]) = some (.inr 0, [.ref x, u1]) := rfl
theorem q1_13_0n (u0 u1 : Value) : wrO Pg 1 13 .null (.inr 0, [u0, u1]) = some (.inr 0, [.null, u1]) := rfl
theorem q1_18_0 (x : Nat) (u0 u1 : Value) : wrO Pg 1 18 (.ref x) (.inr 0, [u0, u1]) = some (.inr 0, [u0, .ref x]) := rfl
theorem q1_18_0n (u0 u1 : Value) : wrO Pg 1 18 .null (.inr 0, [u0, u1]) = some (.inr 0, [u0, .null]) := rfl
theorem q7_7_1 (x : Nat) (u0 u1 : Value) : wrO Pg 7 7 (.ref x) (.inr 1, [u0, u1]) = some (.inr 1, [.ref x, u1]) := rfl
theorem q7_7_1n (u0 u1 : Value) : wrO Pg 7 7 .null (.inr 1, [u0, u1]) = some (.inr 1, [.null, u1]) := rfl
theorem q7_13_1 (x : Int32) (u0 u1 : Value) : wrO Pg 7 13 (.int x) (.inr 1, [u0, u1]) = some (.inr 1, [u0, .int x]) := rfl
theorem k1_8_0 : lkK Pg.ca 1 8 (.inl .int) = some true := by decide
def own_P : List Value → List Value → Prop
  | [], ws => ws = []
  | [x], ws => ws = [x]
  | [.int x, .int y], ws => ws = if x ≤ y then [.int x, .int y] else [.int y, .int x]
  | _, ws => ∃ p q r : Int32, ws = [.int p, .int q, .int r]
def own_A (vs : List Value) : Prop := vs = [] ∨ (∃ x : Int32, vs = [.int x]) ∨ (∃ x y : Int32, vs = [.int x, .int y]) ∨ ∃ x y z : Int32, vs = [.int x, .int y, .int z]
theorem own_ss {H : Hp} {a : Nat} {o : Obj} (e : H[a]? = some o) (o' : Obj) : (H.set a o')[a]? = some o' := List.getElem?_set_self (List.getElem?_eq_some_iff.mp e).1
theorem own_same {H : Hp} {a : Nat} {o : Obj} (e : H[a]? = some o) : H.set a o = H := by
  obtain ⟨h, rfl⟩ := List.getElem?_eq_some_iff.mp e
  exact List.set_getElem_self h
theorem own_m1 : (1 : Int32) + -1 = 0 := by decide
theorem own_m2 : (2 : Int32) + -1 = 1 := by decide
theorem own_m0 : (0 : Int32) + -1 = -1 := by decide
theorem own_p1 : (-1 : Int32) + 1 = 0 := by decide
theorem own_ins0 {H : Hp} {a : Nat} (e : H[a]? = some (.inl .int, [])) {Q : MRes → Prop} (hq : Q (none, H)) : Wp Pg 5 (0, [.val (.ref a), .val (.int 0), .val (.int 0), .unset, .unset, .unset], [], H, 0, 0) Q := by
  simp +decide only [w5_0, w5_1, w5_3, w5_6, w5_8, w5_9, w5_12, w5_13, w5_15, w5_16, w5_17, w5_18, w5_20, w5_22, w5_23, w5_24, w5_25, w5_26, w5_27, w5_30, w5_33, w5_34, w5_35, w5_38, w5_40, w5_41, w5_42, w5_43, w5_46, w5_47, w5_48, w5_49, w5_50, w5_51, w5_52, w5_53, w5_54, w5_57, w5_58, w5_59, w5_60, w5_61, w5_63, w5_64, w5_67, List.length_cons, List.length_nil, List.length_append, List.length_set, List.length_replicate, wt_nil, wt_int, wt_ref, wt_null, wt_long, wt_double, s1_unset, s1_int, s1_ref, s1_null, s2_unset, s2_val, s3_unset, s3_second, s3_int, s3_ref, isA_ref', isA_null', cat_int, cat_ref, cat_null, List.cons_append, List.nil_append, List.getElem?_cons_zero, List.getElem?_cons_succ, List.getElem?_nil, List.set_cons_zero, List.set_cons_succ, Option.toList_some, Option.toList_none, Option.some.injEq, exists_eq_left', Option.bind_some, Option.map_some, kdOf_eq, kdO_obj, rdF_eq, wrF_eq, alen_eq, ldA_eq, ldO_i, ldO_b, ldO_c, ldO_a, stA_i, stO_i, stA_b, stO_b, stA_c, stO_c, stA_d, stO_d, ldO_d, j0_eq, Nat.not_lt_zero, if_true, if_false, not_false_eq_true, not_true_eq_false, true_and, and_true, reduceCtorEq, Value.ref.injEq, ne_eq, Nat.zero_add, Nat.add_zero, Nat.reduceAdd, Nat.reduceLeDiff, Nat.le_refl, Nat.reduceLT, Nat.zero_le, Value.int.injEq, Value.long.injEq, tn0, tn1, tn2, tn3, tn4, tn5, tn6, tn7, tn8, tn9, tl0, tl1, tl2, tl3, tl4, tl5, tl6, tl7, tl8, tl9, rp0, rp1, rp2, rp3, rp4, rp5, rp6, rp7, rp8, rp9, alO_a, an0, an1, ↓reduceIte, Int32.reduceAdd, Int32.reduceSub, Int32.reduceMul, Int32.reduceLT, Int32.reduceLE, Int32.reduceToNatClampNeg, Int64.reduceLT, Int64.reduceLE, Int64.reduceAdd, on0, on1, on2, on3, on4, on5, on6, on7, on8, on9, e, hq]
theorem own_ins1 {H : Hp} {a : Nat} {x : Int32} (e : H[a]? = some (.inl .int, [.int x])) {Q : MRes → Prop} (hq : Q (none, H)) : Wp Pg 5 (0, [.val (.ref a), .val (.int 0), .val (.int 1), .unset, .unset, .unset], [], H, 0, 0) Q := by
  simp +decide only [w5_0, w5_1, w5_3, w5_6, w5_8, w5_9, w5_12, w5_13, w5_15, w5_16, w5_17, w5_18, w5_20, w5_22, w5_23, w5_24, w5_25, w5_26, w5_27, w5_30, w5_33, w5_34, w5_35, w5_38, w5_40, w5_41, w5_42, w5_43, w5_46, w5_47, w5_48, w5_49, w5_50, w5_51, w5_52, w5_53, w5_54, w5_57, w5_58, w5_59, w5_60, w5_61, w5_63, w5_64, w5_67, List.length_cons, List.length_nil, List.length_append, List.length_set, List.length_replicate, wt_nil, wt_int, wt_ref, wt_null, wt_long, wt_double, s1_unset, s1_int, s1_ref, s1_null, s2_unset, s2_val, s3_unset, s3_second, s3_int, s3_ref, isA_ref', isA_null', cat_int, cat_ref, cat_null, List.cons_append, List.nil_append, List.getElem?_cons_zero, List.getElem?_cons_succ, List.getElem?_nil, List.set_cons_zero, List.set_cons_succ, Option.toList_some, Option.toList_none, Option.some.injEq, exists_eq_left', Option.bind_some, Option.map_some, kdOf_eq, kdO_obj, rdF_eq, wrF_eq, alen_eq, ldA_eq, ldO_i, ldO_b, ldO_c, ldO_a, stA_i, stO_i, stA_b, stO_b, stA_c, stO_c, stA_d, stO_d, ldO_d, j0_eq, Nat.not_lt_zero, if_true, if_false, not_false_eq_true, not_true_eq_false, true_and, and_true, reduceCtorEq, Value.ref.injEq, ne_eq, Nat.zero_add, Nat.add_zero, Nat.reduceAdd, Nat.reduceLeDiff, Nat.le_refl, Nat.reduceLT, Nat.zero_le, Value.int.injEq, Value.long.injEq, tn0, tn1, tn2, tn3, tn4, tn5, tn6, tn7, tn8, tn9, tl0, tl1, tl2, tl3, tl4, tl5, tl6, tl7, tl8, tl9, rp0, rp1, rp2, rp3, rp4, rp5, rp6, rp7, rp8, rp9, alO_a, an0, an1, ↓reduceIte, Int32.reduceAdd, Int32.reduceSub, Int32.reduceMul, Int32.reduceLT, Int32.reduceLE, Int32.reduceToNatClampNeg, Int64.reduceLT, Int64.reduceLE, Int64.reduceAdd, on0, on1, on2, on3, on4, on5, on6, on7, on8, on9, e, hq]
theorem own_ins2 {H : Hp} {a : Nat} {x y : Int32} (e : H[a]? = some (.inl .int, [.int x, .int y])) {Q : MRes → Prop} (hq : Q (none, H.set a (.inl .int, if x ≤ y then [.int x, .int y] else [.int y, .int x]))) : Wp Pg 5 (0, [.val (.ref a), .val (.int 0), .val (.int 2), .unset, .unset, .unset], [], H, 0, 0) Q := by
  have hs := own_ss e
  by_cases h : x ≤ y
  · rw [if_pos h, own_same e] at hq
    simp +decide only [w5_0, w5_1, w5_3, w5_6, w5_8, w5_9, w5_12, w5_13, w5_15, w5_16, w5_17, w5_18, w5_20, w5_22, w5_23, w5_24, w5_25, w5_26, w5_27, w5_30, w5_33, w5_34, w5_35, w5_38, w5_40, w5_41, w5_42, w5_43, w5_46, w5_47, w5_48, w5_49, w5_50, w5_51, w5_52, w5_53, w5_54, w5_57, w5_58, w5_59, w5_60, w5_61, w5_63, w5_64, w5_67, List.length_cons, List.length_nil, List.length_append, List.length_set, List.length_replicate, wt_nil, wt_int, wt_ref, wt_null, wt_long, wt_double, s1_unset, s1_int, s1_ref, s1_null, s2_unset, s2_val, s3_unset, s3_second, s3_int, s3_ref, isA_ref', isA_null', cat_int, cat_ref, cat_null, List.cons_append, List.nil_append, List.getElem?_cons_zero, List.getElem?_cons_succ, List.getElem?_nil, List.set_cons_zero, List.set_cons_succ, Option.toList_some, Option.toList_none, Option.some.injEq, exists_eq_left', Option.bind_some, Option.map_some, kdOf_eq, kdO_obj, rdF_eq, wrF_eq, alen_eq, ldA_eq, ldO_i, ldO_b, ldO_c, ldO_a, stA_i, stO_i, stA_b, stO_b, stA_c, stO_c, stA_d, stO_d, ldO_d, j0_eq, Nat.not_lt_zero, if_true, if_false, not_false_eq_true, not_true_eq_false, true_and, and_true, reduceCtorEq, Value.ref.injEq, ne_eq, Nat.zero_add, Nat.add_zero, Nat.reduceAdd, Nat.reduceLeDiff, Nat.le_refl, Nat.reduceLT, Nat.zero_le, Value.int.injEq, Value.long.injEq, tn0, tn1, tn2, tn3, tn4, tn5, tn6, tn7, tn8, tn9, tl0, tl1, tl2, tl3, tl4, tl5, tl6, tl7, tl8, tl9, rp0, rp1, rp2, rp3, rp4, rp5, rp6, rp7, rp8, rp9, alO_a, an0, an1, ↓reduceIte, Int32.reduceAdd, Int32.reduceSub, Int32.reduceMul, Int32.reduceLT, Int32.reduceLE, Int32.reduceToNatClampNeg, Int64.reduceLT, Int64.reduceLE, Int64.reduceAdd, on0, on1, on2, on3, on4, on5, on6, on7, on8, on9, e, h, hq, own_m1, own_m2, own_m0, own_p1]
  · rw [if_neg h] at hq
    simp +decide only [w5_0, w5_1, w5_3, w5_6, w5_8, w5_9, w5_12, w5_13, w5_15, w5_16, w5_17, w5_18, w5_20, w5_22, w5_23, w5_24, w5_25, w5_26, w5_27, w5_30, w5_33, w5_34, w5_35, w5_38, w5_40, w5_41, w5_42, w5_43, w5_46, w5_47, w5_48, w5_49, w5_50, w5_51, w5_52, w5_53, w5_54, w5_57, w5_58, w5_59, w5_60, w5_61, w5_63, w5_64, w5_67, List.length_cons, List.length_nil, List.length_append, List.length_set, List.length_replicate, wt_nil, wt_int, wt_ref, wt_null, wt_long, wt_double, s1_unset, s1_int, s1_ref, s1_null, s2_unset, s2_val, s3_unset, s3_second, s3_int, s3_ref, isA_ref', isA_null', cat_int, cat_ref, cat_null, List.cons_append, List.nil_append, List.getElem?_cons_zero, List.getElem?_cons_succ, List.getElem?_nil, List.set_cons_zero, List.set_cons_succ, Option.toList_some, Option.toList_none, Option.some.injEq, exists_eq_left', Option.bind_some, Option.map_some, kdOf_eq, kdO_obj, rdF_eq, wrF_eq, alen_eq, ldA_eq, ldO_i, ldO_b, ldO_c, ldO_a, stA_i, stO_i, stA_b, stO_b, stA_c, stO_c, stA_d, stO_d, ldO_d, j0_eq, Nat.not_lt_zero, if_true, if_false, not_false_eq_true, not_true_eq_false, true_and, and_true, reduceCtorEq, Value.ref.injEq, ne_eq, Nat.zero_add, Nat.add_zero, Nat.reduceAdd, Nat.reduceLeDiff, Nat.le_refl, Nat.reduceLT, Nat.zero_le, Value.int.injEq, Value.long.injEq, tn0, tn1, tn2, tn3, tn4, tn5, tn6, tn7, tn8, tn9, tl0, tl1, tl2, tl3, tl4, tl5, tl6, tl7, tl8, tl9, rp0, rp1, rp2, rp3, rp4, rp5, rp6, rp7, rp8, rp9, alO_a, an0, an1, ↓reduceIte, Int32.reduceAdd, Int32.reduceSub, Int32.reduceMul, Int32.reduceLT, Int32.reduceLE, Int32.reduceToNatClampNeg, Int64.reduceLT, Int64.reduceLE, Int64.reduceAdd, on0, on1, on2, on3, on4, on5, on6, on7, on8, on9, e, hs, List.set_set, h, hq, own_m1, own_m2, own_m0, own_p1]
theorem own_ins3 {H : Hp} {a : Nat} {x y z : Int32} (e : H[a]? = some (.inl .int, [.int x, .int y, .int z])) {Q : MRes → Prop} (hq : ∀ p q r : Int32, Q (none, H.set a (.inl .int, [.int p, .int q, .int r]))) : Wp Pg 5 (0, [.val (.ref a), .val (.int 0), .val (.int 3), .unset, .unset, .unset], [], H, 0, 0) Q := by
  have hs := own_ss e
  have hq0 : Q (none, H) := by
    have := hq x y z
    rw [own_same e] at this
    exact this
  by_cases h : x ≤ y <;> by_cases h2 : y ≤ z <;> by_cases h3 : x ≤ z <;>
    simp +decide only [w5_0, w5_1, w5_3, w5_6, w5_8, w5_9, w5_12, w5_13, w5_15, w5_16, w5_17, w5_18, w5_20, w5_22, w5_23, w5_24, w5_25, w5_26, w5_27, w5_30, w5_33, w5_34, w5_35, w5_38, w5_40, w5_41, w5_42, w5_43, w5_46, w5_47, w5_48, w5_49, w5_50, w5_51, w5_52, w5_53, w5_54, w5_57, w5_58, w5_59, w5_60, w5_61, w5_63, w5_64, w5_67, List.length_cons, List.length_nil, List.length_append, List.length_set, List.length_replicate, wt_nil, wt_int, wt_ref, wt_null, wt_long, wt_double, s1_unset, s1_int, s1_ref, s1_null, s2_unset, s2_val, s3_unset, s3_second, s3_int, s3_ref, isA_ref', isA_null', cat_int, cat_ref, cat_null, List.cons_append, List.nil_append, List.getElem?_cons_zero, List.getElem?_cons_succ, List.getElem?_nil, List.set_cons_zero, List.set_cons_succ, Option.toList_some, Option.toList_none, Option.some.injEq, exists_eq_left', Option.bind_some, Option.map_some, kdOf_eq, kdO_obj, rdF_eq, wrF_eq, alen_eq, ldA_eq, ldO_i, ldO_b, ldO_c, ldO_a, stA_i, stO_i, stA_b, stO_b, stA_c, stO_c, stA_d, stO_d, ldO_d, j0_eq, Nat.not_lt_zero, if_true, if_false, not_false_eq_true, not_true_eq_false, true_and, and_true, reduceCtorEq, Value.ref.injEq, ne_eq, Nat.zero_add, Nat.add_zero, Nat.reduceAdd, Nat.reduceLeDiff, Nat.le_refl, Nat.reduceLT, Nat.zero_le, Value.int.injEq, Value.long.injEq, tn0, tn1, tn2, tn3, tn4, tn5, tn6, tn7, tn8, tn9, tl0, tl1, tl2, tl3, tl4, tl5, tl6, tl7, tl8, tl9, rp0, rp1, rp2, rp3, rp4, rp5, rp6, rp7, rp8, rp9, alO_a, an0, an1, ↓reduceIte, Int32.reduceAdd, Int32.reduceSub, Int32.reduceMul, Int32.reduceLT, Int32.reduceLE, Int32.reduceToNatClampNeg, Int64.reduceLT, Int64.reduceLE, Int64.reduceAdd, on0, on1, on2, on3, on4, on5, on6, on7, on8, on9, e, hs, List.set_set, h, h2, h3, hq, hq0, own_m1, own_m2, own_m0, own_p1]
theorem own_sort {vs : List Value} (hv : own_A vs) {H : Hp} {a : Nat} (e : H[a]? = some (.inl .int, vs)) {Q : MRes → Prop} (hq : ∀ ws, own_P vs ws → Q (none, H.set a (.inl .int, ws))) : Wp Pg 2 (0, [.val (.ref a)], [], H, 0, 0) Q := by
  rcases hv with rfl | ⟨x, rfl⟩ | ⟨x, y, rfl⟩ | ⟨x, y, z, rfl⟩
  · have hq := hq [] rfl
    rw [own_same e] at hq
    simp +decide only [w2_0, w2_1, w2_2, w2_3, w2_4, w2_5, w2_8, w3_0, w3_1, w3_2, w3_3, w3_5, w3_6, w3_7, w3_10, w3_12, w3_15, w3_18, w3_19, w3_21, w3_23, w3_68, w3_69, w3_70, w3_71, w3_72, w3_73, w3_76, w4_0, w4_2, w4_3, w4_4, w4_6, w4_8, w4_9, w4_10, w4_12, w4_14, w4_16, w4_17, w4_18, w4_21, w4_22, w4_23, w4_24, w4_27, w4_28, w4_29, w4_31, w4_32, w4_34, w4_35, w4_36, w4_37, w4_38, w4_39, w4_40, w4_46, w4_48, w4_50, w4_53, w4_54, w4_55, w4_57, List.length_cons, List.length_nil, List.length_append, List.length_set, List.length_replicate, wt_nil, wt_int, wt_ref, wt_null, wt_long, wt_double, s1_unset, s1_int, s1_ref, s1_null, s2_unset, s2_val, s3_unset, s3_second, s3_int, s3_ref, isA_ref', isA_null', cat_int, cat_ref, cat_null, List.cons_append, List.nil_append, List.getElem?_cons_zero, List.getElem?_cons_succ, List.getElem?_nil, List.set_cons_zero, List.set_cons_succ, Option.toList_some, Option.toList_none, Option.some.injEq, exists_eq_left', Option.bind_some, Option.map_some, kdOf_eq, kdO_obj, rdF_eq, wrF_eq, alen_eq, ldA_eq, ldO_i, ldO_b, ldO_c, ldO_a, stA_i, stO_i, stA_b, stO_b, stA_c, stO_c, stA_d, stO_d, ldO_d, j0_eq, Nat.not_lt_zero, if_true, if_false, not_false_eq_true, not_true_eq_false, true_and, and_true, reduceCtorEq, Value.ref.injEq, ne_eq, Nat.zero_add, Nat.add_zero, Nat.reduceAdd, Nat.reduceLeDiff, Nat.le_refl, Nat.reduceLT, Nat.zero_le, Value.int.injEq, Value.long.injEq, tn0, tn1, tn2, tn3, tn4, tn5, tn6, tn7, tn8, tn9, tl0, tl1, tl2, tl3, tl4, tl5, tl6, tl7, tl8, tl9, rp0, rp1, rp2, rp3, rp4, rp5, rp6, rp7, rp8, rp9, alO_a, an0, an1, ↓reduceIte, Int32.reduceAdd, Int32.reduceSub, Int32.reduceMul, Int32.reduceLT, Int32.reduceLE, Int32.reduceToNatClampNeg, Int64.reduceLT, Int64.reduceLE, Int64.reduceAdd, on0, on1, on2, on3, on4, on5, on6, on7, on8, on9, e]
    refine own_ins0 e ?_
    simp +decide only [w2_0, w2_1, w2_2, w2_3, w2_4, w2_5, w2_8, w3_0, w3_1, w3_2, w3_3, w3_5, w3_6, w3_7, w3_10, w3_12, w3_15, w3_18, w3_19, w3_21, w3_23, w3_68, w3_69, w3_70, w3_71, w3_72, w3_73, w3_76, w4_60, List.length_cons, List.length_nil, List.length_append, List.length_set, List.length_replicate, wt_nil, wt_int, wt_ref, wt_null, wt_long, wt_double, s1_unset, s1_int, s1_ref, s1_null, s2_unset, s2_val, s3_unset, s3_second, s3_int, s3_ref, isA_ref', isA_null', cat_int, cat_ref, cat_null, List.cons_append, List.nil_append, List.getElem?_cons_zero, List.getElem?_cons_succ, List.getElem?_nil, List.set_cons_zero, List.set_cons_succ, Option.toList_some, Option.toList_none, Option.some.injEq, exists_eq_left', Option.bind_some, Option.map_some, kdOf_eq, kdO_obj, rdF_eq, wrF_eq, alen_eq, ldA_eq, ldO_i, ldO_b, ldO_c, ldO_a, stA_i, stO_i, stA_b, stO_b, stA_c, stO_c, stA_d, stO_d, ldO_d, j0_eq, Nat.not_lt_zero, if_true, if_false, not_false_eq_true, not_true_eq_false, true_and, and_true, reduceCtorEq, Value.ref.injEq, ne_eq, Nat.zero_add, Nat.add_zero, Nat.reduceAdd, Nat.reduceLeDiff, Nat.le_refl, Nat.reduceLT, Nat.zero_le, Value.int.injEq, Value.long.injEq, tn0, tn1, tn2, tn3, tn4, tn5, tn6, tn7, tn8, tn9, tl0, tl1, tl2, tl3, tl4, tl5, tl6, tl7, tl8, tl9, rp0, rp1, rp2, rp3, rp4, rp5, rp6, rp7, rp8, rp9, alO_a, an0, an1, ↓reduceIte, Int32.reduceAdd, Int32.reduceSub, Int32.reduceMul, Int32.reduceLT, Int32.reduceLE, Int32.reduceToNatClampNeg, Int64.reduceLT, Int64.reduceLE, Int64.reduceAdd, on0, on1, on2, on3, on4, on5, on6, on7, on8, on9, hq]
  · have hq := hq [.int x] rfl
    rw [own_same e] at hq
    simp +decide only [w2_0, w2_1, w2_2, w2_3, w2_4, w2_5, w2_8, w3_0, w3_1, w3_2, w3_3, w3_5, w3_6, w3_7, w3_10, w3_12, w3_15, w3_18, w3_19, w3_21, w3_23, w3_68, w3_69, w3_70, w3_71, w3_72, w3_73, w3_76, w4_0, w4_2, w4_3, w4_4, w4_6, w4_8, w4_9, w4_10, w4_12, w4_14, w4_16, w4_17, w4_18, w4_21, w4_22, w4_23, w4_24, w4_27, w4_28, w4_29, w4_31, w4_32, w4_34, w4_35, w4_36, w4_37, w4_38, w4_39, w4_40, w4_46, w4_48, w4_50, w4_53, w4_54, w4_55, w4_57, List.length_cons, List.length_nil, List.length_append, List.length_set, List.length_replicate, wt_nil, wt_int, wt_ref, wt_null, wt_long, wt_double, s1_unset, s1_int, s1_ref, s1_null, s2_unset, s2_val, s3_unset, s3_second, s3_int, s3_ref, isA_ref', isA_null', cat_int, cat_ref, cat_null, List.cons_append, List.nil_append, List.getElem?_cons_zero, List.getElem?_cons_succ, List.getElem?_nil, List.set_cons_zero, List.set_cons_succ, Option.toList_some, Option.toList_none, Option.some.injEq, exists_eq_left', Option.bind_some, Option.map_some, kdOf_eq, kdO_obj, rdF_eq, wrF_eq, alen_eq, ldA_eq, ldO_i, ldO_b, ldO_c, ldO_a, stA_i, stO_i, stA_b, stO_b, stA_c, stO_c, stA_d, stO_d, ldO_d, j0_eq, Nat.not_lt_zero, if_true, if_false, not_false_eq_true, not_true_eq_false, true_and, and_true, reduceCtorEq, Value.ref.injEq, ne_eq, Nat.zero_add, Nat.add_zero, Nat.reduceAdd, Nat.reduceLeDiff, Nat.le_refl, Nat.reduceLT, Nat.zero_le, Value.int.injEq, Value.long.injEq, tn0, tn1, tn2, tn3, tn4, tn5, tn6, tn7, tn8, tn9, tl0, tl1, tl2, tl3, tl4, tl5, tl6, tl7, tl8, tl9, rp0, rp1, rp2, rp3, rp4, rp5, rp6, rp7, rp8, rp9, alO_a, an0, an1, ↓reduceIte, Int32.reduceAdd, Int32.reduceSub, Int32.reduceMul, Int32.reduceLT, Int32.reduceLE, Int32.reduceToNatClampNeg, Int64.reduceLT, Int64.reduceLE, Int64.reduceAdd, on0, on1, on2, on3, on4, on5, on6, on7, on8, on9, e]
    refine own_ins1 e ?_
    simp +decide only [w2_0, w2_1, w2_2, w2_3, w2_4, w2_5, w2_8, w3_0, w3_1, w3_2, w3_3, w3_5, w3_6, w3_7, w3_10, w3_12, w3_15, w3_18, w3_19, w3_21, w3_23, w3_68, w3_69, w3_70, w3_71, w3_72, w3_73, w3_76, w4_60, List.length_cons, List.length_nil, List.length_append, List.length_set, List.length_replicate, wt_nil, wt_int, wt_ref, wt_null, wt_long, wt_double, s1_unset, s1_int, s1_ref, s1_null, s2_unset, s2_val, s3_unset, s3_second, s3_int, s3_ref, isA_ref', isA_null', cat_int, cat_ref, cat_null, List.cons_append, List.nil_append, List.getElem?_cons_zero, List.getElem?_cons_succ, List.getElem?_nil, List.set_cons_zero, List.set_cons_succ, Option.toList_some, Option.toList_none, Option.some.injEq, exists_eq_left', Option.bind_some, Option.map_some, kdOf_eq, kdO_obj, rdF_eq, wrF_eq, alen_eq, ldA_eq, ldO_i, ldO_b, ldO_c, ldO_a, stA_i, stO_i, stA_b, stO_b, stA_c, stO_c, stA_d, stO_d, ldO_d, j0_eq, Nat.not_lt_zero, if_true, if_false, not_false_eq_true, not_true_eq_false, true_and, and_true, reduceCtorEq, Value.ref.injEq, ne_eq, Nat.zero_add, Nat.add_zero, Nat.reduceAdd, Nat.reduceLeDiff, Nat.le_refl, Nat.reduceLT, Nat.zero_le, Value.int.injEq, Value.long.injEq, tn0, tn1, tn2, tn3, tn4, tn5, tn6, tn7, tn8, tn9, tl0, tl1, tl2, tl3, tl4, tl5, tl6, tl7, tl8, tl9, rp0, rp1, rp2, rp3, rp4, rp5, rp6, rp7, rp8, rp9, alO_a, an0, an1, ↓reduceIte, Int32.reduceAdd, Int32.reduceSub, Int32.reduceMul, Int32.reduceLT, Int32.reduceLE, Int32.reduceToNatClampNeg, Int64.reduceLT, Int64.reduceLE, Int64.reduceAdd, on0, on1, on2, on3, on4, on5, on6, on7, on8, on9, hq]
  · have hq := hq _ rfl
    simp +decide only [w2_0, w2_1, w2_2, w2_3, w2_4, w2_5, w2_8, w3_0, w3_1, w3_2, w3_3, w3_5, w3_6, w3_7, w3_10, w3_12, w3_15, w3_18, w3_19, w3_21, w3_23, w3_68, w3_69, w3_70, w3_71, w3_72, w3_73, w3_76, w4_0, w4_2, w4_3, w4_4, w4_6, w4_8, w4_9, w4_10, w4_12, w4_14, w4_16, w4_17, w4_18, w4_21, w4_22, w4_23, w4_24, w4_27, w4_28, w4_29, w4_31, w4_32, w4_34, w4_35, w4_36, w4_37, w4_38, w4_39, w4_40, w4_46, w4_48, w4_50, w4_53, w4_54, w4_55, w4_57, List.length_cons, List.length_nil, List.length_append, List.length_set, List.length_replicate, wt_nil, wt_int, wt_ref, wt_null, wt_long, wt_double, s1_unset, s1_int, s1_ref, s1_null, s2_unset, s2_val, s3_unset, s3_second, s3_int, s3_ref, isA_ref', isA_null', cat_int, cat_ref, cat_null, List.cons_append, List.nil_append, List.getElem?_cons_zero, List.getElem?_cons_succ, List.getElem?_nil, List.set_cons_zero, List.set_cons_succ, Option.toList_some, Option.toList_none, Option.some.injEq, exists_eq_left', Option.bind_some, Option.map_some, kdOf_eq, kdO_obj, rdF_eq, wrF_eq, alen_eq, ldA_eq, ldO_i, ldO_b, ldO_c, ldO_a, stA_i, stO_i, stA_b, stO_b, stA_c, stO_c, stA_d, stO_d, ldO_d, j0_eq, Nat.not_lt_zero, if_true, if_false, not_false_eq_true, not_true_eq_false, true_and, and_true, reduceCtorEq, Value.ref.injEq, ne_eq, Nat.zero_add, Nat.add_zero, Nat.reduceAdd, Nat.reduceLeDiff, Nat.le_refl, Nat.reduceLT, Nat.zero_le, Value.int.injEq, Value.long.injEq, tn0, tn1, tn2, tn3, tn4, tn5, tn6, tn7, tn8, tn9, tl0, tl1, tl2, tl3, tl4, tl5, tl6, tl7, tl8, tl9, rp0, rp1, rp2, rp3, rp4, rp5, rp6, rp7, rp8, rp9, alO_a, an0, an1, ↓reduceIte, Int32.reduceAdd, Int32.reduceSub, Int32.reduceMul, Int32.reduceLT, Int32.reduceLE, Int32.reduceToNatClampNeg, Int64.reduceLT, Int64.reduceLE, Int64.reduceAdd, on0, on1, on2, on3, on4, on5, on6, on7, on8, on9, e]
    refine own_ins2 e ?_
    simp +decide only [w2_0, w2_1, w2_2, w2_3, w2_4, w2_5, w2_8, w3_0, w3_1, w3_2, w3_3, w3_5, w3_6, w3_7, w3_10, w3_12, w3_15, w3_18, w3_19, w3_21, w3_23, w3_68, w3_69, w3_70, w3_71, w3_72, w3_73, w3_76, w4_60, List.length_cons, List.length_nil, List.length_append, List.length_set, List.length_replicate, wt_nil, wt_int, wt_ref, wt_null, wt_long, wt_double, s1_unset, s1_int, s1_ref, s1_null, s2_unset, s2_val, s3_unset, s3_second, s3_int, s3_ref, isA_ref', isA_null', cat_int, cat_ref, cat_null, List.cons_append, List.nil_append, List.getElem?_cons_zero, List.getElem?_cons_succ, List.getElem?_nil, List.set_cons_zero, List.set_cons_succ, Option.toList_some, Option.toList_none, Option.some.injEq, exists_eq_left', Option.bind_some, Option.map_some, kdOf_eq, kdO_obj, rdF_eq, wrF_eq, alen_eq, ldA_eq, ldO_i, ldO_b, ldO_c, ldO_a, stA_i, stO_i, stA_b, stO_b, stA_c, stO_c, stA_d, stO_d, ldO_d, j0_eq, Nat.not_lt_zero, if_true, if_false, not_false_eq_true, not_true_eq_false, true_and, and_true, reduceCtorEq, Value.ref.injEq, ne_eq, Nat.zero_add, Nat.add_zero, Nat.reduceAdd, Nat.reduceLeDiff, Nat.le_refl, Nat.reduceLT, Nat.zero_le, Value.int.injEq, Value.long.injEq, tn0, tn1, tn2, tn3, tn4, tn5, tn6, tn7, tn8, tn9, tl0, tl1, tl2, tl3, tl4, tl5, tl6, tl7, tl8, tl9, rp0, rp1, rp2, rp3, rp4, rp5, rp6, rp7, rp8, rp9, alO_a, an0, an1, ↓reduceIte, Int32.reduceAdd, Int32.reduceSub, Int32.reduceMul, Int32.reduceLT, Int32.reduceLE, Int32.reduceToNatClampNeg, Int64.reduceLT, Int64.reduceLE, Int64.reduceAdd, on0, on1, on2, on3, on4, on5, on6, on7, on8, on9]
    exact hq
  · have hq := fun p q r => hq [.int p, .int q, .int r] ⟨p, q, r, rfl⟩
    simp +decide only [w2_0, w2_1, w2_2, w2_3, w2_4, w2_5, w2_8, w3_0, w3_1, w3_2, w3_3, w3_5, w3_6, w3_7, w3_10, w3_12, w3_15, w3_18, w3_19, w3_21, w3_23, w3_68, w3_69, w3_70, w3_71, w3_72, w3_73, w3_76, w4_0, w4_2, w4_3, w4_4, w4_6, w4_8, w4_9, w4_10, w4_12, w4_14, w4_16, w4_17, w4_18, w4_21, w4_22, w4_23, w4_24, w4_27, w4_28, w4_29, w4_31, w4_32, w4_34, w4_35, w4_36, w4_37, w4_38, w4_39, w4_40, w4_46, w4_48, w4_50, w4_53, w4_54, w4_55, w4_57, List.length_cons, List.length_nil, List.length_append, List.length_set, List.length_replicate, wt_nil, wt_int, wt_ref, wt_null, wt_long, wt_double, s1_unset, s1_int, s1_ref, s1_null, s2_unset, s2_val, s3_unset, s3_second, s3_int, s3_ref, isA_ref', isA_null', cat_int, cat_ref, cat_null, List.cons_append, List.nil_append, List.getElem?_cons_zero, List.getElem?_cons_succ, List.getElem?_nil, List.set_cons_zero, List.set_cons_succ, Option.toList_some, Option.toList_none, Option.some.injEq, exists_eq_left', Option.bind_some, Option.map_some, kdOf_eq, kdO_obj, rdF_eq, wrF_eq, alen_eq, ldA_eq, ldO_i, ldO_b, ldO_c, ldO_a, stA_i, stO_i, stA_b, stO_b, stA_c, stO_c, stA_d, stO_d, ldO_d, j0_eq, Nat.not_lt_zero, if_true, if_false, not_false_eq_true, not_true_eq_false, true_and, and_true, reduceCtorEq, Value.ref.injEq, ne_eq, Nat.zero_add, Nat.add_zero, Nat.reduceAdd, Nat.reduceLeDiff, Nat.le_refl, Nat.reduceLT, Nat.zero_le, Value.int.injEq, Value.long.injEq, tn0, tn1, tn2, tn3, tn4, tn5, tn6, tn7, tn8, tn9, tl0, tl1, tl2, tl3, tl4, tl5, tl6, tl7, tl8, tl9, rp0, rp1, rp2, rp3, rp4, rp5, rp6, rp7, rp8, rp9, alO_a, an0, an1, ↓reduceIte, Int32.reduceAdd, Int32.reduceSub, Int32.reduceMul, Int32.reduceLT, Int32.reduceLE, Int32.reduceToNatClampNeg, Int64.reduceLT, Int64.reduceLE, Int64.reduceAdd, on0, on1, on2, on3, on4, on5, on6, on7, on8, on9, e]
    refine own_ins3 e fun p q r => ?_
    simp +decide only [w2_0, w2_1, w2_2, w2_3, w2_4, w2_5, w2_8, w3_0, w3_1, w3_2, w3_3, w3_5, w3_6, w3_7, w3_10, w3_12, w3_15, w3_18, w3_19, w3_21, w3_23, w3_68, w3_69, w3_70, w3_71, w3_72, w3_73, w3_76, w4_60, List.length_cons, List.length_nil, List.length_append, List.length_set, List.length_replicate, wt_nil, wt_int, wt_ref, wt_null, wt_long, wt_double, s1_unset, s1_int, s1_ref, s1_null, s2_unset, s2_val, s3_unset, s3_second, s3_int, s3_ref, isA_ref', isA_null', cat_int, cat_ref, cat_null, List.cons_append, List.nil_append, List.getElem?_cons_zero, List.getElem?_cons_succ, List.getElem?_nil, List.set_cons_zero, List.set_cons_succ, Option.toList_some, Option.toList_none, Option.some.injEq, exists_eq_left', Option.bind_some, Option.map_some, kdOf_eq, kdO_obj, rdF_eq, wrF_eq, alen_eq, ldA_eq, ldO_i, ldO_b, ldO_c, ldO_a, stA_i, stO_i, stA_b, stO_b, stA_c, stO_c, stA_d, stO_d, ldO_d, j0_eq, Nat.not_lt_zero, if_true, if_false, not_false_eq_true, not_true_eq_false, true_and, and_true, reduceCtorEq, Value.ref.injEq, ne_eq, Nat.zero_add, Nat.add_zero, Nat.reduceAdd, Nat.reduceLeDiff, Nat.le_refl, Nat.reduceLT, Nat.zero_le, Value.int.injEq, Value.long.injEq, tn0, tn1, tn2, tn3, tn4, tn5, tn6, tn7, tn8, tn9, tl0, tl1, tl2, tl3, tl4, tl5, tl6, tl7, tl8, tl9, rp0, rp1, rp2, rp3, rp4, rp5, rp6, rp7, rp8, rp9, alO_a, an0, an1, ↓reduceIte, Int32.reduceAdd, Int32.reduceSub, Int32.reduceMul, Int32.reduceLT, Int32.reduceLE, Int32.reduceToNatClampNeg, Int64.reduceLT, Int64.reduceLE, Int64.reduceAdd, on0, on1, on2, on3, on4, on5, on6, on7, on8, on9, hq]
theorem own_I {vs : List Value} (hv : own_A vs) : vs.all isI = true ∧ vs.length ≤ 3 := by
  rcases hv with rfl | ⟨x, rfl⟩ | ⟨x, y, rfl⟩ | ⟨x, y, z, rfl⟩ <;> exact ⟨rfl, Nat.le_of_ble_eq_true rfl⟩
theorem own_init {cs os : List Value} (hc : own_A cs) (ho : own_A os) {Q : MRes → Prop} (hq : ∀ cs' os', own_P cs cs' → own_P os os' → Q (none, [(.inl .int, cs), (.inl .int, os), (.inr 0, [.ref 3, .ref 4]), (.inl .int, cs'), (.inl .int, os')])) :
    Wp Pg 1 (0, [.val (.ref 2), .val (.ref 0), .val (.ref 1)], [], [(.inl .int, cs), (.inl .int, os), (.inr 0, [.null, .null])], 0, 0) Q := by
  have c3 : ∀ H : Hp, ∀ vs : List Value, H[3]? = some (.inl .int, vs) → castI Pg 1 8 H 3 = some true := fun H vs h => by simp only [castI, h]; decide
  have c4 : ∀ H : Hp, ∀ vs : List Value, H[4]? = some (.inl .int, vs) → castI Pg 1 8 H 4 = some true := fun H vs h => by simp only [castI, h]; decide
  simp +decide only [w1_0, w1_1, w1_4, w1_5, List.length_cons, List.length_nil, List.length_append, List.length_set, List.length_replicate, wt_nil, wt_int, wt_ref, wt_null, wt_long, wt_double, s1_unset, s1_int, s1_ref, s1_null, s2_unset, s2_val, s3_unset, s3_second, s3_int, s3_ref, isA_ref', isA_null', cat_int, cat_ref, cat_null, List.cons_append, List.nil_append, List.getElem?_cons_zero, List.getElem?_cons_succ, List.getElem?_nil, List.set_cons_zero, List.set_cons_succ, Option.toList_some, Option.toList_none, Option.some.injEq, exists_eq_left', Option.bind_some, Option.map_some, kdOf_eq, kdO_obj, rdF_eq, wrF_eq, alen_eq, ldA_eq, ldO_i, ldO_b, ldO_c, ldO_a, stA_i, stO_i, stA_b, stO_b, stA_c, stO_c, stA_d, stO_d, ldO_d, j0_eq, Nat.not_lt_zero, if_true, if_false, not_false_eq_true, not_true_eq_false, true_and, and_true, reduceCtorEq, Value.ref.injEq, ne_eq, Nat.zero_add, Nat.add_zero, Nat.reduceAdd, Nat.reduceLeDiff, Nat.le_refl, Nat.reduceLT, Nat.zero_le, Value.int.injEq, Value.long.injEq, tn0, tn1, tn2, tn3, tn4, tn5, tn6, tn7, tn8, tn9, tl0, tl1, tl2, tl3, tl4, tl5, tl6, tl7, tl8, tl9, rp0, rp1, rp2, rp3, rp4, rp5, rp6, rp7, rp8, rp9, alO_a, an0, an1, ↓reduceIte, Int32.reduceAdd, Int32.reduceSub, Int32.reduceMul, Int32.reduceLT, Int32.reduceLE, Int32.reduceToNatClampNeg, Int64.reduceLT, Int64.reduceLE, Int64.reduceAdd, on0, on1, on2, on3, on4, on5, on6, on7, on8, on9]
  refine (w1_6 (vs := cs) rfl (own_I hc).1 rfl (by decide) (own_I hc).2 (by decide) (by decide)).mpr ?_
  simp +decide only [List.length_cons, List.length_nil, List.cons_append, List.nil_append, Nat.zero_add, Nat.reduceAdd]
  rw [w1_9]
  refine ⟨c3 _ _ rfl, ?_⟩
  simp +decide only [w1_12, w1_15, w1_16, r1_13_0, r1_18_0, r6_18_0, r6_13_0, r8_13_1, r9_7_1, q1_13_0, q1_13_0n, q1_18_0, q1_18_0n, q7_7_1, q7_7_1n, q7_13_1, List.length_cons, List.length_nil, List.length_append, List.length_set, List.length_replicate, wt_nil, wt_int, wt_ref, wt_null, wt_long, wt_double, s1_unset, s1_int, s1_ref, s1_null, s2_unset, s2_val, s3_unset, s3_second, s3_int, s3_ref, isA_ref', isA_null', cat_int, cat_ref, cat_null, List.cons_append, List.nil_append, List.getElem?_cons_zero, List.getElem?_cons_succ, List.getElem?_nil, List.set_cons_zero, List.set_cons_succ, Option.toList_some, Option.toList_none, Option.some.injEq, exists_eq_left', Option.bind_some, Option.map_some, kdOf_eq, kdO_obj, rdF_eq, wrF_eq, alen_eq, ldA_eq, ldO_i, ldO_b, ldO_c, ldO_a, stA_i, stO_i, stA_b, stO_b, stA_c, stO_c, stA_d, stO_d, ldO_d, j0_eq, Nat.not_lt_zero, if_true, if_false, not_false_eq_true, not_true_eq_false, true_and, and_true, reduceCtorEq, Value.ref.injEq, ne_eq, Nat.zero_add, Nat.add_zero, Nat.reduceAdd, Nat.reduceLeDiff, Nat.le_refl, Nat.reduceLT, Nat.zero_le, Value.int.injEq, Value.long.injEq, tn0, tn1, tn2, tn3, tn4, tn5, tn6, tn7, tn8, tn9, tl0, tl1, tl2, tl3, tl4, tl5, tl6, tl7, tl8, tl9, rp0, rp1, rp2, rp3, rp4, rp5, rp6, rp7, rp8, rp9, alO_a, an0, an1, ↓reduceIte, Int32.reduceAdd, Int32.reduceSub, Int32.reduceMul, Int32.reduceLT, Int32.reduceLE, Int32.reduceToNatClampNeg, Int64.reduceLT, Int64.reduceLE, Int64.reduceAdd, on0, on1, on2, on3, on4, on5, on6, on7, on8, on9]
  refine (w1_17 (vs := os) rfl (own_I ho).1 rfl (by decide) (own_I ho).2 (by decide) (by decide)).mpr ?_
  simp +decide only [List.length_cons, List.length_nil, List.cons_append, List.nil_append, Nat.zero_add, Nat.reduceAdd]
  rw [w1_20]
  refine ⟨c4 _ _ rfl, ?_⟩
  simp +decide only [w1_23, w1_26, w1_27, w1_30, r1_13_0, r1_18_0, r6_18_0, r6_13_0, r8_13_1, r9_7_1, q1_13_0, q1_13_0n, q1_18_0, q1_18_0n, q7_7_1, q7_7_1n, q7_13_1, List.length_cons, List.length_nil, List.length_append, List.length_set, List.length_replicate, wt_nil, wt_int, wt_ref, wt_null, wt_long, wt_double, s1_unset, s1_int, s1_ref, s1_null, s2_unset, s2_val, s3_unset, s3_second, s3_int, s3_ref, isA_ref', isA_null', cat_int, cat_ref, cat_null, List.cons_append, List.nil_append, List.getElem?_cons_zero, List.getElem?_cons_succ, List.getElem?_nil, List.set_cons_zero, List.set_cons_succ, Option.toList_some, Option.toList_none, Option.some.injEq, exists_eq_left', Option.bind_some, Option.map_some, kdOf_eq, kdO_obj, rdF_eq, wrF_eq, alen_eq, ldA_eq, ldO_i, ldO_b, ldO_c, ldO_a, stA_i, stO_i, stA_b, stO_b, stA_c, stO_c, stA_d, stO_d, ldO_d, j0_eq, Nat.not_lt_zero, if_true, if_false, not_false_eq_true, not_true_eq_false, true_and, and_true, reduceCtorEq, Value.ref.injEq, ne_eq, Nat.zero_add, Nat.add_zero, Nat.reduceAdd, Nat.reduceLeDiff, Nat.le_refl, Nat.reduceLT, Nat.zero_le, Value.int.injEq, Value.long.injEq, tn0, tn1, tn2, tn3, tn4, tn5, tn6, tn7, tn8, tn9, tl0, tl1, tl2, tl3, tl4, tl5, tl6, tl7, tl8, tl9, rp0, rp1, rp2, rp3, rp4, rp5, rp6, rp7, rp8, rp9, alO_a, an0, an1, ↓reduceIte, Int32.reduceAdd, Int32.reduceSub, Int32.reduceMul, Int32.reduceLT, Int32.reduceLE, Int32.reduceToNatClampNeg, Int64.reduceLT, Int64.reduceLE, Int64.reduceAdd, on0, on1, on2, on3, on4, on5, on6, on7, on8, on9]
  refine own_sort hc rfl fun cs' h1 => ?_
  simp +decide only [w1_33, w1_34, w1_37, r1_13_0, r1_18_0, r6_18_0, r6_13_0, r8_13_1, r9_7_1, q1_13_0, q1_13_0n, q1_18_0, q1_18_0n, q7_7_1, q7_7_1n, q7_13_1, List.length_cons, List.length_nil, List.length_append, List.length_set, List.length_replicate, wt_nil, wt_int, wt_ref, wt_null, wt_long, wt_double, s1_unset, s1_int, s1_ref, s1_null, s2_unset, s2_val, s3_unset, s3_second, s3_int, s3_ref, isA_ref', isA_null', cat_int, cat_ref, cat_null, List.cons_append, List.nil_append, List.getElem?_cons_zero, List.getElem?_cons_succ, List.getElem?_nil, List.set_cons_zero, List.set_cons_succ, Option.toList_some, Option.toList_none, Option.some.injEq, exists_eq_left', Option.bind_some, Option.map_some, kdOf_eq, kdO_obj, rdF_eq, wrF_eq, alen_eq, ldA_eq, ldO_i, ldO_b, ldO_c, ldO_a, stA_i, stO_i, stA_b, stO_b, stA_c, stO_c, stA_d, stO_d, ldO_d, j0_eq, Nat.not_lt_zero, if_true, if_false, not_false_eq_true, not_true_eq_false, true_and, and_true, reduceCtorEq, Value.ref.injEq, ne_eq, Nat.zero_add, Nat.add_zero, Nat.reduceAdd, Nat.reduceLeDiff, Nat.le_refl, Nat.reduceLT, Nat.zero_le, Value.int.injEq, Value.long.injEq, tn0, tn1, tn2, tn3, tn4, tn5, tn6, tn7, tn8, tn9, tl0, tl1, tl2, tl3, tl4, tl5, tl6, tl7, tl8, tl9, rp0, rp1, rp2, rp3, rp4, rp5, rp6, rp7, rp8, rp9, alO_a, an0, an1, ↓reduceIte, Int32.reduceAdd, Int32.reduceSub, Int32.reduceMul, Int32.reduceLT, Int32.reduceLE, Int32.reduceToNatClampNeg, Int64.reduceLT, Int64.reduceLE, Int64.reduceAdd, on0, on1, on2, on3, on4, on5, on6, on7, on8, on9]
  refine own_sort ho rfl fun os' h2 => ?_
  simp +decide only [w1_40, r1_13_0, r1_18_0, r6_18_0, r6_13_0, r8_13_1, r9_7_1, q1_13_0, q1_13_0n, q1_18_0, q1_18_0n, q7_7_1, q7_7_1n, q7_13_1, List.length_cons, List.length_nil, List.length_append, List.length_set, List.length_replicate, wt_nil, wt_int, wt_ref, wt_null, wt_long, wt_double, s1_unset, s1_int, s1_ref, s1_null, s2_unset, s2_val, s3_unset, s3_second, s3_int, s3_ref, isA_ref', isA_null', cat_int, cat_ref, cat_null, List.cons_append, List.nil_append, List.getElem?_cons_zero, List.getElem?_cons_succ, List.getElem?_nil, List.set_cons_zero, List.set_cons_succ, Option.toList_some, Option.toList_none, Option.some.injEq, exists_eq_left', Option.bind_some, Option.map_some, kdOf_eq, kdO_obj, rdF_eq, wrF_eq, alen_eq, ldA_eq, ldO_i, ldO_b, ldO_c, ldO_a, stA_i, stO_i, stA_b, stO_b, stA_c, stO_c, stA_d, stO_d, ldO_d, j0_eq, Nat.not_lt_zero, if_true, if_false, not_false_eq_true, not_true_eq_false, true_and, and_true, reduceCtorEq, Value.ref.injEq, ne_eq, Nat.zero_add, Nat.add_zero, Nat.reduceAdd, Nat.reduceLeDiff, Nat.le_refl, Nat.reduceLT, Nat.zero_le, Value.int.injEq, Value.long.injEq, tn0, tn1, tn2, tn3, tn4, tn5, tn6, tn7, tn8, tn9, tl0, tl1, tl2, tl3, tl4, tl5, tl6, tl7, tl8, tl9, rp0, rp1, rp2, rp3, rp4, rp5, rp6, rp7, rp8, rp9, alO_a, an0, an1, ↓reduceIte, Int32.reduceAdd, Int32.reduceSub, Int32.reduceMul, Int32.reduceLT, Int32.reduceLE, Int32.reduceToNatClampNeg, Int64.reduceLT, Int64.reduceLE, Int64.reduceAdd, on0, on1, on2, on3, on4, on5, on6, on7, on8, on9]
  exact hq cs' os' h1 h2
theorem own_tri (x y : Int32) : x < y ∨ x = y ∨ y < x := by
  by_cases h : x < y
  · exact Or.inl h
  · by_cases e : x = y
    · exact Or.inr (Or.inl e)
    · exact Or.inr (Or.inr (Int32.lt_of_le_of_ne (Int32.not_lt.mp h) (Ne.symm e)))
theorem own_131 (x0 x1 x2 x3 x4 x5 n1 n2 : Int32) {cs os : List Value} (hc : n1 = 0 ∧ cs = [] ∨ n1 = 1 ∧ cs = [.int x0] ∨ n1 = 2 ∧ cs = [.int x0, .int x1]) (ho : n2 = 0 ∧ os = [] ∨ n2 = 1 ∧ os = [.int x2] ∨ n2 = 2 ∧ os = [.int x2, .int x3] ∨ n2 = 3 ∧ os = [.int x2, .int x3, .int x4]) {k n : Nat} (hk : k ≤ 2) (hn : n ≤ 5) :
    Wp Pg 0 (131, [.val (.int x0), .val (.int x1), .val (.int x2), .val (.int x3), .val (.int x4), .val (.int x5), .val (.int n1), .val (.int n2), .val (.ref 0), .val (.ref 1), .unset, .unset, .unset, .unset], [], [(.inl .int, cs), (.inl .int, os)], k, n) (fun r => r.1 = some (.int 1)) := by
  have hA : own_A cs := by
    rcases hc with ⟨-, rfl⟩ | ⟨-, rfl⟩ | ⟨-, rfl⟩
    · exact Or.inl rfl
    · exact Or.inr (Or.inl ⟨_, rfl⟩)
    · exact Or.inr (Or.inr (Or.inl ⟨_, _, rfl⟩))
  have hB : own_A os := by
    rcases ho with ⟨-, rfl⟩ | ⟨-, rfl⟩ | ⟨-, rfl⟩ | ⟨-, rfl⟩
    · exact Or.inl rfl
    · exact Or.inr (Or.inl ⟨_, rfl⟩)
    · exact Or.inr (Or.inr (Or.inl ⟨_, _, rfl⟩))
    · exact Or.inr (Or.inr (Or.inr ⟨_, _, _, rfl⟩))
  have k1 : k + 1 ≤ 24 := by omega
  have k2 : n + 2 ≤ 128 := by omega
  have k3 : k + 1 + 2 ≤ 24 := by omega
  have k4 : n + 2 + 6 ≤ 128 := by omega
  have k5 : k + 1 + 2 + 1 ≤ 24 := by omega
  have k7 : k + 1 + 2 ≤ 24 := by omega
  have k8 : n + 2 + 6 ≤ 128 := by omega
  have k6 : n + 2 + 6 + 2 ≤ 128 := by omega
  simp +decide only [w0_131, w0_134, w0_135, w0_137, w0_139, r1_13_0, r1_18_0, r6_18_0, r6_13_0, r8_13_1, r9_7_1, q1_13_0, q1_13_0n, q1_18_0, q1_18_0n, q7_7_1, q7_7_1n, q7_13_1, List.length_cons, List.length_nil, List.length_append, List.length_set, List.length_replicate, wt_nil, wt_int, wt_ref, wt_null, wt_long, wt_double, s1_unset, s1_int, s1_ref, s1_null, s2_unset, s2_val, s3_unset, s3_second, s3_int, s3_ref, isA_ref', isA_null', cat_int, cat_ref, cat_null, List.cons_append, List.nil_append, List.getElem?_cons_zero, List.getElem?_cons_succ, List.getElem?_nil, List.set_cons_zero, List.set_cons_succ, Option.toList_some, Option.toList_none, Option.some.injEq, exists_eq_left', Option.bind_some, Option.map_some, kdOf_eq, kdO_obj, rdF_eq, wrF_eq, alen_eq, ldA_eq, ldO_i, ldO_b, ldO_c, ldO_a, stA_i, stO_i, stA_b, stO_b, stA_c, stO_c, stA_d, stO_d, ldO_d, j0_eq, Nat.not_lt_zero, if_true, if_false, not_false_eq_true, not_true_eq_false, true_and, and_true, reduceCtorEq, Value.ref.injEq, ne_eq, Nat.zero_add, Nat.add_zero, Nat.reduceAdd, Nat.reduceLeDiff, Nat.le_refl, Nat.reduceLT, Nat.zero_le, Value.int.injEq, Value.long.injEq, tn0, tn1, tn2, tn3, tn4, tn5, tn6, tn7, tn8, tn9, tl0, tl1, tl2, tl3, tl4, tl5, tl6, tl7, tl8, tl9, rp0, rp1, rp2, rp3, rp4, rp5, rp6, rp7, rp8, rp9, alO_a, an0, an1, ↓reduceIte, Int32.reduceAdd, Int32.reduceSub, Int32.reduceMul, Int32.reduceLT, Int32.reduceLE, Int32.reduceToNatClampNeg, Int64.reduceLT, Int64.reduceLE, Int64.reduceAdd, on0, on1, on2, on3, on4, on5, on6, on7, on8, on9, k1, k2, k3, k4]
  refine own_init hA hB fun cs' os' h1 h2 => ?_
  rcases ho with ⟨rfl, rfl⟩ | ⟨rfl, rfl⟩ | ⟨rfl, rfl⟩ | ⟨rfl, rfl⟩
  · obtain rfl : os' = [] := h2
    rcases hc with ⟨rfl, rfl⟩ | ⟨rfl, rfl⟩ | ⟨rfl, rfl⟩
    · obtain rfl : cs' = [] := h1
      simp +decide only [w0_142, w0_144, w0_146, w0_149, w0_151, w0_153, w0_154, w0_157, w0_159n, w0_159, w0_162, w0_163, w0_166, w0_167, w0_168, w0_170n, w0_170, w0_173, w0_174, w0_175, w0_177, w0_180, w0_181, w0_184, w0_185, w0_187, w0_189, w0_192, w0_194, w0_197, w0_198, w0_199, w0_201, w0_204, w0_206, w0_208n, w0_208, w0_211, w0_213, w0_214, w0_216, w0_219, w0_220, w0_221, w0_223, w0_224, w0_227, w0_229, w0_230, w0_231, w0_232, w0_235, w0_236, w0_239, w0_240, w0_241, w0_243, w0_244, w0_247, w0_249, w0_250, w0_251, w0_252, w0_253, w0_256, w0_259, w0_261, w0_262, w0_263, w0_264, w0_265, w0_268, w0_271, w0_272, w0_275, w0_276, w0_277, w0_278, w6_0, w6_1, w6_2, w6_3, w6_6, w6_7, w6_8, w6_11, w6_14, w6_15, w6_16, w6_19, w6_20, w6_23, w6_24, w6_27, w6_28, w6_31, w6_32, w6_35, w6_36, w6_37, w6_40, w6_41, w6_42, w6_42n, w7_0, w7_1, w7_4, w7_5, w7_6, w7_9, w7_10, w7_11, w7_14, w8_0, w8_1, w8_4, w9_0, w9_1, w9_4, w9_4n, w10_0, w10_1, w10_2, w10_5, w10_6, w10_9, w10_10, w11_0, w11_1, w11_2, w11_5, w11_6, w11_9, w11_10, r1_13_0, r1_18_0, r6_18_0, r6_13_0, r8_13_1, r9_7_1, q1_13_0, q1_13_0n, q1_18_0, q1_18_0n, q7_7_1, q7_7_1n, q7_13_1, List.length_cons, List.length_nil, List.length_append, List.length_set, List.length_replicate, wt_nil, wt_int, wt_ref, wt_null, wt_long, wt_double, s1_unset, s1_int, s1_ref, s1_null, s2_unset, s2_val, s3_unset, s3_second, s3_int, s3_ref, isA_ref', isA_null', cat_int, cat_ref, cat_null, List.cons_append, List.nil_append, List.getElem?_cons_zero, List.getElem?_cons_succ, List.getElem?_nil, List.set_cons_zero, List.set_cons_succ, Option.toList_some, Option.toList_none, Option.some.injEq, exists_eq_left', Option.bind_some, Option.map_some, kdOf_eq, kdO_obj, rdF_eq, wrF_eq, alen_eq, ldA_eq, ldO_i, ldO_b, ldO_c, ldO_a, stA_i, stO_i, stA_b, stO_b, stA_c, stO_c, stA_d, stO_d, ldO_d, j0_eq, Nat.not_lt_zero, if_true, if_false, not_false_eq_true, not_true_eq_false, true_and, and_true, reduceCtorEq, Value.ref.injEq, ne_eq, Nat.zero_add, Nat.add_zero, Nat.reduceAdd, Nat.reduceLeDiff, Nat.le_refl, Nat.reduceLT, Nat.zero_le, Value.int.injEq, Value.long.injEq, tn0, tn1, tn2, tn3, tn4, tn5, tn6, tn7, tn8, tn9, tl0, tl1, tl2, tl3, tl4, tl5, tl6, tl7, tl8, tl9, rp0, rp1, rp2, rp3, rp4, rp5, rp6, rp7, rp8, rp9, alO_a, an0, an1, ↓reduceIte, Int32.reduceAdd, Int32.reduceSub, Int32.reduceMul, Int32.reduceLT, Int32.reduceLE, Int32.reduceToNatClampNeg, Int64.reduceLT, Int64.reduceLE, Int64.reduceAdd, on0, on1, on2, on3, on4, on5, on6, on7, on8, on9, k1, k2, k3, k4, k5, k6, k7, k8]
    · obtain rfl : cs' = [.int x0] := h1
      simp +decide only [w0_142, w0_144, w0_146, w0_149, w0_151, w0_153, w0_154, w0_157, w0_159n, w0_159, w0_162, w0_163, w0_166, w0_167, w0_168, w0_170n, w0_170, w0_173, w0_174, w0_175, w0_177, w0_180, w0_181, w0_184, w0_185, w0_187, w0_189, w0_192, w0_194, w0_197, w0_198, w0_199, w0_201, w0_204, w0_206, w0_208n, w0_208, w0_211, w0_213, w0_214, w0_216, w0_219, w0_220, w0_221, w0_223, w0_224, w0_227, w0_229, w0_230, w0_231, w0_232, w0_235, w0_236, w0_239, w0_240, w0_241, w0_243, w0_244, w0_247, w0_249, w0_250, w0_251, w0_252, w0_253, w0_256, w0_259, w0_261, w0_262, w0_263, w0_264, w0_265, w0_268, w0_271, w0_272, w0_275, w0_276, w0_277, w0_278, w6_0, w6_1, w6_2, w6_3, w6_6, w6_7, w6_8, w6_11, w6_14, w6_15, w6_16, w6_19, w6_20, w6_23, w6_24, w6_27, w6_28, w6_31, w6_32, w6_35, w6_36, w6_37, w6_40, w6_41, w6_42, w6_42n, w7_0, w7_1, w7_4, w7_5, w7_6, w7_9, w7_10, w7_11, w7_14, w8_0, w8_1, w8_4, w9_0, w9_1, w9_4, w9_4n, w10_0, w10_1, w10_2, w10_5, w10_6, w10_9, w10_10, w11_0, w11_1, w11_2, w11_5, w11_6, w11_9, w11_10, r1_13_0, r1_18_0, r6_18_0, r6_13_0, r8_13_1, r9_7_1, q1_13_0, q1_13_0n, q1_18_0, q1_18_0n, q7_7_1, q7_7_1n, q7_13_1, List.length_cons, List.length_nil, List.length_append, List.length_set, List.length_replicate, wt_nil, wt_int, wt_ref, wt_null, wt_long, wt_double, s1_unset, s1_int, s1_ref, s1_null, s2_unset, s2_val, s3_unset, s3_second, s3_int, s3_ref, isA_ref', isA_null', cat_int, cat_ref, cat_null, List.cons_append, List.nil_append, List.getElem?_cons_zero, List.getElem?_cons_succ, List.getElem?_nil, List.set_cons_zero, List.set_cons_succ, Option.toList_some, Option.toList_none, Option.some.injEq, exists_eq_left', Option.bind_some, Option.map_some, kdOf_eq, kdO_obj, rdF_eq, wrF_eq, alen_eq, ldA_eq, ldO_i, ldO_b, ldO_c, ldO_a, stA_i, stO_i, stA_b, stO_b, stA_c, stO_c, stA_d, stO_d, ldO_d, j0_eq, Nat.not_lt_zero, if_true, if_false, not_false_eq_true, not_true_eq_false, true_and, and_true, reduceCtorEq, Value.ref.injEq, ne_eq, Nat.zero_add, Nat.add_zero, Nat.reduceAdd, Nat.reduceLeDiff, Nat.le_refl, Nat.reduceLT, Nat.zero_le, Value.int.injEq, Value.long.injEq, tn0, tn1, tn2, tn3, tn4, tn5, tn6, tn7, tn8, tn9, tl0, tl1, tl2, tl3, tl4, tl5, tl6, tl7, tl8, tl9, rp0, rp1, rp2, rp3, rp4, rp5, rp6, rp7, rp8, rp9, alO_a, an0, an1, ↓reduceIte, Int32.reduceAdd, Int32.reduceSub, Int32.reduceMul, Int32.reduceLT, Int32.reduceLE, Int32.reduceToNatClampNeg, Int64.reduceLT, Int64.reduceLE, Int64.reduceAdd, on0, on1, on2, on3, on4, on5, on6, on7, on8, on9, k1, k2, k3, k4, k5, k6, k7, k8]
    · have h1 : cs' = if x0 ≤ x1 then [.int x0, .int x1] else [.int x1, .int x0] := h1
      rcases own_tri x0 x1 with t | rfl | t
      · rw [if_pos (Int32.le_of_lt t)] at h1
        subst h1
        have t' := Int32.lt_asymm t
        simp +decide only [w0_142, w0_144, w0_146, w0_149, w0_151, w0_153, w0_154, w0_157, w0_159n, w0_159, w0_162, w0_163, w0_166, w0_167, w0_168, w0_170n, w0_170, w0_173, w0_174, w0_175, w0_177, w0_180, w0_181, w0_184, w0_185, w0_187, w0_189, w0_192, w0_194, w0_197, w0_198, w0_199, w0_201, w0_204, w0_206, w0_208n, w0_208, w0_211, w0_213, w0_214, w0_216, w0_219, w0_220, w0_221, w0_223, w0_224, w0_227, w0_229, w0_230, w0_231, w0_232, w0_235, w0_236, w0_239, w0_240, w0_241, w0_243, w0_244, w0_247, w0_249, w0_250, w0_251, w0_252, w0_253, w0_256, w0_259, w0_261, w0_262, w0_263, w0_264, w0_265, w0_268, w0_271, w0_272, w0_275, w0_276, w0_277, w0_278, w6_0, w6_1, w6_2, w6_3, w6_6, w6_7, w6_8, w6_11, w6_14, w6_15, w6_16, w6_19, w6_20, w6_23, w6_24, w6_27, w6_28, w6_31, w6_32, w6_35, w6_36, w6_37, w6_40, w6_41, w6_42, w6_42n, w7_0, w7_1, w7_4, w7_5, w7_6, w7_9, w7_10, w7_11, w7_14, w8_0, w8_1, w8_4, w9_0, w9_1, w9_4, w9_4n, w10_0, w10_1, w10_2, w10_5, w10_6, w10_9, w10_10, w11_0, w11_1, w11_2, w11_5, w11_6, w11_9, w11_10, r1_13_0, r1_18_0, r6_18_0, r6_13_0, r8_13_1, r9_7_1, q1_13_0, q1_13_0n, q1_18_0, q1_18_0n, q7_7_1, q7_7_1n, q7_13_1, List.length_cons, List.length_nil, List.length_append, List.length_set, List.length_replicate, wt_nil, wt_int, wt_ref, wt_null, wt_long, wt_double, s1_unset, s1_int, s1_ref, s1_null, s2_unset, s2_val, s3_unset, s3_second, s3_int, s3_ref, isA_ref', isA_null', cat_int, cat_ref, cat_null, List.cons_append, List.nil_append, List.getElem?_cons_zero, List.getElem?_cons_succ, List.getElem?_nil, List.set_cons_zero, List.set_cons_succ, Option.toList_some, Option.toList_none, Option.some.injEq, exists_eq_left', Option.bind_some, Option.map_some, kdOf_eq, kdO_obj, rdF_eq, wrF_eq, alen_eq, ldA_eq, ldO_i, ldO_b, ldO_c, ldO_a, stA_i, stO_i, stA_b, stO_b, stA_c, stO_c, stA_d, stO_d, ldO_d, j0_eq, Nat.not_lt_zero, if_true, if_false, not_false_eq_true, not_true_eq_false, true_and, and_true, reduceCtorEq, Value.ref.injEq, ne_eq, Nat.zero_add, Nat.add_zero, Nat.reduceAdd, Nat.reduceLeDiff, Nat.le_refl, Nat.reduceLT, Nat.zero_le, Value.int.injEq, Value.long.injEq, tn0, tn1, tn2, tn3, tn4, tn5, tn6, tn7, tn8, tn9, tl0, tl1, tl2, tl3, tl4, tl5, tl6, tl7, tl8, tl9, rp0, rp1, rp2, rp3, rp4, rp5, rp6, rp7, rp8, rp9, alO_a, an0, an1, ↓reduceIte, Int32.reduceAdd, Int32.reduceSub, Int32.reduceMul, Int32.reduceLT, Int32.reduceLE, Int32.reduceToNatClampNeg, Int64.reduceLT, Int64.reduceLE, Int64.reduceAdd, on0, on1, on2, on3, on4, on5, on6, on7, on8, on9, k1, k2, k3, k4, k5, k6, k7, k8, t, t']
      · rw [if_pos (Int32.le_refl _)] at h1
        subst h1
        have t := Int32.lt_irrefl (a := x0)
        simp +decide only [w0_142, w0_144, w0_146, w0_149, w0_151, w0_153, w0_154, w0_157, w0_159n, w0_159, w0_162, w0_163, w0_166, w0_167, w0_168, w0_170n, w0_170, w0_173, w0_174, w0_175, w0_177, w0_180, w0_181, w0_184, w0_185, w0_187, w0_189, w0_192, w0_194, w0_197, w0_198, w0_199, w0_201, w0_204, w0_206, w0_208n, w0_208, w0_211, w0_213, w0_214, w0_216, w0_219, w0_220, w0_221, w0_223, w0_224, w0_227, w0_229, w0_230, w0_231, w0_232, w0_235, w0_236, w0_239, w0_240, w0_241, w0_243, w0_244, w0_247, w0_249, w0_250, w0_251, w0_252, w0_253, w0_256, w0_259, w0_261, w0_262, w0_263, w0_264, w0_265, w0_268, w0_271, w0_272, w0_275, w0_276, w0_277, w0_278, w6_0, w6_1, w6_2, w6_3, w6_6, w6_7, w6_8, w6_11, w6_14, w6_15, w6_16, w6_19, w6_20, w6_23, w6_24, w6_27, w6_28, w6_31, w6_32, w6_35, w6_36, w6_37, w6_40, w6_41, w6_42, w6_42n, w7_0, w7_1, w7_4, w7_5, w7_6, w7_9, w7_10, w7_11, w7_14, w8_0, w8_1, w8_4, w9_0, w9_1, w9_4, w9_4n, w10_0, w10_1, w10_2, w10_5, w10_6, w10_9, w10_10, w11_0, w11_1, w11_2, w11_5, w11_6, w11_9, w11_10, r1_13_0, r1_18_0, r6_18_0, r6_13_0, r8_13_1, r9_7_1, q1_13_0, q1_13_0n, q1_18_0, q1_18_0n, q7_7_1, q7_7_1n, q7_13_1, List.length_cons, List.length_nil, List.length_append, List.length_set, List.length_replicate, wt_nil, wt_int, wt_ref, wt_null, wt_long, wt_double, s1_unset, s1_int, s1_ref, s1_null, s2_unset, s2_val, s3_unset, s3_second, s3_int, s3_ref, isA_ref', isA_null', cat_int, cat_ref, cat_null, List.cons_append, List.nil_append, List.getElem?_cons_zero, List.getElem?_cons_succ, List.getElem?_nil, List.set_cons_zero, List.set_cons_succ, Option.toList_some, Option.toList_none, Option.some.injEq, exists_eq_left', Option.bind_some, Option.map_some, kdOf_eq, kdO_obj, rdF_eq, wrF_eq, alen_eq, ldA_eq, ldO_i, ldO_b, ldO_c, ldO_a, stA_i, stO_i, stA_b, stO_b, stA_c, stO_c, stA_d, stO_d, ldO_d, j0_eq, Nat.not_lt_zero, if_true, if_false, not_false_eq_true, not_true_eq_false, true_and, and_true, reduceCtorEq, Value.ref.injEq, ne_eq, Nat.zero_add, Nat.add_zero, Nat.reduceAdd, Nat.reduceLeDiff, Nat.le_refl, Nat.reduceLT, Nat.zero_le, Value.int.injEq, Value.long.injEq, tn0, tn1, tn2, tn3, tn4, tn5, tn6, tn7, tn8, tn9, tl0, tl1, tl2, tl3, tl4, tl5, tl6, tl7, tl8, tl9, rp0, rp1, rp2, rp3, rp4, rp5, rp6, rp7, rp8, rp9, alO_a, an0, an1, ↓reduceIte, Int32.reduceAdd, Int32.reduceSub, Int32.reduceMul, Int32.reduceLT, Int32.reduceLE, Int32.reduceToNatClampNeg, Int64.reduceLT, Int64.reduceLE, Int64.reduceAdd, on0, on1, on2, on3, on4, on5, on6, on7, on8, on9, k1, k2, k3, k4, k5, k6, k7, k8, t]
      · rw [if_neg (Int32.not_le.mpr t)] at h1
        subst h1
        have t' := Int32.lt_asymm t
        simp +decide only [w0_142, w0_144, w0_146, w0_149, w0_151, w0_153, w0_154, w0_157, w0_159n, w0_159, w0_162, w0_163, w0_166, w0_167, w0_168, w0_170n, w0_170, w0_173, w0_174, w0_175, w0_177, w0_180, w0_181, w0_184, w0_185, w0_187, w0_189, w0_192, w0_194, w0_197, w0_198, w0_199, w0_201, w0_204, w0_206, w0_208n, w0_208, w0_211, w0_213, w0_214, w0_216, w0_219, w0_220, w0_221, w0_223, w0_224, w0_227, w0_229, w0_230, w0_231, w0_232, w0_235, w0_236, w0_239, w0_240, w0_241, w0_243, w0_244, w0_247, w0_249, w0_250, w0_251, w0_252, w0_253, w0_256, w0_259, w0_261, w0_262, w0_263, w0_264, w0_265, w0_268, w0_271, w0_272, w0_275, w0_276, w0_277, w0_278, w6_0, w6_1, w6_2, w6_3, w6_6, w6_7, w6_8, w6_11, w6_14, w6_15, w6_16, w6_19, w6_20, w6_23, w6_24, w6_27, w6_28, w6_31, w6_32, w6_35, w6_36, w6_37, w6_40, w6_41, w6_42, w6_42n, w7_0, w7_1, w7_4, w7_5, w7_6, w7_9, w7_10, w7_11, w7_14, w8_0, w8_1, w8_4, w9_0, w9_1, w9_4, w9_4n, w10_0, w10_1, w10_2, w10_5, w10_6, w10_9, w10_10, w11_0, w11_1, w11_2, w11_5, w11_6, w11_9, w11_10, r1_13_0, r1_18_0, r6_18_0, r6_13_0, r8_13_1, r9_7_1, q1_13_0, q1_13_0n, q1_18_0, q1_18_0n, q7_7_1, q7_7_1n, q7_13_1, List.length_cons, List.length_nil, List.length_append, List.length_set, List.length_replicate, wt_nil, wt_int, wt_ref, wt_null, wt_long, wt_double, s1_unset, s1_int, s1_ref, s1_null, s2_unset, s2_val, s3_unset, s3_second, s3_int, s3_ref, isA_ref', isA_null', cat_int, cat_ref, cat_null, List.cons_append, List.nil_append, List.getElem?_cons_zero, List.getElem?_cons_succ, List.getElem?_nil, List.set_cons_zero, List.set_cons_succ, Option.toList_some, Option.toList_none, Option.some.injEq, exists_eq_left', Option.bind_some, Option.map_some, kdOf_eq, kdO_obj, rdF_eq, wrF_eq, alen_eq, ldA_eq, ldO_i, ldO_b, ldO_c, ldO_a, stA_i, stO_i, stA_b, stO_b, stA_c, stO_c, stA_d, stO_d, ldO_d, j0_eq, Nat.not_lt_zero, if_true, if_false, not_false_eq_true, not_true_eq_false, true_and, and_true, reduceCtorEq, Value.ref.injEq, ne_eq, Nat.zero_add, Nat.add_zero, Nat.reduceAdd, Nat.reduceLeDiff, Nat.le_refl, Nat.reduceLT, Nat.zero_le, Value.int.injEq, Value.long.injEq, tn0, tn1, tn2, tn3, tn4, tn5, tn6, tn7, tn8, tn9, tl0, tl1, tl2, tl3, tl4, tl5, tl6, tl7, tl8, tl9, rp0, rp1, rp2, rp3, rp4, rp5, rp6, rp7, rp8, rp9, alO_a, an0, an1, ↓reduceIte, Int32.reduceAdd, Int32.reduceSub, Int32.reduceMul, Int32.reduceLT, Int32.reduceLE, Int32.reduceToNatClampNeg, Int64.reduceLT, Int64.reduceLE, Int64.reduceAdd, on0, on1, on2, on3, on4, on5, on6, on7, on8, on9, k1, k2, k3, k4, k5, k6, k7, k8, t, t']
  · obtain rfl : os' = [.int x2] := h2
    rcases hc with ⟨rfl, rfl⟩ | ⟨rfl, rfl⟩ | ⟨rfl, rfl⟩
    · obtain rfl : cs' = [] := h1
      simp +decide only [w0_142, w0_144, w0_146, w0_149, w0_151, w0_153, w0_154, w0_157, w0_159n, w0_159, w0_162, w0_163, w0_166, w0_167, w0_168, w0_170n, w0_170, w0_173, w0_174, w0_175, w0_177, w0_180, w0_181, w0_184, w0_185, w0_187, w0_189, w0_192, w0_194, w0_197, w0_198, w0_199, w0_201, w0_204, w0_206, w0_208n, w0_208, w0_211, w0_213, w0_214, w0_216, w0_219, w0_220, w0_221, w0_223, w0_224, w0_227, w0_229, w0_230, w0_231, w0_232, w0_235, w0_236, w0_239, w0_240, w0_241, w0_243, w0_244, w0_247, w0_249, w0_250, w0_251, w0_252, w0_253, w0_256, w0_259, w0_261, w0_262, w0_263, w0_264, w0_265, w0_268, w0_271, w0_272, w0_275, w0_276, w0_277, w0_278, w6_0, w6_1, w6_2, w6_3, w6_6, w6_7, w6_8, w6_11, w6_14, w6_15, w6_16, w6_19, w6_20, w6_23, w6_24, w6_27, w6_28, w6_31, w6_32, w6_35, w6_36, w6_37, w6_40, w6_41, w6_42, w6_42n, w7_0, w7_1, w7_4, w7_5, w7_6, w7_9, w7_10, w7_11, w7_14, w8_0, w8_1, w8_4, w9_0, w9_1, w9_4, w9_4n, w10_0, w10_1, w10_2, w10_5, w10_6, w10_9, w10_10, w11_0, w11_1, w11_2, w11_5, w11_6, w11_9, w11_10, r1_13_0, r1_18_0, r6_18_0, r6_13_0, r8_13_1, r9_7_1, q1_13_0, q1_13_0n, q1_18_0, q1_18_0n, q7_7_1, q7_7_1n, q7_13_1, List.length_cons, List.length_nil, List.length_append, List.length_set, List.length_replicate, wt_nil, wt_int, wt_ref, wt_null, wt_long, wt_double, s1_unset, s1_int, s1_ref, s1_null, s2_unset, s2_val, s3_unset, s3_second, s3_int, s3_ref, isA_ref', isA_null', cat_int, cat_ref, cat_null, List.cons_append, List.nil_append, List.getElem?_cons_zero, List.getElem?_cons_succ, List.getElem?_nil, List.set_cons_zero, List.set_cons_succ, Option.toList_some, Option.toList_none, Option.some.injEq, exists_eq_left', Option.bind_some, Option.map_some, kdOf_eq, kdO_obj, rdF_eq, wrF_eq, alen_eq, ldA_eq, ldO_i, ldO_b, ldO_c, ldO_a, stA_i, stO_i, stA_b, stO_b, stA_c, stO_c, stA_d, stO_d, ldO_d, j0_eq, Nat.not_lt_zero, if_true, if_false, not_false_eq_true, not_true_eq_false, true_and, and_true, reduceCtorEq, Value.ref.injEq, ne_eq, Nat.zero_add, Nat.add_zero, Nat.reduceAdd, Nat.reduceLeDiff, Nat.le_refl, Nat.reduceLT, Nat.zero_le, Value.int.injEq, Value.long.injEq, tn0, tn1, tn2, tn3, tn4, tn5, tn6, tn7, tn8, tn9, tl0, tl1, tl2, tl3, tl4, tl5, tl6, tl7, tl8, tl9, rp0, rp1, rp2, rp3, rp4, rp5, rp6, rp7, rp8, rp9, alO_a, an0, an1, ↓reduceIte, Int32.reduceAdd, Int32.reduceSub, Int32.reduceMul, Int32.reduceLT, Int32.reduceLE, Int32.reduceToNatClampNeg, Int64.reduceLT, Int64.reduceLE, Int64.reduceAdd, on0, on1, on2, on3, on4, on5, on6, on7, on8, on9, k1, k2, k3, k4, k5, k6, k7, k8]
    · obtain rfl : cs' = [.int x0] := h1
      simp +decide only [w0_142, w0_144, w0_146, w0_149, w0_151, w0_153, w0_154, w0_157, w0_159n, w0_159, w0_162, w0_163, w0_166, w0_167, w0_168, w0_170n, w0_170, w0_173, w0_174, w0_175, w0_177, w0_180, w0_181, w0_184, w0_185, w0_187, w0_189, w0_192, w0_194, w0_197, w0_198, w0_199, w0_201, w0_204, w0_206, w0_208n, w0_208, w0_211, w0_213, w0_214, w0_216, w0_219, w0_220, w0_221, w0_223, w0_224, w0_227, w0_229, w0_230, w0_231, w0_232, w0_235, w0_236, w0_239, w0_240, w0_241, w0_243, w0_244, w0_247, w0_249, w0_250, w0_251, w0_252, w0_253, w0_256, w0_259, w0_261, w0_262, w0_263, w0_264, w0_265, w0_268, w0_271, w0_272, w0_275, w0_276, w0_277, w0_278, w6_0, w6_1, w6_2, w6_3, w6_6, w6_7, w6_8, w6_11, w6_14, w6_15, w6_16, w6_19, w6_20, w6_23, w6_24, w6_27, w6_28, w6_31, w6_32, w6_35, w6_36, w6_37, w6_40, w6_41, w6_42, w6_42n, w7_0, w7_1, w7_4, w7_5, w7_6, w7_9, w7_10, w7_11, w7_14, w8_0, w8_1, w8_4, w9_0, w9_1, w9_4, w9_4n, w10_0, w10_1, w10_2, w10_5, w10_6, w10_9, w10_10, w11_0, w11_1, w11_2, w11_5, w11_6, w11_9, w11_10, r1_13_0, r1_18_0, r6_18_0, r6_13_0, r8_13_1, r9_7_1, q1_13_0, q1_13_0n, q1_18_0, q1_18_0n, q7_7_1, q7_7_1n, q7_13_1, List.length_cons, List.length_nil, List.length_append, List.length_set, List.length_replicate, wt_nil, wt_int, wt_ref, wt_null, wt_long, wt_double, s1_unset, s1_int, s1_ref, s1_null, s2_unset, s2_val, s3_unset, s3_second, s3_int, s3_ref, isA_ref', isA_null', cat_int, cat_ref, cat_null, List.cons_append, List.nil_append, List.getElem?_cons_zero, List.getElem?_cons_succ, List.getElem?_nil, List.set_cons_zero, List.set_cons_succ, Option.toList_some, Option.toList_none, Option.some.injEq, exists_eq_left', Option.bind_some, Option.map_some, kdOf_eq, kdO_obj, rdF_eq, wrF_eq, alen_eq, ldA_eq, ldO_i, ldO_b, ldO_c, ldO_a, stA_i, stO_i, stA_b, stO_b, stA_c, stO_c, stA_d, stO_d, ldO_d, j0_eq, Nat.not_lt_zero, if_true, if_false, not_false_eq_true, not_true_eq_false, true_and, and_true, reduceCtorEq, Value.ref.injEq, ne_eq, Nat.zero_add, Nat.add_zero, Nat.reduceAdd, Nat.reduceLeDiff, Nat.le_refl, Nat.reduceLT, Nat.zero_le, Value.int.injEq, Value.long.injEq, tn0, tn1, tn2, tn3, tn4, tn5, tn6, tn7, tn8, tn9, tl0, tl1, tl2, tl3, tl4, tl5, tl6, tl7, tl8, tl9, rp0, rp1, rp2, rp3, rp4, rp5, rp6, rp7, rp8, rp9, alO_a, an0, an1, ↓reduceIte, Int32.reduceAdd, Int32.reduceSub, Int32.reduceMul, Int32.reduceLT, Int32.reduceLE, Int32.reduceToNatClampNeg, Int64.reduceLT, Int64.reduceLE, Int64.reduceAdd, on0, on1, on2, on3, on4, on5, on6, on7, on8, on9, k1, k2, k3, k4, k5, k6, k7, k8]
    · have h1 : cs' = if x0 ≤ x1 then [.int x0, .int x1] else [.int x1, .int x0] := h1
      rcases own_tri x0 x1 with t | rfl | t
      · rw [if_pos (Int32.le_of_lt t)] at h1
        subst h1
        have t' := Int32.lt_asymm t
        simp +decide only [w0_142, w0_144, w0_146, w0_149, w0_151, w0_153, w0_154, w0_157, w0_159n, w0_159, w0_162, w0_163, w0_166, w0_167, w0_168, w0_170n, w0_170, w0_173, w0_174, w0_175, w0_177, w0_180, w0_181, w0_184, w0_185, w0_187, w0_189, w0_192, w0_194, w0_197, w0_198, w0_199, w0_201, w0_204, w0_206, w0_208n, w0_208, w0_211, w0_213, w0_214, w0_216, w0_219, w0_220, w0_221, w0_223, w0_224, w0_227, w0_229, w0_230, w0_231, w0_232, w0_235, w0_236, w0_239, w0_240, w0_241, w0_243, w0_244, w0_247, w0_249, w0_250, w0_251, w0_252, w0_253, w0_256, w0_259, w0_261, w0_262, w0_263, w0_264, w0_265, w0_268, w0_271, w0_272, w0_275, w0_276, w0_277, w0_278, w6_0, w6_1, w6_2, w6_3, w6_6, w6_7, w6_8, w6_11, w6_14, w6_15, w6_16, w6_19, w6_20, w6_23, w6_24, w6_27, w6_28, w6_31, w6_32, w6_35, w6_36, w6_37, w6_40, w6_41, w6_42, w6_42n, w7_0, w7_1, w7_4, w7_5, w7_6, w7_9, w7_10, w7_11, w7_14, w8_0, w8_1, w8_4, w9_0, w9_1, w9_4, w9_4n, w10_0, w10_1, w10_2, w10_5, w10_6, w10_9, w10_10, w11_0, w11_1, w11_2, w11_5, w11_6, w11_9, w11_10, r1_13_0, r1_18_0, r6_18_0, r6_13_0, r8_13_1, r9_7_1, q1_13_0, q1_13_0n, q1_18_0, q1_18_0n, q7_7_1, q7_7_1n, q7_13_1, List.length_cons, List.length_nil, List.length_append, List.length_set, List.length_replicate, wt_nil, wt_int, wt_ref, wt_null, wt_long, wt_double, s1_unset, s1_int, s1_ref, s1_null, s2_unset, s2_val, s3_unset, s3_second, s3_int, s3_ref, isA_ref', isA_null', cat_int, cat_ref, cat_null, List.cons_append, List.nil_append, List.getElem?_cons_zero, List.getElem?_cons_succ, List.getElem?_nil, List.set_cons_zero, List.set_cons_succ, Option.toList_some, Option.toList_none, Option.some.injEq, exists_eq_left', Option.bind_some, Option.map_some, kdOf_eq, kdO_obj, rdF_eq, wrF_eq, alen_eq, ldA_eq, ldO_i, ldO_b, ldO_c, ldO_a, stA_i, stO_i, stA_b, stO_b, stA_c, stO_c, stA_d, stO_d, ldO_d, j0_eq, Nat.not_lt_zero, if_true, if_false, not_false_eq_true, not_true_eq_false, true_and, and_true, reduceCtorEq, Value.ref.injEq, ne_eq, Nat.zero_add, Nat.add_zero, Nat.reduceAdd, Nat.reduceLeDiff, Nat.le_refl, Nat.reduceLT, Nat.zero_le, Value.int.injEq, Value.long.injEq, tn0, tn1, tn2, tn3, tn4, tn5, tn6, tn7, tn8, tn9, tl0, tl1, tl2, tl3, tl4, tl5, tl6, tl7, tl8, tl9, rp0, rp1, rp2, rp3, rp4, rp5, rp6, rp7, rp8, rp9, alO_a, an0, an1, ↓reduceIte, Int32.reduceAdd, Int32.reduceSub, Int32.reduceMul, Int32.reduceLT, Int32.reduceLE, Int32.reduceToNatClampNeg, Int64.reduceLT, Int64.reduceLE, Int64.reduceAdd, on0, on1, on2, on3, on4, on5, on6, on7, on8, on9, k1, k2, k3, k4, k5, k6, k7, k8, t, t']
      · rw [if_pos (Int32.le_refl _)] at h1
        subst h1
        have t := Int32.lt_irrefl (a := x0)
        simp +decide only [w0_142, w0_144, w0_146, w0_149, w0_151, w0_153, w0_154, w0_157, w0_159n, w0_159, w0_162, w0_163, w0_166, w0_167, w0_168, w0_170n, w0_170, w0_173, w0_174, w0_175, w0_177, w0_180, w0_181, w0_184, w0_185, w0_187, w0_189, w0_192, w0_194, w0_197, w0_198, w0_199, w0_201, w0_204, w0_206, w0_208n, w0_208, w0_211, w0_213, w0_214, w0_216, w0_219, w0_220, w0_221, w0_223, w0_224, w0_227, w0_229, w0_230, w0_231, w0_232, w0_235, w0_236, w0_239, w0_240, w0_241, w0_243, w0_244, w0_247, w0_249, w0_250, w0_251, w0_252, w0_253, w0_256, w0_259, w0_261, w0_262, w0_263, w0_264, w0_265, w0_268, w0_271, w0_272, w0_275, w0_276, w0_277, w0_278, w6_0, w6_1, w6_2, w6_3, w6_6, w6_7, w6_8, w6_11, w6_14, w6_15, w6_16, w6_19, w6_20, w6_23, w6_24, w6_27, w6_28, w6_31, w6_32, w6_35, w6_36, w6_37, w6_40, w6_41, w6_42, w6_42n, w7_0, w7_1, w7_4, w7_5, w7_6, w7_9, w7_10, w7_11, w7_14, w8_0, w8_1, w8_4, w9_0, w9_1, w9_4, w9_4n, w10_0, w10_1, w10_2, w10_5, w10_6, w10_9, w10_10, w11_0, w11_1, w11_2, w11_5, w11_6, w11_9, w11_10, r1_13_0, r1_18_0, r6_18_0, r6_13_0, r8_13_1, r9_7_1, q1_13_0, q1_13_0n, q1_18_0, q1_18_0n, q7_7_1, q7_7_1n, q7_13_1, List.length_cons, List.length_nil, List.length_append, List.length_set, List.length_replicate, wt_nil, wt_int, wt_ref, wt_null, wt_long, wt_double, s1_unset, s1_int, s1_ref, s1_null, s2_unset, s2_val, s3_unset, s3_second, s3_int, s3_ref, isA_ref', isA_null', cat_int, cat_ref, cat_null, List.cons_append, List.nil_append, List.getElem?_cons_zero, List.getElem?_cons_succ, List.getElem?_nil, List.set_cons_zero, List.set_cons_succ, Option.toList_some, Option.toList_none, Option.some.injEq, exists_eq_left', Option.bind_some, Option.map_some, kdOf_eq, kdO_obj, rdF_eq, wrF_eq, alen_eq, ldA_eq, ldO_i, ldO_b, ldO_c, ldO_a, stA_i, stO_i, stA_b, stO_b, stA_c, stO_c, stA_d, stO_d, ldO_d, j0_eq, Nat.not_lt_zero, if_true, if_false, not_false_eq_true, not_true_eq_false, true_and, and_true, reduceCtorEq, Value.ref.injEq, ne_eq, Nat.zero_add, Nat.add_zero, Nat.reduceAdd, Nat.reduceLeDiff, Nat.le_refl, Nat.reduceLT, Nat.zero_le, Value.int.injEq, Value.long.injEq, tn0, tn1, tn2, tn3, tn4, tn5, tn6, tn7, tn8, tn9, tl0, tl1, tl2, tl3, tl4, tl5, tl6, tl7, tl8, tl9, rp0, rp1, rp2, rp3, rp4, rp5, rp6, rp7, rp8, rp9, alO_a, an0, an1, ↓reduceIte, Int32.reduceAdd, Int32.reduceSub, Int32.reduceMul, Int32.reduceLT, Int32.reduceLE, Int32.reduceToNatClampNeg, Int64.reduceLT, Int64.reduceLE, Int64.reduceAdd, on0, on1, on2, on3, on4, on5, on6, on7, on8, on9, k1, k2, k3, k4, k5, k6, k7, k8, t]
      · rw [if_neg (Int32.not_le.mpr t)] at h1
        subst h1
        have t' := Int32.lt_asymm t
        simp +decide only [w0_142, w0_144, w0_146, w0_149, w0_151, w0_153, w0_154, w0_157, w0_159n, w0_159, w0_162, w0_163, w0_166, w0_167, w0_168, w0_170n, w0_170, w0_173, w0_174, w0_175, w0_177, w0_180, w0_181, w0_184, w0_185, w0_187, w0_189, w0_192, w0_194, w0_197, w0_198, w0_199, w0_201, w0_204, w0_206, w0_208n, w0_208, w0_211, w0_213, w0_214, w0_216, w0_219, w0_220, w0_221, w0_223, w0_224, w0_227, w0_229, w0_230, w0_231, w0_232, w0_235, w0_236, w0_239, w0_240, w0_241, w0_243, w0_244, w0_247, w0_249, w0_250, w0_251, w0_252, w0_253, w0_256, w0_259, w0_261, w0_262, w0_263, w0_264, w0_265, w0_268, w0_271, w0_272, w0_275, w0_276, w0_277, w0_278, w6_0, w6_1, w6_2, w6_3, w6_6, w6_7, w6_8, w6_11, w6_14, w6_15, w6_16, w6_19, w6_20, w6_23, w6_24, w6_27, w6_28, w6_31, w6_32, w6_35, w6_36, w6_37, w6_40, w6_41, w6_42, w6_42n, w7_0, w7_1, w7_4, w7_5, w7_6, w7_9, w7_10, w7_11, w7_14, w8_0, w8_1, w8_4, w9_0, w9_1, w9_4, w9_4n, w10_0, w10_1, w10_2, w10_5, w10_6, w10_9, w10_10, w11_0, w11_1, w11_2, w11_5, w11_6, w11_9, w11_10, r1_13_0, r1_18_0, r6_18_0, r6_13_0, r8_13_1, r9_7_1, q1_13_0, q1_13_0n, q1_18_0, q1_18_0n, q7_7_1, q7_7_1n, q7_13_1, List.length_cons, List.length_nil, List.length_append, List.length_set, List.length_replicate, wt_nil, wt_int, wt_ref, wt_null, wt_long, wt_double, s1_unset, s1_int, s1_ref, s1_null, s2_unset, s2_val, s3_unset, s3_second, s3_int, s3_ref, isA_ref', isA_null', cat_int, cat_ref, cat_null, List.cons_append, List.nil_append, List.getElem?_cons_zero, List.getElem?_cons_succ, List.getElem?_nil, List.set_cons_zero, List.set_cons_succ, Option.toList_some, Option.toList_none, Option.some.injEq, exists_eq_left', Option.bind_some, Option.map_some, kdOf_eq, kdO_obj, rdF_eq, wrF_eq, alen_eq, ldA_eq, ldO_i, ldO_b, ldO_c, ldO_a, stA_i, stO_i, stA_b, stO_b, stA_c, stO_c, stA_d, stO_d, ldO_d, j0_eq, Nat.not_lt_zero, if_true, if_false, not_false_eq_true, not_true_eq_false, true_and, and_true, reduceCtorEq, Value.ref.injEq, ne_eq, Nat.zero_add, Nat.add_zero, Nat.reduceAdd, Nat.reduceLeDiff, Nat.le_refl, Nat.reduceLT, Nat.zero_le, Value.int.injEq, Value.long.injEq, tn0, tn1, tn2, tn3, tn4, tn5, tn6, tn7, tn8, tn9, tl0, tl1, tl2, tl3, tl4, tl5, tl6, tl7, tl8, tl9, rp0, rp1, rp2, rp3, rp4, rp5, rp6, rp7, rp8, rp9, alO_a, an0, an1, ↓reduceIte, Int32.reduceAdd, Int32.reduceSub, Int32.reduceMul, Int32.reduceLT, Int32.reduceLE, Int32.reduceToNatClampNeg, Int64.reduceLT, Int64.reduceLE, Int64.reduceAdd, on0, on1, on2, on3, on4, on5, on6, on7, on8, on9, k1, k2, k3, k4, k5, k6, k7, k8, t, t']
  · have h2 : os' = if x2 ≤ x3 then [.int x2, .int x3] else [.int x3, .int x2] := h2
    obtain ⟨p, q, rfl⟩ : ∃ p q : Int32, os' = [.int p, .int q] := by
      by_cases t : x2 ≤ x3
      · rw [if_pos t] at h2; exact ⟨_, _, h2⟩
      · rw [if_neg t] at h2; exact ⟨_, _, h2⟩
    simp +decide only [w0_142, w0_144, w0_146, w0_149, w0_151, w0_153, w0_154, w0_157, w0_159n, w0_159, w0_162, w0_163, w0_166, w0_167, w0_168, w0_170n, w0_170, w0_173, w0_174, w0_175, w0_177, w0_180, w0_181, w0_184, w0_185, w0_187, w0_189, w0_192, w0_194, w0_197, w0_198, w0_199, w0_201, w0_204, w0_206, w0_208n, w0_208, w0_211, w0_213, w0_214, w0_216, w0_219, w0_220, w0_221, w0_223, w0_224, w0_227, w0_229, w0_230, w0_231, w0_232, w0_235, w0_236, w0_239, w0_240, w0_241, w0_243, w0_244, w0_247, w0_249, w0_250, w0_251, w0_252, w0_253, w0_256, w0_259, w0_261, w0_262, w0_263, w0_264, w0_265, w0_268, w0_271, w0_272, w0_275, w0_276, w0_277, w0_278, w6_0, w6_1, w6_2, w6_3, w6_6, w6_7, w6_8, w6_11, w6_14, w6_15, w6_16, w6_19, w6_20, w6_23, w6_24, w6_27, w6_28, w6_31, w6_32, w6_35, w6_36, w6_37, w6_40, w6_41, w6_42, w6_42n, w7_0, w7_1, w7_4, w7_5, w7_6, w7_9, w7_10, w7_11, w7_14, w8_0, w8_1, w8_4, w9_0, w9_1, w9_4, w9_4n, w10_0, w10_1, w10_2, w10_5, w10_6, w10_9, w10_10, w11_0, w11_1, w11_2, w11_5, w11_6, w11_9, w11_10, r1_13_0, r1_18_0, r6_18_0, r6_13_0, r8_13_1, r9_7_1, q1_13_0, q1_13_0n, q1_18_0, q1_18_0n, q7_7_1, q7_7_1n, q7_13_1, List.length_cons, List.length_nil, List.length_append, List.length_set, List.length_replicate, wt_nil, wt_int, wt_ref, wt_null, wt_long, wt_double, s1_unset, s1_int, s1_ref, s1_null, s2_unset, s2_val, s3_unset, s3_second, s3_int, s3_ref, isA_ref', isA_null', cat_int, cat_ref, cat_null, List.cons_append, List.nil_append, List.getElem?_cons_zero, List.getElem?_cons_succ, List.getElem?_nil, List.set_cons_zero, List.set_cons_succ, Option.toList_some, Option.toList_none, Option.some.injEq, exists_eq_left', Option.bind_some, Option.map_some, kdOf_eq, kdO_obj, rdF_eq, wrF_eq, alen_eq, ldA_eq, ldO_i, ldO_b, ldO_c, ldO_a, stA_i, stO_i, stA_b, stO_b, stA_c, stO_c, stA_d, stO_d, ldO_d, j0_eq, Nat.not_lt_zero, if_true, if_false, not_false_eq_true, not_true_eq_false, true_and, and_true, reduceCtorEq, Value.ref.injEq, ne_eq, Nat.zero_add, Nat.add_zero, Nat.reduceAdd, Nat.reduceLeDiff, Nat.le_refl, Nat.reduceLT, Nat.zero_le, Value.int.injEq, Value.long.injEq, tn0, tn1, tn2, tn3, tn4, tn5, tn6, tn7, tn8, tn9, tl0, tl1, tl2, tl3, tl4, tl5, tl6, tl7, tl8, tl9, rp0, rp1, rp2, rp3, rp4, rp5, rp6, rp7, rp8, rp9, alO_a, an0, an1, ↓reduceIte, Int32.reduceAdd, Int32.reduceSub, Int32.reduceMul, Int32.reduceLT, Int32.reduceLE, Int32.reduceToNatClampNeg, Int64.reduceLT, Int64.reduceLE, Int64.reduceAdd, on0, on1, on2, on3, on4, on5, on6, on7, on8, on9, k1, k2, k3, k4, k5, k6, k7, k8]
  · obtain ⟨p, q, r, rfl⟩ : ∃ p q r : Int32, os' = [.int p, .int q, .int r] := h2
    simp +decide only [w0_142, w0_144, w0_146, w0_149, w0_151, w0_153, w0_154, w0_157, w0_159n, w0_159, w0_162, w0_163, w0_166, w0_167, w0_168, w0_170n, w0_170, w0_173, w0_174, w0_175, w0_177, w0_180, w0_181, w0_184, w0_185, w0_187, w0_189, w0_192, w0_194, w0_197, w0_198, w0_199, w0_201, w0_204, w0_206, w0_208n, w0_208, w0_211, w0_213, w0_214, w0_216, w0_219, w0_220, w0_221, w0_223, w0_224, w0_227, w0_229, w0_230, w0_231, w0_232, w0_235, w0_236, w0_239, w0_240, w0_241, w0_243, w0_244, w0_247, w0_249, w0_250, w0_251, w0_252, w0_253, w0_256, w0_259, w0_261, w0_262, w0_263, w0_264, w0_265, w0_268, w0_271, w0_272, w0_275, w0_276, w0_277, w0_278, w6_0, w6_1, w6_2, w6_3, w6_6, w6_7, w6_8, w6_11, w6_14, w6_15, w6_16, w6_19, w6_20, w6_23, w6_24, w6_27, w6_28, w6_31, w6_32, w6_35, w6_36, w6_37, w6_40, w6_41, w6_42, w6_42n, w7_0, w7_1, w7_4, w7_5, w7_6, w7_9, w7_10, w7_11, w7_14, w8_0, w8_1, w8_4, w9_0, w9_1, w9_4, w9_4n, w10_0, w10_1, w10_2, w10_5, w10_6, w10_9, w10_10, w11_0, w11_1, w11_2, w11_5, w11_6, w11_9, w11_10, r1_13_0, r1_18_0, r6_18_0, r6_13_0, r8_13_1, r9_7_1, q1_13_0, q1_13_0n, q1_18_0, q1_18_0n, q7_7_1, q7_7_1n, q7_13_1, List.length_cons, List.length_nil, List.length_append, List.length_set, List.length_replicate, wt_nil, wt_int, wt_ref, wt_null, wt_long, wt_double, s1_unset, s1_int, s1_ref, s1_null, s2_unset, s2_val, s3_unset, s3_second, s3_int, s3_ref, isA_ref', isA_null', cat_int, cat_ref, cat_null, List.cons_append, List.nil_append, List.getElem?_cons_zero, List.getElem?_cons_succ, List.getElem?_nil, List.set_cons_zero, List.set_cons_succ, Option.toList_some, Option.toList_none, Option.some.injEq, exists_eq_left', Option.bind_some, Option.map_some, kdOf_eq, kdO_obj, rdF_eq, wrF_eq, alen_eq, ldA_eq, ldO_i, ldO_b, ldO_c, ldO_a, stA_i, stO_i, stA_b, stO_b, stA_c, stO_c, stA_d, stO_d, ldO_d, j0_eq, Nat.not_lt_zero, if_true, if_false, not_false_eq_true, not_true_eq_false, true_and, and_true, reduceCtorEq, Value.ref.injEq, ne_eq, Nat.zero_add, Nat.add_zero, Nat.reduceAdd, Nat.reduceLeDiff, Nat.le_refl, Nat.reduceLT, Nat.zero_le, Value.int.injEq, Value.long.injEq, tn0, tn1, tn2, tn3, tn4, tn5, tn6, tn7, tn8, tn9, tl0, tl1, tl2, tl3, tl4, tl5, tl6, tl7, tl8, tl9, rp0, rp1, rp2, rp3, rp4, rp5, rp6, rp7, rp8, rp9, alO_a, an0, an1, ↓reduceIte, Int32.reduceAdd, Int32.reduceSub, Int32.reduceMul, Int32.reduceLT, Int32.reduceLE, Int32.reduceToNatClampNeg, Int64.reduceLT, Int64.reduceLE, Int64.reduceAdd, on0, on1, on2, on3, on4, on5, on6, on7, on8, on9, k1, k2, k3, k4, k5, k6, k7, k8]
theorem own_60 (x0 x1 x2 x3 x4 x5 n1 n2 : Int32) {cs : List Value} (hc : n1 = 0 ∧ cs = [] ∨ n1 = 1 ∧ cs = [.int x0] ∨ n1 = 2 ∧ cs = [.int x0, .int x1]) (h2 : n2 = 0 ∨ n2 = 1 ∨ n2 = 2 ∨ n2 = 3) {n : Nat} (hn : n ≤ 2) :
    Wp Pg 0 (60, [.val (.int x0), .val (.int x1), .val (.int x2), .val (.int x3), .val (.int x4), .val (.int x5), .val (.int n1), .val (.int n2), .val (.ref 0), .unset, .unset, .unset, .unset, .unset], [], [(.inl .int, cs)], 1, n) (fun r => r.1 = some (.int 1)) := by
  have k1 : n + 1 ≤ 128 := by omega
  have k2 : n + 2 ≤ 128 := by omega
  have k3 : n + 3 ≤ 128 := by omega
  have k0 : n ≤ 128 := by omega
  rcases h2 with rfl | rfl | rfl | rfl
  · simp +decide only [w0_60, w0_62, w0_65, w0_66, w0_68, w0_70, w0_73, w0_75, w0_76, w0_79, w0_80, w0_82, w0_83, w0_84, w0_85, w0_86, w0_88, w0_91, w0_93, w0_94, w0_97, w0_98, w0_100, w0_101, w0_102, w0_103, w0_104, w0_105, w0_106, w0_107, w0_108, w0_110, w0_113, w0_114, w0_116, w0_117, w0_118, w0_119, w0_120, w0_121, w0_122, w0_123, w0_124, w0_125, w0_126, w0_128, w0_129, List.length_cons, List.length_nil, List.length_append, List.length_set, List.length_replicate, wt_nil, wt_int, wt_ref, wt_null, wt_long, wt_double, s1_unset, s1_int, s1_ref, s1_null, s2_unset, s2_val, s3_unset, s3_second, s3_int, s3_ref, isA_ref', isA_null', cat_int, cat_ref, cat_null, List.cons_append, List.nil_append, List.getElem?_cons_zero, List.getElem?_cons_succ, List.getElem?_nil, List.set_cons_zero, List.set_cons_succ, Option.toList_some, Option.toList_none, Option.some.injEq, exists_eq_left', Option.bind_some, Option.map_some, kdOf_eq, kdO_obj, rdF_eq, wrF_eq, alen_eq, ldA_eq, ldO_i, ldO_b, ldO_c, ldO_a, stA_i, stO_i, stA_b, stO_b, stA_c, stO_c, stA_d, stO_d, ldO_d, j0_eq, Nat.not_lt_zero, if_true, if_false, not_false_eq_true, not_true_eq_false, true_and, and_true, reduceCtorEq, Value.ref.injEq, ne_eq, Nat.zero_add, Nat.add_zero, Nat.reduceAdd, Nat.reduceLeDiff, Nat.le_refl, Nat.reduceLT, Nat.zero_le, Value.int.injEq, Value.long.injEq, tn0, tn1, tn2, tn3, tn4, tn5, tn6, tn7, tn8, tn9, tl0, tl1, tl2, tl3, tl4, tl5, tl6, tl7, tl8, tl9, rp0, rp1, rp2, rp3, rp4, rp5, rp6, rp7, rp8, rp9, alO_a, an0, an1, ↓reduceIte, Int32.reduceAdd, Int32.reduceSub, Int32.reduceMul, Int32.reduceLT, Int32.reduceLE, Int32.reduceToNatClampNeg, Int64.reduceLT, Int64.reduceLE, Int64.reduceAdd, on0, on1, on2, on3, on4, on5, on6, on7, on8, on9, k0, k1, k2, k3]
    exact own_131 x0 x1 x2 x3 x4 x5 n1 _ hc (Or.inl ⟨rfl, rfl⟩) (by decide) (by omega)
  · simp +decide only [w0_60, w0_62, w0_65, w0_66, w0_68, w0_70, w0_73, w0_75, w0_76, w0_79, w0_80, w0_82, w0_83, w0_84, w0_85, w0_86, w0_88, w0_91, w0_93, w0_94, w0_97, w0_98, w0_100, w0_101, w0_102, w0_103, w0_104, w0_105, w0_106, w0_107, w0_108, w0_110, w0_113, w0_114, w0_116, w0_117, w0_118, w0_119, w0_120, w0_121, w0_122, w0_123, w0_124, w0_125, w0_126, w0_128, w0_129, List.length_cons, List.length_nil, List.length_append, List.length_set, List.length_replicate, wt_nil, wt_int, wt_ref, wt_null, wt_long, wt_double, s1_unset, s1_int, s1_ref, s1_null, s2_unset, s2_val, s3_unset, s3_second, s3_int, s3_ref, isA_ref', isA_null', cat_int, cat_ref, cat_null, List.cons_append, List.nil_append, List.getElem?_cons_zero, List.getElem?_cons_succ, List.getElem?_nil, List.set_cons_zero, List.set_cons_succ, Option.toList_some, Option.toList_none, Option.some.injEq, exists_eq_left', Option.bind_some, Option.map_some, kdOf_eq, kdO_obj, rdF_eq, wrF_eq, alen_eq, ldA_eq, ldO_i, ldO_b, ldO_c, ldO_a, stA_i, stO_i, stA_b, stO_b, stA_c, stO_c, stA_d, stO_d, ldO_d, j0_eq, Nat.not_lt_zero, if_true, if_false, not_false_eq_true, not_true_eq_false, true_and, and_true, reduceCtorEq, Value.ref.injEq, ne_eq, Nat.zero_add, Nat.add_zero, Nat.reduceAdd, Nat.reduceLeDiff, Nat.le_refl, Nat.reduceLT, Nat.zero_le, Value.int.injEq, Value.long.injEq, tn0, tn1, tn2, tn3, tn4, tn5, tn6, tn7, tn8, tn9, tl0, tl1, tl2, tl3, tl4, tl5, tl6, tl7, tl8, tl9, rp0, rp1, rp2, rp3, rp4, rp5, rp6, rp7, rp8, rp9, alO_a, an0, an1, ↓reduceIte, Int32.reduceAdd, Int32.reduceSub, Int32.reduceMul, Int32.reduceLT, Int32.reduceLE, Int32.reduceToNatClampNeg, Int64.reduceLT, Int64.reduceLE, Int64.reduceAdd, on0, on1, on2, on3, on4, on5, on6, on7, on8, on9, k0, k1, k2, k3]
    exact own_131 x0 x1 x2 x3 x4 x5 n1 _ hc (Or.inr (Or.inl ⟨rfl, rfl⟩)) (by decide) (by omega)
  · simp +decide only [w0_60, w0_62, w0_65, w0_66, w0_68, w0_70, w0_73, w0_75, w0_76, w0_79, w0_80, w0_82, w0_83, w0_84, w0_85, w0_86, w0_88, w0_91, w0_93, w0_94, w0_97, w0_98, w0_100, w0_101, w0_102, w0_103, w0_104, w0_105, w0_106, w0_107, w0_108, w0_110, w0_113, w0_114, w0_116, w0_117, w0_118, w0_119, w0_120, w0_121, w0_122, w0_123, w0_124, w0_125, w0_126, w0_128, w0_129, List.length_cons, List.length_nil, List.length_append, List.length_set, List.length_replicate, wt_nil, wt_int, wt_ref, wt_null, wt_long, wt_double, s1_unset, s1_int, s1_ref, s1_null, s2_unset, s2_val, s3_unset, s3_second, s3_int, s3_ref, isA_ref', isA_null', cat_int, cat_ref, cat_null, List.cons_append, List.nil_append, List.getElem?_cons_zero, List.getElem?_cons_succ, List.getElem?_nil, List.set_cons_zero, List.set_cons_succ, Option.toList_some, Option.toList_none, Option.some.injEq, exists_eq_left', Option.bind_some, Option.map_some, kdOf_eq, kdO_obj, rdF_eq, wrF_eq, alen_eq, ldA_eq, ldO_i, ldO_b, ldO_c, ldO_a, stA_i, stO_i, stA_b, stO_b, stA_c, stO_c, stA_d, stO_d, ldO_d, j0_eq, Nat.not_lt_zero, if_true, if_false, not_false_eq_true, not_true_eq_false, true_and, and_true, reduceCtorEq, Value.ref.injEq, ne_eq, Nat.zero_add, Nat.add_zero, Nat.reduceAdd, Nat.reduceLeDiff, Nat.le_refl, Nat.reduceLT, Nat.zero_le, Value.int.injEq, Value.long.injEq, tn0, tn1, tn2, tn3, tn4, tn5, tn6, tn7, tn8, tn9, tl0, tl1, tl2, tl3, tl4, tl5, tl6, tl7, tl8, tl9, rp0, rp1, rp2, rp3, rp4, rp5, rp6, rp7, rp8, rp9, alO_a, an0, an1, ↓reduceIte, Int32.reduceAdd, Int32.reduceSub, Int32.reduceMul, Int32.reduceLT, Int32.reduceLE, Int32.reduceToNatClampNeg, Int64.reduceLT, Int64.reduceLE, Int64.reduceAdd, on0, on1, on2, on3, on4, on5, on6, on7, on8, on9, k0, k1, k2, k3]
    exact own_131 x0 x1 x2 x3 x4 x5 n1 _ hc (Or.inr (Or.inr (Or.inl ⟨rfl, rfl⟩))) (by decide) (by omega)
  · simp +decide only [w0_60, w0_62, w0_65, w0_66, w0_68, w0_70, w0_73, w0_75, w0_76, w0_79, w0_80, w0_82, w0_83, w0_84, w0_85, w0_86, w0_88, w0_91, w0_93, w0_94, w0_97, w0_98, w0_100, w0_101, w0_102, w0_103, w0_104, w0_105, w0_106, w0_107, w0_108, w0_110, w0_113, w0_114, w0_116, w0_117, w0_118, w0_119, w0_120, w0_121, w0_122, w0_123, w0_124, w0_125, w0_126, w0_128, w0_129, List.length_cons, List.length_nil, List.length_append, List.length_set, List.length_replicate, wt_nil, wt_int, wt_ref, wt_null, wt_long, wt_double, s1_unset, s1_int, s1_ref, s1_null, s2_unset, s2_val, s3_unset, s3_second, s3_int, s3_ref, isA_ref', isA_null', cat_int, cat_ref, cat_null, List.cons_append, List.nil_append, List.getElem?_cons_zero, List.getElem?_cons_succ, List.getElem?_nil, List.set_cons_zero, List.set_cons_succ, Option.toList_some, Option.toList_none, Option.some.injEq, exists_eq_left', Option.bind_some, Option.map_some, kdOf_eq, kdO_obj, rdF_eq, wrF_eq, alen_eq, ldA_eq, ldO_i, ldO_b, ldO_c, ldO_a, stA_i, stO_i, stA_b, stO_b, stA_c, stO_c, stA_d, stO_d, ldO_d, j0_eq, Nat.not_lt_zero, if_true, if_false, not_false_eq_true, not_true_eq_false, true_and, and_true, reduceCtorEq, Value.ref.injEq, ne_eq, Nat.zero_add, Nat.add_zero, Nat.reduceAdd, Nat.reduceLeDiff, Nat.le_refl, Nat.reduceLT, Nat.zero_le, Value.int.injEq, Value.long.injEq, tn0, tn1, tn2, tn3, tn4, tn5, tn6, tn7, tn8, tn9, tl0, tl1, tl2, tl3, tl4, tl5, tl6, tl7, tl8, tl9, rp0, rp1, rp2, rp3, rp4, rp5, rp6, rp7, rp8, rp9, alO_a, an0, an1, ↓reduceIte, Int32.reduceAdd, Int32.reduceSub, Int32.reduceMul, Int32.reduceLT, Int32.reduceLE, Int32.reduceToNatClampNeg, Int64.reduceLT, Int64.reduceLE, Int64.reduceAdd, on0, on1, on2, on3, on4, on5, on6, on7, on8, on9, k0, k1, k2, k3]
    exact own_131 x0 x1 x2 x3 x4 x5 n1 _ hc (Or.inr (Or.inr (Or.inr ⟨rfl, rfl⟩))) (by decide) (by omega)
theorem own_16 (x0 x1 x2 x3 x4 x5 n1 n2 : Int32) (h1 : n1 = 0 ∨ n1 = 1 ∨ n1 = 2) (h2 : n2 = 0 ∨ n2 = 1 ∨ n2 = 2 ∨ n2 = 3) :
    Wp Pg 0 (16, [.val (.int x0), .val (.int x1), .val (.int x2), .val (.int x3), .val (.int x4), .val (.int x5), .val (.int n1), .val (.int n2), .unset, .unset, .unset, .unset, .unset, .unset], [], [], 0, 0) (fun r => r.1 = some (.int 1)) := by
  rcases h1 with rfl | rfl | rfl
  · simp +decide only [w0_16, w0_18, w0_21, w0_22, w0_24, w0_26, w0_29, w0_31, w0_32, w0_35, w0_36, w0_38, w0_39, w0_40, w0_41, w0_42, w0_44, w0_47, w0_48, w0_50, w0_51, w0_52, w0_53, w0_54, w0_55, w0_56, w0_57, w0_58, List.length_cons, List.length_nil, List.length_append, List.length_set, List.length_replicate, wt_nil, wt_int, wt_ref, wt_null, wt_long, wt_double, s1_unset, s1_int, s1_ref, s1_null, s2_unset, s2_val, s3_unset, s3_second, s3_int, s3_ref, isA_ref', isA_null', cat_int, cat_ref, cat_null, List.cons_append, List.nil_append, List.getElem?_cons_zero, List.getElem?_cons_succ, List.getElem?_nil, List.set_cons_zero, List.set_cons_succ, Option.toList_some, Option.toList_none, Option.some.injEq, exists_eq_left', Option.bind_some, Option.map_some, kdOf_eq, kdO_obj, rdF_eq, wrF_eq, alen_eq, ldA_eq, ldO_i, ldO_b, ldO_c, ldO_a, stA_i, stO_i, stA_b, stO_b, stA_c, stO_c, stA_d, stO_d, ldO_d, j0_eq, Nat.not_lt_zero, if_true, if_false, not_false_eq_true, not_true_eq_false, true_and, and_true, reduceCtorEq, Value.ref.injEq, ne_eq, Nat.zero_add, Nat.add_zero, Nat.reduceAdd, Nat.reduceLeDiff, Nat.le_refl, Nat.reduceLT, Nat.zero_le, Value.int.injEq, Value.long.injEq, tn0, tn1, tn2, tn3, tn4, tn5, tn6, tn7, tn8, tn9, tl0, tl1, tl2, tl3, tl4, tl5, tl6, tl7, tl8, tl9, rp0, rp1, rp2, rp3, rp4, rp5, rp6, rp7, rp8, rp9, alO_a, an0, an1, ↓reduceIte, Int32.reduceAdd, Int32.reduceSub, Int32.reduceMul, Int32.reduceLT, Int32.reduceLE, Int32.reduceToNatClampNeg, Int64.reduceLT, Int64.reduceLE, Int64.reduceAdd, on0, on1, on2, on3, on4, on5, on6, on7, on8, on9]
    exact own_60 x0 x1 x2 x3 x4 x5 _ n2 (Or.inl ⟨rfl, rfl⟩) h2 (by decide)
  · simp +decide only [w0_16, w0_18, w0_21, w0_22, w0_24, w0_26, w0_29, w0_31, w0_32, w0_35, w0_36, w0_38, w0_39, w0_40, w0_41, w0_42, w0_44, w0_47, w0_48, w0_50, w0_51, w0_52, w0_53, w0_54, w0_55, w0_56, w0_57, w0_58, List.length_cons, List.length_nil, List.length_append, List.length_set, List.length_replicate, wt_nil, wt_int, wt_ref, wt_null, wt_long, wt_double, s1_unset, s1_int, s1_ref, s1_null, s2_unset, s2_val, s3_unset, s3_second, s3_int, s3_ref, isA_ref', isA_null', cat_int, cat_ref, cat_null, List.cons_append, List.nil_append, List.getElem?_cons_zero, List.getElem?_cons_succ, List.getElem?_nil, List.set_cons_zero, List.set_cons_succ, Option.toList_some, Option.toList_none, Option.some.injEq, exists_eq_left', Option.bind_some, Option.map_some, kdOf_eq, kdO_obj, rdF_eq, wrF_eq, alen_eq, ldA_eq, ldO_i, ldO_b, ldO_c, ldO_a, stA_i, stO_i, stA_b, stO_b, stA_c, stO_c, stA_d, stO_d, ldO_d, j0_eq, Nat.not_lt_zero, if_true, if_false, not_false_eq_true, not_true_eq_false, true_and, and_true, reduceCtorEq, Value.ref.injEq, ne_eq, Nat.zero_add, Nat.add_zero, Nat.reduceAdd, Nat.reduceLeDiff, Nat.le_refl, Nat.reduceLT, Nat.zero_le, Value.int.injEq, Value.long.injEq, tn0, tn1, tn2, tn3, tn4, tn5, tn6, tn7, tn8, tn9, tl0, tl1, tl2, tl3, tl4, tl5, tl6, tl7, tl8, tl9, rp0, rp1, rp2, rp3, rp4, rp5, rp6, rp7, rp8, rp9, alO_a, an0, an1, ↓reduceIte, Int32.reduceAdd, Int32.reduceSub, Int32.reduceMul, Int32.reduceLT, Int32.reduceLE, Int32.reduceToNatClampNeg, Int64.reduceLT, Int64.reduceLE, Int64.reduceAdd, on0, on1, on2, on3, on4, on5, on6, on7, on8, on9]
    exact own_60 x0 x1 x2 x3 x4 x5 _ n2 (Or.inr (Or.inl ⟨rfl, rfl⟩)) h2 (by decide)
  · simp +decide only [w0_16, w0_18, w0_21, w0_22, w0_24, w0_26, w0_29, w0_31, w0_32, w0_35, w0_36, w0_38, w0_39, w0_40, w0_41, w0_42, w0_44, w0_47, w0_48, w0_50, w0_51, w0_52, w0_53, w0_54, w0_55, w0_56, w0_57, w0_58, List.length_cons, List.length_nil, List.length_append, List.length_set, List.length_replicate, wt_nil, wt_int, wt_ref, wt_null, wt_long, wt_double, s1_unset, s1_int, s1_ref, s1_null, s2_unset, s2_val, s3_unset, s3_second, s3_int, s3_ref, isA_ref', isA_null', cat_int, cat_ref, cat_null, List.cons_append, List.nil_append, List.getElem?_cons_zero, List.getElem?_cons_succ, List.getElem?_nil, List.set_cons_zero, List.set_cons_succ, Option.toList_some, Option.toList_none, Option.some.injEq, exists_eq_left', Option.bind_some, Option.map_some, kdOf_eq, kdO_obj, rdF_eq, wrF_eq, alen_eq, ldA_eq, ldO_i, ldO_b, ldO_c, ldO_a, stA_i, stO_i, stA_b, stO_b, stA_c, stO_c, stA_d, stO_d, ldO_d, j0_eq, Nat.not_lt_zero, if_true, if_false, not_false_eq_true, not_true_eq_false, true_and, and_true, reduceCtorEq, Value.ref.injEq, ne_eq, Nat.zero_add, Nat.add_zero, Nat.reduceAdd, Nat.reduceLeDiff, Nat.le_refl, Nat.reduceLT, Nat.zero_le, Value.int.injEq, Value.long.injEq, tn0, tn1, tn2, tn3, tn4, tn5, tn6, tn7, tn8, tn9, tl0, tl1, tl2, tl3, tl4, tl5, tl6, tl7, tl8, tl9, rp0, rp1, rp2, rp3, rp4, rp5, rp6, rp7, rp8, rp9, alO_a, an0, an1, ↓reduceIte, Int32.reduceAdd, Int32.reduceSub, Int32.reduceMul, Int32.reduceLT, Int32.reduceLE, Int32.reduceToNatClampNeg, Int64.reduceLT, Int64.reduceLE, Int64.reduceAdd, on0, on1, on2, on3, on4, on5, on6, on7, on8, on9]
    exact own_60 x0 x1 x2 x3 x4 x5 _ n2 (Or.inr (Or.inr ⟨rfl, rfl⟩)) h2 (by decide)
theorem own_n2 (x : Int32) : x &&& 3 = 0 ∨ x &&& 3 = 1 ∨ x &&& 3 = 2 ∨ x &&& 3 = 3 := by
  obtain ⟨i, hi, e⟩ := and_range x 3 4 (by decide)
  rw [e]
  match i, hi with
  | 0, _ => exact Or.inl rfl
  | 1, _ => exact Or.inr (Or.inl rfl)
  | 2, _ => exact Or.inr (Or.inr (Or.inl rfl))
  | 3, _ => exact Or.inr (Or.inr (Or.inr rfl))
theorem own_n1 (x : Int32) : (x &&& 3) % 3 = 0 ∨ (x &&& 3) % 3 = 1 ∨ (x &&& 3) % 3 = 2 := by
  rcases own_n2 x with h | h | h | h <;> rw [h] <;> decide
theorem law_wp (x0 x1 x2 x3 x4 x5 : Int32) : Wp Pg 0 (0, [.val (.int x0), .val (.int x1), .val (.int x2), .val (.int x3), .val (.int x4), .val (.int x5), .unset, .unset, .unset, .unset, .unset, .unset, .unset, .unset], [], [], 0, 0) (fun r => r.1 = some (.int 1)) := by
  have h3 : ¬ (3 : Int32) = 0 := by decide
  simp +decide only [w0_0, w0_2, w0_3, w0_4, w0_5, w0_6, w0_8, w0_10, w0_11, w0_12, w0_13, w0_14, List.length_cons, List.length_nil, List.length_append, List.length_set, List.length_replicate, wt_nil, wt_int, wt_ref, wt_null, wt_long, wt_double, s1_unset, s1_int, s1_ref, s1_null, s2_unset, s2_val, s3_unset, s3_second, s3_int, s3_ref, isA_ref', isA_null', cat_int, cat_ref, cat_null, List.cons_append, List.nil_append, List.getElem?_cons_zero, List.getElem?_cons_succ, List.getElem?_nil, List.set_cons_zero, List.set_cons_succ, Option.toList_some, Option.toList_none, Option.some.injEq, exists_eq_left', Option.bind_some, Option.map_some, kdOf_eq, kdO_obj, rdF_eq, wrF_eq, alen_eq, ldA_eq, ldO_i, ldO_b, ldO_c, ldO_a, stA_i, stO_i, stA_b, stO_b, stA_c, stO_c, stA_d, stO_d, ldO_d, j0_eq, Nat.not_lt_zero, if_true, if_false, not_false_eq_true, not_true_eq_false, true_and, and_true, reduceCtorEq, Value.ref.injEq, ne_eq, Nat.zero_add, Nat.add_zero, Nat.reduceAdd, Nat.reduceLeDiff, Nat.le_refl, Nat.reduceLT, Nat.zero_le, Value.int.injEq, Value.long.injEq, tn0, tn1, tn2, tn3, tn4, tn5, tn6, tn7, tn8, tn9, tl0, tl1, tl2, tl3, tl4, tl5, tl6, tl7, tl8, tl9, rp0, rp1, rp2, rp3, rp4, rp5, rp6, rp7, rp8, rp9, alO_a, an0, an1, ↓reduceIte, Int32.reduceAdd, Int32.reduceSub, Int32.reduceMul, Int32.reduceLT, Int32.reduceLE, Int32.reduceToNatClampNeg, Int64.reduceLT, Int64.reduceLE, Int64.reduceAdd, on0, on1, on2, on3, on4, on5, on6, on7, on8, on9, h3]
  exact own_16 x0 x1 x2 x3 x4 x5 _ _ (own_n1 x5) (own_n2 _)
set_option maxRecDepth 65536 in
set_option maxHeartbeats 40000000 in
theorem comes_1 {Post : Tables → Env → Array Value → State → Outcome → State → Prop} (hpost : ∀ tb e args s v u, (limb_1_1.after args s (.returned v) u = true ∧ limb_1_2.after args s (.returned v) u = true ∧ True) → FrameEnd s (.returned v) u (Jvm.fieldLocs frame_1_writes args s ++ Jvm.arrayLocs frame_1_arrays args s ++ Jvm.staticLocs frame_1_statics s) 24 128 → Post tb e args s (.returned v) u) :
    ArmFor flags0 classFile x code maxLocals ret World_1 tables_1 room_1 Calls_1 rest_1 Pre_1 Post := by
  intro l hfl _ _ p e ha hc hk s m args below hf hA hF happ hP
  obtain ⟨hcalls, hrest, hpre⟩ := hP
  obtain ⟨-, -, -, hnamed, -, -, -, hat⟩ := (Spec.applies_iff hf).mp happ
  obtain ⟨hg, hn⟩ := and_e (Cond.before_iff.mp (show (Jvm.Cond.and given_1 narrow_1).before args s = true from hpre))
  obtain ⟨hcnt, g0⟩ := and_e hg
  obtain ⟨q0, g1⟩ := and_e g0
  obtain ⟨q1, g2⟩ := and_e g1
  obtain ⟨q2, g3⟩ := and_e g2
  obtain ⟨q3, g4⟩ := and_e g3
  obtain ⟨q4, g5⟩ := and_e g4
  have q5 := g5
  obtain ⟨w0, w1, w2, w3, w4, w5, rfl⟩ : ∃ w0 w1 w2 w3 w4 w5 : Value, args = #[w0, w1, w2, w3, w4, w5] := by
    have hs : args.size = 6 := by simpa [Cond.value, given_1] using hcnt
    obtain ⟨L⟩ := args
    match L, hs with
    | [w0, w1, w2, w3, w4, w5], _ => exact ⟨w0, w1, w2, w3, w4, w5, rfl⟩
  have hw := fun d (hd : d ∈ tables_1) => atoms_spec (ws := Jvm.Cond.code x code maxLocals ret :: tables_1) hat d (List.mem_cons_of_mem _ hd)
  obtain ⟨x0, e0⟩ := is_v q0
  obtain rfl : w0 = (.int x0) := Option.some.inj e0
  obtain ⟨x1, e1⟩ := is_v q1
  obtain rfl : w1 = (.int x1) := Option.some.inj e1
  obtain ⟨x2, e2⟩ := is_v q2
  obtain rfl : w2 = (.int x2) := Option.some.inj e2
  obtain ⟨x3, e3⟩ := is_v q3
  obtain rfl : w3 = (.int x3) := Option.some.inj e3
  obtain ⟨x4, e4⟩ := is_v q4
  obtain rfl : w4 = (.int x4) := Option.some.inj e4
  obtain ⟨x5, e5⟩ := is_v q5
  obtain rfl : w5 = (.int x5) := Option.some.inj e5
  have RO : RhoOk Pg (fun i => s.heap.size + i) s.heap.size := ⟨fun i _ => rfl, fun i j h => by simpa using h⟩
  have K : Pic Pg s (fun i => s.heap.size + i) s.heap.size s.heap [] := ⟨Nat.le_refl _, rfl, fun i o h => by simp at h, fun q hq => by cases hq⟩
  obtain ⟨f, r, hrun, hr⟩ := law_wp x0 x1 x2 x3 x4 x5
  have hS := run_sound (l := l) (okP hw) RO f 0 _ r hrun
  have met := met_of (P := Pg) (j := 0) (as := [(.int x0), (.int x1), (.int x2), (.int x3), (.int x4), (.int x5)]) pf0 hS K tables_1
  obtain ⟨v, H'⟩ := r
  obtain rfl : v = some (.int 1) := hr
  obtain ⟨n, o, h1, h2, h3, _, L, rfl, ⟨rfl, hp, N⟩, hq⟩ := met p e ha hc hk s m _ below hf ((Spec.applies_iff_loose hf).mp happ).1 ⟨rfl, State.Warmed39.refl s, rfl⟩ trivial
  refine ⟨n, _, h1, h2, h3, hpost _ _ _ _ _ _ ⟨Cond.after_iff.mpr rfl, Cond.after_iff.mpr (eq_i res_at (Term.int_eval (1)) rfl), trivial⟩ ⟨hq.1, hq.2.1, (hq.2.2.sift fun y hy => Or.inr (N y hy)).mono (by decide) (by decide)⟩⟩
theorem main_1_1 : Claimed_1_1 := comes_1 fun _ _ _ _ _ _ h hF => ⟨h.1, hF⟩
theorem main_1_2 : Claimed_1_2 := comes_1 fun _ _ _ _ _ _ h hF => ⟨h.2.1, hF⟩
end Jvm.Pilot.@@N@@
namespace Jvm.Pilot.@@N@@
open Jvm Jvm.ClassFile Sem Op Lib Jvm.Free Jvm.Stand Jvm.Pilot.@@N@@.Jvm.D
/-! MADE BY PROGRAM (witnessworld.py) out of the Statement's table words and the real class files: 13 classes; the members and pool entries that the words name. The judged class is class 1, her method 1. -/
namespace start1
open Jvm.ClassFile
def u (s : String) : CpInfo := .utf8 (stringToUtf16 s)
/-- a pool by its gaps: so many unusable entries, then the entry; so many at the end -/
def gap : Nat → List CpInfo → List CpInfo
  | 0, r => r
  | n + 1, r => .unusable :: gap n r
def poolList (es : List (Nat × CpInfo)) (last : Nat) : List CpInfo := es.foldr (fun e r => gap e.1 (e.2 :: r)) (gap last [])
def pool (es : List (Nat × CpInfo)) (last : Nat) : Array CpInfo := ⟨poolList es last⟩
def fileOf (pool : Array CpInfo) (this : Nat) (attrs : Array Attribute := #[]) (ms : Array MethodInfo := #[]) (fl : Nat := 33) (sup : Nat := 0) (ifs : Array Nat := #[]) (fds : Array FieldInfo := #[]) : ClassFile where
  minorVersion := 0
  majorVersion := 65
  constantPool := pool
  accessFlags := fl
  thisClass := this
  superClass := sup
  interfaces := ifs
  fields := fds
  methods := ms
  attributes := attrs
def plain (name : String) (sup : Option ClassId) : Class where
  name := name
  kind := .ordinary
  loader := none
  accessFlags := 33
  super := sup
  interfaces := #[]
  cf := none
  fields := #[]
  methods := #[]
  instanceTypes := #[]
  staticTypes := #[]
  resolved := #[]
  callSites := []
  init := .initialized
  statics := none
  mirror := none

def pool0 : Array CpInfo := pool [(5, u "<init>"), (0, u "()V"), (1, .class_ 10), (1, u "java/lang/Object"), (85, u "clone"), (0, u "()Ljava/lang/Object;")] 26

def k0c0 : Code := { maxStack := 0, maxLocals := 1, code := object_method_1_code, exceptionTable := #[], attributes := #[] }
def k0m0 : Method := { name := "<init>", desc := "()V", sig := { parameters := [], returnType := none }, accessFlags := 1, code := some k0c0 }
def k0m1 : Method := { name := "clone", desc := "()Ljava/lang/Object;", sig := { parameters := [], returnType := some (.object "java/lang/Object") }, accessFlags := 260, code := none }
/-- java/lang/Object -/
def k0 : Class := { plain "java/lang/Object" none with
  accessFlags := 33
  interfaces := #[]
  cf := some (fileOf pool0 8 #[] #[{ accessFlags := 1, nameIndex := 5, descriptorIndex := 6, attributes := #[] }, { accessFlags := 260, nameIndex := 96, descriptorIndex := 97, attributes := #[] }] 33 0 #[] #[])
  fields := #[]
  methods := #[k0m0, k0m1]
  instanceTypes := #[]
  staticTypes := #[]
  resolved := Array.replicate 124 none
  statics := none }

def pool1 : Array CpInfo := pool [(2, .class_ 4), (1, u "java/lang/Object"), (0, u "<init>"), (0, u "()V"), (0, .class_ 8), (0, u "com/example/cardinality/cardinality/Conjunction"), (0, .methodref 7 10), (0, .nameAndType 5 11), (0, u "([I[I)V"), (0, .methodref 7 13), (0, .nameAndType 14 15), (0, u "asHornClause"), (0, u "()Lcom/example/cardinality/cardinality/Clause;"), (0, .methodref 17 18), (0, .class_ 19), (0, .nameAndType 20 21), (0, u "com/example/cardinality/cardinality/Clause"), (0, u "head"), (0, u "()I"), (0, .methodref 17 23), (0, .nameAndType 24 25), (0, u "body"), (0, u "()[I"), (0, .methodref 27 28), (0, .class_ 29), (0, .nameAndType 30 31), (0, u "java/lang/Math"), (0, u "min"), (0, u "(II)I"), (0, .methodref 27 33), (0, .nameAndType 34 31), (0, u "max"), (0, .class_ 36), (0, u "com/example/cardinality/cardinality/ConjunctionAsHornClausePinLaw"), (2, u "law"), (0, u "(IIIIII)Z")] 5

def k1m0 : Method := { name := "<init>", desc := "()V", sig := { parameters := [], returnType := none }, accessFlags := 1, code := none }
def k1c1 : Code := { maxStack := 4, maxLocals := 14, code := code, exceptionTable := #[], attributes := #[] }
def k1m1 : Method := { name := "law", desc := "(IIIIII)Z", sig := { parameters := [.int, .int, .int, .int, .int, .int], returnType := some .boolean }, accessFlags := 9, code := some k1c1 }
/-- com/example/cardinality/cardinality/ConjunctionAsHornClausePinLaw -/
def k1 : Class := { plain "com/example/cardinality/cardinality/ConjunctionAsHornClausePinLaw" (some 0) with
  accessFlags := 49
  interfaces := #[]
  cf := some (fileOf pool1 35 #[] #[{ accessFlags := 1, nameIndex := 5, descriptorIndex := 6, attributes := #[] }, { accessFlags := 9, nameIndex := 39, descriptorIndex := 40, attributes := #[] }] 49 2 #[] #[])
  fields := #[]
  methods := #[k1m0, k1m1]
  instanceTypes := #[]
  staticTypes := #[]
  resolved := Array.replicate 46 none
  statics := none }

def pool2 : Array CpInfo := pool [(1, .methodref 2 3), (0, .class_ 4), (0, .nameAndType 5 6), (0, u "java/lang/Object"), (0, u "<init>"), (0, u "()V"), (0, .methodref 8 9), (0, .class_ 10), (0, .nameAndType 11 12), (0, u "[I"), (0, u "clone"), (0, u "()Ljava/lang/Object;"), (0, .fieldref 14 15), (0, .class_ 16), (0, .nameAndType 17 10), (0, u "com/example/cardinality/cardinality/Conjunction"), (0, u "classes"), (0, .fieldref 14 19), (0, .nameAndType 20 10), (0, u "outside"), (0, .methodref 22 23), (0, .class_ 24), (0, .nameAndType 25 26), (0, u "java/util/Arrays"), (0, u "sort"), (0, u "([I)V"), (4, .class_ 32), (0, u "com/example/cardinality/cardinality/Clause"), (0, .methodref 31 34), (0, .nameAndType 5 35), (0, u "([II)V"), (19, u "([I[I)V"), (6, u "asHornClause"), (0, u "()Lcom/example/cardinality/cardinality/Clause;")] 20

def k2c0 : Code := { maxStack := 2, maxLocals := 3, code := prog_2_method_1_code, exceptionTable := #[], attributes := #[] }
def k2m0 : Method := { name := "<init>", desc := "([I[I)V", sig := { parameters := [(.array .int), (.array .int)], returnType := none }, accessFlags := 0, code := some k2c0 }
def k2c1 : Code := { maxStack := 5, maxLocals := 2, code := prog_2_method_5_code, exceptionTable := #[], attributes := #[] }
def k2m1 : Method := { name := "asHornClause", desc := "()Lcom/example/cardinality/cardinality/Clause;", sig := { parameters := [], returnType := some (.object "com/example/cardinality/cardinality/Clause") }, accessFlags := 0, code := some k2c1 }
/-- com/example/cardinality/cardinality/Conjunction -/
def k2 : Class := { plain "com/example/cardinality/cardinality/Conjunction" (some 0) with
  accessFlags := 48
  interfaces := #[]
  cf := some (fileOf pool2 14 #[] #[{ accessFlags := 0, nameIndex := 5, descriptorIndex := 55, attributes := #[] }, { accessFlags := 0, nameIndex := 62, descriptorIndex := 63, attributes := #[] }] 48 2 #[] #[{ accessFlags := 18, nameIndex := 17, descriptorIndex := 10, attributes := #[] }, { accessFlags := 18, nameIndex := 20, descriptorIndex := 10, attributes := #[] }])
  fields := #[{ name := "classes", type := (.array .int), accessFlags := 18, slot := 0, constantValue := 0 }, { name := "outside", type := (.array .int), accessFlags := 18, slot := 1, constantValue := 0 }]
  methods := #[k2m0, k2m1]
  instanceTypes := #[(.array .int), (.array .int)]
  staticTypes := #[]
  resolved := Array.replicate 84 none
  statics := none }

def pool3 : Array CpInfo := pool [(1, .class_ 2), (0, u "java/lang/Cloneable"), (0, .class_ 4), (0, u "java/lang/Object")] 2

/-- java/lang/Cloneable -/
def k3 : Class := { plain "java/lang/Cloneable" (some 0) with
  accessFlags := 1537
  interfaces := #[]
  cf := some (fileOf pool3 1 #[] #[] 1537 3 #[] #[])
  fields := #[]
  methods := #[]
  instanceTypes := #[]
  staticTypes := #[]
  resolved := Array.replicate 7 none
  statics := none }

def pool4 : Array CpInfo := pool [(2, .class_ 4), (1, u "java/lang/Object"), (0, u "<init>"), (0, u "()V"), (0, .methodref 8 9), (0, .class_ 10), (0, .nameAndType 11 12), (0, u "java/util/DualPivotQuicksort"), (0, u "sort"), (0, u "([IIII)V"), (1, .class_ 16), (1, u "java/util/Arrays"), (57, .class_ 76), (1, u "java/util/Arrays$NaturalOrder"), (36, .class_ 115), (1, u "java/util/Arrays$LegacyMergeSort"), (1, u "Z"), (257, .class_ 376), (0, u "java/util/Arrays$ArrayList"), (68, u "$assertionsDisabled"), (269, u "MIN_ARRAY_SORT_GRAN"), (0, u "I"), (2, u "INSERTIONSORT_THRESHOLD"), (6, u "([I)V"), (248, .class_ 976), (0, u "java/util/Arrays$ArrayItr")] 52

def k4m0 : Method := { name := "<init>", desc := "()V", sig := { parameters := [], returnType := none }, accessFlags := 2, code := none }
def k4c1 : Code := { maxStack := 4, maxLocals := 1, code := jdk_65_method_2_code, exceptionTable := #[], attributes := #[] }
def k4m1 : Method := { name := "sort", desc := "([I)V", sig := { parameters := [(.array .int)], returnType := none }, accessFlags := 9, code := some k4c1 }
/-- java/util/Arrays -/
def k4 : Class := { plain "java/util/Arrays" (some 0) with
  accessFlags := 49
  interfaces := #[]
  cf := some (fileOf pool4 14 #[.nestMembers #[975, 375, 113, 74]] #[{ accessFlags := 2, nameIndex := 5, descriptorIndex := 6, attributes := #[] }, { accessFlags := 9, nameIndex := 11, descriptorIndex := 726, attributes := #[] }] 49 2 #[] #[{ accessFlags := 26, nameIndex := 715, descriptorIndex := 716, attributes := #[] }, { accessFlags := 26, nameIndex := 719, descriptorIndex := 716, attributes := #[] }, { accessFlags := 4120, nameIndex := 445, descriptorIndex := 117, attributes := #[] }])
  fields := #[{ name := "MIN_ARRAY_SORT_GRAN", type := .int, accessFlags := 26, slot := 0, constantValue := 0 }, { name := "INSERTIONSORT_THRESHOLD", type := .int, accessFlags := 26, slot := 1, constantValue := 0 }, { name := "$assertionsDisabled", type := .boolean, accessFlags := 4120, slot := 2, constantValue := 0 }]
  methods := #[k4m0, k4m1]
  instanceTypes := #[]
  staticTypes := #[.int, .int, .boolean]
  resolved := Array.replicate 1029 none
  statics := none }

def pool5 : Array CpInfo := pool [(1, .class_ 2), (0, u "java/util/DualPivotQuicksort"), (5, .class_ 10), (1, u "java/lang/Object"), (0, u "<init>"), (0, u "()V"), (4, .class_ 18), (0, u "java/util/DualPivotQuicksort$Sorter"), (7, .methodref 1 27), (0, .nameAndType 28 29), (0, u "sort"), (0, u "(Ljava/util/DualPivotQuicksort$Sorter;[IIII)V"), (3, u "([IIII)V"), (0, .methodref 1 35), (0, .nameAndType 36 37), (0, u "insertionSort"), (0, u "([III)V"), (30, u "I"), (4, .class_ 74), (0, u "java/util/DualPivotQuicksort$RunMerger"), (10, .class_ 86), (0, u "java/util/DualPivotQuicksort$Merger"), (127, u "MAX_MIXED_INSERTION_SORT_SIZE"), (2, u "MAX_INSERTION_SORT_SIZE"), (1, u "MIN_PARALLEL_SORT_SIZE"), (1, u "MIN_TRY_MERGE_SIZE"), (0, u "MIN_FIRST_RUN_SIZE"), (1, u "MIN_FIRST_RUNS_FACTOR"), (1, u "MAX_RUN_CAPACITY"), (1, u "MIN_RUN_COUNT"), (1, u "MIN_PARALLEL_MERGE_PARTS_SIZE"), (0, u "MIN_BYTE_COUNTING_SORT_SIZE"), (1, u "MIN_SHORT_OR_CHAR_COUNTING_SORT_SIZE"), (1, u "DELTA"), (1, u "MAX_RECURSION_DEPTH"), (1, u "NUM_BYTE_VALUES"), (1, u "MAX_BYTE_INDEX"), (0, u "NUM_CHAR_VALUES"), (0, u "NUM_SHORT_VALUES"), (0, u "MAX_SHORT_INDEX")] 86

def k5m0 : Method := { name := "<init>", desc := "()V", sig := { parameters := [], returnType := none }, accessFlags := 2, code := none }
def k5c1 : Code := { maxStack := 9, maxLocals := 7, code := jdk_2529_method_3_code, exceptionTable := #[], attributes := #[] }
def k5m1 : Method := { name := "sort", desc := "([IIII)V", sig := { parameters := [(.array .int), .int, .int, .int], returnType := none }, accessFlags := 8, code := some k5c1 }
def k5c2 : Code := { maxStack := 6, maxLocals := 21, code := jdk_2529_method_4_code, exceptionTable := #[], attributes := #[] }
def k5m2 : Method := { name := "sort", desc := "(Ljava/util/DualPivotQuicksort$Sorter;[IIII)V", sig := { parameters := [(.object "java/util/DualPivotQuicksort$Sorter"), (.array .int), .int, .int, .int], returnType := none }, accessFlags := 8, code := some k5c2 }
def k5c3 : Code := { maxStack := 4, maxLocals := 6, code := jdk_2529_method_6_code, exceptionTable := #[], attributes := #[] }
def k5m3 : Method := { name := "insertionSort", desc := "([III)V", sig := { parameters := [(.array .int), .int, .int], returnType := none }, accessFlags := 10, code := some k5c3 }
/-- java/util/DualPivotQuicksort -/
def k5 : Class := { plain "java/util/DualPivotQuicksort" (some 0) with
  accessFlags := 48
  interfaces := #[]
  cf := some (fileOf pool5 1 #[.nestMembers #[73, 85, 17]] #[{ accessFlags := 2, nameIndex := 11, descriptorIndex := 12, attributes := #[] }, { accessFlags := 8, nameIndex := 28, descriptorIndex := 33, attributes := #[] }, { accessFlags := 8, nameIndex := 28, descriptorIndex := 29, attributes := #[] }, { accessFlags := 10, nameIndex := 36, descriptorIndex := 37, attributes := #[] }] 48 8 #[] #[{ accessFlags := 26, nameIndex := 214, descriptorIndex := 68, attributes := #[] }, { accessFlags := 26, nameIndex := 217, descriptorIndex := 68, attributes := #[] }, { accessFlags := 26, nameIndex := 219, descriptorIndex := 68, attributes := #[] }, { accessFlags := 26, nameIndex := 221, descriptorIndex := 68, attributes := #[] }, { accessFlags := 26, nameIndex := 222, descriptorIndex := 68, attributes := #[] }, { accessFlags := 26, nameIndex := 224, descriptorIndex := 68, attributes := #[] }, { accessFlags := 26, nameIndex := 226, descriptorIndex := 68, attributes := #[] }, { accessFlags := 26, nameIndex := 228, descriptorIndex := 68, attributes := #[] }, { accessFlags := 26, nameIndex := 230, descriptorIndex := 68, attributes := #[] }, { accessFlags := 26, nameIndex := 231, descriptorIndex := 68, attributes := #[] }, { accessFlags := 26, nameIndex := 233, descriptorIndex := 68, attributes := #[] }, { accessFlags := 26, nameIndex := 235, descriptorIndex := 68, attributes := #[] }, { accessFlags := 26, nameIndex := 237, descriptorIndex := 68, attributes := #[] }, { accessFlags := 26, nameIndex := 239, descriptorIndex := 68, attributes := #[] }, { accessFlags := 26, nameIndex := 241, descriptorIndex := 68, attributes := #[] }, { accessFlags := 26, nameIndex := 242, descriptorIndex := 68, attributes := #[] }, { accessFlags := 26, nameIndex := 243, descriptorIndex := 68, attributes := #[] }, { accessFlags := 26, nameIndex := 244, descriptorIndex := 68, attributes := #[] }])
  fields := #[{ name := "MAX_MIXED_INSERTION_SORT_SIZE", type := .int, accessFlags := 26, slot := 0, constantValue := 0 }, { name := "MAX_INSERTION_SORT_SIZE", type := .int, accessFlags := 26, slot := 1, constantValue := 0 }, { name := "MIN_PARALLEL_SORT_SIZE", type := .int, accessFlags := 26, slot := 2, constantValue := 0 }, { name := "MIN_TRY_MERGE_SIZE", type := .int, accessFlags := 26, slot := 3, constantValue := 0 }, { name := "MIN_FIRST_RUN_SIZE", type := .int, accessFlags := 26, slot := 4, constantValue := 0 }, { name := "MIN_FIRST_RUNS_FACTOR", type := .int, accessFlags := 26, slot := 5, constantValue := 0 }, { name := "MAX_RUN_CAPACITY", type := .int, accessFlags := 26, slot := 6, constantValue := 0 }, { name := "MIN_RUN_COUNT", type := .int, accessFlags := 26, slot := 7, constantValue := 0 }, { name := "MIN_PARALLEL_MERGE_PARTS_SIZE", type := .int, accessFlags := 26, slot := 8, constantValue := 0 }, { name := "MIN_BYTE_COUNTING_SORT_SIZE", type := .int, accessFlags := 26, slot := 9, constantValue := 0 }, { name := "MIN_SHORT_OR_CHAR_COUNTING_SORT_SIZE", type := .int, accessFlags := 26, slot := 10, constantValue := 0 }, { name := "DELTA", type := .int, accessFlags := 26, slot := 11, constantValue := 0 }, { name := "MAX_RECURSION_DEPTH", type := .int, accessFlags := 26, slot := 12, constantValue := 0 }, { name := "NUM_BYTE_VALUES", type := .int, accessFlags := 26, slot := 13, constantValue := 0 }, { name := "MAX_BYTE_INDEX", type := .int, accessFlags := 26, slot := 14, constantValue := 0 }, { name := "NUM_CHAR_VALUES", type := .int, accessFlags := 26, slot := 15, constantValue := 0 }, { name := "NUM_SHORT_VALUES", type := .int, accessFlags := 26, slot := 16, constantValue := 0 }, { name := "MAX_SHORT_INDEX", type := .int, accessFlags := 26, slot := 17, constantValue := 0 }]
  methods := #[k5m0, k5m1, k5m2, k5m3]
  instanceTypes := #[]
  staticTypes := #[.int, .int, .int, .int, .int, .int, .int, .int, .int, .int, .int, .int, .int, .int, .int, .int, .int, .int]
  resolved := Array.replicate 331 none
  statics := none }

def pool6 : Array CpInfo := pool [(1, .methodref 2 3), (0, .class_ 4), (0, .nameAndType 5 6), (0, u "java/lang/Object"), (0, u "<init>"), (0, u "()V"), (0, .fieldref 8 9), (0, .class_ 10), (0, .nameAndType 11 12), (0, u "com/example/cardinality/cardinality/Clause"), (0, u "body"), (0, u "[I"), (0, .fieldref 8 14), (0, .nameAndType 15 16), (0, u "head"), (0, u "I"), (10, u "NOTHING"), (2, u "([II)V"), (2, u "()[I"), (0, u "()I")] 18

def k6c0 : Code := { maxStack := 2, maxLocals := 3, code := prog_1_method_1_code, exceptionTable := #[], attributes := #[] }
def k6m0 : Method := { name := "<init>", desc := "([II)V", sig := { parameters := [(.array .int), .int], returnType := none }, accessFlags := 0, code := some k6c0 }
def k6c1 : Code := { maxStack := 1, maxLocals := 1, code := prog_1_method_2_code, exceptionTable := #[], attributes := #[] }
def k6m1 : Method := { name := "body", desc := "()[I", sig := { parameters := [], returnType := some (.array .int) }, accessFlags := 0, code := some k6c1 }
def k6c2 : Code := { maxStack := 1, maxLocals := 1, code := prog_1_method_3_code, exceptionTable := #[], attributes := #[] }
def k6m2 : Method := { name := "head", desc := "()I", sig := { parameters := [], returnType := some .int }, accessFlags := 0, code := some k6c2 }
/-- com/example/cardinality/cardinality/Clause -/
def k6 : Class := { plain "com/example/cardinality/cardinality/Clause" (some 0) with
  accessFlags := 48
  interfaces := #[]
  cf := some (fileOf pool6 8 #[] #[{ accessFlags := 0, nameIndex := 5, descriptorIndex := 30, attributes := #[] }, { accessFlags := 0, nameIndex := 11, descriptorIndex := 33, attributes := #[] }, { accessFlags := 0, nameIndex := 15, descriptorIndex := 34, attributes := #[] }] 48 2 #[] #[{ accessFlags := 24, nameIndex := 27, descriptorIndex := 16, attributes := #[] }, { accessFlags := 18, nameIndex := 11, descriptorIndex := 12, attributes := #[] }, { accessFlags := 18, nameIndex := 15, descriptorIndex := 16, attributes := #[] }])
  fields := #[{ name := "NOTHING", type := .int, accessFlags := 24, slot := 0, constantValue := 0 }, { name := "body", type := (.array .int), accessFlags := 18, slot := 0, constantValue := 0 }, { name := "head", type := .int, accessFlags := 18, slot := 1, constantValue := 0 }]
  methods := #[k6m0, k6m1, k6m2]
  instanceTypes := #[(.array .int), .int]
  staticTypes := #[.int]
  resolved := Array.replicate 53 none
  statics := none }

def pool7 : Array CpInfo := pool [(1, .class_ 2), (0, u "java/lang/Math"), (1, .class_ 6), (1, u "java/lang/Object"), (0, u "<init>"), (0, u "()V"), (89, .class_ 100), (1, u "java/lang/Math$RandomNumberGeneratorHolder"), (71, u "negativeZeroFloatBits"), (0, u "J"), (2, u "negativeZeroDoubleBits"), (21, u "max"), (2, u "min"), (43, u "$assertionsDisabled"), (0, u "Z"), (88, u "(II)I"), (2, u "twoToTheDoubleScaleDown"), (0, u "D"), (4, u "twoToTheDoubleScaleUp"), (9, u "E"), (3, u "PI"), (2, u "TAU"), (2, u "DEGREES_TO_RADIANS"), (0, u "RADIANS_TO_DEGREES")] 94

def k7m0 : Method := { name := "<init>", desc := "()V", sig := { parameters := [], returnType := none }, accessFlags := 2, code := none }
def k7c1 : Code := { maxStack := 2, maxLocals := 2, code := jdk_29_method_65_code, exceptionTable := #[], attributes := #[] }
def k7m1 : Method := { name := "max", desc := "(II)I", sig := { parameters := [.int, .int], returnType := some .int }, accessFlags := 9, code := some k7c1 }
def k7c2 : Code := { maxStack := 2, maxLocals := 2, code := jdk_29_method_69_code, exceptionTable := #[], attributes := #[] }
def k7m2 : Method := { name := "min", desc := "(II)I", sig := { parameters := [.int, .int], returnType := some .int }, accessFlags := 9, code := some k7c2 }
/-- java/lang/Math -/
def k7 : Class := { plain "java/lang/Math" (some 0) with
  accessFlags := 49
  interfaces := #[]
  cf := some (fileOf pool7 1 #[.nestMembers #[98]] #[{ accessFlags := 2, nameIndex := 7, descriptorIndex := 8, attributes := #[] }, { accessFlags := 9, nameIndex := 198, descriptorIndex := 335, attributes := #[] }, { accessFlags := 9, nameIndex := 201, descriptorIndex := 335, attributes := #[] }] 49 4 #[] #[{ accessFlags := 25, nameIndex := 354, descriptorIndex := 339, attributes := #[] }, { accessFlags := 25, nameIndex := 358, descriptorIndex := 339, attributes := #[] }, { accessFlags := 25, nameIndex := 361, descriptorIndex := 339, attributes := #[] }, { accessFlags := 26, nameIndex := 364, descriptorIndex := 339, attributes := #[] }, { accessFlags := 26, nameIndex := 365, descriptorIndex := 339, attributes := #[] }, { accessFlags := 26, nameIndex := 172, descriptorIndex := 173, attributes := #[] }, { accessFlags := 26, nameIndex := 176, descriptorIndex := 173, attributes := #[] }, { accessFlags := 8, nameIndex := 344, descriptorIndex := 339, attributes := #[] }, { accessFlags := 8, nameIndex := 338, descriptorIndex := 339, attributes := #[] }, { accessFlags := 4120, nameIndex := 245, descriptorIndex := 246, attributes := #[] }])
  fields := #[{ name := "E", type := .double, accessFlags := 25, slot := 0, constantValue := 0 }, { name := "PI", type := .double, accessFlags := 25, slot := 1, constantValue := 0 }, { name := "TAU", type := .double, accessFlags := 25, slot := 2, constantValue := 0 }, { name := "DEGREES_TO_RADIANS", type := .double, accessFlags := 26, slot := 3, constantValue := 0 }, { name := "RADIANS_TO_DEGREES", type := .double, accessFlags := 26, slot := 4, constantValue := 0 }, { name := "negativeZeroFloatBits", type := .long, accessFlags := 26, slot := 5, constantValue := 0 }, { name := "negativeZeroDoubleBits", type := .long, accessFlags := 26, slot := 6, constantValue := 0 }, { name := "twoToTheDoubleScaleUp", type := .double, accessFlags := 8, slot := 7, constantValue := 0 }, { name := "twoToTheDoubleScaleDown", type := .double, accessFlags := 8, slot := 8, constantValue := 0 }, { name := "$assertionsDisabled", type := .boolean, accessFlags := 4120, slot := 9, constantValue := 0 }]
  methods := #[k7m0, k7m1, k7m2]
  instanceTypes := #[]
  staticTypes := #[.double, .double, .double, .double, .double, .long, .long, .double, .double, .boolean]
  resolved := Array.replicate 460 none
  statics := none }

def pool8 : Array CpInfo := pool [(1, u "java/io/Serializable"), (0, .class_ 1), (0, u "java/lang/Object"), (0, .class_ 3)] 3

/-- java/io/Serializable -/
def k8 : Class := { plain "java/io/Serializable" (some 0) with
  accessFlags := 1537
  interfaces := #[]
  cf := some (fileOf pool8 2 #[] #[] 1537 4 #[] #[])
  fields := #[]
  methods := #[]
  instanceTypes := #[]
  staticTypes := #[]
  resolved := Array.replicate 8 none
  statics := none }

/-- the primitive byte -/
def k9 : Class := { plain "byte" none with kind := .primitive 'B', accessFlags := 0x411 }
/-- [B -/
def k10 : Class := { plain "[B" (some 0) with kind := .array 9 .byte, interfaces := #[3, 8], accessFlags := 1041 }

/-- the primitive int -/
def k11 : Class := { plain "int" none with kind := .primitive 'I', accessFlags := 0x411 }
/-- [I -/
def k12 : Class := { plain "[I" (some 0) with kind := .array 11 .int, interfaces := #[3, 8], accessFlags := 1041 }

def heap : Heap := #[]
def classes : Array Class := #[k0, k1, k2, k3, k4, k5, k6, k7, k8, k9, k10, k11, k12]
def interned : List (Array UInt16 × Addr) := []
def slotsUsed : Nat := 0
def theMethod : MethodId := ⟨1, 1⟩
def args0 : Array Value := #[.int 1, .int 2, .int 3, .int 4, .int 5, .int 6]
def aboutOver (below : List Frame) : State where
  vm := { classes := classes, interned := interned.toArray }
  heap := heap
  slotsUsed := slotsUsed
  threads := #[{ frames := .invoking theMethod args0 :: below }]
def below0 : List Frame := [.native { method := ⟨0, 0⟩, args := #[] }]
def about1 : State := aboutOver below0
def p0 : Program := .bare "" "" ""
def e0 : Env := launch0.env 0 0 0
theorem w_frames : about1.frames = Frame.invoking theMethod args0 :: below0 := rfl
set_option maxRecDepth 65536 in
theorem w_args : argsFit about1.vm theMethod args0 = true := by decide +kernel
set_option maxRecDepth 65536 in
theorem w_heap : heapFits about1 = true := by decide +kernel
set_option maxRecDepth 65536 in
theorem w_runnable : about1.curStatus? = some .runnable := by decide +kernel
set_option maxRecDepth 65536 in
theorem w_alone : about1.alone = true := by decide +kernel
set_option maxRecDepth 65536 in
theorem w_named : about1.methodNamed? x = some theMethod := by decide +kernel
set_option maxRecDepth 65536 in
theorem w_hears : about1.hears theMethod below0 = true := by decide +kernel
set_option maxRecDepth 65536 in
theorem w_ripe : about1.ripe theMethod args0 below0 = true := by decide +kernel
theorem w_running : about1.status = .running := rfl
set_option maxRecDepth 65536 in
theorem w_room : about1.hasRoom e0.platform room_1 = true :=
  launch0.hasRoom_least _ room_1 (by decide +kernel) (by decide +kernel) (by decide +kernel) (by decide +kernel) (by decide +kernel) (by decide +kernel)
theorem allAtoms_all (ts : List Jvm.Cond) (a : Array Jvm.Value) (st : Jvm.State) : (allAtoms ts).before a st = ts.all (fun c => c.before a st) := by
  induction ts with
  | nil => rfl
  | cons c t ih =>
    show (Jvm.Cond.and c (allAtoms t)).before a st = _
    rw [Jvm.Cond.before_and, ih, List.all_cons]
def words1 : List Jvm.Cond := Jvm.Cond.code x code maxLocals ret :: tables_1
/-- a 'code' word, met by the world's own term for the bytes: nothing is compared byte by byte -/
theorem code_word {y : MethodName} {bytes : ByteArray} {mx : Nat} {rt : Option FieldType} {a : Array Value} {s : State} {m : MethodId} {meth : Method} {c : Code} (h1 : s.methodNamed? y = some m) (h2 : s.vm.method? m = some meth) (h3 : meth.code = some c) (h4 : c.code = bytes)
    (h5 : (c.maxLocals == mx && c.exceptionTable.isEmpty && decide (c.maxStack ≤ mostOperands) && decide (meth.sig.returnType = rt) && !meth.locks && decide (parseMethodDescriptor y.desc = some meth.sig)) = true) : (Jvm.Cond.code y bytes mx rt).before a s = true := by
  simp only [Bool.and_eq_true, beq_iff_eq, Bool.not_eq_true', decide_eq_true_eq] at h5
  obtain ⟨⟨⟨⟨⟨g1, g2⟩, g3⟩, g4⟩, g5⟩, g6⟩ := h5
  simp [Cond.before, Cond.holds, Cond.value, h1, h2, h3, h4, g1, g2, g3, g4, g5, g6]
def isCode : Jvm.Cond → Bool
  | .code _ _ _ _ => true
  | _ => false
theorem all_split {L : List Jvm.Cond} {P : Jvm.Cond → Bool} (h1 : L.all (fun c => isCode c || P c) = true) (h2 : ∀ c ∈ L.filter isCode, P c = true) : L.all P = true := by
  refine List.all_eq_true.mpr fun c hc => ?_
  have h := List.all_eq_true.mp h1 c hc
  rcases Bool.eq_false_or_eq_true (isCode c) with hi | hi
  · exact h2 c (List.mem_filter.mpr ⟨hc, hi⟩)
  · simpa [hi] using h
set_option maxRecDepth 65536 in
theorem w_c0 : (Jvm.Cond.code x code maxLocals ret).before args0 about1 = true := code_word (m := ⟨1, 1⟩) (meth := k1m1) (c := k1c1) (by decide +kernel) rfl rfl rfl (by decide +kernel)
set_option maxRecDepth 65536 in
theorem w_c1 : (Jvm.Cond.code ({ cls := "com/example/cardinality/cardinality/Conjunction", name := "<init>", desc := "([I[I)V" } : Jvm.MethodName) prog_2_method_1_code (3 : Nat) (Option.none : Option Jvm.ClassFile.FieldType)).before args0 about1 = true := code_word (m := ⟨2, 0⟩) (meth := k2m0) (c := k2c0) (by decide +kernel) rfl rfl rfl (by decide +kernel)
set_option maxRecDepth 65536 in
theorem w_c2 : (Jvm.Cond.code ({ cls := "java/lang/Object", name := "<init>", desc := "()V" } : Jvm.MethodName) object_method_1_code (1 : Nat) (Option.none : Option Jvm.ClassFile.FieldType)).before args0 about1 = true := code_word (m := ⟨0, 0⟩) (meth := k0m0) (c := k0c0) (by decide +kernel) rfl rfl rfl (by decide +kernel)
set_option maxRecDepth 65536 in
theorem w_c3 : (Jvm.Cond.code ({ cls := "java/util/Arrays", name := "sort", desc := "([I)V" } : Jvm.MethodName) jdk_65_method_2_code (1 : Nat) (Option.none : Option Jvm.ClassFile.FieldType)).before args0 about1 = true := code_word (m := ⟨4, 1⟩) (meth := k4m1) (c := k4c1) (by decide +kernel) rfl rfl rfl (by decide +kernel)
set_option maxRecDepth 65536 in
theorem w_c4 : (Jvm.Cond.code ({ cls := "java/util/DualPivotQuicksort", name := "sort", desc := "([IIII)V" } : Jvm.MethodName) jdk_2529_method_3_code (7 : Nat) (Option.none : Option Jvm.ClassFile.FieldType)).before args0 about1 = true := code_word (m := ⟨5, 1⟩) (meth := k5m1) (c := k5c1) (by decide +kernel) rfl rfl rfl (by decide +kernel)
set_option maxRecDepth 65536 in
theorem w_c5 : (Jvm.Cond.code ({ cls := "java/util/DualPivotQuicksort", name := "sort", desc := "(Ljava/util/DualPivotQuicksort$Sorter;[IIII)V" } : Jvm.MethodName) jdk_2529_method_4_code (21 : Nat) (Option.none : Option Jvm.ClassFile.FieldType)).before args0 about1 = true := code_word (m := ⟨5, 2⟩) (meth := k5m2) (c := k5c2) (by decide +kernel) rfl rfl rfl (by decide +kernel)
set_option maxRecDepth 65536 in
theorem w_c6 : (Jvm.Cond.code ({ cls := "java/util/DualPivotQuicksort", name := "insertionSort", desc := "([III)V" } : Jvm.MethodName) jdk_2529_method_6_code (6 : Nat) (Option.none : Option Jvm.ClassFile.FieldType)).before args0 about1 = true := code_word (m := ⟨5, 3⟩) (meth := k5m3) (c := k5c3) (by decide +kernel) rfl rfl rfl (by decide +kernel)
set_option maxRecDepth 65536 in
theorem w_c7 : (Jvm.Cond.code ({ cls := "com/example/cardinality/cardinality/Conjunction", name := "asHornClause", desc := "()Lcom/example/cardinality/cardinality/Clause;" } : Jvm.MethodName) prog_2_method_5_code (2 : Nat) (Option.some (Jvm.ClassFile.FieldType.object "com/example/cardinality/cardinality/Clause"))).before args0 about1 = true := code_word (m := ⟨2, 1⟩) (meth := k2m1) (c := k2c1) (by decide +kernel) rfl rfl rfl (by decide +kernel)
set_option maxRecDepth 65536 in
theorem w_c8 : (Jvm.Cond.code ({ cls := "com/example/cardinality/cardinality/Clause", name := "<init>", desc := "([II)V" } : Jvm.MethodName) prog_1_method_1_code (3 : Nat) (Option.none : Option Jvm.ClassFile.FieldType)).before args0 about1 = true := code_word (m := ⟨6, 0⟩) (meth := k6m0) (c := k6c0) (by decide +kernel) rfl rfl rfl (by decide +kernel)
set_option maxRecDepth 65536 in
theorem w_c9 : (Jvm.Cond.code ({ cls := "com/example/cardinality/cardinality/Clause", name := "head", desc := "()I" } : Jvm.MethodName) prog_1_method_3_code (1 : Nat) (Option.some Jvm.ClassFile.FieldType.int)).before args0 about1 = true := code_word (m := ⟨6, 2⟩) (meth := k6m2) (c := k6c2) (by decide +kernel) rfl rfl rfl (by decide +kernel)
set_option maxRecDepth 65536 in
theorem w_c10 : (Jvm.Cond.code ({ cls := "com/example/cardinality/cardinality/Clause", name := "body", desc := "()[I" } : Jvm.MethodName) prog_1_method_2_code (1 : Nat) (Option.some (Jvm.ClassFile.FieldType.array Jvm.ClassFile.FieldType.int))).before args0 about1 = true := code_word (m := ⟨6, 1⟩) (meth := k6m1) (c := k6c1) (by decide +kernel) rfl rfl rfl (by decide +kernel)
set_option maxRecDepth 65536 in
theorem w_c11 : (Jvm.Cond.code ({ cls := "java/lang/Math", name := "min", desc := "(II)I" } : Jvm.MethodName) jdk_29_method_69_code (2 : Nat) (Option.some Jvm.ClassFile.FieldType.int)).before args0 about1 = true := code_word (m := ⟨7, 2⟩) (meth := k7m2) (c := k7c2) (by decide +kernel) rfl rfl rfl (by decide +kernel)
set_option maxRecDepth 65536 in
theorem w_c12 : (Jvm.Cond.code ({ cls := "java/lang/Math", name := "max", desc := "(II)I" } : Jvm.MethodName) jdk_29_method_65_code (2 : Nat) (Option.some Jvm.ClassFile.FieldType.int)).before args0 about1 = true := code_word (m := ⟨7, 1⟩) (meth := k7m1) (c := k7c1) (by decide +kernel) rfl rfl rfl (by decide +kernel)
def codes1 : List Jvm.Cond := [Jvm.Cond.code x code maxLocals ret, Jvm.Cond.code ({ cls := "com/example/cardinality/cardinality/Conjunction", name := "<init>", desc := "([I[I)V" } : Jvm.MethodName) prog_2_method_1_code (3 : Nat) (Option.none : Option Jvm.ClassFile.FieldType), Jvm.Cond.code ({ cls := "java/lang/Object", name := "<init>", desc := "()V" } : Jvm.MethodName) object_method_1_code (1 : Nat) (Option.none : Option Jvm.ClassFile.FieldType), Jvm.Cond.code ({ cls := "java/util/Arrays", name := "sort", desc := "([I)V" } : Jvm.MethodName) jdk_65_method_2_code (1 : Nat) (Option.none : Option Jvm.ClassFile.FieldType), Jvm.Cond.code ({ cls := "java/util/DualPivotQuicksort", name := "sort", desc := "([IIII)V" } : Jvm.MethodName) jdk_2529_method_3_code (7 : Nat) (Option.none : Option Jvm.ClassFile.FieldType), Jvm.Cond.code ({ cls := "java/util/DualPivotQuicksort", name := "sort", desc := "(Ljava/util/DualPivotQuicksort$Sorter;[IIII)V" } : Jvm.MethodName) jdk_2529_method_4_code (21 : Nat) (Option.none : Option Jvm.ClassFile.FieldType), Jvm.Cond.code ({ cls := "java/util/DualPivotQuicksort", name := "insertionSort", desc := "([III)V" } : Jvm.MethodName) jdk_2529_method_6_code (6 : Nat) (Option.none : Option Jvm.ClassFile.FieldType), Jvm.Cond.code ({ cls := "com/example/cardinality/cardinality/Conjunction", name := "asHornClause", desc := "()Lcom/example/cardinality/cardinality/Clause;" } : Jvm.MethodName) prog_2_method_5_code (2 : Nat) (Option.some (Jvm.ClassFile.FieldType.object "com/example/cardinality/cardinality/Clause")), Jvm.Cond.code ({ cls := "com/example/cardinality/cardinality/Clause", name := "<init>", desc := "([II)V" } : Jvm.MethodName) prog_1_method_1_code (3 : Nat) (Option.none : Option Jvm.ClassFile.FieldType), Jvm.Cond.code ({ cls := "com/example/cardinality/cardinality/Clause", name := "head", desc := "()I" } : Jvm.MethodName) prog_1_method_3_code (1 : Nat) (Option.some Jvm.ClassFile.FieldType.int), Jvm.Cond.code ({ cls := "com/example/cardinality/cardinality/Clause", name := "body", desc := "()[I" } : Jvm.MethodName) prog_1_method_2_code (1 : Nat) (Option.some (Jvm.ClassFile.FieldType.array Jvm.ClassFile.FieldType.int)), Jvm.Cond.code ({ cls := "java/lang/Math", name := "min", desc := "(II)I" } : Jvm.MethodName) jdk_29_method_69_code (2 : Nat) (Option.some Jvm.ClassFile.FieldType.int), Jvm.Cond.code ({ cls := "java/lang/Math", name := "max", desc := "(II)I" } : Jvm.MethodName) jdk_29_method_65_code (2 : Nat) (Option.some Jvm.ClassFile.FieldType.int)]
set_option maxRecDepth 65536 in
theorem codes_eq : words1.filter isCode = codes1 := rfl
theorem w_codes : ∀ c ∈ words1.filter isCode, c.before args0 about1 = true := by
  rw [codes_eq]
  intro c hc
  simp only [codes1, List.mem_cons, List.not_mem_nil, or_false] at hc
  rcases hc with rfl | rfl | rfl | rfl | rfl | rfl | rfl | rfl | rfl | rfl | rfl | rfl | rfl
  · exact w_c0
  · exact w_c1
  · exact w_c2
  · exact w_c3
  · exact w_c4
  · exact w_c5
  · exact w_c6
  · exact w_c7
  · exact w_c8
  · exact w_c9
  · exact w_c10
  · exact w_c11
  · exact w_c12
set_option maxRecDepth 65536 in
theorem w_t1 : (words1.take 24).all (fun c => isCode c || c.before args0 about1) = true := by decide +kernel
set_option maxRecDepth 65536 in
theorem w_t2 : ((words1.drop 24).take 24).all (fun c => isCode c || c.before args0 about1) = true := by decide +kernel
set_option maxRecDepth 65536 in
theorem w_t3 : ((words1.drop 24).drop 24).all (fun c => isCode c || c.before args0 about1) = true := by decide +kernel
theorem w_tables : (allAtoms (Jvm.Cond.code x code maxLocals ret :: tables_1)).before args0 about1 = true := by
  rw [allAtoms_all]
  show words1.all (fun c => c.before args0 about1) = true
  refine all_split ?_ w_codes
  rw [← List.take_append_drop 24 words1, List.all_append, w_t1, ← List.take_append_drop 24 (words1.drop 24), List.all_append, w_t2, w_t3]
  rfl
set_option maxRecDepth 65536 in
theorem w_case : (Jvm.Cond.and given_1 narrow_1).before args0 about1 = true := by decide +kernel
theorem w_applies : (headSpec (Jvm.Cond.code x code maxLocals ret :: tables_1) room_1).applies x e0.platform about1 = true :=
  (Spec.applies_iff w_frames).mpr ⟨w_running, w_runnable, w_alone, w_named, w_hears, w_ripe, w_room, w_tables⟩
theorem atStart : AtStart classFile x code maxLocals ret World_1 tables_1 room_1 Calls_1 rest_1 Pre_1 launch0 p0 e0 about1 theMethod args0 below0 :=
  ⟨lists_1, trivial, launch0.admits_env _ _ _, launch0.least_env, fairChoices_fair.cas, fairChoices_fair.clock, w_frames, w_args, w_heap, w_applies, trivial, trivial, w_case⟩
end start1
theorem witness_1 : WitnessClaimed_1 := ⟨start1.p0, start1.e0, start1.about1, start1.theMethod, start1.args0, start1.below0, start1.atStart⟩
end Jvm.Pilot.@@N@@
