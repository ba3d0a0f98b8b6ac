import JvmDerived
import JvmDerived.Pilot.@@N@@Statement
import JvmDerived.Pilot.@@N@@Code
set_option linter.unusedVariables false
set_option linter.unusedSimpArgs false
namespace Jvm.MM
open Jvm Jvm.ClassFile Sem Op Lib Jvm.Free Jvm.Stand Jvm.LawKit Jvm.RoadKit
/-! A small machine over a picture of the new objects; its soundness over the library's laws. -/
abbrev Kd : Type := Sum FieldType Nat
abbrev Obj : Type := Kd × List Value
abbrev Hp : Type := List Obj
abbrev St : Type := Nat × List Slot × List Value × Hp × Nat × Nat
abbrev MRes : Type := Option Value × Hp
abbrev Mth : Type := MethodName × ByteArray × Nat × Option FieldType × Room
abbrev Fds : Type := List (String × String × String × FieldType)
abbrev Cls : Type := String × Nat × Fds
/-- methods; classes; fields read and fields written (method, entry, class, place); statics (method, entry, number) and their values; new and anewarray (method, entry, class); the kinds of arrays made; casts (method, entry, kind, answer); int and long constants; static and special calls (method, entry, kind, parameters, callee); virtual calls (method, entry, class, parameters, callee); the greatest lengths of new arrays (method, pc, cap); how many objects stood already -/
abbrev Prg : Type := List Mth × List Cls × List (Nat × Nat × Nat × Nat) × List (Nat × Nat × Nat × Nat) × List (Nat × Nat × Nat) × List (String × String × String × Value) × List (Nat × Nat × Nat) × List (Nat × Nat × Nat) × List FieldType × List (Nat × Nat × Kd × Bool) × List (Nat × Nat × Int32) × List (Nat × Nat × Int64) × List (Nat × Nat × Nat × Nat × Nat) × List (Nat × Nat × Nat × Nat × Nat) × List (Nat × Nat × Nat) × Nat
def Prg.ms (P : Prg) := P.1
def Prg.cs (P : Prg) := P.2.1
def Prg.fl (P : Prg) := P.2.2.1
def Prg.fw (P : Prg) := P.2.2.2.1
def Prg.sf (P : Prg) := P.2.2.2.2.1
def Prg.sv (P : Prg) := P.2.2.2.2.2.1
def Prg.nw (P : Prg) := P.2.2.2.2.2.2.1
def Prg.na (P : Prg) := P.2.2.2.2.2.2.2.1
def Prg.ats (P : Prg) := P.2.2.2.2.2.2.2.2.1
def Prg.ca (P : Prg) := P.2.2.2.2.2.2.2.2.2.1
def Prg.ki (P : Prg) := P.2.2.2.2.2.2.2.2.2.2.1
def Prg.kl (P : Prg) := P.2.2.2.2.2.2.2.2.2.2.2.1
def Prg.ic (P : Prg) := P.2.2.2.2.2.2.2.2.2.2.2.2.1
def Prg.vc (P : Prg) := P.2.2.2.2.2.2.2.2.2.2.2.2.2.1
def Prg.cp (P : Prg) := P.2.2.2.2.2.2.2.2.2.2.2.2.2.2.1
def Prg.j0 (P : Prg) := P.2.2.2.2.2.2.2.2.2.2.2.2.2.2.2
def dummy : Mth := (⟨"", "", ""⟩, ⟨#[]⟩, 0, none, { frames := 0, cells := 0, slots := 0, locals := 0 })
def Prg.mt (P : Prg) (j : Nat) : Mth := match P.ms[j]? with | some M => M | none => dummy
def Mth.y (M : Mth) : MethodName := M.1
def Mth.code (M : Mth) : ByteArray := M.2.1
def Mth.mx (M : Mth) : Nat := M.2.2.1
def Mth.ret (M : Mth) : Option FieldType := M.2.2.2.1
def Mth.rm (M : Mth) : Room := M.2.2.2.2
def Prg.cname (P : Prg) (c : Nat) : String := match P.cs[c]? with | some C => C.1 | none => ""
def Prg.flds (P : Prg) (c : Nat) : Fds := match P.cs[c]? with | some C => C.2.2 | none => []
def Prg.nsl (P : Prg) (c : Nat) : Nat := match P.cs[c]? with | some C => C.2.1 | none => 0
def lk2 {α : Type} : List (Nat × Nat × α) → Nat → Nat → Option α
  | [], _, _ => none
  | x :: r, j, i => if x.1 = j ∧ x.2.1 = i then some x.2.2 else lk2 r j i
def lk3 {α : Type} : List (Nat × Nat × Nat × α) → Nat → Nat → Nat → Option α
  | [], _, _, _ => none
  | x :: r, j, i, c => if x.1 = j ∧ x.2.1 = i ∧ x.2.2.1 = c then some x.2.2.2 else lk3 r j i c
def lkK : List (Nat × Nat × Kd × Bool) → Nat → Nat → Kd → Option Bool
  | [], _, _, _ => none
  | x :: r, j, i, c => if x.1 = j ∧ x.2.1 = i ∧ x.2.2.1 = c then some x.2.2.2 else lkK r j i c
theorem lk2_mem {α : Type} : ∀ {T : List (Nat × Nat × α)} {j i : Nat} {x : α}, lk2 T j i = some x → (j, i, x) ∈ T
  | [], _, _, _, h => by cases h
  | y :: r, j, i, x, h => by
    obtain ⟨a, b, z⟩ := y
    by_cases q : a = j ∧ b = i
    · rw [show lk2 ((a, b, z) :: r) j i = some z from if_pos q] at h
      obtain ⟨rfl, rfl⟩ := q
      cases h
      exact List.mem_cons_self
    · rw [show lk2 ((a, b, z) :: r) j i = lk2 r j i from if_neg q] at h
      exact List.mem_cons_of_mem _ (lk2_mem h)
theorem lk3_mem {α : Type} : ∀ {T : List (Nat × Nat × Nat × α)} {j i c : Nat} {x : α}, lk3 T j i c = some x → (j, i, c, x) ∈ T
  | [], _, _, _, _, h => by cases h
  | y :: r, j, i, c, x, h => by
    obtain ⟨a, b, d, z⟩ := y
    by_cases q : a = j ∧ b = i ∧ d = c
    · rw [show lk3 ((a, b, d, z) :: r) j i c = some z from if_pos q] at h
      obtain ⟨rfl, rfl, rfl⟩ := q
      cases h
      exact List.mem_cons_self
    · rw [show lk3 ((a, b, d, z) :: r) j i c = lk3 r j i c from if_neg q] at h
      exact List.mem_cons_of_mem _ (lk3_mem h)
theorem lkK_mem : ∀ {T : List (Nat × Nat × Kd × Bool)} {j i : Nat} {c : Kd} {x : Bool}, lkK T j i c = some x → (j, i, c, x) ∈ T
  | [], _, _, _, _, h => by cases h
  | y :: r, j, i, c, x, h => by
    obtain ⟨a, b, d, z⟩ := y
    by_cases q : a = j ∧ b = i ∧ d = c
    · rw [show lkK ((a, b, d, z) :: r) j i c = some z from if_pos q] at h
      obtain ⟨rfl, rfl, rfl⟩ := q
      cases h
      exact List.mem_cons_self
    · rw [show lkK ((a, b, d, z) :: r) j i c = lkK r j i c from if_neg q] at h
      exact List.mem_cons_of_mem _ (lkK_mem h)
/-! ### the steps -/
def ilen : Instr → Nat
  | .aload _ | .astore _ | .iload _ | .istore _ | .lload _ | .lstore _ | .dload _ | .dstore _ | .bipush _ | .ldc _ | .newarray _ => 2
  | .sipush _ | .iinc _ _ | .getfield _ | .putfield _ | .getstatic _ | .goto _ | .ifCond _ _ | .if_icmp _ _ | .if_acmp _ _ | .ifnull _ | .ifnonnull _ | .new _ | .anewarray _ | .checkcast _ | .instanceof _ | .invokestatic _ | .invokespecial _ | .invokevirtual _ | .ldc2_w _ => 3
  | _ => 1
def isI : Value → Bool | .int _ => true | _ => false
def isJ : Value → Bool | .long _ => true | _ => false
def isD : Value → Bool | .double _ => true | _ => false
def isA : Value → Bool | .null => true | .ref _ => true | _ => false
def cat : Value → Nat | .long _ => 2 | .double _ => 2 | _ => 1
def wt : List Value → Nat | [] => 0 | v :: r => cat v + wt r
def s1 : Slot → Bool | .unset => true | .val v => cat v == 1 | .second => false
def ld (q : Value → Bool) (L : List Slot) (k : Nat) (S : List Value) : Option (List Slot × List Value) := match L[k]? with | some (.val v) => if q v = true then some (L, v :: S) else none | _ => none
def so1 (L : List Slot) (k : Nat) : Bool := match L[k]? with | some o => s1 o | none => false
def so2 (L : List Slot) (k : Nat) : Bool := (match L[k]? with | some (.val _) => true | some .unset => true | _ => false) && (match L[k + 1]? with | some (.val v) => cat v == 1 | some _ => true | none => false)
def st1 (q : Value → Bool) (L : List Slot) (k : Nat) : List Value → Option (List Slot × List Value)
  | v :: S => if (q v && so1 L k) = true then some (L.set k (.val v), S) else none
  | [] => none
def st2 (q : Value → Bool) (L : List Slot) (k : Nat) : List Value → Option (List Slot × List Value)
  | v :: S => if (q v && so2 L k) = true then some ((L.set k (.val v)).set (k + 1) .second, S) else none
  | [] => none
def inc (L : List Slot) (k : Nat) (c : Int) (S : List Value) : Option (List Slot × List Value) := match L[k]? with | some (.val (.int x)) => some (L.set k (.val (.int (x + Int32.ofInt c))), S) | _ => none
def bI (f : Int32 → Int32 → Int32) : List Value → Option (List Value) | .int y :: .int x :: r => some (.int (f x y) :: r) | _ => none
def dI (f : Int32 → Int32 → Int32) : List Value → Option (List Value) | .int y :: .int x :: r => if y = 0 then none else some (.int (f x y) :: r) | _ => none
def uI (f : Int32 → Value) : List Value → Option (List Value) | .int x :: r => some (f x :: r) | _ => none
def bJ (f : Int64 → Int64 → Value) : List Value → Option (List Value) | .long y :: .long x :: r => some (f x y :: r) | _ => none
def sJ (f : Int64 → Int32 → Int64) : List Value → Option (List Value) | .int y :: .long x :: r => some (.long (f x y) :: r) | _ => none
def uJ (f : Int64 → Value) : List Value → Option (List Value) | .long x :: r => some (f x :: r) | _ => none
def bD (f : UInt64 → UInt64 → Value) : List Value → Option (List Value) | .double y :: .double x :: r => some (f x y :: r) | _ => none
def fdup : List Value → Option (List Value) | x :: r => if cat x = 1 then some (x :: x :: r) else none | _ => none
def fpop : List Value → Option (List Value) | x :: r => if cat x = 1 then some r else none | _ => none
def fdx1 : List Value → Option (List Value) | x :: y :: r => if cat x = 1 ∧ cat y = 1 then some (x :: y :: x :: r) else none | _ => none
def fd2 : List Value → Option (List Value)
  | .long x :: r => some (.long x :: .long x :: r)
  | x :: y :: r => if cat x = 1 ∧ cat y = 1 then some (x :: y :: x :: y :: r) else none
  | _ => none
def keepL (L : List Slot) (o : Option (List Value)) : Option (List Slot × List Value) := match o with | some S => some (L, S) | none => none
def plainI (i : Instr) (L : List Slot) (S : List Value) : Option (List Slot × List Value) :=
  match i with
  | .aconst_null => some (L, .null :: S)
  | .iconst k => some (L, .int (Int32.ofInt k) :: S)
  | .bipush k => some (L, .int (Int8.ofInt k).toInt32 :: S)
  | .sipush k => some (L, .int (Int16.ofInt k).toInt32 :: S)
  | .lconst k => some (L, .long (Int64.ofNat k) :: S)
  | .iload k => ld isI L k S
  | .iload_n k => ld isI L k.val S
  | .lload k => ld isJ L k S
  | .lload_n k => ld isJ L k.val S
  | .aload k => ld isA L k S
  | .aload_n k => ld isA L k.val S
  | .istore k => st1 isI L k S
  | .istore_n k => st1 isI L k.val S
  | .astore k => st1 isA L k S
  | .astore_n k => st1 isA L k.val S
  | .lstore k => st2 isJ L k S
  | .lstore_n k => st2 isJ L k.val S
  | .dload k => ld isD L k S
  | .dload_n k => ld isD L k.val S
  | .dstore k => st2 isD L k S
  | .dstore_n k => st2 isD L k.val S
  | .dconst d => some (L, .double (if d = 0 then FP.dconst0 else FP.dconst1) :: S)
  | .i2d => keepL L (uI (fun x => .double (FP.i2d x)) S)
  | .dcmp o => keepL L (bD (fun x y => .int (cmpValue (FP.dcmp x y) o)) S)
  | .iinc k c => inc L k c S
  | .iadd => keepL L (bI (fun x y => x + y) S)
  | .isub => keepL L (bI (fun x y => x - y) S)
  | .imul => keepL L (bI (fun x y => x * y) S)
  | .iand => keepL L (bI (fun x y => x &&& y) S)
  | .ior => keepL L (bI (fun x y => x ||| y) S)
  | .ixor => keepL L (bI (fun x y => x ^^^ y) S)
  | .ishl => keepL L (bI (fun x y => x <<< (y &&& 31)) S)
  | .ishr => keepL L (bI (fun x y => x >>> (y &&& 31)) S)
  | .iushr => keepL L (bI XT.ushr S)
  | .irem => keepL L (dI (fun x y => x % y) S)
  | .idiv => keepL L (dI (fun x y => x / y) S)
  | .ineg => keepL L (uI (fun x => .int (-x)) S)
  | .i2l => keepL L (uI (fun x => .long x.toInt64) S)
  | .i2b => keepL L (uI (fun x => .int x.toInt8.toInt32) S)
  | .i2c => keepL L (uI (fun x => .int x.toUInt32.toUInt16.toUInt32.toInt32) S)
  | .i2s => keepL L (uI (fun x => .int x.toInt16.toInt32) S)
  | .l2i => keepL L (uJ (fun x => .int x.toInt32) S)
  | .ladd => keepL L (bJ (fun x y => .long (x + y)) S)
  | .lsub => keepL L (bJ (fun x y => .long (x - y)) S)
  | .lmul => keepL L (bJ (fun x y => .long (x * y)) S)
  | .land => keepL L (bJ (fun x y => .long (x &&& y)) S)
  | .lor => keepL L (bJ (fun x y => .long (x ||| y)) S)
  | .lxor => keepL L (bJ (fun x y => .long (x ^^^ y)) S)
  | .lcmp => keepL L (bJ (fun x y => .int (XT.cmpL x y)) S)
  | .lshl => keepL L (sJ (fun x y => x <<< (y.toInt64 &&& 63)) S)
  | .lshr => keepL L (sJ (fun x y => x >>> (y.toInt64 &&& 63)) S)
  | .lushr => keepL L (sJ XT.ushrL S)
  | .dup => keepL L (fdup S)
  | .pop => keepL L (fpop S)
  | .dup_x1 => keepL L (fdx1 S)
  | .dup2 => keepL L (fd2 S)
  | _ => none
/-- taken or not; the offset; the stack behind -/
def brI (i : Instr) (S : List Value) : Option (Bool × Int × List Value) :=
  match i with
  | .goto o => some (true, o, S)
  | .ifCond c o => match S with | .int x :: r => some (ifCond.holds c x, o, r) | _ => none
  | .if_icmp c o => match S with | .int y :: .int x :: r => some (if_icmp.holds c x y, o, r) | _ => none
  | .if_acmp c o => match S with | y :: x :: r => if (isA x && isA y) = true then some (XT.acmp c x y, o, r) else none | _ => none
  | .ifnull o => match S with | .null :: r => some (true, o, r) | .ref _ :: r => some (false, o, r) | _ => none
  | .ifnonnull o => match S with | .null :: r => some (false, o, r) | .ref _ :: r => some (true, o, r) | _ => none
  | _ => none
/-- what a place of this type keeps of a value -/
def vty : FieldType → Value → Option Value
  | .int, .int x => some (.int x)
  | .boolean, .int x => some (.int (x &&& 1))
  | .byte, .int x => some (.int x.toInt8.toInt32)
  | .char, .int x => some (.int x.toUInt32.toUInt16.toUInt32.toInt32)
  | .short, .int x => some (.int x.toInt16.toInt32)
  | .long, .long x => some (.long x)
  | .double, .double x => some (.double x)
  | .object _, .null => some .null
  | .object _, .ref a => some (.ref a)
  | .array _, .null => some .null
  | .array _, .ref a => some (.ref a)
  | _, _ => none
def dft : FieldType → Value
  | .boolean | .byte | .char | .short | .int => .int 0
  | .long => .long 0
  | .float => .float 0
  | .double => .double 0
  | .object _ | .array _ => .null
/-- which component types an array load or store takes -/
def aty : Instr → FieldType → Bool
  | .iaload, .int | .iastore, .int | .baload, .byte | .bastore, .byte | .caload, .char | .castore, .char | .saload, .short | .laload, .long | .lastore, .long | .daload, .double | .dastore, .double => true
  | .aaload, .object _ => true
  | .aastore, .object _ => true
  | _, _ => false
def ldA (i : Instr) (H : Hp) (a : Nat) (x : Int32) : Option Value :=
  match H[a]? with
  | some (.inl ty, vs) => if aty i ty = true ∧ ¬ x < 0 then vs[x.toNatClampNeg]? else none
  | _ => none
def alen (H : Hp) (a : Nat) : Option Int32 :=
  match H[a]? with
  | some (.inl _, vs) => some vs.length.toInt32
  | _ => none
def stoOk (P : Prg) (H : Hp) : FieldType → Value → Bool
  | .object C, .ref b => match H[b]? with | some (.inr cid, _) => decide (cid < P.cs.length) && (P.cname cid == C) | _ => false
  | _, _ => true
def stA (P : Prg) (i : Instr) (H : Hp) (a : Nat) (x : Int32) (v : Value) : Option Hp :=
  if a < P.j0 then none else
  match H[a]? with
  | some (.inl ty, vs) => match vty ty v with
    | some v' => if aty i ty = true ∧ ¬ x < 0 ∧ x.toNatClampNeg < vs.length ∧ stoOk P H ty v' = true then some (H.set a (.inl ty, vs.set x.toNatClampNeg v')) else none
    | none => none
  | _ => none
def rdO (P : Prg) (j idx : Nat) (o : Obj) : Option Value :=
  match o with
  | (.inr cid, vs) => match lk3 P.fl j idx cid with | some q => vs[q]? | none => none
  | _ => none
def rdF (P : Prg) (j idx : Nat) (H : Hp) (a : Nat) : Option Value := match H[a]? with | some o => rdO P j idx o | none => none
def wrO (P : Prg) (j idx : Nat) (v : Value) (o : Obj) : Option Obj :=
  match o with
  | (.inr cid, vs) => match lk3 P.fw j idx cid with
    | some q => match (P.flds cid)[q]? with
      | some fd => match vty fd.2.2.2 v with
        | some v' => if q < vs.length then some (.inr cid, vs.set q v') else none
        | none => none
      | none => none
    | none => none
  | _ => none
def wrF (P : Prg) (j idx : Nat) (H : Hp) (a : Nat) (v : Value) : Option Hp :=
  if a < P.j0 then none else
  match H[a]? with | some o => (match wrO P j idx v o with | some o' => some (H.set a o') | none => none) | none => none
def newC (P : Prg) (j idx : Nat) (H : Hp) (k n : Nat) : Option (Hp × Nat × Nat) :=
  match lk2 P.nw j idx with
  | some cid => if k + 1 ≤ (P.mt j).rm.cells ∧ n + P.nsl cid ≤ (P.mt j).rm.slots then some (H ++ [(.inr cid, (P.flds cid).map fun fd => dft fd.2.2.2)], k + 1, n + P.nsl cid) else none
  | none => none
def newA (P : Prg) (j pc : Nat) (ty : FieldType) (len : Int32) (H : Hp) (k n : Nat) : Option (Hp × Nat × Nat) :=
  match lk2 P.cp j pc with
  | some cap => if ¬ len < 0 ∧ len.toNatClampNeg ≤ cap ∧ cap * 8 ≤ 536870912 ∧ k + 1 ≤ (P.mt j).rm.cells ∧ n + cap ≤ (P.mt j).rm.slots then some (H ++ [(.inl ty, List.replicate len.toNatClampNeg (dft ty))], k + 1, n + cap) else none
  | none => none
def castI (P : Prg) (j idx : Nat) (H : Hp) (a : Nat) : Option Bool := match H[a]? with | some o => lkK P.ca j idx o.1 | none => none
abbrev HR : Type := List Value × Hp × Nat × Nat
def hLdc (P : Prg) (j idx : Nat) (S : List Value) (H : Hp) (k n : Nat) : Option HR := match lk2 P.ki j idx with | some v => some (.int v :: S, H, k, n) | none => none
def hLdc2 (P : Prg) (j idx : Nat) (S : List Value) (H : Hp) (k n : Nat) : Option HR := match lk2 P.kl j idx with | some v => some (.long v :: S, H, k, n) | none => none
def hGs (P : Prg) (j idx : Nat) (S : List Value) (H : Hp) (k n : Nat) : Option HR := match lk2 P.sf j idx with | some q => (match P.sv[q]? with | some d => some (d.2.2.2 :: S, H, k, n) | none => none) | none => none
def hGet (P : Prg) (j idx : Nat) (S : List Value) (H : Hp) (k n : Nat) : Option HR := match S with | .ref a :: r => (match rdF P j idx H a with | some v => some (v :: r, H, k, n) | none => none) | _ => none
def hPut (P : Prg) (j idx : Nat) (S : List Value) (H : Hp) (k n : Nat) : Option HR := match S with | v :: .ref a :: r => (match wrF P j idx H a v with | some H' => some (r, H', k, n) | none => none) | _ => none
def hNew (P : Prg) (j idx : Nat) (S : List Value) (H : Hp) (k n : Nat) : Option HR := match newC P j idx H k n with | some x => some (.ref H.length :: S, x.1, x.2.1, x.2.2) | none => none
def hNewA (P : Prg) (j pc : Nat) (t : ArrayType) (S : List Value) (H : Hp) (k n : Nat) : Option HR := match S with | .int len :: r => (if newarray.typeOf t ∈ P.ats then (match newA P j pc (newarray.typeOf t) len H k n with | some x => some (.ref H.length :: r, x.1, x.2.1, x.2.2) | none => none) else none) | _ => none
def hNewR (P : Prg) (j pc idx : Nat) (S : List Value) (H : Hp) (k n : Nat) : Option HR := match S with
  | .int len :: r => (match lk2 P.na j idx with
    | some cid => (match newA P j pc (.object (P.cname cid)) len H k n with | some x => some (.ref H.length :: r, x.1, x.2.1, x.2.2) | none => none)
    | none => none)
  | _ => none
def hLen (S : List Value) (H : Hp) (k n : Nat) : Option HR := match S with | .ref a :: r => (match alen H a with | some v => some (.int v :: r, H, k, n) | none => none) | _ => none
def hLda (i : Instr) (S : List Value) (H : Hp) (k n : Nat) : Option HR := match S with | .int x :: .ref a :: r => (match ldA i H a x with | some v => some (v :: r, H, k, n) | none => none) | _ => none
def hSta (P : Prg) (i : Instr) (S : List Value) (H : Hp) (k n : Nat) : Option HR := match S with | v :: .int x :: .ref a :: r => (match stA P i H a x v with | some H' => some (r, H', k, n) | none => none) | _ => none
def hCast (P : Prg) (j idx : Nat) (S : List Value) (H : Hp) (k n : Nat) : Option HR := match S with
  | .null :: r => some (.null :: r, H, k, n)
  | .ref a :: r => (match castI P j idx H a with | some true => some (.ref a :: r, H, k, n) | _ => none)
  | _ => none
def hInst (P : Prg) (j idx : Nat) (S : List Value) (H : Hp) (k n : Nat) : Option HR := match S with
  | .null :: r => some (.int 0 :: r, H, k, n)
  | .ref a :: r => (match castI P j idx H a with | some true => some (.int 1 :: r, H, k, n) | some false => some (.int 0 :: r, H, k, n) | none => none)
  | _ => none
def heapI (P : Prg) (j pc : Nat) (i : Instr) (S : List Value) (H : Hp) (k n : Nat) : Option HR :=
  match i with
  | .ldc idx => hLdc P j idx S H k n
  | .ldc2_w idx => hLdc2 P j idx S H k n
  | .getstatic idx => hGs P j idx S H k n
  | .getfield idx => hGet P j idx S H k n
  | .putfield idx => hPut P j idx S H k n
  | .new idx => hNew P j idx S H k n
  | .newarray t => hNewA P j pc t S H k n
  | .anewarray idx => hNewR P j pc idx S H k n
  | .arraylength => hLen S H k n
  | .iaload => hLda .iaload S H k n
  | .baload => hLda .baload S H k n
  | .caload => hLda .caload S H k n
  | .saload => hLda .saload S H k n
  | .laload => hLda .laload S H k n
  | .aaload => hLda .aaload S H k n
  | .daload => hLda .daload S H k n
  | .iastore => hSta P .iastore S H k n
  | .bastore => hSta P .bastore S H k n
  | .castore => hSta P .castore S H k n
  | .lastore => hSta P .lastore S H k n
  | .aastore => hSta P .aastore S H k n
  | .dastore => hSta P .dastore S H k n
  | .checkcast idx => hCast P j idx S H k n
  | .instanceof idx => hInst P j idx S H k n
  | _ => none
/-- what returns -/
def retI (t : Option FieldType) (i : Instr) (S : List Value) : Option (Option Value) :=
  match i with
  | .return_ => match t, S with | none, [] => some none | _, _ => none
  | .ireturn => match t, S with
    | some .int, .int x :: _ => some (some (.int x))
    | some .boolean, .int x :: _ => some (some (.int (x &&& 1)))
    | some .byte, .int x :: _ => some (some (.int x.toInt8.toInt32))
    | some .char, .int x :: _ => some (some (.int x.toUInt32.toUInt16.toUInt32.toInt32))
    | some .short, .int x :: _ => some (some (.int x.toInt16.toInt32))
    | _, _ => none
  | .lreturn => match t, S with | some .long, .long x :: _ => some (some (.long x)) | _, _ => none
  | .dreturn => match t, S with | some .double, .double x :: _ => some (some (.double x)) | _, _ => none
  | .areturn => match t, S with
    | some (.object _), .null :: _ => some (some .null)
    | some (.object _), .ref a :: _ => some (some (.ref a))
    | some (.array _), .null :: _ => some (some .null)
    | some (.array _), .ref a :: _ => some (some (.ref a))
    | _, _ => none
  | _ => none
def laid : List Value → List Slot
  | [] => []
  | v :: vs => if cat v = 2 then .val v :: .second :: laid vs else .val v :: laid vs
def entL (as : List Value) (mx : Nat) : List Slot := laid as ++ List.replicate (mx - (laid as).length) .unset
/-- the callee, its arguments, what lies under them -/
def calI (P : Prg) (j : Nat) (i : Instr) (S : List Value) (H : Hp) : Option (Nat × List Value × List Value) :=
  match i with
  | .invokestatic idx => match lk2 P.ic j idx with
    | some (0, np, j') => if np ≤ S.length then some (j', (S.take np).reverse, S.drop np) else none
    | _ => none
  | .invokespecial idx => match lk2 P.ic j idx with
    | some (1, np, j') => (match S.drop np with | .ref a :: r => some (j', .ref a :: (S.take np).reverse, r) | _ => none)
    | _ => none
  | .invokevirtual idx => match lk2 P.ic j idx with
    | some (2, np, _) => (match S.drop np with
      | .ref a :: r => (match H[a]? with
        | some (.inr cid, _) => (match lk3 P.vc j idx cid with | some (np', j') => if np' = np then some (j', .ref a :: (S.take np).reverse, r) else none | none => none)
        | _ => none)
      | _ => none)
    | _ => none
  | _ => none
/-- Object's own constructor -/
def objI (P : Prg) (j : Nat) (i : Instr) (L : List Slot) (S : List Value) : Option (List Value) :=
  match i with
  | .invokespecial idx => match lk2 P.ic j idx with
    | some (6, _, _) => (match S with | .ref a :: r => if L.length = (P.mt j).mx ∧ 1 ≤ (P.mt j).rm.frames ∧ wt r + 12 ≤ (P.mt j).rm.locals then some r else none | _ => none)
    | _ => none
  | _ => none
/-- an int array's own copy -/
def clnA (P : Prg) (j pc : Nat) (L : List Slot) (r : List Value) (H : Hp) (a k n : Nat) : Option HR :=
  match H[a]? with
  | some (.inl .int, vs) => (match lk2 P.cp j pc with
    | some cap => if (P.j0 ≤ a ∧ vs.all isI = true) ∧ (L.length = (P.mt j).mx ∧ 1 ≤ (P.mt j).rm.frames ∧ wt r + 14 ≤ (P.mt j).rm.locals) ∧ vs.length ≤ cap ∧ k + 1 ≤ (P.mt j).rm.cells ∧ n + cap ≤ (P.mt j).rm.slots then some (.ref H.length :: r, H ++ [(.inl .int, vs)], k + 1, n + cap) else none
    | none => none)
  | _ => none
def clnI (P : Prg) (j pc : Nat) (i : Instr) (L : List Slot) (S : List Value) (H : Hp) (k n : Nat) : Option HR :=
  match i with
  | .invokevirtual idx => match lk2 P.ic j idx with
    | some (7, _, _) => (match S with | .ref a :: r => clnA P j pc L r H a k n | _ => none)
    | _ => none
  | _ => none
def isCall (P : Prg) (j : Nat) : Instr → Nat
  | .invokestatic _ => 1
  | .invokevirtual idx => match lk2 P.ic j idx with | some (7, _, _) => 6 | _ => 1
  | .invokespecial idx => match lk2 P.ic j idx with | some (1, _, _) => 1 | _ => 2
  | .return_ | .ireturn | .lreturn | .areturn | .dreturn => 3
  | .goto _ | .ifCond _ _ | .if_icmp _ _ | .if_acmp _ _ | .ifnull _ | .ifnonnull _ => 4
  | .ldc _ | .ldc2_w _ | .getstatic _ | .getfield _ | .putfield _ | .new _ | .newarray _ | .anewarray _ | .arraylength | .iaload | .baload | .caload | .saload | .laload | .aaload | .daload | .iastore | .bastore | .castore | .lastore | .aastore | .dastore | .checkcast _ | .instanceof _ => 5
  | _ => 0
/-- the steps that neither call nor return -/
def stepI (P : Prg) (j : Nat) (i : Instr) : St → Option St
  | (pc, L, S, H, k, n) => match isCall P j i with
    | 0 => (match plainI i L S with | some x => some (pc + ilen i, x.1, x.2, H, k, n) | none => none)
    | 2 => (match objI P j i L S with | some r => some (pc + ilen i, L, r, H, k, n) | none => none)
    | 4 => (match brI i S with
      | some (true, o, r) => if 0 ≤ (pc : Int) + o then some (((pc : Int) + o).toNat, L, r, H, k, n) else none
      | some (false, o, r) => some (pc + ilen i, L, r, H, k, n)
      | none => none)
    | 5 => (match heapI P j pc i S H k n with | some x => some (pc + ilen i, L, x.1, x.2.1, x.2.2.1, x.2.2.2) | none => none)
    | 6 => (match clnI P j pc i L S H k n with | some x => some (pc + ilen i, L, x.1, x.2.1, x.2.2.1, x.2.2.2) | none => none)
    | _ => none
/-- the room that a call asks -/
def rmOk (P : Prg) (j j' : Nat) (L : List Slot) (r : List Value) (k n : Nat) : Bool :=
  decide (L.length = (P.mt j).mx) && (decide ((P.mt j').rm.frames + 1 ≤ (P.mt j).rm.frames) && (decide (wt r + ((P.mt j').mx + 11) + (P.mt j').rm.locals ≤ (P.mt j).rm.locals) && (decide (k + (P.mt j').rm.cells ≤ (P.mt j).rm.cells) && decide (n + (P.mt j').rm.slots ≤ (P.mt j).rm.slots))))
def run (P : Prg) : Nat → Nat → St → Option MRes
  | 0, _, _ => none
  | f + 1, j, (pc, L, S, H, k, n) =>
    match decode (P.mt j).code pc with
    | .error _ => none
    | .ok (i, len) =>
      if len = ilen i then
        match isCall P j i with
        | 3 => (match retI (P.mt j).ret i S with | some v => if k ≤ (P.mt j).rm.cells ∧ n ≤ (P.mt j).rm.slots then some (v, H) else none | none => none)
        | 1 => (match calI P j i S H with
          | some (j', as, r) =>
            if rmOk P j j' L r k n = true then
              (match run P f j' (0, entL as (P.mt j').mx, [], H, 0, 0) with
              | some (v, H') => run P f j (pc + 3, L, v.toList ++ r, H', k + (P.mt j').rm.cells, n + (P.mt j').rm.slots)
              | none => none)
            else none
          | none => none)
        | _ => (match stepI P j i (pc, L, S, H, k, n) with | some st' => run P f j st' | none => none)
      else none
end Jvm.MM
namespace Jvm.MM
open Jvm Jvm.ClassFile Sem Op Lib Jvm.Free Jvm.Stand Jvm.LawKit Jvm.RoadKit
/-! ### from the machine's values to the heap's -/
def tv (ρ : Nat → Addr) : Value → Value
  | .ref i => .ref (ρ i)
  | v => v
def ts (ρ : Nat → Addr) : Slot → Slot
  | .val v => .val (tv ρ v)
  | x => x
abbrev tS (ρ : Nat → Addr) (S : List Value) : List Value := S.map (tv ρ)
abbrev tL (ρ : Nat → Addr) (L : List Slot) : Array Slot := (L.map (ts ρ)).toArray
section Tr
variable {ρ : Nat → Addr}
theorem cat_eq (v : Value) : v.category = cat v := by cases v <;> rfl
theorem cat_tv (v : Value) : cat (tv ρ v) = cat v := by cases v <;> rfl
theorem wt_eq : ∀ S : List Value, ((S.map (tv ρ)).map fun v => v.category).sum = wt S
  | [] => rfl
  | v :: r => by
    have ih := wt_eq r
    show ((tv ρ v).category :: (r.map (tv ρ)).map fun v => v.category).sum = cat v + wt r
    rw [List.sum_cons, ih, cat_eq, cat_tv]
theorem tL_get {L : List Slot} {k : Nat} {o : Slot} (h : L[k]? = some o) : (tL ρ L)[k]? = some (ts ρ o) := by simp [h]
theorem tL_set (L : List Slot) (k : Nat) (o : Slot) : (tL ρ L).setIfInBounds k (ts ρ o) = tL ρ (L.set k o) := by
  apply Array.toList_inj.mp
  simp [Array.toList_setIfInBounds, List.map_set]
theorem isA_ref {v : Value} (h : isA v = true) : (tv ρ v).isRef = true := by cases v <;> first | rfl | cases h
theorem isA_cat {v : Value} (h : isA v = true) : cat v = 1 := by cases v <;> first | rfl | cases h
theorem isI_inv {v : Value} (h : isI v = true) : ∃ x, v = .int x := by cases v <;> first | exact ⟨_, rfl⟩ | cases h
theorem isJ_inv {v : Value} (h : isJ v = true) : ∃ x, v = .long x := by cases v <;> first | exact ⟨_, rfl⟩ | cases h
theorem isD_inv {v : Value} (h : isD v = true) : ∃ x, v = .double x := by cases v <;> first | exact ⟨_, rfl⟩ | cases h
theorem isA_inv {v : Value} (h : isA v = true) : v = .null ∨ ∃ a, v = .ref a := by cases v <;> first | exact Or.inl rfl | exact Or.inr ⟨_, rfl⟩ | cases h
theorem s1_inv {o : Slot} (h : s1 o = true) : ts ρ o = .unset ∨ ∃ w, ts ρ o = .val w ∧ w.category = 1 := by
  cases o with
  | unset => exact Or.inl rfl
  | second => cases h
  | val v => exact Or.inr ⟨tv ρ v, rfl, by rw [cat_eq, cat_tv]; simpa [s1] using h⟩
theorem ld_inv {q : Value → Bool} {L L' : List Slot} {k : Nat} {S S' : List Value} (h : ld q L k S = some (L', S')) : ∃ v, L[k]? = some (.val v) ∧ q v = true ∧ L' = L ∧ S' = v :: S := by
  unfold ld at h
  split at h
  · rename_i v hv
    split at h
    · rename_i hq
      cases h
      exact ⟨v, hv, hq, rfl, rfl⟩
    · cases h
  · cases h
theorem st1_inv {q : Value → Bool} {L L' : List Slot} {k : Nat} {S S' : List Value} (h : st1 q L k S = some (L', S')) : ∃ v o, S = v :: S' ∧ q v = true ∧ L[k]? = some o ∧ s1 o = true ∧ L' = L.set k (.val v) := by
  cases S with
  | nil => cases h
  | cons v r =>
    have h : (if (q v && so1 L k) = true then some (L.set k (.val v), r) else none) = some (L', S') := h
    split at h
    · rename_i hq
      obtain ⟨h1, h2⟩ := Bool.and_eq_true_iff.mp hq
      cases h
      unfold so1 at h2
      split at h2
      · rename_i o ho
        exact ⟨v, o, rfl, h1, ho, h2, rfl⟩
      · cases h2
    · cases h
theorem st2_inv {q : Value → Bool} {L L' : List Slot} {k : Nat} {S S' : List Value} (h : st2 q L k S = some (L', S')) : ∃ v, S = v :: S' ∧ q v = true ∧ so2 L k = true ∧ L' = (L.set k (.val v)).set (k + 1) .second := by
  cases S with
  | nil => cases h
  | cons v r =>
    have h : (if (q v && so2 L k) = true then some ((L.set k (.val v)).set (k + 1) .second, r) else none) = some (L', S') := h
    split at h
    · rename_i hq
      obtain ⟨h1, h2⟩ := Bool.and_eq_true_iff.mp hq
      cases h
      exact ⟨v, rfl, h1, h2, rfl⟩
    · cases h
theorem sl1 {L : List Slot} {k : Nat} {o : Slot} {v : Value} (h : L[k]? = some o) (hs : s1 o = true) (hv : cat v = 1) : storeLocals (tL ρ L) k (tv ρ v) = some (tL ρ (L.set k (.val v))) := by
  rw [XS.store1 (tL_get (ρ := ρ) h) (s1_inv hs) (by rw [cat_eq, cat_tv]; exact hv)]
  exact congrArg some (tL_set L k (.val v))
theorem self2 {l : Array Slot} {k : Nat} {o : Slot} {v : Value} (hv : v.category = 2) (h : l[k + 1]? = some o) (ho : ∀ w, o = .val w → w.category = 1) : storeSelf l k v = some ((l.setIfInBounds k (.val v)).setIfInBounds (k + 1) .second) := by
  have hk : k + 1 < l.size := (Array.getElem?_eq_some_iff.mp h).1
  have a1 : setAt l k (.val v) = some (l.setIfInBounds k (.val v)) := if_pos (by omega)
  have a2 : (l.setIfInBounds k (.val v))[k + 1]? = some o := by rw [Array.getElem?_setIfInBounds_ne (by omega)]; exact h
  have a3 : setAt (l.setIfInBounds k (.val v)) (k + 1) .second = some ((l.setIfInBounds k (.val v)).setIfInBounds (k + 1) .second) := if_pos (by simpa using hk)
  cases o with
  | unset => simp [storeSelf, a1, a2, a3, hv]
  | second => simp [storeSelf, a1, a2, a3, hv]
  | val w => simp [storeSelf, a1, a2, a3, hv, ho w rfl]
theorem sl2 {L : List Slot} {k : Nat} {v : Value} (h : so2 L k = true) (hv : cat v = 2) : storeLocals (tL ρ L) k (tv ρ v) = some (tL ρ ((L.set k (.val v)).set (k + 1) .second)) := by
  have hv' : (tv ρ v).category = 2 := by rw [cat_eq, cat_tv]; exact hv
  have e : tL ρ ((L.set k (.val v)).set (k + 1) .second) = ((tL ρ L).setIfInBounds k (.val (tv ρ v))).setIfInBounds (k + 1) .second := by
    rw [← tL_set, ← tL_set]; rfl
  rw [e]
  simp only [so2, Bool.and_eq_true] at h
  obtain ⟨h1, h2⟩ := h
  obtain ⟨o, ho⟩ : ∃ o, L[k + 1]? = some o := by
    cases q : L[k + 1]? with
    | none => rw [q] at h2; cases h2
    | some o => exact ⟨o, rfl⟩
  rw [ho] at h2
  have g2 := tL_get (ρ := ρ) ho
  have c2 : ∀ w, ts ρ o = .val w → w.category = 1 := fun w hw => by
    cases o with
    | unset => cases hw
    | second => cases hw
    | val u => cases hw; rw [cat_eq, cat_tv]; simpa using h2
  cases q : L[k]? with
  | none => rw [q] at h1; cases h1
  | some o1 =>
    have g1 := tL_get (ρ := ρ) q
    cases o1 with
    | second => rw [q] at h1; cases h1
    | unset =>
      have : storeLocals (tL ρ L) k (tv ρ v) = storeSelf (tL ρ L) k (tv ρ v) := by
        have g1' : (tL ρ L)[k]? = some .unset := g1
        simp only [storeLocals, g1', Option.bind_eq_bind, Option.bind_some]
      rw [this, self2 hv' g2 c2]
    | val u =>
      have g1' : (tL ρ L)[k]? = some (.val (tv ρ u)) := g1
      by_cases hc : (tv ρ u).category = 2
      · have hs : k + 1 < (tL ρ L).size := (Array.getElem?_eq_some_iff.mp g2).1
        have a1 : setAt (tL ρ L) (k + 1) .unset = some ((tL ρ L).setIfInBounds (k + 1) .unset) := if_pos hs
        have : storeLocals (tL ρ L) k (tv ρ v) = storeSelf ((tL ρ L).setIfInBounds (k + 1) .unset) k (tv ρ v) := by
          simp only [storeLocals, g1', Option.bind_eq_bind, Option.bind_some, hc, if_true, a1]
        rw [this, self2 (o := .unset) hv' (by rw [Array.getElem?_setIfInBounds_self_of_lt hs]) (fun w hw => by cases hw)]
        congr 1
        apply Array.toList_inj.mp
        simp only [Array.toList_setIfInBounds]
        rw [List.set_comm _ _ (by omega : k + 1 ≠ k), List.set_set]
      · have : storeLocals (tL ρ L) k (tv ρ v) = storeSelf (tL ρ L) k (tv ρ v) := by
          simp only [storeLocals, g1', Option.bind_eq_bind, Option.bind_some, hc, if_false]
        rw [this, self2 hv' g2 c2]
theorem keepL_inv {L L' : List Slot} {o : Option (List Value)} {S' : List Value} (h : keepL L o = some (L', S')) : L' = L ∧ o = some S' := by
  cases o with
  | none => cases h
  | some S => cases h; exact ⟨rfl, rfl⟩
theorem inc_inv {L L' : List Slot} {k : Nat} {c : Int} {S S' : List Value} (h : inc L k c S = some (L', S')) : ∃ x, L[k]? = some (.val (.int x)) ∧ L' = L.set k (.val (.int (x + Int32.ofInt c))) ∧ S' = S := by
  unfold inc at h
  split at h
  · rename_i x hx
    cases h
    exact ⟨x, hx, rfl, rfl⟩
  · cases h
theorem bI_inv {f : Int32 → Int32 → Int32} {S S' : List Value} (h : bI f S = some S') : ∃ x y r, S = .int y :: .int x :: r ∧ S' = .int (f x y) :: r := by
  unfold bI at h; split at h
  · cases h; exact ⟨_, _, _, rfl, rfl⟩
  · cases h
theorem dI_inv {f : Int32 → Int32 → Int32} {S S' : List Value} (h : dI f S = some S') : ∃ x y r, S = .int y :: .int x :: r ∧ y ≠ 0 ∧ S' = .int (f x y) :: r := by
  unfold dI at h; split at h
  · split at h
    · cases h
    · rename_i q; cases h; exact ⟨_, _, _, rfl, q, rfl⟩
  · cases h
theorem uI_inv {f : Int32 → Value} {S S' : List Value} (h : uI f S = some S') : ∃ x r, S = .int x :: r ∧ S' = f x :: r := by
  unfold uI at h; split at h
  · cases h; exact ⟨_, _, rfl, rfl⟩
  · cases h
theorem uJ_inv {f : Int64 → Value} {S S' : List Value} (h : uJ f S = some S') : ∃ x r, S = .long x :: r ∧ S' = f x :: r := by
  unfold uJ at h; split at h
  · cases h; exact ⟨_, _, rfl, rfl⟩
  · cases h
theorem bJ_inv {f : Int64 → Int64 → Value} {S S' : List Value} (h : bJ f S = some S') : ∃ x y r, S = .long y :: .long x :: r ∧ S' = f x y :: r := by
  unfold bJ at h; split at h
  · cases h; exact ⟨_, _, _, rfl, rfl⟩
  · cases h
theorem bD_inv {f : UInt64 → UInt64 → Value} {S S' : List Value} (h : bD f S = some S') : ∃ x y r, S = .double y :: .double x :: r ∧ S' = f x y :: r := by
  unfold bD at h; split at h
  · cases h; exact ⟨_, _, _, rfl, rfl⟩
  · cases h
theorem sJ_inv {f : Int64 → Int32 → Int64} {S S' : List Value} (h : sJ f S = some S') : ∃ x y r, S = .int y :: .long x :: r ∧ S' = .long (f x y) :: r := by
  unfold sJ at h; split at h
  · cases h; exact ⟨_, _, _, rfl, rfl⟩
  · cases h
theorem fdup_inv {S S' : List Value} (h : fdup S = some S') : ∃ x r, S = x :: r ∧ cat x = 1 ∧ S' = x :: x :: r := by
  unfold fdup at h; split at h
  · split at h
    · rename_i q; cases h; exact ⟨_, _, rfl, q, rfl⟩
    · cases h
  · cases h
theorem fpop_inv {S S' : List Value} (h : fpop S = some S') : ∃ x, S = x :: S' ∧ cat x = 1 := by
  unfold fpop at h; split at h
  · split at h
    · rename_i q; cases h; exact ⟨_, rfl, q⟩
    · cases h
  · cases h
theorem fdx1_inv {S S' : List Value} (h : fdx1 S = some S') : ∃ x y r, S = x :: y :: r ∧ cat x = 1 ∧ cat y = 1 ∧ S' = x :: y :: x :: r := by
  unfold fdx1 at h; split at h
  · split at h
    · rename_i q; cases h; exact ⟨_, _, _, rfl, q.1, q.2, rfl⟩
    · cases h
  · cases h
theorem fd2_inv {S S' : List Value} (h : fd2 S = some S') : (∃ x r, S = .long x :: r ∧ S' = .long x :: .long x :: r) ∨ ∃ x y r, S = x :: y :: r ∧ cat x = 1 ∧ cat y = 1 ∧ S' = x :: y :: x :: y :: r := by
  unfold fd2 at h; split at h
  · cases h; exact Or.inl ⟨_, _, rfl, rfl⟩
  · split at h
    · rename_i q; cases h; exact Or.inr ⟨_, _, _, rfl, q.1, q.2, rfl⟩
    · cases h
  · cases h
end Tr
section Plain
variable {p : Program} {l : Launch} {e : Env} {R : Room} {s : State} {m : MethodId} {args : Array Value} {below : List Frame} {meth : Method} {c : Code} {T : State} {locs : List Loc} {cells slots : Nat} {ρ : Nat → Addr}
set_option maxHeartbeats 4000000 in
theorem plain_ok (X : Stand p l e R s m args below meth c T locs cells slots) (hx : p.tables.exec = Jvm.exec) {i : Instr} {L L' : List Slot} {S S' : List Value} {pc : Nat} (h : plainI i L S = some (L', S')) (hd : decode c.code pc = .ok (i, ilen i)) {target : State}
    (hr : Steps p.tables e below (T.setTop (mkF m (pc + ilen i) (tL ρ L') (tS ρ S'))) target) : Steps p.tables e below (T.setTop (mkF m pc (tL ρ L) (tS ρ S))) target := by
  cases i
  case aconst_null => cases h; exact XS.aconstNull X.here hx rfl hd hr
  case iconst k => cases h; exact XS.iconst X.here hx rfl hd hr
  case bipush k => cases h; exact XS.bipush X.here hx rfl hd hr
  case sipush k => cases h; exact XS.sipush X.here hx rfl hd hr
  case lconst k => cases h; exact XT.lconst X.here hx rfl hd hr
  case iload k =>
    obtain ⟨v, h1, h2, rfl, rfl⟩ := ld_inv h
    obtain ⟨x, rfl⟩ := isI_inv h2
    exact XS.iload X.here hx rfl hd (tL_get h1) hr
  case iload_n k =>
    obtain ⟨v, h1, h2, rfl, rfl⟩ := ld_inv h
    obtain ⟨x, rfl⟩ := isI_inv h2
    exact XS.iloadN X.here hx rfl hd (tL_get h1) hr
  case lload k =>
    obtain ⟨v, h1, h2, rfl, rfl⟩ := ld_inv h
    obtain ⟨x, rfl⟩ := isJ_inv h2
    exact XT.lload X.here hx rfl hd (tL_get h1) hr
  case lload_n k =>
    obtain ⟨v, h1, h2, rfl, rfl⟩ := ld_inv h
    obtain ⟨x, rfl⟩ := isJ_inv h2
    exact XT.lloadN X.here hx rfl hd (tL_get h1) hr
  case dload k =>
    obtain ⟨v, h1, h2, rfl, rfl⟩ := ld_inv h
    obtain ⟨x, rfl⟩ := isD_inv h2
    exact XS.dload X.here hx rfl hd (tL_get h1) hr
  case dload_n k =>
    obtain ⟨v, h1, h2, rfl, rfl⟩ := ld_inv h
    obtain ⟨x, rfl⟩ := isD_inv h2
    exact XS.dloadN X.here hx rfl hd (tL_get h1) hr
  case dstore k =>
    obtain ⟨v, rfl, h1, h2, rfl⟩ := st2_inv h
    obtain ⟨x, rfl⟩ := isD_inv h1
    exact XS.dstore X.here hx rfl hd rfl (sl2 (v := .double x) h2 rfl) hr
  case dstore_n k =>
    obtain ⟨v, rfl, h1, h2, rfl⟩ := st2_inv h
    obtain ⟨x, rfl⟩ := isD_inv h1
    exact XS.dstoreN X.here hx rfl hd rfl (sl2 (v := .double x) h2 rfl) hr
  case dconst d =>
    cases h
    match d, hd, hr with
    | 0, hd, hr => exact XS.dconst0 X.here hx rfl hd rfl hr
    | 1, hd, hr => exact XS.dconst1 X.here hx rfl hd rfl hr
  case i2d =>
    obtain ⟨rfl, h'⟩ := keepL_inv h
    obtain ⟨x, r, rfl, rfl⟩ := uI_inv h'
    exact XS.i2dS X.here hx rfl hd rfl rfl hr
  case dcmp o =>
    obtain ⟨rfl, h'⟩ := keepL_inv h
    obtain ⟨x, y, r, rfl, rfl⟩ := bD_inv h'
    exact XS.dcmpS X.here hx rfl hd rfl rfl hr
  case aload k =>
    obtain ⟨v, h1, h2, rfl, rfl⟩ := ld_inv h
    exact XS.aload X.here hx rfl hd (tL_get h1) (isA_ref h2) hr
  case aload_n k =>
    obtain ⟨v, h1, h2, rfl, rfl⟩ := ld_inv h
    exact XS.aloadN X.here hx rfl hd (tL_get h1) (isA_ref h2) hr
  case istore k =>
    obtain ⟨v, o, rfl, h1, h2, h3, rfl⟩ := st1_inv h
    obtain ⟨x, rfl⟩ := isI_inv h1
    exact XS.istore X.here hx rfl hd rfl (sl1 (v := .int x) h2 h3 rfl) hr
  case istore_n k =>
    obtain ⟨v, o, rfl, h1, h2, h3, rfl⟩ := st1_inv h
    obtain ⟨x, rfl⟩ := isI_inv h1
    exact XS.istoreN X.here hx rfl hd rfl (sl1 (v := .int x) h2 h3 rfl) hr
  case astore k =>
    obtain ⟨v, o, rfl, h1, h2, h3, rfl⟩ := st1_inv h
    exact XS.astore X.here hx rfl hd rfl (isA_ref h1) (sl1 h2 h3 (isA_cat h1)) hr
  case astore_n k =>
    obtain ⟨v, o, rfl, h1, h2, h3, rfl⟩ := st1_inv h
    exact XS.astoreN X.here hx rfl hd rfl (isA_ref h1) (sl1 h2 h3 (isA_cat h1)) hr
  case lstore k =>
    obtain ⟨v, rfl, h1, h2, rfl⟩ := st2_inv h
    obtain ⟨x, rfl⟩ := isJ_inv h1
    exact XT.lstore X.here hx rfl hd rfl (sl2 (v := .long x) h2 rfl) hr
  case lstore_n k =>
    obtain ⟨v, rfl, h1, h2, rfl⟩ := st2_inv h
    obtain ⟨x, rfl⟩ := isJ_inv h1
    exact XT.lstoreN X.here hx rfl hd rfl (sl2 (v := .long x) h2 rfl) hr
  case iinc k c0 =>
    obtain ⟨x, h1, rfl, rfl⟩ := inc_inv h
    exact XS.iinc X.here hx rfl hd (tL_get h1) (sl1 (v := .int (x + Int32.ofInt c0)) h1 rfl rfl) hr
  case iadd =>
    obtain ⟨rfl, h'⟩ := keepL_inv h
    obtain ⟨x, y, r, rfl, rfl⟩ := bI_inv h'
    exact XS.iadd X.here hx rfl hd rfl hr
  case isub =>
    obtain ⟨rfl, h'⟩ := keepL_inv h
    obtain ⟨x, y, r, rfl, rfl⟩ := bI_inv h'
    exact XS.isub X.here hx rfl hd rfl hr
  case imul =>
    obtain ⟨rfl, h'⟩ := keepL_inv h
    obtain ⟨x, y, r, rfl, rfl⟩ := bI_inv h'
    exact XS.imul X.here hx rfl hd rfl hr
  case iand =>
    obtain ⟨rfl, h'⟩ := keepL_inv h
    obtain ⟨x, y, r, rfl, rfl⟩ := bI_inv h'
    exact XS.iand X.here hx rfl hd rfl hr
  case ior =>
    obtain ⟨rfl, h'⟩ := keepL_inv h
    obtain ⟨x, y, r, rfl, rfl⟩ := bI_inv h'
    exact XT.ior X.here hx rfl hd rfl hr
  case ixor =>
    obtain ⟨rfl, h'⟩ := keepL_inv h
    obtain ⟨x, y, r, rfl, rfl⟩ := bI_inv h'
    exact XT.ixor X.here hx rfl hd rfl hr
  case ishl =>
    obtain ⟨rfl, h'⟩ := keepL_inv h
    obtain ⟨x, y, r, rfl, rfl⟩ := bI_inv h'
    exact XT.ishl X.here hx rfl hd rfl hr
  case ishr =>
    obtain ⟨rfl, h'⟩ := keepL_inv h
    obtain ⟨x, y, r, rfl, rfl⟩ := bI_inv h'
    exact XT.ishr X.here hx rfl hd rfl hr
  case iushr =>
    obtain ⟨rfl, h'⟩ := keepL_inv h
    obtain ⟨x, y, r, rfl, rfl⟩ := bI_inv h'
    exact XT.iushr X.here hx rfl hd rfl hr
  case irem =>
    obtain ⟨rfl, h'⟩ := keepL_inv h
    obtain ⟨x, y, r, rfl, hy, rfl⟩ := dI_inv h'
    exact iremM X hx rfl hd rfl hy hr
  case idiv =>
    obtain ⟨rfl, h'⟩ := keepL_inv h
    obtain ⟨x, y, r, rfl, hy, rfl⟩ := dI_inv h'
    exact XS.idiv X.here hx rfl hd rfl hy hr
  case ineg =>
    obtain ⟨rfl, h'⟩ := keepL_inv h
    obtain ⟨x, r, rfl, rfl⟩ := uI_inv h'
    exact XS.ineg X.here hx rfl hd rfl hr
  case i2l =>
    obtain ⟨rfl, h'⟩ := keepL_inv h
    obtain ⟨x, r, rfl, rfl⟩ := uI_inv h'
    exact XT.i2l X.here hx rfl hd rfl hr
  case i2b =>
    obtain ⟨rfl, h'⟩ := keepL_inv h
    obtain ⟨x, r, rfl, rfl⟩ := uI_inv h'
    exact XT.i2b X.here hx rfl hd rfl hr
  case i2c =>
    obtain ⟨rfl, h'⟩ := keepL_inv h
    obtain ⟨x, r, rfl, rfl⟩ := uI_inv h'
    exact XT.i2c X.here hx rfl hd rfl hr
  case i2s =>
    obtain ⟨rfl, h'⟩ := keepL_inv h
    obtain ⟨x, r, rfl, rfl⟩ := uI_inv h'
    exact XT.i2s X.here hx rfl hd rfl hr
  case l2i =>
    obtain ⟨rfl, h'⟩ := keepL_inv h
    obtain ⟨x, r, rfl, rfl⟩ := uJ_inv h'
    exact XT.l2i X.here hx rfl hd rfl hr
  case ladd =>
    obtain ⟨rfl, h'⟩ := keepL_inv h
    obtain ⟨x, y, r, rfl, rfl⟩ := bJ_inv h'
    exact XT.ladd X.here hx rfl hd rfl hr
  case lsub =>
    obtain ⟨rfl, h'⟩ := keepL_inv h
    obtain ⟨x, y, r, rfl, rfl⟩ := bJ_inv h'
    exact XT.lsub X.here hx rfl hd rfl hr
  case lmul =>
    obtain ⟨rfl, h'⟩ := keepL_inv h
    obtain ⟨x, y, r, rfl, rfl⟩ := bJ_inv h'
    exact XT.lmul X.here hx rfl hd rfl hr
  case land =>
    obtain ⟨rfl, h'⟩ := keepL_inv h
    obtain ⟨x, y, r, rfl, rfl⟩ := bJ_inv h'
    exact XT.land X.here hx rfl hd rfl hr
  case lor =>
    obtain ⟨rfl, h'⟩ := keepL_inv h
    obtain ⟨x, y, r, rfl, rfl⟩ := bJ_inv h'
    exact XT.lor X.here hx rfl hd rfl hr
  case lxor =>
    obtain ⟨rfl, h'⟩ := keepL_inv h
    obtain ⟨x, y, r, rfl, rfl⟩ := bJ_inv h'
    exact XT.lxor X.here hx rfl hd rfl hr
  case lcmp =>
    obtain ⟨rfl, h'⟩ := keepL_inv h
    obtain ⟨x, y, r, rfl, rfl⟩ := bJ_inv h'
    exact XT.lcmp X.here hx rfl hd rfl hr
  case lshl =>
    obtain ⟨rfl, h'⟩ := keepL_inv h
    obtain ⟨x, y, r, rfl, rfl⟩ := sJ_inv h'
    exact XT.lshl X.here hx rfl hd rfl hr
  case lshr =>
    obtain ⟨rfl, h'⟩ := keepL_inv h
    obtain ⟨x, y, r, rfl, rfl⟩ := sJ_inv h'
    exact XT.lshr X.here hx rfl hd rfl hr
  case lushr =>
    obtain ⟨rfl, h'⟩ := keepL_inv h
    obtain ⟨x, y, r, rfl, rfl⟩ := sJ_inv h'
    exact XT.lushr X.here hx rfl hd rfl hr
  case dup =>
    obtain ⟨rfl, h'⟩ := keepL_inv h
    obtain ⟨x, r, rfl, hc, rfl⟩ := fdup_inv h'
    exact XS.dup X.here hx rfl hd rfl (by rw [cat_eq, cat_tv]; exact hc) hr
  case pop =>
    obtain ⟨rfl, h'⟩ := keepL_inv h
    obtain ⟨x, rfl, hc⟩ := fpop_inv h'
    exact XT.pop X.here hx rfl hd rfl (by rw [cat_eq, cat_tv]; exact hc) hr
  case dup_x1 =>
    obtain ⟨rfl, h'⟩ := keepL_inv h
    obtain ⟨x, y, r, rfl, hc, hc', rfl⟩ := fdx1_inv h'
    exact XT.dupX1 X.here hx rfl hd rfl (by rw [cat_eq, cat_tv]; exact hc) (by rw [cat_eq, cat_tv]; exact hc') hr
  case dup2 =>
    obtain ⟨rfl, h'⟩ := keepL_inv h
    rcases fd2_inv h' with ⟨x, r, rfl, rfl⟩ | ⟨x, y, r, rfl, hc, hc', rfl⟩
    · exact XT.dup2L X.here hx rfl hd rfl hr
    · exact XT.dup2 X.here hx rfl hd rfl (by rw [cat_eq, cat_tv]; exact hc) (by rw [cat_eq, cat_tv]; exact hc') hr
  all_goals (exact absurd h (fun q => by cases q))
theorem acmp_tv (inj : ∀ i j, ρ i = ρ j → i = j) (cd : ACond) {x y : Value} (h1 : isA x = true) (h2 : isA y = true) : XT.acmp cd (tv ρ x) (tv ρ y) = XT.acmp cd x y := by
  have e : (tv ρ x = tv ρ y) ↔ x = y := by
    rcases isA_inv h1 with rfl | ⟨a, rfl⟩ <;> rcases isA_inv h2 with rfl | ⟨b, rfl⟩
    · exact Iff.rfl
    · exact ⟨fun q => (by cases q), fun q => (by cases q)⟩
    · exact ⟨fun q => (by cases q), fun q => (by cases q)⟩
    · exact ⟨fun q => (by rw [inj _ _ (Value.ref.inj q)]), fun q => (by rw [q])⟩
  cases cd
  · show decide (tv ρ x = tv ρ y) = decide (x = y)
    exact decide_eq_decide.mpr e
  · show decide (tv ρ x ≠ tv ρ y) = decide (x ≠ y)
    exact decide_eq_decide.mpr (not_congr e)
theorem br_ok (inj : ∀ i j, ρ i = ρ j → i = j) (X : Stand p l e R s m args below meth c T locs cells slots) (hx : p.tables.exec = Jvm.exec) {i : Instr} {S r : List Value} {b : Bool} {o : Int} {pc pc' : Nat} {L : Array Slot} (h : brI i S = some (b, o, r)) (hd : decode c.code pc = .ok (i, ilen i))
    (hp : (b = true ∧ 0 ≤ (pc : Int) + o ∧ ((pc : Int) + o).toNat = pc') ∨ (b = false ∧ pc' = pc + ilen i)) {target : State}
    (hr : Steps p.tables e below (T.setTop (mkF m pc' L (tS ρ r))) target) : Steps p.tables e below (T.setTop (mkF m pc L (tS ρ S))) target := by
  cases i
  case goto o' =>
    cases h
    rcases hp with ⟨-, ho, hp⟩ | ⟨q, -⟩
    · exact XS.goto X.here hx rfl (pc0 := pc) rfl hd ho hp hr
    · cases q
  case ifCond cd o' =>
    simp only [brI] at h
    split at h
    · cases h
      rcases hp with ⟨hb, ho, hp⟩ | ⟨hb, rfl⟩
      · exact XS.ifYes X.here hx rfl (pc0 := pc) rfl hd rfl hb ho hp hr
      · exact XS.ifNo X.here hx rfl hd rfl hb hr
    · cases h
  case if_icmp cd o' =>
    simp only [brI] at h
    split at h
    · cases h
      rcases hp with ⟨hb, ho, hp⟩ | ⟨hb, rfl⟩
      · exact XS.icmpYes X.here hx rfl (pc0 := pc) rfl hd rfl hb ho hp hr
      · exact XS.icmpNo X.here hx rfl hd rfl hb hr
    · cases h
  case if_acmp cd o' =>
    simp only [brI] at h
    split at h
    · split at h
      · rename_i q
        simp only [Bool.and_eq_true] at q
        cases h
        rcases hp with ⟨hb, ho, hp⟩ | ⟨hb, rfl⟩
        · exact XT.acmpYes X.here hx rfl (pc0 := pc) rfl hd rfl (isA_ref q.1) (isA_ref q.2) (by rw [acmp_tv inj _ q.1 q.2]; exact hb) ho hp hr
        · exact XT.acmpNo X.here hx rfl hd rfl (isA_ref q.1) (isA_ref q.2) (by rw [acmp_tv inj _ q.1 q.2]; exact hb) hr
      · cases h
    · cases h
  case ifnull o' =>
    simp only [brI] at h
    split at h
    · cases h
      rcases hp with ⟨-, ho, hp⟩ | ⟨q, -⟩
      · exact XS.ifnullYes X.here hx rfl (pc0 := pc) rfl hd rfl ho hp hr
      · cases q
    · cases h
      rcases hp with ⟨q, -⟩ | ⟨-, rfl⟩
      · cases q
      · exact XS.ifnullNo X.here hx rfl hd rfl hr
    · cases h
  case ifnonnull o' =>
    simp only [brI] at h
    split at h
    · cases h
      rcases hp with ⟨q, -⟩ | ⟨-, rfl⟩
      · cases q
      · exact XT.ifnonnullNo X.here hx rfl hd rfl hr
    · cases h
      rcases hp with ⟨-, ho, hp⟩ | ⟨q, -⟩
      · exact XT.ifnonnullYes X.here hx rfl (pc0 := pc) rfl hd rfl ho hp hr
      · cases q
    · cases h
  all_goals (exact absurd h (fun q => by cases q))
end Plain
end Jvm.MM
namespace Jvm.MM
open Jvm Jvm.ClassFile Sem Op Lib Jvm.Free Jvm.Stand Jvm.LawKit Jvm.RoadKit
/-! ### the picture of the heap, what the tables must say -/
section Pics
variable (P : Prg) (Z : State) (a0 : Array Value) (ρ : Nat → Addr) (n0 : Nat)
def ObjOk (h : Heap) (i : Nat) : Obj → Prop
  | (.inl ty, vs) => ∃ c : Cell, Arr Z h (ρ i) c ty ∧ c.slots = (vs.map (tv ρ)).toArray ∧ (P.j0 ≤ i → ∀ C, ty = .object C → Ovr Z c.cls C) ∧ (P.j0 ≤ i → ty = .int → Exa Z h (ρ i) "[I")
  | (.inr cid, vs) => cid < P.cs.length → Exa Z h (ρ i) (P.cname cid) ∧ ∀ (q : Nat) (v : Value) (fd : String × String × String × FieldType), vs[q]? = some v → (P.flds cid)[q]? = some fd → Fld Z h (ρ i) fd.1 fd.2.1 fd.2.2.1 (tv ρ v)
def Pic (h : Heap) (H : Hp) : Prop := P.j0 ≤ H.length ∧ h.size = n0 + (H.length - P.j0) ∧ (∀ (i : Nat) (o : Obj), H[i]? = some o → ObjOk P Z ρ h i o) ∧ ∀ q ∈ P.sv, Sta Z h q.1 q.2.1 q.2.2.1 (tv ρ q.2.2.2)
def RhoOk : Prop := (∀ i, P.j0 ≤ i → ρ i = n0 + (i - P.j0)) ∧ ∀ i j, ρ i = ρ j → i = j
def Wd (d : Jvm.Cond) : Prop := d.before a0 Z = true
def ClsOk (C : Cls) : Prop := Wd Z a0 (.instantiable C.1 C.2.1) ∧ (∀ fd ∈ C.2.2, Laid Z a0 C.1 fd.1 fd.2.1 fd.2.2.1 ∧ parseFieldDescriptor fd.2.2.1 = some fd.2.2.2) ∧ (C.2.2.map fun fd => fd.2.1).Nodup
def LnkOk (j idx : Nat) (O n d : String) : Prop := ∃ R0, Wd Z a0 (.fieldLink (P.mt j).y.cls idx R0 n d) ∧ Via Z R0 O n d
def FlOk (x : Nat × Nat × Nat × Nat) : Prop := ∃ fd, (P.flds x.2.2.1)[x.2.2.2]? = some fd ∧ LnkOk P Z a0 x.1 x.2.1 fd.1 fd.2.1 fd.2.2.1
def FwOk (x : Nat × Nat × Nat × Nat) : Prop := ∃ C, P.cs[x.2.2.1]? = some C ∧ ClsOk Z a0 C ∧ ∃ fd, C.2.2[x.2.2.2]? = some fd ∧ LnkOk P Z a0 x.1 x.2.1 fd.1 fd.2.1 fd.2.2.1 ∧ (Wd Z a0 (.lays C.1 fd.1 fd.2.1 fd.2.2.1) ∨ (Wd Z a0 (.laysFinal C.1 fd.1 fd.2.1 fd.2.2.1) ∧ (P.mt x.1).y.cls = fd.1 ∧ (P.mt x.1).y.name = "<init>"))
def SfOk (x : Nat × Nat × Nat) : Prop := ∃ d, P.sv[x.2.2]? = some d ∧ LnkOk P Z a0 x.1 x.2.1 d.1 d.2.1 d.2.2.1
def NwOk (x : Nat × Nat × Nat) : Prop := ∃ C, P.cs[x.2.2]? = some C ∧ ClsOk Z a0 C ∧ Wd Z a0 (.classLink (P.mt x.1).y.cls x.2.1 C.1) ∧ Wd Z a0 (.initialized C.1)
def NaOk (x : Nat × Nat × Nat) : Prop := Wd Z a0 (.classLink (P.mt x.1).y.cls x.2.1 (P.cname x.2.2)) ∧ Wd Z a0 (.arrayOver (.object (P.cname x.2.2)))
def CaOk (x : Nat × Nat × Kd × Bool) : Prop := ∃ K, Wd Z a0 (.classLink (P.mt x.1).y.cls x.2.1 K) ∧ (∀ (h : Heap) (i : Nat) (vs : List Value), ObjOk P Z ρ h i (x.2.2.1, vs) → Ins Z h (ρ i) K x.2.2.2) ∧ (x.2.2.2 = false → ∃ cid, x.2.2.1 = .inr cid ∧ cid < P.cs.length)
def KiOk (x : Nat × Nat × Int32) : Prop := Wd Z a0 (.constant (P.mt x.1).y.cls x.2.1 x.2.2)
def KlOk (x : Nat × Nat × Int64) : Prop := Wd Z a0 (.constantLong (P.mt x.1).y.cls x.2.1 x.2.2)
abbrev noMH (c : String) : Prop := c ≠ "java/lang/invoke/MethodHandle" ∧ c ≠ "java/lang/invoke/VarHandle"
def MthOk (M : Mth) : Prop := Wd Z a0 (.code M.y M.code M.mx M.ret) ∧ Wd Z a0 (.initialized M.y.cls) ∧ plainFor M.y = true ∧ noMH M.y.cls
def Arity (d : String) (np : Nat) : Prop := ∀ sig, parseMethodDescriptor d = some sig → np = sig.parameters.length
def IcOk (x : Nat × Nat × Nat × Nat × Nat) : Prop :=
  match x with
  | (j, idx, 0, np, j') => Wd Z a0 (.methodLink (P.mt j).y.cls idx (P.mt j').y) ∧ Wd Z a0 (.static (P.mt j').y) ∧ MthOk Z a0 (P.mt j') ∧ Arity (P.mt j').y.desc np
  | (j, idx, 1, np, j') => (P.mt j').y.name = "<init>" ∧ Wd Z a0 (.methodLink (P.mt j).y.cls idx (P.mt j').y) ∧ Wd Z a0 (.instanceMethod (P.mt j').y) ∧ MthOk Z a0 (P.mt j') ∧ (P.mt j').ret = none ∧ Arity (P.mt j').y.desc np
  | (j, idx, 7, _, _) => Wd Z a0 (.methodLink (P.mt j).y.cls idx ⟨"[I", "clone", "()Ljava/lang/Object;"⟩) ∧ Wd Z a0 (.sameMethod "[I" "java/lang/Object" "clone" "()Ljava/lang/Object;") ∧ Wd Z a0 (.native ⟨"java/lang/Object", "clone", "()Ljava/lang/Object;"⟩) ∧ Wd Z a0 (.instanceMethod ⟨"java/lang/Object", "clone", "()Ljava/lang/Object;"⟩) ∧ Wd Z a0 (.selects "[I" ⟨"[I", "clone", "()Ljava/lang/Object;"⟩ ⟨"java/lang/Object", "clone", "()Ljava/lang/Object;"⟩) ∧ Wd Z a0 (.castable "[I" "java/lang/Cloneable")
  | (j, idx, 6, _, _) => Wd Z a0 (.methodLink (P.mt j).y.cls idx Lib.objectInit) ∧ Wd Z a0 (.instanceMethod Lib.objectInit) ∧ Wd Z a0 (.code Lib.objectInit ⟨#[0xb1]⟩ 1 none)
  | _ => True
def NfOk (y : MethodName) : Prop := (∃ C, Wd Z a0 (.selects C y y)) ∨ (∃ S, Wd Z a0 (.superclass y.cls S)) ∨ Wd Z a0 (.noSuperclass y.cls)
def VcOk (x : Nat × Nat × Nat × Nat × Nat) : Prop :=
  match x with
  | (j, idx, cid, np, j') => ∃ y : MethodName, Wd Z a0 (.methodLink (P.mt j).y.cls idx y) ∧ Wd Z a0 (.declares y) ∧ NfOk Z a0 y ∧ Wd Z a0 (.selects (P.cname cid) y (P.mt j').y) ∧ Wd Z a0 (.instanceMethod (P.mt j').y) ∧ MthOk Z a0 (P.mt j') ∧ noMH y.cls ∧ Arity y.desc np ∧ cid < P.cs.length
def PrgOk : Prop := (∀ x ∈ P.fl, FlOk P Z a0 x) ∧ (∀ x ∈ P.fw, FwOk P Z a0 x) ∧ (∀ x ∈ P.sf, SfOk P Z a0 x) ∧ (∀ x ∈ P.nw, NwOk P Z a0 x) ∧ (∀ x ∈ P.na, NaOk P Z a0 x) ∧ (∀ ty ∈ P.ats, Wd Z a0 (.arrayClass ty)) ∧ (∀ x ∈ P.ca, CaOk P Z a0 ρ x) ∧ (∀ x ∈ P.ki, KiOk P Z a0 x) ∧ (∀ x ∈ P.kl, KlOk P Z a0 x) ∧ (∀ x ∈ P.ic, IcOk P Z a0 x) ∧ ∀ x ∈ P.vc, VcOk P Z a0 x
def Ctx (j : Nat) (p : Program) (s : State) (m : MethodId) (meth : Method) (c : Code) : Prop := p.tables.exec = Jvm.exec ∧ Z.Warmed39 s.vm ∧ s.vm.findClass (P.mt j).y.cls = some m.cls ∧ c.code = (P.mt j).code ∧ c.maxLocals = (P.mt j).mx ∧ meth.sig.returnType = (P.mt j).ret ∧ meth.name = (P.mt j).y.name ∧ meth.locks = false
end Pics
section PicLaws
variable {P : Prg} {Z : State} {a0 : Array Value} {ρ : Nat → Addr} {n0 : Nat} {h h' : Heap} {H : Hp}
theorem ObjOk.ext (E : Ext h h') {i : Nat} {o : Obj} (K : ObjOk P Z ρ h i o) : ObjOk P Z ρ h' i o := by
  obtain ⟨kd, vs⟩ := o
  cases kd with
  | inl ty => obtain ⟨c, k1, k2, k3, k4⟩ := K; exact ⟨c, k1.ext E, k2, k3, fun q t => (k4 q t).ext E⟩
  | inr cid => exact fun hl => ⟨(K hl).1.ext E, fun q v fd h1 h2 => ((K hl).2 q v fd h1 h2).ext E⟩
theorem ObjOk.other {b : Addr} {sl : Nat} {v : Value} (W : Wr h h' b sl v) {i : Nat} {o : Obj} (hne : ρ i ≠ b) (K : ObjOk P Z ρ h i o) : ObjOk P Z ρ h' i o := by
  obtain ⟨kd, vs⟩ := o
  cases kd with
  | inl ty => obtain ⟨c, k1, k2, k3, k4⟩ := K; exact ⟨c, k1.other W hne, k2, k3, fun q t => (k4 q t).wr W⟩
  | inr cid => exact fun hl => ⟨(K hl).1.wr W, fun q v fd h1 h2 => ((K hl).2 q v fd h1 h2).other W (Or.inl hne)⟩
theorem Pic.push (K : Pic P Z ρ n0 h H) (E : Ext h h') (hs : h'.size = h.size + 1) {o : Obj} (ho : ObjOk P Z ρ h' H.length o) : Pic P Z ρ n0 h' (H ++ [o]) := by
  obtain ⟨k1, k2, k3, k4⟩ := K
  refine ⟨by simp only [List.length_append, List.length_cons, List.length_nil]; omega, by simp only [List.length_append, List.length_cons, List.length_nil]; omega, fun i o' hi => ?_, fun q hq => (k4 q hq).ext E⟩
  by_cases hl : i < H.length
  · rw [List.getElem?_append_left hl] at hi
    exact (k3 i o' hi).ext E
  · rw [List.getElem?_append_right (by omega)] at hi
    obtain ⟨hi1, hi2⟩ := List.getElem?_eq_some_iff.mp hi
    simp only [List.length_cons, List.length_nil] at hi1
    have e : i = H.length := by omega
    subst e
    simp at hi2
    subst hi2
    exact ho
theorem Pic.addr (RO : RhoOk P ρ n0) (K : Pic P Z ρ n0 h H) : ρ H.length = h.size := by
  rw [RO.1 _ K.1, K.2.1]
theorem Pic.write (RO : RhoOk P ρ n0) (K : Pic P Z ρ n0 h H) {a sl : Nat} {v : Value} (W : Wr h h' (ρ a) sl v) {o o' : Obj} (ha : H[a]? = some o) (ho : ObjOk P Z ρ h' a o') : Pic P Z ρ n0 h' (H.set a o') := by
  obtain ⟨k1, k2, k3, k4⟩ := K
  refine ⟨by simpa using k1, by rw [W.size, List.length_set]; exact k2, fun i u hi => ?_, fun q hq => (k4 q hq).wr W⟩
  by_cases e : a = i
  · subst e
    rw [List.getElem?_set_self (List.getElem?_eq_some_iff.mp ha).1] at hi
    cases hi
    exact ho
  · rw [List.getElem?_set_ne e] at hi
    exact (k3 i u hi).other W fun q => e (RO.2 _ _ q).symm
theorem dft_eq (ty : FieldType) : dft ty = defaultValue ty := by cases ty <;> rfl
theorem tv_dft (ty : FieldType) : tv ρ (dft ty) = defaultValue ty := by cases ty <;> rfl
theorem vty_ok {ty : FieldType} {v v' : Value} (h : vty ty v = some v') : narrow ty (tv ρ v) = tv ρ v' ∧ fits ty (tv ρ v') = true := by
  cases ty
  case boolean => cases v <;> cases h; exact ⟨rfl, fits_nar_bool _⟩
  case byte => cases v <;> cases h; exact ⟨rfl, fits_nar_byte _⟩
  case char => cases v <;> cases h; exact ⟨rfl, fits_nar_char _⟩
  case short => cases v <;> cases h; exact ⟨rfl, fits_nar_short _⟩
  case int => cases v <;> cases h; exact ⟨rfl, rfl⟩
  case long => cases v <;> cases h; exact ⟨rfl, rfl⟩
  case double => cases v <;> cases h; exact ⟨rfl, rfl⟩
  case float => cases v <;> cases h
  case object c =>
    cases v <;> cases h
    · exact ⟨rfl, rfl⟩
    · exact ⟨rfl, rfl⟩
  case array c =>
    cases v <;> cases h
    · exact ⟨rfl, rfl⟩
    · exact ⟨rfl, rfl⟩
theorem fl_lt {P : Prg} {cid q : Nat} {fd : String × String × String × FieldType} (h : (P.flds cid)[q]? = some fd) : cid < P.cs.length := by
  unfold Prg.flds at h
  split at h
  · rename_i hC
    exact (List.getElem?_eq_some_iff.mp hC).1
  · simp at h
theorem cname_of {P : Prg} {cid : Nat} {C : Cls} (h : P.cs[cid]? = some C) : P.cname cid = C.1 ∧ P.flds cid = C.2.2 ∧ P.nsl cid = C.2.1 := by
  simp only [Prg.cname, Prg.flds, Prg.nsl, h]; exact ⟨trivial, trivial, trivial⟩
end PicLaws
section NewLaws
variable {p : Program} {l : Launch} {e : Env} {R : Room} {s : State} {m : MethodId} {args : Array Value} {below : List Frame} {meth : Method} {c : Code} {T : State} {locs : List Loc} {cells slots : Nat} {Z : State} {a0 : Array Value}
theorem ext_push (h : Heap) (x : Cell) : Ext h (h.push x) := ⟨by simp, fun a c q => by rw [Array.getElem?_push_lt (Array.getElem?_eq_some_iff.mp q).1]; exact (Array.getElem?_eq_getElem _).symm.trans q⟩
theorem newO1 (X : Stand p l e R s m args below meth c T locs cells slots) (hx : p.tables.exec = Jvm.exec) (hZ : Z.Warmed39 s.vm) {own C : String} {index n : Nat} (hown : s.vm.findClass own = some m.cls) (w : (Jvm.Cond.classLink own index C).before a0 Z = true) (wi : (Jvm.Cond.instantiable C n).before a0 Z = true) (wz : (Jvm.Cond.initialized C).before a0 Z = true)
    {g : JFrame} (hg : g.method = m) (hd : decode c.code g.pc = .ok (.new index, 3)) (hc : cells + 1 ≤ R.cells) (hl : slots + n ≤ R.slots) :
    ∃ T', Stand p l e R s m args below meth c T' locs (cells + 1) (slots + n) ∧ Ext T.heap T'.heap ∧ T'.heap.size = T.heap.size + 1 ∧ Exa Z T'.heap T.heap.size C ∧ (∀ {O nm d : String} {ty : FieldType}, Laid Z a0 C O nm d → parseFieldDescriptor d = some ty → Fld Z T'.heap T.heap.size O nm d (defaultValue ty)) ∧
      ∀ target, Steps p.tables e below (T'.setTop { g with pc := g.pc + 3, stack := .ref T.heap.size :: g.stack }) target → Steps p.tables e below (T.setTop g) target := by
  obtain ⟨vm', cC, kC, h1, h2, h3, h4, X', st⟩ := X.newCold hx hown (mv hZ w) (mv hZ wi) (mv hZ wz) hg hd hc hl
  rw [hZ.alike.findClass] at h1
  obtain ⟨kZ, z1, -⟩ := Vm.findClass_spec h1
  obtain ⟨k', z2, z3⟩ := hZ.alike.2.2 _ _ z1
  cases h2.symm.trans z2
  have ei : kC.instanceTypes = kZ.instanceTypes := by rw [z3]
  have hN : (T.heap.push { cls := cC, slots := kC.instanceTypes.map defaultValue, vm := .none })[T.heap.size]? = some { cls := cC, slots := kC.instanceTypes.map defaultValue, vm := .none } := by simp
  refine ⟨_, X', ext_push T.heap _, ?_, ⟨_, kZ, hN, h1, z1, rfl, fun _ => by simp [ei]⟩, fun {O nm d ty} L ht => ?_, st⟩
  · show (T.heap.push _).size = _
    simp
  · obtain ⟨c1, k1, cf, kf, i, f, a1, a2, a3, a4, a5, a6, -⟩ := L.spec
    cases h1.symm.trans a1
    cases z1.symm.trans a2
    exact ⟨_, cf, kf, i, f, hN, a3, a4, by simp, rfl, a5, by simp [ei, a6, (State.fieldFound?_type a3 ht).2]⟩
theorem newP1 (X : Stand p l e R s m args below meth c T locs cells slots) (hx : p.tables.exec = Jvm.exec) (hZ : Z.Warmed39 s.vm) {aty : ArrayType} (w : (Jvm.Cond.arrayClass (newarray.typeOf aty)).before a0 Z = true) {g : JFrame} (hg : g.method = m) (hd : decode c.code g.pc = .ok (.newarray aty, 2)) {n : Int32} {rest : List Value} (hs : g.stack = .int n :: rest)
    (hn : ¬ n < 0) {cap : Nat} (hcap : n.toNatClampNeg ≤ cap) (hb : cap * 8 ≤ 536870912) (hc : cells + 1 ≤ R.cells) (hl : slots + cap ≤ R.slots) :
    ∃ T' cA, Stand p l e R s m args below meth c T' locs (cells + 1) (slots + cap) ∧ Ext T.heap T'.heap ∧ T'.heap.size = T.heap.size + 1 ∧ Arr Z T'.heap T.heap.size (RoadKit.newA cA (newarray.typeOf aty) n) (newarray.typeOf aty) ∧ (newarray.typeOf aty = .int → Exa Z T'.heap T.heap.size "[I") ∧
      ∀ target, Steps p.tables e below (T'.setTop { g with pc := g.pc + 2, stack := .ref T.heap.size :: rest }) target → Steps p.tables e below (T.setTop g) target := by
  have hcb : componentBytes (newarray.typeOf aty) ≤ 8 := by cases aty <;> decide
  obtain ⟨cA, kA, comp, h1, h2, h3, X', st⟩ := X.newarrayPrim hx (mvA hZ w) hg hd hs hn (Nat.le_trans (Nat.mul_le_mul hcap hcb) hb) hc (by omega)
  rw [hZ.alike.findClass] at h1
  obtain ⟨kZ, z1, -⟩ := Vm.findClass_spec h1
  obtain ⟨k', z2, z3⟩ := hZ.alike.2.2 _ _ z1
  cases h2.symm.trans z2
  have kk : kZ.kind = .array comp (newarray.typeOf aty) := by rw [← h3, z3]
  have hN : (T.heap.push (RoadKit.newA cA (newarray.typeOf aty) n))[T.heap.size]? = some (RoadKit.newA cA (newarray.typeOf aty) n) := by simp
  refine ⟨_, cA, X'.more (Nat.le_refl _) (by omega), ext_push T.heap _, ?_, ⟨hN, ⟨by simp [RoadKit.newA], kZ, z1, comp, kk⟩, by simp [RoadKit.newA]⟩, fun ti => ⟨_, kZ, hN, by rw [ti] at h1; exact h1, z1, rfl, fun q => by rw [kk] at q; cases q⟩, st⟩
  · show (T.heap.push _).size = _
    simp
theorem newR1 (X : Stand p l e R s m args below meth c T locs cells slots) (hx : p.tables.exec = Jvm.exec) (hZ : Z.Warmed39 s.vm) {own C : String} {index : Nat} (hown : s.vm.findClass own = some m.cls) (w1 : (Jvm.Cond.classLink own index C).before a0 Z = true) (w2 : (Jvm.Cond.arrayOver (.object C)).before a0 Z = true)
    {g : JFrame} (hg : g.method = m) (hd : decode c.code g.pc = .ok (.anewarray index, 3)) {n : Int32} {rest : List Value} (hs : g.stack = .int n :: rest) (hn : ¬ n < 0) {cap : Nat} (hcap : n.toNatClampNeg ≤ cap) (hb : cap * 8 ≤ 536870912) (hc : cells + 1 ≤ R.cells) (hl : slots + cap ≤ R.slots) :
    ∃ T' cA, Stand p l e R s m args below meth c T' locs (cells + 1) (slots + cap) ∧ Ext T.heap T'.heap ∧ T'.heap.size = T.heap.size + 1 ∧ Arr Z T'.heap T.heap.size (RoadKit.newA cA (.object C) n) (.object C) ∧ Ovr Z cA C ∧
      ∀ target, Steps p.tables e below (T'.setTop { g with pc := g.pc + 3, stack := .ref T.heap.size :: rest }) target → Steps p.tables e below (T.setTop g) target := by
  have w2' : (Jvm.Cond.arrayOver (.object C)).before args s = true := Jvm.Cond.arrayOver_alike hZ.alike w2
  obtain ⟨vm₁, cA, kA, comp, -, h1, h2, h3, h4, X', st⟩ := X.anewarrayRefK hx hown (mv hZ w1) w2' hg hd hs hn (by omega) hc (by omega)
  rw [hZ.alike.findClass] at h1
  obtain ⟨kZ, z1, -⟩ := Vm.findClass_spec h1
  obtain ⟨k', z2, z3⟩ := hZ.alike.2.2 _ _ z1
  cases h2.symm.trans z2
  refine ⟨_, cA, X'.more (Nat.le_refl _) (by omega), ext_push T.heap _, ?_, ⟨?_, ⟨by simp [RoadKit.newA], kZ, z1, comp, by rw [← h3, z3]⟩, by simp [RoadKit.newA]⟩, ⟨kZ, comp, z1, by rw [← h3, z3], by rw [← hZ.alike.findClass]; exact h4⟩, st⟩
  · show (T.heap.push _).size = _
    simp
  · show (T.heap.push _)[T.heap.size]? = _
    simp [RoadKit.newA, defaultValue]
theorem clone1 (X : Stand p l e R s m args below meth c T locs cells slots) (hx : p.tables.exec = Jvm.exec) (hZ : Z.Warmed39 s.vm) {own ad : String} {index : Nat} (hown : s.vm.findClass own = some m.cls)
    (w1 : (Jvm.Cond.methodLink own index ⟨ad, "clone", "()Ljava/lang/Object;"⟩).before a0 Z = true) (w2 : (Jvm.Cond.sameMethod ad "java/lang/Object" "clone" "()Ljava/lang/Object;").before a0 Z = true) (w3 : (Jvm.Cond.native ⟨"java/lang/Object", "clone", "()Ljava/lang/Object;"⟩).before a0 Z = true)
    (w4 : (Jvm.Cond.instanceMethod ⟨"java/lang/Object", "clone", "()Ljava/lang/Object;"⟩).before a0 Z = true) (w5 : (Jvm.Cond.selects ad ⟨ad, "clone", "()Ljava/lang/Object;"⟩ ⟨"java/lang/Object", "clone", "()Ljava/lang/Object;"⟩).before a0 Z = true) (w6 : (Jvm.Cond.castable ad "java/lang/Cloneable").before a0 Z = true)
    {a : Addr} {cl : Cell} {ty : FieldType} (A : Arr Z T.heap a cl ty) (E : Exa Z T.heap a ad) (F : FitC Z cl) {g : JFrame} (hg : g.method = m) (hsize : g.locals.size = c.maxLocals) {rest : List Value} (hs : g.stack = .ref a :: rest) (hd : decode c.code g.pc = .ok (.invokevirtual index, 3))
    (hf : 1 ≤ R.frames) (hl : 2 * g.monitorRoom + (rest.map fun v => v.category).sum + 14 ≤ R.locals) {cap : Nat} (hcap : cl.slots.size ≤ cap) (hc : cells + 1 ≤ R.cells) (hsl : slots + cap ≤ R.slots) :
    ∃ T', Stand p l e R s m args below meth c T' locs (cells + 1) (slots + cap) ∧ Ext T.heap T'.heap ∧ T'.heap.size = T.heap.size + 1 ∧ (∃ cl', cl'.slots = cl.slots ∧ Arr Z T'.heap T.heap.size cl' ty) ∧ Exa Z T'.heap T.heap.size ad ∧
      ∀ target, Steps p.tables e below (T'.setTop { g with pc := g.pc + 3, stack := .ref T.heap.size :: rest }) target → Steps p.tables e below (T.setTop g) target := by
  obtain ⟨c2, k, e1, e2, e3, -, e5⟩ := E
  cases A.1.symm.trans e1
  obtain ⟨c1, cC, g1, g2, g3⟩ := Jvm.Cond.castable_spec w6
  cases e2.symm.trans g1
  have hal : Z.vm.Alike T.vm := hZ.alike.trans X.warmed.alike
  obtain ⟨vm', X', st⟩ := X.cloneArray hx hown (mv hZ w1) (mv hZ w2) (mv hZ w3) (mv hZ w4) (mv hZ w5) (a := a) A.1 A.2.1.1 A.2.2 (by rw [hZ.alike.findClass]; exact e2) (by rw [hZ.alike.findClass]; exact g2) (by rw [hZ.alike.assignable]; exact g3)
    (fun i v hv => by have q := F i v hv; rw [← State.fitsSlot_setVm hal] at q; exact q) hg hsize hs hd hf hl hc (by omega)
    (by obtain ⟨-, k2, hk2, comp, hkind⟩ := A.2.1; rw [hZ.alike.clonesLoader]; exact Vm.clonesLoader_of_array hk2 hkind)
  have hN : (T.heap.push { cls := cl.cls, slots := cl.slots })[T.heap.size]? = some { cls := cl.cls, slots := cl.slots } := by simp
  refine ⟨_, X'.more (Nat.le_refl _) (by omega), ext_push T.heap _, ?_, ⟨{ cls := cl.cls, slots := cl.slots }, rfl, hN, ⟨fun _ z => (by cases z), A.2.1.2⟩, fun z => (by cases z)⟩, ⟨_, k, hN, e2, e3, rfl, e5⟩, st⟩
  show (T.heap.push _).size = _
  simp
end NewLaws
/-! ### the steps over the heap -/
section HeapLaws
variable {P : Prg} {Z : State} {a0 : Array Value} {ρ : Nat → Addr} {n0 : Nat} {H : Hp} {p : Program} {l : Launch} {e : Env} {s : State} {m : MethodId} {args : Array Value} {below : List Frame} {meth : Method} {c : Code} {T : State} {locs : List Loc} {k n j pc : Nat} {L : List Slot}
/-- what a step over the heap leaves -/
def Leaves (P : Prg) (l : Launch) (Z : State) (ρ : Nat → Addr) (n0 j : Nat) (p : Program) (e : Env) (s : State) (m : MethodId) (args : Array Value) (below : List Frame) (meth : Method) (c : Code) (T : State) (pc pc' : Nat) (L L' : List Slot) (S S' : List Value) (H' : Hp) (k' n' : Nat) : Prop :=
  ∃ T' locs', Stand p l e (P.mt j).rm s m args below meth c T' locs' k' n' ∧ Pic P Z ρ n0 T'.heap H' ∧ Fr n0 locs' ∧ ∀ target, Steps p.tables e below (T'.setTop (mkF m pc' (tL ρ L') (tS ρ S'))) target → Steps p.tables e below (T.setTop (mkF m pc (tL ρ L) (tS ρ S))) target
theorem get_ok (PO : PrgOk P Z a0 ρ) (C : Ctx P Z j p s m meth c) (X : Stand p l e (P.mt j).rm s m args below meth c T locs k n) (K : Pic P Z ρ n0 T.heap H) (N : Fr n0 locs) {idx a : Nat} {v : Value} {r : List Value} (h : rdF P j idx H a = some v) (hd : decode c.code pc = .ok (.getfield idx, 3)) :
    Leaves P l Z ρ n0 j p e s m args below meth c T pc (pc + 3) L L (.ref a :: r) (v :: r) H k n := by
  obtain ⟨hx, hZ, hown, -⟩ := C
  unfold rdF at h
  split at h
  · rename_i o ho
    unfold rdO at h
    split at h
    · rename_i cid vs
      split at h
      · rename_i q hq
        obtain ⟨fd, f1, R0, w, via⟩ := PO.1 _ (lk3_mem hq)
        have F := (K.2.2.1 a _ ho (fl_lt f1)).2 q v fd h f1
        obtain ⟨T', X', e', st⟩ := getF X hx hZ hown (host := "") (Or.inl w) via rfl F (g := mkF m pc (tL ρ L) (tS ρ (.ref a :: r))) rfl rfl hd
        exact ⟨T', locs, X', by rw [e']; exact K, N, st⟩
      · cases h
    · cases h
  · cases h
theorem nodup_ne {fs : Fds} (hn : (fs.map fun fd => fd.2.1).Nodup) {q q' : Nat} {fd fd' : String × String × String × FieldType} (h : fs[q]? = some fd) (h' : fs[q']? = some fd') (ne : q ≠ q') : fd.2.1 ≠ fd'.2.1 := fun e => by
  obtain ⟨h1, h2⟩ := List.getElem?_eq_some_iff.mp h
  obtain ⟨g1, g2⟩ := List.getElem?_eq_some_iff.mp h'
  have := (List.getElem_inj (i := q) (j := q') (h₀ := by simpa using h1) (h₁ := by simpa using g1) hn).mp (by simp [h2, g2, e])
  exact ne this
theorem put_ok (PO : PrgOk P Z a0 ρ) (RO : RhoOk P ρ n0) (C : Ctx P Z j p s m meth c) (X : Stand p l e (P.mt j).rm s m args below meth c T locs k n) (K : Pic P Z ρ n0 T.heap H) (N : Fr n0 locs) {idx a : Nat} {v : Value} {r : List Value} {H' : Hp} (h : wrF P j idx H a v = some H') (hd : decode c.code pc = .ok (.putfield idx, 3)) :
    Leaves P l Z ρ n0 j p e s m args below meth c T pc (pc + 3) L L (v :: .ref a :: r) r H' k n := by
  obtain ⟨hx, hZ, hown, -, -, -, hnm, -⟩ := C
  unfold wrF at h
  split at h
  · cases h
  · rename_i hj
    split at h
    · rename_i o ho
      split at h
      · rename_i o' ho'
        cases h
        unfold wrO at ho'
        split at ho'
        · rename_i cid vs
          split at ho'
          · rename_i q hq
            split at ho'
            · rename_i fd hfd
              split at ho'
              · rename_i v' hv'
                split at ho'
                · rename_i hlt
                  cases ho'
                  obtain ⟨C, c1, ⟨wi, wl, wn⟩, fd', f1, ⟨R0, w, via⟩, f3⟩ := PO.2.1 _ (lk3_mem hq)
                  dsimp only at c1 f1 w via f3
                  obtain ⟨e1, e2, e3⟩ := cname_of c1
                  rw [e2] at hfd
                  cases f1.symm.trans hfd
                  obtain ⟨E, F⟩ := K.2.2.1 a _ ho (List.getElem?_eq_some_iff.mp c1).1
                  rw [e1] at E
                  rw [e2] at F
                  obtain ⟨u, hu⟩ : ∃ u, vs[q]? = some u := ⟨_, List.getElem?_eq_getElem hlt⟩
                  have Fq := F q u fd hu f1
                  obtain ⟨b1, b2⟩ := vty_ok (ρ := ρ) hv'
                  have lq := wl fd (List.mem_of_getElem? f1)
                  obtain ⟨T', h', X', e', W, st⟩ := putFN X hx hZ hown w via rfl Fq E (f3.imp id fun t => ⟨t.1, t.2.1, hnm.trans t.2.2⟩) wi lq.2 b1 b2 (g := mkF m pc (tL ρ L) (tS ρ (v :: .ref a :: r))) rfl rfl hd
                  have ge : n0 ≤ ρ a := by rw [RO.1 a (by omega)]; omega
                  refine ⟨T', _, X', ?_, Fr.snoc X' N ge, st⟩
                  rw [e']
                  refine K.write RO W ho fun _ => ⟨by rw [e1]; exact E.wr W, fun q' v'' fd'' g1 g2 => ?_⟩
                  rw [e2] at g2
                  by_cases eq : q = q'
                  · subst eq
                    cases f1.symm.trans g2
                    rw [List.getElem?_set_self hlt] at g1
                    cases g1
                    exact Fq.same W
                  · rw [List.getElem?_set_ne eq] at g1
                    have l2 := wl fd'' (List.mem_of_getElem? g2)
                    exact (F q' v'' fd'' g1 g2).other W (Or.inr (slot_ne l2.1 lq.1 (nodup_ne wn g2 f1 (Ne.symm eq)) l2.2 lq.2))
                · cases ho'
              · cases ho'
            · cases ho'
          · cases ho'
        · cases ho'
      · cases h
    · cases h
theorem new_ok (PO : PrgOk P Z a0 ρ) (RO : RhoOk P ρ n0) (C : Ctx P Z j p s m meth c) (X : Stand p l e (P.mt j).rm s m args below meth c T locs k n) (K : Pic P Z ρ n0 T.heap H) (N : Fr n0 locs) {idx : Nat} {S : List Value} {x : Hp × Nat × Nat} (h : newC P j idx H k n = some x) (hd : decode c.code pc = .ok (.new idx, 3)) :
    Leaves P l Z ρ n0 j p e s m args below meth c T pc (pc + 3) L L S (.ref H.length :: S) x.1 x.2.1 x.2.2 := by
  obtain ⟨hx, hZ, hown, -⟩ := C
  unfold newC at h
  split at h
  · rename_i cid hq
    split at h
    · rename_i hc
      cases h
      obtain ⟨C, c1, ⟨wi, wl, wn⟩, w1, w2⟩ := PO.2.2.2.1 _ (lk2_mem hq)
      dsimp only at c1 w1 w2
      obtain ⟨e1, e2, e3⟩ := cname_of c1
      rw [e3] at hc
      obtain ⟨T', X', E, hsz, A, D, st⟩ := newO1 X hx hZ hown w1 wi w2 (g := mkF m pc (tL ρ L) (tS ρ S)) rfl hd hc.1 hc.2
      have ad := K.addr RO
      rw [← ad] at A D st
      refine ⟨T', locs, by rw [e3]; exact X', K.push E hsz (fun _ => ⟨by rw [e1]; exact A, fun q v fd g1 g2 => ?_⟩), N, st⟩
      rw [e2] at g1 g2
      simp only [List.getElem?_map, g2, Option.map_some, Option.some.injEq] at g1
      subst g1
      have lq := wl fd (List.mem_of_getElem? g2)
      rw [tv_dft]
      exact D lq.1 lq.2
    · cases h
  · cases h
theorem slots_new (cA : ClassId) (ty : FieldType) (len : Int32) : (RoadKit.newA cA ty len).slots = ((List.replicate len.toNatClampNeg (dft ty)).map (tv ρ)).toArray := by
  apply Array.toList_inj.mp
  simp [RoadKit.newA, tv_dft]
theorem newP_ok (PO : PrgOk P Z a0 ρ) (RO : RhoOk P ρ n0) (C : Ctx P Z j p s m meth c) (X : Stand p l e (P.mt j).rm s m args below meth c T locs k n) (K : Pic P Z ρ n0 T.heap H) (N : Fr n0 locs) {t : ArrayType} {len : Int32} {r : List Value} {x : Hp × Nat × Nat} (ht : newarray.typeOf t ∈ P.ats) (h : newA P j pc (newarray.typeOf t) len H k n = some x) (hd : decode c.code pc = .ok (.newarray t, 2)) :
    Leaves P l Z ρ n0 j p e s m args below meth c T pc (pc + 2) L L (.int len :: r) (.ref H.length :: r) x.1 x.2.1 x.2.2 := by
  obtain ⟨hx, hZ, hown, -⟩ := C
  unfold newA at h
  split at h
  · rename_i cap hq
    split at h
    · rename_i hc
      cases h
      obtain ⟨T', cA, X', E, hsz, A, B, st⟩ := newP1 X hx hZ (PO.2.2.2.2.2.1 _ ht) (g := mkF m pc (tL ρ L) (tS ρ (.int len :: r))) rfl hd rfl hc.1 hc.2.1 hc.2.2.1 hc.2.2.2.1 hc.2.2.2.2
      have ad := K.addr RO
      rw [← ad] at A B st
      exact ⟨T', locs, X', K.push E hsz ⟨_, A, slots_new _ _ _, fun _ C0 hC => (by cases t <;> cases hC), fun _ ht => B ht⟩, N, st⟩
    · cases h
  · cases h
theorem newR_ok (PO : PrgOk P Z a0 ρ) (RO : RhoOk P ρ n0) (C : Ctx P Z j p s m meth c) (X : Stand p l e (P.mt j).rm s m args below meth c T locs k n) (K : Pic P Z ρ n0 T.heap H) (N : Fr n0 locs) {idx cid : Nat} {len : Int32} {r : List Value} {x : Hp × Nat × Nat} (hq : lk2 P.na j idx = some cid) (h : newA P j pc (.object (P.cname cid)) len H k n = some x) (hd : decode c.code pc = .ok (.anewarray idx, 3)) :
    Leaves P l Z ρ n0 j p e s m args below meth c T pc (pc + 3) L L (.int len :: r) (.ref H.length :: r) x.1 x.2.1 x.2.2 := by
  obtain ⟨hx, hZ, hown, -⟩ := C
  unfold newA at h
  split at h
  · split at h
    · rename_i hc
      cases h
      obtain ⟨w1, w2⟩ := PO.2.2.2.2.1 _ (lk2_mem hq)
      obtain ⟨T', cA, X', E, hsz, A, O, st⟩ := newR1 X hx hZ hown w1 w2 (g := mkF m pc (tL ρ L) (tS ρ (.int len :: r))) rfl hd rfl hc.1 hc.2.1 hc.2.2.1 hc.2.2.2.1 hc.2.2.2.2
      have ad := K.addr RO
      rw [← ad] at A st
      exact ⟨T', locs, X', K.push E hsz ⟨_, A, slots_new _ _ _, fun _ C0 hC => (by cases hC; exact O), fun _ ht => (by cases ht)⟩, N, st⟩
    · cases h
  · cases h
theorem len_ok (C : Ctx P Z j p s m meth c) (X : Stand p l e (P.mt j).rm s m args below meth c T locs k n) (K : Pic P Z ρ n0 T.heap H) (N : Fr n0 locs) {a : Nat} {v : Int32} {r : List Value} (h : alen H a = some v) (hd : decode c.code pc = .ok (.arraylength, 1)) :
    Leaves P l Z ρ n0 j p e s m args below meth c T pc (pc + 1) L L (.ref a :: r) (.int v :: r) H k n := by
  obtain ⟨hx, hZ, hown, -⟩ := C
  unfold alen at h
  split at h
  · rename_i ty vs ho
    cases h
    obtain ⟨cl, A, hs, -⟩ := K.2.2.1 a _ ho
    have es : cl.slots.size = vs.length := by rw [hs]; simp
    refine ⟨T, locs, X, K, N, fun target hr => X.arraylength hx A.1 (State.isArrayOf_alike hZ.alike A.2.1) (g := mkF m pc (tL ρ L) (tS ρ (.ref a :: r))) rfl rfl hd target ?_⟩
    rw [es]
    exact hr
  · cases h
theorem lda_ok (C : Ctx P Z j p s m meth c) (X : Stand p l e (P.mt j).rm s m args below meth c T locs k n) (K : Pic P Z ρ n0 T.heap H) (N : Fr n0 locs) {i : Instr} (hi : i = .iaload ∨ i = .baload ∨ i = .caload ∨ i = .saload ∨ i = .laload ∨ i = .aaload ∨ i = .daload) {a : Nat} {x : Int32} {v : Value} {r : List Value} (h : ldA i H a x = some v) (hd : decode c.code pc = .ok (i, 1)) :
    Leaves P l Z ρ n0 j p e s m args below meth c T pc (pc + 1) L L (.int x :: .ref a :: r) (v :: r) H k n := by
  obtain ⟨hx, hZ, hown, -⟩ := C
  unfold ldA at h
  split at h
  · rename_i ty vs ho
    split at h
    · rename_i hc
      obtain ⟨cl, A, hs, -⟩ := K.2.2.1 a _ ho
      have es : cl.slots.size = vs.length := by rw [hs]; simp
      have hin : ¬ (x < 0 ∨ cl.slots.size ≤ x.toNatClampNeg) := fun q => by
        rcases q with q | q
        · exact hc.2 q
        · rw [es] at q
          exact absurd (List.getElem?_eq_some_iff.mp h).1 (Nat.not_lt.mpr q)
      have hv : cl.slots[x.toNatClampNeg]? = some (tv ρ v) := by rw [hs]; simp [h]
      have hA := State.isArrayOf_alike hZ.alike A.2.1
      refine ⟨T, locs, X, K, N, fun target hr => ?_⟩
      have ht := hc.1
      rcases hi with rfl | rfl | rfl | rfl | rfl | rfl | rfl <;> cases ty <;> first
        | (cases ht; done)
        | exact X.iaload hx A.1 hA A.2.2 hin hv (g := mkF m pc (tL ρ L) (tS ρ (.int x :: .ref a :: r))) rfl rfl hd target hr
        | exact X.baloadBytes hx A.1 hA A.2.2 hin hv (g := mkF m pc (tL ρ L) (tS ρ (.int x :: .ref a :: r))) rfl rfl hd target hr
        | exact X.caload hx A.1 hA A.2.2 hin hv (g := mkF m pc (tL ρ L) (tS ρ (.int x :: .ref a :: r))) rfl rfl hd target hr
        | exact X.saload hx A.1 hA A.2.2 hin hv (g := mkF m pc (tL ρ L) (tS ρ (.int x :: .ref a :: r))) rfl rfl hd target hr
        | exact X.laload hx A.1 hA A.2.2 hin hv (g := mkF m pc (tL ρ L) (tS ρ (.int x :: .ref a :: r))) rfl rfl hd target hr
        | exact X.aaload hx A.1 hA rfl A.2.2 hin hv (g := mkF m pc (tL ρ L) (tS ρ (.int x :: .ref a :: r))) rfl rfl hd target hr
        | exact X.daload hx A.1 hA A.2.2 hin hv (g := mkF m pc (tL ρ L) (tS ρ (.int x :: .ref a :: r))) rfl rfl hd target hr
    · cases h
  · cases h
theorem set_tv (vs : List Value) (q : Nat) (v : Value) : ((vs.map (tv ρ)).toArray).setIfInBounds q (tv ρ v) = ((vs.set q v).map (tv ρ)).toArray := by
  apply Array.toList_inj.mp
  simp [Array.toList_setIfInBounds, List.map_set]
theorem sta_ok (RO : RhoOk P ρ n0) (C : Ctx P Z j p s m meth c) (X : Stand p l e (P.mt j).rm s m args below meth c T locs k n) (K : Pic P Z ρ n0 T.heap H) (N : Fr n0 locs) {i : Instr} (hi : i = .iastore ∨ i = .bastore ∨ i = .castore ∨ i = .lastore ∨ i = .aastore ∨ i = .dastore) {a : Nat} {x : Int32} {v : Value} {r : List Value} {H' : Hp} (h : stA P i H a x v = some H') (hd : decode c.code pc = .ok (i, 1)) :
    Leaves P l Z ρ n0 j p e s m args below meth c T pc (pc + 1) L L (v :: .int x :: .ref a :: r) r H' k n := by
  obtain ⟨hx, hZ, hown, -⟩ := C
  unfold stA at h
  split at h
  · cases h
  · rename_i hj
    split at h
    · rename_i ty vs ho
      split at h
      · rename_i v' hv'
        split at h
        · rename_i hc
          cases h
          obtain ⟨cl, A, hs, hov, hex⟩ := K.2.2.1 a _ ho
          have es : cl.slots.size = vs.length := by rw [hs]; simp
          have hin : ¬ (x < 0 ∨ cl.slots.size ≤ x.toNatClampNeg) := fun q => by
            rcases q with q | q
            · exact hc.2.1 q
            · rw [es] at q
              exact absurd hc.2.2.1 (Nat.not_lt.mpr q)
          have ge : n0 ≤ ρ a := by rw [RO.1 a (by omega)]; omega
          have fin : ∀ {T' : State} {h' : Heap} (X' : Stand p l e (P.mt j).rm s m args below meth c T' (locs ++ [⟨ρ a, x.toNatClampNeg⟩]) k n) (e' : T'.heap = h') (W : Wr T.heap h' (ρ a) x.toNatClampNeg (tv ρ v')) (st : ∀ target, Steps p.tables e below (T'.setTop (mkF m (pc + 1) (tL ρ L) (tS ρ r))) target → Steps p.tables e below (T.setTop (mkF m pc (tL ρ L) (tS ρ (v :: .int x :: .ref a :: r)))) target),
              Leaves P l Z ρ n0 j p e s m args below meth c T pc (pc + 1) L L (v :: .int x :: .ref a :: r) r (H.set a (.inl ty, vs.set x.toNatClampNeg v')) k n := by
            intro T' h' X' e' W st
            refine ⟨T', _, X', ?_, Fr.snoc X' N ge, st⟩
            rw [e']
            refine K.write RO W ho ⟨_, A.same W, ?_, hov, fun q t => (hex q t).wr W⟩
            show cl.slots.setIfInBounds _ _ = _
            rw [hs]
            exact set_tv vs _ _
          have ht := hc.1
          rcases hi with rfl | rfl | rfl | rfl | rfl | rfl
          · obtain rfl : ty = .int := by cases ty <;> first | rfl | cases ht
            obtain ⟨b, rfl, rfl⟩ : ∃ b, v = .int b ∧ v' = .int b := by cases v <;> cases hv'; exact ⟨_, rfl, rfl⟩
            obtain ⟨T', h', X', e', W, st⟩ := stI X hx hZ rfl A hin (g := mkF m pc (tL ρ L) (tS ρ (.int b :: .int x :: .ref a :: r))) rfl rfl hd
            exact fin X' e' W st
          · obtain rfl : ty = .byte := by cases ty <;> first | rfl | cases ht
            obtain ⟨b, rfl, rfl⟩ : ∃ b : Int32, v = .int b ∧ v' = .int b.toInt8.toInt32 := by cases v <;> cases hv'; exact ⟨_, rfl, rfl⟩
            obtain ⟨T', h', X', e', W, st⟩ := stB X hx hZ rfl A hin (g := mkF m pc (tL ρ L) (tS ρ (.int b :: .int x :: .ref a :: r))) rfl rfl hd
            exact fin X' e' W st
          · obtain rfl : ty = .char := by cases ty <;> first | rfl | cases ht
            obtain ⟨b, rfl, rfl⟩ : ∃ b : Int32, v = .int b ∧ v' = .int b.toUInt32.toUInt16.toUInt32.toInt32 := by cases v <;> cases hv'; exact ⟨_, rfl, rfl⟩
            obtain ⟨T', h', X', e', W, st⟩ := RoadKit.stC X hx hZ rfl A hin (g := mkF m pc (tL ρ L) (tS ρ (.int b :: .int x :: .ref a :: r))) rfl rfl hd
            exact fin X' e' W st
          · obtain rfl : ty = .long := by cases ty <;> first | rfl | cases ht
            obtain ⟨b, rfl, rfl⟩ : ∃ b, v = .long b ∧ v' = .long b := by cases v <;> cases hv'; exact ⟨_, rfl, rfl⟩
            obtain ⟨T', h', X', e', W, st⟩ := stJ X hx hZ rfl A hin (g := mkF m pc (tL ρ L) (tS ρ (.long b :: .int x :: .ref a :: r))) rfl rfl hd
            exact fin X' e' W st
          · obtain ⟨C0, rfl⟩ : ∃ C0, ty = .object C0 := by cases ty <;> first | exact ⟨_, rfl⟩ | cases ht
            obtain ⟨rfl, hvr⟩ : v' = v ∧ (v = .null ∨ ∃ b, v = .ref b) := by
              cases v <;> cases hv'
              · exact ⟨rfl, Or.inl rfl⟩
              · exact ⟨rfl, Or.inr ⟨_, rfl⟩⟩
            rcases hvr with rfl | ⟨b, rfl⟩
            · obtain ⟨T', h', X', e', W, st⟩ := RoadKit.stR X hx hZ rfl A hin rfl (Or.inl rfl) (g := mkF m pc (tL ρ L) (tS ρ (.null :: .int x :: .ref a :: r))) rfl rfl hd
              exact fin X' e' W st
            · have q := hc.2.2.2
              simp only [stoOk] at q
              split at q
              · rename_i cid ws hb
                simp only [Bool.and_eq_true, decide_eq_true_eq] at q
                have I := Ins.self (K.2.2.1 b _ hb q.1).1
                rw [eq_of_beq q.2] at I
                obtain ⟨T', h', X', e', W, st⟩ := RoadKit.stR X hx hZ rfl A hin rfl (Sto.of A (hov (by omega) C0 rfl) I) (g := mkF m pc (tL ρ L) (tS ρ (.ref b :: .int x :: .ref a :: r))) rfl rfl hd
                exact fin X' e' W st
              · cases q
          · obtain rfl : ty = .double := by cases ty <;> first | rfl | cases ht
            obtain ⟨b, rfl, rfl⟩ : ∃ b, v = .double b ∧ v' = .double b := by cases v <;> cases hv'; exact ⟨_, rfl, rfl⟩
            obtain ⟨T', h', X', e', W, st⟩ := stD X hx hZ rfl A hin (g := mkF m pc (tL ρ L) (tS ρ (.double b :: .int x :: .ref a :: r))) rfl rfl hd
            exact fin X' e' W st
        · cases h
      · cases h
    · cases h
theorem cast_ok (PO : PrgOk P Z a0 ρ) (C : Ctx P Z j p s m meth c) (X : Stand p l e (P.mt j).rm s m args below meth c T locs k n) (K : Pic P Z ρ n0 T.heap H) (N : Fr n0 locs) {idx a : Nat} {r : List Value} (h : castI P j idx H a = some true) (hd : decode c.code pc = .ok (.checkcast idx, 3)) :
    Leaves P l Z ρ n0 j p e s m args below meth c T pc (pc + 3) L L (.ref a :: r) (.ref a :: r) H k n := by
  obtain ⟨hx, hZ, hown, -⟩ := C
  unfold castI at h
  split at h
  · rename_i o ho
    obtain ⟨K0, w, hI, -⟩ := PO.2.2.2.2.2.2.1 _ (lkK_mem h)
    obtain ⟨T', X', e', st⟩ := castY X hx hZ hown w rfl (hI T.heap a o.2 (K.2.2.1 a _ ho)) (g := mkF m pc (tL ρ L) (tS ρ (.ref a :: r))) rfl rfl hd
    exact ⟨T', locs, X', by rw [e']; exact K, N, st⟩
  · cases h
theorem inst_ok (PO : PrgOk P Z a0 ρ) (C : Ctx P Z j p s m meth c) (X : Stand p l e (P.mt j).rm s m args below meth c T locs k n) (K : Pic P Z ρ n0 T.heap H) (N : Fr n0 locs) {idx a : Nat} {r : List Value} {b : Bool} (h : castI P j idx H a = some b) (hd : decode c.code pc = .ok (.instanceof idx, 3)) :
    Leaves P l Z ρ n0 j p e s m args below meth c T pc (pc + 3) L L (.ref a :: r) (.int (if b = true then 1 else 0) :: r) H k n := by
  obtain ⟨hx, hZ, hown, -⟩ := C
  unfold castI at h
  split at h
  · rename_i o ho
    obtain ⟨K0, w, hI, hf⟩ := PO.2.2.2.2.2.2.1 _ (lkK_mem h)
    have I := hI T.heap a o.2 (K.2.2.1 a _ ho)
    dsimp only at w I hf
    cases b with
    | true =>
      obtain ⟨T', X', e', st⟩ := instY X hx hZ hown w rfl I (g := mkF m pc (tL ρ L) (tS ρ (.ref a :: r))) rfl rfl hd
      exact ⟨T', locs, X', by rw [e']; exact K, N, st⟩
    | false =>
      obtain ⟨cid, hk, hlt⟩ := hf rfl
      have KO := K.2.2.1 a _ ho
      obtain ⟨kd, vs⟩ := o
      dsimp only at hk
      subst hk
      obtain ⟨cell, kz, q1, q2, q3, q4, q5⟩ := (KO hlt).1
      obtain ⟨cell', cT, i1, i2, i3⟩ := I
      cases q1.symm.trans i1
      obtain ⟨k', r1, -⟩ := hZ.alike.2.2 _ _ q3
      obtain ⟨vm', X', st⟩ := Jvm.Sym.instanceofNoAt X hx hown (mv hZ w) q1 q4 r1 (by rw [hZ.alike.findClass]; exact i2) (by rw [hZ.alike.assignable]; simpa [q4] using i3) (g := mkF m pc (tL ρ L) (tS ρ (.ref a :: r))) rfl rfl hd
      exact ⟨_, locs, X', K, N, st⟩
  · cases h
theorem cln_ok (PO : PrgOk P Z a0 ρ) (RO : RhoOk P ρ n0) (C : Ctx P Z j p s m meth c) (X : Stand p l e (P.mt j).rm s m args below meth c T locs k n) (K : Pic P Z ρ n0 T.heap H) (N : Fr n0 locs) {idx a np j' : Nat} {r : List Value} {x : HR} (hq : lk2 P.ic j idx = some (7, np, j')) (h : clnA P j pc L r H a k n = some x) (hd : decode c.code pc = .ok (.invokevirtual idx, 3)) :
    Leaves P l Z ρ n0 j p e s m args below meth c T pc (pc + 3) L L (.ref a :: r) x.1 x.2.1 x.2.2.1 x.2.2.2 := by
  obtain ⟨hx, hZ, hown, -, hml, -⟩ := C
  unfold clnA at h
  split at h
  · rename_i vs ho
    split at h
    · rename_i cap hcp
      split at h
      · rename_i hc
        cases h
        obtain ⟨⟨hj, hI⟩, ⟨g1, g2, g3⟩, g4, g5, g6⟩ := hc
        obtain ⟨w1, w2, w3, w4, w5, w6⟩ := PO.2.2.2.2.2.2.2.2.2.1 _ (lk2_mem hq)
        obtain ⟨cl, A, hs, hov, hex⟩ := K.2.2.1 a _ ho
        have es : cl.slots.size = vs.length := by rw [hs]; simp
        have F : FitC Z cl := fitC_of A fun i hi v hv => by
          rw [hs] at hv
          simp only [List.getElem?_toArray, List.getElem?_map, Option.map_eq_some_iff] at hv
          obtain ⟨u, hu, rfl⟩ := hv
          have := List.all_eq_true.mp hI u (List.mem_of_getElem? hu)
          cases u <;> first | rfl | cases this
        obtain ⟨T', X', E, hsz, ⟨cl', hs', A'⟩, E', st⟩ := clone1 X hx hZ hown w1 w2 w3 w4 w5 w6 A (hex hj rfl) F (g := mkF m pc (tL ρ L) (tS ρ (.ref a :: r))) rfl (by rw [hml, ← g1]; simp) (rest := tS ρ r) rfl hd g2 (by show 2 * 0 + _ + 14 ≤ _; rw [wt_eq]; omega) (by rw [es]; exact g4) g5 g6
        have ad := K.addr RO
        rw [← ad] at A' E' st
        exact ⟨T', locs, X', K.push E hsz ⟨cl', A', by rw [hs']; exact hs, fun _ C0 hC => (by cases hC), fun _ _ => E'⟩, N, st⟩
      · cases h
    · cases h
  · cases h
end HeapLaws
end Jvm.MM
namespace Jvm.MM
open Jvm Jvm.ClassFile Sem Op Lib Jvm.Free Jvm.Stand Jvm.LawKit Jvm.RoadKit
/-! ### the whole run -/
section Sound
variable {P : Prg} {Z : State} {a0 : Array Value} {ρ : Nat → Addr} {n0 : Nat} {l : Launch}
def Snd (P : Prg) (l : Launch) (Z : State) (ρ : Nat → Addr) (n0 j : Nat) : St → MRes → Prop
  | (pc, L, S, H, k, n), r => ∀ (p : Program) (e : Env) (s : State) (m : MethodId) (args : Array Value) (below : List Frame) (meth : Method) (c : Code) (T : State) (locs : List Loc),
    Ctx P Z j p s m meth c → Stand p l e (P.mt j).rm s m args below meth c T locs k n → Pic P Z ρ n0 T.heap H → Fr n0 locs →
    ∃ s₂ L', Steps p.tables e below (T.setTop (mkF m pc (tL ρ L) (tS ρ S))) s₂ ∧ s₂.status = .running ∧ Ended s₂ below (.returned (r.1.map (tv ρ))) ∧ Pic P Z ρ n0 s₂.heap r.2 ∧ Fr n0 L' ∧ FrameEnd s (.returned (r.1.map (tv ρ))) s₂ L' (P.mt j).rm.cells (P.mt j).rm.slots
/-- what a call leaves -/
def Qm (P : Prg) (Z : State) (ρ : Nat → Addr) (n0 : Nat) (r : MRes) (v : Option Value) (h : Heap) (L : List Loc) : Prop := v = r.1.map (tv ρ) ∧ Pic P Z ρ n0 h r.2 ∧ Fr n0 L
theorem laid_tr : ∀ as : List Value, Jvm.Sym.laidSlots (as.map (tv ρ)) = (laid as).map (ts ρ)
  | [] => rfl
  | v :: r => by
    have ih := laid_tr r
    show (if (tv ρ v).category = 2 then Slot.val (tv ρ v) :: .second :: Jvm.Sym.laidSlots (r.map (tv ρ)) else .val (tv ρ v) :: Jvm.Sym.laidSlots (r.map (tv ρ))) = (if cat v = 2 then Slot.val v :: .second :: laid r else .val v :: laid r).map (ts ρ)
    rw [cat_eq, cat_tv, ih]
    split <;> rfl
theorem ent_tr (as : List Value) (mx : Nat) : Jvm.Sym.laidSlots (tS ρ as).toArray.toList ++ List.replicate (mx - (Jvm.Sym.laidSlots (tS ρ as).toArray.toList).length) Slot.unset = (tL ρ (entL as mx)).toList := by
  show Jvm.Sym.laidSlots (as.map (tv ρ)) ++ List.replicate (mx - (Jvm.Sym.laidSlots (as.map (tv ρ))).length) Slot.unset = (laid as ++ List.replicate (mx - (laid as).length) Slot.unset).map (ts ρ)
  rw [laid_tr, List.length_map, List.map_append, List.map_replicate]
  rfl
theorem met_of {j : Nat} {as : List Value} {H : Hp} {r : MRes} {h0 : Heap} (hpl : plainFor (P.mt j).y = true) (hS : Snd P l Z ρ n0 j (0, entL as (P.mt j).mx, [], H, 0, 0) r) (K : Pic P Z ρ n0 h0 H) (ws : List Jvm.Cond) :
    MetFree l (P.mt j).y (head1 (Jvm.Cond.code (P.mt j).y (P.mt j).code (P.mt j).mx (P.mt j).ret :: ws) (P.mt j).rm) (fun a U => a = (tS ρ as).toArray ∧ Z.Warmed39 U.vm ∧ U.heap = h0) (fun _ _ _ _ _ => True) (fun _ U o U' => ∃ v L, o = .returned v ∧ Qm P Z ρ n0 r v U'.heap L ∧ FrameEnd U o U' L (P.mt j).rm.cells (P.mt j).rm.slots) := by
  refine MetFree.of_bodySF hpl hisR ?_
  intro p e s m args below meth c s₁ Bd hml0 hP hK
  obtain ⟨rfl, hZ, hh⟩ := hP
  have hown : s.vm.findClass (P.mt j).y.cls = some m.cls := findClass_of_methodNamed Bd.named
  have hnm := (name_of_methodNamed Bd.named Bd.method).1
  have X0 : Stand p l e (P.mt j).rm s m (tS ρ as).toArray below meth c s₁ [] 0 0 := Stand.of_body Bd
  have e0 : s₁.heap = h0 := by rw [← hh, Bd.state]; rfl
  have Cx : Ctx P Z j p s m meth c := ⟨Bd.exec, hZ, hown, Bd.bytes, hml0, Bd.returns, hnm, Bd.notSynchronized⟩
  obtain ⟨s₂, L', st, h1, h2, h3, h4, h5⟩ := hS p e s m _ below meth c s₁ [] Cx X0 (by rw [e0]; exact K) (Fr.nil n0)
  exact ⟨s₂, _, (XT.entry (ent_tr as _)).trans st, h1, h2, _, L', rfl, ⟨rfl, h3, h4⟩, h5⟩
section At
variable {H : Hp} {p : Program} {e : Env} {s : State} {m : MethodId} {args : Array Value} {below : List Frame} {meth : Method} {c : Code} {T : State} {locs : List Loc} {k n j pc : Nat} {L : List Slot}
theorem rm_inv {j j' : Nat} {L : List Slot} {r : List Value} {k n : Nat} (h : rmOk P j j' L r k n = true) : L.length = (P.mt j).mx ∧ (P.mt j').rm.frames + 1 ≤ (P.mt j).rm.frames ∧ wt r + ((P.mt j').mx + 11) + (P.mt j').rm.locals ≤ (P.mt j).rm.locals ∧ k + (P.mt j').rm.cells ≤ (P.mt j).rm.cells ∧ n + (P.mt j').rm.slots ≤ (P.mt j).rm.slots := by
  simpa only [rmOk, Bool.and_eq_true, decide_eq_true_eq] using h
theorem tS_opt (v : Option Value) (r : List Value) : (v.map (tv ρ)).toList ++ tS ρ r = tS ρ (v.toList ++ r) := by cases v <;> rfl
theorem take_stack (S : List Value) (np : Nat) : tS ρ S = (tS ρ (S.take np).reverse).reverse ++ tS ρ (S.drop np) := by
  rw [← List.map_reverse, List.reverse_reverse, ← List.map_append, List.take_append_drop]
theorem take_len {S : List Value} {np : Nat} (h : np ≤ S.length) : (tS ρ (S.take np).reverse).length = np := by simp [Nat.min_eq_left h]
theorem callS_ok (PO : PrgOk P Z a0 ρ) (C : Ctx P Z j p s m meth c) (X : Stand p l e (P.mt j).rm s m args below meth c T locs k n) (K : Pic P Z ρ n0 T.heap H) (N : Fr n0 locs) {idx np j' : Nat} {S : List Value} (hq : lk2 P.ic j idx = some (0, np, j')) (hnp : np ≤ S.length) (hrm : rmOk P j j' L (S.drop np) k n = true) (hd : decode c.code pc = .ok (.invokestatic idx, 3))
    {r : MRes} (hS : Snd P l Z ρ n0 j' (0, entL (S.take np).reverse (P.mt j').mx, [], H, 0, 0) r) :
    Leaves P l Z ρ n0 j p e s m args below meth c T pc (pc + 3) L L S (r.1.toList ++ S.drop np) r.2 (k + (P.mt j').rm.cells) (n + (P.mt j').rm.slots) := by
  obtain ⟨hx, hZ, hown, -, hml, -⟩ := C
  obtain ⟨g1, g2, g3, g4, g5⟩ := rm_inv hrm
  obtain ⟨w1, w2, ⟨w3, w4, w5, w6⟩, w7⟩ := PO.2.2.2.2.2.2.2.2.2.1 _ (lk2_mem hq)
  have met := met_of w5 hS K []
  obtain ⟨v, vm₁, ⟨T', L2, k2, n2⟩, -, X', ⟨Lc, ⟨hv, hp, hN⟩, l1, l2, l3⟩, st⟩ := Jvm.LawKit.callS X hx (y := (P.mt j').y) hown (mvT hZ w1) (mvT hZ w2) (mvT hZ w4) (mvT hZ w3) w6 (backOf (W := wt (S.drop np)) (Q := Qm P Z ρ n0 r) met hZ w3 w4 g2 g3) (g := mkF m pc (tL ρ L) (tS ρ S)) rfl (by rw [hml, ← g1]; simp) (argsL := tS ρ (S.take np).reverse) (rest := tS ρ (S.drop np)) (fun sig hsig => by rw [take_len hnp]; exact w7 sig hsig) (take_stack S np) (by show 2 * 0 + _ ≤ _; rw [wt_eq]; omega) hd (fun _ _ => ⟨rfl, rfl, g4, g5⟩)
  dsimp only [Pt.U, Pt.locs, Pt.cells, Pt.slots] at X' hp l1 l2 l3 st
  subst l1 l2 l3 hv
  refine ⟨T', _, X', hp, Fr.app N hN, fun target hr => st target ?_⟩
  rw [tS_opt]
  exact hr
theorem callI_ok (PO : PrgOk P Z a0 ρ) (C : Ctx P Z j p s m meth c) (X : Stand p l e (P.mt j).rm s m args below meth c T locs k n) (K : Pic P Z ρ n0 T.heap H) (N : Fr n0 locs) {idx np j' a : Nat} {S rr : List Value} (hq : lk2 P.ic j idx = some (1, np, j')) (hdr : S.drop np = .ref a :: rr) (hrm : rmOk P j j' L rr k n = true) (hd : decode c.code pc = .ok (.invokespecial idx, 3))
    {r : MRes} (hS : Snd P l Z ρ n0 j' (0, entL (.ref a :: (S.take np).reverse) (P.mt j').mx, [], H, 0, 0) r) :
    Leaves P l Z ρ n0 j p e s m args below meth c T pc (pc + 3) L L S (r.1.toList ++ rr) r.2 (k + (P.mt j').rm.cells) (n + (P.mt j').rm.slots) := by
  obtain ⟨hx, hZ, hown, -, hml, -⟩ := C
  obtain ⟨g1, g2, g3, g4, g5⟩ := rm_inv hrm
  obtain ⟨w0, w1, w2, ⟨w3, w4, w5, w6⟩, w8, w7⟩ := PO.2.2.2.2.2.2.2.2.2.1 _ (lk2_mem hq)
  have hnp : np ≤ S.length := by
    have := congrArg List.length hdr
    simp only [List.length_drop, List.length_cons] at this
    omega
  have met := met_of w5 hS K []
  have w3' : (Jvm.Cond.code (P.mt j').y (P.mt j').code (P.mt j').mx none).before a0 Z = true := by rw [← w8]; exact w3
  obtain ⟨v, vm₁, ⟨T', L2, k2, n2⟩, -, X', ⟨Lc, ⟨hv, hp, hN⟩, l1, l2, l3⟩, st⟩ := X.specialBack hx (y := (P.mt j').y) w0 hown (mvT hZ w1) (mvT hZ w2) (mvT hZ w3') w6 (backOf (W := wt rr) (Q := Qm P Z ρ n0 r) met hZ w3 w4 g2 g3) (g := mkF m pc (tL ρ L) (tS ρ S)) rfl (by rw [hml, ← g1]; simp) (Steps.refl _) (a := ρ a) (argsL := tS ρ (S.take np).reverse) (rest := tS ρ rr) (fun sig hsig => by rw [take_len hnp]; exact w7 sig hsig) ((take_stack S np).trans (by rw [hdr]; rfl)) (by show 2 * 0 + _ ≤ _; rw [wt_eq]; omega) hd (fun _ _ => ⟨rfl, rfl, g4, g5⟩)
  dsimp only [Pt.U, Pt.locs, Pt.cells, Pt.slots] at X' hp l1 l2 l3 st
  subst l1 l2 l3 hv
  refine ⟨T', _, X', hp, Fr.app N hN, fun target hr => st.trans ?_⟩
  rw [tS_opt]
  exact hr
theorem nf_ok {y : MethodName} (hZ : Z.Warmed39 s.vm) (h : NfOk Z a0 y) : NotFace s y := by
  rcases h with ⟨C, w⟩ | ⟨S, w⟩ | w
  · exact notFace_of_selects (args := #[]) (mvT hZ w)
  · exact nf_super (args := #[]) (mvT hZ w)
  · exact nf_top (args := #[]) (mvT hZ w)
theorem callV_ok (PO : PrgOk P Z a0 ρ) (C : Ctx P Z j p s m meth c) (X : Stand p l e (P.mt j).rm s m args below meth c T locs k n) (K : Pic P Z ρ n0 T.heap H) (N : Fr n0 locs) {idx np j' a cid : Nat} {S rr vs : List Value} (hq : lk3 P.vc j idx cid = some (np, j')) (hdr : S.drop np = .ref a :: rr) (ho : H[a]? = some (.inr cid, vs)) (hrm : rmOk P j j' L rr k n = true) (hd : decode c.code pc = .ok (.invokevirtual idx, 3))
    {r : MRes} (hS : Snd P l Z ρ n0 j' (0, entL (.ref a :: (S.take np).reverse) (P.mt j').mx, [], H, 0, 0) r) :
    Leaves P l Z ρ n0 j p e s m args below meth c T pc (pc + 3) L L S (r.1.toList ++ rr) r.2 (k + (P.mt j').rm.cells) (n + (P.mt j').rm.slots) := by
  obtain ⟨hx, hZ, hown, -, hml, -⟩ := C
  obtain ⟨g1, g2, g3, g4, g5⟩ := rm_inv hrm
  obtain ⟨y, w1, w2, wn, w8, w9, ⟨w3, w4, w5, w6⟩, w10, w7, hlt⟩ := PO.2.2.2.2.2.2.2.2.2.2 _ (lk3_mem hq)
  have hnp : np ≤ S.length := by
    have := congrArg List.length hdr
    simp only [List.length_drop, List.length_cons] at this
    omega
  have met := met_of w5 hS K []
  obtain ⟨cB, kB, q1, q2, q3⟩ := isOf hZ rfl (K.2.2.1 a _ ho hlt).1
  obtain ⟨v, vm₁, ⟨T', L2, k2, n2⟩, -, X', ⟨Lc, ⟨hv, hp, hN⟩, l1, l2, l3⟩, st⟩ := X.virtualBack hx (y := y) (z := (P.mt j').y) hown (mvT hZ w1) (mvT hZ w2) (nf_ok hZ wn) (mvT hZ w8) (mvT hZ w9) w10 (backOf (W := wt rr) (Q := Qm P Z ρ n0 r) met hZ w3 w4 g2 g3) q1 q3 (g := mkF m pc (tL ρ L) (tS ρ S)) rfl (by rw [hml, ← g1]; simp) (Steps.refl _) (argsL := tS ρ (S.take np).reverse) (rest := tS ρ rr) (fun sig hsig => by rw [take_len hnp]; exact w7 sig hsig) ((take_stack S np).trans (by rw [hdr]; rfl)) (by show 2 * 0 + _ ≤ _; rw [wt_eq]; omega) hd (fun _ _ => ⟨rfl, rfl, g4, g5⟩)
  dsimp only [Pt.U, Pt.locs, Pt.cells, Pt.slots] at X' hp l1 l2 l3 st
  subst l1 l2 l3 hv
  refine ⟨T', _, X', hp, Fr.app N hN, fun target hr => st.trans ?_⟩
  rw [tS_opt]
  exact hr
set_option maxHeartbeats 8000000 in
theorem call_ok (PO : PrgOk P Z a0 ρ) (C : Ctx P Z j p s m meth c) (X : Stand p l e (P.mt j).rm s m args below meth c T locs k n) (K : Pic P Z ρ n0 T.heap H) (N : Fr n0 locs) {i : Instr} {j' : Nat} {S as rr : List Value} (hc : calI P j i S H = some (j', as, rr)) (hrm : rmOk P j j' L rr k n = true) (hd : decode c.code pc = .ok (i, ilen i))
    {r : MRes} (hS : Snd P l Z ρ n0 j' (0, entL as (P.mt j').mx, [], H, 0, 0) r) :
    Leaves P l Z ρ n0 j p e s m args below meth c T pc (pc + 3) L L S (r.1.toList ++ rr) r.2 (k + (P.mt j').rm.cells) (n + (P.mt j').rm.slots) := by
  cases i
  case invokestatic idx =>
    simp only [calI] at hc
    split at hc
    · rename_i np j'' hq
      split at hc
      · rename_i hnp
        cases hc
        exact callS_ok PO C X K N hq hnp hrm hd hS
      · cases hc
    · cases hc
  case invokespecial idx =>
    simp only [calI] at hc
    split at hc
    · rename_i np j'' hq
      split at hc
      · rename_i a r0 hdr
        cases hc
        exact callI_ok PO C X K N hq hdr hrm hd hS
      · cases hc
    · cases hc
  case invokevirtual idx =>
    simp only [calI] at hc
    split at hc
    · rename_i np j'' hq
      split at hc
      · rename_i a r0 hdr
        split at hc
        · rename_i cid vs ho
          split at hc
          · rename_i np' j3 hq3
            split at hc
            · rename_i en
              subst en
              cases hc
              exact callV_ok PO C X K N hq3 hdr ho hrm hd hS
            · cases hc
          · cases hc
        · cases hc
      · cases hc
    · cases hc
  all_goals (exact absurd hc (fun q => by cases q))
theorem hLdc_ok (PO : PrgOk P Z a0 ρ) (RO : RhoOk P ρ n0) (C : Ctx P Z j p s m meth c) (X : Stand p l e (P.mt j).rm s m args below meth c T locs k n) (K : Pic P Z ρ n0 T.heap H) (N : Fr n0 locs) {idx : Nat} {S : List Value} {x : HR} (h : hLdc P j idx S H k n = some x) (hd : decode c.code pc = .ok (.ldc idx, 2)) :
    Leaves P l Z ρ n0 j p e s m args below meth c T pc (pc + 2) L L S x.1 x.2.1 x.2.2.1 x.2.2.2 := by
  obtain ⟨hx, hZ, hown, -⟩ := C
  unfold hLdc at h
  split at h
  · rename_i v hq
    cases h
    have w0 := PO.2.2.2.2.2.2.2.1 (j, idx, v) (lk2_mem hq)
    have w : (Jvm.Cond.constant (P.mt j).y.cls idx v).before a0 Z = true := w0
    exact ⟨T, locs, X, K, N, X.ldcInt hx hown (mvT hZ w) (g := mkF m pc (tL ρ L) (tS ρ S)) rfl hd⟩
  · cases h
theorem hLdc2_ok (PO : PrgOk P Z a0 ρ) (RO : RhoOk P ρ n0) (C : Ctx P Z j p s m meth c) (X : Stand p l e (P.mt j).rm s m args below meth c T locs k n) (K : Pic P Z ρ n0 T.heap H) (N : Fr n0 locs) {idx : Nat} {S : List Value} {x : HR} (h : hLdc2 P j idx S H k n = some x) (hd : decode c.code pc = .ok (.ldc2_w idx, 3)) :
    Leaves P l Z ρ n0 j p e s m args below meth c T pc (pc + 3) L L S x.1 x.2.1 x.2.2.1 x.2.2.2 := by
  obtain ⟨hx, hZ, hown, -⟩ := C
  unfold hLdc2 at h
  split at h
  · rename_i v hq
    cases h
    have w0 := PO.2.2.2.2.2.2.2.2.1 (j, idx, v) (lk2_mem hq)
    have w : (Jvm.Cond.constantLong (P.mt j).y.cls idx v).before a0 Z = true := w0
    exact ⟨T, locs, X, K, N, X.ldc2Long hx hown (mvT hZ w) (g := mkF m pc (tL ρ L) (tS ρ S)) rfl hd⟩
  · cases h
theorem hGs_ok (PO : PrgOk P Z a0 ρ) (RO : RhoOk P ρ n0) (C : Ctx P Z j p s m meth c) (X : Stand p l e (P.mt j).rm s m args below meth c T locs k n) (K : Pic P Z ρ n0 T.heap H) (N : Fr n0 locs) {idx : Nat} {S : List Value} {x : HR} (h : hGs P j idx S H k n = some x) (hd : decode c.code pc = .ok (.getstatic idx, 3)) :
    Leaves P l Z ρ n0 j p e s m args below meth c T pc (pc + 3) L L S x.1 x.2.1 x.2.2.1 x.2.2.2 := by
  obtain ⟨hx, hZ, hown, -⟩ := C
  unfold hGs at h
  split at h
  · rename_i q hq
    split at h
    · rename_i d hdq
      cases h
      obtain ⟨d', d1, R0, w, via⟩ := PO.2.2.1 _ (lk2_mem hq)
      dsimp only at d1 w via
      cases d1.symm.trans hdq
      obtain ⟨T', X', e', st⟩ := getS (host := "") X hx hZ hown w via rfl (K.2.2.2 d (List.mem_of_getElem? hdq)) (g := mkF m pc (tL ρ L) (tS ρ S)) rfl hd
      exact ⟨T', locs, X', by rw [e']; exact K, N, st⟩
    · cases h
  · cases h
theorem hGet_ok (PO : PrgOk P Z a0 ρ) (RO : RhoOk P ρ n0) (C : Ctx P Z j p s m meth c) (X : Stand p l e (P.mt j).rm s m args below meth c T locs k n) (K : Pic P Z ρ n0 T.heap H) (N : Fr n0 locs) {idx : Nat} {S : List Value} {x : HR} (h : hGet P j idx S H k n = some x) (hd : decode c.code pc = .ok (.getfield idx, 3)) :
    Leaves P l Z ρ n0 j p e s m args below meth c T pc (pc + 3) L L S x.1 x.2.1 x.2.2.1 x.2.2.2 := by
  unfold hGet at h
  split at h
  · split at h
    · rename_i v hv
      cases h
      exact get_ok PO C X K N hv hd
    · cases h
  · cases h
theorem hPut_ok (PO : PrgOk P Z a0 ρ) (RO : RhoOk P ρ n0) (C : Ctx P Z j p s m meth c) (X : Stand p l e (P.mt j).rm s m args below meth c T locs k n) (K : Pic P Z ρ n0 T.heap H) (N : Fr n0 locs) {idx : Nat} {S : List Value} {x : HR} (h : hPut P j idx S H k n = some x) (hd : decode c.code pc = .ok (.putfield idx, 3)) :
    Leaves P l Z ρ n0 j p e s m args below meth c T pc (pc + 3) L L S x.1 x.2.1 x.2.2.1 x.2.2.2 := by
  unfold hPut at h
  split at h
  · split at h
    · rename_i v hv
      cases h
      exact put_ok PO RO C X K N hv hd
    · cases h
  · cases h
theorem hNew_ok (PO : PrgOk P Z a0 ρ) (RO : RhoOk P ρ n0) (C : Ctx P Z j p s m meth c) (X : Stand p l e (P.mt j).rm s m args below meth c T locs k n) (K : Pic P Z ρ n0 T.heap H) (N : Fr n0 locs) {idx : Nat} {S : List Value} {x : HR} (h : hNew P j idx S H k n = some x) (hd : decode c.code pc = .ok (.new idx, 3)) :
    Leaves P l Z ρ n0 j p e s m args below meth c T pc (pc + 3) L L S x.1 x.2.1 x.2.2.1 x.2.2.2 := by
  unfold hNew at h
  split at h
  · rename_i y hy
    cases h
    exact new_ok PO RO C X K N hy hd
  · cases h
theorem hNewA_ok (PO : PrgOk P Z a0 ρ) (RO : RhoOk P ρ n0) (C : Ctx P Z j p s m meth c) (X : Stand p l e (P.mt j).rm s m args below meth c T locs k n) (K : Pic P Z ρ n0 T.heap H) (N : Fr n0 locs) {t : ArrayType} {S : List Value} {x : HR} (h : hNewA P j pc t S H k n = some x) (hd : decode c.code pc = .ok (.newarray t, 2)) :
    Leaves P l Z ρ n0 j p e s m args below meth c T pc (pc + 2) L L S x.1 x.2.1 x.2.2.1 x.2.2.2 := by
  unfold hNewA at h
  split at h
  · split at h
    · rename_i ht
      split at h
      · rename_i y hy
        cases h
        exact newP_ok PO RO C X K N ht hy hd
      · cases h
    · cases h
  · cases h
theorem hNewR_ok (PO : PrgOk P Z a0 ρ) (RO : RhoOk P ρ n0) (C : Ctx P Z j p s m meth c) (X : Stand p l e (P.mt j).rm s m args below meth c T locs k n) (K : Pic P Z ρ n0 T.heap H) (N : Fr n0 locs) {idx : Nat} {S : List Value} {x : HR} (h : hNewR P j pc idx S H k n = some x) (hd : decode c.code pc = .ok (.anewarray idx, 3)) :
    Leaves P l Z ρ n0 j p e s m args below meth c T pc (pc + 3) L L S x.1 x.2.1 x.2.2.1 x.2.2.2 := by
  unfold hNewR at h
  split at h
  · split at h
    · rename_i cid hq
      split at h
      · rename_i y hy
        cases h
        exact newR_ok PO RO C X K N hq hy hd
      · cases h
    · cases h
  · cases h
theorem hLen_ok (PO : PrgOk P Z a0 ρ) (RO : RhoOk P ρ n0) (C : Ctx P Z j p s m meth c) (X : Stand p l e (P.mt j).rm s m args below meth c T locs k n) (K : Pic P Z ρ n0 T.heap H) (N : Fr n0 locs)  {S : List Value} {x : HR} (h : hLen S H k n = some x) (hd : decode c.code pc = .ok (.arraylength, 1)) :
    Leaves P l Z ρ n0 j p e s m args below meth c T pc (pc + 1) L L S x.1 x.2.1 x.2.2.1 x.2.2.2 := by
  unfold hLen at h
  split at h
  · split at h
    · rename_i v hv
      cases h
      exact len_ok C X K N hv hd
    · cases h
  · cases h
theorem hLda_ok (PO : PrgOk P Z a0 ρ) (RO : RhoOk P ρ n0) (C : Ctx P Z j p s m meth c) (X : Stand p l e (P.mt j).rm s m args below meth c T locs k n) (K : Pic P Z ρ n0 T.heap H) (N : Fr n0 locs) {i : Instr} (hi : i = .iaload ∨ i = .baload ∨ i = .caload ∨ i = .saload ∨ i = .laload ∨ i = .aaload ∨ i = .daload) {S : List Value} {x : HR} (h : hLda i S H k n = some x) (hd : decode c.code pc = .ok (i, 1)) :
    Leaves P l Z ρ n0 j p e s m args below meth c T pc (pc + 1) L L S x.1 x.2.1 x.2.2.1 x.2.2.2 := by
  unfold hLda at h
  split at h
  · split at h
    · rename_i v hv
      cases h
      exact lda_ok C X K N hi hv hd
    · cases h
  · cases h
theorem hSta_ok (PO : PrgOk P Z a0 ρ) (RO : RhoOk P ρ n0) (C : Ctx P Z j p s m meth c) (X : Stand p l e (P.mt j).rm s m args below meth c T locs k n) (K : Pic P Z ρ n0 T.heap H) (N : Fr n0 locs) {i : Instr} (hi : i = .iastore ∨ i = .bastore ∨ i = .castore ∨ i = .lastore ∨ i = .aastore ∨ i = .dastore) {S : List Value} {x : HR} (h : hSta P i S H k n = some x) (hd : decode c.code pc = .ok (i, 1)) :
    Leaves P l Z ρ n0 j p e s m args below meth c T pc (pc + 1) L L S x.1 x.2.1 x.2.2.1 x.2.2.2 := by
  unfold hSta at h
  split at h
  · split at h
    · rename_i v hv
      cases h
      exact sta_ok RO C X K N hi hv hd
    · cases h
  · cases h
theorem hCast_ok (PO : PrgOk P Z a0 ρ) (RO : RhoOk P ρ n0) (C : Ctx P Z j p s m meth c) (X : Stand p l e (P.mt j).rm s m args below meth c T locs k n) (K : Pic P Z ρ n0 T.heap H) (N : Fr n0 locs) {idx : Nat} {S : List Value} {x : HR} (h : hCast P j idx S H k n = some x) (hd : decode c.code pc = .ok (.checkcast idx, 3)) :
    Leaves P l Z ρ n0 j p e s m args below meth c T pc (pc + 3) L L S x.1 x.2.1 x.2.2.1 x.2.2.2 := by
  have hx := C.1
  unfold hCast at h
  split at h
  · cases h
    exact ⟨T, locs, X, K, N, X.checkcastNull hx (g := mkF m pc (tL ρ L) (tS ρ (.null :: _))) rfl rfl hd⟩
  · split at h
    · rename_i hv
      cases h
      exact cast_ok PO C X K N hv hd
    · cases h
  · cases h
theorem hInst_ok (PO : PrgOk P Z a0 ρ) (RO : RhoOk P ρ n0) (C : Ctx P Z j p s m meth c) (X : Stand p l e (P.mt j).rm s m args below meth c T locs k n) (K : Pic P Z ρ n0 T.heap H) (N : Fr n0 locs) {idx : Nat} {S : List Value} {x : HR} (h : hInst P j idx S H k n = some x) (hd : decode c.code pc = .ok (.instanceof idx, 3)) :
    Leaves P l Z ρ n0 j p e s m args below meth c T pc (pc + 3) L L S x.1 x.2.1 x.2.2.1 x.2.2.2 := by
  have hx := C.1
  unfold hInst at h
  split at h
  · cases h
    exact ⟨T, locs, X, K, N, X.instanceofNull hx (g := mkF m pc (tL ρ L) (tS ρ (.null :: _))) rfl rfl hd⟩
  · split at h
    · rename_i hv
      cases h
      exact inst_ok PO C X K N hv hd
    · rename_i hv
      cases h
      exact inst_ok PO C X K N hv hd
    · cases h
  · cases h
theorem heap_ok (PO : PrgOk P Z a0 ρ) (RO : RhoOk P ρ n0) (C : Ctx P Z j p s m meth c) (X : Stand p l e (P.mt j).rm s m args below meth c T locs k n) (K : Pic P Z ρ n0 T.heap H) (N : Fr n0 locs) {i : Instr} {S : List Value} {x : HR} (h : heapI P j pc i S H k n = some x) (hd : decode c.code pc = .ok (i, ilen i)) :
    Leaves P l Z ρ n0 j p e s m args below meth c T pc (pc + ilen i) L L S x.1 x.2.1 x.2.2.1 x.2.2.2 := by
  cases i
  case ldc _ => exact hLdc_ok PO RO C X K N h hd
  case ldc2_w _ => exact hLdc2_ok PO RO C X K N h hd
  case getstatic _ => exact hGs_ok PO RO C X K N h hd
  case getfield _ => exact hGet_ok PO RO C X K N h hd
  case putfield _ => exact hPut_ok PO RO C X K N h hd
  case new _ => exact hNew_ok PO RO C X K N h hd
  case newarray _ => exact hNewA_ok PO RO C X K N h hd
  case anewarray _ => exact hNewR_ok PO RO C X K N h hd
  case arraylength => exact hLen_ok PO RO C X K N h hd
  case checkcast _ => exact hCast_ok PO RO C X K N h hd
  case instanceof _ => exact hInst_ok PO RO C X K N h hd
  case iaload => exact hLda_ok PO RO C X K N (i := .iaload) (by simp) h hd
  case baload => exact hLda_ok PO RO C X K N (i := .baload) (by simp) h hd
  case caload => exact hLda_ok PO RO C X K N (i := .caload) (by simp) h hd
  case saload => exact hLda_ok PO RO C X K N (i := .saload) (by simp) h hd
  case laload => exact hLda_ok PO RO C X K N (i := .laload) (by simp) h hd
  case aaload => exact hLda_ok PO RO C X K N (i := .aaload) (by simp) h hd
  case daload => exact hLda_ok PO RO C X K N (i := .daload) (by simp) h hd
  case iastore => exact hSta_ok PO RO C X K N (i := .iastore) (by simp) h hd
  case bastore => exact hSta_ok PO RO C X K N (i := .bastore) (by simp) h hd
  case castore => exact hSta_ok PO RO C X K N (i := .castore) (by simp) h hd
  case lastore => exact hSta_ok PO RO C X K N (i := .lastore) (by simp) h hd
  case aastore => exact hSta_ok PO RO C X K N (i := .aastore) (by simp) h hd
  case dastore => exact hSta_ok PO RO C X K N (i := .dastore) (by simp) h hd
  all_goals cases h
set_option maxHeartbeats 8000000 in
theorem step_ok (PO : PrgOk P Z a0 ρ) (RO : RhoOk P ρ n0) (C : Ctx P Z j p s m meth c) (X : Stand p l e (P.mt j).rm s m args below meth c T locs k n) (K : Pic P Z ρ n0 T.heap H) (N : Fr n0 locs) {i : Instr} {S S' : List Value} {pc' k' n' : Nat} {L' : List Slot} {H' : Hp} (h : stepI P j i (pc, L, S, H, k, n) = some (pc', L', S', H', k', n')) (hd : decode c.code pc = .ok (i, ilen i)) :
    Leaves P l Z ρ n0 j p e s m args below meth c T pc pc' L L' S S' H' k' n' := by
  have C0 := C
  obtain ⟨hx, hZ, hown, -, hml, -⟩ := C
  simp only [stepI] at h
  split at h
  · split at h
    · rename_i x hx0
      cases h
      exact ⟨T, locs, X, K, N, fun target hr => plain_ok X hx hx0 hd hr⟩
    · cases h
  · split at h
    · rename_i r hr0
      cases h
      cases i
      case invokespecial idx =>
        simp only [objI] at hr0
        split at hr0
        · rename_i hq
          split at hr0
          · rename_i a r'
            split at hr0
            · rename_i hc
              cases hr0
              obtain ⟨w1, w2, w3⟩ := PO.2.2.2.2.2.2.2.2.2.1 _ (lk2_mem hq)
              obtain ⟨T', X', e', st⟩ := initO X hx hZ hown w1 w2 w3 rfl (g := mkF m pc (tL ρ L) (tS ρ (.ref a :: S'))) rfl (by rw [hml, ← hc.1]; simp) rfl hd hc.2.1 (W := wt S') (by show 2 * 0 + _ ≤ _; rw [wt_eq]; omega) hc.2.2
              exact ⟨T', locs, X', by rw [e']; exact K, N, st⟩
            · cases hr0
          · cases hr0
        · cases hr0
      all_goals (exact absurd hr0 (fun q => by cases q))
    · cases h
  · split at h
    · rename_i o r hb
      split at h
      · rename_i ho
        cases h
        exact ⟨T, locs, X, K, N, fun target hr => br_ok RO.2 X hx hb hd (Or.inl ⟨rfl, ho, rfl⟩) hr⟩
      · cases h
    · rename_i o r hb
      cases h
      exact ⟨T, locs, X, K, N, fun target hr => br_ok RO.2 X hx hb hd (Or.inr ⟨rfl, rfl⟩) hr⟩
    · cases h
  · split at h
    · rename_i x hx0
      cases h
      exact heap_ok PO RO C0 X K N hx0 hd
    · cases h
  · split at h
    · rename_i x hx0
      cases h
      cases i
      case invokevirtual idx =>
        simp only [clnI] at hx0
        split at hx0
        · rename_i hq
          split at hx0
          · exact cln_ok PO RO C0 X K N hq hx0 hd
          · cases hx0
        · cases hx0
      all_goals (exact absurd hx0 (fun q => by cases q))
    · cases h
  · cases h
set_option maxHeartbeats 8000000 in
theorem ret_ok (C : Ctx P Z j p s m meth c) (X : Stand p l e (P.mt j).rm s m args below meth c T locs k n) (K : Pic P Z ρ n0 T.heap H) (N : Fr n0 locs) {i : Instr} {S : List Value} {v : Option Value} (h : retI (P.mt j).ret i S = some v) (hk : k ≤ (P.mt j).rm.cells) (hn : n ≤ (P.mt j).rm.slots) (hd : decode c.code pc = .ok (i, ilen i)) :
    ∃ s₂ L', Steps p.tables e below (T.setTop (mkF m pc (tL ρ L) (tS ρ S))) s₂ ∧ s₂.status = .running ∧ Ended s₂ below (.returned (v.map (tv ρ))) ∧ Pic P Z ρ n0 s₂.heap H ∧ Fr n0 L' ∧ FrameEnd s (.returned (v.map (tv ρ))) s₂ L' (P.mt j).rm.cells (P.mt j).rm.slots := by
  obtain ⟨hx, hZ, hown, -, hml, hret, -, hlk⟩ := C
  have hv : meth.sig.returnType = none → v.map (tv ρ) = none := fun q => by
    rw [hret] at q
    rw [q] at h
    cases i <;> simp only [retI] at h <;> first
      | (split at h <;> cases h <;> rfl)
      | cases h
  obtain ⟨fs, hr, hrun, hended, hW, hsame⟩ := X.leave (v := v.map (tv ρ)) hv hlk
  refine ⟨T.setFrames fs, locs, ?_, hrun, hended, K, N, ⟨_, rfl⟩, hW, hsame.mono hk hn⟩
  cases i
  case return_ =>
    simp only [retI] at h
    split at h
    · rename_i q
      cases h
      exact X.returnOut hx (hret.trans q) hd hr
    · cases h
  case ireturn =>
    simp only [retI] at h
    split at h
    · rename_i q
      cases h
      exact retOut X hx (hret.trans q) rfl (Or.inl ⟨rfl, Or.inl rfl, _, rfl⟩) hd hr
    · rename_i q
      cases h
      exact retN X hx (t := .boolean) (hret.trans q) (by simp) hd hr
    · rename_i q
      cases h
      exact retN X hx (t := .byte) (hret.trans q) (by simp) hd hr
    · rename_i q
      cases h
      exact retN X hx (t := .char) (hret.trans q) (by simp) hd hr
    · rename_i q
      cases h
      exact retN X hx (t := .short) (hret.trans q) (by simp) hd hr
    · cases h
  case lreturn =>
    simp only [retI] at h
    split at h
    · rename_i q
      cases h
      exact retOut X hx (hret.trans q) rfl (Or.inr (Or.inl ⟨rfl, rfl, _, rfl⟩)) hd hr
    · cases h
  case dreturn =>
    simp only [retI] at h
    split at h
    · rename_i q
      cases h
      exact retOut X hx (hret.trans q) rfl (Or.inr (Or.inr (Or.inl ⟨rfl, rfl, _, rfl⟩))) hd hr
    · cases h
  case areturn =>
    simp only [retI] at h
    split at h
    · rename_i q
      cases h
      exact retOut X hx (hret.trans q) rfl (Or.inr (Or.inr (Or.inr (Or.inr ⟨rfl, rfl, rfl⟩)))) hd hr
    · rename_i q
      cases h
      exact retOut X hx (hret.trans q) rfl (Or.inr (Or.inr (Or.inr (Or.inr ⟨rfl, rfl, rfl⟩)))) hd hr
    · rename_i q
      cases h
      exact retOut X hx (hret.trans q) rfl (Or.inr (Or.inr (Or.inr (Or.inr ⟨rfl, rfl, rfl⟩)))) hd hr
    · rename_i q
      cases h
      exact retOut X hx (hret.trans q) rfl (Or.inr (Or.inr (Or.inr (Or.inr ⟨rfl, rfl, rfl⟩)))) hd hr
    · cases h
  all_goals (exact absurd h (fun q => by cases q))
end At
/-- one turn of the machine, opened -/
theorem run_inv {f j pc : Nat} {L : List Slot} {S : List Value} {H : Hp} {k n : Nat} {r : MRes} (h : run P (f + 1) j (pc, L, S, H, k, n) = some r) : ∃ i, decode (P.mt j).code pc = .ok (i, ilen i) ∧
    ((isCall P j i = 3 ∧ ∃ v, retI (P.mt j).ret i S = some v ∧ (k ≤ (P.mt j).rm.cells ∧ n ≤ (P.mt j).rm.slots) ∧ r = (v, H)) ∨
     (isCall P j i = 1 ∧ ∃ j' as rr r', calI P j i S H = some (j', as, rr) ∧ rmOk P j j' L rr k n = true ∧ run P f j' (0, entL as (P.mt j').mx, [], H, 0, 0) = some r' ∧ run P f j (pc + 3, L, r'.1.toList ++ rr, r'.2, k + (P.mt j').rm.cells, n + (P.mt j').rm.slots) = some r) ∨
     (isCall P j i ≠ 3 ∧ isCall P j i ≠ 1 ∧ ∃ st', stepI P j i (pc, L, S, H, k, n) = some st' ∧ run P f j st' = some r)) := by
  simp only [run] at h
  split at h
  · cases h
  · rename_i i len hd
    split at h
    · rename_i hl
      subst hl
      refine ⟨i, hd, ?_⟩
      split at h
      · rename_i hi
        split at h
        · rename_i v hv
          split at h
          · rename_i hk
            cases h
            exact Or.inl ⟨hi, v, hv, hk, rfl⟩
          · cases h
        · cases h
      · rename_i hi
        split at h
        · rename_i j' as rr hc
          split at h
          · rename_i hrm
            split at h
            · rename_i v H' hr
              exact Or.inr (Or.inl ⟨hi, j', as, rr, (v, H'), hc, hrm, hr, h⟩)
            · cases h
          · cases h
        · cases h
      · rename_i h3 h1
        split at h
        · rename_i st' hst
          exact Or.inr (Or.inr ⟨h3, h1, st', hst, h⟩)
        · cases h
    · cases h
theorem run_sound (PO : PrgOk P Z a0 ρ) (RO : RhoOk P ρ n0) : ∀ (f j : Nat) (st : St) (r : MRes), run P f j st = some r → Snd P l Z ρ n0 j st r
  | 0, j, (pc, L, S, H, k, n), r, h => by simp only [run] at h; cases h
  | f + 1, j, (pc, L, S, H, k, n), r, h => by
    intro p e s m args below meth c T locs C X K N
    obtain ⟨i, hd, hcase⟩ := run_inv h
    have hd' : decode c.code pc = .ok (i, ilen i) := by rw [C.2.2.2.1]; exact hd
    rcases hcase with ⟨-, v, hv, hk, rfl⟩ | ⟨-, j', as, rr, r', hcal, hrm, h1, h2⟩ | ⟨-, -, ⟨pc', L', S', H', k', n'⟩, hst, h1⟩
    · exact ret_ok C X K N hv hk.1 hk.2 hd'
    · obtain ⟨T', locs', X', K', N', st⟩ := call_ok PO C X K N hcal hrm hd' (run_sound PO RO f j' _ r' h1)
      obtain ⟨s₂, L', g1, g2⟩ := run_sound PO RO f j _ r h2 p e s m args below meth c T' locs' C X' K' N'
      exact ⟨s₂, L', st _ g1, g2⟩
    · obtain ⟨T', locs', X', K', N', st⟩ := step_ok PO RO C X K N hst hd'
      obtain ⟨s₂, L2, g1, g2⟩ := run_sound PO RO f j _ r h1 p e s m args below meth c T' locs' C X' K' N'
      exact ⟨s₂, L2, st _ g1, g2⟩
end Sound
/-! ### the machine's own logic -/
section Logic
variable {P : Prg} {j pc : Nat} {L : List Slot} {S : List Value} {H : Hp} {k n : Nat} {i : Instr} {Q : MRes → Prop}
def Wp (P : Prg) (j : Nat) (st : St) (Q : MRes → Prop) : Prop := ∃ f r, run P f j st = some r ∧ Q r
theorem run_ret {f : Nat} {v : Option Value} (hd : decode (P.mt j).code pc = .ok (i, ilen i)) (hi : isCall P j i = 3) (hv : retI (P.mt j).ret i S = some v) (hk : k ≤ (P.mt j).rm.cells ∧ n ≤ (P.mt j).rm.slots) : run P (f + 1) j (pc, L, S, H, k, n) = some (v, H) := by
  simp only [run, hd, hi, hv, if_pos hk, if_true]
theorem run_call {f j' : Nat} {as rr : List Value} {r' : MRes} (hd : decode (P.mt j).code pc = .ok (i, ilen i)) (hi : isCall P j i = 1) (hc : calI P j i S H = some (j', as, rr)) (hrm : rmOk P j j' L rr k n = true) (h1 : run P f j' (0, entL as (P.mt j').mx, [], H, 0, 0) = some r') :
    run P (f + 1) j (pc, L, S, H, k, n) = run P f j (pc + 3, L, r'.1.toList ++ rr, r'.2, k + (P.mt j').rm.cells, n + (P.mt j').rm.slots) := by
  simp only [run, hd, hi, hc, hrm, h1, if_true]
theorem run_step {f : Nat} {st' : St} (hd : decode (P.mt j).code pc = .ok (i, ilen i)) (h3 : isCall P j i ≠ 3) (h1 : isCall P j i ≠ 1) (h : stepI P j i (pc, L, S, H, k, n) = some st') : run P (f + 1) j (pc, L, S, H, k, n) = run P f j st' := by
  simp only [run, hd, if_true, h]
theorem run_mono1 : ∀ {f j : Nat} {st : St} {r : MRes}, run P f j st = some r → run P (f + 1) j st = some r
  | 0, j, (pc, L, S, H, k, n), r, h => by simp only [run] at h; cases h
  | f + 1, j, (pc, L, S, H, k, n), r, h => by
    obtain ⟨i, hd, hcase⟩ := run_inv h
    rcases hcase with ⟨hi, v, hv, hk, rfl⟩ | ⟨hi, j', as, rr, r', hcal, hrm, h1, h2⟩ | ⟨h3, h1', st', hst, h1⟩
    · exact run_ret hd hi hv hk
    · rw [run_call hd hi hcal hrm (run_mono1 h1)]; exact run_mono1 h2
    · rw [run_step hd h3 h1' hst]; exact run_mono1 h1
theorem run_mono {f g j : Nat} {st : St} {r : MRes} (hfg : f ≤ g) (h : run P f j st = some r) : run P g j st = some r := by
  obtain ⟨d, rfl⟩ := Nat.exists_eq_add_of_le hfg
  induction d with
  | zero => exact h
  | succ d ih => exact run_mono1 (ih (Nat.le_add_right _ _))
theorem wpO (hd : decode (P.mt j).code pc = .ok (i, ilen i)) (h3 : isCall P j i ≠ 3) (h1 : isCall P j i ≠ 1) : Wp P j (pc, L, S, H, k, n) Q ↔ ∃ st', stepI P j i (pc, L, S, H, k, n) = some st' ∧ Wp P j st' Q := by
  constructor
  · rintro ⟨f, r, h, hq⟩
    cases f with
    | zero => simp only [run] at h; cases h
    | succ f =>
      obtain ⟨i', hd', hcase⟩ := run_inv h
      cases hd.symm.trans hd'
      rcases hcase with ⟨hi, -⟩ | ⟨hi, -⟩ | ⟨-, -, st', hst, h1⟩
      · exact absurd hi h3
      · exact absurd hi h1
      · exact ⟨st', hst, f, r, h1, hq⟩
  · rintro ⟨st', hst, f, r, h, hq⟩
    exact ⟨f + 1, r, by rw [run_step hd h3 h1 hst]; exact h, hq⟩
theorem wpS {st' : St} (hd : decode (P.mt j).code pc = .ok (i, ilen i)) (h3 : isCall P j i ≠ 3) (h1 : isCall P j i ≠ 1) (h : stepI P j i (pc, L, S, H, k, n) = some st') : Wp P j (pc, L, S, H, k, n) Q ↔ Wp P j st' Q := by
  rw [wpO hd h3 h1]
  exact ⟨fun ⟨st, e, w⟩ => by cases h.symm.trans e; exact w, fun w => ⟨st', h, w⟩⟩
theorem wpR {v : Option Value} (hd : decode (P.mt j).code pc = .ok (i, ilen i)) (hi : isCall P j i = 3) (hv : retI (P.mt j).ret i S = some v) (hk : k ≤ (P.mt j).rm.cells ∧ n ≤ (P.mt j).rm.slots) : Wp P j (pc, L, S, H, k, n) Q ↔ Q (v, H) := by
  constructor
  · rintro ⟨f, r, h, hq⟩
    cases f with
    | zero => simp only [run] at h; cases h
    | succ f => rw [run_ret hd hi hv hk] at h; cases h; exact hq
  · exact fun hq => ⟨1, _, run_ret hd hi hv hk, hq⟩
theorem wpC {j' : Nat} {as rr : List Value} (hd : decode (P.mt j).code pc = .ok (i, ilen i)) (hi : isCall P j i = 1) (hc : calI P j i S H = some (j', as, rr)) (hrm : rmOk P j j' L rr k n = true) :
    Wp P j (pc, L, S, H, k, n) Q ↔ Wp P j' (0, entL as (P.mt j').mx, [], H, 0, 0) fun r => Wp P j (pc + 3, L, r.1.toList ++ rr, r.2, k + (P.mt j').rm.cells, n + (P.mt j').rm.slots) Q := by
  constructor
  · rintro ⟨f, r, h, hq⟩
    cases f with
    | zero => simp only [run] at h; cases h
    | succ f =>
      obtain ⟨i', hd', hcase⟩ := run_inv h
      cases hd.symm.trans hd'
      rcases hcase with ⟨h3, -⟩ | ⟨-, j1, as1, rr1, r', hc', -, h1, h2⟩ | ⟨-, h1, -⟩
      · rw [hi] at h3; cases h3
      · cases hc.symm.trans hc'
        exact ⟨f, r', h1, f, r, h2, hq⟩
      · exact absurd hi h1
  · rintro ⟨f, r', h1, g, r, h2, hq⟩
    exact ⟨(f + g) + 1, r, by rw [run_call hd hi hc hrm (run_mono (Nat.le_add_right f g) h1)]; exact run_mono (Nat.le_add_left g f) h2, hq⟩
theorem Wp.mono {j : Nat} {st : St} {Q Q' : MRes → Prop} (h : Wp P j st Q) (hq : ∀ r, Q r → Q' r) : Wp P j st Q' := by
  obtain ⟨f, r, h1, h2⟩ := h
  exact ⟨f, r, h1, hq r h2⟩
end Logic
end Jvm.MM
namespace Jvm.MM
open Jvm Jvm.ClassFile Sem Op Lib Jvm.Free Jvm.Stand Jvm.LawKit Jvm.RoadKit
/-! ### the logic's rows, an instruction each -/
section Rows
variable {P : Prg} {j pc : Nat} {L : List Slot} {S : List Value} {H : Hp} {k n : Nat} {i : Instr} {Q : MRes → Prop}
theorem gP {L' : List Slot} {S' : List Value} (hd : decode (P.mt j).code pc = .ok (i, ilen i)) (hk : isCall P j i = 0) (h : plainI i L S = some (L', S')) : Wp P j (pc, L, S, H, k, n) Q ↔ Wp P j (pc + ilen i, L', S', H, k, n) Q :=
  wpS hd (by rw [hk]; decide) (by rw [hk]; decide) (by simp only [stepI, hk, h])
theorem gH {x : List Value × Hp × Nat × Nat} (hd : decode (P.mt j).code pc = .ok (i, ilen i)) (hk : isCall P j i = 5) (h : heapI P j pc i S H k n = some x) : Wp P j (pc, L, S, H, k, n) Q ↔ Wp P j (pc + ilen i, L, x.1, x.2.1, x.2.2.1, x.2.2.2) Q :=
  wpS hd (by rw [hk]; decide) (by rw [hk]; decide) (by simp only [stepI, hk, h])
theorem gHO (hd : decode (P.mt j).code pc = .ok (i, ilen i)) (hk : isCall P j i = 5) : Wp P j (pc, L, S, H, k, n) Q ↔ ∃ x, heapI P j pc i S H k n = some x ∧ Wp P j (pc + ilen i, L, x.1, x.2.1, x.2.2.1, x.2.2.2) Q := by
  rw [wpO hd (by rw [hk]; decide) (by rw [hk]; decide)]
  constructor
  · rintro ⟨st', h, w⟩
    simp only [stepI, hk] at h
    split at h
    · rename_i x hx
      cases h
      exact ⟨x, hx, w⟩
    · cases h
  · rintro ⟨x, hx, w⟩
    exact ⟨_, by simp only [stepI, hk, hx], w⟩
theorem gB {b : Bool} {o : Int} {t : Nat} {r : List Value} (hd : decode (P.mt j).code pc = .ok (i, ilen i)) (hk : isCall P j i = 4) (h : brI i S = some (b, o, r)) (ho : 0 ≤ (pc : Int) + o) (ht : ((pc : Int) + o).toNat = t) : Wp P j (pc, L, S, H, k, n) Q ↔ if b = true then Wp P j (t, L, r, H, k, n) Q else Wp P j (pc + ilen i, L, r, H, k, n) Q := by
  cases b with
  | true => rw [if_pos rfl]; exact wpS hd (by rw [hk]; decide) (by rw [hk]; decide) (by simp only [stepI, hk, h, if_pos ho, ht])
  | false => rw [if_neg (by decide)]; exact wpS hd (by rw [hk]; decide) (by rw [hk]; decide) (by simp only [stepI, hk, h])
theorem gGoto {o : Int} {t : Nat} (hd : decode (P.mt j).code pc = .ok (.goto o, 3)) (ho : 0 ≤ (pc : Int) + o) (ht : ((pc : Int) + o).toNat = t) : Wp P j (pc, L, S, H, k, n) Q ↔ Wp P j (t, L, S, H, k, n) Q := by
  rw [gB (i := .goto o) hd rfl rfl ho ht, if_pos rfl]
theorem iteC {A B : Prop} {c : Prop} [Decidable c] {b : Bool} (h : b = decide c) : (if b = true then A else B) ↔ (if c then A else B) := by
  subst h
  by_cases q : c <;> simp [q]
theorem gIf {cd : ClassFile.Cond} {o : Int} {t : Nat} {x : Int32} {c : Prop} [Decidable c] (hd : decode (P.mt j).code pc = .ok (.ifCond cd o, 3)) (ho : 0 ≤ (pc : Int) + o) (ht : ((pc : Int) + o).toNat = t) (hc : ifCond.holds cd x = decide c) : Wp P j (pc, L, .int x :: S, H, k, n) Q ↔ if c then Wp P j (t, L, S, H, k, n) Q else Wp P j (pc + 3, L, S, H, k, n) Q := by
  rw [gB (i := .ifCond cd o) hd rfl rfl ho ht]
  exact iteC hc
theorem gIcmp {cd : ClassFile.Cond} {o : Int} {t : Nat} {x y : Int32} {c : Prop} [Decidable c] (hd : decode (P.mt j).code pc = .ok (.if_icmp cd o, 3)) (ho : 0 ≤ (pc : Int) + o) (ht : ((pc : Int) + o).toNat = t) (hc : if_icmp.holds cd x y = decide c) : Wp P j (pc, L, .int y :: .int x :: S, H, k, n) Q ↔ if c then Wp P j (t, L, S, H, k, n) Q else Wp P j (pc + 3, L, S, H, k, n) Q := by
  rw [gB (i := .if_icmp cd o) hd rfl rfl ho ht]
  exact iteC hc
theorem c_eq (x : Int32) : ifCond.holds .eq x = decide (x = 0) := by by_cases h : x = 0 <;> simp [ifCond.holds, h]
theorem c_ne (x : Int32) : ifCond.holds .ne x = decide (¬ x = 0) := by by_cases h : x = 0 <;> simp [ifCond.holds, h]
theorem c_lt (x : Int32) : ifCond.holds .lt x = decide (x < 0) := by by_cases h : x < 0 <;> simp [ifCond.holds, h]
theorem c_ge (x : Int32) : ifCond.holds .ge x = decide (0 ≤ x) := by by_cases h : 0 ≤ x <;> simp [ifCond.holds, h]
theorem c_gt (x : Int32) : ifCond.holds .gt x = decide (0 < x) := by by_cases h : 0 < x <;> simp [ifCond.holds, h]
theorem c_le (x : Int32) : ifCond.holds .le x = decide (x ≤ 0) := by by_cases h : x ≤ 0 <;> simp [ifCond.holds, h]
theorem i_eq (x y : Int32) : if_icmp.holds .eq x y = decide (x = y) := by by_cases h : x = y <;> simp [if_icmp.holds, h]
theorem i_ne (x y : Int32) : if_icmp.holds .ne x y = decide (¬ x = y) := by by_cases h : x = y <;> simp [if_icmp.holds, h]
theorem i_lt (x y : Int32) : if_icmp.holds .lt x y = decide (x < y) := by by_cases h : x < y <;> simp [if_icmp.holds, h]
theorem i_ge (x y : Int32) : if_icmp.holds .ge x y = decide (y ≤ x) := by by_cases h : y ≤ x <;> simp [if_icmp.holds, h]
theorem i_gt (x y : Int32) : if_icmp.holds .gt x y = decide (y < x) := by by_cases h : y < x <;> simp [if_icmp.holds, h]
theorem i_le (x y : Int32) : if_icmp.holds .le x y = decide (x ≤ y) := by by_cases h : x ≤ y <;> simp [if_icmp.holds, h]
theorem gNullY {o : Int} {t : Nat} (hd : decode (P.mt j).code pc = .ok (.ifnull o, 3)) (ho : 0 ≤ (pc : Int) + o) (ht : ((pc : Int) + o).toNat = t) : Wp P j (pc, L, .null :: S, H, k, n) Q ↔ Wp P j (t, L, S, H, k, n) Q := by
  rw [gB (i := .ifnull o) hd rfl rfl ho ht, if_pos rfl]
theorem gNullN {o : Int} {a : Nat} (hd : decode (P.mt j).code pc = .ok (.ifnull o, 3)) : Wp P j (pc, L, .ref a :: S, H, k, n) Q ↔ Wp P j (pc + 3, L, S, H, k, n) Q :=
  wpS (i := .ifnull o) hd (show (4 : Nat) ≠ 3 by decide) (show (4 : Nat) ≠ 1 by decide) rfl
theorem gNonnullY {o : Int} {t : Nat} {a : Nat} (hd : decode (P.mt j).code pc = .ok (.ifnonnull o, 3)) (ho : 0 ≤ (pc : Int) + o) (ht : ((pc : Int) + o).toNat = t) : Wp P j (pc, L, .ref a :: S, H, k, n) Q ↔ Wp P j (t, L, S, H, k, n) Q := by
  rw [gB (i := .ifnonnull o) hd rfl rfl ho ht, if_pos rfl]
theorem gNonnullN {o : Int} (hd : decode (P.mt j).code pc = .ok (.ifnonnull o, 3)) : Wp P j (pc, L, .null :: S, H, k, n) Q ↔ Wp P j (pc + 3, L, S, H, k, n) Q :=
  wpS (i := .ifnonnull o) hd (show (4 : Nat) ≠ 3 by decide) (show (4 : Nat) ≠ 1 by decide) rfl
theorem gAcmp {cd : ACond} {o : Int} {t : Nat} {x y : Value} {c : Prop} [Decidable c] (hx : isA x = true) (hy : isA y = true) (hd : decode (P.mt j).code pc = .ok (.if_acmp cd o, 3)) (ho : 0 ≤ (pc : Int) + o) (ht : ((pc : Int) + o).toNat = t) (hc : XT.acmp cd x y = decide c) : Wp P j (pc, L, y :: x :: S, H, k, n) Q ↔ if c then Wp P j (t, L, S, H, k, n) Q else Wp P j (pc + 3, L, S, H, k, n) Q := by
  rw [gB (i := .if_acmp cd o) (b := XT.acmp cd x y) (r := S) hd rfl (by simp [brI, hx, hy]) ho ht]
  exact iteC hc
theorem gX {A : Type} (f : A → HR) (o : Option A) (hd : decode (P.mt j).code pc = .ok (i, ilen i)) (hk : isCall P j i = 5) (h : heapI P j pc i S H k n = o.map f) : Wp P j (pc, L, S, H, k, n) Q ↔ ∃ v, o = some v ∧ Wp P j (pc + ilen i, L, (f v).1, (f v).2.1, (f v).2.2.1, (f v).2.2.2) Q := by
  rw [gHO hd hk, h]
  cases o with
  | none => exact ⟨fun ⟨x, e, _⟩ => (by cases e), fun ⟨x, e, _⟩ => (by cases e)⟩
  | some v => exact ⟨fun ⟨x, e, w⟩ => ⟨v, rfl, (by cases e; exact w)⟩, fun ⟨x, e, w⟩ => ⟨f v, rfl, (by cases e; exact w)⟩⟩
theorem gGet {idx a : Nat} (hd : decode (P.mt j).code pc = .ok (.getfield idx, 3)) : Wp P j (pc, L, .ref a :: S, H, k, n) Q ↔ ∃ v, rdF P j idx H a = some v ∧ Wp P j (pc + 3, L, v :: S, H, k, n) Q :=
  gX (i := .getfield idx) (fun v => (v :: S, H, k, n)) (rdF P j idx H a) hd rfl (by show hGet P j idx (.ref a :: S) H k n = _; simp only [hGet]; cases rdF P j idx H a <;> rfl)
theorem gPut {idx a : Nat} {v : Value} (hd : decode (P.mt j).code pc = .ok (.putfield idx, 3)) : Wp P j (pc, L, v :: .ref a :: S, H, k, n) Q ↔ ∃ H', wrF P j idx H a v = some H' ∧ Wp P j (pc + 3, L, S, H', k, n) Q :=
  gX (i := .putfield idx) (fun H' => (S, H', k, n)) (wrF P j idx H a v) hd rfl (by show hPut P j idx (v :: .ref a :: S) H k n = _; simp only [hPut]; cases wrF P j idx H a v <;> rfl)
theorem gLen {a : Nat} (hd : decode (P.mt j).code pc = .ok (.arraylength, 1)) : Wp P j (pc, L, .ref a :: S, H, k, n) Q ↔ ∃ v, alen H a = some v ∧ Wp P j (pc + 1, L, .int v :: S, H, k, n) Q :=
  gX (i := .arraylength) (fun v => (.int v :: S, H, k, n)) (alen H a) hd rfl (by show hLen (.ref a :: S) H k n = _; simp only [hLen]; cases alen H a <;> rfl)
theorem gLdA {a : Nat} {x : Int32} (hi : i = .iaload ∨ i = .baload ∨ i = .caload ∨ i = .saload ∨ i = .laload ∨ i = .aaload ∨ i = .daload) (hd : decode (P.mt j).code pc = .ok (i, 1)) : Wp P j (pc, L, .int x :: .ref a :: S, H, k, n) Q ↔ ∃ v, ldA i H a x = some v ∧ Wp P j (pc + 1, L, v :: S, H, k, n) Q := by
  rcases hi with rfl | rfl | rfl | rfl | rfl | rfl | rfl
  all_goals exact gX (fun v => (v :: S, H, k, n)) (ldA _ H a x) hd rfl (by show hLda _ (.int x :: .ref a :: S) H k n = _; simp only [hLda]; cases ldA _ H a x <;> rfl)
theorem gStA {a : Nat} {x : Int32} {v : Value} (hi : i = .iastore ∨ i = .bastore ∨ i = .castore ∨ i = .lastore ∨ i = .aastore ∨ i = .dastore) (hd : decode (P.mt j).code pc = .ok (i, 1)) : Wp P j (pc, L, v :: .int x :: .ref a :: S, H, k, n) Q ↔ ∃ H', stA P i H a x v = some H' ∧ Wp P j (pc + 1, L, S, H', k, n) Q := by
  rcases hi with rfl | rfl | rfl | rfl | rfl | rfl
  all_goals exact gX (fun H' => (S, H', k, n)) (stA P _ H a x v) hd rfl (by show hSta P _ (v :: .int x :: .ref a :: S) H k n = _; simp only [hSta]; cases stA P _ H a x v <;> rfl)
theorem gNew {idx cid C Sl ns : Nat} {vs : List Value} (hd : decode (P.mt j).code pc = .ok (.new idx, 3)) (hq : lk2 P.nw j idx = some cid) (hC : (P.mt j).rm.cells = C) (hS : (P.mt j).rm.slots = Sl) (hns : P.nsl cid = ns) (hvs : ((P.flds cid).map fun fd => dft fd.2.2.2) = vs) (h1 : k + 1 ≤ C) (h2 : n + ns ≤ Sl) :
    Wp P j (pc, L, S, H, k, n) Q ↔ Wp P j (pc + 3, L, .ref H.length :: S, H ++ [(.inr cid, vs)], k + 1, n + ns) Q := by
  subst hC hS hns hvs
  have e : heapI P j pc (.new idx) S H k n = some (.ref H.length :: S, H ++ [(.inr cid, (P.flds cid).map fun fd => dft fd.2.2.2)], k + 1, n + P.nsl cid) := by
    simp only [heapI, hNew, newC, hq, if_pos (And.intro h1 h2)]
  exact gH (i := .new idx) hd rfl e
theorem gNewA {t : ArrayType} {ty : FieldType} {cap C Sl : Nat} {len : Int32} (hd : decode (P.mt j).code pc = .ok (.newarray t, 2)) (hty : newarray.typeOf t = ty) (hm : ty ∈ P.ats) (hq : lk2 P.cp j pc = some cap) (hcap : cap * 8 ≤ 536870912) (hC : (P.mt j).rm.cells = C) (hS : (P.mt j).rm.slots = Sl) (h1 : k + 1 ≤ C) (h2 : n + cap ≤ Sl) :
    Wp P j (pc, L, .int len :: S, H, k, n) Q ↔ (¬ len < 0 ∧ len.toNatClampNeg ≤ cap) ∧ Wp P j (pc + 2, L, .ref H.length :: S, H ++ [(.inl ty, List.replicate len.toNatClampNeg (dft ty))], k + 1, n + cap) Q := by
  subst hC hS hty
  rw [gHO (i := .newarray t) hd rfl]
  constructor
  · rintro ⟨x, h, w⟩
    simp only [heapI, hNewA, if_pos hm, newA, hq] at h
    split at h
    · rename_i y hy
      split at hy
      · rename_i hc
        cases hy
        cases h
        exact ⟨⟨hc.1, hc.2.1⟩, w⟩
      · cases hy
    · cases h
  · rintro ⟨hc, w⟩
    exact ⟨((.ref H.length :: S, H ++ [((.inl (newarray.typeOf t) : Kd), List.replicate len.toNatClampNeg (dft (newarray.typeOf t)))], k + 1, n + cap) : HR), by simp only [heapI, hNewA, if_pos hm, newA, hq, if_pos (show ¬ len < 0 ∧ len.toNatClampNeg ≤ cap ∧ cap * 8 ≤ 536870912 ∧ k + 1 ≤ (P.mt j).rm.cells ∧ n + cap ≤ (P.mt j).rm.slots from ⟨hc.1, hc.2, hcap, h1, h2⟩)], w⟩
theorem gNewR {idx cid cap C Sl : Nat} {nm : String} {len : Int32} (hd : decode (P.mt j).code pc = .ok (.anewarray idx, 3)) (hn : lk2 P.na j idx = some cid) (hnm : P.cname cid = nm) (hq : lk2 P.cp j pc = some cap) (hcap : cap * 8 ≤ 536870912) (hC : (P.mt j).rm.cells = C) (hS : (P.mt j).rm.slots = Sl) (h1 : k + 1 ≤ C) (h2 : n + cap ≤ Sl) :
    Wp P j (pc, L, .int len :: S, H, k, n) Q ↔ (¬ len < 0 ∧ len.toNatClampNeg ≤ cap) ∧ Wp P j (pc + 3, L, .ref H.length :: S, H ++ [(.inl (.object nm), List.replicate len.toNatClampNeg .null)], k + 1, n + cap) Q := by
  subst hC hS hnm
  rw [gHO (i := .anewarray idx) hd rfl]
  constructor
  · rintro ⟨x, h, w⟩
    simp only [heapI, hNewR, hn, newA, hq] at h
    split at h
    · rename_i y hy
      split at hy
      · rename_i hc
        cases hy
        cases h
        exact ⟨⟨hc.1, hc.2.1⟩, w⟩
      · cases hy
    · cases h
  · rintro ⟨hc, w⟩
    exact ⟨((.ref H.length :: S, H ++ [((.inl (.object (P.cname cid)) : Kd), List.replicate len.toNatClampNeg Value.null)], k + 1, n + cap) : HR), by simp only [heapI, hNewR, hn, newA, hq, if_pos (show ¬ len < 0 ∧ len.toNatClampNeg ≤ cap ∧ cap * 8 ≤ 536870912 ∧ k + 1 ≤ (P.mt j).rm.cells ∧ n + cap ≤ (P.mt j).rm.slots from ⟨hc.1, hc.2, hcap, h1, h2⟩)]; rfl, w⟩
theorem gCast {idx a : Nat} (hd : decode (P.mt j).code pc = .ok (.checkcast idx, 3)) : Wp P j (pc, L, .ref a :: S, H, k, n) Q ↔ castI P j idx H a = some true ∧ Wp P j (pc + 3, L, .ref a :: S, H, k, n) Q := by
  rw [gHO (i := .checkcast idx) hd rfl]
  constructor
  · rintro ⟨x, h, w⟩
    have h : (match castI P j idx H a with | some true => some ((.ref a :: S, H, k, n) : HR) | _ => none) = some x := h
    split at h
    · rename_i hv; cases h; exact ⟨hv, w⟩
    · cases h
  · rintro ⟨hv, w⟩
    refine ⟨(.ref a :: S, H, k, n), ?_, w⟩
    show (match castI P j idx H a with | some true => some ((.ref a :: S, H, k, n) : HR) | _ => none) = _
    rw [hv]
theorem gCast0 {idx : Nat} (hd : decode (P.mt j).code pc = .ok (.checkcast idx, 3)) : Wp P j (pc, L, .null :: S, H, k, n) Q ↔ Wp P j (pc + 3, L, .null :: S, H, k, n) Q :=
  gH (i := .checkcast idx) (x := (.null :: S, H, k, n)) hd rfl rfl
theorem gInst {idx a : Nat} (hd : decode (P.mt j).code pc = .ok (.instanceof idx, 3)) : Wp P j (pc, L, .ref a :: S, H, k, n) Q ↔ ∃ b, castI P j idx H a = some b ∧ Wp P j (pc + 3, L, .int (if b = true then 1 else 0) :: S, H, k, n) Q := by
  refine gX (i := .instanceof idx) (fun b => (.int (if b = true then 1 else 0) :: S, H, k, n)) (castI P j idx H a) hd rfl ?_
  show (match castI P j idx H a with | some true => some ((.int 1 :: S, H, k, n) : HR) | some false => some (.int 0 :: S, H, k, n) | none => none) = _
  cases castI P j idx H a with
  | none => rfl
  | some b => cases b <;> rfl
theorem gInst0 {idx : Nat} (hd : decode (P.mt j).code pc = .ok (.instanceof idx, 3)) : Wp P j (pc, L, .null :: S, H, k, n) Q ↔ Wp P j (pc + 3, L, .int 0 :: S, H, k, n) Q :=
  gH (i := .instanceof idx) (x := (.int 0 :: S, H, k, n)) hd rfl rfl
theorem gObj {idx a np j0 M F Lc : Nat} (hd : decode (P.mt j).code pc = .ok (.invokespecial idx, 3)) (hq : lk2 P.ic j idx = some (6, np, j0)) (hM : (P.mt j).mx = M) (hF : (P.mt j).rm.frames = F) (hL : (P.mt j).rm.locals = Lc) (hf : 1 ≤ F) (h1 : L.length = M) (h2 : wt S + 12 ≤ Lc) :
    Wp P j (pc, L, .ref a :: S, H, k, n) Q ↔ Wp P j (pc + 3, L, S, H, k, n) Q := by
  subst hM hF hL
  have hk : isCall P j (.invokespecial idx) = 2 := by simp only [isCall, hq]
  exact wpS (i := .invokespecial idx) hd (by rw [hk]; decide) (by rw [hk]; decide) (by simp only [stepI, hk, objI, hq, if_pos (show L.length = (P.mt j).mx ∧ 1 ≤ (P.mt j).rm.frames ∧ wt S + 12 ≤ (P.mt j).rm.locals from ⟨h1, hf, h2⟩)]; rfl)
theorem gRet {v : Option Value} {C Sl : Nat} (hd : decode (P.mt j).code pc = .ok (i, ilen i)) (hi : isCall P j i = 3) (hv : retI (P.mt j).ret i S = some v) (hC : (P.mt j).rm.cells = C) (hS : (P.mt j).rm.slots = Sl) (h1 : k ≤ C) (h2 : n ≤ Sl) : Wp P j (pc, L, S, H, k, n) Q ↔ Q (v, H) := by
  subst hC hS
  exact wpR hd hi hv ⟨h1, h2⟩
/-- the figures of a call: the caller's locals, the weight under the arguments, cells, slots -/
def Figs (P : Prg) (j j' M W C Sl c s : Nat) : Prop := (P.mt j).mx = M ∧ (P.mt j').rm.frames + 1 ≤ (P.mt j).rm.frames ∧ W + ((P.mt j').mx + 11) + (P.mt j').rm.locals ≤ (P.mt j).rm.locals ∧ (P.mt j).rm.cells = C ∧ (P.mt j).rm.slots = Sl ∧ (P.mt j').rm.cells = c ∧ (P.mt j').rm.slots = s
theorem figs_rm {j' M W C Sl c s : Nat} {r : List Value} (F : Figs P j j' M W C Sl c s) (h1 : L.length = M) (h2 : wt r ≤ W) (h3 : k + c ≤ C) (h4 : n + s ≤ Sl) : rmOk P j j' L r k n = true := by
  obtain ⟨f1, f2, f3, f4, f5, f6, f7⟩ := F
  subst f1 f4 f5 f6 f7
  simp only [rmOk, Bool.and_eq_true, decide_eq_true_eq]
  exact ⟨h1, f2, by omega, h3, h4⟩
theorem gCall {j' M W C Sl c s : Nat} {as rr : List Value} {Le : List Slot} (hd : decode (P.mt j).code pc = .ok (i, ilen i)) (hi : isCall P j i = 1) (hc : calI P j i S H = some (j', as, rr)) (F : Figs P j j' M W C Sl c s) (he : entL as (P.mt j').mx = Le) (h1 : L.length = M) (h2 : wt rr ≤ W) (h3 : k + c ≤ C) (h4 : n + s ≤ Sl) :
    Wp P j (pc, L, S, H, k, n) Q ↔ Wp P j' (0, Le, [], H, 0, 0) fun r => Wp P j (pc + 3, L, r.1.toList ++ rr, r.2, k + c, n + s) Q := by
  rw [wpC hd hi hc (figs_rm F h1 h2 h3 h4), he]
  obtain ⟨-, -, -, -, -, rfl, rfl⟩ := F
  exact Iff.rfl
def kdO : Obj → Option Nat | (.inr cid, _) => some cid | _ => none
def kdOf (H : Hp) (a : Nat) : Option Nat := match H[a]? with | some o => kdO o | none => none
theorem gVirt {idx np x0 cid j' a M W C Sl c s : Nat} {rr : List Value} {Le : List Slot} (hd : decode (P.mt j).code pc = .ok (.invokevirtual idx, 3)) (hq : lk2 P.ic j idx = some (2, np, x0)) (hv : lk3 P.vc j idx cid = some (np, j')) (hdr : S.drop np = .ref a :: rr) (F : Figs P j j' M W C Sl c s) (he : entL (.ref a :: (S.take np).reverse) (P.mt j').mx = Le) (ho : kdOf H a = some cid) (h1 : L.length = M) (h2 : wt rr ≤ W) (h3 : k + c ≤ C) (h4 : n + s ≤ Sl) :
    Wp P j (pc, L, S, H, k, n) Q ↔ Wp P j' (0, Le, [], H, 0, 0) fun r => Wp P j (pc + 3, L, r.1.toList ++ rr, r.2, k + c, n + s) Q := by
  refine gCall (i := .invokevirtual idx) hd (by simp only [isCall, hq]) ?_ F he h1 h2 h3 h4
  unfold kdOf at ho
  split at ho
  · rename_i o hH
    obtain ⟨kd, vs⟩ := o
    cases kd with
    | inl t => cases ho
    | inr cid' =>
      cases ho
      simp only [calI, hq, hdr, hH, hv, if_true]
  · cases ho
theorem gClone {idx np x0 a cap M F Lc C Sl : Nat} {rr : List Value} {vs : List Value} (hd : decode (P.mt j).code pc = .ok (.invokevirtual idx, 3)) (hq : lk2 P.ic j idx = some (7, np, x0)) (hcp : lk2 P.cp j pc = some cap) (hM : (P.mt j).mx = M) (hF : (P.mt j).rm.frames = F) (hL : (P.mt j).rm.locals = Lc) (hC : (P.mt j).rm.cells = C) (hS : (P.mt j).rm.slots = Sl) (hf : 1 ≤ F)
    (ho : H[a]? = some (.inl .int, vs)) (hj : P.j0 ≤ a) (hI : vs.all isI = true) (h1 : L.length = M) (h2 : wt rr + 14 ≤ Lc) (h3 : vs.length ≤ cap) (h4 : k + 1 ≤ C) (h5 : n + cap ≤ Sl) :
    Wp P j (pc, L, .ref a :: rr, H, k, n) Q ↔ Wp P j (pc + 3, L, .ref H.length :: rr, H ++ [(.inl .int, vs)], k + 1, n + cap) Q := by
  subst hM hF hL hC hS
  have hk : isCall P j (.invokevirtual idx) = 6 := by simp only [isCall, hq]
  have e : clnI P j pc (.invokevirtual idx) L (.ref a :: rr) H k n = some (.ref H.length :: rr, H ++ [(.inl .int, vs)], k + 1, n + cap) := by
    simp only [clnI, hq, clnA, ho, hcp]
    rw [if_pos ⟨⟨hj, hI⟩, ⟨h1, hf, h2⟩, h3, h4, h5⟩]
  exact wpS (i := .invokevirtual idx) hd (by rw [hk]; decide) (by rw [hk]; decide) (by simp only [stepI, hk, e]; rfl)
theorem wt_nil : wt [] = 0 := id rfl
theorem wt_int (x : Int32) (S : List Value) : wt (.int x :: S) = 1 + wt S := id rfl
theorem wt_ref (x : Nat) (S : List Value) : wt (.ref x :: S) = 1 + wt S := id rfl
theorem wt_null (S : List Value) : wt (.null :: S) = 1 + wt S := id rfl
theorem wt_long (x : Int64) (S : List Value) : wt (.long x :: S) = 2 + wt S := id rfl
theorem wt_double (x : UInt64) (S : List Value) : wt (.double x :: S) = 2 + wt S := id rfl
theorem s1_unset : s1 .unset = true := id rfl
theorem s1_int (x : Int32) : s1 (.val (.int x)) = true := id rfl
theorem s1_ref (x : Nat) : s1 (.val (.ref x)) = true := id rfl
theorem s1_null : s1 (.val .null) = true := id rfl
def s2 : Slot → Bool | .val _ => true | .unset => true | .second => false
def s3 : Slot → Bool | .val v => cat v == 1 | _ => true
theorem s2_unset : s2 .unset = true := id rfl
theorem s2_val (v : Value) : s2 (.val v) = true := id rfl
theorem s3_unset : s3 .unset = true := id rfl
theorem s3_second : s3 .second = true := id rfl
theorem s3_int (x : Int32) : s3 (.val (.int x)) = true := id rfl
theorem s3_ref (x : Nat) : s3 (.val (.ref x)) = true := id rfl
theorem st1_eq {q : Value → Bool} {L : List Slot} {k : Nat} {v : Value} {o : Slot} (h : L[k]? = some o) (ho : s1 o = true) (hq : q v = true) : st1 q L k (v :: S) = some (L.set k (.val v), S) := by
  simp only [st1, so1, h, ho, hq, Bool.and_self, if_true]
theorem st2_eq {q : Value → Bool} {L : List Slot} {k : Nat} {v : Value} {o o' : Slot} (h : L[k]? = some o) (h' : L[k + 1]? = some o') (ho : s2 o = true) (ho' : s3 o' = true) (hq : q v = true) : st2 q L k (v :: S) = some ((L.set k (.val v)).set (k + 1) .second, S) := by
  have e : so2 L k = true := by
    simp only [so2, h, h']
    cases o with
    | second => cases ho
    | unset => cases o' <;> first | rfl | exact ho'
    | val u => cases o' <;> first | rfl | exact ho'
  simp only [st2, e, hq, Bool.and_self, if_true]
theorem rdF_at {idx a : Nat} {o : Obj} (h : H[a]? = some o) : rdF P j idx H a = rdO P j idx o := by simp only [rdF, h]
end Rows
end Jvm.MM
namespace Jvm.MM
open Jvm Jvm.ClassFile Sem Op Lib Jvm.Free Jvm.Stand Jvm.LawKit Jvm.RoadKit
theorem am_nil {α : Type} {p : α → Prop} : ∀ x ∈ ([] : List α), p x := fun x h => nomatch h
theorem am_cons {α : Type} {p : α → Prop} {a : α} {l : List α} (h : p a) (t : ∀ x ∈ l, p x) : ∀ x ∈ a :: l, p x := fun x hx => (List.mem_cons.mp hx).elim (fun q => q ▸ h) (t x)
theorem Arity.of {d : String} {np : Nat} (h : ((parseMethodDescriptor d).map fun sig => sig.parameters.length) = some np) : Arity d np := fun sig hs => by
  rw [hs] at h
  exact (Option.some.inj h).symm
theorem laid_nil : laid [] = [] := rfl
theorem laid_c1 {v : Value} {r : List Value} (h : cat v = 1) : laid (v :: r) = .val v :: laid r := if_neg (by rw [h]; decide)
theorem laid_c2 {v : Value} {r : List Value} (h : cat v = 2) : laid (v :: r) = .val v :: .second :: laid r := if_pos h
theorem isA_ref' (a : Nat) : isA (.ref a) = true := id rfl
theorem isA_null' : isA .null = true := id rfl
theorem cat_int (x : Int32) : cat (.int x) = 1 := id rfl
theorem cat_ref (a : Nat) : cat (.ref a) = 1 := id rfl
theorem cat_null : cat .null = 1 := id rfl
theorem kdOf_eq (H : Hp) (a : Nat) : kdOf H a = (H[a]?).bind kdO := by unfold kdOf; cases H[a]? <;> rfl
theorem kdO_obj (c : Nat) (vs : List Value) : kdO (.inr c, vs) = some c := id rfl
theorem rdF_eq (P : Prg) (j i : Nat) (H : Hp) (a : Nat) : rdF P j i H a = (H[a]?).bind (rdO P j i) := by unfold rdF; cases H[a]? <;> rfl
theorem wrF_eq (P : Prg) (j i : Nat) (H : Hp) (a : Nat) (v : Value) : wrF P j i H a v = if a < P.j0 then none else (H[a]?).bind fun o => (wrO P j i v o).map (H.set a) := by
  unfold wrF
  split
  · rfl
  · cases H[a]? with
    | none => rfl
    | some o => show (match wrO P j i v o with | some o' => some (H.set a o') | none => none) = (wrO P j i v o).map (H.set a); cases wrO P j i v o <;> rfl
def alO : Obj → Option Int32
  | (.inl _, vs) => some vs.length.toInt32
  | _ => none
theorem alO_a (ty : FieldType) (vs : List Value) : alO (.inl ty, vs) = some vs.length.toInt32 := id rfl
theorem alen_eq (H : Hp) (a : Nat) : alen H a = (H[a]?).bind alO := by
  unfold alen
  cases H[a]? with
  | none => rfl
  | some o => obtain ⟨kd, vs⟩ := o; cases kd <;> rfl
def ldO (i : Instr) (x : Int32) : Obj → Option Value
  | (.inl ty, vs) => if aty i ty = true ∧ ¬ x < 0 then vs[x.toNatClampNeg]? else none
  | _ => none
theorem ldA_eq (i : Instr) (H : Hp) (a : Nat) (x : Int32) : ldA i H a x = (H[a]?).bind (ldO i x) := by
  unfold ldA
  cases H[a]? with
  | none => rfl
  | some o => obtain ⟨kd, vs⟩ := o; cases kd <;> rfl
theorem ldO_i (x : Int32) (vs : List Value) : ldO .iaload x (.inl .int, vs) = if x < 0 then none else vs[x.toNatClampNeg]? := by by_cases h : x < 0 <;> simp [ldO, aty, h]
theorem ldO_b (x : Int32) (vs : List Value) : ldO .baload x (.inl .byte, vs) = if x < 0 then none else vs[x.toNatClampNeg]? := by by_cases h : x < 0 <;> simp [ldO, aty, h]
theorem ldO_c (x : Int32) (vs : List Value) : ldO .caload x (.inl .char, vs) = if x < 0 then none else vs[x.toNatClampNeg]? := by by_cases h : x < 0 <;> simp [ldO, aty, h]
theorem ldO_a (x : Int32) (C : String) (vs : List Value) : ldO .aaload x (.inl (.object C), vs) = if x < 0 then none else vs[x.toNatClampNeg]? := by by_cases h : x < 0 <;> simp [ldO, aty, h]
def stO (i : Instr) (x : Int32) (v : Value) : Obj → Option Obj
  | (.inl ty, vs) => if aty i ty = true ∧ ¬ x < 0 ∧ x.toNatClampNeg < vs.length then some (.inl ty, vs.set x.toNatClampNeg v) else none
  | _ => none
theorem stA_gen (P : Prg) (i : Instr) (H : Hp) (a : Nat) (x : Int32) (v w : Value) (hv : ∀ ty, aty i ty = true → vty ty v = some w) (hs : ∀ ty, aty i ty = true → stoOk P H ty w = true) : stA P i H a x v = if a < P.j0 then none else (H[a]?).bind fun o => (stO i x w o).map (H.set a) := by
  unfold stA
  split
  · rfl
  · cases H[a]? with
    | none => rfl
    | some o =>
      obtain ⟨kd, vs⟩ := o
      cases kd with
      | inr c => rfl
      | inl ty =>
        show (match vty ty v with | some v' => if aty i ty = true ∧ ¬ x < 0 ∧ x.toNatClampNeg < vs.length ∧ stoOk P H ty v' = true then some (H.set a (.inl ty, vs.set x.toNatClampNeg v')) else none | none => none) = Option.map (H.set a) (if aty i ty = true ∧ ¬ x < 0 ∧ x.toNatClampNeg < vs.length then some (.inl ty, vs.set x.toNatClampNeg w) else none)
        by_cases ht : aty i ty = true
        · rw [hv ty ht]
          by_cases q : ¬ x < 0 ∧ x.toNatClampNeg < vs.length
          · rw [if_pos ⟨ht, q⟩]
            show (if _ then _ else _) = _
            rw [if_pos ⟨ht, q.1, q.2, hs ty ht⟩]
            rfl
          · rw [if_neg fun z => q z.2]
            show (if _ then _ else _) = _
            rw [if_neg fun z => q ⟨z.2.1, z.2.2.1⟩]
            rfl
        · rw [if_neg fun z => ht z.1]
          cases vty ty v with
          | none => rfl
          | some v' =>
            show (if _ then _ else _) = _
            rw [if_neg fun z => ht z.1]
            rfl
theorem stA_i (P : Prg) (H : Hp) (a : Nat) (x y : Int32) : stA P .iastore H a x (.int y) = if a < P.j0 then none else (H[a]?).bind fun o => (stO .iastore x (.int y) o).map (H.set a) := stA_gen P .iastore H a x _ _ (fun ty h => by cases ty <;> first | rfl | cases h) (fun ty h => by cases ty <;> first | rfl | cases h)
theorem stA_b (P : Prg) (H : Hp) (a : Nat) (x y : Int32) : stA P .bastore H a x (.int y) = if a < P.j0 then none else (H[a]?).bind fun o => (stO .bastore x (.int y.toInt8.toInt32) o).map (H.set a) := stA_gen P .bastore H a x _ _ (fun ty h => by cases ty <;> first | rfl | cases h) (fun ty h => by cases ty <;> first | rfl | cases h)
theorem stA_c (P : Prg) (H : Hp) (a : Nat) (x y : Int32) : stA P .castore H a x (.int y) = if a < P.j0 then none else (H[a]?).bind fun o => (stO .castore x (.int y.toUInt32.toUInt16.toUInt32.toInt32) o).map (H.set a) := stA_gen P .castore H a x _ _ (fun ty h => by cases ty <;> first | rfl | cases h) (fun ty h => by cases ty <;> first | rfl | cases h)
theorem stA_d (P : Prg) (H : Hp) (a : Nat) (x : Int32) (y : UInt64) : stA P .dastore H a x (.double y) = if a < P.j0 then none else (H[a]?).bind fun o => (stO .dastore x (.double y) o).map (H.set a) := stA_gen P .dastore H a x _ _ (fun ty h => by cases ty <;> first | rfl | cases h) (fun ty h => by cases ty <;> first | rfl | cases h)
theorem stO_b (x : Int32) (v : Value) (vs : List Value) : stO .bastore x v (.inl .byte, vs) = if x < 0 then none else if x.toNatClampNeg < vs.length then some (.inl .byte, vs.set x.toNatClampNeg v) else none := by
  by_cases h : x < 0 <;> by_cases h' : x.toNatClampNeg < vs.length <;> simp [stO, aty, h, h']
theorem stO_c (x : Int32) (v : Value) (vs : List Value) : stO .castore x v (.inl .char, vs) = if x < 0 then none else if x.toNatClampNeg < vs.length then some (.inl .char, vs.set x.toNatClampNeg v) else none := by
  by_cases h : x < 0 <;> by_cases h' : x.toNatClampNeg < vs.length <;> simp [stO, aty, h, h']
theorem stO_d (x : Int32) (v : Value) (vs : List Value) : stO .dastore x v (.inl .double, vs) = if x < 0 then none else if x.toNatClampNeg < vs.length then some (.inl .double, vs.set x.toNatClampNeg v) else none := by
  by_cases h : x < 0 <;> by_cases h' : x.toNatClampNeg < vs.length <;> simp [stO, aty, h, h']
theorem ldO_d (x : Int32) (vs : List Value) : ldO .daload x (.inl .double, vs) = if x < 0 then none else vs[x.toNatClampNeg]? := by by_cases h : x < 0 <;> simp [ldO, aty, h]
theorem stO_i (x : Int32) (v : Value) (vs : List Value) : stO .iastore x v (.inl .int, vs) = if x < 0 then none else if x.toNatClampNeg < vs.length then some (.inl .int, vs.set x.toNatClampNeg v) else none := by
  by_cases h : x < 0 <;> by_cases h' : x.toNatClampNeg < vs.length <;> simp [stO, aty, h, h']
theorem tn0 : (0 : Int32).toNatClampNeg = 0 := by decide
theorem tl0 : Nat.toInt32 0 = 0 := by decide
theorem rp0 {α : Type} (a : α) : List.replicate 0 a = [] := rfl
theorem tn1 : (1 : Int32).toNatClampNeg = 1 := by decide
theorem tl1 : Nat.toInt32 1 = 1 := by decide
theorem rp1 {α : Type} (a : α) : List.replicate 1 a = [a] := rfl
theorem tn2 : (2 : Int32).toNatClampNeg = 2 := by decide
theorem tl2 : Nat.toInt32 2 = 2 := by decide
theorem rp2 {α : Type} (a : α) : List.replicate 2 a = [a, a] := rfl
theorem tn3 : (3 : Int32).toNatClampNeg = 3 := by decide
theorem tl3 : Nat.toInt32 3 = 3 := by decide
theorem rp3 {α : Type} (a : α) : List.replicate 3 a = [a, a, a] := rfl
theorem tn4 : (4 : Int32).toNatClampNeg = 4 := by decide
theorem tl4 : Nat.toInt32 4 = 4 := by decide
theorem rp4 {α : Type} (a : α) : List.replicate 4 a = [a, a, a, a] := rfl
theorem tn5 : (5 : Int32).toNatClampNeg = 5 := by decide
theorem tl5 : Nat.toInt32 5 = 5 := by decide
theorem rp5 {α : Type} (a : α) : List.replicate 5 a = [a, a, a, a, a] := rfl
theorem tn6 : (6 : Int32).toNatClampNeg = 6 := by decide
theorem tl6 : Nat.toInt32 6 = 6 := by decide
theorem rp6 {α : Type} (a : α) : List.replicate 6 a = [a, a, a, a, a, a] := rfl
theorem tn7 : (7 : Int32).toNatClampNeg = 7 := by decide
theorem tl7 : Nat.toInt32 7 = 7 := by decide
theorem rp7 {α : Type} (a : α) : List.replicate 7 a = [a, a, a, a, a, a, a] := rfl
theorem tn8 : (8 : Int32).toNatClampNeg = 8 := by decide
theorem tl8 : Nat.toInt32 8 = 8 := by decide
theorem rp8 {α : Type} (a : α) : List.replicate 8 a = [a, a, a, a, a, a, a, a] := rfl
theorem tn9 : (9 : Int32).toNatClampNeg = 9 := by decide
theorem tl9 : Nat.toInt32 9 = 9 := by decide
theorem rp9 {α : Type} (a : α) : List.replicate 9 a = [a, a, a, a, a, a, a, a, a] := rfl
end Jvm.MM
namespace Jvm.MM
open Jvm Jvm.ClassFile Sem Op Lib Jvm.Free Jvm.Stand Jvm.LawKit Jvm.RoadKit
/-! ### a local that isn't read may hold what it will -/
def LeS (a b : Slot) : Prop := a = b ∨ (a = .unset ∧ ∃ x : Int32, b = .val (.int x))
def LeL (L L' : List Slot) : Prop := L.length = L'.length ∧ ∀ (i : Nat) (a : Slot), L[i]? = some a → ∃ b, L'[i]? = some b ∧ LeS a b
theorem LeL.refl (L : List Slot) : LeL L L := ⟨rfl, fun i a h => ⟨a, h, Or.inl rfl⟩⟩
theorem LeL.cons {L L' : List Slot} {a b : Slot} (h : LeS a b) (t : LeL L L') : LeL (a :: L) (b :: L') := by
  refine ⟨by simp [t.1], fun i c hc => ?_⟩
  cases i with
  | zero =>
    simp only [List.getElem?_cons_zero, Option.some.injEq] at hc
    subst hc
    exact ⟨b, by simp, h⟩
  | succ i =>
    simp only [List.getElem?_cons_succ] at hc ⊢
    exact t.2 i c hc
theorem LeL.same {L L' : List Slot} {a : Slot} (t : LeL L L') : LeL (a :: L) (a :: L') := LeL.cons (Or.inl rfl) t
theorem LeL.int {L L' : List Slot} {x : Int32} (t : LeL L L') : LeL (.unset :: L) (.val (.int x) :: L') := LeL.cons (Or.inr ⟨rfl, x, rfl⟩) t
theorem LeL.val {L L' : List Slot} (t : LeL L L') {k : Nat} {v : Value} (h : L[k]? = some (.val v)) : L'[k]? = some (.val v) := by
  obtain ⟨b, h1, h2⟩ := t.2 k _ h
  rcases h2 with rfl | ⟨q, -⟩
  · exact h1
  · cases q
theorem LeL.set {L L' : List Slot} (t : LeL L L') (k : Nat) (a : Slot) : LeL (L.set k a) (L'.set k a) := by
  refine ⟨by simp [t.1], fun i c hc => ?_⟩
  by_cases e : k = i
  · subst e
    have hl : k < L.length := by
      have := (List.getElem?_eq_some_iff.mp hc).1
      simpa using this
    rw [List.getElem?_set_self hl] at hc
    cases hc
    exact ⟨a, List.getElem?_set_self (by rw [← t.1]; exact hl), Or.inl rfl⟩
  · rw [List.getElem?_set_ne e] at hc
    rw [List.getElem?_set_ne e]
    exact t.2 i c hc
theorem ld_le {q : Value → Bool} {L L' L1 : List Slot} {k : Nat} {S S1 : List Value} (t : LeL L L') (h : ld q L k S = some (L1, S1)) : ∃ L1', ld q L' k S = some (L1', S1) ∧ LeL L1 L1' := by
  obtain ⟨v, h1, h2, rfl, rfl⟩ := ld_inv h
  exact ⟨L', by simp only [ld, t.val h1, h2, if_true], t⟩
theorem st1_le {q : Value → Bool} {L L' L1 : List Slot} {k : Nat} {S S1 : List Value} (t : LeL L L') (h : st1 q L k S = some (L1, S1)) : ∃ L1', st1 q L' k S = some (L1', S1) ∧ LeL L1 L1' := by
  obtain ⟨v, o, rfl, h1, h2, h3, rfl⟩ := st1_inv h
  obtain ⟨b, g1, g2⟩ := t.2 k o h2
  have : s1 b = true := by
    rcases g2 with rfl | ⟨-, x, rfl⟩
    · exact h3
    · rfl
  exact ⟨_, st1_eq g1 this h1, t.set k _⟩
theorem st2_le {q : Value → Bool} {L L' L1 : List Slot} {k : Nat} {S S1 : List Value} (t : LeL L L') (h : st2 q L k S = some (L1, S1)) : ∃ L1', st2 q L' k S = some (L1', S1) ∧ LeL L1 L1' := by
  obtain ⟨v, rfl, h1, h2, rfl⟩ := st2_inv h
  simp only [so2, Bool.and_eq_true] at h2
  obtain ⟨a1, a2⟩ := h2
  cases q1 : L[k]? with
  | none => rw [q1] at a1; cases a1
  | some o =>
    cases q2 : L[k + 1]? with
    | none => rw [q2] at a2; cases a2
    | some o' =>
      obtain ⟨b, g1, g2⟩ := t.2 k o q1
      obtain ⟨b', g1', g2'⟩ := t.2 (k + 1) o' q2
      rw [q1] at a1
      rw [q2] at a2
      have e1 : s2 b = true := by
        rcases g2 with rfl | ⟨-, x, rfl⟩
        · cases o <;> first | rfl | cases a1
        · rfl
      have e2 : s3 b' = true := by
        rcases g2' with rfl | ⟨-, x, rfl⟩
        · cases o' <;> first | rfl | exact a2
        · rfl
      exact ⟨_, st2_eq g1 g1' e1 e2 h1, (t.set k _).set _ _⟩
theorem keepL_le {L L' L1 : List Slot} {o : Option (List Value)} {S1 : List Value} (t : LeL L L') (h : keepL L o = some (L1, S1)) : ∃ L1', keepL L' o = some (L1', S1) ∧ LeL L1 L1' := by
  obtain ⟨rfl, rfl⟩ := keepL_inv h
  exact ⟨L', rfl, t⟩
theorem plain_le {i : Instr} {L L' L1 : List Slot} {S S1 : List Value} (t : LeL L L') (h : plainI i L S = some (L1, S1)) : ∃ L1', plainI i L' S = some (L1', S1) ∧ LeL L1 L1' := by
  cases i
  case iinc k c0 =>
    obtain ⟨x, h1, rfl, rfl⟩ := inc_inv h
    exact ⟨_, by simp only [plainI, inc, t.val h1], t.set k _⟩
  all_goals first
    | (cases h; exact ⟨L', rfl, t⟩)
    | exact ld_le t h
    | exact st1_le t h
    | exact st2_le t h
    | exact keepL_le t h
    | exact absurd h (fun q => by cases q)
theorem step_le {P : Prg} {j pc : Nat} {i : Instr} {L L' : List Slot} {S : List Value} {H : Hp} {k n : Nat} {st : St} (t : LeL L L') (h : stepI P j i (pc, L, S, H, k, n) = some st) :
    ∃ L1', LeL st.2.1 L1' ∧ stepI P j i (pc, L', S, H, k, n) = some (st.1, L1', st.2.2) := by
  simp only [stepI] at h ⊢
  split at h
  · split at h
    · rename_i x hx
      cases h
      obtain ⟨L1', g1, g2⟩ := plain_le t hx
      exact ⟨L1', g2, by simp only [g1]⟩
    · cases h
  · split at h
    · rename_i r hr
      cases h
      refine ⟨L', t, ?_⟩
      have : objI P j i L' S = some r := by
        have e : objI P j i L' S = objI P j i L S := by
          cases i <;> first | rfl | simp only [objI, t.1]
        rw [e]; exact hr
      simp only [this]
    · cases h
  · split at h
    · rename_i o r hb
      split at h
      · rename_i ho
        cases h
        exact ⟨L', t, by simp only [hb, if_pos ho]⟩
      · cases h
    · rename_i hb
      cases h
      exact ⟨L', t, by simp only [hb]⟩
    · cases h
  · split at h
    · rename_i x hx
      cases h
      exact ⟨L', t, by simp only [hx]⟩
    · cases h
  · split at h
    · rename_i x hx
      cases h
      refine ⟨L', t, ?_⟩
      have : clnI P j pc i L' S H k n = some x := by
        have e : clnI P j pc i L' S H k n = clnI P j pc i L S H k n := by
          cases i <;> first | rfl | simp only [clnI, clnA, t.1]
        rw [e]; exact hx
      simp only [this]
    · cases h
  · cases h
theorem run_le {P : Prg} : ∀ {f j pc : Nat} {L L' : List Slot} {S : List Value} {H : Hp} {k n : Nat} {r : MRes}, LeL L L' → run P f j (pc, L, S, H, k, n) = some r → run P f j (pc, L', S, H, k, n) = some r
  | 0, j, pc, L, L', S, H, k, n, r, t, h => by simp only [run] at h; cases h
  | f + 1, j, pc, L, L', S, H, k, n, r, t, h => by
    obtain ⟨i, hd, hcase⟩ := run_inv h
    rcases hcase with ⟨hi, v, hv, hk, rfl⟩ | ⟨hi, j', as, rr, r', hcal, hrm, h1, h2⟩ | ⟨h3, h1', ⟨pc', L1, S1, H1, k1, n1⟩, hst, h1⟩
    · exact run_ret hd hi hv hk
    · have hrm' : rmOk P j j' L' rr k n = true := by
        have e : rmOk P j j' L' rr k n = rmOk P j j' L rr k n := by simp only [rmOk, t.1]
        rw [e]; exact hrm
      rw [run_call hd hi hcal hrm' h1]
      exact run_le t h2
    · obtain ⟨L1', g1, g2⟩ := step_le t hst
      rw [run_step hd h3 h1' g2]
      exact run_le g1 h1
theorem wp_run {P : Prg} {j pc : Nat} {L L' : List Slot} {S : List Value} {H : Hp} {k n : Nat} {Q : MRes → Prop} (f : Nat) {v : Option Value} (t : LeL L L') (h : (run P f j (pc, L, S, H, k, n)).map (·.1) = some v) (hq : ∀ H', Q (v, H')) : Wp P j (pc, L', S, H, k, n) Q := by
  cases hr : run P f j (pc, L, S, H, k, n) with
  | none => rw [hr] at h; cases h
  | some r =>
    rw [hr] at h
    obtain ⟨v', H'⟩ := r
    cases h
    exact ⟨f, _, run_le t hr, hq H'⟩
/-! ### a run up to a given pc, with locals laid under it -/
def ovS : Slot → Slot → Slot
  | .unset, b => b
  | a, _ => a
def ov : List Slot → List Slot → List Slot
  | a :: L, b :: B => ovS a b :: ov L B
  | L, _ => L
def Ints (B : List Slot) : Prop := ∀ b ∈ B, b = .unset ∨ ∃ x : Int32, b = .val (.int x)
theorem ov_len : ∀ L B : List Slot, (ov L B).length = L.length
  | [], B => by cases B <;> rfl
  | a :: L, [] => rfl
  | a :: L, b :: B => by show (ov L B).length + 1 = L.length + 1; rw [ov_len L B]
theorem ov_le {B : List Slot} (hB : Ints B) : ∀ L : List Slot, LeL L (ov L B) := by
  induction B with
  | nil => intro L; cases L <;> exact LeL.refl _
  | cons b B ih =>
    intro L
    cases L with
    | nil => exact LeL.refl _
    | cons a L =>
      refine LeL.cons ?_ (ih (fun x hx => hB x (List.mem_cons_of_mem _ hx)) L)
      cases a with
      | unset =>
        rcases hB b List.mem_cons_self with rfl | ⟨x, rfl⟩
        · exact Or.inl rfl
        · exact Or.inr ⟨rfl, x, rfl⟩
      | second => exact Or.inl rfl
      | val v => exact Or.inl rfl
theorem ov_set {a : Slot} (ha : a ≠ .unset) : ∀ (L B : List Slot) (k : Nat), ov (L.set k a) B = (ov L B).set k a
  | [], B, k => by cases B <;> rfl
  | c :: L, [], k => by cases k <;> rfl
  | c :: L, b :: B, 0 => by
    show ovS a b :: ov L B = a :: ov L B
    cases a with
    | unset => exact absurd rfl ha
    | second => rfl
    | val v => rfl
  | c :: L, b :: B, k + 1 => by
    show ovS c b :: ov (L.set k a) B = ovS c b :: (ov L B).set k a
    rw [ov_set ha L B k]
theorem ov_val {L B : List Slot} (hB : Ints B) {k : Nat} {v : Value} (h : L[k]? = some (.val v)) : (ov L B)[k]? = some (.val v) := (ov_le hB L).val h
theorem plain_ov {i : Instr} {L L1 B : List Slot} {S S1 : List Value} (hB : Ints B) (h : plainI i L S = some (L1, S1)) : plainI i (ov L B) S = some (ov L1 B, S1) := by
  have hst1 : ∀ {q : Value → Bool} {k : Nat}, st1 q L k S = some (L1, S1) → st1 q (ov L B) k S = some (ov L1 B, S1) := fun {q k} h => by
    obtain ⟨v, o, rfl, h1, h2, h3, rfl⟩ := st1_inv h
    obtain ⟨b, g1, g2⟩ := (ov_le hB L).2 k o h2
    have : s1 b = true := by
      rcases g2 with rfl | ⟨-, x, rfl⟩
      · exact h3
      · rfl
    rw [st1_eq g1 this h1, ov_set (by simp)]
  have hst2 : ∀ {q : Value → Bool} {k : Nat}, st2 q L k S = some (L1, S1) → st2 q (ov L B) k S = some (ov L1 B, S1) := fun {q k} h => by
    obtain ⟨L1', g1, -⟩ := st2_le (ov_le hB L) h
    obtain ⟨v, rfl, h1, h2, rfl⟩ := st2_inv h
    obtain ⟨v', e1, -, -, e2⟩ := st2_inv g1
    cases e1
    rw [g1, e2, ov_set (by simp), ov_set (by simp)]
  have hld : ∀ {q : Value → Bool} {k : Nat}, ld q L k S = some (L1, S1) → ld q (ov L B) k S = some (ov L1 B, S1) := fun {q k} h => by
    obtain ⟨v, h1, h2, rfl, rfl⟩ := ld_inv h
    simp only [ld, ov_val hB h1, h2, if_true]
  have hkp : ∀ {o : Option (List Value)}, keepL L o = some (L1, S1) → keepL (ov L B) o = some (ov L1 B, S1) := fun {o} h => by
    obtain ⟨rfl, rfl⟩ := keepL_inv h
    rfl
  cases i
  case iinc k c0 =>
    obtain ⟨x, h1, rfl, rfl⟩ := inc_inv h
    show inc (ov L B) k c0 _ = _
    simp only [inc, ov_val hB h1]
    rw [ov_set (by simp)]
  all_goals first
    | (cases h; rfl)
    | exact hld h
    | exact hst1 h
    | exact hst2 h
    | exact hkp h
    | exact absurd h (fun q => by cases q)
theorem step_ov {P : Prg} {j pc : Nat} {i : Instr} {L B : List Slot} {S : List Value} {H : Hp} {k n : Nat} {st : St} (hB : Ints B) (h : stepI P j i (pc, L, S, H, k, n) = some st) : stepI P j i (pc, ov L B, S, H, k, n) = some (st.1, ov st.2.1 B, st.2.2) := by
  simp only [stepI] at h ⊢
  split at h
  · split at h
    · rename_i x hx
      cases h
      simp only [plain_ov hB hx]
    · cases h
  · split at h
    · rename_i r hr
      cases h
      have : objI P j i (ov L B) S = some r := by
        have e : objI P j i (ov L B) S = objI P j i L S := by
          cases i <;> first | rfl | simp only [objI, ov_len]
        rw [e]; exact hr
      simp only [this]
    · cases h
  · split at h
    · rename_i o r hb
      split at h
      · rename_i ho
        cases h
        simp only [hb, if_pos ho]
      · cases h
    · rename_i hb
      cases h
      simp only [hb]
    · cases h
  · split at h
    · rename_i x hx
      cases h
      simp only [hx]
    · cases h
  · split at h
    · rename_i x hx
      cases h
      have : clnI P j pc i (ov L B) S H k n = some x := by
        have e : clnI P j pc i (ov L B) S H k n = clnI P j pc i L S H k n := by
          cases i <;> first | rfl | simp only [clnI, clnA, ov_len]
        rw [e]; exact hx
      simp only [this]
    · cases h
  · cases h
/-- up to pc t, within this frame; a call by 'run' with fuel f -/
def goU (P : Prg) (f t : Nat) : Nat → Nat → St → Option St
  | 0, _, _ => none
  | g + 1, j, (pc, L, S, H, k, n) =>
    if pc = t then some (pc, L, S, H, k, n) else
    match decode (P.mt j).code pc with
    | .error _ => none
    | .ok (i, len) =>
      if len = ilen i then
        match isCall P j i with
        | 3 => none
        | 1 => (match calI P j i S H with
          | some (j', as, r) =>
            if rmOk P j j' L r k n = true then
              (match run P f j' (0, entL as (P.mt j').mx, [], H, 0, 0) with
              | some (v, H') => goU P f t g j (pc + 3, L, v.toList ++ r, H', k + (P.mt j').rm.cells, n + (P.mt j').rm.slots)
              | none => none)
            else none
          | none => none)
        | _ => (match stepI P j i (pc, L, S, H, k, n) with | some st' => goU P f t g j st' | none => none)
      else none
theorem wp_goU {P : Prg} {f t : Nat} {B : List Slot} (hB : Ints B) {Q : MRes → Prop} : ∀ {g j : Nat} {pc : Nat} {L : List Slot} {S : List Value} {H : Hp} {k n : Nat} {st : St}, goU P f t g j (pc, L, S, H, k, n) = some st → Wp P j (st.1, ov st.2.1 B, st.2.2) Q → Wp P j (pc, ov L B, S, H, k, n) Q
  | 0, j, pc, L, S, H, k, n, st, h, w => by simp only [goU] at h; cases h
  | g + 1, j, pc, L, S, H, k, n, st, h, w => by
    simp only [goU] at h
    split at h
    · rename_i e
      cases h
      exact w
    · split at h
      · cases h
      · rename_i i len hd
        split at h
        · rename_i hl
          subst hl
          split at h
          · cases h
          · rename_i hi
            split at h
            · rename_i j' as r hc
              split at h
              · rename_i hrm
                split at h
                · rename_i v H' hr
                  have hrm' : rmOk P j j' (ov L B) r k n = true := by
                    have e : rmOk P j j' (ov L B) r k n = rmOk P j j' L r k n := by simp only [rmOk, ov_len]
                    rw [e]; exact hrm
                  rw [wpC hd hi hc hrm']
                  exact ⟨f, _, hr, wp_goU hB h w⟩
                · cases h
              · cases h
            · cases h
          · rename_i h3 h1
            split at h
            · rename_i st' hst
              obtain ⟨pc', L', S', H', k', n'⟩ := st'
              rw [wpS hd h3 h1 (step_ov hB hst)]
              exact wp_goU hB h w
            · cases h
        · cases h
end Jvm.MM
namespace Jvm.MM
open Jvm Jvm.ClassFile Sem Op Lib Jvm.Free Jvm.Stand Jvm.LawKit Jvm.RoadKit
/-! ### numbers -/
theorem and_range (x m : Int32) (d : Nat) (hd : m.toBitVec.toNat < d) : ∃ i, i < d ∧ x &&& m = Int32.ofNat i := by
  refine ⟨(x &&& m).toBitVec.toNat, ?_, ?_⟩
  · rw [Int32.toBitVec_and, BitVec.toNat_and]
    exact Nat.lt_of_le_of_lt Nat.and_le_right hd
  · apply Int32.toBitVec_inj.mp
    show _ = BitVec.ofNat 32 _
    rw [BitVec.ofNat_toNat, BitVec.setWidth_eq]
theorem nat_range {x : Int32} {d : Nat} (h0 : 0 ≤ x.toInt) (h1 : x.toInt < d) : ∃ i, i < d ∧ x = Int32.ofNat i := by
  refine ⟨x.toInt.toNat, by omega, Int32.toInt_inj.mp ?_⟩
  have := Int32.toInt_lt x
  rw [Int32.toInt_ofNat_small (by omega)]
  omega
theorem pos_mask (x : Int32) : 0 ≤ (x &&& 2147483647).toInt := (c_andS x 2147483647).2.2 (by decide)
theorem rem_range (x m : Int32) (d : Nat) (hm : m.toInt = d) (hd : 0 < d) : ∃ i, i < d ∧ (x &&& 2147483647) % m = Int32.ofNat i := by
  have h0 := pos_mask x
  have h1 := (c_irem (x &&& 2147483647) m d hm).1 h0
  have h2 := Int.emod_nonneg (x &&& 2147483647).toInt (show (d : Int) ≠ 0 by omega)
  have h3 := Int.emod_lt_of_pos (x &&& 2147483647).toInt (show (0 : Int) < d by omega)
  exact nat_range (by omega) (by omega)
theorem cmp_lt (x y : Int64) : (XT.cmpL x y < 0) = (x < y) := by
  unfold XT.cmpL
  apply propext
  by_cases h : y < x
  · rw [if_pos h]
    exact ⟨fun q => absurd q (by decide), fun q => absurd (Int64.lt_trans q h) (Int64.lt_irrefl)⟩
  · rw [if_neg h]
    by_cases e : x = y
    · subst e
      rw [if_pos rfl]
      exact ⟨fun q => absurd q (by decide), fun q => absurd q (Int64.lt_irrefl)⟩
    · rw [if_neg e]
      exact ⟨fun _ => Int64.lt_of_le_of_ne (Int64.not_lt.mp h) e, fun _ => by decide⟩
theorem cmp_gt (x y : Int64) : (0 < XT.cmpL x y) = (y < x) := by
  unfold XT.cmpL
  apply propext
  by_cases h : y < x
  · rw [if_pos h]
    exact ⟨fun _ => h, fun _ => by decide⟩
  · rw [if_neg h]
    by_cases e : x = y
    · rw [if_pos e]
      exact ⟨fun q => absurd q (by decide), fun q => absurd q h⟩
    · rw [if_neg e]
      exact ⟨fun q => absurd q (by decide), fun q => absurd q h⟩
theorem cmp_eq (x y : Int64) : (XT.cmpL x y = 0) = (x = y) := by
  unfold XT.cmpL
  apply propext
  by_cases h : y < x
  · rw [if_pos h]
    exact ⟨fun q => absurd q (by decide), fun q => by subst q; exact absurd h (Int64.lt_irrefl)⟩
  · rw [if_neg h]
    by_cases e : x = y
    · rw [if_pos e]
      exact ⟨fun _ => e, fun _ => rfl⟩
    · rw [if_neg e]
      exact ⟨fun q => absurd q (by decide), fun q => absurd q e⟩
theorem cmp_le (x y : Int64) : (XT.cmpL x y ≤ 0) = (x ≤ y) := by
  have h := cmp_gt x y
  apply propext
  rw [← Int32.not_lt, ← Int64.not_lt, h]
theorem cmp_ge (x y : Int64) : (0 ≤ XT.cmpL x y) = (y ≤ x) := by
  have h := cmp_lt x y
  apply propext
  rw [← Int32.not_lt, ← Int64.not_lt, h]
theorem on0 : Int32.ofNat 0 = 0 := rfl
theorem on1 : Int32.ofNat 1 = 1 := rfl
theorem on2 : Int32.ofNat 2 = 2 := rfl
theorem on3 : Int32.ofNat 3 = 3 := rfl
theorem on4 : Int32.ofNat 4 = 4 := rfl
theorem on5 : Int32.ofNat 5 = 5 := rfl
theorem on6 : Int32.ofNat 6 = 6 := rfl
theorem on7 : Int32.ofNat 7 = 7 := rfl
theorem on8 : Int32.ofNat 8 = 8 := rfl
theorem on9 : Int32.ofNat 9 = 9 := rfl
theorem an0 : (0 : Int32) &&& 1 = 0 := by decide
theorem an1 : (1 : Int32) &&& 1 = 1 := by decide
end Jvm.MM
namespace Jvm.MM
open Jvm Jvm.ClassFile Sem Op Lib Jvm.Free Jvm.Stand Jvm.LawKit Jvm.RoadKit
/-! ### objects that stood at the start -/
def rhoL (as : List Nat) (n0 i : Nat) : Nat := match as[i]? with | some a => a | none => n0 + (i - as.length)
theorem rhoL_old {as : List Nat} {n0 i : Nat} {a : Nat} (h : as[i]? = some a) : rhoL as n0 i = a := by simp only [rhoL, h]
theorem rhoL_new {as : List Nat} {n0 i : Nat} (h : as.length ≤ i) : rhoL as n0 i = n0 + (i - as.length) := by simp only [rhoL, List.getElem?_eq_none h]
theorem rhoL_ok {P : Prg} {as : List Nat} {n0 : Nat} (hj : P.j0 = as.length) (hn : as.Nodup) (hl : ∀ a ∈ as, a < n0) : RhoOk P (rhoL as n0) n0 := by
  refine ⟨fun i hi => by rw [hj] at hi ⊢; exact rhoL_new hi, fun i j h => ?_⟩
  have h : (rhoL as n0 i : Nat) = rhoL as n0 j := h
  by_cases h1 : i < as.length
  · have e1 : as[i]? = some as[i] := List.getElem?_eq_getElem h1
    rw [rhoL_old e1] at h
    by_cases h2 : j < as.length
    · have e2 : as[j]? = some as[j] := List.getElem?_eq_getElem h2
      rw [rhoL_old e2] at h
      exact (List.getElem_inj hn).mp h
    · rw [rhoL_new (by omega)] at h
      have := hl _ (List.getElem_mem h1)
      omega
  · rw [rhoL_new (by omega)] at h
    by_cases h2 : j < as.length
    · have e2 : as[j]? = some as[j] := List.getElem?_eq_getElem h2
      rw [rhoL_old e2] at h
      have := hl _ (List.getElem_mem h2)
      omega
    · rw [rhoL_new (by omega)] at h
      omega
section Start
variable {Z : State} {args : Array Value}
theorem ex_start {t : Term} {C : String} (hx : (Jvm.Cond.exactly t C).value args Z none Z [] = some true) : ∃ a, t.eval args Z none [] Z = some (.ref a) ∧ Exa Z Z.heap a C := by
  have hx' : (Jvm.Cond.exactly t C).before args Z = true := Jvm.Cond.before_iff.mpr hx
  obtain ⟨a', c', cell, k, e1, -⟩ := Jvm.Cond.exactly_spec hx'
  exact ⟨a', e1, Exa.start e1 hx⟩
theorem fld_of {t : Term} {a : Addr} {O n d : String} {v : Value} (ht : t.eval args Z none [] Z = some (.ref a)) (h : (Term.field t O n d).eval args Z none [] Z = some v) : Fld Z Z.heap a O n d v := by
  refine Fld.start ?_
  simpa [Term.eval, ht] using h
theorem fld_eq {t u : Term} {a : Addr} {O n d : String} {v : Value} (ht : t.eval args Z none [] Z = some (.ref a)) (hu : u.eval args Z none [] Z = some v) (h : (Jvm.Cond.eq (.field t O n d) u).value args Z none Z [] = some true) (hv : (match v with | .int _ => true | .long _ => true | _ => false) = true) : Fld Z Z.heap a O n d v := by
  refine fld_of ht ?_
  cases hf : (Term.field t O n d).eval args Z none [] Z with
  | none => simp only [Jvm.Cond.value, hf] at h; cases h
  | some w =>
    simp only [Jvm.Cond.value, hf, hu] at h
    cases v <;> cases w <;> first | (cases hv; done) | (simp at h; done) | (simp at h; rw [h])
end Start
theorem fld_inj {Z : State} {h : Heap} {a : Addr} {O n d : String} {v w : Value} (F : Fld Z h a O n d v) (G : Fld Z h a O n d w) : v = w := by
  obtain ⟨cell, cf, k, i, f, h1, h2, -, -, -, -, h7⟩ := F
  obtain ⟨cell', cf', k', i', f', g1, g2, -, -, -, -, g7⟩ := G
  cases h1.symm.trans g1
  cases h2.symm.trans g2
  exact Option.some.inj (h7.symm.trans g7)
end Jvm.MM
namespace Jvm.MM
open Jvm Jvm.ClassFile Sem Op Lib Jvm.Free Jvm.Stand Jvm.LawKit Jvm.RoadKit
/-! ### the table of boxes that stood at the start -/
section Box
variable {Z : State} {K d : String} {val : Int32 → Value} {a : Addr} {c : Cell}
theorem i32_clamp {i : Nat} (h : i < 256) : (Int32.ofNat i).toNatClampNeg = i ∧ ¬ Int32.ofNat i < 0 := by
  have e : (Int32.ofNat i).toInt = i := Int32.toInt_ofNat_small (by omega)
  refine ⟨by simp only [Int32.toNatClampNeg, e]; rfl, fun q => ?_⟩
  have := Int32.lt_iff_toInt_lt.mp q
  rw [e] at this
  have z : (0 : Int32).toInt = 0 := rfl
  omega
def refOf : Value → Nat | .ref b => b | _ => 0
theorem boxes_list (B : Bxs Z a c K d 256 val) : ∃ bs : List Nat, bs.length = 256 ∧ c.slots = (bs.map (fun b => Value.ref b)).toArray ∧ ∀ i b, bs[i]? = some b → Exa Z Z.heap b K ∧ Fld Z Z.heap b K "value" d (val (Int32.ofNat i)) := by
  obtain ⟨-, hs, -, hb⟩ := B
  have hs : c.slots.size = 256 := hs
  have key : ∀ i, i < 256 → ∃ b : Addr, c.slots[i]? = some (.ref b) ∧ Exa Z Z.heap b K ∧ Fld Z Z.heap b K "value" d (val (Int32.ofNat i)) := fun i hi => by
    obtain ⟨e1, e2⟩ := i32_clamp hi
    obtain ⟨b, h1, h2, h3⟩ := hb (Int32.ofNat i) (fun q => q.elim e2 (fun q => by rw [e1] at q; omega))
    rw [e1] at h1
    exact ⟨b, h1, h2, h3⟩
  refine ⟨c.slots.toList.map refOf, by simpa using hs, ?_, fun i b h => ?_⟩
  · apply Array.ext_getElem?
    intro i
    by_cases hi : i < 256
    · obtain ⟨b, h1, -, -⟩ := key i hi
      rw [h1]
      simp [h1, refOf]
    · rw [Array.getElem?_eq_none (by omega), Array.getElem?_eq_none (by simp; omega)]
  · have hi : i < 256 := by
      have := (List.getElem?_eq_some_iff.mp h).1
      simpa [hs] using this
    obtain ⟨b', h1, h2, h3⟩ := key i hi
    have : b = b' := by
      simp [h1, refOf] at h
      exact h.symm
    subst this
    exact ⟨h2, h3⟩
def boxH (cid : Nat) (K : String) (val : Int32 → Value) : Hp := (List.range 256).map (fun i => ((.inr cid, [val (Int32.ofNat i)]) : Obj)) ++ [(.inl (.object K), (List.range 256).map Value.ref)]
theorem boxH_len (cid : Nat) (K : String) (val : Int32 → Value) : (boxH cid K val).length = 257 := by simp [boxH]
theorem boxH_box {cid : Nat} {K : String} {val : Int32 → Value} {i : Nat} (hi : i < 256) : (boxH cid K val)[i]? = some (.inr cid, [val (Int32.ofNat i)]) := by
  unfold boxH
  rw [List.getElem?_append_left (by simpa using hi)]
  simp [hi]
theorem boxH_arr {cid : Nat} {K : String} {val : Int32 → Value} : (boxH cid K val)[256]? = some (.inl (.object K), (List.range 256).map Value.ref) := by
  unfold boxH
  rw [List.getElem?_append_right (by simp)]
  simp
theorem boxes_nodup {bs : List Nat} (hv : ∀ i j, i < 256 → j < 256 → val (Int32.ofNat i) = val (Int32.ofNat j) → i = j) (hl : bs.length = 256) (hb : ∀ i b, bs[i]? = some b → Exa Z Z.heap b K ∧ Fld Z Z.heap b K "value" d (val (Int32.ofNat i))) : bs.Nodup := by
  refine List.pairwise_iff_getElem.mpr fun i j hi hj hij e => ?_
  have h1 : bs[j]? = some bs[j] := List.getElem?_eq_getElem hj
  have h0 : bs[i]? = some bs[j] := by rw [List.getElem?_eq_getElem hi, e]
  have := fld_inj (hb _ _ h0).2 (hb _ _ h1).2
  have := hv i j (by omega) (by omega) this
  omega
theorem boxes_obj {P : Prg} {ρ : Nat → Addr} {cid : Nat} {ty : FieldType} {bs : List Nat} (hj : 257 ≤ P.j0) (hn : P.cname cid = K) (hf : P.flds cid = [(K, "value", d, ty)]) (hv : ∀ i j, val i = .ref j → False) (hl : bs.length = 256) (hs : c.slots = (bs.map (fun b => Value.ref b)).toArray)
    (hb : ∀ i b, bs[i]? = some b → Exa Z Z.heap b K ∧ Fld Z Z.heap b K "value" d (val (Int32.ofNat i))) (A : Arr Z Z.heap a c (.object K)) (hr : ∀ i b, bs[i]? = some b → ρ i = b) (ha : ρ 256 = a) {i : Nat} {o : Obj} (h : (boxH cid K val)[i]? = some o) : ObjOk P Z ρ Z.heap i o := by
  have hi : i < 257 := by rw [← boxH_len cid K val]; exact (List.getElem?_eq_some_iff.mp h).1
  by_cases q : i < 256
  · rw [boxH_box q] at h
    cases h
    have e : bs[i]? = some bs[i] := List.getElem?_eq_getElem (by omega)
    obtain ⟨E, F⟩ := hb i _ e
    refine fun _ => ⟨by rw [hr i _ e, hn]; exact E, fun q v fd h1 h2 => ?_⟩
    rw [hf] at h2
    match q, h1, h2 with
    | 0, h1, h2 =>
      cases h1; cases h2
      rw [hr i _ e]
      have : tv ρ (val (Int32.ofNat i)) = val (Int32.ofNat i) := by
        cases q : val (Int32.ofNat i) <;> first | rfl | exact (hv _ _ q).elim
      rw [this]
      exact F
  · have : i = 256 := by omega
    subst this
    rw [boxH_arr] at h
    cases h
    refine ⟨c, by rw [ha]; exact A, ?_, fun q => by omega, fun q => by omega⟩
    rw [hs]
    apply congrArg
    apply List.ext_getElem?
    intro i
    by_cases hi : i < 256
    · have e : bs[i]? = some bs[i] := List.getElem?_eq_getElem (by omega)
      simp [e, hi, tv, hr i _ e]
    · rw [List.getElem?_eq_none (by simp; omega), List.getElem?_eq_none (by simp; omega)]
theorem exa_ne {h : Heap} {a b : Addr} {C D : String} (E : Exa Z h a C) (F : Exa Z h b D) (hn : C ≠ D) : a ≠ b := fun e => by
  subst e
  obtain ⟨c1, k1, a1, a2, a3, -⟩ := E
  obtain ⟨c2, k2, b1, b2, b3, -⟩ := F
  cases a1.symm.trans b1
  obtain ⟨k, e1, e2⟩ := Vm.findClass_spec a2
  obtain ⟨k', f1, f2⟩ := Vm.findClass_spec b2
  cases e1.symm.trans f1
  exact hn (e2.symm.trans f2)
theorem box_start {args : Array Value} {t F : Term} (et : ∀ idx, t.eval args Z none idx Z = some (.ref a)) (hA : (Jvm.Cond.arrayOf t (.object K)).value args Z none Z [] = some true) (hl : (Jvm.Cond.eq (.length t) (.int 256)).value args Z none Z [] = some true)
    (h : (Jvm.Cond.all t (.and (.exactly (.elem t (.index 0)) K) (.eq (.field (.elem t (.index 0)) K "value" d) F))).value args Z none Z [] = some true)
    (hv : ∀ (X : Term) (j : Int32), ¬ j < 0 → (Jvm.Cond.eq X F).value args Z none Z [j.toNatClampNeg] = some true → X.eval args Z none [j.toNatClampNeg] Z = some (val j)) : ∃ c, Bxs Z a c K d 256 val := by
  obtain ⟨c, A⟩ := Arr.start (et []) hA
  have e := eqv_i (Term.int_eval 256) hl
  have AA := A.fin (Vm.Alike.refl _)
  have q : c.slots.size < 2 ^ 31 := by
    apply Classical.byContradiction
    intro q
    simp [Term.eval, et [], AA, q] at e
  rw [len_f (et []) AA q] at e
  exact ⟨c, Bxs.start et A q (Value.int.inj (Option.some.inj e)) (by decide) h hv⟩
end Box
/-! ### a class that isn't another's heir, where that other is known to be instantiable -/
section No
variable {Z : State} {a0 : Array Value}
theorem ns_root {O K : String} {n : Nat} (w : (Jvm.Cond.noSuperclass O).before a0 Z = true) (wk : (Jvm.Cond.instantiable K n).before a0 Z = true) (hn : O ≠ K) : NS Z O K := by
  obtain ⟨c, k, h1, h2, h3, -, -⟩ := Cond.noSuperclass_spec w
  obtain ⟨t, kt, g1, -⟩ := Cond.instantiable_spec wk
  have ne := ids_ne h1 g1 hn
  refine ⟨c, t, h1, g1, fun fuel => ?_⟩
  cases fuel with
  | zero => rfl
  | succ f => simp [Vm.isSubclassAux, ne, h2, h3]
theorem ns_no {C S K : String} {n : Nat} (w : (Jvm.Cond.superclass C S).before a0 Z = true) (wk : (Jvm.Cond.instantiable K n).before a0 Z = true) (m : NS Z C K) (hn : C ≠ K) : ∃ c t, Z.vm.findClass C = some c ∧ Z.vm.findClass K = some t ∧ Z.vm.assignable c t = false := by
  obtain ⟨c, t, h0, g0, n3⟩ := m
  obtain ⟨p, k, kp, h1, h2, h3, h4, h5, -, h7⟩ := Cond.superclass_spec h0 w
  obtain ⟨t', kt, g1, g2, g3, g4, -⟩ := Cond.instantiable_spec wk
  cases g0.symm.trans g1
  have g5 : kt.isInterface = false := by
    cases q : kt.isInterface with
    | false => rfl
    | true => rw [q] at g4; cases g4
  have ne := ids_ne h0 g0 hn
  refine ⟨c, t, h0, g0, ?_⟩
  show Z.vm.assignableAux (255 + 1) c t = false
  simp [Vm.assignableAux, ne, h2, g2, h5, g3, g5, Vm.isSubclass, n3]
theorem ins_no {h : Heap} {a : Addr} {C K : String} (E : Exa Z h a C) (F : ∃ c t, Z.vm.findClass C = some c ∧ Z.vm.findClass K = some t ∧ Z.vm.assignable c t = false) : Ins Z h a K false := by
  obtain ⟨c, t, f1, f2, f3⟩ := F
  obtain ⟨cell, k, e1, e2, -⟩ := E
  cases f1.symm.trans e2
  exact ⟨cell, t, e1, f2, by rw [f3, Bool.and_false]⟩
end No
end Jvm.MM
namespace Jvm.Pilot.@@N@@
open Jvm Jvm.ClassFile Sem Op Lib Jvm.Free Jvm.Stand Jvm.LawKit Jvm.RoadKit Bundle Jvm.MM Jvm.Pilot.@@N@@.Jvm.D
def mths : List Mth := [(x, code, maxLocals, ret, room_1),
  (⟨"org/polje/iso2709/Iso2709IsPrintableAscii275PinLaw", "draw", "(I)C"⟩, method_3_code, 1, (some .char), { frames := 0, cells := 0, slots := 0, locals := 0 }),
  (⟨"java/lang/String", "<init>", "([C)V"⟩, jdk_42_method_3_code, 2, none, { frames := 5, cells := 2, slots := 9, locals := 77 }),
  (⟨"java/lang/String", "<init>", "([CIILjava/lang/Void;)V"⟩, jdk_42_method_149_code, 6, none, { frames := 4, cells := 2, slots := 9, locals := 60 }),
  (⟨"org/polje/iso2709/Iso2709", "isPrintableAscii", "(Ljava/lang/String;)Z"⟩, prog_46_method_4_code, 2, (some .boolean), { frames := 5, cells := 0, slots := 0, locals := 66 }),
  (⟨"java/lang/String", "length", "()I"⟩, jdk_42_method_54_code, 1, (some .int), { frames := 1, cells := 0, slots := 0, locals := 13 }),
  (⟨"java/lang/String", "coder", "()B"⟩, jdk_42_method_152_code, 1, (some .byte), { frames := 0, cells := 0, slots := 0, locals := 0 }),
  (⟨"java/lang/StringUTF16", "compress", "([CII)[B"⟩, jdk_52_method_16_code, 6, (some (.array .byte)), { frames := 3, cells := 2, slots := 9, locals := 43 }),
  (⟨"java/lang/StringUTF16", "compress", "([CI[BII)I"⟩, jdk_52_method_21_code, 7, (some .int), { frames := 0, cells := 0, slots := 0, locals := 0 }),
  (⟨"java/lang/StringUTF16", "coderFromArrayLen", "([BI)B"⟩, jdk_52_method_15_code, 2, (some .byte), { frames := 0, cells := 0, slots := 0, locals := 0 }),
  (⟨"org/polje/iso2709/Iso2709IsPrintableAscii275PinLaw", "printable", "(C)Z"⟩, method_4_code, 2, (some .boolean), { frames := 0, cells := 0, slots := 0, locals := 0 }),
  (⟨"java/lang/String", "charAt", "(I)C"⟩, jdk_42_method_56_code, 2, (some .char), { frames := 4, cells := 0, slots := 0, locals := 53 }),
  (⟨"java/lang/String", "isLatin1", "()Z"⟩, jdk_42_method_154_code, 1, (some .boolean), { frames := 0, cells := 0, slots := 0, locals := 0 }),
  (⟨"java/lang/StringLatin1", "charAt", "([BI)C"⟩, jdk_43_method_2_code, 2, (some .char), { frames := 2, cells := 0, slots := 0, locals := 27 }),
  (⟨"java/lang/String", "checkIndex", "(II)V"⟩, jdk_42_method_155_code, 2, none, { frames := 1, cells := 0, slots := 0, locals := 14 }),
  (⟨"jdk/internal/util/Preconditions", "checkIndex", "(IILjava/util/function/BiFunction;)I"⟩, jdk_41_method_11_code, 3, (some .int), { frames := 0, cells := 0, slots := 0, locals := 0 }),
  (⟨"java/lang/StringUTF16", "toBytes", "([CII)[B"⟩, jdk_52_method_14_code, 5, (some (.array .byte)), { frames := 2, cells := 1, slots := 6, locals := 27 }),
  (⟨"java/lang/StringUTF16", "newBytesFor", "(I)[B"⟩, jdk_52_method_2_code, 1, (some (.array .byte)), { frames := 1, cells := 1, slots := 6, locals := 12 }),
  (⟨"java/lang/StringUTF16", "newBytesLength", "(I)I"⟩, jdk_52_method_3_code, 1, (some .int), { frames := 0, cells := 0, slots := 0, locals := 0 }),
  (⟨"java/lang/StringUTF16", "putChar", "([BII)V"⟩, jdk_52_method_4_code, 3, none, { frames := 1, cells := 0, slots := 0, locals := 13 }),
  (⟨"java/lang/StringUTF16", "getChar", "([BI)C"⟩, jdk_52_method_5_code, 2, (some .char), { frames := 1, cells := 0, slots := 0, locals := 13 }),
  (⟨"java/lang/StringUTF16", "charAt", "([BI)C"⟩, jdk_52_method_83_code, 2, (some .char), { frames := 3, cells := 0, slots := 0, locals := 40 }),
  (⟨"java/lang/StringUTF16", "checkIndex", "(I[B)V"⟩, jdk_52_method_91_code, 2, none, { frames := 2, cells := 0, slots := 0, locals := 27 }),
  (⟨"java/lang/StringUTF16", "length", "([B)I"⟩, jdk_52_method_6_code, 1, (some .int), { frames := 0, cells := 0, slots := 0, locals := 0 })]
def clss : List Cls := [("java/lang/String", 4, [("java/lang/String", "value", "[B", (.array .byte)), ("java/lang/String", "coder", "B", .byte)])]
def Pg (jz : Nat) (cs : Int32) (sf : Value) : Prg := (mths, clss, [(5, 9, 0, 0), (6, 15, 0, 1), (11, 9, 0, 0), (12, 15, 0, 1)], [(3, 15, 0, 1), (3, 9, 0, 0)], [(3, 38, 0), (6, 38, 0), (12, 38, 0), (14, 1053, 1), (19, 44, 2), (19, 59, 3), (19, 63, 4), (20, 44, 2), (20, 59, 3), (20, 63, 4)], [("java/lang/String", "COMPACT_STRINGS", "Z", .int cs), ("jdk/internal/util/Preconditions", "SIOOBE_FORMATTER", "Ljava/util/function/BiFunction;", sf), ("java/lang/StringUTF16", "$assertionsDisabled", "Z", .int 1), ("java/lang/StringUTF16", "HI_BYTE_SHIFT", "I", .int 0), ("java/lang/StringUTF16", "LO_BYTE_SHIFT", "I", .int 8)], [(0, 13, 0)], [], [.char, .byte], [], [(1, 28, 65535), (18, 20, 1073741823)], [], [(0, 7, 0, 1, 1), (0, 15, 1, 1, 2), (0, 22, 0, 1, 4), (0, 18, 0, 1, 10), (2, 27, 1, 4, 3), (3, 1, 6, 0, 0), (3, 177, 0, 3, 7), (3, 47, 0, 2, 9), (4, 7, 2, 0, 0), (4, 13, 2, 1, 0), (5, 335, 2, 0, 0), (7, 115, 0, 5, 8), (7, 119, 0, 3, 16), (7, 71, 0, 2, 20), (11, 492, 2, 0, 0), (11, 498, 0, 2, 21), (11, 495, 0, 2, 13), (13, 9, 0, 2, 14), (14, 1059, 0, 3, 15), (16, 107, 0, 1, 17), (16, 111, 0, 3, 19), (17, 11, 0, 1, 18), (19, 48, 0, 1, 23), (20, 48, 0, 1, 23), (21, 67, 0, 2, 22), (21, 71, 0, 2, 20), (22, 48, 0, 1, 23), (22, 414, 0, 2, 14)], [(4, 7, 0, 0, 5), (4, 13, 0, 1, 11), (5, 335, 0, 0, 6), (11, 492, 0, 0, 12)], [(0, 105, 3), (0, 80, 2), (0, 54, 1), (0, 33, 0), (7, 1, 3), (17, 4, 6)], jz)
section Words
variable {Z : State} {a0 : Array Value} (hw : ∀ d ∈ tables_1, d.before a0 Z = true)
theorem cl0 (hw : ∀ d ∈ tables_1, d.before a0 Z = true) : ClsOk Z a0 ("java/lang/String", 4, [("java/lang/String", "value", "[B", (.array .byte)), ("java/lang/String", "coder", "B", .byte)]) := ⟨(hw _ (List.mem_of_getElem? (i := 5) rfl)), am_cons (⟨Or.inr (hw _ (List.mem_of_getElem? (i := 20) rfl)), by decide⟩) (am_cons (⟨Or.inr (hw _ (List.mem_of_getElem? (i := 21) rfl)), by decide⟩) (am_nil)), by decide⟩
theorem pf0 : plainFor (x : MethodName) = true := by first | exact plainFor_of_name (by decide +kernel) | decide +kernel
theorem pf1 : plainFor (⟨"org/polje/iso2709/Iso2709IsPrintableAscii275PinLaw", "draw", "(I)C"⟩ : MethodName) = true := by first | exact plainFor_of_name (by decide +kernel) | decide +kernel
theorem mo1 (hw : ∀ d ∈ tables_1, d.before a0 Z = true) : MthOk Z a0 (⟨"org/polje/iso2709/Iso2709IsPrintableAscii275PinLaw", "draw", "(I)C"⟩, method_3_code, 1, (some .char), { frames := 0, cells := 0, slots := 0, locals := 0 }) := ⟨(hw _ (List.mem_of_getElem? (i := 3) rfl)), (hw _ (List.mem_of_getElem? (i := 2) rfl)), pf1, by decide⟩
theorem pf2 : plainFor (⟨"java/lang/String", "<init>", "([C)V"⟩ : MethodName) = true := by first | exact plainFor_of_name (by decide +kernel) | decide +kernel
theorem mo2 (hw : ∀ d ∈ tables_1, d.before a0 Z = true) : MthOk Z a0 (⟨"java/lang/String", "<init>", "([C)V"⟩, jdk_42_method_3_code, 2, none, { frames := 5, cells := 2, slots := 9, locals := 77 }) := ⟨(hw _ (List.mem_of_getElem? (i := 10) rfl)), (hw _ (List.mem_of_getElem? (i := 6) rfl)), pf2, by decide⟩
theorem pf3 : plainFor (⟨"java/lang/String", "<init>", "([CIILjava/lang/Void;)V"⟩ : MethodName) = true := by first | exact plainFor_of_name (by decide +kernel) | decide +kernel
theorem mo3 (hw : ∀ d ∈ tables_1, d.before a0 Z = true) : MthOk Z a0 (⟨"java/lang/String", "<init>", "([CIILjava/lang/Void;)V"⟩, jdk_42_method_149_code, 6, none, { frames := 4, cells := 2, slots := 9, locals := 60 }) := ⟨(hw _ (List.mem_of_getElem? (i := 14) rfl)), (hw _ (List.mem_of_getElem? (i := 6) rfl)), pf3, by decide⟩
theorem pf4 : plainFor (⟨"org/polje/iso2709/Iso2709", "isPrintableAscii", "(Ljava/lang/String;)Z"⟩ : MethodName) = true := by first | exact plainFor_of_name (by decide +kernel) | decide +kernel
theorem mo4 (hw : ∀ d ∈ tables_1, d.before a0 Z = true) : MthOk Z a0 (⟨"org/polje/iso2709/Iso2709", "isPrintableAscii", "(Ljava/lang/String;)Z"⟩, prog_46_method_4_code, 2, (some .boolean), { frames := 5, cells := 0, slots := 0, locals := 66 }) := ⟨(hw _ (List.mem_of_getElem? (i := 29) rfl)), (hw _ (List.mem_of_getElem? (i := 28) rfl)), pf4, by decide⟩
theorem pf5 : plainFor (⟨"java/lang/String", "length", "()I"⟩ : MethodName) = true := by first | exact plainFor_of_name (by decide +kernel) | decide +kernel
theorem mo5 (hw : ∀ d ∈ tables_1, d.before a0 Z = true) : MthOk Z a0 (⟨"java/lang/String", "length", "()I"⟩, jdk_42_method_54_code, 1, (some .int), { frames := 1, cells := 0, slots := 0, locals := 13 }) := ⟨(hw _ (List.mem_of_getElem? (i := 34) rfl)), (hw _ (List.mem_of_getElem? (i := 6) rfl)), pf5, by decide⟩
theorem pf6 : plainFor (⟨"java/lang/String", "coder", "()B"⟩ : MethodName) = true := by first | exact plainFor_of_name (by decide +kernel) | decide +kernel
theorem mo6 (hw : ∀ d ∈ tables_1, d.before a0 Z = true) : MthOk Z a0 (⟨"java/lang/String", "coder", "()B"⟩, jdk_42_method_152_code, 1, (some .byte), { frames := 0, cells := 0, slots := 0, locals := 0 }) := ⟨(hw _ (List.mem_of_getElem? (i := 39) rfl)), (hw _ (List.mem_of_getElem? (i := 6) rfl)), pf6, by decide⟩
theorem pf7 : plainFor (⟨"java/lang/StringUTF16", "compress", "([CII)[B"⟩ : MethodName) = true := by first | exact plainFor_of_name (by decide +kernel) | decide +kernel
theorem mo7 (hw : ∀ d ∈ tables_1, d.before a0 Z = true) : MthOk Z a0 (⟨"java/lang/StringUTF16", "compress", "([CII)[B"⟩, jdk_52_method_16_code, 6, (some (.array .byte)), { frames := 3, cells := 2, slots := 9, locals := 43 }) := ⟨(hw _ (List.mem_of_getElem? (i := 44) rfl)), (hw _ (List.mem_of_getElem? (i := 43) rfl)), pf7, by decide⟩
theorem pf8 : plainFor (⟨"java/lang/StringUTF16", "compress", "([CI[BII)I"⟩ : MethodName) = true := by first | exact plainFor_of_name (by decide +kernel) | decide +kernel
theorem mo8 (hw : ∀ d ∈ tables_1, d.before a0 Z = true) : MthOk Z a0 (⟨"java/lang/StringUTF16", "compress", "([CI[BII)I"⟩, jdk_52_method_21_code, 7, (some .int), { frames := 0, cells := 0, slots := 0, locals := 0 }) := ⟨(hw _ (List.mem_of_getElem? (i := 47) rfl)), (hw _ (List.mem_of_getElem? (i := 43) rfl)), pf8, by decide⟩
theorem pf9 : plainFor (⟨"java/lang/StringUTF16", "coderFromArrayLen", "([BI)B"⟩ : MethodName) = true := by first | exact plainFor_of_name (by decide +kernel) | decide +kernel
theorem mo9 (hw : ∀ d ∈ tables_1, d.before a0 Z = true) : MthOk Z a0 (⟨"java/lang/StringUTF16", "coderFromArrayLen", "([BI)B"⟩, jdk_52_method_15_code, 2, (some .byte), { frames := 0, cells := 0, slots := 0, locals := 0 }) := ⟨(hw _ (List.mem_of_getElem? (i := 50) rfl)), (hw _ (List.mem_of_getElem? (i := 43) rfl)), pf9, by decide⟩
theorem pf10 : plainFor (⟨"org/polje/iso2709/Iso2709IsPrintableAscii275PinLaw", "printable", "(C)Z"⟩ : MethodName) = true := by first | exact plainFor_of_name (by decide +kernel) | decide +kernel
theorem mo10 (hw : ∀ d ∈ tables_1, d.before a0 Z = true) : MthOk Z a0 (⟨"org/polje/iso2709/Iso2709IsPrintableAscii275PinLaw", "printable", "(C)Z"⟩, method_4_code, 2, (some .boolean), { frames := 0, cells := 0, slots := 0, locals := 0 }) := ⟨(hw _ (List.mem_of_getElem? (i := 53) rfl)), (hw _ (List.mem_of_getElem? (i := 2) rfl)), pf10, by decide⟩
theorem pf11 : plainFor (⟨"java/lang/String", "charAt", "(I)C"⟩ : MethodName) = true := by first | exact plainFor_of_name (by decide +kernel) | decide +kernel
theorem mo11 (hw : ∀ d ∈ tables_1, d.before a0 Z = true) : MthOk Z a0 (⟨"java/lang/String", "charAt", "(I)C"⟩, jdk_42_method_56_code, 2, (some .char), { frames := 4, cells := 0, slots := 0, locals := 53 }) := ⟨(hw _ (List.mem_of_getElem? (i := 58) rfl)), (hw _ (List.mem_of_getElem? (i := 6) rfl)), pf11, by decide⟩
theorem pf12 : plainFor (⟨"java/lang/String", "isLatin1", "()Z"⟩ : MethodName) = true := by first | exact plainFor_of_name (by decide +kernel) | decide +kernel
theorem mo12 (hw : ∀ d ∈ tables_1, d.before a0 Z = true) : MthOk Z a0 (⟨"java/lang/String", "isLatin1", "()Z"⟩, jdk_42_method_154_code, 1, (some .boolean), { frames := 0, cells := 0, slots := 0, locals := 0 }) := ⟨(hw _ (List.mem_of_getElem? (i := 63) rfl)), (hw _ (List.mem_of_getElem? (i := 6) rfl)), pf12, by decide⟩
theorem pf13 : plainFor (⟨"java/lang/StringLatin1", "charAt", "([BI)C"⟩ : MethodName) = true := by first | exact plainFor_of_name (by decide +kernel) | decide +kernel
theorem mo13 (hw : ∀ d ∈ tables_1, d.before a0 Z = true) : MthOk Z a0 (⟨"java/lang/StringLatin1", "charAt", "([BI)C"⟩, jdk_43_method_2_code, 2, (some .char), { frames := 2, cells := 0, slots := 0, locals := 27 }) := ⟨(hw _ (List.mem_of_getElem? (i := 67) rfl)), (hw _ (List.mem_of_getElem? (i := 66) rfl)), pf13, by decide⟩
theorem pf14 : plainFor (⟨"java/lang/String", "checkIndex", "(II)V"⟩ : MethodName) = true := by first | exact plainFor_of_name (by decide +kernel) | decide +kernel
theorem mo14 (hw : ∀ d ∈ tables_1, d.before a0 Z = true) : MthOk Z a0 (⟨"java/lang/String", "checkIndex", "(II)V"⟩, jdk_42_method_155_code, 2, none, { frames := 1, cells := 0, slots := 0, locals := 14 }) := ⟨(hw _ (List.mem_of_getElem? (i := 70) rfl)), (hw _ (List.mem_of_getElem? (i := 6) rfl)), pf14, by decide⟩
theorem pf15 : plainFor (⟨"jdk/internal/util/Preconditions", "checkIndex", "(IILjava/util/function/BiFunction;)I"⟩ : MethodName) = true := by first | exact plainFor_of_name (by decide +kernel) | decide +kernel
theorem mo15 (hw : ∀ d ∈ tables_1, d.before a0 Z = true) : MthOk Z a0 (⟨"jdk/internal/util/Preconditions", "checkIndex", "(IILjava/util/function/BiFunction;)I"⟩, jdk_41_method_11_code, 3, (some .int), { frames := 0, cells := 0, slots := 0, locals := 0 }) := ⟨(hw _ (List.mem_of_getElem? (i := 75) rfl)), (hw _ (List.mem_of_getElem? (i := 72) rfl)), pf15, by decide⟩
theorem pf16 : plainFor (⟨"java/lang/StringUTF16", "toBytes", "([CII)[B"⟩ : MethodName) = true := by first | exact plainFor_of_name (by decide +kernel) | decide +kernel
theorem mo16 (hw : ∀ d ∈ tables_1, d.before a0 Z = true) : MthOk Z a0 (⟨"java/lang/StringUTF16", "toBytes", "([CII)[B"⟩, jdk_52_method_14_code, 5, (some (.array .byte)), { frames := 2, cells := 1, slots := 6, locals := 27 }) := ⟨(hw _ (List.mem_of_getElem? (i := 79) rfl)), (hw _ (List.mem_of_getElem? (i := 43) rfl)), pf16, by decide⟩
theorem pf17 : plainFor (⟨"java/lang/StringUTF16", "newBytesFor", "(I)[B"⟩ : MethodName) = true := by first | exact plainFor_of_name (by decide +kernel) | decide +kernel
theorem mo17 (hw : ∀ d ∈ tables_1, d.before a0 Z = true) : MthOk Z a0 (⟨"java/lang/StringUTF16", "newBytesFor", "(I)[B"⟩, jdk_52_method_2_code, 1, (some (.array .byte)), { frames := 1, cells := 1, slots := 6, locals := 12 }) := ⟨(hw _ (List.mem_of_getElem? (i := 82) rfl)), (hw _ (List.mem_of_getElem? (i := 43) rfl)), pf17, by decide⟩
theorem pf18 : plainFor (⟨"java/lang/StringUTF16", "newBytesLength", "(I)I"⟩ : MethodName) = true := by first | exact plainFor_of_name (by decide +kernel) | decide +kernel
theorem mo18 (hw : ∀ d ∈ tables_1, d.before a0 Z = true) : MthOk Z a0 (⟨"java/lang/StringUTF16", "newBytesLength", "(I)I"⟩, jdk_52_method_3_code, 1, (some .int), { frames := 0, cells := 0, slots := 0, locals := 0 }) := ⟨(hw _ (List.mem_of_getElem? (i := 85) rfl)), (hw _ (List.mem_of_getElem? (i := 43) rfl)), pf18, by decide⟩
theorem pf19 : plainFor (⟨"java/lang/StringUTF16", "putChar", "([BII)V"⟩ : MethodName) = true := by first | exact plainFor_of_name (by decide +kernel) | decide +kernel
theorem mo19 (hw : ∀ d ∈ tables_1, d.before a0 Z = true) : MthOk Z a0 (⟨"java/lang/StringUTF16", "putChar", "([BII)V"⟩, jdk_52_method_4_code, 3, none, { frames := 1, cells := 0, slots := 0, locals := 13 }) := ⟨(hw _ (List.mem_of_getElem? (i := 89) rfl)), (hw _ (List.mem_of_getElem? (i := 43) rfl)), pf19, by decide⟩
theorem pf20 : plainFor (⟨"java/lang/StringUTF16", "getChar", "([BI)C"⟩ : MethodName) = true := by first | exact plainFor_of_name (by decide +kernel) | decide +kernel
theorem mo20 (hw : ∀ d ∈ tables_1, d.before a0 Z = true) : MthOk Z a0 (⟨"java/lang/StringUTF16", "getChar", "([BI)C"⟩, jdk_52_method_5_code, 2, (some .char), { frames := 1, cells := 0, slots := 0, locals := 13 }) := ⟨(hw _ (List.mem_of_getElem? (i := 95) rfl)), (hw _ (List.mem_of_getElem? (i := 43) rfl)), pf20, by decide⟩
theorem pf21 : plainFor (⟨"java/lang/StringUTF16", "charAt", "([BI)C"⟩ : MethodName) = true := by first | exact plainFor_of_name (by decide +kernel) | decide +kernel
theorem mo21 (hw : ∀ d ∈ tables_1, d.before a0 Z = true) : MthOk Z a0 (⟨"java/lang/StringUTF16", "charAt", "([BI)C"⟩, jdk_52_method_83_code, 2, (some .char), { frames := 3, cells := 0, slots := 0, locals := 40 }) := ⟨(hw _ (List.mem_of_getElem? (i := 98) rfl)), (hw _ (List.mem_of_getElem? (i := 43) rfl)), pf21, by decide⟩
theorem pf22 : plainFor (⟨"java/lang/StringUTF16", "checkIndex", "(I[B)V"⟩ : MethodName) = true := by first | exact plainFor_of_name (by decide +kernel) | decide +kernel
theorem mo22 (hw : ∀ d ∈ tables_1, d.before a0 Z = true) : MthOk Z a0 (⟨"java/lang/StringUTF16", "checkIndex", "(I[B)V"⟩, jdk_52_method_91_code, 2, none, { frames := 2, cells := 0, slots := 0, locals := 27 }) := ⟨(hw _ (List.mem_of_getElem? (i := 101) rfl)), (hw _ (List.mem_of_getElem? (i := 43) rfl)), pf22, by decide⟩
theorem pf23 : plainFor (⟨"java/lang/StringUTF16", "length", "([B)I"⟩ : MethodName) = true := by first | exact plainFor_of_name (by decide +kernel) | decide +kernel
theorem mo23 (hw : ∀ d ∈ tables_1, d.before a0 Z = true) : MthOk Z a0 (⟨"java/lang/StringUTF16", "length", "([B)I"⟩, jdk_52_method_6_code, 1, (some .int), { frames := 0, cells := 0, slots := 0, locals := 0 }) := ⟨(hw _ (List.mem_of_getElem? (i := 104) rfl)), (hw _ (List.mem_of_getElem? (i := 43) rfl)), pf23, by decide⟩
theorem ok_fl (jz : Nat) (cs : Int32) (sf : Value) (hw : ∀ d ∈ tables_1, d.before a0 Z = true) : ∀ q ∈ (Pg jz cs sf).fl, FlOk (Pg jz cs sf) Z a0 q :=
  am_cons (⟨("java/lang/String", "value", "[B", (.array .byte)), rfl, "java/lang/String", (hw _ (List.mem_of_getElem? (i := 24) rfl)), Via.refl⟩) (am_cons (⟨("java/lang/String", "coder", "B", .byte), rfl, "java/lang/String", (hw _ (List.mem_of_getElem? (i := 25) rfl)), Via.refl⟩) (am_cons (⟨("java/lang/String", "value", "[B", (.array .byte)), rfl, "java/lang/String", (hw _ (List.mem_of_getElem? (i := 24) rfl)), Via.refl⟩) (am_cons (⟨("java/lang/String", "coder", "B", .byte), rfl, "java/lang/String", (hw _ (List.mem_of_getElem? (i := 25) rfl)), Via.refl⟩) (am_nil))))
theorem ok_fw (jz : Nat) (cs : Int32) (sf : Value) (hw : ∀ d ∈ tables_1, d.before a0 Z = true) : ∀ q ∈ (Pg jz cs sf).fw, FwOk (Pg jz cs sf) Z a0 q :=
  am_cons (⟨("java/lang/String", 4, [("java/lang/String", "value", "[B", (.array .byte)), ("java/lang/String", "coder", "B", .byte)]), rfl, cl0 hw, ("java/lang/String", "coder", "B", .byte), rfl, ⟨"java/lang/String", (hw _ (List.mem_of_getElem? (i := 25) rfl)), Via.refl⟩, (Or.inr ⟨(hw _ (List.mem_of_getElem? (i := 21) rfl)), rfl, rfl⟩)⟩) (am_cons (⟨("java/lang/String", 4, [("java/lang/String", "value", "[B", (.array .byte)), ("java/lang/String", "coder", "B", .byte)]), rfl, cl0 hw, ("java/lang/String", "value", "[B", (.array .byte)), rfl, ⟨"java/lang/String", (hw _ (List.mem_of_getElem? (i := 24) rfl)), Via.refl⟩, (Or.inr ⟨(hw _ (List.mem_of_getElem? (i := 20) rfl)), rfl, rfl⟩)⟩) (am_nil))
theorem ok_sf (jz : Nat) (cs : Int32) (sf : Value) (hw : ∀ d ∈ tables_1, d.before a0 Z = true) : ∀ q ∈ (Pg jz cs sf).sf, SfOk (Pg jz cs sf) Z a0 q :=
  am_cons (⟨("java/lang/String", "COMPACT_STRINGS", "Z", .int cs), rfl, "java/lang/String", (hw _ (List.mem_of_getElem? (i := 40) rfl)), Via.refl⟩) (am_cons (⟨("java/lang/String", "COMPACT_STRINGS", "Z", .int cs), rfl, "java/lang/String", (hw _ (List.mem_of_getElem? (i := 40) rfl)), Via.refl⟩) (am_cons (⟨("java/lang/String", "COMPACT_STRINGS", "Z", .int cs), rfl, "java/lang/String", (hw _ (List.mem_of_getElem? (i := 40) rfl)), Via.refl⟩) (am_cons (⟨("jdk/internal/util/Preconditions", "SIOOBE_FORMATTER", "Ljava/util/function/BiFunction;", sf), rfl, "jdk/internal/util/Preconditions", (hw _ (List.mem_of_getElem? (i := 71) rfl)), Via.refl⟩) (am_cons (⟨("java/lang/StringUTF16", "$assertionsDisabled", "Z", .int 1), rfl, "java/lang/StringUTF16", (hw _ (List.mem_of_getElem? (i := 90) rfl)), Via.refl⟩) (am_cons (⟨("java/lang/StringUTF16", "HI_BYTE_SHIFT", "I", .int 0), rfl, "java/lang/StringUTF16", (hw _ (List.mem_of_getElem? (i := 91) rfl)), Via.refl⟩) (am_cons (⟨("java/lang/StringUTF16", "LO_BYTE_SHIFT", "I", .int 8), rfl, "java/lang/StringUTF16", (hw _ (List.mem_of_getElem? (i := 92) rfl)), Via.refl⟩) (am_cons (⟨("java/lang/StringUTF16", "$assertionsDisabled", "Z", .int 1), rfl, "java/lang/StringUTF16", (hw _ (List.mem_of_getElem? (i := 90) rfl)), Via.refl⟩) (am_cons (⟨("java/lang/StringUTF16", "HI_BYTE_SHIFT", "I", .int 0), rfl, "java/lang/StringUTF16", (hw _ (List.mem_of_getElem? (i := 91) rfl)), Via.refl⟩) (am_cons (⟨("java/lang/StringUTF16", "LO_BYTE_SHIFT", "I", .int 8), rfl, "java/lang/StringUTF16", (hw _ (List.mem_of_getElem? (i := 92) rfl)), Via.refl⟩) (am_nil))))))))))
theorem ok_nw (jz : Nat) (cs : Int32) (sf : Value) (hw : ∀ d ∈ tables_1, d.before a0 Z = true) : ∀ q ∈ (Pg jz cs sf).nw, NwOk (Pg jz cs sf) Z a0 q :=
  am_cons (⟨("java/lang/String", 4, [("java/lang/String", "value", "[B", (.array .byte)), ("java/lang/String", "coder", "B", .byte)]), rfl, cl0 hw, (hw _ (List.mem_of_getElem? (i := 4) rfl)), (hw _ (List.mem_of_getElem? (i := 6) rfl))⟩) (am_nil)
theorem ok_na (jz : Nat) (cs : Int32) (sf : Value) (hw : ∀ d ∈ tables_1, d.before a0 Z = true) : ∀ q ∈ (Pg jz cs sf).na, NaOk (Pg jz cs sf) Z a0 q :=
  am_nil
theorem ok_ca (jz : Nat) (cs : Int32) (sf : Value) {ρ : Nat → Addr} (hw : ∀ d ∈ tables_1, d.before a0 Z = true) : ∀ q ∈ (Pg jz cs sf).ca, CaOk (Pg jz cs sf) Z a0 ρ q :=
  am_nil
theorem ok_ki (jz : Nat) (cs : Int32) (sf : Value) (hw : ∀ d ∈ tables_1, d.before a0 Z = true) : ∀ q ∈ (Pg jz cs sf).ki, KiOk (Pg jz cs sf) Z a0 q :=
  am_cons ((hw _ (List.mem_of_getElem? (i := 76) rfl))) (am_cons ((hw _ (List.mem_of_getElem? (i := 86) rfl))) (am_nil))
theorem ok_kl (jz : Nat) (cs : Int32) (sf : Value) (hw : ∀ d ∈ tables_1, d.before a0 Z = true) : ∀ q ∈ (Pg jz cs sf).kl, KlOk (Pg jz cs sf) Z a0 q :=
  am_nil
theorem ok_ic (jz : Nat) (cs : Int32) (sf : Value) (hw : ∀ d ∈ tables_1, d.before a0 Z = true) : ∀ q ∈ (Pg jz cs sf).ic, IcOk (Pg jz cs sf) Z a0 q :=
  am_cons (⟨(hw _ (List.mem_of_getElem? (i := 0) rfl)), (hw _ (List.mem_of_getElem? (i := 1) rfl)), mo1 hw, (show Arity "(I)C" 1 from Arity.of (by decide +kernel))⟩) (am_cons (⟨rfl, (hw _ (List.mem_of_getElem? (i := 8) rfl)), (hw _ (List.mem_of_getElem? (i := 9) rfl)), mo2 hw, rfl, (show Arity "([C)V" 1 from Arity.of (by decide +kernel))⟩) (am_cons (⟨(hw _ (List.mem_of_getElem? (i := 26) rfl)), (hw _ (List.mem_of_getElem? (i := 27) rfl)), mo4 hw, (show Arity "(Ljava/lang/String;)Z" 1 from Arity.of (by decide +kernel))⟩) (am_cons (⟨(hw _ (List.mem_of_getElem? (i := 51) rfl)), (hw _ (List.mem_of_getElem? (i := 52) rfl)), mo10 hw, (show Arity "(C)Z" 1 from Arity.of (by decide +kernel))⟩) (am_cons (⟨rfl, (hw _ (List.mem_of_getElem? (i := 11) rfl)), (hw _ (List.mem_of_getElem? (i := 12) rfl)), mo3 hw, rfl, (show Arity "([CIILjava/lang/Void;)V" 4 from Arity.of (by decide +kernel))⟩) (am_cons (⟨(hw _ (List.mem_of_getElem? (i := 15) rfl)), (hw _ (List.mem_of_getElem? (i := 16) rfl)), (hw _ (List.mem_of_getElem? (i := 17) rfl))⟩) (am_cons (⟨(hw _ (List.mem_of_getElem? (i := 41) rfl)), (hw _ (List.mem_of_getElem? (i := 42) rfl)), mo7 hw, (show Arity "([CII)[B" 3 from Arity.of (by decide +kernel))⟩) (am_cons (⟨(hw _ (List.mem_of_getElem? (i := 48) rfl)), (hw _ (List.mem_of_getElem? (i := 49) rfl)), mo9 hw, (show Arity "([BI)B" 2 from Arity.of (by decide +kernel))⟩) (am_cons (trivial) (am_cons (trivial) (am_cons (trivial) (am_cons (⟨(hw _ (List.mem_of_getElem? (i := 45) rfl)), (hw _ (List.mem_of_getElem? (i := 46) rfl)), mo8 hw, (show Arity "([CI[BII)I" 5 from Arity.of (by decide +kernel))⟩) (am_cons (⟨(hw _ (List.mem_of_getElem? (i := 77) rfl)), (hw _ (List.mem_of_getElem? (i := 78) rfl)), mo16 hw, (show Arity "([CII)[B" 3 from Arity.of (by decide +kernel))⟩) (am_cons (⟨(hw _ (List.mem_of_getElem? (i := 93) rfl)), (hw _ (List.mem_of_getElem? (i := 94) rfl)), mo20 hw, (show Arity "([BI)C" 2 from Arity.of (by decide +kernel))⟩) (am_cons (trivial) (am_cons (⟨(hw _ (List.mem_of_getElem? (i := 96) rfl)), (hw _ (List.mem_of_getElem? (i := 97) rfl)), mo21 hw, (show Arity "([BI)C" 2 from Arity.of (by decide +kernel))⟩) (am_cons (⟨(hw _ (List.mem_of_getElem? (i := 64) rfl)), (hw _ (List.mem_of_getElem? (i := 65) rfl)), mo13 hw, (show Arity "([BI)C" 2 from Arity.of (by decide +kernel))⟩) (am_cons (⟨(hw _ (List.mem_of_getElem? (i := 68) rfl)), (hw _ (List.mem_of_getElem? (i := 69) rfl)), mo14 hw, (show Arity "(II)V" 2 from Arity.of (by decide +kernel))⟩) (am_cons (⟨(hw _ (List.mem_of_getElem? (i := 73) rfl)), (hw _ (List.mem_of_getElem? (i := 74) rfl)), mo15 hw, (show Arity "(IILjava/util/function/BiFunction;)I" 3 from Arity.of (by decide +kernel))⟩) (am_cons (⟨(hw _ (List.mem_of_getElem? (i := 80) rfl)), (hw _ (List.mem_of_getElem? (i := 81) rfl)), mo17 hw, (show Arity "(I)[B" 1 from Arity.of (by decide +kernel))⟩) (am_cons (⟨(hw _ (List.mem_of_getElem? (i := 87) rfl)), (hw _ (List.mem_of_getElem? (i := 88) rfl)), mo19 hw, (show Arity "([BII)V" 3 from Arity.of (by decide +kernel))⟩) (am_cons (⟨(hw _ (List.mem_of_getElem? (i := 83) rfl)), (hw _ (List.mem_of_getElem? (i := 84) rfl)), mo18 hw, (show Arity "(I)I" 1 from Arity.of (by decide +kernel))⟩) (am_cons (⟨(hw _ (List.mem_of_getElem? (i := 102) rfl)), (hw _ (List.mem_of_getElem? (i := 103) rfl)), mo23 hw, (show Arity "([B)I" 1 from Arity.of (by decide +kernel))⟩) (am_cons (⟨(hw _ (List.mem_of_getElem? (i := 102) rfl)), (hw _ (List.mem_of_getElem? (i := 103) rfl)), mo23 hw, (show Arity "([B)I" 1 from Arity.of (by decide +kernel))⟩) (am_cons (⟨(hw _ (List.mem_of_getElem? (i := 99) rfl)), (hw _ (List.mem_of_getElem? (i := 100) rfl)), mo22 hw, (show Arity "(I[B)V" 2 from Arity.of (by decide +kernel))⟩) (am_cons (⟨(hw _ (List.mem_of_getElem? (i := 93) rfl)), (hw _ (List.mem_of_getElem? (i := 94) rfl)), mo20 hw, (show Arity "([BI)C" 2 from Arity.of (by decide +kernel))⟩) (am_cons (⟨(hw _ (List.mem_of_getElem? (i := 102) rfl)), (hw _ (List.mem_of_getElem? (i := 103) rfl)), mo23 hw, (show Arity "([B)I" 1 from Arity.of (by decide +kernel))⟩) (am_cons (⟨(hw _ (List.mem_of_getElem? (i := 105) rfl)), (hw _ (List.mem_of_getElem? (i := 69) rfl)), mo14 hw, (show Arity "(II)V" 2 from Arity.of (by decide +kernel))⟩) (am_nil))))))))))))))))))))))))))))
theorem ok_vc (jz : Nat) (cs : Int32) (sf : Value) (hw : ∀ d ∈ tables_1, d.before a0 Z = true) : ∀ q ∈ (Pg jz cs sf).vc, VcOk (Pg jz cs sf) Z a0 q :=
  am_cons (⟨⟨"java/lang/String", "length", "()I"⟩, (hw _ (List.mem_of_getElem? (i := 30) rfl)), (hw _ (List.mem_of_getElem? (i := 31) rfl)), Or.inl ⟨_, (hw _ (List.mem_of_getElem? (i := 33) rfl))⟩, (hw _ (List.mem_of_getElem? (i := 33) rfl)), (hw _ (List.mem_of_getElem? (i := 32) rfl)), mo5 hw, by decide, (show Arity "()I" 0 from Arity.of (by decide +kernel)), Nat.le_of_ble_eq_true rfl⟩) (am_cons (⟨⟨"java/lang/String", "charAt", "(I)C"⟩, (hw _ (List.mem_of_getElem? (i := 54) rfl)), (hw _ (List.mem_of_getElem? (i := 55) rfl)), Or.inl ⟨_, (hw _ (List.mem_of_getElem? (i := 57) rfl))⟩, (hw _ (List.mem_of_getElem? (i := 57) rfl)), (hw _ (List.mem_of_getElem? (i := 56) rfl)), mo11 hw, by decide, (show Arity "(I)C" 1 from Arity.of (by decide +kernel)), Nat.le_of_ble_eq_true rfl⟩) (am_cons (⟨⟨"java/lang/String", "coder", "()B"⟩, (hw _ (List.mem_of_getElem? (i := 35) rfl)), (hw _ (List.mem_of_getElem? (i := 36) rfl)), Or.inl ⟨_, (hw _ (List.mem_of_getElem? (i := 38) rfl))⟩, (hw _ (List.mem_of_getElem? (i := 38) rfl)), (hw _ (List.mem_of_getElem? (i := 37) rfl)), mo6 hw, by decide, (show Arity "()B" 0 from Arity.of (by decide +kernel)), Nat.le_of_ble_eq_true rfl⟩) (am_cons (⟨⟨"java/lang/String", "isLatin1", "()Z"⟩, (hw _ (List.mem_of_getElem? (i := 59) rfl)), (hw _ (List.mem_of_getElem? (i := 60) rfl)), Or.inl ⟨_, (hw _ (List.mem_of_getElem? (i := 62) rfl))⟩, (hw _ (List.mem_of_getElem? (i := 62) rfl)), (hw _ (List.mem_of_getElem? (i := 61) rfl)), mo12 hw, by decide, (show Arity "()Z" 0 from Arity.of (by decide +kernel)), Nat.le_of_ble_eq_true rfl⟩) (am_nil))))
theorem ok_ats (jz : Nat) (cs : Int32) (sf : Value) (hw : ∀ d ∈ tables_1, d.before a0 Z = true) : ∀ ty ∈ (Pg jz cs sf).ats, Wd Z a0 (.arrayClass ty) :=
  am_cons ((hw _ (List.mem_of_getElem? (i := 7) rfl))) (am_cons ((hw _ (List.mem_of_getElem? (i := 19) rfl))) (am_nil))
theorem okP (jz : Nat) (cs : Int32) (sf : Value) {ρ : Nat → Addr} (hw : ∀ d ∈ tables_1, d.before a0 Z = true) : PrgOk (Pg jz cs sf) Z a0 ρ := ⟨ok_fl jz cs sf hw, ok_fw jz cs sf hw, ok_sf jz cs sf hw, ok_nw jz cs sf hw, ok_na jz cs sf hw, ok_ats jz cs sf hw, ok_ca jz cs sf (ρ := ρ) hw, ok_ki jz cs sf hw, ok_kl jz cs sf hw, ok_ic jz cs sf hw, ok_vc jz cs sf hw⟩
end Words
theorem j0_eq (jz : Nat) (cs : Int32) (sf : Value) : (Pg jz cs sf).j0 = jz := rfl
theorem d0_0 (jz : Nat) (cs : Int32) (sf : Value) : decode ((Pg jz cs sf).mt 0).code 0 = .ok (.iload_n 0, 1) := (by decide +kernel : decode code 0 = .ok (.iload_n 0, 1))
theorem w0_0 {jz : Nat} {cs : Int32} {sf : Value} {L : List Slot} {S : List Value} {H : Hp} {k : Nat} {n : Nat} {Q : MRes → Prop}  {x : Int32} : Wp (Pg jz cs sf) 0 (0, .val (.int x) :: L, S, H, k, n) Q ↔ Wp (Pg jz cs sf) 0 (1, .val (.int x) :: L, (.int x) :: S, H, k, n) Q := gP (d0_0 _ _ _) rfl rfl
theorem d0_1 (jz : Nat) (cs : Int32) (sf : Value) : decode ((Pg jz cs sf).mt 0).code 1 = .ok (.iconst 3, 1) := (by decide +kernel : decode code 1 = .ok (.iconst 3, 1))
theorem w0_1 {jz : Nat} {cs : Int32} {sf : Value} {L : List Slot} {S : List Value} {H : Hp} {k : Nat} {n : Nat} {Q : MRes → Prop} : Wp (Pg jz cs sf) 0 (1, L, S, H, k, n) Q ↔ Wp (Pg jz cs sf) 0 (2, L, (.int 3) :: S, H, k, n) Q := gP (d0_1 _ _ _) rfl rfl
theorem d0_2 (jz : Nat) (cs : Int32) (sf : Value) : decode ((Pg jz cs sf).mt 0).code 2 = .ok (.iand, 1) := (by decide +kernel : decode code 2 = .ok (.iand, 1))
theorem w0_2 {jz : Nat} {cs : Int32} {sf : Value} {L : List Slot} {S : List Value} {H : Hp} {k : Nat} {n : Nat} {Q : MRes → Prop} {x y : Int32} : Wp (Pg jz cs sf) 0 (2, L, (.int y) :: (.int x) :: S, H, k, n) Q ↔ Wp (Pg jz cs sf) 0 (3, L, (.int (x &&& y)) :: S, H, k, n) Q := gP (d0_2 _ _ _) rfl rfl
theorem d0_3 (jz : Nat) (cs : Int32) (sf : Value) : decode ((Pg jz cs sf).mt 0).code 3 = .ok (.istore 4, 2) := (by decide +kernel : decode code 3 = .ok (.istore 4, 2))
theorem w0_3 {jz : Nat} {cs : Int32} {sf : Value} {L : List Slot} {S : List Value} {H : Hp} {k : Nat} {n : Nat} {Q : MRes → Prop} {l0 l1 l2 l3 : Slot} {o : Slot} {x : Int32} (ho : s1 o = true) : Wp (Pg jz cs sf) 0 (3, l0 :: l1 :: l2 :: l3 :: o :: L, (.int x) :: S, H, k, n) Q ↔ Wp (Pg jz cs sf) 0 (5, l0 :: l1 :: l2 :: l3 :: .val (.int x) :: L, S, H, k, n) Q := gP (d0_3 _ _ _) rfl (st1_eq (o := o) rfl ho rfl)
theorem d0_5 (jz : Nat) (cs : Int32) (sf : Value) : decode ((Pg jz cs sf).mt 0).code 5 = .ok (.iload_n 1, 1) := (by decide +kernel : decode code 5 = .ok (.iload_n 1, 1))
theorem w0_5 {jz : Nat} {cs : Int32} {sf : Value} {L : List Slot} {S : List Value} {H : Hp} {k : Nat} {n : Nat} {Q : MRes → Prop} {l0 : Slot} {x : Int32} : Wp (Pg jz cs sf) 0 (5, l0 :: .val (.int x) :: L, S, H, k, n) Q ↔ Wp (Pg jz cs sf) 0 (6, l0 :: .val (.int x) :: L, (.int x) :: S, H, k, n) Q := gP (d0_5 _ _ _) rfl rfl
theorem d0_6 (jz : Nat) (cs : Int32) (sf : Value) : decode ((Pg jz cs sf).mt 0).code 6 = .ok (.invokestatic 7, 3) := (by decide +kernel : decode code 6 = .ok (.invokestatic 7, 3))
theorem w0_6 {jz : Nat} {cs : Int32} {sf : Value} {L : List Slot} {S : List Value} {H : Hp} {k : Nat} {n : Nat} {Q : MRes → Prop} {a0 : Int32}  (h1 : L.length = 10) (h2 : wt S ≤ 0) (h3 : k + 0 ≤ 24) (h4 : n + 0 ≤ 1152) : Wp (Pg jz cs sf) 0 (6, L, (.int a0) :: S, H, k, n) Q ↔ Wp (Pg jz cs sf) 1 (0, [.val (.int a0)], [], H, 0, 0) fun r => Wp (Pg jz cs sf) 0 (9, L, r.1.toList ++ S, r.2, k + 0, n + 0) Q := gCall (d0_6 _ _ _) rfl rfl (M := 10) (W := 0) (C := 24) (Sl := 1152) (c := 0) (s := 0) ⟨rfl, Nat.le_of_ble_eq_true rfl, Nat.le_of_ble_eq_true rfl, rfl, rfl, rfl, rfl⟩ (by show entL [(.int a0)] 1 = _; rw [entL, laid_c1 rfl, laid_nil]; rfl) h1 h2 h3 h4
theorem d0_9 (jz : Nat) (cs : Int32) (sf : Value) : decode ((Pg jz cs sf).mt 0).code 9 = .ok (.istore 5, 2) := (by decide +kernel : decode code 9 = .ok (.istore 5, 2))
theorem w0_9 {jz : Nat} {cs : Int32} {sf : Value} {L : List Slot} {S : List Value} {H : Hp} {k : Nat} {n : Nat} {Q : MRes → Prop} {l0 l1 l2 l3 l4 : Slot} {o : Slot} {x : Int32} (ho : s1 o = true) : Wp (Pg jz cs sf) 0 (9, l0 :: l1 :: l2 :: l3 :: l4 :: o :: L, (.int x) :: S, H, k, n) Q ↔ Wp (Pg jz cs sf) 0 (11, l0 :: l1 :: l2 :: l3 :: l4 :: .val (.int x) :: L, S, H, k, n) Q := gP (d0_9 _ _ _) rfl (st1_eq (o := o) rfl ho rfl)
theorem d0_11 (jz : Nat) (cs : Int32) (sf : Value) : decode ((Pg jz cs sf).mt 0).code 11 = .ok (.iload_n 2, 1) := (by decide +kernel : decode code 11 = .ok (.iload_n 2, 1))
theorem w0_11 {jz : Nat} {cs : Int32} {sf : Value} {L : List Slot} {S : List Value} {H : Hp} {k : Nat} {n : Nat} {Q : MRes → Prop} {l0 l1 : Slot} {x : Int32} : Wp (Pg jz cs sf) 0 (11, l0 :: l1 :: .val (.int x) :: L, S, H, k, n) Q ↔ Wp (Pg jz cs sf) 0 (12, l0 :: l1 :: .val (.int x) :: L, (.int x) :: S, H, k, n) Q := gP (d0_11 _ _ _) rfl rfl
theorem d0_12 (jz : Nat) (cs : Int32) (sf : Value) : decode ((Pg jz cs sf).mt 0).code 12 = .ok (.invokestatic 7, 3) := (by decide +kernel : decode code 12 = .ok (.invokestatic 7, 3))
theorem w0_12 {jz : Nat} {cs : Int32} {sf : Value} {L : List Slot} {S : List Value} {H : Hp} {k : Nat} {n : Nat} {Q : MRes → Prop} {a0 : Int32}  (h1 : L.length = 10) (h2 : wt S ≤ 0) (h3 : k + 0 ≤ 24) (h4 : n + 0 ≤ 1152) : Wp (Pg jz cs sf) 0 (12, L, (.int a0) :: S, H, k, n) Q ↔ Wp (Pg jz cs sf) 1 (0, [.val (.int a0)], [], H, 0, 0) fun r => Wp (Pg jz cs sf) 0 (15, L, r.1.toList ++ S, r.2, k + 0, n + 0) Q := gCall (d0_12 _ _ _) rfl rfl (M := 10) (W := 0) (C := 24) (Sl := 1152) (c := 0) (s := 0) ⟨rfl, Nat.le_of_ble_eq_true rfl, Nat.le_of_ble_eq_true rfl, rfl, rfl, rfl, rfl⟩ (by show entL [(.int a0)] 1 = _; rw [entL, laid_c1 rfl, laid_nil]; rfl) h1 h2 h3 h4
theorem d0_15 (jz : Nat) (cs : Int32) (sf : Value) : decode ((Pg jz cs sf).mt 0).code 15 = .ok (.istore 6, 2) := (by decide +kernel : decode code 15 = .ok (.istore 6, 2))
theorem w0_15 {jz : Nat} {cs : Int32} {sf : Value} {L : List Slot} {S : List Value} {H : Hp} {k : Nat} {n : Nat} {Q : MRes → Prop} {l0 l1 l2 l3 l4 l5 : Slot} {o : Slot} {x : Int32} (ho : s1 o = true) : Wp (Pg jz cs sf) 0 (15, l0 :: l1 :: l2 :: l3 :: l4 :: l5 :: o :: L, (.int x) :: S, H, k, n) Q ↔ Wp (Pg jz cs sf) 0 (17, l0 :: l1 :: l2 :: l3 :: l4 :: l5 :: .val (.int x) :: L, S, H, k, n) Q := gP (d0_15 _ _ _) rfl (st1_eq (o := o) rfl ho rfl)
theorem d0_17 (jz : Nat) (cs : Int32) (sf : Value) : decode ((Pg jz cs sf).mt 0).code 17 = .ok (.iload_n 3, 1) := (by decide +kernel : decode code 17 = .ok (.iload_n 3, 1))
theorem w0_17 {jz : Nat} {cs : Int32} {sf : Value} {L : List Slot} {S : List Value} {H : Hp} {k : Nat} {n : Nat} {Q : MRes → Prop} {l0 l1 l2 : Slot} {x : Int32} : Wp (Pg jz cs sf) 0 (17, l0 :: l1 :: l2 :: .val (.int x) :: L, S, H, k, n) Q ↔ Wp (Pg jz cs sf) 0 (18, l0 :: l1 :: l2 :: .val (.int x) :: L, (.int x) :: S, H, k, n) Q := gP (d0_17 _ _ _) rfl rfl
theorem d0_18 (jz : Nat) (cs : Int32) (sf : Value) : decode ((Pg jz cs sf).mt 0).code 18 = .ok (.invokestatic 7, 3) := (by decide +kernel : decode code 18 = .ok (.invokestatic 7, 3))
theorem w0_18 {jz : Nat} {cs : Int32} {sf : Value} {L : List Slot} {S : List Value} {H : Hp} {k : Nat} {n : Nat} {Q : MRes → Prop} {a0 : Int32}  (h1 : L.length = 10) (h2 : wt S ≤ 0) (h3 : k + 0 ≤ 24) (h4 : n + 0 ≤ 1152) : Wp (Pg jz cs sf) 0 (18, L, (.int a0) :: S, H, k, n) Q ↔ Wp (Pg jz cs sf) 1 (0, [.val (.int a0)], [], H, 0, 0) fun r => Wp (Pg jz cs sf) 0 (21, L, r.1.toList ++ S, r.2, k + 0, n + 0) Q := gCall (d0_18 _ _ _) rfl rfl (M := 10) (W := 0) (C := 24) (Sl := 1152) (c := 0) (s := 0) ⟨rfl, Nat.le_of_ble_eq_true rfl, Nat.le_of_ble_eq_true rfl, rfl, rfl, rfl, rfl⟩ (by show entL [(.int a0)] 1 = _; rw [entL, laid_c1 rfl, laid_nil]; rfl) h1 h2 h3 h4
theorem d0_21 (jz : Nat) (cs : Int32) (sf : Value) : decode ((Pg jz cs sf).mt 0).code 21 = .ok (.istore 7, 2) := (by decide +kernel : decode code 21 = .ok (.istore 7, 2))
theorem w0_21 {jz : Nat} {cs : Int32} {sf : Value} {L : List Slot} {S : List Value} {H : Hp} {k : Nat} {n : Nat} {Q : MRes → Prop} {l0 l1 l2 l3 l4 l5 l6 : Slot} {o : Slot} {x : Int32} (ho : s1 o = true) : Wp (Pg jz cs sf) 0 (21, l0 :: l1 :: l2 :: l3 :: l4 :: l5 :: l6 :: o :: L, (.int x) :: S, H, k, n) Q ↔ Wp (Pg jz cs sf) 0 (23, l0 :: l1 :: l2 :: l3 :: l4 :: l5 :: l6 :: .val (.int x) :: L, S, H, k, n) Q := gP (d0_21 _ _ _) rfl (st1_eq (o := o) rfl ho rfl)
theorem d0_23 (jz : Nat) (cs : Int32) (sf : Value) : decode ((Pg jz cs sf).mt 0).code 23 = .ok (.iload 4, 2) := (by decide +kernel : decode code 23 = .ok (.iload 4, 2))
theorem w0_23 {jz : Nat} {cs : Int32} {sf : Value} {L : List Slot} {S : List Value} {H : Hp} {k : Nat} {n : Nat} {Q : MRes → Prop} {l0 l1 l2 l3 : Slot} {x : Int32} : Wp (Pg jz cs sf) 0 (23, l0 :: l1 :: l2 :: l3 :: .val (.int x) :: L, S, H, k, n) Q ↔ Wp (Pg jz cs sf) 0 (25, l0 :: l1 :: l2 :: l3 :: .val (.int x) :: L, (.int x) :: S, H, k, n) Q := gP (d0_23 _ _ _) rfl rfl
theorem d0_25 (jz : Nat) (cs : Int32) (sf : Value) : decode ((Pg jz cs sf).mt 0).code 25 = .ok (.ifCond .ne 18, 3) := (by decide +kernel : decode code 25 = .ok (.ifCond .ne 18, 3))
theorem w0_25 {jz : Nat} {cs : Int32} {sf : Value} {L : List Slot} {S : List Value} {H : Hp} {k : Nat} {n : Nat} {Q : MRes → Prop} {x : Int32} : Wp (Pg jz cs sf) 0 (25, L, (.int x) :: S, H, k, n) Q ↔ if ¬ x = 0 then Wp (Pg jz cs sf) 0 (43, L, S, H, k, n) Q else Wp (Pg jz cs sf) 0 (28, L, S, H, k, n) Q := gIf (d0_25 _ _ _) (by decide) (by decide) (c_ne x)
theorem d0_28 (jz : Nat) (cs : Int32) (sf : Value) : decode ((Pg jz cs sf).mt 0).code 28 = .ok (.new 13, 3) := (by decide +kernel : decode code 28 = .ok (.new 13, 3))
theorem w0_28 {jz : Nat} {cs : Int32} {sf : Value} {L : List Slot} {S : List Value} {H : Hp} {k : Nat} {n : Nat} {Q : MRes → Prop} (h1 : k + 1 ≤ 24) (h2 : n + 4 ≤ 1152) : Wp (Pg jz cs sf) 0 (28, L, S, H, k, n) Q ↔ Wp (Pg jz cs sf) 0 (31, L, (.ref H.length) :: S, H ++ [(.inr 0, [.null, .int 0])], k + 1, n + 4) Q := gNew (d0_28 _ _ _) rfl rfl rfl rfl rfl h1 h2
theorem d0_31 (jz : Nat) (cs : Int32) (sf : Value) : decode ((Pg jz cs sf).mt 0).code 31 = .ok (.dup, 1) := (by decide +kernel : decode code 31 = .ok (.dup, 1))
theorem w0_31 {jz : Nat} {cs : Int32} {sf : Value} {L : List Slot} {S : List Value} {H : Hp} {k : Nat} {n : Nat} {Q : MRes → Prop} {v : Value} (hv : cat v = 1) : Wp (Pg jz cs sf) 0 (31, L, v :: S, H, k, n) Q ↔ Wp (Pg jz cs sf) 0 (32, L, v :: v :: S, H, k, n) Q := gP (d0_31 _ _ _) rfl (by simp only [plainI, fdup, if_pos hv, keepL])
theorem d0_32 (jz : Nat) (cs : Int32) (sf : Value) : decode ((Pg jz cs sf).mt 0).code 32 = .ok (.iconst 0, 1) := (by decide +kernel : decode code 32 = .ok (.iconst 0, 1))
theorem w0_32 {jz : Nat} {cs : Int32} {sf : Value} {L : List Slot} {S : List Value} {H : Hp} {k : Nat} {n : Nat} {Q : MRes → Prop} : Wp (Pg jz cs sf) 0 (32, L, S, H, k, n) Q ↔ Wp (Pg jz cs sf) 0 (33, L, (.int 0) :: S, H, k, n) Q := gP (d0_32 _ _ _) rfl rfl
theorem d0_33 (jz : Nat) (cs : Int32) (sf : Value) : decode ((Pg jz cs sf).mt 0).code 33 = .ok (.newarray .char, 2) := (by decide +kernel : decode code 33 = .ok (.newarray .char, 2))
theorem w0_33 {jz : Nat} {cs : Int32} {sf : Value} {L : List Slot} {S : List Value} {H : Hp} {k : Nat} {n : Nat} {Q : MRes → Prop} {x : Int32} (h1 : k + 1 ≤ 24) (h2 : n + 0 ≤ 1152) : Wp (Pg jz cs sf) 0 (33, L, (.int x) :: S, H, k, n) Q ↔ (¬ x < 0 ∧ x.toNatClampNeg ≤ 0) ∧ Wp (Pg jz cs sf) 0 (35, L, (.ref H.length) :: S, H ++ [(.inl .char, List.replicate x.toNatClampNeg (.int 0))], k + 1, n + 0) Q := gNewA (d0_33 _ _ _) rfl (List.mem_of_getElem? (i := 0) rfl) rfl (by decide) rfl rfl h1 h2
theorem d0_35 (jz : Nat) (cs : Int32) (sf : Value) : decode ((Pg jz cs sf).mt 0).code 35 = .ok (.invokespecial 15, 3) := (by decide +kernel : decode code 35 = .ok (.invokespecial 15, 3))
theorem w0_35 {jz : Nat} {cs : Int32} {sf : Value} {L : List Slot} {S : List Value} {H : Hp} {k : Nat} {n : Nat} {Q : MRes → Prop} {a0 : Value} {a : Nat}  (h_a0 : cat a0 = 1) (h1 : L.length = 10) (h2 : wt S ≤ 1) (h3 : k + 2 ≤ 24) (h4 : n + 9 ≤ 1152) : Wp (Pg jz cs sf) 0 (35, L, a0 :: (.ref a) :: S, H, k, n) Q ↔ Wp (Pg jz cs sf) 2 (0, [.val (.ref a), .val a0], [], H, 0, 0) fun r => Wp (Pg jz cs sf) 0 (38, L, r.1.toList ++ S, r.2, k + 2, n + 9) Q := gCall (d0_35 _ _ _) rfl rfl (M := 10) (W := 1) (C := 24) (Sl := 1152) (c := 2) (s := 9) ⟨rfl, Nat.le_of_ble_eq_true rfl, Nat.le_of_ble_eq_true rfl, rfl, rfl, rfl, rfl⟩ (by show entL [(.ref a), a0] 2 = _; rw [entL, laid_c1 rfl, laid_c1 h_a0, laid_nil]; rfl) h1 h2 h3 h4
theorem d0_38 (jz : Nat) (cs : Int32) (sf : Value) : decode ((Pg jz cs sf).mt 0).code 38 = .ok (.astore 8, 2) := (by decide +kernel : decode code 38 = .ok (.astore 8, 2))
theorem w0_38 {jz : Nat} {cs : Int32} {sf : Value} {L : List Slot} {S : List Value} {H : Hp} {k : Nat} {n : Nat} {Q : MRes → Prop} {l0 l1 l2 l3 l4 l5 l6 l7 : Slot} {o : Slot} {v : Value} (ho : s1 o = true) (hv : isA v = true) : Wp (Pg jz cs sf) 0 (38, l0 :: l1 :: l2 :: l3 :: l4 :: l5 :: l6 :: l7 :: o :: L, v :: S, H, k, n) Q ↔ Wp (Pg jz cs sf) 0 (40, l0 :: l1 :: l2 :: l3 :: l4 :: l5 :: l6 :: l7 :: .val v :: L, S, H, k, n) Q := gP (d0_38 _ _ _) rfl (st1_eq (o := o) rfl ho hv)
theorem d0_40 (jz : Nat) (cs : Int32) (sf : Value) : decode ((Pg jz cs sf).mt 0).code 40 = .ok (.goto 87, 3) := (by decide +kernel : decode code 40 = .ok (.goto 87, 3))
theorem w0_40 {jz : Nat} {cs : Int32} {sf : Value} {L : List Slot} {S : List Value} {H : Hp} {k : Nat} {n : Nat} {Q : MRes → Prop} : Wp (Pg jz cs sf) 0 (40, L, S, H, k, n) Q ↔ Wp (Pg jz cs sf) 0 (127, L, S, H, k, n) Q := gGoto (d0_40 _ _ _) (by decide) (by decide)
theorem d0_43 (jz : Nat) (cs : Int32) (sf : Value) : decode ((Pg jz cs sf).mt 0).code 43 = .ok (.iload 4, 2) := (by decide +kernel : decode code 43 = .ok (.iload 4, 2))
theorem w0_43 {jz : Nat} {cs : Int32} {sf : Value} {L : List Slot} {S : List Value} {H : Hp} {k : Nat} {n : Nat} {Q : MRes → Prop} {l0 l1 l2 l3 : Slot} {x : Int32} : Wp (Pg jz cs sf) 0 (43, l0 :: l1 :: l2 :: l3 :: .val (.int x) :: L, S, H, k, n) Q ↔ Wp (Pg jz cs sf) 0 (45, l0 :: l1 :: l2 :: l3 :: .val (.int x) :: L, (.int x) :: S, H, k, n) Q := gP (d0_43 _ _ _) rfl rfl
theorem d0_45 (jz : Nat) (cs : Int32) (sf : Value) : decode ((Pg jz cs sf).mt 0).code 45 = .ok (.iconst 1, 1) := (by decide +kernel : decode code 45 = .ok (.iconst 1, 1))
theorem w0_45 {jz : Nat} {cs : Int32} {sf : Value} {L : List Slot} {S : List Value} {H : Hp} {k : Nat} {n : Nat} {Q : MRes → Prop} : Wp (Pg jz cs sf) 0 (45, L, S, H, k, n) Q ↔ Wp (Pg jz cs sf) 0 (46, L, (.int 1) :: S, H, k, n) Q := gP (d0_45 _ _ _) rfl rfl
theorem d0_46 (jz : Nat) (cs : Int32) (sf : Value) : decode ((Pg jz cs sf).mt 0).code 46 = .ok (.if_icmp .ne 23, 3) := (by decide +kernel : decode code 46 = .ok (.if_icmp .ne 23, 3))
theorem w0_46 {jz : Nat} {cs : Int32} {sf : Value} {L : List Slot} {S : List Value} {H : Hp} {k : Nat} {n : Nat} {Q : MRes → Prop} {x y : Int32} : Wp (Pg jz cs sf) 0 (46, L, (.int y) :: (.int x) :: S, H, k, n) Q ↔ if ¬ x = y then Wp (Pg jz cs sf) 0 (69, L, S, H, k, n) Q else Wp (Pg jz cs sf) 0 (49, L, S, H, k, n) Q := gIcmp (d0_46 _ _ _) (by decide) (by decide) (i_ne x y)
theorem d0_49 (jz : Nat) (cs : Int32) (sf : Value) : decode ((Pg jz cs sf).mt 0).code 49 = .ok (.new 13, 3) := (by decide +kernel : decode code 49 = .ok (.new 13, 3))
theorem w0_49 {jz : Nat} {cs : Int32} {sf : Value} {L : List Slot} {S : List Value} {H : Hp} {k : Nat} {n : Nat} {Q : MRes → Prop} (h1 : k + 1 ≤ 24) (h2 : n + 4 ≤ 1152) : Wp (Pg jz cs sf) 0 (49, L, S, H, k, n) Q ↔ Wp (Pg jz cs sf) 0 (52, L, (.ref H.length) :: S, H ++ [(.inr 0, [.null, .int 0])], k + 1, n + 4) Q := gNew (d0_49 _ _ _) rfl rfl rfl rfl rfl h1 h2
theorem d0_52 (jz : Nat) (cs : Int32) (sf : Value) : decode ((Pg jz cs sf).mt 0).code 52 = .ok (.dup, 1) := (by decide +kernel : decode code 52 = .ok (.dup, 1))
theorem w0_52 {jz : Nat} {cs : Int32} {sf : Value} {L : List Slot} {S : List Value} {H : Hp} {k : Nat} {n : Nat} {Q : MRes → Prop} {v : Value} (hv : cat v = 1) : Wp (Pg jz cs sf) 0 (52, L, v :: S, H, k, n) Q ↔ Wp (Pg jz cs sf) 0 (53, L, v :: v :: S, H, k, n) Q := gP (d0_52 _ _ _) rfl (by simp only [plainI, fdup, if_pos hv, keepL])
theorem d0_53 (jz : Nat) (cs : Int32) (sf : Value) : decode ((Pg jz cs sf).mt 0).code 53 = .ok (.iconst 1, 1) := (by decide +kernel : decode code 53 = .ok (.iconst 1, 1))
theorem w0_53 {jz : Nat} {cs : Int32} {sf : Value} {L : List Slot} {S : List Value} {H : Hp} {k : Nat} {n : Nat} {Q : MRes → Prop} : Wp (Pg jz cs sf) 0 (53, L, S, H, k, n) Q ↔ Wp (Pg jz cs sf) 0 (54, L, (.int 1) :: S, H, k, n) Q := gP (d0_53 _ _ _) rfl rfl
theorem d0_54 (jz : Nat) (cs : Int32) (sf : Value) : decode ((Pg jz cs sf).mt 0).code 54 = .ok (.newarray .char, 2) := (by decide +kernel : decode code 54 = .ok (.newarray .char, 2))
theorem w0_54 {jz : Nat} {cs : Int32} {sf : Value} {L : List Slot} {S : List Value} {H : Hp} {k : Nat} {n : Nat} {Q : MRes → Prop} {x : Int32} (h1 : k + 1 ≤ 24) (h2 : n + 1 ≤ 1152) : Wp (Pg jz cs sf) 0 (54, L, (.int x) :: S, H, k, n) Q ↔ (¬ x < 0 ∧ x.toNatClampNeg ≤ 1) ∧ Wp (Pg jz cs sf) 0 (56, L, (.ref H.length) :: S, H ++ [(.inl .char, List.replicate x.toNatClampNeg (.int 0))], k + 1, n + 1) Q := gNewA (d0_54 _ _ _) rfl (List.mem_of_getElem? (i := 0) rfl) rfl (by decide) rfl rfl h1 h2
theorem d0_56 (jz : Nat) (cs : Int32) (sf : Value) : decode ((Pg jz cs sf).mt 0).code 56 = .ok (.dup, 1) := (by decide +kernel : decode code 56 = .ok (.dup, 1))
theorem w0_56 {jz : Nat} {cs : Int32} {sf : Value} {L : List Slot} {S : List Value} {H : Hp} {k : Nat} {n : Nat} {Q : MRes → Prop} {v : Value} (hv : cat v = 1) : Wp (Pg jz cs sf) 0 (56, L, v :: S, H, k, n) Q ↔ Wp (Pg jz cs sf) 0 (57, L, v :: v :: S, H, k, n) Q := gP (d0_56 _ _ _) rfl (by simp only [plainI, fdup, if_pos hv, keepL])
theorem d0_57 (jz : Nat) (cs : Int32) (sf : Value) : decode ((Pg jz cs sf).mt 0).code 57 = .ok (.iconst 0, 1) := (by decide +kernel : decode code 57 = .ok (.iconst 0, 1))
theorem w0_57 {jz : Nat} {cs : Int32} {sf : Value} {L : List Slot} {S : List Value} {H : Hp} {k : Nat} {n : Nat} {Q : MRes → Prop} : Wp (Pg jz cs sf) 0 (57, L, S, H, k, n) Q ↔ Wp (Pg jz cs sf) 0 (58, L, (.int 0) :: S, H, k, n) Q := gP (d0_57 _ _ _) rfl rfl
theorem d0_58 (jz : Nat) (cs : Int32) (sf : Value) : decode ((Pg jz cs sf).mt 0).code 58 = .ok (.iload 5, 2) := (by decide +kernel : decode code 58 = .ok (.iload 5, 2))
theorem w0_58 {jz : Nat} {cs : Int32} {sf : Value} {L : List Slot} {S : List Value} {H : Hp} {k : Nat} {n : Nat} {Q : MRes → Prop} {l0 l1 l2 l3 l4 : Slot} {x : Int32} : Wp (Pg jz cs sf) 0 (58, l0 :: l1 :: l2 :: l3 :: l4 :: .val (.int x) :: L, S, H, k, n) Q ↔ Wp (Pg jz cs sf) 0 (60, l0 :: l1 :: l2 :: l3 :: l4 :: .val (.int x) :: L, (.int x) :: S, H, k, n) Q := gP (d0_58 _ _ _) rfl rfl
theorem d0_60 (jz : Nat) (cs : Int32) (sf : Value) : decode ((Pg jz cs sf).mt 0).code 60 = .ok (.castore, 1) := (by decide +kernel : decode code 60 = .ok (.castore, 1))
theorem w0_60 {jz : Nat} {cs : Int32} {sf : Value} {L : List Slot} {S : List Value} {H : Hp} {k : Nat} {n : Nat} {Q : MRes → Prop} {a : Nat} {x : Int32} {v : Value} : Wp (Pg jz cs sf) 0 (60, L, v :: (.int x) :: (.ref a) :: S, H, k, n) Q ↔ ∃ H', stA (Pg jz cs sf) .castore H a x v = some H' ∧ Wp (Pg jz cs sf) 0 (61, L, S, H', k, n) Q := gStA (by simp) (d0_60 _ _ _)
theorem d0_61 (jz : Nat) (cs : Int32) (sf : Value) : decode ((Pg jz cs sf).mt 0).code 61 = .ok (.invokespecial 15, 3) := (by decide +kernel : decode code 61 = .ok (.invokespecial 15, 3))
theorem w0_61 {jz : Nat} {cs : Int32} {sf : Value} {L : List Slot} {S : List Value} {H : Hp} {k : Nat} {n : Nat} {Q : MRes → Prop} {a0 : Value} {a : Nat}  (h_a0 : cat a0 = 1) (h1 : L.length = 10) (h2 : wt S ≤ 1) (h3 : k + 2 ≤ 24) (h4 : n + 9 ≤ 1152) : Wp (Pg jz cs sf) 0 (61, L, a0 :: (.ref a) :: S, H, k, n) Q ↔ Wp (Pg jz cs sf) 2 (0, [.val (.ref a), .val a0], [], H, 0, 0) fun r => Wp (Pg jz cs sf) 0 (64, L, r.1.toList ++ S, r.2, k + 2, n + 9) Q := gCall (d0_61 _ _ _) rfl rfl (M := 10) (W := 1) (C := 24) (Sl := 1152) (c := 2) (s := 9) ⟨rfl, Nat.le_of_ble_eq_true rfl, Nat.le_of_ble_eq_true rfl, rfl, rfl, rfl, rfl⟩ (by show entL [(.ref a), a0] 2 = _; rw [entL, laid_c1 rfl, laid_c1 h_a0, laid_nil]; rfl) h1 h2 h3 h4
theorem d0_64 (jz : Nat) (cs : Int32) (sf : Value) : decode ((Pg jz cs sf).mt 0).code 64 = .ok (.astore 8, 2) := (by decide +kernel : decode code 64 = .ok (.astore 8, 2))
theorem w0_64 {jz : Nat} {cs : Int32} {sf : Value} {L : List Slot} {S : List Value} {H : Hp} {k : Nat} {n : Nat} {Q : MRes → Prop} {l0 l1 l2 l3 l4 l5 l6 l7 : Slot} {o : Slot} {v : Value} (ho : s1 o = true) (hv : isA v = true) : Wp (Pg jz cs sf) 0 (64, l0 :: l1 :: l2 :: l3 :: l4 :: l5 :: l6 :: l7 :: o :: L, v :: S, H, k, n) Q ↔ Wp (Pg jz cs sf) 0 (66, l0 :: l1 :: l2 :: l3 :: l4 :: l5 :: l6 :: l7 :: .val v :: L, S, H, k, n) Q := gP (d0_64 _ _ _) rfl (st1_eq (o := o) rfl ho hv)
theorem d0_66 (jz : Nat) (cs : Int32) (sf : Value) : decode ((Pg jz cs sf).mt 0).code 66 = .ok (.goto 61, 3) := (by decide +kernel : decode code 66 = .ok (.goto 61, 3))
theorem w0_66 {jz : Nat} {cs : Int32} {sf : Value} {L : List Slot} {S : List Value} {H : Hp} {k : Nat} {n : Nat} {Q : MRes → Prop} : Wp (Pg jz cs sf) 0 (66, L, S, H, k, n) Q ↔ Wp (Pg jz cs sf) 0 (127, L, S, H, k, n) Q := gGoto (d0_66 _ _ _) (by decide) (by decide)
theorem d0_69 (jz : Nat) (cs : Int32) (sf : Value) : decode ((Pg jz cs sf).mt 0).code 69 = .ok (.iload 4, 2) := (by decide +kernel : decode code 69 = .ok (.iload 4, 2))
theorem w0_69 {jz : Nat} {cs : Int32} {sf : Value} {L : List Slot} {S : List Value} {H : Hp} {k : Nat} {n : Nat} {Q : MRes → Prop} {l0 l1 l2 l3 : Slot} {x : Int32} : Wp (Pg jz cs sf) 0 (69, l0 :: l1 :: l2 :: l3 :: .val (.int x) :: L, S, H, k, n) Q ↔ Wp (Pg jz cs sf) 0 (71, l0 :: l1 :: l2 :: l3 :: .val (.int x) :: L, (.int x) :: S, H, k, n) Q := gP (d0_69 _ _ _) rfl rfl
theorem d0_71 (jz : Nat) (cs : Int32) (sf : Value) : decode ((Pg jz cs sf).mt 0).code 71 = .ok (.iconst 2, 1) := (by decide +kernel : decode code 71 = .ok (.iconst 2, 1))
theorem w0_71 {jz : Nat} {cs : Int32} {sf : Value} {L : List Slot} {S : List Value} {H : Hp} {k : Nat} {n : Nat} {Q : MRes → Prop} : Wp (Pg jz cs sf) 0 (71, L, S, H, k, n) Q ↔ Wp (Pg jz cs sf) 0 (72, L, (.int 2) :: S, H, k, n) Q := gP (d0_71 _ _ _) rfl rfl
theorem d0_72 (jz : Nat) (cs : Int32) (sf : Value) : decode ((Pg jz cs sf).mt 0).code 72 = .ok (.if_icmp .ne 28, 3) := (by decide +kernel : decode code 72 = .ok (.if_icmp .ne 28, 3))
theorem w0_72 {jz : Nat} {cs : Int32} {sf : Value} {L : List Slot} {S : List Value} {H : Hp} {k : Nat} {n : Nat} {Q : MRes → Prop} {x y : Int32} : Wp (Pg jz cs sf) 0 (72, L, (.int y) :: (.int x) :: S, H, k, n) Q ↔ if ¬ x = y then Wp (Pg jz cs sf) 0 (100, L, S, H, k, n) Q else Wp (Pg jz cs sf) 0 (75, L, S, H, k, n) Q := gIcmp (d0_72 _ _ _) (by decide) (by decide) (i_ne x y)
theorem d0_75 (jz : Nat) (cs : Int32) (sf : Value) : decode ((Pg jz cs sf).mt 0).code 75 = .ok (.new 13, 3) := (by decide +kernel : decode code 75 = .ok (.new 13, 3))
theorem w0_75 {jz : Nat} {cs : Int32} {sf : Value} {L : List Slot} {S : List Value} {H : Hp} {k : Nat} {n : Nat} {Q : MRes → Prop} (h1 : k + 1 ≤ 24) (h2 : n + 4 ≤ 1152) : Wp (Pg jz cs sf) 0 (75, L, S, H, k, n) Q ↔ Wp (Pg jz cs sf) 0 (78, L, (.ref H.length) :: S, H ++ [(.inr 0, [.null, .int 0])], k + 1, n + 4) Q := gNew (d0_75 _ _ _) rfl rfl rfl rfl rfl h1 h2
theorem d0_78 (jz : Nat) (cs : Int32) (sf : Value) : decode ((Pg jz cs sf).mt 0).code 78 = .ok (.dup, 1) := (by decide +kernel : decode code 78 = .ok (.dup, 1))
theorem w0_78 {jz : Nat} {cs : Int32} {sf : Value} {L : List Slot} {S : List Value} {H : Hp} {k : Nat} {n : Nat} {Q : MRes → Prop} {v : Value} (hv : cat v = 1) : Wp (Pg jz cs sf) 0 (78, L, v :: S, H, k, n) Q ↔ Wp (Pg jz cs sf) 0 (79, L, v :: v :: S, H, k, n) Q := gP (d0_78 _ _ _) rfl (by simp only [plainI, fdup, if_pos hv, keepL])
theorem d0_79 (jz : Nat) (cs : Int32) (sf : Value) : decode ((Pg jz cs sf).mt 0).code 79 = .ok (.iconst 2, 1) := (by decide +kernel : decode code 79 = .ok (.iconst 2, 1))
theorem w0_79 {jz : Nat} {cs : Int32} {sf : Value} {L : List Slot} {S : List Value} {H : Hp} {k : Nat} {n : Nat} {Q : MRes → Prop} : Wp (Pg jz cs sf) 0 (79, L, S, H, k, n) Q ↔ Wp (Pg jz cs sf) 0 (80, L, (.int 2) :: S, H, k, n) Q := gP (d0_79 _ _ _) rfl rfl
theorem d0_80 (jz : Nat) (cs : Int32) (sf : Value) : decode ((Pg jz cs sf).mt 0).code 80 = .ok (.newarray .char, 2) := (by decide +kernel : decode code 80 = .ok (.newarray .char, 2))
theorem w0_80 {jz : Nat} {cs : Int32} {sf : Value} {L : List Slot} {S : List Value} {H : Hp} {k : Nat} {n : Nat} {Q : MRes → Prop} {x : Int32} (h1 : k + 1 ≤ 24) (h2 : n + 2 ≤ 1152) : Wp (Pg jz cs sf) 0 (80, L, (.int x) :: S, H, k, n) Q ↔ (¬ x < 0 ∧ x.toNatClampNeg ≤ 2) ∧ Wp (Pg jz cs sf) 0 (82, L, (.ref H.length) :: S, H ++ [(.inl .char, List.replicate x.toNatClampNeg (.int 0))], k + 1, n + 2) Q := gNewA (d0_80 _ _ _) rfl (List.mem_of_getElem? (i := 0) rfl) rfl (by decide) rfl rfl h1 h2
theorem d0_82 (jz : Nat) (cs : Int32) (sf : Value) : decode ((Pg jz cs sf).mt 0).code 82 = .ok (.dup, 1) := (by decide +kernel : decode code 82 = .ok (.dup, 1))
theorem w0_82 {jz : Nat} {cs : Int32} {sf : Value} {L : List Slot} {S : List Value} {H : Hp} {k : Nat} {n : Nat} {Q : MRes → Prop} {v : Value} (hv : cat v = 1) : Wp (Pg jz cs sf) 0 (82, L, v :: S, H, k, n) Q ↔ Wp (Pg jz cs sf) 0 (83, L, v :: v :: S, H, k, n) Q := gP (d0_82 _ _ _) rfl (by simp only [plainI, fdup, if_pos hv, keepL])
theorem d0_83 (jz : Nat) (cs : Int32) (sf : Value) : decode ((Pg jz cs sf).mt 0).code 83 = .ok (.iconst 0, 1) := (by decide +kernel : decode code 83 = .ok (.iconst 0, 1))
theorem w0_83 {jz : Nat} {cs : Int32} {sf : Value} {L : List Slot} {S : List Value} {H : Hp} {k : Nat} {n : Nat} {Q : MRes → Prop} : Wp (Pg jz cs sf) 0 (83, L, S, H, k, n) Q ↔ Wp (Pg jz cs sf) 0 (84, L, (.int 0) :: S, H, k, n) Q := gP (d0_83 _ _ _) rfl rfl
theorem d0_84 (jz : Nat) (cs : Int32) (sf : Value) : decode ((Pg jz cs sf).mt 0).code 84 = .ok (.iload 5, 2) := (by decide +kernel : decode code 84 = .ok (.iload 5, 2))
theorem w0_84 {jz : Nat} {cs : Int32} {sf : Value} {L : List Slot} {S : List Value} {H : Hp} {k : Nat} {n : Nat} {Q : MRes → Prop} {l0 l1 l2 l3 l4 : Slot} {x : Int32} : Wp (Pg jz cs sf) 0 (84, l0 :: l1 :: l2 :: l3 :: l4 :: .val (.int x) :: L, S, H, k, n) Q ↔ Wp (Pg jz cs sf) 0 (86, l0 :: l1 :: l2 :: l3 :: l4 :: .val (.int x) :: L, (.int x) :: S, H, k, n) Q := gP (d0_84 _ _ _) rfl rfl
theorem d0_86 (jz : Nat) (cs : Int32) (sf : Value) : decode ((Pg jz cs sf).mt 0).code 86 = .ok (.castore, 1) := (by decide +kernel : decode code 86 = .ok (.castore, 1))
theorem w0_86 {jz : Nat} {cs : Int32} {sf : Value} {L : List Slot} {S : List Value} {H : Hp} {k : Nat} {n : Nat} {Q : MRes → Prop} {a : Nat} {x : Int32} {v : Value} : Wp (Pg jz cs sf) 0 (86, L, v :: (.int x) :: (.ref a) :: S, H, k, n) Q ↔ ∃ H', stA (Pg jz cs sf) .castore H a x v = some H' ∧ Wp (Pg jz cs sf) 0 (87, L, S, H', k, n) Q := gStA (by simp) (d0_86 _ _ _)
theorem d0_87 (jz : Nat) (cs : Int32) (sf : Value) : decode ((Pg jz cs sf).mt 0).code 87 = .ok (.dup, 1) := (by decide +kernel : decode code 87 = .ok (.dup, 1))
theorem w0_87 {jz : Nat} {cs : Int32} {sf : Value} {L : List Slot} {S : List Value} {H : Hp} {k : Nat} {n : Nat} {Q : MRes → Prop} {v : Value} (hv : cat v = 1) : Wp (Pg jz cs sf) 0 (87, L, v :: S, H, k, n) Q ↔ Wp (Pg jz cs sf) 0 (88, L, v :: v :: S, H, k, n) Q := gP (d0_87 _ _ _) rfl (by simp only [plainI, fdup, if_pos hv, keepL])
theorem d0_88 (jz : Nat) (cs : Int32) (sf : Value) : decode ((Pg jz cs sf).mt 0).code 88 = .ok (.iconst 1, 1) := (by decide +kernel : decode code 88 = .ok (.iconst 1, 1))
theorem w0_88 {jz : Nat} {cs : Int32} {sf : Value} {L : List Slot} {S : List Value} {H : Hp} {k : Nat} {n : Nat} {Q : MRes → Prop} : Wp (Pg jz cs sf) 0 (88, L, S, H, k, n) Q ↔ Wp (Pg jz cs sf) 0 (89, L, (.int 1) :: S, H, k, n) Q := gP (d0_88 _ _ _) rfl rfl
theorem d0_89 (jz : Nat) (cs : Int32) (sf : Value) : decode ((Pg jz cs sf).mt 0).code 89 = .ok (.iload 6, 2) := (by decide +kernel : decode code 89 = .ok (.iload 6, 2))
theorem w0_89 {jz : Nat} {cs : Int32} {sf : Value} {L : List Slot} {S : List Value} {H : Hp} {k : Nat} {n : Nat} {Q : MRes → Prop} {l0 l1 l2 l3 l4 l5 : Slot} {x : Int32} : Wp (Pg jz cs sf) 0 (89, l0 :: l1 :: l2 :: l3 :: l4 :: l5 :: .val (.int x) :: L, S, H, k, n) Q ↔ Wp (Pg jz cs sf) 0 (91, l0 :: l1 :: l2 :: l3 :: l4 :: l5 :: .val (.int x) :: L, (.int x) :: S, H, k, n) Q := gP (d0_89 _ _ _) rfl rfl
theorem d0_91 (jz : Nat) (cs : Int32) (sf : Value) : decode ((Pg jz cs sf).mt 0).code 91 = .ok (.castore, 1) := (by decide +kernel : decode code 91 = .ok (.castore, 1))
theorem w0_91 {jz : Nat} {cs : Int32} {sf : Value} {L : List Slot} {S : List Value} {H : Hp} {k : Nat} {n : Nat} {Q : MRes → Prop} {a : Nat} {x : Int32} {v : Value} : Wp (Pg jz cs sf) 0 (91, L, v :: (.int x) :: (.ref a) :: S, H, k, n) Q ↔ ∃ H', stA (Pg jz cs sf) .castore H a x v = some H' ∧ Wp (Pg jz cs sf) 0 (92, L, S, H', k, n) Q := gStA (by simp) (d0_91 _ _ _)
theorem d0_92 (jz : Nat) (cs : Int32) (sf : Value) : decode ((Pg jz cs sf).mt 0).code 92 = .ok (.invokespecial 15, 3) := (by decide +kernel : decode code 92 = .ok (.invokespecial 15, 3))
theorem w0_92 {jz : Nat} {cs : Int32} {sf : Value} {L : List Slot} {S : List Value} {H : Hp} {k : Nat} {n : Nat} {Q : MRes → Prop} {a0 : Value} {a : Nat}  (h_a0 : cat a0 = 1) (h1 : L.length = 10) (h2 : wt S ≤ 1) (h3 : k + 2 ≤ 24) (h4 : n + 9 ≤ 1152) : Wp (Pg jz cs sf) 0 (92, L, a0 :: (.ref a) :: S, H, k, n) Q ↔ Wp (Pg jz cs sf) 2 (0, [.val (.ref a), .val a0], [], H, 0, 0) fun r => Wp (Pg jz cs sf) 0 (95, L, r.1.toList ++ S, r.2, k + 2, n + 9) Q := gCall (d0_92 _ _ _) rfl rfl (M := 10) (W := 1) (C := 24) (Sl := 1152) (c := 2) (s := 9) ⟨rfl, Nat.le_of_ble_eq_true rfl, Nat.le_of_ble_eq_true rfl, rfl, rfl, rfl, rfl⟩ (by show entL [(.ref a), a0] 2 = _; rw [entL, laid_c1 rfl, laid_c1 h_a0, laid_nil]; rfl) h1 h2 h3 h4
theorem d0_95 (jz : Nat) (cs : Int32) (sf : Value) : decode ((Pg jz cs sf).mt 0).code 95 = .ok (.astore 8, 2) := (by decide +kernel : decode code 95 = .ok (.astore 8, 2))
theorem w0_95 {jz : Nat} {cs : Int32} {sf : Value} {L : List Slot} {S : List Value} {H : Hp} {k : Nat} {n : Nat} {Q : MRes → Prop} {l0 l1 l2 l3 l4 l5 l6 l7 : Slot} {o : Slot} {v : Value} (ho : s1 o = true) (hv : isA v = true) : Wp (Pg jz cs sf) 0 (95, l0 :: l1 :: l2 :: l3 :: l4 :: l5 :: l6 :: l7 :: o :: L, v :: S, H, k, n) Q ↔ Wp (Pg jz cs sf) 0 (97, l0 :: l1 :: l2 :: l3 :: l4 :: l5 :: l6 :: l7 :: .val v :: L, S, H, k, n) Q := gP (d0_95 _ _ _) rfl (st1_eq (o := o) rfl ho hv)
theorem d0_97 (jz : Nat) (cs : Int32) (sf : Value) : decode ((Pg jz cs sf).mt 0).code 97 = .ok (.goto 30, 3) := (by decide +kernel : decode code 97 = .ok (.goto 30, 3))
theorem w0_97 {jz : Nat} {cs : Int32} {sf : Value} {L : List Slot} {S : List Value} {H : Hp} {k : Nat} {n : Nat} {Q : MRes → Prop} : Wp (Pg jz cs sf) 0 (97, L, S, H, k, n) Q ↔ Wp (Pg jz cs sf) 0 (127, L, S, H, k, n) Q := gGoto (d0_97 _ _ _) (by decide) (by decide)
theorem d0_100 (jz : Nat) (cs : Int32) (sf : Value) : decode ((Pg jz cs sf).mt 0).code 100 = .ok (.new 13, 3) := (by decide +kernel : decode code 100 = .ok (.new 13, 3))
theorem w0_100 {jz : Nat} {cs : Int32} {sf : Value} {L : List Slot} {S : List Value} {H : Hp} {k : Nat} {n : Nat} {Q : MRes → Prop} (h1 : k + 1 ≤ 24) (h2 : n + 4 ≤ 1152) : Wp (Pg jz cs sf) 0 (100, L, S, H, k, n) Q ↔ Wp (Pg jz cs sf) 0 (103, L, (.ref H.length) :: S, H ++ [(.inr 0, [.null, .int 0])], k + 1, n + 4) Q := gNew (d0_100 _ _ _) rfl rfl rfl rfl rfl h1 h2
theorem d0_103 (jz : Nat) (cs : Int32) (sf : Value) : decode ((Pg jz cs sf).mt 0).code 103 = .ok (.dup, 1) := (by decide +kernel : decode code 103 = .ok (.dup, 1))
theorem w0_103 {jz : Nat} {cs : Int32} {sf : Value} {L : List Slot} {S : List Value} {H : Hp} {k : Nat} {n : Nat} {Q : MRes → Prop} {v : Value} (hv : cat v = 1) : Wp (Pg jz cs sf) 0 (103, L, v :: S, H, k, n) Q ↔ Wp (Pg jz cs sf) 0 (104, L, v :: v :: S, H, k, n) Q := gP (d0_103 _ _ _) rfl (by simp only [plainI, fdup, if_pos hv, keepL])
theorem d0_104 (jz : Nat) (cs : Int32) (sf : Value) : decode ((Pg jz cs sf).mt 0).code 104 = .ok (.iconst 3, 1) := (by decide +kernel : decode code 104 = .ok (.iconst 3, 1))
theorem w0_104 {jz : Nat} {cs : Int32} {sf : Value} {L : List Slot} {S : List Value} {H : Hp} {k : Nat} {n : Nat} {Q : MRes → Prop} : Wp (Pg jz cs sf) 0 (104, L, S, H, k, n) Q ↔ Wp (Pg jz cs sf) 0 (105, L, (.int 3) :: S, H, k, n) Q := gP (d0_104 _ _ _) rfl rfl
theorem d0_105 (jz : Nat) (cs : Int32) (sf : Value) : decode ((Pg jz cs sf).mt 0).code 105 = .ok (.newarray .char, 2) := (by decide +kernel : decode code 105 = .ok (.newarray .char, 2))
theorem w0_105 {jz : Nat} {cs : Int32} {sf : Value} {L : List Slot} {S : List Value} {H : Hp} {k : Nat} {n : Nat} {Q : MRes → Prop} {x : Int32} (h1 : k + 1 ≤ 24) (h2 : n + 3 ≤ 1152) : Wp (Pg jz cs sf) 0 (105, L, (.int x) :: S, H, k, n) Q ↔ (¬ x < 0 ∧ x.toNatClampNeg ≤ 3) ∧ Wp (Pg jz cs sf) 0 (107, L, (.ref H.length) :: S, H ++ [(.inl .char, List.replicate x.toNatClampNeg (.int 0))], k + 1, n + 3) Q := gNewA (d0_105 _ _ _) rfl (List.mem_of_getElem? (i := 0) rfl) rfl (by decide) rfl rfl h1 h2
theorem d0_107 (jz : Nat) (cs : Int32) (sf : Value) : decode ((Pg jz cs sf).mt 0).code 107 = .ok (.dup, 1) := (by decide +kernel : decode code 107 = .ok (.dup, 1))
theorem w0_107 {jz : Nat} {cs : Int32} {sf : Value} {L : List Slot} {S : List Value} {H : Hp} {k : Nat} {n : Nat} {Q : MRes → Prop} {v : Value} (hv : cat v = 1) : Wp (Pg jz cs sf) 0 (107, L, v :: S, H, k, n) Q ↔ Wp (Pg jz cs sf) 0 (108, L, v :: v :: S, H, k, n) Q := gP (d0_107 _ _ _) rfl (by simp only [plainI, fdup, if_pos hv, keepL])
theorem d0_108 (jz : Nat) (cs : Int32) (sf : Value) : decode ((Pg jz cs sf).mt 0).code 108 = .ok (.iconst 0, 1) := (by decide +kernel : decode code 108 = .ok (.iconst 0, 1))
theorem w0_108 {jz : Nat} {cs : Int32} {sf : Value} {L : List Slot} {S : List Value} {H : Hp} {k : Nat} {n : Nat} {Q : MRes → Prop} : Wp (Pg jz cs sf) 0 (108, L, S, H, k, n) Q ↔ Wp (Pg jz cs sf) 0 (109, L, (.int 0) :: S, H, k, n) Q := gP (d0_108 _ _ _) rfl rfl
theorem d0_109 (jz : Nat) (cs : Int32) (sf : Value) : decode ((Pg jz cs sf).mt 0).code 109 = .ok (.iload 5, 2) := (by decide +kernel : decode code 109 = .ok (.iload 5, 2))
theorem w0_109 {jz : Nat} {cs : Int32} {sf : Value} {L : List Slot} {S : List Value} {H : Hp} {k : Nat} {n : Nat} {Q : MRes → Prop} {l0 l1 l2 l3 l4 : Slot} {x : Int32} : Wp (Pg jz cs sf) 0 (109, l0 :: l1 :: l2 :: l3 :: l4 :: .val (.int x) :: L, S, H, k, n) Q ↔ Wp (Pg jz cs sf) 0 (111, l0 :: l1 :: l2 :: l3 :: l4 :: .val (.int x) :: L, (.int x) :: S, H, k, n) Q := gP (d0_109 _ _ _) rfl rfl
theorem d0_111 (jz : Nat) (cs : Int32) (sf : Value) : decode ((Pg jz cs sf).mt 0).code 111 = .ok (.castore, 1) := (by decide +kernel : decode code 111 = .ok (.castore, 1))
theorem w0_111 {jz : Nat} {cs : Int32} {sf : Value} {L : List Slot} {S : List Value} {H : Hp} {k : Nat} {n : Nat} {Q : MRes → Prop} {a : Nat} {x : Int32} {v : Value} : Wp (Pg jz cs sf) 0 (111, L, v :: (.int x) :: (.ref a) :: S, H, k, n) Q ↔ ∃ H', stA (Pg jz cs sf) .castore H a x v = some H' ∧ Wp (Pg jz cs sf) 0 (112, L, S, H', k, n) Q := gStA (by simp) (d0_111 _ _ _)
theorem d0_112 (jz : Nat) (cs : Int32) (sf : Value) : decode ((Pg jz cs sf).mt 0).code 112 = .ok (.dup, 1) := (by decide +kernel : decode code 112 = .ok (.dup, 1))
theorem w0_112 {jz : Nat} {cs : Int32} {sf : Value} {L : List Slot} {S : List Value} {H : Hp} {k : Nat} {n : Nat} {Q : MRes → Prop} {v : Value} (hv : cat v = 1) : Wp (Pg jz cs sf) 0 (112, L, v :: S, H, k, n) Q ↔ Wp (Pg jz cs sf) 0 (113, L, v :: v :: S, H, k, n) Q := gP (d0_112 _ _ _) rfl (by simp only [plainI, fdup, if_pos hv, keepL])
theorem d0_113 (jz : Nat) (cs : Int32) (sf : Value) : decode ((Pg jz cs sf).mt 0).code 113 = .ok (.iconst 1, 1) := (by decide +kernel : decode code 113 = .ok (.iconst 1, 1))
theorem w0_113 {jz : Nat} {cs : Int32} {sf : Value} {L : List Slot} {S : List Value} {H : Hp} {k : Nat} {n : Nat} {Q : MRes → Prop} : Wp (Pg jz cs sf) 0 (113, L, S, H, k, n) Q ↔ Wp (Pg jz cs sf) 0 (114, L, (.int 1) :: S, H, k, n) Q := gP (d0_113 _ _ _) rfl rfl
theorem d0_114 (jz : Nat) (cs : Int32) (sf : Value) : decode ((Pg jz cs sf).mt 0).code 114 = .ok (.iload 6, 2) := (by decide +kernel : decode code 114 = .ok (.iload 6, 2))
theorem w0_114 {jz : Nat} {cs : Int32} {sf : Value} {L : List Slot} {S : List Value} {H : Hp} {k : Nat} {n : Nat} {Q : MRes → Prop} {l0 l1 l2 l3 l4 l5 : Slot} {x : Int32} : Wp (Pg jz cs sf) 0 (114, l0 :: l1 :: l2 :: l3 :: l4 :: l5 :: .val (.int x) :: L, S, H, k, n) Q ↔ Wp (Pg jz cs sf) 0 (116, l0 :: l1 :: l2 :: l3 :: l4 :: l5 :: .val (.int x) :: L, (.int x) :: S, H, k, n) Q := gP (d0_114 _ _ _) rfl rfl
theorem d0_116 (jz : Nat) (cs : Int32) (sf : Value) : decode ((Pg jz cs sf).mt 0).code 116 = .ok (.castore, 1) := (by decide +kernel : decode code 116 = .ok (.castore, 1))
theorem w0_116 {jz : Nat} {cs : Int32} {sf : Value} {L : List Slot} {S : List Value} {H : Hp} {k : Nat} {n : Nat} {Q : MRes → Prop} {a : Nat} {x : Int32} {v : Value} : Wp (Pg jz cs sf) 0 (116, L, v :: (.int x) :: (.ref a) :: S, H, k, n) Q ↔ ∃ H', stA (Pg jz cs sf) .castore H a x v = some H' ∧ Wp (Pg jz cs sf) 0 (117, L, S, H', k, n) Q := gStA (by simp) (d0_116 _ _ _)
theorem d0_117 (jz : Nat) (cs : Int32) (sf : Value) : decode ((Pg jz cs sf).mt 0).code 117 = .ok (.dup, 1) := (by decide +kernel : decode code 117 = .ok (.dup, 1))
theorem w0_117 {jz : Nat} {cs : Int32} {sf : Value} {L : List Slot} {S : List Value} {H : Hp} {k : Nat} {n : Nat} {Q : MRes → Prop} {v : Value} (hv : cat v = 1) : Wp (Pg jz cs sf) 0 (117, L, v :: S, H, k, n) Q ↔ Wp (Pg jz cs sf) 0 (118, L, v :: v :: S, H, k, n) Q := gP (d0_117 _ _ _) rfl (by simp only [plainI, fdup, if_pos hv, keepL])
theorem d0_118 (jz : Nat) (cs : Int32) (sf : Value) : decode ((Pg jz cs sf).mt 0).code 118 = .ok (.iconst 2, 1) := (by decide +kernel : decode code 118 = .ok (.iconst 2, 1))
theorem w0_118 {jz : Nat} {cs : Int32} {sf : Value} {L : List Slot} {S : List Value} {H : Hp} {k : Nat} {n : Nat} {Q : MRes → Prop} : Wp (Pg jz cs sf) 0 (118, L, S, H, k, n) Q ↔ Wp (Pg jz cs sf) 0 (119, L, (.int 2) :: S, H, k, n) Q := gP (d0_118 _ _ _) rfl rfl
theorem d0_119 (jz : Nat) (cs : Int32) (sf : Value) : decode ((Pg jz cs sf).mt 0).code 119 = .ok (.iload 7, 2) := (by decide +kernel : decode code 119 = .ok (.iload 7, 2))
theorem w0_119 {jz : Nat} {cs : Int32} {sf : Value} {L : List Slot} {S : List Value} {H : Hp} {k : Nat} {n : Nat} {Q : MRes → Prop} {l0 l1 l2 l3 l4 l5 l6 : Slot} {x : Int32} : Wp (Pg jz cs sf) 0 (119, l0 :: l1 :: l2 :: l3 :: l4 :: l5 :: l6 :: .val (.int x) :: L, S, H, k, n) Q ↔ Wp (Pg jz cs sf) 0 (121, l0 :: l1 :: l2 :: l3 :: l4 :: l5 :: l6 :: .val (.int x) :: L, (.int x) :: S, H, k, n) Q := gP (d0_119 _ _ _) rfl rfl
theorem d0_121 (jz : Nat) (cs : Int32) (sf : Value) : decode ((Pg jz cs sf).mt 0).code 121 = .ok (.castore, 1) := (by decide +kernel : decode code 121 = .ok (.castore, 1))
theorem w0_121 {jz : Nat} {cs : Int32} {sf : Value} {L : List Slot} {S : List Value} {H : Hp} {k : Nat} {n : Nat} {Q : MRes → Prop} {a : Nat} {x : Int32} {v : Value} : Wp (Pg jz cs sf) 0 (121, L, v :: (.int x) :: (.ref a) :: S, H, k, n) Q ↔ ∃ H', stA (Pg jz cs sf) .castore H a x v = some H' ∧ Wp (Pg jz cs sf) 0 (122, L, S, H', k, n) Q := gStA (by simp) (d0_121 _ _ _)
theorem d0_122 (jz : Nat) (cs : Int32) (sf : Value) : decode ((Pg jz cs sf).mt 0).code 122 = .ok (.invokespecial 15, 3) := (by decide +kernel : decode code 122 = .ok (.invokespecial 15, 3))
theorem w0_122 {jz : Nat} {cs : Int32} {sf : Value} {L : List Slot} {S : List Value} {H : Hp} {k : Nat} {n : Nat} {Q : MRes → Prop} {a0 : Value} {a : Nat}  (h_a0 : cat a0 = 1) (h1 : L.length = 10) (h2 : wt S ≤ 1) (h3 : k + 2 ≤ 24) (h4 : n + 9 ≤ 1152) : Wp (Pg jz cs sf) 0 (122, L, a0 :: (.ref a) :: S, H, k, n) Q ↔ Wp (Pg jz cs sf) 2 (0, [.val (.ref a), .val a0], [], H, 0, 0) fun r => Wp (Pg jz cs sf) 0 (125, L, r.1.toList ++ S, r.2, k + 2, n + 9) Q := gCall (d0_122 _ _ _) rfl rfl (M := 10) (W := 1) (C := 24) (Sl := 1152) (c := 2) (s := 9) ⟨rfl, Nat.le_of_ble_eq_true rfl, Nat.le_of_ble_eq_true rfl, rfl, rfl, rfl, rfl⟩ (by show entL [(.ref a), a0] 2 = _; rw [entL, laid_c1 rfl, laid_c1 h_a0, laid_nil]; rfl) h1 h2 h3 h4
theorem d0_125 (jz : Nat) (cs : Int32) (sf : Value) : decode ((Pg jz cs sf).mt 0).code 125 = .ok (.astore 8, 2) := (by decide +kernel : decode code 125 = .ok (.astore 8, 2))
theorem w0_125 {jz : Nat} {cs : Int32} {sf : Value} {L : List Slot} {S : List Value} {H : Hp} {k : Nat} {n : Nat} {Q : MRes → Prop} {l0 l1 l2 l3 l4 l5 l6 l7 : Slot} {o : Slot} {v : Value} (ho : s1 o = true) (hv : isA v = true) : Wp (Pg jz cs sf) 0 (125, l0 :: l1 :: l2 :: l3 :: l4 :: l5 :: l6 :: l7 :: o :: L, v :: S, H, k, n) Q ↔ Wp (Pg jz cs sf) 0 (127, l0 :: l1 :: l2 :: l3 :: l4 :: l5 :: l6 :: l7 :: .val v :: L, S, H, k, n) Q := gP (d0_125 _ _ _) rfl (st1_eq (o := o) rfl ho hv)
theorem d0_127 (jz : Nat) (cs : Int32) (sf : Value) : decode ((Pg jz cs sf).mt 0).code 127 = .ok (.iconst 1, 1) := (by decide +kernel : decode code 127 = .ok (.iconst 1, 1))
theorem w0_127 {jz : Nat} {cs : Int32} {sf : Value} {L : List Slot} {S : List Value} {H : Hp} {k : Nat} {n : Nat} {Q : MRes → Prop} : Wp (Pg jz cs sf) 0 (127, L, S, H, k, n) Q ↔ Wp (Pg jz cs sf) 0 (128, L, (.int 1) :: S, H, k, n) Q := gP (d0_127 _ _ _) rfl rfl
theorem d0_128 (jz : Nat) (cs : Int32) (sf : Value) : decode ((Pg jz cs sf).mt 0).code 128 = .ok (.istore 9, 2) := (by decide +kernel : decode code 128 = .ok (.istore 9, 2))
theorem w0_128 {jz : Nat} {cs : Int32} {sf : Value} {L : List Slot} {S : List Value} {H : Hp} {k : Nat} {n : Nat} {Q : MRes → Prop} {l0 l1 l2 l3 l4 l5 l6 l7 l8 : Slot} {o : Slot} {x : Int32} (ho : s1 o = true) : Wp (Pg jz cs sf) 0 (128, l0 :: l1 :: l2 :: l3 :: l4 :: l5 :: l6 :: l7 :: l8 :: o :: L, (.int x) :: S, H, k, n) Q ↔ Wp (Pg jz cs sf) 0 (130, l0 :: l1 :: l2 :: l3 :: l4 :: l5 :: l6 :: l7 :: l8 :: .val (.int x) :: L, S, H, k, n) Q := gP (d0_128 _ _ _) rfl (st1_eq (o := o) rfl ho rfl)
theorem d0_130 (jz : Nat) (cs : Int32) (sf : Value) : decode ((Pg jz cs sf).mt 0).code 130 = .ok (.iload 4, 2) := (by decide +kernel : decode code 130 = .ok (.iload 4, 2))
theorem w0_130 {jz : Nat} {cs : Int32} {sf : Value} {L : List Slot} {S : List Value} {H : Hp} {k : Nat} {n : Nat} {Q : MRes → Prop} {l0 l1 l2 l3 : Slot} {x : Int32} : Wp (Pg jz cs sf) 0 (130, l0 :: l1 :: l2 :: l3 :: .val (.int x) :: L, S, H, k, n) Q ↔ Wp (Pg jz cs sf) 0 (132, l0 :: l1 :: l2 :: l3 :: .val (.int x) :: L, (.int x) :: S, H, k, n) Q := gP (d0_130 _ _ _) rfl rfl
theorem d0_132 (jz : Nat) (cs : Int32) (sf : Value) : decode ((Pg jz cs sf).mt 0).code 132 = .ok (.iconst 1, 1) := (by decide +kernel : decode code 132 = .ok (.iconst 1, 1))
theorem w0_132 {jz : Nat} {cs : Int32} {sf : Value} {L : List Slot} {S : List Value} {H : Hp} {k : Nat} {n : Nat} {Q : MRes → Prop} : Wp (Pg jz cs sf) 0 (132, L, S, H, k, n) Q ↔ Wp (Pg jz cs sf) 0 (133, L, (.int 1) :: S, H, k, n) Q := gP (d0_132 _ _ _) rfl rfl
theorem d0_133 (jz : Nat) (cs : Int32) (sf : Value) : decode ((Pg jz cs sf).mt 0).code 133 = .ok (.if_icmp .lt 14, 3) := (by decide +kernel : decode code 133 = .ok (.if_icmp .lt 14, 3))
theorem w0_133 {jz : Nat} {cs : Int32} {sf : Value} {L : List Slot} {S : List Value} {H : Hp} {k : Nat} {n : Nat} {Q : MRes → Prop} {x y : Int32} : Wp (Pg jz cs sf) 0 (133, L, (.int y) :: (.int x) :: S, H, k, n) Q ↔ if x < y then Wp (Pg jz cs sf) 0 (147, L, S, H, k, n) Q else Wp (Pg jz cs sf) 0 (136, L, S, H, k, n) Q := gIcmp (d0_133 _ _ _) (by decide) (by decide) (i_lt x y)
theorem d0_136 (jz : Nat) (cs : Int32) (sf : Value) : decode ((Pg jz cs sf).mt 0).code 136 = .ok (.iload 5, 2) := (by decide +kernel : decode code 136 = .ok (.iload 5, 2))
theorem w0_136 {jz : Nat} {cs : Int32} {sf : Value} {L : List Slot} {S : List Value} {H : Hp} {k : Nat} {n : Nat} {Q : MRes → Prop} {l0 l1 l2 l3 l4 : Slot} {x : Int32} : Wp (Pg jz cs sf) 0 (136, l0 :: l1 :: l2 :: l3 :: l4 :: .val (.int x) :: L, S, H, k, n) Q ↔ Wp (Pg jz cs sf) 0 (138, l0 :: l1 :: l2 :: l3 :: l4 :: .val (.int x) :: L, (.int x) :: S, H, k, n) Q := gP (d0_136 _ _ _) rfl rfl
theorem d0_138 (jz : Nat) (cs : Int32) (sf : Value) : decode ((Pg jz cs sf).mt 0).code 138 = .ok (.invokestatic 18, 3) := (by decide +kernel : decode code 138 = .ok (.invokestatic 18, 3))
theorem w0_138 {jz : Nat} {cs : Int32} {sf : Value} {L : List Slot} {S : List Value} {H : Hp} {k : Nat} {n : Nat} {Q : MRes → Prop} {a0 : Int32}  (h1 : L.length = 10) (h2 : wt S ≤ 0) (h3 : k + 0 ≤ 24) (h4 : n + 0 ≤ 1152) : Wp (Pg jz cs sf) 0 (138, L, (.int a0) :: S, H, k, n) Q ↔ Wp (Pg jz cs sf) 10 (0, [.val (.int a0), .unset], [], H, 0, 0) fun r => Wp (Pg jz cs sf) 0 (141, L, r.1.toList ++ S, r.2, k + 0, n + 0) Q := gCall (d0_138 _ _ _) rfl rfl (M := 10) (W := 0) (C := 24) (Sl := 1152) (c := 0) (s := 0) ⟨rfl, Nat.le_of_ble_eq_true rfl, Nat.le_of_ble_eq_true rfl, rfl, rfl, rfl, rfl⟩ (by show entL [(.int a0)] 2 = _; rw [entL, laid_c1 rfl, laid_nil]; rfl) h1 h2 h3 h4
theorem d0_141 (jz : Nat) (cs : Int32) (sf : Value) : decode ((Pg jz cs sf).mt 0).code 141 = .ok (.ifCond .ne 6, 3) := (by decide +kernel : decode code 141 = .ok (.ifCond .ne 6, 3))
theorem w0_141 {jz : Nat} {cs : Int32} {sf : Value} {L : List Slot} {S : List Value} {H : Hp} {k : Nat} {n : Nat} {Q : MRes → Prop} {x : Int32} : Wp (Pg jz cs sf) 0 (141, L, (.int x) :: S, H, k, n) Q ↔ if ¬ x = 0 then Wp (Pg jz cs sf) 0 (147, L, S, H, k, n) Q else Wp (Pg jz cs sf) 0 (144, L, S, H, k, n) Q := gIf (d0_141 _ _ _) (by decide) (by decide) (c_ne x)
theorem d0_144 (jz : Nat) (cs : Int32) (sf : Value) : decode ((Pg jz cs sf).mt 0).code 144 = .ok (.iconst 0, 1) := (by decide +kernel : decode code 144 = .ok (.iconst 0, 1))
theorem w0_144 {jz : Nat} {cs : Int32} {sf : Value} {L : List Slot} {S : List Value} {H : Hp} {k : Nat} {n : Nat} {Q : MRes → Prop} : Wp (Pg jz cs sf) 0 (144, L, S, H, k, n) Q ↔ Wp (Pg jz cs sf) 0 (145, L, (.int 0) :: S, H, k, n) Q := gP (d0_144 _ _ _) rfl rfl
theorem d0_145 (jz : Nat) (cs : Int32) (sf : Value) : decode ((Pg jz cs sf).mt 0).code 145 = .ok (.istore 9, 2) := (by decide +kernel : decode code 145 = .ok (.istore 9, 2))
theorem w0_145 {jz : Nat} {cs : Int32} {sf : Value} {L : List Slot} {S : List Value} {H : Hp} {k : Nat} {n : Nat} {Q : MRes → Prop} {l0 l1 l2 l3 l4 l5 l6 l7 l8 : Slot} {o : Slot} {x : Int32} (ho : s1 o = true) : Wp (Pg jz cs sf) 0 (145, l0 :: l1 :: l2 :: l3 :: l4 :: l5 :: l6 :: l7 :: l8 :: o :: L, (.int x) :: S, H, k, n) Q ↔ Wp (Pg jz cs sf) 0 (147, l0 :: l1 :: l2 :: l3 :: l4 :: l5 :: l6 :: l7 :: l8 :: .val (.int x) :: L, S, H, k, n) Q := gP (d0_145 _ _ _) rfl (st1_eq (o := o) rfl ho rfl)
theorem d0_147 (jz : Nat) (cs : Int32) (sf : Value) : decode ((Pg jz cs sf).mt 0).code 147 = .ok (.iload 4, 2) := (by decide +kernel : decode code 147 = .ok (.iload 4, 2))
theorem w0_147 {jz : Nat} {cs : Int32} {sf : Value} {L : List Slot} {S : List Value} {H : Hp} {k : Nat} {n : Nat} {Q : MRes → Prop} {l0 l1 l2 l3 : Slot} {x : Int32} : Wp (Pg jz cs sf) 0 (147, l0 :: l1 :: l2 :: l3 :: .val (.int x) :: L, S, H, k, n) Q ↔ Wp (Pg jz cs sf) 0 (149, l0 :: l1 :: l2 :: l3 :: .val (.int x) :: L, (.int x) :: S, H, k, n) Q := gP (d0_147 _ _ _) rfl rfl
theorem d0_149 (jz : Nat) (cs : Int32) (sf : Value) : decode ((Pg jz cs sf).mt 0).code 149 = .ok (.iconst 2, 1) := (by decide +kernel : decode code 149 = .ok (.iconst 2, 1))
theorem w0_149 {jz : Nat} {cs : Int32} {sf : Value} {L : List Slot} {S : List Value} {H : Hp} {k : Nat} {n : Nat} {Q : MRes → Prop} : Wp (Pg jz cs sf) 0 (149, L, S, H, k, n) Q ↔ Wp (Pg jz cs sf) 0 (150, L, (.int 2) :: S, H, k, n) Q := gP (d0_149 _ _ _) rfl rfl
theorem d0_150 (jz : Nat) (cs : Int32) (sf : Value) : decode ((Pg jz cs sf).mt 0).code 150 = .ok (.if_icmp .lt 14, 3) := (by decide +kernel : decode code 150 = .ok (.if_icmp .lt 14, 3))
theorem w0_150 {jz : Nat} {cs : Int32} {sf : Value} {L : List Slot} {S : List Value} {H : Hp} {k : Nat} {n : Nat} {Q : MRes → Prop} {x y : Int32} : Wp (Pg jz cs sf) 0 (150, L, (.int y) :: (.int x) :: S, H, k, n) Q ↔ if x < y then Wp (Pg jz cs sf) 0 (164, L, S, H, k, n) Q else Wp (Pg jz cs sf) 0 (153, L, S, H, k, n) Q := gIcmp (d0_150 _ _ _) (by decide) (by decide) (i_lt x y)
theorem d0_153 (jz : Nat) (cs : Int32) (sf : Value) : decode ((Pg jz cs sf).mt 0).code 153 = .ok (.iload 6, 2) := (by decide +kernel : decode code 153 = .ok (.iload 6, 2))
theorem w0_153 {jz : Nat} {cs : Int32} {sf : Value} {L : List Slot} {S : List Value} {H : Hp} {k : Nat} {n : Nat} {Q : MRes → Prop} {l0 l1 l2 l3 l4 l5 : Slot} {x : Int32} : Wp (Pg jz cs sf) 0 (153, l0 :: l1 :: l2 :: l3 :: l4 :: l5 :: .val (.int x) :: L, S, H, k, n) Q ↔ Wp (Pg jz cs sf) 0 (155, l0 :: l1 :: l2 :: l3 :: l4 :: l5 :: .val (.int x) :: L, (.int x) :: S, H, k, n) Q := gP (d0_153 _ _ _) rfl rfl
theorem d0_155 (jz : Nat) (cs : Int32) (sf : Value) : decode ((Pg jz cs sf).mt 0).code 155 = .ok (.invokestatic 18, 3) := (by decide +kernel : decode code 155 = .ok (.invokestatic 18, 3))
theorem w0_155 {jz : Nat} {cs : Int32} {sf : Value} {L : List Slot} {S : List Value} {H : Hp} {k : Nat} {n : Nat} {Q : MRes → Prop} {a0 : Int32}  (h1 : L.length = 10) (h2 : wt S ≤ 0) (h3 : k + 0 ≤ 24) (h4 : n + 0 ≤ 1152) : Wp (Pg jz cs sf) 0 (155, L, (.int a0) :: S, H, k, n) Q ↔ Wp (Pg jz cs sf) 10 (0, [.val (.int a0), .unset], [], H, 0, 0) fun r => Wp (Pg jz cs sf) 0 (158, L, r.1.toList ++ S, r.2, k + 0, n + 0) Q := gCall (d0_155 _ _ _) rfl rfl (M := 10) (W := 0) (C := 24) (Sl := 1152) (c := 0) (s := 0) ⟨rfl, Nat.le_of_ble_eq_true rfl, Nat.le_of_ble_eq_true rfl, rfl, rfl, rfl, rfl⟩ (by show entL [(.int a0)] 2 = _; rw [entL, laid_c1 rfl, laid_nil]; rfl) h1 h2 h3 h4
theorem d0_158 (jz : Nat) (cs : Int32) (sf : Value) : decode ((Pg jz cs sf).mt 0).code 158 = .ok (.ifCond .ne 6, 3) := (by decide +kernel : decode code 158 = .ok (.ifCond .ne 6, 3))
theorem w0_158 {jz : Nat} {cs : Int32} {sf : Value} {L : List Slot} {S : List Value} {H : Hp} {k : Nat} {n : Nat} {Q : MRes → Prop} {x : Int32} : Wp (Pg jz cs sf) 0 (158, L, (.int x) :: S, H, k, n) Q ↔ if ¬ x = 0 then Wp (Pg jz cs sf) 0 (164, L, S, H, k, n) Q else Wp (Pg jz cs sf) 0 (161, L, S, H, k, n) Q := gIf (d0_158 _ _ _) (by decide) (by decide) (c_ne x)
theorem d0_161 (jz : Nat) (cs : Int32) (sf : Value) : decode ((Pg jz cs sf).mt 0).code 161 = .ok (.iconst 0, 1) := (by decide +kernel : decode code 161 = .ok (.iconst 0, 1))
theorem w0_161 {jz : Nat} {cs : Int32} {sf : Value} {L : List Slot} {S : List Value} {H : Hp} {k : Nat} {n : Nat} {Q : MRes → Prop} : Wp (Pg jz cs sf) 0 (161, L, S, H, k, n) Q ↔ Wp (Pg jz cs sf) 0 (162, L, (.int 0) :: S, H, k, n) Q := gP (d0_161 _ _ _) rfl rfl
theorem d0_162 (jz : Nat) (cs : Int32) (sf : Value) : decode ((Pg jz cs sf).mt 0).code 162 = .ok (.istore 9, 2) := (by decide +kernel : decode code 162 = .ok (.istore 9, 2))
theorem w0_162 {jz : Nat} {cs : Int32} {sf : Value} {L : List Slot} {S : List Value} {H : Hp} {k : Nat} {n : Nat} {Q : MRes → Prop} {l0 l1 l2 l3 l4 l5 l6 l7 l8 : Slot} {o : Slot} {x : Int32} (ho : s1 o = true) : Wp (Pg jz cs sf) 0 (162, l0 :: l1 :: l2 :: l3 :: l4 :: l5 :: l6 :: l7 :: l8 :: o :: L, (.int x) :: S, H, k, n) Q ↔ Wp (Pg jz cs sf) 0 (164, l0 :: l1 :: l2 :: l3 :: l4 :: l5 :: l6 :: l7 :: l8 :: .val (.int x) :: L, S, H, k, n) Q := gP (d0_162 _ _ _) rfl (st1_eq (o := o) rfl ho rfl)
theorem d0_164 (jz : Nat) (cs : Int32) (sf : Value) : decode ((Pg jz cs sf).mt 0).code 164 = .ok (.iload 4, 2) := (by decide +kernel : decode code 164 = .ok (.iload 4, 2))
theorem w0_164 {jz : Nat} {cs : Int32} {sf : Value} {L : List Slot} {S : List Value} {H : Hp} {k : Nat} {n : Nat} {Q : MRes → Prop} {l0 l1 l2 l3 : Slot} {x : Int32} : Wp (Pg jz cs sf) 0 (164, l0 :: l1 :: l2 :: l3 :: .val (.int x) :: L, S, H, k, n) Q ↔ Wp (Pg jz cs sf) 0 (166, l0 :: l1 :: l2 :: l3 :: .val (.int x) :: L, (.int x) :: S, H, k, n) Q := gP (d0_164 _ _ _) rfl rfl
theorem d0_166 (jz : Nat) (cs : Int32) (sf : Value) : decode ((Pg jz cs sf).mt 0).code 166 = .ok (.iconst 3, 1) := (by decide +kernel : decode code 166 = .ok (.iconst 3, 1))
theorem w0_166 {jz : Nat} {cs : Int32} {sf : Value} {L : List Slot} {S : List Value} {H : Hp} {k : Nat} {n : Nat} {Q : MRes → Prop} : Wp (Pg jz cs sf) 0 (166, L, S, H, k, n) Q ↔ Wp (Pg jz cs sf) 0 (167, L, (.int 3) :: S, H, k, n) Q := gP (d0_166 _ _ _) rfl rfl
theorem d0_167 (jz : Nat) (cs : Int32) (sf : Value) : decode ((Pg jz cs sf).mt 0).code 167 = .ok (.if_icmp .lt 14, 3) := (by decide +kernel : decode code 167 = .ok (.if_icmp .lt 14, 3))
theorem w0_167 {jz : Nat} {cs : Int32} {sf : Value} {L : List Slot} {S : List Value} {H : Hp} {k : Nat} {n : Nat} {Q : MRes → Prop} {x y : Int32} : Wp (Pg jz cs sf) 0 (167, L, (.int y) :: (.int x) :: S, H, k, n) Q ↔ if x < y then Wp (Pg jz cs sf) 0 (181, L, S, H, k, n) Q else Wp (Pg jz cs sf) 0 (170, L, S, H, k, n) Q := gIcmp (d0_167 _ _ _) (by decide) (by decide) (i_lt x y)
theorem d0_170 (jz : Nat) (cs : Int32) (sf : Value) : decode ((Pg jz cs sf).mt 0).code 170 = .ok (.iload 7, 2) := (by decide +kernel : decode code 170 = .ok (.iload 7, 2))
theorem w0_170 {jz : Nat} {cs : Int32} {sf : Value} {L : List Slot} {S : List Value} {H : Hp} {k : Nat} {n : Nat} {Q : MRes → Prop} {l0 l1 l2 l3 l4 l5 l6 : Slot} {x : Int32} : Wp (Pg jz cs sf) 0 (170, l0 :: l1 :: l2 :: l3 :: l4 :: l5 :: l6 :: .val (.int x) :: L, S, H, k, n) Q ↔ Wp (Pg jz cs sf) 0 (172, l0 :: l1 :: l2 :: l3 :: l4 :: l5 :: l6 :: .val (.int x) :: L, (.int x) :: S, H, k, n) Q := gP (d0_170 _ _ _) rfl rfl
theorem d0_172 (jz : Nat) (cs : Int32) (sf : Value) : decode ((Pg jz cs sf).mt 0).code 172 = .ok (.invokestatic 18, 3) := (by decide +kernel : decode code 172 = .ok (.invokestatic 18, 3))
theorem w0_172 {jz : Nat} {cs : Int32} {sf : Value} {L : List Slot} {S : List Value} {H : Hp} {k : Nat} {n : Nat} {Q : MRes → Prop} {a0 : Int32}  (h1 : L.length = 10) (h2 : wt S ≤ 0) (h3 : k + 0 ≤ 24) (h4 : n + 0 ≤ 1152) : Wp (Pg jz cs sf) 0 (172, L, (.int a0) :: S, H, k, n) Q ↔ Wp (Pg jz cs sf) 10 (0, [.val (.int a0), .unset], [], H, 0, 0) fun r => Wp (Pg jz cs sf) 0 (175, L, r.1.toList ++ S, r.2, k + 0, n + 0) Q := gCall (d0_172 _ _ _) rfl rfl (M := 10) (W := 0) (C := 24) (Sl := 1152) (c := 0) (s := 0) ⟨rfl, Nat.le_of_ble_eq_true rfl, Nat.le_of_ble_eq_true rfl, rfl, rfl, rfl, rfl⟩ (by show entL [(.int a0)] 2 = _; rw [entL, laid_c1 rfl, laid_nil]; rfl) h1 h2 h3 h4
theorem d0_175 (jz : Nat) (cs : Int32) (sf : Value) : decode ((Pg jz cs sf).mt 0).code 175 = .ok (.ifCond .ne 6, 3) := (by decide +kernel : decode code 175 = .ok (.ifCond .ne 6, 3))
theorem w0_175 {jz : Nat} {cs : Int32} {sf : Value} {L : List Slot} {S : List Value} {H : Hp} {k : Nat} {n : Nat} {Q : MRes → Prop} {x : Int32} : Wp (Pg jz cs sf) 0 (175, L, (.int x) :: S, H, k, n) Q ↔ if ¬ x = 0 then Wp (Pg jz cs sf) 0 (181, L, S, H, k, n) Q else Wp (Pg jz cs sf) 0 (178, L, S, H, k, n) Q := gIf (d0_175 _ _ _) (by decide) (by decide) (c_ne x)
theorem d0_178 (jz : Nat) (cs : Int32) (sf : Value) : decode ((Pg jz cs sf).mt 0).code 178 = .ok (.iconst 0, 1) := (by decide +kernel : decode code 178 = .ok (.iconst 0, 1))
theorem w0_178 {jz : Nat} {cs : Int32} {sf : Value} {L : List Slot} {S : List Value} {H : Hp} {k : Nat} {n : Nat} {Q : MRes → Prop} : Wp (Pg jz cs sf) 0 (178, L, S, H, k, n) Q ↔ Wp (Pg jz cs sf) 0 (179, L, (.int 0) :: S, H, k, n) Q := gP (d0_178 _ _ _) rfl rfl
theorem d0_179 (jz : Nat) (cs : Int32) (sf : Value) : decode ((Pg jz cs sf).mt 0).code 179 = .ok (.istore 9, 2) := (by decide +kernel : decode code 179 = .ok (.istore 9, 2))
theorem w0_179 {jz : Nat} {cs : Int32} {sf : Value} {L : List Slot} {S : List Value} {H : Hp} {k : Nat} {n : Nat} {Q : MRes → Prop} {l0 l1 l2 l3 l4 l5 l6 l7 l8 : Slot} {o : Slot} {x : Int32} (ho : s1 o = true) : Wp (Pg jz cs sf) 0 (179, l0 :: l1 :: l2 :: l3 :: l4 :: l5 :: l6 :: l7 :: l8 :: o :: L, (.int x) :: S, H, k, n) Q ↔ Wp (Pg jz cs sf) 0 (181, l0 :: l1 :: l2 :: l3 :: l4 :: l5 :: l6 :: l7 :: l8 :: .val (.int x) :: L, S, H, k, n) Q := gP (d0_179 _ _ _) rfl (st1_eq (o := o) rfl ho rfl)
theorem d0_181 (jz : Nat) (cs : Int32) (sf : Value) : decode ((Pg jz cs sf).mt 0).code 181 = .ok (.aload 8, 2) := (by decide +kernel : decode code 181 = .ok (.aload 8, 2))
theorem w0_181 {jz : Nat} {cs : Int32} {sf : Value} {L : List Slot} {S : List Value} {H : Hp} {k : Nat} {n : Nat} {Q : MRes → Prop} {l0 l1 l2 l3 l4 l5 l6 l7 : Slot} {v : Value} (hv : isA v = true) : Wp (Pg jz cs sf) 0 (181, l0 :: l1 :: l2 :: l3 :: l4 :: l5 :: l6 :: l7 :: .val v :: L, S, H, k, n) Q ↔ Wp (Pg jz cs sf) 0 (183, l0 :: l1 :: l2 :: l3 :: l4 :: l5 :: l6 :: l7 :: .val v :: L, v :: S, H, k, n) Q := gP (d0_181 _ _ _) rfl (by show (if isA v = true then _ else _) = _; rw [if_pos hv])
theorem d0_183 (jz : Nat) (cs : Int32) (sf : Value) : decode ((Pg jz cs sf).mt 0).code 183 = .ok (.invokestatic 22, 3) := (by decide +kernel : decode code 183 = .ok (.invokestatic 22, 3))
theorem w0_183 {jz : Nat} {cs : Int32} {sf : Value} {L : List Slot} {S : List Value} {H : Hp} {k : Nat} {n : Nat} {Q : MRes → Prop} {a0 : Value}  (h_a0 : cat a0 = 1) (h1 : L.length = 10) (h2 : wt S ≤ 0) (h3 : k + 0 ≤ 24) (h4 : n + 0 ≤ 1152) : Wp (Pg jz cs sf) 0 (183, L, a0 :: S, H, k, n) Q ↔ Wp (Pg jz cs sf) 4 (0, [.val a0, .unset], [], H, 0, 0) fun r => Wp (Pg jz cs sf) 0 (186, L, r.1.toList ++ S, r.2, k + 0, n + 0) Q := gCall (d0_183 _ _ _) rfl rfl (M := 10) (W := 0) (C := 24) (Sl := 1152) (c := 0) (s := 0) ⟨rfl, Nat.le_of_ble_eq_true rfl, Nat.le_of_ble_eq_true rfl, rfl, rfl, rfl, rfl⟩ (by show entL [a0] 2 = _; rw [entL, laid_c1 h_a0, laid_nil]; rfl) h1 h2 h3 h4
theorem d0_186 (jz : Nat) (cs : Int32) (sf : Value) : decode ((Pg jz cs sf).mt 0).code 186 = .ok (.iload 9, 2) := (by decide +kernel : decode code 186 = .ok (.iload 9, 2))
theorem w0_186 {jz : Nat} {cs : Int32} {sf : Value} {L : List Slot} {S : List Value} {H : Hp} {k : Nat} {n : Nat} {Q : MRes → Prop} {l0 l1 l2 l3 l4 l5 l6 l7 l8 : Slot} {x : Int32} : Wp (Pg jz cs sf) 0 (186, l0 :: l1 :: l2 :: l3 :: l4 :: l5 :: l6 :: l7 :: l8 :: .val (.int x) :: L, S, H, k, n) Q ↔ Wp (Pg jz cs sf) 0 (188, l0 :: l1 :: l2 :: l3 :: l4 :: l5 :: l6 :: l7 :: l8 :: .val (.int x) :: L, (.int x) :: S, H, k, n) Q := gP (d0_186 _ _ _) rfl rfl
theorem d0_188 (jz : Nat) (cs : Int32) (sf : Value) : decode ((Pg jz cs sf).mt 0).code 188 = .ok (.if_icmp .ne 7, 3) := (by decide +kernel : decode code 188 = .ok (.if_icmp .ne 7, 3))
theorem w0_188 {jz : Nat} {cs : Int32} {sf : Value} {L : List Slot} {S : List Value} {H : Hp} {k : Nat} {n : Nat} {Q : MRes → Prop} {x y : Int32} : Wp (Pg jz cs sf) 0 (188, L, (.int y) :: (.int x) :: S, H, k, n) Q ↔ if ¬ x = y then Wp (Pg jz cs sf) 0 (195, L, S, H, k, n) Q else Wp (Pg jz cs sf) 0 (191, L, S, H, k, n) Q := gIcmp (d0_188 _ _ _) (by decide) (by decide) (i_ne x y)
theorem d0_191 (jz : Nat) (cs : Int32) (sf : Value) : decode ((Pg jz cs sf).mt 0).code 191 = .ok (.iconst 1, 1) := (by decide +kernel : decode code 191 = .ok (.iconst 1, 1))
theorem w0_191 {jz : Nat} {cs : Int32} {sf : Value} {L : List Slot} {S : List Value} {H : Hp} {k : Nat} {n : Nat} {Q : MRes → Prop} : Wp (Pg jz cs sf) 0 (191, L, S, H, k, n) Q ↔ Wp (Pg jz cs sf) 0 (192, L, (.int 1) :: S, H, k, n) Q := gP (d0_191 _ _ _) rfl rfl
theorem d0_192 (jz : Nat) (cs : Int32) (sf : Value) : decode ((Pg jz cs sf).mt 0).code 192 = .ok (.goto 4, 3) := (by decide +kernel : decode code 192 = .ok (.goto 4, 3))
theorem w0_192 {jz : Nat} {cs : Int32} {sf : Value} {L : List Slot} {S : List Value} {H : Hp} {k : Nat} {n : Nat} {Q : MRes → Prop} : Wp (Pg jz cs sf) 0 (192, L, S, H, k, n) Q ↔ Wp (Pg jz cs sf) 0 (196, L, S, H, k, n) Q := gGoto (d0_192 _ _ _) (by decide) (by decide)
theorem d0_195 (jz : Nat) (cs : Int32) (sf : Value) : decode ((Pg jz cs sf).mt 0).code 195 = .ok (.iconst 0, 1) := (by decide +kernel : decode code 195 = .ok (.iconst 0, 1))
theorem w0_195 {jz : Nat} {cs : Int32} {sf : Value} {L : List Slot} {S : List Value} {H : Hp} {k : Nat} {n : Nat} {Q : MRes → Prop} : Wp (Pg jz cs sf) 0 (195, L, S, H, k, n) Q ↔ Wp (Pg jz cs sf) 0 (196, L, (.int 0) :: S, H, k, n) Q := gP (d0_195 _ _ _) rfl rfl
theorem d0_196 (jz : Nat) (cs : Int32) (sf : Value) : decode ((Pg jz cs sf).mt 0).code 196 = .ok (.ireturn, 1) := (by decide +kernel : decode code 196 = .ok (.ireturn, 1))
theorem w0_196 {jz : Nat} {cs : Int32} {sf : Value} {L : List Slot} {S : List Value} {H : Hp} {k : Nat} {n : Nat} {Q : MRes → Prop} {x : Int32} (h1 : k ≤ 24) (h2 : n ≤ 1152) : Wp (Pg jz cs sf) 0 (196, L, (.int x) :: S, H, k, n) Q ↔ Q (some (.int (x &&& 1)), H) := gRet (d0_196 _ _ _) rfl rfl rfl rfl h1 h2
theorem d1_0 (jz : Nat) (cs : Int32) (sf : Value) : decode ((Pg jz cs sf).mt 1).code 0 = .ok (.iload_n 0, 1) := (by decide +kernel : decode method_3_code 0 = .ok (.iload_n 0, 1))
theorem w1_0 {jz : Nat} {cs : Int32} {sf : Value} {L : List Slot} {S : List Value} {H : Hp} {k : Nat} {n : Nat} {Q : MRes → Prop}  {x : Int32} : Wp (Pg jz cs sf) 1 (0, .val (.int x) :: L, S, H, k, n) Q ↔ Wp (Pg jz cs sf) 1 (1, .val (.int x) :: L, (.int x) :: S, H, k, n) Q := gP (d1_0 _ _ _) rfl rfl
theorem d1_1 (jz : Nat) (cs : Int32) (sf : Value) : decode ((Pg jz cs sf).mt 1).code 1 = .ok (.bipush 16, 2) := (by decide +kernel : decode method_3_code 1 = .ok (.bipush 16, 2))
theorem w1_1 {jz : Nat} {cs : Int32} {sf : Value} {L : List Slot} {S : List Value} {H : Hp} {k : Nat} {n : Nat} {Q : MRes → Prop} : Wp (Pg jz cs sf) 1 (1, L, S, H, k, n) Q ↔ Wp (Pg jz cs sf) 1 (3, L, (.int 16) :: S, H, k, n) Q := gP (d1_1 _ _ _) rfl rfl
theorem d1_3 (jz : Nat) (cs : Int32) (sf : Value) : decode ((Pg jz cs sf).mt 1).code 3 = .ok (.iushr, 1) := (by decide +kernel : decode method_3_code 3 = .ok (.iushr, 1))
theorem w1_3 {jz : Nat} {cs : Int32} {sf : Value} {L : List Slot} {S : List Value} {H : Hp} {k : Nat} {n : Nat} {Q : MRes → Prop} {x y : Int32} : Wp (Pg jz cs sf) 1 (3, L, (.int y) :: (.int x) :: S, H, k, n) Q ↔ Wp (Pg jz cs sf) 1 (4, L, (.int (XT.ushr x y)) :: S, H, k, n) Q := gP (d1_3 _ _ _) rfl rfl
theorem d1_4 (jz : Nat) (cs : Int32) (sf : Value) : decode ((Pg jz cs sf).mt 1).code 4 = .ok (.iconst 1, 1) := (by decide +kernel : decode method_3_code 4 = .ok (.iconst 1, 1))
theorem w1_4 {jz : Nat} {cs : Int32} {sf : Value} {L : List Slot} {S : List Value} {H : Hp} {k : Nat} {n : Nat} {Q : MRes → Prop} : Wp (Pg jz cs sf) 1 (4, L, S, H, k, n) Q ↔ Wp (Pg jz cs sf) 1 (5, L, (.int 1) :: S, H, k, n) Q := gP (d1_4 _ _ _) rfl rfl
theorem d1_5 (jz : Nat) (cs : Int32) (sf : Value) : decode ((Pg jz cs sf).mt 1).code 5 = .ok (.iand, 1) := (by decide +kernel : decode method_3_code 5 = .ok (.iand, 1))
theorem w1_5 {jz : Nat} {cs : Int32} {sf : Value} {L : List Slot} {S : List Value} {H : Hp} {k : Nat} {n : Nat} {Q : MRes → Prop} {x y : Int32} : Wp (Pg jz cs sf) 1 (5, L, (.int y) :: (.int x) :: S, H, k, n) Q ↔ Wp (Pg jz cs sf) 1 (6, L, (.int (x &&& y)) :: S, H, k, n) Q := gP (d1_5 _ _ _) rfl rfl
theorem d1_6 (jz : Nat) (cs : Int32) (sf : Value) : decode ((Pg jz cs sf).mt 1).code 6 = .ok (.ifCond .eq 9, 3) := (by decide +kernel : decode method_3_code 6 = .ok (.ifCond .eq 9, 3))
theorem w1_6 {jz : Nat} {cs : Int32} {sf : Value} {L : List Slot} {S : List Value} {H : Hp} {k : Nat} {n : Nat} {Q : MRes → Prop} {x : Int32} : Wp (Pg jz cs sf) 1 (6, L, (.int x) :: S, H, k, n) Q ↔ if x = 0 then Wp (Pg jz cs sf) 1 (15, L, S, H, k, n) Q else Wp (Pg jz cs sf) 1 (9, L, S, H, k, n) Q := gIf (d1_6 _ _ _) (by decide) (by decide) (c_eq x)
theorem d1_9 (jz : Nat) (cs : Int32) (sf : Value) : decode ((Pg jz cs sf).mt 1).code 9 = .ok (.iload_n 0, 1) := (by decide +kernel : decode method_3_code 9 = .ok (.iload_n 0, 1))
theorem w1_9 {jz : Nat} {cs : Int32} {sf : Value} {L : List Slot} {S : List Value} {H : Hp} {k : Nat} {n : Nat} {Q : MRes → Prop}  {x : Int32} : Wp (Pg jz cs sf) 1 (9, .val (.int x) :: L, S, H, k, n) Q ↔ Wp (Pg jz cs sf) 1 (10, .val (.int x) :: L, (.int x) :: S, H, k, n) Q := gP (d1_9 _ _ _) rfl rfl
theorem d1_10 (jz : Nat) (cs : Int32) (sf : Value) : decode ((Pg jz cs sf).mt 1).code 10 = .ok (.ldc 28, 2) := (by decide +kernel : decode method_3_code 10 = .ok (.ldc 28, 2))
theorem w1_10 {jz : Nat} {cs : Int32} {sf : Value} {L : List Slot} {S : List Value} {H : Hp} {k : Nat} {n : Nat} {Q : MRes → Prop} : Wp (Pg jz cs sf) 1 (10, L, S, H, k, n) Q ↔ Wp (Pg jz cs sf) 1 (12, L, (.int 65535) :: S, H, k, n) Q := gH (d1_10 _ _ _) rfl rfl
theorem d1_12 (jz : Nat) (cs : Int32) (sf : Value) : decode ((Pg jz cs sf).mt 1).code 12 = .ok (.iand, 1) := (by decide +kernel : decode method_3_code 12 = .ok (.iand, 1))
theorem w1_12 {jz : Nat} {cs : Int32} {sf : Value} {L : List Slot} {S : List Value} {H : Hp} {k : Nat} {n : Nat} {Q : MRes → Prop} {x y : Int32} : Wp (Pg jz cs sf) 1 (12, L, (.int y) :: (.int x) :: S, H, k, n) Q ↔ Wp (Pg jz cs sf) 1 (13, L, (.int (x &&& y)) :: S, H, k, n) Q := gP (d1_12 _ _ _) rfl rfl
theorem d1_13 (jz : Nat) (cs : Int32) (sf : Value) : decode ((Pg jz cs sf).mt 1).code 13 = .ok (.i2c, 1) := (by decide +kernel : decode method_3_code 13 = .ok (.i2c, 1))
theorem w1_13 {jz : Nat} {cs : Int32} {sf : Value} {L : List Slot} {S : List Value} {H : Hp} {k : Nat} {n : Nat} {Q : MRes → Prop} {x : Int32} : Wp (Pg jz cs sf) 1 (13, L, (.int x) :: S, H, k, n) Q ↔ Wp (Pg jz cs sf) 1 (14, L, (.int x.toUInt32.toUInt16.toUInt32.toInt32) :: S, H, k, n) Q := gP (d1_13 _ _ _) rfl rfl
theorem d1_14 (jz : Nat) (cs : Int32) (sf : Value) : decode ((Pg jz cs sf).mt 1).code 14 = .ok (.ireturn, 1) := (by decide +kernel : decode method_3_code 14 = .ok (.ireturn, 1))
theorem w1_14 {jz : Nat} {cs : Int32} {sf : Value} {L : List Slot} {S : List Value} {H : Hp} {k : Nat} {n : Nat} {Q : MRes → Prop} {x : Int32} (h1 : k ≤ 0) (h2 : n ≤ 0) : Wp (Pg jz cs sf) 1 (14, L, (.int x) :: S, H, k, n) Q ↔ Q (some (.int (x.toUInt32.toUInt16.toUInt32.toInt32)), H) := gRet (d1_14 _ _ _) rfl rfl rfl rfl h1 h2
theorem d1_15 (jz : Nat) (cs : Int32) (sf : Value) : decode ((Pg jz cs sf).mt 1).code 15 = .ok (.iload_n 0, 1) := (by decide +kernel : decode method_3_code 15 = .ok (.iload_n 0, 1))
theorem w1_15 {jz : Nat} {cs : Int32} {sf : Value} {L : List Slot} {S : List Value} {H : Hp} {k : Nat} {n : Nat} {Q : MRes → Prop}  {x : Int32} : Wp (Pg jz cs sf) 1 (15, .val (.int x) :: L, S, H, k, n) Q ↔ Wp (Pg jz cs sf) 1 (16, .val (.int x) :: L, (.int x) :: S, H, k, n) Q := gP (d1_15 _ _ _) rfl rfl
theorem d1_16 (jz : Nat) (cs : Int32) (sf : Value) : decode ((Pg jz cs sf).mt 1).code 16 = .ok (.sipush 255, 3) := (by decide +kernel : decode method_3_code 16 = .ok (.sipush 255, 3))
theorem w1_16 {jz : Nat} {cs : Int32} {sf : Value} {L : List Slot} {S : List Value} {H : Hp} {k : Nat} {n : Nat} {Q : MRes → Prop} : Wp (Pg jz cs sf) 1 (16, L, S, H, k, n) Q ↔ Wp (Pg jz cs sf) 1 (19, L, (.int 255) :: S, H, k, n) Q := gP (d1_16 _ _ _) rfl rfl
theorem d1_19 (jz : Nat) (cs : Int32) (sf : Value) : decode ((Pg jz cs sf).mt 1).code 19 = .ok (.iand, 1) := (by decide +kernel : decode method_3_code 19 = .ok (.iand, 1))
theorem w1_19 {jz : Nat} {cs : Int32} {sf : Value} {L : List Slot} {S : List Value} {H : Hp} {k : Nat} {n : Nat} {Q : MRes → Prop} {x y : Int32} : Wp (Pg jz cs sf) 1 (19, L, (.int y) :: (.int x) :: S, H, k, n) Q ↔ Wp (Pg jz cs sf) 1 (20, L, (.int (x &&& y)) :: S, H, k, n) Q := gP (d1_19 _ _ _) rfl rfl
theorem d1_20 (jz : Nat) (cs : Int32) (sf : Value) : decode ((Pg jz cs sf).mt 1).code 20 = .ok (.i2c, 1) := (by decide +kernel : decode method_3_code 20 = .ok (.i2c, 1))
theorem w1_20 {jz : Nat} {cs : Int32} {sf : Value} {L : List Slot} {S : List Value} {H : Hp} {k : Nat} {n : Nat} {Q : MRes → Prop} {x : Int32} : Wp (Pg jz cs sf) 1 (20, L, (.int x) :: S, H, k, n) Q ↔ Wp (Pg jz cs sf) 1 (21, L, (.int x.toUInt32.toUInt16.toUInt32.toInt32) :: S, H, k, n) Q := gP (d1_20 _ _ _) rfl rfl
theorem d1_21 (jz : Nat) (cs : Int32) (sf : Value) : decode ((Pg jz cs sf).mt 1).code 21 = .ok (.ireturn, 1) := (by decide +kernel : decode method_3_code 21 = .ok (.ireturn, 1))
theorem w1_21 {jz : Nat} {cs : Int32} {sf : Value} {L : List Slot} {S : List Value} {H : Hp} {k : Nat} {n : Nat} {Q : MRes → Prop} {x : Int32} (h1 : k ≤ 0) (h2 : n ≤ 0) : Wp (Pg jz cs sf) 1 (21, L, (.int x) :: S, H, k, n) Q ↔ Q (some (.int (x.toUInt32.toUInt16.toUInt32.toInt32)), H) := gRet (d1_21 _ _ _) rfl rfl rfl rfl h1 h2
theorem d2_0 (jz : Nat) (cs : Int32) (sf : Value) : decode ((Pg jz cs sf).mt 2).code 0 = .ok (.aload_n 0, 1) := (by decide +kernel : decode jdk_42_method_3_code 0 = .ok (.aload_n 0, 1))
theorem w2_0 {jz : Nat} {cs : Int32} {sf : Value} {L : List Slot} {S : List Value} {H : Hp} {k : Nat} {n : Nat} {Q : MRes → Prop}  {v : Value} (hv : isA v = true) : Wp (Pg jz cs sf) 2 (0, .val v :: L, S, H, k, n) Q ↔ Wp (Pg jz cs sf) 2 (1, .val v :: L, v :: S, H, k, n) Q := gP (d2_0 _ _ _) rfl (by show (if isA v = true then _ else _) = _; rw [if_pos hv])
theorem d2_1 (jz : Nat) (cs : Int32) (sf : Value) : decode ((Pg jz cs sf).mt 2).code 1 = .ok (.aload_n 1, 1) := (by decide +kernel : decode jdk_42_method_3_code 1 = .ok (.aload_n 1, 1))
theorem w2_1 {jz : Nat} {cs : Int32} {sf : Value} {L : List Slot} {S : List Value} {H : Hp} {k : Nat} {n : Nat} {Q : MRes → Prop} {l0 : Slot} {v : Value} (hv : isA v = true) : Wp (Pg jz cs sf) 2 (1, l0 :: .val v :: L, S, H, k, n) Q ↔ Wp (Pg jz cs sf) 2 (2, l0 :: .val v :: L, v :: S, H, k, n) Q := gP (d2_1 _ _ _) rfl (by show (if isA v = true then _ else _) = _; rw [if_pos hv])
theorem d2_2 (jz : Nat) (cs : Int32) (sf : Value) : decode ((Pg jz cs sf).mt 2).code 2 = .ok (.iconst 0, 1) := (by decide +kernel : decode jdk_42_method_3_code 2 = .ok (.iconst 0, 1))
theorem w2_2 {jz : Nat} {cs : Int32} {sf : Value} {L : List Slot} {S : List Value} {H : Hp} {k : Nat} {n : Nat} {Q : MRes → Prop} : Wp (Pg jz cs sf) 2 (2, L, S, H, k, n) Q ↔ Wp (Pg jz cs sf) 2 (3, L, (.int 0) :: S, H, k, n) Q := gP (d2_2 _ _ _) rfl rfl
theorem d2_3 (jz : Nat) (cs : Int32) (sf : Value) : decode ((Pg jz cs sf).mt 2).code 3 = .ok (.aload_n 1, 1) := (by decide +kernel : decode jdk_42_method_3_code 3 = .ok (.aload_n 1, 1))
theorem w2_3 {jz : Nat} {cs : Int32} {sf : Value} {L : List Slot} {S : List Value} {H : Hp} {k : Nat} {n : Nat} {Q : MRes → Prop} {l0 : Slot} {v : Value} (hv : isA v = true) : Wp (Pg jz cs sf) 2 (3, l0 :: .val v :: L, S, H, k, n) Q ↔ Wp (Pg jz cs sf) 2 (4, l0 :: .val v :: L, v :: S, H, k, n) Q := gP (d2_3 _ _ _) rfl (by show (if isA v = true then _ else _) = _; rw [if_pos hv])
theorem d2_4 (jz : Nat) (cs : Int32) (sf : Value) : decode ((Pg jz cs sf).mt 2).code 4 = .ok (.arraylength, 1) := (by decide +kernel : decode jdk_42_method_3_code 4 = .ok (.arraylength, 1))
theorem w2_4 {jz : Nat} {cs : Int32} {sf : Value} {L : List Slot} {S : List Value} {H : Hp} {k : Nat} {n : Nat} {Q : MRes → Prop} {a : Nat} : Wp (Pg jz cs sf) 2 (4, L, (.ref a) :: S, H, k, n) Q ↔ ∃ v, alen H a = some v ∧ Wp (Pg jz cs sf) 2 (5, L, (.int v) :: S, H, k, n) Q := gLen (d2_4 _ _ _)
theorem d2_5 (jz : Nat) (cs : Int32) (sf : Value) : decode ((Pg jz cs sf).mt 2).code 5 = .ok (.aconst_null, 1) := (by decide +kernel : decode jdk_42_method_3_code 5 = .ok (.aconst_null, 1))
theorem w2_5 {jz : Nat} {cs : Int32} {sf : Value} {L : List Slot} {S : List Value} {H : Hp} {k : Nat} {n : Nat} {Q : MRes → Prop} : Wp (Pg jz cs sf) 2 (5, L, S, H, k, n) Q ↔ Wp (Pg jz cs sf) 2 (6, L, .null :: S, H, k, n) Q := gP (d2_5 _ _ _) rfl rfl
theorem d2_6 (jz : Nat) (cs : Int32) (sf : Value) : decode ((Pg jz cs sf).mt 2).code 6 = .ok (.invokespecial 27, 3) := (by decide +kernel : decode jdk_42_method_3_code 6 = .ok (.invokespecial 27, 3))
theorem w2_6 {jz : Nat} {cs : Int32} {sf : Value} {L : List Slot} {S : List Value} {H : Hp} {k : Nat} {n : Nat} {Q : MRes → Prop} {a0 : Value} {a1 : Int32} {a2 : Int32} {a3 : Value} {a : Nat}  (h_a0 : cat a0 = 1) (h_a3 : cat a3 = 1) (h1 : L.length = 2) (h2 : wt S ≤ 0) (h3 : k + 2 ≤ 2) (h4 : n + 9 ≤ 9) : Wp (Pg jz cs sf) 2 (6, L, a3 :: (.int a2) :: (.int a1) :: a0 :: (.ref a) :: S, H, k, n) Q ↔ Wp (Pg jz cs sf) 3 (0, [.val (.ref a), .val a0, .val (.int a1), .val (.int a2), .val a3, .unset], [], H, 0, 0) fun r => Wp (Pg jz cs sf) 2 (9, L, r.1.toList ++ S, r.2, k + 2, n + 9) Q := gCall (d2_6 _ _ _) rfl rfl (M := 2) (W := 0) (C := 2) (Sl := 9) (c := 2) (s := 9) ⟨rfl, Nat.le_of_ble_eq_true rfl, Nat.le_of_ble_eq_true rfl, rfl, rfl, rfl, rfl⟩ (by show entL [(.ref a), a0, (.int a1), (.int a2), a3] 6 = _; rw [entL, laid_c1 rfl, laid_c1 h_a0, laid_c1 rfl, laid_c1 rfl, laid_c1 h_a3, laid_nil]; rfl) h1 h2 h3 h4
theorem d2_9 (jz : Nat) (cs : Int32) (sf : Value) : decode ((Pg jz cs sf).mt 2).code 9 = .ok (.return_, 1) := (by decide +kernel : decode jdk_42_method_3_code 9 = .ok (.return_, 1))
theorem w2_9 {jz : Nat} {cs : Int32} {sf : Value} {L : List Slot} {H : Hp} {k : Nat} {n : Nat} {Q : MRes → Prop} (h1 : k ≤ 2) (h2 : n ≤ 9) : Wp (Pg jz cs sf) 2 (9, L, [], H, k, n) Q ↔ Q (none, H) := gRet (d2_9 _ _ _) rfl rfl rfl rfl h1 h2
theorem d3_0 (jz : Nat) (cs : Int32) (sf : Value) : decode ((Pg jz cs sf).mt 3).code 0 = .ok (.aload_n 0, 1) := (by decide +kernel : decode jdk_42_method_149_code 0 = .ok (.aload_n 0, 1))
theorem w3_0 {jz : Nat} {cs : Int32} {sf : Value} {L : List Slot} {S : List Value} {H : Hp} {k : Nat} {n : Nat} {Q : MRes → Prop}  {v : Value} (hv : isA v = true) : Wp (Pg jz cs sf) 3 (0, .val v :: L, S, H, k, n) Q ↔ Wp (Pg jz cs sf) 3 (1, .val v :: L, v :: S, H, k, n) Q := gP (d3_0 _ _ _) rfl (by show (if isA v = true then _ else _) = _; rw [if_pos hv])
theorem d3_1 (jz : Nat) (cs : Int32) (sf : Value) : decode ((Pg jz cs sf).mt 3).code 1 = .ok (.invokespecial 1, 3) := (by decide +kernel : decode jdk_42_method_149_code 1 = .ok (.invokespecial 1, 3))
theorem w3_1 {jz : Nat} {cs : Int32} {sf : Value} {L : List Slot} {S : List Value} {H : Hp} {k : Nat} {n : Nat} {Q : MRes → Prop} {a : Nat} (h1 : L.length = 6) (h2 : wt S + 12 ≤ 60) : Wp (Pg jz cs sf) 3 (1, L, (.ref a) :: S, H, k, n) Q ↔ Wp (Pg jz cs sf) 3 (4, L, S, H, k, n) Q := gObj (d3_1 _ _ _) rfl rfl rfl rfl (Nat.le_of_ble_eq_true rfl) h1 h2
theorem d3_4 (jz : Nat) (cs : Int32) (sf : Value) : decode ((Pg jz cs sf).mt 3).code 4 = .ok (.iload_n 3, 1) := (by decide +kernel : decode jdk_42_method_149_code 4 = .ok (.iload_n 3, 1))
theorem w3_4 {jz : Nat} {cs : Int32} {sf : Value} {L : List Slot} {S : List Value} {H : Hp} {k : Nat} {n : Nat} {Q : MRes → Prop} {l0 l1 l2 : Slot} {x : Int32} : Wp (Pg jz cs sf) 3 (4, l0 :: l1 :: l2 :: .val (.int x) :: L, S, H, k, n) Q ↔ Wp (Pg jz cs sf) 3 (5, l0 :: l1 :: l2 :: .val (.int x) :: L, (.int x) :: S, H, k, n) Q := gP (d3_4 _ _ _) rfl rfl
theorem d3_5 (jz : Nat) (cs : Int32) (sf : Value) : decode ((Pg jz cs sf).mt 3).code 5 = .ok (.ifCond .ne 22, 3) := (by decide +kernel : decode jdk_42_method_149_code 5 = .ok (.ifCond .ne 22, 3))
theorem w3_5 {jz : Nat} {cs : Int32} {sf : Value} {L : List Slot} {S : List Value} {H : Hp} {k : Nat} {n : Nat} {Q : MRes → Prop} {x : Int32} : Wp (Pg jz cs sf) 3 (5, L, (.int x) :: S, H, k, n) Q ↔ if ¬ x = 0 then Wp (Pg jz cs sf) 3 (27, L, S, H, k, n) Q else Wp (Pg jz cs sf) 3 (8, L, S, H, k, n) Q := gIf (d3_5 _ _ _) (by decide) (by decide) (c_ne x)
theorem d3_8 (jz : Nat) (cs : Int32) (sf : Value) : decode ((Pg jz cs sf).mt 3).code 8 = .ok (.aload_n 0, 1) := (by decide +kernel : decode jdk_42_method_149_code 8 = .ok (.aload_n 0, 1))
theorem w3_8 {jz : Nat} {cs : Int32} {sf : Value} {L : List Slot} {S : List Value} {H : Hp} {k : Nat} {n : Nat} {Q : MRes → Prop}  {v : Value} (hv : isA v = true) : Wp (Pg jz cs sf) 3 (8, .val v :: L, S, H, k, n) Q ↔ Wp (Pg jz cs sf) 3 (9, .val v :: L, v :: S, H, k, n) Q := gP (d3_8 _ _ _) rfl (by show (if isA v = true then _ else _) = _; rw [if_pos hv])
theorem d3_27 (jz : Nat) (cs : Int32) (sf : Value) : decode ((Pg jz cs sf).mt 3).code 27 = .ok (.getstatic 38, 3) := (by decide +kernel : decode jdk_42_method_149_code 27 = .ok (.getstatic 38, 3))
theorem w3_27 {jz : Nat} {cs : Int32} {sf : Value} {L : List Slot} {S : List Value} {H : Hp} {k : Nat} {n : Nat} {Q : MRes → Prop} : Wp (Pg jz cs sf) 3 (27, L, S, H, k, n) Q ↔ Wp (Pg jz cs sf) 3 (30, L, (.int cs) :: S, H, k, n) Q := gH (d3_27 _ _ _) rfl rfl
theorem d3_30 (jz : Nat) (cs : Int32) (sf : Value) : decode ((Pg jz cs sf).mt 3).code 30 = .ok (.ifCond .eq 28, 3) := (by decide +kernel : decode jdk_42_method_149_code 30 = .ok (.ifCond .eq 28, 3))
theorem w3_30 {jz : Nat} {cs : Int32} {sf : Value} {L : List Slot} {S : List Value} {H : Hp} {k : Nat} {n : Nat} {Q : MRes → Prop} {x : Int32} : Wp (Pg jz cs sf) 3 (30, L, (.int x) :: S, H, k, n) Q ↔ if x = 0 then Wp (Pg jz cs sf) 3 (58, L, S, H, k, n) Q else Wp (Pg jz cs sf) 3 (33, L, S, H, k, n) Q := gIf (d3_30 _ _ _) (by decide) (by decide) (c_eq x)
theorem d3_33 (jz : Nat) (cs : Int32) (sf : Value) : decode ((Pg jz cs sf).mt 3).code 33 = .ok (.aload_n 1, 1) := (by decide +kernel : decode jdk_42_method_149_code 33 = .ok (.aload_n 1, 1))
theorem w3_33 {jz : Nat} {cs : Int32} {sf : Value} {L : List Slot} {S : List Value} {H : Hp} {k : Nat} {n : Nat} {Q : MRes → Prop} {l0 : Slot} {v : Value} (hv : isA v = true) : Wp (Pg jz cs sf) 3 (33, l0 :: .val v :: L, S, H, k, n) Q ↔ Wp (Pg jz cs sf) 3 (34, l0 :: .val v :: L, v :: S, H, k, n) Q := gP (d3_33 _ _ _) rfl (by show (if isA v = true then _ else _) = _; rw [if_pos hv])
theorem d3_34 (jz : Nat) (cs : Int32) (sf : Value) : decode ((Pg jz cs sf).mt 3).code 34 = .ok (.iload_n 2, 1) := (by decide +kernel : decode jdk_42_method_149_code 34 = .ok (.iload_n 2, 1))
theorem w3_34 {jz : Nat} {cs : Int32} {sf : Value} {L : List Slot} {S : List Value} {H : Hp} {k : Nat} {n : Nat} {Q : MRes → Prop} {l0 l1 : Slot} {x : Int32} : Wp (Pg jz cs sf) 3 (34, l0 :: l1 :: .val (.int x) :: L, S, H, k, n) Q ↔ Wp (Pg jz cs sf) 3 (35, l0 :: l1 :: .val (.int x) :: L, (.int x) :: S, H, k, n) Q := gP (d3_34 _ _ _) rfl rfl
theorem d3_35 (jz : Nat) (cs : Int32) (sf : Value) : decode ((Pg jz cs sf).mt 3).code 35 = .ok (.iload_n 3, 1) := (by decide +kernel : decode jdk_42_method_149_code 35 = .ok (.iload_n 3, 1))
theorem w3_35 {jz : Nat} {cs : Int32} {sf : Value} {L : List Slot} {S : List Value} {H : Hp} {k : Nat} {n : Nat} {Q : MRes → Prop} {l0 l1 l2 : Slot} {x : Int32} : Wp (Pg jz cs sf) 3 (35, l0 :: l1 :: l2 :: .val (.int x) :: L, S, H, k, n) Q ↔ Wp (Pg jz cs sf) 3 (36, l0 :: l1 :: l2 :: .val (.int x) :: L, (.int x) :: S, H, k, n) Q := gP (d3_35 _ _ _) rfl rfl
theorem d3_36 (jz : Nat) (cs : Int32) (sf : Value) : decode ((Pg jz cs sf).mt 3).code 36 = .ok (.invokestatic 177, 3) := (by decide +kernel : decode jdk_42_method_149_code 36 = .ok (.invokestatic 177, 3))
theorem w3_36 {jz : Nat} {cs : Int32} {sf : Value} {L : List Slot} {S : List Value} {H : Hp} {k : Nat} {n : Nat} {Q : MRes → Prop} {a0 : Value} {a1 : Int32} {a2 : Int32}  (h_a0 : cat a0 = 1) (h1 : L.length = 6) (h2 : wt S ≤ 0) (h3 : k + 2 ≤ 2) (h4 : n + 9 ≤ 9) : Wp (Pg jz cs sf) 3 (36, L, (.int a2) :: (.int a1) :: a0 :: S, H, k, n) Q ↔ Wp (Pg jz cs sf) 7 (0, [.val a0, .val (.int a1), .val (.int a2), .unset, .unset, .unset], [], H, 0, 0) fun r => Wp (Pg jz cs sf) 3 (39, L, r.1.toList ++ S, r.2, k + 2, n + 9) Q := gCall (d3_36 _ _ _) rfl rfl (M := 6) (W := 0) (C := 2) (Sl := 9) (c := 2) (s := 9) ⟨rfl, Nat.le_of_ble_eq_true rfl, Nat.le_of_ble_eq_true rfl, rfl, rfl, rfl, rfl⟩ (by show entL [a0, (.int a1), (.int a2)] 6 = _; rw [entL, laid_c1 h_a0, laid_c1 rfl, laid_c1 rfl, laid_nil]; rfl) h1 h2 h3 h4
theorem d3_39 (jz : Nat) (cs : Int32) (sf : Value) : decode ((Pg jz cs sf).mt 3).code 39 = .ok (.astore 5, 2) := (by decide +kernel : decode jdk_42_method_149_code 39 = .ok (.astore 5, 2))
theorem w3_39 {jz : Nat} {cs : Int32} {sf : Value} {L : List Slot} {S : List Value} {H : Hp} {k : Nat} {n : Nat} {Q : MRes → Prop} {l0 l1 l2 l3 l4 : Slot} {o : Slot} {v : Value} (ho : s1 o = true) (hv : isA v = true) : Wp (Pg jz cs sf) 3 (39, l0 :: l1 :: l2 :: l3 :: l4 :: o :: L, v :: S, H, k, n) Q ↔ Wp (Pg jz cs sf) 3 (41, l0 :: l1 :: l2 :: l3 :: l4 :: .val v :: L, S, H, k, n) Q := gP (d3_39 _ _ _) rfl (st1_eq (o := o) rfl ho hv)
theorem d3_41 (jz : Nat) (cs : Int32) (sf : Value) : decode ((Pg jz cs sf).mt 3).code 41 = .ok (.aload_n 0, 1) := (by decide +kernel : decode jdk_42_method_149_code 41 = .ok (.aload_n 0, 1))
theorem w3_41 {jz : Nat} {cs : Int32} {sf : Value} {L : List Slot} {S : List Value} {H : Hp} {k : Nat} {n : Nat} {Q : MRes → Prop}  {v : Value} (hv : isA v = true) : Wp (Pg jz cs sf) 3 (41, .val v :: L, S, H, k, n) Q ↔ Wp (Pg jz cs sf) 3 (42, .val v :: L, v :: S, H, k, n) Q := gP (d3_41 _ _ _) rfl (by show (if isA v = true then _ else _) = _; rw [if_pos hv])
theorem d3_42 (jz : Nat) (cs : Int32) (sf : Value) : decode ((Pg jz cs sf).mt 3).code 42 = .ok (.aload 5, 2) := (by decide +kernel : decode jdk_42_method_149_code 42 = .ok (.aload 5, 2))
theorem w3_42 {jz : Nat} {cs : Int32} {sf : Value} {L : List Slot} {S : List Value} {H : Hp} {k : Nat} {n : Nat} {Q : MRes → Prop} {l0 l1 l2 l3 l4 : Slot} {v : Value} (hv : isA v = true) : Wp (Pg jz cs sf) 3 (42, l0 :: l1 :: l2 :: l3 :: l4 :: .val v :: L, S, H, k, n) Q ↔ Wp (Pg jz cs sf) 3 (44, l0 :: l1 :: l2 :: l3 :: l4 :: .val v :: L, v :: S, H, k, n) Q := gP (d3_42 _ _ _) rfl (by show (if isA v = true then _ else _) = _; rw [if_pos hv])
theorem d3_44 (jz : Nat) (cs : Int32) (sf : Value) : decode ((Pg jz cs sf).mt 3).code 44 = .ok (.iload_n 3, 1) := (by decide +kernel : decode jdk_42_method_149_code 44 = .ok (.iload_n 3, 1))
theorem w3_44 {jz : Nat} {cs : Int32} {sf : Value} {L : List Slot} {S : List Value} {H : Hp} {k : Nat} {n : Nat} {Q : MRes → Prop} {l0 l1 l2 : Slot} {x : Int32} : Wp (Pg jz cs sf) 3 (44, l0 :: l1 :: l2 :: .val (.int x) :: L, S, H, k, n) Q ↔ Wp (Pg jz cs sf) 3 (45, l0 :: l1 :: l2 :: .val (.int x) :: L, (.int x) :: S, H, k, n) Q := gP (d3_44 _ _ _) rfl rfl
theorem d3_45 (jz : Nat) (cs : Int32) (sf : Value) : decode ((Pg jz cs sf).mt 3).code 45 = .ok (.invokestatic 47, 3) := (by decide +kernel : decode jdk_42_method_149_code 45 = .ok (.invokestatic 47, 3))
theorem w3_45 {jz : Nat} {cs : Int32} {sf : Value} {L : List Slot} {S : List Value} {H : Hp} {k : Nat} {n : Nat} {Q : MRes → Prop} {a0 : Value} {a1 : Int32}  (h_a0 : cat a0 = 1) (h1 : L.length = 6) (h2 : wt S ≤ 1) (h3 : k + 0 ≤ 2) (h4 : n + 0 ≤ 9) : Wp (Pg jz cs sf) 3 (45, L, (.int a1) :: a0 :: S, H, k, n) Q ↔ Wp (Pg jz cs sf) 9 (0, [.val a0, .val (.int a1)], [], H, 0, 0) fun r => Wp (Pg jz cs sf) 3 (48, L, r.1.toList ++ S, r.2, k + 0, n + 0) Q := gCall (d3_45 _ _ _) rfl rfl (M := 6) (W := 1) (C := 2) (Sl := 9) (c := 0) (s := 0) ⟨rfl, Nat.le_of_ble_eq_true rfl, Nat.le_of_ble_eq_true rfl, rfl, rfl, rfl, rfl⟩ (by show entL [a0, (.int a1)] 2 = _; rw [entL, laid_c1 h_a0, laid_c1 rfl, laid_nil]; rfl) h1 h2 h3 h4
theorem d3_48 (jz : Nat) (cs : Int32) (sf : Value) : decode ((Pg jz cs sf).mt 3).code 48 = .ok (.putfield 15, 3) := (by decide +kernel : decode jdk_42_method_149_code 48 = .ok (.putfield 15, 3))
theorem w3_48 {jz : Nat} {cs : Int32} {sf : Value} {L : List Slot} {S : List Value} {H : Hp} {k : Nat} {n : Nat} {Q : MRes → Prop} {a : Nat} {v : Value} : Wp (Pg jz cs sf) 3 (48, L, v :: (.ref a) :: S, H, k, n) Q ↔ ∃ H', wrF (Pg jz cs sf) 3 15 H a v = some H' ∧ Wp (Pg jz cs sf) 3 (51, L, S, H', k, n) Q := gPut (d3_48 _ _ _)
theorem d3_51 (jz : Nat) (cs : Int32) (sf : Value) : decode ((Pg jz cs sf).mt 3).code 51 = .ok (.aload_n 0, 1) := (by decide +kernel : decode jdk_42_method_149_code 51 = .ok (.aload_n 0, 1))
theorem w3_51 {jz : Nat} {cs : Int32} {sf : Value} {L : List Slot} {S : List Value} {H : Hp} {k : Nat} {n : Nat} {Q : MRes → Prop}  {v : Value} (hv : isA v = true) : Wp (Pg jz cs sf) 3 (51, .val v :: L, S, H, k, n) Q ↔ Wp (Pg jz cs sf) 3 (52, .val v :: L, v :: S, H, k, n) Q := gP (d3_51 _ _ _) rfl (by show (if isA v = true then _ else _) = _; rw [if_pos hv])
theorem d3_52 (jz : Nat) (cs : Int32) (sf : Value) : decode ((Pg jz cs sf).mt 3).code 52 = .ok (.aload 5, 2) := (by decide +kernel : decode jdk_42_method_149_code 52 = .ok (.aload 5, 2))
theorem w3_52 {jz : Nat} {cs : Int32} {sf : Value} {L : List Slot} {S : List Value} {H : Hp} {k : Nat} {n : Nat} {Q : MRes → Prop} {l0 l1 l2 l3 l4 : Slot} {v : Value} (hv : isA v = true) : Wp (Pg jz cs sf) 3 (52, l0 :: l1 :: l2 :: l3 :: l4 :: .val v :: L, S, H, k, n) Q ↔ Wp (Pg jz cs sf) 3 (54, l0 :: l1 :: l2 :: l3 :: l4 :: .val v :: L, v :: S, H, k, n) Q := gP (d3_52 _ _ _) rfl (by show (if isA v = true then _ else _) = _; rw [if_pos hv])
theorem d3_54 (jz : Nat) (cs : Int32) (sf : Value) : decode ((Pg jz cs sf).mt 3).code 54 = .ok (.putfield 9, 3) := (by decide +kernel : decode jdk_42_method_149_code 54 = .ok (.putfield 9, 3))
theorem w3_54 {jz : Nat} {cs : Int32} {sf : Value} {L : List Slot} {S : List Value} {H : Hp} {k : Nat} {n : Nat} {Q : MRes → Prop} {a : Nat} {v : Value} : Wp (Pg jz cs sf) 3 (54, L, v :: (.ref a) :: S, H, k, n) Q ↔ ∃ H', wrF (Pg jz cs sf) 3 9 H a v = some H' ∧ Wp (Pg jz cs sf) 3 (57, L, S, H', k, n) Q := gPut (d3_54 _ _ _)
theorem d3_57 (jz : Nat) (cs : Int32) (sf : Value) : decode ((Pg jz cs sf).mt 3).code 57 = .ok (.return_, 1) := (by decide +kernel : decode jdk_42_method_149_code 57 = .ok (.return_, 1))
theorem w3_57 {jz : Nat} {cs : Int32} {sf : Value} {L : List Slot} {H : Hp} {k : Nat} {n : Nat} {Q : MRes → Prop} (h1 : k ≤ 2) (h2 : n ≤ 9) : Wp (Pg jz cs sf) 3 (57, L, [], H, k, n) Q ↔ Q (none, H) := gRet (d3_57 _ _ _) rfl rfl rfl rfl h1 h2
theorem d3_58 (jz : Nat) (cs : Int32) (sf : Value) : decode ((Pg jz cs sf).mt 3).code 58 = .ok (.aload_n 0, 1) := (by decide +kernel : decode jdk_42_method_149_code 58 = .ok (.aload_n 0, 1))
theorem w3_58 {jz : Nat} {cs : Int32} {sf : Value} {L : List Slot} {S : List Value} {H : Hp} {k : Nat} {n : Nat} {Q : MRes → Prop}  {v : Value} (hv : isA v = true) : Wp (Pg jz cs sf) 3 (58, .val v :: L, S, H, k, n) Q ↔ Wp (Pg jz cs sf) 3 (59, .val v :: L, v :: S, H, k, n) Q := gP (d3_58 _ _ _) rfl (by show (if isA v = true then _ else _) = _; rw [if_pos hv])
theorem d3_59 (jz : Nat) (cs : Int32) (sf : Value) : decode ((Pg jz cs sf).mt 3).code 59 = .ok (.iconst 1, 1) := (by decide +kernel : decode jdk_42_method_149_code 59 = .ok (.iconst 1, 1))
theorem w3_59 {jz : Nat} {cs : Int32} {sf : Value} {L : List Slot} {S : List Value} {H : Hp} {k : Nat} {n : Nat} {Q : MRes → Prop} : Wp (Pg jz cs sf) 3 (59, L, S, H, k, n) Q ↔ Wp (Pg jz cs sf) 3 (60, L, (.int 1) :: S, H, k, n) Q := gP (d3_59 _ _ _) rfl rfl
theorem d3_60 (jz : Nat) (cs : Int32) (sf : Value) : decode ((Pg jz cs sf).mt 3).code 60 = .ok (.putfield 15, 3) := (by decide +kernel : decode jdk_42_method_149_code 60 = .ok (.putfield 15, 3))
theorem w3_60 {jz : Nat} {cs : Int32} {sf : Value} {L : List Slot} {S : List Value} {H : Hp} {k : Nat} {n : Nat} {Q : MRes → Prop} {a : Nat} {v : Value} : Wp (Pg jz cs sf) 3 (60, L, v :: (.ref a) :: S, H, k, n) Q ↔ ∃ H', wrF (Pg jz cs sf) 3 15 H a v = some H' ∧ Wp (Pg jz cs sf) 3 (63, L, S, H', k, n) Q := gPut (d3_60 _ _ _)
theorem d3_63 (jz : Nat) (cs : Int32) (sf : Value) : decode ((Pg jz cs sf).mt 3).code 63 = .ok (.aload_n 0, 1) := (by decide +kernel : decode jdk_42_method_149_code 63 = .ok (.aload_n 0, 1))
theorem w3_63 {jz : Nat} {cs : Int32} {sf : Value} {L : List Slot} {S : List Value} {H : Hp} {k : Nat} {n : Nat} {Q : MRes → Prop}  {v : Value} (hv : isA v = true) : Wp (Pg jz cs sf) 3 (63, .val v :: L, S, H, k, n) Q ↔ Wp (Pg jz cs sf) 3 (64, .val v :: L, v :: S, H, k, n) Q := gP (d3_63 _ _ _) rfl (by show (if isA v = true then _ else _) = _; rw [if_pos hv])
theorem d3_64 (jz : Nat) (cs : Int32) (sf : Value) : decode ((Pg jz cs sf).mt 3).code 64 = .ok (.aload_n 1, 1) := (by decide +kernel : decode jdk_42_method_149_code 64 = .ok (.aload_n 1, 1))
theorem w3_64 {jz : Nat} {cs : Int32} {sf : Value} {L : List Slot} {S : List Value} {H : Hp} {k : Nat} {n : Nat} {Q : MRes → Prop} {l0 : Slot} {v : Value} (hv : isA v = true) : Wp (Pg jz cs sf) 3 (64, l0 :: .val v :: L, S, H, k, n) Q ↔ Wp (Pg jz cs sf) 3 (65, l0 :: .val v :: L, v :: S, H, k, n) Q := gP (d3_64 _ _ _) rfl (by show (if isA v = true then _ else _) = _; rw [if_pos hv])
theorem d3_65 (jz : Nat) (cs : Int32) (sf : Value) : decode ((Pg jz cs sf).mt 3).code 65 = .ok (.iload_n 2, 1) := (by decide +kernel : decode jdk_42_method_149_code 65 = .ok (.iload_n 2, 1))
theorem w3_65 {jz : Nat} {cs : Int32} {sf : Value} {L : List Slot} {S : List Value} {H : Hp} {k : Nat} {n : Nat} {Q : MRes → Prop} {l0 l1 : Slot} {x : Int32} : Wp (Pg jz cs sf) 3 (65, l0 :: l1 :: .val (.int x) :: L, S, H, k, n) Q ↔ Wp (Pg jz cs sf) 3 (66, l0 :: l1 :: .val (.int x) :: L, (.int x) :: S, H, k, n) Q := gP (d3_65 _ _ _) rfl rfl
theorem d3_66 (jz : Nat) (cs : Int32) (sf : Value) : decode ((Pg jz cs sf).mt 3).code 66 = .ok (.iload_n 3, 1) := (by decide +kernel : decode jdk_42_method_149_code 66 = .ok (.iload_n 3, 1))
theorem w3_66 {jz : Nat} {cs : Int32} {sf : Value} {L : List Slot} {S : List Value} {H : Hp} {k : Nat} {n : Nat} {Q : MRes → Prop} {l0 l1 l2 : Slot} {x : Int32} : Wp (Pg jz cs sf) 3 (66, l0 :: l1 :: l2 :: .val (.int x) :: L, S, H, k, n) Q ↔ Wp (Pg jz cs sf) 3 (67, l0 :: l1 :: l2 :: .val (.int x) :: L, (.int x) :: S, H, k, n) Q := gP (d3_66 _ _ _) rfl rfl
theorem d4_0 (jz : Nat) (cs : Int32) (sf : Value) : decode ((Pg jz cs sf).mt 4).code 0 = .ok (.iconst 0, 1) := (by decide +kernel : decode prog_46_method_4_code 0 = .ok (.iconst 0, 1))
theorem w4_0 {jz : Nat} {cs : Int32} {sf : Value} {L : List Slot} {S : List Value} {H : Hp} {k : Nat} {n : Nat} {Q : MRes → Prop} : Wp (Pg jz cs sf) 4 (0, L, S, H, k, n) Q ↔ Wp (Pg jz cs sf) 4 (1, L, (.int 0) :: S, H, k, n) Q := gP (d4_0 _ _ _) rfl rfl
theorem d4_1 (jz : Nat) (cs : Int32) (sf : Value) : decode ((Pg jz cs sf).mt 4).code 1 = .ok (.istore_n 1, 1) := (by decide +kernel : decode prog_46_method_4_code 1 = .ok (.istore_n 1, 1))
theorem w4_1 {jz : Nat} {cs : Int32} {sf : Value} {L : List Slot} {S : List Value} {H : Hp} {k : Nat} {n : Nat} {Q : MRes → Prop} {l0 : Slot} {o : Slot} {x : Int32} (ho : s1 o = true) : Wp (Pg jz cs sf) 4 (1, l0 :: o :: L, (.int x) :: S, H, k, n) Q ↔ Wp (Pg jz cs sf) 4 (2, l0 :: .val (.int x) :: L, S, H, k, n) Q := gP (d4_1 _ _ _) rfl (st1_eq (o := o) rfl ho rfl)
theorem d4_2 (jz : Nat) (cs : Int32) (sf : Value) : decode ((Pg jz cs sf).mt 4).code 2 = .ok (.iload_n 1, 1) := (by decide +kernel : decode prog_46_method_4_code 2 = .ok (.iload_n 1, 1))
theorem w4_2 {jz : Nat} {cs : Int32} {sf : Value} {L : List Slot} {S : List Value} {H : Hp} {k : Nat} {n : Nat} {Q : MRes → Prop} {l0 : Slot} {x : Int32} : Wp (Pg jz cs sf) 4 (2, l0 :: .val (.int x) :: L, S, H, k, n) Q ↔ Wp (Pg jz cs sf) 4 (3, l0 :: .val (.int x) :: L, (.int x) :: S, H, k, n) Q := gP (d4_2 _ _ _) rfl rfl
theorem d4_3 (jz : Nat) (cs : Int32) (sf : Value) : decode ((Pg jz cs sf).mt 4).code 3 = .ok (.aload_n 0, 1) := (by decide +kernel : decode prog_46_method_4_code 3 = .ok (.aload_n 0, 1))
theorem w4_3 {jz : Nat} {cs : Int32} {sf : Value} {L : List Slot} {S : List Value} {H : Hp} {k : Nat} {n : Nat} {Q : MRes → Prop}  {v : Value} (hv : isA v = true) : Wp (Pg jz cs sf) 4 (3, .val v :: L, S, H, k, n) Q ↔ Wp (Pg jz cs sf) 4 (4, .val v :: L, v :: S, H, k, n) Q := gP (d4_3 _ _ _) rfl (by show (if isA v = true then _ else _) = _; rw [if_pos hv])
theorem d4_4 (jz : Nat) (cs : Int32) (sf : Value) : decode ((Pg jz cs sf).mt 4).code 4 = .ok (.invokevirtual 7, 3) := (by decide +kernel : decode prog_46_method_4_code 4 = .ok (.invokevirtual 7, 3))
theorem w4_4 {jz : Nat} {cs : Int32} {sf : Value} {L : List Slot} {S : List Value} {H : Hp} {k : Nat} {n : Nat} {Q : MRes → Prop} {a : Nat}  (ho : kdOf H a = some 0) (h1 : L.length = 2) (h2 : wt S ≤ 1) (h3 : k + 0 ≤ 0) (h4 : n + 0 ≤ 0) : Wp (Pg jz cs sf) 4 (4, L, (.ref a) :: S, H, k, n) Q ↔ Wp (Pg jz cs sf) 5 (0, [.val (.ref a)], [], H, 0, 0) fun r => Wp (Pg jz cs sf) 4 (7, L, r.1.toList ++ S, r.2, k + 0, n + 0) Q := gVirt (np := 0) (cid := 0) (d4_4 _ _ _) rfl rfl rfl (M := 2) (W := 1) (C := 0) (Sl := 0) (c := 0) (s := 0) ⟨rfl, Nat.le_of_ble_eq_true rfl, Nat.le_of_ble_eq_true rfl, rfl, rfl, rfl, rfl⟩ (by show entL [(.ref a)] 1 = _; rw [entL, laid_c1 rfl, laid_nil]; rfl) ho h1 h2 h3 h4
theorem d4_7 (jz : Nat) (cs : Int32) (sf : Value) : decode ((Pg jz cs sf).mt 4).code 7 = .ok (.if_icmp .ge 31, 3) := (by decide +kernel : decode prog_46_method_4_code 7 = .ok (.if_icmp .ge 31, 3))
theorem w4_7 {jz : Nat} {cs : Int32} {sf : Value} {L : List Slot} {S : List Value} {H : Hp} {k : Nat} {n : Nat} {Q : MRes → Prop} {x y : Int32} : Wp (Pg jz cs sf) 4 (7, L, (.int y) :: (.int x) :: S, H, k, n) Q ↔ if y ≤ x then Wp (Pg jz cs sf) 4 (38, L, S, H, k, n) Q else Wp (Pg jz cs sf) 4 (10, L, S, H, k, n) Q := gIcmp (d4_7 _ _ _) (by decide) (by decide) (i_ge x y)
theorem d4_10 (jz : Nat) (cs : Int32) (sf : Value) : decode ((Pg jz cs sf).mt 4).code 10 = .ok (.aload_n 0, 1) := (by decide +kernel : decode prog_46_method_4_code 10 = .ok (.aload_n 0, 1))
theorem w4_10 {jz : Nat} {cs : Int32} {sf : Value} {L : List Slot} {S : List Value} {H : Hp} {k : Nat} {n : Nat} {Q : MRes → Prop}  {v : Value} (hv : isA v = true) : Wp (Pg jz cs sf) 4 (10, .val v :: L, S, H, k, n) Q ↔ Wp (Pg jz cs sf) 4 (11, .val v :: L, v :: S, H, k, n) Q := gP (d4_10 _ _ _) rfl (by show (if isA v = true then _ else _) = _; rw [if_pos hv])
theorem d4_11 (jz : Nat) (cs : Int32) (sf : Value) : decode ((Pg jz cs sf).mt 4).code 11 = .ok (.iload_n 1, 1) := (by decide +kernel : decode prog_46_method_4_code 11 = .ok (.iload_n 1, 1))
theorem w4_11 {jz : Nat} {cs : Int32} {sf : Value} {L : List Slot} {S : List Value} {H : Hp} {k : Nat} {n : Nat} {Q : MRes → Prop} {l0 : Slot} {x : Int32} : Wp (Pg jz cs sf) 4 (11, l0 :: .val (.int x) :: L, S, H, k, n) Q ↔ Wp (Pg jz cs sf) 4 (12, l0 :: .val (.int x) :: L, (.int x) :: S, H, k, n) Q := gP (d4_11 _ _ _) rfl rfl
theorem d4_12 (jz : Nat) (cs : Int32) (sf : Value) : decode ((Pg jz cs sf).mt 4).code 12 = .ok (.invokevirtual 13, 3) := (by decide +kernel : decode prog_46_method_4_code 12 = .ok (.invokevirtual 13, 3))
theorem w4_12 {jz : Nat} {cs : Int32} {sf : Value} {L : List Slot} {S : List Value} {H : Hp} {k : Nat} {n : Nat} {Q : MRes → Prop} {a0 : Int32} {a : Nat}  (ho : kdOf H a = some 0) (h1 : L.length = 2) (h2 : wt S ≤ 0) (h3 : k + 0 ≤ 0) (h4 : n + 0 ≤ 0) : Wp (Pg jz cs sf) 4 (12, L, (.int a0) :: (.ref a) :: S, H, k, n) Q ↔ Wp (Pg jz cs sf) 11 (0, [.val (.ref a), .val (.int a0)], [], H, 0, 0) fun r => Wp (Pg jz cs sf) 4 (15, L, r.1.toList ++ S, r.2, k + 0, n + 0) Q := gVirt (np := 1) (cid := 0) (d4_12 _ _ _) rfl rfl rfl (M := 2) (W := 0) (C := 0) (Sl := 0) (c := 0) (s := 0) ⟨rfl, Nat.le_of_ble_eq_true rfl, Nat.le_of_ble_eq_true rfl, rfl, rfl, rfl, rfl⟩ (by show entL [(.ref a), (.int a0)] 2 = _; rw [entL, laid_c1 rfl, laid_c1 rfl, laid_nil]; rfl) ho h1 h2 h3 h4
theorem d4_15 (jz : Nat) (cs : Int32) (sf : Value) : decode ((Pg jz cs sf).mt 4).code 15 = .ok (.bipush 32, 2) := (by decide +kernel : decode prog_46_method_4_code 15 = .ok (.bipush 32, 2))
theorem w4_15 {jz : Nat} {cs : Int32} {sf : Value} {L : List Slot} {S : List Value} {H : Hp} {k : Nat} {n : Nat} {Q : MRes → Prop} : Wp (Pg jz cs sf) 4 (15, L, S, H, k, n) Q ↔ Wp (Pg jz cs sf) 4 (17, L, (.int 32) :: S, H, k, n) Q := gP (d4_15 _ _ _) rfl rfl
theorem d4_17 (jz : Nat) (cs : Int32) (sf : Value) : decode ((Pg jz cs sf).mt 4).code 17 = .ok (.if_icmp .lt 13, 3) := (by decide +kernel : decode prog_46_method_4_code 17 = .ok (.if_icmp .lt 13, 3))
theorem w4_17 {jz : Nat} {cs : Int32} {sf : Value} {L : List Slot} {S : List Value} {H : Hp} {k : Nat} {n : Nat} {Q : MRes → Prop} {x y : Int32} : Wp (Pg jz cs sf) 4 (17, L, (.int y) :: (.int x) :: S, H, k, n) Q ↔ if x < y then Wp (Pg jz cs sf) 4 (30, L, S, H, k, n) Q else Wp (Pg jz cs sf) 4 (20, L, S, H, k, n) Q := gIcmp (d4_17 _ _ _) (by decide) (by decide) (i_lt x y)
theorem d4_20 (jz : Nat) (cs : Int32) (sf : Value) : decode ((Pg jz cs sf).mt 4).code 20 = .ok (.aload_n 0, 1) := (by decide +kernel : decode prog_46_method_4_code 20 = .ok (.aload_n 0, 1))
theorem w4_20 {jz : Nat} {cs : Int32} {sf : Value} {L : List Slot} {S : List Value} {H : Hp} {k : Nat} {n : Nat} {Q : MRes → Prop}  {v : Value} (hv : isA v = true) : Wp (Pg jz cs sf) 4 (20, .val v :: L, S, H, k, n) Q ↔ Wp (Pg jz cs sf) 4 (21, .val v :: L, v :: S, H, k, n) Q := gP (d4_20 _ _ _) rfl (by show (if isA v = true then _ else _) = _; rw [if_pos hv])
theorem d4_21 (jz : Nat) (cs : Int32) (sf : Value) : decode ((Pg jz cs sf).mt 4).code 21 = .ok (.iload_n 1, 1) := (by decide +kernel : decode prog_46_method_4_code 21 = .ok (.iload_n 1, 1))
theorem w4_21 {jz : Nat} {cs : Int32} {sf : Value} {L : List Slot} {S : List Value} {H : Hp} {k : Nat} {n : Nat} {Q : MRes → Prop} {l0 : Slot} {x : Int32} : Wp (Pg jz cs sf) 4 (21, l0 :: .val (.int x) :: L, S, H, k, n) Q ↔ Wp (Pg jz cs sf) 4 (22, l0 :: .val (.int x) :: L, (.int x) :: S, H, k, n) Q := gP (d4_21 _ _ _) rfl rfl
theorem d4_22 (jz : Nat) (cs : Int32) (sf : Value) : decode ((Pg jz cs sf).mt 4).code 22 = .ok (.invokevirtual 13, 3) := (by decide +kernel : decode prog_46_method_4_code 22 = .ok (.invokevirtual 13, 3))
theorem w4_22 {jz : Nat} {cs : Int32} {sf : Value} {L : List Slot} {S : List Value} {H : Hp} {k : Nat} {n : Nat} {Q : MRes → Prop} {a0 : Int32} {a : Nat}  (ho : kdOf H a = some 0) (h1 : L.length = 2) (h2 : wt S ≤ 0) (h3 : k + 0 ≤ 0) (h4 : n + 0 ≤ 0) : Wp (Pg jz cs sf) 4 (22, L, (.int a0) :: (.ref a) :: S, H, k, n) Q ↔ Wp (Pg jz cs sf) 11 (0, [.val (.ref a), .val (.int a0)], [], H, 0, 0) fun r => Wp (Pg jz cs sf) 4 (25, L, r.1.toList ++ S, r.2, k + 0, n + 0) Q := gVirt (np := 1) (cid := 0) (d4_22 _ _ _) rfl rfl rfl (M := 2) (W := 0) (C := 0) (Sl := 0) (c := 0) (s := 0) ⟨rfl, Nat.le_of_ble_eq_true rfl, Nat.le_of_ble_eq_true rfl, rfl, rfl, rfl, rfl⟩ (by show entL [(.ref a), (.int a0)] 2 = _; rw [entL, laid_c1 rfl, laid_c1 rfl, laid_nil]; rfl) ho h1 h2 h3 h4
theorem d4_25 (jz : Nat) (cs : Int32) (sf : Value) : decode ((Pg jz cs sf).mt 4).code 25 = .ok (.bipush 126, 2) := (by decide +kernel : decode prog_46_method_4_code 25 = .ok (.bipush 126, 2))
theorem w4_25 {jz : Nat} {cs : Int32} {sf : Value} {L : List Slot} {S : List Value} {H : Hp} {k : Nat} {n : Nat} {Q : MRes → Prop} : Wp (Pg jz cs sf) 4 (25, L, S, H, k, n) Q ↔ Wp (Pg jz cs sf) 4 (27, L, (.int 126) :: S, H, k, n) Q := gP (d4_25 _ _ _) rfl rfl
theorem d4_27 (jz : Nat) (cs : Int32) (sf : Value) : decode ((Pg jz cs sf).mt 4).code 27 = .ok (.if_icmp .le 5, 3) := (by decide +kernel : decode prog_46_method_4_code 27 = .ok (.if_icmp .le 5, 3))
theorem w4_27 {jz : Nat} {cs : Int32} {sf : Value} {L : List Slot} {S : List Value} {H : Hp} {k : Nat} {n : Nat} {Q : MRes → Prop} {x y : Int32} : Wp (Pg jz cs sf) 4 (27, L, (.int y) :: (.int x) :: S, H, k, n) Q ↔ if x ≤ y then Wp (Pg jz cs sf) 4 (32, L, S, H, k, n) Q else Wp (Pg jz cs sf) 4 (30, L, S, H, k, n) Q := gIcmp (d4_27 _ _ _) (by decide) (by decide) (i_le x y)
theorem d4_30 (jz : Nat) (cs : Int32) (sf : Value) : decode ((Pg jz cs sf).mt 4).code 30 = .ok (.iconst 0, 1) := (by decide +kernel : decode prog_46_method_4_code 30 = .ok (.iconst 0, 1))
theorem w4_30 {jz : Nat} {cs : Int32} {sf : Value} {L : List Slot} {S : List Value} {H : Hp} {k : Nat} {n : Nat} {Q : MRes → Prop} : Wp (Pg jz cs sf) 4 (30, L, S, H, k, n) Q ↔ Wp (Pg jz cs sf) 4 (31, L, (.int 0) :: S, H, k, n) Q := gP (d4_30 _ _ _) rfl rfl
theorem d4_31 (jz : Nat) (cs : Int32) (sf : Value) : decode ((Pg jz cs sf).mt 4).code 31 = .ok (.ireturn, 1) := (by decide +kernel : decode prog_46_method_4_code 31 = .ok (.ireturn, 1))
theorem w4_31 {jz : Nat} {cs : Int32} {sf : Value} {L : List Slot} {S : List Value} {H : Hp} {k : Nat} {n : Nat} {Q : MRes → Prop} {x : Int32} (h1 : k ≤ 0) (h2 : n ≤ 0) : Wp (Pg jz cs sf) 4 (31, L, (.int x) :: S, H, k, n) Q ↔ Q (some (.int (x &&& 1)), H) := gRet (d4_31 _ _ _) rfl rfl rfl rfl h1 h2
theorem d4_32 (jz : Nat) (cs : Int32) (sf : Value) : decode ((Pg jz cs sf).mt 4).code 32 = .ok (.iinc 1 1, 3) := (by decide +kernel : decode prog_46_method_4_code 32 = .ok (.iinc 1 1, 3))
theorem w4_32 {jz : Nat} {cs : Int32} {sf : Value} {L : List Slot} {S : List Value} {H : Hp} {k : Nat} {n : Nat} {Q : MRes → Prop} {l0 : Slot} {x : Int32} : Wp (Pg jz cs sf) 4 (32, l0 :: .val (.int x) :: L, S, H, k, n) Q ↔ Wp (Pg jz cs sf) 4 (35, l0 :: .val (.int (x + 1)) :: L, S, H, k, n) Q := gP (d4_32 _ _ _) rfl rfl
theorem d4_35 (jz : Nat) (cs : Int32) (sf : Value) : decode ((Pg jz cs sf).mt 4).code 35 = .ok (.goto (-33), 3) := (by decide +kernel : decode prog_46_method_4_code 35 = .ok (.goto (-33), 3))
theorem w4_35 {jz : Nat} {cs : Int32} {sf : Value} {L : List Slot} {S : List Value} {H : Hp} {k : Nat} {n : Nat} {Q : MRes → Prop} : Wp (Pg jz cs sf) 4 (35, L, S, H, k, n) Q ↔ Wp (Pg jz cs sf) 4 (2, L, S, H, k, n) Q := gGoto (d4_35 _ _ _) (by decide) (by decide)
theorem d4_38 (jz : Nat) (cs : Int32) (sf : Value) : decode ((Pg jz cs sf).mt 4).code 38 = .ok (.iconst 1, 1) := (by decide +kernel : decode prog_46_method_4_code 38 = .ok (.iconst 1, 1))
theorem w4_38 {jz : Nat} {cs : Int32} {sf : Value} {L : List Slot} {S : List Value} {H : Hp} {k : Nat} {n : Nat} {Q : MRes → Prop} : Wp (Pg jz cs sf) 4 (38, L, S, H, k, n) Q ↔ Wp (Pg jz cs sf) 4 (39, L, (.int 1) :: S, H, k, n) Q := gP (d4_38 _ _ _) rfl rfl
theorem d4_39 (jz : Nat) (cs : Int32) (sf : Value) : decode ((Pg jz cs sf).mt 4).code 39 = .ok (.ireturn, 1) := (by decide +kernel : decode prog_46_method_4_code 39 = .ok (.ireturn, 1))
theorem w4_39 {jz : Nat} {cs : Int32} {sf : Value} {L : List Slot} {S : List Value} {H : Hp} {k : Nat} {n : Nat} {Q : MRes → Prop} {x : Int32} (h1 : k ≤ 0) (h2 : n ≤ 0) : Wp (Pg jz cs sf) 4 (39, L, (.int x) :: S, H, k, n) Q ↔ Q (some (.int (x &&& 1)), H) := gRet (d4_39 _ _ _) rfl rfl rfl rfl h1 h2
theorem d5_0 (jz : Nat) (cs : Int32) (sf : Value) : decode ((Pg jz cs sf).mt 5).code 0 = .ok (.aload_n 0, 1) := (by decide +kernel : decode jdk_42_method_54_code 0 = .ok (.aload_n 0, 1))
theorem w5_0 {jz : Nat} {cs : Int32} {sf : Value} {L : List Slot} {S : List Value} {H : Hp} {k : Nat} {n : Nat} {Q : MRes → Prop}  {v : Value} (hv : isA v = true) : Wp (Pg jz cs sf) 5 (0, .val v :: L, S, H, k, n) Q ↔ Wp (Pg jz cs sf) 5 (1, .val v :: L, v :: S, H, k, n) Q := gP (d5_0 _ _ _) rfl (by show (if isA v = true then _ else _) = _; rw [if_pos hv])
theorem d5_1 (jz : Nat) (cs : Int32) (sf : Value) : decode ((Pg jz cs sf).mt 5).code 1 = .ok (.getfield 9, 3) := (by decide +kernel : decode jdk_42_method_54_code 1 = .ok (.getfield 9, 3))
theorem w5_1 {jz : Nat} {cs : Int32} {sf : Value} {L : List Slot} {S : List Value} {H : Hp} {k : Nat} {n : Nat} {Q : MRes → Prop} {a : Nat} : Wp (Pg jz cs sf) 5 (1, L, (.ref a) :: S, H, k, n) Q ↔ ∃ v, rdF (Pg jz cs sf) 5 9 H a = some v ∧ Wp (Pg jz cs sf) 5 (4, L, v :: S, H, k, n) Q := gGet (d5_1 _ _ _)
theorem d5_4 (jz : Nat) (cs : Int32) (sf : Value) : decode ((Pg jz cs sf).mt 5).code 4 = .ok (.arraylength, 1) := (by decide +kernel : decode jdk_42_method_54_code 4 = .ok (.arraylength, 1))
theorem w5_4 {jz : Nat} {cs : Int32} {sf : Value} {L : List Slot} {S : List Value} {H : Hp} {k : Nat} {n : Nat} {Q : MRes → Prop} {a : Nat} : Wp (Pg jz cs sf) 5 (4, L, (.ref a) :: S, H, k, n) Q ↔ ∃ v, alen H a = some v ∧ Wp (Pg jz cs sf) 5 (5, L, (.int v) :: S, H, k, n) Q := gLen (d5_4 _ _ _)
theorem d5_5 (jz : Nat) (cs : Int32) (sf : Value) : decode ((Pg jz cs sf).mt 5).code 5 = .ok (.aload_n 0, 1) := (by decide +kernel : decode jdk_42_method_54_code 5 = .ok (.aload_n 0, 1))
theorem w5_5 {jz : Nat} {cs : Int32} {sf : Value} {L : List Slot} {S : List Value} {H : Hp} {k : Nat} {n : Nat} {Q : MRes → Prop}  {v : Value} (hv : isA v = true) : Wp (Pg jz cs sf) 5 (5, .val v :: L, S, H, k, n) Q ↔ Wp (Pg jz cs sf) 5 (6, .val v :: L, v :: S, H, k, n) Q := gP (d5_5 _ _ _) rfl (by show (if isA v = true then _ else _) = _; rw [if_pos hv])
theorem d5_6 (jz : Nat) (cs : Int32) (sf : Value) : decode ((Pg jz cs sf).mt 5).code 6 = .ok (.invokevirtual 335, 3) := (by decide +kernel : decode jdk_42_method_54_code 6 = .ok (.invokevirtual 335, 3))
theorem w5_6 {jz : Nat} {cs : Int32} {sf : Value} {L : List Slot} {S : List Value} {H : Hp} {k : Nat} {n : Nat} {Q : MRes → Prop} {a : Nat}  (ho : kdOf H a = some 0) (h1 : L.length = 1) (h2 : wt S ≤ 1) (h3 : k + 0 ≤ 0) (h4 : n + 0 ≤ 0) : Wp (Pg jz cs sf) 5 (6, L, (.ref a) :: S, H, k, n) Q ↔ Wp (Pg jz cs sf) 6 (0, [.val (.ref a)], [], H, 0, 0) fun r => Wp (Pg jz cs sf) 5 (9, L, r.1.toList ++ S, r.2, k + 0, n + 0) Q := gVirt (np := 0) (cid := 0) (d5_6 _ _ _) rfl rfl rfl (M := 1) (W := 1) (C := 0) (Sl := 0) (c := 0) (s := 0) ⟨rfl, Nat.le_of_ble_eq_true rfl, Nat.le_of_ble_eq_true rfl, rfl, rfl, rfl, rfl⟩ (by show entL [(.ref a)] 1 = _; rw [entL, laid_c1 rfl, laid_nil]; rfl) ho h1 h2 h3 h4
theorem d5_9 (jz : Nat) (cs : Int32) (sf : Value) : decode ((Pg jz cs sf).mt 5).code 9 = .ok (.ishr, 1) := (by decide +kernel : decode jdk_42_method_54_code 9 = .ok (.ishr, 1))
theorem w5_9 {jz : Nat} {cs : Int32} {sf : Value} {L : List Slot} {S : List Value} {H : Hp} {k : Nat} {n : Nat} {Q : MRes → Prop} {x y : Int32} : Wp (Pg jz cs sf) 5 (9, L, (.int y) :: (.int x) :: S, H, k, n) Q ↔ Wp (Pg jz cs sf) 5 (10, L, (.int (x >>> (y &&& 31))) :: S, H, k, n) Q := gP (d5_9 _ _ _) rfl rfl
theorem d5_10 (jz : Nat) (cs : Int32) (sf : Value) : decode ((Pg jz cs sf).mt 5).code 10 = .ok (.ireturn, 1) := (by decide +kernel : decode jdk_42_method_54_code 10 = .ok (.ireturn, 1))
theorem w5_10 {jz : Nat} {cs : Int32} {sf : Value} {L : List Slot} {S : List Value} {H : Hp} {k : Nat} {n : Nat} {Q : MRes → Prop} {x : Int32} (h1 : k ≤ 0) (h2 : n ≤ 0) : Wp (Pg jz cs sf) 5 (10, L, (.int x) :: S, H, k, n) Q ↔ Q (some (.int (x)), H) := gRet (d5_10 _ _ _) rfl rfl rfl rfl h1 h2
theorem d6_0 (jz : Nat) (cs : Int32) (sf : Value) : decode ((Pg jz cs sf).mt 6).code 0 = .ok (.getstatic 38, 3) := (by decide +kernel : decode jdk_42_method_152_code 0 = .ok (.getstatic 38, 3))
theorem w6_0 {jz : Nat} {cs : Int32} {sf : Value} {L : List Slot} {S : List Value} {H : Hp} {k : Nat} {n : Nat} {Q : MRes → Prop} : Wp (Pg jz cs sf) 6 (0, L, S, H, k, n) Q ↔ Wp (Pg jz cs sf) 6 (3, L, (.int cs) :: S, H, k, n) Q := gH (d6_0 _ _ _) rfl rfl
theorem d6_3 (jz : Nat) (cs : Int32) (sf : Value) : decode ((Pg jz cs sf).mt 6).code 3 = .ok (.ifCond .eq 10, 3) := (by decide +kernel : decode jdk_42_method_152_code 3 = .ok (.ifCond .eq 10, 3))
theorem w6_3 {jz : Nat} {cs : Int32} {sf : Value} {L : List Slot} {S : List Value} {H : Hp} {k : Nat} {n : Nat} {Q : MRes → Prop} {x : Int32} : Wp (Pg jz cs sf) 6 (3, L, (.int x) :: S, H, k, n) Q ↔ if x = 0 then Wp (Pg jz cs sf) 6 (13, L, S, H, k, n) Q else Wp (Pg jz cs sf) 6 (6, L, S, H, k, n) Q := gIf (d6_3 _ _ _) (by decide) (by decide) (c_eq x)
theorem d6_6 (jz : Nat) (cs : Int32) (sf : Value) : decode ((Pg jz cs sf).mt 6).code 6 = .ok (.aload_n 0, 1) := (by decide +kernel : decode jdk_42_method_152_code 6 = .ok (.aload_n 0, 1))
theorem w6_6 {jz : Nat} {cs : Int32} {sf : Value} {L : List Slot} {S : List Value} {H : Hp} {k : Nat} {n : Nat} {Q : MRes → Prop}  {v : Value} (hv : isA v = true) : Wp (Pg jz cs sf) 6 (6, .val v :: L, S, H, k, n) Q ↔ Wp (Pg jz cs sf) 6 (7, .val v :: L, v :: S, H, k, n) Q := gP (d6_6 _ _ _) rfl (by show (if isA v = true then _ else _) = _; rw [if_pos hv])
theorem d6_7 (jz : Nat) (cs : Int32) (sf : Value) : decode ((Pg jz cs sf).mt 6).code 7 = .ok (.getfield 15, 3) := (by decide +kernel : decode jdk_42_method_152_code 7 = .ok (.getfield 15, 3))
theorem w6_7 {jz : Nat} {cs : Int32} {sf : Value} {L : List Slot} {S : List Value} {H : Hp} {k : Nat} {n : Nat} {Q : MRes → Prop} {a : Nat} : Wp (Pg jz cs sf) 6 (7, L, (.ref a) :: S, H, k, n) Q ↔ ∃ v, rdF (Pg jz cs sf) 6 15 H a = some v ∧ Wp (Pg jz cs sf) 6 (10, L, v :: S, H, k, n) Q := gGet (d6_7 _ _ _)
theorem d6_10 (jz : Nat) (cs : Int32) (sf : Value) : decode ((Pg jz cs sf).mt 6).code 10 = .ok (.goto 4, 3) := (by decide +kernel : decode jdk_42_method_152_code 10 = .ok (.goto 4, 3))
theorem w6_10 {jz : Nat} {cs : Int32} {sf : Value} {L : List Slot} {S : List Value} {H : Hp} {k : Nat} {n : Nat} {Q : MRes → Prop} : Wp (Pg jz cs sf) 6 (10, L, S, H, k, n) Q ↔ Wp (Pg jz cs sf) 6 (14, L, S, H, k, n) Q := gGoto (d6_10 _ _ _) (by decide) (by decide)
theorem d6_13 (jz : Nat) (cs : Int32) (sf : Value) : decode ((Pg jz cs sf).mt 6).code 13 = .ok (.iconst 1, 1) := (by decide +kernel : decode jdk_42_method_152_code 13 = .ok (.iconst 1, 1))
theorem w6_13 {jz : Nat} {cs : Int32} {sf : Value} {L : List Slot} {S : List Value} {H : Hp} {k : Nat} {n : Nat} {Q : MRes → Prop} : Wp (Pg jz cs sf) 6 (13, L, S, H, k, n) Q ↔ Wp (Pg jz cs sf) 6 (14, L, (.int 1) :: S, H, k, n) Q := gP (d6_13 _ _ _) rfl rfl
theorem d6_14 (jz : Nat) (cs : Int32) (sf : Value) : decode ((Pg jz cs sf).mt 6).code 14 = .ok (.ireturn, 1) := (by decide +kernel : decode jdk_42_method_152_code 14 = .ok (.ireturn, 1))
theorem w6_14 {jz : Nat} {cs : Int32} {sf : Value} {L : List Slot} {S : List Value} {H : Hp} {k : Nat} {n : Nat} {Q : MRes → Prop} {x : Int32} (h1 : k ≤ 0) (h2 : n ≤ 0) : Wp (Pg jz cs sf) 6 (14, L, (.int x) :: S, H, k, n) Q ↔ Q (some (.int (x.toInt8.toInt32)), H) := gRet (d6_14 _ _ _) rfl rfl rfl rfl h1 h2
theorem d7_0 (jz : Nat) (cs : Int32) (sf : Value) : decode ((Pg jz cs sf).mt 7).code 0 = .ok (.iload_n 2, 1) := (by decide +kernel : decode jdk_52_method_16_code 0 = .ok (.iload_n 2, 1))
theorem w7_0 {jz : Nat} {cs : Int32} {sf : Value} {L : List Slot} {S : List Value} {H : Hp} {k : Nat} {n : Nat} {Q : MRes → Prop} {l0 l1 : Slot} {x : Int32} : Wp (Pg jz cs sf) 7 (0, l0 :: l1 :: .val (.int x) :: L, S, H, k, n) Q ↔ Wp (Pg jz cs sf) 7 (1, l0 :: l1 :: .val (.int x) :: L, (.int x) :: S, H, k, n) Q := gP (d7_0 _ _ _) rfl rfl
theorem d7_1 (jz : Nat) (cs : Int32) (sf : Value) : decode ((Pg jz cs sf).mt 7).code 1 = .ok (.newarray .byte, 2) := (by decide +kernel : decode jdk_52_method_16_code 1 = .ok (.newarray .byte, 2))
theorem w7_1 {jz : Nat} {cs : Int32} {sf : Value} {L : List Slot} {S : List Value} {H : Hp} {k : Nat} {n : Nat} {Q : MRes → Prop} {x : Int32} (h1 : k + 1 ≤ 2) (h2 : n + 3 ≤ 9) : Wp (Pg jz cs sf) 7 (1, L, (.int x) :: S, H, k, n) Q ↔ (¬ x < 0 ∧ x.toNatClampNeg ≤ 3) ∧ Wp (Pg jz cs sf) 7 (3, L, (.ref H.length) :: S, H ++ [(.inl .byte, List.replicate x.toNatClampNeg (.int 0))], k + 1, n + 3) Q := gNewA (d7_1 _ _ _) rfl (List.mem_of_getElem? (i := 1) rfl) rfl (by decide) rfl rfl h1 h2
theorem d7_3 (jz : Nat) (cs : Int32) (sf : Value) : decode ((Pg jz cs sf).mt 7).code 3 = .ok (.astore_n 3, 1) := (by decide +kernel : decode jdk_52_method_16_code 3 = .ok (.astore_n 3, 1))
theorem w7_3 {jz : Nat} {cs : Int32} {sf : Value} {L : List Slot} {S : List Value} {H : Hp} {k : Nat} {n : Nat} {Q : MRes → Prop} {l0 l1 l2 : Slot} {o : Slot} {v : Value} (ho : s1 o = true) (hv : isA v = true) : Wp (Pg jz cs sf) 7 (3, l0 :: l1 :: l2 :: o :: L, v :: S, H, k, n) Q ↔ Wp (Pg jz cs sf) 7 (4, l0 :: l1 :: l2 :: .val v :: L, S, H, k, n) Q := gP (d7_3 _ _ _) rfl (st1_eq (o := o) rfl ho hv)
theorem d7_4 (jz : Nat) (cs : Int32) (sf : Value) : decode ((Pg jz cs sf).mt 7).code 4 = .ok (.aload_n 0, 1) := (by decide +kernel : decode jdk_52_method_16_code 4 = .ok (.aload_n 0, 1))
theorem w7_4 {jz : Nat} {cs : Int32} {sf : Value} {L : List Slot} {S : List Value} {H : Hp} {k : Nat} {n : Nat} {Q : MRes → Prop}  {v : Value} (hv : isA v = true) : Wp (Pg jz cs sf) 7 (4, .val v :: L, S, H, k, n) Q ↔ Wp (Pg jz cs sf) 7 (5, .val v :: L, v :: S, H, k, n) Q := gP (d7_4 _ _ _) rfl (by show (if isA v = true then _ else _) = _; rw [if_pos hv])
theorem d7_5 (jz : Nat) (cs : Int32) (sf : Value) : decode ((Pg jz cs sf).mt 7).code 5 = .ok (.iload_n 1, 1) := (by decide +kernel : decode jdk_52_method_16_code 5 = .ok (.iload_n 1, 1))
theorem w7_5 {jz : Nat} {cs : Int32} {sf : Value} {L : List Slot} {S : List Value} {H : Hp} {k : Nat} {n : Nat} {Q : MRes → Prop} {l0 : Slot} {x : Int32} : Wp (Pg jz cs sf) 7 (5, l0 :: .val (.int x) :: L, S, H, k, n) Q ↔ Wp (Pg jz cs sf) 7 (6, l0 :: .val (.int x) :: L, (.int x) :: S, H, k, n) Q := gP (d7_5 _ _ _) rfl rfl
theorem d7_6 (jz : Nat) (cs : Int32) (sf : Value) : decode ((Pg jz cs sf).mt 7).code 6 = .ok (.aload_n 3, 1) := (by decide +kernel : decode jdk_52_method_16_code 6 = .ok (.aload_n 3, 1))
theorem w7_6 {jz : Nat} {cs : Int32} {sf : Value} {L : List Slot} {S : List Value} {H : Hp} {k : Nat} {n : Nat} {Q : MRes → Prop} {l0 l1 l2 : Slot} {v : Value} (hv : isA v = true) : Wp (Pg jz cs sf) 7 (6, l0 :: l1 :: l2 :: .val v :: L, S, H, k, n) Q ↔ Wp (Pg jz cs sf) 7 (7, l0 :: l1 :: l2 :: .val v :: L, v :: S, H, k, n) Q := gP (d7_6 _ _ _) rfl (by show (if isA v = true then _ else _) = _; rw [if_pos hv])
theorem d7_7 (jz : Nat) (cs : Int32) (sf : Value) : decode ((Pg jz cs sf).mt 7).code 7 = .ok (.iconst 0, 1) := (by decide +kernel : decode jdk_52_method_16_code 7 = .ok (.iconst 0, 1))
theorem w7_7 {jz : Nat} {cs : Int32} {sf : Value} {L : List Slot} {S : List Value} {H : Hp} {k : Nat} {n : Nat} {Q : MRes → Prop} : Wp (Pg jz cs sf) 7 (7, L, S, H, k, n) Q ↔ Wp (Pg jz cs sf) 7 (8, L, (.int 0) :: S, H, k, n) Q := gP (d7_7 _ _ _) rfl rfl
theorem d7_8 (jz : Nat) (cs : Int32) (sf : Value) : decode ((Pg jz cs sf).mt 7).code 8 = .ok (.iload_n 2, 1) := (by decide +kernel : decode jdk_52_method_16_code 8 = .ok (.iload_n 2, 1))
theorem w7_8 {jz : Nat} {cs : Int32} {sf : Value} {L : List Slot} {S : List Value} {H : Hp} {k : Nat} {n : Nat} {Q : MRes → Prop} {l0 l1 : Slot} {x : Int32} : Wp (Pg jz cs sf) 7 (8, l0 :: l1 :: .val (.int x) :: L, S, H, k, n) Q ↔ Wp (Pg jz cs sf) 7 (9, l0 :: l1 :: .val (.int x) :: L, (.int x) :: S, H, k, n) Q := gP (d7_8 _ _ _) rfl rfl
theorem d7_9 (jz : Nat) (cs : Int32) (sf : Value) : decode ((Pg jz cs sf).mt 7).code 9 = .ok (.invokestatic 115, 3) := (by decide +kernel : decode jdk_52_method_16_code 9 = .ok (.invokestatic 115, 3))
theorem w7_9 {jz : Nat} {cs : Int32} {sf : Value} {L : List Slot} {S : List Value} {H : Hp} {k : Nat} {n : Nat} {Q : MRes → Prop} {a0 : Value} {a1 : Int32} {a2 : Value} {a3 : Int32} {a4 : Int32}  (h_a0 : cat a0 = 1) (h_a2 : cat a2 = 1) (h1 : L.length = 6) (h2 : wt S ≤ 0) (h3 : k + 0 ≤ 2) (h4 : n + 0 ≤ 9) : Wp (Pg jz cs sf) 7 (9, L, (.int a4) :: (.int a3) :: a2 :: (.int a1) :: a0 :: S, H, k, n) Q ↔ Wp (Pg jz cs sf) 8 (0, [.val a0, .val (.int a1), .val a2, .val (.int a3), .val (.int a4), .unset, .unset], [], H, 0, 0) fun r => Wp (Pg jz cs sf) 7 (12, L, r.1.toList ++ S, r.2, k + 0, n + 0) Q := gCall (d7_9 _ _ _) rfl rfl (M := 6) (W := 0) (C := 2) (Sl := 9) (c := 0) (s := 0) ⟨rfl, Nat.le_of_ble_eq_true rfl, Nat.le_of_ble_eq_true rfl, rfl, rfl, rfl, rfl⟩ (by show entL [a0, (.int a1), a2, (.int a3), (.int a4)] 7 = _; rw [entL, laid_c1 h_a0, laid_c1 rfl, laid_c1 h_a2, laid_c1 rfl, laid_c1 rfl, laid_nil]; rfl) h1 h2 h3 h4
theorem d7_12 (jz : Nat) (cs : Int32) (sf : Value) : decode ((Pg jz cs sf).mt 7).code 12 = .ok (.istore 4, 2) := (by decide +kernel : decode jdk_52_method_16_code 12 = .ok (.istore 4, 2))
theorem w7_12 {jz : Nat} {cs : Int32} {sf : Value} {L : List Slot} {S : List Value} {H : Hp} {k : Nat} {n : Nat} {Q : MRes → Prop} {l0 l1 l2 l3 : Slot} {o : Slot} {x : Int32} (ho : s1 o = true) : Wp (Pg jz cs sf) 7 (12, l0 :: l1 :: l2 :: l3 :: o :: L, (.int x) :: S, H, k, n) Q ↔ Wp (Pg jz cs sf) 7 (14, l0 :: l1 :: l2 :: l3 :: .val (.int x) :: L, S, H, k, n) Q := gP (d7_12 _ _ _) rfl (st1_eq (o := o) rfl ho rfl)
theorem d7_14 (jz : Nat) (cs : Int32) (sf : Value) : decode ((Pg jz cs sf).mt 7).code 14 = .ok (.iload 4, 2) := (by decide +kernel : decode jdk_52_method_16_code 14 = .ok (.iload 4, 2))
theorem w7_14 {jz : Nat} {cs : Int32} {sf : Value} {L : List Slot} {S : List Value} {H : Hp} {k : Nat} {n : Nat} {Q : MRes → Prop} {l0 l1 l2 l3 : Slot} {x : Int32} : Wp (Pg jz cs sf) 7 (14, l0 :: l1 :: l2 :: l3 :: .val (.int x) :: L, S, H, k, n) Q ↔ Wp (Pg jz cs sf) 7 (16, l0 :: l1 :: l2 :: l3 :: .val (.int x) :: L, (.int x) :: S, H, k, n) Q := gP (d7_14 _ _ _) rfl rfl
theorem d7_16 (jz : Nat) (cs : Int32) (sf : Value) : decode ((Pg jz cs sf).mt 7).code 16 = .ok (.iload_n 2, 1) := (by decide +kernel : decode jdk_52_method_16_code 16 = .ok (.iload_n 2, 1))
theorem w7_16 {jz : Nat} {cs : Int32} {sf : Value} {L : List Slot} {S : List Value} {H : Hp} {k : Nat} {n : Nat} {Q : MRes → Prop} {l0 l1 : Slot} {x : Int32} : Wp (Pg jz cs sf) 7 (16, l0 :: l1 :: .val (.int x) :: L, S, H, k, n) Q ↔ Wp (Pg jz cs sf) 7 (17, l0 :: l1 :: .val (.int x) :: L, (.int x) :: S, H, k, n) Q := gP (d7_16 _ _ _) rfl rfl
theorem d7_17 (jz : Nat) (cs : Int32) (sf : Value) : decode ((Pg jz cs sf).mt 7).code 17 = .ok (.if_icmp .eq 40, 3) := (by decide +kernel : decode jdk_52_method_16_code 17 = .ok (.if_icmp .eq 40, 3))
theorem w7_17 {jz : Nat} {cs : Int32} {sf : Value} {L : List Slot} {S : List Value} {H : Hp} {k : Nat} {n : Nat} {Q : MRes → Prop} {x y : Int32} : Wp (Pg jz cs sf) 7 (17, L, (.int y) :: (.int x) :: S, H, k, n) Q ↔ if x = y then Wp (Pg jz cs sf) 7 (57, L, S, H, k, n) Q else Wp (Pg jz cs sf) 7 (20, L, S, H, k, n) Q := gIcmp (d7_17 _ _ _) (by decide) (by decide) (i_eq x y)
theorem d7_20 (jz : Nat) (cs : Int32) (sf : Value) : decode ((Pg jz cs sf).mt 7).code 20 = .ok (.aload_n 0, 1) := (by decide +kernel : decode jdk_52_method_16_code 20 = .ok (.aload_n 0, 1))
theorem w7_20 {jz : Nat} {cs : Int32} {sf : Value} {L : List Slot} {S : List Value} {H : Hp} {k : Nat} {n : Nat} {Q : MRes → Prop}  {v : Value} (hv : isA v = true) : Wp (Pg jz cs sf) 7 (20, .val v :: L, S, H, k, n) Q ↔ Wp (Pg jz cs sf) 7 (21, .val v :: L, v :: S, H, k, n) Q := gP (d7_20 _ _ _) rfl (by show (if isA v = true then _ else _) = _; rw [if_pos hv])
theorem d7_21 (jz : Nat) (cs : Int32) (sf : Value) : decode ((Pg jz cs sf).mt 7).code 21 = .ok (.iload_n 1, 1) := (by decide +kernel : decode jdk_52_method_16_code 21 = .ok (.iload_n 1, 1))
theorem w7_21 {jz : Nat} {cs : Int32} {sf : Value} {L : List Slot} {S : List Value} {H : Hp} {k : Nat} {n : Nat} {Q : MRes → Prop} {l0 : Slot} {x : Int32} : Wp (Pg jz cs sf) 7 (21, l0 :: .val (.int x) :: L, S, H, k, n) Q ↔ Wp (Pg jz cs sf) 7 (22, l0 :: .val (.int x) :: L, (.int x) :: S, H, k, n) Q := gP (d7_21 _ _ _) rfl rfl
theorem d7_22 (jz : Nat) (cs : Int32) (sf : Value) : decode ((Pg jz cs sf).mt 7).code 22 = .ok (.iload_n 2, 1) := (by decide +kernel : decode jdk_52_method_16_code 22 = .ok (.iload_n 2, 1))
theorem w7_22 {jz : Nat} {cs : Int32} {sf : Value} {L : List Slot} {S : List Value} {H : Hp} {k : Nat} {n : Nat} {Q : MRes → Prop} {l0 l1 : Slot} {x : Int32} : Wp (Pg jz cs sf) 7 (22, l0 :: l1 :: .val (.int x) :: L, S, H, k, n) Q ↔ Wp (Pg jz cs sf) 7 (23, l0 :: l1 :: .val (.int x) :: L, (.int x) :: S, H, k, n) Q := gP (d7_22 _ _ _) rfl rfl
theorem d7_23 (jz : Nat) (cs : Int32) (sf : Value) : decode ((Pg jz cs sf).mt 7).code 23 = .ok (.invokestatic 119, 3) := (by decide +kernel : decode jdk_52_method_16_code 23 = .ok (.invokestatic 119, 3))
theorem w7_23 {jz : Nat} {cs : Int32} {sf : Value} {L : List Slot} {S : List Value} {H : Hp} {k : Nat} {n : Nat} {Q : MRes → Prop} {a0 : Value} {a1 : Int32} {a2 : Int32}  (h_a0 : cat a0 = 1) (h1 : L.length = 6) (h2 : wt S ≤ 0) (h3 : k + 1 ≤ 2) (h4 : n + 6 ≤ 9) : Wp (Pg jz cs sf) 7 (23, L, (.int a2) :: (.int a1) :: a0 :: S, H, k, n) Q ↔ Wp (Pg jz cs sf) 16 (0, [.val a0, .val (.int a1), .val (.int a2), .unset, .unset], [], H, 0, 0) fun r => Wp (Pg jz cs sf) 7 (26, L, r.1.toList ++ S, r.2, k + 1, n + 6) Q := gCall (d7_23 _ _ _) rfl rfl (M := 6) (W := 0) (C := 2) (Sl := 9) (c := 1) (s := 6) ⟨rfl, Nat.le_of_ble_eq_true rfl, Nat.le_of_ble_eq_true rfl, rfl, rfl, rfl, rfl⟩ (by show entL [a0, (.int a1), (.int a2)] 5 = _; rw [entL, laid_c1 h_a0, laid_c1 rfl, laid_c1 rfl, laid_nil]; rfl) h1 h2 h3 h4
theorem d7_26 (jz : Nat) (cs : Int32) (sf : Value) : decode ((Pg jz cs sf).mt 7).code 26 = .ok (.astore 5, 2) := (by decide +kernel : decode jdk_52_method_16_code 26 = .ok (.astore 5, 2))
theorem w7_26 {jz : Nat} {cs : Int32} {sf : Value} {L : List Slot} {S : List Value} {H : Hp} {k : Nat} {n : Nat} {Q : MRes → Prop} {l0 l1 l2 l3 l4 : Slot} {o : Slot} {v : Value} (ho : s1 o = true) (hv : isA v = true) : Wp (Pg jz cs sf) 7 (26, l0 :: l1 :: l2 :: l3 :: l4 :: o :: L, v :: S, H, k, n) Q ↔ Wp (Pg jz cs sf) 7 (28, l0 :: l1 :: l2 :: l3 :: l4 :: .val v :: L, S, H, k, n) Q := gP (d7_26 _ _ _) rfl (st1_eq (o := o) rfl ho hv)
theorem d7_28 (jz : Nat) (cs : Int32) (sf : Value) : decode ((Pg jz cs sf).mt 7).code 28 = .ok (.aload 5, 2) := (by decide +kernel : decode jdk_52_method_16_code 28 = .ok (.aload 5, 2))
theorem w7_28 {jz : Nat} {cs : Int32} {sf : Value} {L : List Slot} {S : List Value} {H : Hp} {k : Nat} {n : Nat} {Q : MRes → Prop} {l0 l1 l2 l3 l4 : Slot} {v : Value} (hv : isA v = true) : Wp (Pg jz cs sf) 7 (28, l0 :: l1 :: l2 :: l3 :: l4 :: .val v :: L, S, H, k, n) Q ↔ Wp (Pg jz cs sf) 7 (30, l0 :: l1 :: l2 :: l3 :: l4 :: .val v :: L, v :: S, H, k, n) Q := gP (d7_28 _ _ _) rfl (by show (if isA v = true then _ else _) = _; rw [if_pos hv])
theorem d7_30 (jz : Nat) (cs : Int32) (sf : Value) : decode ((Pg jz cs sf).mt 7).code 30 = .ok (.iload 4, 2) := (by decide +kernel : decode jdk_52_method_16_code 30 = .ok (.iload 4, 2))
theorem w7_30 {jz : Nat} {cs : Int32} {sf : Value} {L : List Slot} {S : List Value} {H : Hp} {k : Nat} {n : Nat} {Q : MRes → Prop} {l0 l1 l2 l3 : Slot} {x : Int32} : Wp (Pg jz cs sf) 7 (30, l0 :: l1 :: l2 :: l3 :: .val (.int x) :: L, S, H, k, n) Q ↔ Wp (Pg jz cs sf) 7 (32, l0 :: l1 :: l2 :: l3 :: .val (.int x) :: L, (.int x) :: S, H, k, n) Q := gP (d7_30 _ _ _) rfl rfl
theorem d7_32 (jz : Nat) (cs : Int32) (sf : Value) : decode ((Pg jz cs sf).mt 7).code 32 = .ok (.invokestatic 71, 3) := (by decide +kernel : decode jdk_52_method_16_code 32 = .ok (.invokestatic 71, 3))
theorem w7_32 {jz : Nat} {cs : Int32} {sf : Value} {L : List Slot} {S : List Value} {H : Hp} {k : Nat} {n : Nat} {Q : MRes → Prop} {a0 : Value} {a1 : Int32}  (h_a0 : cat a0 = 1) (h1 : L.length = 6) (h2 : wt S ≤ 0) (h3 : k + 0 ≤ 2) (h4 : n + 0 ≤ 9) : Wp (Pg jz cs sf) 7 (32, L, (.int a1) :: a0 :: S, H, k, n) Q ↔ Wp (Pg jz cs sf) 20 (0, [.val a0, .val (.int a1)], [], H, 0, 0) fun r => Wp (Pg jz cs sf) 7 (35, L, r.1.toList ++ S, r.2, k + 0, n + 0) Q := gCall (d7_32 _ _ _) rfl rfl (M := 6) (W := 0) (C := 2) (Sl := 9) (c := 0) (s := 0) ⟨rfl, Nat.le_of_ble_eq_true rfl, Nat.le_of_ble_eq_true rfl, rfl, rfl, rfl, rfl⟩ (by show entL [a0, (.int a1)] 2 = _; rw [entL, laid_c1 h_a0, laid_c1 rfl, laid_nil]; rfl) h1 h2 h3 h4
theorem d7_35 (jz : Nat) (cs : Int32) (sf : Value) : decode ((Pg jz cs sf).mt 7).code 35 = .ok (.sipush 255, 3) := (by decide +kernel : decode jdk_52_method_16_code 35 = .ok (.sipush 255, 3))
theorem w7_35 {jz : Nat} {cs : Int32} {sf : Value} {L : List Slot} {S : List Value} {H : Hp} {k : Nat} {n : Nat} {Q : MRes → Prop} : Wp (Pg jz cs sf) 7 (35, L, S, H, k, n) Q ↔ Wp (Pg jz cs sf) 7 (38, L, (.int 255) :: S, H, k, n) Q := gP (d7_35 _ _ _) rfl rfl
theorem d7_38 (jz : Nat) (cs : Int32) (sf : Value) : decode ((Pg jz cs sf).mt 7).code 38 = .ok (.if_icmp .gt 16, 3) := (by decide +kernel : decode jdk_52_method_16_code 38 = .ok (.if_icmp .gt 16, 3))
theorem w7_38 {jz : Nat} {cs : Int32} {sf : Value} {L : List Slot} {S : List Value} {H : Hp} {k : Nat} {n : Nat} {Q : MRes → Prop} {x y : Int32} : Wp (Pg jz cs sf) 7 (38, L, (.int y) :: (.int x) :: S, H, k, n) Q ↔ if y < x then Wp (Pg jz cs sf) 7 (54, L, S, H, k, n) Q else Wp (Pg jz cs sf) 7 (41, L, S, H, k, n) Q := gIcmp (d7_38 _ _ _) (by decide) (by decide) (i_gt x y)
theorem d7_41 (jz : Nat) (cs : Int32) (sf : Value) : decode ((Pg jz cs sf).mt 7).code 41 = .ok (.aload 5, 2) := (by decide +kernel : decode jdk_52_method_16_code 41 = .ok (.aload 5, 2))
theorem w7_41 {jz : Nat} {cs : Int32} {sf : Value} {L : List Slot} {S : List Value} {H : Hp} {k : Nat} {n : Nat} {Q : MRes → Prop} {l0 l1 l2 l3 l4 : Slot} {v : Value} (hv : isA v = true) : Wp (Pg jz cs sf) 7 (41, l0 :: l1 :: l2 :: l3 :: l4 :: .val v :: L, S, H, k, n) Q ↔ Wp (Pg jz cs sf) 7 (43, l0 :: l1 :: l2 :: l3 :: l4 :: .val v :: L, v :: S, H, k, n) Q := gP (d7_41 _ _ _) rfl (by show (if isA v = true then _ else _) = _; rw [if_pos hv])
theorem d7_43 (jz : Nat) (cs : Int32) (sf : Value) : decode ((Pg jz cs sf).mt 7).code 43 = .ok (.iconst 0, 1) := (by decide +kernel : decode jdk_52_method_16_code 43 = .ok (.iconst 0, 1))
theorem w7_43 {jz : Nat} {cs : Int32} {sf : Value} {L : List Slot} {S : List Value} {H : Hp} {k : Nat} {n : Nat} {Q : MRes → Prop} : Wp (Pg jz cs sf) 7 (43, L, S, H, k, n) Q ↔ Wp (Pg jz cs sf) 7 (44, L, (.int 0) :: S, H, k, n) Q := gP (d7_43 _ _ _) rfl rfl
theorem d7_44 (jz : Nat) (cs : Int32) (sf : Value) : decode ((Pg jz cs sf).mt 7).code 44 = .ok (.aload_n 3, 1) := (by decide +kernel : decode jdk_52_method_16_code 44 = .ok (.aload_n 3, 1))
theorem w7_44 {jz : Nat} {cs : Int32} {sf : Value} {L : List Slot} {S : List Value} {H : Hp} {k : Nat} {n : Nat} {Q : MRes → Prop} {l0 l1 l2 : Slot} {v : Value} (hv : isA v = true) : Wp (Pg jz cs sf) 7 (44, l0 :: l1 :: l2 :: .val v :: L, S, H, k, n) Q ↔ Wp (Pg jz cs sf) 7 (45, l0 :: l1 :: l2 :: .val v :: L, v :: S, H, k, n) Q := gP (d7_44 _ _ _) rfl (by show (if isA v = true then _ else _) = _; rw [if_pos hv])
theorem d7_45 (jz : Nat) (cs : Int32) (sf : Value) : decode ((Pg jz cs sf).mt 7).code 45 = .ok (.iconst 0, 1) := (by decide +kernel : decode jdk_52_method_16_code 45 = .ok (.iconst 0, 1))
theorem w7_45 {jz : Nat} {cs : Int32} {sf : Value} {L : List Slot} {S : List Value} {H : Hp} {k : Nat} {n : Nat} {Q : MRes → Prop} : Wp (Pg jz cs sf) 7 (45, L, S, H, k, n) Q ↔ Wp (Pg jz cs sf) 7 (46, L, (.int 0) :: S, H, k, n) Q := gP (d7_45 _ _ _) rfl rfl
theorem d7_46 (jz : Nat) (cs : Int32) (sf : Value) : decode ((Pg jz cs sf).mt 7).code 46 = .ok (.iload_n 2, 1) := (by decide +kernel : decode jdk_52_method_16_code 46 = .ok (.iload_n 2, 1))
theorem w7_46 {jz : Nat} {cs : Int32} {sf : Value} {L : List Slot} {S : List Value} {H : Hp} {k : Nat} {n : Nat} {Q : MRes → Prop} {l0 l1 : Slot} {x : Int32} : Wp (Pg jz cs sf) 7 (46, l0 :: l1 :: .val (.int x) :: L, S, H, k, n) Q ↔ Wp (Pg jz cs sf) 7 (47, l0 :: l1 :: .val (.int x) :: L, (.int x) :: S, H, k, n) Q := gP (d7_46 _ _ _) rfl rfl
theorem d7_54 (jz : Nat) (cs : Int32) (sf : Value) : decode ((Pg jz cs sf).mt 7).code 54 = .ok (.aload 5, 2) := (by decide +kernel : decode jdk_52_method_16_code 54 = .ok (.aload 5, 2))
theorem w7_54 {jz : Nat} {cs : Int32} {sf : Value} {L : List Slot} {S : List Value} {H : Hp} {k : Nat} {n : Nat} {Q : MRes → Prop} {l0 l1 l2 l3 l4 : Slot} {v : Value} (hv : isA v = true) : Wp (Pg jz cs sf) 7 (54, l0 :: l1 :: l2 :: l3 :: l4 :: .val v :: L, S, H, k, n) Q ↔ Wp (Pg jz cs sf) 7 (56, l0 :: l1 :: l2 :: l3 :: l4 :: .val v :: L, v :: S, H, k, n) Q := gP (d7_54 _ _ _) rfl (by show (if isA v = true then _ else _) = _; rw [if_pos hv])
theorem d7_56 (jz : Nat) (cs : Int32) (sf : Value) : decode ((Pg jz cs sf).mt 7).code 56 = .ok (.areturn, 1) := (by decide +kernel : decode jdk_52_method_16_code 56 = .ok (.areturn, 1))
theorem w7_56 {jz : Nat} {cs : Int32} {sf : Value} {L : List Slot} {S : List Value} {H : Hp} {k : Nat} {n : Nat} {Q : MRes → Prop} {a : Nat} (h1 : k ≤ 2) (h2 : n ≤ 9) : Wp (Pg jz cs sf) 7 (56, L, (.ref a) :: S, H, k, n) Q ↔ Q (some (.ref a), H) := gRet (d7_56 _ _ _) rfl rfl rfl rfl h1 h2
theorem w7_56n {jz : Nat} {cs : Int32} {sf : Value} {L : List Slot} {S : List Value} {H : Hp} {k : Nat} {n : Nat} {Q : MRes → Prop} (h1 : k ≤ 2) (h2 : n ≤ 9) : Wp (Pg jz cs sf) 7 (56, L, .null :: S, H, k, n) Q ↔ Q (some .null, H) := gRet (d7_56 _ _ _) rfl rfl rfl rfl h1 h2
theorem d7_57 (jz : Nat) (cs : Int32) (sf : Value) : decode ((Pg jz cs sf).mt 7).code 57 = .ok (.aload_n 3, 1) := (by decide +kernel : decode jdk_52_method_16_code 57 = .ok (.aload_n 3, 1))
theorem w7_57 {jz : Nat} {cs : Int32} {sf : Value} {L : List Slot} {S : List Value} {H : Hp} {k : Nat} {n : Nat} {Q : MRes → Prop} {l0 l1 l2 : Slot} {v : Value} (hv : isA v = true) : Wp (Pg jz cs sf) 7 (57, l0 :: l1 :: l2 :: .val v :: L, S, H, k, n) Q ↔ Wp (Pg jz cs sf) 7 (58, l0 :: l1 :: l2 :: .val v :: L, v :: S, H, k, n) Q := gP (d7_57 _ _ _) rfl (by show (if isA v = true then _ else _) = _; rw [if_pos hv])
theorem d7_58 (jz : Nat) (cs : Int32) (sf : Value) : decode ((Pg jz cs sf).mt 7).code 58 = .ok (.areturn, 1) := (by decide +kernel : decode jdk_52_method_16_code 58 = .ok (.areturn, 1))
theorem w7_58 {jz : Nat} {cs : Int32} {sf : Value} {L : List Slot} {S : List Value} {H : Hp} {k : Nat} {n : Nat} {Q : MRes → Prop} {a : Nat} (h1 : k ≤ 2) (h2 : n ≤ 9) : Wp (Pg jz cs sf) 7 (58, L, (.ref a) :: S, H, k, n) Q ↔ Q (some (.ref a), H) := gRet (d7_58 _ _ _) rfl rfl rfl rfl h1 h2
theorem w7_58n {jz : Nat} {cs : Int32} {sf : Value} {L : List Slot} {S : List Value} {H : Hp} {k : Nat} {n : Nat} {Q : MRes → Prop} (h1 : k ≤ 2) (h2 : n ≤ 9) : Wp (Pg jz cs sf) 7 (58, L, .null :: S, H, k, n) Q ↔ Q (some .null, H) := gRet (d7_58 _ _ _) rfl rfl rfl rfl h1 h2
theorem d8_0 (jz : Nat) (cs : Int32) (sf : Value) : decode ((Pg jz cs sf).mt 8).code 0 = .ok (.iconst 0, 1) := (by decide +kernel : decode jdk_52_method_21_code 0 = .ok (.iconst 0, 1))
theorem w8_0 {jz : Nat} {cs : Int32} {sf : Value} {L : List Slot} {S : List Value} {H : Hp} {k : Nat} {n : Nat} {Q : MRes → Prop} : Wp (Pg jz cs sf) 8 (0, L, S, H, k, n) Q ↔ Wp (Pg jz cs sf) 8 (1, L, (.int 0) :: S, H, k, n) Q := gP (d8_0 _ _ _) rfl rfl
theorem d8_1 (jz : Nat) (cs : Int32) (sf : Value) : decode ((Pg jz cs sf).mt 8).code 1 = .ok (.istore 5, 2) := (by decide +kernel : decode jdk_52_method_21_code 1 = .ok (.istore 5, 2))
theorem w8_1 {jz : Nat} {cs : Int32} {sf : Value} {L : List Slot} {S : List Value} {H : Hp} {k : Nat} {n : Nat} {Q : MRes → Prop} {l0 l1 l2 l3 l4 : Slot} {o : Slot} {x : Int32} (ho : s1 o = true) : Wp (Pg jz cs sf) 8 (1, l0 :: l1 :: l2 :: l3 :: l4 :: o :: L, (.int x) :: S, H, k, n) Q ↔ Wp (Pg jz cs sf) 8 (3, l0 :: l1 :: l2 :: l3 :: l4 :: .val (.int x) :: L, S, H, k, n) Q := gP (d8_1 _ _ _) rfl (st1_eq (o := o) rfl ho rfl)
theorem d8_3 (jz : Nat) (cs : Int32) (sf : Value) : decode ((Pg jz cs sf).mt 8).code 3 = .ok (.iload 5, 2) := (by decide +kernel : decode jdk_52_method_21_code 3 = .ok (.iload 5, 2))
theorem w8_3 {jz : Nat} {cs : Int32} {sf : Value} {L : List Slot} {S : List Value} {H : Hp} {k : Nat} {n : Nat} {Q : MRes → Prop} {l0 l1 l2 l3 l4 : Slot} {x : Int32} : Wp (Pg jz cs sf) 8 (3, l0 :: l1 :: l2 :: l3 :: l4 :: .val (.int x) :: L, S, H, k, n) Q ↔ Wp (Pg jz cs sf) 8 (5, l0 :: l1 :: l2 :: l3 :: l4 :: .val (.int x) :: L, (.int x) :: S, H, k, n) Q := gP (d8_3 _ _ _) rfl rfl
theorem d8_5 (jz : Nat) (cs : Int32) (sf : Value) : decode ((Pg jz cs sf).mt 8).code 5 = .ok (.iload 4, 2) := (by decide +kernel : decode jdk_52_method_21_code 5 = .ok (.iload 4, 2))
theorem w8_5 {jz : Nat} {cs : Int32} {sf : Value} {L : List Slot} {S : List Value} {H : Hp} {k : Nat} {n : Nat} {Q : MRes → Prop} {l0 l1 l2 l3 : Slot} {x : Int32} : Wp (Pg jz cs sf) 8 (5, l0 :: l1 :: l2 :: l3 :: .val (.int x) :: L, S, H, k, n) Q ↔ Wp (Pg jz cs sf) 8 (7, l0 :: l1 :: l2 :: l3 :: .val (.int x) :: L, (.int x) :: S, H, k, n) Q := gP (d8_5 _ _ _) rfl rfl
theorem d8_7 (jz : Nat) (cs : Int32) (sf : Value) : decode ((Pg jz cs sf).mt 8).code 7 = .ok (.if_icmp .ge 37, 3) := (by decide +kernel : decode jdk_52_method_21_code 7 = .ok (.if_icmp .ge 37, 3))
theorem w8_7 {jz : Nat} {cs : Int32} {sf : Value} {L : List Slot} {S : List Value} {H : Hp} {k : Nat} {n : Nat} {Q : MRes → Prop} {x y : Int32} : Wp (Pg jz cs sf) 8 (7, L, (.int y) :: (.int x) :: S, H, k, n) Q ↔ if y ≤ x then Wp (Pg jz cs sf) 8 (44, L, S, H, k, n) Q else Wp (Pg jz cs sf) 8 (10, L, S, H, k, n) Q := gIcmp (d8_7 _ _ _) (by decide) (by decide) (i_ge x y)
theorem d8_10 (jz : Nat) (cs : Int32) (sf : Value) : decode ((Pg jz cs sf).mt 8).code 10 = .ok (.aload_n 0, 1) := (by decide +kernel : decode jdk_52_method_21_code 10 = .ok (.aload_n 0, 1))
theorem w8_10 {jz : Nat} {cs : Int32} {sf : Value} {L : List Slot} {S : List Value} {H : Hp} {k : Nat} {n : Nat} {Q : MRes → Prop}  {v : Value} (hv : isA v = true) : Wp (Pg jz cs sf) 8 (10, .val v :: L, S, H, k, n) Q ↔ Wp (Pg jz cs sf) 8 (11, .val v :: L, v :: S, H, k, n) Q := gP (d8_10 _ _ _) rfl (by show (if isA v = true then _ else _) = _; rw [if_pos hv])
theorem d8_11 (jz : Nat) (cs : Int32) (sf : Value) : decode ((Pg jz cs sf).mt 8).code 11 = .ok (.iload_n 1, 1) := (by decide +kernel : decode jdk_52_method_21_code 11 = .ok (.iload_n 1, 1))
theorem w8_11 {jz : Nat} {cs : Int32} {sf : Value} {L : List Slot} {S : List Value} {H : Hp} {k : Nat} {n : Nat} {Q : MRes → Prop} {l0 : Slot} {x : Int32} : Wp (Pg jz cs sf) 8 (11, l0 :: .val (.int x) :: L, S, H, k, n) Q ↔ Wp (Pg jz cs sf) 8 (12, l0 :: .val (.int x) :: L, (.int x) :: S, H, k, n) Q := gP (d8_11 _ _ _) rfl rfl
theorem d8_12 (jz : Nat) (cs : Int32) (sf : Value) : decode ((Pg jz cs sf).mt 8).code 12 = .ok (.caload, 1) := (by decide +kernel : decode jdk_52_method_21_code 12 = .ok (.caload, 1))
theorem w8_12 {jz : Nat} {cs : Int32} {sf : Value} {L : List Slot} {S : List Value} {H : Hp} {k : Nat} {n : Nat} {Q : MRes → Prop} {a : Nat} {x : Int32} : Wp (Pg jz cs sf) 8 (12, L, (.int x) :: (.ref a) :: S, H, k, n) Q ↔ ∃ v, ldA .caload H a x = some v ∧ Wp (Pg jz cs sf) 8 (13, L, v :: S, H, k, n) Q := gLdA (by simp) (d8_12 _ _ _)
theorem d8_13 (jz : Nat) (cs : Int32) (sf : Value) : decode ((Pg jz cs sf).mt 8).code 13 = .ok (.istore 6, 2) := (by decide +kernel : decode jdk_52_method_21_code 13 = .ok (.istore 6, 2))
theorem w8_13 {jz : Nat} {cs : Int32} {sf : Value} {L : List Slot} {S : List Value} {H : Hp} {k : Nat} {n : Nat} {Q : MRes → Prop} {l0 l1 l2 l3 l4 l5 : Slot} {o : Slot} {x : Int32} (ho : s1 o = true) : Wp (Pg jz cs sf) 8 (13, l0 :: l1 :: l2 :: l3 :: l4 :: l5 :: o :: L, (.int x) :: S, H, k, n) Q ↔ Wp (Pg jz cs sf) 8 (15, l0 :: l1 :: l2 :: l3 :: l4 :: l5 :: .val (.int x) :: L, S, H, k, n) Q := gP (d8_13 _ _ _) rfl (st1_eq (o := o) rfl ho rfl)
theorem d8_15 (jz : Nat) (cs : Int32) (sf : Value) : decode ((Pg jz cs sf).mt 8).code 15 = .ok (.iload 6, 2) := (by decide +kernel : decode jdk_52_method_21_code 15 = .ok (.iload 6, 2))
theorem w8_15 {jz : Nat} {cs : Int32} {sf : Value} {L : List Slot} {S : List Value} {H : Hp} {k : Nat} {n : Nat} {Q : MRes → Prop} {l0 l1 l2 l3 l4 l5 : Slot} {x : Int32} : Wp (Pg jz cs sf) 8 (15, l0 :: l1 :: l2 :: l3 :: l4 :: l5 :: .val (.int x) :: L, S, H, k, n) Q ↔ Wp (Pg jz cs sf) 8 (17, l0 :: l1 :: l2 :: l3 :: l4 :: l5 :: .val (.int x) :: L, (.int x) :: S, H, k, n) Q := gP (d8_15 _ _ _) rfl rfl
theorem d8_17 (jz : Nat) (cs : Int32) (sf : Value) : decode ((Pg jz cs sf).mt 8).code 17 = .ok (.sipush 255, 3) := (by decide +kernel : decode jdk_52_method_21_code 17 = .ok (.sipush 255, 3))
theorem w8_17 {jz : Nat} {cs : Int32} {sf : Value} {L : List Slot} {S : List Value} {H : Hp} {k : Nat} {n : Nat} {Q : MRes → Prop} : Wp (Pg jz cs sf) 8 (17, L, S, H, k, n) Q ↔ Wp (Pg jz cs sf) 8 (20, L, (.int 255) :: S, H, k, n) Q := gP (d8_17 _ _ _) rfl rfl
theorem d8_20 (jz : Nat) (cs : Int32) (sf : Value) : decode ((Pg jz cs sf).mt 8).code 20 = .ok (.if_icmp .le 6, 3) := (by decide +kernel : decode jdk_52_method_21_code 20 = .ok (.if_icmp .le 6, 3))
theorem w8_20 {jz : Nat} {cs : Int32} {sf : Value} {L : List Slot} {S : List Value} {H : Hp} {k : Nat} {n : Nat} {Q : MRes → Prop} {x y : Int32} : Wp (Pg jz cs sf) 8 (20, L, (.int y) :: (.int x) :: S, H, k, n) Q ↔ if x ≤ y then Wp (Pg jz cs sf) 8 (26, L, S, H, k, n) Q else Wp (Pg jz cs sf) 8 (23, L, S, H, k, n) Q := gIcmp (d8_20 _ _ _) (by decide) (by decide) (i_le x y)
theorem d8_23 (jz : Nat) (cs : Int32) (sf : Value) : decode ((Pg jz cs sf).mt 8).code 23 = .ok (.iload 5, 2) := (by decide +kernel : decode jdk_52_method_21_code 23 = .ok (.iload 5, 2))
theorem w8_23 {jz : Nat} {cs : Int32} {sf : Value} {L : List Slot} {S : List Value} {H : Hp} {k : Nat} {n : Nat} {Q : MRes → Prop} {l0 l1 l2 l3 l4 : Slot} {x : Int32} : Wp (Pg jz cs sf) 8 (23, l0 :: l1 :: l2 :: l3 :: l4 :: .val (.int x) :: L, S, H, k, n) Q ↔ Wp (Pg jz cs sf) 8 (25, l0 :: l1 :: l2 :: l3 :: l4 :: .val (.int x) :: L, (.int x) :: S, H, k, n) Q := gP (d8_23 _ _ _) rfl rfl
theorem d8_25 (jz : Nat) (cs : Int32) (sf : Value) : decode ((Pg jz cs sf).mt 8).code 25 = .ok (.ireturn, 1) := (by decide +kernel : decode jdk_52_method_21_code 25 = .ok (.ireturn, 1))
theorem w8_25 {jz : Nat} {cs : Int32} {sf : Value} {L : List Slot} {S : List Value} {H : Hp} {k : Nat} {n : Nat} {Q : MRes → Prop} {x : Int32} (h1 : k ≤ 0) (h2 : n ≤ 0) : Wp (Pg jz cs sf) 8 (25, L, (.int x) :: S, H, k, n) Q ↔ Q (some (.int (x)), H) := gRet (d8_25 _ _ _) rfl rfl rfl rfl h1 h2
theorem d8_26 (jz : Nat) (cs : Int32) (sf : Value) : decode ((Pg jz cs sf).mt 8).code 26 = .ok (.aload_n 2, 1) := (by decide +kernel : decode jdk_52_method_21_code 26 = .ok (.aload_n 2, 1))
theorem w8_26 {jz : Nat} {cs : Int32} {sf : Value} {L : List Slot} {S : List Value} {H : Hp} {k : Nat} {n : Nat} {Q : MRes → Prop} {l0 l1 : Slot} {v : Value} (hv : isA v = true) : Wp (Pg jz cs sf) 8 (26, l0 :: l1 :: .val v :: L, S, H, k, n) Q ↔ Wp (Pg jz cs sf) 8 (27, l0 :: l1 :: .val v :: L, v :: S, H, k, n) Q := gP (d8_26 _ _ _) rfl (by show (if isA v = true then _ else _) = _; rw [if_pos hv])
theorem d8_27 (jz : Nat) (cs : Int32) (sf : Value) : decode ((Pg jz cs sf).mt 8).code 27 = .ok (.iload_n 3, 1) := (by decide +kernel : decode jdk_52_method_21_code 27 = .ok (.iload_n 3, 1))
theorem w8_27 {jz : Nat} {cs : Int32} {sf : Value} {L : List Slot} {S : List Value} {H : Hp} {k : Nat} {n : Nat} {Q : MRes → Prop} {l0 l1 l2 : Slot} {x : Int32} : Wp (Pg jz cs sf) 8 (27, l0 :: l1 :: l2 :: .val (.int x) :: L, S, H, k, n) Q ↔ Wp (Pg jz cs sf) 8 (28, l0 :: l1 :: l2 :: .val (.int x) :: L, (.int x) :: S, H, k, n) Q := gP (d8_27 _ _ _) rfl rfl
theorem d8_28 (jz : Nat) (cs : Int32) (sf : Value) : decode ((Pg jz cs sf).mt 8).code 28 = .ok (.iload 6, 2) := (by decide +kernel : decode jdk_52_method_21_code 28 = .ok (.iload 6, 2))
theorem w8_28 {jz : Nat} {cs : Int32} {sf : Value} {L : List Slot} {S : List Value} {H : Hp} {k : Nat} {n : Nat} {Q : MRes → Prop} {l0 l1 l2 l3 l4 l5 : Slot} {x : Int32} : Wp (Pg jz cs sf) 8 (28, l0 :: l1 :: l2 :: l3 :: l4 :: l5 :: .val (.int x) :: L, S, H, k, n) Q ↔ Wp (Pg jz cs sf) 8 (30, l0 :: l1 :: l2 :: l3 :: l4 :: l5 :: .val (.int x) :: L, (.int x) :: S, H, k, n) Q := gP (d8_28 _ _ _) rfl rfl
theorem d8_30 (jz : Nat) (cs : Int32) (sf : Value) : decode ((Pg jz cs sf).mt 8).code 30 = .ok (.i2b, 1) := (by decide +kernel : decode jdk_52_method_21_code 30 = .ok (.i2b, 1))
theorem w8_30 {jz : Nat} {cs : Int32} {sf : Value} {L : List Slot} {S : List Value} {H : Hp} {k : Nat} {n : Nat} {Q : MRes → Prop} {x : Int32} : Wp (Pg jz cs sf) 8 (30, L, (.int x) :: S, H, k, n) Q ↔ Wp (Pg jz cs sf) 8 (31, L, (.int x.toInt8.toInt32) :: S, H, k, n) Q := gP (d8_30 _ _ _) rfl rfl
theorem d8_31 (jz : Nat) (cs : Int32) (sf : Value) : decode ((Pg jz cs sf).mt 8).code 31 = .ok (.bastore, 1) := (by decide +kernel : decode jdk_52_method_21_code 31 = .ok (.bastore, 1))
theorem w8_31 {jz : Nat} {cs : Int32} {sf : Value} {L : List Slot} {S : List Value} {H : Hp} {k : Nat} {n : Nat} {Q : MRes → Prop} {a : Nat} {x : Int32} {v : Value} : Wp (Pg jz cs sf) 8 (31, L, v :: (.int x) :: (.ref a) :: S, H, k, n) Q ↔ ∃ H', stA (Pg jz cs sf) .bastore H a x v = some H' ∧ Wp (Pg jz cs sf) 8 (32, L, S, H', k, n) Q := gStA (by simp) (d8_31 _ _ _)
theorem d8_32 (jz : Nat) (cs : Int32) (sf : Value) : decode ((Pg jz cs sf).mt 8).code 32 = .ok (.iinc 1 1, 3) := (by decide +kernel : decode jdk_52_method_21_code 32 = .ok (.iinc 1 1, 3))
theorem w8_32 {jz : Nat} {cs : Int32} {sf : Value} {L : List Slot} {S : List Value} {H : Hp} {k : Nat} {n : Nat} {Q : MRes → Prop} {l0 : Slot} {x : Int32} : Wp (Pg jz cs sf) 8 (32, l0 :: .val (.int x) :: L, S, H, k, n) Q ↔ Wp (Pg jz cs sf) 8 (35, l0 :: .val (.int (x + 1)) :: L, S, H, k, n) Q := gP (d8_32 _ _ _) rfl rfl
theorem d8_35 (jz : Nat) (cs : Int32) (sf : Value) : decode ((Pg jz cs sf).mt 8).code 35 = .ok (.iinc 3 1, 3) := (by decide +kernel : decode jdk_52_method_21_code 35 = .ok (.iinc 3 1, 3))
theorem w8_35 {jz : Nat} {cs : Int32} {sf : Value} {L : List Slot} {S : List Value} {H : Hp} {k : Nat} {n : Nat} {Q : MRes → Prop} {l0 l1 l2 : Slot} {x : Int32} : Wp (Pg jz cs sf) 8 (35, l0 :: l1 :: l2 :: .val (.int x) :: L, S, H, k, n) Q ↔ Wp (Pg jz cs sf) 8 (38, l0 :: l1 :: l2 :: .val (.int (x + 1)) :: L, S, H, k, n) Q := gP (d8_35 _ _ _) rfl rfl
theorem d8_38 (jz : Nat) (cs : Int32) (sf : Value) : decode ((Pg jz cs sf).mt 8).code 38 = .ok (.iinc 5 1, 3) := (by decide +kernel : decode jdk_52_method_21_code 38 = .ok (.iinc 5 1, 3))
theorem w8_38 {jz : Nat} {cs : Int32} {sf : Value} {L : List Slot} {S : List Value} {H : Hp} {k : Nat} {n : Nat} {Q : MRes → Prop} {l0 l1 l2 l3 l4 : Slot} {x : Int32} : Wp (Pg jz cs sf) 8 (38, l0 :: l1 :: l2 :: l3 :: l4 :: .val (.int x) :: L, S, H, k, n) Q ↔ Wp (Pg jz cs sf) 8 (41, l0 :: l1 :: l2 :: l3 :: l4 :: .val (.int (x + 1)) :: L, S, H, k, n) Q := gP (d8_38 _ _ _) rfl rfl
theorem d8_41 (jz : Nat) (cs : Int32) (sf : Value) : decode ((Pg jz cs sf).mt 8).code 41 = .ok (.goto (-38), 3) := (by decide +kernel : decode jdk_52_method_21_code 41 = .ok (.goto (-38), 3))
theorem w8_41 {jz : Nat} {cs : Int32} {sf : Value} {L : List Slot} {S : List Value} {H : Hp} {k : Nat} {n : Nat} {Q : MRes → Prop} : Wp (Pg jz cs sf) 8 (41, L, S, H, k, n) Q ↔ Wp (Pg jz cs sf) 8 (3, L, S, H, k, n) Q := gGoto (d8_41 _ _ _) (by decide) (by decide)
theorem d8_44 (jz : Nat) (cs : Int32) (sf : Value) : decode ((Pg jz cs sf).mt 8).code 44 = .ok (.iload 4, 2) := (by decide +kernel : decode jdk_52_method_21_code 44 = .ok (.iload 4, 2))
theorem w8_44 {jz : Nat} {cs : Int32} {sf : Value} {L : List Slot} {S : List Value} {H : Hp} {k : Nat} {n : Nat} {Q : MRes → Prop} {l0 l1 l2 l3 : Slot} {x : Int32} : Wp (Pg jz cs sf) 8 (44, l0 :: l1 :: l2 :: l3 :: .val (.int x) :: L, S, H, k, n) Q ↔ Wp (Pg jz cs sf) 8 (46, l0 :: l1 :: l2 :: l3 :: .val (.int x) :: L, (.int x) :: S, H, k, n) Q := gP (d8_44 _ _ _) rfl rfl
theorem d8_46 (jz : Nat) (cs : Int32) (sf : Value) : decode ((Pg jz cs sf).mt 8).code 46 = .ok (.ireturn, 1) := (by decide +kernel : decode jdk_52_method_21_code 46 = .ok (.ireturn, 1))
theorem w8_46 {jz : Nat} {cs : Int32} {sf : Value} {L : List Slot} {S : List Value} {H : Hp} {k : Nat} {n : Nat} {Q : MRes → Prop} {x : Int32} (h1 : k ≤ 0) (h2 : n ≤ 0) : Wp (Pg jz cs sf) 8 (46, L, (.int x) :: S, H, k, n) Q ↔ Q (some (.int (x)), H) := gRet (d8_46 _ _ _) rfl rfl rfl rfl h1 h2
theorem d9_0 (jz : Nat) (cs : Int32) (sf : Value) : decode ((Pg jz cs sf).mt 9).code 0 = .ok (.iload_n 1, 1) := (by decide +kernel : decode jdk_52_method_15_code 0 = .ok (.iload_n 1, 1))
theorem w9_0 {jz : Nat} {cs : Int32} {sf : Value} {L : List Slot} {S : List Value} {H : Hp} {k : Nat} {n : Nat} {Q : MRes → Prop} {l0 : Slot} {x : Int32} : Wp (Pg jz cs sf) 9 (0, l0 :: .val (.int x) :: L, S, H, k, n) Q ↔ Wp (Pg jz cs sf) 9 (1, l0 :: .val (.int x) :: L, (.int x) :: S, H, k, n) Q := gP (d9_0 _ _ _) rfl rfl
theorem d9_1 (jz : Nat) (cs : Int32) (sf : Value) : decode ((Pg jz cs sf).mt 9).code 1 = .ok (.aload_n 0, 1) := (by decide +kernel : decode jdk_52_method_15_code 1 = .ok (.aload_n 0, 1))
theorem w9_1 {jz : Nat} {cs : Int32} {sf : Value} {L : List Slot} {S : List Value} {H : Hp} {k : Nat} {n : Nat} {Q : MRes → Prop}  {v : Value} (hv : isA v = true) : Wp (Pg jz cs sf) 9 (1, .val v :: L, S, H, k, n) Q ↔ Wp (Pg jz cs sf) 9 (2, .val v :: L, v :: S, H, k, n) Q := gP (d9_1 _ _ _) rfl (by show (if isA v = true then _ else _) = _; rw [if_pos hv])
theorem d9_2 (jz : Nat) (cs : Int32) (sf : Value) : decode ((Pg jz cs sf).mt 9).code 2 = .ok (.arraylength, 1) := (by decide +kernel : decode jdk_52_method_15_code 2 = .ok (.arraylength, 1))
theorem w9_2 {jz : Nat} {cs : Int32} {sf : Value} {L : List Slot} {S : List Value} {H : Hp} {k : Nat} {n : Nat} {Q : MRes → Prop} {a : Nat} : Wp (Pg jz cs sf) 9 (2, L, (.ref a) :: S, H, k, n) Q ↔ ∃ v, alen H a = some v ∧ Wp (Pg jz cs sf) 9 (3, L, (.int v) :: S, H, k, n) Q := gLen (d9_2 _ _ _)
theorem d9_3 (jz : Nat) (cs : Int32) (sf : Value) : decode ((Pg jz cs sf).mt 9).code 3 = .ok (.isub, 1) := (by decide +kernel : decode jdk_52_method_15_code 3 = .ok (.isub, 1))
theorem w9_3 {jz : Nat} {cs : Int32} {sf : Value} {L : List Slot} {S : List Value} {H : Hp} {k : Nat} {n : Nat} {Q : MRes → Prop} {x y : Int32} : Wp (Pg jz cs sf) 9 (3, L, (.int y) :: (.int x) :: S, H, k, n) Q ↔ Wp (Pg jz cs sf) 9 (4, L, (.int (x - y)) :: S, H, k, n) Q := gP (d9_3 _ _ _) rfl rfl
theorem d9_4 (jz : Nat) (cs : Int32) (sf : Value) : decode ((Pg jz cs sf).mt 9).code 4 = .ok (.bipush 31, 2) := (by decide +kernel : decode jdk_52_method_15_code 4 = .ok (.bipush 31, 2))
theorem w9_4 {jz : Nat} {cs : Int32} {sf : Value} {L : List Slot} {S : List Value} {H : Hp} {k : Nat} {n : Nat} {Q : MRes → Prop} : Wp (Pg jz cs sf) 9 (4, L, S, H, k, n) Q ↔ Wp (Pg jz cs sf) 9 (6, L, (.int 31) :: S, H, k, n) Q := gP (d9_4 _ _ _) rfl rfl
theorem d9_6 (jz : Nat) (cs : Int32) (sf : Value) : decode ((Pg jz cs sf).mt 9).code 6 = .ok (.iushr, 1) := (by decide +kernel : decode jdk_52_method_15_code 6 = .ok (.iushr, 1))
theorem w9_6 {jz : Nat} {cs : Int32} {sf : Value} {L : List Slot} {S : List Value} {H : Hp} {k : Nat} {n : Nat} {Q : MRes → Prop} {x y : Int32} : Wp (Pg jz cs sf) 9 (6, L, (.int y) :: (.int x) :: S, H, k, n) Q ↔ Wp (Pg jz cs sf) 9 (7, L, (.int (XT.ushr x y)) :: S, H, k, n) Q := gP (d9_6 _ _ _) rfl rfl
theorem d9_7 (jz : Nat) (cs : Int32) (sf : Value) : decode ((Pg jz cs sf).mt 9).code 7 = .ok (.i2b, 1) := (by decide +kernel : decode jdk_52_method_15_code 7 = .ok (.i2b, 1))
theorem w9_7 {jz : Nat} {cs : Int32} {sf : Value} {L : List Slot} {S : List Value} {H : Hp} {k : Nat} {n : Nat} {Q : MRes → Prop} {x : Int32} : Wp (Pg jz cs sf) 9 (7, L, (.int x) :: S, H, k, n) Q ↔ Wp (Pg jz cs sf) 9 (8, L, (.int x.toInt8.toInt32) :: S, H, k, n) Q := gP (d9_7 _ _ _) rfl rfl
theorem d9_8 (jz : Nat) (cs : Int32) (sf : Value) : decode ((Pg jz cs sf).mt 9).code 8 = .ok (.ireturn, 1) := (by decide +kernel : decode jdk_52_method_15_code 8 = .ok (.ireturn, 1))
theorem w9_8 {jz : Nat} {cs : Int32} {sf : Value} {L : List Slot} {S : List Value} {H : Hp} {k : Nat} {n : Nat} {Q : MRes → Prop} {x : Int32} (h1 : k ≤ 0) (h2 : n ≤ 0) : Wp (Pg jz cs sf) 9 (8, L, (.int x) :: S, H, k, n) Q ↔ Q (some (.int (x.toInt8.toInt32)), H) := gRet (d9_8 _ _ _) rfl rfl rfl rfl h1 h2
theorem d10_0 (jz : Nat) (cs : Int32) (sf : Value) : decode ((Pg jz cs sf).mt 10).code 0 = .ok (.iload_n 0, 1) := (by decide +kernel : decode method_4_code 0 = .ok (.iload_n 0, 1))
theorem w10_0 {jz : Nat} {cs : Int32} {sf : Value} {L : List Slot} {S : List Value} {H : Hp} {k : Nat} {n : Nat} {Q : MRes → Prop}  {x : Int32} : Wp (Pg jz cs sf) 10 (0, .val (.int x) :: L, S, H, k, n) Q ↔ Wp (Pg jz cs sf) 10 (1, .val (.int x) :: L, (.int x) :: S, H, k, n) Q := gP (d10_0 _ _ _) rfl rfl
theorem d10_1 (jz : Nat) (cs : Int32) (sf : Value) : decode ((Pg jz cs sf).mt 10).code 1 = .ok (.istore_n 1, 1) := (by decide +kernel : decode method_4_code 1 = .ok (.istore_n 1, 1))
theorem w10_1 {jz : Nat} {cs : Int32} {sf : Value} {L : List Slot} {S : List Value} {H : Hp} {k : Nat} {n : Nat} {Q : MRes → Prop} {l0 : Slot} {o : Slot} {x : Int32} (ho : s1 o = true) : Wp (Pg jz cs sf) 10 (1, l0 :: o :: L, (.int x) :: S, H, k, n) Q ↔ Wp (Pg jz cs sf) 10 (2, l0 :: .val (.int x) :: L, S, H, k, n) Q := gP (d10_1 _ _ _) rfl (st1_eq (o := o) rfl ho rfl)
theorem d10_2 (jz : Nat) (cs : Int32) (sf : Value) : decode ((Pg jz cs sf).mt 10).code 2 = .ok (.iload_n 1, 1) := (by decide +kernel : decode method_4_code 2 = .ok (.iload_n 1, 1))
theorem w10_2 {jz : Nat} {cs : Int32} {sf : Value} {L : List Slot} {S : List Value} {H : Hp} {k : Nat} {n : Nat} {Q : MRes → Prop} {l0 : Slot} {x : Int32} : Wp (Pg jz cs sf) 10 (2, l0 :: .val (.int x) :: L, S, H, k, n) Q ↔ Wp (Pg jz cs sf) 10 (3, l0 :: .val (.int x) :: L, (.int x) :: S, H, k, n) Q := gP (d10_2 _ _ _) rfl rfl
theorem d10_3 (jz : Nat) (cs : Int32) (sf : Value) : decode ((Pg jz cs sf).mt 10).code 3 = .ok (.bipush 31, 2) := (by decide +kernel : decode method_4_code 3 = .ok (.bipush 31, 2))
theorem w10_3 {jz : Nat} {cs : Int32} {sf : Value} {L : List Slot} {S : List Value} {H : Hp} {k : Nat} {n : Nat} {Q : MRes → Prop} : Wp (Pg jz cs sf) 10 (3, L, S, H, k, n) Q ↔ Wp (Pg jz cs sf) 10 (5, L, (.int 31) :: S, H, k, n) Q := gP (d10_3 _ _ _) rfl rfl
theorem d10_5 (jz : Nat) (cs : Int32) (sf : Value) : decode ((Pg jz cs sf).mt 10).code 5 = .ok (.if_icmp .le 13, 3) := (by decide +kernel : decode method_4_code 5 = .ok (.if_icmp .le 13, 3))
theorem w10_5 {jz : Nat} {cs : Int32} {sf : Value} {L : List Slot} {S : List Value} {H : Hp} {k : Nat} {n : Nat} {Q : MRes → Prop} {x y : Int32} : Wp (Pg jz cs sf) 10 (5, L, (.int y) :: (.int x) :: S, H, k, n) Q ↔ if x ≤ y then Wp (Pg jz cs sf) 10 (18, L, S, H, k, n) Q else Wp (Pg jz cs sf) 10 (8, L, S, H, k, n) Q := gIcmp (d10_5 _ _ _) (by decide) (by decide) (i_le x y)
theorem d10_8 (jz : Nat) (cs : Int32) (sf : Value) : decode ((Pg jz cs sf).mt 10).code 8 = .ok (.iload_n 1, 1) := (by decide +kernel : decode method_4_code 8 = .ok (.iload_n 1, 1))
theorem w10_8 {jz : Nat} {cs : Int32} {sf : Value} {L : List Slot} {S : List Value} {H : Hp} {k : Nat} {n : Nat} {Q : MRes → Prop} {l0 : Slot} {x : Int32} : Wp (Pg jz cs sf) 10 (8, l0 :: .val (.int x) :: L, S, H, k, n) Q ↔ Wp (Pg jz cs sf) 10 (9, l0 :: .val (.int x) :: L, (.int x) :: S, H, k, n) Q := gP (d10_8 _ _ _) rfl rfl
theorem d10_9 (jz : Nat) (cs : Int32) (sf : Value) : decode ((Pg jz cs sf).mt 10).code 9 = .ok (.bipush 127, 2) := (by decide +kernel : decode method_4_code 9 = .ok (.bipush 127, 2))
theorem w10_9 {jz : Nat} {cs : Int32} {sf : Value} {L : List Slot} {S : List Value} {H : Hp} {k : Nat} {n : Nat} {Q : MRes → Prop} : Wp (Pg jz cs sf) 10 (9, L, S, H, k, n) Q ↔ Wp (Pg jz cs sf) 10 (11, L, (.int 127) :: S, H, k, n) Q := gP (d10_9 _ _ _) rfl rfl
theorem d10_11 (jz : Nat) (cs : Int32) (sf : Value) : decode ((Pg jz cs sf).mt 10).code 11 = .ok (.if_icmp .ge 7, 3) := (by decide +kernel : decode method_4_code 11 = .ok (.if_icmp .ge 7, 3))
theorem w10_11 {jz : Nat} {cs : Int32} {sf : Value} {L : List Slot} {S : List Value} {H : Hp} {k : Nat} {n : Nat} {Q : MRes → Prop} {x y : Int32} : Wp (Pg jz cs sf) 10 (11, L, (.int y) :: (.int x) :: S, H, k, n) Q ↔ if y ≤ x then Wp (Pg jz cs sf) 10 (18, L, S, H, k, n) Q else Wp (Pg jz cs sf) 10 (14, L, S, H, k, n) Q := gIcmp (d10_11 _ _ _) (by decide) (by decide) (i_ge x y)
theorem d10_14 (jz : Nat) (cs : Int32) (sf : Value) : decode ((Pg jz cs sf).mt 10).code 14 = .ok (.iconst 1, 1) := (by decide +kernel : decode method_4_code 14 = .ok (.iconst 1, 1))
theorem w10_14 {jz : Nat} {cs : Int32} {sf : Value} {L : List Slot} {S : List Value} {H : Hp} {k : Nat} {n : Nat} {Q : MRes → Prop} : Wp (Pg jz cs sf) 10 (14, L, S, H, k, n) Q ↔ Wp (Pg jz cs sf) 10 (15, L, (.int 1) :: S, H, k, n) Q := gP (d10_14 _ _ _) rfl rfl
theorem d10_15 (jz : Nat) (cs : Int32) (sf : Value) : decode ((Pg jz cs sf).mt 10).code 15 = .ok (.goto 4, 3) := (by decide +kernel : decode method_4_code 15 = .ok (.goto 4, 3))
theorem w10_15 {jz : Nat} {cs : Int32} {sf : Value} {L : List Slot} {S : List Value} {H : Hp} {k : Nat} {n : Nat} {Q : MRes → Prop} : Wp (Pg jz cs sf) 10 (15, L, S, H, k, n) Q ↔ Wp (Pg jz cs sf) 10 (19, L, S, H, k, n) Q := gGoto (d10_15 _ _ _) (by decide) (by decide)
theorem d10_18 (jz : Nat) (cs : Int32) (sf : Value) : decode ((Pg jz cs sf).mt 10).code 18 = .ok (.iconst 0, 1) := (by decide +kernel : decode method_4_code 18 = .ok (.iconst 0, 1))
theorem w10_18 {jz : Nat} {cs : Int32} {sf : Value} {L : List Slot} {S : List Value} {H : Hp} {k : Nat} {n : Nat} {Q : MRes → Prop} : Wp (Pg jz cs sf) 10 (18, L, S, H, k, n) Q ↔ Wp (Pg jz cs sf) 10 (19, L, (.int 0) :: S, H, k, n) Q := gP (d10_18 _ _ _) rfl rfl
theorem d10_19 (jz : Nat) (cs : Int32) (sf : Value) : decode ((Pg jz cs sf).mt 10).code 19 = .ok (.ireturn, 1) := (by decide +kernel : decode method_4_code 19 = .ok (.ireturn, 1))
theorem w10_19 {jz : Nat} {cs : Int32} {sf : Value} {L : List Slot} {S : List Value} {H : Hp} {k : Nat} {n : Nat} {Q : MRes → Prop} {x : Int32} (h1 : k ≤ 0) (h2 : n ≤ 0) : Wp (Pg jz cs sf) 10 (19, L, (.int x) :: S, H, k, n) Q ↔ Q (some (.int (x &&& 1)), H) := gRet (d10_19 _ _ _) rfl rfl rfl rfl h1 h2
theorem d11_0 (jz : Nat) (cs : Int32) (sf : Value) : decode ((Pg jz cs sf).mt 11).code 0 = .ok (.aload_n 0, 1) := (by decide +kernel : decode jdk_42_method_56_code 0 = .ok (.aload_n 0, 1))
theorem w11_0 {jz : Nat} {cs : Int32} {sf : Value} {L : List Slot} {S : List Value} {H : Hp} {k : Nat} {n : Nat} {Q : MRes → Prop}  {v : Value} (hv : isA v = true) : Wp (Pg jz cs sf) 11 (0, .val v :: L, S, H, k, n) Q ↔ Wp (Pg jz cs sf) 11 (1, .val v :: L, v :: S, H, k, n) Q := gP (d11_0 _ _ _) rfl (by show (if isA v = true then _ else _) = _; rw [if_pos hv])
theorem d11_1 (jz : Nat) (cs : Int32) (sf : Value) : decode ((Pg jz cs sf).mt 11).code 1 = .ok (.invokevirtual 492, 3) := (by decide +kernel : decode jdk_42_method_56_code 1 = .ok (.invokevirtual 492, 3))
theorem w11_1 {jz : Nat} {cs : Int32} {sf : Value} {L : List Slot} {S : List Value} {H : Hp} {k : Nat} {n : Nat} {Q : MRes → Prop} {a : Nat}  (ho : kdOf H a = some 0) (h1 : L.length = 2) (h2 : wt S ≤ 0) (h3 : k + 0 ≤ 0) (h4 : n + 0 ≤ 0) : Wp (Pg jz cs sf) 11 (1, L, (.ref a) :: S, H, k, n) Q ↔ Wp (Pg jz cs sf) 12 (0, [.val (.ref a)], [], H, 0, 0) fun r => Wp (Pg jz cs sf) 11 (4, L, r.1.toList ++ S, r.2, k + 0, n + 0) Q := gVirt (np := 0) (cid := 0) (d11_1 _ _ _) rfl rfl rfl (M := 2) (W := 0) (C := 0) (Sl := 0) (c := 0) (s := 0) ⟨rfl, Nat.le_of_ble_eq_true rfl, Nat.le_of_ble_eq_true rfl, rfl, rfl, rfl, rfl⟩ (by show entL [(.ref a)] 1 = _; rw [entL, laid_c1 rfl, laid_nil]; rfl) ho h1 h2 h3 h4
theorem d11_4 (jz : Nat) (cs : Int32) (sf : Value) : decode ((Pg jz cs sf).mt 11).code 4 = .ok (.ifCond .eq 12, 3) := (by decide +kernel : decode jdk_42_method_56_code 4 = .ok (.ifCond .eq 12, 3))
theorem w11_4 {jz : Nat} {cs : Int32} {sf : Value} {L : List Slot} {S : List Value} {H : Hp} {k : Nat} {n : Nat} {Q : MRes → Prop} {x : Int32} : Wp (Pg jz cs sf) 11 (4, L, (.int x) :: S, H, k, n) Q ↔ if x = 0 then Wp (Pg jz cs sf) 11 (16, L, S, H, k, n) Q else Wp (Pg jz cs sf) 11 (7, L, S, H, k, n) Q := gIf (d11_4 _ _ _) (by decide) (by decide) (c_eq x)
theorem d11_7 (jz : Nat) (cs : Int32) (sf : Value) : decode ((Pg jz cs sf).mt 11).code 7 = .ok (.aload_n 0, 1) := (by decide +kernel : decode jdk_42_method_56_code 7 = .ok (.aload_n 0, 1))
theorem w11_7 {jz : Nat} {cs : Int32} {sf : Value} {L : List Slot} {S : List Value} {H : Hp} {k : Nat} {n : Nat} {Q : MRes → Prop}  {v : Value} (hv : isA v = true) : Wp (Pg jz cs sf) 11 (7, .val v :: L, S, H, k, n) Q ↔ Wp (Pg jz cs sf) 11 (8, .val v :: L, v :: S, H, k, n) Q := gP (d11_7 _ _ _) rfl (by show (if isA v = true then _ else _) = _; rw [if_pos hv])
theorem d11_8 (jz : Nat) (cs : Int32) (sf : Value) : decode ((Pg jz cs sf).mt 11).code 8 = .ok (.getfield 9, 3) := (by decide +kernel : decode jdk_42_method_56_code 8 = .ok (.getfield 9, 3))
theorem w11_8 {jz : Nat} {cs : Int32} {sf : Value} {L : List Slot} {S : List Value} {H : Hp} {k : Nat} {n : Nat} {Q : MRes → Prop} {a : Nat} : Wp (Pg jz cs sf) 11 (8, L, (.ref a) :: S, H, k, n) Q ↔ ∃ v, rdF (Pg jz cs sf) 11 9 H a = some v ∧ Wp (Pg jz cs sf) 11 (11, L, v :: S, H, k, n) Q := gGet (d11_8 _ _ _)
theorem d11_11 (jz : Nat) (cs : Int32) (sf : Value) : decode ((Pg jz cs sf).mt 11).code 11 = .ok (.iload_n 1, 1) := (by decide +kernel : decode jdk_42_method_56_code 11 = .ok (.iload_n 1, 1))
theorem w11_11 {jz : Nat} {cs : Int32} {sf : Value} {L : List Slot} {S : List Value} {H : Hp} {k : Nat} {n : Nat} {Q : MRes → Prop} {l0 : Slot} {x : Int32} : Wp (Pg jz cs sf) 11 (11, l0 :: .val (.int x) :: L, S, H, k, n) Q ↔ Wp (Pg jz cs sf) 11 (12, l0 :: .val (.int x) :: L, (.int x) :: S, H, k, n) Q := gP (d11_11 _ _ _) rfl rfl
theorem d11_12 (jz : Nat) (cs : Int32) (sf : Value) : decode ((Pg jz cs sf).mt 11).code 12 = .ok (.invokestatic 495, 3) := (by decide +kernel : decode jdk_42_method_56_code 12 = .ok (.invokestatic 495, 3))
theorem w11_12 {jz : Nat} {cs : Int32} {sf : Value} {L : List Slot} {S : List Value} {H : Hp} {k : Nat} {n : Nat} {Q : MRes → Prop} {a0 : Value} {a1 : Int32}  (h_a0 : cat a0 = 1) (h1 : L.length = 2) (h2 : wt S ≤ 0) (h3 : k + 0 ≤ 0) (h4 : n + 0 ≤ 0) : Wp (Pg jz cs sf) 11 (12, L, (.int a1) :: a0 :: S, H, k, n) Q ↔ Wp (Pg jz cs sf) 13 (0, [.val a0, .val (.int a1)], [], H, 0, 0) fun r => Wp (Pg jz cs sf) 11 (15, L, r.1.toList ++ S, r.2, k + 0, n + 0) Q := gCall (d11_12 _ _ _) rfl rfl (M := 2) (W := 0) (C := 0) (Sl := 0) (c := 0) (s := 0) ⟨rfl, Nat.le_of_ble_eq_true rfl, Nat.le_of_ble_eq_true rfl, rfl, rfl, rfl, rfl⟩ (by show entL [a0, (.int a1)] 2 = _; rw [entL, laid_c1 h_a0, laid_c1 rfl, laid_nil]; rfl) h1 h2 h3 h4
theorem d11_15 (jz : Nat) (cs : Int32) (sf : Value) : decode ((Pg jz cs sf).mt 11).code 15 = .ok (.ireturn, 1) := (by decide +kernel : decode jdk_42_method_56_code 15 = .ok (.ireturn, 1))
theorem w11_15 {jz : Nat} {cs : Int32} {sf : Value} {L : List Slot} {S : List Value} {H : Hp} {k : Nat} {n : Nat} {Q : MRes → Prop} {x : Int32} (h1 : k ≤ 0) (h2 : n ≤ 0) : Wp (Pg jz cs sf) 11 (15, L, (.int x) :: S, H, k, n) Q ↔ Q (some (.int (x.toUInt32.toUInt16.toUInt32.toInt32)), H) := gRet (d11_15 _ _ _) rfl rfl rfl rfl h1 h2
theorem d11_16 (jz : Nat) (cs : Int32) (sf : Value) : decode ((Pg jz cs sf).mt 11).code 16 = .ok (.aload_n 0, 1) := (by decide +kernel : decode jdk_42_method_56_code 16 = .ok (.aload_n 0, 1))
theorem w11_16 {jz : Nat} {cs : Int32} {sf : Value} {L : List Slot} {S : List Value} {H : Hp} {k : Nat} {n : Nat} {Q : MRes → Prop}  {v : Value} (hv : isA v = true) : Wp (Pg jz cs sf) 11 (16, .val v :: L, S, H, k, n) Q ↔ Wp (Pg jz cs sf) 11 (17, .val v :: L, v :: S, H, k, n) Q := gP (d11_16 _ _ _) rfl (by show (if isA v = true then _ else _) = _; rw [if_pos hv])
theorem d11_17 (jz : Nat) (cs : Int32) (sf : Value) : decode ((Pg jz cs sf).mt 11).code 17 = .ok (.getfield 9, 3) := (by decide +kernel : decode jdk_42_method_56_code 17 = .ok (.getfield 9, 3))
theorem w11_17 {jz : Nat} {cs : Int32} {sf : Value} {L : List Slot} {S : List Value} {H : Hp} {k : Nat} {n : Nat} {Q : MRes → Prop} {a : Nat} : Wp (Pg jz cs sf) 11 (17, L, (.ref a) :: S, H, k, n) Q ↔ ∃ v, rdF (Pg jz cs sf) 11 9 H a = some v ∧ Wp (Pg jz cs sf) 11 (20, L, v :: S, H, k, n) Q := gGet (d11_17 _ _ _)
theorem d11_20 (jz : Nat) (cs : Int32) (sf : Value) : decode ((Pg jz cs sf).mt 11).code 20 = .ok (.iload_n 1, 1) := (by decide +kernel : decode jdk_42_method_56_code 20 = .ok (.iload_n 1, 1))
theorem w11_20 {jz : Nat} {cs : Int32} {sf : Value} {L : List Slot} {S : List Value} {H : Hp} {k : Nat} {n : Nat} {Q : MRes → Prop} {l0 : Slot} {x : Int32} : Wp (Pg jz cs sf) 11 (20, l0 :: .val (.int x) :: L, S, H, k, n) Q ↔ Wp (Pg jz cs sf) 11 (21, l0 :: .val (.int x) :: L, (.int x) :: S, H, k, n) Q := gP (d11_20 _ _ _) rfl rfl
theorem d11_21 (jz : Nat) (cs : Int32) (sf : Value) : decode ((Pg jz cs sf).mt 11).code 21 = .ok (.invokestatic 498, 3) := (by decide +kernel : decode jdk_42_method_56_code 21 = .ok (.invokestatic 498, 3))
theorem w11_21 {jz : Nat} {cs : Int32} {sf : Value} {L : List Slot} {S : List Value} {H : Hp} {k : Nat} {n : Nat} {Q : MRes → Prop} {a0 : Value} {a1 : Int32}  (h_a0 : cat a0 = 1) (h1 : L.length = 2) (h2 : wt S ≤ 0) (h3 : k + 0 ≤ 0) (h4 : n + 0 ≤ 0) : Wp (Pg jz cs sf) 11 (21, L, (.int a1) :: a0 :: S, H, k, n) Q ↔ Wp (Pg jz cs sf) 21 (0, [.val a0, .val (.int a1)], [], H, 0, 0) fun r => Wp (Pg jz cs sf) 11 (24, L, r.1.toList ++ S, r.2, k + 0, n + 0) Q := gCall (d11_21 _ _ _) rfl rfl (M := 2) (W := 0) (C := 0) (Sl := 0) (c := 0) (s := 0) ⟨rfl, Nat.le_of_ble_eq_true rfl, Nat.le_of_ble_eq_true rfl, rfl, rfl, rfl, rfl⟩ (by show entL [a0, (.int a1)] 2 = _; rw [entL, laid_c1 h_a0, laid_c1 rfl, laid_nil]; rfl) h1 h2 h3 h4
theorem d11_24 (jz : Nat) (cs : Int32) (sf : Value) : decode ((Pg jz cs sf).mt 11).code 24 = .ok (.ireturn, 1) := (by decide +kernel : decode jdk_42_method_56_code 24 = .ok (.ireturn, 1))
theorem w11_24 {jz : Nat} {cs : Int32} {sf : Value} {L : List Slot} {S : List Value} {H : Hp} {k : Nat} {n : Nat} {Q : MRes → Prop} {x : Int32} (h1 : k ≤ 0) (h2 : n ≤ 0) : Wp (Pg jz cs sf) 11 (24, L, (.int x) :: S, H, k, n) Q ↔ Q (some (.int (x.toUInt32.toUInt16.toUInt32.toInt32)), H) := gRet (d11_24 _ _ _) rfl rfl rfl rfl h1 h2
theorem d12_0 (jz : Nat) (cs : Int32) (sf : Value) : decode ((Pg jz cs sf).mt 12).code 0 = .ok (.getstatic 38, 3) := (by decide +kernel : decode jdk_42_method_154_code 0 = .ok (.getstatic 38, 3))
theorem w12_0 {jz : Nat} {cs : Int32} {sf : Value} {L : List Slot} {S : List Value} {H : Hp} {k : Nat} {n : Nat} {Q : MRes → Prop} : Wp (Pg jz cs sf) 12 (0, L, S, H, k, n) Q ↔ Wp (Pg jz cs sf) 12 (3, L, (.int cs) :: S, H, k, n) Q := gH (d12_0 _ _ _) rfl rfl
theorem d12_3 (jz : Nat) (cs : Int32) (sf : Value) : decode ((Pg jz cs sf).mt 12).code 3 = .ok (.ifCond .eq 14, 3) := (by decide +kernel : decode jdk_42_method_154_code 3 = .ok (.ifCond .eq 14, 3))
theorem w12_3 {jz : Nat} {cs : Int32} {sf : Value} {L : List Slot} {S : List Value} {H : Hp} {k : Nat} {n : Nat} {Q : MRes → Prop} {x : Int32} : Wp (Pg jz cs sf) 12 (3, L, (.int x) :: S, H, k, n) Q ↔ if x = 0 then Wp (Pg jz cs sf) 12 (17, L, S, H, k, n) Q else Wp (Pg jz cs sf) 12 (6, L, S, H, k, n) Q := gIf (d12_3 _ _ _) (by decide) (by decide) (c_eq x)
theorem d12_6 (jz : Nat) (cs : Int32) (sf : Value) : decode ((Pg jz cs sf).mt 12).code 6 = .ok (.aload_n 0, 1) := (by decide +kernel : decode jdk_42_method_154_code 6 = .ok (.aload_n 0, 1))
theorem w12_6 {jz : Nat} {cs : Int32} {sf : Value} {L : List Slot} {S : List Value} {H : Hp} {k : Nat} {n : Nat} {Q : MRes → Prop}  {v : Value} (hv : isA v = true) : Wp (Pg jz cs sf) 12 (6, .val v :: L, S, H, k, n) Q ↔ Wp (Pg jz cs sf) 12 (7, .val v :: L, v :: S, H, k, n) Q := gP (d12_6 _ _ _) rfl (by show (if isA v = true then _ else _) = _; rw [if_pos hv])
theorem d12_7 (jz : Nat) (cs : Int32) (sf : Value) : decode ((Pg jz cs sf).mt 12).code 7 = .ok (.getfield 15, 3) := (by decide +kernel : decode jdk_42_method_154_code 7 = .ok (.getfield 15, 3))
theorem w12_7 {jz : Nat} {cs : Int32} {sf : Value} {L : List Slot} {S : List Value} {H : Hp} {k : Nat} {n : Nat} {Q : MRes → Prop} {a : Nat} : Wp (Pg jz cs sf) 12 (7, L, (.ref a) :: S, H, k, n) Q ↔ ∃ v, rdF (Pg jz cs sf) 12 15 H a = some v ∧ Wp (Pg jz cs sf) 12 (10, L, v :: S, H, k, n) Q := gGet (d12_7 _ _ _)
theorem d12_10 (jz : Nat) (cs : Int32) (sf : Value) : decode ((Pg jz cs sf).mt 12).code 10 = .ok (.ifCond .ne 7, 3) := (by decide +kernel : decode jdk_42_method_154_code 10 = .ok (.ifCond .ne 7, 3))
theorem w12_10 {jz : Nat} {cs : Int32} {sf : Value} {L : List Slot} {S : List Value} {H : Hp} {k : Nat} {n : Nat} {Q : MRes → Prop} {x : Int32} : Wp (Pg jz cs sf) 12 (10, L, (.int x) :: S, H, k, n) Q ↔ if ¬ x = 0 then Wp (Pg jz cs sf) 12 (17, L, S, H, k, n) Q else Wp (Pg jz cs sf) 12 (13, L, S, H, k, n) Q := gIf (d12_10 _ _ _) (by decide) (by decide) (c_ne x)
theorem d12_13 (jz : Nat) (cs : Int32) (sf : Value) : decode ((Pg jz cs sf).mt 12).code 13 = .ok (.iconst 1, 1) := (by decide +kernel : decode jdk_42_method_154_code 13 = .ok (.iconst 1, 1))
theorem w12_13 {jz : Nat} {cs : Int32} {sf : Value} {L : List Slot} {S : List Value} {H : Hp} {k : Nat} {n : Nat} {Q : MRes → Prop} : Wp (Pg jz cs sf) 12 (13, L, S, H, k, n) Q ↔ Wp (Pg jz cs sf) 12 (14, L, (.int 1) :: S, H, k, n) Q := gP (d12_13 _ _ _) rfl rfl
theorem d12_14 (jz : Nat) (cs : Int32) (sf : Value) : decode ((Pg jz cs sf).mt 12).code 14 = .ok (.goto 4, 3) := (by decide +kernel : decode jdk_42_method_154_code 14 = .ok (.goto 4, 3))
theorem w12_14 {jz : Nat} {cs : Int32} {sf : Value} {L : List Slot} {S : List Value} {H : Hp} {k : Nat} {n : Nat} {Q : MRes → Prop} : Wp (Pg jz cs sf) 12 (14, L, S, H, k, n) Q ↔ Wp (Pg jz cs sf) 12 (18, L, S, H, k, n) Q := gGoto (d12_14 _ _ _) (by decide) (by decide)
theorem d12_17 (jz : Nat) (cs : Int32) (sf : Value) : decode ((Pg jz cs sf).mt 12).code 17 = .ok (.iconst 0, 1) := (by decide +kernel : decode jdk_42_method_154_code 17 = .ok (.iconst 0, 1))
theorem w12_17 {jz : Nat} {cs : Int32} {sf : Value} {L : List Slot} {S : List Value} {H : Hp} {k : Nat} {n : Nat} {Q : MRes → Prop} : Wp (Pg jz cs sf) 12 (17, L, S, H, k, n) Q ↔ Wp (Pg jz cs sf) 12 (18, L, (.int 0) :: S, H, k, n) Q := gP (d12_17 _ _ _) rfl rfl
theorem d12_18 (jz : Nat) (cs : Int32) (sf : Value) : decode ((Pg jz cs sf).mt 12).code 18 = .ok (.ireturn, 1) := (by decide +kernel : decode jdk_42_method_154_code 18 = .ok (.ireturn, 1))
theorem w12_18 {jz : Nat} {cs : Int32} {sf : Value} {L : List Slot} {S : List Value} {H : Hp} {k : Nat} {n : Nat} {Q : MRes → Prop} {x : Int32} (h1 : k ≤ 0) (h2 : n ≤ 0) : Wp (Pg jz cs sf) 12 (18, L, (.int x) :: S, H, k, n) Q ↔ Q (some (.int (x &&& 1)), H) := gRet (d12_18 _ _ _) rfl rfl rfl rfl h1 h2
theorem d13_0 (jz : Nat) (cs : Int32) (sf : Value) : decode ((Pg jz cs sf).mt 13).code 0 = .ok (.iload_n 1, 1) := (by decide +kernel : decode jdk_43_method_2_code 0 = .ok (.iload_n 1, 1))
theorem w13_0 {jz : Nat} {cs : Int32} {sf : Value} {L : List Slot} {S : List Value} {H : Hp} {k : Nat} {n : Nat} {Q : MRes → Prop} {l0 : Slot} {x : Int32} : Wp (Pg jz cs sf) 13 (0, l0 :: .val (.int x) :: L, S, H, k, n) Q ↔ Wp (Pg jz cs sf) 13 (1, l0 :: .val (.int x) :: L, (.int x) :: S, H, k, n) Q := gP (d13_0 _ _ _) rfl rfl
theorem d13_1 (jz : Nat) (cs : Int32) (sf : Value) : decode ((Pg jz cs sf).mt 13).code 1 = .ok (.aload_n 0, 1) := (by decide +kernel : decode jdk_43_method_2_code 1 = .ok (.aload_n 0, 1))
theorem w13_1 {jz : Nat} {cs : Int32} {sf : Value} {L : List Slot} {S : List Value} {H : Hp} {k : Nat} {n : Nat} {Q : MRes → Prop}  {v : Value} (hv : isA v = true) : Wp (Pg jz cs sf) 13 (1, .val v :: L, S, H, k, n) Q ↔ Wp (Pg jz cs sf) 13 (2, .val v :: L, v :: S, H, k, n) Q := gP (d13_1 _ _ _) rfl (by show (if isA v = true then _ else _) = _; rw [if_pos hv])
theorem d13_2 (jz : Nat) (cs : Int32) (sf : Value) : decode ((Pg jz cs sf).mt 13).code 2 = .ok (.arraylength, 1) := (by decide +kernel : decode jdk_43_method_2_code 2 = .ok (.arraylength, 1))
theorem w13_2 {jz : Nat} {cs : Int32} {sf : Value} {L : List Slot} {S : List Value} {H : Hp} {k : Nat} {n : Nat} {Q : MRes → Prop} {a : Nat} : Wp (Pg jz cs sf) 13 (2, L, (.ref a) :: S, H, k, n) Q ↔ ∃ v, alen H a = some v ∧ Wp (Pg jz cs sf) 13 (3, L, (.int v) :: S, H, k, n) Q := gLen (d13_2 _ _ _)
theorem d13_3 (jz : Nat) (cs : Int32) (sf : Value) : decode ((Pg jz cs sf).mt 13).code 3 = .ok (.invokestatic 9, 3) := (by decide +kernel : decode jdk_43_method_2_code 3 = .ok (.invokestatic 9, 3))
theorem w13_3 {jz : Nat} {cs : Int32} {sf : Value} {L : List Slot} {S : List Value} {H : Hp} {k : Nat} {n : Nat} {Q : MRes → Prop} {a0 : Int32} {a1 : Int32}  (h1 : L.length = 2) (h2 : wt S ≤ 0) (h3 : k + 0 ≤ 0) (h4 : n + 0 ≤ 0) : Wp (Pg jz cs sf) 13 (3, L, (.int a1) :: (.int a0) :: S, H, k, n) Q ↔ Wp (Pg jz cs sf) 14 (0, [.val (.int a0), .val (.int a1)], [], H, 0, 0) fun r => Wp (Pg jz cs sf) 13 (6, L, r.1.toList ++ S, r.2, k + 0, n + 0) Q := gCall (d13_3 _ _ _) rfl rfl (M := 2) (W := 0) (C := 0) (Sl := 0) (c := 0) (s := 0) ⟨rfl, Nat.le_of_ble_eq_true rfl, Nat.le_of_ble_eq_true rfl, rfl, rfl, rfl, rfl⟩ (by show entL [(.int a0), (.int a1)] 2 = _; rw [entL, laid_c1 rfl, laid_c1 rfl, laid_nil]; rfl) h1 h2 h3 h4
theorem d13_6 (jz : Nat) (cs : Int32) (sf : Value) : decode ((Pg jz cs sf).mt 13).code 6 = .ok (.aload_n 0, 1) := (by decide +kernel : decode jdk_43_method_2_code 6 = .ok (.aload_n 0, 1))
theorem w13_6 {jz : Nat} {cs : Int32} {sf : Value} {L : List Slot} {S : List Value} {H : Hp} {k : Nat} {n : Nat} {Q : MRes → Prop}  {v : Value} (hv : isA v = true) : Wp (Pg jz cs sf) 13 (6, .val v :: L, S, H, k, n) Q ↔ Wp (Pg jz cs sf) 13 (7, .val v :: L, v :: S, H, k, n) Q := gP (d13_6 _ _ _) rfl (by show (if isA v = true then _ else _) = _; rw [if_pos hv])
theorem d13_7 (jz : Nat) (cs : Int32) (sf : Value) : decode ((Pg jz cs sf).mt 13).code 7 = .ok (.iload_n 1, 1) := (by decide +kernel : decode jdk_43_method_2_code 7 = .ok (.iload_n 1, 1))
theorem w13_7 {jz : Nat} {cs : Int32} {sf : Value} {L : List Slot} {S : List Value} {H : Hp} {k : Nat} {n : Nat} {Q : MRes → Prop} {l0 : Slot} {x : Int32} : Wp (Pg jz cs sf) 13 (7, l0 :: .val (.int x) :: L, S, H, k, n) Q ↔ Wp (Pg jz cs sf) 13 (8, l0 :: .val (.int x) :: L, (.int x) :: S, H, k, n) Q := gP (d13_7 _ _ _) rfl rfl
theorem d13_8 (jz : Nat) (cs : Int32) (sf : Value) : decode ((Pg jz cs sf).mt 13).code 8 = .ok (.baload, 1) := (by decide +kernel : decode jdk_43_method_2_code 8 = .ok (.baload, 1))
theorem w13_8 {jz : Nat} {cs : Int32} {sf : Value} {L : List Slot} {S : List Value} {H : Hp} {k : Nat} {n : Nat} {Q : MRes → Prop} {a : Nat} {x : Int32} : Wp (Pg jz cs sf) 13 (8, L, (.int x) :: (.ref a) :: S, H, k, n) Q ↔ ∃ v, ldA .baload H a x = some v ∧ Wp (Pg jz cs sf) 13 (9, L, v :: S, H, k, n) Q := gLdA (by simp) (d13_8 _ _ _)
theorem d13_9 (jz : Nat) (cs : Int32) (sf : Value) : decode ((Pg jz cs sf).mt 13).code 9 = .ok (.sipush 255, 3) := (by decide +kernel : decode jdk_43_method_2_code 9 = .ok (.sipush 255, 3))
theorem w13_9 {jz : Nat} {cs : Int32} {sf : Value} {L : List Slot} {S : List Value} {H : Hp} {k : Nat} {n : Nat} {Q : MRes → Prop} : Wp (Pg jz cs sf) 13 (9, L, S, H, k, n) Q ↔ Wp (Pg jz cs sf) 13 (12, L, (.int 255) :: S, H, k, n) Q := gP (d13_9 _ _ _) rfl rfl
theorem d13_12 (jz : Nat) (cs : Int32) (sf : Value) : decode ((Pg jz cs sf).mt 13).code 12 = .ok (.iand, 1) := (by decide +kernel : decode jdk_43_method_2_code 12 = .ok (.iand, 1))
theorem w13_12 {jz : Nat} {cs : Int32} {sf : Value} {L : List Slot} {S : List Value} {H : Hp} {k : Nat} {n : Nat} {Q : MRes → Prop} {x y : Int32} : Wp (Pg jz cs sf) 13 (12, L, (.int y) :: (.int x) :: S, H, k, n) Q ↔ Wp (Pg jz cs sf) 13 (13, L, (.int (x &&& y)) :: S, H, k, n) Q := gP (d13_12 _ _ _) rfl rfl
theorem d13_13 (jz : Nat) (cs : Int32) (sf : Value) : decode ((Pg jz cs sf).mt 13).code 13 = .ok (.i2c, 1) := (by decide +kernel : decode jdk_43_method_2_code 13 = .ok (.i2c, 1))
theorem w13_13 {jz : Nat} {cs : Int32} {sf : Value} {L : List Slot} {S : List Value} {H : Hp} {k : Nat} {n : Nat} {Q : MRes → Prop} {x : Int32} : Wp (Pg jz cs sf) 13 (13, L, (.int x) :: S, H, k, n) Q ↔ Wp (Pg jz cs sf) 13 (14, L, (.int x.toUInt32.toUInt16.toUInt32.toInt32) :: S, H, k, n) Q := gP (d13_13 _ _ _) rfl rfl
theorem d13_14 (jz : Nat) (cs : Int32) (sf : Value) : decode ((Pg jz cs sf).mt 13).code 14 = .ok (.ireturn, 1) := (by decide +kernel : decode jdk_43_method_2_code 14 = .ok (.ireturn, 1))
theorem w13_14 {jz : Nat} {cs : Int32} {sf : Value} {L : List Slot} {S : List Value} {H : Hp} {k : Nat} {n : Nat} {Q : MRes → Prop} {x : Int32} (h1 : k ≤ 0) (h2 : n ≤ 0) : Wp (Pg jz cs sf) 13 (14, L, (.int x) :: S, H, k, n) Q ↔ Q (some (.int (x.toUInt32.toUInt16.toUInt32.toInt32)), H) := gRet (d13_14 _ _ _) rfl rfl rfl rfl h1 h2
theorem d14_0 (jz : Nat) (cs : Int32) (sf : Value) : decode ((Pg jz cs sf).mt 14).code 0 = .ok (.iload_n 0, 1) := (by decide +kernel : decode jdk_42_method_155_code 0 = .ok (.iload_n 0, 1))
theorem w14_0 {jz : Nat} {cs : Int32} {sf : Value} {L : List Slot} {S : List Value} {H : Hp} {k : Nat} {n : Nat} {Q : MRes → Prop}  {x : Int32} : Wp (Pg jz cs sf) 14 (0, .val (.int x) :: L, S, H, k, n) Q ↔ Wp (Pg jz cs sf) 14 (1, .val (.int x) :: L, (.int x) :: S, H, k, n) Q := gP (d14_0 _ _ _) rfl rfl
theorem d14_1 (jz : Nat) (cs : Int32) (sf : Value) : decode ((Pg jz cs sf).mt 14).code 1 = .ok (.iload_n 1, 1) := (by decide +kernel : decode jdk_42_method_155_code 1 = .ok (.iload_n 1, 1))
theorem w14_1 {jz : Nat} {cs : Int32} {sf : Value} {L : List Slot} {S : List Value} {H : Hp} {k : Nat} {n : Nat} {Q : MRes → Prop} {l0 : Slot} {x : Int32} : Wp (Pg jz cs sf) 14 (1, l0 :: .val (.int x) :: L, S, H, k, n) Q ↔ Wp (Pg jz cs sf) 14 (2, l0 :: .val (.int x) :: L, (.int x) :: S, H, k, n) Q := gP (d14_1 _ _ _) rfl rfl
theorem d14_2 (jz : Nat) (cs : Int32) (sf : Value) : decode ((Pg jz cs sf).mt 14).code 2 = .ok (.getstatic 1053, 3) := (by decide +kernel : decode jdk_42_method_155_code 2 = .ok (.getstatic 1053, 3))
theorem w14_2 {jz : Nat} {cs : Int32} {sf : Value} {L : List Slot} {S : List Value} {H : Hp} {k : Nat} {n : Nat} {Q : MRes → Prop} : Wp (Pg jz cs sf) 14 (2, L, S, H, k, n) Q ↔ Wp (Pg jz cs sf) 14 (5, L, (sf) :: S, H, k, n) Q := gH (d14_2 _ _ _) rfl rfl
theorem d14_5 (jz : Nat) (cs : Int32) (sf : Value) : decode ((Pg jz cs sf).mt 14).code 5 = .ok (.invokestatic 1059, 3) := (by decide +kernel : decode jdk_42_method_155_code 5 = .ok (.invokestatic 1059, 3))
theorem w14_5 {jz : Nat} {cs : Int32} {sf : Value} {L : List Slot} {S : List Value} {H : Hp} {k : Nat} {n : Nat} {Q : MRes → Prop} {a0 : Int32} {a1 : Int32} {a2 : Value}  (h_a2 : cat a2 = 1) (h1 : L.length = 2) (h2 : wt S ≤ 0) (h3 : k + 0 ≤ 0) (h4 : n + 0 ≤ 0) : Wp (Pg jz cs sf) 14 (5, L, a2 :: (.int a1) :: (.int a0) :: S, H, k, n) Q ↔ Wp (Pg jz cs sf) 15 (0, [.val (.int a0), .val (.int a1), .val a2], [], H, 0, 0) fun r => Wp (Pg jz cs sf) 14 (8, L, r.1.toList ++ S, r.2, k + 0, n + 0) Q := gCall (d14_5 _ _ _) rfl rfl (M := 2) (W := 0) (C := 0) (Sl := 0) (c := 0) (s := 0) ⟨rfl, Nat.le_of_ble_eq_true rfl, Nat.le_of_ble_eq_true rfl, rfl, rfl, rfl, rfl⟩ (by show entL [(.int a0), (.int a1), a2] 3 = _; rw [entL, laid_c1 rfl, laid_c1 rfl, laid_c1 h_a2, laid_nil]; rfl) h1 h2 h3 h4
theorem d14_8 (jz : Nat) (cs : Int32) (sf : Value) : decode ((Pg jz cs sf).mt 14).code 8 = .ok (.pop, 1) := (by decide +kernel : decode jdk_42_method_155_code 8 = .ok (.pop, 1))
theorem w14_8 {jz : Nat} {cs : Int32} {sf : Value} {L : List Slot} {S : List Value} {H : Hp} {k : Nat} {n : Nat} {Q : MRes → Prop} {v : Value} (hv : cat v = 1) : Wp (Pg jz cs sf) 14 (8, L, v :: S, H, k, n) Q ↔ Wp (Pg jz cs sf) 14 (9, L, S, H, k, n) Q := gP (d14_8 _ _ _) rfl (by simp only [plainI, fpop, if_pos hv, keepL])
theorem d14_9 (jz : Nat) (cs : Int32) (sf : Value) : decode ((Pg jz cs sf).mt 14).code 9 = .ok (.return_, 1) := (by decide +kernel : decode jdk_42_method_155_code 9 = .ok (.return_, 1))
theorem w14_9 {jz : Nat} {cs : Int32} {sf : Value} {L : List Slot} {H : Hp} {k : Nat} {n : Nat} {Q : MRes → Prop} (h1 : k ≤ 0) (h2 : n ≤ 0) : Wp (Pg jz cs sf) 14 (9, L, [], H, k, n) Q ↔ Q (none, H) := gRet (d14_9 _ _ _) rfl rfl rfl rfl h1 h2
theorem d15_0 (jz : Nat) (cs : Int32) (sf : Value) : decode ((Pg jz cs sf).mt 15).code 0 = .ok (.iload_n 0, 1) := (by decide +kernel : decode jdk_41_method_11_code 0 = .ok (.iload_n 0, 1))
theorem w15_0 {jz : Nat} {cs : Int32} {sf : Value} {L : List Slot} {S : List Value} {H : Hp} {k : Nat} {n : Nat} {Q : MRes → Prop}  {x : Int32} : Wp (Pg jz cs sf) 15 (0, .val (.int x) :: L, S, H, k, n) Q ↔ Wp (Pg jz cs sf) 15 (1, .val (.int x) :: L, (.int x) :: S, H, k, n) Q := gP (d15_0 _ _ _) rfl rfl
theorem d15_1 (jz : Nat) (cs : Int32) (sf : Value) : decode ((Pg jz cs sf).mt 15).code 1 = .ok (.ifCond .lt 8, 3) := (by decide +kernel : decode jdk_41_method_11_code 1 = .ok (.ifCond .lt 8, 3))
theorem w15_1 {jz : Nat} {cs : Int32} {sf : Value} {L : List Slot} {S : List Value} {H : Hp} {k : Nat} {n : Nat} {Q : MRes → Prop} {x : Int32} : Wp (Pg jz cs sf) 15 (1, L, (.int x) :: S, H, k, n) Q ↔ if x < 0 then Wp (Pg jz cs sf) 15 (9, L, S, H, k, n) Q else Wp (Pg jz cs sf) 15 (4, L, S, H, k, n) Q := gIf (d15_1 _ _ _) (by decide) (by decide) (c_lt x)
theorem d15_4 (jz : Nat) (cs : Int32) (sf : Value) : decode ((Pg jz cs sf).mt 15).code 4 = .ok (.iload_n 0, 1) := (by decide +kernel : decode jdk_41_method_11_code 4 = .ok (.iload_n 0, 1))
theorem w15_4 {jz : Nat} {cs : Int32} {sf : Value} {L : List Slot} {S : List Value} {H : Hp} {k : Nat} {n : Nat} {Q : MRes → Prop}  {x : Int32} : Wp (Pg jz cs sf) 15 (4, .val (.int x) :: L, S, H, k, n) Q ↔ Wp (Pg jz cs sf) 15 (5, .val (.int x) :: L, (.int x) :: S, H, k, n) Q := gP (d15_4 _ _ _) rfl rfl
theorem d15_5 (jz : Nat) (cs : Int32) (sf : Value) : decode ((Pg jz cs sf).mt 15).code 5 = .ok (.iload_n 1, 1) := (by decide +kernel : decode jdk_41_method_11_code 5 = .ok (.iload_n 1, 1))
theorem w15_5 {jz : Nat} {cs : Int32} {sf : Value} {L : List Slot} {S : List Value} {H : Hp} {k : Nat} {n : Nat} {Q : MRes → Prop} {l0 : Slot} {x : Int32} : Wp (Pg jz cs sf) 15 (5, l0 :: .val (.int x) :: L, S, H, k, n) Q ↔ Wp (Pg jz cs sf) 15 (6, l0 :: .val (.int x) :: L, (.int x) :: S, H, k, n) Q := gP (d15_5 _ _ _) rfl rfl
theorem d15_6 (jz : Nat) (cs : Int32) (sf : Value) : decode ((Pg jz cs sf).mt 15).code 6 = .ok (.if_icmp .lt 10, 3) := (by decide +kernel : decode jdk_41_method_11_code 6 = .ok (.if_icmp .lt 10, 3))
theorem w15_6 {jz : Nat} {cs : Int32} {sf : Value} {L : List Slot} {S : List Value} {H : Hp} {k : Nat} {n : Nat} {Q : MRes → Prop} {x y : Int32} : Wp (Pg jz cs sf) 15 (6, L, (.int y) :: (.int x) :: S, H, k, n) Q ↔ if x < y then Wp (Pg jz cs sf) 15 (16, L, S, H, k, n) Q else Wp (Pg jz cs sf) 15 (9, L, S, H, k, n) Q := gIcmp (d15_6 _ _ _) (by decide) (by decide) (i_lt x y)
theorem d15_9 (jz : Nat) (cs : Int32) (sf : Value) : decode ((Pg jz cs sf).mt 15).code 9 = .ok (.aload_n 2, 1) := (by decide +kernel : decode jdk_41_method_11_code 9 = .ok (.aload_n 2, 1))
theorem w15_9 {jz : Nat} {cs : Int32} {sf : Value} {L : List Slot} {S : List Value} {H : Hp} {k : Nat} {n : Nat} {Q : MRes → Prop} {l0 l1 : Slot} {v : Value} (hv : isA v = true) : Wp (Pg jz cs sf) 15 (9, l0 :: l1 :: .val v :: L, S, H, k, n) Q ↔ Wp (Pg jz cs sf) 15 (10, l0 :: l1 :: .val v :: L, v :: S, H, k, n) Q := gP (d15_9 _ _ _) rfl (by show (if isA v = true then _ else _) = _; rw [if_pos hv])
theorem d15_10 (jz : Nat) (cs : Int32) (sf : Value) : decode ((Pg jz cs sf).mt 15).code 10 = .ok (.iload_n 0, 1) := (by decide +kernel : decode jdk_41_method_11_code 10 = .ok (.iload_n 0, 1))
theorem w15_10 {jz : Nat} {cs : Int32} {sf : Value} {L : List Slot} {S : List Value} {H : Hp} {k : Nat} {n : Nat} {Q : MRes → Prop}  {x : Int32} : Wp (Pg jz cs sf) 15 (10, .val (.int x) :: L, S, H, k, n) Q ↔ Wp (Pg jz cs sf) 15 (11, .val (.int x) :: L, (.int x) :: S, H, k, n) Q := gP (d15_10 _ _ _) rfl rfl
theorem d15_11 (jz : Nat) (cs : Int32) (sf : Value) : decode ((Pg jz cs sf).mt 15).code 11 = .ok (.iload_n 1, 1) := (by decide +kernel : decode jdk_41_method_11_code 11 = .ok (.iload_n 1, 1))
theorem w15_11 {jz : Nat} {cs : Int32} {sf : Value} {L : List Slot} {S : List Value} {H : Hp} {k : Nat} {n : Nat} {Q : MRes → Prop} {l0 : Slot} {x : Int32} : Wp (Pg jz cs sf) 15 (11, l0 :: .val (.int x) :: L, S, H, k, n) Q ↔ Wp (Pg jz cs sf) 15 (12, l0 :: .val (.int x) :: L, (.int x) :: S, H, k, n) Q := gP (d15_11 _ _ _) rfl rfl
theorem d15_16 (jz : Nat) (cs : Int32) (sf : Value) : decode ((Pg jz cs sf).mt 15).code 16 = .ok (.iload_n 0, 1) := (by decide +kernel : decode jdk_41_method_11_code 16 = .ok (.iload_n 0, 1))
theorem w15_16 {jz : Nat} {cs : Int32} {sf : Value} {L : List Slot} {S : List Value} {H : Hp} {k : Nat} {n : Nat} {Q : MRes → Prop}  {x : Int32} : Wp (Pg jz cs sf) 15 (16, .val (.int x) :: L, S, H, k, n) Q ↔ Wp (Pg jz cs sf) 15 (17, .val (.int x) :: L, (.int x) :: S, H, k, n) Q := gP (d15_16 _ _ _) rfl rfl
theorem d15_17 (jz : Nat) (cs : Int32) (sf : Value) : decode ((Pg jz cs sf).mt 15).code 17 = .ok (.ireturn, 1) := (by decide +kernel : decode jdk_41_method_11_code 17 = .ok (.ireturn, 1))
theorem w15_17 {jz : Nat} {cs : Int32} {sf : Value} {L : List Slot} {S : List Value} {H : Hp} {k : Nat} {n : Nat} {Q : MRes → Prop} {x : Int32} (h1 : k ≤ 0) (h2 : n ≤ 0) : Wp (Pg jz cs sf) 15 (17, L, (.int x) :: S, H, k, n) Q ↔ Q (some (.int (x)), H) := gRet (d15_17 _ _ _) rfl rfl rfl rfl h1 h2
theorem d16_0 (jz : Nat) (cs : Int32) (sf : Value) : decode ((Pg jz cs sf).mt 16).code 0 = .ok (.iload_n 2, 1) := (by decide +kernel : decode jdk_52_method_14_code 0 = .ok (.iload_n 2, 1))
theorem w16_0 {jz : Nat} {cs : Int32} {sf : Value} {L : List Slot} {S : List Value} {H : Hp} {k : Nat} {n : Nat} {Q : MRes → Prop} {l0 l1 : Slot} {x : Int32} : Wp (Pg jz cs sf) 16 (0, l0 :: l1 :: .val (.int x) :: L, S, H, k, n) Q ↔ Wp (Pg jz cs sf) 16 (1, l0 :: l1 :: .val (.int x) :: L, (.int x) :: S, H, k, n) Q := gP (d16_0 _ _ _) rfl rfl
theorem d16_1 (jz : Nat) (cs : Int32) (sf : Value) : decode ((Pg jz cs sf).mt 16).code 1 = .ok (.invokestatic 107, 3) := (by decide +kernel : decode jdk_52_method_14_code 1 = .ok (.invokestatic 107, 3))
theorem w16_1 {jz : Nat} {cs : Int32} {sf : Value} {L : List Slot} {S : List Value} {H : Hp} {k : Nat} {n : Nat} {Q : MRes → Prop} {a0 : Int32}  (h1 : L.length = 5) (h2 : wt S ≤ 0) (h3 : k + 1 ≤ 1) (h4 : n + 6 ≤ 6) : Wp (Pg jz cs sf) 16 (1, L, (.int a0) :: S, H, k, n) Q ↔ Wp (Pg jz cs sf) 17 (0, [.val (.int a0)], [], H, 0, 0) fun r => Wp (Pg jz cs sf) 16 (4, L, r.1.toList ++ S, r.2, k + 1, n + 6) Q := gCall (d16_1 _ _ _) rfl rfl (M := 5) (W := 0) (C := 1) (Sl := 6) (c := 1) (s := 6) ⟨rfl, Nat.le_of_ble_eq_true rfl, Nat.le_of_ble_eq_true rfl, rfl, rfl, rfl, rfl⟩ (by show entL [(.int a0)] 1 = _; rw [entL, laid_c1 rfl, laid_nil]; rfl) h1 h2 h3 h4
theorem d16_4 (jz : Nat) (cs : Int32) (sf : Value) : decode ((Pg jz cs sf).mt 16).code 4 = .ok (.astore_n 3, 1) := (by decide +kernel : decode jdk_52_method_14_code 4 = .ok (.astore_n 3, 1))
theorem w16_4 {jz : Nat} {cs : Int32} {sf : Value} {L : List Slot} {S : List Value} {H : Hp} {k : Nat} {n : Nat} {Q : MRes → Prop} {l0 l1 l2 : Slot} {o : Slot} {v : Value} (ho : s1 o = true) (hv : isA v = true) : Wp (Pg jz cs sf) 16 (4, l0 :: l1 :: l2 :: o :: L, v :: S, H, k, n) Q ↔ Wp (Pg jz cs sf) 16 (5, l0 :: l1 :: l2 :: .val v :: L, S, H, k, n) Q := gP (d16_4 _ _ _) rfl (st1_eq (o := o) rfl ho hv)
theorem d16_5 (jz : Nat) (cs : Int32) (sf : Value) : decode ((Pg jz cs sf).mt 16).code 5 = .ok (.iconst 0, 1) := (by decide +kernel : decode jdk_52_method_14_code 5 = .ok (.iconst 0, 1))
theorem w16_5 {jz : Nat} {cs : Int32} {sf : Value} {L : List Slot} {S : List Value} {H : Hp} {k : Nat} {n : Nat} {Q : MRes → Prop} : Wp (Pg jz cs sf) 16 (5, L, S, H, k, n) Q ↔ Wp (Pg jz cs sf) 16 (6, L, (.int 0) :: S, H, k, n) Q := gP (d16_5 _ _ _) rfl rfl
theorem d16_6 (jz : Nat) (cs : Int32) (sf : Value) : decode ((Pg jz cs sf).mt 16).code 6 = .ok (.istore 4, 2) := (by decide +kernel : decode jdk_52_method_14_code 6 = .ok (.istore 4, 2))
theorem w16_6 {jz : Nat} {cs : Int32} {sf : Value} {L : List Slot} {S : List Value} {H : Hp} {k : Nat} {n : Nat} {Q : MRes → Prop} {l0 l1 l2 l3 : Slot} {o : Slot} {x : Int32} (ho : s1 o = true) : Wp (Pg jz cs sf) 16 (6, l0 :: l1 :: l2 :: l3 :: o :: L, (.int x) :: S, H, k, n) Q ↔ Wp (Pg jz cs sf) 16 (8, l0 :: l1 :: l2 :: l3 :: .val (.int x) :: L, S, H, k, n) Q := gP (d16_6 _ _ _) rfl (st1_eq (o := o) rfl ho rfl)
theorem d16_8 (jz : Nat) (cs : Int32) (sf : Value) : decode ((Pg jz cs sf).mt 16).code 8 = .ok (.iload 4, 2) := (by decide +kernel : decode jdk_52_method_14_code 8 = .ok (.iload 4, 2))
theorem w16_8 {jz : Nat} {cs : Int32} {sf : Value} {L : List Slot} {S : List Value} {H : Hp} {k : Nat} {n : Nat} {Q : MRes → Prop} {l0 l1 l2 l3 : Slot} {x : Int32} : Wp (Pg jz cs sf) 16 (8, l0 :: l1 :: l2 :: l3 :: .val (.int x) :: L, S, H, k, n) Q ↔ Wp (Pg jz cs sf) 16 (10, l0 :: l1 :: l2 :: l3 :: .val (.int x) :: L, (.int x) :: S, H, k, n) Q := gP (d16_8 _ _ _) rfl rfl
theorem d16_10 (jz : Nat) (cs : Int32) (sf : Value) : decode ((Pg jz cs sf).mt 16).code 10 = .ok (.iload_n 2, 1) := (by decide +kernel : decode jdk_52_method_14_code 10 = .ok (.iload_n 2, 1))
theorem w16_10 {jz : Nat} {cs : Int32} {sf : Value} {L : List Slot} {S : List Value} {H : Hp} {k : Nat} {n : Nat} {Q : MRes → Prop} {l0 l1 : Slot} {x : Int32} : Wp (Pg jz cs sf) 16 (10, l0 :: l1 :: .val (.int x) :: L, S, H, k, n) Q ↔ Wp (Pg jz cs sf) 16 (11, l0 :: l1 :: .val (.int x) :: L, (.int x) :: S, H, k, n) Q := gP (d16_10 _ _ _) rfl rfl
theorem d16_11 (jz : Nat) (cs : Int32) (sf : Value) : decode ((Pg jz cs sf).mt 16).code 11 = .ok (.if_icmp .ge 21, 3) := (by decide +kernel : decode jdk_52_method_14_code 11 = .ok (.if_icmp .ge 21, 3))
theorem w16_11 {jz : Nat} {cs : Int32} {sf : Value} {L : List Slot} {S : List Value} {H : Hp} {k : Nat} {n : Nat} {Q : MRes → Prop} {x y : Int32} : Wp (Pg jz cs sf) 16 (11, L, (.int y) :: (.int x) :: S, H, k, n) Q ↔ if y ≤ x then Wp (Pg jz cs sf) 16 (32, L, S, H, k, n) Q else Wp (Pg jz cs sf) 16 (14, L, S, H, k, n) Q := gIcmp (d16_11 _ _ _) (by decide) (by decide) (i_ge x y)
theorem d16_14 (jz : Nat) (cs : Int32) (sf : Value) : decode ((Pg jz cs sf).mt 16).code 14 = .ok (.aload_n 3, 1) := (by decide +kernel : decode jdk_52_method_14_code 14 = .ok (.aload_n 3, 1))
theorem w16_14 {jz : Nat} {cs : Int32} {sf : Value} {L : List Slot} {S : List Value} {H : Hp} {k : Nat} {n : Nat} {Q : MRes → Prop} {l0 l1 l2 : Slot} {v : Value} (hv : isA v = true) : Wp (Pg jz cs sf) 16 (14, l0 :: l1 :: l2 :: .val v :: L, S, H, k, n) Q ↔ Wp (Pg jz cs sf) 16 (15, l0 :: l1 :: l2 :: .val v :: L, v :: S, H, k, n) Q := gP (d16_14 _ _ _) rfl (by show (if isA v = true then _ else _) = _; rw [if_pos hv])
theorem d16_15 (jz : Nat) (cs : Int32) (sf : Value) : decode ((Pg jz cs sf).mt 16).code 15 = .ok (.iload 4, 2) := (by decide +kernel : decode jdk_52_method_14_code 15 = .ok (.iload 4, 2))
theorem w16_15 {jz : Nat} {cs : Int32} {sf : Value} {L : List Slot} {S : List Value} {H : Hp} {k : Nat} {n : Nat} {Q : MRes → Prop} {l0 l1 l2 l3 : Slot} {x : Int32} : Wp (Pg jz cs sf) 16 (15, l0 :: l1 :: l2 :: l3 :: .val (.int x) :: L, S, H, k, n) Q ↔ Wp (Pg jz cs sf) 16 (17, l0 :: l1 :: l2 :: l3 :: .val (.int x) :: L, (.int x) :: S, H, k, n) Q := gP (d16_15 _ _ _) rfl rfl
theorem d16_17 (jz : Nat) (cs : Int32) (sf : Value) : decode ((Pg jz cs sf).mt 16).code 17 = .ok (.aload_n 0, 1) := (by decide +kernel : decode jdk_52_method_14_code 17 = .ok (.aload_n 0, 1))
theorem w16_17 {jz : Nat} {cs : Int32} {sf : Value} {L : List Slot} {S : List Value} {H : Hp} {k : Nat} {n : Nat} {Q : MRes → Prop}  {v : Value} (hv : isA v = true) : Wp (Pg jz cs sf) 16 (17, .val v :: L, S, H, k, n) Q ↔ Wp (Pg jz cs sf) 16 (18, .val v :: L, v :: S, H, k, n) Q := gP (d16_17 _ _ _) rfl (by show (if isA v = true then _ else _) = _; rw [if_pos hv])
theorem d16_18 (jz : Nat) (cs : Int32) (sf : Value) : decode ((Pg jz cs sf).mt 16).code 18 = .ok (.iload_n 1, 1) := (by decide +kernel : decode jdk_52_method_14_code 18 = .ok (.iload_n 1, 1))
theorem w16_18 {jz : Nat} {cs : Int32} {sf : Value} {L : List Slot} {S : List Value} {H : Hp} {k : Nat} {n : Nat} {Q : MRes → Prop} {l0 : Slot} {x : Int32} : Wp (Pg jz cs sf) 16 (18, l0 :: .val (.int x) :: L, S, H, k, n) Q ↔ Wp (Pg jz cs sf) 16 (19, l0 :: .val (.int x) :: L, (.int x) :: S, H, k, n) Q := gP (d16_18 _ _ _) rfl rfl
theorem d16_19 (jz : Nat) (cs : Int32) (sf : Value) : decode ((Pg jz cs sf).mt 16).code 19 = .ok (.caload, 1) := (by decide +kernel : decode jdk_52_method_14_code 19 = .ok (.caload, 1))
theorem w16_19 {jz : Nat} {cs : Int32} {sf : Value} {L : List Slot} {S : List Value} {H : Hp} {k : Nat} {n : Nat} {Q : MRes → Prop} {a : Nat} {x : Int32} : Wp (Pg jz cs sf) 16 (19, L, (.int x) :: (.ref a) :: S, H, k, n) Q ↔ ∃ v, ldA .caload H a x = some v ∧ Wp (Pg jz cs sf) 16 (20, L, v :: S, H, k, n) Q := gLdA (by simp) (d16_19 _ _ _)
theorem d16_20 (jz : Nat) (cs : Int32) (sf : Value) : decode ((Pg jz cs sf).mt 16).code 20 = .ok (.invokestatic 111, 3) := (by decide +kernel : decode jdk_52_method_14_code 20 = .ok (.invokestatic 111, 3))
theorem w16_20 {jz : Nat} {cs : Int32} {sf : Value} {L : List Slot} {S : List Value} {H : Hp} {k : Nat} {n : Nat} {Q : MRes → Prop} {a0 : Value} {a1 : Int32} {a2 : Int32}  (h_a0 : cat a0 = 1) (h1 : L.length = 5) (h2 : wt S ≤ 0) (h3 : k + 0 ≤ 1) (h4 : n + 0 ≤ 6) : Wp (Pg jz cs sf) 16 (20, L, (.int a2) :: (.int a1) :: a0 :: S, H, k, n) Q ↔ Wp (Pg jz cs sf) 19 (0, [.val a0, .val (.int a1), .val (.int a2)], [], H, 0, 0) fun r => Wp (Pg jz cs sf) 16 (23, L, r.1.toList ++ S, r.2, k + 0, n + 0) Q := gCall (d16_20 _ _ _) rfl rfl (M := 5) (W := 0) (C := 1) (Sl := 6) (c := 0) (s := 0) ⟨rfl, Nat.le_of_ble_eq_true rfl, Nat.le_of_ble_eq_true rfl, rfl, rfl, rfl, rfl⟩ (by show entL [a0, (.int a1), (.int a2)] 3 = _; rw [entL, laid_c1 h_a0, laid_c1 rfl, laid_c1 rfl, laid_nil]; rfl) h1 h2 h3 h4
theorem d16_23 (jz : Nat) (cs : Int32) (sf : Value) : decode ((Pg jz cs sf).mt 16).code 23 = .ok (.iinc 1 1, 3) := (by decide +kernel : decode jdk_52_method_14_code 23 = .ok (.iinc 1 1, 3))
theorem w16_23 {jz : Nat} {cs : Int32} {sf : Value} {L : List Slot} {S : List Value} {H : Hp} {k : Nat} {n : Nat} {Q : MRes → Prop} {l0 : Slot} {x : Int32} : Wp (Pg jz cs sf) 16 (23, l0 :: .val (.int x) :: L, S, H, k, n) Q ↔ Wp (Pg jz cs sf) 16 (26, l0 :: .val (.int (x + 1)) :: L, S, H, k, n) Q := gP (d16_23 _ _ _) rfl rfl
theorem d16_26 (jz : Nat) (cs : Int32) (sf : Value) : decode ((Pg jz cs sf).mt 16).code 26 = .ok (.iinc 4 1, 3) := (by decide +kernel : decode jdk_52_method_14_code 26 = .ok (.iinc 4 1, 3))
theorem w16_26 {jz : Nat} {cs : Int32} {sf : Value} {L : List Slot} {S : List Value} {H : Hp} {k : Nat} {n : Nat} {Q : MRes → Prop} {l0 l1 l2 l3 : Slot} {x : Int32} : Wp (Pg jz cs sf) 16 (26, l0 :: l1 :: l2 :: l3 :: .val (.int x) :: L, S, H, k, n) Q ↔ Wp (Pg jz cs sf) 16 (29, l0 :: l1 :: l2 :: l3 :: .val (.int (x + 1)) :: L, S, H, k, n) Q := gP (d16_26 _ _ _) rfl rfl
theorem d16_29 (jz : Nat) (cs : Int32) (sf : Value) : decode ((Pg jz cs sf).mt 16).code 29 = .ok (.goto (-21), 3) := (by decide +kernel : decode jdk_52_method_14_code 29 = .ok (.goto (-21), 3))
theorem w16_29 {jz : Nat} {cs : Int32} {sf : Value} {L : List Slot} {S : List Value} {H : Hp} {k : Nat} {n : Nat} {Q : MRes → Prop} : Wp (Pg jz cs sf) 16 (29, L, S, H, k, n) Q ↔ Wp (Pg jz cs sf) 16 (8, L, S, H, k, n) Q := gGoto (d16_29 _ _ _) (by decide) (by decide)
theorem d16_32 (jz : Nat) (cs : Int32) (sf : Value) : decode ((Pg jz cs sf).mt 16).code 32 = .ok (.aload_n 3, 1) := (by decide +kernel : decode jdk_52_method_14_code 32 = .ok (.aload_n 3, 1))
theorem w16_32 {jz : Nat} {cs : Int32} {sf : Value} {L : List Slot} {S : List Value} {H : Hp} {k : Nat} {n : Nat} {Q : MRes → Prop} {l0 l1 l2 : Slot} {v : Value} (hv : isA v = true) : Wp (Pg jz cs sf) 16 (32, l0 :: l1 :: l2 :: .val v :: L, S, H, k, n) Q ↔ Wp (Pg jz cs sf) 16 (33, l0 :: l1 :: l2 :: .val v :: L, v :: S, H, k, n) Q := gP (d16_32 _ _ _) rfl (by show (if isA v = true then _ else _) = _; rw [if_pos hv])
theorem d16_33 (jz : Nat) (cs : Int32) (sf : Value) : decode ((Pg jz cs sf).mt 16).code 33 = .ok (.areturn, 1) := (by decide +kernel : decode jdk_52_method_14_code 33 = .ok (.areturn, 1))
theorem w16_33 {jz : Nat} {cs : Int32} {sf : Value} {L : List Slot} {S : List Value} {H : Hp} {k : Nat} {n : Nat} {Q : MRes → Prop} {a : Nat} (h1 : k ≤ 1) (h2 : n ≤ 6) : Wp (Pg jz cs sf) 16 (33, L, (.ref a) :: S, H, k, n) Q ↔ Q (some (.ref a), H) := gRet (d16_33 _ _ _) rfl rfl rfl rfl h1 h2
theorem w16_33n {jz : Nat} {cs : Int32} {sf : Value} {L : List Slot} {S : List Value} {H : Hp} {k : Nat} {n : Nat} {Q : MRes → Prop} (h1 : k ≤ 1) (h2 : n ≤ 6) : Wp (Pg jz cs sf) 16 (33, L, .null :: S, H, k, n) Q ↔ Q (some .null, H) := gRet (d16_33 _ _ _) rfl rfl rfl rfl h1 h2
theorem d17_0 (jz : Nat) (cs : Int32) (sf : Value) : decode ((Pg jz cs sf).mt 17).code 0 = .ok (.iload_n 0, 1) := (by decide +kernel : decode jdk_52_method_2_code 0 = .ok (.iload_n 0, 1))
theorem w17_0 {jz : Nat} {cs : Int32} {sf : Value} {L : List Slot} {S : List Value} {H : Hp} {k : Nat} {n : Nat} {Q : MRes → Prop}  {x : Int32} : Wp (Pg jz cs sf) 17 (0, .val (.int x) :: L, S, H, k, n) Q ↔ Wp (Pg jz cs sf) 17 (1, .val (.int x) :: L, (.int x) :: S, H, k, n) Q := gP (d17_0 _ _ _) rfl rfl
theorem d17_1 (jz : Nat) (cs : Int32) (sf : Value) : decode ((Pg jz cs sf).mt 17).code 1 = .ok (.invokestatic 11, 3) := (by decide +kernel : decode jdk_52_method_2_code 1 = .ok (.invokestatic 11, 3))
theorem w17_1 {jz : Nat} {cs : Int32} {sf : Value} {L : List Slot} {S : List Value} {H : Hp} {k : Nat} {n : Nat} {Q : MRes → Prop} {a0 : Int32}  (h1 : L.length = 1) (h2 : wt S ≤ 0) (h3 : k + 0 ≤ 1) (h4 : n + 0 ≤ 6) : Wp (Pg jz cs sf) 17 (1, L, (.int a0) :: S, H, k, n) Q ↔ Wp (Pg jz cs sf) 18 (0, [.val (.int a0)], [], H, 0, 0) fun r => Wp (Pg jz cs sf) 17 (4, L, r.1.toList ++ S, r.2, k + 0, n + 0) Q := gCall (d17_1 _ _ _) rfl rfl (M := 1) (W := 0) (C := 1) (Sl := 6) (c := 0) (s := 0) ⟨rfl, Nat.le_of_ble_eq_true rfl, Nat.le_of_ble_eq_true rfl, rfl, rfl, rfl, rfl⟩ (by show entL [(.int a0)] 1 = _; rw [entL, laid_c1 rfl, laid_nil]; rfl) h1 h2 h3 h4
theorem d17_4 (jz : Nat) (cs : Int32) (sf : Value) : decode ((Pg jz cs sf).mt 17).code 4 = .ok (.newarray .byte, 2) := (by decide +kernel : decode jdk_52_method_2_code 4 = .ok (.newarray .byte, 2))
theorem w17_4 {jz : Nat} {cs : Int32} {sf : Value} {L : List Slot} {S : List Value} {H : Hp} {k : Nat} {n : Nat} {Q : MRes → Prop} {x : Int32} (h1 : k + 1 ≤ 1) (h2 : n + 6 ≤ 6) : Wp (Pg jz cs sf) 17 (4, L, (.int x) :: S, H, k, n) Q ↔ (¬ x < 0 ∧ x.toNatClampNeg ≤ 6) ∧ Wp (Pg jz cs sf) 17 (6, L, (.ref H.length) :: S, H ++ [(.inl .byte, List.replicate x.toNatClampNeg (.int 0))], k + 1, n + 6) Q := gNewA (d17_4 _ _ _) rfl (List.mem_of_getElem? (i := 1) rfl) rfl (by decide) rfl rfl h1 h2
theorem d17_6 (jz : Nat) (cs : Int32) (sf : Value) : decode ((Pg jz cs sf).mt 17).code 6 = .ok (.areturn, 1) := (by decide +kernel : decode jdk_52_method_2_code 6 = .ok (.areturn, 1))
theorem w17_6 {jz : Nat} {cs : Int32} {sf : Value} {L : List Slot} {S : List Value} {H : Hp} {k : Nat} {n : Nat} {Q : MRes → Prop} {a : Nat} (h1 : k ≤ 1) (h2 : n ≤ 6) : Wp (Pg jz cs sf) 17 (6, L, (.ref a) :: S, H, k, n) Q ↔ Q (some (.ref a), H) := gRet (d17_6 _ _ _) rfl rfl rfl rfl h1 h2
theorem w17_6n {jz : Nat} {cs : Int32} {sf : Value} {L : List Slot} {S : List Value} {H : Hp} {k : Nat} {n : Nat} {Q : MRes → Prop} (h1 : k ≤ 1) (h2 : n ≤ 6) : Wp (Pg jz cs sf) 17 (6, L, .null :: S, H, k, n) Q ↔ Q (some .null, H) := gRet (d17_6 _ _ _) rfl rfl rfl rfl h1 h2
theorem d18_0 (jz : Nat) (cs : Int32) (sf : Value) : decode ((Pg jz cs sf).mt 18).code 0 = .ok (.iload_n 0, 1) := (by decide +kernel : decode jdk_52_method_3_code 0 = .ok (.iload_n 0, 1))
theorem w18_0 {jz : Nat} {cs : Int32} {sf : Value} {L : List Slot} {S : List Value} {H : Hp} {k : Nat} {n : Nat} {Q : MRes → Prop}  {x : Int32} : Wp (Pg jz cs sf) 18 (0, .val (.int x) :: L, S, H, k, n) Q ↔ Wp (Pg jz cs sf) 18 (1, .val (.int x) :: L, (.int x) :: S, H, k, n) Q := gP (d18_0 _ _ _) rfl rfl
theorem d18_1 (jz : Nat) (cs : Int32) (sf : Value) : decode ((Pg jz cs sf).mt 18).code 1 = .ok (.ifCond .ge 11, 3) := (by decide +kernel : decode jdk_52_method_3_code 1 = .ok (.ifCond .ge 11, 3))
theorem w18_1 {jz : Nat} {cs : Int32} {sf : Value} {L : List Slot} {S : List Value} {H : Hp} {k : Nat} {n : Nat} {Q : MRes → Prop} {x : Int32} : Wp (Pg jz cs sf) 18 (1, L, (.int x) :: S, H, k, n) Q ↔ if 0 ≤ x then Wp (Pg jz cs sf) 18 (12, L, S, H, k, n) Q else Wp (Pg jz cs sf) 18 (4, L, S, H, k, n) Q := gIf (d18_1 _ _ _) (by decide) (by decide) (c_ge x)
theorem d18_12 (jz : Nat) (cs : Int32) (sf : Value) : decode ((Pg jz cs sf).mt 18).code 12 = .ok (.iload_n 0, 1) := (by decide +kernel : decode jdk_52_method_3_code 12 = .ok (.iload_n 0, 1))
theorem w18_12 {jz : Nat} {cs : Int32} {sf : Value} {L : List Slot} {S : List Value} {H : Hp} {k : Nat} {n : Nat} {Q : MRes → Prop}  {x : Int32} : Wp (Pg jz cs sf) 18 (12, .val (.int x) :: L, S, H, k, n) Q ↔ Wp (Pg jz cs sf) 18 (13, .val (.int x) :: L, (.int x) :: S, H, k, n) Q := gP (d18_12 _ _ _) rfl rfl
theorem d18_13 (jz : Nat) (cs : Int32) (sf : Value) : decode ((Pg jz cs sf).mt 18).code 13 = .ok (.ldc 20, 2) := (by decide +kernel : decode jdk_52_method_3_code 13 = .ok (.ldc 20, 2))
theorem w18_13 {jz : Nat} {cs : Int32} {sf : Value} {L : List Slot} {S : List Value} {H : Hp} {k : Nat} {n : Nat} {Q : MRes → Prop} : Wp (Pg jz cs sf) 18 (13, L, S, H, k, n) Q ↔ Wp (Pg jz cs sf) 18 (15, L, (.int 1073741823) :: S, H, k, n) Q := gH (d18_13 _ _ _) rfl rfl
theorem d18_15 (jz : Nat) (cs : Int32) (sf : Value) : decode ((Pg jz cs sf).mt 18).code 15 = .ok (.if_icmp .lt 40, 3) := (by decide +kernel : decode jdk_52_method_3_code 15 = .ok (.if_icmp .lt 40, 3))
theorem w18_15 {jz : Nat} {cs : Int32} {sf : Value} {L : List Slot} {S : List Value} {H : Hp} {k : Nat} {n : Nat} {Q : MRes → Prop} {x y : Int32} : Wp (Pg jz cs sf) 18 (15, L, (.int y) :: (.int x) :: S, H, k, n) Q ↔ if x < y then Wp (Pg jz cs sf) 18 (55, L, S, H, k, n) Q else Wp (Pg jz cs sf) 18 (18, L, S, H, k, n) Q := gIcmp (d18_15 _ _ _) (by decide) (by decide) (i_lt x y)
theorem d18_55 (jz : Nat) (cs : Int32) (sf : Value) : decode ((Pg jz cs sf).mt 18).code 55 = .ok (.iload_n 0, 1) := (by decide +kernel : decode jdk_52_method_3_code 55 = .ok (.iload_n 0, 1))
theorem w18_55 {jz : Nat} {cs : Int32} {sf : Value} {L : List Slot} {S : List Value} {H : Hp} {k : Nat} {n : Nat} {Q : MRes → Prop}  {x : Int32} : Wp (Pg jz cs sf) 18 (55, .val (.int x) :: L, S, H, k, n) Q ↔ Wp (Pg jz cs sf) 18 (56, .val (.int x) :: L, (.int x) :: S, H, k, n) Q := gP (d18_55 _ _ _) rfl rfl
theorem d18_56 (jz : Nat) (cs : Int32) (sf : Value) : decode ((Pg jz cs sf).mt 18).code 56 = .ok (.iconst 1, 1) := (by decide +kernel : decode jdk_52_method_3_code 56 = .ok (.iconst 1, 1))
theorem w18_56 {jz : Nat} {cs : Int32} {sf : Value} {L : List Slot} {S : List Value} {H : Hp} {k : Nat} {n : Nat} {Q : MRes → Prop} : Wp (Pg jz cs sf) 18 (56, L, S, H, k, n) Q ↔ Wp (Pg jz cs sf) 18 (57, L, (.int 1) :: S, H, k, n) Q := gP (d18_56 _ _ _) rfl rfl
theorem d18_57 (jz : Nat) (cs : Int32) (sf : Value) : decode ((Pg jz cs sf).mt 18).code 57 = .ok (.ishl, 1) := (by decide +kernel : decode jdk_52_method_3_code 57 = .ok (.ishl, 1))
theorem w18_57 {jz : Nat} {cs : Int32} {sf : Value} {L : List Slot} {S : List Value} {H : Hp} {k : Nat} {n : Nat} {Q : MRes → Prop} {x y : Int32} : Wp (Pg jz cs sf) 18 (57, L, (.int y) :: (.int x) :: S, H, k, n) Q ↔ Wp (Pg jz cs sf) 18 (58, L, (.int (x <<< (y &&& 31))) :: S, H, k, n) Q := gP (d18_57 _ _ _) rfl rfl
theorem d18_58 (jz : Nat) (cs : Int32) (sf : Value) : decode ((Pg jz cs sf).mt 18).code 58 = .ok (.ireturn, 1) := (by decide +kernel : decode jdk_52_method_3_code 58 = .ok (.ireturn, 1))
theorem w18_58 {jz : Nat} {cs : Int32} {sf : Value} {L : List Slot} {S : List Value} {H : Hp} {k : Nat} {n : Nat} {Q : MRes → Prop} {x : Int32} (h1 : k ≤ 0) (h2 : n ≤ 0) : Wp (Pg jz cs sf) 18 (58, L, (.int x) :: S, H, k, n) Q ↔ Q (some (.int (x)), H) := gRet (d18_58 _ _ _) rfl rfl rfl rfl h1 h2
theorem d19_0 (jz : Nat) (cs : Int32) (sf : Value) : decode ((Pg jz cs sf).mt 19).code 0 = .ok (.getstatic 44, 3) := (by decide +kernel : decode jdk_52_method_4_code 0 = .ok (.getstatic 44, 3))
theorem w19_0 {jz : Nat} {cs : Int32} {sf : Value} {L : List Slot} {S : List Value} {H : Hp} {k : Nat} {n : Nat} {Q : MRes → Prop} : Wp (Pg jz cs sf) 19 (0, L, S, H, k, n) Q ↔ Wp (Pg jz cs sf) 19 (3, L, (.int 1) :: S, H, k, n) Q := gH (d19_0 _ _ _) rfl rfl
theorem d19_3 (jz : Nat) (cs : Int32) (sf : Value) : decode ((Pg jz cs sf).mt 19).code 3 = .ok (.ifCond .ne 25, 3) := (by decide +kernel : decode jdk_52_method_4_code 3 = .ok (.ifCond .ne 25, 3))
theorem w19_3 {jz : Nat} {cs : Int32} {sf : Value} {L : List Slot} {S : List Value} {H : Hp} {k : Nat} {n : Nat} {Q : MRes → Prop} {x : Int32} : Wp (Pg jz cs sf) 19 (3, L, (.int x) :: S, H, k, n) Q ↔ if ¬ x = 0 then Wp (Pg jz cs sf) 19 (28, L, S, H, k, n) Q else Wp (Pg jz cs sf) 19 (6, L, S, H, k, n) Q := gIf (d19_3 _ _ _) (by decide) (by decide) (c_ne x)
theorem d19_6 (jz : Nat) (cs : Int32) (sf : Value) : decode ((Pg jz cs sf).mt 19).code 6 = .ok (.iload_n 1, 1) := (by decide +kernel : decode jdk_52_method_4_code 6 = .ok (.iload_n 1, 1))
theorem w19_6 {jz : Nat} {cs : Int32} {sf : Value} {L : List Slot} {S : List Value} {H : Hp} {k : Nat} {n : Nat} {Q : MRes → Prop} {l0 : Slot} {x : Int32} : Wp (Pg jz cs sf) 19 (6, l0 :: .val (.int x) :: L, S, H, k, n) Q ↔ Wp (Pg jz cs sf) 19 (7, l0 :: .val (.int x) :: L, (.int x) :: S, H, k, n) Q := gP (d19_6 _ _ _) rfl rfl
theorem d19_7 (jz : Nat) (cs : Int32) (sf : Value) : decode ((Pg jz cs sf).mt 19).code 7 = .ok (.ifCond .lt 11, 3) := (by decide +kernel : decode jdk_52_method_4_code 7 = .ok (.ifCond .lt 11, 3))
theorem w19_7 {jz : Nat} {cs : Int32} {sf : Value} {L : List Slot} {S : List Value} {H : Hp} {k : Nat} {n : Nat} {Q : MRes → Prop} {x : Int32} : Wp (Pg jz cs sf) 19 (7, L, (.int x) :: S, H, k, n) Q ↔ if x < 0 then Wp (Pg jz cs sf) 19 (18, L, S, H, k, n) Q else Wp (Pg jz cs sf) 19 (10, L, S, H, k, n) Q := gIf (d19_7 _ _ _) (by decide) (by decide) (c_lt x)
theorem d19_10 (jz : Nat) (cs : Int32) (sf : Value) : decode ((Pg jz cs sf).mt 19).code 10 = .ok (.iload_n 1, 1) := (by decide +kernel : decode jdk_52_method_4_code 10 = .ok (.iload_n 1, 1))
theorem w19_10 {jz : Nat} {cs : Int32} {sf : Value} {L : List Slot} {S : List Value} {H : Hp} {k : Nat} {n : Nat} {Q : MRes → Prop} {l0 : Slot} {x : Int32} : Wp (Pg jz cs sf) 19 (10, l0 :: .val (.int x) :: L, S, H, k, n) Q ↔ Wp (Pg jz cs sf) 19 (11, l0 :: .val (.int x) :: L, (.int x) :: S, H, k, n) Q := gP (d19_10 _ _ _) rfl rfl
theorem d19_11 (jz : Nat) (cs : Int32) (sf : Value) : decode ((Pg jz cs sf).mt 19).code 11 = .ok (.aload_n 0, 1) := (by decide +kernel : decode jdk_52_method_4_code 11 = .ok (.aload_n 0, 1))
theorem w19_11 {jz : Nat} {cs : Int32} {sf : Value} {L : List Slot} {S : List Value} {H : Hp} {k : Nat} {n : Nat} {Q : MRes → Prop}  {v : Value} (hv : isA v = true) : Wp (Pg jz cs sf) 19 (11, .val v :: L, S, H, k, n) Q ↔ Wp (Pg jz cs sf) 19 (12, .val v :: L, v :: S, H, k, n) Q := gP (d19_11 _ _ _) rfl (by show (if isA v = true then _ else _) = _; rw [if_pos hv])
theorem d19_12 (jz : Nat) (cs : Int32) (sf : Value) : decode ((Pg jz cs sf).mt 19).code 12 = .ok (.invokestatic 48, 3) := (by decide +kernel : decode jdk_52_method_4_code 12 = .ok (.invokestatic 48, 3))
theorem w19_12 {jz : Nat} {cs : Int32} {sf : Value} {L : List Slot} {S : List Value} {H : Hp} {k : Nat} {n : Nat} {Q : MRes → Prop} {a0 : Value}  (h_a0 : cat a0 = 1) (h1 : L.length = 3) (h2 : wt S ≤ 1) (h3 : k + 0 ≤ 0) (h4 : n + 0 ≤ 0) : Wp (Pg jz cs sf) 19 (12, L, a0 :: S, H, k, n) Q ↔ Wp (Pg jz cs sf) 23 (0, [.val a0], [], H, 0, 0) fun r => Wp (Pg jz cs sf) 19 (15, L, r.1.toList ++ S, r.2, k + 0, n + 0) Q := gCall (d19_12 _ _ _) rfl rfl (M := 3) (W := 1) (C := 0) (Sl := 0) (c := 0) (s := 0) ⟨rfl, Nat.le_of_ble_eq_true rfl, Nat.le_of_ble_eq_true rfl, rfl, rfl, rfl, rfl⟩ (by show entL [a0] 1 = _; rw [entL, laid_c1 h_a0, laid_nil]; rfl) h1 h2 h3 h4
theorem d19_15 (jz : Nat) (cs : Int32) (sf : Value) : decode ((Pg jz cs sf).mt 19).code 15 = .ok (.if_icmp .lt 13, 3) := (by decide +kernel : decode jdk_52_method_4_code 15 = .ok (.if_icmp .lt 13, 3))
theorem w19_15 {jz : Nat} {cs : Int32} {sf : Value} {L : List Slot} {S : List Value} {H : Hp} {k : Nat} {n : Nat} {Q : MRes → Prop} {x y : Int32} : Wp (Pg jz cs sf) 19 (15, L, (.int y) :: (.int x) :: S, H, k, n) Q ↔ if x < y then Wp (Pg jz cs sf) 19 (28, L, S, H, k, n) Q else Wp (Pg jz cs sf) 19 (18, L, S, H, k, n) Q := gIcmp (d19_15 _ _ _) (by decide) (by decide) (i_lt x y)
theorem d19_28 (jz : Nat) (cs : Int32) (sf : Value) : decode ((Pg jz cs sf).mt 19).code 28 = .ok (.iload_n 1, 1) := (by decide +kernel : decode jdk_52_method_4_code 28 = .ok (.iload_n 1, 1))
theorem w19_28 {jz : Nat} {cs : Int32} {sf : Value} {L : List Slot} {S : List Value} {H : Hp} {k : Nat} {n : Nat} {Q : MRes → Prop} {l0 : Slot} {x : Int32} : Wp (Pg jz cs sf) 19 (28, l0 :: .val (.int x) :: L, S, H, k, n) Q ↔ Wp (Pg jz cs sf) 19 (29, l0 :: .val (.int x) :: L, (.int x) :: S, H, k, n) Q := gP (d19_28 _ _ _) rfl rfl
theorem d19_29 (jz : Nat) (cs : Int32) (sf : Value) : decode ((Pg jz cs sf).mt 19).code 29 = .ok (.iconst 1, 1) := (by decide +kernel : decode jdk_52_method_4_code 29 = .ok (.iconst 1, 1))
theorem w19_29 {jz : Nat} {cs : Int32} {sf : Value} {L : List Slot} {S : List Value} {H : Hp} {k : Nat} {n : Nat} {Q : MRes → Prop} : Wp (Pg jz cs sf) 19 (29, L, S, H, k, n) Q ↔ Wp (Pg jz cs sf) 19 (30, L, (.int 1) :: S, H, k, n) Q := gP (d19_29 _ _ _) rfl rfl
theorem d19_30 (jz : Nat) (cs : Int32) (sf : Value) : decode ((Pg jz cs sf).mt 19).code 30 = .ok (.ishl, 1) := (by decide +kernel : decode jdk_52_method_4_code 30 = .ok (.ishl, 1))
theorem w19_30 {jz : Nat} {cs : Int32} {sf : Value} {L : List Slot} {S : List Value} {H : Hp} {k : Nat} {n : Nat} {Q : MRes → Prop} {x y : Int32} : Wp (Pg jz cs sf) 19 (30, L, (.int y) :: (.int x) :: S, H, k, n) Q ↔ Wp (Pg jz cs sf) 19 (31, L, (.int (x <<< (y &&& 31))) :: S, H, k, n) Q := gP (d19_30 _ _ _) rfl rfl
theorem d19_31 (jz : Nat) (cs : Int32) (sf : Value) : decode ((Pg jz cs sf).mt 19).code 31 = .ok (.istore_n 1, 1) := (by decide +kernel : decode jdk_52_method_4_code 31 = .ok (.istore_n 1, 1))
theorem w19_31 {jz : Nat} {cs : Int32} {sf : Value} {L : List Slot} {S : List Value} {H : Hp} {k : Nat} {n : Nat} {Q : MRes → Prop} {l0 : Slot} {o : Slot} {x : Int32} (ho : s1 o = true) : Wp (Pg jz cs sf) 19 (31, l0 :: o :: L, (.int x) :: S, H, k, n) Q ↔ Wp (Pg jz cs sf) 19 (32, l0 :: .val (.int x) :: L, S, H, k, n) Q := gP (d19_31 _ _ _) rfl (st1_eq (o := o) rfl ho rfl)
theorem d19_32 (jz : Nat) (cs : Int32) (sf : Value) : decode ((Pg jz cs sf).mt 19).code 32 = .ok (.aload_n 0, 1) := (by decide +kernel : decode jdk_52_method_4_code 32 = .ok (.aload_n 0, 1))
theorem w19_32 {jz : Nat} {cs : Int32} {sf : Value} {L : List Slot} {S : List Value} {H : Hp} {k : Nat} {n : Nat} {Q : MRes → Prop}  {v : Value} (hv : isA v = true) : Wp (Pg jz cs sf) 19 (32, .val v :: L, S, H, k, n) Q ↔ Wp (Pg jz cs sf) 19 (33, .val v :: L, v :: S, H, k, n) Q := gP (d19_32 _ _ _) rfl (by show (if isA v = true then _ else _) = _; rw [if_pos hv])
theorem d19_33 (jz : Nat) (cs : Int32) (sf : Value) : decode ((Pg jz cs sf).mt 19).code 33 = .ok (.iload_n 1, 1) := (by decide +kernel : decode jdk_52_method_4_code 33 = .ok (.iload_n 1, 1))
theorem w19_33 {jz : Nat} {cs : Int32} {sf : Value} {L : List Slot} {S : List Value} {H : Hp} {k : Nat} {n : Nat} {Q : MRes → Prop} {l0 : Slot} {x : Int32} : Wp (Pg jz cs sf) 19 (33, l0 :: .val (.int x) :: L, S, H, k, n) Q ↔ Wp (Pg jz cs sf) 19 (34, l0 :: .val (.int x) :: L, (.int x) :: S, H, k, n) Q := gP (d19_33 _ _ _) rfl rfl
theorem d19_34 (jz : Nat) (cs : Int32) (sf : Value) : decode ((Pg jz cs sf).mt 19).code 34 = .ok (.iinc 1 1, 3) := (by decide +kernel : decode jdk_52_method_4_code 34 = .ok (.iinc 1 1, 3))
theorem w19_34 {jz : Nat} {cs : Int32} {sf : Value} {L : List Slot} {S : List Value} {H : Hp} {k : Nat} {n : Nat} {Q : MRes → Prop} {l0 : Slot} {x : Int32} : Wp (Pg jz cs sf) 19 (34, l0 :: .val (.int x) :: L, S, H, k, n) Q ↔ Wp (Pg jz cs sf) 19 (37, l0 :: .val (.int (x + 1)) :: L, S, H, k, n) Q := gP (d19_34 _ _ _) rfl rfl
theorem d19_37 (jz : Nat) (cs : Int32) (sf : Value) : decode ((Pg jz cs sf).mt 19).code 37 = .ok (.iload_n 2, 1) := (by decide +kernel : decode jdk_52_method_4_code 37 = .ok (.iload_n 2, 1))
theorem w19_37 {jz : Nat} {cs : Int32} {sf : Value} {L : List Slot} {S : List Value} {H : Hp} {k : Nat} {n : Nat} {Q : MRes → Prop} {l0 l1 : Slot} {x : Int32} : Wp (Pg jz cs sf) 19 (37, l0 :: l1 :: .val (.int x) :: L, S, H, k, n) Q ↔ Wp (Pg jz cs sf) 19 (38, l0 :: l1 :: .val (.int x) :: L, (.int x) :: S, H, k, n) Q := gP (d19_37 _ _ _) rfl rfl
theorem d19_38 (jz : Nat) (cs : Int32) (sf : Value) : decode ((Pg jz cs sf).mt 19).code 38 = .ok (.getstatic 59, 3) := (by decide +kernel : decode jdk_52_method_4_code 38 = .ok (.getstatic 59, 3))
theorem w19_38 {jz : Nat} {cs : Int32} {sf : Value} {L : List Slot} {S : List Value} {H : Hp} {k : Nat} {n : Nat} {Q : MRes → Prop} : Wp (Pg jz cs sf) 19 (38, L, S, H, k, n) Q ↔ Wp (Pg jz cs sf) 19 (41, L, (.int 0) :: S, H, k, n) Q := gH (d19_38 _ _ _) rfl rfl
theorem d19_41 (jz : Nat) (cs : Int32) (sf : Value) : decode ((Pg jz cs sf).mt 19).code 41 = .ok (.ishr, 1) := (by decide +kernel : decode jdk_52_method_4_code 41 = .ok (.ishr, 1))
theorem w19_41 {jz : Nat} {cs : Int32} {sf : Value} {L : List Slot} {S : List Value} {H : Hp} {k : Nat} {n : Nat} {Q : MRes → Prop} {x y : Int32} : Wp (Pg jz cs sf) 19 (41, L, (.int y) :: (.int x) :: S, H, k, n) Q ↔ Wp (Pg jz cs sf) 19 (42, L, (.int (x >>> (y &&& 31))) :: S, H, k, n) Q := gP (d19_41 _ _ _) rfl rfl
theorem d19_42 (jz : Nat) (cs : Int32) (sf : Value) : decode ((Pg jz cs sf).mt 19).code 42 = .ok (.i2b, 1) := (by decide +kernel : decode jdk_52_method_4_code 42 = .ok (.i2b, 1))
theorem w19_42 {jz : Nat} {cs : Int32} {sf : Value} {L : List Slot} {S : List Value} {H : Hp} {k : Nat} {n : Nat} {Q : MRes → Prop} {x : Int32} : Wp (Pg jz cs sf) 19 (42, L, (.int x) :: S, H, k, n) Q ↔ Wp (Pg jz cs sf) 19 (43, L, (.int x.toInt8.toInt32) :: S, H, k, n) Q := gP (d19_42 _ _ _) rfl rfl
theorem d19_43 (jz : Nat) (cs : Int32) (sf : Value) : decode ((Pg jz cs sf).mt 19).code 43 = .ok (.bastore, 1) := (by decide +kernel : decode jdk_52_method_4_code 43 = .ok (.bastore, 1))
theorem w19_43 {jz : Nat} {cs : Int32} {sf : Value} {L : List Slot} {S : List Value} {H : Hp} {k : Nat} {n : Nat} {Q : MRes → Prop} {a : Nat} {x : Int32} {v : Value} : Wp (Pg jz cs sf) 19 (43, L, v :: (.int x) :: (.ref a) :: S, H, k, n) Q ↔ ∃ H', stA (Pg jz cs sf) .bastore H a x v = some H' ∧ Wp (Pg jz cs sf) 19 (44, L, S, H', k, n) Q := gStA (by simp) (d19_43 _ _ _)
theorem d19_44 (jz : Nat) (cs : Int32) (sf : Value) : decode ((Pg jz cs sf).mt 19).code 44 = .ok (.aload_n 0, 1) := (by decide +kernel : decode jdk_52_method_4_code 44 = .ok (.aload_n 0, 1))
theorem w19_44 {jz : Nat} {cs : Int32} {sf : Value} {L : List Slot} {S : List Value} {H : Hp} {k : Nat} {n : Nat} {Q : MRes → Prop}  {v : Value} (hv : isA v = true) : Wp (Pg jz cs sf) 19 (44, .val v :: L, S, H, k, n) Q ↔ Wp (Pg jz cs sf) 19 (45, .val v :: L, v :: S, H, k, n) Q := gP (d19_44 _ _ _) rfl (by show (if isA v = true then _ else _) = _; rw [if_pos hv])
theorem d19_45 (jz : Nat) (cs : Int32) (sf : Value) : decode ((Pg jz cs sf).mt 19).code 45 = .ok (.iload_n 1, 1) := (by decide +kernel : decode jdk_52_method_4_code 45 = .ok (.iload_n 1, 1))
theorem w19_45 {jz : Nat} {cs : Int32} {sf : Value} {L : List Slot} {S : List Value} {H : Hp} {k : Nat} {n : Nat} {Q : MRes → Prop} {l0 : Slot} {x : Int32} : Wp (Pg jz cs sf) 19 (45, l0 :: .val (.int x) :: L, S, H, k, n) Q ↔ Wp (Pg jz cs sf) 19 (46, l0 :: .val (.int x) :: L, (.int x) :: S, H, k, n) Q := gP (d19_45 _ _ _) rfl rfl
theorem d19_46 (jz : Nat) (cs : Int32) (sf : Value) : decode ((Pg jz cs sf).mt 19).code 46 = .ok (.iload_n 2, 1) := (by decide +kernel : decode jdk_52_method_4_code 46 = .ok (.iload_n 2, 1))
theorem w19_46 {jz : Nat} {cs : Int32} {sf : Value} {L : List Slot} {S : List Value} {H : Hp} {k : Nat} {n : Nat} {Q : MRes → Prop} {l0 l1 : Slot} {x : Int32} : Wp (Pg jz cs sf) 19 (46, l0 :: l1 :: .val (.int x) :: L, S, H, k, n) Q ↔ Wp (Pg jz cs sf) 19 (47, l0 :: l1 :: .val (.int x) :: L, (.int x) :: S, H, k, n) Q := gP (d19_46 _ _ _) rfl rfl
theorem d19_47 (jz : Nat) (cs : Int32) (sf : Value) : decode ((Pg jz cs sf).mt 19).code 47 = .ok (.getstatic 63, 3) := (by decide +kernel : decode jdk_52_method_4_code 47 = .ok (.getstatic 63, 3))
theorem w19_47 {jz : Nat} {cs : Int32} {sf : Value} {L : List Slot} {S : List Value} {H : Hp} {k : Nat} {n : Nat} {Q : MRes → Prop} : Wp (Pg jz cs sf) 19 (47, L, S, H, k, n) Q ↔ Wp (Pg jz cs sf) 19 (50, L, (.int 8) :: S, H, k, n) Q := gH (d19_47 _ _ _) rfl rfl
theorem d19_50 (jz : Nat) (cs : Int32) (sf : Value) : decode ((Pg jz cs sf).mt 19).code 50 = .ok (.ishr, 1) := (by decide +kernel : decode jdk_52_method_4_code 50 = .ok (.ishr, 1))
theorem w19_50 {jz : Nat} {cs : Int32} {sf : Value} {L : List Slot} {S : List Value} {H : Hp} {k : Nat} {n : Nat} {Q : MRes → Prop} {x y : Int32} : Wp (Pg jz cs sf) 19 (50, L, (.int y) :: (.int x) :: S, H, k, n) Q ↔ Wp (Pg jz cs sf) 19 (51, L, (.int (x >>> (y &&& 31))) :: S, H, k, n) Q := gP (d19_50 _ _ _) rfl rfl
theorem d19_51 (jz : Nat) (cs : Int32) (sf : Value) : decode ((Pg jz cs sf).mt 19).code 51 = .ok (.i2b, 1) := (by decide +kernel : decode jdk_52_method_4_code 51 = .ok (.i2b, 1))
theorem w19_51 {jz : Nat} {cs : Int32} {sf : Value} {L : List Slot} {S : List Value} {H : Hp} {k : Nat} {n : Nat} {Q : MRes → Prop} {x : Int32} : Wp (Pg jz cs sf) 19 (51, L, (.int x) :: S, H, k, n) Q ↔ Wp (Pg jz cs sf) 19 (52, L, (.int x.toInt8.toInt32) :: S, H, k, n) Q := gP (d19_51 _ _ _) rfl rfl
theorem d19_52 (jz : Nat) (cs : Int32) (sf : Value) : decode ((Pg jz cs sf).mt 19).code 52 = .ok (.bastore, 1) := (by decide +kernel : decode jdk_52_method_4_code 52 = .ok (.bastore, 1))
theorem w19_52 {jz : Nat} {cs : Int32} {sf : Value} {L : List Slot} {S : List Value} {H : Hp} {k : Nat} {n : Nat} {Q : MRes → Prop} {a : Nat} {x : Int32} {v : Value} : Wp (Pg jz cs sf) 19 (52, L, v :: (.int x) :: (.ref a) :: S, H, k, n) Q ↔ ∃ H', stA (Pg jz cs sf) .bastore H a x v = some H' ∧ Wp (Pg jz cs sf) 19 (53, L, S, H', k, n) Q := gStA (by simp) (d19_52 _ _ _)
theorem d19_53 (jz : Nat) (cs : Int32) (sf : Value) : decode ((Pg jz cs sf).mt 19).code 53 = .ok (.return_, 1) := (by decide +kernel : decode jdk_52_method_4_code 53 = .ok (.return_, 1))
theorem w19_53 {jz : Nat} {cs : Int32} {sf : Value} {L : List Slot} {H : Hp} {k : Nat} {n : Nat} {Q : MRes → Prop} (h1 : k ≤ 0) (h2 : n ≤ 0) : Wp (Pg jz cs sf) 19 (53, L, [], H, k, n) Q ↔ Q (none, H) := gRet (d19_53 _ _ _) rfl rfl rfl rfl h1 h2
theorem d20_0 (jz : Nat) (cs : Int32) (sf : Value) : decode ((Pg jz cs sf).mt 20).code 0 = .ok (.getstatic 44, 3) := (by decide +kernel : decode jdk_52_method_5_code 0 = .ok (.getstatic 44, 3))
theorem w20_0 {jz : Nat} {cs : Int32} {sf : Value} {L : List Slot} {S : List Value} {H : Hp} {k : Nat} {n : Nat} {Q : MRes → Prop} : Wp (Pg jz cs sf) 20 (0, L, S, H, k, n) Q ↔ Wp (Pg jz cs sf) 20 (3, L, (.int 1) :: S, H, k, n) Q := gH (d20_0 _ _ _) rfl rfl
theorem d20_3 (jz : Nat) (cs : Int32) (sf : Value) : decode ((Pg jz cs sf).mt 20).code 3 = .ok (.ifCond .ne 25, 3) := (by decide +kernel : decode jdk_52_method_5_code 3 = .ok (.ifCond .ne 25, 3))
theorem w20_3 {jz : Nat} {cs : Int32} {sf : Value} {L : List Slot} {S : List Value} {H : Hp} {k : Nat} {n : Nat} {Q : MRes → Prop} {x : Int32} : Wp (Pg jz cs sf) 20 (3, L, (.int x) :: S, H, k, n) Q ↔ if ¬ x = 0 then Wp (Pg jz cs sf) 20 (28, L, S, H, k, n) Q else Wp (Pg jz cs sf) 20 (6, L, S, H, k, n) Q := gIf (d20_3 _ _ _) (by decide) (by decide) (c_ne x)
theorem d20_6 (jz : Nat) (cs : Int32) (sf : Value) : decode ((Pg jz cs sf).mt 20).code 6 = .ok (.iload_n 1, 1) := (by decide +kernel : decode jdk_52_method_5_code 6 = .ok (.iload_n 1, 1))
theorem w20_6 {jz : Nat} {cs : Int32} {sf : Value} {L : List Slot} {S : List Value} {H : Hp} {k : Nat} {n : Nat} {Q : MRes → Prop} {l0 : Slot} {x : Int32} : Wp (Pg jz cs sf) 20 (6, l0 :: .val (.int x) :: L, S, H, k, n) Q ↔ Wp (Pg jz cs sf) 20 (7, l0 :: .val (.int x) :: L, (.int x) :: S, H, k, n) Q := gP (d20_6 _ _ _) rfl rfl
theorem d20_7 (jz : Nat) (cs : Int32) (sf : Value) : decode ((Pg jz cs sf).mt 20).code 7 = .ok (.ifCond .lt 11, 3) := (by decide +kernel : decode jdk_52_method_5_code 7 = .ok (.ifCond .lt 11, 3))
theorem w20_7 {jz : Nat} {cs : Int32} {sf : Value} {L : List Slot} {S : List Value} {H : Hp} {k : Nat} {n : Nat} {Q : MRes → Prop} {x : Int32} : Wp (Pg jz cs sf) 20 (7, L, (.int x) :: S, H, k, n) Q ↔ if x < 0 then Wp (Pg jz cs sf) 20 (18, L, S, H, k, n) Q else Wp (Pg jz cs sf) 20 (10, L, S, H, k, n) Q := gIf (d20_7 _ _ _) (by decide) (by decide) (c_lt x)
theorem d20_10 (jz : Nat) (cs : Int32) (sf : Value) : decode ((Pg jz cs sf).mt 20).code 10 = .ok (.iload_n 1, 1) := (by decide +kernel : decode jdk_52_method_5_code 10 = .ok (.iload_n 1, 1))
theorem w20_10 {jz : Nat} {cs : Int32} {sf : Value} {L : List Slot} {S : List Value} {H : Hp} {k : Nat} {n : Nat} {Q : MRes → Prop} {l0 : Slot} {x : Int32} : Wp (Pg jz cs sf) 20 (10, l0 :: .val (.int x) :: L, S, H, k, n) Q ↔ Wp (Pg jz cs sf) 20 (11, l0 :: .val (.int x) :: L, (.int x) :: S, H, k, n) Q := gP (d20_10 _ _ _) rfl rfl
theorem d20_11 (jz : Nat) (cs : Int32) (sf : Value) : decode ((Pg jz cs sf).mt 20).code 11 = .ok (.aload_n 0, 1) := (by decide +kernel : decode jdk_52_method_5_code 11 = .ok (.aload_n 0, 1))
theorem w20_11 {jz : Nat} {cs : Int32} {sf : Value} {L : List Slot} {S : List Value} {H : Hp} {k : Nat} {n : Nat} {Q : MRes → Prop}  {v : Value} (hv : isA v = true) : Wp (Pg jz cs sf) 20 (11, .val v :: L, S, H, k, n) Q ↔ Wp (Pg jz cs sf) 20 (12, .val v :: L, v :: S, H, k, n) Q := gP (d20_11 _ _ _) rfl (by show (if isA v = true then _ else _) = _; rw [if_pos hv])
theorem d20_12 (jz : Nat) (cs : Int32) (sf : Value) : decode ((Pg jz cs sf).mt 20).code 12 = .ok (.invokestatic 48, 3) := (by decide +kernel : decode jdk_52_method_5_code 12 = .ok (.invokestatic 48, 3))
theorem w20_12 {jz : Nat} {cs : Int32} {sf : Value} {L : List Slot} {S : List Value} {H : Hp} {k : Nat} {n : Nat} {Q : MRes → Prop} {a0 : Value}  (h_a0 : cat a0 = 1) (h1 : L.length = 2) (h2 : wt S ≤ 1) (h3 : k + 0 ≤ 0) (h4 : n + 0 ≤ 0) : Wp (Pg jz cs sf) 20 (12, L, a0 :: S, H, k, n) Q ↔ Wp (Pg jz cs sf) 23 (0, [.val a0], [], H, 0, 0) fun r => Wp (Pg jz cs sf) 20 (15, L, r.1.toList ++ S, r.2, k + 0, n + 0) Q := gCall (d20_12 _ _ _) rfl rfl (M := 2) (W := 1) (C := 0) (Sl := 0) (c := 0) (s := 0) ⟨rfl, Nat.le_of_ble_eq_true rfl, Nat.le_of_ble_eq_true rfl, rfl, rfl, rfl, rfl⟩ (by show entL [a0] 1 = _; rw [entL, laid_c1 h_a0, laid_nil]; rfl) h1 h2 h3 h4
theorem d20_15 (jz : Nat) (cs : Int32) (sf : Value) : decode ((Pg jz cs sf).mt 20).code 15 = .ok (.if_icmp .lt 13, 3) := (by decide +kernel : decode jdk_52_method_5_code 15 = .ok (.if_icmp .lt 13, 3))
theorem w20_15 {jz : Nat} {cs : Int32} {sf : Value} {L : List Slot} {S : List Value} {H : Hp} {k : Nat} {n : Nat} {Q : MRes → Prop} {x y : Int32} : Wp (Pg jz cs sf) 20 (15, L, (.int y) :: (.int x) :: S, H, k, n) Q ↔ if x < y then Wp (Pg jz cs sf) 20 (28, L, S, H, k, n) Q else Wp (Pg jz cs sf) 20 (18, L, S, H, k, n) Q := gIcmp (d20_15 _ _ _) (by decide) (by decide) (i_lt x y)
theorem d20_28 (jz : Nat) (cs : Int32) (sf : Value) : decode ((Pg jz cs sf).mt 20).code 28 = .ok (.iload_n 1, 1) := (by decide +kernel : decode jdk_52_method_5_code 28 = .ok (.iload_n 1, 1))
theorem w20_28 {jz : Nat} {cs : Int32} {sf : Value} {L : List Slot} {S : List Value} {H : Hp} {k : Nat} {n : Nat} {Q : MRes → Prop} {l0 : Slot} {x : Int32} : Wp (Pg jz cs sf) 20 (28, l0 :: .val (.int x) :: L, S, H, k, n) Q ↔ Wp (Pg jz cs sf) 20 (29, l0 :: .val (.int x) :: L, (.int x) :: S, H, k, n) Q := gP (d20_28 _ _ _) rfl rfl
theorem d20_29 (jz : Nat) (cs : Int32) (sf : Value) : decode ((Pg jz cs sf).mt 20).code 29 = .ok (.iconst 1, 1) := (by decide +kernel : decode jdk_52_method_5_code 29 = .ok (.iconst 1, 1))
theorem w20_29 {jz : Nat} {cs : Int32} {sf : Value} {L : List Slot} {S : List Value} {H : Hp} {k : Nat} {n : Nat} {Q : MRes → Prop} : Wp (Pg jz cs sf) 20 (29, L, S, H, k, n) Q ↔ Wp (Pg jz cs sf) 20 (30, L, (.int 1) :: S, H, k, n) Q := gP (d20_29 _ _ _) rfl rfl
theorem d20_30 (jz : Nat) (cs : Int32) (sf : Value) : decode ((Pg jz cs sf).mt 20).code 30 = .ok (.ishl, 1) := (by decide +kernel : decode jdk_52_method_5_code 30 = .ok (.ishl, 1))
theorem w20_30 {jz : Nat} {cs : Int32} {sf : Value} {L : List Slot} {S : List Value} {H : Hp} {k : Nat} {n : Nat} {Q : MRes → Prop} {x y : Int32} : Wp (Pg jz cs sf) 20 (30, L, (.int y) :: (.int x) :: S, H, k, n) Q ↔ Wp (Pg jz cs sf) 20 (31, L, (.int (x <<< (y &&& 31))) :: S, H, k, n) Q := gP (d20_30 _ _ _) rfl rfl
theorem d20_31 (jz : Nat) (cs : Int32) (sf : Value) : decode ((Pg jz cs sf).mt 20).code 31 = .ok (.istore_n 1, 1) := (by decide +kernel : decode jdk_52_method_5_code 31 = .ok (.istore_n 1, 1))
theorem w20_31 {jz : Nat} {cs : Int32} {sf : Value} {L : List Slot} {S : List Value} {H : Hp} {k : Nat} {n : Nat} {Q : MRes → Prop} {l0 : Slot} {o : Slot} {x : Int32} (ho : s1 o = true) : Wp (Pg jz cs sf) 20 (31, l0 :: o :: L, (.int x) :: S, H, k, n) Q ↔ Wp (Pg jz cs sf) 20 (32, l0 :: .val (.int x) :: L, S, H, k, n) Q := gP (d20_31 _ _ _) rfl (st1_eq (o := o) rfl ho rfl)
theorem d20_32 (jz : Nat) (cs : Int32) (sf : Value) : decode ((Pg jz cs sf).mt 20).code 32 = .ok (.aload_n 0, 1) := (by decide +kernel : decode jdk_52_method_5_code 32 = .ok (.aload_n 0, 1))
theorem w20_32 {jz : Nat} {cs : Int32} {sf : Value} {L : List Slot} {S : List Value} {H : Hp} {k : Nat} {n : Nat} {Q : MRes → Prop}  {v : Value} (hv : isA v = true) : Wp (Pg jz cs sf) 20 (32, .val v :: L, S, H, k, n) Q ↔ Wp (Pg jz cs sf) 20 (33, .val v :: L, v :: S, H, k, n) Q := gP (d20_32 _ _ _) rfl (by show (if isA v = true then _ else _) = _; rw [if_pos hv])
theorem d20_33 (jz : Nat) (cs : Int32) (sf : Value) : decode ((Pg jz cs sf).mt 20).code 33 = .ok (.iload_n 1, 1) := (by decide +kernel : decode jdk_52_method_5_code 33 = .ok (.iload_n 1, 1))
theorem w20_33 {jz : Nat} {cs : Int32} {sf : Value} {L : List Slot} {S : List Value} {H : Hp} {k : Nat} {n : Nat} {Q : MRes → Prop} {l0 : Slot} {x : Int32} : Wp (Pg jz cs sf) 20 (33, l0 :: .val (.int x) :: L, S, H, k, n) Q ↔ Wp (Pg jz cs sf) 20 (34, l0 :: .val (.int x) :: L, (.int x) :: S, H, k, n) Q := gP (d20_33 _ _ _) rfl rfl
theorem d20_34 (jz : Nat) (cs : Int32) (sf : Value) : decode ((Pg jz cs sf).mt 20).code 34 = .ok (.iinc 1 1, 3) := (by decide +kernel : decode jdk_52_method_5_code 34 = .ok (.iinc 1 1, 3))
theorem w20_34 {jz : Nat} {cs : Int32} {sf : Value} {L : List Slot} {S : List Value} {H : Hp} {k : Nat} {n : Nat} {Q : MRes → Prop} {l0 : Slot} {x : Int32} : Wp (Pg jz cs sf) 20 (34, l0 :: .val (.int x) :: L, S, H, k, n) Q ↔ Wp (Pg jz cs sf) 20 (37, l0 :: .val (.int (x + 1)) :: L, S, H, k, n) Q := gP (d20_34 _ _ _) rfl rfl
theorem d20_37 (jz : Nat) (cs : Int32) (sf : Value) : decode ((Pg jz cs sf).mt 20).code 37 = .ok (.baload, 1) := (by decide +kernel : decode jdk_52_method_5_code 37 = .ok (.baload, 1))
theorem w20_37 {jz : Nat} {cs : Int32} {sf : Value} {L : List Slot} {S : List Value} {H : Hp} {k : Nat} {n : Nat} {Q : MRes → Prop} {a : Nat} {x : Int32} : Wp (Pg jz cs sf) 20 (37, L, (.int x) :: (.ref a) :: S, H, k, n) Q ↔ ∃ v, ldA .baload H a x = some v ∧ Wp (Pg jz cs sf) 20 (38, L, v :: S, H, k, n) Q := gLdA (by simp) (d20_37 _ _ _)
theorem d20_38 (jz : Nat) (cs : Int32) (sf : Value) : decode ((Pg jz cs sf).mt 20).code 38 = .ok (.sipush 255, 3) := (by decide +kernel : decode jdk_52_method_5_code 38 = .ok (.sipush 255, 3))
theorem w20_38 {jz : Nat} {cs : Int32} {sf : Value} {L : List Slot} {S : List Value} {H : Hp} {k : Nat} {n : Nat} {Q : MRes → Prop} : Wp (Pg jz cs sf) 20 (38, L, S, H, k, n) Q ↔ Wp (Pg jz cs sf) 20 (41, L, (.int 255) :: S, H, k, n) Q := gP (d20_38 _ _ _) rfl rfl
theorem d20_41 (jz : Nat) (cs : Int32) (sf : Value) : decode ((Pg jz cs sf).mt 20).code 41 = .ok (.iand, 1) := (by decide +kernel : decode jdk_52_method_5_code 41 = .ok (.iand, 1))
theorem w20_41 {jz : Nat} {cs : Int32} {sf : Value} {L : List Slot} {S : List Value} {H : Hp} {k : Nat} {n : Nat} {Q : MRes → Prop} {x y : Int32} : Wp (Pg jz cs sf) 20 (41, L, (.int y) :: (.int x) :: S, H, k, n) Q ↔ Wp (Pg jz cs sf) 20 (42, L, (.int (x &&& y)) :: S, H, k, n) Q := gP (d20_41 _ _ _) rfl rfl
theorem d20_42 (jz : Nat) (cs : Int32) (sf : Value) : decode ((Pg jz cs sf).mt 20).code 42 = .ok (.getstatic 59, 3) := (by decide +kernel : decode jdk_52_method_5_code 42 = .ok (.getstatic 59, 3))
theorem w20_42 {jz : Nat} {cs : Int32} {sf : Value} {L : List Slot} {S : List Value} {H : Hp} {k : Nat} {n : Nat} {Q : MRes → Prop} : Wp (Pg jz cs sf) 20 (42, L, S, H, k, n) Q ↔ Wp (Pg jz cs sf) 20 (45, L, (.int 0) :: S, H, k, n) Q := gH (d20_42 _ _ _) rfl rfl
theorem d20_45 (jz : Nat) (cs : Int32) (sf : Value) : decode ((Pg jz cs sf).mt 20).code 45 = .ok (.ishl, 1) := (by decide +kernel : decode jdk_52_method_5_code 45 = .ok (.ishl, 1))
theorem w20_45 {jz : Nat} {cs : Int32} {sf : Value} {L : List Slot} {S : List Value} {H : Hp} {k : Nat} {n : Nat} {Q : MRes → Prop} {x y : Int32} : Wp (Pg jz cs sf) 20 (45, L, (.int y) :: (.int x) :: S, H, k, n) Q ↔ Wp (Pg jz cs sf) 20 (46, L, (.int (x <<< (y &&& 31))) :: S, H, k, n) Q := gP (d20_45 _ _ _) rfl rfl
theorem d20_46 (jz : Nat) (cs : Int32) (sf : Value) : decode ((Pg jz cs sf).mt 20).code 46 = .ok (.aload_n 0, 1) := (by decide +kernel : decode jdk_52_method_5_code 46 = .ok (.aload_n 0, 1))
theorem w20_46 {jz : Nat} {cs : Int32} {sf : Value} {L : List Slot} {S : List Value} {H : Hp} {k : Nat} {n : Nat} {Q : MRes → Prop}  {v : Value} (hv : isA v = true) : Wp (Pg jz cs sf) 20 (46, .val v :: L, S, H, k, n) Q ↔ Wp (Pg jz cs sf) 20 (47, .val v :: L, v :: S, H, k, n) Q := gP (d20_46 _ _ _) rfl (by show (if isA v = true then _ else _) = _; rw [if_pos hv])
theorem d20_47 (jz : Nat) (cs : Int32) (sf : Value) : decode ((Pg jz cs sf).mt 20).code 47 = .ok (.iload_n 1, 1) := (by decide +kernel : decode jdk_52_method_5_code 47 = .ok (.iload_n 1, 1))
theorem w20_47 {jz : Nat} {cs : Int32} {sf : Value} {L : List Slot} {S : List Value} {H : Hp} {k : Nat} {n : Nat} {Q : MRes → Prop} {l0 : Slot} {x : Int32} : Wp (Pg jz cs sf) 20 (47, l0 :: .val (.int x) :: L, S, H, k, n) Q ↔ Wp (Pg jz cs sf) 20 (48, l0 :: .val (.int x) :: L, (.int x) :: S, H, k, n) Q := gP (d20_47 _ _ _) rfl rfl
theorem d20_48 (jz : Nat) (cs : Int32) (sf : Value) : decode ((Pg jz cs sf).mt 20).code 48 = .ok (.baload, 1) := (by decide +kernel : decode jdk_52_method_5_code 48 = .ok (.baload, 1))
theorem w20_48 {jz : Nat} {cs : Int32} {sf : Value} {L : List Slot} {S : List Value} {H : Hp} {k : Nat} {n : Nat} {Q : MRes → Prop} {a : Nat} {x : Int32} : Wp (Pg jz cs sf) 20 (48, L, (.int x) :: (.ref a) :: S, H, k, n) Q ↔ ∃ v, ldA .baload H a x = some v ∧ Wp (Pg jz cs sf) 20 (49, L, v :: S, H, k, n) Q := gLdA (by simp) (d20_48 _ _ _)
theorem d20_49 (jz : Nat) (cs : Int32) (sf : Value) : decode ((Pg jz cs sf).mt 20).code 49 = .ok (.sipush 255, 3) := (by decide +kernel : decode jdk_52_method_5_code 49 = .ok (.sipush 255, 3))
theorem w20_49 {jz : Nat} {cs : Int32} {sf : Value} {L : List Slot} {S : List Value} {H : Hp} {k : Nat} {n : Nat} {Q : MRes → Prop} : Wp (Pg jz cs sf) 20 (49, L, S, H, k, n) Q ↔ Wp (Pg jz cs sf) 20 (52, L, (.int 255) :: S, H, k, n) Q := gP (d20_49 _ _ _) rfl rfl
theorem d20_52 (jz : Nat) (cs : Int32) (sf : Value) : decode ((Pg jz cs sf).mt 20).code 52 = .ok (.iand, 1) := (by decide +kernel : decode jdk_52_method_5_code 52 = .ok (.iand, 1))
theorem w20_52 {jz : Nat} {cs : Int32} {sf : Value} {L : List Slot} {S : List Value} {H : Hp} {k : Nat} {n : Nat} {Q : MRes → Prop} {x y : Int32} : Wp (Pg jz cs sf) 20 (52, L, (.int y) :: (.int x) :: S, H, k, n) Q ↔ Wp (Pg jz cs sf) 20 (53, L, (.int (x &&& y)) :: S, H, k, n) Q := gP (d20_52 _ _ _) rfl rfl
theorem d20_53 (jz : Nat) (cs : Int32) (sf : Value) : decode ((Pg jz cs sf).mt 20).code 53 = .ok (.getstatic 63, 3) := (by decide +kernel : decode jdk_52_method_5_code 53 = .ok (.getstatic 63, 3))
theorem w20_53 {jz : Nat} {cs : Int32} {sf : Value} {L : List Slot} {S : List Value} {H : Hp} {k : Nat} {n : Nat} {Q : MRes → Prop} : Wp (Pg jz cs sf) 20 (53, L, S, H, k, n) Q ↔ Wp (Pg jz cs sf) 20 (56, L, (.int 8) :: S, H, k, n) Q := gH (d20_53 _ _ _) rfl rfl
theorem d20_56 (jz : Nat) (cs : Int32) (sf : Value) : decode ((Pg jz cs sf).mt 20).code 56 = .ok (.ishl, 1) := (by decide +kernel : decode jdk_52_method_5_code 56 = .ok (.ishl, 1))
theorem w20_56 {jz : Nat} {cs : Int32} {sf : Value} {L : List Slot} {S : List Value} {H : Hp} {k : Nat} {n : Nat} {Q : MRes → Prop} {x y : Int32} : Wp (Pg jz cs sf) 20 (56, L, (.int y) :: (.int x) :: S, H, k, n) Q ↔ Wp (Pg jz cs sf) 20 (57, L, (.int (x <<< (y &&& 31))) :: S, H, k, n) Q := gP (d20_56 _ _ _) rfl rfl
theorem d20_57 (jz : Nat) (cs : Int32) (sf : Value) : decode ((Pg jz cs sf).mt 20).code 57 = .ok (.ior, 1) := (by decide +kernel : decode jdk_52_method_5_code 57 = .ok (.ior, 1))
theorem w20_57 {jz : Nat} {cs : Int32} {sf : Value} {L : List Slot} {S : List Value} {H : Hp} {k : Nat} {n : Nat} {Q : MRes → Prop} {x y : Int32} : Wp (Pg jz cs sf) 20 (57, L, (.int y) :: (.int x) :: S, H, k, n) Q ↔ Wp (Pg jz cs sf) 20 (58, L, (.int (x ||| y)) :: S, H, k, n) Q := gP (d20_57 _ _ _) rfl rfl
theorem d20_58 (jz : Nat) (cs : Int32) (sf : Value) : decode ((Pg jz cs sf).mt 20).code 58 = .ok (.i2c, 1) := (by decide +kernel : decode jdk_52_method_5_code 58 = .ok (.i2c, 1))
theorem w20_58 {jz : Nat} {cs : Int32} {sf : Value} {L : List Slot} {S : List Value} {H : Hp} {k : Nat} {n : Nat} {Q : MRes → Prop} {x : Int32} : Wp (Pg jz cs sf) 20 (58, L, (.int x) :: S, H, k, n) Q ↔ Wp (Pg jz cs sf) 20 (59, L, (.int x.toUInt32.toUInt16.toUInt32.toInt32) :: S, H, k, n) Q := gP (d20_58 _ _ _) rfl rfl
theorem d20_59 (jz : Nat) (cs : Int32) (sf : Value) : decode ((Pg jz cs sf).mt 20).code 59 = .ok (.ireturn, 1) := (by decide +kernel : decode jdk_52_method_5_code 59 = .ok (.ireturn, 1))
theorem w20_59 {jz : Nat} {cs : Int32} {sf : Value} {L : List Slot} {S : List Value} {H : Hp} {k : Nat} {n : Nat} {Q : MRes → Prop} {x : Int32} (h1 : k ≤ 0) (h2 : n ≤ 0) : Wp (Pg jz cs sf) 20 (59, L, (.int x) :: S, H, k, n) Q ↔ Q (some (.int (x.toUInt32.toUInt16.toUInt32.toInt32)), H) := gRet (d20_59 _ _ _) rfl rfl rfl rfl h1 h2
theorem d21_0 (jz : Nat) (cs : Int32) (sf : Value) : decode ((Pg jz cs sf).mt 21).code 0 = .ok (.iload_n 1, 1) := (by decide +kernel : decode jdk_52_method_83_code 0 = .ok (.iload_n 1, 1))
theorem w21_0 {jz : Nat} {cs : Int32} {sf : Value} {L : List Slot} {S : List Value} {H : Hp} {k : Nat} {n : Nat} {Q : MRes → Prop} {l0 : Slot} {x : Int32} : Wp (Pg jz cs sf) 21 (0, l0 :: .val (.int x) :: L, S, H, k, n) Q ↔ Wp (Pg jz cs sf) 21 (1, l0 :: .val (.int x) :: L, (.int x) :: S, H, k, n) Q := gP (d21_0 _ _ _) rfl rfl
theorem d21_1 (jz : Nat) (cs : Int32) (sf : Value) : decode ((Pg jz cs sf).mt 21).code 1 = .ok (.aload_n 0, 1) := (by decide +kernel : decode jdk_52_method_83_code 1 = .ok (.aload_n 0, 1))
theorem w21_1 {jz : Nat} {cs : Int32} {sf : Value} {L : List Slot} {S : List Value} {H : Hp} {k : Nat} {n : Nat} {Q : MRes → Prop}  {v : Value} (hv : isA v = true) : Wp (Pg jz cs sf) 21 (1, .val v :: L, S, H, k, n) Q ↔ Wp (Pg jz cs sf) 21 (2, .val v :: L, v :: S, H, k, n) Q := gP (d21_1 _ _ _) rfl (by show (if isA v = true then _ else _) = _; rw [if_pos hv])
theorem d21_2 (jz : Nat) (cs : Int32) (sf : Value) : decode ((Pg jz cs sf).mt 21).code 2 = .ok (.invokestatic 67, 3) := (by decide +kernel : decode jdk_52_method_83_code 2 = .ok (.invokestatic 67, 3))
theorem w21_2 {jz : Nat} {cs : Int32} {sf : Value} {L : List Slot} {S : List Value} {H : Hp} {k : Nat} {n : Nat} {Q : MRes → Prop} {a0 : Int32} {a1 : Value}  (h_a1 : cat a1 = 1) (h1 : L.length = 2) (h2 : wt S ≤ 0) (h3 : k + 0 ≤ 0) (h4 : n + 0 ≤ 0) : Wp (Pg jz cs sf) 21 (2, L, a1 :: (.int a0) :: S, H, k, n) Q ↔ Wp (Pg jz cs sf) 22 (0, [.val (.int a0), .val a1], [], H, 0, 0) fun r => Wp (Pg jz cs sf) 21 (5, L, r.1.toList ++ S, r.2, k + 0, n + 0) Q := gCall (d21_2 _ _ _) rfl rfl (M := 2) (W := 0) (C := 0) (Sl := 0) (c := 0) (s := 0) ⟨rfl, Nat.le_of_ble_eq_true rfl, Nat.le_of_ble_eq_true rfl, rfl, rfl, rfl, rfl⟩ (by show entL [(.int a0), a1] 2 = _; rw [entL, laid_c1 rfl, laid_c1 h_a1, laid_nil]; rfl) h1 h2 h3 h4
theorem d21_5 (jz : Nat) (cs : Int32) (sf : Value) : decode ((Pg jz cs sf).mt 21).code 5 = .ok (.aload_n 0, 1) := (by decide +kernel : decode jdk_52_method_83_code 5 = .ok (.aload_n 0, 1))
theorem w21_5 {jz : Nat} {cs : Int32} {sf : Value} {L : List Slot} {S : List Value} {H : Hp} {k : Nat} {n : Nat} {Q : MRes → Prop}  {v : Value} (hv : isA v = true) : Wp (Pg jz cs sf) 21 (5, .val v :: L, S, H, k, n) Q ↔ Wp (Pg jz cs sf) 21 (6, .val v :: L, v :: S, H, k, n) Q := gP (d21_5 _ _ _) rfl (by show (if isA v = true then _ else _) = _; rw [if_pos hv])
theorem d21_6 (jz : Nat) (cs : Int32) (sf : Value) : decode ((Pg jz cs sf).mt 21).code 6 = .ok (.iload_n 1, 1) := (by decide +kernel : decode jdk_52_method_83_code 6 = .ok (.iload_n 1, 1))
theorem w21_6 {jz : Nat} {cs : Int32} {sf : Value} {L : List Slot} {S : List Value} {H : Hp} {k : Nat} {n : Nat} {Q : MRes → Prop} {l0 : Slot} {x : Int32} : Wp (Pg jz cs sf) 21 (6, l0 :: .val (.int x) :: L, S, H, k, n) Q ↔ Wp (Pg jz cs sf) 21 (7, l0 :: .val (.int x) :: L, (.int x) :: S, H, k, n) Q := gP (d21_6 _ _ _) rfl rfl
theorem d21_7 (jz : Nat) (cs : Int32) (sf : Value) : decode ((Pg jz cs sf).mt 21).code 7 = .ok (.invokestatic 71, 3) := (by decide +kernel : decode jdk_52_method_83_code 7 = .ok (.invokestatic 71, 3))
theorem w21_7 {jz : Nat} {cs : Int32} {sf : Value} {L : List Slot} {S : List Value} {H : Hp} {k : Nat} {n : Nat} {Q : MRes → Prop} {a0 : Value} {a1 : Int32}  (h_a0 : cat a0 = 1) (h1 : L.length = 2) (h2 : wt S ≤ 0) (h3 : k + 0 ≤ 0) (h4 : n + 0 ≤ 0) : Wp (Pg jz cs sf) 21 (7, L, (.int a1) :: a0 :: S, H, k, n) Q ↔ Wp (Pg jz cs sf) 20 (0, [.val a0, .val (.int a1)], [], H, 0, 0) fun r => Wp (Pg jz cs sf) 21 (10, L, r.1.toList ++ S, r.2, k + 0, n + 0) Q := gCall (d21_7 _ _ _) rfl rfl (M := 2) (W := 0) (C := 0) (Sl := 0) (c := 0) (s := 0) ⟨rfl, Nat.le_of_ble_eq_true rfl, Nat.le_of_ble_eq_true rfl, rfl, rfl, rfl, rfl⟩ (by show entL [a0, (.int a1)] 2 = _; rw [entL, laid_c1 h_a0, laid_c1 rfl, laid_nil]; rfl) h1 h2 h3 h4
theorem d21_10 (jz : Nat) (cs : Int32) (sf : Value) : decode ((Pg jz cs sf).mt 21).code 10 = .ok (.ireturn, 1) := (by decide +kernel : decode jdk_52_method_83_code 10 = .ok (.ireturn, 1))
theorem w21_10 {jz : Nat} {cs : Int32} {sf : Value} {L : List Slot} {S : List Value} {H : Hp} {k : Nat} {n : Nat} {Q : MRes → Prop} {x : Int32} (h1 : k ≤ 0) (h2 : n ≤ 0) : Wp (Pg jz cs sf) 21 (10, L, (.int x) :: S, H, k, n) Q ↔ Q (some (.int (x.toUInt32.toUInt16.toUInt32.toInt32)), H) := gRet (d21_10 _ _ _) rfl rfl rfl rfl h1 h2
theorem d22_0 (jz : Nat) (cs : Int32) (sf : Value) : decode ((Pg jz cs sf).mt 22).code 0 = .ok (.iload_n 0, 1) := (by decide +kernel : decode jdk_52_method_91_code 0 = .ok (.iload_n 0, 1))
theorem w22_0 {jz : Nat} {cs : Int32} {sf : Value} {L : List Slot} {S : List Value} {H : Hp} {k : Nat} {n : Nat} {Q : MRes → Prop}  {x : Int32} : Wp (Pg jz cs sf) 22 (0, .val (.int x) :: L, S, H, k, n) Q ↔ Wp (Pg jz cs sf) 22 (1, .val (.int x) :: L, (.int x) :: S, H, k, n) Q := gP (d22_0 _ _ _) rfl rfl
theorem d22_1 (jz : Nat) (cs : Int32) (sf : Value) : decode ((Pg jz cs sf).mt 22).code 1 = .ok (.aload_n 1, 1) := (by decide +kernel : decode jdk_52_method_91_code 1 = .ok (.aload_n 1, 1))
theorem w22_1 {jz : Nat} {cs : Int32} {sf : Value} {L : List Slot} {S : List Value} {H : Hp} {k : Nat} {n : Nat} {Q : MRes → Prop} {l0 : Slot} {v : Value} (hv : isA v = true) : Wp (Pg jz cs sf) 22 (1, l0 :: .val v :: L, S, H, k, n) Q ↔ Wp (Pg jz cs sf) 22 (2, l0 :: .val v :: L, v :: S, H, k, n) Q := gP (d22_1 _ _ _) rfl (by show (if isA v = true then _ else _) = _; rw [if_pos hv])
theorem d22_2 (jz : Nat) (cs : Int32) (sf : Value) : decode ((Pg jz cs sf).mt 22).code 2 = .ok (.invokestatic 48, 3) := (by decide +kernel : decode jdk_52_method_91_code 2 = .ok (.invokestatic 48, 3))
theorem w22_2 {jz : Nat} {cs : Int32} {sf : Value} {L : List Slot} {S : List Value} {H : Hp} {k : Nat} {n : Nat} {Q : MRes → Prop} {a0 : Value}  (h_a0 : cat a0 = 1) (h1 : L.length = 2) (h2 : wt S ≤ 1) (h3 : k + 0 ≤ 0) (h4 : n + 0 ≤ 0) : Wp (Pg jz cs sf) 22 (2, L, a0 :: S, H, k, n) Q ↔ Wp (Pg jz cs sf) 23 (0, [.val a0], [], H, 0, 0) fun r => Wp (Pg jz cs sf) 22 (5, L, r.1.toList ++ S, r.2, k + 0, n + 0) Q := gCall (d22_2 _ _ _) rfl rfl (M := 2) (W := 1) (C := 0) (Sl := 0) (c := 0) (s := 0) ⟨rfl, Nat.le_of_ble_eq_true rfl, Nat.le_of_ble_eq_true rfl, rfl, rfl, rfl, rfl⟩ (by show entL [a0] 1 = _; rw [entL, laid_c1 h_a0, laid_nil]; rfl) h1 h2 h3 h4
theorem d22_5 (jz : Nat) (cs : Int32) (sf : Value) : decode ((Pg jz cs sf).mt 22).code 5 = .ok (.invokestatic 414, 3) := (by decide +kernel : decode jdk_52_method_91_code 5 = .ok (.invokestatic 414, 3))
theorem w22_5 {jz : Nat} {cs : Int32} {sf : Value} {L : List Slot} {S : List Value} {H : Hp} {k : Nat} {n : Nat} {Q : MRes → Prop} {a0 : Int32} {a1 : Int32}  (h1 : L.length = 2) (h2 : wt S ≤ 0) (h3 : k + 0 ≤ 0) (h4 : n + 0 ≤ 0) : Wp (Pg jz cs sf) 22 (5, L, (.int a1) :: (.int a0) :: S, H, k, n) Q ↔ Wp (Pg jz cs sf) 14 (0, [.val (.int a0), .val (.int a1)], [], H, 0, 0) fun r => Wp (Pg jz cs sf) 22 (8, L, r.1.toList ++ S, r.2, k + 0, n + 0) Q := gCall (d22_5 _ _ _) rfl rfl (M := 2) (W := 0) (C := 0) (Sl := 0) (c := 0) (s := 0) ⟨rfl, Nat.le_of_ble_eq_true rfl, Nat.le_of_ble_eq_true rfl, rfl, rfl, rfl, rfl⟩ (by show entL [(.int a0), (.int a1)] 2 = _; rw [entL, laid_c1 rfl, laid_c1 rfl, laid_nil]; rfl) h1 h2 h3 h4
theorem d22_8 (jz : Nat) (cs : Int32) (sf : Value) : decode ((Pg jz cs sf).mt 22).code 8 = .ok (.return_, 1) := (by decide +kernel : decode jdk_52_method_91_code 8 = .ok (.return_, 1))
theorem w22_8 {jz : Nat} {cs : Int32} {sf : Value} {L : List Slot} {H : Hp} {k : Nat} {n : Nat} {Q : MRes → Prop} (h1 : k ≤ 0) (h2 : n ≤ 0) : Wp (Pg jz cs sf) 22 (8, L, [], H, k, n) Q ↔ Q (none, H) := gRet (d22_8 _ _ _) rfl rfl rfl rfl h1 h2
theorem d23_0 (jz : Nat) (cs : Int32) (sf : Value) : decode ((Pg jz cs sf).mt 23).code 0 = .ok (.aload_n 0, 1) := (by decide +kernel : decode jdk_52_method_6_code 0 = .ok (.aload_n 0, 1))
theorem w23_0 {jz : Nat} {cs : Int32} {sf : Value} {L : List Slot} {S : List Value} {H : Hp} {k : Nat} {n : Nat} {Q : MRes → Prop}  {v : Value} (hv : isA v = true) : Wp (Pg jz cs sf) 23 (0, .val v :: L, S, H, k, n) Q ↔ Wp (Pg jz cs sf) 23 (1, .val v :: L, v :: S, H, k, n) Q := gP (d23_0 _ _ _) rfl (by show (if isA v = true then _ else _) = _; rw [if_pos hv])
theorem d23_1 (jz : Nat) (cs : Int32) (sf : Value) : decode ((Pg jz cs sf).mt 23).code 1 = .ok (.arraylength, 1) := (by decide +kernel : decode jdk_52_method_6_code 1 = .ok (.arraylength, 1))
theorem w23_1 {jz : Nat} {cs : Int32} {sf : Value} {L : List Slot} {S : List Value} {H : Hp} {k : Nat} {n : Nat} {Q : MRes → Prop} {a : Nat} : Wp (Pg jz cs sf) 23 (1, L, (.ref a) :: S, H, k, n) Q ↔ ∃ v, alen H a = some v ∧ Wp (Pg jz cs sf) 23 (2, L, (.int v) :: S, H, k, n) Q := gLen (d23_1 _ _ _)
theorem d23_2 (jz : Nat) (cs : Int32) (sf : Value) : decode ((Pg jz cs sf).mt 23).code 2 = .ok (.iconst 1, 1) := (by decide +kernel : decode jdk_52_method_6_code 2 = .ok (.iconst 1, 1))
theorem w23_2 {jz : Nat} {cs : Int32} {sf : Value} {L : List Slot} {S : List Value} {H : Hp} {k : Nat} {n : Nat} {Q : MRes → Prop} : Wp (Pg jz cs sf) 23 (2, L, S, H, k, n) Q ↔ Wp (Pg jz cs sf) 23 (3, L, (.int 1) :: S, H, k, n) Q := gP (d23_2 _ _ _) rfl rfl
theorem d23_3 (jz : Nat) (cs : Int32) (sf : Value) : decode ((Pg jz cs sf).mt 23).code 3 = .ok (.ishr, 1) := (by decide +kernel : decode jdk_52_method_6_code 3 = .ok (.ishr, 1))
theorem w23_3 {jz : Nat} {cs : Int32} {sf : Value} {L : List Slot} {S : List Value} {H : Hp} {k : Nat} {n : Nat} {Q : MRes → Prop} {x y : Int32} : Wp (Pg jz cs sf) 23 (3, L, (.int y) :: (.int x) :: S, H, k, n) Q ↔ Wp (Pg jz cs sf) 23 (4, L, (.int (x >>> (y &&& 31))) :: S, H, k, n) Q := gP (d23_3 _ _ _) rfl rfl
theorem d23_4 (jz : Nat) (cs : Int32) (sf : Value) : decode ((Pg jz cs sf).mt 23).code 4 = .ok (.ireturn, 1) := (by decide +kernel : decode jdk_52_method_6_code 4 = .ok (.ireturn, 1))
theorem w23_4 {jz : Nat} {cs : Int32} {sf : Value} {L : List Slot} {S : List Value} {H : Hp} {k : Nat} {n : Nat} {Q : MRes → Prop} {x : Int32} (h1 : k ≤ 0) (h2 : n ≤ 0) : Wp (Pg jz cs sf) 23 (4, L, (.int x) :: S, H, k, n) Q ↔ Q (some (.int (x)), H) := gRet (d23_4 _ _ _) rfl rfl rfl rfl h1 h2
theorem r5_9_0 (jz : Nat) (cs : Int32) (sf : Value) (vs : List Value) : rdO (Pg jz cs sf) 5 9 (.inr 0, vs) = vs[0]? := rfl
theorem r6_15_0 (jz : Nat) (cs : Int32) (sf : Value) (vs : List Value) : rdO (Pg jz cs sf) 6 15 (.inr 0, vs) = vs[1]? := rfl
theorem r11_9_0 (jz : Nat) (cs : Int32) (sf : Value) (vs : List Value) : rdO (Pg jz cs sf) 11 9 (.inr 0, vs) = vs[0]? := rfl
theorem r12_15_0 (jz : Nat) (cs : Int32) (sf : Value) (vs : List Value) : rdO (Pg jz cs sf) 12 15 (.inr 0, vs) = vs[1]? := rfl
theorem q3_15_0 (jz : Nat) (cs : Int32) (sf : Value) (x : Int32) (u0 u1 : Value) : wrO (Pg jz cs sf) 3 15 (.int x) (.inr 0, [u0, u1]) = some (.inr 0, [u0, .int x.toInt8.toInt32]) := rfl
theorem q3_9_0 (jz : Nat) (cs : Int32) (sf : Value) (x : Nat) (u0 u1 : Value) : wrO (Pg jz cs sf) 3 9 (.ref x) (.inr 0, [u0, u1]) = some (.inr 0, [.ref x, u1]) := rfl
theorem q3_9_0n (jz : Nat) (cs : Int32) (sf : Value) (u0 u1 : Value) : wrO (Pg jz cs sf) 3 9 .null (.inr 0, [u0, u1]) = some (.inr 0, [.null, u1]) := rfl
theorem own_bit8 (x : BitVec 32) : (BitVec.signExtend 32 (BitVec.setWidth 8 x)) &&& 255#32 = x &&& 255#32 := by
  apply BitVec.eq_of_getLsbD_eq
  intro i hi
  by_cases h : i < 8
  · simp only [BitVec.getLsbD_and, BitVec.getLsbD_signExtend, h, hi, BitVec.getLsbD_setWidth, if_true, decide_true, Bool.true_and]
  · have : (255#32).getLsbD i = false := by
      simp only [BitVec.getLsbD_ofNat, hi, decide_true, Bool.true_and]
      exact Nat.testBit_lt_two_pow (Nat.lt_of_lt_of_le (by decide : 255 < 2 ^ 8) (Nat.pow_le_pow_right (by decide) (by omega)))
    simp only [BitVec.getLsbD_and, this, Bool.and_false]
theorem own_join (x : BitVec 32) (h : x.toNat < 65536) : (x &&& 255#32) ||| ((x.sshiftRight 8 &&& 255#32) <<< 8) = x := by
  apply BitVec.eq_of_toNat_eq
  have hm : x.msb = false := by rw [BitVec.msb_eq_false_iff_two_mul_lt]; omega
  rw [BitVec.sshiftRight_eq_of_msb_false hm]
  simp only [BitVec.toNat_or, BitVec.toNat_and, BitVec.toNat_shiftLeft, BitVec.toNat_ushiftRight, BitVec.toNat_ofNat]
  generalize x.toNat = n at h
  have e1 : n &&& 255 = n % 256 := Nat.and_two_pow_sub_one_eq_mod n 8
  have e2 : n >>> 8 = n / 256 := Nat.shiftRight_eq_div_pow n 8
  have e3 : (n / 256) &&& 255 = n / 256 % 256 := Nat.and_two_pow_sub_one_eq_mod _ 8
  have e4 : (n / 256 % 256) <<< 8 = (n / 256 % 256) * 256 := Nat.shiftLeft_eq _ 8
  show (n &&& 255) ||| ((n >>> 8 &&& 255) <<< 8) % 4294967296 = n
  rw [e1, e2, e3, e4]
  have e5 : n / 256 % 256 * 256 % 4294967296 = 2 ^ 8 * (n / 256) := by omega
  rw [e5, Nat.or_comm, ← Nat.two_pow_add_eq_or_of_lt (show n % 256 < 2 ^ 8 by omega)]
  omega
theorem own_i8 (c : Int32) : c.toInt8.toInt32 &&& 255 = c &&& 255 := by
  apply Int32.toBitVec_inj.mp
  rw [Int32.toBitVec_and, Int32.toBitVec_and]
  have e : c.toInt8.toInt32.toBitVec = BitVec.signExtend 32 (BitVec.setWidth 8 c.toBitVec) := by
    show BitVec.signExtend 32 (BitVec.signExtend 8 c.toBitVec) = _
    exact congrArg (BitVec.signExtend 32) (BitVec.signExtend_eq_setWidth_of_le (x := c.toBitVec) (v := 8) (by decide))
  rw [e]
  exact own_bit8 c.toBitVec
theorem own_i8i (c : Int32) : c.toInt8.toInt32.toInt8.toInt32 = c.toInt8.toInt32 := by
  simp
theorem own_nn (c : Int32) : c.toUInt32.toUInt16.toUInt32.toInt32.toUInt32.toUInt16.toUInt32.toInt32 = c.toUInt32.toUInt16.toUInt32.toInt32 := by
  apply Int32.toBitVec_inj.mp
  show BitVec.setWidth 32 (BitVec.setWidth 16 (BitVec.setWidth 32 (BitVec.setWidth 16 c.toBitVec))) = BitVec.setWidth 32 (BitVec.setWidth 16 c.toBitVec)
  apply BitVec.eq_of_toNat_eq
  simp only [BitVec.toNat_setWidth]
  omega
theorem own_nat_of (c : Int32) (h : c.toUInt32.toUInt16.toUInt32.toInt32 = c) : c.toBitVec.toNat < 65536 := by
  rw [← h]
  show (BitVec.setWidth 32 (BitVec.setWidth 16 c.toBitVec)).toNat < 65536
  simp only [BitVec.toNat_setWidth]
  omega
theorem own_joinI (c : Int32) (h : c.toUInt32.toUInt16.toUInt32.toInt32 = c) : (c.toInt8.toInt32 &&& 255) ||| (((c >>> (8 : Int32)).toInt8.toInt32 &&& 255) <<< (8 : Int32)) = c := by
  rw [own_i8, own_i8]
  apply Int32.toBitVec_inj.mp
  rw [Int32.toBitVec_or, Int32.toBitVec_and, Int32.toBitVec_shiftLeft, Int32.toBitVec_and, Int32.toBitVec_shiftRight]
  exact own_join c.toBitVec (own_nat_of c h)
theorem own_lat (c : Int32) (h : c.toUInt32.toUInt16.toUInt32.toInt32 = c) (h2 : ¬ 255 < c) : c.toInt8.toInt32 &&& 255 = c := by
  rw [own_i8]
  apply Int32.toBitVec_inj.mp
  rw [Int32.toBitVec_and]
  apply BitVec.eq_of_toNat_eq
  have hn := own_nat_of c h
  have : c.toInt ≤ 255 := Int32.le_iff_toInt_le.mp (Int32.not_lt.mp h2)
  have e : c.toInt = c.toBitVec.toNat := by
    show c.toBitVec.toInt = _
    rw [BitVec.toInt_eq_toNat_of_lt (by omega)]
  simp only [BitVec.toNat_and]
  show c.toBitVec.toNat &&& 255 = _
  rw [Nat.and_two_pow_sub_one_eq_mod _ 8]
  omega
theorem own_shr0 (c : Int32) : c >>> (0 : Int32) = c := by
  apply Int32.toBitVec_inj.mp
  rw [Int32.toBitVec_shiftRight]
  show c.toBitVec.sshiftRight _ = _
  simp
theorem own_shl0 (c : Int32) : c <<< (0 : Int32) = c := by
  apply Int32.toBitVec_inj.mp
  rw [Int32.toBitVec_shiftLeft]
  simp
theorem own_le31 (c : Int32) : (c ≤ 31) = (c < 32) := by
  apply propext
  rw [Int32.le_iff_toInt_le, Int32.lt_iff_toInt_lt]
  show c.toInt ≤ 31 ↔ c.toInt < 32
  omega
theorem own_le127 (c : Int32) : (127 ≤ c) = ¬ (c ≤ 126) := by
  apply propext
  rw [Int32.le_iff_toInt_le, Int32.le_iff_toInt_le]
  show 127 ≤ c.toInt ↔ ¬ c.toInt ≤ 126
  omega
theorem own_le255 (c : Int32) : (c ≤ 255) = ¬ (255 < c) := by
  apply propext
  rw [Int32.le_iff_toInt_le, Int32.lt_iff_toInt_lt]
  show c.toInt ≤ 255 ↔ ¬ 255 < c.toInt
  omega
theorem own_u0 : XT.ushr 0 31 = 0 := by decide
theorem own_u1 : XT.ushr (-1) 31 = 1 := by decide
theorem own_u2 : XT.ushr (-2) 31 = 1 := by decide
theorem own_u3 : XT.ushr (-3) 31 = 1 := by decide
theorem own_b0 : (0 : Int32).toInt8.toInt32 = 0 := by decide
theorem own_b1 : (1 : Int32).toInt8.toInt32 = 1 := by decide
theorem own_s0 : (0 : Int32) &&& 31 = 0 := by decide
theorem own_s1 : (1 : Int32) &&& 31 = 1 := by decide
theorem own_s8 : (8 : Int32) &&& 31 = 8 := by decide
theorem own_h2 : (1 : Int32) <<< (1 : Int32) = 2 := by decide
theorem own_h4 : (2 : Int32) <<< (1 : Int32) = 4 := by decide
theorem own_h6 : (3 : Int32) <<< (1 : Int32) = 6 := by decide
theorem own_z0 : (0 : Int32) <<< (1 : Int32) = 0 := by decide
theorem own_h7 (c : Int32) (h : c.toUInt32.toUInt16.toUInt32.toInt32 = c) : (c.toInt8.toInt32 &&& 255) <<< (0 &&& 31) ||| ((c >>> (8 : Int32)).toInt8.toInt32 &&& 255) <<< (8 &&& 31) = c := by
  rw [own_s0, own_s8, own_shl0]
  exact own_joinI c h
abbrev own_L (cs : Int32) (sf : Value) (H : Hp) (n : Int32) : Prop := ∀ Q : MRes → Prop, Wp (Pg 1 cs sf) 5 (0, [.val (.ref 1)], [], H, 0, 0) Q ↔ Q (some (.int n), H)
abbrev own_C (cs : Int32) (sf : Value) (H : Hp) (i c : Int32) : Prop := ∀ Q : MRes → Prop, Wp (Pg 1 cs sf) 11 (0, [.val (.ref 1), .val (.int i)], [], H, 0, 0) Q ↔ Q (some (.int c), H)
theorem own_draw {jz : Nat} {cs : Int32} {sf : Value} (x : Int32) : ∃ c : Int32, c.toUInt32.toUInt16.toUInt32.toInt32 = c ∧ ∀ (H : Hp) (Q : MRes → Prop), Wp (Pg jz cs sf) 1 (0, [.val (.int x)], [], H, 0, 0) Q ↔ Q (some (.int c), H) := by
  by_cases h : XT.ushr x 16 &&& 1 = 0
  · refine ⟨_, own_nn (x &&& 255), fun H Q => ?_⟩
    simp +decide only [w1_0, w1_1, w1_3, w1_4, w1_5, w1_6, w1_9, w1_10, w1_12, w1_13, w1_14, w1_15, w1_16, w1_19, w1_20, w1_21, List.length_cons, List.length_nil, List.length_append, List.length_set, List.length_replicate, wt_nil, wt_int, wt_ref, wt_null, wt_long, wt_double, s1_unset, s1_int, s1_ref, s1_null, s2_unset, s2_val, s3_unset, s3_second, s3_int, s3_ref, isA_ref', isA_null', cat_int, cat_ref, cat_null, List.cons_append, List.nil_append, List.getElem?_cons_zero, List.getElem?_cons_succ, List.getElem?_nil, List.set_cons_zero, List.set_cons_succ, Option.toList_some, Option.toList_none, Option.some.injEq, exists_eq_left', Option.bind_some, Option.map_some, kdOf_eq, kdO_obj, rdF_eq, wrF_eq, alen_eq, ldA_eq, ldO_i, ldO_b, ldO_c, ldO_a, stA_i, stO_i, stA_b, stO_b, stA_c, stO_c, stA_d, stO_d, ldO_d, j0_eq, Nat.not_lt_zero, if_true, if_false, not_false_eq_true, not_true_eq_false, true_and, and_true, reduceCtorEq, Value.ref.injEq, ne_eq, Nat.zero_add, Nat.add_zero, Nat.reduceAdd, Nat.reduceLeDiff, Nat.le_refl, Nat.reduceLT, Nat.zero_le, Value.int.injEq, Value.long.injEq, tn0, tn1, tn2, tn3, tn4, tn5, tn6, tn7, tn8, tn9, tl0, tl1, tl2, tl3, tl4, tl5, tl6, tl7, tl8, tl9, rp0, rp1, rp2, rp3, rp4, rp5, rp6, rp7, rp8, rp9, alO_a, an0, an1, ↓reduceIte, Int32.reduceAdd, Int32.reduceSub, Int32.reduceMul, Int32.reduceLT, Int32.reduceLE, Int32.reduceToNatClampNeg, Int64.reduceLT, Int64.reduceLE, Int64.reduceAdd, on0, on1, on2, on3, on4, on5, on6, on7, on8, on9, h, own_nn]
  · refine ⟨_, own_nn (x &&& 65535), fun H Q => ?_⟩
    simp +decide only [w1_0, w1_1, w1_3, w1_4, w1_5, w1_6, w1_9, w1_10, w1_12, w1_13, w1_14, w1_15, w1_16, w1_19, w1_20, w1_21, List.length_cons, List.length_nil, List.length_append, List.length_set, List.length_replicate, wt_nil, wt_int, wt_ref, wt_null, wt_long, wt_double, s1_unset, s1_int, s1_ref, s1_null, s2_unset, s2_val, s3_unset, s3_second, s3_int, s3_ref, isA_ref', isA_null', cat_int, cat_ref, cat_null, List.cons_append, List.nil_append, List.getElem?_cons_zero, List.getElem?_cons_succ, List.getElem?_nil, List.set_cons_zero, List.set_cons_succ, Option.toList_some, Option.toList_none, Option.some.injEq, exists_eq_left', Option.bind_some, Option.map_some, kdOf_eq, kdO_obj, rdF_eq, wrF_eq, alen_eq, ldA_eq, ldO_i, ldO_b, ldO_c, ldO_a, stA_i, stO_i, stA_b, stO_b, stA_c, stO_c, stA_d, stO_d, ldO_d, j0_eq, Nat.not_lt_zero, if_true, if_false, not_false_eq_true, not_true_eq_false, true_and, and_true, reduceCtorEq, Value.ref.injEq, ne_eq, Nat.zero_add, Nat.add_zero, Nat.reduceAdd, Nat.reduceLeDiff, Nat.le_refl, Nat.reduceLT, Nat.zero_le, Value.int.injEq, Value.long.injEq, tn0, tn1, tn2, tn3, tn4, tn5, tn6, tn7, tn8, tn9, tl0, tl1, tl2, tl3, tl4, tl5, tl6, tl7, tl8, tl9, rp0, rp1, rp2, rp3, rp4, rp5, rp6, rp7, rp8, rp9, alO_a, an0, an1, ↓reduceIte, Int32.reduceAdd, Int32.reduceSub, Int32.reduceMul, Int32.reduceLT, Int32.reduceLE, Int32.reduceToNatClampNeg, Int64.reduceLT, Int64.reduceLE, Int64.reduceAdd, on0, on1, on2, on3, on4, on5, on6, on7, on8, on9, h, own_nn]
theorem own_len0 {cs : Int32} {sf : Value} (hcs : ¬ cs = 0) (hsf : cat sf = 1) {H : Hp} {v : Nat} {bs : List Value} {n d : Int32} (e1 : H[1]? = some (.inr 0, [.ref v, .int d])) (e2 : H[v]? = some (.inl .byte, bs)) (hd : d.toInt8.toInt32 = d) (hn : bs.length.toInt32 >>> (d &&& 31) = n) : own_L cs sf H n := fun Q => by
  have k : kdOf H 1 = some 0 := by simp only [kdOf_eq, e1, Option.bind_some, kdO_obj]
  simp +decide only [w5_0, w5_1, w5_4, w5_5, w5_6, w5_9, w5_10, w6_0, w6_3, w6_6, w6_7, w6_10, w6_13, w6_14, List.length_cons, List.length_nil, List.length_append, List.length_set, List.length_replicate, wt_nil, wt_int, wt_ref, wt_null, wt_long, wt_double, s1_unset, s1_int, s1_ref, s1_null, s2_unset, s2_val, s3_unset, s3_second, s3_int, s3_ref, isA_ref', isA_null', cat_int, cat_ref, cat_null, List.cons_append, List.nil_append, List.getElem?_cons_zero, List.getElem?_cons_succ, List.getElem?_nil, List.set_cons_zero, List.set_cons_succ, Option.toList_some, Option.toList_none, Option.some.injEq, exists_eq_left', Option.bind_some, Option.map_some, kdOf_eq, kdO_obj, rdF_eq, wrF_eq, alen_eq, ldA_eq, ldO_i, ldO_b, ldO_c, ldO_a, stA_i, stO_i, stA_b, stO_b, stA_c, stO_c, stA_d, stO_d, ldO_d, j0_eq, Nat.not_lt_zero, if_true, if_false, not_false_eq_true, not_true_eq_false, true_and, and_true, reduceCtorEq, Value.ref.injEq, ne_eq, Nat.zero_add, Nat.add_zero, Nat.reduceAdd, Nat.reduceLeDiff, Nat.le_refl, Nat.reduceLT, Nat.zero_le, Value.int.injEq, Value.long.injEq, tn0, tn1, tn2, tn3, tn4, tn5, tn6, tn7, tn8, tn9, tl0, tl1, tl2, tl3, tl4, tl5, tl6, tl7, tl8, tl9, rp0, rp1, rp2, rp3, rp4, rp5, rp6, rp7, rp8, rp9, alO_a, an0, an1, ↓reduceIte, Int32.reduceAdd, Int32.reduceSub, Int32.reduceMul, Int32.reduceLT, Int32.reduceLE, Int32.reduceToNatClampNeg, Int64.reduceLT, Int64.reduceLE, Int64.reduceAdd, on0, on1, on2, on3, on4, on5, on6, on7, on8, on9, r5_9_0, r6_15_0, r11_9_0, r12_15_0, q3_15_0, q3_9_0, q3_9_0n, hcs, hsf, k, e1, e2, hd, hn]
theorem own_latC {cs : Int32} {sf : Value} (hcs : ¬ cs = 0) (hsf : cat sf = 1) {H : Hp} {v : Nat} {bs : List Value} {i b c : Int32} (e1 : H[1]? = some (.inr 0, [.ref v, .int 0])) (e2 : H[v]? = some (.inl .byte, bs)) (h1 : ¬ i < 0) (h2 : i < bs.length.toInt32) (h3 : bs[i.toNatClampNeg]? = some (.int b)) (h4 : b &&& 255 = c) (hc : c.toUInt32.toUInt16.toUInt32.toInt32 = c) : own_C cs sf H i c := fun Q => by
  have k : kdOf H 1 = some 0 := by simp only [kdOf_eq, e1, Option.bind_some, kdO_obj]
  simp +decide only [w11_0, w11_1, w11_4, w11_7, w11_8, w11_11, w11_12, w11_15, w11_16, w11_17, w11_20, w11_21, w11_24, w12_0, w12_3, w12_6, w12_7, w12_10, w12_13, w12_14, w12_17, w12_18, w13_0, w13_1, w13_2, w13_3, w13_6, w13_7, w13_8, w13_9, w13_12, w13_13, w13_14, w14_0, w14_1, w14_2, w14_5, w14_8, w14_9, w15_0, w15_1, w15_4, w15_5, w15_6, w15_9, w15_10, w15_11, w15_16, w15_17, List.length_cons, List.length_nil, List.length_append, List.length_set, List.length_replicate, wt_nil, wt_int, wt_ref, wt_null, wt_long, wt_double, s1_unset, s1_int, s1_ref, s1_null, s2_unset, s2_val, s3_unset, s3_second, s3_int, s3_ref, isA_ref', isA_null', cat_int, cat_ref, cat_null, List.cons_append, List.nil_append, List.getElem?_cons_zero, List.getElem?_cons_succ, List.getElem?_nil, List.set_cons_zero, List.set_cons_succ, Option.toList_some, Option.toList_none, Option.some.injEq, exists_eq_left', Option.bind_some, Option.map_some, kdOf_eq, kdO_obj, rdF_eq, wrF_eq, alen_eq, ldA_eq, ldO_i, ldO_b, ldO_c, ldO_a, stA_i, stO_i, stA_b, stO_b, stA_c, stO_c, stA_d, stO_d, ldO_d, j0_eq, Nat.not_lt_zero, if_true, if_false, not_false_eq_true, not_true_eq_false, true_and, and_true, reduceCtorEq, Value.ref.injEq, ne_eq, Nat.zero_add, Nat.add_zero, Nat.reduceAdd, Nat.reduceLeDiff, Nat.le_refl, Nat.reduceLT, Nat.zero_le, Value.int.injEq, Value.long.injEq, tn0, tn1, tn2, tn3, tn4, tn5, tn6, tn7, tn8, tn9, tl0, tl1, tl2, tl3, tl4, tl5, tl6, tl7, tl8, tl9, rp0, rp1, rp2, rp3, rp4, rp5, rp6, rp7, rp8, rp9, alO_a, an0, an1, ↓reduceIte, Int32.reduceAdd, Int32.reduceSub, Int32.reduceMul, Int32.reduceLT, Int32.reduceLE, Int32.reduceToNatClampNeg, Int64.reduceLT, Int64.reduceLE, Int64.reduceAdd, on0, on1, on2, on3, on4, on5, on6, on7, on8, on9, r5_9_0, r6_15_0, r11_9_0, r12_15_0, q3_15_0, q3_9_0, q3_9_0n, hcs, hsf, k, e1, e2, h1, h2, h3, h4, hc]
theorem own_utfC {cs : Int32} {sf : Value} (hcs : ¬ cs = 0) (hsf : cat sf = 1) {H : Hp} {v : Nat} {bs : List Value} {i b0 b1 c : Int32} (e1 : H[1]? = some (.inr 0, [.ref v, .int 1])) (e2 : H[v]? = some (.inl .byte, bs)) (h1 : ¬ i < 0) (h2 : i < bs.length.toInt32 >>> (1 &&& 31)) (h3 : ¬ i <<< (1 &&& 31) < 0) (h4 : bs[(i <<< (1 &&& 31)).toNatClampNeg]? = some (.int b0)) (h5 : ¬ i <<< (1 &&& 31) + 1 < 0) (h6 : bs[(i <<< (1 &&& 31) + 1).toNatClampNeg]? = some (.int b1)) (h7 : (b0 &&& 255) <<< (0 &&& 31) ||| (b1 &&& 255) <<< (8 &&& 31) = c) (hc : c.toUInt32.toUInt16.toUInt32.toInt32 = c) : own_C cs sf H i c := fun Q => by
  have z1 : ¬ (1 : Int32) = 0 := by decide
  have k : kdOf H 1 = some 0 := by simp only [kdOf_eq, e1, Option.bind_some, kdO_obj]
  simp +decide only [w11_0, w11_1, w11_4, w11_7, w11_8, w11_11, w11_12, w11_15, w11_16, w11_17, w11_20, w11_21, w11_24, w12_0, w12_3, w12_6, w12_7, w12_10, w12_13, w12_14, w12_17, w12_18, w14_0, w14_1, w14_2, w14_5, w14_8, w14_9, w15_0, w15_1, w15_4, w15_5, w15_6, w15_9, w15_10, w15_11, w15_16, w15_17, w20_0, w20_3, w20_6, w20_7, w20_10, w20_11, w20_12, w20_15, w20_28, w20_29, w20_30, w20_31, w20_32, w20_33, w20_34, w20_37, w20_38, w20_41, w20_42, w20_45, w20_46, w20_47, w20_48, w20_49, w20_52, w20_53, w20_56, w20_57, w20_58, w20_59, w21_0, w21_1, w21_2, w21_5, w21_6, w21_7, w21_10, w22_0, w22_1, w22_2, w22_5, w22_8, w23_0, w23_1, w23_2, w23_3, w23_4, List.length_cons, List.length_nil, List.length_append, List.length_set, List.length_replicate, wt_nil, wt_int, wt_ref, wt_null, wt_long, wt_double, s1_unset, s1_int, s1_ref, s1_null, s2_unset, s2_val, s3_unset, s3_second, s3_int, s3_ref, isA_ref', isA_null', cat_int, cat_ref, cat_null, List.cons_append, List.nil_append, List.getElem?_cons_zero, List.getElem?_cons_succ, List.getElem?_nil, List.set_cons_zero, List.set_cons_succ, Option.toList_some, Option.toList_none, Option.some.injEq, exists_eq_left', Option.bind_some, Option.map_some, kdOf_eq, kdO_obj, rdF_eq, wrF_eq, alen_eq, ldA_eq, ldO_i, ldO_b, ldO_c, ldO_a, stA_i, stO_i, stA_b, stO_b, stA_c, stO_c, stA_d, stO_d, ldO_d, j0_eq, Nat.not_lt_zero, if_true, if_false, not_false_eq_true, not_true_eq_false, true_and, and_true, reduceCtorEq, Value.ref.injEq, ne_eq, Nat.zero_add, Nat.add_zero, Nat.reduceAdd, Nat.reduceLeDiff, Nat.le_refl, Nat.reduceLT, Nat.zero_le, Value.int.injEq, Value.long.injEq, tn0, tn1, tn2, tn3, tn4, tn5, tn6, tn7, tn8, tn9, tl0, tl1, tl2, tl3, tl4, tl5, tl6, tl7, tl8, tl9, rp0, rp1, rp2, rp3, rp4, rp5, rp6, rp7, rp8, rp9, alO_a, an0, an1, ↓reduceIte, Int32.reduceAdd, Int32.reduceSub, Int32.reduceMul, Int32.reduceLT, Int32.reduceLE, Int32.reduceToNatClampNeg, Int64.reduceLT, Int64.reduceLE, Int64.reduceAdd, on0, on1, on2, on3, on4, on5, on6, on7, on8, on9, r5_9_0, r6_15_0, r11_9_0, r12_15_0, q3_15_0, q3_9_0, q3_9_0n, hcs, hsf, k, e1, e2, h1, h2, h3, h4, h5, h6, h7, hc, z1]
theorem own_e0 {cs : Int32} {sf : Value} {H : Hp} (Q : MRes → Prop) : Wp (Pg 1 cs sf) 4 (0, [.val (.ref 1), .unset], [], H, 0, 0) Q ↔ Wp (Pg 1 cs sf) 4 (2, [.val (.ref 1), .val (.int 0)], [], H, 0, 0) Q := by
  simp +decide only [w4_0, w4_1, List.length_cons, List.length_nil, List.length_append, List.length_set, List.length_replicate, wt_nil, wt_int, wt_ref, wt_null, wt_long, wt_double, s1_unset, s1_int, s1_ref, s1_null, s2_unset, s2_val, s3_unset, s3_second, s3_int, s3_ref, isA_ref', isA_null', cat_int, cat_ref, cat_null, List.cons_append, List.nil_append, List.getElem?_cons_zero, List.getElem?_cons_succ, List.getElem?_nil, List.set_cons_zero, List.set_cons_succ, Option.toList_some, Option.toList_none, Option.some.injEq, exists_eq_left', Option.bind_some, Option.map_some, kdOf_eq, kdO_obj, rdF_eq, wrF_eq, alen_eq, ldA_eq, ldO_i, ldO_b, ldO_c, ldO_a, stA_i, stO_i, stA_b, stO_b, stA_c, stO_c, stA_d, stO_d, ldO_d, j0_eq, Nat.not_lt_zero, if_true, if_false, not_false_eq_true, not_true_eq_false, true_and, and_true, reduceCtorEq, Value.ref.injEq, ne_eq, Nat.zero_add, Nat.add_zero, Nat.reduceAdd, Nat.reduceLeDiff, Nat.le_refl, Nat.reduceLT, Nat.zero_le, Value.int.injEq, Value.long.injEq, tn0, tn1, tn2, tn3, tn4, tn5, tn6, tn7, tn8, tn9, tl0, tl1, tl2, tl3, tl4, tl5, tl6, tl7, tl8, tl9, rp0, rp1, rp2, rp3, rp4, rp5, rp6, rp7, rp8, rp9, alO_a, an0, an1, ↓reduceIte, Int32.reduceAdd, Int32.reduceSub, Int32.reduceMul, Int32.reduceLT, Int32.reduceLE, Int32.reduceToNatClampNeg, Int64.reduceLT, Int64.reduceLE, Int64.reduceAdd, on0, on1, on2, on3, on4, on5, on6, on7, on8, on9]
theorem own_good {cs : Int32} {sf : Value} {H : Hp} {n i j c : Int32} (hk : ∃ vs, H[1]? = some (.inr 0, vs)) (hL : own_L cs sf H n) (hC : own_C cs sf H i c) (hlt : ¬ n ≤ i) (hj : i + 1 = j) (g : ¬ c < 32 ∧ c ≤ 126) (Q : MRes → Prop) : Wp (Pg 1 cs sf) 4 (2, [.val (.ref 1), .val (.int i)], [], H, 0, 0) Q ↔ Wp (Pg 1 cs sf) 4 (2, [.val (.ref 1), .val (.int j)], [], H, 0, 0) Q := by
  obtain ⟨vs, hk⟩ := hk
  obtain ⟨g1, g2⟩ := g
  rw [w4_2]
  simp +decide only [w4_3, w4_4, w4_7, w4_10, w4_11, w4_12, w4_15, w4_17, w4_20, w4_21, w4_22, w4_25, w4_27, w4_30, w4_31, w4_32, w4_35, List.length_cons, List.length_nil, List.length_append, List.length_set, List.length_replicate, wt_nil, wt_int, wt_ref, wt_null, wt_long, wt_double, s1_unset, s1_int, s1_ref, s1_null, s2_unset, s2_val, s3_unset, s3_second, s3_int, s3_ref, isA_ref', isA_null', cat_int, cat_ref, cat_null, List.cons_append, List.nil_append, List.getElem?_cons_zero, List.getElem?_cons_succ, List.getElem?_nil, List.set_cons_zero, List.set_cons_succ, Option.toList_some, Option.toList_none, Option.some.injEq, exists_eq_left', Option.bind_some, Option.map_some, kdOf_eq, kdO_obj, rdF_eq, wrF_eq, alen_eq, ldA_eq, ldO_i, ldO_b, ldO_c, ldO_a, stA_i, stO_i, stA_b, stO_b, stA_c, stO_c, stA_d, stO_d, ldO_d, j0_eq, Nat.not_lt_zero, if_true, if_false, not_false_eq_true, not_true_eq_false, true_and, and_true, reduceCtorEq, Value.ref.injEq, ne_eq, Nat.zero_add, Nat.add_zero, Nat.reduceAdd, Nat.reduceLeDiff, Nat.le_refl, Nat.reduceLT, Nat.zero_le, Value.int.injEq, Value.long.injEq, tn0, tn1, tn2, tn3, tn4, tn5, tn6, tn7, tn8, tn9, tl0, tl1, tl2, tl3, tl4, tl5, tl6, tl7, tl8, tl9, rp0, rp1, rp2, rp3, rp4, rp5, rp6, rp7, rp8, rp9, alO_a, an0, an1, ↓reduceIte, Int32.reduceAdd, Int32.reduceSub, Int32.reduceMul, Int32.reduceLT, Int32.reduceLE, Int32.reduceToNatClampNeg, Int64.reduceLT, Int64.reduceLE, Int64.reduceAdd, on0, on1, on2, on3, on4, on5, on6, on7, on8, on9, hk, hL, hC, hlt, g1, g2, hj]
theorem own_bad {cs : Int32} {sf : Value} {H : Hp} {n i c : Int32} (hk : ∃ vs, H[1]? = some (.inr 0, vs)) (hL : own_L cs sf H n) (hC : own_C cs sf H i c) (hlt : ¬ n ≤ i) (g : ¬ (¬ c < 32 ∧ c ≤ 126)) (Q : MRes → Prop) : Wp (Pg 1 cs sf) 4 (2, [.val (.ref 1), .val (.int i)], [], H, 0, 0) Q ↔ Q (some (.int 0), H) := by
  obtain ⟨vs, hk⟩ := hk
  rw [w4_2]
  by_cases g1 : c < 32
  · simp +decide only [w4_3, w4_4, w4_7, w4_10, w4_11, w4_12, w4_15, w4_17, w4_20, w4_21, w4_22, w4_25, w4_27, w4_30, w4_31, w4_32, w4_35, List.length_cons, List.length_nil, List.length_append, List.length_set, List.length_replicate, wt_nil, wt_int, wt_ref, wt_null, wt_long, wt_double, s1_unset, s1_int, s1_ref, s1_null, s2_unset, s2_val, s3_unset, s3_second, s3_int, s3_ref, isA_ref', isA_null', cat_int, cat_ref, cat_null, List.cons_append, List.nil_append, List.getElem?_cons_zero, List.getElem?_cons_succ, List.getElem?_nil, List.set_cons_zero, List.set_cons_succ, Option.toList_some, Option.toList_none, Option.some.injEq, exists_eq_left', Option.bind_some, Option.map_some, kdOf_eq, kdO_obj, rdF_eq, wrF_eq, alen_eq, ldA_eq, ldO_i, ldO_b, ldO_c, ldO_a, stA_i, stO_i, stA_b, stO_b, stA_c, stO_c, stA_d, stO_d, ldO_d, j0_eq, Nat.not_lt_zero, if_true, if_false, not_false_eq_true, not_true_eq_false, true_and, and_true, reduceCtorEq, Value.ref.injEq, ne_eq, Nat.zero_add, Nat.add_zero, Nat.reduceAdd, Nat.reduceLeDiff, Nat.le_refl, Nat.reduceLT, Nat.zero_le, Value.int.injEq, Value.long.injEq, tn0, tn1, tn2, tn3, tn4, tn5, tn6, tn7, tn8, tn9, tl0, tl1, tl2, tl3, tl4, tl5, tl6, tl7, tl8, tl9, rp0, rp1, rp2, rp3, rp4, rp5, rp6, rp7, rp8, rp9, alO_a, an0, an1, ↓reduceIte, Int32.reduceAdd, Int32.reduceSub, Int32.reduceMul, Int32.reduceLT, Int32.reduceLE, Int32.reduceToNatClampNeg, Int64.reduceLT, Int64.reduceLE, Int64.reduceAdd, on0, on1, on2, on3, on4, on5, on6, on7, on8, on9, hk, hL, hC, hlt, g1]
  · have g2 : ¬ c ≤ 126 := fun z => g ⟨g1, z⟩
    simp +decide only [w4_3, w4_4, w4_7, w4_10, w4_11, w4_12, w4_15, w4_17, w4_20, w4_21, w4_22, w4_25, w4_27, w4_30, w4_31, w4_32, w4_35, List.length_cons, List.length_nil, List.length_append, List.length_set, List.length_replicate, wt_nil, wt_int, wt_ref, wt_null, wt_long, wt_double, s1_unset, s1_int, s1_ref, s1_null, s2_unset, s2_val, s3_unset, s3_second, s3_int, s3_ref, isA_ref', isA_null', cat_int, cat_ref, cat_null, List.cons_append, List.nil_append, List.getElem?_cons_zero, List.getElem?_cons_succ, List.getElem?_nil, List.set_cons_zero, List.set_cons_succ, Option.toList_some, Option.toList_none, Option.some.injEq, exists_eq_left', Option.bind_some, Option.map_some, kdOf_eq, kdO_obj, rdF_eq, wrF_eq, alen_eq, ldA_eq, ldO_i, ldO_b, ldO_c, ldO_a, stA_i, stO_i, stA_b, stO_b, stA_c, stO_c, stA_d, stO_d, ldO_d, j0_eq, Nat.not_lt_zero, if_true, if_false, not_false_eq_true, not_true_eq_false, true_and, and_true, reduceCtorEq, Value.ref.injEq, ne_eq, Nat.zero_add, Nat.add_zero, Nat.reduceAdd, Nat.reduceLeDiff, Nat.le_refl, Nat.reduceLT, Nat.zero_le, Value.int.injEq, Value.long.injEq, tn0, tn1, tn2, tn3, tn4, tn5, tn6, tn7, tn8, tn9, tl0, tl1, tl2, tl3, tl4, tl5, tl6, tl7, tl8, tl9, rp0, rp1, rp2, rp3, rp4, rp5, rp6, rp7, rp8, rp9, alO_a, an0, an1, ↓reduceIte, Int32.reduceAdd, Int32.reduceSub, Int32.reduceMul, Int32.reduceLT, Int32.reduceLE, Int32.reduceToNatClampNeg, Int64.reduceLT, Int64.reduceLE, Int64.reduceAdd, on0, on1, on2, on3, on4, on5, on6, on7, on8, on9, hk, hL, hC, hlt, g1, g2]
theorem own_end {cs : Int32} {sf : Value} {H : Hp} {n i : Int32} (hk : ∃ vs, H[1]? = some (.inr 0, vs)) (hL : own_L cs sf H n) (hlt : n ≤ i) (Q : MRes → Prop) : Wp (Pg 1 cs sf) 4 (2, [.val (.ref 1), .val (.int i)], [], H, 0, 0) Q ↔ Q (some (.int 1), H) := by
  obtain ⟨vs, hk⟩ := hk
  rw [w4_2]
  simp +decide only [w4_3, w4_4, w4_7, w4_10, w4_11, w4_12, w4_15, w4_17, w4_20, w4_21, w4_22, w4_25, w4_27, w4_30, w4_31, w4_32, w4_35, w4_38, w4_39, List.length_cons, List.length_nil, List.length_append, List.length_set, List.length_replicate, wt_nil, wt_int, wt_ref, wt_null, wt_long, wt_double, s1_unset, s1_int, s1_ref, s1_null, s2_unset, s2_val, s3_unset, s3_second, s3_int, s3_ref, isA_ref', isA_null', cat_int, cat_ref, cat_null, List.cons_append, List.nil_append, List.getElem?_cons_zero, List.getElem?_cons_succ, List.getElem?_nil, List.set_cons_zero, List.set_cons_succ, Option.toList_some, Option.toList_none, Option.some.injEq, exists_eq_left', Option.bind_some, Option.map_some, kdOf_eq, kdO_obj, rdF_eq, wrF_eq, alen_eq, ldA_eq, ldO_i, ldO_b, ldO_c, ldO_a, stA_i, stO_i, stA_b, stO_b, stA_c, stO_c, stA_d, stO_d, ldO_d, j0_eq, Nat.not_lt_zero, if_true, if_false, not_false_eq_true, not_true_eq_false, true_and, and_true, reduceCtorEq, Value.ref.injEq, ne_eq, Nat.zero_add, Nat.add_zero, Nat.reduceAdd, Nat.reduceLeDiff, Nat.le_refl, Nat.reduceLT, Nat.zero_le, Value.int.injEq, Value.long.injEq, tn0, tn1, tn2, tn3, tn4, tn5, tn6, tn7, tn8, tn9, tl0, tl1, tl2, tl3, tl4, tl5, tl6, tl7, tl8, tl9, rp0, rp1, rp2, rp3, rp4, rp5, rp6, rp7, rp8, rp9, alO_a, an0, an1, ↓reduceIte, Int32.reduceAdd, Int32.reduceSub, Int32.reduceMul, Int32.reduceLT, Int32.reduceLE, Int32.reduceToNatClampNeg, Int64.reduceLT, Int64.reduceLE, Int64.reduceAdd, on0, on1, on2, on3, on4, on5, on6, on7, on8, on9, hk, hL, hlt]
theorem own_pr1 {jz : Nat} {cs : Int32} {sf : Value} {c : Int32} (g : ¬ c < 32 ∧ c ≤ 126) (H : Hp) (Q : MRes → Prop) : Wp (Pg jz cs sf) 10 (0, [.val (.int c), .unset], [], H, 0, 0) Q ↔ Q (some (.int 1), H) := by
  obtain ⟨g1, g2⟩ := g
  simp +decide only [w10_0, w10_1, w10_2, w10_3, w10_5, w10_8, w10_9, w10_11, w10_14, w10_15, w10_18, w10_19, List.length_cons, List.length_nil, List.length_append, List.length_set, List.length_replicate, wt_nil, wt_int, wt_ref, wt_null, wt_long, wt_double, s1_unset, s1_int, s1_ref, s1_null, s2_unset, s2_val, s3_unset, s3_second, s3_int, s3_ref, isA_ref', isA_null', cat_int, cat_ref, cat_null, List.cons_append, List.nil_append, List.getElem?_cons_zero, List.getElem?_cons_succ, List.getElem?_nil, List.set_cons_zero, List.set_cons_succ, Option.toList_some, Option.toList_none, Option.some.injEq, exists_eq_left', Option.bind_some, Option.map_some, kdOf_eq, kdO_obj, rdF_eq, wrF_eq, alen_eq, ldA_eq, ldO_i, ldO_b, ldO_c, ldO_a, stA_i, stO_i, stA_b, stO_b, stA_c, stO_c, stA_d, stO_d, ldO_d, j0_eq, Nat.not_lt_zero, if_true, if_false, not_false_eq_true, not_true_eq_false, true_and, and_true, reduceCtorEq, Value.ref.injEq, ne_eq, Nat.zero_add, Nat.add_zero, Nat.reduceAdd, Nat.reduceLeDiff, Nat.le_refl, Nat.reduceLT, Nat.zero_le, Value.int.injEq, Value.long.injEq, tn0, tn1, tn2, tn3, tn4, tn5, tn6, tn7, tn8, tn9, tl0, tl1, tl2, tl3, tl4, tl5, tl6, tl7, tl8, tl9, rp0, rp1, rp2, rp3, rp4, rp5, rp6, rp7, rp8, rp9, alO_a, an0, an1, ↓reduceIte, Int32.reduceAdd, Int32.reduceSub, Int32.reduceMul, Int32.reduceLT, Int32.reduceLE, Int32.reduceToNatClampNeg, Int64.reduceLT, Int64.reduceLE, Int64.reduceAdd, on0, on1, on2, on3, on4, on5, on6, on7, on8, on9, own_le31, own_le127, g1, g2]
theorem own_pr0 {jz : Nat} {cs : Int32} {sf : Value} {c : Int32} (g : ¬ (¬ c < 32 ∧ c ≤ 126)) (H : Hp) (Q : MRes → Prop) : Wp (Pg jz cs sf) 10 (0, [.val (.int c), .unset], [], H, 0, 0) Q ↔ Q (some (.int 0), H) := by
  by_cases g1 : c < 32
  · simp +decide only [w10_0, w10_1, w10_2, w10_3, w10_5, w10_8, w10_9, w10_11, w10_14, w10_15, w10_18, w10_19, List.length_cons, List.length_nil, List.length_append, List.length_set, List.length_replicate, wt_nil, wt_int, wt_ref, wt_null, wt_long, wt_double, s1_unset, s1_int, s1_ref, s1_null, s2_unset, s2_val, s3_unset, s3_second, s3_int, s3_ref, isA_ref', isA_null', cat_int, cat_ref, cat_null, List.cons_append, List.nil_append, List.getElem?_cons_zero, List.getElem?_cons_succ, List.getElem?_nil, List.set_cons_zero, List.set_cons_succ, Option.toList_some, Option.toList_none, Option.some.injEq, exists_eq_left', Option.bind_some, Option.map_some, kdOf_eq, kdO_obj, rdF_eq, wrF_eq, alen_eq, ldA_eq, ldO_i, ldO_b, ldO_c, ldO_a, stA_i, stO_i, stA_b, stO_b, stA_c, stO_c, stA_d, stO_d, ldO_d, j0_eq, Nat.not_lt_zero, if_true, if_false, not_false_eq_true, not_true_eq_false, true_and, and_true, reduceCtorEq, Value.ref.injEq, ne_eq, Nat.zero_add, Nat.add_zero, Nat.reduceAdd, Nat.reduceLeDiff, Nat.le_refl, Nat.reduceLT, Nat.zero_le, Value.int.injEq, Value.long.injEq, tn0, tn1, tn2, tn3, tn4, tn5, tn6, tn7, tn8, tn9, tl0, tl1, tl2, tl3, tl4, tl5, tl6, tl7, tl8, tl9, rp0, rp1, rp2, rp3, rp4, rp5, rp6, rp7, rp8, rp9, alO_a, an0, an1, ↓reduceIte, Int32.reduceAdd, Int32.reduceSub, Int32.reduceMul, Int32.reduceLT, Int32.reduceLE, Int32.reduceToNatClampNeg, Int64.reduceLT, Int64.reduceLE, Int64.reduceAdd, on0, on1, on2, on3, on4, on5, on6, on7, on8, on9, own_le31, own_le127, g1]
  · have g2 : ¬ c ≤ 126 := fun z => g ⟨g1, z⟩
    simp +decide only [w10_0, w10_1, w10_2, w10_3, w10_5, w10_8, w10_9, w10_11, w10_14, w10_15, w10_18, w10_19, List.length_cons, List.length_nil, List.length_append, List.length_set, List.length_replicate, wt_nil, wt_int, wt_ref, wt_null, wt_long, wt_double, s1_unset, s1_int, s1_ref, s1_null, s2_unset, s2_val, s3_unset, s3_second, s3_int, s3_ref, isA_ref', isA_null', cat_int, cat_ref, cat_null, List.cons_append, List.nil_append, List.getElem?_cons_zero, List.getElem?_cons_succ, List.getElem?_nil, List.set_cons_zero, List.set_cons_succ, Option.toList_some, Option.toList_none, Option.some.injEq, exists_eq_left', Option.bind_some, Option.map_some, kdOf_eq, kdO_obj, rdF_eq, wrF_eq, alen_eq, ldA_eq, ldO_i, ldO_b, ldO_c, ldO_a, stA_i, stO_i, stA_b, stO_b, stA_c, stO_c, stA_d, stO_d, ldO_d, j0_eq, Nat.not_lt_zero, if_true, if_false, not_false_eq_true, not_true_eq_false, true_and, and_true, reduceCtorEq, Value.ref.injEq, ne_eq, Nat.zero_add, Nat.add_zero, Nat.reduceAdd, Nat.reduceLeDiff, Nat.le_refl, Nat.reduceLT, Nat.zero_le, Value.int.injEq, Value.long.injEq, tn0, tn1, tn2, tn3, tn4, tn5, tn6, tn7, tn8, tn9, tl0, tl1, tl2, tl3, tl4, tl5, tl6, tl7, tl8, tl9, rp0, rp1, rp2, rp3, rp4, rp5, rp6, rp7, rp8, rp9, alO_a, an0, an1, ↓reduceIte, Int32.reduceAdd, Int32.reduceSub, Int32.reduceMul, Int32.reduceLT, Int32.reduceLE, Int32.reduceToNatClampNeg, Int64.reduceLT, Int64.reduceLE, Int64.reduceAdd, on0, on1, on2, on3, on4, on5, on6, on7, on8, on9, own_le31, own_le127, g1, g2]
theorem own_str1 {cs : Int32} {sf : Value} (hcs : ¬ cs = 0) (hsf : cat sf = 1) {c1 : Int32} (h1 : c1.toUInt32.toUInt16.toUInt32.toInt32 = c1) {Q : MRes → Prop} (hq : ∀ H' : Hp, (∃ vs, H'[1]? = some (.inr 0, vs)) → own_L cs sf H' 1 → own_C cs sf H' 0 c1 → Q (none, H')) :
    Wp (Pg 1 cs sf) 2 (0, [.val (.ref 1), .val (.ref 2)], [], [(.inr 999, []), (.inr 0, [.null, .int 0]), (.inl .char, [.int c1])], 0, 0) Q := by
  have j1 := own_joinI c1 h1
  by_cases p1 : 255 < c1
  · simp +decide only [w2_0, w2_1, w2_2, w2_3, w2_4, w2_5, w2_6, w2_9, w3_0, w3_1, w3_4, w3_5, w3_8, w3_27, w3_30, w3_33, w3_34, w3_35, w3_36, w3_39, w3_41, w3_42, w3_44, w3_45, w3_48, w3_51, w3_52, w3_54, w3_57, w3_58, w3_59, w3_60, w3_63, w3_64, w3_65, w3_66, w7_0, w7_1, w7_3, w7_4, w7_5, w7_6, w7_7, w7_8, w7_9, w7_12, w7_14, w7_16, w7_17, w7_20, w7_21, w7_22, w7_23, w7_26, w7_28, w7_30, w7_32, w7_35, w7_38, w7_41, w7_43, w7_44, w7_45, w7_46, w7_54, w7_56, w7_56n, w7_57, w7_58, w7_58n, w8_0, w8_1, w8_3, w8_5, w8_7, w8_10, w8_11, w8_12, w8_13, w8_15, w8_17, w8_20, w8_23, w8_25, w8_26, w8_27, w8_28, w8_30, w8_31, w8_32, w8_35, w8_38, w8_41, w8_44, w8_46, w9_0, w9_1, w9_2, w9_3, w9_4, w9_6, w9_7, w9_8, w16_0, w16_1, w16_4, w16_5, w16_6, w16_8, w16_10, w16_11, w16_14, w16_15, w16_17, w16_18, w16_19, w16_20, w16_23, w16_26, w16_29, w16_32, w16_33, w16_33n, w17_0, w17_1, w17_4, w17_6, w17_6n, w18_0, w18_1, w18_12, w18_13, w18_15, w18_55, w18_56, w18_57, w18_58, w19_0, w19_3, w19_6, w19_7, w19_10, w19_11, w19_12, w19_15, w19_28, w19_29, w19_30, w19_31, w19_32, w19_33, w19_34, w19_37, w19_38, w19_41, w19_42, w19_43, w19_44, w19_45, w19_46, w19_47, w19_50, w19_51, w19_52, w19_53, w20_0, w20_3, w20_6, w20_7, w20_10, w20_11, w20_12, w20_15, w20_28, w20_29, w20_30, w20_31, w20_32, w20_33, w20_34, w20_37, w20_38, w20_41, w20_42, w20_45, w20_46, w20_47, w20_48, w20_49, w20_52, w20_53, w20_56, w20_57, w20_58, w20_59, List.length_cons, List.length_nil, List.length_append, List.length_set, List.length_replicate, wt_nil, wt_int, wt_ref, wt_null, wt_long, wt_double, s1_unset, s1_int, s1_ref, s1_null, s2_unset, s2_val, s3_unset, s3_second, s3_int, s3_ref, isA_ref', isA_null', cat_int, cat_ref, cat_null, List.cons_append, List.nil_append, List.getElem?_cons_zero, List.getElem?_cons_succ, List.getElem?_nil, List.set_cons_zero, List.set_cons_succ, Option.toList_some, Option.toList_none, Option.some.injEq, exists_eq_left', Option.bind_some, Option.map_some, kdOf_eq, kdO_obj, rdF_eq, wrF_eq, alen_eq, ldA_eq, ldO_i, ldO_b, ldO_c, ldO_a, stA_i, stO_i, stA_b, stO_b, stA_c, stO_c, stA_d, stO_d, ldO_d, j0_eq, Nat.not_lt_zero, if_true, if_false, not_false_eq_true, not_true_eq_false, true_and, and_true, reduceCtorEq, Value.ref.injEq, ne_eq, Nat.zero_add, Nat.add_zero, Nat.reduceAdd, Nat.reduceLeDiff, Nat.le_refl, Nat.reduceLT, Nat.zero_le, Value.int.injEq, Value.long.injEq, tn0, tn1, tn2, tn3, tn4, tn5, tn6, tn7, tn8, tn9, tl0, tl1, tl2, tl3, tl4, tl5, tl6, tl7, tl8, tl9, rp0, rp1, rp2, rp3, rp4, rp5, rp6, rp7, rp8, rp9, alO_a, an0, an1, ↓reduceIte, Int32.reduceAdd, Int32.reduceSub, Int32.reduceMul, Int32.reduceLT, Int32.reduceLE, Int32.reduceToNatClampNeg, Int64.reduceLT, Int64.reduceLE, Int64.reduceAdd, on0, on1, on2, on3, on4, on5, on6, on7, on8, on9, r5_9_0, r6_15_0, r11_9_0, r12_15_0, q3_15_0, q3_9_0, q3_9_0n, hcs, hsf, own_u0, own_u1, own_u2, own_u3, own_b0, own_b1, own_s0, own_s1, own_s8, own_shr0, own_shl0, own_i8i, own_le255, own_h2, own_h4, own_h6, own_z0, h1, j1, p1]
    exact hq _ ⟨_, rfl⟩ (own_len0 hcs hsf rfl rfl rfl (show Nat.toInt32 2 >>> (1 &&& 31) = 1 by decide)) (own_utfC hcs hsf rfl rfl (by decide) (show (0 : Int32) < Nat.toInt32 2 >>> (1 &&& 31) by decide) (by decide) rfl (by decide) rfl (own_h7 c1 h1) h1)
  · simp +decide only [w2_0, w2_1, w2_2, w2_3, w2_4, w2_5, w2_6, w2_9, w3_0, w3_1, w3_4, w3_5, w3_8, w3_27, w3_30, w3_33, w3_34, w3_35, w3_36, w3_39, w3_41, w3_42, w3_44, w3_45, w3_48, w3_51, w3_52, w3_54, w3_57, w3_58, w3_59, w3_60, w3_63, w3_64, w3_65, w3_66, w7_0, w7_1, w7_3, w7_4, w7_5, w7_6, w7_7, w7_8, w7_9, w7_12, w7_14, w7_16, w7_17, w7_20, w7_21, w7_22, w7_23, w7_26, w7_28, w7_30, w7_32, w7_35, w7_38, w7_41, w7_43, w7_44, w7_45, w7_46, w7_54, w7_56, w7_56n, w7_57, w7_58, w7_58n, w8_0, w8_1, w8_3, w8_5, w8_7, w8_10, w8_11, w8_12, w8_13, w8_15, w8_17, w8_20, w8_23, w8_25, w8_26, w8_27, w8_28, w8_30, w8_31, w8_32, w8_35, w8_38, w8_41, w8_44, w8_46, w9_0, w9_1, w9_2, w9_3, w9_4, w9_6, w9_7, w9_8, w16_0, w16_1, w16_4, w16_5, w16_6, w16_8, w16_10, w16_11, w16_14, w16_15, w16_17, w16_18, w16_19, w16_20, w16_23, w16_26, w16_29, w16_32, w16_33, w16_33n, w17_0, w17_1, w17_4, w17_6, w17_6n, w18_0, w18_1, w18_12, w18_13, w18_15, w18_55, w18_56, w18_57, w18_58, w19_0, w19_3, w19_6, w19_7, w19_10, w19_11, w19_12, w19_15, w19_28, w19_29, w19_30, w19_31, w19_32, w19_33, w19_34, w19_37, w19_38, w19_41, w19_42, w19_43, w19_44, w19_45, w19_46, w19_47, w19_50, w19_51, w19_52, w19_53, w20_0, w20_3, w20_6, w20_7, w20_10, w20_11, w20_12, w20_15, w20_28, w20_29, w20_30, w20_31, w20_32, w20_33, w20_34, w20_37, w20_38, w20_41, w20_42, w20_45, w20_46, w20_47, w20_48, w20_49, w20_52, w20_53, w20_56, w20_57, w20_58, w20_59, List.length_cons, List.length_nil, List.length_append, List.length_set, List.length_replicate, wt_nil, wt_int, wt_ref, wt_null, wt_long, wt_double, s1_unset, s1_int, s1_ref, s1_null, s2_unset, s2_val, s3_unset, s3_second, s3_int, s3_ref, isA_ref', isA_null', cat_int, cat_ref, cat_null, List.cons_append, List.nil_append, List.getElem?_cons_zero, List.getElem?_cons_succ, List.getElem?_nil, List.set_cons_zero, List.set_cons_succ, Option.toList_some, Option.toList_none, Option.some.injEq, exists_eq_left', Option.bind_some, Option.map_some, kdOf_eq, kdO_obj, rdF_eq, wrF_eq, alen_eq, ldA_eq, ldO_i, ldO_b, ldO_c, ldO_a, stA_i, stO_i, stA_b, stO_b, stA_c, stO_c, stA_d, stO_d, ldO_d, j0_eq, Nat.not_lt_zero, if_true, if_false, not_false_eq_true, not_true_eq_false, true_and, and_true, reduceCtorEq, Value.ref.injEq, ne_eq, Nat.zero_add, Nat.add_zero, Nat.reduceAdd, Nat.reduceLeDiff, Nat.le_refl, Nat.reduceLT, Nat.zero_le, Value.int.injEq, Value.long.injEq, tn0, tn1, tn2, tn3, tn4, tn5, tn6, tn7, tn8, tn9, tl0, tl1, tl2, tl3, tl4, tl5, tl6, tl7, tl8, tl9, rp0, rp1, rp2, rp3, rp4, rp5, rp6, rp7, rp8, rp9, alO_a, an0, an1, ↓reduceIte, Int32.reduceAdd, Int32.reduceSub, Int32.reduceMul, Int32.reduceLT, Int32.reduceLE, Int32.reduceToNatClampNeg, Int64.reduceLT, Int64.reduceLE, Int64.reduceAdd, on0, on1, on2, on3, on4, on5, on6, on7, on8, on9, r5_9_0, r6_15_0, r11_9_0, r12_15_0, q3_15_0, q3_9_0, q3_9_0n, hcs, hsf, own_u0, own_u1, own_u2, own_u3, own_b0, own_b1, own_s0, own_s1, own_s8, own_shr0, own_shl0, own_i8i, own_le255, own_h2, own_h4, own_h6, own_z0, h1, j1, p1]
    exact hq _ ⟨_, rfl⟩ (own_len0 hcs hsf rfl rfl rfl (show Nat.toInt32 1 >>> (0 &&& 31) = 1 by decide)) (own_latC hcs hsf rfl rfl (by decide) (show (0 : Int32) < Nat.toInt32 1 by decide) rfl (own_lat c1 h1 p1) h1)
theorem own_fin1 {cs : Int32} {sf : Value} (x0 x1 x2 x3 c1 c2 c3 : Int32) {H : Hp} (hk : ∃ vs, H[1]? = some (.inr 0, vs)) (hL : own_L cs sf H 1) (k1 : own_C cs sf H 0 c1) : Wp (Pg 1 cs sf) 0 (127, [.val (.int x0), .val (.int x1), .val (.int x2), .val (.int x3), .val (.int 1), .val (.int c1), .val (.int c2), .val (.int c3), .val (.ref 1), .unset], [], H, 4, 14) (fun r => r.1 = some (.int 1)) := by
  by_cases g1 : ¬ c1 < 32 ∧ c1 ≤ 126
  · have q := True.intro
    have p1 := own_pr1 (jz := 1) (cs := cs) (sf := sf) g1
    simp +decide only [w0_127, w0_128, w0_130, w0_132, w0_133, w0_136, w0_138, w0_141, w0_144, w0_145, w0_147, w0_149, w0_150, w0_153, w0_155, w0_158, w0_161, w0_162, w0_164, w0_166, w0_167, w0_170, w0_172, w0_175, w0_178, w0_179, w0_181, w0_183, List.length_cons, List.length_nil, List.length_append, List.length_set, List.length_replicate, wt_nil, wt_int, wt_ref, wt_null, wt_long, wt_double, s1_unset, s1_int, s1_ref, s1_null, s2_unset, s2_val, s3_unset, s3_second, s3_int, s3_ref, isA_ref', isA_null', cat_int, cat_ref, cat_null, List.cons_append, List.nil_append, List.getElem?_cons_zero, List.getElem?_cons_succ, List.getElem?_nil, List.set_cons_zero, List.set_cons_succ, Option.toList_some, Option.toList_none, Option.some.injEq, exists_eq_left', Option.bind_some, Option.map_some, kdOf_eq, kdO_obj, rdF_eq, wrF_eq, alen_eq, ldA_eq, ldO_i, ldO_b, ldO_c, ldO_a, stA_i, stO_i, stA_b, stO_b, stA_c, stO_c, stA_d, stO_d, ldO_d, j0_eq, Nat.not_lt_zero, if_true, if_false, not_false_eq_true, not_true_eq_false, true_and, and_true, reduceCtorEq, Value.ref.injEq, ne_eq, Nat.zero_add, Nat.add_zero, Nat.reduceAdd, Nat.reduceLeDiff, Nat.le_refl, Nat.reduceLT, Nat.zero_le, Value.int.injEq, Value.long.injEq, tn0, tn1, tn2, tn3, tn4, tn5, tn6, tn7, tn8, tn9, tl0, tl1, tl2, tl3, tl4, tl5, tl6, tl7, tl8, tl9, rp0, rp1, rp2, rp3, rp4, rp5, rp6, rp7, rp8, rp9, alO_a, an0, an1, ↓reduceIte, Int32.reduceAdd, Int32.reduceSub, Int32.reduceMul, Int32.reduceLT, Int32.reduceLE, Int32.reduceToNatClampNeg, Int64.reduceLT, Int64.reduceLE, Int64.reduceAdd, on0, on1, on2, on3, on4, on5, on6, on7, on8, on9, p1]
    rw [own_e0, own_good hk hL k1 (by decide) (show (0 : Int32) + 1 = 1 by decide) g1, own_end hk hL (by decide)]
    simp +decide only [w0_186, w0_188, w0_191, w0_192, w0_195, w0_196, List.length_cons, List.length_nil, List.length_append, List.length_set, List.length_replicate, wt_nil, wt_int, wt_ref, wt_null, wt_long, wt_double, s1_unset, s1_int, s1_ref, s1_null, s2_unset, s2_val, s3_unset, s3_second, s3_int, s3_ref, isA_ref', isA_null', cat_int, cat_ref, cat_null, List.cons_append, List.nil_append, List.getElem?_cons_zero, List.getElem?_cons_succ, List.getElem?_nil, List.set_cons_zero, List.set_cons_succ, Option.toList_some, Option.toList_none, Option.some.injEq, exists_eq_left', Option.bind_some, Option.map_some, kdOf_eq, kdO_obj, rdF_eq, wrF_eq, alen_eq, ldA_eq, ldO_i, ldO_b, ldO_c, ldO_a, stA_i, stO_i, stA_b, stO_b, stA_c, stO_c, stA_d, stO_d, ldO_d, j0_eq, Nat.not_lt_zero, if_true, if_false, not_false_eq_true, not_true_eq_false, true_and, and_true, reduceCtorEq, Value.ref.injEq, ne_eq, Nat.zero_add, Nat.add_zero, Nat.reduceAdd, Nat.reduceLeDiff, Nat.le_refl, Nat.reduceLT, Nat.zero_le, Value.int.injEq, Value.long.injEq, tn0, tn1, tn2, tn3, tn4, tn5, tn6, tn7, tn8, tn9, tl0, tl1, tl2, tl3, tl4, tl5, tl6, tl7, tl8, tl9, rp0, rp1, rp2, rp3, rp4, rp5, rp6, rp7, rp8, rp9, alO_a, an0, an1, ↓reduceIte, Int32.reduceAdd, Int32.reduceSub, Int32.reduceMul, Int32.reduceLT, Int32.reduceLE, Int32.reduceToNatClampNeg, Int64.reduceLT, Int64.reduceLE, Int64.reduceAdd, on0, on1, on2, on3, on4, on5, on6, on7, on8, on9]
  · have q := True.intro
    have p1 := own_pr0 (jz := 1) (cs := cs) (sf := sf) g1
    simp +decide only [w0_127, w0_128, w0_130, w0_132, w0_133, w0_136, w0_138, w0_141, w0_144, w0_145, w0_147, w0_149, w0_150, w0_153, w0_155, w0_158, w0_161, w0_162, w0_164, w0_166, w0_167, w0_170, w0_172, w0_175, w0_178, w0_179, w0_181, w0_183, List.length_cons, List.length_nil, List.length_append, List.length_set, List.length_replicate, wt_nil, wt_int, wt_ref, wt_null, wt_long, wt_double, s1_unset, s1_int, s1_ref, s1_null, s2_unset, s2_val, s3_unset, s3_second, s3_int, s3_ref, isA_ref', isA_null', cat_int, cat_ref, cat_null, List.cons_append, List.nil_append, List.getElem?_cons_zero, List.getElem?_cons_succ, List.getElem?_nil, List.set_cons_zero, List.set_cons_succ, Option.toList_some, Option.toList_none, Option.some.injEq, exists_eq_left', Option.bind_some, Option.map_some, kdOf_eq, kdO_obj, rdF_eq, wrF_eq, alen_eq, ldA_eq, ldO_i, ldO_b, ldO_c, ldO_a, stA_i, stO_i, stA_b, stO_b, stA_c, stO_c, stA_d, stO_d, ldO_d, j0_eq, Nat.not_lt_zero, if_true, if_false, not_false_eq_true, not_true_eq_false, true_and, and_true, reduceCtorEq, Value.ref.injEq, ne_eq, Nat.zero_add, Nat.add_zero, Nat.reduceAdd, Nat.reduceLeDiff, Nat.le_refl, Nat.reduceLT, Nat.zero_le, Value.int.injEq, Value.long.injEq, tn0, tn1, tn2, tn3, tn4, tn5, tn6, tn7, tn8, tn9, tl0, tl1, tl2, tl3, tl4, tl5, tl6, tl7, tl8, tl9, rp0, rp1, rp2, rp3, rp4, rp5, rp6, rp7, rp8, rp9, alO_a, an0, an1, ↓reduceIte, Int32.reduceAdd, Int32.reduceSub, Int32.reduceMul, Int32.reduceLT, Int32.reduceLE, Int32.reduceToNatClampNeg, Int64.reduceLT, Int64.reduceLE, Int64.reduceAdd, on0, on1, on2, on3, on4, on5, on6, on7, on8, on9, p1]
    rw [own_e0, own_bad hk hL k1 (by decide) g1]
    simp +decide only [w0_186, w0_188, w0_191, w0_192, w0_195, w0_196, List.length_cons, List.length_nil, List.length_append, List.length_set, List.length_replicate, wt_nil, wt_int, wt_ref, wt_null, wt_long, wt_double, s1_unset, s1_int, s1_ref, s1_null, s2_unset, s2_val, s3_unset, s3_second, s3_int, s3_ref, isA_ref', isA_null', cat_int, cat_ref, cat_null, List.cons_append, List.nil_append, List.getElem?_cons_zero, List.getElem?_cons_succ, List.getElem?_nil, List.set_cons_zero, List.set_cons_succ, Option.toList_some, Option.toList_none, Option.some.injEq, exists_eq_left', Option.bind_some, Option.map_some, kdOf_eq, kdO_obj, rdF_eq, wrF_eq, alen_eq, ldA_eq, ldO_i, ldO_b, ldO_c, ldO_a, stA_i, stO_i, stA_b, stO_b, stA_c, stO_c, stA_d, stO_d, ldO_d, j0_eq, Nat.not_lt_zero, if_true, if_false, not_false_eq_true, not_true_eq_false, true_and, and_true, reduceCtorEq, Value.ref.injEq, ne_eq, Nat.zero_add, Nat.add_zero, Nat.reduceAdd, Nat.reduceLeDiff, Nat.le_refl, Nat.reduceLT, Nat.zero_le, Value.int.injEq, Value.long.injEq, tn0, tn1, tn2, tn3, tn4, tn5, tn6, tn7, tn8, tn9, tl0, tl1, tl2, tl3, tl4, tl5, tl6, tl7, tl8, tl9, rp0, rp1, rp2, rp3, rp4, rp5, rp6, rp7, rp8, rp9, alO_a, an0, an1, ↓reduceIte, Int32.reduceAdd, Int32.reduceSub, Int32.reduceMul, Int32.reduceLT, Int32.reduceLE, Int32.reduceToNatClampNeg, Int64.reduceLT, Int64.reduceLE, Int64.reduceAdd, on0, on1, on2, on3, on4, on5, on6, on7, on8, on9]
theorem own_str2 {cs : Int32} {sf : Value} (hcs : ¬ cs = 0) (hsf : cat sf = 1) {c1 c2 : Int32} (h1 : c1.toUInt32.toUInt16.toUInt32.toInt32 = c1) (h2 : c2.toUInt32.toUInt16.toUInt32.toInt32 = c2) {Q : MRes → Prop} (hq : ∀ H' : Hp, (∃ vs, H'[1]? = some (.inr 0, vs)) → own_L cs sf H' 2 → own_C cs sf H' 0 c1 → own_C cs sf H' 1 c2 → Q (none, H')) :
    Wp (Pg 1 cs sf) 2 (0, [.val (.ref 1), .val (.ref 2)], [], [(.inr 999, []), (.inr 0, [.null, .int 0]), (.inl .char, [.int c1, .int c2])], 0, 0) Q := by
  have j1 := own_joinI c1 h1
  have j2 := own_joinI c2 h2
  by_cases p1 : 255 < c1
  · simp +decide only [w2_0, w2_1, w2_2, w2_3, w2_4, w2_5, w2_6, w2_9, w3_0, w3_1, w3_4, w3_5, w3_8, w3_27, w3_30, w3_33, w3_34, w3_35, w3_36, w3_39, w3_41, w3_42, w3_44, w3_45, w3_48, w3_51, w3_52, w3_54, w3_57, w3_58, w3_59, w3_60, w3_63, w3_64, w3_65, w3_66, w7_0, w7_1, w7_3, w7_4, w7_5, w7_6, w7_7, w7_8, w7_9, w7_12, w7_14, w7_16, w7_17, w7_20, w7_21, w7_22, w7_23, w7_26, w7_28, w7_30, w7_32, w7_35, w7_38, w7_41, w7_43, w7_44, w7_45, w7_46, w7_54, w7_56, w7_56n, w7_57, w7_58, w7_58n, w8_0, w8_1, w8_3, w8_5, w8_7, w8_10, w8_11, w8_12, w8_13, w8_15, w8_17, w8_20, w8_23, w8_25, w8_26, w8_27, w8_28, w8_30, w8_31, w8_32, w8_35, w8_38, w8_41, w8_44, w8_46, w9_0, w9_1, w9_2, w9_3, w9_4, w9_6, w9_7, w9_8, w16_0, w16_1, w16_4, w16_5, w16_6, w16_8, w16_10, w16_11, w16_14, w16_15, w16_17, w16_18, w16_19, w16_20, w16_23, w16_26, w16_29, w16_32, w16_33, w16_33n, w17_0, w17_1, w17_4, w17_6, w17_6n, w18_0, w18_1, w18_12, w18_13, w18_15, w18_55, w18_56, w18_57, w18_58, w19_0, w19_3, w19_6, w19_7, w19_10, w19_11, w19_12, w19_15, w19_28, w19_29, w19_30, w19_31, w19_32, w19_33, w19_34, w19_37, w19_38, w19_41, w19_42, w19_43, w19_44, w19_45, w19_46, w19_47, w19_50, w19_51, w19_52, w19_53, w20_0, w20_3, w20_6, w20_7, w20_10, w20_11, w20_12, w20_15, w20_28, w20_29, w20_30, w20_31, w20_32, w20_33, w20_34, w20_37, w20_38, w20_41, w20_42, w20_45, w20_46, w20_47, w20_48, w20_49, w20_52, w20_53, w20_56, w20_57, w20_58, w20_59, List.length_cons, List.length_nil, List.length_append, List.length_set, List.length_replicate, wt_nil, wt_int, wt_ref, wt_null, wt_long, wt_double, s1_unset, s1_int, s1_ref, s1_null, s2_unset, s2_val, s3_unset, s3_second, s3_int, s3_ref, isA_ref', isA_null', cat_int, cat_ref, cat_null, List.cons_append, List.nil_append, List.getElem?_cons_zero, List.getElem?_cons_succ, List.getElem?_nil, List.set_cons_zero, List.set_cons_succ, Option.toList_some, Option.toList_none, Option.some.injEq, exists_eq_left', Option.bind_some, Option.map_some, kdOf_eq, kdO_obj, rdF_eq, wrF_eq, alen_eq, ldA_eq, ldO_i, ldO_b, ldO_c, ldO_a, stA_i, stO_i, stA_b, stO_b, stA_c, stO_c, stA_d, stO_d, ldO_d, j0_eq, Nat.not_lt_zero, if_true, if_false, not_false_eq_true, not_true_eq_false, true_and, and_true, reduceCtorEq, Value.ref.injEq, ne_eq, Nat.zero_add, Nat.add_zero, Nat.reduceAdd, Nat.reduceLeDiff, Nat.le_refl, Nat.reduceLT, Nat.zero_le, Value.int.injEq, Value.long.injEq, tn0, tn1, tn2, tn3, tn4, tn5, tn6, tn7, tn8, tn9, tl0, tl1, tl2, tl3, tl4, tl5, tl6, tl7, tl8, tl9, rp0, rp1, rp2, rp3, rp4, rp5, rp6, rp7, rp8, rp9, alO_a, an0, an1, ↓reduceIte, Int32.reduceAdd, Int32.reduceSub, Int32.reduceMul, Int32.reduceLT, Int32.reduceLE, Int32.reduceToNatClampNeg, Int64.reduceLT, Int64.reduceLE, Int64.reduceAdd, on0, on1, on2, on3, on4, on5, on6, on7, on8, on9, r5_9_0, r6_15_0, r11_9_0, r12_15_0, q3_15_0, q3_9_0, q3_9_0n, hcs, hsf, own_u0, own_u1, own_u2, own_u3, own_b0, own_b1, own_s0, own_s1, own_s8, own_shr0, own_shl0, own_i8i, own_le255, own_h2, own_h4, own_h6, own_z0, h1, j1, h2, j2, p1]
    exact hq _ ⟨_, rfl⟩ (own_len0 hcs hsf rfl rfl rfl (show Nat.toInt32 4 >>> (1 &&& 31) = 2 by decide)) (own_utfC hcs hsf rfl rfl (by decide) (show (0 : Int32) < Nat.toInt32 4 >>> (1 &&& 31) by decide) (by decide) rfl (by decide) rfl (own_h7 c1 h1) h1) (own_utfC hcs hsf rfl rfl (by decide) (show (1 : Int32) < Nat.toInt32 4 >>> (1 &&& 31) by decide) (by decide) rfl (by decide) rfl (own_h7 c2 h2) h2)
  · by_cases p2 : 255 < c2
    · simp +decide only [w2_0, w2_1, w2_2, w2_3, w2_4, w2_5, w2_6, w2_9, w3_0, w3_1, w3_4, w3_5, w3_8, w3_27, w3_30, w3_33, w3_34, w3_35, w3_36, w3_39, w3_41, w3_42, w3_44, w3_45, w3_48, w3_51, w3_52, w3_54, w3_57, w3_58, w3_59, w3_60, w3_63, w3_64, w3_65, w3_66, w7_0, w7_1, w7_3, w7_4, w7_5, w7_6, w7_7, w7_8, w7_9, w7_12, w7_14, w7_16, w7_17, w7_20, w7_21, w7_22, w7_23, w7_26, w7_28, w7_30, w7_32, w7_35, w7_38, w7_41, w7_43, w7_44, w7_45, w7_46, w7_54, w7_56, w7_56n, w7_57, w7_58, w7_58n, w8_0, w8_1, w8_3, w8_5, w8_7, w8_10, w8_11, w8_12, w8_13, w8_15, w8_17, w8_20, w8_23, w8_25, w8_26, w8_27, w8_28, w8_30, w8_31, w8_32, w8_35, w8_38, w8_41, w8_44, w8_46, w9_0, w9_1, w9_2, w9_3, w9_4, w9_6, w9_7, w9_8, w16_0, w16_1, w16_4, w16_5, w16_6, w16_8, w16_10, w16_11, w16_14, w16_15, w16_17, w16_18, w16_19, w16_20, w16_23, w16_26, w16_29, w16_32, w16_33, w16_33n, w17_0, w17_1, w17_4, w17_6, w17_6n, w18_0, w18_1, w18_12, w18_13, w18_15, w18_55, w18_56, w18_57, w18_58, w19_0, w19_3, w19_6, w19_7, w19_10, w19_11, w19_12, w19_15, w19_28, w19_29, w19_30, w19_31, w19_32, w19_33, w19_34, w19_37, w19_38, w19_41, w19_42, w19_43, w19_44, w19_45, w19_46, w19_47, w19_50, w19_51, w19_52, w19_53, w20_0, w20_3, w20_6, w20_7, w20_10, w20_11, w20_12, w20_15, w20_28, w20_29, w20_30, w20_31, w20_32, w20_33, w20_34, w20_37, w20_38, w20_41, w20_42, w20_45, w20_46, w20_47, w20_48, w20_49, w20_52, w20_53, w20_56, w20_57, w20_58, w20_59, List.length_cons, List.length_nil, List.length_append, List.length_set, List.length_replicate, wt_nil, wt_int, wt_ref, wt_null, wt_long, wt_double, s1_unset, s1_int, s1_ref, s1_null, s2_unset, s2_val, s3_unset, s3_second, s3_int, s3_ref, isA_ref', isA_null', cat_int, cat_ref, cat_null, List.cons_append, List.nil_append, List.getElem?_cons_zero, List.getElem?_cons_succ, List.getElem?_nil, List.set_cons_zero, List.set_cons_succ, Option.toList_some, Option.toList_none, Option.some.injEq, exists_eq_left', Option.bind_some, Option.map_some, kdOf_eq, kdO_obj, rdF_eq, wrF_eq, alen_eq, ldA_eq, ldO_i, ldO_b, ldO_c, ldO_a, stA_i, stO_i, stA_b, stO_b, stA_c, stO_c, stA_d, stO_d, ldO_d, j0_eq, Nat.not_lt_zero, if_true, if_false, not_false_eq_true, not_true_eq_false, true_and, and_true, reduceCtorEq, Value.ref.injEq, ne_eq, Nat.zero_add, Nat.add_zero, Nat.reduceAdd, Nat.reduceLeDiff, Nat.le_refl, Nat.reduceLT, Nat.zero_le, Value.int.injEq, Value.long.injEq, tn0, tn1, tn2, tn3, tn4, tn5, tn6, tn7, tn8, tn9, tl0, tl1, tl2, tl3, tl4, tl5, tl6, tl7, tl8, tl9, rp0, rp1, rp2, rp3, rp4, rp5, rp6, rp7, rp8, rp9, alO_a, an0, an1, ↓reduceIte, Int32.reduceAdd, Int32.reduceSub, Int32.reduceMul, Int32.reduceLT, Int32.reduceLE, Int32.reduceToNatClampNeg, Int64.reduceLT, Int64.reduceLE, Int64.reduceAdd, on0, on1, on2, on3, on4, on5, on6, on7, on8, on9, r5_9_0, r6_15_0, r11_9_0, r12_15_0, q3_15_0, q3_9_0, q3_9_0n, hcs, hsf, own_u0, own_u1, own_u2, own_u3, own_b0, own_b1, own_s0, own_s1, own_s8, own_shr0, own_shl0, own_i8i, own_le255, own_h2, own_h4, own_h6, own_z0, h1, j1, h2, j2, p1, p2]
      exact hq _ ⟨_, rfl⟩ (own_len0 hcs hsf rfl rfl rfl (show Nat.toInt32 4 >>> (1 &&& 31) = 2 by decide)) (own_utfC hcs hsf rfl rfl (by decide) (show (0 : Int32) < Nat.toInt32 4 >>> (1 &&& 31) by decide) (by decide) rfl (by decide) rfl (own_h7 c1 h1) h1) (own_utfC hcs hsf rfl rfl (by decide) (show (1 : Int32) < Nat.toInt32 4 >>> (1 &&& 31) by decide) (by decide) rfl (by decide) rfl (own_h7 c2 h2) h2)
    · simp +decide only [w2_0, w2_1, w2_2, w2_3, w2_4, w2_5, w2_6, w2_9, w3_0, w3_1, w3_4, w3_5, w3_8, w3_27, w3_30, w3_33, w3_34, w3_35, w3_36, w3_39, w3_41, w3_42, w3_44, w3_45, w3_48, w3_51, w3_52, w3_54, w3_57, w3_58, w3_59, w3_60, w3_63, w3_64, w3_65, w3_66, w7_0, w7_1, w7_3, w7_4, w7_5, w7_6, w7_7, w7_8, w7_9, w7_12, w7_14, w7_16, w7_17, w7_20, w7_21, w7_22, w7_23, w7_26, w7_28, w7_30, w7_32, w7_35, w7_38, w7_41, w7_43, w7_44, w7_45, w7_46, w7_54, w7_56, w7_56n, w7_57, w7_58, w7_58n, w8_0, w8_1, w8_3, w8_5, w8_7, w8_10, w8_11, w8_12, w8_13, w8_15, w8_17, w8_20, w8_23, w8_25, w8_26, w8_27, w8_28, w8_30, w8_31, w8_32, w8_35, w8_38, w8_41, w8_44, w8_46, w9_0, w9_1, w9_2, w9_3, w9_4, w9_6, w9_7, w9_8, w16_0, w16_1, w16_4, w16_5, w16_6, w16_8, w16_10, w16_11, w16_14, w16_15, w16_17, w16_18, w16_19, w16_20, w16_23, w16_26, w16_29, w16_32, w16_33, w16_33n, w17_0, w17_1, w17_4, w17_6, w17_6n, w18_0, w18_1, w18_12, w18_13, w18_15, w18_55, w18_56, w18_57, w18_58, w19_0, w19_3, w19_6, w19_7, w19_10, w19_11, w19_12, w19_15, w19_28, w19_29, w19_30, w19_31, w19_32, w19_33, w19_34, w19_37, w19_38, w19_41, w19_42, w19_43, w19_44, w19_45, w19_46, w19_47, w19_50, w19_51, w19_52, w19_53, w20_0, w20_3, w20_6, w20_7, w20_10, w20_11, w20_12, w20_15, w20_28, w20_29, w20_30, w20_31, w20_32, w20_33, w20_34, w20_37, w20_38, w20_41, w20_42, w20_45, w20_46, w20_47, w20_48, w20_49, w20_52, w20_53, w20_56, w20_57, w20_58, w20_59, List.length_cons, List.length_nil, List.length_append, List.length_set, List.length_replicate, wt_nil, wt_int, wt_ref, wt_null, wt_long, wt_double, s1_unset, s1_int, s1_ref, s1_null, s2_unset, s2_val, s3_unset, s3_second, s3_int, s3_ref, isA_ref', isA_null', cat_int, cat_ref, cat_null, List.cons_append, List.nil_append, List.getElem?_cons_zero, List.getElem?_cons_succ, List.getElem?_nil, List.set_cons_zero, List.set_cons_succ, Option.toList_some, Option.toList_none, Option.some.injEq, exists_eq_left', Option.bind_some, Option.map_some, kdOf_eq, kdO_obj, rdF_eq, wrF_eq, alen_eq, ldA_eq, ldO_i, ldO_b, ldO_c, ldO_a, stA_i, stO_i, stA_b, stO_b, stA_c, stO_c, stA_d, stO_d, ldO_d, j0_eq, Nat.not_lt_zero, if_true, if_false, not_false_eq_true, not_true_eq_false, true_and, and_true, reduceCtorEq, Value.ref.injEq, ne_eq, Nat.zero_add, Nat.add_zero, Nat.reduceAdd, Nat.reduceLeDiff, Nat.le_refl, Nat.reduceLT, Nat.zero_le, Value.int.injEq, Value.long.injEq, tn0, tn1, tn2, tn3, tn4, tn5, tn6, tn7, tn8, tn9, tl0, tl1, tl2, tl3, tl4, tl5, tl6, tl7, tl8, tl9, rp0, rp1, rp2, rp3, rp4, rp5, rp6, rp7, rp8, rp9, alO_a, an0, an1, ↓reduceIte, Int32.reduceAdd, Int32.reduceSub, Int32.reduceMul, Int32.reduceLT, Int32.reduceLE, Int32.reduceToNatClampNeg, Int64.reduceLT, Int64.reduceLE, Int64.reduceAdd, on0, on1, on2, on3, on4, on5, on6, on7, on8, on9, r5_9_0, r6_15_0, r11_9_0, r12_15_0, q3_15_0, q3_9_0, q3_9_0n, hcs, hsf, own_u0, own_u1, own_u2, own_u3, own_b0, own_b1, own_s0, own_s1, own_s8, own_shr0, own_shl0, own_i8i, own_le255, own_h2, own_h4, own_h6, own_z0, h1, j1, h2, j2, p1, p2]
      exact hq _ ⟨_, rfl⟩ (own_len0 hcs hsf rfl rfl rfl (show Nat.toInt32 2 >>> (0 &&& 31) = 2 by decide)) (own_latC hcs hsf rfl rfl (by decide) (show (0 : Int32) < Nat.toInt32 2 by decide) rfl (own_lat c1 h1 p1) h1) (own_latC hcs hsf rfl rfl (by decide) (show (1 : Int32) < Nat.toInt32 2 by decide) rfl (own_lat c2 h2 p2) h2)
theorem own_fin2 {cs : Int32} {sf : Value} (x0 x1 x2 x3 c1 c2 c3 : Int32) {H : Hp} (hk : ∃ vs, H[1]? = some (.inr 0, vs)) (hL : own_L cs sf H 2) (k1 : own_C cs sf H 0 c1) (k2 : own_C cs sf H 1 c2) : Wp (Pg 1 cs sf) 0 (127, [.val (.int x0), .val (.int x1), .val (.int x2), .val (.int x3), .val (.int 2), .val (.int c1), .val (.int c2), .val (.int c3), .val (.ref 1), .unset], [], H, 4, 15) (fun r => r.1 = some (.int 1)) := by
  by_cases g1 : ¬ c1 < 32 ∧ c1 ≤ 126
  · by_cases g2 : ¬ c2 < 32 ∧ c2 ≤ 126
    · have q := True.intro
      have p1 := own_pr1 (jz := 1) (cs := cs) (sf := sf) g1
      have p2 := own_pr1 (jz := 1) (cs := cs) (sf := sf) g2
      simp +decide only [w0_127, w0_128, w0_130, w0_132, w0_133, w0_136, w0_138, w0_141, w0_144, w0_145, w0_147, w0_149, w0_150, w0_153, w0_155, w0_158, w0_161, w0_162, w0_164, w0_166, w0_167, w0_170, w0_172, w0_175, w0_178, w0_179, w0_181, w0_183, List.length_cons, List.length_nil, List.length_append, List.length_set, List.length_replicate, wt_nil, wt_int, wt_ref, wt_null, wt_long, wt_double, s1_unset, s1_int, s1_ref, s1_null, s2_unset, s2_val, s3_unset, s3_second, s3_int, s3_ref, isA_ref', isA_null', cat_int, cat_ref, cat_null, List.cons_append, List.nil_append, List.getElem?_cons_zero, List.getElem?_cons_succ, List.getElem?_nil, List.set_cons_zero, List.set_cons_succ, Option.toList_some, Option.toList_none, Option.some.injEq, exists_eq_left', Option.bind_some, Option.map_some, kdOf_eq, kdO_obj, rdF_eq, wrF_eq, alen_eq, ldA_eq, ldO_i, ldO_b, ldO_c, ldO_a, stA_i, stO_i, stA_b, stO_b, stA_c, stO_c, stA_d, stO_d, ldO_d, j0_eq, Nat.not_lt_zero, if_true, if_false, not_false_eq_true, not_true_eq_false, true_and, and_true, reduceCtorEq, Value.ref.injEq, ne_eq, Nat.zero_add, Nat.add_zero, Nat.reduceAdd, Nat.reduceLeDiff, Nat.le_refl, Nat.reduceLT, Nat.zero_le, Value.int.injEq, Value.long.injEq, tn0, tn1, tn2, tn3, tn4, tn5, tn6, tn7, tn8, tn9, tl0, tl1, tl2, tl3, tl4, tl5, tl6, tl7, tl8, tl9, rp0, rp1, rp2, rp3, rp4, rp5, rp6, rp7, rp8, rp9, alO_a, an0, an1, ↓reduceIte, Int32.reduceAdd, Int32.reduceSub, Int32.reduceMul, Int32.reduceLT, Int32.reduceLE, Int32.reduceToNatClampNeg, Int64.reduceLT, Int64.reduceLE, Int64.reduceAdd, on0, on1, on2, on3, on4, on5, on6, on7, on8, on9, p1, p2]
      rw [own_e0, own_good hk hL k1 (by decide) (show (0 : Int32) + 1 = 1 by decide) g1, own_good hk hL k2 (by decide) (show (1 : Int32) + 1 = 2 by decide) g2, own_end hk hL (by decide)]
      simp +decide only [w0_186, w0_188, w0_191, w0_192, w0_195, w0_196, List.length_cons, List.length_nil, List.length_append, List.length_set, List.length_replicate, wt_nil, wt_int, wt_ref, wt_null, wt_long, wt_double, s1_unset, s1_int, s1_ref, s1_null, s2_unset, s2_val, s3_unset, s3_second, s3_int, s3_ref, isA_ref', isA_null', cat_int, cat_ref, cat_null, List.cons_append, List.nil_append, List.getElem?_cons_zero, List.getElem?_cons_succ, List.getElem?_nil, List.set_cons_zero, List.set_cons_succ, Option.toList_some, Option.toList_none, Option.some.injEq, exists_eq_left', Option.bind_some, Option.map_some, kdOf_eq, kdO_obj, rdF_eq, wrF_eq, alen_eq, ldA_eq, ldO_i, ldO_b, ldO_c, ldO_a, stA_i, stO_i, stA_b, stO_b, stA_c, stO_c, stA_d, stO_d, ldO_d, j0_eq, Nat.not_lt_zero, if_true, if_false, not_false_eq_true, not_true_eq_false, true_and, and_true, reduceCtorEq, Value.ref.injEq, ne_eq, Nat.zero_add, Nat.add_zero, Nat.reduceAdd, Nat.reduceLeDiff, Nat.le_refl, Nat.reduceLT, Nat.zero_le, Value.int.injEq, Value.long.injEq, tn0, tn1, tn2, tn3, tn4, tn5, tn6, tn7, tn8, tn9, tl0, tl1, tl2, tl3, tl4, tl5, tl6, tl7, tl8, tl9, rp0, rp1, rp2, rp3, rp4, rp5, rp6, rp7, rp8, rp9, alO_a, an0, an1, ↓reduceIte, Int32.reduceAdd, Int32.reduceSub, Int32.reduceMul, Int32.reduceLT, Int32.reduceLE, Int32.reduceToNatClampNeg, Int64.reduceLT, Int64.reduceLE, Int64.reduceAdd, on0, on1, on2, on3, on4, on5, on6, on7, on8, on9]
    · have q := True.intro
      have p1 := own_pr1 (jz := 1) (cs := cs) (sf := sf) g1
      have p2 := own_pr0 (jz := 1) (cs := cs) (sf := sf) g2
      simp +decide only [w0_127, w0_128, w0_130, w0_132, w0_133, w0_136, w0_138, w0_141, w0_144, w0_145, w0_147, w0_149, w0_150, w0_153, w0_155, w0_158, w0_161, w0_162, w0_164, w0_166, w0_167, w0_170, w0_172, w0_175, w0_178, w0_179, w0_181, w0_183, List.length_cons, List.length_nil, List.length_append, List.length_set, List.length_replicate, wt_nil, wt_int, wt_ref, wt_null, wt_long, wt_double, s1_unset, s1_int, s1_ref, s1_null, s2_unset, s2_val, s3_unset, s3_second, s3_int, s3_ref, isA_ref', isA_null', cat_int, cat_ref, cat_null, List.cons_append, List.nil_append, List.getElem?_cons_zero, List.getElem?_cons_succ, List.getElem?_nil, List.set_cons_zero, List.set_cons_succ, Option.toList_some, Option.toList_none, Option.some.injEq, exists_eq_left', Option.bind_some, Option.map_some, kdOf_eq, kdO_obj, rdF_eq, wrF_eq, alen_eq, ldA_eq, ldO_i, ldO_b, ldO_c, ldO_a, stA_i, stO_i, stA_b, stO_b, stA_c, stO_c, stA_d, stO_d, ldO_d, j0_eq, Nat.not_lt_zero, if_true, if_false, not_false_eq_true, not_true_eq_false, true_and, and_true, reduceCtorEq, Value.ref.injEq, ne_eq, Nat.zero_add, Nat.add_zero, Nat.reduceAdd, Nat.reduceLeDiff, Nat.le_refl, Nat.reduceLT, Nat.zero_le, Value.int.injEq, Value.long.injEq, tn0, tn1, tn2, tn3, tn4, tn5, tn6, tn7, tn8, tn9, tl0, tl1, tl2, tl3, tl4, tl5, tl6, tl7, tl8, tl9, rp0, rp1, rp2, rp3, rp4, rp5, rp6, rp7, rp8, rp9, alO_a, an0, an1, ↓reduceIte, Int32.reduceAdd, Int32.reduceSub, Int32.reduceMul, Int32.reduceLT, Int32.reduceLE, Int32.reduceToNatClampNeg, Int64.reduceLT, Int64.reduceLE, Int64.reduceAdd, on0, on1, on2, on3, on4, on5, on6, on7, on8, on9, p1, p2]
      rw [own_e0, own_good hk hL k1 (by decide) (show (0 : Int32) + 1 = 1 by decide) g1, own_bad hk hL k2 (by decide) g2]
      simp +decide only [w0_186, w0_188, w0_191, w0_192, w0_195, w0_196, List.length_cons, List.length_nil, List.length_append, List.length_set, List.length_replicate, wt_nil, wt_int, wt_ref, wt_null, wt_long, wt_double, s1_unset, s1_int, s1_ref, s1_null, s2_unset, s2_val, s3_unset, s3_second, s3_int, s3_ref, isA_ref', isA_null', cat_int, cat_ref, cat_null, List.cons_append, List.nil_append, List.getElem?_cons_zero, List.getElem?_cons_succ, List.getElem?_nil, List.set_cons_zero, List.set_cons_succ, Option.toList_some, Option.toList_none, Option.some.injEq, exists_eq_left', Option.bind_some, Option.map_some, kdOf_eq, kdO_obj, rdF_eq, wrF_eq, alen_eq, ldA_eq, ldO_i, ldO_b, ldO_c, ldO_a, stA_i, stO_i, stA_b, stO_b, stA_c, stO_c, stA_d, stO_d, ldO_d, j0_eq, Nat.not_lt_zero, if_true, if_false, not_false_eq_true, not_true_eq_false, true_and, and_true, reduceCtorEq, Value.ref.injEq, ne_eq, Nat.zero_add, Nat.add_zero, Nat.reduceAdd, Nat.reduceLeDiff, Nat.le_refl, Nat.reduceLT, Nat.zero_le, Value.int.injEq, Value.long.injEq, tn0, tn1, tn2, tn3, tn4, tn5, tn6, tn7, tn8, tn9, tl0, tl1, tl2, tl3, tl4, tl5, tl6, tl7, tl8, tl9, rp0, rp1, rp2, rp3, rp4, rp5, rp6, rp7, rp8, rp9, alO_a, an0, an1, ↓reduceIte, Int32.reduceAdd, Int32.reduceSub, Int32.reduceMul, Int32.reduceLT, Int32.reduceLE, Int32.reduceToNatClampNeg, Int64.reduceLT, Int64.reduceLE, Int64.reduceAdd, on0, on1, on2, on3, on4, on5, on6, on7, on8, on9]
  · by_cases g2 : ¬ c2 < 32 ∧ c2 ≤ 126
    · have q := True.intro
      have p1 := own_pr0 (jz := 1) (cs := cs) (sf := sf) g1
      have p2 := own_pr1 (jz := 1) (cs := cs) (sf := sf) g2
      simp +decide only [w0_127, w0_128, w0_130, w0_132, w0_133, w0_136, w0_138, w0_141, w0_144, w0_145, w0_147, w0_149, w0_150, w0_153, w0_155, w0_158, w0_161, w0_162, w0_164, w0_166, w0_167, w0_170, w0_172, w0_175, w0_178, w0_179, w0_181, w0_183, List.length_cons, List.length_nil, List.length_append, List.length_set, List.length_replicate, wt_nil, wt_int, wt_ref, wt_null, wt_long, wt_double, s1_unset, s1_int, s1_ref, s1_null, s2_unset, s2_val, s3_unset, s3_second, s3_int, s3_ref, isA_ref', isA_null', cat_int, cat_ref, cat_null, List.cons_append, List.nil_append, List.getElem?_cons_zero, List.getElem?_cons_succ, List.getElem?_nil, List.set_cons_zero, List.set_cons_succ, Option.toList_some, Option.toList_none, Option.some.injEq, exists_eq_left', Option.bind_some, Option.map_some, kdOf_eq, kdO_obj, rdF_eq, wrF_eq, alen_eq, ldA_eq, ldO_i, ldO_b, ldO_c, ldO_a, stA_i, stO_i, stA_b, stO_b, stA_c, stO_c, stA_d, stO_d, ldO_d, j0_eq, Nat.not_lt_zero, if_true, if_false, not_false_eq_true, not_true_eq_false, true_and, and_true, reduceCtorEq, Value.ref.injEq, ne_eq, Nat.zero_add, Nat.add_zero, Nat.reduceAdd, Nat.reduceLeDiff, Nat.le_refl, Nat.reduceLT, Nat.zero_le, Value.int.injEq, Value.long.injEq, tn0, tn1, tn2, tn3, tn4, tn5, tn6, tn7, tn8, tn9, tl0, tl1, tl2, tl3, tl4, tl5, tl6, tl7, tl8, tl9, rp0, rp1, rp2, rp3, rp4, rp5, rp6, rp7, rp8, rp9, alO_a, an0, an1, ↓reduceIte, Int32.reduceAdd, Int32.reduceSub, Int32.reduceMul, Int32.reduceLT, Int32.reduceLE, Int32.reduceToNatClampNeg, Int64.reduceLT, Int64.reduceLE, Int64.reduceAdd, on0, on1, on2, on3, on4, on5, on6, on7, on8, on9, p1, p2]
      rw [own_e0, own_bad hk hL k1 (by decide) g1]
      simp +decide only [w0_186, w0_188, w0_191, w0_192, w0_195, w0_196, List.length_cons, List.length_nil, List.length_append, List.length_set, List.length_replicate, wt_nil, wt_int, wt_ref, wt_null, wt_long, wt_double, s1_unset, s1_int, s1_ref, s1_null, s2_unset, s2_val, s3_unset, s3_second, s3_int, s3_ref, isA_ref', isA_null', cat_int, cat_ref, cat_null, List.cons_append, List.nil_append, List.getElem?_cons_zero, List.getElem?_cons_succ, List.getElem?_nil, List.set_cons_zero, List.set_cons_succ, Option.toList_some, Option.toList_none, Option.some.injEq, exists_eq_left', Option.bind_some, Option.map_some, kdOf_eq, kdO_obj, rdF_eq, wrF_eq, alen_eq, ldA_eq, ldO_i, ldO_b, ldO_c, ldO_a, stA_i, stO_i, stA_b, stO_b, stA_c, stO_c, stA_d, stO_d, ldO_d, j0_eq, Nat.not_lt_zero, if_true, if_false, not_false_eq_true, not_true_eq_false, true_and, and_true, reduceCtorEq, Value.ref.injEq, ne_eq, Nat.zero_add, Nat.add_zero, Nat.reduceAdd, Nat.reduceLeDiff, Nat.le_refl, Nat.reduceLT, Nat.zero_le, Value.int.injEq, Value.long.injEq, tn0, tn1, tn2, tn3, tn4, tn5, tn6, tn7, tn8, tn9, tl0, tl1, tl2, tl3, tl4, tl5, tl6, tl7, tl8, tl9, rp0, rp1, rp2, rp3, rp4, rp5, rp6, rp7, rp8, rp9, alO_a, an0, an1, ↓reduceIte, Int32.reduceAdd, Int32.reduceSub, Int32.reduceMul, Int32.reduceLT, Int32.reduceLE, Int32.reduceToNatClampNeg, Int64.reduceLT, Int64.reduceLE, Int64.reduceAdd, on0, on1, on2, on3, on4, on5, on6, on7, on8, on9]
    · have q := True.intro
      have p1 := own_pr0 (jz := 1) (cs := cs) (sf := sf) g1
      have p2 := own_pr0 (jz := 1) (cs := cs) (sf := sf) g2
      simp +decide only [w0_127, w0_128, w0_130, w0_132, w0_133, w0_136, w0_138, w0_141, w0_144, w0_145, w0_147, w0_149, w0_150, w0_153, w0_155, w0_158, w0_161, w0_162, w0_164, w0_166, w0_167, w0_170, w0_172, w0_175, w0_178, w0_179, w0_181, w0_183, List.length_cons, List.length_nil, List.length_append, List.length_set, List.length_replicate, wt_nil, wt_int, wt_ref, wt_null, wt_long, wt_double, s1_unset, s1_int, s1_ref, s1_null, s2_unset, s2_val, s3_unset, s3_second, s3_int, s3_ref, isA_ref', isA_null', cat_int, cat_ref, cat_null, List.cons_append, List.nil_append, List.getElem?_cons_zero, List.getElem?_cons_succ, List.getElem?_nil, List.set_cons_zero, List.set_cons_succ, Option.toList_some, Option.toList_none, Option.some.injEq, exists_eq_left', Option.bind_some, Option.map_some, kdOf_eq, kdO_obj, rdF_eq, wrF_eq, alen_eq, ldA_eq, ldO_i, ldO_b, ldO_c, ldO_a, stA_i, stO_i, stA_b, stO_b, stA_c, stO_c, stA_d, stO_d, ldO_d, j0_eq, Nat.not_lt_zero, if_true, if_false, not_false_eq_true, not_true_eq_false, true_and, and_true, reduceCtorEq, Value.ref.injEq, ne_eq, Nat.zero_add, Nat.add_zero, Nat.reduceAdd, Nat.reduceLeDiff, Nat.le_refl, Nat.reduceLT, Nat.zero_le, Value.int.injEq, Value.long.injEq, tn0, tn1, tn2, tn3, tn4, tn5, tn6, tn7, tn8, tn9, tl0, tl1, tl2, tl3, tl4, tl5, tl6, tl7, tl8, tl9, rp0, rp1, rp2, rp3, rp4, rp5, rp6, rp7, rp8, rp9, alO_a, an0, an1, ↓reduceIte, Int32.reduceAdd, Int32.reduceSub, Int32.reduceMul, Int32.reduceLT, Int32.reduceLE, Int32.reduceToNatClampNeg, Int64.reduceLT, Int64.reduceLE, Int64.reduceAdd, on0, on1, on2, on3, on4, on5, on6, on7, on8, on9, p1, p2]
      rw [own_e0, own_bad hk hL k1 (by decide) g1]
      simp +decide only [w0_186, w0_188, w0_191, w0_192, w0_195, w0_196, List.length_cons, List.length_nil, List.length_append, List.length_set, List.length_replicate, wt_nil, wt_int, wt_ref, wt_null, wt_long, wt_double, s1_unset, s1_int, s1_ref, s1_null, s2_unset, s2_val, s3_unset, s3_second, s3_int, s3_ref, isA_ref', isA_null', cat_int, cat_ref, cat_null, List.cons_append, List.nil_append, List.getElem?_cons_zero, List.getElem?_cons_succ, List.getElem?_nil, List.set_cons_zero, List.set_cons_succ, Option.toList_some, Option.toList_none, Option.some.injEq, exists_eq_left', Option.bind_some, Option.map_some, kdOf_eq, kdO_obj, rdF_eq, wrF_eq, alen_eq, ldA_eq, ldO_i, ldO_b, ldO_c, ldO_a, stA_i, stO_i, stA_b, stO_b, stA_c, stO_c, stA_d, stO_d, ldO_d, j0_eq, Nat.not_lt_zero, if_true, if_false, not_false_eq_true, not_true_eq_false, true_and, and_true, reduceCtorEq, Value.ref.injEq, ne_eq, Nat.zero_add, Nat.add_zero, Nat.reduceAdd, Nat.reduceLeDiff, Nat.le_refl, Nat.reduceLT, Nat.zero_le, Value.int.injEq, Value.long.injEq, tn0, tn1, tn2, tn3, tn4, tn5, tn6, tn7, tn8, tn9, tl0, tl1, tl2, tl3, tl4, tl5, tl6, tl7, tl8, tl9, rp0, rp1, rp2, rp3, rp4, rp5, rp6, rp7, rp8, rp9, alO_a, an0, an1, ↓reduceIte, Int32.reduceAdd, Int32.reduceSub, Int32.reduceMul, Int32.reduceLT, Int32.reduceLE, Int32.reduceToNatClampNeg, Int64.reduceLT, Int64.reduceLE, Int64.reduceAdd, on0, on1, on2, on3, on4, on5, on6, on7, on8, on9]
theorem own_str3 {cs : Int32} {sf : Value} (hcs : ¬ cs = 0) (hsf : cat sf = 1) {c1 c2 c3 : Int32} (h1 : c1.toUInt32.toUInt16.toUInt32.toInt32 = c1) (h2 : c2.toUInt32.toUInt16.toUInt32.toInt32 = c2) (h3 : c3.toUInt32.toUInt16.toUInt32.toInt32 = c3) {Q : MRes → Prop} (hq : ∀ H' : Hp, (∃ vs, H'[1]? = some (.inr 0, vs)) → own_L cs sf H' 3 → own_C cs sf H' 0 c1 → own_C cs sf H' 1 c2 → own_C cs sf H' 2 c3 → Q (none, H')) :
    Wp (Pg 1 cs sf) 2 (0, [.val (.ref 1), .val (.ref 2)], [], [(.inr 999, []), (.inr 0, [.null, .int 0]), (.inl .char, [.int c1, .int c2, .int c3])], 0, 0) Q := by
  have j1 := own_joinI c1 h1
  have j2 := own_joinI c2 h2
  have j3 := own_joinI c3 h3
  by_cases p1 : 255 < c1
  · simp +decide only [w2_0, w2_1, w2_2, w2_3, w2_4, w2_5, w2_6, w2_9, w3_0, w3_1, w3_4, w3_5, w3_8, w3_27, w3_30, w3_33, w3_34, w3_35, w3_36, w3_39, w3_41, w3_42, w3_44, w3_45, w3_48, w3_51, w3_52, w3_54, w3_57, w3_58, w3_59, w3_60, w3_63, w3_64, w3_65, w3_66, w7_0, w7_1, w7_3, w7_4, w7_5, w7_6, w7_7, w7_8, w7_9, w7_12, w7_14, w7_16, w7_17, w7_20, w7_21, w7_22, w7_23, w7_26, w7_28, w7_30, w7_32, w7_35, w7_38, w7_41, w7_43, w7_44, w7_45, w7_46, w7_54, w7_56, w7_56n, w7_57, w7_58, w7_58n, w8_0, w8_1, w8_3, w8_5, w8_7, w8_10, w8_11, w8_12, w8_13, w8_15, w8_17, w8_20, w8_23, w8_25, w8_26, w8_27, w8_28, w8_30, w8_31, w8_32, w8_35, w8_38, w8_41, w8_44, w8_46, w9_0, w9_1, w9_2, w9_3, w9_4, w9_6, w9_7, w9_8, w16_0, w16_1, w16_4, w16_5, w16_6, w16_8, w16_10, w16_11, w16_14, w16_15, w16_17, w16_18, w16_19, w16_20, w16_23, w16_26, w16_29, w16_32, w16_33, w16_33n, w17_0, w17_1, w17_4, w17_6, w17_6n, w18_0, w18_1, w18_12, w18_13, w18_15, w18_55, w18_56, w18_57, w18_58, w19_0, w19_3, w19_6, w19_7, w19_10, w19_11, w19_12, w19_15, w19_28, w19_29, w19_30, w19_31, w19_32, w19_33, w19_34, w19_37, w19_38, w19_41, w19_42, w19_43, w19_44, w19_45, w19_46, w19_47, w19_50, w19_51, w19_52, w19_53, w20_0, w20_3, w20_6, w20_7, w20_10, w20_11, w20_12, w20_15, w20_28, w20_29, w20_30, w20_31, w20_32, w20_33, w20_34, w20_37, w20_38, w20_41, w20_42, w20_45, w20_46, w20_47, w20_48, w20_49, w20_52, w20_53, w20_56, w20_57, w20_58, w20_59, List.length_cons, List.length_nil, List.length_append, List.length_set, List.length_replicate, wt_nil, wt_int, wt_ref, wt_null, wt_long, wt_double, s1_unset, s1_int, s1_ref, s1_null, s2_unset, s2_val, s3_unset, s3_second, s3_int, s3_ref, isA_ref', isA_null', cat_int, cat_ref, cat_null, List.cons_append, List.nil_append, List.getElem?_cons_zero, List.getElem?_cons_succ, List.getElem?_nil, List.set_cons_zero, List.set_cons_succ, Option.toList_some, Option.toList_none, Option.some.injEq, exists_eq_left', Option.bind_some, Option.map_some, kdOf_eq, kdO_obj, rdF_eq, wrF_eq, alen_eq, ldA_eq, ldO_i, ldO_b, ldO_c, ldO_a, stA_i, stO_i, stA_b, stO_b, stA_c, stO_c, stA_d, stO_d, ldO_d, j0_eq, Nat.not_lt_zero, if_true, if_false, not_false_eq_true, not_true_eq_false, true_and, and_true, reduceCtorEq, Value.ref.injEq, ne_eq, Nat.zero_add, Nat.add_zero, Nat.reduceAdd, Nat.reduceLeDiff, Nat.le_refl, Nat.reduceLT, Nat.zero_le, Value.int.injEq, Value.long.injEq, tn0, tn1, tn2, tn3, tn4, tn5, tn6, tn7, tn8, tn9, tl0, tl1, tl2, tl3, tl4, tl5, tl6, tl7, tl8, tl9, rp0, rp1, rp2, rp3, rp4, rp5, rp6, rp7, rp8, rp9, alO_a, an0, an1, ↓reduceIte, Int32.reduceAdd, Int32.reduceSub, Int32.reduceMul, Int32.reduceLT, Int32.reduceLE, Int32.reduceToNatClampNeg, Int64.reduceLT, Int64.reduceLE, Int64.reduceAdd, on0, on1, on2, on3, on4, on5, on6, on7, on8, on9, r5_9_0, r6_15_0, r11_9_0, r12_15_0, q3_15_0, q3_9_0, q3_9_0n, hcs, hsf, own_u0, own_u1, own_u2, own_u3, own_b0, own_b1, own_s0, own_s1, own_s8, own_shr0, own_shl0, own_i8i, own_le255, own_h2, own_h4, own_h6, own_z0, h1, j1, h2, j2, h3, j3, p1]
    exact hq _ ⟨_, rfl⟩ (own_len0 hcs hsf rfl rfl rfl (show Nat.toInt32 6 >>> (1 &&& 31) = 3 by decide)) (own_utfC hcs hsf rfl rfl (by decide) (show (0 : Int32) < Nat.toInt32 6 >>> (1 &&& 31) by decide) (by decide) rfl (by decide) rfl (own_h7 c1 h1) h1) (own_utfC hcs hsf rfl rfl (by decide) (show (1 : Int32) < Nat.toInt32 6 >>> (1 &&& 31) by decide) (by decide) rfl (by decide) rfl (own_h7 c2 h2) h2) (own_utfC hcs hsf rfl rfl (by decide) (show (2 : Int32) < Nat.toInt32 6 >>> (1 &&& 31) by decide) (by decide) rfl (by decide) rfl (own_h7 c3 h3) h3)
  · by_cases p2 : 255 < c2
    · simp +decide only [w2_0, w2_1, w2_2, w2_3, w2_4, w2_5, w2_6, w2_9, w3_0, w3_1, w3_4, w3_5, w3_8, w3_27, w3_30, w3_33, w3_34, w3_35, w3_36, w3_39, w3_41, w3_42, w3_44, w3_45, w3_48, w3_51, w3_52, w3_54, w3_57, w3_58, w3_59, w3_60, w3_63, w3_64, w3_65, w3_66, w7_0, w7_1, w7_3, w7_4, w7_5, w7_6, w7_7, w7_8, w7_9, w7_12, w7_14, w7_16, w7_17, w7_20, w7_21, w7_22, w7_23, w7_26, w7_28, w7_30, w7_32, w7_35, w7_38, w7_41, w7_43, w7_44, w7_45, w7_46, w7_54, w7_56, w7_56n, w7_57, w7_58, w7_58n, w8_0, w8_1, w8_3, w8_5, w8_7, w8_10, w8_11, w8_12, w8_13, w8_15, w8_17, w8_20, w8_23, w8_25, w8_26, w8_27, w8_28, w8_30, w8_31, w8_32, w8_35, w8_38, w8_41, w8_44, w8_46, w9_0, w9_1, w9_2, w9_3, w9_4, w9_6, w9_7, w9_8, w16_0, w16_1, w16_4, w16_5, w16_6, w16_8, w16_10, w16_11, w16_14, w16_15, w16_17, w16_18, w16_19, w16_20, w16_23, w16_26, w16_29, w16_32, w16_33, w16_33n, w17_0, w17_1, w17_4, w17_6, w17_6n, w18_0, w18_1, w18_12, w18_13, w18_15, w18_55, w18_56, w18_57, w18_58, w19_0, w19_3, w19_6, w19_7, w19_10, w19_11, w19_12, w19_15, w19_28, w19_29, w19_30, w19_31, w19_32, w19_33, w19_34, w19_37, w19_38, w19_41, w19_42, w19_43, w19_44, w19_45, w19_46, w19_47, w19_50, w19_51, w19_52, w19_53, w20_0, w20_3, w20_6, w20_7, w20_10, w20_11, w20_12, w20_15, w20_28, w20_29, w20_30, w20_31, w20_32, w20_33, w20_34, w20_37, w20_38, w20_41, w20_42, w20_45, w20_46, w20_47, w20_48, w20_49, w20_52, w20_53, w20_56, w20_57, w20_58, w20_59, List.length_cons, List.length_nil, List.length_append, List.length_set, List.length_replicate, wt_nil, wt_int, wt_ref, wt_null, wt_long, wt_double, s1_unset, s1_int, s1_ref, s1_null, s2_unset, s2_val, s3_unset, s3_second, s3_int, s3_ref, isA_ref', isA_null', cat_int, cat_ref, cat_null, List.cons_append, List.nil_append, List.getElem?_cons_zero, List.getElem?_cons_succ, List.getElem?_nil, List.set_cons_zero, List.set_cons_succ, Option.toList_some, Option.toList_none, Option.some.injEq, exists_eq_left', Option.bind_some, Option.map_some, kdOf_eq, kdO_obj, rdF_eq, wrF_eq, alen_eq, ldA_eq, ldO_i, ldO_b, ldO_c, ldO_a, stA_i, stO_i, stA_b, stO_b, stA_c, stO_c, stA_d, stO_d, ldO_d, j0_eq, Nat.not_lt_zero, if_true, if_false, not_false_eq_true, not_true_eq_false, true_and, and_true, reduceCtorEq, Value.ref.injEq, ne_eq, Nat.zero_add, Nat.add_zero, Nat.reduceAdd, Nat.reduceLeDiff, Nat.le_refl, Nat.reduceLT, Nat.zero_le, Value.int.injEq, Value.long.injEq, tn0, tn1, tn2, tn3, tn4, tn5, tn6, tn7, tn8, tn9, tl0, tl1, tl2, tl3, tl4, tl5, tl6, tl7, tl8, tl9, rp0, rp1, rp2, rp3, rp4, rp5, rp6, rp7, rp8, rp9, alO_a, an0, an1, ↓reduceIte, Int32.reduceAdd, Int32.reduceSub, Int32.reduceMul, Int32.reduceLT, Int32.reduceLE, Int32.reduceToNatClampNeg, Int64.reduceLT, Int64.reduceLE, Int64.reduceAdd, on0, on1, on2, on3, on4, on5, on6, on7, on8, on9, r5_9_0, r6_15_0, r11_9_0, r12_15_0, q3_15_0, q3_9_0, q3_9_0n, hcs, hsf, own_u0, own_u1, own_u2, own_u3, own_b0, own_b1, own_s0, own_s1, own_s8, own_shr0, own_shl0, own_i8i, own_le255, own_h2, own_h4, own_h6, own_z0, h1, j1, h2, j2, h3, j3, p1, p2]
      exact hq _ ⟨_, rfl⟩ (own_len0 hcs hsf rfl rfl rfl (show Nat.toInt32 6 >>> (1 &&& 31) = 3 by decide)) (own_utfC hcs hsf rfl rfl (by decide) (show (0 : Int32) < Nat.toInt32 6 >>> (1 &&& 31) by decide) (by decide) rfl (by decide) rfl (own_h7 c1 h1) h1) (own_utfC hcs hsf rfl rfl (by decide) (show (1 : Int32) < Nat.toInt32 6 >>> (1 &&& 31) by decide) (by decide) rfl (by decide) rfl (own_h7 c2 h2) h2) (own_utfC hcs hsf rfl rfl (by decide) (show (2 : Int32) < Nat.toInt32 6 >>> (1 &&& 31) by decide) (by decide) rfl (by decide) rfl (own_h7 c3 h3) h3)
    · by_cases p3 : 255 < c3
      · simp +decide only [w2_0, w2_1, w2_2, w2_3, w2_4, w2_5, w2_6, w2_9, w3_0, w3_1, w3_4, w3_5, w3_8, w3_27, w3_30, w3_33, w3_34, w3_35, w3_36, w3_39, w3_41, w3_42, w3_44, w3_45, w3_48, w3_51, w3_52, w3_54, w3_57, w3_58, w3_59, w3_60, w3_63, w3_64, w3_65, w3_66, w7_0, w7_1, w7_3, w7_4, w7_5, w7_6, w7_7, w7_8, w7_9, w7_12, w7_14, w7_16, w7_17, w7_20, w7_21, w7_22, w7_23, w7_26, w7_28, w7_30, w7_32, w7_35, w7_38, w7_41, w7_43, w7_44, w7_45, w7_46, w7_54, w7_56, w7_56n, w7_57, w7_58, w7_58n, w8_0, w8_1, w8_3, w8_5, w8_7, w8_10, w8_11, w8_12, w8_13, w8_15, w8_17, w8_20, w8_23, w8_25, w8_26, w8_27, w8_28, w8_30, w8_31, w8_32, w8_35, w8_38, w8_41, w8_44, w8_46, w9_0, w9_1, w9_2, w9_3, w9_4, w9_6, w9_7, w9_8, w16_0, w16_1, w16_4, w16_5, w16_6, w16_8, w16_10, w16_11, w16_14, w16_15, w16_17, w16_18, w16_19, w16_20, w16_23, w16_26, w16_29, w16_32, w16_33, w16_33n, w17_0, w17_1, w17_4, w17_6, w17_6n, w18_0, w18_1, w18_12, w18_13, w18_15, w18_55, w18_56, w18_57, w18_58, w19_0, w19_3, w19_6, w19_7, w19_10, w19_11, w19_12, w19_15, w19_28, w19_29, w19_30, w19_31, w19_32, w19_33, w19_34, w19_37, w19_38, w19_41, w19_42, w19_43, w19_44, w19_45, w19_46, w19_47, w19_50, w19_51, w19_52, w19_53, w20_0, w20_3, w20_6, w20_7, w20_10, w20_11, w20_12, w20_15, w20_28, w20_29, w20_30, w20_31, w20_32, w20_33, w20_34, w20_37, w20_38, w20_41, w20_42, w20_45, w20_46, w20_47, w20_48, w20_49, w20_52, w20_53, w20_56, w20_57, w20_58, w20_59, List.length_cons, List.length_nil, List.length_append, List.length_set, List.length_replicate, wt_nil, wt_int, wt_ref, wt_null, wt_long, wt_double, s1_unset, s1_int, s1_ref, s1_null, s2_unset, s2_val, s3_unset, s3_second, s3_int, s3_ref, isA_ref', isA_null', cat_int, cat_ref, cat_null, List.cons_append, List.nil_append, List.getElem?_cons_zero, List.getElem?_cons_succ, List.getElem?_nil, List.set_cons_zero, List.set_cons_succ, Option.toList_some, Option.toList_none, Option.some.injEq, exists_eq_left', Option.bind_some, Option.map_some, kdOf_eq, kdO_obj, rdF_eq, wrF_eq, alen_eq, ldA_eq, ldO_i, ldO_b, ldO_c, ldO_a, stA_i, stO_i, stA_b, stO_b, stA_c, stO_c, stA_d, stO_d, ldO_d, j0_eq, Nat.not_lt_zero, if_true, if_false, not_false_eq_true, not_true_eq_false, true_and, and_true, reduceCtorEq, Value.ref.injEq, ne_eq, Nat.zero_add, Nat.add_zero, Nat.reduceAdd, Nat.reduceLeDiff, Nat.le_refl, Nat.reduceLT, Nat.zero_le, Value.int.injEq, Value.long.injEq, tn0, tn1, tn2, tn3, tn4, tn5, tn6, tn7, tn8, tn9, tl0, tl1, tl2, tl3, tl4, tl5, tl6, tl7, tl8, tl9, rp0, rp1, rp2, rp3, rp4, rp5, rp6, rp7, rp8, rp9, alO_a, an0, an1, ↓reduceIte, Int32.reduceAdd, Int32.reduceSub, Int32.reduceMul, Int32.reduceLT, Int32.reduceLE, Int32.reduceToNatClampNeg, Int64.reduceLT, Int64.reduceLE, Int64.reduceAdd, on0, on1, on2, on3, on4, on5, on6, on7, on8, on9, r5_9_0, r6_15_0, r11_9_0, r12_15_0, q3_15_0, q3_9_0, q3_9_0n, hcs, hsf, own_u0, own_u1, own_u2, own_u3, own_b0, own_b1, own_s0, own_s1, own_s8, own_shr0, own_shl0, own_i8i, own_le255, own_h2, own_h4, own_h6, own_z0, h1, j1, h2, j2, h3, j3, p1, p2, p3]
        exact hq _ ⟨_, rfl⟩ (own_len0 hcs hsf rfl rfl rfl (show Nat.toInt32 6 >>> (1 &&& 31) = 3 by decide)) (own_utfC hcs hsf rfl rfl (by decide) (show (0 : Int32) < Nat.toInt32 6 >>> (1 &&& 31) by decide) (by decide) rfl (by decide) rfl (own_h7 c1 h1) h1) (own_utfC hcs hsf rfl rfl (by decide) (show (1 : Int32) < Nat.toInt32 6 >>> (1 &&& 31) by decide) (by decide) rfl (by decide) rfl (own_h7 c2 h2) h2) (own_utfC hcs hsf rfl rfl (by decide) (show (2 : Int32) < Nat.toInt32 6 >>> (1 &&& 31) by decide) (by decide) rfl (by decide) rfl (own_h7 c3 h3) h3)
      · simp +decide only [w2_0, w2_1, w2_2, w2_3, w2_4, w2_5, w2_6, w2_9, w3_0, w3_1, w3_4, w3_5, w3_8, w3_27, w3_30, w3_33, w3_34, w3_35, w3_36, w3_39, w3_41, w3_42, w3_44, w3_45, w3_48, w3_51, w3_52, w3_54, w3_57, w3_58, w3_59, w3_60, w3_63, w3_64, w3_65, w3_66, w7_0, w7_1, w7_3, w7_4, w7_5, w7_6, w7_7, w7_8, w7_9, w7_12, w7_14, w7_16, w7_17, w7_20, w7_21, w7_22, w7_23, w7_26, w7_28, w7_30, w7_32, w7_35, w7_38, w7_41, w7_43, w7_44, w7_45, w7_46, w7_54, w7_56, w7_56n, w7_57, w7_58, w7_58n, w8_0, w8_1, w8_3, w8_5, w8_7, w8_10, w8_11, w8_12, w8_13, w8_15, w8_17, w8_20, w8_23, w8_25, w8_26, w8_27, w8_28, w8_30, w8_31, w8_32, w8_35, w8_38, w8_41, w8_44, w8_46, w9_0, w9_1, w9_2, w9_3, w9_4, w9_6, w9_7, w9_8, w16_0, w16_1, w16_4, w16_5, w16_6, w16_8, w16_10, w16_11, w16_14, w16_15, w16_17, w16_18, w16_19, w16_20, w16_23, w16_26, w16_29, w16_32, w16_33, w16_33n, w17_0, w17_1, w17_4, w17_6, w17_6n, w18_0, w18_1, w18_12, w18_13, w18_15, w18_55, w18_56, w18_57, w18_58, w19_0, w19_3, w19_6, w19_7, w19_10, w19_11, w19_12, w19_15, w19_28, w19_29, w19_30, w19_31, w19_32, w19_33, w19_34, w19_37, w19_38, w19_41, w19_42, w19_43, w19_44, w19_45, w19_46, w19_47, w19_50, w19_51, w19_52, w19_53, w20_0, w20_3, w20_6, w20_7, w20_10, w20_11, w20_12, w20_15, w20_28, w20_29, w20_30, w20_31, w20_32, w20_33, w20_34, w20_37, w20_38, w20_41, w20_42, w20_45, w20_46, w20_47, w20_48, w20_49, w20_52, w20_53, w20_56, w20_57, w20_58, w20_59, List.length_cons, List.length_nil, List.length_append, List.length_set, List.length_replicate, wt_nil, wt_int, wt_ref, wt_null, wt_long, wt_double, s1_unset, s1_int, s1_ref, s1_null, s2_unset, s2_val, s3_unset, s3_second, s3_int, s3_ref, isA_ref', isA_null', cat_int, cat_ref, cat_null, List.cons_append, List.nil_append, List.getElem?_cons_zero, List.getElem?_cons_succ, List.getElem?_nil, List.set_cons_zero, List.set_cons_succ, Option.toList_some, Option.toList_none, Option.some.injEq, exists_eq_left', Option.bind_some, Option.map_some, kdOf_eq, kdO_obj, rdF_eq, wrF_eq, alen_eq, ldA_eq, ldO_i, ldO_b, ldO_c, ldO_a, stA_i, stO_i, stA_b, stO_b, stA_c, stO_c, stA_d, stO_d, ldO_d, j0_eq, Nat.not_lt_zero, if_true, if_false, not_false_eq_true, not_true_eq_false, true_and, and_true, reduceCtorEq, Value.ref.injEq, ne_eq, Nat.zero_add, Nat.add_zero, Nat.reduceAdd, Nat.reduceLeDiff, Nat.le_refl, Nat.reduceLT, Nat.zero_le, Value.int.injEq, Value.long.injEq, tn0, tn1, tn2, tn3, tn4, tn5, tn6, tn7, tn8, tn9, tl0, tl1, tl2, tl3, tl4, tl5, tl6, tl7, tl8, tl9, rp0, rp1, rp2, rp3, rp4, rp5, rp6, rp7, rp8, rp9, alO_a, an0, an1, ↓reduceIte, Int32.reduceAdd, Int32.reduceSub, Int32.reduceMul, Int32.reduceLT, Int32.reduceLE, Int32.reduceToNatClampNeg, Int64.reduceLT, Int64.reduceLE, Int64.reduceAdd, on0, on1, on2, on3, on4, on5, on6, on7, on8, on9, r5_9_0, r6_15_0, r11_9_0, r12_15_0, q3_15_0, q3_9_0, q3_9_0n, hcs, hsf, own_u0, own_u1, own_u2, own_u3, own_b0, own_b1, own_s0, own_s1, own_s8, own_shr0, own_shl0, own_i8i, own_le255, own_h2, own_h4, own_h6, own_z0, h1, j1, h2, j2, h3, j3, p1, p2, p3]
        exact hq _ ⟨_, rfl⟩ (own_len0 hcs hsf rfl rfl rfl (show Nat.toInt32 3 >>> (0 &&& 31) = 3 by decide)) (own_latC hcs hsf rfl rfl (by decide) (show (0 : Int32) < Nat.toInt32 3 by decide) rfl (own_lat c1 h1 p1) h1) (own_latC hcs hsf rfl rfl (by decide) (show (1 : Int32) < Nat.toInt32 3 by decide) rfl (own_lat c2 h2 p2) h2) (own_latC hcs hsf rfl rfl (by decide) (show (2 : Int32) < Nat.toInt32 3 by decide) rfl (own_lat c3 h3 p3) h3)
theorem own_fin3 {cs : Int32} {sf : Value} (x0 x1 x2 x3 c1 c2 c3 : Int32) {H : Hp} (hk : ∃ vs, H[1]? = some (.inr 0, vs)) (hL : own_L cs sf H 3) (k1 : own_C cs sf H 0 c1) (k2 : own_C cs sf H 1 c2) (k3 : own_C cs sf H 2 c3) : Wp (Pg 1 cs sf) 0 (127, [.val (.int x0), .val (.int x1), .val (.int x2), .val (.int x3), .val (.int 3), .val (.int c1), .val (.int c2), .val (.int c3), .val (.ref 1), .unset], [], H, 4, 16) (fun r => r.1 = some (.int 1)) := by
  by_cases g1 : ¬ c1 < 32 ∧ c1 ≤ 126
  · by_cases g2 : ¬ c2 < 32 ∧ c2 ≤ 126
    · by_cases g3 : ¬ c3 < 32 ∧ c3 ≤ 126
      · have q := True.intro
        have p1 := own_pr1 (jz := 1) (cs := cs) (sf := sf) g1
        have p2 := own_pr1 (jz := 1) (cs := cs) (sf := sf) g2
        have p3 := own_pr1 (jz := 1) (cs := cs) (sf := sf) g3
        simp +decide only [w0_127, w0_128, w0_130, w0_132, w0_133, w0_136, w0_138, w0_141, w0_144, w0_145, w0_147, w0_149, w0_150, w0_153, w0_155, w0_158, w0_161, w0_162, w0_164, w0_166, w0_167, w0_170, w0_172, w0_175, w0_178, w0_179, w0_181, w0_183, List.length_cons, List.length_nil, List.length_append, List.length_set, List.length_replicate, wt_nil, wt_int, wt_ref, wt_null, wt_long, wt_double, s1_unset, s1_int, s1_ref, s1_null, s2_unset, s2_val, s3_unset, s3_second, s3_int, s3_ref, isA_ref', isA_null', cat_int, cat_ref, cat_null, List.cons_append, List.nil_append, List.getElem?_cons_zero, List.getElem?_cons_succ, List.getElem?_nil, List.set_cons_zero, List.set_cons_succ, Option.toList_some, Option.toList_none, Option.some.injEq, exists_eq_left', Option.bind_some, Option.map_some, kdOf_eq, kdO_obj, rdF_eq, wrF_eq, alen_eq, ldA_eq, ldO_i, ldO_b, ldO_c, ldO_a, stA_i, stO_i, stA_b, stO_b, stA_c, stO_c, stA_d, stO_d, ldO_d, j0_eq, Nat.not_lt_zero, if_true, if_false, not_false_eq_true, not_true_eq_false, true_and, and_true, reduceCtorEq, Value.ref.injEq, ne_eq, Nat.zero_add, Nat.add_zero, Nat.reduceAdd, Nat.reduceLeDiff, Nat.le_refl, Nat.reduceLT, Nat.zero_le, Value.int.injEq, Value.long.injEq, tn0, tn1, tn2, tn3, tn4, tn5, tn6, tn7, tn8, tn9, tl0, tl1, tl2, tl3, tl4, tl5, tl6, tl7, tl8, tl9, rp0, rp1, rp2, rp3, rp4, rp5, rp6, rp7, rp8, rp9, alO_a, an0, an1, ↓reduceIte, Int32.reduceAdd, Int32.reduceSub, Int32.reduceMul, Int32.reduceLT, Int32.reduceLE, Int32.reduceToNatClampNeg, Int64.reduceLT, Int64.reduceLE, Int64.reduceAdd, on0, on1, on2, on3, on4, on5, on6, on7, on8, on9, p1, p2, p3]
        rw [own_e0, own_good hk hL k1 (by decide) (show (0 : Int32) + 1 = 1 by decide) g1, own_good hk hL k2 (by decide) (show (1 : Int32) + 1 = 2 by decide) g2, own_good hk hL k3 (by decide) (show (2 : Int32) + 1 = 3 by decide) g3, own_end hk hL (by decide)]
        simp +decide only [w0_186, w0_188, w0_191, w0_192, w0_195, w0_196, List.length_cons, List.length_nil, List.length_append, List.length_set, List.length_replicate, wt_nil, wt_int, wt_ref, wt_null, wt_long, wt_double, s1_unset, s1_int, s1_ref, s1_null, s2_unset, s2_val, s3_unset, s3_second, s3_int, s3_ref, isA_ref', isA_null', cat_int, cat_ref, cat_null, List.cons_append, List.nil_append, List.getElem?_cons_zero, List.getElem?_cons_succ, List.getElem?_nil, List.set_cons_zero, List.set_cons_succ, Option.toList_some, Option.toList_none, Option.some.injEq, exists_eq_left', Option.bind_some, Option.map_some, kdOf_eq, kdO_obj, rdF_eq, wrF_eq, alen_eq, ldA_eq, ldO_i, ldO_b, ldO_c, ldO_a, stA_i, stO_i, stA_b, stO_b, stA_c, stO_c, stA_d, stO_d, ldO_d, j0_eq, Nat.not_lt_zero, if_true, if_false, not_false_eq_true, not_true_eq_false, true_and, and_true, reduceCtorEq, Value.ref.injEq, ne_eq, Nat.zero_add, Nat.add_zero, Nat.reduceAdd, Nat.reduceLeDiff, Nat.le_refl, Nat.reduceLT, Nat.zero_le, Value.int.injEq, Value.long.injEq, tn0, tn1, tn2, tn3, tn4, tn5, tn6, tn7, tn8, tn9, tl0, tl1, tl2, tl3, tl4, tl5, tl6, tl7, tl8, tl9, rp0, rp1, rp2, rp3, rp4, rp5, rp6, rp7, rp8, rp9, alO_a, an0, an1, ↓reduceIte, Int32.reduceAdd, Int32.reduceSub, Int32.reduceMul, Int32.reduceLT, Int32.reduceLE, Int32.reduceToNatClampNeg, Int64.reduceLT, Int64.reduceLE, Int64.reduceAdd, on0, on1, on2, on3, on4, on5, on6, on7, on8, on9]
      · have q := True.intro
        have p1 := own_pr1 (jz := 1) (cs := cs) (sf := sf) g1
        have p2 := own_pr1 (jz := 1) (cs := cs) (sf := sf) g2
        have p3 := own_pr0 (jz := 1) (cs := cs) (sf := sf) g3
        simp +decide only [w0_127, w0_128, w0_130, w0_132, w0_133, w0_136, w0_138, w0_141, w0_144, w0_145, w0_147, w0_149, w0_150, w0_153, w0_155, w0_158, w0_161, w0_162, w0_164, w0_166, w0_167, w0_170, w0_172, w0_175, w0_178, w0_179, w0_181, w0_183, List.length_cons, List.length_nil, List.length_append, List.length_set, List.length_replicate, wt_nil, wt_int, wt_ref, wt_null, wt_long, wt_double, s1_unset, s1_int, s1_ref, s1_null, s2_unset, s2_val, s3_unset, s3_second, s3_int, s3_ref, isA_ref', isA_null', cat_int, cat_ref, cat_null, List.cons_append, List.nil_append, List.getElem?_cons_zero, List.getElem?_cons_succ, List.getElem?_nil, List.set_cons_zero, List.set_cons_succ, Option.toList_some, Option.toList_none, Option.some.injEq, exists_eq_left', Option.bind_some, Option.map_some, kdOf_eq, kdO_obj, rdF_eq, wrF_eq, alen_eq, ldA_eq, ldO_i, ldO_b, ldO_c, ldO_a, stA_i, stO_i, stA_b, stO_b, stA_c, stO_c, stA_d, stO_d, ldO_d, j0_eq, Nat.not_lt_zero, if_true, if_false, not_false_eq_true, not_true_eq_false, true_and, and_true, reduceCtorEq, Value.ref.injEq, ne_eq, Nat.zero_add, Nat.add_zero, Nat.reduceAdd, Nat.reduceLeDiff, Nat.le_refl, Nat.reduceLT, Nat.zero_le, Value.int.injEq, Value.long.injEq, tn0, tn1, tn2, tn3, tn4, tn5, tn6, tn7, tn8, tn9, tl0, tl1, tl2, tl3, tl4, tl5, tl6, tl7, tl8, tl9, rp0, rp1, rp2, rp3, rp4, rp5, rp6, rp7, rp8, rp9, alO_a, an0, an1, ↓reduceIte, Int32.reduceAdd, Int32.reduceSub, Int32.reduceMul, Int32.reduceLT, Int32.reduceLE, Int32.reduceToNatClampNeg, Int64.reduceLT, Int64.reduceLE, Int64.reduceAdd, on0, on1, on2, on3, on4, on5, on6, on7, on8, on9, p1, p2, p3]
        rw [own_e0, own_good hk hL k1 (by decide) (show (0 : Int32) + 1 = 1 by decide) g1, own_good hk hL k2 (by decide) (show (1 : Int32) + 1 = 2 by decide) g2, own_bad hk hL k3 (by decide) g3]
        simp +decide only [w0_186, w0_188, w0_191, w0_192, w0_195, w0_196, List.length_cons, List.length_nil, List.length_append, List.length_set, List.length_replicate, wt_nil, wt_int, wt_ref, wt_null, wt_long, wt_double, s1_unset, s1_int, s1_ref, s1_null, s2_unset, s2_val, s3_unset, s3_second, s3_int, s3_ref, isA_ref', isA_null', cat_int, cat_ref, cat_null, List.cons_append, List.nil_append, List.getElem?_cons_zero, List.getElem?_cons_succ, List.getElem?_nil, List.set_cons_zero, List.set_cons_succ, Option.toList_some, Option.toList_none, Option.some.injEq, exists_eq_left', Option.bind_some, Option.map_some, kdOf_eq, kdO_obj, rdF_eq, wrF_eq, alen_eq, ldA_eq, ldO_i, ldO_b, ldO_c, ldO_a, stA_i, stO_i, stA_b, stO_b, stA_c, stO_c, stA_d, stO_d, ldO_d, j0_eq, Nat.not_lt_zero, if_true, if_false, not_false_eq_true, not_true_eq_false, true_and, and_true, reduceCtorEq, Value.ref.injEq, ne_eq, Nat.zero_add, Nat.add_zero, Nat.reduceAdd, Nat.reduceLeDiff, Nat.le_refl, Nat.reduceLT, Nat.zero_le, Value.int.injEq, Value.long.injEq, tn0, tn1, tn2, tn3, tn4, tn5, tn6, tn7, tn8, tn9, tl0, tl1, tl2, tl3, tl4, tl5, tl6, tl7, tl8, tl9, rp0, rp1, rp2, rp3, rp4, rp5, rp6, rp7, rp8, rp9, alO_a, an0, an1, ↓reduceIte, Int32.reduceAdd, Int32.reduceSub, Int32.reduceMul, Int32.reduceLT, Int32.reduceLE, Int32.reduceToNatClampNeg, Int64.reduceLT, Int64.reduceLE, Int64.reduceAdd, on0, on1, on2, on3, on4, on5, on6, on7, on8, on9]
    · by_cases g3 : ¬ c3 < 32 ∧ c3 ≤ 126
      · have q := True.intro
        have p1 := own_pr1 (jz := 1) (cs := cs) (sf := sf) g1
        have p2 := own_pr0 (jz := 1) (cs := cs) (sf := sf) g2
        have p3 := own_pr1 (jz := 1) (cs := cs) (sf := sf) g3
        simp +decide only [w0_127, w0_128, w0_130, w0_132, w0_133, w0_136, w0_138, w0_141, w0_144, w0_145, w0_147, w0_149, w0_150, w0_153, w0_155, w0_158, w0_161, w0_162, w0_164, w0_166, w0_167, w0_170, w0_172, w0_175, w0_178, w0_179, w0_181, w0_183, List.length_cons, List.length_nil, List.length_append, List.length_set, List.length_replicate, wt_nil, wt_int, wt_ref, wt_null, wt_long, wt_double, s1_unset, s1_int, s1_ref, s1_null, s2_unset, s2_val, s3_unset, s3_second, s3_int, s3_ref, isA_ref', isA_null', cat_int, cat_ref, cat_null, List.cons_append, List.nil_append, List.getElem?_cons_zero, List.getElem?_cons_succ, List.getElem?_nil, List.set_cons_zero, List.set_cons_succ, Option.toList_some, Option.toList_none, Option.some.injEq, exists_eq_left', Option.bind_some, Option.map_some, kdOf_eq, kdO_obj, rdF_eq, wrF_eq, alen_eq, ldA_eq, ldO_i, ldO_b, ldO_c, ldO_a, stA_i, stO_i, stA_b, stO_b, stA_c, stO_c, stA_d, stO_d, ldO_d, j0_eq, Nat.not_lt_zero, if_true, if_false, not_false_eq_true, not_true_eq_false, true_and, and_true, reduceCtorEq, Value.ref.injEq, ne_eq, Nat.zero_add, Nat.add_zero, Nat.reduceAdd, Nat.reduceLeDiff, Nat.le_refl, Nat.reduceLT, Nat.zero_le, Value.int.injEq, Value.long.injEq, tn0, tn1, tn2, tn3, tn4, tn5, tn6, tn7, tn8, tn9, tl0, tl1, tl2, tl3, tl4, tl5, tl6, tl7, tl8, tl9, rp0, rp1, rp2, rp3, rp4, rp5, rp6, rp7, rp8, rp9, alO_a, an0, an1, ↓reduceIte, Int32.reduceAdd, Int32.reduceSub, Int32.reduceMul, Int32.reduceLT, Int32.reduceLE, Int32.reduceToNatClampNeg, Int64.reduceLT, Int64.reduceLE, Int64.reduceAdd, on0, on1, on2, on3, on4, on5, on6, on7, on8, on9, p1, p2, p3]
        rw [own_e0, own_good hk hL k1 (by decide) (show (0 : Int32) + 1 = 1 by decide) g1, own_bad hk hL k2 (by decide) g2]
        simp +decide only [w0_186, w0_188, w0_191, w0_192, w0_195, w0_196, List.length_cons, List.length_nil, List.length_append, List.length_set, List.length_replicate, wt_nil, wt_int, wt_ref, wt_null, wt_long, wt_double, s1_unset, s1_int, s1_ref, s1_null, s2_unset, s2_val, s3_unset, s3_second, s3_int, s3_ref, isA_ref', isA_null', cat_int, cat_ref, cat_null, List.cons_append, List.nil_append, List.getElem?_cons_zero, List.getElem?_cons_succ, List.getElem?_nil, List.set_cons_zero, List.set_cons_succ, Option.toList_some, Option.toList_none, Option.some.injEq, exists_eq_left', Option.bind_some, Option.map_some, kdOf_eq, kdO_obj, rdF_eq, wrF_eq, alen_eq, ldA_eq, ldO_i, ldO_b, ldO_c, ldO_a, stA_i, stO_i, stA_b, stO_b, stA_c, stO_c, stA_d, stO_d, ldO_d, j0_eq, Nat.not_lt_zero, if_true, if_false, not_false_eq_true, not_true_eq_false, true_and, and_true, reduceCtorEq, Value.ref.injEq, ne_eq, Nat.zero_add, Nat.add_zero, Nat.reduceAdd, Nat.reduceLeDiff, Nat.le_refl, Nat.reduceLT, Nat.zero_le, Value.int.injEq, Value.long.injEq, tn0, tn1, tn2, tn3, tn4, tn5, tn6, tn7, tn8, tn9, tl0, tl1, tl2, tl3, tl4, tl5, tl6, tl7, tl8, tl9, rp0, rp1, rp2, rp3, rp4, rp5, rp6, rp7, rp8, rp9, alO_a, an0, an1, ↓reduceIte, Int32.reduceAdd, Int32.reduceSub, Int32.reduceMul, Int32.reduceLT, Int32.reduceLE, Int32.reduceToNatClampNeg, Int64.reduceLT, Int64.reduceLE, Int64.reduceAdd, on0, on1, on2, on3, on4, on5, on6, on7, on8, on9]
      · have q := True.intro
        have p1 := own_pr1 (jz := 1) (cs := cs) (sf := sf) g1
        have p2 := own_pr0 (jz := 1) (cs := cs) (sf := sf) g2
        have p3 := own_pr0 (jz := 1) (cs := cs) (sf := sf) g3
        simp +decide only [w0_127, w0_128, w0_130, w0_132, w0_133, w0_136, w0_138, w0_141, w0_144, w0_145, w0_147, w0_149, w0_150, w0_153, w0_155, w0_158, w0_161, w0_162, w0_164, w0_166, w0_167, w0_170, w0_172, w0_175, w0_178, w0_179, w0_181, w0_183, List.length_cons, List.length_nil, List.length_append, List.length_set, List.length_replicate, wt_nil, wt_int, wt_ref, wt_null, wt_long, wt_double, s1_unset, s1_int, s1_ref, s1_null, s2_unset, s2_val, s3_unset, s3_second, s3_int, s3_ref, isA_ref', isA_null', cat_int, cat_ref, cat_null, List.cons_append, List.nil_append, List.getElem?_cons_zero, List.getElem?_cons_succ, List.getElem?_nil, List.set_cons_zero, List.set_cons_succ, Option.toList_some, Option.toList_none, Option.some.injEq, exists_eq_left', Option.bind_some, Option.map_some, kdOf_eq, kdO_obj, rdF_eq, wrF_eq, alen_eq, ldA_eq, ldO_i, ldO_b, ldO_c, ldO_a, stA_i, stO_i, stA_b, stO_b, stA_c, stO_c, stA_d, stO_d, ldO_d, j0_eq, Nat.not_lt_zero, if_true, if_false, not_false_eq_true, not_true_eq_false, true_and, and_true, reduceCtorEq, Value.ref.injEq, ne_eq, Nat.zero_add, Nat.add_zero, Nat.reduceAdd, Nat.reduceLeDiff, Nat.le_refl, Nat.reduceLT, Nat.zero_le, Value.int.injEq, Value.long.injEq, tn0, tn1, tn2, tn3, tn4, tn5, tn6, tn7, tn8, tn9, tl0, tl1, tl2, tl3, tl4, tl5, tl6, tl7, tl8, tl9, rp0, rp1, rp2, rp3, rp4, rp5, rp6, rp7, rp8, rp9, alO_a, an0, an1, ↓reduceIte, Int32.reduceAdd, Int32.reduceSub, Int32.reduceMul, Int32.reduceLT, Int32.reduceLE, Int32.reduceToNatClampNeg, Int64.reduceLT, Int64.reduceLE, Int64.reduceAdd, on0, on1, on2, on3, on4, on5, on6, on7, on8, on9, p1, p2, p3]
        rw [own_e0, own_good hk hL k1 (by decide) (show (0 : Int32) + 1 = 1 by decide) g1, own_bad hk hL k2 (by decide) g2]
        simp +decide only [w0_186, w0_188, w0_191, w0_192, w0_195, w0_196, List.length_cons, List.length_nil, List.length_append, List.length_set, List.length_replicate, wt_nil, wt_int, wt_ref, wt_null, wt_long, wt_double, s1_unset, s1_int, s1_ref, s1_null, s2_unset, s2_val, s3_unset, s3_second, s3_int, s3_ref, isA_ref', isA_null', cat_int, cat_ref, cat_null, List.cons_append, List.nil_append, List.getElem?_cons_zero, List.getElem?_cons_succ, List.getElem?_nil, List.set_cons_zero, List.set_cons_succ, Option.toList_some, Option.toList_none, Option.some.injEq, exists_eq_left', Option.bind_some, Option.map_some, kdOf_eq, kdO_obj, rdF_eq, wrF_eq, alen_eq, ldA_eq, ldO_i, ldO_b, ldO_c, ldO_a, stA_i, stO_i, stA_b, stO_b, stA_c, stO_c, stA_d, stO_d, ldO_d, j0_eq, Nat.not_lt_zero, if_true, if_false, not_false_eq_true, not_true_eq_false, true_and, and_true, reduceCtorEq, Value.ref.injEq, ne_eq, Nat.zero_add, Nat.add_zero, Nat.reduceAdd, Nat.reduceLeDiff, Nat.le_refl, Nat.reduceLT, Nat.zero_le, Value.int.injEq, Value.long.injEq, tn0, tn1, tn2, tn3, tn4, tn5, tn6, tn7, tn8, tn9, tl0, tl1, tl2, tl3, tl4, tl5, tl6, tl7, tl8, tl9, rp0, rp1, rp2, rp3, rp4, rp5, rp6, rp7, rp8, rp9, alO_a, an0, an1, ↓reduceIte, Int32.reduceAdd, Int32.reduceSub, Int32.reduceMul, Int32.reduceLT, Int32.reduceLE, Int32.reduceToNatClampNeg, Int64.reduceLT, Int64.reduceLE, Int64.reduceAdd, on0, on1, on2, on3, on4, on5, on6, on7, on8, on9]
  · by_cases g2 : ¬ c2 < 32 ∧ c2 ≤ 126
    · by_cases g3 : ¬ c3 < 32 ∧ c3 ≤ 126
      · have q := True.intro
        have p1 := own_pr0 (jz := 1) (cs := cs) (sf := sf) g1
        have p2 := own_pr1 (jz := 1) (cs := cs) (sf := sf) g2
        have p3 := own_pr1 (jz := 1) (cs := cs) (sf := sf) g3
        simp +decide only [w0_127, w0_128, w0_130, w0_132, w0_133, w0_136, w0_138, w0_141, w0_144, w0_145, w0_147, w0_149, w0_150, w0_153, w0_155, w0_158, w0_161, w0_162, w0_164, w0_166, w0_167, w0_170, w0_172, w0_175, w0_178, w0_179, w0_181, w0_183, List.length_cons, List.length_nil, List.length_append, List.length_set, List.length_replicate, wt_nil, wt_int, wt_ref, wt_null, wt_long, wt_double, s1_unset, s1_int, s1_ref, s1_null, s2_unset, s2_val, s3_unset, s3_second, s3_int, s3_ref, isA_ref', isA_null', cat_int, cat_ref, cat_null, List.cons_append, List.nil_append, List.getElem?_cons_zero, List.getElem?_cons_succ, List.getElem?_nil, List.set_cons_zero, List.set_cons_succ, Option.toList_some, Option.toList_none, Option.some.injEq, exists_eq_left', Option.bind_some, Option.map_some, kdOf_eq, kdO_obj, rdF_eq, wrF_eq, alen_eq, ldA_eq, ldO_i, ldO_b, ldO_c, ldO_a, stA_i, stO_i, stA_b, stO_b, stA_c, stO_c, stA_d, stO_d, ldO_d, j0_eq, Nat.not_lt_zero, if_true, if_false, not_false_eq_true, not_true_eq_false, true_and, and_true, reduceCtorEq, Value.ref.injEq, ne_eq, Nat.zero_add, Nat.add_zero, Nat.reduceAdd, Nat.reduceLeDiff, Nat.le_refl, Nat.reduceLT, Nat.zero_le, Value.int.injEq, Value.long.injEq, tn0, tn1, tn2, tn3, tn4, tn5, tn6, tn7, tn8, tn9, tl0, tl1, tl2, tl3, tl4, tl5, tl6, tl7, tl8, tl9, rp0, rp1, rp2, rp3, rp4, rp5, rp6, rp7, rp8, rp9, alO_a, an0, an1, ↓reduceIte, Int32.reduceAdd, Int32.reduceSub, Int32.reduceMul, Int32.reduceLT, Int32.reduceLE, Int32.reduceToNatClampNeg, Int64.reduceLT, Int64.reduceLE, Int64.reduceAdd, on0, on1, on2, on3, on4, on5, on6, on7, on8, on9, p1, p2, p3]
        rw [own_e0, own_bad hk hL k1 (by decide) g1]
        simp +decide only [w0_186, w0_188, w0_191, w0_192, w0_195, w0_196, List.length_cons, List.length_nil, List.length_append, List.length_set, List.length_replicate, wt_nil, wt_int, wt_ref, wt_null, wt_long, wt_double, s1_unset, s1_int, s1_ref, s1_null, s2_unset, s2_val, s3_unset, s3_second, s3_int, s3_ref, isA_ref', isA_null', cat_int, cat_ref, cat_null, List.cons_append, List.nil_append, List.getElem?_cons_zero, List.getElem?_cons_succ, List.getElem?_nil, List.set_cons_zero, List.set_cons_succ, Option.toList_some, Option.toList_none, Option.some.injEq, exists_eq_left', Option.bind_some, Option.map_some, kdOf_eq, kdO_obj, rdF_eq, wrF_eq, alen_eq, ldA_eq, ldO_i, ldO_b, ldO_c, ldO_a, stA_i, stO_i, stA_b, stO_b, stA_c, stO_c, stA_d, stO_d, ldO_d, j0_eq, Nat.not_lt_zero, if_true, if_false, not_false_eq_true, not_true_eq_false, true_and, and_true, reduceCtorEq, Value.ref.injEq, ne_eq, Nat.zero_add, Nat.add_zero, Nat.reduceAdd, Nat.reduceLeDiff, Nat.le_refl, Nat.reduceLT, Nat.zero_le, Value.int.injEq, Value.long.injEq, tn0, tn1, tn2, tn3, tn4, tn5, tn6, tn7, tn8, tn9, tl0, tl1, tl2, tl3, tl4, tl5, tl6, tl7, tl8, tl9, rp0, rp1, rp2, rp3, rp4, rp5, rp6, rp7, rp8, rp9, alO_a, an0, an1, ↓reduceIte, Int32.reduceAdd, Int32.reduceSub, Int32.reduceMul, Int32.reduceLT, Int32.reduceLE, Int32.reduceToNatClampNeg, Int64.reduceLT, Int64.reduceLE, Int64.reduceAdd, on0, on1, on2, on3, on4, on5, on6, on7, on8, on9]
      · have q := True.intro
        have p1 := own_pr0 (jz := 1) (cs := cs) (sf := sf) g1
        have p2 := own_pr1 (jz := 1) (cs := cs) (sf := sf) g2
        have p3 := own_pr0 (jz := 1) (cs := cs) (sf := sf) g3
        simp +decide only [w0_127, w0_128, w0_130, w0_132, w0_133, w0_136, w0_138, w0_141, w0_144, w0_145, w0_147, w0_149, w0_150, w0_153, w0_155, w0_158, w0_161, w0_162, w0_164, w0_166, w0_167, w0_170, w0_172, w0_175, w0_178, w0_179, w0_181, w0_183, List.length_cons, List.length_nil, List.length_append, List.length_set, List.length_replicate, wt_nil, wt_int, wt_ref, wt_null, wt_long, wt_double, s1_unset, s1_int, s1_ref, s1_null, s2_unset, s2_val, s3_unset, s3_second, s3_int, s3_ref, isA_ref', isA_null', cat_int, cat_ref, cat_null, List.cons_append, List.nil_append, List.getElem?_cons_zero, List.getElem?_cons_succ, List.getElem?_nil, List.set_cons_zero, List.set_cons_succ, Option.toList_some, Option.toList_none, Option.some.injEq, exists_eq_left', Option.bind_some, Option.map_some, kdOf_eq, kdO_obj, rdF_eq, wrF_eq, alen_eq, ldA_eq, ldO_i, ldO_b, ldO_c, ldO_a, stA_i, stO_i, stA_b, stO_b, stA_c, stO_c, stA_d, stO_d, ldO_d, j0_eq, Nat.not_lt_zero, if_true, if_false, not_false_eq_true, not_true_eq_false, true_and, and_true, reduceCtorEq, Value.ref.injEq, ne_eq, Nat.zero_add, Nat.add_zero, Nat.reduceAdd, Nat.reduceLeDiff, Nat.le_refl, Nat.reduceLT, Nat.zero_le, Value.int.injEq, Value.long.injEq, tn0, tn1, tn2, tn3, tn4, tn5, tn6, tn7, tn8, tn9, tl0, tl1, tl2, tl3, tl4, tl5, tl6, tl7, tl8, tl9, rp0, rp1, rp2, rp3, rp4, rp5, rp6, rp7, rp8, rp9, alO_a, an0, an1, ↓reduceIte, Int32.reduceAdd, Int32.reduceSub, Int32.reduceMul, Int32.reduceLT, Int32.reduceLE, Int32.reduceToNatClampNeg, Int64.reduceLT, Int64.reduceLE, Int64.reduceAdd, on0, on1, on2, on3, on4, on5, on6, on7, on8, on9, p1, p2, p3]
        rw [own_e0, own_bad hk hL k1 (by decide) g1]
        simp +decide only [w0_186, w0_188, w0_191, w0_192, w0_195, w0_196, List.length_cons, List.length_nil, List.length_append, List.length_set, List.length_replicate, wt_nil, wt_int, wt_ref, wt_null, wt_long, wt_double, s1_unset, s1_int, s1_ref, s1_null, s2_unset, s2_val, s3_unset, s3_second, s3_int, s3_ref, isA_ref', isA_null', cat_int, cat_ref, cat_null, List.cons_append, List.nil_append, List.getElem?_cons_zero, List.getElem?_cons_succ, List.getElem?_nil, List.set_cons_zero, List.set_cons_succ, Option.toList_some, Option.toList_none, Option.some.injEq, exists_eq_left', Option.bind_some, Option.map_some, kdOf_eq, kdO_obj, rdF_eq, wrF_eq, alen_eq, ldA_eq, ldO_i, ldO_b, ldO_c, ldO_a, stA_i, stO_i, stA_b, stO_b, stA_c, stO_c, stA_d, stO_d, ldO_d, j0_eq, Nat.not_lt_zero, if_true, if_false, not_false_eq_true, not_true_eq_false, true_and, and_true, reduceCtorEq, Value.ref.injEq, ne_eq, Nat.zero_add, Nat.add_zero, Nat.reduceAdd, Nat.reduceLeDiff, Nat.le_refl, Nat.reduceLT, Nat.zero_le, Value.int.injEq, Value.long.injEq, tn0, tn1, tn2, tn3, tn4, tn5, tn6, tn7, tn8, tn9, tl0, tl1, tl2, tl3, tl4, tl5, tl6, tl7, tl8, tl9, rp0, rp1, rp2, rp3, rp4, rp5, rp6, rp7, rp8, rp9, alO_a, an0, an1, ↓reduceIte, Int32.reduceAdd, Int32.reduceSub, Int32.reduceMul, Int32.reduceLT, Int32.reduceLE, Int32.reduceToNatClampNeg, Int64.reduceLT, Int64.reduceLE, Int64.reduceAdd, on0, on1, on2, on3, on4, on5, on6, on7, on8, on9]
    · by_cases g3 : ¬ c3 < 32 ∧ c3 ≤ 126
      · have q := True.intro
        have p1 := own_pr0 (jz := 1) (cs := cs) (sf := sf) g1
        have p2 := own_pr0 (jz := 1) (cs := cs) (sf := sf) g2
        have p3 := own_pr1 (jz := 1) (cs := cs) (sf := sf) g3
        simp +decide only [w0_127, w0_128, w0_130, w0_132, w0_133, w0_136, w0_138, w0_141, w0_144, w0_145, w0_147, w0_149, w0_150, w0_153, w0_155, w0_158, w0_161, w0_162, w0_164, w0_166, w0_167, w0_170, w0_172, w0_175, w0_178, w0_179, w0_181, w0_183, List.length_cons, List.length_nil, List.length_append, List.length_set, List.length_replicate, wt_nil, wt_int, wt_ref, wt_null, wt_long, wt_double, s1_unset, s1_int, s1_ref, s1_null, s2_unset, s2_val, s3_unset, s3_second, s3_int, s3_ref, isA_ref', isA_null', cat_int, cat_ref, cat_null, List.cons_append, List.nil_append, List.getElem?_cons_zero, List.getElem?_cons_succ, List.getElem?_nil, List.set_cons_zero, List.set_cons_succ, Option.toList_some, Option.toList_none, Option.some.injEq, exists_eq_left', Option.bind_some, Option.map_some, kdOf_eq, kdO_obj, rdF_eq, wrF_eq, alen_eq, ldA_eq, ldO_i, ldO_b, ldO_c, ldO_a, stA_i, stO_i, stA_b, stO_b, stA_c, stO_c, stA_d, stO_d, ldO_d, j0_eq, Nat.not_lt_zero, if_true, if_false, not_false_eq_true, not_true_eq_false, true_and, and_true, reduceCtorEq, Value.ref.injEq, ne_eq, Nat.zero_add, Nat.add_zero, Nat.reduceAdd, Nat.reduceLeDiff, Nat.le_refl, Nat.reduceLT, Nat.zero_le, Value.int.injEq, Value.long.injEq, tn0, tn1, tn2, tn3, tn4, tn5, tn6, tn7, tn8, tn9, tl0, tl1, tl2, tl3, tl4, tl5, tl6, tl7, tl8, tl9, rp0, rp1, rp2, rp3, rp4, rp5, rp6, rp7, rp8, rp9, alO_a, an0, an1, ↓reduceIte, Int32.reduceAdd, Int32.reduceSub, Int32.reduceMul, Int32.reduceLT, Int32.reduceLE, Int32.reduceToNatClampNeg, Int64.reduceLT, Int64.reduceLE, Int64.reduceAdd, on0, on1, on2, on3, on4, on5, on6, on7, on8, on9, p1, p2, p3]
        rw [own_e0, own_bad hk hL k1 (by decide) g1]
        simp +decide only [w0_186, w0_188, w0_191, w0_192, w0_195, w0_196, List.length_cons, List.length_nil, List.length_append, List.length_set, List.length_replicate, wt_nil, wt_int, wt_ref, wt_null, wt_long, wt_double, s1_unset, s1_int, s1_ref, s1_null, s2_unset, s2_val, s3_unset, s3_second, s3_int, s3_ref, isA_ref', isA_null', cat_int, cat_ref, cat_null, List.cons_append, List.nil_append, List.getElem?_cons_zero, List.getElem?_cons_succ, List.getElem?_nil, List.set_cons_zero, List.set_cons_succ, Option.toList_some, Option.toList_none, Option.some.injEq, exists_eq_left', Option.bind_some, Option.map_some, kdOf_eq, kdO_obj, rdF_eq, wrF_eq, alen_eq, ldA_eq, ldO_i, ldO_b, ldO_c, ldO_a, stA_i, stO_i, stA_b, stO_b, stA_c, stO_c, stA_d, stO_d, ldO_d, j0_eq, Nat.not_lt_zero, if_true, if_false, not_false_eq_true, not_true_eq_false, true_and, and_true, reduceCtorEq, Value.ref.injEq, ne_eq, Nat.zero_add, Nat.add_zero, Nat.reduceAdd, Nat.reduceLeDiff, Nat.le_refl, Nat.reduceLT, Nat.zero_le, Value.int.injEq, Value.long.injEq, tn0, tn1, tn2, tn3, tn4, tn5, tn6, tn7, tn8, tn9, tl0, tl1, tl2, tl3, tl4, tl5, tl6, tl7, tl8, tl9, rp0, rp1, rp2, rp3, rp4, rp5, rp6, rp7, rp8, rp9, alO_a, an0, an1, ↓reduceIte, Int32.reduceAdd, Int32.reduceSub, Int32.reduceMul, Int32.reduceLT, Int32.reduceLE, Int32.reduceToNatClampNeg, Int64.reduceLT, Int64.reduceLE, Int64.reduceAdd, on0, on1, on2, on3, on4, on5, on6, on7, on8, on9]
      · have q := True.intro
        have p1 := own_pr0 (jz := 1) (cs := cs) (sf := sf) g1
        have p2 := own_pr0 (jz := 1) (cs := cs) (sf := sf) g2
        have p3 := own_pr0 (jz := 1) (cs := cs) (sf := sf) g3
        simp +decide only [w0_127, w0_128, w0_130, w0_132, w0_133, w0_136, w0_138, w0_141, w0_144, w0_145, w0_147, w0_149, w0_150, w0_153, w0_155, w0_158, w0_161, w0_162, w0_164, w0_166, w0_167, w0_170, w0_172, w0_175, w0_178, w0_179, w0_181, w0_183, List.length_cons, List.length_nil, List.length_append, List.length_set, List.length_replicate, wt_nil, wt_int, wt_ref, wt_null, wt_long, wt_double, s1_unset, s1_int, s1_ref, s1_null, s2_unset, s2_val, s3_unset, s3_second, s3_int, s3_ref, isA_ref', isA_null', cat_int, cat_ref, cat_null, List.cons_append, List.nil_append, List.getElem?_cons_zero, List.getElem?_cons_succ, List.getElem?_nil, List.set_cons_zero, List.set_cons_succ, Option.toList_some, Option.toList_none, Option.some.injEq, exists_eq_left', Option.bind_some, Option.map_some, kdOf_eq, kdO_obj, rdF_eq, wrF_eq, alen_eq, ldA_eq, ldO_i, ldO_b, ldO_c, ldO_a, stA_i, stO_i, stA_b, stO_b, stA_c, stO_c, stA_d, stO_d, ldO_d, j0_eq, Nat.not_lt_zero, if_true, if_false, not_false_eq_true, not_true_eq_false, true_and, and_true, reduceCtorEq, Value.ref.injEq, ne_eq, Nat.zero_add, Nat.add_zero, Nat.reduceAdd, Nat.reduceLeDiff, Nat.le_refl, Nat.reduceLT, Nat.zero_le, Value.int.injEq, Value.long.injEq, tn0, tn1, tn2, tn3, tn4, tn5, tn6, tn7, tn8, tn9, tl0, tl1, tl2, tl3, tl4, tl5, tl6, tl7, tl8, tl9, rp0, rp1, rp2, rp3, rp4, rp5, rp6, rp7, rp8, rp9, alO_a, an0, an1, ↓reduceIte, Int32.reduceAdd, Int32.reduceSub, Int32.reduceMul, Int32.reduceLT, Int32.reduceLE, Int32.reduceToNatClampNeg, Int64.reduceLT, Int64.reduceLE, Int64.reduceAdd, on0, on1, on2, on3, on4, on5, on6, on7, on8, on9, p1, p2, p3]
        rw [own_e0, own_bad hk hL k1 (by decide) g1]
        simp +decide only [w0_186, w0_188, w0_191, w0_192, w0_195, w0_196, List.length_cons, List.length_nil, List.length_append, List.length_set, List.length_replicate, wt_nil, wt_int, wt_ref, wt_null, wt_long, wt_double, s1_unset, s1_int, s1_ref, s1_null, s2_unset, s2_val, s3_unset, s3_second, s3_int, s3_ref, isA_ref', isA_null', cat_int, cat_ref, cat_null, List.cons_append, List.nil_append, List.getElem?_cons_zero, List.getElem?_cons_succ, List.getElem?_nil, List.set_cons_zero, List.set_cons_succ, Option.toList_some, Option.toList_none, Option.some.injEq, exists_eq_left', Option.bind_some, Option.map_some, kdOf_eq, kdO_obj, rdF_eq, wrF_eq, alen_eq, ldA_eq, ldO_i, ldO_b, ldO_c, ldO_a, stA_i, stO_i, stA_b, stO_b, stA_c, stO_c, stA_d, stO_d, ldO_d, j0_eq, Nat.not_lt_zero, if_true, if_false, not_false_eq_true, not_true_eq_false, true_and, and_true, reduceCtorEq, Value.ref.injEq, ne_eq, Nat.zero_add, Nat.add_zero, Nat.reduceAdd, Nat.reduceLeDiff, Nat.le_refl, Nat.reduceLT, Nat.zero_le, Value.int.injEq, Value.long.injEq, tn0, tn1, tn2, tn3, tn4, tn5, tn6, tn7, tn8, tn9, tl0, tl1, tl2, tl3, tl4, tl5, tl6, tl7, tl8, tl9, rp0, rp1, rp2, rp3, rp4, rp5, rp6, rp7, rp8, rp9, alO_a, an0, an1, ↓reduceIte, Int32.reduceAdd, Int32.reduceSub, Int32.reduceMul, Int32.reduceLT, Int32.reduceLE, Int32.reduceToNatClampNeg, Int64.reduceLT, Int64.reduceLE, Int64.reduceAdd, on0, on1, on2, on3, on4, on5, on6, on7, on8, on9]
theorem own_wp {cs : Int32} {sf : Value} (hcs : ¬ cs = 0) (hsf : cat sf = 1) (x0 x1 x2 x3 : Int32) (hx : ¬ x0 &&& 3 = 0) : Wp (Pg 1 cs sf) 0 (0, [.val (.int x0), .val (.int x1), .val (.int x2), .val (.int x3), .unset, .unset, .unset, .unset, .unset, .unset], [], [(.inr 999, [])], 0, 0) (fun r => r.1 = some (.int 1)) := by
  obtain ⟨c1, h1, d1⟩ := own_draw (jz := 1) (cs := cs) (sf := sf) x1
  obtain ⟨c2, h2, d2⟩ := own_draw (jz := 1) (cs := cs) (sf := sf) x2
  obtain ⟨c3, h3, d3⟩ := own_draw (jz := 1) (cs := cs) (sf := sf) x3
  simp +decide only [w0_0, w0_1, w0_2, w0_3, w0_5, w0_6, w0_9, w0_11, w0_12, w0_15, w0_17, w0_18, w0_21, List.length_cons, List.length_nil, List.length_append, List.length_set, List.length_replicate, wt_nil, wt_int, wt_ref, wt_null, wt_long, wt_double, s1_unset, s1_int, s1_ref, s1_null, s2_unset, s2_val, s3_unset, s3_second, s3_int, s3_ref, isA_ref', isA_null', cat_int, cat_ref, cat_null, List.cons_append, List.nil_append, List.getElem?_cons_zero, List.getElem?_cons_succ, List.getElem?_nil, List.set_cons_zero, List.set_cons_succ, Option.toList_some, Option.toList_none, Option.some.injEq, exists_eq_left', Option.bind_some, Option.map_some, kdOf_eq, kdO_obj, rdF_eq, wrF_eq, alen_eq, ldA_eq, ldO_i, ldO_b, ldO_c, ldO_a, stA_i, stO_i, stA_b, stO_b, stA_c, stO_c, stA_d, stO_d, ldO_d, j0_eq, Nat.not_lt_zero, if_true, if_false, not_false_eq_true, not_true_eq_false, true_and, and_true, reduceCtorEq, Value.ref.injEq, ne_eq, Nat.zero_add, Nat.add_zero, Nat.reduceAdd, Nat.reduceLeDiff, Nat.le_refl, Nat.reduceLT, Nat.zero_le, Value.int.injEq, Value.long.injEq, tn0, tn1, tn2, tn3, tn4, tn5, tn6, tn7, tn8, tn9, tl0, tl1, tl2, tl3, tl4, tl5, tl6, tl7, tl8, tl9, rp0, rp1, rp2, rp3, rp4, rp5, rp6, rp7, rp8, rp9, alO_a, an0, an1, ↓reduceIte, Int32.reduceAdd, Int32.reduceSub, Int32.reduceMul, Int32.reduceLT, Int32.reduceLE, Int32.reduceToNatClampNeg, Int64.reduceLT, Int64.reduceLE, Int64.reduceAdd, on0, on1, on2, on3, on4, on5, on6, on7, on8, on9, d1, d2, d3]
  obtain ⟨i, hi, e⟩ := and_range x0 3 4 (by decide)
  rw [e] at hx ⊢
  match i, hi, hx with
  | 0, _, hx => exact absurd rfl hx
  | 1, _, _ =>
    simp +decide only [w0_23, w0_25, w0_28, w0_31, w0_32, w0_33, w0_35, w0_38, w0_40, w0_43, w0_45, w0_46, w0_49, w0_52, w0_53, w0_54, w0_56, w0_57, w0_58, w0_60, w0_61, w0_64, w0_66, w0_69, w0_71, w0_72, w0_75, w0_78, w0_79, w0_80, w0_82, w0_83, w0_84, w0_86, w0_87, w0_88, w0_89, w0_91, w0_92, w0_95, w0_97, w0_100, w0_103, w0_104, w0_105, w0_107, w0_108, w0_109, w0_111, w0_112, w0_113, w0_114, w0_116, w0_117, w0_118, w0_119, w0_121, w0_122, List.length_cons, List.length_nil, List.length_append, List.length_set, List.length_replicate, wt_nil, wt_int, wt_ref, wt_null, wt_long, wt_double, s1_unset, s1_int, s1_ref, s1_null, s2_unset, s2_val, s3_unset, s3_second, s3_int, s3_ref, isA_ref', isA_null', cat_int, cat_ref, cat_null, List.cons_append, List.nil_append, List.getElem?_cons_zero, List.getElem?_cons_succ, List.getElem?_nil, List.set_cons_zero, List.set_cons_succ, Option.toList_some, Option.toList_none, Option.some.injEq, exists_eq_left', Option.bind_some, Option.map_some, kdOf_eq, kdO_obj, rdF_eq, wrF_eq, alen_eq, ldA_eq, ldO_i, ldO_b, ldO_c, ldO_a, stA_i, stO_i, stA_b, stO_b, stA_c, stO_c, stA_d, stO_d, ldO_d, j0_eq, Nat.not_lt_zero, if_true, if_false, not_false_eq_true, not_true_eq_false, true_and, and_true, reduceCtorEq, Value.ref.injEq, ne_eq, Nat.zero_add, Nat.add_zero, Nat.reduceAdd, Nat.reduceLeDiff, Nat.le_refl, Nat.reduceLT, Nat.zero_le, Value.int.injEq, Value.long.injEq, tn0, tn1, tn2, tn3, tn4, tn5, tn6, tn7, tn8, tn9, tl0, tl1, tl2, tl3, tl4, tl5, tl6, tl7, tl8, tl9, rp0, rp1, rp2, rp3, rp4, rp5, rp6, rp7, rp8, rp9, alO_a, an0, an1, ↓reduceIte, Int32.reduceAdd, Int32.reduceSub, Int32.reduceMul, Int32.reduceLT, Int32.reduceLE, Int32.reduceToNatClampNeg, Int64.reduceLT, Int64.reduceLE, Int64.reduceAdd, on0, on1, on2, on3, on4, on5, on6, on7, on8, on9, h1, h2, h3]
    refine own_str1 hcs hsf h1 fun H' hk hL k1 => ?_
    simp +decide only [w0_64, w0_66, w0_95, w0_97, w0_125, List.length_cons, List.length_nil, List.length_append, List.length_set, List.length_replicate, wt_nil, wt_int, wt_ref, wt_null, wt_long, wt_double, s1_unset, s1_int, s1_ref, s1_null, s2_unset, s2_val, s3_unset, s3_second, s3_int, s3_ref, isA_ref', isA_null', cat_int, cat_ref, cat_null, List.cons_append, List.nil_append, List.getElem?_cons_zero, List.getElem?_cons_succ, List.getElem?_nil, List.set_cons_zero, List.set_cons_succ, Option.toList_some, Option.toList_none, Option.some.injEq, exists_eq_left', Option.bind_some, Option.map_some, kdOf_eq, kdO_obj, rdF_eq, wrF_eq, alen_eq, ldA_eq, ldO_i, ldO_b, ldO_c, ldO_a, stA_i, stO_i, stA_b, stO_b, stA_c, stO_c, stA_d, stO_d, ldO_d, j0_eq, Nat.not_lt_zero, if_true, if_false, not_false_eq_true, not_true_eq_false, true_and, and_true, reduceCtorEq, Value.ref.injEq, ne_eq, Nat.zero_add, Nat.add_zero, Nat.reduceAdd, Nat.reduceLeDiff, Nat.le_refl, Nat.reduceLT, Nat.zero_le, Value.int.injEq, Value.long.injEq, tn0, tn1, tn2, tn3, tn4, tn5, tn6, tn7, tn8, tn9, tl0, tl1, tl2, tl3, tl4, tl5, tl6, tl7, tl8, tl9, rp0, rp1, rp2, rp3, rp4, rp5, rp6, rp7, rp8, rp9, alO_a, an0, an1, ↓reduceIte, Int32.reduceAdd, Int32.reduceSub, Int32.reduceMul, Int32.reduceLT, Int32.reduceLE, Int32.reduceToNatClampNeg, Int64.reduceLT, Int64.reduceLE, Int64.reduceAdd, on0, on1, on2, on3, on4, on5, on6, on7, on8, on9]
    exact own_fin1 x0 x1 x2 x3 c1 c2 c3 hk hL k1
  | 2, _, _ =>
    simp +decide only [w0_23, w0_25, w0_28, w0_31, w0_32, w0_33, w0_35, w0_38, w0_40, w0_43, w0_45, w0_46, w0_49, w0_52, w0_53, w0_54, w0_56, w0_57, w0_58, w0_60, w0_61, w0_64, w0_66, w0_69, w0_71, w0_72, w0_75, w0_78, w0_79, w0_80, w0_82, w0_83, w0_84, w0_86, w0_87, w0_88, w0_89, w0_91, w0_92, w0_95, w0_97, w0_100, w0_103, w0_104, w0_105, w0_107, w0_108, w0_109, w0_111, w0_112, w0_113, w0_114, w0_116, w0_117, w0_118, w0_119, w0_121, w0_122, List.length_cons, List.length_nil, List.length_append, List.length_set, List.length_replicate, wt_nil, wt_int, wt_ref, wt_null, wt_long, wt_double, s1_unset, s1_int, s1_ref, s1_null, s2_unset, s2_val, s3_unset, s3_second, s3_int, s3_ref, isA_ref', isA_null', cat_int, cat_ref, cat_null, List.cons_append, List.nil_append, List.getElem?_cons_zero, List.getElem?_cons_succ, List.getElem?_nil, List.set_cons_zero, List.set_cons_succ, Option.toList_some, Option.toList_none, Option.some.injEq, exists_eq_left', Option.bind_some, Option.map_some, kdOf_eq, kdO_obj, rdF_eq, wrF_eq, alen_eq, ldA_eq, ldO_i, ldO_b, ldO_c, ldO_a, stA_i, stO_i, stA_b, stO_b, stA_c, stO_c, stA_d, stO_d, ldO_d, j0_eq, Nat.not_lt_zero, if_true, if_false, not_false_eq_true, not_true_eq_false, true_and, and_true, reduceCtorEq, Value.ref.injEq, ne_eq, Nat.zero_add, Nat.add_zero, Nat.reduceAdd, Nat.reduceLeDiff, Nat.le_refl, Nat.reduceLT, Nat.zero_le, Value.int.injEq, Value.long.injEq, tn0, tn1, tn2, tn3, tn4, tn5, tn6, tn7, tn8, tn9, tl0, tl1, tl2, tl3, tl4, tl5, tl6, tl7, tl8, tl9, rp0, rp1, rp2, rp3, rp4, rp5, rp6, rp7, rp8, rp9, alO_a, an0, an1, ↓reduceIte, Int32.reduceAdd, Int32.reduceSub, Int32.reduceMul, Int32.reduceLT, Int32.reduceLE, Int32.reduceToNatClampNeg, Int64.reduceLT, Int64.reduceLE, Int64.reduceAdd, on0, on1, on2, on3, on4, on5, on6, on7, on8, on9, h1, h2, h3]
    refine own_str2 hcs hsf h1 h2 fun H' hk hL k1 k2 => ?_
    simp +decide only [w0_64, w0_66, w0_95, w0_97, w0_125, List.length_cons, List.length_nil, List.length_append, List.length_set, List.length_replicate, wt_nil, wt_int, wt_ref, wt_null, wt_long, wt_double, s1_unset, s1_int, s1_ref, s1_null, s2_unset, s2_val, s3_unset, s3_second, s3_int, s3_ref, isA_ref', isA_null', cat_int, cat_ref, cat_null, List.cons_append, List.nil_append, List.getElem?_cons_zero, List.getElem?_cons_succ, List.getElem?_nil, List.set_cons_zero, List.set_cons_succ, Option.toList_some, Option.toList_none, Option.some.injEq, exists_eq_left', Option.bind_some, Option.map_some, kdOf_eq, kdO_obj, rdF_eq, wrF_eq, alen_eq, ldA_eq, ldO_i, ldO_b, ldO_c, ldO_a, stA_i, stO_i, stA_b, stO_b, stA_c, stO_c, stA_d, stO_d, ldO_d, j0_eq, Nat.not_lt_zero, if_true, if_false, not_false_eq_true, not_true_eq_false, true_and, and_true, reduceCtorEq, Value.ref.injEq, ne_eq, Nat.zero_add, Nat.add_zero, Nat.reduceAdd, Nat.reduceLeDiff, Nat.le_refl, Nat.reduceLT, Nat.zero_le, Value.int.injEq, Value.long.injEq, tn0, tn1, tn2, tn3, tn4, tn5, tn6, tn7, tn8, tn9, tl0, tl1, tl2, tl3, tl4, tl5, tl6, tl7, tl8, tl9, rp0, rp1, rp2, rp3, rp4, rp5, rp6, rp7, rp8, rp9, alO_a, an0, an1, ↓reduceIte, Int32.reduceAdd, Int32.reduceSub, Int32.reduceMul, Int32.reduceLT, Int32.reduceLE, Int32.reduceToNatClampNeg, Int64.reduceLT, Int64.reduceLE, Int64.reduceAdd, on0, on1, on2, on3, on4, on5, on6, on7, on8, on9]
    exact own_fin2 x0 x1 x2 x3 c1 c2 c3 hk hL k1 k2
  | 3, _, _ =>
    simp +decide only [w0_23, w0_25, w0_28, w0_31, w0_32, w0_33, w0_35, w0_38, w0_40, w0_43, w0_45, w0_46, w0_49, w0_52, w0_53, w0_54, w0_56, w0_57, w0_58, w0_60, w0_61, w0_64, w0_66, w0_69, w0_71, w0_72, w0_75, w0_78, w0_79, w0_80, w0_82, w0_83, w0_84, w0_86, w0_87, w0_88, w0_89, w0_91, w0_92, w0_95, w0_97, w0_100, w0_103, w0_104, w0_105, w0_107, w0_108, w0_109, w0_111, w0_112, w0_113, w0_114, w0_116, w0_117, w0_118, w0_119, w0_121, w0_122, List.length_cons, List.length_nil, List.length_append, List.length_set, List.length_replicate, wt_nil, wt_int, wt_ref, wt_null, wt_long, wt_double, s1_unset, s1_int, s1_ref, s1_null, s2_unset, s2_val, s3_unset, s3_second, s3_int, s3_ref, isA_ref', isA_null', cat_int, cat_ref, cat_null, List.cons_append, List.nil_append, List.getElem?_cons_zero, List.getElem?_cons_succ, List.getElem?_nil, List.set_cons_zero, List.set_cons_succ, Option.toList_some, Option.toList_none, Option.some.injEq, exists_eq_left', Option.bind_some, Option.map_some, kdOf_eq, kdO_obj, rdF_eq, wrF_eq, alen_eq, ldA_eq, ldO_i, ldO_b, ldO_c, ldO_a, stA_i, stO_i, stA_b, stO_b, stA_c, stO_c, stA_d, stO_d, ldO_d, j0_eq, Nat.not_lt_zero, if_true, if_false, not_false_eq_true, not_true_eq_false, true_and, and_true, reduceCtorEq, Value.ref.injEq, ne_eq, Nat.zero_add, Nat.add_zero, Nat.reduceAdd, Nat.reduceLeDiff, Nat.le_refl, Nat.reduceLT, Nat.zero_le, Value.int.injEq, Value.long.injEq, tn0, tn1, tn2, tn3, tn4, tn5, tn6, tn7, tn8, tn9, tl0, tl1, tl2, tl3, tl4, tl5, tl6, tl7, tl8, tl9, rp0, rp1, rp2, rp3, rp4, rp5, rp6, rp7, rp8, rp9, alO_a, an0, an1, ↓reduceIte, Int32.reduceAdd, Int32.reduceSub, Int32.reduceMul, Int32.reduceLT, Int32.reduceLE, Int32.reduceToNatClampNeg, Int64.reduceLT, Int64.reduceLE, Int64.reduceAdd, on0, on1, on2, on3, on4, on5, on6, on7, on8, on9, h1, h2, h3]
    refine own_str3 hcs hsf h1 h2 h3 fun H' hk hL k1 k2 k3 => ?_
    simp +decide only [w0_64, w0_66, w0_95, w0_97, w0_125, List.length_cons, List.length_nil, List.length_append, List.length_set, List.length_replicate, wt_nil, wt_int, wt_ref, wt_null, wt_long, wt_double, s1_unset, s1_int, s1_ref, s1_null, s2_unset, s2_val, s3_unset, s3_second, s3_int, s3_ref, isA_ref', isA_null', cat_int, cat_ref, cat_null, List.cons_append, List.nil_append, List.getElem?_cons_zero, List.getElem?_cons_succ, List.getElem?_nil, List.set_cons_zero, List.set_cons_succ, Option.toList_some, Option.toList_none, Option.some.injEq, exists_eq_left', Option.bind_some, Option.map_some, kdOf_eq, kdO_obj, rdF_eq, wrF_eq, alen_eq, ldA_eq, ldO_i, ldO_b, ldO_c, ldO_a, stA_i, stO_i, stA_b, stO_b, stA_c, stO_c, stA_d, stO_d, ldO_d, j0_eq, Nat.not_lt_zero, if_true, if_false, not_false_eq_true, not_true_eq_false, true_and, and_true, reduceCtorEq, Value.ref.injEq, ne_eq, Nat.zero_add, Nat.add_zero, Nat.reduceAdd, Nat.reduceLeDiff, Nat.le_refl, Nat.reduceLT, Nat.zero_le, Value.int.injEq, Value.long.injEq, tn0, tn1, tn2, tn3, tn4, tn5, tn6, tn7, tn8, tn9, tl0, tl1, tl2, tl3, tl4, tl5, tl6, tl7, tl8, tl9, rp0, rp1, rp2, rp3, rp4, rp5, rp6, rp7, rp8, rp9, alO_a, an0, an1, ↓reduceIte, Int32.reduceAdd, Int32.reduceSub, Int32.reduceMul, Int32.reduceLT, Int32.reduceLE, Int32.reduceToNatClampNeg, Int64.reduceLT, Int64.reduceLE, Int64.reduceAdd, on0, on1, on2, on3, on4, on5, on6, on7, on8, on9]
    exact own_fin3 x0 x1 x2 x3 c1 c2 c3 hk hL k1 k2 k3
/-! ### the empty string: its constant may come to be interned -/
/-- within one frame the machine goes from one state to another, and so does the JVM -/
def own_R (P : Prg) (j : Nat) (st st' : St) : Prop := ∀ (Z : State) (a0 : Array Value) (ρ : Nat → Addr) (n0 : Nat) (l : Launch) (p : Program) (e : Env) (s : State) (m : MethodId) (args : Array Value) (below : List Frame) (meth : Method) (c : Code), PrgOk P Z a0 ρ → RhoOk P ρ n0 → Ctx P Z j p s m meth c → ∀ (T : State) (locs : List Loc), Stand p l e (P.mt j).rm s m args below meth c T locs st.2.2.2.2.1 st.2.2.2.2.2 → Pic P Z ρ n0 T.heap st.2.2.2.1 → Fr n0 locs →
    Leaves P l Z ρ n0 j p e s m args below meth c T st.1 st'.1 st.2.1 st'.2.1 st.2.2.1 st'.2.2.1 st'.2.2.2.1 st'.2.2.2.2.1 st'.2.2.2.2.2
theorem own_Rrefl {P : Prg} {j : Nat} (st : St) : own_R P j st st := fun _ _ _ _ _ _ _ _ _ _ _ _ _ _ _ _ T locs X K N => ⟨T, locs, X, K, N, fun _ h => h⟩
theorem own_Rstep {P : Prg} {j pc : Nat} {L : List Slot} {S : List Value} {H : Hp} {k n : Nat} {i : Instr} {st st' : St} (hd : decode (P.mt j).code pc = .ok (i, ilen i)) (hs : stepI P j i (pc, L, S, H, k, n) = some st) (ih : own_R P j st st') : own_R P j (pc, L, S, H, k, n) st' := by
  intro Z a0 ρ n0 l p e s m args below meth c PO RO C T locs X K N
  obtain ⟨T1, l1, X1, K1, N1, s1⟩ := step_ok PO RO C X K N hs (by rw [C.2.2.2.1]; exact hd)
  obtain ⟨T2, l2, X2, K2, N2, s2⟩ := ih Z a0 ρ n0 l p e s m args below meth c PO RO C T1 l1 X1 K1 N1
  exact ⟨T2, l2, X2, K2, N2, fun t h => s1 t (s2 t h)⟩
theorem own_Rcall {P : Prg} {j pc : Nat} {L : List Slot} {S : List Value} {H : Hp} {k n : Nat} {i : Instr} {j' f : Nat} {as rr : List Value} {r : MRes} {st' : St} (hd : decode (P.mt j).code pc = .ok (i, ilen i)) (hc : calI P j i S H = some (j', as, rr)) (hrm : rmOk P j j' L rr k n = true) (h : Jvm.MM.run P f j' (0, entL as (P.mt j').mx, [], H, 0, 0) = some r) (ih : own_R P j (pc + 3, L, r.1.toList ++ rr, r.2, k + (P.mt j').rm.cells, n + (P.mt j').rm.slots) st') : own_R P j (pc, L, S, H, k, n) st' := by
  intro Z a0 ρ n0 l p e s m args below meth c PO RO C T locs X K N
  obtain ⟨T1, l1, X1, K1, N1, s1⟩ := call_ok PO C X K N hc hrm (by rw [C.2.2.2.1]; exact hd) (run_sound PO RO _ _ _ _ h)
  obtain ⟨T2, l2, X2, K2, N2, s2⟩ := ih Z a0 ρ n0 l p e s m args below meth c PO RO C T1 l1 X1 K1 N1
  exact ⟨T2, l2, X2, K2, N2, fun t h => s1 t (s2 t h)⟩
theorem own_d9 : decode jdk_42_method_149_code 9 = .ok (.ldc 7, 2) := by decide +kernel
theorem own_d11 : decode jdk_42_method_149_code 11 = .ok (.getfield 9, 3) := by decide +kernel
theorem own_d14 : decode jdk_42_method_149_code 14 = .ok (.putfield 9, 3) := by decide +kernel
theorem own_d17 : decode jdk_42_method_149_code 17 = .ok (.aload_n 0, 1) := by decide +kernel
theorem own_d18 : decode jdk_42_method_149_code 18 = .ok (.ldc 7, 2) := by decide +kernel
theorem own_d20 : decode jdk_42_method_149_code 20 = .ok (.getfield 15, 3) := by decide +kernel
theorem own_d23 : decode jdk_42_method_149_code 23 = .ok (.putfield 15, 3) := by decide +kernel
theorem own_d26 : decode jdk_42_method_149_code 26 = .ok (.return_, 1) := by decide +kernel
abbrev own_I : Nat → Addr := fun i => i
abbrev own_str : String := "java/lang/String"
abbrev own_yB : MethodName := ⟨"java/lang/String", "<init>", "([C)V"⟩
abbrev own_yC : MethodName := ⟨"java/lang/String", "<init>", "([CIILjava/lang/Void;)V"⟩
abbrev own_rB : Room := { frames := 5, cells := 2, slots := 9, locals := 77 }
abbrev own_rC : Room := { frames := 4, cells := 2, slots := 9, locals := 60 }
abbrev own_Sv : Type := List (String × String × String × Value)
def own_Q (Z : State) (n0 A : Nat) (sts : own_Sv) (v : Option Value) (h : Heap) (L : List Loc) : Prop :=
  v = none ∧ Fr n0 L ∧ (∃ (b : Addr) (cl : Cell), Exa Z h A own_str ∧ Fld Z h A own_str "value" "[B" (.ref b) ∧ Fld Z h A own_str "coder" "B" (.int 0) ∧ Arr Z h b cl .byte ∧ cl.slots = #[] ∧ A ≠ b) ∧ ∀ q ∈ sts, Sta Z h q.1 q.2.1 q.2.2.1 q.2.2.2
section OwnBack
variable {p : Program} {l : Launch} {e : Env} {R : Room} {s : State} {m : MethodId} {args : Array Value} {below : List Frame} {Z : State} {a0 : Array Value} {h : Heap}
theorem own_backS {y : MethodName} {bytes : ByteArray} {maxL : Nat} {ret : Option FieldType} {rm : Room} {len W : Nat} {as' : Array Value} {Q : Option Value → Heap → List Loc → Prop}
    (hM : MetFree l y (head1 [Jvm.Cond.code y bytes maxL ret] rm) (fun a U => a = as' ∧ Z.Warmed39 U.vm ∧ U.heap = h ∧ U.vm.interned = Z.vm.interned) (fun _ _ _ _ _ => True) (fun _ U o U' => ∃ v L, o = .returned v ∧ Q v U'.heap L ∧ ReturnedEndW U o U' L rm.cells rm.slots))
    (hZ : Z.Warmed39 s.vm) (hI : s.vm.interned = Z.vm.interned) (wc : (Jvm.Cond.code y bytes maxL ret).before a0 Z = true) (wz : (Jvm.Cond.initialized y.cls).before a0 Z = true) (hf : rm.frames + 1 ≤ R.frames) (hl : W + (maxL + 11) + rm.locals ≤ R.locals) :
    BackS l R p e below s args y len W (fun A a => a = as' ∧ A.U.heap = h ∧ A.cells + rm.cells ≤ R.cells ∧ A.slots + rm.slots ≤ R.slots)
      (fun A _ v B => ∃ L, Q v B.U.heap L ∧ B.locs = A.locs ++ L ∧ B.cells = A.cells + rm.cells ∧ B.slots = A.slots + rm.slots) :=
  BackS.of_freeW (bytes := bytes) (maxL := maxL) (ret := ret) (E := fun _ _ o t L k n => k = rm.cells ∧ n = rm.slots ∧ ∃ v, o = .returned v ∧ Q v t.heap L) hM hf hl
    (fun m meth c A a Y hp => have hU : Z.Warmed39 A.U.vm := wtrans hZ Y.warmed
      ⟨by show (Jvm.Cond.and _ .tt).before a A.U = true; rw [Cond.before_and, mv hU wc]; rfl, mv hU wc, mv hU wz, hp.2.2.1, hp.2.2.2⟩)
    (fun m meth c A a g mk Y hp => ⟨hp.1, wtrans hZ Y.warmed, hp.2.1, Y.warmed.interned_eq.trans hI⟩) (fun _ _ _ _ _ _ _ _ _ => trivial)
    (fun _ _ _ _ ⟨v, L, h1, h2, h3⟩ => ⟨L, _, _, h3, rfl, rfl, v, h1, h2⟩)
    (fun m meth c A a g mk v t L k n Y hp _ _ ⟨e1, e2, v', e3, e4⟩ => by cases e3; subst e1 e2; exact ⟨L, e4, rfl, rfl, rfl⟩)
end OwnBack
section OwnEmpty
variable {l : Launch} {Z : State} {a0 : Array Value} {n0 A D : Nat} {h : Heap} {sts : own_Sv}
set_option maxHeartbeats 4000000 in
theorem own_metC (hw : ∀ d ∈ tables_1, d.before a0 Z = true) (hh : Jvm.Lit.constHeld Z own_str 7) (hcw : Jvm.Lit.compactW.before a0 Z = true) (EA : Exa Z h A own_str) (FV : Fld Z h A own_str "value" "[B" .null) (FC : Fld Z h A own_str "coder" "B" (.int 0)) (hA : n0 ≤ A)
    (hkeep : ∀ (b : Addr) (cl : Cell), Z.heap[b]? = some cl → h[b]? = some cl) (hst : ∀ q ∈ sts, Sta Z h q.1 q.2.1 q.2.2.1 q.2.2.2) :
    MetFree l own_yC (head1 [Jvm.Cond.code own_yC jdk_42_method_149_code 6 none] own_rC) (fun a U => a = #[.ref A, .ref D, .int 0, .int 0, .null] ∧ Z.Warmed39 U.vm ∧ U.heap = h ∧ U.vm.interned = Z.vm.interned) (fun _ _ _ _ _ => True)
      (fun _ U o U' => ∃ v L, o = .returned v ∧ own_Q Z n0 A sts v U'.heap L ∧ ReturnedEndW U o U' L own_rC.cells own_rC.slots) := by
  refine MetFree.of_bodySF pf3 hisR ?_
  intro p e s m args below meth c s₁ Bd hml0 hP hK
  obtain ⟨rfl, hZ, hh0, hI⟩ := hP
  have hx := Bd.exec
  have hb : c.code = jdk_42_method_149_code := Bd.bytes
  have hown : s.vm.findClass own_str = some m.cls := findClass_of_methodNamed Bd.named
  have hnm : meth.name = "<init>" := (name_of_methodNamed Bd.named Bd.method).1
  have X0 : Stand p l e own_rC s m _ below meth c s₁ [] 0 0 := Stand.of_body Bd
  have e0 : s₁.heap = h := by rw [← hh0, Bd.state]; rfl
  let as : List Value := [.ref A, .ref D, .int 0, .int 0, .null]
  let L : List Slot := [.val (.ref A), .val (.ref D), .val (.int 0), .val (.int 0), .val .null, .unset]
  have q0 : ∀ target, Steps p.tables e below (s₁.setTop (mkF m 1 (tL own_I L) (tS own_I [.ref A]))) target → Steps p.tables e below (s₁.setTop (mkF m 0 (tL own_I L) (tS own_I []))) target := fun t hr => plain_ok (ρ := own_I) X0 hx (i := .aload_n 0) (L := L) (S := []) (S' := [.ref A]) rfl (by rw [hb]; exact d3_0 0 0 .null) hr
  obtain ⟨T1, X1, e1, q1⟩ := initO X0 hx hZ hown (hw _ (List.mem_of_getElem? (i := 15) rfl)) (hw _ (List.mem_of_getElem? (i := 16) rfl)) (hw _ (List.mem_of_getElem? (i := 17) rfl)) e0 (g := mkF m 1 (tL own_I L) (tS own_I [.ref A])) rfl (by rw [hml0]; rfl) (rest := []) rfl (by rw [hb]; exact d3_1 0 0 .null) (by decide) (W := 0) (show 2 * 0 + 0 ≤ 0 by decide) (by decide)
  have q4 : ∀ target, Steps p.tables e below (T1.setTop (mkF m 5 (tL own_I L) (tS own_I [.int 0]))) target → Steps p.tables e below (T1.setTop (mkF m 4 (tL own_I L) (tS own_I []))) target := fun t hr => plain_ok (ρ := own_I) X1 hx (i := .iload_n 3) (L := L) (S := []) (S' := [.int 0]) rfl (by rw [hb]; exact d3_4 0 0 .null) hr
  have q5 : ∀ target, Steps p.tables e below (T1.setTop (mkF m 8 (tL own_I L) (tS own_I []))) target → Steps p.tables e below (T1.setTop (mkF m 5 (tL own_I L) (tS own_I [.int 0]))) target := fun t hr => br_ok (ρ := own_I) (fun i j h => h) X1 hx (i := .ifCond .ne 22) (S := [.int 0]) (r := []) (b := false) (o := 22) (pc := 5) (pc' := 8) rfl (by rw [hb]; exact d3_5 0 0 .null) (Or.inr ⟨rfl, rfl⟩) hr
  have q8 : ∀ target, Steps p.tables e below (T1.setTop (mkF m 9 (tL own_I L) (tS own_I [.ref A]))) target → Steps p.tables e below (T1.setTop (mkF m 8 (tL own_I L) (tS own_I []))) target := fun t hr => plain_ok (ρ := own_I) X1 hx (i := .aload_n 0) (L := L) (S := []) (S' := [.ref A]) rfl (by rw [hb]; exact d3_8 0 0 .null) hr
  have wS : ∀ a ∈ Bundle.stringAtoms, a.before a0 Z = true := am_cons (hw _ (List.mem_of_getElem? (i := 6) rfl)) (am_cons (hw _ (List.mem_of_getElem? (i := 5) rfl)) (am_cons (hw _ (List.mem_of_getElem? (i := 19) rfl)) (am_cons (hw _ (List.mem_of_getElem? (i := 20) rfl)) (am_cons (hw _ (List.mem_of_getElem? (i := 21) rfl)) (am_cons (hw _ (List.mem_of_getElem? (i := 22) rfl)) (am_cons (hw _ (List.mem_of_getElem? (i := 23) rfl)) am_nil))))))
  have w18 : (Jvm.Cond.stringLink own_str 7 "").before a0 Z = true := hw _ (List.mem_of_getElem? (i := 18) rfl)
  have w24 : (Jvm.Cond.fieldLink own_str 9 own_str "value" "[B").before a0 Z = true := hw _ (List.mem_of_getElem? (i := 24) rfl)
  have w25 : (Jvm.Cond.fieldLink own_str 15 own_str "coder" "B").before a0 Z = true := hw _ (List.mem_of_getElem? (i := 25) rfl)
  have w20 : (Jvm.Cond.laysFinal own_str own_str "value" "[B").before a0 Z = true := hw _ (List.mem_of_getElem? (i := 20) rfl)
  have w21 : (Jvm.Cond.laysFinal own_str own_str "coder" "B").before a0 Z = true := hw _ (List.mem_of_getElem? (i := 21) rfl)
  have w5 : (Jvm.Cond.instantiable own_str 4).before a0 Z = true := hw _ (List.mem_of_getElem? (i := 5) rfl)
  obtain ⟨a, T2, h2, k1, b, kk, X2, e2, E2, hS2, hk2, hZ2, hown2, Ea, Fca, Fva, Ab, la, lb, -, hLit, q9⟩ := ldcSVL (s := s) (vm0 := s.vm) (Ts := []) X1 hx hZ hown w18 wS e1 (k0 := h.size) ⟨State.Warmed39.refl s, (State.WarmedH.refl s).no_new_pair _⟩ (Nat.le_refl _) (Fr.nil _) (fun b cl q => by rw [hh0]; exact hkeep b cl q) ⟨#[], by rw [hI]; simp, fun q hq => by simp at hq⟩ (by simp) hh hcw (vs := []) (z := 0) ⟨by simp, rfl⟩ (by decide) rfl (g := mkF m 9 (tL own_I L) (tS own_I [.ref A])) rfl (by rw [hb]; exact own_d9) (n := 0) (by decide) (by decide) (by decide) (by decide)
  obtain ⟨cb, Arb, -, hsz, -⟩ := Ab
  have hsl : cb.slots = #[] := Array.eq_empty_of_size_eq_zero (hsz.trans rfl)
  have EA2 := EA.ext E2
  have FV2 := FV.ext E2
  have FC2 := FC.ext E2
  have hne : a ≠ A := fun q => by
    rw [q] at Fva
    cases fld_inj Fva FV2
  have hneb : A ≠ b := fun q => by
    obtain ⟨c1, _, _, _, _, g1, -, -, -, -, -, g7⟩ := FV2
    rw [q] at g1
    cases g1.symm.trans Arb.1
    rw [hsl] at g7
    simp at g7
  obtain ⟨T3, X3, e3, q11⟩ := getF X2 hx hZ2 hown2 (host := "") (Or.inl w24) Via.refl e2 Fva (g := mkF m 11 (tL own_I L) [.ref a, .ref A]) rfl (rest := [.ref A]) rfl (by rw [hb]; exact own_d11)
  obtain ⟨T4, h4, X4, e4, W4, q14⟩ := putFN X3 hx hZ2 hown2 w24 Via.refl e3 FV2 EA2 (Or.inr ⟨w20, rfl, hnm⟩) w5 (ty := .array .byte) (by decide) (v := .ref b) (v' := .ref b) rfl rfl (g := mkF m 14 (tL own_I L) [.ref b, .ref A]) rfl (rest := []) rfl (by rw [hb]; exact own_d14)
  have q17 : ∀ target, Steps p.tables e below (T4.setTop (mkF m 18 (tL own_I L) (tS own_I [.ref A]))) target → Steps p.tables e below (T4.setTop (mkF m 17 (tL own_I L) (tS own_I []))) target := fun t hr => plain_ok (ρ := own_I) X4 hx (i := .aload_n 0) (L := L) (S := []) (S' := [.ref A]) rfl (by rw [hb]; exact own_d17) hr
  have q18 := ldcAgain (s := s) (vm0 := T2.vm) X4 hx hZ2 hown2 w18 hLit (g := mkF m 18 (tL own_I L) (tS own_I [.ref A])) rfl (by rw [hb]; exact own_d18)
  have lv : Laid Z a0 own_str own_str "value" "[B" := Or.inr w20
  have lc : Laid Z a0 own_str own_str "coder" "B" := Or.inr w21
  have ns : Jvm.RoadKit.slotOf Z own_str "coder" "B" ≠ Jvm.RoadKit.slotOf Z own_str "value" "[B" := Jvm.RoadKit.slot_ne lc lv (by decide) (t := .byte) (by decide) (t' := .array .byte) (by decide)
  obtain ⟨T5, X5, e5, q20⟩ := getF X4 hx hZ2 hown2 (host := "") (Or.inl w25) Via.refl e4 (Fca.other W4 (Or.inl hne)) (g := mkF m 20 (tL own_I L) [.ref a, .ref A]) rfl (rest := [.ref A]) rfl (by rw [hb]; exact own_d20)
  obtain ⟨T6, h6, X6, e6, W6, q23⟩ := putFN X5 hx hZ2 hown2 w25 Via.refl e5 (FC2.other W4 (Or.inr ns)) (EA2.wr W4) (Or.inr ⟨w21, rfl, hnm⟩) w5 (ty := .byte) (by decide) (v := .int 0) (v' := .int 0) (by decide) (by decide) (g := mkF m 23 (tL own_I L) [.int 0, .ref A]) rfl (rest := []) rfl (by rw [hb]; exact own_d23)
  have hs6 : T6.heap.size = h2.size := by rw [e6, W6.size, W4.size]
  obtain ⟨fs, hr, hrun, hended, hend⟩ := X6.leaveW hS2 (by rw [hs6]; exact hk2) (v := none) (fun _ => rfl) Bd.notSynchronized
  have hret : meth.sig.returnType = none := Bd.returns
  have q26 := X6.returnOut hx (Ls := tL own_I L) hret (by rw [hb]; exact own_d26) hr
  refine ⟨T6.setFrames fs, _, (XT.entry (ent_tr (ρ := own_I) as _)).trans (q0 _ (q1 _ (q4 _ (q5 _ (q8 _ (q9 _ (q11 _ (q14 _ (q17 _ (q18 _ (q20 _ (q23 _ q26)))))))))))), hrun, hended, none, _, rfl, ⟨rfl, ?_, ⟨b, cb, ?_, ?_, ?_, ?_, hsl, hneb⟩, ?_⟩, hend.1, hend.2.1, hend.2.2.1, hend.2.2.2.mono (by decide) (by decide)⟩
  · intro y hy
    simp only [List.nil_append, List.cons_append, List.mem_cons, List.not_mem_nil, or_false] at hy
    rcases hy with rfl | rfl <;> exact hA
  · show Exa Z T6.heap A own_str
    rw [e6]; exact (EA2.wr W4).wr W6
  · show Fld Z T6.heap A own_str "value" "[B" (.ref b)
    rw [e6]; exact (FV2.same W4).other W6 (Or.inr ns.symm)
  · show Fld Z T6.heap A own_str "coder" "B" (.int 0)
    rw [e6]; exact (FC2.other W4 (Or.inr ns)).same W6
  · show Arr Z T6.heap b cb .byte
    rw [e6]; exact (Arb.other W4 hneb.symm).other W6 hneb.symm
  · intro q hq
    show Sta Z T6.heap q.1 q.2.1 q.2.2.1 q.2.2.2
    rw [e6]; exact (((hst q hq).ext E2).wr W4).wr W6
set_option maxHeartbeats 4000000 in
theorem own_metB (hw : ∀ d ∈ tables_1, d.before a0 Z = true) (hh : Jvm.Lit.constHeld Z own_str 7) (hcw : Jvm.Lit.compactW.before a0 Z = true) (EA : Exa Z h A own_str) (FV : Fld Z h A own_str "value" "[B" .null) (FC : Fld Z h A own_str "coder" "B" (.int 0)) (hA : n0 ≤ A)
    (hkeep : ∀ (b : Addr) (cl : Cell), Z.heap[b]? = some cl → h[b]? = some cl) (hst : ∀ q ∈ sts, Sta Z h q.1 q.2.1 q.2.2.1 q.2.2.2) {cd : Cell} (AD : Arr Z h D cd .char) (hD : cd.slots = #[]) :
    MetFree l own_yB (head1 [Jvm.Cond.code own_yB jdk_42_method_3_code 2 none] own_rB) (fun a U => a = #[.ref A, .ref D] ∧ Z.Warmed39 U.vm ∧ U.heap = h ∧ U.vm.interned = Z.vm.interned) (fun _ _ _ _ _ => True)
      (fun _ U o U' => ∃ v L, o = .returned v ∧ own_Q Z n0 A sts v U'.heap L ∧ ReturnedEndW U o U' L own_rB.cells own_rB.slots) := by
  refine MetFree.of_bodySF pf2 hisR ?_
  intro p e s m args below meth c s₁ Bd hml0 hP hK
  obtain ⟨rfl, hZ, hh0, hI⟩ := hP
  have hx := Bd.exec
  have hb : c.code = jdk_42_method_3_code := Bd.bytes
  have hown : s.vm.findClass own_str = some m.cls := findClass_of_methodNamed Bd.named
  have X0 : Stand p l e own_rB s m _ below meth c s₁ [] 0 0 := Stand.of_body Bd
  have e0 : s₁.heap = h := by rw [← hh0, Bd.state]; rfl
  let as : List Value := [.ref A, .ref D]
  let L : List Slot := [.val (.ref A), .val (.ref D)]
  have st : ∀ (i : Instr) (pc : Nat) (S S' : List Value), plainI i L S = some (L, S') → decode c.code pc = .ok (i, ilen i) → ∀ target, Steps p.tables e below (s₁.setTop (mkF m (pc + ilen i) (tL own_I L) (tS own_I S'))) target → Steps p.tables e below (s₁.setTop (mkF m pc (tL own_I L) (tS own_I S))) target := fun i pc S S' h1 h2 t hr => plain_ok (ρ := own_I) X0 hx h1 h2 hr
  have q0 := st (.aload_n 0) 0 [] [.ref A] rfl (by rw [hb]; exact d2_0 0 0 .null)
  have q1 := st (.aload_n 1) 1 [.ref A] [.ref D, .ref A] rfl (by rw [hb]; exact d2_1 0 0 .null)
  have q2 := st (.iconst 0) 2 [.ref D, .ref A] [.int 0, .ref D, .ref A] rfl (by rw [hb]; exact d2_2 0 0 .null)
  have q3 := st (.aload_n 1) 3 [.int 0, .ref D, .ref A] [.ref D, .int 0, .ref D, .ref A] rfl (by rw [hb]; exact d2_3 0 0 .null)
  have q4 : ∀ target, Steps p.tables e below (s₁.setTop (mkF m 5 (tL own_I L) (tS own_I [.int 0, .int 0, .ref D, .ref A]))) target → Steps p.tables e below (s₁.setTop (mkF m 4 (tL own_I L) (tS own_I [.ref D, .int 0, .ref D, .ref A]))) target := fun t hr => X0.arraylength hx (by rw [e0]; exact AD.1) (State.isArrayOf_alike hZ.alike AD.2.1) (g := mkF m 4 (tL own_I L) (tS own_I [.ref D, .int 0, .ref D, .ref A])) rfl rfl (by rw [hb]; exact d2_4 0 0 .null) t (by rw [hD]; exact hr)
  have q5 := st .aconst_null 5 [.int 0, .int 0, .ref D, .ref A] [.null, .int 0, .int 0, .ref D, .ref A] rfl (by rw [hb]; exact d2_5 0 0 .null)
  have w14 : (Jvm.Cond.code own_yC jdk_42_method_149_code 6 none).before a0 Z = true := hw _ (List.mem_of_getElem? (i := 14) rfl)
  obtain ⟨v, vm₁, ⟨T', L2, k2, n2⟩, -, X', hS, -, ⟨Lc, hQ, l1, l2, l3⟩, q6⟩ := X0.specialBackS hx (y := own_yC) rfl hown (mvT hZ (hw _ (List.mem_of_getElem? (i := 11) rfl))) (mvT hZ (hw _ (List.mem_of_getElem? (i := 12) rfl))) (mvT hZ w14) (by decide) (own_backS (W := 0) (own_metC (D := D) hw hh hcw EA FV FC hA hkeep hst) hZ hI w14 (hw _ (List.mem_of_getElem? (i := 6) rfl)) (by decide) (by decide)) (g := mkF m 6 (tL own_I L) [.null, .int 0, .int 0, .ref D, .ref A]) rfl (by rw [hml0]; rfl) (Steps.refl _) (a := A) (argsL := [.ref D, .int 0, .int 0, .null]) (rest := []) (show Arity "([CIILjava/lang/Void;)V" 4 from Arity.of (by decide +kernel)) rfl (show 2 * 0 + 0 ≤ 0 by decide) (by rw [hb]; exact d2_6 0 0 .null) (fun _ _ => ⟨rfl, e0, (show 0 + 2 ≤ 2 by decide), (show 0 + 9 ≤ 9 by decide)⟩)
  dsimp only [Pt.U, Pt.locs, Pt.cells, Pt.slots] at X' hS hQ l1 l2 l3 q6
  subst l1 l2 l3
  obtain rfl : v = none := hQ.1
  obtain ⟨fs, hr, hrun, hended, hend⟩ := X'.leaveW hS (Nat.le_refl _) (v := none) (fun _ => rfl) Bd.notSynchronized
  have hret : meth.sig.returnType = none := Bd.returns
  have q9 := X'.returnOut hx (Ls := tL own_I L) hret (pc := 9) (by rw [hb]; exact d2_9 0 0 .null) hr
  exact ⟨T'.setFrames fs, _, (XT.entry (ent_tr (ρ := own_I) as _)).trans (q0 _ (q1 _ (q2 _ (q3 _ (q4 _ (q5 _ (q6.trans q9))))))), hrun, hended, none, _, rfl, hQ, hend.1, hend.2.1, hend.2.2.1, hend.2.2.2.mono (by decide) (by decide)⟩
end OwnEmpty
theorem own_tv (v : Value) : tv own_I v = v := by cases v <;> rfl
def own_Hn (n : Nat) : Hp := List.replicate n ((.inr 999, []) : Obj)
theorem own_Hn_len (n : Nat) : (own_Hn n).length = n := by simp [own_Hn]
abbrev own_H1 (n : Nat) : Hp := own_Hn n ++ [(.inr 0, [.null, .int 0])]
abbrev own_H2 (n : Nat) : Hp := own_H1 n ++ [(.inl .char, [])]
abbrev own_L35 (x0 x1 x2 x3 c1 c2 c3 : Int32) : List Slot := [.val (.int x0), .val (.int x1), .val (.int x2), .val (.int x3), .val (.int 0), .val (.int c1), .val (.int c2), .val (.int c3), .unset, .unset]
theorem own_pre (x0 x1 x2 x3 c1 c2 c3 : Int32) (hx : x0 &&& 3 = 0) {jz : Nat} {cs : Int32} {sf : Value} (n : Nat) (d1 : ∀ (H : Hp) (Q : MRes → Prop), Wp (Pg jz cs sf) 1 (0, [.val (.int x1)], [], H, 0, 0) Q ↔ Q (some (.int c1), H)) (d2 : ∀ (H : Hp) (Q : MRes → Prop), Wp (Pg jz cs sf) 1 (0, [.val (.int x2)], [], H, 0, 0) Q ↔ Q (some (.int c2), H)) (d3 : ∀ (H : Hp) (Q : MRes → Prop), Wp (Pg jz cs sf) 1 (0, [.val (.int x3)], [], H, 0, 0) Q ↔ Q (some (.int c3), H)) :
    own_R (Pg jz cs sf) 0 (0, [.val (.int x0), .val (.int x1), .val (.int x2), .val (.int x3), .unset, .unset, .unset, .unset, .unset, .unset], [], own_Hn n, 0, 0) (35, own_L35 x0 x1 x2 x3 c1 c2 c3, [.ref (own_H1 n).length, .ref (own_Hn n).length, .ref (own_Hn n).length], own_H2 n, 2, 4) := by
  obtain ⟨f1, _, r1, rfl⟩ := (d1 (own_Hn n) (fun r => r = (some (.int c1), own_Hn n))).mpr rfl
  obtain ⟨f2, _, r2, rfl⟩ := (d2 (own_Hn n) (fun r => r = (some (.int c2), own_Hn n))).mpr rfl
  obtain ⟨f3, _, r3, rfl⟩ := (d3 (own_Hn n) (fun r => r = (some (.int c3), own_Hn n))).mpr rfl
  refine own_Rstep (st := (1, [.val (.int x0), .val (.int x1), .val (.int x2), .val (.int x3), .unset, .unset, .unset, .unset, .unset, .unset], [.int x0], own_Hn n, 0, 0)) (d0_0 _ _ _) rfl ?_
  refine own_Rstep (st := (2, [.val (.int x0), .val (.int x1), .val (.int x2), .val (.int x3), .unset, .unset, .unset, .unset, .unset, .unset], [.int 3, .int x0], own_Hn n, 0, 0)) (d0_1 _ _ _) rfl ?_
  refine own_Rstep (st := (3, [.val (.int x0), .val (.int x1), .val (.int x2), .val (.int x3), .unset, .unset, .unset, .unset, .unset, .unset], [.int (x0 &&& 3)], own_Hn n, 0, 0)) (d0_2 _ _ _) rfl ?_
  rw [hx]
  refine own_Rstep (st := (5, [.val (.int x0), .val (.int x1), .val (.int x2), .val (.int x3), .val (.int 0), .unset, .unset, .unset, .unset, .unset], [], own_Hn n, 0, 0)) (d0_3 _ _ _) rfl ?_
  refine own_Rstep (st := (6, [.val (.int x0), .val (.int x1), .val (.int x2), .val (.int x3), .val (.int 0), .unset, .unset, .unset, .unset, .unset], [.int x1], own_Hn n, 0, 0)) (d0_5 _ _ _) rfl ?_
  refine own_Rcall (d0_6 _ _ _) rfl rfl r1 ?_
  refine own_Rstep (st := (11, [.val (.int x0), .val (.int x1), .val (.int x2), .val (.int x3), .val (.int 0), .val (.int c1), .unset, .unset, .unset, .unset], [], own_Hn n, 0, 0)) (d0_9 _ _ _) rfl ?_
  refine own_Rstep (st := (12, [.val (.int x0), .val (.int x1), .val (.int x2), .val (.int x3), .val (.int 0), .val (.int c1), .unset, .unset, .unset, .unset], [.int x2], own_Hn n, 0, 0)) (d0_11 _ _ _) rfl ?_
  refine own_Rcall (d0_12 _ _ _) rfl rfl r2 ?_
  refine own_Rstep (st := (17, [.val (.int x0), .val (.int x1), .val (.int x2), .val (.int x3), .val (.int 0), .val (.int c1), .val (.int c2), .unset, .unset, .unset], [], own_Hn n, 0, 0)) (d0_15 _ _ _) rfl ?_
  refine own_Rstep (st := (18, [.val (.int x0), .val (.int x1), .val (.int x2), .val (.int x3), .val (.int 0), .val (.int c1), .val (.int c2), .unset, .unset, .unset], [.int x3], own_Hn n, 0, 0)) (d0_17 _ _ _) rfl ?_
  refine own_Rcall (d0_18 _ _ _) rfl rfl r3 ?_
  refine own_Rstep (st := (23, own_L35 x0 x1 x2 x3 c1 c2 c3, [], own_Hn n, 0, 0)) (d0_21 _ _ _) rfl ?_
  refine own_Rstep (st := (25, own_L35 x0 x1 x2 x3 c1 c2 c3, [.int 0], own_Hn n, 0, 0)) (d0_23 _ _ _) rfl ?_
  refine own_Rstep (st := (28, own_L35 x0 x1 x2 x3 c1 c2 c3, [], own_Hn n, 0, 0)) (d0_25 _ _ _) rfl ?_
  refine own_Rstep (st := (31, own_L35 x0 x1 x2 x3 c1 c2 c3, [.ref (own_Hn n).length], own_H1 n, 1, 4)) (d0_28 _ _ _) rfl ?_
  refine own_Rstep (st := (32, own_L35 x0 x1 x2 x3 c1 c2 c3, [.ref (own_Hn n).length, .ref (own_Hn n).length], own_H1 n, 1, 4)) (d0_31 _ _ _) rfl ?_
  refine own_Rstep (st := (33, own_L35 x0 x1 x2 x3 c1 c2 c3, [.int 0, .ref (own_Hn n).length, .ref (own_Hn n).length], own_H1 n, 1, 4)) (d0_32 _ _ _) rfl ?_
  refine own_Rstep (st := (35, own_L35 x0 x1 x2 x3 c1 c2 c3, [.ref (own_H1 n).length, .ref (own_Hn n).length, .ref (own_Hn n).length], own_H2 n, 2, 4)) (d0_33 _ _ _) rfl ?_
  exact own_Rrefl _
theorem own_38 {jz : Nat} {cs : Int32} {sf : Value} (hcs : ¬ cs = 0) (x0 x1 x2 x3 c1 c2 c3 : Int32) {H : Hp} {A b : Nat} (e1 : H[A]? = some (.inr 0, [.ref b, .int 0])) (e2 : H[b]? = some (.inl .byte, [])) : Wp (Pg jz cs sf) 0 (38, own_L35 x0 x1 x2 x3 c1 c2 c3, [.ref A], H, 4, 13) (fun r => r = (some (.int 1), H)) := by
  simp +decide only [w0_38, w0_40, w0_127, w0_128, w0_130, w0_132, w0_133, w0_136, w0_138, w0_141, w0_144, w0_145, w0_147, w0_149, w0_150, w0_153, w0_155, w0_158, w0_161, w0_162, w0_164, w0_166, w0_167, w0_170, w0_172, w0_175, w0_178, w0_179, w0_181, w0_183, w0_186, w0_188, w0_191, w0_192, w0_195, w0_196, w4_0, w4_1, w4_2, w4_3, w4_4, w4_7, w4_10, w4_11, w4_12, w4_15, w4_17, w4_20, w4_21, w4_22, w4_25, w4_27, w4_30, w4_31, w4_32, w4_35, w4_38, w4_39, w5_0, w5_1, w5_4, w5_5, w5_6, w5_9, w5_10, w6_0, w6_3, w6_6, w6_7, w6_10, w6_13, w6_14, List.length_cons, List.length_nil, List.length_append, List.length_set, List.length_replicate, wt_nil, wt_int, wt_ref, wt_null, wt_long, wt_double, s1_unset, s1_int, s1_ref, s1_null, s2_unset, s2_val, s3_unset, s3_second, s3_int, s3_ref, isA_ref', isA_null', cat_int, cat_ref, cat_null, List.cons_append, List.nil_append, List.getElem?_cons_zero, List.getElem?_cons_succ, List.getElem?_nil, List.set_cons_zero, List.set_cons_succ, Option.toList_some, Option.toList_none, Option.some.injEq, exists_eq_left', Option.bind_some, Option.map_some, kdOf_eq, kdO_obj, rdF_eq, wrF_eq, alen_eq, ldA_eq, ldO_i, ldO_b, ldO_c, ldO_a, stA_i, stO_i, stA_b, stO_b, stA_c, stO_c, stA_d, stO_d, ldO_d, j0_eq, Nat.not_lt_zero, if_true, if_false, not_false_eq_true, not_true_eq_false, true_and, and_true, reduceCtorEq, Value.ref.injEq, ne_eq, Nat.zero_add, Nat.add_zero, Nat.reduceAdd, Nat.reduceLeDiff, Nat.le_refl, Nat.reduceLT, Nat.zero_le, Value.int.injEq, Value.long.injEq, tn0, tn1, tn2, tn3, tn4, tn5, tn6, tn7, tn8, tn9, tl0, tl1, tl2, tl3, tl4, tl5, tl6, tl7, tl8, tl9, rp0, rp1, rp2, rp3, rp4, rp5, rp6, rp7, rp8, rp9, alO_a, an0, an1, ↓reduceIte, Int32.reduceAdd, Int32.reduceSub, Int32.reduceMul, Int32.reduceLT, Int32.reduceLE, Int32.reduceToNatClampNeg, Int64.reduceLT, Int64.reduceLE, Int64.reduceAdd, on0, on1, on2, on3, on4, on5, on6, on7, on8, on9, r5_9_0, r6_15_0, r11_9_0, r12_15_0, q3_15_0, q3_9_0, q3_9_0n, own_s0, own_shr0, own_b0, hcs, e1, e2]
def own_H3 (n A b : Nat) : Hp := ((own_Hn n).set A (.inr 0, [.ref b, .int 0])).set b (.inl .byte, [])
theorem own_H3_len (n A b : Nat) : (own_H3 n A b).length = n := by simp [own_H3, own_Hn]
theorem own_H3_b {n A b : Nat} (hb : b < n) : (own_H3 n A b)[b]? = some (.inl .byte, []) := by
  unfold own_H3
  rw [List.getElem?_set_self (by simpa [own_Hn] using hb)]
theorem own_H3_A {n A b : Nat} (hA : A < n) (hne : A ≠ b) : (own_H3 n A b)[A]? = some (.inr 0, [.ref b, .int 0]) := by
  unfold own_H3
  rw [List.getElem?_set_ne hne.symm, List.getElem?_set_self (by simpa [own_Hn] using hA)]
theorem own_H3_o {n A b i : Nat} {o : Obj} (h1 : i ≠ A) (h2 : i ≠ b) (h : (own_H3 n A b)[i]? = some o) : o = (.inr 999, []) := by
  unfold own_H3 at h
  rw [List.getElem?_set_ne (Ne.symm h2), List.getElem?_set_ne (Ne.symm h1)] at h
  exact (List.mem_replicate.mp (List.mem_of_getElem? h)).2
abbrev own_sv (cs : Int32) (sf : Value) : own_Sv := [("java/lang/String", "COMPACT_STRINGS", "Z", .int cs), ("jdk/internal/util/Preconditions", "SIOOBE_FORMATTER", "Ljava/util/function/BiFunction;", sf), ("java/lang/StringUTF16", "$assertionsDisabled", "Z", .int 1), ("java/lang/StringUTF16", "HI_BYTE_SHIFT", "I", .int 0), ("java/lang/StringUTF16", "LO_BYTE_SHIFT", "I", .int 8)]
theorem own_RO (n : Nat) (cs : Int32) (sf : Value) : RhoOk (Pg n cs sf) own_I n := ⟨fun i hi => by have hi : n ≤ i := hi; show i = n + (i - n); omega, fun i j h => h⟩
set_option maxHeartbeats 4000000 in
theorem own_metL {l : Launch} {Z : State} {a0 : Array Value} (hw : ∀ d ∈ tables_1, d.before a0 Z = true) (hh : Jvm.Lit.constHeld Z own_str 7) (hcw : Jvm.Lit.compactW.before a0 Z = true) {cs : Int32} {sf : Value} (hcs : ¬ cs = 0) (hst : ∀ q ∈ own_sv cs sf, Sta Z Z.heap q.1 q.2.1 q.2.2.1 q.2.2.2) (x0 x1 x2 x3 : Int32) (hx0 : x0 &&& 3 = 0) :
    MetFree l x (head1 (Jvm.Cond.code x code maxLocals ret :: tables_1) room_1) (fun a U => a = #[.int x0, .int x1, .int x2, .int x3] ∧ U = Z) (fun _ _ _ _ _ => True)
      (fun _ U o U' => ∃ L, o = .returned (some (.int 1)) ∧ Fr Z.heap.size L ∧ ReturnedEndW U o U' L room_1.cells room_1.slots) := by
  refine MetFree.of_bodySF pf0 hisR ?_
  intro p e s m args below meth c s₁ Bd hml0 hP hK
  obtain ⟨rfl, rfl⟩ := hP
  have hx := Bd.exec
  have hb : c.code = code := Bd.bytes
  have hown : s.vm.findClass x.cls = some m.cls := findClass_of_methodNamed Bd.named
  have hnm := (name_of_methodNamed Bd.named Bd.method).1
  have hZ : s.Warmed39 s.vm := State.Warmed39.refl s
  have X0 : Stand p l e room_1 s m _ below meth c s₁ [] 0 0 := Stand.of_body Bd
  have e0 : s₁.heap = s.heap := by rw [Bd.state]; rfl
  obtain ⟨c1, -, d1⟩ := own_draw (jz := s.heap.size) (cs := cs) (sf := sf) x1
  obtain ⟨c2, -, d2⟩ := own_draw (jz := s.heap.size) (cs := cs) (sf := sf) x2
  obtain ⟨c3, -, d3⟩ := own_draw (jz := s.heap.size) (cs := cs) (sf := sf) x3
  have RO := own_RO s.heap.size cs sf
  have PO : PrgOk (Pg s.heap.size cs sf) s a0 own_I := okP _ _ _ hw
  have Cx : Ctx (Pg s.heap.size cs sf) s 0 p s m meth c := ⟨hx, hZ, hown, hb, hml0, Bd.returns, hnm, Bd.notSynchronized⟩
  have hsv : ∀ (h : Heap), (∀ q ∈ own_sv cs sf, Sta s h q.1 q.2.1 q.2.2.1 q.2.2.2) → ∀ q ∈ (Pg s.heap.size cs sf).sv, Sta s h q.1 q.2.1 q.2.2.1 (tv own_I q.2.2.2) := fun h H q hq => by rw [own_tv]; exact H q hq
  have K0 : Pic (Pg s.heap.size cs sf) s own_I s.heap.size s₁.heap (own_Hn s.heap.size) := by
    rw [e0]
    refine ⟨Nat.le_of_eq (own_Hn_len _).symm, ?_, fun i o h => ?_, hsv _ hst⟩
    · rw [own_Hn_len]
      show s.heap.size = s.heap.size + (s.heap.size - s.heap.size)
      omega
    · obtain rfl := (List.mem_replicate.mp (List.mem_of_getElem? h)).2
      exact fun q => absurd q (by show ¬ 999 < 1; decide)
  obtain ⟨T, locs, X, K, N, st⟩ := own_pre x0 x1 x2 x3 c1 c2 c3 hx0 s.heap.size d1 d2 d3 s a0 own_I s.heap.size l p e s m _ below meth c PO RO Cx s₁ [] X0 K0 (Fr.nil _)
  have X : Stand p l e room_1 s m _ below meth c T locs 2 4 := X
  dsimp only at K st
  have l0 := own_Hn_len s.heap.size
  have l1 : (own_H1 s.heap.size).length = s.heap.size + 1 := by simp [own_H1, l0]
  have g0 : (own_H2 s.heap.size)[(own_Hn s.heap.size).length]? = some (.inr 0, [.null, .int 0]) := by simp [own_H2, own_H1]
  have g1 : (own_H2 s.heap.size)[(own_H1 s.heap.size).length]? = some (.inl .char, []) := by simp [own_H2]
  obtain ⟨EA, FA⟩ := K.2.2.1 _ _ g0 (by show 0 < 1; decide)
  have FV := FA 0 _ _ rfl rfl
  have FC := FA 1 _ _ rfl rfl
  obtain ⟨cd, AD, hD, -⟩ := K.2.2.1 _ _ g1
  have hst1 : ∀ q ∈ own_sv cs sf, Sta s T.heap q.1 q.2.1 q.2.2.1 q.2.2.2 := fun q hq => by have := K.2.2.2 q hq; rw [own_tv] at this; exact this
  have w10 : (Jvm.Cond.code own_yB jdk_42_method_3_code 2 none).before a0 s = true := hw _ (List.mem_of_getElem? (i := 10) rfl)
  obtain ⟨v, vm₁, ⟨T', L2, k2, n2⟩, -, X', hS, -, ⟨Lc, hQ, l1', l2', l3'⟩, q35⟩ := X.specialBackS hx (y := own_yB) rfl hown (mvT hZ (hw _ (List.mem_of_getElem? (i := 8) rfl))) (mvT hZ (hw _ (List.mem_of_getElem? (i := 9) rfl))) (mvT hZ w10) (by decide) (own_backS (W := 1) (own_metB (n0 := s.heap.size) (A := (own_Hn s.heap.size).length) (D := (own_H1 s.heap.size).length) (sts := own_sv cs sf) hw hh hcw EA FV FC (Nat.le_of_eq l0.symm) (oldF X N) hst1 AD hD) hZ rfl w10 (hw _ (List.mem_of_getElem? (i := 6) rfl)) (by decide) (by decide)) (g := mkF m 35 (tL own_I (own_L35 x0 x1 x2 x3 c1 c2 c3)) (tS own_I [.ref (own_H1 s.heap.size).length, .ref (own_Hn s.heap.size).length, .ref (own_Hn s.heap.size).length])) rfl (by rw [hml0]; rfl) (Steps.refl _) (a := (own_Hn s.heap.size).length) (argsL := [.ref (own_H1 s.heap.size).length]) (rest := [.ref (own_Hn s.heap.size).length]) (show Arity "([C)V" 1 from Arity.of (by decide +kernel)) rfl (show 2 * 0 + 1 ≤ 1 by decide) (by rw [hb]; exact d0_35 0 0 .null) (fun _ _ => ⟨rfl, rfl, (show 2 + 2 ≤ 24 by decide), (show 4 + 9 ≤ 1152 by decide)⟩)
  dsimp only [Pt.U, Pt.locs, Pt.cells, Pt.slots] at X' hS hQ l1' l2' l3' q35
  subst l1' l2' l3'
  obtain ⟨rfl, NL, ⟨b, cl, EA', FV', FC', Ab, hsl, hne⟩, hst2⟩ := hQ
  have hAlt : (own_Hn s.heap.size).length < T'.heap.size := EA'.lt
  have hlt : s.heap.size < T'.heap.size := by have q := hAlt; rw [l0] at q; exact q
  have hblt : b < T'.heap.size := Ab.lt
  have hZ' : s.Warmed39 (s.setVm T'.vm).vm := hS.1
  have Cx' : Ctx (Pg s.heap.size cs sf) s 0 p (s.setVm T'.vm) m meth c := ⟨hx, hZ', by rw [show (s.setVm T'.vm).vm = T'.vm from rfl, hS.1.alike.findClass]; exact hown, hb, hml0, Bd.returns, hnm, Bd.notSynchronized⟩
  have K3 : Pic (Pg s.heap.size cs sf) s own_I s.heap.size T'.heap (own_H3 T'.heap.size (own_Hn s.heap.size).length b) := by
    refine ⟨?_, ?_, fun i o h => ?_, hsv _ hst2⟩
    · rw [own_H3_len]; exact Nat.le_of_lt hlt
    · rw [own_H3_len]
      show T'.heap.size = s.heap.size + (T'.heap.size - s.heap.size)
      omega
    · by_cases i1 : i = b
      · subst i1
        rw [own_H3_b hblt] at h
        cases h
        exact ⟨cl, Ab, by rw [hsl]; rfl, fun _ C hC => (by cases hC), fun _ hC => (by cases hC)⟩
      · by_cases i2 : i = (own_Hn s.heap.size).length
        · subst i2
          rw [own_H3_A hAlt hne] at h
          cases h
          refine fun _ => ⟨EA', fun q v fd h1 h2 => ?_⟩
          match q, h1, h2 with
          | 0, h1, h2 => cases h1; cases h2; exact FV'
          | 1, h1, h2 => cases h1; cases h2; exact FC'
        · obtain rfl := own_H3_o i2 i1 h
          exact fun q => absurd q (by show ¬ 999 < 1; decide)
  obtain ⟨f, r, hrun, rfl⟩ := own_38 (jz := s.heap.size) (sf := sf) hcs x0 x1 x2 x3 c1 c2 c3 (own_H3_A hAlt hne) (own_H3_b hblt)
  obtain ⟨s₂, L', q38, h1, h2, K4, N4, hF⟩ := run_sound (l := l) PO RO f 0 _ _ hrun p e (s.setVm T'.vm) m _ below meth c T' _ Cx' X' K3 (Fr.app N NL)
  have hsz : T'.heap.size ≤ s₂.heap.size := by
    have q := K4.2.1
    dsimp only at q
    rw [own_H3_len] at q
    have q : s₂.heap.size = s.heap.size + (T'.heap.size - s.heap.size) := q
    omega
  obtain ⟨ea, eb, ec⟩ := hS.ended (U := s₂) hF.2.1 hsz hF.2.2
  exact ⟨s₂, _, (XT.entry (ent_tr (ρ := own_I) [.int x0, .int x1, .int x2, .int x3] _)).trans (st _ (q35.trans q38)), h1, h2, L', rfl, N4, ⟨_, rfl⟩, ea, eb, ec⟩
theorem own_isRef {args : Array Value} {s : State} {t : Term} (h : (Jvm.Cond.isRef t).value args s none s [] = some true) : ∃ v, t.eval args s none [] s = some v ∧ (v = .null ∨ ∃ a, v = .ref a) := by
  simp only [Jvm.Cond.value] at h
  cases hv : t.eval args s none [] s with
  | none => simp [hv] at h
  | some v =>
    refine ⟨v, rfl, ?_⟩
    cases v with
    | null => exact Or.inl rfl
    | ref a => exact Or.inr ⟨a, rfl⟩
    | int _ => simp [hv] at h
    | long _ => simp [hv] at h
    | float _ => simp [hv] at h
    | double _ => simp [hv] at h
    | retAddr _ => simp [hv] at h
theorem own_rho {n0 st : Nat} (h : st < n0) {sf : Value} (hsf : sf = .null ∨ ∃ a, sf = .ref a) : ∃ (d : Nat) (sf' : Value), d < n0 ∧ cat sf' = 1 ∧ tv (rhoL [d] n0) sf' = sf := by
  rcases hsf with rfl | ⟨a, rfl⟩
  · exact ⟨st, .null, h, rfl, rfl⟩
  · by_cases q : a < n0
    · exact ⟨a, .ref 0, q, rfl, rfl⟩
    · refine ⟨st, .ref (1 + (a - n0)), h, rfl, ?_⟩
      show Value.ref (rhoL [st] n0 (1 + (a - n0))) = .ref a
      rw [rhoL_new (by simp)]
      have : n0 + (1 + (a - n0) - 1) = a := by have q : n0 ≤ a := Nat.not_lt.mp q; omega
      simpa using this
theorem own_stlt {Z : State} {h : Heap} {C n d : String} {v : Value} (S : Sta Z h C n d v) : ∃ st, st < h.size := by
  obtain ⟨_, _, _, _, st, cell, -, -, -, -, h5, -⟩ := S
  exact ⟨st, (Array.getElem?_eq_some_iff.mp h5).1⟩
set_option maxRecDepth 65536 in
set_option maxHeartbeats 40000000 in
theorem comes_1 {Post : Tables → Env → Array Value → State → Outcome → State → Prop} (hpost : ∀ tb e args s v u, (limb_1_1.after args s (.returned v) u = true ∧ limb_1_2.after args s (.returned v) u = true ∧ True) → FramedW s (.returned v) u (Jvm.fieldLocs frame_1_writes args s ++ Jvm.arrayLocs frame_1_arrays args s ++ Jvm.staticLocs frame_1_statics s) 24 1152 → Post tb e args s (.returned v) u) :
    ArmFor flags0 classFile x code maxLocals ret World_1 tables_1 room_1 Calls_1 rest_1 Pre_1 Post := by
  intro l hfl _ _ p e ha hc hk s m args below hf hA hF happ hP
  obtain ⟨hcalls, hrest, hpre⟩ := hP
  obtain ⟨-, -, -, hnamed, -, -, -, hat⟩ := (Spec.applies_iff hf).mp happ
  obtain ⟨hg, hn⟩ := and_e (Cond.before_iff.mp (show (Jvm.Cond.and given_1 narrow_1).before args s = true from hpre))
  obtain ⟨hcnt, g0⟩ := and_e hg
  obtain ⟨q0, g1⟩ := and_e g0
  obtain ⟨q1, g2⟩ := and_e g1
  obtain ⟨q2, q3⟩ := and_e g2
  obtain ⟨w0, w1, w2, w3, rfl⟩ : ∃ w0 w1 w2 w3 : Value, args = #[w0, w1, w2, w3] := by
    have hs : args.size = 4 := by simpa [Cond.value, given_1] using hcnt
    obtain ⟨L⟩ := args
    match L, hs with
    | [w0, w1, w2, w3], _ => exact ⟨w0, w1, w2, w3, rfl⟩
  have hw := fun d (hd : d ∈ tables_1) => atoms_spec (ws := Jvm.Cond.code x code maxLocals ret :: tables_1) hat d (List.mem_cons_of_mem _ hd)
  obtain ⟨x0, e0⟩ := is_v q0
  obtain rfl : w0 = (.int x0) := Option.some.inj e0
  obtain ⟨x1, e1⟩ := is_v q1
  obtain rfl : w1 = (.int x1) := Option.some.inj e1
  obtain ⟨x2, e2⟩ := is_v q2
  obtain rfl : w2 = (.int x2) := Option.some.inj e2
  obtain ⟨x3, e3⟩ := is_v q3
  obtain rfl : w3 = (.int x3) := Option.some.inj e3
  obtain ⟨hsets, hown0⟩ := atoms_of _ (rest_1_c_eq ▸ (show rest_1_c.before _ s = true from hrest))
  have s2 := hsets _ (List.mem_of_getElem? (i := 2) rfl)
  obtain ⟨cs, vC⟩ := is_v (Cond.before_iff.mp (hsets _ (List.mem_of_getElem? (i := 1) rfl)))
  have hcs : ¬ cs = 0 := fun q => by
    have z := Cond.before_iff.mp s2
    simp [Cond.value, vC, q, Term.int_eval] at z
  obtain ⟨sf, vF, hsf⟩ := own_isRef (Cond.before_iff.mp (hsets _ (List.mem_of_getElem? (i := 8) rfl)))
  have SC := Sta.start vC (Or.inl (hsets _ (List.mem_of_getElem? (i := 0) rfl)))
  have SF := Sta.start vF (Or.inl (hsets _ (List.mem_of_getElem? (i := 7) rfl)))
  have SA := Sta.start (eqv_i (Term.int_eval 1) (Cond.before_iff.mp (hsets _ (List.mem_of_getElem? (i := 12) rfl)))) (Or.inl (hsets _ (List.mem_of_getElem? (i := 11) rfl)))
  have SH := Sta.start (eqv_i (Term.int_eval 0) (Cond.before_iff.mp (hsets _ (List.mem_of_getElem? (i := 15) rfl)))) (Or.inl (hsets _ (List.mem_of_getElem? (i := 14) rfl)))
  have SL := Sta.start (eqv_i (Term.int_eval 8) (Cond.before_iff.mp (hsets _ (List.mem_of_getElem? (i := 18) rfl)))) (Or.inl (hsets _ (List.mem_of_getElem? (i := 17) rfl)))
  by_cases hx0 : x0 &&& 3 = 0
  · have hh : Jvm.Lit.constHeld s own_str 7 := hcalls.1 _ List.mem_cons_self
    have met := own_metL (l := l) hw hh s2 hcs (am_cons SC (am_cons SF (am_cons SA (am_cons SH (am_cons SL am_nil))))) x0 x1 x2 x3 hx0
    obtain ⟨n, o, h1, h2, h3, L, rfl, N, hq⟩ := met p e ha hc hk s m _ below hf ((Spec.applies_iff_loose hf).mp happ).1 ⟨rfl, rfl⟩ trivial
    exact ⟨n, _, h1, h2, h3, hpost _ _ _ _ _ _ ⟨Cond.after_iff.mpr rfl, Cond.after_iff.mpr (eq_i res_at (Term.int_eval (1)) rfl), trivial⟩ ⟨hq.1, hq.2.1, hq.2.2.1, (hq.2.2.2.sift fun y hy => Or.inr (N y hy)).mono (by decide) (by decide)⟩⟩
  · obtain ⟨st0, hst0⟩ := own_stlt SC
    obtain ⟨d, sf', hd, hcat, rfl⟩ := own_rho hst0 hsf
    have RO : RhoOk (Pg 1 cs sf') (rhoL [d] s.heap.size) s.heap.size := rhoL_ok rfl (by simp) (am_cons hd am_nil)
    have K : Pic (Pg 1 cs sf') s (rhoL [d] s.heap.size) s.heap.size s.heap [(.inr 999, [])] := by
      refine ⟨Nat.le_refl _, rfl, fun i o h => ?_, am_cons SC (am_cons SF (am_cons SA (am_cons SH (am_cons SL am_nil))))⟩
      obtain rfl := List.mem_singleton.mp (List.mem_of_getElem? h)
      exact fun q => absurd q (by show ¬ 999 < 1; decide)
    obtain ⟨f, r, hrun, hr⟩ := own_wp hcs hcat x0 x1 x2 x3 hx0
    have hS := run_sound (l := l) (okP _ _ _ hw) RO f 0 _ r hrun
    have met := met_of (P := Pg 1 cs sf') (j := 0) (as := [(.int x0), (.int x1), (.int x2), (.int x3)]) pf0 hS K tables_1
    obtain ⟨v, H'⟩ := r
    obtain rfl : v = some (.int 1) := hr
    obtain ⟨n, o, h1, h2, h3, _, L, rfl, ⟨rfl, hp, N⟩, hq⟩ := met p e ha hc hk s m _ below hf ((Spec.applies_iff_loose hf).mp happ).1 ⟨rfl, State.Warmed39.refl s, rfl⟩ trivial
    exact ⟨n, _, h1, h2, h3, hpost _ _ _ _ _ _ ⟨Cond.after_iff.mpr rfl, Cond.after_iff.mpr (eq_i res_at (Term.int_eval (1)) rfl), trivial⟩ (ReturnedEndW.of_narrow hq.1 hq.2.1 ((hq.2.2.sift fun y hy => Or.inr (N y hy)).mono (show 24 ≤ 24 by decide) (show 1152 ≤ 1152 by decide)))⟩
theorem main_1_1 : Claimed_1_1 := comes_1 fun _ _ _ _ _ _ h hF => ⟨h.1, hF⟩
theorem main_1_2 : Claimed_1_2 := comes_1 fun _ _ _ _ _ _ h hF => ⟨h.2.1, hF⟩
end Jvm.Pilot.@@N@@
namespace Jvm.Pilot.@@N@@
open Jvm Jvm.ClassFile Sem Op Lib Jvm.Free Jvm.Stand Jvm.Pilot.@@N@@.Jvm.D
/-! MADE BY PROGRAM (witnessworld.py) out of the Statement's table words and the real class files: 20 classes; the members and pool entries that the words name. The judged class is class 1, her method 1. -/
namespace start1
open Jvm.ClassFile
def u (s : String) : CpInfo := .utf8 (stringToUtf16 s)
/-- a pool by its gaps: so many unusable entries, then the entry; so many at the end -/
def gap : Nat → List CpInfo → List CpInfo
  | 0, r => r
  | n + 1, r => .unusable :: gap n r
def poolList (es : List (Nat × CpInfo)) (last : Nat) : List CpInfo := es.foldr (fun e r => gap e.1 (e.2 :: r)) (gap last [])
def pool (es : List (Nat × CpInfo)) (last : Nat) : Array CpInfo := ⟨poolList es last⟩
def fileOf (pool : Array CpInfo) (this : Nat) (attrs : Array Attribute := #[]) (ms : Array MethodInfo := #[]) (fl : Nat := 33) (sup : Nat := 0) (ifs : Array Nat := #[]) (fds : Array FieldInfo := #[]) : ClassFile where
  minorVersion := 0
  majorVersion := 65
  constantPool := pool
  accessFlags := fl
  thisClass := this
  superClass := sup
  interfaces := ifs
  fields := fds
  methods := ms
  attributes := attrs
def plain (name : String) (sup : Option ClassId) : Class where
  name := name
  kind := .ordinary
  loader := none
  accessFlags := 33
  super := sup
  interfaces := #[]
  cf := none
  fields := #[]
  methods := #[]
  instanceTypes := #[]
  staticTypes := #[]
  resolved := #[]
  callSites := []
  init := .initialized
  statics := none
  mirror := none

def pool0 : Array CpInfo := pool [(5, u "<init>"), (0, u "()V"), (1, .class_ 10), (1, u "java/lang/Object")] 113

def k0c0 : Code := { maxStack := 0, maxLocals := 1, code := object_method_1_code, exceptionTable := #[], attributes := #[] }
def k0m0 : Method := { name := "<init>", desc := "()V", sig := { parameters := [], returnType := none }, accessFlags := 1, code := some k0c0 }
/-- java/lang/Object -/
def k0 : Class := { plain "java/lang/Object" none with
  accessFlags := 33
  interfaces := #[]
  cf := some (fileOf pool0 8 #[] #[{ accessFlags := 1, nameIndex := 5, descriptorIndex := 6, attributes := #[] }] 33 0 #[] #[])
  fields := #[]
  methods := #[k0m0]
  instanceTypes := #[]
  staticTypes := #[]
  resolved := Array.replicate 124 none
  statics := none }

def pool1 : Array CpInfo := pool [(2, .class_ 4), (1, u "java/lang/Object"), (0, u "<init>"), (0, u "()V"), (0, .methodref 8 9), (0, .class_ 10), (0, .nameAndType 11 12), (0, u "org/polje/iso2709/Iso2709IsPrintableAscii275PinLaw"), (0, u "draw"), (0, u "(I)C"), (0, .class_ 14), (0, u "java/lang/String"), (0, .methodref 13 16), (0, .nameAndType 5 17), (0, u "([C)V"), (0, .methodref 8 19), (0, .nameAndType 20 21), (0, u "printable"), (0, u "(C)Z"), (0, .methodref 23 24), (0, .class_ 25), (0, .nameAndType 26 27), (0, u "org/polje/iso2709/Iso2709"), (0, u "isPrintableAscii"), (0, u "(Ljava/lang/String;)Z"), (0, .integer 65535), (2, u "law"), (0, u "(IIII)Z")] 3

def k1m0 : Method := { name := "<init>", desc := "()V", sig := { parameters := [], returnType := none }, accessFlags := 1, code := none }
def k1c1 : Code := { maxStack := 6, maxLocals := 10, code := code, exceptionTable := #[], attributes := #[] }
def k1m1 : Method := { name := "law", desc := "(IIII)Z", sig := { parameters := [.int, .int, .int, .int], returnType := some .boolean }, accessFlags := 9, code := some k1c1 }
def k1c2 : Code := { maxStack := 2, maxLocals := 1, code := method_3_code, exceptionTable := #[], attributes := #[] }
def k1m2 : Method := { name := "draw", desc := "(I)C", sig := { parameters := [.int], returnType := some .char }, accessFlags := 10, code := some k1c2 }
def k1c3 : Code := { maxStack := 2, maxLocals := 2, code := method_4_code, exceptionTable := #[], attributes := #[] }
def k1m3 : Method := { name := "printable", desc := "(C)Z", sig := { parameters := [.char], returnType := some .boolean }, accessFlags := 10, code := some k1c3 }
/-- org/polje/iso2709/Iso2709IsPrintableAscii275PinLaw -/
def k1 : Class := { plain "org/polje/iso2709/Iso2709IsPrintableAscii275PinLaw" (some 0) with
  accessFlags := 49
  interfaces := #[]
  cf := some (fileOf pool1 8 #[] #[{ accessFlags := 1, nameIndex := 5, descriptorIndex := 6, attributes := #[] }, { accessFlags := 9, nameIndex := 31, descriptorIndex := 32, attributes := #[] }, { accessFlags := 10, nameIndex := 11, descriptorIndex := 12, attributes := #[] }, { accessFlags := 10, nameIndex := 20, descriptorIndex := 21, attributes := #[] }] 49 2 #[] #[])
  fields := #[]
  methods := #[k1m0, k1m1, k1m2, k1m3]
  instanceTypes := #[]
  staticTypes := #[]
  resolved := Array.replicate 36 none
  statics := none }

def pool2 : Array CpInfo := pool [(1, .class_ 2), (0, u "java/io/Serializable"), (0, .class_ 4), (0, u "java/lang/Object")] 2

/-- java/io/Serializable -/
def k2 : Class := { plain "java/io/Serializable" (some 0) with
  accessFlags := 1537
  interfaces := #[]
  cf := some (fileOf pool2 1 #[] #[] 1537 3 #[] #[])
  fields := #[]
  methods := #[]
  instanceTypes := #[]
  staticTypes := #[]
  resolved := Array.replicate 7 none
  statics := none }

def pool3 : Array CpInfo := pool [(1, .class_ 2), (0, u "java/lang/Comparable"), (0, .class_ 4), (0, u "java/lang/Object")] 7

/-- java/lang/Comparable -/
def k3 : Class := { plain "java/lang/Comparable" (some 0) with
  accessFlags := 1537
  interfaces := #[]
  cf := some (fileOf pool3 1 #[] #[] 1537 3 #[] #[])
  fields := #[]
  methods := #[]
  instanceTypes := #[]
  staticTypes := #[]
  resolved := Array.replicate 12 none
  statics := none }

def pool4 : Array CpInfo := pool [(2, .class_ 4), (1, u "java/lang/CharSequence"), (42, .class_ 48), (0, u "java/lang/CharSequence$1CodePointIterator"), (10, .class_ 60), (0, u "java/lang/CharSequence$1CharIterator"), (5, .class_ 67), (0, u "java/lang/Object")] 63

/-- java/lang/CharSequence -/
def k4 : Class := { plain "java/lang/CharSequence" (some 0) with
  accessFlags := 1537
  interfaces := #[]
  cf := some (fileOf pool4 2 #[.nestMembers #[47, 59]] #[] 1537 66 #[] #[])
  fields := #[]
  methods := #[]
  instanceTypes := #[]
  staticTypes := #[]
  resolved := Array.replicate 131 none
  statics := none }

def pool5 : Array CpInfo := pool [(1, .class_ 2), (0, u "java/lang/constant/Constable"), (0, .class_ 4), (0, u "java/lang/Object")] 6

/-- java/lang/constant/Constable -/
def k5 : Class := { plain "java/lang/constant/Constable" (some 0) with
  accessFlags := 1537
  interfaces := #[]
  cf := some (fileOf pool5 1 #[] #[] 1537 3 #[] #[])
  fields := #[]
  methods := #[]
  instanceTypes := #[]
  staticTypes := #[]
  resolved := Array.replicate 11 none
  statics := none }

def pool6 : Array CpInfo := pool [(1, .class_ 2), (0, u "java/lang/constant/ConstantDesc"), (0, .class_ 4), (0, u "java/lang/Object")] 32

/-- java/lang/constant/ConstantDesc -/
def k6 : Class := { plain "java/lang/constant/ConstantDesc" (some 0) with
  accessFlags := 1537
  interfaces := #[]
  cf := some (fileOf pool6 1 #[] #[] 1537 3 #[] #[])
  fields := #[]
  methods := #[]
  instanceTypes := #[]
  staticTypes := #[]
  resolved := Array.replicate 37 none
  statics := none }

def pool7 : Array CpInfo := pool [(1, .methodref 2 3), (0, .class_ 4), (0, .nameAndType 5 6), (0, u "java/lang/Object"), (0, u "<init>"), (0, u "()V"), (0, .string 8), (0, u ""), (0, .fieldref 10 11), (0, .class_ 12), (0, .nameAndType 13 14), (0, u "java/lang/String"), (0, u "value"), (0, u "[B"), (0, .fieldref 10 16), (0, .nameAndType 17 18), (0, u "coder"), (0, u "B"), (2, u "hash"), (0, u "I"), (2, u "hashIsZero"), (0, u "Z"), (0, .methodref 10 28), (0, .nameAndType 5 29), (0, u "([CIILjava/lang/Void;)V"), (8, .fieldref 10 39), (0, .nameAndType 40 26), (0, u "COMPACT_STRINGS"), (1, .class_ 44), (1, u "java/lang/StringUTF16"), (0, u "compress"), (1, .methodref 42 48), (0, .nameAndType 49 50), (0, u "coderFromArrayLen"), (0, u "([BI)B"), (56, .class_ 109), (1, u "java/lang/StringLatin1"), (32, u "()Z"), (34, .methodref 42 178), (0, .nameAndType 45 179), (0, u "([CII)[B"), (154, u "()I"), (0, .methodref 10 336), (0, .nameAndType 17 337), (0, u "()B"), (25, u "([BI)C"), (27, u "(II)V"), (35, u "(I)C"), (64, .methodref 10 493), (0, .nameAndType 494 142), (0, u "isLatin1"), (0, .methodref 107 496), (0, .nameAndType 497 363), (0, u "charAt"), (0, .methodref 42 496), (2, u "checkIndex"), (5, u "length"), (67, .class_ 576), (0, u "java/lang/CharSequence"), (22, u "CASE_INSENSITIVE_ORDER"), (0, u "Ljava/util/Comparator;"), (409, u "([C)V"), (42, .fieldref 1054 1055), (0, .class_ 1056), (0, .nameAndType 1057 1058), (0, u "jdk/internal/util/Preconditions"), (0, u "SIOOBE_FORMATTER"), (0, u "Ljava/util/function/BiFunction;"), (0, .methodref 1054 1060), (0, .nameAndType 501 1061), (0, u "(IILjava/util/function/BiFunction;)I"), (39, u "serialPersistentFields"), (0, u "[Ljava/io/ObjectStreamField;"), (0, .class_ 1104), (0, u "java/lang/String$CaseInsensitiveComparator"), (1, .class_ 1107), (0, u "java/io/Serializable"), (0, .class_ 1109), (0, u "java/lang/Comparable"), (0, .class_ 1111), (0, u "java/lang/constant/Constable"), (0, .class_ 1113), (0, u "java/lang/constant/ConstantDesc"), (2, u "serialVersionUID"), (0, u "J"), (3, u "REPL"), (0, u "C"), (2, u "LATIN1"), (1, u "UTF16")] 323

def k7m0 : Method := { name := "<init>", desc := "()V", sig := { parameters := [], returnType := none }, accessFlags := 1, code := none }
def k7c1 : Code := { maxStack := 5, maxLocals := 2, code := jdk_42_method_3_code, exceptionTable := #[], attributes := #[] }
def k7m1 : Method := { name := "<init>", desc := "([C)V", sig := { parameters := [(.array .char)], returnType := none }, accessFlags := 1, code := some k7c1 }
def k7c2 : Code := { maxStack := 2, maxLocals := 1, code := jdk_42_method_54_code, exceptionTable := #[], attributes := #[] }
def k7m2 : Method := { name := "length", desc := "()I", sig := { parameters := [], returnType := some .int }, accessFlags := 1, code := some k7c2 }
def k7c3 : Code := { maxStack := 2, maxLocals := 2, code := jdk_42_method_56_code, exceptionTable := #[], attributes := #[] }
def k7m3 : Method := { name := "charAt", desc := "(I)C", sig := { parameters := [.int], returnType := some .char }, accessFlags := 1, code := some k7c3 }
def k7c4 : Code := { maxStack := 4, maxLocals := 6, code := jdk_42_method_149_code, exceptionTable := #[], attributes := #[] }
def k7m4 : Method := { name := "<init>", desc := "([CIILjava/lang/Void;)V", sig := { parameters := [(.array .char), .int, .int, (.object "java/lang/Void")], returnType := none }, accessFlags := 2, code := some k7c4 }
def k7c5 : Code := { maxStack := 1, maxLocals := 1, code := jdk_42_method_152_code, exceptionTable := #[], attributes := #[] }
def k7m5 : Method := { name := "coder", desc := "()B", sig := { parameters := [], returnType := some .byte }, accessFlags := 0, code := some k7c5 }
def k7c6 : Code := { maxStack := 1, maxLocals := 1, code := jdk_42_method_154_code, exceptionTable := #[], attributes := #[] }
def k7m6 : Method := { name := "isLatin1", desc := "()Z", sig := { parameters := [], returnType := some .boolean }, accessFlags := 0, code := some k7c6 }
def k7c7 : Code := { maxStack := 3, maxLocals := 2, code := jdk_42_method_155_code, exceptionTable := #[], attributes := #[] }
def k7m7 : Method := { name := "checkIndex", desc := "(II)V", sig := { parameters := [.int, .int], returnType := none }, accessFlags := 8, code := some k7c7 }
/-- java/lang/String -/
def k7 : Class := { plain "java/lang/String" (some 0) with
  accessFlags := 49
  interfaces := #[2, 3, 4, 5, 6]
  cf := some (fileOf pool7 10 #[.nestMembers #[1103]] #[{ accessFlags := 1, nameIndex := 5, descriptorIndex := 6, attributes := #[] }, { accessFlags := 1, nameIndex := 5, descriptorIndex := 1010, attributes := #[] }, { accessFlags := 1, nameIndex := 507, descriptorIndex := 334, attributes := #[] }, { accessFlags := 1, nameIndex := 497, descriptorIndex := 427, attributes := #[] }, { accessFlags := 2, nameIndex := 5, descriptorIndex := 29, attributes := #[] }, { accessFlags := 0, nameIndex := 17, descriptorIndex := 337, attributes := #[] }, { accessFlags := 0, nameIndex := 494, descriptorIndex := 142, attributes := #[] }, { accessFlags := 8, nameIndex := 501, descriptorIndex := 391, attributes := #[] }] 49 2 #[1106, 1108, 575, 1110, 1112] #[{ accessFlags := 18, nameIndex := 13, descriptorIndex := 14, attributes := #[] }, { accessFlags := 18, nameIndex := 17, descriptorIndex := 18, attributes := #[] }, { accessFlags := 2, nameIndex := 21, descriptorIndex := 22, attributes := #[] }, { accessFlags := 2, nameIndex := 25, descriptorIndex := 26, attributes := #[] }, { accessFlags := 26, nameIndex := 1116, descriptorIndex := 1117, attributes := #[] }, { accessFlags := 24, nameIndex := 40, descriptorIndex := 26, attributes := #[] }, { accessFlags := 26, nameIndex := 1101, descriptorIndex := 1102, attributes := #[] }, { accessFlags := 26, nameIndex := 1121, descriptorIndex := 1122, attributes := #[] }, { accessFlags := 25, nameIndex := 599, descriptorIndex := 600, attributes := #[] }, { accessFlags := 24, nameIndex := 1125, descriptorIndex := 18, attributes := #[] }, { accessFlags := 24, nameIndex := 1127, descriptorIndex := 18, attributes := #[] }])
  fields := #[{ name := "value", type := (.array .byte), accessFlags := 18, slot := 0, constantValue := 0 }, { name := "coder", type := .byte, accessFlags := 18, slot := 1, constantValue := 0 }, { name := "hash", type := .int, accessFlags := 2, slot := 2, constantValue := 0 }, { name := "hashIsZero", type := .boolean, accessFlags := 2, slot := 3, constantValue := 0 }, { name := "serialVersionUID", type := .long, accessFlags := 26, slot := 0, constantValue := 0 }, { name := "COMPACT_STRINGS", type := .boolean, accessFlags := 24, slot := 1, constantValue := 0 }, { name := "serialPersistentFields", type := (.array (.object "java/io/ObjectStreamField")), accessFlags := 26, slot := 2, constantValue := 0 }, { name := "REPL", type := .char, accessFlags := 26, slot := 3, constantValue := 0 }, { name := "CASE_INSENSITIVE_ORDER", type := (.object "java/util/Comparator"), accessFlags := 25, slot := 4, constantValue := 0 }, { name := "LATIN1", type := .byte, accessFlags := 24, slot := 5, constantValue := 0 }, { name := "UTF16", type := .byte, accessFlags := 24, slot := 6, constantValue := 0 }]
  methods := #[k7m0, k7m1, k7m2, k7m3, k7m4, k7m5, k7m6, k7m7]
  instanceTypes := #[(.array .byte), .byte, .int, .boolean]
  staticTypes := #[.long, .boolean, (.array (.object "java/io/ObjectStreamField")), .char, (.object "java/util/Comparator"), .byte, .byte]
  resolved := Array.replicate 1451 none
  statics := some 0 }

def pool8 : Array CpInfo := pool [(2, .class_ 4), (1, u "java/lang/Object"), (0, u "<init>"), (0, u "()V"), (0, .methodref 8 9), (0, .class_ 10), (0, .nameAndType 11 12), (0, u "java/lang/String"), (0, u "length"), (0, u "()I"), (0, .methodref 8 14), (0, .nameAndType 15 16), (0, u "charAt"), (0, u "(I)C"), (0, .class_ 18), (0, u "org/polje/iso2709/Iso2709"), (0, u "RECORD_TERMINATOR"), (0, u "B"), (2, u "FIELD_TERMINATOR"), (1, u "SUBFIELD_DELIMITER"), (0, u "C"), (1, u "LEADER_LENGTH"), (0, u "I"), (1, u "ENTRY_LENGTH"), (1, u "MAX_RECORD_LENGTH"), (6, u "isPrintableAscii"), (1, u "(Ljava/lang/String;)Z")] 2

def k8m0 : Method := { name := "<init>", desc := "()V", sig := { parameters := [], returnType := none }, accessFlags := 2, code := none }
def k8c1 : Code := { maxStack := 2, maxLocals := 2, code := prog_46_method_4_code, exceptionTable := #[], attributes := #[] }
def k8m1 : Method := { name := "isPrintableAscii", desc := "(Ljava/lang/String;)Z", sig := { parameters := [(.object "java/lang/String")], returnType := some .boolean }, accessFlags := 8, code := some k8c1 }
/-- org/polje/iso2709/Iso2709 -/
def k8 : Class := { plain "org/polje/iso2709/Iso2709" (some 0) with
  accessFlags := 48
  interfaces := #[]
  cf := some (fileOf pool8 17 #[] #[{ accessFlags := 2, nameIndex := 5, descriptorIndex := 6, attributes := #[] }, { accessFlags := 8, nameIndex := 40, descriptorIndex := 42, attributes := #[] }] 48 2 #[] #[{ accessFlags := 24, nameIndex := 19, descriptorIndex := 20, attributes := #[] }, { accessFlags := 24, nameIndex := 23, descriptorIndex := 20, attributes := #[] }, { accessFlags := 24, nameIndex := 25, descriptorIndex := 26, attributes := #[] }, { accessFlags := 24, nameIndex := 28, descriptorIndex := 29, attributes := #[] }, { accessFlags := 24, nameIndex := 31, descriptorIndex := 29, attributes := #[] }, { accessFlags := 24, nameIndex := 33, descriptorIndex := 29, attributes := #[] }])
  fields := #[{ name := "RECORD_TERMINATOR", type := .byte, accessFlags := 24, slot := 0, constantValue := 0 }, { name := "FIELD_TERMINATOR", type := .byte, accessFlags := 24, slot := 1, constantValue := 0 }, { name := "SUBFIELD_DELIMITER", type := .char, accessFlags := 24, slot := 2, constantValue := 0 }, { name := "LEADER_LENGTH", type := .int, accessFlags := 24, slot := 3, constantValue := 0 }, { name := "ENTRY_LENGTH", type := .int, accessFlags := 24, slot := 4, constantValue := 0 }, { name := "MAX_RECORD_LENGTH", type := .int, accessFlags := 24, slot := 5, constantValue := 0 }]
  methods := #[k8m0, k8m1]
  instanceTypes := #[]
  staticTypes := #[.byte, .byte, .char, .int, .int, .int]
  resolved := Array.replicate 45 none
  statics := none }

def pool9 : Array CpInfo := pool [(3, .class_ 4), (0, u "java/lang/String"), (1, .class_ 8), (1, u "java/lang/Object"), (0, u "<init>"), (0, u "()V"), (0, .methodref 12 13), (0, .class_ 14), (0, .nameAndType 15 16), (0, u "java/lang/StringUTF16"), (0, u "newBytesLength"), (0, u "(I)I"), (3, .integer 1073741823), (23, .fieldref 12 45), (0, .nameAndType 46 47), (0, u "$assertionsDisabled"), (0, u "Z"), (0, .methodref 12 49), (0, .nameAndType 50 51), (0, u "length"), (0, u "([B)I"), (7, .fieldref 12 60), (0, .nameAndType 61 62), (0, u "HI_BYTE_SHIFT"), (0, u "I"), (0, .fieldref 12 64), (0, .nameAndType 65 62), (0, u "LO_BYTE_SHIFT"), (1, .methodref 12 68), (0, .nameAndType 69 70), (0, u "checkIndex"), (0, u "(I[B)V"), (0, .methodref 12 72), (0, .nameAndType 73 74), (0, u "getChar"), (0, u "([BI)C"), (32, .methodref 12 108), (0, .nameAndType 109 110), (0, u "newBytesFor"), (0, u "(I)[B"), (0, .methodref 12 112), (0, .nameAndType 113 114), (0, u "putChar"), (0, u "([BII)V"), (0, .methodref 12 116), (0, .nameAndType 117 118), (0, u "compress"), (0, u "([CI[BII)I"), (0, .methodref 12 120), (0, .nameAndType 121 122), (0, u "toBytes"), (0, u "([CII)[B"), (138, u "coderFromArrayLen"), (0, u "([BI)B"), (106, .class_ 371), (1, u "java/lang/StringUTF16$LinesSpliterator"), (20, u "charAt"), (21, .methodref 3 415), (0, .nameAndType 69 416), (0, u "(II)V"), (13, u "MAX_LENGTH"), (196, .class_ 628), (0, u "java/lang/StringUTF16$CodePointsSpliterator"), (0, .class_ 630), (0, u "java/lang/StringUTF16$CharsSpliterator")] 4

def k9m0 : Method := { name := "<init>", desc := "()V", sig := { parameters := [], returnType := none }, accessFlags := 0, code := none }
def k9c1 : Code := { maxStack := 1, maxLocals := 1, code := jdk_52_method_2_code, exceptionTable := #[], attributes := #[] }
def k9m1 : Method := { name := "newBytesFor", desc := "(I)[B", sig := { parameters := [.int], returnType := some (.array .byte) }, accessFlags := 9, code := some k9c1 }
def k9c2 : Code := { maxStack := 4, maxLocals := 1, code := jdk_52_method_3_code, exceptionTable := #[], attributes := #[] }
def k9m2 : Method := { name := "newBytesLength", desc := "(I)I", sig := { parameters := [.int], returnType := some .int }, accessFlags := 9, code := some k9c2 }
def k9c3 : Code := { maxStack := 4, maxLocals := 3, code := jdk_52_method_4_code, exceptionTable := #[], attributes := #[] }
def k9m3 : Method := { name := "putChar", desc := "([BII)V", sig := { parameters := [(.array .byte), .int, .int], returnType := none }, accessFlags := 8, code := some k9c3 }
def k9c4 : Code := { maxStack := 3, maxLocals := 2, code := jdk_52_method_5_code, exceptionTable := #[], attributes := #[] }
def k9m4 : Method := { name := "getChar", desc := "([BI)C", sig := { parameters := [(.array .byte), .int], returnType := some .char }, accessFlags := 8, code := some k9c4 }
def k9c5 : Code := { maxStack := 2, maxLocals := 1, code := jdk_52_method_6_code, exceptionTable := #[], attributes := #[] }
def k9m5 : Method := { name := "length", desc := "([B)I", sig := { parameters := [(.array .byte)], returnType := some .int }, accessFlags := 9, code := some k9c5 }
def k9c6 : Code := { maxStack := 4, maxLocals := 5, code := jdk_52_method_14_code, exceptionTable := #[], attributes := #[] }
def k9m6 : Method := { name := "toBytes", desc := "([CII)[B", sig := { parameters := [(.array .char), .int, .int], returnType := some (.array .byte) }, accessFlags := 9, code := some k9c6 }
def k9c7 : Code := { maxStack := 2, maxLocals := 2, code := jdk_52_method_15_code, exceptionTable := #[], attributes := #[] }
def k9m7 : Method := { name := "coderFromArrayLen", desc := "([BI)B", sig := { parameters := [(.array .byte), .int], returnType := some .byte }, accessFlags := 8, code := some k9c7 }
def k9c8 : Code := { maxStack := 5, maxLocals := 6, code := jdk_52_method_16_code, exceptionTable := #[], attributes := #[] }
def k9m8 : Method := { name := "compress", desc := "([CII)[B", sig := { parameters := [(.array .char), .int, .int], returnType := some (.array .byte) }, accessFlags := 9, code := some k9c8 }
def k9c9 : Code := { maxStack := 3, maxLocals := 7, code := jdk_52_method_21_code, exceptionTable := #[], attributes := #[] }
def k9m9 : Method := { name := "compress", desc := "([CI[BII)I", sig := { parameters := [(.array .char), .int, (.array .byte), .int, .int], returnType := some .int }, accessFlags := 9, code := some k9c9 }
def k9c10 : Code := { maxStack := 2, maxLocals := 2, code := jdk_52_method_83_code, exceptionTable := #[], attributes := #[] }
def k9m10 : Method := { name := "charAt", desc := "([BI)C", sig := { parameters := [(.array .byte), .int], returnType := some .char }, accessFlags := 9, code := some k9c10 }
def k9c11 : Code := { maxStack := 2, maxLocals := 2, code := jdk_52_method_91_code, exceptionTable := #[], attributes := #[] }
def k9m11 : Method := { name := "checkIndex", desc := "(I[B)V", sig := { parameters := [.int, (.array .byte)], returnType := none }, accessFlags := 9, code := some k9c11 }
/-- java/lang/StringUTF16 -/
def k9 : Class := { plain "java/lang/StringUTF16" (some 0) with
  accessFlags := 48
  interfaces := #[]
  cf := some (fileOf pool9 12 #[.nestMembers #[627, 629, 369]] #[{ accessFlags := 0, nameIndex := 9, descriptorIndex := 10, attributes := #[] }, { accessFlags := 9, nameIndex := 109, descriptorIndex := 110, attributes := #[] }, { accessFlags := 9, nameIndex := 15, descriptorIndex := 16, attributes := #[] }, { accessFlags := 8, nameIndex := 113, descriptorIndex := 114, attributes := #[] }, { accessFlags := 8, nameIndex := 73, descriptorIndex := 74, attributes := #[] }, { accessFlags := 9, nameIndex := 50, descriptorIndex := 51, attributes := #[] }, { accessFlags := 9, nameIndex := 121, descriptorIndex := 122, attributes := #[] }, { accessFlags := 8, nameIndex := 261, descriptorIndex := 262, attributes := #[] }, { accessFlags := 9, nameIndex := 117, descriptorIndex := 122, attributes := #[] }, { accessFlags := 9, nameIndex := 117, descriptorIndex := 118, attributes := #[] }, { accessFlags := 9, nameIndex := 392, descriptorIndex := 74, attributes := #[] }, { accessFlags := 9, nameIndex := 69, descriptorIndex := 70, attributes := #[] }] 48 6 #[] #[{ accessFlags := 26, nameIndex := 61, descriptorIndex := 62, attributes := #[] }, { accessFlags := 26, nameIndex := 65, descriptorIndex := 62, attributes := #[] }, { accessFlags := 24, nameIndex := 430, descriptorIndex := 62, attributes := #[] }, { accessFlags := 4120, nameIndex := 46, descriptorIndex := 47, attributes := #[] }])
  fields := #[{ name := "HI_BYTE_SHIFT", type := .int, accessFlags := 26, slot := 0, constantValue := 0 }, { name := "LO_BYTE_SHIFT", type := .int, accessFlags := 26, slot := 1, constantValue := 0 }, { name := "MAX_LENGTH", type := .int, accessFlags := 24, slot := 2, constantValue := 0 }, { name := "$assertionsDisabled", type := .boolean, accessFlags := 4120, slot := 3, constantValue := 0 }]
  methods := #[k9m0, k9m1, k9m2, k9m3, k9m4, k9m5, k9m6, k9m7, k9m8, k9m9, k9m10, k9m11]
  instanceTypes := #[]
  staticTypes := #[.int, .int, .int, .boolean]
  resolved := Array.replicate 635 none
  statics := some 1 }

def pool10 : Array CpInfo := pool [(1, .class_ 2), (0, u "java/lang/String"), (1, .class_ 6), (1, u "java/lang/Object"), (0, u "<init>"), (0, u "()V"), (0, .methodref 1 10), (0, .nameAndType 11 12), (0, u "checkIndex"), (0, u "(II)V"), (1, .class_ 16), (1, u "java/lang/StringLatin1"), (36, u "([BI)C"), (67, u "$assertionsDisabled"), (0, u "Z"), (98, .class_ 223), (1, u "java/lang/StringLatin1$LinesSpliterator"), (28, u "charAt"), (137, .class_ 391), (0, u "java/lang/StringLatin1$CharsSpliterator")] 3

def k10m0 : Method := { name := "<init>", desc := "()V", sig := { parameters := [], returnType := none }, accessFlags := 0, code := none }
def k10c1 : Code := { maxStack := 2, maxLocals := 2, code := jdk_43_method_2_code, exceptionTable := #[], attributes := #[] }
def k10m1 : Method := { name := "charAt", desc := "([BI)C", sig := { parameters := [(.array .byte), .int], returnType := some .char }, accessFlags := 9, code := some k10c1 }
/-- java/lang/StringLatin1 -/
def k10 : Class := { plain "java/lang/StringLatin1" (some 0) with
  accessFlags := 48
  interfaces := #[]
  cf := some (fileOf pool10 14 #[.nestMembers #[390, 221]] #[{ accessFlags := 0, nameIndex := 7, descriptorIndex := 8, attributes := #[] }, { accessFlags := 9, nameIndex := 252, descriptorIndex := 53, attributes := #[] }] 48 4 #[] #[{ accessFlags := 4120, nameIndex := 121, descriptorIndex := 122, attributes := #[] }])
  fields := #[{ name := "$assertionsDisabled", type := .boolean, accessFlags := 4120, slot := 0, constantValue := 0 }]
  methods := #[k10m0, k10m1]
  instanceTypes := #[]
  staticTypes := #[.boolean]
  resolved := Array.replicate 395 none
  statics := none }

def pool11 : Array CpInfo := pool [(2, .class_ 4), (1, u "java/lang/Object"), (0, u "<init>"), (0, u "()V"), (17, .class_ 26), (1, u "jdk/internal/util/Preconditions"), (6, u "checkIndex"), (21, .class_ 56), (0, u "jdk/internal/util/Preconditions$4"), (57, .class_ 115), (0, u "jdk/internal/util/Preconditions$1"), (7, u "SIOOBE_FORMATTER"), (0, u "Ljava/util/function/BiFunction;"), (0, .class_ 126), (0, u "jdk/internal/util/Preconditions$2"), (3, u "AIOOBE_FORMATTER"), (0, .class_ 132), (0, u "jdk/internal/util/Preconditions$3"), (3, u "IOOBE_FORMATTER"), (41, u "(IILjava/util/function/BiFunction;)I")] 15

def k11m0 : Method := { name := "<init>", desc := "()V", sig := { parameters := [], returnType := none }, accessFlags := 1, code := none }
def k11c1 : Code := { maxStack := 3, maxLocals := 3, code := jdk_41_method_11_code, exceptionTable := #[], attributes := #[] }
def k11m1 : Method := { name := "checkIndex", desc := "(IILjava/util/function/BiFunction;)I", sig := { parameters := [.int, .int, (.object "java/util/function/BiFunction")], returnType := some .int }, accessFlags := 9, code := some k11c1 }
/-- jdk/internal/util/Preconditions -/
def k11 : Class := { plain "jdk/internal/util/Preconditions" (some 0) with
  accessFlags := 33
  interfaces := #[]
  cf := some (fileOf pool11 24 #[.nestMembers #[55, 131, 125, 114]] #[{ accessFlags := 1, nameIndex := 5, descriptorIndex := 6, attributes := #[] }, { accessFlags := 9, nameIndex := 33, descriptorIndex := 178, attributes := #[] }] 33 2 #[] #[{ accessFlags := 25, nameIndex := 123, descriptorIndex := 124, attributes := #[] }, { accessFlags := 25, nameIndex := 130, descriptorIndex := 124, attributes := #[] }, { accessFlags := 25, nameIndex := 136, descriptorIndex := 124, attributes := #[] }])
  fields := #[{ name := "SIOOBE_FORMATTER", type := (.object "java/util/function/BiFunction"), accessFlags := 25, slot := 0, constantValue := 0 }, { name := "AIOOBE_FORMATTER", type := (.object "java/util/function/BiFunction"), accessFlags := 25, slot := 1, constantValue := 0 }, { name := "IOOBE_FORMATTER", type := (.object "java/util/function/BiFunction"), accessFlags := 25, slot := 2, constantValue := 0 }]
  methods := #[k11m0, k11m1]
  instanceTypes := #[]
  staticTypes := #[(.object "java/util/function/BiFunction"), (.object "java/util/function/BiFunction"), (.object "java/util/function/BiFunction")]
  resolved := Array.replicate 194 none
  statics := some 2 }

def pool12 : Array CpInfo := pool [(9, u "<init>"), (6, .class_ 18), (1, u "java/lang/Object"), (0, u "()V"), (1, .class_ 23), (1, u "jdk/internal/util/ArraysSupport"), (0, u "LOG2_ARRAY_LONG_INDEX_SCALE"), (0, u "I"), (2, u "U"), (0, u "Ljdk/internal/misc/Unsafe;"), (8, u "BIG_ENDIAN"), (0, u "Z"), (8, u "LOG2_BYTE_BIT_SIZE"), (4, u "LOG2_ARRAY_INT_INDEX_SCALE"), (54, u "JLA"), (0, u "Ljdk/internal/access/JavaLangAccess;"), (11, u "LOG2_ARRAY_BOOLEAN_INDEX_SCALE"), (9, u "LOG2_ARRAY_BYTE_INDEX_SCALE"), (5, u "LOG2_ARRAY_CHAR_INDEX_SCALE"), (5, u "LOG2_ARRAY_SHORT_INDEX_SCALE"), (18, u "LOG2_ARRAY_FLOAT_INDEX_SCALE"), (24, u "LOG2_ARRAY_DOUBLE_INDEX_SCALE"), (89, u "T_BOOLEAN"), (2, u "T_CHAR"), (1, u "T_FLOAT"), (1, u "T_DOUBLE"), (1, u "T_BYTE"), (1, u "T_SHORT"), (1, u "T_INT"), (1, u "T_LONG"), (1, u "SOFT_MAX_ARRAY_LENGTH")] 83

def k12m0 : Method := { name := "<init>", desc := "()V", sig := { parameters := [], returnType := none }, accessFlags := 2, code := none }
/-- jdk/internal/util/ArraysSupport -/
def k12 : Class := { plain "jdk/internal/util/ArraysSupport" (some 0) with
  accessFlags := 33
  interfaces := #[]
  cf := some (fileOf pool12 21 #[] #[{ accessFlags := 2, nameIndex := 9, descriptorIndex := 19, attributes := #[] }] 33 16 #[] #[{ accessFlags := 24, nameIndex := 28, descriptorIndex := 29, attributes := #[] }, { accessFlags := 26, nameIndex := 38, descriptorIndex := 39, attributes := #[] }, { accessFlags := 25, nameIndex := 121, descriptorIndex := 25, attributes := #[] }, { accessFlags := 25, nameIndex := 131, descriptorIndex := 25, attributes := #[] }, { accessFlags := 25, nameIndex := 137, descriptorIndex := 25, attributes := #[] }, { accessFlags := 25, nameIndex := 143, descriptorIndex := 25, attributes := #[] }, { accessFlags := 25, nameIndex := 53, descriptorIndex := 25, attributes := #[] }, { accessFlags := 25, nameIndex := 24, descriptorIndex := 25, attributes := #[] }, { accessFlags := 25, nameIndex := 162, descriptorIndex := 25, attributes := #[] }, { accessFlags := 25, nameIndex := 187, descriptorIndex := 25, attributes := #[] }, { accessFlags := 26, nameIndex := 48, descriptorIndex := 25, attributes := #[] }, { accessFlags := 25, nameIndex := 277, descriptorIndex := 25, attributes := #[] }, { accessFlags := 25, nameIndex := 280, descriptorIndex := 25, attributes := #[] }, { accessFlags := 25, nameIndex := 282, descriptorIndex := 25, attributes := #[] }, { accessFlags := 25, nameIndex := 284, descriptorIndex := 25, attributes := #[] }, { accessFlags := 25, nameIndex := 286, descriptorIndex := 25, attributes := #[] }, { accessFlags := 25, nameIndex := 288, descriptorIndex := 25, attributes := #[] }, { accessFlags := 25, nameIndex := 290, descriptorIndex := 25, attributes := #[] }, { accessFlags := 25, nameIndex := 292, descriptorIndex := 25, attributes := #[] }, { accessFlags := 26, nameIndex := 108, descriptorIndex := 109, attributes := #[] }, { accessFlags := 25, nameIndex := 294, descriptorIndex := 25, attributes := #[] }])
  fields := #[{ name := "U", type := (.object "jdk/internal/misc/Unsafe"), accessFlags := 24, slot := 0, constantValue := 0 }, { name := "BIG_ENDIAN", type := .boolean, accessFlags := 26, slot := 1, constantValue := 0 }, { name := "LOG2_ARRAY_BOOLEAN_INDEX_SCALE", type := .int, accessFlags := 25, slot := 2, constantValue := 0 }, { name := "LOG2_ARRAY_BYTE_INDEX_SCALE", type := .int, accessFlags := 25, slot := 3, constantValue := 0 }, { name := "LOG2_ARRAY_CHAR_INDEX_SCALE", type := .int, accessFlags := 25, slot := 4, constantValue := 0 }, { name := "LOG2_ARRAY_SHORT_INDEX_SCALE", type := .int, accessFlags := 25, slot := 5, constantValue := 0 }, { name := "LOG2_ARRAY_INT_INDEX_SCALE", type := .int, accessFlags := 25, slot := 6, constantValue := 0 }, { name := "LOG2_ARRAY_LONG_INDEX_SCALE", type := .int, accessFlags := 25, slot := 7, constantValue := 0 }, { name := "LOG2_ARRAY_FLOAT_INDEX_SCALE", type := .int, accessFlags := 25, slot := 8, constantValue := 0 }, { name := "LOG2_ARRAY_DOUBLE_INDEX_SCALE", type := .int, accessFlags := 25, slot := 9, constantValue := 0 }, { name := "LOG2_BYTE_BIT_SIZE", type := .int, accessFlags := 26, slot := 10, constantValue := 0 }, { name := "T_BOOLEAN", type := .int, accessFlags := 25, slot := 11, constantValue := 0 }, { name := "T_CHAR", type := .int, accessFlags := 25, slot := 12, constantValue := 0 }, { name := "T_FLOAT", type := .int, accessFlags := 25, slot := 13, constantValue := 0 }, { name := "T_DOUBLE", type := .int, accessFlags := 25, slot := 14, constantValue := 0 }, { name := "T_BYTE", type := .int, accessFlags := 25, slot := 15, constantValue := 0 }, { name := "T_SHORT", type := .int, accessFlags := 25, slot := 16, constantValue := 0 }, { name := "T_INT", type := .int, accessFlags := 25, slot := 17, constantValue := 0 }, { name := "T_LONG", type := .int, accessFlags := 25, slot := 18, constantValue := 0 }, { name := "JLA", type := (.object "jdk/internal/access/JavaLangAccess"), accessFlags := 26, slot := 19, constantValue := 0 }, { name := "SOFT_MAX_ARRAY_LENGTH", type := .int, accessFlags := 25, slot := 20, constantValue := 0 }]
  methods := #[k12m0]
  instanceTypes := #[]
  staticTypes := #[(.object "jdk/internal/misc/Unsafe"), .boolean, .int, .int, .int, .int, .int, .int, .int, .int, .int, .int, .int, .int, .int, .int, .int, .int, .int, (.object "jdk/internal/access/JavaLangAccess"), .int]
  resolved := Array.replicate 378 none
  statics := none }

def pool13 : Array CpInfo := pool [(1, u "java/lang/Cloneable"), (0, .class_ 1), (0, u "java/lang/Object"), (0, .class_ 3)] 3

/-- java/lang/Cloneable -/
def k13 : Class := { plain "java/lang/Cloneable" (some 0) with
  accessFlags := 1537
  interfaces := #[]
  cf := some (fileOf pool13 2 #[] #[] 1537 4 #[] #[])
  fields := #[]
  methods := #[]
  instanceTypes := #[]
  staticTypes := #[]
  resolved := Array.replicate 8 none
  statics := none }

/-- the primitive byte -/
def k14 : Class := { plain "byte" none with kind := .primitive 'B', accessFlags := 0x411 }
/-- [B -/
def k15 : Class := { plain "[B" (some 0) with kind := .array 14 .byte, interfaces := #[13, 2], accessFlags := 1041 }

/-- the primitive char -/
def k16 : Class := { plain "char" none with kind := .primitive 'C', accessFlags := 0x411 }
/-- [C -/
def k17 : Class := { plain "[C" (some 0) with kind := .array 16 .char, interfaces := #[13, 2], accessFlags := 1041 }

/-- the primitive int -/
def k18 : Class := { plain "int" none with kind := .primitive 'I', accessFlags := 0x411 }
/-- [I -/
def k19 : Class := { plain "[I" (some 0) with kind := .array 18 .int, interfaces := #[13, 2], accessFlags := 1041 }

def heap : Heap := #[{ cls := 7, slots := #[.long 0, .int 1, .null, .int 0, .null, .int 0, .int 0], vm := .statics 7 },
  { cls := 9, slots := #[.int 0, .int 8, .int 0, .int 1], vm := .statics 9 },
  { cls := 11, slots := #[.null, .null, .null], vm := .statics 11 }]
def classes : Array Class := #[k0, k1, k2, k3, k4, k5, k6, k7, k8, k9, k10, k11, k12, k13, k14, k15, k16, k17, k18, k19]
def interned : List (Array UInt16 × Addr) := []
def slotsUsed : Nat := 14
def theMethod : MethodId := ⟨1, 1⟩
def args0 : Array Value := #[.int 0, .int 1, .int 2, .int 3]
def aboutOver (below : List Frame) : State where
  vm := { classes := classes, interned := interned.toArray }
  heap := heap
  slotsUsed := slotsUsed
  threads := #[{ frames := .invoking theMethod args0 :: below }]
def below0 : List Frame := [.native { method := ⟨0, 0⟩, args := #[] }]
def about1 : State := aboutOver below0
def p0 : Program := .bare "" "" ""
def e0 : Env := launch0.env 0 0 0
theorem w_frames : about1.frames = Frame.invoking theMethod args0 :: below0 := rfl
set_option maxRecDepth 65536 in
theorem w_args : argsFit about1.vm theMethod args0 = true := by decide +kernel
set_option maxRecDepth 65536 in
theorem w_heap : heapFits about1 = true := by decide +kernel
set_option maxRecDepth 65536 in
theorem w_runnable : about1.curStatus? = some .runnable := by decide +kernel
set_option maxRecDepth 65536 in
theorem w_alone : about1.alone = true := by decide +kernel
set_option maxRecDepth 65536 in
theorem w_named : about1.methodNamed? x = some theMethod := by decide +kernel
set_option maxRecDepth 65536 in
theorem w_hears : about1.hears theMethod below0 = true := by decide +kernel
set_option maxRecDepth 65536 in
theorem w_ripe : about1.ripe theMethod args0 below0 = true := by decide +kernel
theorem w_running : about1.status = .running := rfl
set_option maxRecDepth 65536 in
theorem w_room : about1.hasRoom e0.platform room_1 = true :=
  launch0.hasRoom_least _ room_1 (by decide +kernel) (by decide +kernel) (by decide +kernel) (by decide +kernel) (by decide +kernel) (by decide +kernel)
theorem allAtoms_all (ts : List Jvm.Cond) (a : Array Jvm.Value) (st : Jvm.State) : (allAtoms ts).before a st = ts.all (fun c => c.before a st) := by
  induction ts with
  | nil => rfl
  | cons c t ih =>
    show (Jvm.Cond.and c (allAtoms t)).before a st = _
    rw [Jvm.Cond.before_and, ih, List.all_cons]
def words1 : List Jvm.Cond := Jvm.Cond.code x code maxLocals ret :: tables_1
/-- a 'code' word, met by the world's own term for the bytes: nothing is compared byte by byte -/
theorem code_word {y : MethodName} {bytes : ByteArray} {mx : Nat} {rt : Option FieldType} {a : Array Value} {s : State} {m : MethodId} {meth : Method} {c : Code} (h1 : s.methodNamed? y = some m) (h2 : s.vm.method? m = some meth) (h3 : meth.code = some c) (h4 : c.code = bytes)
    (h5 : (c.maxLocals == mx && c.exceptionTable.isEmpty && decide (c.maxStack ≤ mostOperands) && decide (meth.sig.returnType = rt) && !meth.locks && decide (parseMethodDescriptor y.desc = some meth.sig)) = true) : (Jvm.Cond.code y bytes mx rt).before a s = true := by
  simp only [Bool.and_eq_true, beq_iff_eq, Bool.not_eq_true', decide_eq_true_eq] at h5
  obtain ⟨⟨⟨⟨⟨g1, g2⟩, g3⟩, g4⟩, g5⟩, g6⟩ := h5
  simp [Cond.before, Cond.holds, Cond.value, h1, h2, h3, h4, g1, g2, g3, g4, g5, g6]
def isCode : Jvm.Cond → Bool
  | .code _ _ _ _ => true
  | _ => false
theorem all_split {L : List Jvm.Cond} {P : Jvm.Cond → Bool} (h1 : L.all (fun c => isCode c || P c) = true) (h2 : ∀ c ∈ L.filter isCode, P c = true) : L.all P = true := by
  refine List.all_eq_true.mpr fun c hc => ?_
  have h := List.all_eq_true.mp h1 c hc
  rcases Bool.eq_false_or_eq_true (isCode c) with hi | hi
  · exact h2 c (List.mem_filter.mpr ⟨hc, hi⟩)
  · simpa [hi] using h
set_option maxRecDepth 65536 in
theorem w_c0 : (Jvm.Cond.code x code maxLocals ret).before args0 about1 = true := code_word (m := ⟨1, 1⟩) (meth := k1m1) (c := k1c1) (by decide +kernel) rfl rfl rfl (by decide +kernel)
set_option maxRecDepth 65536 in
theorem w_c1 : (Jvm.Cond.code ({ cls := "org/polje/iso2709/Iso2709IsPrintableAscii275PinLaw", name := "draw", desc := "(I)C" } : Jvm.MethodName) method_3_code (1 : Nat) (Option.some Jvm.ClassFile.FieldType.char)).before args0 about1 = true := code_word (m := ⟨1, 2⟩) (meth := k1m2) (c := k1c2) (by decide +kernel) rfl rfl rfl (by decide +kernel)
set_option maxRecDepth 65536 in
theorem w_c2 : (Jvm.Cond.code ({ cls := "java/lang/String", name := "<init>", desc := "([C)V" } : Jvm.MethodName) jdk_42_method_3_code (2 : Nat) (Option.none : Option Jvm.ClassFile.FieldType)).before args0 about1 = true := code_word (m := ⟨7, 1⟩) (meth := k7m1) (c := k7c1) (by decide +kernel) rfl rfl rfl (by decide +kernel)
set_option maxRecDepth 65536 in
theorem w_c3 : (Jvm.Cond.code ({ cls := "java/lang/String", name := "<init>", desc := "([CIILjava/lang/Void;)V" } : Jvm.MethodName) jdk_42_method_149_code (6 : Nat) (Option.none : Option Jvm.ClassFile.FieldType)).before args0 about1 = true := code_word (m := ⟨7, 4⟩) (meth := k7m4) (c := k7c4) (by decide +kernel) rfl rfl rfl (by decide +kernel)
set_option maxRecDepth 65536 in
theorem w_c4 : (Jvm.Cond.code ({ cls := "java/lang/Object", name := "<init>", desc := "()V" } : Jvm.MethodName) object_method_1_code (1 : Nat) (Option.none : Option Jvm.ClassFile.FieldType)).before args0 about1 = true := code_word (m := ⟨0, 0⟩) (meth := k0m0) (c := k0c0) (by decide +kernel) rfl rfl rfl (by decide +kernel)
set_option maxRecDepth 65536 in
theorem w_c5 : (Jvm.Cond.code ({ cls := "org/polje/iso2709/Iso2709", name := "isPrintableAscii", desc := "(Ljava/lang/String;)Z" } : Jvm.MethodName) prog_46_method_4_code (2 : Nat) (Option.some Jvm.ClassFile.FieldType.boolean)).before args0 about1 = true := code_word (m := ⟨8, 1⟩) (meth := k8m1) (c := k8c1) (by decide +kernel) rfl rfl rfl (by decide +kernel)
set_option maxRecDepth 65536 in
theorem w_c6 : (Jvm.Cond.code ({ cls := "java/lang/String", name := "length", desc := "()I" } : Jvm.MethodName) jdk_42_method_54_code (1 : Nat) (Option.some Jvm.ClassFile.FieldType.int)).before args0 about1 = true := code_word (m := ⟨7, 2⟩) (meth := k7m2) (c := k7c2) (by decide +kernel) rfl rfl rfl (by decide +kernel)
set_option maxRecDepth 65536 in
theorem w_c7 : (Jvm.Cond.code ({ cls := "java/lang/String", name := "coder", desc := "()B" } : Jvm.MethodName) jdk_42_method_152_code (1 : Nat) (Option.some Jvm.ClassFile.FieldType.byte)).before args0 about1 = true := code_word (m := ⟨7, 5⟩) (meth := k7m5) (c := k7c5) (by decide +kernel) rfl rfl rfl (by decide +kernel)
set_option maxRecDepth 65536 in
theorem w_c8 : (Jvm.Cond.code ({ cls := "java/lang/StringUTF16", name := "compress", desc := "([CII)[B" } : Jvm.MethodName) jdk_52_method_16_code (6 : Nat) (Option.some (Jvm.ClassFile.FieldType.array Jvm.ClassFile.FieldType.byte))).before args0 about1 = true := code_word (m := ⟨9, 8⟩) (meth := k9m8) (c := k9c8) (by decide +kernel) rfl rfl rfl (by decide +kernel)
set_option maxRecDepth 65536 in
theorem w_c9 : (Jvm.Cond.code ({ cls := "java/lang/StringUTF16", name := "compress", desc := "([CI[BII)I" } : Jvm.MethodName) jdk_52_method_21_code (7 : Nat) (Option.some Jvm.ClassFile.FieldType.int)).before args0 about1 = true := code_word (m := ⟨9, 9⟩) (meth := k9m9) (c := k9c9) (by decide +kernel) rfl rfl rfl (by decide +kernel)
set_option maxRecDepth 65536 in
theorem w_c10 : (Jvm.Cond.code ({ cls := "java/lang/StringUTF16", name := "coderFromArrayLen", desc := "([BI)B" } : Jvm.MethodName) jdk_52_method_15_code (2 : Nat) (Option.some Jvm.ClassFile.FieldType.byte)).before args0 about1 = true := code_word (m := ⟨9, 7⟩) (meth := k9m7) (c := k9c7) (by decide +kernel) rfl rfl rfl (by decide +kernel)
set_option maxRecDepth 65536 in
theorem w_c11 : (Jvm.Cond.code ({ cls := "org/polje/iso2709/Iso2709IsPrintableAscii275PinLaw", name := "printable", desc := "(C)Z" } : Jvm.MethodName) method_4_code (2 : Nat) (Option.some Jvm.ClassFile.FieldType.boolean)).before args0 about1 = true := code_word (m := ⟨1, 3⟩) (meth := k1m3) (c := k1c3) (by decide +kernel) rfl rfl rfl (by decide +kernel)
set_option maxRecDepth 65536 in
theorem w_c12 : (Jvm.Cond.code ({ cls := "java/lang/String", name := "charAt", desc := "(I)C" } : Jvm.MethodName) jdk_42_method_56_code (2 : Nat) (Option.some Jvm.ClassFile.FieldType.char)).before args0 about1 = true := code_word (m := ⟨7, 3⟩) (meth := k7m3) (c := k7c3) (by decide +kernel) rfl rfl rfl (by decide +kernel)
set_option maxRecDepth 65536 in
theorem w_c13 : (Jvm.Cond.code ({ cls := "java/lang/String", name := "isLatin1", desc := "()Z" } : Jvm.MethodName) jdk_42_method_154_code (1 : Nat) (Option.some Jvm.ClassFile.FieldType.boolean)).before args0 about1 = true := code_word (m := ⟨7, 6⟩) (meth := k7m6) (c := k7c6) (by decide +kernel) rfl rfl rfl (by decide +kernel)
set_option maxRecDepth 65536 in
theorem w_c14 : (Jvm.Cond.code ({ cls := "java/lang/StringLatin1", name := "charAt", desc := "([BI)C" } : Jvm.MethodName) jdk_43_method_2_code (2 : Nat) (Option.some Jvm.ClassFile.FieldType.char)).before args0 about1 = true := code_word (m := ⟨10, 1⟩) (meth := k10m1) (c := k10c1) (by decide +kernel) rfl rfl rfl (by decide +kernel)
set_option maxRecDepth 65536 in
theorem w_c15 : (Jvm.Cond.code ({ cls := "java/lang/String", name := "checkIndex", desc := "(II)V" } : Jvm.MethodName) jdk_42_method_155_code (2 : Nat) (Option.none : Option Jvm.ClassFile.FieldType)).before args0 about1 = true := code_word (m := ⟨7, 7⟩) (meth := k7m7) (c := k7c7) (by decide +kernel) rfl rfl rfl (by decide +kernel)
set_option maxRecDepth 65536 in
theorem w_c16 : (Jvm.Cond.code ({ cls := "jdk/internal/util/Preconditions", name := "checkIndex", desc := "(IILjava/util/function/BiFunction;)I" } : Jvm.MethodName) jdk_41_method_11_code (3 : Nat) (Option.some Jvm.ClassFile.FieldType.int)).before args0 about1 = true := code_word (m := ⟨11, 1⟩) (meth := k11m1) (c := k11c1) (by decide +kernel) rfl rfl rfl (by decide +kernel)
set_option maxRecDepth 65536 in
theorem w_c17 : (Jvm.Cond.code ({ cls := "java/lang/StringUTF16", name := "toBytes", desc := "([CII)[B" } : Jvm.MethodName) jdk_52_method_14_code (5 : Nat) (Option.some (Jvm.ClassFile.FieldType.array Jvm.ClassFile.FieldType.byte))).before args0 about1 = true := code_word (m := ⟨9, 6⟩) (meth := k9m6) (c := k9c6) (by decide +kernel) rfl rfl rfl (by decide +kernel)
set_option maxRecDepth 65536 in
theorem w_c18 : (Jvm.Cond.code ({ cls := "java/lang/StringUTF16", name := "newBytesFor", desc := "(I)[B" } : Jvm.MethodName) jdk_52_method_2_code (1 : Nat) (Option.some (Jvm.ClassFile.FieldType.array Jvm.ClassFile.FieldType.byte))).before args0 about1 = true := code_word (m := ⟨9, 1⟩) (meth := k9m1) (c := k9c1) (by decide +kernel) rfl rfl rfl (by decide +kernel)
set_option maxRecDepth 65536 in
theorem w_c19 : (Jvm.Cond.code ({ cls := "java/lang/StringUTF16", name := "newBytesLength", desc := "(I)I" } : Jvm.MethodName) jdk_52_method_3_code (1 : Nat) (Option.some Jvm.ClassFile.FieldType.int)).before args0 about1 = true := code_word (m := ⟨9, 2⟩) (meth := k9m2) (c := k9c2) (by decide +kernel) rfl rfl rfl (by decide +kernel)
set_option maxRecDepth 65536 in
theorem w_c20 : (Jvm.Cond.code ({ cls := "java/lang/StringUTF16", name := "putChar", desc := "([BII)V" } : Jvm.MethodName) jdk_52_method_4_code (3 : Nat) (Option.none : Option Jvm.ClassFile.FieldType)).before args0 about1 = true := code_word (m := ⟨9, 3⟩) (meth := k9m3) (c := k9c3) (by decide +kernel) rfl rfl rfl (by decide +kernel)
set_option maxRecDepth 65536 in
theorem w_c21 : (Jvm.Cond.code ({ cls := "java/lang/StringUTF16", name := "getChar", desc := "([BI)C" } : Jvm.MethodName) jdk_52_method_5_code (2 : Nat) (Option.some Jvm.ClassFile.FieldType.char)).before args0 about1 = true := code_word (m := ⟨9, 4⟩) (meth := k9m4) (c := k9c4) (by decide +kernel) rfl rfl rfl (by decide +kernel)
set_option maxRecDepth 65536 in
theorem w_c22 : (Jvm.Cond.code ({ cls := "java/lang/StringUTF16", name := "charAt", desc := "([BI)C" } : Jvm.MethodName) jdk_52_method_83_code (2 : Nat) (Option.some Jvm.ClassFile.FieldType.char)).before args0 about1 = true := code_word (m := ⟨9, 10⟩) (meth := k9m10) (c := k9c10) (by decide +kernel) rfl rfl rfl (by decide +kernel)
set_option maxRecDepth 65536 in
theorem w_c23 : (Jvm.Cond.code ({ cls := "java/lang/StringUTF16", name := "checkIndex", desc := "(I[B)V" } : Jvm.MethodName) jdk_52_method_91_code (2 : Nat) (Option.none : Option Jvm.ClassFile.FieldType)).before args0 about1 = true := code_word (m := ⟨9, 11⟩) (meth := k9m11) (c := k9c11) (by decide +kernel) rfl rfl rfl (by decide +kernel)
set_option maxRecDepth 65536 in
theorem w_c24 : (Jvm.Cond.code ({ cls := "java/lang/StringUTF16", name := "length", desc := "([B)I" } : Jvm.MethodName) jdk_52_method_6_code (1 : Nat) (Option.some Jvm.ClassFile.FieldType.int)).before args0 about1 = true := code_word (m := ⟨9, 5⟩) (meth := k9m5) (c := k9c5) (by decide +kernel) rfl rfl rfl (by decide +kernel)
def codes1 : List Jvm.Cond := [Jvm.Cond.code x code maxLocals ret, Jvm.Cond.code ({ cls := "org/polje/iso2709/Iso2709IsPrintableAscii275PinLaw", name := "draw", desc := "(I)C" } : Jvm.MethodName) method_3_code (1 : Nat) (Option.some Jvm.ClassFile.FieldType.char), Jvm.Cond.code ({ cls := "java/lang/String", name := "<init>", desc := "([C)V" } : Jvm.MethodName) jdk_42_method_3_code (2 : Nat) (Option.none : Option Jvm.ClassFile.FieldType), Jvm.Cond.code ({ cls := "java/lang/String", name := "<init>", desc := "([CIILjava/lang/Void;)V" } : Jvm.MethodName) jdk_42_method_149_code (6 : Nat) (Option.none : Option Jvm.ClassFile.FieldType), Jvm.Cond.code ({ cls := "java/lang/Object", name := "<init>", desc := "()V" } : Jvm.MethodName) object_method_1_code (1 : Nat) (Option.none : Option Jvm.ClassFile.FieldType), Jvm.Cond.code ({ cls := "org/polje/iso2709/Iso2709", name := "isPrintableAscii", desc := "(Ljava/lang/String;)Z" } : Jvm.MethodName) prog_46_method_4_code (2 : Nat) (Option.some Jvm.ClassFile.FieldType.boolean), Jvm.Cond.code ({ cls := "java/lang/String", name := "length", desc := "()I" } : Jvm.MethodName) jdk_42_method_54_code (1 : Nat) (Option.some Jvm.ClassFile.FieldType.int), Jvm.Cond.code ({ cls := "java/lang/String", name := "coder", desc := "()B" } : Jvm.MethodName) jdk_42_method_152_code (1 : Nat) (Option.some Jvm.ClassFile.FieldType.byte), Jvm.Cond.code ({ cls := "java/lang/StringUTF16", name := "compress", desc := "([CII)[B" } : Jvm.MethodName) jdk_52_method_16_code (6 : Nat) (Option.some (Jvm.ClassFile.FieldType.array Jvm.ClassFile.FieldType.byte)), Jvm.Cond.code ({ cls := "java/lang/StringUTF16", name := "compress", desc := "([CI[BII)I" } : Jvm.MethodName) jdk_52_method_21_code (7 : Nat) (Option.some Jvm.ClassFile.FieldType.int), Jvm.Cond.code ({ cls := "java/lang/StringUTF16", name := "coderFromArrayLen", desc := "([BI)B" } : Jvm.MethodName) jdk_52_method_15_code (2 : Nat) (Option.some Jvm.ClassFile.FieldType.byte), Jvm.Cond.code ({ cls := "org/polje/iso2709/Iso2709IsPrintableAscii275PinLaw", name := "printable", desc := "(C)Z" } : Jvm.MethodName) method_4_code (2 : Nat) (Option.some Jvm.ClassFile.FieldType.boolean), Jvm.Cond.code ({ cls := "java/lang/String", name := "charAt", desc := "(I)C" } : Jvm.MethodName) jdk_42_method_56_code (2 : Nat) (Option.some Jvm.ClassFile.FieldType.char), Jvm.Cond.code ({ cls := "java/lang/String", name := "isLatin1", desc := "()Z" } : Jvm.MethodName) jdk_42_method_154_code (1 : Nat) (Option.some Jvm.ClassFile.FieldType.boolean), Jvm.Cond.code ({ cls := "java/lang/StringLatin1", name := "charAt", desc := "([BI)C" } : Jvm.MethodName) jdk_43_method_2_code (2 : Nat) (Option.some Jvm.ClassFile.FieldType.char), Jvm.Cond.code ({ cls := "java/lang/String", name := "checkIndex", desc := "(II)V" } : Jvm.MethodName) jdk_42_method_155_code (2 : Nat) (Option.none : Option Jvm.ClassFile.FieldType), Jvm.Cond.code ({ cls := "jdk/internal/util/Preconditions", name := "checkIndex", desc := "(IILjava/util/function/BiFunction;)I" } : Jvm.MethodName) jdk_41_method_11_code (3 : Nat) (Option.some Jvm.ClassFile.FieldType.int), Jvm.Cond.code ({ cls := "java/lang/StringUTF16", name := "toBytes", desc := "([CII)[B" } : Jvm.MethodName) jdk_52_method_14_code (5 : Nat) (Option.some (Jvm.ClassFile.FieldType.array Jvm.ClassFile.FieldType.byte)), Jvm.Cond.code ({ cls := "java/lang/StringUTF16", name := "newBytesFor", desc := "(I)[B" } : Jvm.MethodName) jdk_52_method_2_code (1 : Nat) (Option.some (Jvm.ClassFile.FieldType.array Jvm.ClassFile.FieldType.byte)), Jvm.Cond.code ({ cls := "java/lang/StringUTF16", name := "newBytesLength", desc := "(I)I" } : Jvm.MethodName) jdk_52_method_3_code (1 : Nat) (Option.some Jvm.ClassFile.FieldType.int), Jvm.Cond.code ({ cls := "java/lang/StringUTF16", name := "putChar", desc := "([BII)V" } : Jvm.MethodName) jdk_52_method_4_code (3 : Nat) (Option.none : Option Jvm.ClassFile.FieldType), Jvm.Cond.code ({ cls := "java/lang/StringUTF16", name := "getChar", desc := "([BI)C" } : Jvm.MethodName) jdk_52_method_5_code (2 : Nat) (Option.some Jvm.ClassFile.FieldType.char), Jvm.Cond.code ({ cls := "java/lang/StringUTF16", name := "charAt", desc := "([BI)C" } : Jvm.MethodName) jdk_52_method_83_code (2 : Nat) (Option.some Jvm.ClassFile.FieldType.char), Jvm.Cond.code ({ cls := "java/lang/StringUTF16", name := "checkIndex", desc := "(I[B)V" } : Jvm.MethodName) jdk_52_method_91_code (2 : Nat) (Option.none : Option Jvm.ClassFile.FieldType), Jvm.Cond.code ({ cls := "java/lang/StringUTF16", name := "length", desc := "([B)I" } : Jvm.MethodName) jdk_52_method_6_code (1 : Nat) (Option.some Jvm.ClassFile.FieldType.int)]
set_option maxRecDepth 65536 in
theorem codes_eq : words1.filter isCode = codes1 := rfl
theorem w_codes : ∀ c ∈ words1.filter isCode, c.before args0 about1 = true := by
  rw [codes_eq]
  intro c hc
  simp only [codes1, List.mem_cons, List.not_mem_nil, or_false] at hc
  rcases hc with rfl | rfl | rfl | rfl | rfl | rfl | rfl | rfl | rfl | rfl | rfl | rfl | rfl | rfl | rfl | rfl | rfl | rfl | rfl | rfl | rfl | rfl | rfl | rfl | rfl
  · exact w_c0
  · exact w_c1
  · exact w_c2
  · exact w_c3
  · exact w_c4
  · exact w_c5
  · exact w_c6
  · exact w_c7
  · exact w_c8
  · exact w_c9
  · exact w_c10
  · exact w_c11
  · exact w_c12
  · exact w_c13
  · exact w_c14
  · exact w_c15
  · exact w_c16
  · exact w_c17
  · exact w_c18
  · exact w_c19
  · exact w_c20
  · exact w_c21
  · exact w_c22
  · exact w_c23
  · exact w_c24
set_option maxRecDepth 65536 in
theorem w_t1 : (words1.take 24).all (fun c => isCode c || c.before args0 about1) = true := by decide +kernel
set_option maxRecDepth 65536 in
theorem w_t2 : ((words1.drop 24).take 24).all (fun c => isCode c || c.before args0 about1) = true := by decide +kernel
set_option maxRecDepth 65536 in
theorem w_t3 : (((words1.drop 24).drop 24).take 24).all (fun c => isCode c || c.before args0 about1) = true := by decide +kernel
set_option maxRecDepth 65536 in
theorem w_t4 : ((((words1.drop 24).drop 24).drop 24).take 24).all (fun c => isCode c || c.before args0 about1) = true := by decide +kernel
set_option maxRecDepth 65536 in
theorem w_t5 : ((((words1.drop 24).drop 24).drop 24).drop 24).all (fun c => isCode c || c.before args0 about1) = true := by decide +kernel
theorem w_tables : (allAtoms (Jvm.Cond.code x code maxLocals ret :: tables_1)).before args0 about1 = true := by
  rw [allAtoms_all]
  show words1.all (fun c => c.before args0 about1) = true
  refine all_split ?_ w_codes
  rw [← List.take_append_drop 24 words1, List.all_append, w_t1, ← List.take_append_drop 24 (words1.drop 24), List.all_append, w_t2, ← List.take_append_drop 24 ((words1.drop 24).drop 24), List.all_append, w_t3, ← List.take_append_drop 24 (((words1.drop 24).drop 24).drop 24), List.all_append, w_t4, w_t5]
  rfl
set_option maxRecDepth 65536 in
theorem w_rest : rest_1_c.before args0 about1 = true := by decide +kernel
set_option maxRecDepth 65536 in
theorem w_case : (Jvm.Cond.and given_1 narrow_1).before args0 about1 = true := by decide +kernel
set_option maxRecDepth 65536 in
theorem w_consts : constsHeld consts_1 about1 := Jvm.Lit.constsHeldB_iff.mp (by decide +kernel)
theorem w_applies : (headSpec (Jvm.Cond.code x code maxLocals ret :: tables_1) room_1).applies x e0.platform about1 = true :=
  (Spec.applies_iff w_frames).mpr ⟨w_running, w_runnable, w_alone, w_named, w_hears, w_ripe, w_room, w_tables⟩
theorem atStart : AtStart classFile x code maxLocals ret World_1 tables_1 room_1 Calls_1 rest_1 Pre_1 launch0 p0 e0 about1 theMethod args0 below0 :=
  ⟨lists_1, trivial, launch0.admits_env _ _ _, launch0.least_env, fairChoices_fair.cas, fairChoices_fair.clock, w_frames, w_args, w_heap, w_applies, ⟨w_consts, trivial⟩, w_rest, w_case⟩
end start1
theorem witness_1 : WitnessClaimed_1 := ⟨start1.p0, start1.e0, start1.about1, start1.theMethod, start1.args0, start1.below0, start1.atStart⟩
end Jvm.Pilot.@@N@@
