import JvmDerived
import JvmDerived.Pilot.@@N@@Statement
import JvmDerived.Pilot.@@N@@Code
set_option linter.unusedVariables false
set_option linter.unusedSimpArgs false
@@BLOCK:NumsL.lean.txt@@
namespace Jvm.Pilot.@@N@@
open Jvm Jvm.ClassFile Sem Op Lib Jvm.Free Jvm.Stand Jvm.LawKit Jvm.RoadKit Bundle Jvm.Pilot.@@N@@.Jvm.D
abbrev ym0 : MethodName := ⟨"com/example/upcaster/upcaster/io/BinaryEncoder", "<init>", "()V"⟩
abbrev ym1 : MethodName := ⟨"java/lang/Math", "min", "(II)I"⟩
abbrev ym2 : MethodName := ⟨"java/lang/Math", "max", "(JJ)J"⟩
abbrev ym3 : MethodName := ⟨"java/lang/Math", "min", "(JJ)J"⟩
abbrev ym4 : MethodName := ⟨"java/util/Arrays", "copyOf", "([BI)[B"⟩
abbrev ym5 : MethodName := ⟨"com/example/upcaster/upcaster/io/Buffers", "grown", "([BJ)[B"⟩
abbrev ym6 : MethodName := ⟨"com/example/upcaster/upcaster/io/BinaryEncoder", "toByteArray", "()[B"⟩
abbrev ym7 : MethodName := ⟨"com/example/upcaster/upcaster/io/BinaryEncoder", "room", "(I)V"⟩
abbrev ym8 : MethodName := ⟨"com/example/upcaster/upcaster/io/BinaryEncoder", "writeBoolean", "(Z)V"⟩
abbrev ym9 : MethodName := ⟨"com/example/upcaster/upcaster/io/BinaryEncoder", "writeFixed", "([B)V"⟩
abbrev ym10 : MethodName := ⟨"jdk/internal/util/Preconditions", "checkIndex", "(IILjava/util/function/BiFunction;)I"⟩
abbrev ym11 : MethodName := ⟨"java/util/Objects", "checkIndex", "(II)I"⟩
abbrev ym12 : MethodName := ⟨"com/example/upcaster/upcaster/io/BinaryEncoder", "truncate", "(I)V"⟩
abbrev ym13 : MethodName := ⟨"com/example/upcaster/upcaster/io/BinaryEncoder", "size", "()I"⟩
abbrev ym14 : MethodName := ⟨"com/example/upcaster/upcaster/io/BinaryEncoderToByteArrayPinLaw", "exp", "(IZ[B[B)B"⟩
def Goes (p : Program) (e : Env) (below : List Frame) (s : State) (Q : Option Value → Heap → List Loc → Prop) (kc ks : Nat) (A : State) : Prop :=
  ∃ s₂ o, Steps p.tables e below A s₂ ∧ s₂.status = .running ∧ Ended s₂ below o ∧ ∃ v L, o = .returned v ∧ Q v s₂.heap L ∧ FrameEnd s o s₂ L kc ks
abbrev jv (x : Int64) : Slot := .val (.long x)
def QL (w : Option Value) (n0 : Nat) (v : Option Value) (h : Heap) (L : List Loc) : Prop := v = w ∧ Fr n0 L
theorem own_selp {s : State} {args : Array Value} {y : MethodName} {n : Nat} (hins : (Cond.instantiable y.cls n).before args s = true) (hpriv : (Cond.privateMethod y).before args s = true) (hinst : (Cond.instanceMethod y).before args s = true) (hy : y.cls ≠ "java/lang/invoke/MethodHandle" ∧ y.cls ≠ "java/lang/invoke/VarHandle") : (Cond.selects y.cls y y).before args s = true := by
  obtain ⟨c, k, hc, hk, -, hniab, -, -⟩ := Cond.instantiable_spec hins
  exact selects_self_of_private hc hk (Bool.or_eq_false_iff.mp hniab).1 (Cond.privateMethod_at hpriv) hinst hy
def QP (w : Option Value) (h0 : Heap) (n0 : Nat) (v : Option Value) (h : Heap) (L : List Loc) : Prop := v = w ∧ Fr n0 L ∧ h = h0
section OwnGoes
variable {p : Program} {l : Launch} {e : Env} {R : Room} {s : State} {m : MethodId} {args : Array Value} {below : List Frame} {meth : Method} {c : Code} {T : State} {locs : List Loc} {cells slots kc ks : Nat} {Q : Option Value → Heap → List Loc → Prop}
theorem Goes.st {A B : State} (h : ∀ t, Steps p.tables e below B t → Steps p.tables e below A t) (g : Goes p e below s Q kc ks B) : Goes p e below s Q kc ks A := by
  obtain ⟨s₂, o, h1, r⟩ := g
  exact ⟨s₂, o, h _ h1, r⟩
theorem Goes.cast {g g' : JFrame} (q : g = g') (h : Goes p e below s Q kc ks (T.setTop g')) : Goes p e below s Q kc ks (T.setTop g) := q ▸ h
theorem Goes.retI (X : Stand p l e R s m args below meth c T locs cells slots) (hx : p.tables.exec = Jvm.exec) (hlk : meth.locks = false) (hret : meth.sig.returnType = some .int) {pc : Nat} {Ls : Array Slot} {z : Int32} {rest : List Value} (hd : decode c.code pc = .ok (.ireturn, 1)) (hQ : Q (some (.int z)) T.heap locs) (h1 : cells ≤ kc) (h2 : slots ≤ ks) : Goes p e below s Q kc ks (T.setTop (mkF m pc Ls (.int z :: rest))) := by
  obtain ⟨fs, hr, hrun, hended, hW, hsame⟩ := X.leave (v := some (.int z)) (fun h => by rw [hret] at h; cases h)
  exact ⟨_, _, retOut X hx hret rfl (Or.inl ⟨rfl, Or.inl rfl, _, rfl⟩) hd hr, hrun, hended, _, _, rfl, hQ, ⟨_, rfl⟩, hW, hsame.mono h1 h2⟩
theorem Goes.retJ (X : Stand p l e R s m args below meth c T locs cells slots) (hx : p.tables.exec = Jvm.exec) (hlk : meth.locks = false) (hret : meth.sig.returnType = some .long) {pc : Nat} {Ls : Array Slot} {z : Int64} {rest : List Value} (hd : decode c.code pc = .ok (.lreturn, 1)) (hQ : Q (some (.long z)) T.heap locs) (h1 : cells ≤ kc) (h2 : slots ≤ ks) : Goes p e below s Q kc ks (T.setTop (mkF m pc Ls (.long z :: rest))) := by
  obtain ⟨fs, hr, hrun, hended, hW, hsame⟩ := X.leave (v := some (.long z)) (fun h => by rw [hret] at h; cases h)
  exact ⟨_, _, retOut X hx hret rfl (Or.inr (Or.inl ⟨rfl, rfl, _, rfl⟩)) hd hr, hrun, hended, _, _, rfl, hQ, ⟨_, rfl⟩, hW, hsame.mono h1 h2⟩
theorem Goes.retR (X : Stand p l e R s m args below meth c T locs cells slots) (hx : p.tables.exec = Jvm.exec) (hlk : meth.locks = false) {t : FieldType} (hret : meth.sig.returnType = some t) {w : Value} (ht : t.isReference = true) (hw : w.isRef = true) {pc : Nat} {Ls : Array Slot} {rest : List Value} (hd : decode c.code pc = .ok (.areturn, 1)) (hQ : Q (some w) T.heap locs) (h1 : cells ≤ kc) (h2 : slots ≤ ks) : Goes p e below s Q kc ks (T.setTop (mkF m pc Ls (w :: rest))) := by
  obtain ⟨fs, hr, hrun, hended, hW, hsame⟩ := X.leave (v := some w) (fun h => by rw [hret] at h; cases h)
  have hn : narrow t w = w := by cases t <;> cases w <;> first | rfl | (simp [FieldType.isReference] at ht) | (simp [Value.isRef] at hw)
  exact ⟨_, _, retOut X hx hret hn (Or.inr (Or.inr (Or.inr (Or.inr ⟨rfl, ht, hw⟩)))) hd hr, hrun, hended, _, _, rfl, hQ, ⟨_, rfl⟩, hW, hsame.mono h1 h2⟩
theorem Goes.retB (X : Stand p l e R s m args below meth c T locs cells slots) (hx : p.tables.exec = Jvm.exec) (hlk : meth.locks = false) {t : FieldType} (hret : meth.sig.returnType = some t) (ht : t = .boolean ∨ t = .byte ∨ t = .char ∨ t = .short) {pc : Nat} {Ls : Array Slot} {z : Int32} {rest : List Value} (hd : decode c.code pc = .ok (.ireturn, 1)) (hz : nar t z = z) (hQ : Q (some (.int z)) T.heap locs) (h1 : cells ≤ kc) (h2 : slots ≤ ks) : Goes p e below s Q kc ks (T.setTop (mkF m pc Ls (.int z :: rest))) := by
  obtain ⟨fs, hr, hrun, hended, hW, hsame⟩ := X.leave (v := some (.int z)) (fun h => by rw [hret] at h; cases h)
  exact ⟨_, _, retN X hx hret ht hd (by rw [hz]; exact hr), hrun, hended, _, _, rfl, hQ, ⟨_, rfl⟩, hW, hsame.mono h1 h2⟩
theorem Goes.retV (X : Stand p l e R s m args below meth c T locs cells slots) (hx : p.tables.exec = Jvm.exec) (hlk : meth.locks = false) (hret : meth.sig.returnType = none) {pc : Nat} {Ls : Array Slot} (hd : decode c.code pc = .ok (.return_, 1)) (hQ : Q none T.heap locs) (h1 : cells ≤ kc) (h2 : slots ≤ ks) : Goes p e below s Q kc ks (T.setTop (mkF m pc Ls [])) := by
  obtain ⟨fs, hr, hrun, hended, hW, hsame⟩ := X.leave (v := none) (fun _ => rfl)
  exact ⟨_, _, X.returnOut hx hret hd hr, hrun, hended, _, _, rfl, hQ, ⟨_, rfl⟩, hW, hsame.mono h1 h2⟩
end OwnGoes
theorem tltL {x y : Int64} (h : x < y) : ifCond.holds .lt (lcmpW x y) = true ∧ ifCond.holds .ge (lcmpW x y) = false ∧ ifCond.holds .gt (lcmpW y x) = true ∧ ifCond.holds .le (lcmpW y x) = false :=
  ⟨(if0 _ _).trans (tlt ((lw_lt x y).mpr h)).1, (if0 _ _).trans (tlt ((lw_lt x y).mpr h)).2.1, (if0 _ _).trans (tlt ((lw_gt y x).mpr h)).2.2.1, (if0 _ _).trans (tlt ((lw_gt y x).mpr h)).2.2.2⟩
theorem fltL {x y : Int64} (h : ¬ x < y) : ifCond.holds .lt (lcmpW x y) = false ∧ ifCond.holds .ge (lcmpW x y) = true ∧ ifCond.holds .gt (lcmpW y x) = false ∧ ifCond.holds .le (lcmpW y x) = true :=
  ⟨(if0 _ _).trans (flt fun q => h ((lw_lt x y).mp q)).1, (if0 _ _).trans (flt fun q => h ((lw_lt x y).mp q)).2.1, (if0 _ _).trans (flt fun q => h ((lw_gt y x).mp q)).2.2.1, (if0 _ _).trans (flt fun q => h ((lw_gt y x).mp q)).2.2.2⟩
theorem teqL {x y : Int64} (h : x = y) : ifCond.holds .eq (lcmpW x y) = true ∧ ifCond.holds .ne (lcmpW x y) = false :=
  ⟨(if0 _ _).trans (teq ((lw_eq x y).mpr h)).1, (if0 _ _).trans (teq ((lw_eq x y).mpr h)).2⟩
theorem feqL {x y : Int64} (h : ¬ x = y) : ifCond.holds .eq (lcmpW x y) = false ∧ ifCond.holds .ne (lcmpW x y) = true :=
  ⟨(if0 _ _).trans (feq fun q => h ((lw_eq x y).mp q)).1, (if0 _ _).trans (feq fun q => h ((lw_eq x y).mp q)).2⟩
def own_look {α : Type} (i : Nat) : List (Nat × α) → Option α
  | [] => none
  | (j, v) :: r => if i = j then some v else own_look i r
theorem own_look_mem {α : Type} {i : Nat} {v : α} : ∀ {L : List (Nat × α)}, own_look i L = some v → (i, v) ∈ L
  | [], h => by cases h
  | (j, w) :: r, h => by
    unfold own_look at h
    by_cases q : i = j
    · rw [if_pos q] at h; cases h; subst q; exact List.mem_cons_self
    · rw [if_neg q] at h; exact List.mem_cons_of_mem _ (own_look_mem h)
def own_pstep (ci : List (Nat × Int32)) (cl : List (Nat × Int64)) (i : Instr) (n : Nat) (g : JFrame) : Option JFrame :=
  match i with
  | .iload_n k => if n = 1 then (match g.locals[k.val]? with | some (.val (.int v)) => some { g with pc := g.pc + 1, stack := .int v :: g.stack } | _ => none) else none
  | .iload k => if n = 2 then (match g.locals[k]? with | some (.val (.int v)) => some { g with pc := g.pc + 2, stack := .int v :: g.stack } | _ => none) else none
  | .lload_n k => if n = 1 then (match g.locals[k.val]? with | some (.val (.long v)) => some { g with pc := g.pc + 1, stack := .long v :: g.stack } | _ => none) else none
  | .lload k => if n = 2 then (match g.locals[k]? with | some (.val (.long v)) => some { g with pc := g.pc + 2, stack := .long v :: g.stack } | _ => none) else none
  | .aload_n k => if n = 1 then (match g.locals[k.val]? with | some (.val v) => if v.isRef = true then some { g with pc := g.pc + 1, stack := v :: g.stack } else none | _ => none) else none
  | .aload k => if n = 2 then (match g.locals[k]? with | some (.val v) => if v.isRef = true then some { g with pc := g.pc + 2, stack := v :: g.stack } else none | _ => none) else none
  | .istore_n k => if n = 1 then (match g.stack with | .int x :: rest => (match storeLocals g.locals k.val (.int x) with | some l' => some { g with pc := g.pc + 1, stack := rest, locals := l' } | none => none) | _ => none) else none
  | .istore k => if n = 2 then (match g.stack with | .int x :: rest => (match storeLocals g.locals k (.int x) with | some l' => some { g with pc := g.pc + 2, stack := rest, locals := l' } | none => none) | _ => none) else none
  | .lstore_n k => if n = 1 then (match g.stack with | .long x :: rest => (match storeLocals g.locals k.val (.long x) with | some l' => some { g with pc := g.pc + 1, stack := rest, locals := l' } | none => none) | _ => none) else none
  | .lstore k => if n = 2 then (match g.stack with | .long x :: rest => (match storeLocals g.locals k (.long x) with | some l' => some { g with pc := g.pc + 2, stack := rest, locals := l' } | none => none) | _ => none) else none
  | .astore_n k => if n = 1 then (match g.stack with | x :: rest => (if x.isRef = true then (match storeLocals g.locals k.val x with | some l' => some { g with pc := g.pc + 1, stack := rest, locals := l' } | none => none) else none) | _ => none) else none
  | .astore k => if n = 2 then (match g.stack with | x :: rest => (if x.isRef = true then (match storeLocals g.locals k x with | some l' => some { g with pc := g.pc + 2, stack := rest, locals := l' } | none => none) else none) | _ => none) else none
  | .iconst i => if n = 1 then (some { g with pc := g.pc + 1, stack := .int (Int32.ofInt i) :: g.stack }) else none
  | .bipush i => if n = 2 then (some { g with pc := g.pc + 2, stack := .int (Int8.ofInt i).toInt32 :: g.stack }) else none
  | .sipush i => if n = 3 then (some { g with pc := g.pc + 3, stack := .int (Int16.ofInt i).toInt32 :: g.stack }) else none
  | .lconst k => if n = 1 then (some { g with pc := g.pc + 1, stack := .long (Int64.ofNat k) :: g.stack }) else none
  | .aconst_null => if n = 1 then (some { g with pc := g.pc + 1, stack := .null :: g.stack }) else none
  | .iadd => if n = 1 then (match g.stack with | .int y :: .int x :: rest => some { g with pc := g.pc + 1, stack := .int (x + y) :: rest } | _ => none) else none
  | .ladd => if n = 1 then (match g.stack with | .long y :: .long x :: rest => some { g with pc := g.pc + 1, stack := .long (x + y) :: rest } | _ => none) else none
  | .isub => if n = 1 then (match g.stack with | .int y :: .int x :: rest => some { g with pc := g.pc + 1, stack := .int (x - y) :: rest } | _ => none) else none
  | .lsub => if n = 1 then (match g.stack with | .long y :: .long x :: rest => some { g with pc := g.pc + 1, stack := .long (x - y) :: rest } | _ => none) else none
  | .imul => if n = 1 then (match g.stack with | .int y :: .int x :: rest => some { g with pc := g.pc + 1, stack := .int (x * y) :: rest } | _ => none) else none
  | .lmul => if n = 1 then (match g.stack with | .long y :: .long x :: rest => some { g with pc := g.pc + 1, stack := .long (x * y) :: rest } | _ => none) else none
  | .iand => if n = 1 then (match g.stack with | .int y :: .int x :: rest => some { g with pc := g.pc + 1, stack := .int (x &&& y) :: rest } | _ => none) else none
  | .land => if n = 1 then (match g.stack with | .long y :: .long x :: rest => some { g with pc := g.pc + 1, stack := .long (x &&& y) :: rest } | _ => none) else none
  | .ior => if n = 1 then (match g.stack with | .int y :: .int x :: rest => some { g with pc := g.pc + 1, stack := .int (x ||| y) :: rest } | _ => none) else none
  | .lor => if n = 1 then (match g.stack with | .long y :: .long x :: rest => some { g with pc := g.pc + 1, stack := .long (x ||| y) :: rest } | _ => none) else none
  | .ixor => if n = 1 then (match g.stack with | .int y :: .int x :: rest => some { g with pc := g.pc + 1, stack := .int (x ^^^ y) :: rest } | _ => none) else none
  | .lxor => if n = 1 then (match g.stack with | .long y :: .long x :: rest => some { g with pc := g.pc + 1, stack := .long (x ^^^ y) :: rest } | _ => none) else none
  | .ishl => if n = 1 then (match g.stack with | .int y :: .int x :: rest => some { g with pc := g.pc + 1, stack := .int (x <<< (y &&& 31)) :: rest } | _ => none) else none
  | .ishr => if n = 1 then (match g.stack with | .int y :: .int x :: rest => some { g with pc := g.pc + 1, stack := .int (x >>> (y &&& 31)) :: rest } | _ => none) else none
  | .iushr => if n = 1 then (match g.stack with | .int y :: .int x :: rest => some { g with pc := g.pc + 1, stack := .int ((x.toUInt32 >>> (y &&& 31).toUInt32).toInt32) :: rest } | _ => none) else none
  | .lshl => if n = 1 then (match g.stack with | .int y :: .long x :: rest => some { g with pc := g.pc + 1, stack := .long (x <<< (y &&& 0x3f).toInt64) :: rest } | _ => none) else none
  | .lshr => if n = 1 then (match g.stack with | .int y :: .long x :: rest => some { g with pc := g.pc + 1, stack := .long (x >>> (y &&& 0x3f).toInt64) :: rest } | _ => none) else none
  | .lushr => if n = 1 then (match g.stack with | .int y :: .long x :: rest => some { g with pc := g.pc + 1, stack := .long ((x.toUInt64 >>> (y &&& 0x3f).toInt64.toUInt64).toInt64) :: rest } | _ => none) else none
  | .lcmp => if n = 1 then (match g.stack with | .long y :: .long x :: rest => some { g with pc := g.pc + 1, stack := .int (if x > y then 1 else if x = y then 0 else -1) :: rest } | _ => none) else none
  | .ineg => if n = 1 then (match g.stack with | .int v :: rest => some { g with pc := g.pc + 1, stack := .int (-v) :: rest } | _ => none) else none
  | .lneg => if n = 1 then (match g.stack with | .long v :: rest => some { g with pc := g.pc + 1, stack := .long (-v) :: rest } | _ => none) else none
  | .i2l => if n = 1 then (match g.stack with | .int v :: rest => some { g with pc := g.pc + 1, stack := .long (v.toInt64) :: rest } | _ => none) else none
  | .l2i => if n = 1 then (match g.stack with | .long v :: rest => some { g with pc := g.pc + 1, stack := .int (v.toInt32) :: rest } | _ => none) else none
  | .i2b => if n = 1 then (match g.stack with | .int v :: rest => some { g with pc := g.pc + 1, stack := .int (v.toInt8.toInt32) :: rest } | _ => none) else none
  | .i2c => if n = 1 then (match g.stack with | .int v :: rest => some { g with pc := g.pc + 1, stack := .int (v.toUInt32.toUInt16.toUInt32.toInt32) :: rest } | _ => none) else none
  | .i2s => if n = 1 then (match g.stack with | .int v :: rest => some { g with pc := g.pc + 1, stack := .int (v.toInt16.toInt32) :: rest } | _ => none) else none
  | .iinc k cst => if n = 3 then (match g.locals[k]? with | some (.val (.int x)) => (match storeLocals g.locals k (.int (x + Int32.ofInt cst)) with | some l' => some { g with pc := g.pc + 3, locals := l' } | none => none) | _ => none) else none
  | .dup => if n = 1 then (match g.stack with | x :: rest => (if x.category = 1 then some { g with pc := g.pc + 1, stack := x :: x :: rest } else none) | _ => none) else none
  | .pop => if n = 1 then (match g.stack with | x :: rest => (if x.category = 1 then some { g with pc := g.pc + 1, stack := rest } else none) | _ => none) else none
  | .goto o => if n = 3 then (if 0 ≤ (g.pc : Int) + o then some { g with pc := ((g.pc : Int) + o).toNat } else none) else none
  | .ldc i => if n = 2 then (match own_look i ci with | some v => some { g with pc := g.pc + 2, stack := .int v :: g.stack } | none => none) else none
  | .ldc_w i => if n = 3 then (match own_look i ci with | some v => some { g with pc := g.pc + 3, stack := .int v :: g.stack } | none => none) else none
  | .ldc2_w i => if n = 3 then (match own_look i cl with | some v => some { g with pc := g.pc + 3, stack := .long v :: g.stack } | none => none) else none
  | .idiv => if n = 1 then (match g.stack with | .int y :: .int x :: rest => (if y = 0 then none else some { g with pc := g.pc + 1, stack := .int (x / y) :: rest }) | _ => none) else none
  | .irem => if n = 1 then (match g.stack with | .int y :: .int x :: rest => (if y = 0 then none else some { g with pc := g.pc + 1, stack := .int (x - (x / y) * y) :: rest }) | _ => none) else none
  | .ldiv => if n = 1 then (match g.stack with | .long y :: .long x :: rest => (if y = 0 then none else some { g with pc := g.pc + 1, stack := .long (x / y) :: rest }) | _ => none) else none
  | .lrem => if n = 1 then (match g.stack with | .long y :: .long x :: rest => (if y = 0 then none else some { g with pc := g.pc + 1, stack := .long (x - (x / y) * y) :: rest }) | _ => none) else none
  | _ => none
section OwnRun
variable {p : Program} {l : Launch} {e : Env} {R : Room} {s : State} {m : MethodId} {args : Array Value} {below : List Frame} {meth : Method} {c : Code} {T target : State} {locs : List Loc} {cells slots kc ks : Nat} {own : String} {ci : List (Nat × Int32)} {cl : List (Nat × Int64)} {Q : Option Value → Heap → List Loc → Prop}
set_option maxHeartbeats 4000000 in
theorem own_pstep_ok (X : Stand p l e R s m args below meth c T locs cells slots) (hx : p.tables.exec = Jvm.exec) (hown : s.vm.findClass own = some m.cls) (hci : ∀ i v, (i, v) ∈ ci → (Cond.constant own i v).before args s = true) (hcl : ∀ i v, (i, v) ∈ cl → (Cond.constantLong own i v).before args s = true)
    {g g' : JFrame} (hg : g.method = m) {i : Instr} {n : Nat} (hd : decode c.code g.pc = .ok (i, n)) (hp : own_pstep ci cl i n g = some g') : (∀ target, Steps p.tables e below (T.setTop g') target → Steps p.tables e below (T.setTop g) target) ∧ g'.method = m := by
  cases i
  all_goals first
    | (exact absurd hp (by intro q; cases q))
    | skip
  case iload_n k =>
    by_cases hn : n = 1
    · subst hn
      replace hp : (match g.locals[k.val]? with | some (.val (.int v)) => some { g with pc := g.pc + 1, stack := .int v :: g.stack } | _ => none) = some g' := hp
      split at hp
      · skip
        cases hp
        exact ⟨fun _ hr => XS.iloadN X.here hx hg hd (by assumption) hr, hg⟩
      · cases hp
    · exact absurd hp (by intro q; rw [show own_pstep ci cl (.iload_n k) n g = none from if_neg hn] at q; cases q)
  case iload k =>
    by_cases hn : n = 2
    · subst hn
      replace hp : (match g.locals[k]? with | some (.val (.int v)) => some { g with pc := g.pc + 2, stack := .int v :: g.stack } | _ => none) = some g' := hp
      split at hp
      · skip
        cases hp
        exact ⟨fun _ hr => XS.iload X.here hx hg hd (by assumption) hr, hg⟩
      · cases hp
    · exact absurd hp (by intro q; rw [show own_pstep ci cl (.iload k) n g = none from if_neg hn] at q; cases q)
  case lload_n k =>
    by_cases hn : n = 1
    · subst hn
      replace hp : (match g.locals[k.val]? with | some (.val (.long v)) => some { g with pc := g.pc + 1, stack := .long v :: g.stack } | _ => none) = some g' := hp
      split at hp
      · skip
        cases hp
        exact ⟨fun _ hr => XS.lloadN X.here hx hg hd (by assumption) hr, hg⟩
      · cases hp
    · exact absurd hp (by intro q; rw [show own_pstep ci cl (.lload_n k) n g = none from if_neg hn] at q; cases q)
  case lload k =>
    by_cases hn : n = 2
    · subst hn
      replace hp : (match g.locals[k]? with | some (.val (.long v)) => some { g with pc := g.pc + 2, stack := .long v :: g.stack } | _ => none) = some g' := hp
      split at hp
      · skip
        cases hp
        exact ⟨fun _ hr => XS.lload X.here hx hg hd (by assumption) hr, hg⟩
      · cases hp
    · exact absurd hp (by intro q; rw [show own_pstep ci cl (.lload k) n g = none from if_neg hn] at q; cases q)
  case aload_n k =>
    by_cases hn : n = 1
    · subst hn
      replace hp : (match g.locals[k.val]? with | some (.val v) => if v.isRef = true then some { g with pc := g.pc + 1, stack := v :: g.stack } else none | _ => none) = some g' := hp
      split at hp
      · skip
        split at hp
        · skip
          cases hp
          exact ⟨fun _ hr => XS.aloadN X.here hx hg hd (by assumption) (by assumption) hr, hg⟩
        · cases hp
      · cases hp
    · exact absurd hp (by intro q; rw [show own_pstep ci cl (.aload_n k) n g = none from if_neg hn] at q; cases q)
  case aload k =>
    by_cases hn : n = 2
    · subst hn
      replace hp : (match g.locals[k]? with | some (.val v) => if v.isRef = true then some { g with pc := g.pc + 2, stack := v :: g.stack } else none | _ => none) = some g' := hp
      split at hp
      · skip
        split at hp
        · skip
          cases hp
          exact ⟨fun _ hr => XS.aload X.here hx hg hd (by assumption) (by assumption) hr, hg⟩
        · cases hp
      · cases hp
    · exact absurd hp (by intro q; rw [show own_pstep ci cl (.aload k) n g = none from if_neg hn] at q; cases q)
  case istore_n k =>
    by_cases hn : n = 1
    · subst hn
      replace hp : (match g.stack with | .int x :: rest => (match storeLocals g.locals k.val (.int x) with | some l' => some { g with pc := g.pc + 1, stack := rest, locals := l' } | none => none) | _ => none) = some g' := hp
      split at hp
      · skip
        split at hp
        · skip
          cases hp
          exact ⟨fun _ hr => XS.istoreN X.here hx hg hd (by assumption) (by assumption) hr, hg⟩
        · cases hp
      · cases hp
    · exact absurd hp (by intro q; rw [show own_pstep ci cl (.istore_n k) n g = none from if_neg hn] at q; cases q)
  case istore k =>
    by_cases hn : n = 2
    · subst hn
      replace hp : (match g.stack with | .int x :: rest => (match storeLocals g.locals k (.int x) with | some l' => some { g with pc := g.pc + 2, stack := rest, locals := l' } | none => none) | _ => none) = some g' := hp
      split at hp
      · skip
        split at hp
        · skip
          cases hp
          exact ⟨fun _ hr => XS.istore X.here hx hg hd (by assumption) (by assumption) hr, hg⟩
        · cases hp
      · cases hp
    · exact absurd hp (by intro q; rw [show own_pstep ci cl (.istore k) n g = none from if_neg hn] at q; cases q)
  case lstore_n k =>
    by_cases hn : n = 1
    · subst hn
      replace hp : (match g.stack with | .long x :: rest => (match storeLocals g.locals k.val (.long x) with | some l' => some { g with pc := g.pc + 1, stack := rest, locals := l' } | none => none) | _ => none) = some g' := hp
      split at hp
      · skip
        split at hp
        · skip
          cases hp
          exact ⟨fun _ hr => XS.lstoreN X.here hx hg hd (by assumption) (by assumption) hr, hg⟩
        · cases hp
      · cases hp
    · exact absurd hp (by intro q; rw [show own_pstep ci cl (.lstore_n k) n g = none from if_neg hn] at q; cases q)
  case lstore k =>
    by_cases hn : n = 2
    · subst hn
      replace hp : (match g.stack with | .long x :: rest => (match storeLocals g.locals k (.long x) with | some l' => some { g with pc := g.pc + 2, stack := rest, locals := l' } | none => none) | _ => none) = some g' := hp
      split at hp
      · skip
        split at hp
        · skip
          cases hp
          exact ⟨fun _ hr => XS.lstore X.here hx hg hd (by assumption) (by assumption) hr, hg⟩
        · cases hp
      · cases hp
    · exact absurd hp (by intro q; rw [show own_pstep ci cl (.lstore k) n g = none from if_neg hn] at q; cases q)
  case astore_n k =>
    by_cases hn : n = 1
    · subst hn
      replace hp : (match g.stack with | x :: rest => (if x.isRef = true then (match storeLocals g.locals k.val x with | some l' => some { g with pc := g.pc + 1, stack := rest, locals := l' } | none => none) else none) | _ => none) = some g' := hp
      split at hp
      · skip
        split at hp
        · skip
          split at hp
          · skip
            cases hp
            exact ⟨fun _ hr => XS.astoreN X.here hx hg hd (by assumption) (by assumption) (by assumption) hr, hg⟩
          · cases hp
        · cases hp
      · cases hp
    · exact absurd hp (by intro q; rw [show own_pstep ci cl (.astore_n k) n g = none from if_neg hn] at q; cases q)
  case astore k =>
    by_cases hn : n = 2
    · subst hn
      replace hp : (match g.stack with | x :: rest => (if x.isRef = true then (match storeLocals g.locals k x with | some l' => some { g with pc := g.pc + 2, stack := rest, locals := l' } | none => none) else none) | _ => none) = some g' := hp
      split at hp
      · skip
        split at hp
        · skip
          split at hp
          · skip
            cases hp
            exact ⟨fun _ hr => XS.astore X.here hx hg hd (by assumption) (by assumption) (by assumption) hr, hg⟩
          · cases hp
        · cases hp
      · cases hp
    · exact absurd hp (by intro q; rw [show own_pstep ci cl (.astore k) n g = none from if_neg hn] at q; cases q)
  case iconst i =>
    by_cases hn : n = 1
    · subst hn
      replace hp : (some { g with pc := g.pc + 1, stack := .int (Int32.ofInt i) :: g.stack }) = some g' := hp
      cases hp
      exact ⟨fun _ hr => XS.iconst X.here hx hg hd hr, hg⟩
    · exact absurd hp (by intro q; rw [show own_pstep ci cl (.iconst i) n g = none from if_neg hn] at q; cases q)
  case bipush i =>
    by_cases hn : n = 2
    · subst hn
      replace hp : (some { g with pc := g.pc + 2, stack := .int (Int8.ofInt i).toInt32 :: g.stack }) = some g' := hp
      cases hp
      exact ⟨fun _ hr => XS.bipush X.here hx hg hd hr, hg⟩
    · exact absurd hp (by intro q; rw [show own_pstep ci cl (.bipush i) n g = none from if_neg hn] at q; cases q)
  case sipush i =>
    by_cases hn : n = 3
    · subst hn
      replace hp : (some { g with pc := g.pc + 3, stack := .int (Int16.ofInt i).toInt32 :: g.stack }) = some g' := hp
      cases hp
      exact ⟨fun _ hr => XS.sipush X.here hx hg hd hr, hg⟩
    · exact absurd hp (by intro q; rw [show own_pstep ci cl (.sipush i) n g = none from if_neg hn] at q; cases q)
  case lconst k =>
    by_cases hn : n = 1
    · subst hn
      replace hp : (some { g with pc := g.pc + 1, stack := .long (Int64.ofNat k) :: g.stack }) = some g' := hp
      cases hp
      exact ⟨fun _ hr => XS.lconst X.here hx hg hd hr, hg⟩
    · exact absurd hp (by intro q; rw [show own_pstep ci cl (.lconst k) n g = none from if_neg hn] at q; cases q)
  case aconst_null =>
    by_cases hn : n = 1
    · subst hn
      replace hp : (some { g with pc := g.pc + 1, stack := .null :: g.stack }) = some g' := hp
      cases hp
      exact ⟨fun _ hr => XS.aconstNull X.here hx hg hd hr, hg⟩
    · exact absurd hp (by intro q; rw [show own_pstep ci cl (.aconst_null) n g = none from if_neg hn] at q; cases q)
  case iadd =>
    by_cases hn : n = 1
    · subst hn
      replace hp : (match g.stack with | .int y :: .int x :: rest => some { g with pc := g.pc + 1, stack := .int (x + y) :: rest } | _ => none) = some g' := hp
      split at hp
      · skip
        cases hp
        exact ⟨fun _ hr => XS.iadd X.here hx hg hd (by assumption) hr, hg⟩
      · cases hp
    · exact absurd hp (by intro q; rw [show own_pstep ci cl (.iadd) n g = none from if_neg hn] at q; cases q)
  case ladd =>
    by_cases hn : n = 1
    · subst hn
      replace hp : (match g.stack with | .long y :: .long x :: rest => some { g with pc := g.pc + 1, stack := .long (x + y) :: rest } | _ => none) = some g' := hp
      split at hp
      · skip
        cases hp
        exact ⟨fun _ hr => XS.ladd X.here hx hg hd (by assumption) hr, hg⟩
      · cases hp
    · exact absurd hp (by intro q; rw [show own_pstep ci cl (.ladd) n g = none from if_neg hn] at q; cases q)
  case isub =>
    by_cases hn : n = 1
    · subst hn
      replace hp : (match g.stack with | .int y :: .int x :: rest => some { g with pc := g.pc + 1, stack := .int (x - y) :: rest } | _ => none) = some g' := hp
      split at hp
      · skip
        cases hp
        exact ⟨fun _ hr => XS.isub X.here hx hg hd (by assumption) hr, hg⟩
      · cases hp
    · exact absurd hp (by intro q; rw [show own_pstep ci cl (.isub) n g = none from if_neg hn] at q; cases q)
  case lsub =>
    by_cases hn : n = 1
    · subst hn
      replace hp : (match g.stack with | .long y :: .long x :: rest => some { g with pc := g.pc + 1, stack := .long (x - y) :: rest } | _ => none) = some g' := hp
      split at hp
      · skip
        cases hp
        exact ⟨fun _ hr => XS.lsub X.here hx hg hd (by assumption) hr, hg⟩
      · cases hp
    · exact absurd hp (by intro q; rw [show own_pstep ci cl (.lsub) n g = none from if_neg hn] at q; cases q)
  case imul =>
    by_cases hn : n = 1
    · subst hn
      replace hp : (match g.stack with | .int y :: .int x :: rest => some { g with pc := g.pc + 1, stack := .int (x * y) :: rest } | _ => none) = some g' := hp
      split at hp
      · skip
        cases hp
        exact ⟨fun _ hr => XS.imul X.here hx hg hd (by assumption) hr, hg⟩
      · cases hp
    · exact absurd hp (by intro q; rw [show own_pstep ci cl (.imul) n g = none from if_neg hn] at q; cases q)
  case lmul =>
    by_cases hn : n = 1
    · subst hn
      replace hp : (match g.stack with | .long y :: .long x :: rest => some { g with pc := g.pc + 1, stack := .long (x * y) :: rest } | _ => none) = some g' := hp
      split at hp
      · skip
        cases hp
        exact ⟨fun _ hr => XS.lmul X.here hx hg hd (by assumption) hr, hg⟩
      · cases hp
    · exact absurd hp (by intro q; rw [show own_pstep ci cl (.lmul) n g = none from if_neg hn] at q; cases q)
  case iand =>
    by_cases hn : n = 1
    · subst hn
      replace hp : (match g.stack with | .int y :: .int x :: rest => some { g with pc := g.pc + 1, stack := .int (x &&& y) :: rest } | _ => none) = some g' := hp
      split at hp
      · skip
        cases hp
        exact ⟨fun _ hr => XS.iand X.here hx hg hd (by assumption) hr, hg⟩
      · cases hp
    · exact absurd hp (by intro q; rw [show own_pstep ci cl (.iand) n g = none from if_neg hn] at q; cases q)
  case land =>
    by_cases hn : n = 1
    · subst hn
      replace hp : (match g.stack with | .long y :: .long x :: rest => some { g with pc := g.pc + 1, stack := .long (x &&& y) :: rest } | _ => none) = some g' := hp
      split at hp
      · skip
        cases hp
        exact ⟨fun _ hr => XS.land X.here hx hg hd (by assumption) hr, hg⟩
      · cases hp
    · exact absurd hp (by intro q; rw [show own_pstep ci cl (.land) n g = none from if_neg hn] at q; cases q)
  case ior =>
    by_cases hn : n = 1
    · subst hn
      replace hp : (match g.stack with | .int y :: .int x :: rest => some { g with pc := g.pc + 1, stack := .int (x ||| y) :: rest } | _ => none) = some g' := hp
      split at hp
      · skip
        cases hp
        exact ⟨fun _ hr => XS.ior X.here hx hg hd (by assumption) hr, hg⟩
      · cases hp
    · exact absurd hp (by intro q; rw [show own_pstep ci cl (.ior) n g = none from if_neg hn] at q; cases q)
  case lor =>
    by_cases hn : n = 1
    · subst hn
      replace hp : (match g.stack with | .long y :: .long x :: rest => some { g with pc := g.pc + 1, stack := .long (x ||| y) :: rest } | _ => none) = some g' := hp
      split at hp
      · skip
        cases hp
        exact ⟨fun _ hr => XS.lor X.here hx hg hd (by assumption) hr, hg⟩
      · cases hp
    · exact absurd hp (by intro q; rw [show own_pstep ci cl (.lor) n g = none from if_neg hn] at q; cases q)
  case ixor =>
    by_cases hn : n = 1
    · subst hn
      replace hp : (match g.stack with | .int y :: .int x :: rest => some { g with pc := g.pc + 1, stack := .int (x ^^^ y) :: rest } | _ => none) = some g' := hp
      split at hp
      · skip
        cases hp
        exact ⟨fun _ hr => XS.ixor X.here hx hg hd (by assumption) hr, hg⟩
      · cases hp
    · exact absurd hp (by intro q; rw [show own_pstep ci cl (.ixor) n g = none from if_neg hn] at q; cases q)
  case lxor =>
    by_cases hn : n = 1
    · subst hn
      replace hp : (match g.stack with | .long y :: .long x :: rest => some { g with pc := g.pc + 1, stack := .long (x ^^^ y) :: rest } | _ => none) = some g' := hp
      split at hp
      · skip
        cases hp
        exact ⟨fun _ hr => XS.lxor X.here hx hg hd (by assumption) hr, hg⟩
      · cases hp
    · exact absurd hp (by intro q; rw [show own_pstep ci cl (.lxor) n g = none from if_neg hn] at q; cases q)
  case ishl =>
    by_cases hn : n = 1
    · subst hn
      replace hp : (match g.stack with | .int y :: .int x :: rest => some { g with pc := g.pc + 1, stack := .int (x <<< (y &&& 31)) :: rest } | _ => none) = some g' := hp
      split at hp
      · skip
        cases hp
        exact ⟨fun _ hr => XS.ishl X.here hx hg hd (by assumption) hr, hg⟩
      · cases hp
    · exact absurd hp (by intro q; rw [show own_pstep ci cl (.ishl) n g = none from if_neg hn] at q; cases q)
  case ishr =>
    by_cases hn : n = 1
    · subst hn
      replace hp : (match g.stack with | .int y :: .int x :: rest => some { g with pc := g.pc + 1, stack := .int (x >>> (y &&& 31)) :: rest } | _ => none) = some g' := hp
      split at hp
      · skip
        cases hp
        exact ⟨fun _ hr => XS.ishr X.here hx hg hd (by assumption) hr, hg⟩
      · cases hp
    · exact absurd hp (by intro q; rw [show own_pstep ci cl (.ishr) n g = none from if_neg hn] at q; cases q)
  case iushr =>
    by_cases hn : n = 1
    · subst hn
      replace hp : (match g.stack with | .int y :: .int x :: rest => some { g with pc := g.pc + 1, stack := .int ((x.toUInt32 >>> (y &&& 31).toUInt32).toInt32) :: rest } | _ => none) = some g' := hp
      split at hp
      · skip
        cases hp
        exact ⟨fun _ hr => XS.iushr X.here hx hg hd (by assumption) hr, hg⟩
      · cases hp
    · exact absurd hp (by intro q; rw [show own_pstep ci cl (.iushr) n g = none from if_neg hn] at q; cases q)
  case lshl =>
    by_cases hn : n = 1
    · subst hn
      replace hp : (match g.stack with | .int y :: .long x :: rest => some { g with pc := g.pc + 1, stack := .long (x <<< (y &&& 0x3f).toInt64) :: rest } | _ => none) = some g' := hp
      split at hp
      · skip
        cases hp
        exact ⟨fun _ hr => XS.lshl X.here hx hg hd (by assumption) hr, hg⟩
      · cases hp
    · exact absurd hp (by intro q; rw [show own_pstep ci cl (.lshl) n g = none from if_neg hn] at q; cases q)
  case lshr =>
    by_cases hn : n = 1
    · subst hn
      replace hp : (match g.stack with | .int y :: .long x :: rest => some { g with pc := g.pc + 1, stack := .long (x >>> (y &&& 0x3f).toInt64) :: rest } | _ => none) = some g' := hp
      split at hp
      · skip
        cases hp
        exact ⟨fun _ hr => XS.lshr X.here hx hg hd (by assumption) hr, hg⟩
      · cases hp
    · exact absurd hp (by intro q; rw [show own_pstep ci cl (.lshr) n g = none from if_neg hn] at q; cases q)
  case lushr =>
    by_cases hn : n = 1
    · subst hn
      replace hp : (match g.stack with | .int y :: .long x :: rest => some { g with pc := g.pc + 1, stack := .long ((x.toUInt64 >>> (y &&& 0x3f).toInt64.toUInt64).toInt64) :: rest } | _ => none) = some g' := hp
      split at hp
      · skip
        cases hp
        exact ⟨fun _ hr => XS.lushr X.here hx hg hd (by assumption) hr, hg⟩
      · cases hp
    · exact absurd hp (by intro q; rw [show own_pstep ci cl (.lushr) n g = none from if_neg hn] at q; cases q)
  case lcmp =>
    by_cases hn : n = 1
    · subst hn
      replace hp : (match g.stack with | .long y :: .long x :: rest => some { g with pc := g.pc + 1, stack := .int (if x > y then 1 else if x = y then 0 else -1) :: rest } | _ => none) = some g' := hp
      split at hp
      · skip
        cases hp
        exact ⟨fun _ hr => XS.lcmp X.here hx hg hd (by assumption) hr, hg⟩
      · cases hp
    · exact absurd hp (by intro q; rw [show own_pstep ci cl (.lcmp) n g = none from if_neg hn] at q; cases q)
  case ineg =>
    by_cases hn : n = 1
    · subst hn
      replace hp : (match g.stack with | .int v :: rest => some { g with pc := g.pc + 1, stack := .int (-v) :: rest } | _ => none) = some g' := hp
      split at hp
      · skip
        cases hp
        exact ⟨fun _ hr => XS.ineg X.here hx hg hd (by assumption) hr, hg⟩
      · cases hp
    · exact absurd hp (by intro q; rw [show own_pstep ci cl (.ineg) n g = none from if_neg hn] at q; cases q)
  case lneg =>
    by_cases hn : n = 1
    · subst hn
      replace hp : (match g.stack with | .long v :: rest => some { g with pc := g.pc + 1, stack := .long (-v) :: rest } | _ => none) = some g' := hp
      split at hp
      · skip
        cases hp
        exact ⟨fun _ hr => XS.lneg X.here hx hg hd (by assumption) hr, hg⟩
      · cases hp
    · exact absurd hp (by intro q; rw [show own_pstep ci cl (.lneg) n g = none from if_neg hn] at q; cases q)
  case i2l =>
    by_cases hn : n = 1
    · subst hn
      replace hp : (match g.stack with | .int v :: rest => some { g with pc := g.pc + 1, stack := .long (v.toInt64) :: rest } | _ => none) = some g' := hp
      split at hp
      · skip
        cases hp
        exact ⟨fun _ hr => XS.i2l X.here hx hg hd (by assumption) hr, hg⟩
      · cases hp
    · exact absurd hp (by intro q; rw [show own_pstep ci cl (.i2l) n g = none from if_neg hn] at q; cases q)
  case l2i =>
    by_cases hn : n = 1
    · subst hn
      replace hp : (match g.stack with | .long v :: rest => some { g with pc := g.pc + 1, stack := .int (v.toInt32) :: rest } | _ => none) = some g' := hp
      split at hp
      · skip
        cases hp
        exact ⟨fun _ hr => XS.l2i X.here hx hg hd (by assumption) hr, hg⟩
      · cases hp
    · exact absurd hp (by intro q; rw [show own_pstep ci cl (.l2i) n g = none from if_neg hn] at q; cases q)
  case i2b =>
    by_cases hn : n = 1
    · subst hn
      replace hp : (match g.stack with | .int v :: rest => some { g with pc := g.pc + 1, stack := .int (v.toInt8.toInt32) :: rest } | _ => none) = some g' := hp
      split at hp
      · skip
        cases hp
        exact ⟨fun _ hr => XS.i2b X.here hx hg hd (by assumption) hr, hg⟩
      · cases hp
    · exact absurd hp (by intro q; rw [show own_pstep ci cl (.i2b) n g = none from if_neg hn] at q; cases q)
  case i2c =>
    by_cases hn : n = 1
    · subst hn
      replace hp : (match g.stack with | .int v :: rest => some { g with pc := g.pc + 1, stack := .int (v.toUInt32.toUInt16.toUInt32.toInt32) :: rest } | _ => none) = some g' := hp
      split at hp
      · skip
        cases hp
        exact ⟨fun _ hr => XS.i2c X.here hx hg hd (by assumption) hr, hg⟩
      · cases hp
    · exact absurd hp (by intro q; rw [show own_pstep ci cl (.i2c) n g = none from if_neg hn] at q; cases q)
  case i2s =>
    by_cases hn : n = 1
    · subst hn
      replace hp : (match g.stack with | .int v :: rest => some { g with pc := g.pc + 1, stack := .int (v.toInt16.toInt32) :: rest } | _ => none) = some g' := hp
      split at hp
      · skip
        cases hp
        exact ⟨fun _ hr => XS.i2s X.here hx hg hd (by assumption) hr, hg⟩
      · cases hp
    · exact absurd hp (by intro q; rw [show own_pstep ci cl (.i2s) n g = none from if_neg hn] at q; cases q)
  case iinc k cst =>
    by_cases hn : n = 3
    · subst hn
      replace hp : (match g.locals[k]? with | some (.val (.int x)) => (match storeLocals g.locals k (.int (x + Int32.ofInt cst)) with | some l' => some { g with pc := g.pc + 3, locals := l' } | none => none) | _ => none) = some g' := hp
      split at hp
      · skip
        split at hp
        · skip
          cases hp
          exact ⟨fun _ hr => XS.iinc X.here hx hg hd (by assumption) (by assumption) hr, hg⟩
        · cases hp
      · cases hp
    · exact absurd hp (by intro q; rw [show own_pstep ci cl (.iinc k cst) n g = none from if_neg hn] at q; cases q)
  case dup =>
    by_cases hn : n = 1
    · subst hn
      replace hp : (match g.stack with | x :: rest => (if x.category = 1 then some { g with pc := g.pc + 1, stack := x :: x :: rest } else none) | _ => none) = some g' := hp
      split at hp
      · skip
        split at hp
        · skip
          cases hp
          exact ⟨fun _ hr => XS.dup X.here hx hg hd (by assumption) (by assumption) hr, hg⟩
        · cases hp
      · cases hp
    · exact absurd hp (by intro q; rw [show own_pstep ci cl (.dup) n g = none from if_neg hn] at q; cases q)
  case pop =>
    by_cases hn : n = 1
    · subst hn
      replace hp : (match g.stack with | x :: rest => (if x.category = 1 then some { g with pc := g.pc + 1, stack := rest } else none) | _ => none) = some g' := hp
      split at hp
      · skip
        split at hp
        · skip
          cases hp
          exact ⟨fun _ hr => XS.pop X.here hx hg hd (by assumption) (by assumption) hr, hg⟩
        · cases hp
      · cases hp
    · exact absurd hp (by intro q; rw [show own_pstep ci cl (.pop) n g = none from if_neg hn] at q; cases q)
  case goto o =>
    by_cases hn : n = 3
    · subst hn
      replace hp : (if 0 ≤ (g.pc : Int) + o then some { g with pc := ((g.pc : Int) + o).toNat } else none) = some g' := hp
      split at hp
      · skip
        cases hp
        exact ⟨fun _ hr => XS.goto X.here hx hg rfl hd (by assumption) rfl hr, hg⟩
      · cases hp
    · exact absurd hp (by intro q; rw [show own_pstep ci cl (.goto o) n g = none from if_neg hn] at q; cases q)
  case ldc i =>
    by_cases hn : n = 2
    · subst hn
      replace hp : (match own_look i ci with | some v => some { g with pc := g.pc + 2, stack := .int v :: g.stack } | none => none) = some g' := hp
      split at hp
      · skip
        cases hp
        exact ⟨fun _ hr => X.ldcInt hx hown (hci _ _ (own_look_mem (by assumption))) hg hd _ hr, hg⟩
      · cases hp
    · exact absurd hp (by intro q; rw [show own_pstep ci cl (.ldc i) n g = none from if_neg hn] at q; cases q)
  case ldc_w i =>
    by_cases hn : n = 3
    · subst hn
      replace hp : (match own_look i ci with | some v => some { g with pc := g.pc + 3, stack := .int v :: g.stack } | none => none) = some g' := hp
      split at hp
      · skip
        cases hp
        exact ⟨fun _ hr => X.ldcwInt hx hown (hci _ _ (own_look_mem (by assumption))) hg hd _ hr, hg⟩
      · cases hp
    · exact absurd hp (by intro q; rw [show own_pstep ci cl (.ldc_w i) n g = none from if_neg hn] at q; cases q)
  case ldc2_w i =>
    by_cases hn : n = 3
    · subst hn
      replace hp : (match own_look i cl with | some v => some { g with pc := g.pc + 3, stack := .long v :: g.stack } | none => none) = some g' := hp
      split at hp
      · skip
        cases hp
        exact ⟨fun _ hr => X.ldc2Long hx hown (hcl _ _ (own_look_mem (by assumption))) hg hd _ hr, hg⟩
      · cases hp
    · exact absurd hp (by intro q; rw [show own_pstep ci cl (.ldc2_w i) n g = none from if_neg hn] at q; cases q)
  case idiv =>
    by_cases hn : n = 1
    · subst hn
      replace hp : (match g.stack with | .int y :: .int x :: rest => (if y = 0 then none else some { g with pc := g.pc + 1, stack := .int (x / y) :: rest }) | _ => none) = some g' := hp
      split at hp
      · skip
        split at hp
        · cases hp
        · cases hp; exact ⟨fun _ hr => XS.idiv X.here hx hg hd (by assumption) (by assumption) hr, hg⟩
      · cases hp
    · exact absurd hp (by intro q; rw [show own_pstep ci cl (.idiv) n g = none from if_neg hn] at q; cases q)
  case irem =>
    by_cases hn : n = 1
    · subst hn
      replace hp : (match g.stack with | .int y :: .int x :: rest => (if y = 0 then none else some { g with pc := g.pc + 1, stack := .int (x - (x / y) * y) :: rest }) | _ => none) = some g' := hp
      split at hp
      · skip
        split at hp
        · cases hp
        · cases hp; exact ⟨fun _ hr => XS.irem X.here hx hg hd (by assumption) (by assumption) hr, hg⟩
      · cases hp
    · exact absurd hp (by intro q; rw [show own_pstep ci cl (.irem) n g = none from if_neg hn] at q; cases q)
  case ldiv =>
    by_cases hn : n = 1
    · subst hn
      replace hp : (match g.stack with | .long y :: .long x :: rest => (if y = 0 then none else some { g with pc := g.pc + 1, stack := .long (x / y) :: rest }) | _ => none) = some g' := hp
      split at hp
      · skip
        split at hp
        · cases hp
        · cases hp; exact ⟨fun _ hr => XS.ldiv X.here hx hg hd (by assumption) (by assumption) hr, hg⟩
      · cases hp
    · exact absurd hp (by intro q; rw [show own_pstep ci cl (.ldiv) n g = none from if_neg hn] at q; cases q)
  case lrem =>
    by_cases hn : n = 1
    · subst hn
      replace hp : (match g.stack with | .long y :: .long x :: rest => (if y = 0 then none else some { g with pc := g.pc + 1, stack := .long (x - (x / y) * y) :: rest }) | _ => none) = some g' := hp
      split at hp
      · skip
        split at hp
        · cases hp
        · cases hp; exact ⟨fun _ hr => XS.lrem X.here hx hg hd (by assumption) (by assumption) hr, hg⟩
      · cases hp
    · exact absurd hp (by intro q; rw [show own_pstep ci cl (.lrem) n g = none from if_neg hn] at q; cases q)
def own_decs (code : ByteArray) (L : List (Nat × Instr × Nat)) : Bool := L.all fun q => decide (decode code q.1 = .ok (q.2.1, q.2.2))
def own_prun (ci : List (Nat × Int32)) (cl : List (Nat × Int64)) : List (Nat × Instr × Nat) → JFrame → Option JFrame
  | [], g => some g
  | (pc, i, n) :: r, g => if g.pc = pc then (match own_pstep ci cl i n g with | some g' => own_prun ci cl r g' | none => none) else none
theorem own_prun_ok (X : Stand p l e R s m args below meth c T locs cells slots) (hx : p.tables.exec = Jvm.exec) (hown : s.vm.findClass own = some m.cls) (hci : ∀ i v, (i, v) ∈ ci → (Cond.constant own i v).before args s = true) (hcl : ∀ i v, (i, v) ∈ cl → (Cond.constantLong own i v).before args s = true) {code : ByteArray} (hby : c.code = code) :
    ∀ (L : List (Nat × Instr × Nat)) (g g' : JFrame), g.method = m → own_decs code L = true → own_prun ci cl L g = some g' → Steps p.tables e below (T.setTop g') target → Steps p.tables e below (T.setTop g) target := by
  intro L
  induction L with
  | nil => intro g g' _ _ hp hr; cases hp; exact hr
  | cons q r ih =>
    intro g g' hg hd hp hr
    obtain ⟨pc, i, n⟩ := q
    have hd' : decide (decode code pc = .ok (i, n)) = true ∧ own_decs code r = true := by
      have : (decide (decode code pc = .ok (i, n)) && own_decs code r) = true := hd
      simpa using this
    replace hp : (if g.pc = pc then (match own_pstep ci cl i n g with | some g' => own_prun ci cl r g' | none => none) else none) = some g' := hp
    by_cases hpc : g.pc = pc
    · rw [if_pos hpc] at hp
      cases hs : own_pstep ci cl i n g with
      | none => rw [hs] at hp; cases hp
      | some g1 =>
        rw [hs] at hp
        have q := own_pstep_ok X hx hown hci hcl hg (i := i) (n := n) (by rw [hby, hpc]; exact of_decide_eq_true hd'.1) hs
        exact q.1 _ (ih g1 g' q.2 hd'.2 hp hr)
    · rw [if_neg hpc] at hp; cases hp
theorem Goes.run (X : Stand p l e R s m args below meth c T locs cells slots) (hx : p.tables.exec = Jvm.exec) (hown : s.vm.findClass own = some m.cls) (hci : ∀ i v, (i, v) ∈ ci → (Cond.constant own i v).before args s = true) (hcl : ∀ i v, (i, v) ∈ cl → (Cond.constantLong own i v).before args s = true) {code : ByteArray} (hby : c.code = code)
    {L : List (Nat × Instr × Nat)} (hd : own_decs code L = true) {g g' : JFrame} (hg : g.method = m) (hp : own_prun ci cl L g = some g') (h : Goes p e below s Q kc ks (T.setTop g')) : Goes p e below s Q kc ks (T.setTop g) :=
  Goes.st (fun _ k => own_prun_ok X hx hown hci hcl hby L g g' hg hd hp k) h
theorem own_ci0 {α : Type} {P : Nat → α → Prop} : ∀ i v, (i, v) ∈ ([] : List (Nat × α)) → P i v := fun _ _ q => nomatch q
theorem own_ciS {α : Type} {P : Nat → α → Prop} {j : Nat} {w : α} {L : List (Nat × α)} (h : P j w) (r : ∀ i v, (i, v) ∈ L → P i v) : ∀ i v, (i, v) ∈ (j, w) :: L → P i v := fun i v q => (List.mem_cons.mp q).elim (fun z => by cases z; exact h) (r i v)
end OwnRun
theorem own_rem32 (x y : Int32) : (x - (x / y) * y).toInt = x.toInt.tmod y.toInt := by
  have a := (x % y).toInt_lt; have b := (x % y).le_toInt
  rw [Int32.toInt_mod] at a b
  rw [Int32.toInt_sub, Int32.toInt_mul, Int32.toInt_div, Int.bmod_mul_bmod, Int.sub_bmod_bmod, Int.mul_comm, ← Int.tmod_def]
  exact Jvm.Kit.bmod32 b a
section OwnNums
variable {x y : Int64} {u v : Int32} {a b : Int}
theorem own_r32 (hx : u.toInt = a) (hy : v.toInt = b) (h0 : 0 ≤ a) : (u - (u / v) * v).toInt = a % b := by subst hx hy; rw [own_rem32, Int.tmod_eq_emod_of_nonneg h0]
theorem own_r64 (hx : x.toInt = a) (hy : y.toInt = b) (h0 : 0 ≤ a) : (x - (x / y) * y).toInt = a % b := by subst hx hy; rw [Jvm.Kit.i64_rem, Int.tmod_eq_emod_of_nonneg h0]
theorem own_mul64 (hx : x.toInt = a) (hy : y.toInt = b) (h1 : -2 ^ 63 ≤ a * b) (h2 : a * b < 2 ^ 63) : (x * y).toInt = a * b := by subst hx hy; exact Jvm.Kit.i64_mul h1 h2
theorem own_mul32 (hx : u.toInt = a) (hy : v.toInt = b) (h1 : -2 ^ 31 ≤ a * b) (h2 : a * b < 2 ^ 31) : (u * v).toInt = a * b := by subst hx hy; exact Jvm.Kit.i32_mul h1 h2
theorem own_add64 (hx : x.toInt = a) (hy : y.toInt = b) (h1 : -2 ^ 63 ≤ a + b) (h2 : a + b < 2 ^ 63) : (x + y).toInt = a + b := by subst hx hy; exact Jvm.Kit.i64_add h1 h2
theorem own_add32 (hx : u.toInt = a) (hy : v.toInt = b) (h1 : -2 ^ 31 ≤ a + b) (h2 : a + b < 2 ^ 31) : (u + v).toInt = a + b := by subst hx hy; exact Jvm.Kit.i32_add h1 h2
theorem own_sub64 (hx : x.toInt = a) (hy : y.toInt = b) (h1 : -2 ^ 63 ≤ a - b) (h2 : a - b < 2 ^ 63) : (x - y).toInt = a - b := by subst hx hy; exact Jvm.Kit.i64_sub h1 h2
theorem own_sub32 (hx : u.toInt = a) (hy : v.toInt = b) (h1 : -2 ^ 31 ≤ a - b) (h2 : a - b < 2 ^ 31) : (u - v).toInt = a - b := by subst hx hy; exact Jvm.Kit.i32_sub h1 h2
theorem own_i2l (hx : u.toInt = a) : u.toInt64.toInt = a := by subst hx; exact Jvm.Kit.i64_of_i32 u
theorem own_lt64 (hx : x.toInt = a) (hy : y.toInt = b) : x < y ↔ a < b := by rw [Int64.lt_iff_toInt_lt, hx, hy]
theorem own_lt32 (hx : u.toInt = a) (hy : v.toInt = b) : u < v ↔ a < b := by rw [Int32.lt_iff_toInt_lt, hx, hy]
theorem own_eq64 (hx : x.toInt = a) (hy : y.toInt = b) : x = y ↔ a = b := by rw [← Int64.toInt_inj, hx, hy]
theorem own_eq32 (hx : u.toInt = a) (hy : v.toInt = b) : u = v ↔ a = b := by rw [← Int32.toInt_inj, hx, hy]
theorem own_m32 (u : Int32) (m : Int32) {k : Nat} (hk : k < 32) (hm : m.toBitVec.toNat = 2 ^ k - 1) : ∃ a : Int, (u &&& m).toInt = a ∧ 0 ≤ a ∧ a < 2 ^ k ∧ a = u.toInt % 2 ^ k := by
  refine ⟨_, Jvm.Kit.i32_mask u m hk hm, Int.emod_nonneg _ (Int.ne_of_gt (Int.pow_pos (by decide))), Int.emod_lt_of_pos _ (Int.pow_pos (by decide)), rfl⟩
theorem own_m64 (x : Int64) (m : Int64) {k : Nat} (hk : k < 64) (hm : m.toBitVec.toNat = 2 ^ k - 1) : ∃ a : Int, (x &&& m).toInt = a ∧ 0 ≤ a ∧ a < 2 ^ k ∧ a = x.toInt % 2 ^ k := by
  refine ⟨_, Jvm.Kit.i64_mask x m hk hm, Int.emod_nonneg _ (Int.ne_of_gt (Int.pow_pos (by decide))), Int.emod_lt_of_pos _ (Int.pow_pos (by decide)), rfl⟩
theorem own_nm {P : Int → Prop} {z : Int} (h : P z) : ∃ a, a = z ∧ P a := ⟨z, rfl, h⟩
end OwnNums
theorem own_nat32 {u : Int32} {a : Int} (hu : u.toInt = a) (h0 : 0 ≤ a) {N : Nat} (h1 : a < N) : ∃ n : Nat, n < N ∧ u = Int32.ofNat n ∧ a = (n : Int) := by
  have q := u.toInt_lt
  refine ⟨a.toNat, by omega, ?_, by omega⟩
  apply Int32.toInt_inj.mp
  rw [Int32.toInt_ofNat_of_lt (by omega), hu]; omega
theorem own_bv64 {x : Int64} {a : Int} (hx : x.toInt = a) (h0 : 0 ≤ a) : (x.toBitVec.toNat : Int) = a := by
  have e : x.toInt = x.toBitVec.toInt := rfl
  have hb := x.toBitVec.isLt
  rw [e, BitVec.toInt_eq_toNat_cond] at hx
  split at hx <;> omega
theorem own_bv32 {x : Int32} {a : Int} (hx : x.toInt = a) (h0 : 0 ≤ a) : (x.toBitVec.toNat : Int) = a := by
  have e : x.toInt = x.toBitVec.toInt := rfl
  have hb := x.toBitVec.isLt
  rw [e, BitVec.toInt_eq_toNat_cond] at hx
  split at hx <;> omega
theorem own_shn (y : Int32) : ((y &&& 0x3f).toInt64.toUInt64).toNat < 64 := by
  obtain ⟨a, h1, h2, h3, -⟩ := own_m32 y (0x3f : Int32) (k := 6) (by decide) (by decide)
  have h4 := own_bv64 (own_i2l h1) h2
  have e : ((y &&& 0x3f).toInt64.toUInt64).toNat = (y &&& 0x3f).toInt64.toBitVec.toNat := rfl
  rw [e]
  omega
theorem own_ushr0 {x : Int64} {a : Int} (hx : x.toInt = a) (h0 : 0 ≤ a) (y : Int32) : ∃ b : Int, ((x.toUInt64 >>> (y &&& 0x3f).toInt64.toUInt64).toInt64).toInt = b ∧ 0 ≤ b ∧ b ≤ a := by
  refine ⟨_, Jvm.Kit.i64_lushr (by rw [Jvm.Kit.i64_nonneg, hx]; exact h0) rfl (own_shn y), ?_, ?_⟩
  · rw [hx]; exact Int.ediv_nonneg h0 (Int.le_of_lt (Int.pow_pos (by decide)))
  · rw [hx]; exact Int.ediv_le_self _ h0
theorem own_ushrk {x : Int64} {a : Int} (hx : x.toInt = a) (h0 : 0 ≤ a) {n : UInt64} {k : Nat} (hn : n.toNat = k) (hk : k < 64) {d : Int} (hd : (2 : Int) ^ k = d) : ((x.toUInt64 >>> n).toInt64).toInt = a / d := by
  rw [Jvm.Kit.i64_lushr (by rw [Jvm.Kit.i64_nonneg, hx]; exact h0) hn hk, hx, hd]
theorem own_ofbv32 {x : Int32} (h : x.toBitVec.toNat < 2 ^ 31) : x.toInt = (x.toBitVec.toNat : Int) := by
  have e : x.toInt = x.toBitVec.toInt := rfl
  rw [e, BitVec.toInt_eq_toNat_cond, if_pos (by omega)]
theorem own_xor32 {x y : Int32} {a b : Int} (hx : x.toInt = a) (hy : y.toInt = b) (h0 : 0 ≤ a) (h1 : 0 ≤ b) : ∃ c : Int, (x ^^^ y).toInt = c ∧ 0 ≤ c := by
  have p := own_bv32 hx h0; have q := own_bv32 hy h1
  have r := x.toInt_lt; have s := y.toInt_lt
  have e : (x ^^^ y).toBitVec.toNat = x.toBitVec.toNat ^^^ y.toBitVec.toNat := by simp [Int32.toBitVec_xor, BitVec.toNat_xor]
  have l : (x ^^^ y).toBitVec.toNat < 2 ^ 31 := by rw [e]; exact Nat.xor_lt_two_pow (by omega) (by omega)
  exact ⟨_, own_ofbv32 l, Int.natCast_nonneg _⟩
def own_z : Nat → Int32 := fun _ => 0
def own_ud (F : Nat → Int32) (i : Nat) (v : Int32) : Nat → Int32 := fun j => if j = i then v else F j
def own_cp (F G : Nat → Int32) (dp sp nn : Nat) : Nat → Int32 := fun j => if dp ≤ j ∧ j < dp + nn then G (sp + (j - dp)) else F j
def own_fv (N : Nat) (F : Nat → Int32) : List Value := (List.range N).map fun i => Value.int (F i)
theorem own_fget (N : Nat) (F : Nat → Int32) (i : Nat) (d : Value) : (own_fv N F).getD i d = if i < N then Value.int (F i) else d := by
  unfold own_fv
  rw [List.getD_eq_getElem?_getD, List.getElem?_map]
  by_cases h : i < N
  · rw [List.getElem?_range h, if_pos h]; rfl
  · rw [List.getElem?_eq_none (by simpa using h), if_neg h]; rfl
theorem own_flen (N : Nat) (F : Nat → Int32) : (own_fv N F).length = N := by simp [own_fv]
theorem own_fnew (N : Nat) (i : Nat) : (own_fv N own_z).getD i (.int 0) = ([] : List Value).getD i (.int 0) := by
  rw [own_fget]; split <;> rfl
theorem own_fset (N : Nat) (F : Nat → Int32) (x : Nat) (v : Int32) (hx : x < N) (i : Nat) : (own_fv N (own_ud F x v)).getD i (.int 0) = ((own_fv N F).set x (.int v)).getD i (.int 0) := by
  rw [own_fget, List.getD_eq_getElem?_getD]
  by_cases h : x = i
  · subst h; rw [List.getElem?_set_self (by rw [own_flen]; exact hx), if_pos hx]; simp [own_ud]
  · rw [List.getElem?_set_ne h, ← List.getD_eq_getElem?_getD, own_fget]; unfold own_ud; rw [if_neg (Ne.symm h)]
theorem own_fcp (N M : Nat) (F G : Nat → Int32) (dp sp nn : Nat) (h1 : dp + nn ≤ N) (h2 : sp + nn ≤ M) (i : Nat) : (own_fv N (own_cp F G dp sp nn)).getD i (.int 0) = ((own_fv N F).take dp ++ ((List.range nn).map fun i => (own_fv M G).getD (sp + i) (.int 0)) ++ (own_fv N F).drop (dp + nn)).getD i (.int 0) := by
  rw [own_fget, List.getD_eq_getElem?_getD]
  have l1 : ((own_fv N F).take dp).length = dp := by rw [List.length_take, own_flen]; omega
  by_cases a : i < dp
  · rw [List.append_assoc, List.getElem?_append_left (by rw [l1]; exact a), List.getElem?_take_of_lt a, ← List.getD_eq_getElem?_getD, own_fget]
    rw [show own_cp F G dp sp nn i = F i from if_neg (by omega)]
  · by_cases b : i < dp + nn
    · rw [List.append_assoc, List.getElem?_append_right (by rw [l1]; omega), l1, List.getElem?_append_left (by simp; omega), List.getElem?_map, List.getElem?_range (by omega)]
      rw [if_pos (by omega), show own_cp F G dp sp nn i = G (sp + (i - dp)) from if_pos (by omega)]
      show _ = (own_fv M G).getD (sp + (i - dp)) (.int 0)
      rw [own_fget, if_pos (by omega)]
    · rw [List.getElem?_append_right (by rw [List.length_append, l1]; simp; omega), List.getElem?_drop]
      have e : dp + nn + (i - ((own_fv N F).take dp ++ ((List.range nn).map fun i => (own_fv M G).getD (sp + i) (.int 0))).length) = i := by rw [List.length_append, l1]; simp; omega
      rw [e, ← List.getD_eq_getElem?_getD, own_fget]
      rw [show own_cp F G dp sp nn i = F i from if_neg (by omega)]
theorem own_ne {x y : Int32} (h : x < y) : ¬ x = y := fun e => by subst e; exact Int32.lt_irrefl h
theorem own_ncl {x : Int32} {a : Int} (h : x.toInt = a) : x.toNatClampNeg = a.toNat := by subst h; rfl
theorem own_h4 {x y : Int32} (h0 : ¬ x < (0 : Int32)) (h : x < y) : 0 + x.toNatClampNeg ≤ y.toNatClampNeg := by
  rw [Int32.lt_iff_toInt_lt] at h
  show 0 + x.toInt.toNat ≤ y.toInt.toNat
  omega
theorem own_nb8 (u : Int32) : nar .byte (u.toInt8.toInt32) = u.toInt8.toInt32 := by
  show (u.toInt8.toInt32).toInt8.toInt32 = _
  simp
theorem own_e1 {x : Int32} (p1 : ¬ x < (0 : Int32)) (p2 : x < (304 : Int32)) (h0 : ¬ x = (0 : Int32)) (h1 : x < (4 : Int32)) : ¬ (x - (1 : Int32)) < 0 ∧ (x - (1 : Int32)) < (3 : Int32) ∧ (x - (1 : Int32)).toNatClampNeg < 3 := by
  obtain ⟨a, e⟩ : ∃ a : Int, x.toInt = a := ⟨_, rfl⟩
  rw [own_lt32 e (show (0 : Int32).toInt = 0 by decide)] at p1
  rw [own_lt32 e (show (4 : Int32).toInt = 4 by decide)] at h1
  rw [own_eq32 e (show (0 : Int32).toInt = 0 by decide)] at h0
  have d := own_sub32 e (show (1 : Int32).toInt = 1 by decide) (by omega) (by omega)
  rw [own_lt32 d (show (0 : Int32).toInt = 0 by decide), own_lt32 d (show (3 : Int32).toInt = 3 by decide), own_ncl d]
  omega
theorem own_e4 {x : Int32} (p1 : ¬ x < (0 : Int32)) (p2 : x < (304 : Int32)) (h0 : ¬ x = (0 : Int32)) (h1 : ¬ x < (4 : Int32)) : ¬ (x - (4 : Int32)) < 0 ∧ (x - (4 : Int32)) < (300 : Int32) ∧ (x - (4 : Int32)).toNatClampNeg < 300 := by
  obtain ⟨a, e⟩ : ∃ a : Int, x.toInt = a := ⟨_, rfl⟩
  rw [own_lt32 e (show (4 : Int32).toInt = 4 by decide)] at h1
  rw [own_lt32 e (show (304 : Int32).toInt = 304 by decide)] at p2
  have d := own_sub32 e (show (4 : Int32).toInt = 4 by decide) (by omega) (by omega)
  rw [own_lt32 d (show (0 : Int32).toInt = 0 by decide), own_lt32 d (show (300 : Int32).toInt = 300 by decide), own_ncl d]
  omega
theorem own_h5 (x : Int32) : 0 + x.toNatClampNeg ≤ x.toNatClampNeg := by omega
theorem own_le256 {x : Int32} (h0 : ¬ x < (0 : Int32)) (h : x < (256 : Int32)) : x.toNatClampNeg ≤ 256 := by have := own_h4 h0 h; have e : (256 : Int32).toNatClampNeg = 256 := rfl; omega
theorem own_le512 {x : Int32} (h0 : ¬ x < (0 : Int32)) (h : x < (512 : Int32)) : x.toNatClampNeg ≤ 512 := by have := own_h4 h0 h; have e : (512 : Int32).toNatClampNeg = 512 := rfl; omega
theorem d1_1 : decode prog_6_method_1_code 1 = .ok (.invokespecial 1, 3) := by decide +kernel
theorem d1_8 : decode prog_6_method_1_code 8 = .ok (.newarray .byte, 2) := by decide +kernel
theorem d1_10 : decode prog_6_method_1_code 10 = .ok (.putfield 9, 3) := by decide +kernel
theorem d1_13 : decode prog_6_method_1_code 13 = .ok (.return_, 1) := by decide +kernel
theorem pn1 : plainName "com/example/upcaster/upcaster/io/BinaryEncoder" = true := by first | (simp [plainName, overriddenIn]; done) | decide +kernel
theorem ef1 (m : MethodId) (x0 : Addr) : entryFrame m #[(.ref x0)] 1 = (mkF m 0 #[rv x0] []) := by first | (simp [entryFrame, mkF, argsToLocals, Value.category]; done) | rfl
def Q1 (Z : State) (x0 : Addr) (h0 : Heap) (n0 : Nat) (v : Option Value) (h : Heap) (L : List Loc) : Prop := ∃ (nb : Addr) (k_nb : ClassId), v = none ∧ Fr n0 L ∧ Keep h0 h [x0] ∧ h0.size ≤ nb ∧ Exa Z h x0 "com/example/upcaster/upcaster/io/BinaryEncoder" ∧ Fld Z h x0 "com/example/upcaster/upcaster/io/BinaryEncoder" "buffer" "[B" (.ref nb) ∧ Fld Z h x0 "com/example/upcaster/upcaster/io/BinaryEncoder" "size" "I" (.int (0 : Int32)) ∧ Arv Z h nb k_nb .byte (256 : Int32) (own_fv 256 own_z) (.int (0 : Int32))
set_option maxRecDepth 65536 in
set_option maxHeartbeats 40000000 in
theorem rm1 (l : Launch) (Z : State) (a0 : Array Value) (hw : ∀ d ∈ tables_1, d.before a0 Z = true) (ws : List Jvm.Cond) (x0 : Addr) (h0 : Heap) (n0 : Nat) (Z0 : n0 ≤ h0.size) (E_x0 : Exa Z h0 x0 "com/example/upcaster/upcaster/io/BinaryEncoder") (F_buffer_x0 : Fld Z h0 x0 "com/example/upcaster/upcaster/io/BinaryEncoder" "buffer" "[B" .null) (F_size_x0 : Fld Z h0 x0 "com/example/upcaster/upcaster/io/BinaryEncoder" "size" "I" (.int (0 : Int32))) (g_x0 : n0 ≤ x0) :
    MetFree l ym0 (head1 (Jvm.Cond.code ym0 prog_6_method_1_code 1 none :: ws) ({ frames := 1, cells := 1, slots := 256, locals := 12 } : Room)) (fun a U => a = #[(.ref x0)] ∧ Z.Warmed39 U.vm ∧ U.heap = h0) (fun _ _ _ _ _ => True) (fun _ U o U' => ∃ v L, o = .returned v ∧ (Q1 Z x0 h0 n0) v U'.heap L ∧ FrameEnd U o U' L ({ frames := 1, cells := 1, slots := 256, locals := 12 } : Room).cells ({ frames := 1, cells := 1, slots := 256, locals := 12 } : Room).slots) := by
  refine MetFree.of_bodySF (plainFor_of_name pn1) hisR ?_
  intro p e s m args below meth c s₁ Bd hml0 hP hK
  obtain ⟨rfl, hZ, hh⟩ := hP
  have hx := Bd.exec
  have hby := Bd.bytes
  have hml : c.maxLocals = 1 := hml0
  have hlk : meth.locks = false := BodyLoose.notSynchronized Bd
  have hown : s.vm.findClass "com/example/upcaster/upcaster/io/BinaryEncoder" = some m.cls := findClass_of_methodNamed Bd.named
  have hnm := (name_of_methodNamed Bd.named Bd.method).1
  have w_0 := hw _ (List.mem_of_getElem? (i := 0) rfl)
  have w_3 := hw _ (List.mem_of_getElem? (i := 3) rfl)
  have w_8 := hw _ (List.mem_of_getElem? (i := 8) rfl)
  have w_9 := hw _ (List.mem_of_getElem? (i := 9) rfl)
  have w_10 := hw _ (List.mem_of_getElem? (i := 10) rfl)
  have w_11 := hw _ (List.mem_of_getElem? (i := 11) rfl)
  have w_12 := hw _ (List.mem_of_getElem? (i := 12) rfl)
  have w_19 := hw _ (List.mem_of_getElem? (i := 19) rfl)
  have w_47 := hw _ (List.mem_of_getElem? (i := 47) rfl)
  have hci : ∀ i v, (i, v) ∈ ([(134, 2147483639)] : List (Nat × Int32)) → (Jvm.Cond.constant "com/example/upcaster/upcaster/io/BinaryEncoder" i v).before #[(.ref x0)] s = true := (own_ciS (mvT hZ w_47) own_ci0)
  have hcl : ∀ i v, (i, v) ∈ ([] : List (Nat × Int64)) → (Jvm.Cond.constantLong "com/example/upcaster/upcaster/io/BinaryEncoder" i v).before #[(.ref x0)] s = true := own_ci0
  have X0 : Stand p l e ({ frames := 1, cells := 1, slots := 256, locals := 12 } : Room) s m #[(.ref x0)] below meth c s₁ [] 0 0 := Stand.of_body Bd
  have e0 : s₁.heap = h0 := by rw [← hh, Bd.state]; rfl
  have N0 := Fr.nil n0
  show Goes p e below s (Q1 Z x0 h0 n0) ({ frames := 1, cells := 1, slots := 256, locals := 12 } : Room).cells ({ frames := 1, cells := 1, slots := 256, locals := 12 } : Room).slots (s₁.setTop (entryFrame m #[(.ref x0)] 1))
  refine Goes.cast (ef1 m x0) ?_
  have K0 : Keep h0 h0 [x0] := Keep.refl h0 _
  refine Goes.run X0 hx hown hci hcl hby (L := [(0, .aload_n 0, 1)]) (by decide +kernel) rfl (g' := (mkF m 1 #[rv x0] [(.ref x0)])) rfl ?_
  obtain ⟨T1, X1, e1, st1⟩ := initO X0 hx hZ hown w_8 w_9 w_10 e0 (g := (mkF m 1 #[rv x0] [(.ref x0)])) rfl (by rw [hml]; rfl) rfl (hb hby d1_1) (by decide) (W := 0) (by show 2 * 0 + _ ≤ _; exact Nat.le_of_eq rfl) (by decide)
  refine Goes.st (B := T1.setTop (mkF m 4 #[rv x0] [])) st1 ?_
  refine Goes.run X1 hx hown hci hcl hby (L := [(4, .aload_n 0, 1), (5, .sipush 256, 3)]) (by decide +kernel) rfl (g' := (mkF m 8 #[rv x0] [(.int (256 : Int32)), (.ref x0)])) rfl ?_
  obtain ⟨T2, h2, k2, X2, e2, E2, A2, B2, st2⟩ := newPE X1 hx hZ (aty := .byte) w_0 e1 (g := (mkF m 8 #[rv x0] [(.int (256 : Int32)), (.ref x0)])) rfl (hb hby d1_8) rfl (by decide) (cap := 256) (by decide) (by decide) (by decide) (by decide) (ad := "[B") (by decide)
  obtain ⟨b2, g2⟩ : ∃ z, z = h0.size := ⟨_, rfl⟩
  rw [← g2] at A2 B2 st2
  have ne_x0_b2 : x0 ≠ b2 := Nat.ne_of_lt (Nat.lt_of_lt_of_le E_x0.lt (Nat.le_of_eq g2.symm))
  have g_b2 : n0 ≤ b2 := Nat.le_trans Z0 (Nat.le_of_eq g2.symm)
  have sz_b2 : h0.size ≤ b2 := Nat.le_trans K0.1 (Nat.le_of_eq g2.symm)
  have E_x0 := E_x0.ext E2
  have F_buffer_x0 := F_buffer_x0.ext E2
  have F_size_x0 := F_size_x0.ext E2
  have Zn2 : n0 ≤ h2.size := Nat.le_trans Z0 E2.1
  have K2 := K0.ext E2
  have E_b2 : Exa Z h2 b2 "[B" := B2
  have V_b2 : Arv Z h2 b2 k2 .byte (256 : Int32) (own_fv 256 own_z) (.int (0 : Int32)) := (Arv.new A2 (by decide)).pad (own_fnew 256)
  refine Goes.st (B := T2.setTop (mkF m 10 #[rv x0] [(.ref b2), (.ref x0)])) st2 ?_
  obtain ⟨T3, h3, X3, e3, W3, st3⟩ := putF X2 hx hZ hown (host := "") (Or.inl w_11) Via.refl e2 F_buffer_x0 E_x0 (Or.inl w_12) w_3 (ty := (.array .byte)) (by decide) rfl rfl (g := (mkF m 10 #[rv x0] [(.ref b2), (.ref x0)])) rfl rfl (hb hby d1_10)
  have E_x0 := E_x0.wr W3
  have F_buffer_x0 : Fld Z h3 x0 "com/example/upcaster/upcaster/io/BinaryEncoder" "buffer" "[B" (.ref b2) := F_buffer_x0.same W3
  have F_size_x0 := F_size_x0.other W3 (Or.inr (slot_ne (Or.inl w_19) (Or.inl w_12) (by decide) (t := .int) (t' := (.array .byte)) (by decide) (by decide)))
  have E_b2 := E_b2.wr W3
  have V_b2 := V_b2.other W3 (Ne.symm ne_x0_b2)
  have Zn3 : n0 ≤ h3.size := Nat.le_trans Zn2 (Keep.of_wr W3).1
  have K3 := K2.wr W3 (Or.inl (List.mem_of_getElem? (i := 0) rfl))
  have N3 := Fr.snoc X3 N0 g_x0
  refine Goes.st (B := T3.setTop (mkF m 13 #[rv x0] [])) st3 ?_
  refine Goes.retV X3 hx hlk Bd.returns (hb hby d1_13) ?_ (by decide) (by decide)
  show (Q1 Z x0 h0 n0) _ _ _
  rw [e3]
  exact ⟨b2, k2, rfl, N3, K3, sz_b2, E_x0, F_buffer_x0, F_size_x0, V_b2⟩
theorem d2_2 : decode jdk_29_method_69_code 2 = .ok (.if_icmp .gt 7, 3) := by decide +kernel
theorem d2_10 : decode jdk_29_method_69_code 10 = .ok (.ireturn, 1) := by decide +kernel
theorem ef2 (m : MethodId) (x0 : Int32) (x1 : Int32) : entryFrame m #[(.int x0), (.int x1)] 2 = (mkF m 0 #[iv x0, iv x1] []) := by first | (simp [entryFrame, mkF, argsToLocals, Value.category]; done) | rfl
def r2 (x0 : Int32) (x1 : Int32) : Int32 := x1
set_option maxRecDepth 65536 in
set_option maxHeartbeats 40000000 in
theorem rm2 (l : Launch) (Z : State) (a0 : Array Value) (hw : ∀ d ∈ tables_1, d.before a0 Z = true) (ws : List Jvm.Cond) (x0 : Int32) (x1 : Int32) (h0 : Heap) (n0 : Nat) (Z0 : n0 ≤ h0.size) (p1 : x1 < x0) :
    MetFree l ym1 (head1 (Jvm.Cond.code ym1 jdk_29_method_69_code 2 (some .int) :: ws) ({ frames := 0, cells := 0, slots := 0, locals := 0 } : Room)) (fun a U => a = #[(.int x0), (.int x1)] ∧ Z.Warmed39 U.vm ∧ U.heap = h0) (fun _ _ _ _ _ => True) (fun _ U o U' => ∃ v L, o = .returned v ∧ (QP (some (.int (r2 x0 x1))) h0 n0) v U'.heap L ∧ FrameEnd U o U' L ({ frames := 0, cells := 0, slots := 0, locals := 0 } : Room).cells ({ frames := 0, cells := 0, slots := 0, locals := 0 } : Room).slots) := by
  refine MetFree.of_bodySF (Jvm.Free.JP.mathPlain rfl (by decide +kernel)) hisR ?_
  intro p e s m args below meth c s₁ Bd hml0 hP hK
  obtain ⟨rfl, hZ, hh⟩ := hP
  have hx := Bd.exec
  have hby := Bd.bytes
  have hml : c.maxLocals = 2 := hml0
  have hlk : meth.locks = false := BodyLoose.notSynchronized Bd
  have hown : s.vm.findClass "java/lang/Math" = some m.cls := findClass_of_methodNamed Bd.named
  have hnm := (name_of_methodNamed Bd.named Bd.method).1
  have hci : ∀ i v, (i, v) ∈ ([] : List (Nat × Int32)) → (Jvm.Cond.constant "java/lang/Math" i v).before #[(.int x0), (.int x1)] s = true := own_ci0
  have hcl : ∀ i v, (i, v) ∈ ([] : List (Nat × Int64)) → (Jvm.Cond.constantLong "java/lang/Math" i v).before #[(.int x0), (.int x1)] s = true := own_ci0
  have X0 : Stand p l e ({ frames := 0, cells := 0, slots := 0, locals := 0 } : Room) s m #[(.int x0), (.int x1)] below meth c s₁ [] 0 0 := Stand.of_body Bd
  have e0 : s₁.heap = h0 := by rw [← hh, Bd.state]; rfl
  have N0 := Fr.nil n0
  show Goes p e below s (QP (some (.int (r2 x0 x1))) h0 n0) ({ frames := 0, cells := 0, slots := 0, locals := 0 } : Room).cells ({ frames := 0, cells := 0, slots := 0, locals := 0 } : Room).slots (s₁.setTop (entryFrame m #[(.int x0), (.int x1)] 2))
  refine Goes.cast (ef2 m x0 x1) ?_
  refine Goes.run X0 hx hown hci hcl hby (L := [(0, .iload_n 0, 1), (1, .iload_n 1, 1)]) (by decide +kernel) rfl (g' := (mkF m 2 #[iv x0, iv x1] [(.int x1), (.int x0)])) rfl ?_
  have hc2_1 : x1 < x0 := p1
  refine Goes.st (B := s₁.setTop (mkF m 9 #[iv x0, iv x1] [])) (fun t k => ?_) ?_
  · refine XS.icmpYes X0.here hx rfl (pc0 := 2) (pc' := 9) rfl (hb hby d2_2) rfl (tlt hc2_1).2.2.1 (by decide) (by decide) ?_
    exact k
  refine Goes.run X0 hx hown hci hcl hby (L := [(9, .iload_n 1, 1)]) (by decide +kernel) rfl (g' := (mkF m 10 #[iv x0, iv x1] [(.int x1)])) rfl ?_
  exact Goes.retI X0 hx hlk Bd.returns (hb hby d2_10) ⟨(congrArg (fun z => some (Value.int z)) (show (r2 x0 x1) = x1 from rfl).symm), N0, e0⟩ (by decide) (by decide)
theorem ef2K (m : MethodId)  : entryFrame m #[(.int (256 : Int32)), (.int (512 : Int32))] 2 = (mkF m 0 #[iv (256 : Int32), iv (512 : Int32)] []) := by first | (simp [entryFrame, mkF, argsToLocals, Value.category]; done) | rfl
def r2K  : Int32 := (256 : Int32)
set_option maxRecDepth 65536 in
set_option maxHeartbeats 40000000 in
theorem rm2K (l : Launch) (Z : State) (a0 : Array Value) (hw : ∀ d ∈ tables_1, d.before a0 Z = true) (ws : List Jvm.Cond)  (h0 : Heap) (n0 : Nat) (Z0 : n0 ≤ h0.size) :
    MetFree l ym1 (head1 (Jvm.Cond.code ym1 jdk_29_method_69_code 2 (some .int) :: ws) ({ frames := 0, cells := 0, slots := 0, locals := 0 } : Room)) (fun a U => a = #[(.int (256 : Int32)), (.int (512 : Int32))] ∧ Z.Warmed39 U.vm ∧ U.heap = h0) (fun _ _ _ _ _ => True) (fun _ U o U' => ∃ v L, o = .returned v ∧ (QP (some (.int (r2K ))) h0 n0) v U'.heap L ∧ FrameEnd U o U' L ({ frames := 0, cells := 0, slots := 0, locals := 0 } : Room).cells ({ frames := 0, cells := 0, slots := 0, locals := 0 } : Room).slots) := by
  refine MetFree.of_bodySF (Jvm.Free.JP.mathPlain rfl (by decide +kernel)) hisR ?_
  intro p e s m args below meth c s₁ Bd hml0 hP hK
  obtain ⟨rfl, hZ, hh⟩ := hP
  have hx := Bd.exec
  have hby := Bd.bytes
  have hml : c.maxLocals = 2 := hml0
  have hlk : meth.locks = false := BodyLoose.notSynchronized Bd
  have hown : s.vm.findClass "java/lang/Math" = some m.cls := findClass_of_methodNamed Bd.named
  have hnm := (name_of_methodNamed Bd.named Bd.method).1
  have hci : ∀ i v, (i, v) ∈ ([] : List (Nat × Int32)) → (Jvm.Cond.constant "java/lang/Math" i v).before #[(.int (256 : Int32)), (.int (512 : Int32))] s = true := own_ci0
  have hcl : ∀ i v, (i, v) ∈ ([] : List (Nat × Int64)) → (Jvm.Cond.constantLong "java/lang/Math" i v).before #[(.int (256 : Int32)), (.int (512 : Int32))] s = true := own_ci0
  have X0 : Stand p l e ({ frames := 0, cells := 0, slots := 0, locals := 0 } : Room) s m #[(.int (256 : Int32)), (.int (512 : Int32))] below meth c s₁ [] 0 0 := Stand.of_body Bd
  have e0 : s₁.heap = h0 := by rw [← hh, Bd.state]; rfl
  have N0 := Fr.nil n0
  show Goes p e below s (QP (some (.int (r2K ))) h0 n0) ({ frames := 0, cells := 0, slots := 0, locals := 0 } : Room).cells ({ frames := 0, cells := 0, slots := 0, locals := 0 } : Room).slots (s₁.setTop (entryFrame m #[(.int (256 : Int32)), (.int (512 : Int32))] 2))
  refine Goes.cast (ef2K m ) ?_
  refine Goes.run X0 hx hown hci hcl hby (L := [(0, .iload_n 0, 1), (1, .iload_n 1, 1)]) (by decide +kernel) rfl (g' := (mkF m 2 #[iv (256 : Int32), iv (512 : Int32)] [(.int (512 : Int32)), (.int (256 : Int32))])) rfl ?_
  have hc2_1 : ¬ ((512 : Int32) < (256 : Int32)) := by decide
  refine Goes.st (B := s₁.setTop (mkF m 5 #[iv (256 : Int32), iv (512 : Int32)] [])) (fun t k => ?_) ?_
  · refine XS.icmpNo X0.here hx rfl (hb hby d2_2) rfl (flt hc2_1).2.2.1 ?_
    exact k
  refine Goes.run X0 hx hown hci hcl hby (L := [(5, .iload_n 0, 1), (6, .goto 4, 3)]) (by decide +kernel) rfl (g' := (mkF m 10 #[iv (256 : Int32), iv (512 : Int32)] [(.int (256 : Int32))])) rfl ?_
  exact Goes.retI X0 hx hlk Bd.returns (hb hby d2_10) ⟨(congrArg (fun z => some (Value.int z)) (show (r2K ) = (256 : Int32) from rfl).symm), N0, e0⟩ (by decide) (by decide)
theorem d3_3 : decode jdk_29_method_66_code 3 = .ok (.ifCond .lt 7, 3) := by decide +kernel
theorem d3_11 : decode jdk_29_method_66_code 11 = .ok (.lreturn, 1) := by decide +kernel
theorem ef3 (m : MethodId)  : entryFrame m #[(.long (512 : Int64)), (.long (304 : Int64))] 4 = (mkF m 0 #[jv (512 : Int64), .second, jv (304 : Int64), .second] []) := by first | (simp [entryFrame, mkF, argsToLocals, Value.category]; done) | rfl
def r3  : Int64 := (512 : Int64)
set_option maxRecDepth 65536 in
set_option maxHeartbeats 40000000 in
theorem rm3 (l : Launch) (Z : State) (a0 : Array Value) (hw : ∀ d ∈ tables_1, d.before a0 Z = true) (ws : List Jvm.Cond)  (h0 : Heap) (n0 : Nat) (Z0 : n0 ≤ h0.size) :
    MetFree l ym2 (head1 (Jvm.Cond.code ym2 jdk_29_method_66_code 4 (some .long) :: ws) ({ frames := 0, cells := 0, slots := 0, locals := 0 } : Room)) (fun a U => a = #[(.long (512 : Int64)), (.long (304 : Int64))] ∧ Z.Warmed39 U.vm ∧ U.heap = h0) (fun _ _ _ _ _ => True) (fun _ U o U' => ∃ v L, o = .returned v ∧ (QP (some (.long (r3 ))) h0 n0) v U'.heap L ∧ FrameEnd U o U' L ({ frames := 0, cells := 0, slots := 0, locals := 0 } : Room).cells ({ frames := 0, cells := 0, slots := 0, locals := 0 } : Room).slots) := by
  refine MetFree.of_bodySF (Jvm.Free.JP.mathPlain rfl (by decide +kernel)) hisR ?_
  intro p e s m args below meth c s₁ Bd hml0 hP hK
  obtain ⟨rfl, hZ, hh⟩ := hP
  have hx := Bd.exec
  have hby := Bd.bytes
  have hml : c.maxLocals = 4 := hml0
  have hlk : meth.locks = false := BodyLoose.notSynchronized Bd
  have hown : s.vm.findClass "java/lang/Math" = some m.cls := findClass_of_methodNamed Bd.named
  have hnm := (name_of_methodNamed Bd.named Bd.method).1
  have hci : ∀ i v, (i, v) ∈ ([] : List (Nat × Int32)) → (Jvm.Cond.constant "java/lang/Math" i v).before #[(.long (512 : Int64)), (.long (304 : Int64))] s = true := own_ci0
  have hcl : ∀ i v, (i, v) ∈ ([] : List (Nat × Int64)) → (Jvm.Cond.constantLong "java/lang/Math" i v).before #[(.long (512 : Int64)), (.long (304 : Int64))] s = true := own_ci0
  have X0 : Stand p l e ({ frames := 0, cells := 0, slots := 0, locals := 0 } : Room) s m #[(.long (512 : Int64)), (.long (304 : Int64))] below meth c s₁ [] 0 0 := Stand.of_body Bd
  have e0 : s₁.heap = h0 := by rw [← hh, Bd.state]; rfl
  have N0 := Fr.nil n0
  show Goes p e below s (QP (some (.long (r3 ))) h0 n0) ({ frames := 0, cells := 0, slots := 0, locals := 0 } : Room).cells ({ frames := 0, cells := 0, slots := 0, locals := 0 } : Room).slots (s₁.setTop (entryFrame m #[(.long (512 : Int64)), (.long (304 : Int64))] 4))
  refine Goes.cast (ef3 m ) ?_
  refine Goes.run X0 hx hown hci hcl hby (L := [(0, .lload_n 0, 1), (1, .lload_n 2, 1), (2, .lcmp, 1)]) (by decide +kernel) rfl (g' := (mkF m 3 #[jv (512 : Int64), .second, jv (304 : Int64), .second] [(.int (lcmpW (512 : Int64) (304 : Int64)))])) rfl ?_
  have hc3_1 : ¬ ((512 : Int64) < (304 : Int64)) := by decide
  refine Goes.st (B := s₁.setTop (mkF m 6 #[jv (512 : Int64), .second, jv (304 : Int64), .second] [])) (fun t k => ?_) ?_
  · refine XS.ifNo X0.here hx rfl (hb hby d3_3) rfl (fltL hc3_1).1 ?_
    exact k
  refine Goes.run X0 hx hown hci hcl hby (L := [(6, .lload_n 0, 1), (7, .goto 4, 3)]) (by decide +kernel) rfl (g' := (mkF m 11 #[jv (512 : Int64), .second, jv (304 : Int64), .second] [(.long (512 : Int64))])) rfl ?_
  exact Goes.retJ X0 hx hlk Bd.returns (hb hby d3_11) ⟨(congrArg (fun z => some (Value.long z)) (show (r3 ) = (512 : Int64) from rfl).symm), N0, e0⟩ (by decide) (by decide)
theorem d4_3 : decode jdk_29_method_70_code 3 = .ok (.ifCond .gt 7, 3) := by decide +kernel
theorem d4_11 : decode jdk_29_method_70_code 11 = .ok (.lreturn, 1) := by decide +kernel
theorem ef4 (m : MethodId)  : entryFrame m #[(.long (512 : Int64)), (.long (2147483639 : Int64))] 4 = (mkF m 0 #[jv (512 : Int64), .second, jv (2147483639 : Int64), .second] []) := by first | (simp [entryFrame, mkF, argsToLocals, Value.category]; done) | rfl
def r4  : Int64 := (512 : Int64)
set_option maxRecDepth 65536 in
set_option maxHeartbeats 40000000 in
theorem rm4 (l : Launch) (Z : State) (a0 : Array Value) (hw : ∀ d ∈ tables_1, d.before a0 Z = true) (ws : List Jvm.Cond)  (h0 : Heap) (n0 : Nat) (Z0 : n0 ≤ h0.size) :
    MetFree l ym3 (head1 (Jvm.Cond.code ym3 jdk_29_method_70_code 4 (some .long) :: ws) ({ frames := 0, cells := 0, slots := 0, locals := 0 } : Room)) (fun a U => a = #[(.long (512 : Int64)), (.long (2147483639 : Int64))] ∧ Z.Warmed39 U.vm ∧ U.heap = h0) (fun _ _ _ _ _ => True) (fun _ U o U' => ∃ v L, o = .returned v ∧ (QP (some (.long (r4 ))) h0 n0) v U'.heap L ∧ FrameEnd U o U' L ({ frames := 0, cells := 0, slots := 0, locals := 0 } : Room).cells ({ frames := 0, cells := 0, slots := 0, locals := 0 } : Room).slots) := by
  refine MetFree.of_bodySF (Jvm.Free.JP.mathPlain rfl (by decide +kernel)) hisR ?_
  intro p e s m args below meth c s₁ Bd hml0 hP hK
  obtain ⟨rfl, hZ, hh⟩ := hP
  have hx := Bd.exec
  have hby := Bd.bytes
  have hml : c.maxLocals = 4 := hml0
  have hlk : meth.locks = false := BodyLoose.notSynchronized Bd
  have hown : s.vm.findClass "java/lang/Math" = some m.cls := findClass_of_methodNamed Bd.named
  have hnm := (name_of_methodNamed Bd.named Bd.method).1
  have hci : ∀ i v, (i, v) ∈ ([] : List (Nat × Int32)) → (Jvm.Cond.constant "java/lang/Math" i v).before #[(.long (512 : Int64)), (.long (2147483639 : Int64))] s = true := own_ci0
  have hcl : ∀ i v, (i, v) ∈ ([] : List (Nat × Int64)) → (Jvm.Cond.constantLong "java/lang/Math" i v).before #[(.long (512 : Int64)), (.long (2147483639 : Int64))] s = true := own_ci0
  have X0 : Stand p l e ({ frames := 0, cells := 0, slots := 0, locals := 0 } : Room) s m #[(.long (512 : Int64)), (.long (2147483639 : Int64))] below meth c s₁ [] 0 0 := Stand.of_body Bd
  have e0 : s₁.heap = h0 := by rw [← hh, Bd.state]; rfl
  have N0 := Fr.nil n0
  show Goes p e below s (QP (some (.long (r4 ))) h0 n0) ({ frames := 0, cells := 0, slots := 0, locals := 0 } : Room).cells ({ frames := 0, cells := 0, slots := 0, locals := 0 } : Room).slots (s₁.setTop (entryFrame m #[(.long (512 : Int64)), (.long (2147483639 : Int64))] 4))
  refine Goes.cast (ef4 m ) ?_
  refine Goes.run X0 hx hown hci hcl hby (L := [(0, .lload_n 0, 1), (1, .lload_n 2, 1), (2, .lcmp, 1)]) (by decide +kernel) rfl (g' := (mkF m 3 #[jv (512 : Int64), .second, jv (2147483639 : Int64), .second] [(.int (lcmpW (512 : Int64) (2147483639 : Int64)))])) rfl ?_
  have hc3_1 : ¬ ((2147483639 : Int64) < (512 : Int64)) := by decide
  refine Goes.st (B := s₁.setTop (mkF m 6 #[jv (512 : Int64), .second, jv (2147483639 : Int64), .second] [])) (fun t k => ?_) ?_
  · refine XS.ifNo X0.here hx rfl (hb hby d4_3) rfl (fltL hc3_1).2.2.1 ?_
    exact k
  refine Goes.run X0 hx hown hci hcl hby (L := [(6, .lload_n 0, 1), (7, .goto 4, 3)]) (by decide +kernel) rfl (g' := (mkF m 11 #[jv (512 : Int64), .second, jv (2147483639 : Int64), .second] [(.long (512 : Int64))])) rfl ?_
  exact Goes.retJ X0 hx hlk Bd.returns (hb hby d4_11) ⟨(congrArg (fun z => some (Value.long z)) (show (r4 ) = (512 : Int64) from rfl).symm), N0, e0⟩ (by decide) (by decide)
theorem d5_2 : decode jdk_65_method_121_code 2 = .ok (.arraylength, 1) := by decide +kernel
theorem d5_3 : decode jdk_65_method_121_code 3 = .ok (.if_icmp .ne 11, 3) := by decide +kernel
theorem d5_15 : decode jdk_65_method_121_code 15 = .ok (.newarray .byte, 2) := by decide +kernel
theorem d5_23 : decode jdk_65_method_121_code 23 = .ok (.arraylength, 1) := by decide +kernel
theorem d5_25 : decode jdk_65_method_121_code 25 = .ok (.invokestatic 304, 3) := by decide +kernel
theorem d5_28 : decode jdk_65_method_121_code 28 = .ok (.invokestatic 150, 3) := by decide +kernel
theorem d5_32 : decode jdk_65_method_121_code 32 = .ok (.areturn, 1) := by decide +kernel
theorem pn5_256 : plainName "java/util/Arrays" = true := by first | (simp [plainName, overriddenIn]; done) | decide +kernel
theorem pd5_256_0 : parseMethodDescriptor "(II)I" = some ⟨[.int, .int], some .int⟩ := by decide +kernel
theorem ef5_256 (m : MethodId) (x0 : Addr) (x1 : Int32) : entryFrame m #[(.ref x0), (.int x1)] 3 = (mkF m 0 #[rv x0, iv x1, .unset] []) := by first | (simp [entryFrame, mkF, argsToLocals, Value.category]; done) | rfl
def f5_256_28 (x1 : Int32) (fa : Nat → Int32) : Nat → Int32 := own_cp own_z fa 0 0 (x1).toNatClampNeg
def Q5_256 (Z : State) (x0 : Addr) (x1 : Int32) (kx : ClassId) (fa : Nat → Int32) (h0 : Heap) (n0 : Nat) (v : Option Value) (h : Heap) (L : List Loc) : Prop := ∃ (b : Addr) (k : ClassId), v = some (.ref b) ∧ Fr n0 L ∧ Keep h0 h [] ∧ h0.size ≤ b ∧ Exa Z h b "[B" ∧ Arv Z h b k .byte x1 (own_fv (x1).toNatClampNeg (f5_256_28 x1 fa)) (.int (0 : Int32))
set_option maxRecDepth 65536 in
set_option maxHeartbeats 40000000 in
theorem rm5_256 (l : Launch) (Z : State) (a0 : Array Value) (hw : ∀ d ∈ tables_1, d.before a0 Z = true) (ws : List Jvm.Cond) (x0 : Addr) (x1 : Int32) (kx : ClassId) (fa : Nat → Int32) (h0 : Heap) (n0 : Nat) (Z0 : n0 ≤ h0.size) (V_x0 : Arv Z h0 x0 kx .byte (256 : Int32) (own_fv 256 fa) (.int (0 : Int32))) (p1 : ¬ x1 < (0 : Int32)) (p2 : x1 < (256 : Int32)) :
    MetFree l ym4 (head1 (Jvm.Cond.code ym4 jdk_65_method_121_code 3 (some (.array .byte)) :: ws) ({ frames := 1, cells := 1, slots := 256, locals := 18 } : Room)) (fun a U => a = #[(.ref x0), (.int x1)] ∧ Z.Warmed39 U.vm ∧ U.heap = h0) (fun _ _ _ _ _ => True) (fun _ U o U' => ∃ v L, o = .returned v ∧ (Q5_256 Z x0 x1 kx fa h0 n0) v U'.heap L ∧ FrameEnd U o U' L ({ frames := 1, cells := 1, slots := 256, locals := 18 } : Room).cells ({ frames := 1, cells := 1, slots := 256, locals := 18 } : Room).slots) := by
  refine MetFree.of_bodySF (plainFor_of_name pn5_256) hisR ?_
  intro p e s m args below meth c s₁ Bd hml0 hP hK
  obtain ⟨rfl, hZ, hh⟩ := hP
  have hx := Bd.exec
  have hby := Bd.bytes
  have hml : c.maxLocals = 3 := hml0
  have hlk : meth.locks = false := BodyLoose.notSynchronized Bd
  have hown : s.vm.findClass "java/util/Arrays" = some m.cls := findClass_of_methodNamed Bd.named
  have hnm := (name_of_methodNamed Bd.named Bd.method).1
  have w_0 := hw _ (List.mem_of_getElem? (i := 0) rfl)
  have w_24 := hw _ (List.mem_of_getElem? (i := 24) rfl)
  have w_25 := hw _ (List.mem_of_getElem? (i := 25) rfl)
  have w_26 := hw _ (List.mem_of_getElem? (i := 26) rfl)
  have w_27 := hw _ (List.mem_of_getElem? (i := 27) rfl)
  have w_28 := hw _ (List.mem_of_getElem? (i := 28) rfl)
  have w_29 := hw _ (List.mem_of_getElem? (i := 29) rfl)
  have w_30 := hw _ (List.mem_of_getElem? (i := 30) rfl)
  have w_31 := hw _ (List.mem_of_getElem? (i := 31) rfl)
  have hci : ∀ i v, (i, v) ∈ ([] : List (Nat × Int32)) → (Jvm.Cond.constant "java/util/Arrays" i v).before #[(.ref x0), (.int x1)] s = true := own_ci0
  have hcl : ∀ i v, (i, v) ∈ ([] : List (Nat × Int64)) → (Jvm.Cond.constantLong "java/util/Arrays" i v).before #[(.ref x0), (.int x1)] s = true := own_ci0
  have X0 : Stand p l e ({ frames := 1, cells := 1, slots := 256, locals := 18 } : Room) s m #[(.ref x0), (.int x1)] below meth c s₁ [] 0 0 := Stand.of_body Bd
  have e0 : s₁.heap = h0 := by rw [← hh, Bd.state]; rfl
  have N0 := Fr.nil n0
  show Goes p e below s (Q5_256 Z x0 x1 kx fa h0 n0) ({ frames := 1, cells := 1, slots := 256, locals := 18 } : Room).cells ({ frames := 1, cells := 1, slots := 256, locals := 18 } : Room).slots (s₁.setTop (entryFrame m #[(.ref x0), (.int x1)] 3))
  refine Goes.cast (ef5_256 m x0 x1) ?_
  have K0 : Keep h0 h0 [] := Keep.refl h0 _
  refine Goes.run X0 hx hown hci hcl hby (L := [(0, .iload_n 1, 1), (1, .aload_n 0, 1)]) (by decide +kernel) rfl (g' := (mkF m 2 #[rv x0, iv x1, .unset] [(.ref x0), (.int x1)])) rfl ?_
  obtain ⟨cl1, Ar1, q1, S1, M1, Hs1, G1⟩ := id V_x0
  refine Goes.st (B := s₁.setTop (mkF m 3 #[rv x0, iv x1, .unset] [(.int (256 : Int32)), (.int x1)])) (fun t k => ?_) ?_
  · refine X0.arraylength hx (cell := cl1) (by rw [e0]; exact Ar1.1) (State.isArrayOf_alike hZ.alike Ar1.2.1) (g := (mkF m 2 #[rv x0, iv x1, .unset] [(.ref x0), (.int x1)])) rfl (rest := [(.int x1)]) rfl (hb hby d5_2) _ ?_
    rw [len_of S1 M1]
    exact k
  have hc3_2 : ¬ (x1 = (256 : Int32)) := (own_ne p2)
  refine Goes.st (B := s₁.setTop (mkF m 14 #[rv x0, iv x1, .unset] [])) (fun t k => ?_) ?_
  · refine XS.icmpYes X0.here hx rfl (pc0 := 3) (pc' := 14) rfl (hb hby d5_3) rfl (feq hc3_2).2 (by decide) (by decide) ?_
    exact k
  refine Goes.run X0 hx hown hci hcl hby (L := [(14, .iload_n 1, 1)]) (by decide +kernel) rfl (g' := (mkF m 15 #[rv x0, iv x1, .unset] [(.int x1)])) rfl ?_
  obtain ⟨T3, h3, k3, X3, e3, E3, A3, B3, st3⟩ := newPE X0 hx hZ (aty := .byte) w_0 e0 (g := (mkF m 15 #[rv x0, iv x1, .unset] [(.int x1)])) rfl (hb hby d5_15) rfl p1 (cap := 256) (own_le256 p1 p2) (by decide) (by decide) (by decide) (ad := "[B") (by decide)
  obtain ⟨b3, g3⟩ : ∃ z, z = h0.size := ⟨_, rfl⟩
  rw [← g3] at A3 B3 st3
  have ne_x0_b3 : x0 ≠ b3 := Nat.ne_of_lt (Nat.lt_of_lt_of_le V_x0.lt (Nat.le_of_eq g3.symm))
  have g_b3 : n0 ≤ b3 := Nat.le_trans Z0 (Nat.le_of_eq g3.symm)
  have sz_b3 : h0.size ≤ b3 := Nat.le_trans K0.1 (Nat.le_of_eq g3.symm)
  have V_x0 := V_x0.ext E3
  have Zn3 : n0 ≤ h3.size := Nat.le_trans Z0 E3.1
  have K3 := K0.ext E3
  have E_b3 : Exa Z h3 b3 "[B" := B3
  have V_b3 : Arv Z h3 b3 k3 .byte x1 (own_fv (x1).toNatClampNeg own_z) (.int (0 : Int32)) := (Arv.new A3 p1).pad (own_fnew (x1).toNatClampNeg)
  refine Goes.st (B := T3.setTop (mkF m 17 #[rv x0, iv x1, .unset] [(.ref b3)])) st3 ?_
  refine Goes.run X3 hx hown hci hcl hby (L := [(17, .astore_n 2, 1), (18, .aload_n 0, 1), (19, .iconst 0, 1), (20, .aload_n 2, 1), (21, .iconst 0, 1), (22, .aload_n 0, 1)]) (by decide +kernel) rfl (g' := (mkF m 23 #[rv x0, iv x1, rv b3] [(.ref x0), (.int (0 : Int32)), (.ref b3), (.int (0 : Int32)), (.ref x0)])) rfl ?_
  obtain ⟨cl4, Ar4, q4, S4, M4, Hs4, G4⟩ := id V_x0
  refine Goes.st (B := T3.setTop (mkF m 24 #[rv x0, iv x1, rv b3] [(.int (256 : Int32)), (.int (0 : Int32)), (.ref b3), (.int (0 : Int32)), (.ref x0)])) (fun t k => ?_) ?_
  · refine X3.arraylength hx (cell := cl4) (by rw [e3]; exact Ar4.1) (State.isArrayOf_alike hZ.alike Ar4.2.1) (g := (mkF m 23 #[rv x0, iv x1, rv b3] [(.ref x0), (.int (0 : Int32)), (.ref b3), (.int (0 : Int32)), (.ref x0)])) rfl (rest := [(.int (0 : Int32)), (.ref b3), (.int (0 : Int32)), (.ref x0)]) rfl (hb hby d5_23) _ ?_
    rw [len_of S4 M4]
    exact k
  refine Goes.run X3 hx hown hci hcl hby (L := [(24, .iload_n 1, 1)]) (by decide +kernel) rfl (g' := (mkF m 25 #[rv x0, iv x1, rv b3] [(.int x1), (.int (256 : Int32)), (.int (0 : Int32)), (.ref b3), (.int (0 : Int32)), (.ref x0)])) rfl ?_
  obtain ⟨_, _, ⟨T5, L5, k5, n5⟩, -, X5, ⟨Lc5, hQ5, l5, y5, z5⟩, st5⟩ := Jvm.LawKit.callS X3 hx (y := ym1) hown (mvT hZ w_24) (mvT hZ w_25) (mvT hZ w_26) (mvT hZ w_27) (by decide) (backOf (W := 4) (rm2 l Z a0 hw [] (256 : Int32) x1 h3 n0 Zn3 p2) hZ w_27 w_26 (by decide) (by decide)) (g := (mkF m 25 #[rv x0, iv x1, rv b3] [(.int x1), (.int (256 : Int32)), (.int (0 : Int32)), (.ref b3), (.int (0 : Int32)), (.ref x0)])) rfl (by rw [hml]; rfl) (argsL := [(.int (256 : Int32)), (.int x1)]) (rest := [(.int (0 : Int32)), (.ref b3), (.int (0 : Int32)), (.ref x0)]) (lenOf pd5_256_0 rfl) rfl (by show 2 * 0 + _ ≤ _; exact Nat.le_of_eq rfl) (hb hby d5_25) (fun _ _ => ⟨rfl, e3, (by decide : 1 + 0 ≤ _), (by decide : 256 + 0 ≤ _)⟩)
  dsimp only [Pt.U, Pt.locs, Pt.cells, Pt.slots] at X5 l5 y5 z5 st5 hQ5
  subst l5 y5 z5
  obtain ⟨rfl, N5q, e5⟩ := hQ5
  have N5 := Fr.app N0 N5q
  refine Goes.st (B := T5.setTop (mkF m 28 #[rv x0, iv x1, rv b3] [(.int x1), (.int (0 : Int32)), (.ref b3), (.int (0 : Int32)), (.ref x0)])) st5 ?_
  obtain ⟨T6, h6, L6, X6, e6, N6, Kq6, Vq6, st6⟩ := cpA X5 hx hZ hown w_28 w_31 w_29 w_30 e5 V_x0 V_b3 (Or.inl ⟨rfl, rfl⟩) (sp := (0 : Int32)) (dp := (0 : Int32)) (nn := x1) (by decide) (by decide) p1 (own_h4 p1 p2) (own_h5 x1) rfl (by rw [own_flen]; exact (own_h5 x1)) N5 g_b3 (g := (mkF m 28 #[rv x0, iv x1, rv b3] [(.int x1), (.int (0 : Int32)), (.ref b3), (.int (0 : Int32)), (.ref x0)])) rfl (by rw [hml]; rfl) (rest := []) rfl (hb hby d5_28) (by decide) (W := 0) (by show 2 * 0 + _ ≤ _; exact Nat.le_of_eq rfl) (by decide)
  have V_x0 := V_x0.keep Kq6 (ninS ne_x0_b3 nin0)
  have E_b3 := E_b3.keep Kq6
  have Zn6 : n0 ≤ h6.size := Nat.le_trans Zn3 Kq6.1
  have K6 := K3.trans Kq6 ((allS (Or.inr sz_b3) all0))
  have V_b3 : Arv Z h6 b3 k3 .byte x1 (own_fv (x1).toNatClampNeg (f5_256_28 x1 fa)) (.int (0 : Int32)) := Vq6.pad (own_fcp (x1).toNatClampNeg 256 own_z fa 0 0 (x1).toNatClampNeg (own_h5 x1) (own_h4 p1 p2))
  refine Goes.st (B := T6.setTop (mkF m 31 #[rv x0, iv x1, rv b3] [])) st6 ?_
  refine Goes.run X6 hx hown hci hcl hby (L := [(31, .aload_n 2, 1)]) (by decide +kernel) rfl (g' := (mkF m 32 #[rv x0, iv x1, rv b3] [(.ref b3)])) rfl ?_
  refine Goes.retR X6 hx hlk Bd.returns rfl rfl (hb hby d5_32) ?_ (by decide) (by decide)
  show (Q5_256 Z x0 x1 kx fa h0 n0) _ _ _
  rw [e6]
  exact ⟨b3, k3, rfl, N6, K6, sz_b3, E_b3, V_b3⟩
theorem pn5_512 : plainName "java/util/Arrays" = true := by first | (simp [plainName, overriddenIn]; done) | decide +kernel
theorem pd5_512_0 : parseMethodDescriptor "(II)I" = some ⟨[.int, .int], some .int⟩ := by decide +kernel
theorem ef5_512 (m : MethodId) (x0 : Addr) (x1 : Int32) : entryFrame m #[(.ref x0), (.int x1)] 3 = (mkF m 0 #[rv x0, iv x1, .unset] []) := by first | (simp [entryFrame, mkF, argsToLocals, Value.category]; done) | rfl
def f5_512_28 (x1 : Int32) (fa : Nat → Int32) : Nat → Int32 := own_cp own_z fa 0 0 (x1).toNatClampNeg
def Q5_512 (Z : State) (x0 : Addr) (x1 : Int32) (kx : ClassId) (fa : Nat → Int32) (h0 : Heap) (n0 : Nat) (v : Option Value) (h : Heap) (L : List Loc) : Prop := ∃ (b : Addr) (k : ClassId), v = some (.ref b) ∧ Fr n0 L ∧ Keep h0 h [] ∧ h0.size ≤ b ∧ Exa Z h b "[B" ∧ Arv Z h b k .byte x1 (own_fv (x1).toNatClampNeg (f5_512_28 x1 fa)) (.int (0 : Int32))
set_option maxRecDepth 65536 in
set_option maxHeartbeats 40000000 in
theorem rm5_512 (l : Launch) (Z : State) (a0 : Array Value) (hw : ∀ d ∈ tables_1, d.before a0 Z = true) (ws : List Jvm.Cond) (x0 : Addr) (x1 : Int32) (kx : ClassId) (fa : Nat → Int32) (h0 : Heap) (n0 : Nat) (Z0 : n0 ≤ h0.size) (V_x0 : Arv Z h0 x0 kx .byte (512 : Int32) (own_fv 512 fa) (.int (0 : Int32))) (p1 : ¬ x1 < (0 : Int32)) (p2 : x1 < (512 : Int32)) :
    MetFree l ym4 (head1 (Jvm.Cond.code ym4 jdk_65_method_121_code 3 (some (.array .byte)) :: ws) ({ frames := 1, cells := 1, slots := 512, locals := 18 } : Room)) (fun a U => a = #[(.ref x0), (.int x1)] ∧ Z.Warmed39 U.vm ∧ U.heap = h0) (fun _ _ _ _ _ => True) (fun _ U o U' => ∃ v L, o = .returned v ∧ (Q5_512 Z x0 x1 kx fa h0 n0) v U'.heap L ∧ FrameEnd U o U' L ({ frames := 1, cells := 1, slots := 512, locals := 18 } : Room).cells ({ frames := 1, cells := 1, slots := 512, locals := 18 } : Room).slots) := by
  refine MetFree.of_bodySF (plainFor_of_name pn5_512) hisR ?_
  intro p e s m args below meth c s₁ Bd hml0 hP hK
  obtain ⟨rfl, hZ, hh⟩ := hP
  have hx := Bd.exec
  have hby := Bd.bytes
  have hml : c.maxLocals = 3 := hml0
  have hlk : meth.locks = false := BodyLoose.notSynchronized Bd
  have hown : s.vm.findClass "java/util/Arrays" = some m.cls := findClass_of_methodNamed Bd.named
  have hnm := (name_of_methodNamed Bd.named Bd.method).1
  have w_0 := hw _ (List.mem_of_getElem? (i := 0) rfl)
  have w_24 := hw _ (List.mem_of_getElem? (i := 24) rfl)
  have w_25 := hw _ (List.mem_of_getElem? (i := 25) rfl)
  have w_26 := hw _ (List.mem_of_getElem? (i := 26) rfl)
  have w_27 := hw _ (List.mem_of_getElem? (i := 27) rfl)
  have w_28 := hw _ (List.mem_of_getElem? (i := 28) rfl)
  have w_29 := hw _ (List.mem_of_getElem? (i := 29) rfl)
  have w_30 := hw _ (List.mem_of_getElem? (i := 30) rfl)
  have w_31 := hw _ (List.mem_of_getElem? (i := 31) rfl)
  have hci : ∀ i v, (i, v) ∈ ([] : List (Nat × Int32)) → (Jvm.Cond.constant "java/util/Arrays" i v).before #[(.ref x0), (.int x1)] s = true := own_ci0
  have hcl : ∀ i v, (i, v) ∈ ([] : List (Nat × Int64)) → (Jvm.Cond.constantLong "java/util/Arrays" i v).before #[(.ref x0), (.int x1)] s = true := own_ci0
  have X0 : Stand p l e ({ frames := 1, cells := 1, slots := 512, locals := 18 } : Room) s m #[(.ref x0), (.int x1)] below meth c s₁ [] 0 0 := Stand.of_body Bd
  have e0 : s₁.heap = h0 := by rw [← hh, Bd.state]; rfl
  have N0 := Fr.nil n0
  show Goes p e below s (Q5_512 Z x0 x1 kx fa h0 n0) ({ frames := 1, cells := 1, slots := 512, locals := 18 } : Room).cells ({ frames := 1, cells := 1, slots := 512, locals := 18 } : Room).slots (s₁.setTop (entryFrame m #[(.ref x0), (.int x1)] 3))
  refine Goes.cast (ef5_512 m x0 x1) ?_
  have K0 : Keep h0 h0 [] := Keep.refl h0 _
  refine Goes.run X0 hx hown hci hcl hby (L := [(0, .iload_n 1, 1), (1, .aload_n 0, 1)]) (by decide +kernel) rfl (g' := (mkF m 2 #[rv x0, iv x1, .unset] [(.ref x0), (.int x1)])) rfl ?_
  obtain ⟨cl1, Ar1, q1, S1, M1, Hs1, G1⟩ := id V_x0
  refine Goes.st (B := s₁.setTop (mkF m 3 #[rv x0, iv x1, .unset] [(.int (512 : Int32)), (.int x1)])) (fun t k => ?_) ?_
  · refine X0.arraylength hx (cell := cl1) (by rw [e0]; exact Ar1.1) (State.isArrayOf_alike hZ.alike Ar1.2.1) (g := (mkF m 2 #[rv x0, iv x1, .unset] [(.ref x0), (.int x1)])) rfl (rest := [(.int x1)]) rfl (hb hby d5_2) _ ?_
    rw [len_of S1 M1]
    exact k
  have hc3_2 : ¬ (x1 = (512 : Int32)) := (own_ne p2)
  refine Goes.st (B := s₁.setTop (mkF m 14 #[rv x0, iv x1, .unset] [])) (fun t k => ?_) ?_
  · refine XS.icmpYes X0.here hx rfl (pc0 := 3) (pc' := 14) rfl (hb hby d5_3) rfl (feq hc3_2).2 (by decide) (by decide) ?_
    exact k
  refine Goes.run X0 hx hown hci hcl hby (L := [(14, .iload_n 1, 1)]) (by decide +kernel) rfl (g' := (mkF m 15 #[rv x0, iv x1, .unset] [(.int x1)])) rfl ?_
  obtain ⟨T3, h3, k3, X3, e3, E3, A3, B3, st3⟩ := newPE X0 hx hZ (aty := .byte) w_0 e0 (g := (mkF m 15 #[rv x0, iv x1, .unset] [(.int x1)])) rfl (hb hby d5_15) rfl p1 (cap := 512) (own_le512 p1 p2) (by decide) (by decide) (by decide) (ad := "[B") (by decide)
  obtain ⟨b3, g3⟩ : ∃ z, z = h0.size := ⟨_, rfl⟩
  rw [← g3] at A3 B3 st3
  have ne_x0_b3 : x0 ≠ b3 := Nat.ne_of_lt (Nat.lt_of_lt_of_le V_x0.lt (Nat.le_of_eq g3.symm))
  have g_b3 : n0 ≤ b3 := Nat.le_trans Z0 (Nat.le_of_eq g3.symm)
  have sz_b3 : h0.size ≤ b3 := Nat.le_trans K0.1 (Nat.le_of_eq g3.symm)
  have V_x0 := V_x0.ext E3
  have Zn3 : n0 ≤ h3.size := Nat.le_trans Z0 E3.1
  have K3 := K0.ext E3
  have E_b3 : Exa Z h3 b3 "[B" := B3
  have V_b3 : Arv Z h3 b3 k3 .byte x1 (own_fv (x1).toNatClampNeg own_z) (.int (0 : Int32)) := (Arv.new A3 p1).pad (own_fnew (x1).toNatClampNeg)
  refine Goes.st (B := T3.setTop (mkF m 17 #[rv x0, iv x1, .unset] [(.ref b3)])) st3 ?_
  refine Goes.run X3 hx hown hci hcl hby (L := [(17, .astore_n 2, 1), (18, .aload_n 0, 1), (19, .iconst 0, 1), (20, .aload_n 2, 1), (21, .iconst 0, 1), (22, .aload_n 0, 1)]) (by decide +kernel) rfl (g' := (mkF m 23 #[rv x0, iv x1, rv b3] [(.ref x0), (.int (0 : Int32)), (.ref b3), (.int (0 : Int32)), (.ref x0)])) rfl ?_
  obtain ⟨cl4, Ar4, q4, S4, M4, Hs4, G4⟩ := id V_x0
  refine Goes.st (B := T3.setTop (mkF m 24 #[rv x0, iv x1, rv b3] [(.int (512 : Int32)), (.int (0 : Int32)), (.ref b3), (.int (0 : Int32)), (.ref x0)])) (fun t k => ?_) ?_
  · refine X3.arraylength hx (cell := cl4) (by rw [e3]; exact Ar4.1) (State.isArrayOf_alike hZ.alike Ar4.2.1) (g := (mkF m 23 #[rv x0, iv x1, rv b3] [(.ref x0), (.int (0 : Int32)), (.ref b3), (.int (0 : Int32)), (.ref x0)])) rfl (rest := [(.int (0 : Int32)), (.ref b3), (.int (0 : Int32)), (.ref x0)]) rfl (hb hby d5_23) _ ?_
    rw [len_of S4 M4]
    exact k
  refine Goes.run X3 hx hown hci hcl hby (L := [(24, .iload_n 1, 1)]) (by decide +kernel) rfl (g' := (mkF m 25 #[rv x0, iv x1, rv b3] [(.int x1), (.int (512 : Int32)), (.int (0 : Int32)), (.ref b3), (.int (0 : Int32)), (.ref x0)])) rfl ?_
  obtain ⟨_, _, ⟨T5, L5, k5, n5⟩, -, X5, ⟨Lc5, hQ5, l5, y5, z5⟩, st5⟩ := Jvm.LawKit.callS X3 hx (y := ym1) hown (mvT hZ w_24) (mvT hZ w_25) (mvT hZ w_26) (mvT hZ w_27) (by decide) (backOf (W := 4) (rm2 l Z a0 hw [] (512 : Int32) x1 h3 n0 Zn3 p2) hZ w_27 w_26 (by decide) (by decide)) (g := (mkF m 25 #[rv x0, iv x1, rv b3] [(.int x1), (.int (512 : Int32)), (.int (0 : Int32)), (.ref b3), (.int (0 : Int32)), (.ref x0)])) rfl (by rw [hml]; rfl) (argsL := [(.int (512 : Int32)), (.int x1)]) (rest := [(.int (0 : Int32)), (.ref b3), (.int (0 : Int32)), (.ref x0)]) (lenOf pd5_512_0 rfl) rfl (by show 2 * 0 + _ ≤ _; exact Nat.le_of_eq rfl) (hb hby d5_25) (fun _ _ => ⟨rfl, e3, (by decide : 1 + 0 ≤ _), (by decide : 512 + 0 ≤ _)⟩)
  dsimp only [Pt.U, Pt.locs, Pt.cells, Pt.slots] at X5 l5 y5 z5 st5 hQ5
  subst l5 y5 z5
  obtain ⟨rfl, N5q, e5⟩ := hQ5
  have N5 := Fr.app N0 N5q
  refine Goes.st (B := T5.setTop (mkF m 28 #[rv x0, iv x1, rv b3] [(.int x1), (.int (0 : Int32)), (.ref b3), (.int (0 : Int32)), (.ref x0)])) st5 ?_
  obtain ⟨T6, h6, L6, X6, e6, N6, Kq6, Vq6, st6⟩ := cpA X5 hx hZ hown w_28 w_31 w_29 w_30 e5 V_x0 V_b3 (Or.inl ⟨rfl, rfl⟩) (sp := (0 : Int32)) (dp := (0 : Int32)) (nn := x1) (by decide) (by decide) p1 (own_h4 p1 p2) (own_h5 x1) rfl (by rw [own_flen]; exact (own_h5 x1)) N5 g_b3 (g := (mkF m 28 #[rv x0, iv x1, rv b3] [(.int x1), (.int (0 : Int32)), (.ref b3), (.int (0 : Int32)), (.ref x0)])) rfl (by rw [hml]; rfl) (rest := []) rfl (hb hby d5_28) (by decide) (W := 0) (by show 2 * 0 + _ ≤ _; exact Nat.le_of_eq rfl) (by decide)
  have V_x0 := V_x0.keep Kq6 (ninS ne_x0_b3 nin0)
  have E_b3 := E_b3.keep Kq6
  have Zn6 : n0 ≤ h6.size := Nat.le_trans Zn3 Kq6.1
  have K6 := K3.trans Kq6 ((allS (Or.inr sz_b3) all0))
  have V_b3 : Arv Z h6 b3 k3 .byte x1 (own_fv (x1).toNatClampNeg (f5_512_28 x1 fa)) (.int (0 : Int32)) := Vq6.pad (own_fcp (x1).toNatClampNeg 512 own_z fa 0 0 (x1).toNatClampNeg (own_h5 x1) (own_h4 p1 p2))
  refine Goes.st (B := T6.setTop (mkF m 31 #[rv x0, iv x1, rv b3] [])) st6 ?_
  refine Goes.run X6 hx hown hci hcl hby (L := [(31, .aload_n 2, 1)]) (by decide +kernel) rfl (g' := (mkF m 32 #[rv x0, iv x1, rv b3] [(.ref b3)])) rfl ?_
  refine Goes.retR X6 hx hlk Bd.returns rfl rfl (hb hby d5_32) ?_ (by decide) (by decide)
  show (Q5_512 Z x0 x1 kx fa h0 n0) _ _ _
  rw [e6]
  exact ⟨b3, k3, rfl, N6, K6, sz_b3, E_b3, V_b3⟩
theorem pn6 : plainName "java/util/Arrays" = true := by first | (simp [plainName, overriddenIn]; done) | decide +kernel
theorem pd6_0 : parseMethodDescriptor "(II)I" = some ⟨[.int, .int], some .int⟩ := by decide +kernel
theorem ef6 (m : MethodId) (x0 : Addr) : entryFrame m #[(.ref x0), (.int (512 : Int32))] 3 = (mkF m 0 #[rv x0, iv (512 : Int32), .unset] []) := by first | (simp [entryFrame, mkF, argsToLocals, Value.category]; done) | rfl
def f6_28 (fa : Nat → Int32) : Nat → Int32 := own_cp own_z fa 0 0 256
def Q6 (Z : State) (x0 : Addr) (kx : ClassId) (fa : Nat → Int32) (h0 : Heap) (n0 : Nat) (v : Option Value) (h : Heap) (L : List Loc) : Prop := ∃ (b : Addr) (k : ClassId), v = some (.ref b) ∧ Fr n0 L ∧ Keep h0 h [] ∧ h0.size ≤ b ∧ Exa Z h b "[B" ∧ Arv Z h b k .byte (512 : Int32) (own_fv 512 (f6_28 fa)) (.int (0 : Int32))
set_option maxRecDepth 65536 in
set_option maxHeartbeats 40000000 in
theorem rm6 (l : Launch) (Z : State) (a0 : Array Value) (hw : ∀ d ∈ tables_1, d.before a0 Z = true) (ws : List Jvm.Cond) (x0 : Addr) (kx : ClassId) (fa : Nat → Int32) (h0 : Heap) (n0 : Nat) (Z0 : n0 ≤ h0.size) (V_x0 : Arv Z h0 x0 kx .byte (256 : Int32) (own_fv 256 fa) (.int (0 : Int32))) :
    MetFree l ym4 (head1 (Jvm.Cond.code ym4 jdk_65_method_121_code 3 (some (.array .byte)) :: ws) ({ frames := 1, cells := 1, slots := 512, locals := 18 } : Room)) (fun a U => a = #[(.ref x0), (.int (512 : Int32))] ∧ Z.Warmed39 U.vm ∧ U.heap = h0) (fun _ _ _ _ _ => True) (fun _ U o U' => ∃ v L, o = .returned v ∧ (Q6 Z x0 kx fa h0 n0) v U'.heap L ∧ FrameEnd U o U' L ({ frames := 1, cells := 1, slots := 512, locals := 18 } : Room).cells ({ frames := 1, cells := 1, slots := 512, locals := 18 } : Room).slots) := by
  refine MetFree.of_bodySF (plainFor_of_name pn6) hisR ?_
  intro p e s m args below meth c s₁ Bd hml0 hP hK
  obtain ⟨rfl, hZ, hh⟩ := hP
  have hx := Bd.exec
  have hby := Bd.bytes
  have hml : c.maxLocals = 3 := hml0
  have hlk : meth.locks = false := BodyLoose.notSynchronized Bd
  have hown : s.vm.findClass "java/util/Arrays" = some m.cls := findClass_of_methodNamed Bd.named
  have hnm := (name_of_methodNamed Bd.named Bd.method).1
  have w_0 := hw _ (List.mem_of_getElem? (i := 0) rfl)
  have w_24 := hw _ (List.mem_of_getElem? (i := 24) rfl)
  have w_25 := hw _ (List.mem_of_getElem? (i := 25) rfl)
  have w_26 := hw _ (List.mem_of_getElem? (i := 26) rfl)
  have w_27 := hw _ (List.mem_of_getElem? (i := 27) rfl)
  have w_28 := hw _ (List.mem_of_getElem? (i := 28) rfl)
  have w_29 := hw _ (List.mem_of_getElem? (i := 29) rfl)
  have w_30 := hw _ (List.mem_of_getElem? (i := 30) rfl)
  have w_31 := hw _ (List.mem_of_getElem? (i := 31) rfl)
  have hci : ∀ i v, (i, v) ∈ ([] : List (Nat × Int32)) → (Jvm.Cond.constant "java/util/Arrays" i v).before #[(.ref x0), (.int (512 : Int32))] s = true := own_ci0
  have hcl : ∀ i v, (i, v) ∈ ([] : List (Nat × Int64)) → (Jvm.Cond.constantLong "java/util/Arrays" i v).before #[(.ref x0), (.int (512 : Int32))] s = true := own_ci0
  have X0 : Stand p l e ({ frames := 1, cells := 1, slots := 512, locals := 18 } : Room) s m #[(.ref x0), (.int (512 : Int32))] below meth c s₁ [] 0 0 := Stand.of_body Bd
  have e0 : s₁.heap = h0 := by rw [← hh, Bd.state]; rfl
  have N0 := Fr.nil n0
  show Goes p e below s (Q6 Z x0 kx fa h0 n0) ({ frames := 1, cells := 1, slots := 512, locals := 18 } : Room).cells ({ frames := 1, cells := 1, slots := 512, locals := 18 } : Room).slots (s₁.setTop (entryFrame m #[(.ref x0), (.int (512 : Int32))] 3))
  refine Goes.cast (ef6 m x0) ?_
  have K0 : Keep h0 h0 [] := Keep.refl h0 _
  refine Goes.run X0 hx hown hci hcl hby (L := [(0, .iload_n 1, 1), (1, .aload_n 0, 1)]) (by decide +kernel) rfl (g' := (mkF m 2 #[rv x0, iv (512 : Int32), .unset] [(.ref x0), (.int (512 : Int32))])) rfl ?_
  obtain ⟨cl1, Ar1, q1, S1, M1, Hs1, G1⟩ := id V_x0
  refine Goes.st (B := s₁.setTop (mkF m 3 #[rv x0, iv (512 : Int32), .unset] [(.int (256 : Int32)), (.int (512 : Int32))])) (fun t k => ?_) ?_
  · refine X0.arraylength hx (cell := cl1) (by rw [e0]; exact Ar1.1) (State.isArrayOf_alike hZ.alike Ar1.2.1) (g := (mkF m 2 #[rv x0, iv (512 : Int32), .unset] [(.ref x0), (.int (512 : Int32))])) rfl (rest := [(.int (512 : Int32))]) rfl (hb hby d5_2) _ ?_
    rw [len_of S1 M1]
    exact k
  have hc3_2 : ¬ ((512 : Int32) = (256 : Int32)) := by decide
  refine Goes.st (B := s₁.setTop (mkF m 14 #[rv x0, iv (512 : Int32), .unset] [])) (fun t k => ?_) ?_
  · refine XS.icmpYes X0.here hx rfl (pc0 := 3) (pc' := 14) rfl (hb hby d5_3) rfl (feq hc3_2).2 (by decide) (by decide) ?_
    exact k
  refine Goes.run X0 hx hown hci hcl hby (L := [(14, .iload_n 1, 1)]) (by decide +kernel) rfl (g' := (mkF m 15 #[rv x0, iv (512 : Int32), .unset] [(.int (512 : Int32))])) rfl ?_
  obtain ⟨T3, h3, k3, X3, e3, E3, A3, B3, st3⟩ := newPE X0 hx hZ (aty := .byte) w_0 e0 (g := (mkF m 15 #[rv x0, iv (512 : Int32), .unset] [(.int (512 : Int32))])) rfl (hb hby d5_15) rfl (by decide) (cap := 512) (by decide) (by decide) (by decide) (by decide) (ad := "[B") (by decide)
  obtain ⟨b3, g3⟩ : ∃ z, z = h0.size := ⟨_, rfl⟩
  rw [← g3] at A3 B3 st3
  have ne_x0_b3 : x0 ≠ b3 := Nat.ne_of_lt (Nat.lt_of_lt_of_le V_x0.lt (Nat.le_of_eq g3.symm))
  have g_b3 : n0 ≤ b3 := Nat.le_trans Z0 (Nat.le_of_eq g3.symm)
  have sz_b3 : h0.size ≤ b3 := Nat.le_trans K0.1 (Nat.le_of_eq g3.symm)
  have V_x0 := V_x0.ext E3
  have Zn3 : n0 ≤ h3.size := Nat.le_trans Z0 E3.1
  have K3 := K0.ext E3
  have E_b3 : Exa Z h3 b3 "[B" := B3
  have V_b3 : Arv Z h3 b3 k3 .byte (512 : Int32) (own_fv 512 own_z) (.int (0 : Int32)) := (Arv.new A3 (by decide)).pad (own_fnew 512)
  refine Goes.st (B := T3.setTop (mkF m 17 #[rv x0, iv (512 : Int32), .unset] [(.ref b3)])) st3 ?_
  refine Goes.run X3 hx hown hci hcl hby (L := [(17, .astore_n 2, 1), (18, .aload_n 0, 1), (19, .iconst 0, 1), (20, .aload_n 2, 1), (21, .iconst 0, 1), (22, .aload_n 0, 1)]) (by decide +kernel) rfl (g' := (mkF m 23 #[rv x0, iv (512 : Int32), rv b3] [(.ref x0), (.int (0 : Int32)), (.ref b3), (.int (0 : Int32)), (.ref x0)])) rfl ?_
  obtain ⟨cl4, Ar4, q4, S4, M4, Hs4, G4⟩ := id V_x0
  refine Goes.st (B := T3.setTop (mkF m 24 #[rv x0, iv (512 : Int32), rv b3] [(.int (256 : Int32)), (.int (0 : Int32)), (.ref b3), (.int (0 : Int32)), (.ref x0)])) (fun t k => ?_) ?_
  · refine X3.arraylength hx (cell := cl4) (by rw [e3]; exact Ar4.1) (State.isArrayOf_alike hZ.alike Ar4.2.1) (g := (mkF m 23 #[rv x0, iv (512 : Int32), rv b3] [(.ref x0), (.int (0 : Int32)), (.ref b3), (.int (0 : Int32)), (.ref x0)])) rfl (rest := [(.int (0 : Int32)), (.ref b3), (.int (0 : Int32)), (.ref x0)]) rfl (hb hby d5_23) _ ?_
    rw [len_of S4 M4]
    exact k
  refine Goes.run X3 hx hown hci hcl hby (L := [(24, .iload_n 1, 1)]) (by decide +kernel) rfl (g' := (mkF m 25 #[rv x0, iv (512 : Int32), rv b3] [(.int (512 : Int32)), (.int (256 : Int32)), (.int (0 : Int32)), (.ref b3), (.int (0 : Int32)), (.ref x0)])) rfl ?_
  obtain ⟨_, _, ⟨T5, L5, k5, n5⟩, -, X5, ⟨Lc5, hQ5, l5, y5, z5⟩, st5⟩ := Jvm.LawKit.callS X3 hx (y := ym1) hown (mvT hZ w_24) (mvT hZ w_25) (mvT hZ w_26) (mvT hZ w_27) (by decide) (backOf (W := 4) (rm2K l Z a0 hw []  h3 n0 Zn3 ) hZ w_27 w_26 (by decide) (by decide)) (g := (mkF m 25 #[rv x0, iv (512 : Int32), rv b3] [(.int (512 : Int32)), (.int (256 : Int32)), (.int (0 : Int32)), (.ref b3), (.int (0 : Int32)), (.ref x0)])) rfl (by rw [hml]; rfl) (argsL := [(.int (256 : Int32)), (.int (512 : Int32))]) (rest := [(.int (0 : Int32)), (.ref b3), (.int (0 : Int32)), (.ref x0)]) (lenOf pd6_0 rfl) rfl (by show 2 * 0 + _ ≤ _; exact Nat.le_of_eq rfl) (hb hby d5_25) (fun _ _ => ⟨rfl, e3, (by decide : 1 + 0 ≤ _), (by decide : 512 + 0 ≤ _)⟩)
  dsimp only [Pt.U, Pt.locs, Pt.cells, Pt.slots] at X5 l5 y5 z5 st5 hQ5
  subst l5 y5 z5
  obtain ⟨rfl, N5q, e5⟩ := hQ5
  have N5 := Fr.app N0 N5q
  refine Goes.st (B := T5.setTop (mkF m 28 #[rv x0, iv (512 : Int32), rv b3] [(.int (256 : Int32)), (.int (0 : Int32)), (.ref b3), (.int (0 : Int32)), (.ref x0)])) st5 ?_
  obtain ⟨T6, h6, L6, X6, e6, N6, Kq6, Vq6, st6⟩ := cpA X5 hx hZ hown w_28 w_31 w_29 w_30 e5 V_x0 V_b3 (Or.inl ⟨rfl, rfl⟩) (sp := (0 : Int32)) (dp := (0 : Int32)) (nn := (256 : Int32)) (by decide) (by decide) (by decide) (by decide) (by decide) rfl (by rw [own_flen]; exact (by decide)) N5 g_b3 (g := (mkF m 28 #[rv x0, iv (512 : Int32), rv b3] [(.int (256 : Int32)), (.int (0 : Int32)), (.ref b3), (.int (0 : Int32)), (.ref x0)])) rfl (by rw [hml]; rfl) (rest := []) rfl (hb hby d5_28) (by decide) (W := 0) (by show 2 * 0 + _ ≤ _; exact Nat.le_of_eq rfl) (by decide)
  have V_x0 := V_x0.keep Kq6 (ninS ne_x0_b3 nin0)
  have E_b3 := E_b3.keep Kq6
  have Zn6 : n0 ≤ h6.size := Nat.le_trans Zn3 Kq6.1
  have K6 := K3.trans Kq6 ((allS (Or.inr sz_b3) all0))
  have V_b3 : Arv Z h6 b3 k3 .byte (512 : Int32) (own_fv 512 (f6_28 fa)) (.int (0 : Int32)) := Vq6.pad (own_fcp 512 256 own_z fa 0 0 256 (by decide) (by decide))
  refine Goes.st (B := T6.setTop (mkF m 31 #[rv x0, iv (512 : Int32), rv b3] [])) st6 ?_
  refine Goes.run X6 hx hown hci hcl hby (L := [(31, .aload_n 2, 1)]) (by decide +kernel) rfl (g' := (mkF m 32 #[rv x0, iv (512 : Int32), rv b3] [(.ref b3)])) rfl ?_
  refine Goes.retR X6 hx hlk Bd.returns rfl rfl (hb hby d5_32) ?_ (by decide) (by decide)
  show (Q6 Z x0 kx fa h0 n0) _ _ _
  rw [e6]
  exact ⟨b3, k3, rfl, N6, K6, sz_b3, E_b3, V_b3⟩
theorem d6_5 : decode prog_8_method_2_code 5 = .ok (.arraylength, 1) := by decide +kernel
theorem d6_9 : decode prog_8_method_2_code 9 = .ok (.invokestatic 11, 3) := by decide +kernel
theorem d6_15 : decode prog_8_method_2_code 15 = .ok (.invokestatic 21, 3) := by decide +kernel
theorem d6_19 : decode prog_8_method_2_code 19 = .ok (.invokestatic 24, 3) := by decide +kernel
theorem d6_22 : decode prog_8_method_2_code 22 = .ok (.areturn, 1) := by decide +kernel
theorem pn7 : plainName "com/example/upcaster/upcaster/io/Buffers" = true := by first | (simp [plainName, overriddenIn]; done) | decide +kernel
theorem pd7_0 : parseMethodDescriptor "(JJ)J" = some ⟨[.long, .long], some .long⟩ := by decide +kernel
theorem pd7_1 : parseMethodDescriptor "([BI)[B" = some ⟨[(.array .byte), .int], some (.array .byte)⟩ := by decide +kernel
theorem ef7 (m : MethodId) (x0 : Addr) : entryFrame m #[(.ref x0), (.long (304 : Int64))] 3 = (mkF m 0 #[rv x0, jv (304 : Int64), .second] []) := by first | (simp [entryFrame, mkF, argsToLocals, Value.category]; done) | rfl
def c7_9_1 (fa : Nat → Int32) : Int64 := ((2 : Int64) * ((256 : Int32).toInt64))
def c7_19_0 (fa : Nat → Int32) : Int32 := ((512 : Int64).toInt32)
def Q7 (Z : State) (x0 : Addr) (kx : ClassId) (fa : Nat → Int32) (h0 : Heap) (n0 : Nat) (v : Option Value) (h : Heap) (L : List Loc) : Prop := ∃ (b : Addr) (k : ClassId), v = some (.ref b) ∧ Fr n0 L ∧ Keep h0 h [] ∧ h0.size ≤ b ∧ Exa Z h b "[B" ∧ Arv Z h b k .byte (512 : Int32) (own_fv 512 (f6_28 fa)) (.int (0 : Int32))
set_option maxRecDepth 65536 in
set_option maxHeartbeats 40000000 in
theorem rm7 (l : Launch) (Z : State) (a0 : Array Value) (hw : ∀ d ∈ tables_1, d.before a0 Z = true) (ws : List Jvm.Cond) (x0 : Addr) (kx : ClassId) (fa : Nat → Int32) (h0 : Heap) (n0 : Nat) (Z0 : n0 ≤ h0.size) (V_x0 : Arv Z h0 x0 kx .byte (256 : Int32) (own_fv 256 fa) (.int (0 : Int32))) :
    MetFree l ym5 (head1 (Jvm.Cond.code ym5 prog_8_method_2_code 3 (some (.array .byte)) :: ws) ({ frames := 2, cells := 1, slots := 512, locals := 32 } : Room)) (fun a U => a = #[(.ref x0), (.long (304 : Int64))] ∧ Z.Warmed39 U.vm ∧ U.heap = h0) (fun _ _ _ _ _ => True) (fun _ U o U' => ∃ v L, o = .returned v ∧ (Q7 Z x0 kx fa h0 n0) v U'.heap L ∧ FrameEnd U o U' L ({ frames := 2, cells := 1, slots := 512, locals := 32 } : Room).cells ({ frames := 2, cells := 1, slots := 512, locals := 32 } : Room).slots) := by
  refine MetFree.of_bodySF (plainFor_of_name pn7) hisR ?_
  intro p e s m args below meth c s₁ Bd hml0 hP hK
  obtain ⟨rfl, hZ, hh⟩ := hP
  have hx := Bd.exec
  have hby := Bd.bytes
  have hml : c.maxLocals = 3 := hml0
  have hlk : meth.locks = false := BodyLoose.notSynchronized Bd
  have hown : s.vm.findClass "com/example/upcaster/upcaster/io/Buffers" = some m.cls := findClass_of_methodNamed Bd.named
  have hnm := (name_of_methodNamed Bd.named Bd.method).1
  have w_21 := hw _ (List.mem_of_getElem? (i := 21) rfl)
  have w_22 := hw _ (List.mem_of_getElem? (i := 22) rfl)
  have w_23 := hw _ (List.mem_of_getElem? (i := 23) rfl)
  have w_26 := hw _ (List.mem_of_getElem? (i := 26) rfl)
  have w_52 := hw _ (List.mem_of_getElem? (i := 52) rfl)
  have w_53 := hw _ (List.mem_of_getElem? (i := 53) rfl)
  have w_54 := hw _ (List.mem_of_getElem? (i := 54) rfl)
  have w_55 := hw _ (List.mem_of_getElem? (i := 55) rfl)
  have w_56 := hw _ (List.mem_of_getElem? (i := 56) rfl)
  have w_57 := hw _ (List.mem_of_getElem? (i := 57) rfl)
  have w_58 := hw _ (List.mem_of_getElem? (i := 58) rfl)
  have w_59 := hw _ (List.mem_of_getElem? (i := 59) rfl)
  have w_60 := hw _ (List.mem_of_getElem? (i := 60) rfl)
  have hci : ∀ i v, (i, v) ∈ ([] : List (Nat × Int32)) → (Jvm.Cond.constant "com/example/upcaster/upcaster/io/Buffers" i v).before #[(.ref x0), (.long (304 : Int64))] s = true := own_ci0
  have hcl : ∀ i v, (i, v) ∈ ([(9, 2), (19, 2147483639)] : List (Nat × Int64)) → (Jvm.Cond.constantLong "com/example/upcaster/upcaster/io/Buffers" i v).before #[(.ref x0), (.long (304 : Int64))] s = true := (own_ciS (mvT hZ w_52) (own_ciS (mvT hZ w_56) own_ci0))
  have X0 : Stand p l e ({ frames := 2, cells := 1, slots := 512, locals := 32 } : Room) s m #[(.ref x0), (.long (304 : Int64))] below meth c s₁ [] 0 0 := Stand.of_body Bd
  have e0 : s₁.heap = h0 := by rw [← hh, Bd.state]; rfl
  have N0 := Fr.nil n0
  show Goes p e below s (Q7 Z x0 kx fa h0 n0) ({ frames := 2, cells := 1, slots := 512, locals := 32 } : Room).cells ({ frames := 2, cells := 1, slots := 512, locals := 32 } : Room).slots (s₁.setTop (entryFrame m #[(.ref x0), (.long (304 : Int64))] 3))
  refine Goes.cast (ef7 m x0) ?_
  have K0 : Keep h0 h0 [] := Keep.refl h0 _
  refine Goes.run X0 hx hown hci hcl hby (L := [(0, .aload_n 0, 1), (1, .ldc2_w 9, 3), (4, .aload_n 0, 1)]) (by decide +kernel) rfl (g' := (mkF m 5 #[rv x0, jv (304 : Int64), .second] [(.ref x0), (.long (2 : Int64)), (.ref x0)])) rfl ?_
  obtain ⟨cl1, Ar1, q1, S1, M1, Hs1, G1⟩ := id V_x0
  refine Goes.st (B := s₁.setTop (mkF m 6 #[rv x0, jv (304 : Int64), .second] [(.int (256 : Int32)), (.long (2 : Int64)), (.ref x0)])) (fun t k => ?_) ?_
  · refine X0.arraylength hx (cell := cl1) (by rw [e0]; exact Ar1.1) (State.isArrayOf_alike hZ.alike Ar1.2.1) (g := (mkF m 5 #[rv x0, jv (304 : Int64), .second] [(.ref x0), (.long (2 : Int64)), (.ref x0)])) rfl (rest := [(.long (2 : Int64)), (.ref x0)]) rfl (hb hby d6_5) _ ?_
    rw [len_of S1 M1]
    exact k
  refine Goes.run X0 hx hown hci hcl hby (L := [(6, .i2l, 1), (7, .lmul, 1), (8, .lload_n 1, 1)]) (by decide +kernel) rfl (g' := (mkF m 9 #[rv x0, jv (304 : Int64), .second] [(.long (304 : Int64)), (.long (c7_9_1 fa)), (.ref x0)])) rfl ?_
  obtain ⟨_, _, ⟨T2, L2, k2, n2⟩, -, X2, ⟨Lc2, hQ2, l2, y2, z2⟩, st2⟩ := Jvm.LawKit.callS X0 hx (y := ym2) hown (mvT hZ w_53) (mvT hZ w_54) (mvT hZ w_26) (mvT hZ w_55) (by decide) (backOf (W := 1) (rm3 l Z a0 hw []  h0 n0 Z0 ) hZ w_55 w_26 (by decide) (by decide)) (g := (mkF m 9 #[rv x0, jv (304 : Int64), .second] [(.long (304 : Int64)), (.long (c7_9_1 fa)), (.ref x0)])) rfl (by rw [hml]; rfl) (argsL := [(.long (c7_9_1 fa)), (.long (304 : Int64))]) (rest := [(.ref x0)]) (lenOf pd7_0 rfl) rfl (by show 2 * 0 + _ ≤ _; exact Nat.le_of_eq rfl) (hb hby d6_9) (fun _ _ => ⟨rfl, e0, (by decide : 0 + 0 ≤ _), (by decide : 0 + 0 ≤ _)⟩)
  dsimp only [Pt.U, Pt.locs, Pt.cells, Pt.slots] at X2 l2 y2 z2 st2 hQ2
  subst l2 y2 z2
  obtain ⟨rfl, N2q, e2⟩ := hQ2
  have N2 := Fr.app N0 N2q
  refine Goes.st (B := T2.setTop (mkF m 12 #[rv x0, jv (304 : Int64), .second] [(.long (512 : Int64)), (.ref x0)])) st2 ?_
  refine Goes.run X2 hx hown hci hcl hby (L := [(12, .ldc2_w 19, 3)]) (by decide +kernel) rfl (g' := (mkF m 15 #[rv x0, jv (304 : Int64), .second] [(.long (2147483639 : Int64)), (.long (512 : Int64)), (.ref x0)])) rfl ?_
  obtain ⟨_, _, ⟨T3, L3, k3, n3⟩, -, X3, ⟨Lc3, hQ3, l3, y3, z3⟩, st3⟩ := Jvm.LawKit.callS X2 hx (y := ym3) hown (mvT hZ w_57) (mvT hZ w_58) (mvT hZ w_26) (mvT hZ w_59) (by decide) (backOf (W := 1) (rm4 l Z a0 hw []  h0 n0 Z0 ) hZ w_59 w_26 (by decide) (by decide)) (g := (mkF m 15 #[rv x0, jv (304 : Int64), .second] [(.long (2147483639 : Int64)), (.long (512 : Int64)), (.ref x0)])) rfl (by rw [hml]; rfl) (argsL := [(.long (512 : Int64)), (.long (2147483639 : Int64))]) (rest := [(.ref x0)]) (lenOf pd7_0 rfl) rfl (by show 2 * 0 + _ ≤ _; exact Nat.le_of_eq rfl) (hb hby d6_15) (fun _ _ => ⟨rfl, e2, (by decide : 0 + 0 ≤ _), (by decide : 0 + 0 ≤ _)⟩)
  dsimp only [Pt.U, Pt.locs, Pt.cells, Pt.slots] at X3 l3 y3 z3 st3 hQ3
  subst l3 y3 z3
  obtain ⟨rfl, N3q, e3⟩ := hQ3
  have N3 := Fr.app N2 N3q
  refine Goes.st (B := T3.setTop (mkF m 18 #[rv x0, jv (304 : Int64), .second] [(.long (512 : Int64)), (.ref x0)])) st3 ?_
  refine Goes.run X3 hx hown hci hcl hby (L := [(18, .l2i, 1)]) (by decide +kernel) rfl (g' := (mkF m 19 #[rv x0, jv (304 : Int64), .second] [(.int (c7_19_0 fa)), (.ref x0)])) rfl ?_
  obtain ⟨_, _, ⟨T4, L4, k4, n4⟩, -, X4, ⟨Lc4, hQ4, l4, y4, z4⟩, st4⟩ := Jvm.LawKit.callS X3 hx (y := ym4) hown (mvT hZ w_60) (mvT hZ w_21) (mvT hZ w_22) (mvT hZ w_23) (by decide) (backOf (W := 0) (rm6 l Z a0 hw [] x0 kx fa h0 n0 Z0 V_x0) hZ w_23 w_22 (by decide) (by decide)) (g := (mkF m 19 #[rv x0, jv (304 : Int64), .second] [(.int (c7_19_0 fa)), (.ref x0)])) rfl (by rw [hml]; rfl) (argsL := [(.ref x0), (.int (c7_19_0 fa))]) (rest := []) (lenOf pd7_1 rfl) rfl (by show 2 * 0 + _ ≤ _; exact Nat.le_of_eq rfl) (hb hby d6_19) (fun _ _ => ⟨rfl, e3, (by decide : 0 + 1 ≤ _), (by decide : 0 + 512 ≤ _)⟩)
  dsimp only [Pt.U, Pt.locs, Pt.cells, Pt.slots] at X4 l4 y4 z4 st4 hQ4
  subst l4 y4 z4
  obtain ⟨h4, eh4⟩ : ∃ z, z = T4.heap := ⟨_, rfl⟩
  rw [← eh4] at hQ4
  have e4 : T4.heap = h4 := eh4.symm
  obtain ⟨b4, kc4, rfl, N4q, Kq4, szq4, o4_0, o4_1⟩ := hQ4
  have ne_x0_b4 : x0 ≠ b4 := Nat.ne_of_lt (Nat.lt_of_lt_of_le V_x0.lt szq4)
  have g_b4 : n0 ≤ b4 := Nat.le_trans Z0 szq4
  have sz_b4 : h0.size ≤ b4 := Nat.le_trans K0.1 szq4
  have N4 := Fr.app N3 N4q
  have V_x0 := V_x0.keep Kq4 nin0
  have E_b4 : Exa Z h4 b4 "[B" := o4_0
  have V_b4 : Arv Z h4 b4 kc4 .byte (512 : Int32) (own_fv 512 (f6_28 fa)) (.int (0 : Int32)) := o4_1
  have Zn4 : n0 ≤ h4.size := Nat.le_trans Z0 Kq4.1
  have K4 := K0.trans Kq4 (all0)
  refine Goes.st (B := T4.setTop (mkF m 22 #[rv x0, jv (304 : Int64), .second] [(.ref b4)])) st4 ?_
  refine Goes.retR X4 hx hlk Bd.returns rfl rfl (hb hby d6_22) ?_ (by decide) (by decide)
  show (Q7 Z x0 kx fa h0 n0) _ _ _
  rw [e4]
  exact ⟨b4, kc4, rfl, N4, K4, sz_b4, E_b4, V_b4⟩
theorem d7_1 : decode prog_6_method_6_code 1 = .ok (.getfield 9, 3) := by decide +kernel
theorem d7_5 : decode prog_6_method_6_code 5 = .ok (.getfield 13, 3) := by decide +kernel
theorem d7_8 : decode prog_6_method_6_code 8 = .ok (.invokestatic 29, 3) := by decide +kernel
theorem d7_11 : decode prog_6_method_6_code 11 = .ok (.areturn, 1) := by decide +kernel
theorem pn8_256 : plainName "com/example/upcaster/upcaster/io/BinaryEncoder" = true := by first | (simp [plainName, overriddenIn]; done) | decide +kernel
theorem pd8_256_0 : parseMethodDescriptor "([BI)[B" = some ⟨[(.array .byte), .int], some (.array .byte)⟩ := by decide +kernel
theorem ef8_256 (m : MethodId) (x0 : Addr) : entryFrame m #[(.ref x0)] 1 = (mkF m 0 #[rv x0] []) := by first | (simp [entryFrame, mkF, argsToLocals, Value.category]; done) | rfl
def Q8_256 (Z : State) (x0 : Addr) (bf : Addr) (kb : ClassId) (fa : Nat → Int32) (w : Int32) (h0 : Heap) (n0 : Nat) (v : Option Value) (h : Heap) (L : List Loc) : Prop := ∃ (b : Addr) (k : ClassId), v = some (.ref b) ∧ Fr n0 L ∧ Keep h0 h [] ∧ h0.size ≤ b ∧ Exa Z h b "[B" ∧ Arv Z h b k .byte w (own_fv (w).toNatClampNeg (f5_256_28 w fa)) (.int (0 : Int32))
set_option maxRecDepth 65536 in
set_option maxHeartbeats 40000000 in
theorem rm8_256 (l : Launch) (Z : State) (a0 : Array Value) (hw : ∀ d ∈ tables_1, d.before a0 Z = true) (ws : List Jvm.Cond) (x0 : Addr) (bf : Addr) (kb : ClassId) (fa : Nat → Int32) (w : Int32) (h0 : Heap) (n0 : Nat) (Z0 : n0 ≤ h0.size) (F_buffer_x0 : Fld Z h0 x0 "com/example/upcaster/upcaster/io/BinaryEncoder" "buffer" "[B" (.ref bf)) (F_size_x0 : Fld Z h0 x0 "com/example/upcaster/upcaster/io/BinaryEncoder" "size" "I" (.int w)) (V_bf : Arv Z h0 bf kb .byte (256 : Int32) (own_fv 256 fa) (.int (0 : Int32))) (p1 : ¬ w < (0 : Int32)) (p2 : w < (256 : Int32)) :
    MetFree l ym6 (head1 (Jvm.Cond.code ym6 prog_6_method_6_code 1 (some (.array .byte)) :: ws) ({ frames := 2, cells := 1, slots := 256, locals := 32 } : Room)) (fun a U => a = #[(.ref x0)] ∧ Z.Warmed39 U.vm ∧ U.heap = h0) (fun _ _ _ _ _ => True) (fun _ U o U' => ∃ v L, o = .returned v ∧ (Q8_256 Z x0 bf kb fa w h0 n0) v U'.heap L ∧ FrameEnd U o U' L ({ frames := 2, cells := 1, slots := 256, locals := 32 } : Room).cells ({ frames := 2, cells := 1, slots := 256, locals := 32 } : Room).slots) := by
  refine MetFree.of_bodySF (plainFor_of_name pn8_256) hisR ?_
  intro p e s m args below meth c s₁ Bd hml0 hP hK
  obtain ⟨rfl, hZ, hh⟩ := hP
  have hx := Bd.exec
  have hby := Bd.bytes
  have hml : c.maxLocals = 1 := hml0
  have hlk : meth.locks = false := BodyLoose.notSynchronized Bd
  have hown : s.vm.findClass "com/example/upcaster/upcaster/io/BinaryEncoder" = some m.cls := findClass_of_methodNamed Bd.named
  have hnm := (name_of_methodNamed Bd.named Bd.method).1
  have w_11 := hw _ (List.mem_of_getElem? (i := 11) rfl)
  have w_18 := hw _ (List.mem_of_getElem? (i := 18) rfl)
  have w_20 := hw _ (List.mem_of_getElem? (i := 20) rfl)
  have w_21 := hw _ (List.mem_of_getElem? (i := 21) rfl)
  have w_22 := hw _ (List.mem_of_getElem? (i := 22) rfl)
  have w_23 := hw _ (List.mem_of_getElem? (i := 23) rfl)
  have w_47 := hw _ (List.mem_of_getElem? (i := 47) rfl)
  have hci : ∀ i v, (i, v) ∈ ([(134, 2147483639)] : List (Nat × Int32)) → (Jvm.Cond.constant "com/example/upcaster/upcaster/io/BinaryEncoder" i v).before #[(.ref x0)] s = true := (own_ciS (mvT hZ w_47) own_ci0)
  have hcl : ∀ i v, (i, v) ∈ ([] : List (Nat × Int64)) → (Jvm.Cond.constantLong "com/example/upcaster/upcaster/io/BinaryEncoder" i v).before #[(.ref x0)] s = true := own_ci0
  have X0 : Stand p l e ({ frames := 2, cells := 1, slots := 256, locals := 32 } : Room) s m #[(.ref x0)] below meth c s₁ [] 0 0 := Stand.of_body Bd
  have e0 : s₁.heap = h0 := by rw [← hh, Bd.state]; rfl
  have N0 := Fr.nil n0
  show Goes p e below s (Q8_256 Z x0 bf kb fa w h0 n0) ({ frames := 2, cells := 1, slots := 256, locals := 32 } : Room).cells ({ frames := 2, cells := 1, slots := 256, locals := 32 } : Room).slots (s₁.setTop (entryFrame m #[(.ref x0)] 1))
  refine Goes.cast (ef8_256 m x0) ?_
  have K0 : Keep h0 h0 [] := Keep.refl h0 _
  refine Goes.run X0 hx hown hci hcl hby (L := [(0, .aload_n 0, 1)]) (by decide +kernel) rfl (g' := (mkF m 1 #[rv x0] [(.ref x0)])) rfl ?_
  obtain ⟨T1, X1, e1, st1⟩ := getF X0 hx hZ hown (host := "") (Or.inl w_11) Via.refl e0 F_buffer_x0 (g := (mkF m 1 #[rv x0] [(.ref x0)])) rfl rfl (hb hby d7_1)
  refine Goes.st (B := T1.setTop (mkF m 4 #[rv x0] [(.ref bf)])) st1 ?_
  refine Goes.run X1 hx hown hci hcl hby (L := [(4, .aload_n 0, 1)]) (by decide +kernel) rfl (g' := (mkF m 5 #[rv x0] [(.ref x0), (.ref bf)])) rfl ?_
  obtain ⟨T2, X2, e2, st2⟩ := getF X1 hx hZ hown (host := "") (Or.inl w_18) Via.refl e1 F_size_x0 (g := (mkF m 5 #[rv x0] [(.ref x0), (.ref bf)])) rfl rfl (hb hby d7_5)
  refine Goes.st (B := T2.setTop (mkF m 8 #[rv x0] [(.int w), (.ref bf)])) st2 ?_
  obtain ⟨_, _, ⟨T3, L3, k3, n3⟩, -, X3, ⟨Lc3, hQ3, l3, y3, z3⟩, st3⟩ := Jvm.LawKit.callS X2 hx (y := ym4) hown (mvT hZ w_20) (mvT hZ w_21) (mvT hZ w_22) (mvT hZ w_23) (by decide) (backOf (W := 0) (rm5_256 l Z a0 hw [] bf w kb fa h0 n0 Z0 V_bf p1 p2) hZ w_23 w_22 (by decide) (by decide)) (g := (mkF m 8 #[rv x0] [(.int w), (.ref bf)])) rfl (by rw [hml]; rfl) (argsL := [(.ref bf), (.int w)]) (rest := []) (lenOf pd8_256_0 rfl) rfl (by show 2 * 0 + _ ≤ _; exact Nat.le_of_eq rfl) (hb hby d7_8) (fun _ _ => ⟨rfl, e2, (by decide : 0 + 1 ≤ _), (by decide : 0 + 256 ≤ _)⟩)
  dsimp only [Pt.U, Pt.locs, Pt.cells, Pt.slots] at X3 l3 y3 z3 st3 hQ3
  subst l3 y3 z3
  obtain ⟨h3, eh3⟩ : ∃ z, z = T3.heap := ⟨_, rfl⟩
  rw [← eh3] at hQ3
  have e3 : T3.heap = h3 := eh3.symm
  obtain ⟨b3, kc3, rfl, N3q, Kq3, szq3, o3_0, o3_1⟩ := hQ3
  have ne_bf_b3 : bf ≠ b3 := Nat.ne_of_lt (Nat.lt_of_lt_of_le V_bf.lt szq3)
  have ne_x0_b3 : x0 ≠ b3 := Nat.ne_of_lt (Nat.lt_of_lt_of_le F_buffer_x0.lt szq3)
  have g_b3 : n0 ≤ b3 := Nat.le_trans Z0 szq3
  have sz_b3 : h0.size ≤ b3 := Nat.le_trans K0.1 szq3
  have N3 := Fr.app N0 N3q
  have F_buffer_x0 := F_buffer_x0.keep Kq3 nin0
  have F_size_x0 := F_size_x0.keep Kq3 nin0
  have V_bf := V_bf.keep Kq3 nin0
  have E_b3 : Exa Z h3 b3 "[B" := o3_0
  have V_b3 : Arv Z h3 b3 kc3 .byte w (own_fv (w).toNatClampNeg (f5_256_28 w fa)) (.int (0 : Int32)) := o3_1
  have Zn3 : n0 ≤ h3.size := Nat.le_trans Z0 Kq3.1
  have K3 := K0.trans Kq3 (all0)
  refine Goes.st (B := T3.setTop (mkF m 11 #[rv x0] [(.ref b3)])) st3 ?_
  refine Goes.retR X3 hx hlk Bd.returns rfl rfl (hb hby d7_11) ?_ (by decide) (by decide)
  show (Q8_256 Z x0 bf kb fa w h0 n0) _ _ _
  rw [e3]
  exact ⟨b3, kc3, rfl, N3, K3, sz_b3, E_b3, V_b3⟩
theorem pn8_512 : plainName "com/example/upcaster/upcaster/io/BinaryEncoder" = true := by first | (simp [plainName, overriddenIn]; done) | decide +kernel
theorem pd8_512_0 : parseMethodDescriptor "([BI)[B" = some ⟨[(.array .byte), .int], some (.array .byte)⟩ := by decide +kernel
theorem ef8_512 (m : MethodId) (x0 : Addr) : entryFrame m #[(.ref x0)] 1 = (mkF m 0 #[rv x0] []) := by first | (simp [entryFrame, mkF, argsToLocals, Value.category]; done) | rfl
def Q8_512 (Z : State) (x0 : Addr) (bf : Addr) (kb : ClassId) (fa : Nat → Int32) (w : Int32) (h0 : Heap) (n0 : Nat) (v : Option Value) (h : Heap) (L : List Loc) : Prop := ∃ (b : Addr) (k : ClassId), v = some (.ref b) ∧ Fr n0 L ∧ Keep h0 h [] ∧ h0.size ≤ b ∧ Exa Z h b "[B" ∧ Arv Z h b k .byte w (own_fv (w).toNatClampNeg (f5_512_28 w fa)) (.int (0 : Int32))
set_option maxRecDepth 65536 in
set_option maxHeartbeats 40000000 in
theorem rm8_512 (l : Launch) (Z : State) (a0 : Array Value) (hw : ∀ d ∈ tables_1, d.before a0 Z = true) (ws : List Jvm.Cond) (x0 : Addr) (bf : Addr) (kb : ClassId) (fa : Nat → Int32) (w : Int32) (h0 : Heap) (n0 : Nat) (Z0 : n0 ≤ h0.size) (F_buffer_x0 : Fld Z h0 x0 "com/example/upcaster/upcaster/io/BinaryEncoder" "buffer" "[B" (.ref bf)) (F_size_x0 : Fld Z h0 x0 "com/example/upcaster/upcaster/io/BinaryEncoder" "size" "I" (.int w)) (V_bf : Arv Z h0 bf kb .byte (512 : Int32) (own_fv 512 fa) (.int (0 : Int32))) (p1 : ¬ w < (0 : Int32)) (p2 : w < (512 : Int32)) :
    MetFree l ym6 (head1 (Jvm.Cond.code ym6 prog_6_method_6_code 1 (some (.array .byte)) :: ws) ({ frames := 2, cells := 1, slots := 512, locals := 32 } : Room)) (fun a U => a = #[(.ref x0)] ∧ Z.Warmed39 U.vm ∧ U.heap = h0) (fun _ _ _ _ _ => True) (fun _ U o U' => ∃ v L, o = .returned v ∧ (Q8_512 Z x0 bf kb fa w h0 n0) v U'.heap L ∧ FrameEnd U o U' L ({ frames := 2, cells := 1, slots := 512, locals := 32 } : Room).cells ({ frames := 2, cells := 1, slots := 512, locals := 32 } : Room).slots) := by
  refine MetFree.of_bodySF (plainFor_of_name pn8_512) hisR ?_
  intro p e s m args below meth c s₁ Bd hml0 hP hK
  obtain ⟨rfl, hZ, hh⟩ := hP
  have hx := Bd.exec
  have hby := Bd.bytes
  have hml : c.maxLocals = 1 := hml0
  have hlk : meth.locks = false := BodyLoose.notSynchronized Bd
  have hown : s.vm.findClass "com/example/upcaster/upcaster/io/BinaryEncoder" = some m.cls := findClass_of_methodNamed Bd.named
  have hnm := (name_of_methodNamed Bd.named Bd.method).1
  have w_11 := hw _ (List.mem_of_getElem? (i := 11) rfl)
  have w_18 := hw _ (List.mem_of_getElem? (i := 18) rfl)
  have w_20 := hw _ (List.mem_of_getElem? (i := 20) rfl)
  have w_21 := hw _ (List.mem_of_getElem? (i := 21) rfl)
  have w_22 := hw _ (List.mem_of_getElem? (i := 22) rfl)
  have w_23 := hw _ (List.mem_of_getElem? (i := 23) rfl)
  have w_47 := hw _ (List.mem_of_getElem? (i := 47) rfl)
  have hci : ∀ i v, (i, v) ∈ ([(134, 2147483639)] : List (Nat × Int32)) → (Jvm.Cond.constant "com/example/upcaster/upcaster/io/BinaryEncoder" i v).before #[(.ref x0)] s = true := (own_ciS (mvT hZ w_47) own_ci0)
  have hcl : ∀ i v, (i, v) ∈ ([] : List (Nat × Int64)) → (Jvm.Cond.constantLong "com/example/upcaster/upcaster/io/BinaryEncoder" i v).before #[(.ref x0)] s = true := own_ci0
  have X0 : Stand p l e ({ frames := 2, cells := 1, slots := 512, locals := 32 } : Room) s m #[(.ref x0)] below meth c s₁ [] 0 0 := Stand.of_body Bd
  have e0 : s₁.heap = h0 := by rw [← hh, Bd.state]; rfl
  have N0 := Fr.nil n0
  show Goes p e below s (Q8_512 Z x0 bf kb fa w h0 n0) ({ frames := 2, cells := 1, slots := 512, locals := 32 } : Room).cells ({ frames := 2, cells := 1, slots := 512, locals := 32 } : Room).slots (s₁.setTop (entryFrame m #[(.ref x0)] 1))
  refine Goes.cast (ef8_512 m x0) ?_
  have K0 : Keep h0 h0 [] := Keep.refl h0 _
  refine Goes.run X0 hx hown hci hcl hby (L := [(0, .aload_n 0, 1)]) (by decide +kernel) rfl (g' := (mkF m 1 #[rv x0] [(.ref x0)])) rfl ?_
  obtain ⟨T1, X1, e1, st1⟩ := getF X0 hx hZ hown (host := "") (Or.inl w_11) Via.refl e0 F_buffer_x0 (g := (mkF m 1 #[rv x0] [(.ref x0)])) rfl rfl (hb hby d7_1)
  refine Goes.st (B := T1.setTop (mkF m 4 #[rv x0] [(.ref bf)])) st1 ?_
  refine Goes.run X1 hx hown hci hcl hby (L := [(4, .aload_n 0, 1)]) (by decide +kernel) rfl (g' := (mkF m 5 #[rv x0] [(.ref x0), (.ref bf)])) rfl ?_
  obtain ⟨T2, X2, e2, st2⟩ := getF X1 hx hZ hown (host := "") (Or.inl w_18) Via.refl e1 F_size_x0 (g := (mkF m 5 #[rv x0] [(.ref x0), (.ref bf)])) rfl rfl (hb hby d7_5)
  refine Goes.st (B := T2.setTop (mkF m 8 #[rv x0] [(.int w), (.ref bf)])) st2 ?_
  obtain ⟨_, _, ⟨T3, L3, k3, n3⟩, -, X3, ⟨Lc3, hQ3, l3, y3, z3⟩, st3⟩ := Jvm.LawKit.callS X2 hx (y := ym4) hown (mvT hZ w_20) (mvT hZ w_21) (mvT hZ w_22) (mvT hZ w_23) (by decide) (backOf (W := 0) (rm5_512 l Z a0 hw [] bf w kb fa h0 n0 Z0 V_bf p1 p2) hZ w_23 w_22 (by decide) (by decide)) (g := (mkF m 8 #[rv x0] [(.int w), (.ref bf)])) rfl (by rw [hml]; rfl) (argsL := [(.ref bf), (.int w)]) (rest := []) (lenOf pd8_512_0 rfl) rfl (by show 2 * 0 + _ ≤ _; exact Nat.le_of_eq rfl) (hb hby d7_8) (fun _ _ => ⟨rfl, e2, (by decide : 0 + 1 ≤ _), (by decide : 0 + 512 ≤ _)⟩)
  dsimp only [Pt.U, Pt.locs, Pt.cells, Pt.slots] at X3 l3 y3 z3 st3 hQ3
  subst l3 y3 z3
  obtain ⟨h3, eh3⟩ : ∃ z, z = T3.heap := ⟨_, rfl⟩
  rw [← eh3] at hQ3
  have e3 : T3.heap = h3 := eh3.symm
  obtain ⟨b3, kc3, rfl, N3q, Kq3, szq3, o3_0, o3_1⟩ := hQ3
  have ne_bf_b3 : bf ≠ b3 := Nat.ne_of_lt (Nat.lt_of_lt_of_le V_bf.lt szq3)
  have ne_x0_b3 : x0 ≠ b3 := Nat.ne_of_lt (Nat.lt_of_lt_of_le F_buffer_x0.lt szq3)
  have g_b3 : n0 ≤ b3 := Nat.le_trans Z0 szq3
  have sz_b3 : h0.size ≤ b3 := Nat.le_trans K0.1 szq3
  have N3 := Fr.app N0 N3q
  have F_buffer_x0 := F_buffer_x0.keep Kq3 nin0
  have F_size_x0 := F_size_x0.keep Kq3 nin0
  have V_bf := V_bf.keep Kq3 nin0
  have E_b3 : Exa Z h3 b3 "[B" := o3_0
  have V_b3 : Arv Z h3 b3 kc3 .byte w (own_fv (w).toNatClampNeg (f5_512_28 w fa)) (.int (0 : Int32)) := o3_1
  have Zn3 : n0 ≤ h3.size := Nat.le_trans Z0 Kq3.1
  have K3 := K0.trans Kq3 (all0)
  refine Goes.st (B := T3.setTop (mkF m 11 #[rv x0] [(.ref b3)])) st3 ?_
  refine Goes.retR X3 hx hlk Bd.returns rfl rfl (hb hby d7_11) ?_ (by decide) (by decide)
  show (Q8_512 Z x0 bf kb fa w h0 n0) _ _ _
  rw [e3]
  exact ⟨b3, kc3, rfl, N3, K3, sz_b3, E_b3, V_b3⟩
theorem d8_2 : decode prog_6_method_16_code 2 = .ok (.getfield 9, 3) := by decide +kernel
theorem d8_5 : decode prog_6_method_16_code 5 = .ok (.arraylength, 1) := by decide +kernel
theorem d8_7 : decode prog_6_method_16_code 7 = .ok (.getfield 13, 3) := by decide +kernel
theorem d8_11 : decode prog_6_method_16_code 11 = .ok (.if_icmp .le 43, 3) := by decide +kernel
theorem d8_54 : decode prog_6_method_16_code 54 = .ok (.return_, 1) := by decide +kernel
theorem pn9 : plainName "com/example/upcaster/upcaster/io/BinaryEncoder" = true := by first | (simp [plainName, overriddenIn]; done) | decide +kernel
theorem ef9 (m : MethodId) (x0 : Addr) (x1 : Int32) : entryFrame m #[(.ref x0), (.int x1)] 2 = (mkF m 0 #[rv x0, iv x1] []) := by first | (simp [entryFrame, mkF, argsToLocals, Value.category]; done) | rfl
set_option maxRecDepth 65536 in
set_option maxHeartbeats 40000000 in
theorem rm9 (l : Launch) (Z : State) (a0 : Array Value) (hw : ∀ d ∈ tables_1, d.before a0 Z = true) (ws : List Jvm.Cond) (x0 : Addr) (x1 : Int32) (bf : Addr) (kb : ClassId) (fa : Nat → Int32) (w : Int32) (h0 : Heap) (n0 : Nat) (Z0 : n0 ≤ h0.size) (F_buffer_x0 : Fld Z h0 x0 "com/example/upcaster/upcaster/io/BinaryEncoder" "buffer" "[B" (.ref bf)) (F_size_x0 : Fld Z h0 x0 "com/example/upcaster/upcaster/io/BinaryEncoder" "size" "I" (.int w)) (V_bf : Arv Z h0 bf kb .byte (256 : Int32) (own_fv 256 fa) (.int (0 : Int32))) (p1 : ¬ (((256 : Int32) - w) < x1)) :
    MetFree l ym7 (head1 (Jvm.Cond.code ym7 prog_6_method_16_code 2 none :: ws) ({ frames := 0, cells := 0, slots := 0, locals := 0 } : Room)) (fun a U => a = #[(.ref x0), (.int x1)] ∧ Z.Warmed39 U.vm ∧ U.heap = h0) (fun _ _ _ _ _ => True) (fun _ U o U' => ∃ v L, o = .returned v ∧ (QP none h0 n0) v U'.heap L ∧ FrameEnd U o U' L ({ frames := 0, cells := 0, slots := 0, locals := 0 } : Room).cells ({ frames := 0, cells := 0, slots := 0, locals := 0 } : Room).slots) := by
  refine MetFree.of_bodySF (plainFor_of_name pn9) hisR ?_
  intro p e s m args below meth c s₁ Bd hml0 hP hK
  obtain ⟨rfl, hZ, hh⟩ := hP
  have hx := Bd.exec
  have hby := Bd.bytes
  have hml : c.maxLocals = 2 := hml0
  have hlk : meth.locks = false := BodyLoose.notSynchronized Bd
  have hown : s.vm.findClass "com/example/upcaster/upcaster/io/BinaryEncoder" = some m.cls := findClass_of_methodNamed Bd.named
  have hnm := (name_of_methodNamed Bd.named Bd.method).1
  have w_11 := hw _ (List.mem_of_getElem? (i := 11) rfl)
  have w_18 := hw _ (List.mem_of_getElem? (i := 18) rfl)
  have w_47 := hw _ (List.mem_of_getElem? (i := 47) rfl)
  have hci : ∀ i v, (i, v) ∈ ([(134, 2147483639)] : List (Nat × Int32)) → (Jvm.Cond.constant "com/example/upcaster/upcaster/io/BinaryEncoder" i v).before #[(.ref x0), (.int x1)] s = true := (own_ciS (mvT hZ w_47) own_ci0)
  have hcl : ∀ i v, (i, v) ∈ ([] : List (Nat × Int64)) → (Jvm.Cond.constantLong "com/example/upcaster/upcaster/io/BinaryEncoder" i v).before #[(.ref x0), (.int x1)] s = true := own_ci0
  have X0 : Stand p l e ({ frames := 0, cells := 0, slots := 0, locals := 0 } : Room) s m #[(.ref x0), (.int x1)] below meth c s₁ [] 0 0 := Stand.of_body Bd
  have e0 : s₁.heap = h0 := by rw [← hh, Bd.state]; rfl
  have N0 := Fr.nil n0
  show Goes p e below s (QP none h0 n0) ({ frames := 0, cells := 0, slots := 0, locals := 0 } : Room).cells ({ frames := 0, cells := 0, slots := 0, locals := 0 } : Room).slots (s₁.setTop (entryFrame m #[(.ref x0), (.int x1)] 2))
  refine Goes.cast (ef9 m x0 x1) ?_
  refine Goes.run X0 hx hown hci hcl hby (L := [(0, .iload_n 1, 1), (1, .aload_n 0, 1)]) (by decide +kernel) rfl (g' := (mkF m 2 #[rv x0, iv x1] [(.ref x0), (.int x1)])) rfl ?_
  obtain ⟨T1, X1, e1, st1⟩ := getF X0 hx hZ hown (host := "") (Or.inl w_11) Via.refl e0 F_buffer_x0 (g := (mkF m 2 #[rv x0, iv x1] [(.ref x0), (.int x1)])) rfl rfl (hb hby d8_2)
  refine Goes.st (B := T1.setTop (mkF m 5 #[rv x0, iv x1] [(.ref bf), (.int x1)])) st1 ?_
  obtain ⟨cl2, Ar2, q2, S2, M2, Hs2, G2⟩ := id V_bf
  refine Goes.st (B := T1.setTop (mkF m 6 #[rv x0, iv x1] [(.int (256 : Int32)), (.int x1)])) (fun t k => ?_) ?_
  · refine X1.arraylength hx (cell := cl2) (by rw [e1]; exact Ar2.1) (State.isArrayOf_alike hZ.alike Ar2.2.1) (g := (mkF m 5 #[rv x0, iv x1] [(.ref bf), (.int x1)])) rfl (rest := [(.int x1)]) rfl (hb hby d8_5) _ ?_
    rw [len_of S2 M2]
    exact k
  refine Goes.run X1 hx hown hci hcl hby (L := [(6, .aload_n 0, 1)]) (by decide +kernel) rfl (g' := (mkF m 7 #[rv x0, iv x1] [(.ref x0), (.int (256 : Int32)), (.int x1)])) rfl ?_
  obtain ⟨T3, X3, e3, st3⟩ := getF X1 hx hZ hown (host := "") (Or.inl w_18) Via.refl e1 F_size_x0 (g := (mkF m 7 #[rv x0, iv x1] [(.ref x0), (.int (256 : Int32)), (.int x1)])) rfl rfl (hb hby d8_7)
  refine Goes.st (B := T3.setTop (mkF m 10 #[rv x0, iv x1] [(.int w), (.int (256 : Int32)), (.int x1)])) st3 ?_
  refine Goes.run X3 hx hown hci hcl hby (L := [(10, .isub, 1)]) (by decide +kernel) rfl (g' := (mkF m 11 #[rv x0, iv x1] [(.int ((256 : Int32) - w)), (.int x1)])) rfl ?_
  have hc11_4 : ¬ (((256 : Int32) - w) < x1) := p1
  refine Goes.st (B := T3.setTop (mkF m 54 #[rv x0, iv x1] [])) (fun t k => ?_) ?_
  · refine XS.icmpYes X3.here hx rfl (pc0 := 11) (pc' := 54) rfl (hb hby d8_11) rfl (flt hc11_4).2.2.2 (by decide) (by decide) ?_
    exact k
  exact Goes.retV X3 hx hlk Bd.returns (hb hby d8_54) ⟨rfl, N0, e3⟩ (by decide) (by decide)
theorem d8_18 : decode prog_6_method_16_code 18 = .ok (.getfield 13, 3) := by decide +kernel
theorem d8_22 : decode prog_6_method_16_code 22 = .ok (.if_icmp .le 13, 3) := by decide +kernel
theorem d8_37 : decode prog_6_method_16_code 37 = .ok (.getfield 9, 3) := by decide +kernel
theorem d8_41 : decode prog_6_method_16_code 41 = .ok (.getfield 13, 3) := by decide +kernel
theorem d8_48 : decode prog_6_method_16_code 48 = .ok (.invokestatic 140, 3) := by decide +kernel
theorem d8_51 : decode prog_6_method_16_code 51 = .ok (.putfield 9, 3) := by decide +kernel
theorem pnA : plainName "com/example/upcaster/upcaster/io/BinaryEncoder" = true := by first | (simp [plainName, overriddenIn]; done) | decide +kernel
theorem pdA_0 : parseMethodDescriptor "([BJ)[B" = some ⟨[(.array .byte), .long], some (.array .byte)⟩ := by decide +kernel
theorem efA (m : MethodId) (x0 : Addr) : entryFrame m #[(.ref x0), (.int (300 : Int32))] 2 = (mkF m 0 #[rv x0, iv (300 : Int32)] []) := by first | (simp [entryFrame, mkF, argsToLocals, Value.category]; done) | rfl
def QA (Z : State) (x0 : Addr) (bf : Addr) (kb : ClassId) (fa : Nat → Int32) (h0 : Heap) (n0 : Nat) (v : Option Value) (h : Heap) (L : List Loc) : Prop := ∃ (nb : Addr) (k_nb : ClassId), v = none ∧ Fr n0 L ∧ Keep h0 h [x0] ∧ h0.size ≤ nb ∧ Exa Z h x0 "com/example/upcaster/upcaster/io/BinaryEncoder" ∧ Fld Z h x0 "com/example/upcaster/upcaster/io/BinaryEncoder" "buffer" "[B" (.ref nb) ∧ Fld Z h x0 "com/example/upcaster/upcaster/io/BinaryEncoder" "size" "I" (.int (4 : Int32)) ∧ Arv Z h nb k_nb .byte (512 : Int32) (own_fv 512 (f6_28 fa)) (.int (0 : Int32))
set_option maxRecDepth 65536 in
set_option maxHeartbeats 40000000 in
theorem rmA (l : Launch) (Z : State) (a0 : Array Value) (hw : ∀ d ∈ tables_1, d.before a0 Z = true) (ws : List Jvm.Cond) (x0 : Addr) (bf : Addr) (kb : ClassId) (fa : Nat → Int32) (h0 : Heap) (n0 : Nat) (Z0 : n0 ≤ h0.size) (E_x0 : Exa Z h0 x0 "com/example/upcaster/upcaster/io/BinaryEncoder") (F_buffer_x0 : Fld Z h0 x0 "com/example/upcaster/upcaster/io/BinaryEncoder" "buffer" "[B" (.ref bf)) (F_size_x0 : Fld Z h0 x0 "com/example/upcaster/upcaster/io/BinaryEncoder" "size" "I" (.int (4 : Int32))) (V_bf : Arv Z h0 bf kb .byte (256 : Int32) (own_fv 256 fa) (.int (0 : Int32))) (g_x0 : n0 ≤ x0) (hn1 : x0 ≠ bf) :
    MetFree l ym7 (head1 (Jvm.Cond.code ym7 prog_6_method_16_code 2 none :: ws) ({ frames := 3, cells := 1, slots := 512, locals := 47 } : Room)) (fun a U => a = #[(.ref x0), (.int (300 : Int32))] ∧ Z.Warmed39 U.vm ∧ U.heap = h0) (fun _ _ _ _ _ => True) (fun _ U o U' => ∃ v L, o = .returned v ∧ (QA Z x0 bf kb fa h0 n0) v U'.heap L ∧ FrameEnd U o U' L ({ frames := 3, cells := 1, slots := 512, locals := 47 } : Room).cells ({ frames := 3, cells := 1, slots := 512, locals := 47 } : Room).slots) := by
  refine MetFree.of_bodySF (plainFor_of_name pnA) hisR ?_
  intro p e s m args below meth c s₁ Bd hml0 hP hK
  obtain ⟨rfl, hZ, hh⟩ := hP
  have hx := Bd.exec
  have hby := Bd.bytes
  have hml : c.maxLocals = 2 := hml0
  have hlk : meth.locks = false := BodyLoose.notSynchronized Bd
  have hown : s.vm.findClass "com/example/upcaster/upcaster/io/BinaryEncoder" = some m.cls := findClass_of_methodNamed Bd.named
  have hnm := (name_of_methodNamed Bd.named Bd.method).1
  have w_3 := hw _ (List.mem_of_getElem? (i := 3) rfl)
  have w_11 := hw _ (List.mem_of_getElem? (i := 11) rfl)
  have w_12 := hw _ (List.mem_of_getElem? (i := 12) rfl)
  have w_18 := hw _ (List.mem_of_getElem? (i := 18) rfl)
  have w_19 := hw _ (List.mem_of_getElem? (i := 19) rfl)
  have w_47 := hw _ (List.mem_of_getElem? (i := 47) rfl)
  have w_48 := hw _ (List.mem_of_getElem? (i := 48) rfl)
  have w_49 := hw _ (List.mem_of_getElem? (i := 49) rfl)
  have w_50 := hw _ (List.mem_of_getElem? (i := 50) rfl)
  have w_51 := hw _ (List.mem_of_getElem? (i := 51) rfl)
  have hci : ∀ i v, (i, v) ∈ ([(134, 2147483639)] : List (Nat × Int32)) → (Jvm.Cond.constant "com/example/upcaster/upcaster/io/BinaryEncoder" i v).before #[(.ref x0), (.int (300 : Int32))] s = true := (own_ciS (mvT hZ w_47) own_ci0)
  have hcl : ∀ i v, (i, v) ∈ ([] : List (Nat × Int64)) → (Jvm.Cond.constantLong "com/example/upcaster/upcaster/io/BinaryEncoder" i v).before #[(.ref x0), (.int (300 : Int32))] s = true := own_ci0
  have X0 : Stand p l e ({ frames := 3, cells := 1, slots := 512, locals := 47 } : Room) s m #[(.ref x0), (.int (300 : Int32))] below meth c s₁ [] 0 0 := Stand.of_body Bd
  have e0 : s₁.heap = h0 := by rw [← hh, Bd.state]; rfl
  have N0 := Fr.nil n0
  show Goes p e below s (QA Z x0 bf kb fa h0 n0) ({ frames := 3, cells := 1, slots := 512, locals := 47 } : Room).cells ({ frames := 3, cells := 1, slots := 512, locals := 47 } : Room).slots (s₁.setTop (entryFrame m #[(.ref x0), (.int (300 : Int32))] 2))
  refine Goes.cast (efA m x0) ?_
  have K0 : Keep h0 h0 [x0] := Keep.refl h0 _
  refine Goes.run X0 hx hown hci hcl hby (L := [(0, .iload_n 1, 1), (1, .aload_n 0, 1)]) (by decide +kernel) rfl (g' := (mkF m 2 #[rv x0, iv (300 : Int32)] [(.ref x0), (.int (300 : Int32))])) rfl ?_
  obtain ⟨T1, X1, e1, st1⟩ := getF X0 hx hZ hown (host := "") (Or.inl w_11) Via.refl e0 F_buffer_x0 (g := (mkF m 2 #[rv x0, iv (300 : Int32)] [(.ref x0), (.int (300 : Int32))])) rfl rfl (hb hby d8_2)
  refine Goes.st (B := T1.setTop (mkF m 5 #[rv x0, iv (300 : Int32)] [(.ref bf), (.int (300 : Int32))])) st1 ?_
  obtain ⟨cl2, Ar2, q2, S2, M2, Hs2, G2⟩ := id V_bf
  refine Goes.st (B := T1.setTop (mkF m 6 #[rv x0, iv (300 : Int32)] [(.int (256 : Int32)), (.int (300 : Int32))])) (fun t k => ?_) ?_
  · refine X1.arraylength hx (cell := cl2) (by rw [e1]; exact Ar2.1) (State.isArrayOf_alike hZ.alike Ar2.2.1) (g := (mkF m 5 #[rv x0, iv (300 : Int32)] [(.ref bf), (.int (300 : Int32))])) rfl (rest := [(.int (300 : Int32))]) rfl (hb hby d8_5) _ ?_
    rw [len_of S2 M2]
    exact k
  refine Goes.run X1 hx hown hci hcl hby (L := [(6, .aload_n 0, 1)]) (by decide +kernel) rfl (g' := (mkF m 7 #[rv x0, iv (300 : Int32)] [(.ref x0), (.int (256 : Int32)), (.int (300 : Int32))])) rfl ?_
  obtain ⟨T3, X3, e3, st3⟩ := getF X1 hx hZ hown (host := "") (Or.inl w_18) Via.refl e1 F_size_x0 (g := (mkF m 7 #[rv x0, iv (300 : Int32)] [(.ref x0), (.int (256 : Int32)), (.int (300 : Int32))])) rfl rfl (hb hby d8_7)
  refine Goes.st (B := T3.setTop (mkF m 10 #[rv x0, iv (300 : Int32)] [(.int (4 : Int32)), (.int (256 : Int32)), (.int (300 : Int32))])) st3 ?_
  refine Goes.run X3 hx hown hci hcl hby (L := [(10, .isub, 1)]) (by decide +kernel) rfl (g' := (mkF m 11 #[rv x0, iv (300 : Int32)] [(.int (252 : Int32)), (.int (300 : Int32))])) rfl ?_
  have hc11_4 : (252 : Int32) < (300 : Int32) := by decide
  refine Goes.st (B := T3.setTop (mkF m 14 #[rv x0, iv (300 : Int32)] [])) (fun t k => ?_) ?_
  · refine XS.icmpNo X3.here hx rfl (hb hby d8_11) rfl (tlt hc11_4).2.2.2 ?_
    exact k
  refine Goes.run X3 hx hown hci hcl hby (L := [(14, .iload_n 1, 1), (15, .ldc 134, 2), (17, .aload_n 0, 1)]) (by decide +kernel) rfl (g' := (mkF m 18 #[rv x0, iv (300 : Int32)] [(.ref x0), (.int (2147483639 : Int32)), (.int (300 : Int32))])) rfl ?_
  obtain ⟨T5, X5, e5, st5⟩ := getF X3 hx hZ hown (host := "") (Or.inl w_18) Via.refl e3 F_size_x0 (g := (mkF m 18 #[rv x0, iv (300 : Int32)] [(.ref x0), (.int (2147483639 : Int32)), (.int (300 : Int32))])) rfl rfl (hb hby d8_18)
  refine Goes.st (B := T5.setTop (mkF m 21 #[rv x0, iv (300 : Int32)] [(.int (4 : Int32)), (.int (2147483639 : Int32)), (.int (300 : Int32))])) st5 ?_
  refine Goes.run X5 hx hown hci hcl hby (L := [(21, .isub, 1)]) (by decide +kernel) rfl (g' := (mkF m 22 #[rv x0, iv (300 : Int32)] [(.int ((2147483639 : Int32) - (4 : Int32))), (.int (300 : Int32))])) rfl ?_
  have hc22_6 : ¬ (((2147483639 : Int32) - (4 : Int32)) < (300 : Int32)) := (by decide)
  refine Goes.st (B := T5.setTop (mkF m 35 #[rv x0, iv (300 : Int32)] [])) (fun t k => ?_) ?_
  · refine XS.icmpYes X5.here hx rfl (pc0 := 22) (pc' := 35) rfl (hb hby d8_22) rfl (flt hc22_6).2.2.2 (by decide) (by decide) ?_
    exact k
  refine Goes.run X5 hx hown hci hcl hby (L := [(35, .aload_n 0, 1), (36, .aload_n 0, 1)]) (by decide +kernel) rfl (g' := (mkF m 37 #[rv x0, iv (300 : Int32)] [(.ref x0), (.ref x0)])) rfl ?_
  obtain ⟨T7, X7, e7, st7⟩ := getF X5 hx hZ hown (host := "") (Or.inl w_11) Via.refl e5 F_buffer_x0 (g := (mkF m 37 #[rv x0, iv (300 : Int32)] [(.ref x0), (.ref x0)])) rfl rfl (hb hby d8_37)
  refine Goes.st (B := T7.setTop (mkF m 40 #[rv x0, iv (300 : Int32)] [(.ref bf), (.ref x0)])) st7 ?_
  refine Goes.run X7 hx hown hci hcl hby (L := [(40, .aload_n 0, 1)]) (by decide +kernel) rfl (g' := (mkF m 41 #[rv x0, iv (300 : Int32)] [(.ref x0), (.ref bf), (.ref x0)])) rfl ?_
  obtain ⟨T8, X8, e8, st8⟩ := getF X7 hx hZ hown (host := "") (Or.inl w_18) Via.refl e7 F_size_x0 (g := (mkF m 41 #[rv x0, iv (300 : Int32)] [(.ref x0), (.ref bf), (.ref x0)])) rfl rfl (hb hby d8_41)
  refine Goes.st (B := T8.setTop (mkF m 44 #[rv x0, iv (300 : Int32)] [(.int (4 : Int32)), (.ref bf), (.ref x0)])) st8 ?_
  refine Goes.run X8 hx hown hci hcl hby (L := [(44, .i2l, 1), (45, .iload_n 1, 1), (46, .i2l, 1), (47, .ladd, 1)]) (by decide +kernel) rfl (g' := (mkF m 48 #[rv x0, iv (300 : Int32)] [(.long (304 : Int64)), (.ref bf), (.ref x0)])) rfl ?_
  obtain ⟨_, _, ⟨T9, L9, k9, n9⟩, -, X9, ⟨Lc9, hQ9, l9, y9, z9⟩, st9⟩ := Jvm.LawKit.callS X8 hx (y := ym5) hown (mvT hZ w_48) (mvT hZ w_49) (mvT hZ w_50) (mvT hZ w_51) (by decide) (backOf (W := 1) (rm7 l Z a0 hw [] bf kb fa h0 n0 Z0 V_bf) hZ w_51 w_50 (by decide) (by decide)) (g := (mkF m 48 #[rv x0, iv (300 : Int32)] [(.long (304 : Int64)), (.ref bf), (.ref x0)])) rfl (by rw [hml]; rfl) (argsL := [(.ref bf), (.long (304 : Int64))]) (rest := [(.ref x0)]) (lenOf pdA_0 rfl) rfl (by show 2 * 0 + _ ≤ _; exact Nat.le_of_eq rfl) (hb hby d8_48) (fun _ _ => ⟨rfl, e8, (by decide : 0 + 1 ≤ _), (by decide : 0 + 512 ≤ _)⟩)
  dsimp only [Pt.U, Pt.locs, Pt.cells, Pt.slots] at X9 l9 y9 z9 st9 hQ9
  subst l9 y9 z9
  obtain ⟨h9, eh9⟩ : ∃ z, z = T9.heap := ⟨_, rfl⟩
  rw [← eh9] at hQ9
  have e9 : T9.heap = h9 := eh9.symm
  obtain ⟨b9, kc9, rfl, N9q, Kq9, szq9, o9_0, o9_1⟩ := hQ9
  have ne_bf_b9 : bf ≠ b9 := Nat.ne_of_lt (Nat.lt_of_lt_of_le V_bf.lt szq9)
  have ne_x0_b9 : x0 ≠ b9 := Nat.ne_of_lt (Nat.lt_of_lt_of_le E_x0.lt szq9)
  have g_b9 : n0 ≤ b9 := Nat.le_trans Z0 szq9
  have sz_b9 : h0.size ≤ b9 := Nat.le_trans K0.1 szq9
  have N9 := Fr.app N0 N9q
  have E_x0 := E_x0.keep Kq9
  have F_buffer_x0 := F_buffer_x0.keep Kq9 nin0
  have F_size_x0 := F_size_x0.keep Kq9 nin0
  have V_bf := V_bf.keep Kq9 nin0
  have E_b9 : Exa Z h9 b9 "[B" := o9_0
  have V_b9 : Arv Z h9 b9 kc9 .byte (512 : Int32) (own_fv 512 (f6_28 fa)) (.int (0 : Int32)) := o9_1
  have Zn9 : n0 ≤ h9.size := Nat.le_trans Z0 Kq9.1
  have K9 := K0.trans Kq9 (all0)
  refine Goes.st (B := T9.setTop (mkF m 51 #[rv x0, iv (300 : Int32)] [(.ref b9), (.ref x0)])) st9 ?_
  obtain ⟨T10, h10, X10, e10, W10, st10⟩ := putF X9 hx hZ hown (host := "") (Or.inl w_11) Via.refl e9 F_buffer_x0 E_x0 (Or.inl w_12) w_3 (ty := (.array .byte)) (by decide) rfl rfl (g := (mkF m 51 #[rv x0, iv (300 : Int32)] [(.ref b9), (.ref x0)])) rfl rfl (hb hby d8_51)
  have E_x0 := E_x0.wr W10
  have F_buffer_x0 : Fld Z h10 x0 "com/example/upcaster/upcaster/io/BinaryEncoder" "buffer" "[B" (.ref b9) := F_buffer_x0.same W10
  have F_size_x0 := F_size_x0.other W10 (Or.inr (slot_ne (Or.inl w_19) (Or.inl w_12) (by decide) (t := .int) (t' := (.array .byte)) (by decide) (by decide)))
  have V_bf := V_bf.other W10 (Ne.symm hn1)
  have E_b9 := E_b9.wr W10
  have V_b9 := V_b9.other W10 (Ne.symm ne_x0_b9)
  have Zn10 : n0 ≤ h10.size := Nat.le_trans Zn9 (Keep.of_wr W10).1
  have K10 := K9.wr W10 (Or.inl (List.mem_of_getElem? (i := 0) rfl))
  have N10 := Fr.snoc X10 N9 g_x0
  refine Goes.st (B := T10.setTop (mkF m 54 #[rv x0, iv (300 : Int32)] [])) st10 ?_
  refine Goes.retV X10 hx hlk Bd.returns (hb hby d8_54) ?_ (by decide) (by decide)
  show (QA Z x0 bf kb fa h0 n0) _ _ _
  rw [e10]
  exact ⟨b9, kc9, rfl, N10, K10, sz_b9, E_x0, F_buffer_x0, F_size_x0, V_b9⟩
theorem d9_2 : decode prog_6_method_7_code 2 = .ok (.invokevirtual 35, 3) := by decide +kernel
theorem d9_6 : decode prog_6_method_7_code 6 = .ok (.getfield 9, 3) := by decide +kernel
theorem d9_11 : decode prog_6_method_7_code 11 = .ok (.getfield 13, 3) := by decide +kernel
theorem d9_14 : decode prog_6_method_7_code 14 = .ok (.dup_x1, 1) := by decide +kernel
theorem d9_17 : decode prog_6_method_7_code 17 = .ok (.putfield 13, 3) := by decide +kernel
theorem d9_21 : decode prog_6_method_7_code 21 = .ok (.ifCond .eq 7, 3) := by decide +kernel
theorem d9_30 : decode prog_6_method_7_code 30 = .ok (.bastore, 1) := by decide +kernel
theorem d9_31 : decode prog_6_method_7_code 31 = .ok (.return_, 1) := by decide +kernel
theorem pnB : plainName "com/example/upcaster/upcaster/io/BinaryEncoder" = true := by first | (simp [plainName, overriddenIn]; done) | decide +kernel
theorem pdB_0 : parseMethodDescriptor "(I)V" = some ⟨[.int], none⟩ := by decide +kernel
theorem efB (m : MethodId) (x0 : Addr) (x1 : Int32) : entryFrame m #[(.ref x0), (.int x1)] 2 = (mkF m 0 #[rv x0, iv x1] []) := by first | (simp [entryFrame, mkF, argsToLocals, Value.category]; done) | rfl
def jB_29_s0 (x1 : Int32) (fa : Nat → Int32) : Int32 := (if x1 = (0 : Int32) then (0 : Int32) else (1 : Int32))
def wB_30 (x1 : Int32) (fa : Nat → Int32) : Int32 := (nar .byte ((jB_29_s0 x1 fa).toInt8.toInt32))
def fB_30 (x1 : Int32) (fa : Nat → Int32) : Nat → Int32 := own_ud fa 0 (wB_30 x1 fa)
def QB (Z : State) (x0 : Addr) (x1 : Int32) (bf : Addr) (kb : ClassId) (fa : Nat → Int32) (h0 : Heap) (n0 : Nat) (v : Option Value) (h : Heap) (L : List Loc) : Prop := v = none ∧ Fr n0 L ∧ Keep h0 h [x0, bf] ∧ Exa Z h x0 "com/example/upcaster/upcaster/io/BinaryEncoder" ∧ Fld Z h x0 "com/example/upcaster/upcaster/io/BinaryEncoder" "buffer" "[B" (.ref bf) ∧ Fld Z h x0 "com/example/upcaster/upcaster/io/BinaryEncoder" "size" "I" (.int (1 : Int32)) ∧ Arv Z h bf kb .byte (256 : Int32) (own_fv 256 (fB_30 x1 fa)) (.int (0 : Int32))
set_option maxRecDepth 65536 in
set_option maxHeartbeats 40000000 in
theorem rmB (l : Launch) (Z : State) (a0 : Array Value) (hw : ∀ d ∈ tables_1, d.before a0 Z = true) (ws : List Jvm.Cond) (x0 : Addr) (x1 : Int32) (bf : Addr) (kb : ClassId) (fa : Nat → Int32) (h0 : Heap) (n0 : Nat) (Z0 : n0 ≤ h0.size) (E_x0 : Exa Z h0 x0 "com/example/upcaster/upcaster/io/BinaryEncoder") (F_buffer_x0 : Fld Z h0 x0 "com/example/upcaster/upcaster/io/BinaryEncoder" "buffer" "[B" (.ref bf)) (F_size_x0 : Fld Z h0 x0 "com/example/upcaster/upcaster/io/BinaryEncoder" "size" "I" (.int (0 : Int32))) (V_bf : Arv Z h0 bf kb .byte (256 : Int32) (own_fv 256 fa) (.int (0 : Int32))) (g_x0 : n0 ≤ x0) (g_bf : n0 ≤ bf) (hn1 : x0 ≠ bf) :
    MetFree l ym8 (head1 (Jvm.Cond.code ym8 prog_6_method_7_code 2 none :: ws) ({ frames := 1, cells := 0, slots := 0, locals := 13 } : Room)) (fun a U => a = #[(.ref x0), (.int x1)] ∧ Z.Warmed39 U.vm ∧ U.heap = h0) (fun _ _ _ _ _ => True) (fun _ U o U' => ∃ v L, o = .returned v ∧ (QB Z x0 x1 bf kb fa h0 n0) v U'.heap L ∧ FrameEnd U o U' L ({ frames := 1, cells := 0, slots := 0, locals := 13 } : Room).cells ({ frames := 1, cells := 0, slots := 0, locals := 13 } : Room).slots) := by
  refine MetFree.of_bodySF (plainFor_of_name pnB) hisR ?_
  intro p e s m args below meth c s₁ Bd hml0 hP hK
  obtain ⟨rfl, hZ, hh⟩ := hP
  have hx := Bd.exec
  have hby := Bd.bytes
  have hml : c.maxLocals = 2 := hml0
  have hlk : meth.locks = false := BodyLoose.notSynchronized Bd
  have hown : s.vm.findClass "com/example/upcaster/upcaster/io/BinaryEncoder" = some m.cls := findClass_of_methodNamed Bd.named
  have hnm := (name_of_methodNamed Bd.named Bd.method).1
  have w_3 := hw _ (List.mem_of_getElem? (i := 3) rfl)
  have w_4 := hw _ (List.mem_of_getElem? (i := 4) rfl)
  have w_11 := hw _ (List.mem_of_getElem? (i := 11) rfl)
  have w_12 := hw _ (List.mem_of_getElem? (i := 12) rfl)
  have w_18 := hw _ (List.mem_of_getElem? (i := 18) rfl)
  have w_19 := hw _ (List.mem_of_getElem? (i := 19) rfl)
  have w_37 := hw _ (List.mem_of_getElem? (i := 37) rfl)
  have w_38 := hw _ (List.mem_of_getElem? (i := 38) rfl)
  have w_39 := hw _ (List.mem_of_getElem? (i := 39) rfl)
  have w_40 := hw _ (List.mem_of_getElem? (i := 40) rfl)
  have w_47 := hw _ (List.mem_of_getElem? (i := 47) rfl)
  have hci : ∀ i v, (i, v) ∈ ([(134, 2147483639)] : List (Nat × Int32)) → (Jvm.Cond.constant "com/example/upcaster/upcaster/io/BinaryEncoder" i v).before #[(.ref x0), (.int x1)] s = true := (own_ciS (mvT hZ w_47) own_ci0)
  have hcl : ∀ i v, (i, v) ∈ ([] : List (Nat × Int64)) → (Jvm.Cond.constantLong "com/example/upcaster/upcaster/io/BinaryEncoder" i v).before #[(.ref x0), (.int x1)] s = true := own_ci0
  have X0 : Stand p l e ({ frames := 1, cells := 0, slots := 0, locals := 13 } : Room) s m #[(.ref x0), (.int x1)] below meth c s₁ [] 0 0 := Stand.of_body Bd
  have e0 : s₁.heap = h0 := by rw [← hh, Bd.state]; rfl
  have N0 := Fr.nil n0
  show Goes p e below s (QB Z x0 x1 bf kb fa h0 n0) ({ frames := 1, cells := 0, slots := 0, locals := 13 } : Room).cells ({ frames := 1, cells := 0, slots := 0, locals := 13 } : Room).slots (s₁.setTop (entryFrame m #[(.ref x0), (.int x1)] 2))
  refine Goes.cast (efB m x0 x1) ?_
  have K0 : Keep h0 h0 [x0, bf] := Keep.refl h0 _
  refine Goes.run X0 hx hown hci hcl hby (L := [(0, .aload_n 0, 1), (1, .iconst 1, 1)]) (by decide +kernel) rfl (g' := (mkF m 2 #[rv x0, iv x1] [(.int (1 : Int32)), (.ref x0)])) rfl ?_
  obtain ⟨cq1, q1a, q1b⟩ := E_x0.cell
  obtain ⟨_, _, ⟨T1, L1, k1, n1⟩, -, X1, ⟨Lc1, hQ1, l1, y1, z1⟩, st1⟩ := X0.privateBack hx (y := ym7) hown (mvT hZ w_37) (mvT hZ w_38) (own_selp (y := ym7) (mvT hZ w_3) (mvP hZ w_39) (mvT hZ w_38) (by decide)) (Cond.privateMethod_at (mvP hZ w_39 (args := #[]))) (mvT hZ w_40) (by decide) (backOf (W := 0) (rm9 l Z a0 hw [] x0 (1 : Int32) bf kb fa (0 : Int32) h0 n0 Z0 F_buffer_x0 F_size_x0 V_bf (by decide)) hZ w_40 w_4 (by decide) (by decide)) (g := (mkF m 2 #[rv x0, iv x1] [(.int (1 : Int32)), (.ref x0)])) rfl (by rw [hml]; rfl) (Steps.refl _) (a := x0) (by rw [e0]; exact q1a) q1b (argsL := [(.int (1 : Int32))]) (rest := []) (lenOf pdB_0 rfl) rfl (by show 2 * 0 + _ ≤ _; exact Nat.le_of_eq rfl) (hb hby d9_2) (fun _ _ => ⟨rfl, e0, (by decide : 0 + 0 ≤ _), (by decide : 0 + 0 ≤ _)⟩)
  dsimp only [Pt.U, Pt.locs, Pt.cells, Pt.slots] at X1 l1 y1 z1 st1 hQ1
  subst l1 y1 z1
  obtain ⟨rfl, N1q, e1⟩ := hQ1
  have N1 := Fr.app N0 N1q
  refine Goes.st (B := T1.setTop (mkF m 5 #[rv x0, iv x1] [])) (fun t k => st1.trans k) ?_
  refine Goes.run X1 hx hown hci hcl hby (L := [(5, .aload_n 0, 1)]) (by decide +kernel) rfl (g' := (mkF m 6 #[rv x0, iv x1] [(.ref x0)])) rfl ?_
  obtain ⟨T2, X2, e2, st2⟩ := getF X1 hx hZ hown (host := "") (Or.inl w_11) Via.refl e1 F_buffer_x0 (g := (mkF m 6 #[rv x0, iv x1] [(.ref x0)])) rfl rfl (hb hby d9_6)
  refine Goes.st (B := T2.setTop (mkF m 9 #[rv x0, iv x1] [(.ref bf)])) st2 ?_
  refine Goes.run X2 hx hown hci hcl hby (L := [(9, .aload_n 0, 1), (10, .dup, 1)]) (by decide +kernel) rfl (g' := (mkF m 11 #[rv x0, iv x1] [(.ref x0), (.ref x0), (.ref bf)])) rfl ?_
  obtain ⟨T3, X3, e3, st3⟩ := getF X2 hx hZ hown (host := "") (Or.inl w_18) Via.refl e2 F_size_x0 (g := (mkF m 11 #[rv x0, iv x1] [(.ref x0), (.ref x0), (.ref bf)])) rfl rfl (hb hby d9_11)
  refine Goes.st (B := T3.setTop (mkF m 14 #[rv x0, iv x1] [(.int (0 : Int32)), (.ref x0), (.ref bf)])) st3 ?_
  refine Goes.st (B := T3.setTop (mkF m 15 #[rv x0, iv x1] [(.int (0 : Int32)), (.ref x0), (.int (0 : Int32)), (.ref bf)])) (fun t k => ?_) ?_
  · refine XS.dupX1 X3.here hx rfl (hb hby d9_14) rfl rfl rfl ?_
    exact k
  refine Goes.run X3 hx hown hci hcl hby (L := [(15, .iconst 1, 1), (16, .iadd, 1)]) (by decide +kernel) rfl (g' := (mkF m 17 #[rv x0, iv x1] [(.int (1 : Int32)), (.ref x0), (.int (0 : Int32)), (.ref bf)])) rfl ?_
  obtain ⟨T4, h4, X4, e4, W4, st4⟩ := putF X3 hx hZ hown (host := "") (Or.inl w_18) Via.refl e3 F_size_x0 E_x0 (Or.inl w_19) w_3 (ty := .int) (by decide) rfl rfl (g := (mkF m 17 #[rv x0, iv x1] [(.int (1 : Int32)), (.ref x0), (.int (0 : Int32)), (.ref bf)])) rfl rfl (hb hby d9_17)
  have E_x0 := E_x0.wr W4
  have F_buffer_x0 := F_buffer_x0.other W4 (Or.inr (slot_ne (Or.inl w_12) (Or.inl w_19) (by decide) (t := (.array .byte)) (t' := .int) (by decide) (by decide)))
  have F_size_x0 : Fld Z h4 x0 "com/example/upcaster/upcaster/io/BinaryEncoder" "size" "I" (.int (1 : Int32)) := F_size_x0.same W4
  have V_bf := V_bf.other W4 (Ne.symm hn1)
  have Zn4 : n0 ≤ h4.size := Nat.le_trans Z0 (Keep.of_wr W4).1
  have K4 := K0.wr W4 (Or.inl (List.mem_of_getElem? (i := 0) rfl))
  have N4 := Fr.snoc X4 N1 g_x0
  refine Goes.st (B := T4.setTop (mkF m 20 #[rv x0, iv x1] [(.int (0 : Int32)), (.ref bf)])) st4 ?_
  refine Goes.run X4 hx hown hci hcl hby (L := [(20, .iload_n 1, 1)]) (by decide +kernel) rfl (g' := (mkF m 21 #[rv x0, iv x1] [(.int x1), (.int (0 : Int32)), (.ref bf)])) rfl ?_
  have jn29_6 : Goes p e below s (QB Z x0 x1 bf kb fa h0 n0) ({ frames := 1, cells := 0, slots := 0, locals := 13 } : Room).cells ({ frames := 1, cells := 0, slots := 0, locals := 13 } : Room).slots (T4.setTop (mkF m 29 #[rv x0, iv x1] [(.int (jB_29_s0 x1 fa)), (.int (0 : Int32)), (.ref bf)])) := by
    refine Goes.run X4 hx hown hci hcl hby (L := [(29, .i2b, 1)]) (by decide +kernel) rfl (g' := (mkF m 30 #[rv x0, iv x1] [(.int ((jB_29_s0 x1 fa).toInt8.toInt32)), (.int (0 : Int32)), (.ref bf)])) rfl ?_
    obtain ⟨cl7, Ar7, q7, S7, M7, Hs7, G7⟩ := id V_bf
    have hin7 : ¬ ((0 : Int32) < 0 ∨ cl7.slots.size ≤ ((0 : Int32)).toNatClampNeg) := inb_of S7 ⟨(by decide), (by decide)⟩
    obtain ⟨T7, h7, X7, e7, W7, st7⟩ := stB X4 hx hZ e4 Ar7 (j := (0 : Int32)) hin7 (g := (mkF m 30 #[rv x0, iv x1] [(.int ((jB_29_s0 x1 fa).toInt8.toInt32)), (.int (0 : Int32)), (.ref bf)])) rfl rfl (hb hby d9_30)
    have E_x0 := E_x0.wr W7
    have F_buffer_x0 := F_buffer_x0.other W7 (Or.inl hn1)
    have F_size_x0 := F_size_x0.other W7 (Or.inl hn1)
    have Zn7 : n0 ≤ h7.size := Nat.le_trans Zn4 (Keep.of_wr W7).1
    have K7 := K4.wr W7 (Or.inl (List.mem_of_getElem? (i := 1) rfl))
    have N7 := Fr.snoc X7 N4 g_bf
    have V_bf : Arv Z h7 bf kb .byte (256 : Int32) (own_fv 256 (fB_30 x1 fa)) (.int (0 : Int32)) := (Arv.set Ar7 q7 S7 M7 Hs7 G7 (fits_nar_byte _) W7 0 rfl (by rw [own_flen]; exact (by decide))).pad (own_fset 256 fa 0 (wB_30 x1 fa) (by decide))
    refine Goes.st (B := T7.setTop (mkF m 31 #[rv x0, iv x1] [])) st7 ?_
    refine Goes.retV X7 hx hlk Bd.returns (hb hby d9_31) ?_ (by decide) (by decide)
    show (QB Z x0 x1 bf kb fa h0 n0) _ _ _
    rw [e7]
    exact ⟨rfl, N7, K7, E_x0, F_buffer_x0, F_size_x0, V_bf⟩
  by_cases hc21_5 : x1 = (0 : Int32)
  · skip
    refine Goes.st (B := T4.setTop (mkF m 28 #[rv x0, iv x1] [(.int (0 : Int32)), (.ref bf)])) (fun t k => ?_) ?_
    · refine XS.ifYes X4.here hx rfl (pc0 := 21) (pc' := 28) rfl (hb hby d9_21) rfl ((if0 _ _).trans (teq hc21_5).1) (by decide) (by decide) ?_
      exact k
    refine Goes.run X4 hx hown hci hcl hby (L := [(28, .iconst 0, 1)]) (by decide +kernel) rfl (g' := (mkF m 29 #[rv x0, iv x1] [(.int (0 : Int32)), (.int (0 : Int32)), (.ref bf)])) rfl ?_
    have q := jn29_6
    rw [show (jB_29_s0 x1 fa) = (0 : Int32) from (if_pos hc21_5)] at q
    exact q
  · skip
    refine Goes.st (B := T4.setTop (mkF m 24 #[rv x0, iv x1] [(.int (0 : Int32)), (.ref bf)])) (fun t k => ?_) ?_
    · refine XS.ifNo X4.here hx rfl (hb hby d9_21) rfl ((if0 _ _).trans (feq hc21_5).1) ?_
      exact k
    refine Goes.run X4 hx hown hci hcl hby (L := [(24, .iconst 1, 1), (25, .goto 4, 3)]) (by decide +kernel) rfl (g' := (mkF m 29 #[rv x0, iv x1] [(.int (1 : Int32)), (.int (0 : Int32)), (.ref bf)])) rfl ?_
    have q := jn29_6
    rw [show (jB_29_s0 x1 fa) = (1 : Int32) from (if_neg hc21_5)] at q
    exact q
theorem d10_2 : decode prog_6_method_14_code 2 = .ok (.arraylength, 1) := by decide +kernel
theorem d10_3 : decode prog_6_method_14_code 3 = .ok (.invokevirtual 35, 3) := by decide +kernel
theorem d10_9 : decode prog_6_method_14_code 9 = .ok (.getfield 9, 3) := by decide +kernel
theorem d10_13 : decode prog_6_method_14_code 13 = .ok (.getfield 13, 3) := by decide +kernel
theorem d10_17 : decode prog_6_method_14_code 17 = .ok (.arraylength, 1) := by decide +kernel
theorem d10_18 : decode prog_6_method_14_code 18 = .ok (.invokestatic 106, 3) := by decide +kernel
theorem d10_23 : decode prog_6_method_14_code 23 = .ok (.getfield 13, 3) := by decide +kernel
theorem d10_27 : decode prog_6_method_14_code 27 = .ok (.arraylength, 1) := by decide +kernel
theorem d10_29 : decode prog_6_method_14_code 29 = .ok (.putfield 13, 3) := by decide +kernel
theorem d10_32 : decode prog_6_method_14_code 32 = .ok (.return_, 1) := by decide +kernel
theorem pnC : plainName "com/example/upcaster/upcaster/io/BinaryEncoder" = true := by first | (simp [plainName, overriddenIn]; done) | decide +kernel
theorem pdC_0 : parseMethodDescriptor "(I)V" = some ⟨[.int], none⟩ := by decide +kernel
theorem efC (m : MethodId) (x0 : Addr) (x1 : Addr) : entryFrame m #[(.ref x0), (.ref x1)] 2 = (mkF m 0 #[rv x0, rv x1] []) := by first | (simp [entryFrame, mkF, argsToLocals, Value.category]; done) | rfl
def fC_18 (fa : Nat → Int32) (fb : Nat → Int32) : Nat → Int32 := own_cp fa fb 1 0 3
def QC (Z : State) (x0 : Addr) (x1 : Addr) (bf : Addr) (kb : ClassId) (kx : ClassId) (fa : Nat → Int32) (fb : Nat → Int32) (h0 : Heap) (n0 : Nat) (v : Option Value) (h : Heap) (L : List Loc) : Prop := v = none ∧ Fr n0 L ∧ Keep h0 h [x0, bf] ∧ Exa Z h x0 "com/example/upcaster/upcaster/io/BinaryEncoder" ∧ Fld Z h x0 "com/example/upcaster/upcaster/io/BinaryEncoder" "buffer" "[B" (.ref bf) ∧ Fld Z h x0 "com/example/upcaster/upcaster/io/BinaryEncoder" "size" "I" (.int (4 : Int32)) ∧ Arv Z h bf kb .byte (256 : Int32) (own_fv 256 (fC_18 fa fb)) (.int (0 : Int32))
set_option maxRecDepth 65536 in
set_option maxHeartbeats 40000000 in
theorem rmC (l : Launch) (Z : State) (a0 : Array Value) (hw : ∀ d ∈ tables_1, d.before a0 Z = true) (ws : List Jvm.Cond) (x0 : Addr) (x1 : Addr) (bf : Addr) (kb : ClassId) (kx : ClassId) (fa : Nat → Int32) (fb : Nat → Int32) (h0 : Heap) (n0 : Nat) (Z0 : n0 ≤ h0.size) (E_x0 : Exa Z h0 x0 "com/example/upcaster/upcaster/io/BinaryEncoder") (F_buffer_x0 : Fld Z h0 x0 "com/example/upcaster/upcaster/io/BinaryEncoder" "buffer" "[B" (.ref bf)) (F_size_x0 : Fld Z h0 x0 "com/example/upcaster/upcaster/io/BinaryEncoder" "size" "I" (.int (1 : Int32))) (V_bf : Arv Z h0 bf kb .byte (256 : Int32) (own_fv 256 fa) (.int (0 : Int32))) (V_x1 : Arv Z h0 x1 kx .byte (3 : Int32) (own_fv 3 fb) (.int (0 : Int32))) (g_x0 : n0 ≤ x0) (g_bf : n0 ≤ bf) (hn1 : x0 ≠ bf) (hn2 : x1 ≠ bf) (hn3 : x1 ≠ x0) :
    MetFree l ym9 (head1 (Jvm.Cond.code ym9 prog_6_method_14_code 2 none :: ws) ({ frames := 1, cells := 0, slots := 0, locals := 18 } : Room)) (fun a U => a = #[(.ref x0), (.ref x1)] ∧ Z.Warmed39 U.vm ∧ U.heap = h0) (fun _ _ _ _ _ => True) (fun _ U o U' => ∃ v L, o = .returned v ∧ (QC Z x0 x1 bf kb kx fa fb h0 n0) v U'.heap L ∧ FrameEnd U o U' L ({ frames := 1, cells := 0, slots := 0, locals := 18 } : Room).cells ({ frames := 1, cells := 0, slots := 0, locals := 18 } : Room).slots) := by
  refine MetFree.of_bodySF (plainFor_of_name pnC) hisR ?_
  intro p e s m args below meth c s₁ Bd hml0 hP hK
  obtain ⟨rfl, hZ, hh⟩ := hP
  have hx := Bd.exec
  have hby := Bd.bytes
  have hml : c.maxLocals = 2 := hml0
  have hlk : meth.locks = false := BodyLoose.notSynchronized Bd
  have hown : s.vm.findClass "com/example/upcaster/upcaster/io/BinaryEncoder" = some m.cls := findClass_of_methodNamed Bd.named
  have hnm := (name_of_methodNamed Bd.named Bd.method).1
  have w_3 := hw _ (List.mem_of_getElem? (i := 3) rfl)
  have w_4 := hw _ (List.mem_of_getElem? (i := 4) rfl)
  have w_11 := hw _ (List.mem_of_getElem? (i := 11) rfl)
  have w_12 := hw _ (List.mem_of_getElem? (i := 12) rfl)
  have w_18 := hw _ (List.mem_of_getElem? (i := 18) rfl)
  have w_19 := hw _ (List.mem_of_getElem? (i := 19) rfl)
  have w_29 := hw _ (List.mem_of_getElem? (i := 29) rfl)
  have w_30 := hw _ (List.mem_of_getElem? (i := 30) rfl)
  have w_31 := hw _ (List.mem_of_getElem? (i := 31) rfl)
  have w_37 := hw _ (List.mem_of_getElem? (i := 37) rfl)
  have w_38 := hw _ (List.mem_of_getElem? (i := 38) rfl)
  have w_39 := hw _ (List.mem_of_getElem? (i := 39) rfl)
  have w_40 := hw _ (List.mem_of_getElem? (i := 40) rfl)
  have w_46 := hw _ (List.mem_of_getElem? (i := 46) rfl)
  have w_47 := hw _ (List.mem_of_getElem? (i := 47) rfl)
  have hci : ∀ i v, (i, v) ∈ ([(134, 2147483639)] : List (Nat × Int32)) → (Jvm.Cond.constant "com/example/upcaster/upcaster/io/BinaryEncoder" i v).before #[(.ref x0), (.ref x1)] s = true := (own_ciS (mvT hZ w_47) own_ci0)
  have hcl : ∀ i v, (i, v) ∈ ([] : List (Nat × Int64)) → (Jvm.Cond.constantLong "com/example/upcaster/upcaster/io/BinaryEncoder" i v).before #[(.ref x0), (.ref x1)] s = true := own_ci0
  have X0 : Stand p l e ({ frames := 1, cells := 0, slots := 0, locals := 18 } : Room) s m #[(.ref x0), (.ref x1)] below meth c s₁ [] 0 0 := Stand.of_body Bd
  have e0 : s₁.heap = h0 := by rw [← hh, Bd.state]; rfl
  have N0 := Fr.nil n0
  show Goes p e below s (QC Z x0 x1 bf kb kx fa fb h0 n0) ({ frames := 1, cells := 0, slots := 0, locals := 18 } : Room).cells ({ frames := 1, cells := 0, slots := 0, locals := 18 } : Room).slots (s₁.setTop (entryFrame m #[(.ref x0), (.ref x1)] 2))
  refine Goes.cast (efC m x0 x1) ?_
  have K0 : Keep h0 h0 [x0, bf] := Keep.refl h0 _
  refine Goes.run X0 hx hown hci hcl hby (L := [(0, .aload_n 0, 1), (1, .aload_n 1, 1)]) (by decide +kernel) rfl (g' := (mkF m 2 #[rv x0, rv x1] [(.ref x1), (.ref x0)])) rfl ?_
  obtain ⟨cl1, Ar1, q1, S1, M1, Hs1, G1⟩ := id V_x1
  refine Goes.st (B := s₁.setTop (mkF m 3 #[rv x0, rv x1] [(.int (3 : Int32)), (.ref x0)])) (fun t k => ?_) ?_
  · refine X0.arraylength hx (cell := cl1) (by rw [e0]; exact Ar1.1) (State.isArrayOf_alike hZ.alike Ar1.2.1) (g := (mkF m 2 #[rv x0, rv x1] [(.ref x1), (.ref x0)])) rfl (rest := [(.ref x0)]) rfl (hb hby d10_2) _ ?_
    rw [len_of S1 M1]
    exact k
  obtain ⟨cq2, q2a, q2b⟩ := E_x0.cell
  obtain ⟨_, _, ⟨T2, L2, k2, n2⟩, -, X2, ⟨Lc2, hQ2, l2, y2, z2⟩, st2⟩ := X0.privateBack hx (y := ym7) hown (mvT hZ w_37) (mvT hZ w_38) (own_selp (y := ym7) (mvT hZ w_3) (mvP hZ w_39) (mvT hZ w_38) (by decide)) (Cond.privateMethod_at (mvP hZ w_39 (args := #[]))) (mvT hZ w_40) (by decide) (backOf (W := 0) (rm9 l Z a0 hw [] x0 (3 : Int32) bf kb fa (1 : Int32) h0 n0 Z0 F_buffer_x0 F_size_x0 V_bf (by decide)) hZ w_40 w_4 (by decide) (by decide)) (g := (mkF m 3 #[rv x0, rv x1] [(.int (3 : Int32)), (.ref x0)])) rfl (by rw [hml]; rfl) (Steps.refl _) (a := x0) (by rw [e0]; exact q2a) q2b (argsL := [(.int (3 : Int32))]) (rest := []) (lenOf pdC_0 rfl) rfl (by show 2 * 0 + _ ≤ _; exact Nat.le_of_eq rfl) (hb hby d10_3) (fun _ _ => ⟨rfl, e0, (by decide : 0 + 0 ≤ _), (by decide : 0 + 0 ≤ _)⟩)
  dsimp only [Pt.U, Pt.locs, Pt.cells, Pt.slots] at X2 l2 y2 z2 st2 hQ2
  subst l2 y2 z2
  obtain ⟨rfl, N2q, e2⟩ := hQ2
  have N2 := Fr.app N0 N2q
  refine Goes.st (B := T2.setTop (mkF m 6 #[rv x0, rv x1] [])) (fun t k => st2.trans k) ?_
  refine Goes.run X2 hx hown hci hcl hby (L := [(6, .aload_n 1, 1), (7, .iconst 0, 1), (8, .aload_n 0, 1)]) (by decide +kernel) rfl (g' := (mkF m 9 #[rv x0, rv x1] [(.ref x0), (.int (0 : Int32)), (.ref x1)])) rfl ?_
  obtain ⟨T3, X3, e3, st3⟩ := getF X2 hx hZ hown (host := "") (Or.inl w_11) Via.refl e2 F_buffer_x0 (g := (mkF m 9 #[rv x0, rv x1] [(.ref x0), (.int (0 : Int32)), (.ref x1)])) rfl rfl (hb hby d10_9)
  refine Goes.st (B := T3.setTop (mkF m 12 #[rv x0, rv x1] [(.ref bf), (.int (0 : Int32)), (.ref x1)])) st3 ?_
  refine Goes.run X3 hx hown hci hcl hby (L := [(12, .aload_n 0, 1)]) (by decide +kernel) rfl (g' := (mkF m 13 #[rv x0, rv x1] [(.ref x0), (.ref bf), (.int (0 : Int32)), (.ref x1)])) rfl ?_
  obtain ⟨T4, X4, e4, st4⟩ := getF X3 hx hZ hown (host := "") (Or.inl w_18) Via.refl e3 F_size_x0 (g := (mkF m 13 #[rv x0, rv x1] [(.ref x0), (.ref bf), (.int (0 : Int32)), (.ref x1)])) rfl rfl (hb hby d10_13)
  refine Goes.st (B := T4.setTop (mkF m 16 #[rv x0, rv x1] [(.int (1 : Int32)), (.ref bf), (.int (0 : Int32)), (.ref x1)])) st4 ?_
  refine Goes.run X4 hx hown hci hcl hby (L := [(16, .aload_n 1, 1)]) (by decide +kernel) rfl (g' := (mkF m 17 #[rv x0, rv x1] [(.ref x1), (.int (1 : Int32)), (.ref bf), (.int (0 : Int32)), (.ref x1)])) rfl ?_
  obtain ⟨cl5, Ar5, q5, S5, M5, Hs5, G5⟩ := id V_x1
  refine Goes.st (B := T4.setTop (mkF m 18 #[rv x0, rv x1] [(.int (3 : Int32)), (.int (1 : Int32)), (.ref bf), (.int (0 : Int32)), (.ref x1)])) (fun t k => ?_) ?_
  · refine X4.arraylength hx (cell := cl5) (by rw [e4]; exact Ar5.1) (State.isArrayOf_alike hZ.alike Ar5.2.1) (g := (mkF m 17 #[rv x0, rv x1] [(.ref x1), (.int (1 : Int32)), (.ref bf), (.int (0 : Int32)), (.ref x1)])) rfl (rest := [(.int (1 : Int32)), (.ref bf), (.int (0 : Int32)), (.ref x1)]) rfl (hb hby d10_17) _ ?_
    rw [len_of S5 M5]
    exact k
  obtain ⟨T6, h6, L6, X6, e6, N6, Kq6, Vq6, st6⟩ := cpA X4 hx hZ hown w_46 w_31 w_29 w_30 e4 V_x1 V_bf (Or.inl ⟨rfl, rfl⟩) (sp := (0 : Int32)) (dp := (1 : Int32)) (nn := (3 : Int32)) (by decide) (by decide) (by decide) (by decide) (by decide) rfl (by rw [own_flen]; exact (by decide)) N2 g_bf (g := (mkF m 18 #[rv x0, rv x1] [(.int (3 : Int32)), (.int (1 : Int32)), (.ref bf), (.int (0 : Int32)), (.ref x1)])) rfl (by rw [hml]; rfl) (rest := []) rfl (hb hby d10_18) (by decide) (W := 0) (by show 2 * 0 + _ ≤ _; exact Nat.le_of_eq rfl) (by decide)
  have E_x0 := E_x0.keep Kq6
  have F_buffer_x0 := F_buffer_x0.keep Kq6 (ninS hn1 nin0)
  have F_size_x0 := F_size_x0.keep Kq6 (ninS hn1 nin0)
  have V_x1 := V_x1.keep Kq6 (ninS hn2 nin0)
  have Zn6 : n0 ≤ h6.size := Nat.le_trans Z0 Kq6.1
  have K6 := K0.trans Kq6 ((allS (Or.inl (List.mem_of_getElem? (i := 1) rfl)) all0))
  have V_bf : Arv Z h6 bf kb .byte (256 : Int32) (own_fv 256 (fC_18 fa fb)) (.int (0 : Int32)) := Vq6.pad (own_fcp 256 3 fa fb 1 0 3 (by decide) (by decide))
  refine Goes.st (B := T6.setTop (mkF m 21 #[rv x0, rv x1] [])) st6 ?_
  refine Goes.run X6 hx hown hci hcl hby (L := [(21, .aload_n 0, 1), (22, .dup, 1)]) (by decide +kernel) rfl (g' := (mkF m 23 #[rv x0, rv x1] [(.ref x0), (.ref x0)])) rfl ?_
  obtain ⟨T7, X7, e7, st7⟩ := getF X6 hx hZ hown (host := "") (Or.inl w_18) Via.refl e6 F_size_x0 (g := (mkF m 23 #[rv x0, rv x1] [(.ref x0), (.ref x0)])) rfl rfl (hb hby d10_23)
  refine Goes.st (B := T7.setTop (mkF m 26 #[rv x0, rv x1] [(.int (1 : Int32)), (.ref x0)])) st7 ?_
  refine Goes.run X7 hx hown hci hcl hby (L := [(26, .aload_n 1, 1)]) (by decide +kernel) rfl (g' := (mkF m 27 #[rv x0, rv x1] [(.ref x1), (.int (1 : Int32)), (.ref x0)])) rfl ?_
  obtain ⟨cl8, Ar8, q8, S8, M8, Hs8, G8⟩ := id V_x1
  refine Goes.st (B := T7.setTop (mkF m 28 #[rv x0, rv x1] [(.int (3 : Int32)), (.int (1 : Int32)), (.ref x0)])) (fun t k => ?_) ?_
  · refine X7.arraylength hx (cell := cl8) (by rw [e7]; exact Ar8.1) (State.isArrayOf_alike hZ.alike Ar8.2.1) (g := (mkF m 27 #[rv x0, rv x1] [(.ref x1), (.int (1 : Int32)), (.ref x0)])) rfl (rest := [(.int (1 : Int32)), (.ref x0)]) rfl (hb hby d10_27) _ ?_
    rw [len_of S8 M8]
    exact k
  refine Goes.run X7 hx hown hci hcl hby (L := [(28, .iadd, 1)]) (by decide +kernel) rfl (g' := (mkF m 29 #[rv x0, rv x1] [(.int (4 : Int32)), (.ref x0)])) rfl ?_
  obtain ⟨T9, h9, X9, e9, W9, st9⟩ := putF X7 hx hZ hown (host := "") (Or.inl w_18) Via.refl e7 F_size_x0 E_x0 (Or.inl w_19) w_3 (ty := .int) (by decide) rfl rfl (g := (mkF m 29 #[rv x0, rv x1] [(.int (4 : Int32)), (.ref x0)])) rfl rfl (hb hby d10_29)
  have E_x0 := E_x0.wr W9
  have F_buffer_x0 := F_buffer_x0.other W9 (Or.inr (slot_ne (Or.inl w_12) (Or.inl w_19) (by decide) (t := (.array .byte)) (t' := .int) (by decide) (by decide)))
  have F_size_x0 : Fld Z h9 x0 "com/example/upcaster/upcaster/io/BinaryEncoder" "size" "I" (.int (4 : Int32)) := F_size_x0.same W9
  have V_x1 := V_x1.other W9 hn3
  have V_bf := V_bf.other W9 (Ne.symm hn1)
  have Zn9 : n0 ≤ h9.size := Nat.le_trans Zn6 (Keep.of_wr W9).1
  have K9 := K6.wr W9 (Or.inl (List.mem_of_getElem? (i := 0) rfl))
  have N9 := Fr.snoc X9 N6 g_x0
  refine Goes.st (B := T9.setTop (mkF m 32 #[rv x0, rv x1] [])) st9 ?_
  refine Goes.retV X9 hx hlk Bd.returns (hb hby d10_32) ?_ (by decide) (by decide)
  show (QC Z x0 x1 bf kb kx fa fb h0 n0) _ _ _
  rw [e9]
  exact ⟨rfl, N9, K9, E_x0, F_buffer_x0, F_size_x0, V_bf⟩
theorem pnD : plainName "com/example/upcaster/upcaster/io/BinaryEncoder" = true := by first | (simp [plainName, overriddenIn]; done) | decide +kernel
theorem pdD_0 : parseMethodDescriptor "(I)V" = some ⟨[.int], none⟩ := by decide +kernel
theorem efD (m : MethodId) (x0 : Addr) (x1 : Addr) : entryFrame m #[(.ref x0), (.ref x1)] 2 = (mkF m 0 #[rv x0, rv x1] []) := by first | (simp [entryFrame, mkF, argsToLocals, Value.category]; done) | rfl
def fD_18 (fa : Nat → Int32) (fb : Nat → Int32) : Nat → Int32 := own_cp (f6_28 fa) fb 4 0 300
def QD (Z : State) (x0 : Addr) (x1 : Addr) (bf : Addr) (kb : ClassId) (kx : ClassId) (fa : Nat → Int32) (fb : Nat → Int32) (h0 : Heap) (n0 : Nat) (v : Option Value) (h : Heap) (L : List Loc) : Prop := ∃ (nb : Addr) (k_nb : ClassId), v = none ∧ Fr n0 L ∧ Keep h0 h [x0] ∧ h0.size ≤ nb ∧ Exa Z h x0 "com/example/upcaster/upcaster/io/BinaryEncoder" ∧ Fld Z h x0 "com/example/upcaster/upcaster/io/BinaryEncoder" "buffer" "[B" (.ref nb) ∧ Fld Z h x0 "com/example/upcaster/upcaster/io/BinaryEncoder" "size" "I" (.int (304 : Int32)) ∧ Arv Z h nb k_nb .byte (512 : Int32) (own_fv 512 (fD_18 fa fb)) (.int (0 : Int32))
set_option maxRecDepth 65536 in
set_option maxHeartbeats 40000000 in
theorem rmD (l : Launch) (Z : State) (a0 : Array Value) (hw : ∀ d ∈ tables_1, d.before a0 Z = true) (ws : List Jvm.Cond) (x0 : Addr) (x1 : Addr) (bf : Addr) (kb : ClassId) (kx : ClassId) (fa : Nat → Int32) (fb : Nat → Int32) (h0 : Heap) (n0 : Nat) (Z0 : n0 ≤ h0.size) (E_x0 : Exa Z h0 x0 "com/example/upcaster/upcaster/io/BinaryEncoder") (F_buffer_x0 : Fld Z h0 x0 "com/example/upcaster/upcaster/io/BinaryEncoder" "buffer" "[B" (.ref bf)) (F_size_x0 : Fld Z h0 x0 "com/example/upcaster/upcaster/io/BinaryEncoder" "size" "I" (.int (4 : Int32))) (V_bf : Arv Z h0 bf kb .byte (256 : Int32) (own_fv 256 fa) (.int (0 : Int32))) (V_x1 : Arv Z h0 x1 kx .byte (300 : Int32) (own_fv 300 fb) (.int (0 : Int32))) (g_x0 : n0 ≤ x0) (g_bf : n0 ≤ bf) (hn1 : x0 ≠ bf) (hn2 : x1 ≠ bf) (hn3 : x1 ≠ x0) :
    MetFree l ym9 (head1 (Jvm.Cond.code ym9 prog_6_method_14_code 2 none :: ws) ({ frames := 4, cells := 1, slots := 512, locals := 60 } : Room)) (fun a U => a = #[(.ref x0), (.ref x1)] ∧ Z.Warmed39 U.vm ∧ U.heap = h0) (fun _ _ _ _ _ => True) (fun _ U o U' => ∃ v L, o = .returned v ∧ (QD Z x0 x1 bf kb kx fa fb h0 n0) v U'.heap L ∧ FrameEnd U o U' L ({ frames := 4, cells := 1, slots := 512, locals := 60 } : Room).cells ({ frames := 4, cells := 1, slots := 512, locals := 60 } : Room).slots) := by
  refine MetFree.of_bodySF (plainFor_of_name pnD) hisR ?_
  intro p e s m args below meth c s₁ Bd hml0 hP hK
  obtain ⟨rfl, hZ, hh⟩ := hP
  have hx := Bd.exec
  have hby := Bd.bytes
  have hml : c.maxLocals = 2 := hml0
  have hlk : meth.locks = false := BodyLoose.notSynchronized Bd
  have hown : s.vm.findClass "com/example/upcaster/upcaster/io/BinaryEncoder" = some m.cls := findClass_of_methodNamed Bd.named
  have hnm := (name_of_methodNamed Bd.named Bd.method).1
  have w_3 := hw _ (List.mem_of_getElem? (i := 3) rfl)
  have w_4 := hw _ (List.mem_of_getElem? (i := 4) rfl)
  have w_11 := hw _ (List.mem_of_getElem? (i := 11) rfl)
  have w_12 := hw _ (List.mem_of_getElem? (i := 12) rfl)
  have w_18 := hw _ (List.mem_of_getElem? (i := 18) rfl)
  have w_19 := hw _ (List.mem_of_getElem? (i := 19) rfl)
  have w_29 := hw _ (List.mem_of_getElem? (i := 29) rfl)
  have w_30 := hw _ (List.mem_of_getElem? (i := 30) rfl)
  have w_31 := hw _ (List.mem_of_getElem? (i := 31) rfl)
  have w_37 := hw _ (List.mem_of_getElem? (i := 37) rfl)
  have w_38 := hw _ (List.mem_of_getElem? (i := 38) rfl)
  have w_39 := hw _ (List.mem_of_getElem? (i := 39) rfl)
  have w_40 := hw _ (List.mem_of_getElem? (i := 40) rfl)
  have w_46 := hw _ (List.mem_of_getElem? (i := 46) rfl)
  have w_47 := hw _ (List.mem_of_getElem? (i := 47) rfl)
  have hci : ∀ i v, (i, v) ∈ ([(134, 2147483639)] : List (Nat × Int32)) → (Jvm.Cond.constant "com/example/upcaster/upcaster/io/BinaryEncoder" i v).before #[(.ref x0), (.ref x1)] s = true := (own_ciS (mvT hZ w_47) own_ci0)
  have hcl : ∀ i v, (i, v) ∈ ([] : List (Nat × Int64)) → (Jvm.Cond.constantLong "com/example/upcaster/upcaster/io/BinaryEncoder" i v).before #[(.ref x0), (.ref x1)] s = true := own_ci0
  have X0 : Stand p l e ({ frames := 4, cells := 1, slots := 512, locals := 60 } : Room) s m #[(.ref x0), (.ref x1)] below meth c s₁ [] 0 0 := Stand.of_body Bd
  have e0 : s₁.heap = h0 := by rw [← hh, Bd.state]; rfl
  have N0 := Fr.nil n0
  show Goes p e below s (QD Z x0 x1 bf kb kx fa fb h0 n0) ({ frames := 4, cells := 1, slots := 512, locals := 60 } : Room).cells ({ frames := 4, cells := 1, slots := 512, locals := 60 } : Room).slots (s₁.setTop (entryFrame m #[(.ref x0), (.ref x1)] 2))
  refine Goes.cast (efD m x0 x1) ?_
  have K0 : Keep h0 h0 [x0] := Keep.refl h0 _
  refine Goes.run X0 hx hown hci hcl hby (L := [(0, .aload_n 0, 1), (1, .aload_n 1, 1)]) (by decide +kernel) rfl (g' := (mkF m 2 #[rv x0, rv x1] [(.ref x1), (.ref x0)])) rfl ?_
  obtain ⟨cl1, Ar1, q1, S1, M1, Hs1, G1⟩ := id V_x1
  refine Goes.st (B := s₁.setTop (mkF m 3 #[rv x0, rv x1] [(.int (300 : Int32)), (.ref x0)])) (fun t k => ?_) ?_
  · refine X0.arraylength hx (cell := cl1) (by rw [e0]; exact Ar1.1) (State.isArrayOf_alike hZ.alike Ar1.2.1) (g := (mkF m 2 #[rv x0, rv x1] [(.ref x1), (.ref x0)])) rfl (rest := [(.ref x0)]) rfl (hb hby d10_2) _ ?_
    rw [len_of S1 M1]
    exact k
  obtain ⟨cq2, q2a, q2b⟩ := E_x0.cell
  obtain ⟨_, _, ⟨T2, L2, k2, n2⟩, -, X2, ⟨Lc2, hQ2, l2, y2, z2⟩, st2⟩ := X0.privateBack hx (y := ym7) hown (mvT hZ w_37) (mvT hZ w_38) (own_selp (y := ym7) (mvT hZ w_3) (mvP hZ w_39) (mvT hZ w_38) (by decide)) (Cond.privateMethod_at (mvP hZ w_39 (args := #[]))) (mvT hZ w_40) (by decide) (backOf (W := 0) (rmA l Z a0 hw [] x0 bf kb fa h0 n0 Z0 E_x0 F_buffer_x0 F_size_x0 V_bf g_x0 hn1) hZ w_40 w_4 (by decide) (by decide)) (g := (mkF m 3 #[rv x0, rv x1] [(.int (300 : Int32)), (.ref x0)])) rfl (by rw [hml]; rfl) (Steps.refl _) (a := x0) (by rw [e0]; exact q2a) q2b (argsL := [(.int (300 : Int32))]) (rest := []) (lenOf pdD_0 rfl) rfl (by show 2 * 0 + _ ≤ _; exact Nat.le_of_eq rfl) (hb hby d10_3) (fun _ _ => ⟨rfl, e0, (by decide : 0 + 1 ≤ _), (by decide : 0 + 512 ≤ _)⟩)
  dsimp only [Pt.U, Pt.locs, Pt.cells, Pt.slots] at X2 l2 y2 z2 st2 hQ2
  subst l2 y2 z2
  obtain ⟨h2, eh2⟩ : ∃ z, z = T2.heap := ⟨_, rfl⟩
  rw [← eh2] at hQ2
  have e2 : T2.heap = h2 := eh2.symm
  obtain ⟨nb2, k_nb2, rfl, N2q, Kq2, sq_nb2, o2_0, o2_1, o2_2, o2_3⟩ := hQ2
  have ne_bf_nb2 : bf ≠ nb2 := Nat.ne_of_lt (Nat.lt_of_lt_of_le V_bf.lt sq_nb2)
  have ne_x0_nb2 : x0 ≠ nb2 := Nat.ne_of_lt (Nat.lt_of_lt_of_le E_x0.lt sq_nb2)
  have ne_x1_nb2 : x1 ≠ nb2 := Nat.ne_of_lt (Nat.lt_of_lt_of_le V_x1.lt sq_nb2)
  have g_nb2 : n0 ≤ nb2 := Nat.le_trans Z0 sq_nb2
  have sz_nb2 : h0.size ≤ nb2 := Nat.le_trans K0.1 sq_nb2
  have N2 := Fr.app N0 N2q
  have V_bf := V_bf.keep Kq2 (ninS (Ne.symm hn1) nin0)
  have V_x1 := V_x1.keep Kq2 (ninS hn3 nin0)
  have Zn2 : n0 ≤ h2.size := Nat.le_trans Z0 Kq2.1
  have K2 := K0.trans Kq2 ((allS (Or.inl (List.mem_of_getElem? (i := 0) rfl)) all0))
  have E_x0 : Exa Z h2 x0 "com/example/upcaster/upcaster/io/BinaryEncoder" := o2_0
  have F_buffer_x0 : Fld Z h2 x0 "com/example/upcaster/upcaster/io/BinaryEncoder" "buffer" "[B" (.ref nb2) := o2_1
  have F_size_x0 : Fld Z h2 x0 "com/example/upcaster/upcaster/io/BinaryEncoder" "size" "I" (.int (4 : Int32)) := o2_2
  have V_nb2 : Arv Z h2 nb2 k_nb2 .byte (512 : Int32) (own_fv 512 (f6_28 fa)) (.int (0 : Int32)) := o2_3
  refine Goes.st (B := T2.setTop (mkF m 6 #[rv x0, rv x1] [])) (fun t k => st2.trans k) ?_
  refine Goes.run X2 hx hown hci hcl hby (L := [(6, .aload_n 1, 1), (7, .iconst 0, 1), (8, .aload_n 0, 1)]) (by decide +kernel) rfl (g' := (mkF m 9 #[rv x0, rv x1] [(.ref x0), (.int (0 : Int32)), (.ref x1)])) rfl ?_
  obtain ⟨T3, X3, e3, st3⟩ := getF X2 hx hZ hown (host := "") (Or.inl w_11) Via.refl e2 F_buffer_x0 (g := (mkF m 9 #[rv x0, rv x1] [(.ref x0), (.int (0 : Int32)), (.ref x1)])) rfl rfl (hb hby d10_9)
  refine Goes.st (B := T3.setTop (mkF m 12 #[rv x0, rv x1] [(.ref nb2), (.int (0 : Int32)), (.ref x1)])) st3 ?_
  refine Goes.run X3 hx hown hci hcl hby (L := [(12, .aload_n 0, 1)]) (by decide +kernel) rfl (g' := (mkF m 13 #[rv x0, rv x1] [(.ref x0), (.ref nb2), (.int (0 : Int32)), (.ref x1)])) rfl ?_
  obtain ⟨T4, X4, e4, st4⟩ := getF X3 hx hZ hown (host := "") (Or.inl w_18) Via.refl e3 F_size_x0 (g := (mkF m 13 #[rv x0, rv x1] [(.ref x0), (.ref nb2), (.int (0 : Int32)), (.ref x1)])) rfl rfl (hb hby d10_13)
  refine Goes.st (B := T4.setTop (mkF m 16 #[rv x0, rv x1] [(.int (4 : Int32)), (.ref nb2), (.int (0 : Int32)), (.ref x1)])) st4 ?_
  refine Goes.run X4 hx hown hci hcl hby (L := [(16, .aload_n 1, 1)]) (by decide +kernel) rfl (g' := (mkF m 17 #[rv x0, rv x1] [(.ref x1), (.int (4 : Int32)), (.ref nb2), (.int (0 : Int32)), (.ref x1)])) rfl ?_
  obtain ⟨cl5, Ar5, q5, S5, M5, Hs5, G5⟩ := id V_x1
  refine Goes.st (B := T4.setTop (mkF m 18 #[rv x0, rv x1] [(.int (300 : Int32)), (.int (4 : Int32)), (.ref nb2), (.int (0 : Int32)), (.ref x1)])) (fun t k => ?_) ?_
  · refine X4.arraylength hx (cell := cl5) (by rw [e4]; exact Ar5.1) (State.isArrayOf_alike hZ.alike Ar5.2.1) (g := (mkF m 17 #[rv x0, rv x1] [(.ref x1), (.int (4 : Int32)), (.ref nb2), (.int (0 : Int32)), (.ref x1)])) rfl (rest := [(.int (4 : Int32)), (.ref nb2), (.int (0 : Int32)), (.ref x1)]) rfl (hb hby d10_17) _ ?_
    rw [len_of S5 M5]
    exact k
  obtain ⟨T6, h6, L6, X6, e6, N6, Kq6, Vq6, st6⟩ := cpA X4 hx hZ hown w_46 w_31 w_29 w_30 e4 V_x1 V_nb2 (Or.inl ⟨rfl, rfl⟩) (sp := (0 : Int32)) (dp := (4 : Int32)) (nn := (300 : Int32)) (by decide) (by decide) (by decide) (by decide) (by decide) rfl (by rw [own_flen]; exact (by decide)) N2 g_nb2 (g := (mkF m 18 #[rv x0, rv x1] [(.int (300 : Int32)), (.int (4 : Int32)), (.ref nb2), (.int (0 : Int32)), (.ref x1)])) rfl (by rw [hml]; rfl) (rest := []) rfl (hb hby d10_18) (by decide) (W := 0) (by show 2 * 0 + _ ≤ _; exact Nat.le_of_eq rfl) (by decide)
  have E_x0 := E_x0.keep Kq6
  have F_buffer_x0 := F_buffer_x0.keep Kq6 (ninS ne_x0_nb2 nin0)
  have F_size_x0 := F_size_x0.keep Kq6 (ninS ne_x0_nb2 nin0)
  have V_bf := V_bf.keep Kq6 (ninS ne_bf_nb2 nin0)
  have V_x1 := V_x1.keep Kq6 (ninS ne_x1_nb2 nin0)
  have Zn6 : n0 ≤ h6.size := Nat.le_trans Zn2 Kq6.1
  have K6 := K2.trans Kq6 ((allS (Or.inr sz_nb2) all0))
  have V_nb2 : Arv Z h6 nb2 k_nb2 .byte (512 : Int32) (own_fv 512 (fD_18 fa fb)) (.int (0 : Int32)) := Vq6.pad (own_fcp 512 300 (f6_28 fa) fb 4 0 300 (by decide) (by decide))
  refine Goes.st (B := T6.setTop (mkF m 21 #[rv x0, rv x1] [])) st6 ?_
  refine Goes.run X6 hx hown hci hcl hby (L := [(21, .aload_n 0, 1), (22, .dup, 1)]) (by decide +kernel) rfl (g' := (mkF m 23 #[rv x0, rv x1] [(.ref x0), (.ref x0)])) rfl ?_
  obtain ⟨T7, X7, e7, st7⟩ := getF X6 hx hZ hown (host := "") (Or.inl w_18) Via.refl e6 F_size_x0 (g := (mkF m 23 #[rv x0, rv x1] [(.ref x0), (.ref x0)])) rfl rfl (hb hby d10_23)
  refine Goes.st (B := T7.setTop (mkF m 26 #[rv x0, rv x1] [(.int (4 : Int32)), (.ref x0)])) st7 ?_
  refine Goes.run X7 hx hown hci hcl hby (L := [(26, .aload_n 1, 1)]) (by decide +kernel) rfl (g' := (mkF m 27 #[rv x0, rv x1] [(.ref x1), (.int (4 : Int32)), (.ref x0)])) rfl ?_
  obtain ⟨cl8, Ar8, q8, S8, M8, Hs8, G8⟩ := id V_x1
  refine Goes.st (B := T7.setTop (mkF m 28 #[rv x0, rv x1] [(.int (300 : Int32)), (.int (4 : Int32)), (.ref x0)])) (fun t k => ?_) ?_
  · refine X7.arraylength hx (cell := cl8) (by rw [e7]; exact Ar8.1) (State.isArrayOf_alike hZ.alike Ar8.2.1) (g := (mkF m 27 #[rv x0, rv x1] [(.ref x1), (.int (4 : Int32)), (.ref x0)])) rfl (rest := [(.int (4 : Int32)), (.ref x0)]) rfl (hb hby d10_27) _ ?_
    rw [len_of S8 M8]
    exact k
  refine Goes.run X7 hx hown hci hcl hby (L := [(28, .iadd, 1)]) (by decide +kernel) rfl (g' := (mkF m 29 #[rv x0, rv x1] [(.int (304 : Int32)), (.ref x0)])) rfl ?_
  obtain ⟨T9, h9, X9, e9, W9, st9⟩ := putF X7 hx hZ hown (host := "") (Or.inl w_18) Via.refl e7 F_size_x0 E_x0 (Or.inl w_19) w_3 (ty := .int) (by decide) rfl rfl (g := (mkF m 29 #[rv x0, rv x1] [(.int (304 : Int32)), (.ref x0)])) rfl rfl (hb hby d10_29)
  have E_x0 := E_x0.wr W9
  have F_buffer_x0 := F_buffer_x0.other W9 (Or.inr (slot_ne (Or.inl w_12) (Or.inl w_19) (by decide) (t := (.array .byte)) (t' := .int) (by decide) (by decide)))
  have F_size_x0 : Fld Z h9 x0 "com/example/upcaster/upcaster/io/BinaryEncoder" "size" "I" (.int (304 : Int32)) := F_size_x0.same W9
  have V_bf := V_bf.other W9 (Ne.symm hn1)
  have V_x1 := V_x1.other W9 hn3
  have V_nb2 := V_nb2.other W9 (Ne.symm ne_x0_nb2)
  have Zn9 : n0 ≤ h9.size := Nat.le_trans Zn6 (Keep.of_wr W9).1
  have K9 := K6.wr W9 (Or.inl (List.mem_of_getElem? (i := 0) rfl))
  have N9 := Fr.snoc X9 N6 g_x0
  refine Goes.st (B := T9.setTop (mkF m 32 #[rv x0, rv x1] [])) st9 ?_
  refine Goes.retV X9 hx hlk Bd.returns (hb hby d10_32) ?_ (by decide) (by decide)
  show (QD Z x0 x1 bf kb kx fa fb h0 n0) _ _ _
  rw [e9]
  exact ⟨nb2, k_nb2, rfl, N9, K9, sz_nb2, E_x0, F_buffer_x0, F_size_x0, V_nb2⟩
theorem d11_1 : decode jdk_41_method_11_code 1 = .ok (.ifCond .lt 8, 3) := by decide +kernel
theorem d11_6 : decode jdk_41_method_11_code 6 = .ok (.if_icmp .lt 10, 3) := by decide +kernel
theorem d11_17 : decode jdk_41_method_11_code 17 = .ok (.ireturn, 1) := by decide +kernel
theorem pnE : plainName "jdk/internal/util/Preconditions" = true := by first | (simp [plainName, overriddenIn]; done) | decide +kernel
theorem efE (m : MethodId) (x0 : Int32) (x1 : Int32) : entryFrame m #[(.int x0), (.int x1), .null] 3 = (mkF m 0 #[iv x0, iv x1, .val .null] []) := by first | (simp [entryFrame, mkF, argsToLocals, Value.category]; done) | rfl
def rE (x0 : Int32) (x1 : Int32) : Int32 := x0
set_option maxRecDepth 65536 in
set_option maxHeartbeats 40000000 in
theorem rmE (l : Launch) (Z : State) (a0 : Array Value) (hw : ∀ d ∈ tables_1, d.before a0 Z = true) (ws : List Jvm.Cond) (x0 : Int32) (x1 : Int32) (h0 : Heap) (n0 : Nat) (Z0 : n0 ≤ h0.size) (p1 : ¬ (x0 < (0 : Int32))) (p2 : x0 < x1) :
    MetFree l ym10 (head1 (Jvm.Cond.code ym10 jdk_41_method_11_code 3 (some .int) :: ws) ({ frames := 0, cells := 0, slots := 0, locals := 0 } : Room)) (fun a U => a = #[(.int x0), (.int x1), .null] ∧ Z.Warmed39 U.vm ∧ U.heap = h0) (fun _ _ _ _ _ => True) (fun _ U o U' => ∃ v L, o = .returned v ∧ (QP (some (.int (rE x0 x1))) h0 n0) v U'.heap L ∧ FrameEnd U o U' L ({ frames := 0, cells := 0, slots := 0, locals := 0 } : Room).cells ({ frames := 0, cells := 0, slots := 0, locals := 0 } : Room).slots) := by
  refine MetFree.of_bodySF (plainFor_of_name pnE) hisR ?_
  intro p e s m args below meth c s₁ Bd hml0 hP hK
  obtain ⟨rfl, hZ, hh⟩ := hP
  have hx := Bd.exec
  have hby := Bd.bytes
  have hml : c.maxLocals = 3 := hml0
  have hlk : meth.locks = false := BodyLoose.notSynchronized Bd
  have hown : s.vm.findClass "jdk/internal/util/Preconditions" = some m.cls := findClass_of_methodNamed Bd.named
  have hnm := (name_of_methodNamed Bd.named Bd.method).1
  have hci : ∀ i v, (i, v) ∈ ([] : List (Nat × Int32)) → (Jvm.Cond.constant "jdk/internal/util/Preconditions" i v).before #[(.int x0), (.int x1), .null] s = true := own_ci0
  have hcl : ∀ i v, (i, v) ∈ ([] : List (Nat × Int64)) → (Jvm.Cond.constantLong "jdk/internal/util/Preconditions" i v).before #[(.int x0), (.int x1), .null] s = true := own_ci0
  have X0 : Stand p l e ({ frames := 0, cells := 0, slots := 0, locals := 0 } : Room) s m #[(.int x0), (.int x1), .null] below meth c s₁ [] 0 0 := Stand.of_body Bd
  have e0 : s₁.heap = h0 := by rw [← hh, Bd.state]; rfl
  have N0 := Fr.nil n0
  show Goes p e below s (QP (some (.int (rE x0 x1))) h0 n0) ({ frames := 0, cells := 0, slots := 0, locals := 0 } : Room).cells ({ frames := 0, cells := 0, slots := 0, locals := 0 } : Room).slots (s₁.setTop (entryFrame m #[(.int x0), (.int x1), .null] 3))
  refine Goes.cast (efE m x0 x1) ?_
  refine Goes.run X0 hx hown hci hcl hby (L := [(0, .iload_n 0, 1)]) (by decide +kernel) rfl (g' := (mkF m 1 #[iv x0, iv x1, .val .null] [(.int x0)])) rfl ?_
  have hc1_1 : ¬ (x0 < (0 : Int32)) := p1
  refine Goes.st (B := s₁.setTop (mkF m 4 #[iv x0, iv x1, .val .null] [])) (fun t k => ?_) ?_
  · refine XS.ifNo X0.here hx rfl (hb hby d11_1) rfl ((if0 _ _).trans (flt hc1_1).1) ?_
    exact k
  refine Goes.run X0 hx hown hci hcl hby (L := [(4, .iload_n 0, 1), (5, .iload_n 1, 1)]) (by decide +kernel) rfl (g' := (mkF m 6 #[iv x0, iv x1, .val .null] [(.int x1), (.int x0)])) rfl ?_
  have hc6_2 : x0 < x1 := p2
  refine Goes.st (B := s₁.setTop (mkF m 16 #[iv x0, iv x1, .val .null] [])) (fun t k => ?_) ?_
  · refine XS.icmpYes X0.here hx rfl (pc0 := 6) (pc' := 16) rfl (hb hby d11_6) rfl (tlt hc6_2).1 (by decide) (by decide) ?_
    exact k
  refine Goes.run X0 hx hown hci hcl hby (L := [(16, .iload_n 0, 1)]) (by decide +kernel) rfl (g' := (mkF m 17 #[iv x0, iv x1, .val .null] [(.int x0)])) rfl ?_
  exact Goes.retI X0 hx hlk Bd.returns (hb hby d11_17) ⟨(congrArg (fun z => some (Value.int z)) (show (rE x0 x1) = x0 from rfl).symm), N0, e0⟩ (by decide) (by decide)
theorem d12_3 : decode jdk_31_method_17_code 3 = .ok (.invokestatic 105, 3) := by decide +kernel
theorem d12_6 : decode jdk_31_method_17_code 6 = .ok (.ireturn, 1) := by decide +kernel
theorem pnF : plainName "java/util/Objects" = true := by first | (simp [plainName, overriddenIn]; done) | decide +kernel
theorem pdF_0 : parseMethodDescriptor "(IILjava/util/function/BiFunction;)I" = some ⟨[.int, .int, (.object "java/util/function/BiFunction")], some .int⟩ := by decide +kernel
theorem efF (m : MethodId) (x0 : Int32) (x1 : Int32) : entryFrame m #[(.int x0), (.int x1)] 2 = (mkF m 0 #[iv x0, iv x1] []) := by first | (simp [entryFrame, mkF, argsToLocals, Value.category]; done) | rfl
def rF (x0 : Int32) (x1 : Int32) : Int32 := (rE x0 x1)
set_option maxRecDepth 65536 in
set_option maxHeartbeats 40000000 in
theorem rmF (l : Launch) (Z : State) (a0 : Array Value) (hw : ∀ d ∈ tables_1, d.before a0 Z = true) (ws : List Jvm.Cond) (x0 : Int32) (x1 : Int32) (h0 : Heap) (n0 : Nat) (Z0 : n0 ≤ h0.size) (p1 : ¬ (x0 < (0 : Int32))) (p2 : x0 < x1) :
    MetFree l ym11 (head1 (Jvm.Cond.code ym11 jdk_31_method_17_code 2 (some .int) :: ws) ({ frames := 1, cells := 0, slots := 0, locals := 14 } : Room)) (fun a U => a = #[(.int x0), (.int x1)] ∧ Z.Warmed39 U.vm ∧ U.heap = h0) (fun _ _ _ _ _ => True) (fun _ U o U' => ∃ v L, o = .returned v ∧ (QP (some (.int (rF x0 x1))) h0 n0) v U'.heap L ∧ FrameEnd U o U' L ({ frames := 1, cells := 0, slots := 0, locals := 14 } : Room).cells ({ frames := 1, cells := 0, slots := 0, locals := 14 } : Room).slots) := by
  refine MetFree.of_bodySF (plainFor_of_name pnF) hisR ?_
  intro p e s m args below meth c s₁ Bd hml0 hP hK
  obtain ⟨rfl, hZ, hh⟩ := hP
  have hx := Bd.exec
  have hby := Bd.bytes
  have hml : c.maxLocals = 2 := hml0
  have hlk : meth.locks = false := BodyLoose.notSynchronized Bd
  have hown : s.vm.findClass "java/util/Objects" = some m.cls := findClass_of_methodNamed Bd.named
  have hnm := (name_of_methodNamed Bd.named Bd.method).1
  have w_79 := hw _ (List.mem_of_getElem? (i := 79) rfl)
  have w_80 := hw _ (List.mem_of_getElem? (i := 80) rfl)
  have w_81 := hw _ (List.mem_of_getElem? (i := 81) rfl)
  have w_82 := hw _ (List.mem_of_getElem? (i := 82) rfl)
  have hci : ∀ i v, (i, v) ∈ ([] : List (Nat × Int32)) → (Jvm.Cond.constant "java/util/Objects" i v).before #[(.int x0), (.int x1)] s = true := own_ci0
  have hcl : ∀ i v, (i, v) ∈ ([] : List (Nat × Int64)) → (Jvm.Cond.constantLong "java/util/Objects" i v).before #[(.int x0), (.int x1)] s = true := own_ci0
  have X0 : Stand p l e ({ frames := 1, cells := 0, slots := 0, locals := 14 } : Room) s m #[(.int x0), (.int x1)] below meth c s₁ [] 0 0 := Stand.of_body Bd
  have e0 : s₁.heap = h0 := by rw [← hh, Bd.state]; rfl
  have N0 := Fr.nil n0
  show Goes p e below s (QP (some (.int (rF x0 x1))) h0 n0) ({ frames := 1, cells := 0, slots := 0, locals := 14 } : Room).cells ({ frames := 1, cells := 0, slots := 0, locals := 14 } : Room).slots (s₁.setTop (entryFrame m #[(.int x0), (.int x1)] 2))
  refine Goes.cast (efF m x0 x1) ?_
  refine Goes.run X0 hx hown hci hcl hby (L := [(0, .iload_n 0, 1), (1, .iload_n 1, 1), (2, .aconst_null, 1)]) (by decide +kernel) rfl (g' := (mkF m 3 #[iv x0, iv x1] [.null, (.int x1), (.int x0)])) rfl ?_
  obtain ⟨_, _, ⟨T1, L1, k1, n1⟩, -, X1, ⟨Lc1, hQ1, l1, y1, z1⟩, st1⟩ := Jvm.LawKit.callS X0 hx (y := ym10) hown (mvT hZ w_79) (mvT hZ w_80) (mvT hZ w_81) (mvT hZ w_82) (by decide) (backOf (W := 0) (rmE l Z a0 hw [] x0 x1 h0 n0 Z0 p1 p2) hZ w_82 w_81 (by decide) (by decide)) (g := (mkF m 3 #[iv x0, iv x1] [.null, (.int x1), (.int x0)])) rfl (by rw [hml]; rfl) (argsL := [(.int x0), (.int x1), .null]) (rest := []) (lenOf pdF_0 rfl) rfl (by show 2 * 0 + _ ≤ _; exact Nat.le_of_eq rfl) (hb hby d12_3) (fun _ _ => ⟨rfl, e0, (by decide : 0 + 0 ≤ _), (by decide : 0 + 0 ≤ _)⟩)
  dsimp only [Pt.U, Pt.locs, Pt.cells, Pt.slots] at X1 l1 y1 z1 st1 hQ1
  subst l1 y1 z1
  obtain ⟨rfl, N1q, e1⟩ := hQ1
  have N1 := Fr.app N0 N1q
  refine Goes.st (B := T1.setTop (mkF m 6 #[iv x0, iv x1] [(.int (rE x0 x1))])) st1 ?_
  exact Goes.retI X1 hx hlk Bd.returns (hb hby d12_6) ⟨(congrArg (fun z => some (Value.int z)) (show (rF x0 x1) = (rE x0 x1) from rfl).symm), N1, e1⟩ (by decide) (by decide)
theorem d13_3 : decode prog_6_method_4_code 3 = .ok (.getfield 13, 3) := by decide +kernel
theorem d13_8 : decode prog_6_method_4_code 8 = .ok (.invokestatic 17, 3) := by decide +kernel
theorem d13_11 : decode prog_6_method_4_code 11 = .ok (.putfield 13, 3) := by decide +kernel
theorem d13_14 : decode prog_6_method_4_code 14 = .ok (.return_, 1) := by decide +kernel
theorem pnG : plainName "com/example/upcaster/upcaster/io/BinaryEncoder" = true := by first | (simp [plainName, overriddenIn]; done) | decide +kernel
theorem pdG_0 : parseMethodDescriptor "(II)I" = some ⟨[.int, .int], some .int⟩ := by decide +kernel
theorem efG (m : MethodId) (x0 : Addr) (x1 : Int32) : entryFrame m #[(.ref x0), (.int x1)] 2 = (mkF m 0 #[rv x0, iv x1] []) := by first | (simp [entryFrame, mkF, argsToLocals, Value.category]; done) | rfl
def cG_8_0 (x1 : Int32) (w : Int32) : Int32 := (w + (1 : Int32))
def QG (Z : State) (x0 : Addr) (x1 : Int32) (bf : Addr) (w : Int32) (h0 : Heap) (n0 : Nat) (v : Option Value) (h : Heap) (L : List Loc) : Prop := v = none ∧ Fr n0 L ∧ Keep h0 h [x0] ∧ Exa Z h x0 "com/example/upcaster/upcaster/io/BinaryEncoder" ∧ Fld Z h x0 "com/example/upcaster/upcaster/io/BinaryEncoder" "buffer" "[B" (.ref bf) ∧ Fld Z h x0 "com/example/upcaster/upcaster/io/BinaryEncoder" "size" "I" (.int x1)
set_option maxRecDepth 65536 in
set_option maxHeartbeats 40000000 in
theorem rmG (l : Launch) (Z : State) (a0 : Array Value) (hw : ∀ d ∈ tables_1, d.before a0 Z = true) (ws : List Jvm.Cond) (x0 : Addr) (x1 : Int32) (bf : Addr) (w : Int32) (h0 : Heap) (n0 : Nat) (Z0 : n0 ≤ h0.size) (E_x0 : Exa Z h0 x0 "com/example/upcaster/upcaster/io/BinaryEncoder") (F_buffer_x0 : Fld Z h0 x0 "com/example/upcaster/upcaster/io/BinaryEncoder" "buffer" "[B" (.ref bf)) (F_size_x0 : Fld Z h0 x0 "com/example/upcaster/upcaster/io/BinaryEncoder" "size" "I" (.int w)) (g_x0 : n0 ≤ x0) (p1 : ¬ (x1 < (0 : Int32))) (p2 : x1 < (w + (1 : Int32))) :
    MetFree l ym12 (head1 (Jvm.Cond.code ym12 prog_6_method_4_code 2 none :: ws) ({ frames := 2, cells := 0, slots := 0, locals := 28 } : Room)) (fun a U => a = #[(.ref x0), (.int x1)] ∧ Z.Warmed39 U.vm ∧ U.heap = h0) (fun _ _ _ _ _ => True) (fun _ U o U' => ∃ v L, o = .returned v ∧ (QG Z x0 x1 bf w h0 n0) v U'.heap L ∧ FrameEnd U o U' L ({ frames := 2, cells := 0, slots := 0, locals := 28 } : Room).cells ({ frames := 2, cells := 0, slots := 0, locals := 28 } : Room).slots) := by
  refine MetFree.of_bodySF (plainFor_of_name pnG) hisR ?_
  intro p e s m args below meth c s₁ Bd hml0 hP hK
  obtain ⟨rfl, hZ, hh⟩ := hP
  have hx := Bd.exec
  have hby := Bd.bytes
  have hml : c.maxLocals = 2 := hml0
  have hlk : meth.locks = false := BodyLoose.notSynchronized Bd
  have hown : s.vm.findClass "com/example/upcaster/upcaster/io/BinaryEncoder" = some m.cls := findClass_of_methodNamed Bd.named
  have hnm := (name_of_methodNamed Bd.named Bd.method).1
  have w_3 := hw _ (List.mem_of_getElem? (i := 3) rfl)
  have w_12 := hw _ (List.mem_of_getElem? (i := 12) rfl)
  have w_18 := hw _ (List.mem_of_getElem? (i := 18) rfl)
  have w_19 := hw _ (List.mem_of_getElem? (i := 19) rfl)
  have w_47 := hw _ (List.mem_of_getElem? (i := 47) rfl)
  have w_75 := hw _ (List.mem_of_getElem? (i := 75) rfl)
  have w_76 := hw _ (List.mem_of_getElem? (i := 76) rfl)
  have w_77 := hw _ (List.mem_of_getElem? (i := 77) rfl)
  have w_78 := hw _ (List.mem_of_getElem? (i := 78) rfl)
  have hci : ∀ i v, (i, v) ∈ ([(134, 2147483639)] : List (Nat × Int32)) → (Jvm.Cond.constant "com/example/upcaster/upcaster/io/BinaryEncoder" i v).before #[(.ref x0), (.int x1)] s = true := (own_ciS (mvT hZ w_47) own_ci0)
  have hcl : ∀ i v, (i, v) ∈ ([] : List (Nat × Int64)) → (Jvm.Cond.constantLong "com/example/upcaster/upcaster/io/BinaryEncoder" i v).before #[(.ref x0), (.int x1)] s = true := own_ci0
  have X0 : Stand p l e ({ frames := 2, cells := 0, slots := 0, locals := 28 } : Room) s m #[(.ref x0), (.int x1)] below meth c s₁ [] 0 0 := Stand.of_body Bd
  have e0 : s₁.heap = h0 := by rw [← hh, Bd.state]; rfl
  have N0 := Fr.nil n0
  show Goes p e below s (QG Z x0 x1 bf w h0 n0) ({ frames := 2, cells := 0, slots := 0, locals := 28 } : Room).cells ({ frames := 2, cells := 0, slots := 0, locals := 28 } : Room).slots (s₁.setTop (entryFrame m #[(.ref x0), (.int x1)] 2))
  refine Goes.cast (efG m x0 x1) ?_
  have K0 : Keep h0 h0 [x0] := Keep.refl h0 _
  refine Goes.run X0 hx hown hci hcl hby (L := [(0, .aload_n 0, 1), (1, .iload_n 1, 1), (2, .aload_n 0, 1)]) (by decide +kernel) rfl (g' := (mkF m 3 #[rv x0, iv x1] [(.ref x0), (.int x1), (.ref x0)])) rfl ?_
  obtain ⟨T1, X1, e1, st1⟩ := getF X0 hx hZ hown (host := "") (Or.inl w_18) Via.refl e0 F_size_x0 (g := (mkF m 3 #[rv x0, iv x1] [(.ref x0), (.int x1), (.ref x0)])) rfl rfl (hb hby d13_3)
  refine Goes.st (B := T1.setTop (mkF m 6 #[rv x0, iv x1] [(.int w), (.int x1), (.ref x0)])) st1 ?_
  refine Goes.run X1 hx hown hci hcl hby (L := [(6, .iconst 1, 1), (7, .iadd, 1)]) (by decide +kernel) rfl (g' := (mkF m 8 #[rv x0, iv x1] [(.int (cG_8_0 x1 w)), (.int x1), (.ref x0)])) rfl ?_
  obtain ⟨_, _, ⟨T2, L2, k2, n2⟩, -, X2, ⟨Lc2, hQ2, l2, y2, z2⟩, st2⟩ := Jvm.LawKit.callS X1 hx (y := ym11) hown (mvT hZ w_75) (mvT hZ w_76) (mvT hZ w_77) (mvT hZ w_78) (by decide) (backOf (W := 1) (rmF l Z a0 hw [] x1 (cG_8_0 x1 w) h0 n0 Z0 p1 p2) hZ w_78 w_77 (by decide) (by decide)) (g := (mkF m 8 #[rv x0, iv x1] [(.int (cG_8_0 x1 w)), (.int x1), (.ref x0)])) rfl (by rw [hml]; rfl) (argsL := [(.int x1), (.int (cG_8_0 x1 w))]) (rest := [(.ref x0)]) (lenOf pdG_0 rfl) rfl (by show 2 * 0 + _ ≤ _; exact Nat.le_of_eq rfl) (hb hby d13_8) (fun _ _ => ⟨rfl, e1, (by decide : 0 + 0 ≤ _), (by decide : 0 + 0 ≤ _)⟩)
  dsimp only [Pt.U, Pt.locs, Pt.cells, Pt.slots] at X2 l2 y2 z2 st2 hQ2
  subst l2 y2 z2
  obtain ⟨rfl, N2q, e2⟩ := hQ2
  have N2 := Fr.app N0 N2q
  refine Goes.st (B := T2.setTop (mkF m 11 #[rv x0, iv x1] [(.int x1), (.ref x0)])) st2 ?_
  obtain ⟨T3, h3, X3, e3, W3, st3⟩ := putF X2 hx hZ hown (host := "") (Or.inl w_18) Via.refl e2 F_size_x0 E_x0 (Or.inl w_19) w_3 (ty := .int) (by decide) rfl rfl (g := (mkF m 11 #[rv x0, iv x1] [(.int x1), (.ref x0)])) rfl rfl (hb hby d13_11)
  have E_x0 := E_x0.wr W3
  have F_buffer_x0 := F_buffer_x0.other W3 (Or.inr (slot_ne (Or.inl w_12) (Or.inl w_19) (by decide) (t := (.array .byte)) (t' := .int) (by decide) (by decide)))
  have F_size_x0 : Fld Z h3 x0 "com/example/upcaster/upcaster/io/BinaryEncoder" "size" "I" (.int x1) := F_size_x0.same W3
  have Zn3 : n0 ≤ h3.size := Nat.le_trans Z0 (Keep.of_wr W3).1
  have K3 := K0.wr W3 (Or.inl (List.mem_of_getElem? (i := 0) rfl))
  have N3 := Fr.snoc X3 N2 g_x0
  refine Goes.st (B := T3.setTop (mkF m 14 #[rv x0, iv x1] [])) st3 ?_
  refine Goes.retV X3 hx hlk Bd.returns (hb hby d13_14) ?_ (by decide) (by decide)
  show (QG Z x0 x1 bf w h0 n0) _ _ _
  rw [e3]
  exact ⟨rfl, N3, K3, E_x0, F_buffer_x0, F_size_x0⟩
theorem d14_1 : decode prog_6_method_2_code 1 = .ok (.getfield 13, 3) := by decide +kernel
theorem d14_4 : decode prog_6_method_2_code 4 = .ok (.ireturn, 1) := by decide +kernel
theorem pnH : plainName "com/example/upcaster/upcaster/io/BinaryEncoder" = true := by first | (simp [plainName, overriddenIn]; done) | decide +kernel
theorem efH (m : MethodId) (x0 : Addr) : entryFrame m #[(.ref x0)] 1 = (mkF m 0 #[rv x0] []) := by first | (simp [entryFrame, mkF, argsToLocals, Value.category]; done) | rfl
def rH (w : Int32) : Int32 := w
set_option maxRecDepth 65536 in
set_option maxHeartbeats 40000000 in
theorem rmH (l : Launch) (Z : State) (a0 : Array Value) (hw : ∀ d ∈ tables_1, d.before a0 Z = true) (ws : List Jvm.Cond) (x0 : Addr) (w : Int32) (h0 : Heap) (n0 : Nat) (Z0 : n0 ≤ h0.size) (F_size_x0 : Fld Z h0 x0 "com/example/upcaster/upcaster/io/BinaryEncoder" "size" "I" (.int w)) :
    MetFree l ym13 (head1 (Jvm.Cond.code ym13 prog_6_method_2_code 1 (some .int) :: ws) ({ frames := 0, cells := 0, slots := 0, locals := 0 } : Room)) (fun a U => a = #[(.ref x0)] ∧ Z.Warmed39 U.vm ∧ U.heap = h0) (fun _ _ _ _ _ => True) (fun _ U o U' => ∃ v L, o = .returned v ∧ (QP (some (.int (rH w))) h0 n0) v U'.heap L ∧ FrameEnd U o U' L ({ frames := 0, cells := 0, slots := 0, locals := 0 } : Room).cells ({ frames := 0, cells := 0, slots := 0, locals := 0 } : Room).slots) := by
  refine MetFree.of_bodySF (plainFor_of_name pnH) hisR ?_
  intro p e s m args below meth c s₁ Bd hml0 hP hK
  obtain ⟨rfl, hZ, hh⟩ := hP
  have hx := Bd.exec
  have hby := Bd.bytes
  have hml : c.maxLocals = 1 := hml0
  have hlk : meth.locks = false := BodyLoose.notSynchronized Bd
  have hown : s.vm.findClass "com/example/upcaster/upcaster/io/BinaryEncoder" = some m.cls := findClass_of_methodNamed Bd.named
  have hnm := (name_of_methodNamed Bd.named Bd.method).1
  have w_18 := hw _ (List.mem_of_getElem? (i := 18) rfl)
  have w_47 := hw _ (List.mem_of_getElem? (i := 47) rfl)
  have hci : ∀ i v, (i, v) ∈ ([(134, 2147483639)] : List (Nat × Int32)) → (Jvm.Cond.constant "com/example/upcaster/upcaster/io/BinaryEncoder" i v).before #[(.ref x0)] s = true := (own_ciS (mvT hZ w_47) own_ci0)
  have hcl : ∀ i v, (i, v) ∈ ([] : List (Nat × Int64)) → (Jvm.Cond.constantLong "com/example/upcaster/upcaster/io/BinaryEncoder" i v).before #[(.ref x0)] s = true := own_ci0
  have X0 : Stand p l e ({ frames := 0, cells := 0, slots := 0, locals := 0 } : Room) s m #[(.ref x0)] below meth c s₁ [] 0 0 := Stand.of_body Bd
  have e0 : s₁.heap = h0 := by rw [← hh, Bd.state]; rfl
  have N0 := Fr.nil n0
  show Goes p e below s (QP (some (.int (rH w))) h0 n0) ({ frames := 0, cells := 0, slots := 0, locals := 0 } : Room).cells ({ frames := 0, cells := 0, slots := 0, locals := 0 } : Room).slots (s₁.setTop (entryFrame m #[(.ref x0)] 1))
  refine Goes.cast (efH m x0) ?_
  refine Goes.run X0 hx hown hci hcl hby (L := [(0, .aload_n 0, 1)]) (by decide +kernel) rfl (g' := (mkF m 1 #[rv x0] [(.ref x0)])) rfl ?_
  obtain ⟨T1, X1, e1, st1⟩ := getF X0 hx hZ hown (host := "") (Or.inl w_18) Via.refl e0 F_size_x0 (g := (mkF m 1 #[rv x0] [(.ref x0)])) rfl rfl (hb hby d14_1)
  refine Goes.st (B := T1.setTop (mkF m 4 #[rv x0] [(.int w)])) st1 ?_
  exact Goes.retI X1 hx hlk Bd.returns (hb hby d14_4) ⟨(congrArg (fun z => some (Value.int z)) (show (rH w) = w from rfl).symm), N0, e1⟩ (by decide) (by decide)
theorem d15_1 : decode method_2_code 1 = .ok (.ifCond .ne 14, 3) := by decide +kernel
theorem d15_5 : decode method_2_code 5 = .ok (.ifCond .eq 7, 3) := by decide +kernel
theorem d15_14 : decode method_2_code 14 = .ok (.ireturn, 1) := by decide +kernel
theorem d15_17 : decode method_2_code 17 = .ok (.if_icmp .ge 9, 3) := by decide +kernel
theorem d15_24 : decode method_2_code 24 = .ok (.baload, 1) := by decide +kernel
theorem d15_25 : decode method_2_code 25 = .ok (.ireturn, 1) := by decide +kernel
theorem d15_30 : decode method_2_code 30 = .ok (.baload, 1) := by decide +kernel
theorem d15_31 : decode method_2_code 31 = .ok (.ireturn, 1) := by decide +kernel
theorem pnI : plainName "com/example/upcaster/upcaster/io/BinaryEncoderToByteArrayPinLaw" = true := by first | (simp [plainName, overriddenIn]; done) | decide +kernel
theorem efI (m : MethodId) (x0 : Int32) (x1 : Int32) (x2 : Addr) (x3 : Addr) : entryFrame m #[(.int x0), (.int x1), (.ref x2), (.ref x3)] 4 = (mkF m 0 #[iv x0, iv x1, rv x2, rv x3] []) := by first | (simp [entryFrame, mkF, argsToLocals, Value.category]; done) | rfl
def jI_13_s0 (x0 : Int32) (x1 : Int32) (fa : Nat → Int32) (fb : Nat → Int32) : Int32 := (if x1 = (0 : Int32) then (0 : Int32) else (1 : Int32))
def wI_24 (x0 : Int32) (x1 : Int32) (fa : Nat → Int32) (fb : Nat → Int32) : Int32 := (fa ((x0 - (1 : Int32))).toNatClampNeg)
def wI_30 (x0 : Int32) (x1 : Int32) (fa : Nat → Int32) (fb : Nat → Int32) : Int32 := (fb ((x0 - (4 : Int32))).toNatClampNeg)
def rI (x0 : Int32) (x1 : Int32) (fa : Nat → Int32) (fb : Nat → Int32) : Int32 := (if x0 = (0 : Int32) then ((jI_13_s0 x0 x1 fa fb).toInt8.toInt32) else (if x0 < (4 : Int32) then (wI_24 x0 x1 fa fb) else (wI_30 x0 x1 fa fb)))
set_option maxRecDepth 65536 in
set_option maxHeartbeats 40000000 in
theorem rmI (l : Launch) (Z : State) (a0 : Array Value) (hw : ∀ d ∈ tables_1, d.before a0 Z = true) (ws : List Jvm.Cond) (x0 : Int32) (x1 : Int32) (x2 : Addr) (x3 : Addr) (kf : ClassId) (kg : ClassId) (fa : Nat → Int32) (fb : Nat → Int32) (h0 : Heap) (n0 : Nat) (Z0 : n0 ≤ h0.size) (V_x2 : Arv Z h0 x2 kf .byte (3 : Int32) (own_fv 3 fa) (.int (0 : Int32))) (V_x3 : Arv Z h0 x3 kg .byte (300 : Int32) (own_fv 300 fb) (.int (0 : Int32))) (p1 : ¬ x0 < (0 : Int32)) (p2 : x0 < (304 : Int32)) (hA : ∀ i, nar .byte (fa i) = fa i) (hB : ∀ i, nar .byte (fb i) = fb i) :
    MetFree l ym14 (head1 (Jvm.Cond.code ym14 method_2_code 4 (some .byte) :: ws) ({ frames := 0, cells := 0, slots := 0, locals := 0 } : Room)) (fun a U => a = #[(.int x0), (.int x1), (.ref x2), (.ref x3)] ∧ Z.Warmed39 U.vm ∧ U.heap = h0) (fun _ _ _ _ _ => True) (fun _ U o U' => ∃ v L, o = .returned v ∧ (QP (some (.int (rI x0 x1 fa fb))) h0 n0) v U'.heap L ∧ FrameEnd U o U' L ({ frames := 0, cells := 0, slots := 0, locals := 0 } : Room).cells ({ frames := 0, cells := 0, slots := 0, locals := 0 } : Room).slots) := by
  refine MetFree.of_bodySF (plainFor_of_name pnI) hisR ?_
  intro p e s m args below meth c s₁ Bd hml0 hP hK
  obtain ⟨rfl, hZ, hh⟩ := hP
  have hx := Bd.exec
  have hby := Bd.bytes
  have hml : c.maxLocals = 4 := hml0
  have hlk : meth.locks = false := BodyLoose.notSynchronized Bd
  have hown : s.vm.findClass "com/example/upcaster/upcaster/io/BinaryEncoderToByteArrayPinLaw" = some m.cls := findClass_of_methodNamed Bd.named
  have hnm := (name_of_methodNamed Bd.named Bd.method).1
  have w_1 := hw _ (List.mem_of_getElem? (i := 1) rfl)
  have hci : ∀ i v, (i, v) ∈ ([(7, 2147483647)] : List (Nat × Int32)) → (Jvm.Cond.constant "com/example/upcaster/upcaster/io/BinaryEncoderToByteArrayPinLaw" i v).before #[(.int x0), (.int x1), (.ref x2), (.ref x3)] s = true := (own_ciS (mvT hZ w_1) own_ci0)
  have hcl : ∀ i v, (i, v) ∈ ([] : List (Nat × Int64)) → (Jvm.Cond.constantLong "com/example/upcaster/upcaster/io/BinaryEncoderToByteArrayPinLaw" i v).before #[(.int x0), (.int x1), (.ref x2), (.ref x3)] s = true := own_ci0
  have X0 : Stand p l e ({ frames := 0, cells := 0, slots := 0, locals := 0 } : Room) s m #[(.int x0), (.int x1), (.ref x2), (.ref x3)] below meth c s₁ [] 0 0 := Stand.of_body Bd
  have e0 : s₁.heap = h0 := by rw [← hh, Bd.state]; rfl
  have N0 := Fr.nil n0
  show Goes p e below s (QP (some (.int (rI x0 x1 fa fb))) h0 n0) ({ frames := 0, cells := 0, slots := 0, locals := 0 } : Room).cells ({ frames := 0, cells := 0, slots := 0, locals := 0 } : Room).slots (s₁.setTop (entryFrame m #[(.int x0), (.int x1), (.ref x2), (.ref x3)] 4))
  refine Goes.cast (efI m x0 x1 x2 x3) ?_
  refine Goes.run X0 hx hown hci hcl hby (L := [(0, .iload_n 0, 1)]) (by decide +kernel) rfl (g' := (mkF m 1 #[iv x0, iv x1, rv x2, rv x3] [(.int x0)])) rfl ?_
  by_cases hc1_1 : x0 = (0 : Int32)
  · skip
    refine Goes.st (B := s₁.setTop (mkF m 4 #[iv x0, iv x1, rv x2, rv x3] [])) (fun t k => ?_) ?_
    · refine XS.ifNo X0.here hx rfl (hb hby d15_1) rfl ((if0 _ _).trans (teq hc1_1).2) ?_
      exact k
    refine Goes.run X0 hx hown hci hcl hby (L := [(4, .iload_n 1, 1)]) (by decide +kernel) rfl (g' := (mkF m 5 #[iv x0, iv x1, rv x2, rv x3] [(.int x1)])) rfl ?_
    have jn13_3 : Goes p e below s (QP (some (.int (rI x0 x1 fa fb))) h0 n0) ({ frames := 0, cells := 0, slots := 0, locals := 0 } : Room).cells ({ frames := 0, cells := 0, slots := 0, locals := 0 } : Room).slots (s₁.setTop (mkF m 13 #[iv x0, iv x1, rv x2, rv x3] [(.int (jI_13_s0 x0 x1 fa fb))])) := by
      refine Goes.run X0 hx hown hci hcl hby (L := [(13, .i2b, 1)]) (by decide +kernel) rfl (g' := (mkF m 14 #[iv x0, iv x1, rv x2, rv x3] [(.int ((jI_13_s0 x0 x1 fa fb).toInt8.toInt32))])) rfl ?_
      exact Goes.retB X0 hx hlk (t := .byte) Bd.returns (by simp) (hb hby d15_14) (own_nb8 _) ⟨(congrArg (fun z => some (Value.int z)) (show (rI x0 x1 fa fb) = ((jI_13_s0 x0 x1 fa fb).toInt8.toInt32) from (if_pos hc1_1)).symm), N0, e0⟩ (by decide) (by decide)
    by_cases hc5_2 : x1 = (0 : Int32)
    · skip
      refine Goes.st (B := s₁.setTop (mkF m 12 #[iv x0, iv x1, rv x2, rv x3] [])) (fun t k => ?_) ?_
      · refine XS.ifYes X0.here hx rfl (pc0 := 5) (pc' := 12) rfl (hb hby d15_5) rfl ((if0 _ _).trans (teq hc5_2).1) (by decide) (by decide) ?_
        exact k
      refine Goes.run X0 hx hown hci hcl hby (L := [(12, .iconst 0, 1)]) (by decide +kernel) rfl (g' := (mkF m 13 #[iv x0, iv x1, rv x2, rv x3] [(.int (0 : Int32))])) rfl ?_
      have q := jn13_3
      rw [show (jI_13_s0 x0 x1 fa fb) = (0 : Int32) from (if_pos hc5_2)] at q
      exact q
    · skip
      refine Goes.st (B := s₁.setTop (mkF m 8 #[iv x0, iv x1, rv x2, rv x3] [])) (fun t k => ?_) ?_
      · refine XS.ifNo X0.here hx rfl (hb hby d15_5) rfl ((if0 _ _).trans (feq hc5_2).1) ?_
        exact k
      refine Goes.run X0 hx hown hci hcl hby (L := [(8, .iconst 1, 1), (9, .goto 4, 3)]) (by decide +kernel) rfl (g' := (mkF m 13 #[iv x0, iv x1, rv x2, rv x3] [(.int (1 : Int32))])) rfl ?_
      have q := jn13_3
      rw [show (jI_13_s0 x0 x1 fa fb) = (1 : Int32) from (if_neg hc5_2)] at q
      exact q
  · skip
    refine Goes.st (B := s₁.setTop (mkF m 15 #[iv x0, iv x1, rv x2, rv x3] [])) (fun t k => ?_) ?_
    · refine XS.ifYes X0.here hx rfl (pc0 := 1) (pc' := 15) rfl (hb hby d15_1) rfl ((if0 _ _).trans (feq hc1_1).2) (by decide) (by decide) ?_
      exact k
    refine Goes.run X0 hx hown hci hcl hby (L := [(15, .iload_n 0, 1), (16, .iconst 4, 1)]) (by decide +kernel) rfl (g' := (mkF m 17 #[iv x0, iv x1, rv x2, rv x3] [(.int (4 : Int32)), (.int x0)])) rfl ?_
    by_cases hc17_4 : x0 < (4 : Int32)
    · skip
      refine Goes.st (B := s₁.setTop (mkF m 20 #[iv x0, iv x1, rv x2, rv x3] [])) (fun t k => ?_) ?_
      · refine XS.icmpNo X0.here hx rfl (hb hby d15_17) rfl (tlt hc17_4).2.1 ?_
        exact k
      refine Goes.run X0 hx hown hci hcl hby (L := [(20, .aload_n 2, 1), (21, .iload_n 0, 1), (22, .iconst 1, 1), (23, .isub, 1)]) (by decide +kernel) rfl (g' := (mkF m 24 #[iv x0, iv x1, rv x2, rv x3] [(.int (x0 - (1 : Int32))), (.ref x2)])) rfl ?_
      obtain ⟨cl5, Ar5, q5, S5, M5, Hs5, G5⟩ := id V_x2
      have hin5 : ¬ ((x0 - (1 : Int32)) < 0 ∨ cl5.slots.size ≤ ((x0 - (1 : Int32))).toNatClampNeg) := inb_of S5 ⟨(own_e1 p1 p2 hc1_1 hc17_4).1, (own_e1 p1 p2 hc1_1 hc17_4).2.1⟩
      have hat5 : cl5.slots[((x0 - (1 : Int32))).toNatClampNeg]? = some (.int (wI_24 x0 x1 fa fb)) := Hs5.at hin5 ((own_fget 3 fa ((x0 - (1 : Int32))).toNatClampNeg _).trans (if_pos (own_e1 p1 p2 hc1_1 hc17_4).2.2))
      refine Goes.st (B := s₁.setTop (mkF m 25 #[iv x0, iv x1, rv x2, rv x3] [(.int (wI_24 x0 x1 fa fb))])) (X0.baloadBytes hx (j := (x0 - (1 : Int32))) (v := (.int (wI_24 x0 x1 fa fb))) (by rw [e0]; exact Ar5.1) (State.isArrayOf_alike hZ.alike Ar5.2.1) Ar5.2.2 hin5 hat5 (g := (mkF m 24 #[iv x0, iv x1, rv x2, rv x3] [(.int (x0 - (1 : Int32))), (.ref x2)])) rfl rfl (hb hby d15_24)) ?_
      exact Goes.retB X0 hx hlk (t := .byte) Bd.returns (by simp) (hb hby d15_25) (hA _) ⟨(congrArg (fun z => some (Value.int z)) (show (rI x0 x1 fa fb) = (wI_24 x0 x1 fa fb) from ((if_neg hc1_1).trans (if_pos hc17_4))).symm), N0, e0⟩ (by decide) (by decide)
    · skip
      refine Goes.st (B := s₁.setTop (mkF m 26 #[iv x0, iv x1, rv x2, rv x3] [])) (fun t k => ?_) ?_
      · refine XS.icmpYes X0.here hx rfl (pc0 := 17) (pc' := 26) rfl (hb hby d15_17) rfl (flt hc17_4).2.1 (by decide) (by decide) ?_
        exact k
      refine Goes.run X0 hx hown hci hcl hby (L := [(26, .aload_n 3, 1), (27, .iload_n 0, 1), (28, .iconst 4, 1), (29, .isub, 1)]) (by decide +kernel) rfl (g' := (mkF m 30 #[iv x0, iv x1, rv x2, rv x3] [(.int (x0 - (4 : Int32))), (.ref x3)])) rfl ?_
      obtain ⟨cl6, Ar6, q6, S6, M6, Hs6, G6⟩ := id V_x3
      have hin6 : ¬ ((x0 - (4 : Int32)) < 0 ∨ cl6.slots.size ≤ ((x0 - (4 : Int32))).toNatClampNeg) := inb_of S6 ⟨(own_e4 p1 p2 hc1_1 hc17_4).1, (own_e4 p1 p2 hc1_1 hc17_4).2.1⟩
      have hat6 : cl6.slots[((x0 - (4 : Int32))).toNatClampNeg]? = some (.int (wI_30 x0 x1 fa fb)) := Hs6.at hin6 ((own_fget 300 fb ((x0 - (4 : Int32))).toNatClampNeg _).trans (if_pos (own_e4 p1 p2 hc1_1 hc17_4).2.2))
      refine Goes.st (B := s₁.setTop (mkF m 31 #[iv x0, iv x1, rv x2, rv x3] [(.int (wI_30 x0 x1 fa fb))])) (X0.baloadBytes hx (j := (x0 - (4 : Int32))) (v := (.int (wI_30 x0 x1 fa fb))) (by rw [e0]; exact Ar6.1) (State.isArrayOf_alike hZ.alike Ar6.2.1) Ar6.2.2 hin6 hat6 (g := (mkF m 30 #[iv x0, iv x1, rv x2, rv x3] [(.int (x0 - (4 : Int32))), (.ref x3)])) rfl rfl (hb hby d15_30)) ?_
      exact Goes.retB X0 hx hlk (t := .byte) Bd.returns (by simp) (hb hby d15_31) (hB _) ⟨(congrArg (fun z => some (Value.int z)) (show (rI x0 x1 fa fb) = (wI_30 x0 x1 fa fb) from ((if_neg hc1_1).trans (if_neg hc17_4))).symm), N0, e0⟩ (by decide) (by decide)
theorem pn0 : plainName "com/example/upcaster/upcaster/io/BinaryEncoderToByteArrayPinLaw" = true := by first | (simp [plainName, overriddenIn]; done) | decide +kernel
theorem pd0_0 : parseMethodDescriptor "()V" = some ⟨[], none⟩ := by decide +kernel
theorem pd0_1 : parseMethodDescriptor "()[B" = some ⟨[], some (.array .byte)⟩ := by decide +kernel
theorem pd0_2 : parseMethodDescriptor "(Z)V" = some ⟨[.boolean], none⟩ := by decide +kernel
theorem pd0_3 : parseMethodDescriptor "([B)V" = some ⟨[(.array .byte)], none⟩ := by decide +kernel
theorem pd0_4 : parseMethodDescriptor "()I" = some ⟨[], some .int⟩ := by decide +kernel
theorem pd0_5 : parseMethodDescriptor "(IZ[B[B)B" = some ⟨[.int, .boolean, (.array .byte), (.array .byte)], some .byte⟩ := by decide +kernel
theorem pd0_6 : parseMethodDescriptor "(I)V" = some ⟨[.int], none⟩ := by decide +kernel
theorem ef0 (m : MethodId) (x0 : Int32) (x1 : Int32) (x2 : Int32) (x3 : Int32) : entryFrame m #[(.int x0), (.int x1), (.int x2), (.int x3)] maxLocals = (mkF m 0 #[iv x0, iv x1, iv x2, iv x3, .unset, .unset, .unset, .unset, .unset, .unset, .unset, .unset, .unset, .unset, .unset, .unset, .unset] []) := by first | (simp [entryFrame, mkF, argsToLocals, Value.category, maxLocals]; done) | rfl
def j0_11_s0 (x0 : Int32) (x1 : Int32) (x2 : Int32) (x3 : Int32) : Int32 := (if (x1 &&& (1 : Int32)) = (0 : Int32) then (0 : Int32) else (1 : Int32))
def j0_24_s0 (x0 : Int32) (x1 : Int32) (x2 : Int32) (x3 : Int32) : Int32 := (if (x1 &&& (2 : Int32)) = (0 : Int32) then (0 : Int32) else (1 : Int32))
def w0_36 (x0 : Int32) (x1 : Int32) (x2 : Int32) (x3 : Int32) : Int32 := (nar .byte (x0.toInt8.toInt32))
def f0_36 (x0 : Int32) (x1 : Int32) (x2 : Int32) (x3 : Int32) : Nat → Int32 := own_ud own_z 0 (w0_36 x0 x1 x2 x3)
def w0_45 (x0 : Int32) (x1 : Int32) (x2 : Int32) (x3 : Int32) : Int32 := (nar .byte ((x0 >>> ((8 : Int32) &&& 31)).toInt8.toInt32))
def f0_45 (x0 : Int32) (x1 : Int32) (x2 : Int32) (x3 : Int32) : Nat → Int32 := own_ud (f0_36 x0 x1 x2 x3) 1 (w0_45 x0 x1 x2 x3)
def w0_54 (x0 : Int32) (x1 : Int32) (x2 : Int32) (x3 : Int32) : Int32 := (nar .byte ((x0 >>> ((16 : Int32) &&& 31)).toInt8.toInt32))
def f0_54 (x0 : Int32) (x1 : Int32) (x2 : Int32) (x3 : Int32) : Nat → Int32 := own_ud (f0_45 x0 x1 x2 x3) 2 (w0_54 x0 x1 x2 x3)
def w0_71l (x0 : Int32) (x1 : Int32) (x2 : Int32) (x3 : Int32) : Int32 := (x3 &&& (2147483647 : Int32))
def w0_77 (x0 : Int32) (x1 : Int32) (x2 : Int32) (x3 : Int32) : Int32 := (nar .byte (((x3.toUInt32 >>> ((8 : Int32) &&& 31).toUInt32).toInt32).toInt8.toInt32))
def f0_77 (x0 : Int32) (x1 : Int32) (x2 : Int32) (x3 : Int32) : Nat → Int32 := own_ud own_z (((w0_71l x0 x1 x2 x3) - ((w0_71l x0 x1 x2 x3) / (300 : Int32)) * (300 : Int32))).toNatClampNeg (w0_77 x0 x1 x2 x3)
def w0_86 (x0 : Int32) (x1 : Int32) (x2 : Int32) (x3 : Int32) : Int32 := (nar .byte (((x0.toUInt32 >>> ((24 : Int32) &&& 31).toUInt32).toInt32).toInt8.toInt32))
def f0_86 (x0 : Int32) (x1 : Int32) (x2 : Int32) (x3 : Int32) : Nat → Int32 := own_ud (f0_77 x0 x1 x2 x3) 0 (w0_86 x0 x1 x2 x3)
def w0_94 (x0 : Int32) (x1 : Int32) (x2 : Int32) (x3 : Int32) : Int32 := (nar .byte (x3.toInt8.toInt32))
def f0_94 (x0 : Int32) (x1 : Int32) (x2 : Int32) (x3 : Int32) : Nat → Int32 := own_ud (f0_86 x0 x1 x2 x3) 299 (w0_94 x0 x1 x2 x3)
def w0_213l (x0 : Int32) (x1 : Int32) (x2 : Int32) (x3 : Int32) : Int32 := ((x3.toUInt32 >>> ((3 : Int32) &&& 31).toUInt32).toInt32)
def w0_214 (x0 : Int32) (x1 : Int32) (x2 : Int32) (x3 : Int32) : Int32 := ((w0_213l x0 x1 x2 x3) - ((w0_213l x0 x1 x2 x3) / (4 : Int32)) * (4 : Int32))
def w0_219 (x0 : Int32) (x1 : Int32) (x2 : Int32) (x3 : Int32) : Int32 := ((f5_256_28 (4 : Int32) (fC_18 (fB_30 (j0_11_s0 x0 x1 x2 x3) own_z) (f0_54 x0 x1 x2 x3))) 0)
def w0_236 (x0 : Int32) (x1 : Int32) (x2 : Int32) (x3 : Int32) : Int32 := ((f5_256_28 (4 : Int32) (fC_18 (fB_30 (j0_11_s0 x0 x1 x2 x3) own_z) (f0_54 x0 x1 x2 x3))) 1)
def w0_253 (x0 : Int32) (x1 : Int32) (x2 : Int32) (x3 : Int32) : Int32 := ((f5_256_28 (4 : Int32) (fC_18 (fB_30 (j0_11_s0 x0 x1 x2 x3) own_z) (f0_54 x0 x1 x2 x3))) 2)
def w0_270 (x0 : Int32) (x1 : Int32) (x2 : Int32) (x3 : Int32) : Int32 := ((f5_256_28 (4 : Int32) (fC_18 (fB_30 (j0_11_s0 x0 x1 x2 x3) own_z) (f0_54 x0 x1 x2 x3))) 3)
def w0_311 (x0 : Int32) (x1 : Int32) (x2 : Int32) (x3 : Int32) : Int32 := ((f5_256_28 (4 : Int32) (fC_18 (fB_30 (j0_11_s0 x0 x1 x2 x3) own_z) (f0_54 x0 x1 x2 x3))) ((w0_214 x0 x1 x2 x3)).toNatClampNeg)
def j0_331_s0 (x0 : Int32) (x1 : Int32) (x2 : Int32) (x3 : Int32) : Int32 := (if (w0_219 x0 x1 x2 x3) = (rI (0 : Int32) (j0_11_s0 x0 x1 x2 x3) (f0_54 x0 x1 x2 x3) (f0_94 x0 x1 x2 x3)) then (if (w0_236 x0 x1 x2 x3) = (rI (1 : Int32) (j0_11_s0 x0 x1 x2 x3) (f0_54 x0 x1 x2 x3) (f0_94 x0 x1 x2 x3)) then (if (w0_253 x0 x1 x2 x3) = (rI (2 : Int32) (j0_11_s0 x0 x1 x2 x3) (f0_54 x0 x1 x2 x3) (f0_94 x0 x1 x2 x3)) then (if (w0_270 x0 x1 x2 x3) = (rI (3 : Int32) (j0_11_s0 x0 x1 x2 x3) (f0_54 x0 x1 x2 x3) (f0_94 x0 x1 x2 x3)) then (if (w0_311 x0 x1 x2 x3) = (rI (w0_214 x0 x1 x2 x3) (j0_11_s0 x0 x1 x2 x3) (f0_54 x0 x1 x2 x3) (f0_94 x0 x1 x2 x3)) then (1 : Int32) else (0 : Int32)) else (0 : Int32)) else (0 : Int32)) else (0 : Int32)) else (0 : Int32))
def w0_344 (x0 : Int32) (x1 : Int32) (x2 : Int32) (x3 : Int32) : Int32 := (nar .byte (((w0_219 x0 x1 x2 x3) ^^^ (90 : Int32)).toInt8.toInt32))
def f0_344 (x0 : Int32) (x1 : Int32) (x2 : Int32) (x3 : Int32) : Nat → Int32 := own_ud (f5_256_28 (4 : Int32) (fC_18 (fB_30 (j0_11_s0 x0 x1 x2 x3) own_z) (f0_54 x0 x1 x2 x3))) 0 (w0_344 x0 x1 x2 x3)
def w0_357 (x0 : Int32) (x1 : Int32) (x2 : Int32) (x3 : Int32) : Int32 := ((f0_344 x0 x1 x2 x3) 3)
def w0_362 (x0 : Int32) (x1 : Int32) (x2 : Int32) (x3 : Int32) : Int32 := (nar .byte (((w0_357 x0 x1 x2 x3) ^^^ (51 : Int32)).toInt8.toInt32))
def f0_362 (x0 : Int32) (x1 : Int32) (x2 : Int32) (x3 : Int32) : Nat → Int32 := own_ud (f0_344 x0 x1 x2 x3) 3 (w0_362 x0 x1 x2 x3)
def j0_435_s0 (x0 : Int32) (x1 : Int32) (x2 : Int32) (x3 : Int32) : Int32 := (if (j0_331_s0 x0 x1 x2 x3) = (0 : Int32) then (0 : Int32) else (if (w0_219 x0 x1 x2 x3) = (rI (0 : Int32) (j0_11_s0 x0 x1 x2 x3) (f0_54 x0 x1 x2 x3) (f0_94 x0 x1 x2 x3)) then (if (w0_270 x0 x1 x2 x3) = (rI (3 : Int32) (j0_11_s0 x0 x1 x2 x3) (f0_54 x0 x1 x2 x3) (f0_94 x0 x1 x2 x3)) then (1 : Int32) else (0 : Int32)) else (0 : Int32)))
def w0_445l (x0 : Int32) (x1 : Int32) (x2 : Int32) (x3 : Int32) : Int32 := (x2 &&& (2147483647 : Int32))
def w0_446 (x0 : Int32) (x1 : Int32) (x2 : Int32) (x3 : Int32) : Int32 := ((w0_445l x0 x1 x2 x3) - ((w0_445l x0 x1 x2 x3) / (5 : Int32)) * (5 : Int32))
def j0_480_s0 (x0 : Int32) (x1 : Int32) (x2 : Int32) (x3 : Int32) : Int32 := (if (j0_435_s0 x0 x1 x2 x3) = (0 : Int32) then (0 : Int32) else (1 : Int32))
def w0_495 (x0 : Int32) (x1 : Int32) (x2 : Int32) (x3 : Int32) : Int32 := ((f5_256_28 (w0_446 x0 x1 x2 x3) (fC_18 (fB_30 (j0_11_s0 x0 x1 x2 x3) own_z) (f0_54 x0 x1 x2 x3))) 0)
def w0_515 (x0 : Int32) (x1 : Int32) (x2 : Int32) (x3 : Int32) : Int32 := ((f5_256_28 (w0_446 x0 x1 x2 x3) (fC_18 (fB_30 (j0_11_s0 x0 x1 x2 x3) own_z) (f0_54 x0 x1 x2 x3))) (((w0_446 x0 x1 x2 x3) - (1 : Int32))).toNatClampNeg)
def c0_526_3 (x0 : Int32) (x1 : Int32) (x2 : Int32) (x3 : Int32) : Int32 := ((w0_446 x0 x1 x2 x3) - (1 : Int32))
def j0_537_s0 (x0 : Int32) (x1 : Int32) (x2 : Int32) (x3 : Int32) : Int32 := (if (j0_480_s0 x0 x1 x2 x3) = (0 : Int32) then (0 : Int32) else (if (w0_495 x0 x1 x2 x3) = (rI (0 : Int32) (j0_11_s0 x0 x1 x2 x3) (f0_54 x0 x1 x2 x3) (f0_94 x0 x1 x2 x3)) then (if (w0_515 x0 x1 x2 x3) = (rI (c0_526_3 x0 x1 x2 x3) (j0_11_s0 x0 x1 x2 x3) (f0_54 x0 x1 x2 x3) (f0_94 x0 x1 x2 x3)) then (1 : Int32) else (0 : Int32)) else (0 : Int32)))
def j0_539_10 (x0 : Int32) (x1 : Int32) (x2 : Int32) (x3 : Int32) : Int32 := (if (0 : Int32) < (w0_446 x0 x1 x2 x3) then (j0_537_s0 x0 x1 x2 x3) else (j0_480_s0 x0 x1 x2 x3))
def w0_214_a (x0 : Int32) (x1 : Int32) (x2 : Int32) (x3 : Int32) : Int32 := ((w0_213l x0 x1 x2 x3) - ((w0_213l x0 x1 x2 x3) / (304 : Int32)) * (304 : Int32))
def w0_219_a (x0 : Int32) (x1 : Int32) (x2 : Int32) (x3 : Int32) : Int32 := ((f5_512_28 (304 : Int32) (fD_18 (fC_18 (fB_30 (j0_11_s0 x0 x1 x2 x3) own_z) (f0_54 x0 x1 x2 x3)) (f0_94 x0 x1 x2 x3))) 0)
def w0_236_a (x0 : Int32) (x1 : Int32) (x2 : Int32) (x3 : Int32) : Int32 := ((f5_512_28 (304 : Int32) (fD_18 (fC_18 (fB_30 (j0_11_s0 x0 x1 x2 x3) own_z) (f0_54 x0 x1 x2 x3)) (f0_94 x0 x1 x2 x3))) 1)
def w0_253_a (x0 : Int32) (x1 : Int32) (x2 : Int32) (x3 : Int32) : Int32 := ((f5_512_28 (304 : Int32) (fD_18 (fC_18 (fB_30 (j0_11_s0 x0 x1 x2 x3) own_z) (f0_54 x0 x1 x2 x3)) (f0_94 x0 x1 x2 x3))) 2)
def w0_270_a (x0 : Int32) (x1 : Int32) (x2 : Int32) (x3 : Int32) : Int32 := ((f5_512_28 (304 : Int32) (fD_18 (fC_18 (fB_30 (j0_11_s0 x0 x1 x2 x3) own_z) (f0_54 x0 x1 x2 x3)) (f0_94 x0 x1 x2 x3))) 3)
def w0_290 (x0 : Int32) (x1 : Int32) (x2 : Int32) (x3 : Int32) : Int32 := ((f5_512_28 (304 : Int32) (fD_18 (fC_18 (fB_30 (j0_11_s0 x0 x1 x2 x3) own_z) (f0_54 x0 x1 x2 x3)) (f0_94 x0 x1 x2 x3))) 303)
def w0_311_a (x0 : Int32) (x1 : Int32) (x2 : Int32) (x3 : Int32) : Int32 := ((f5_512_28 (304 : Int32) (fD_18 (fC_18 (fB_30 (j0_11_s0 x0 x1 x2 x3) own_z) (f0_54 x0 x1 x2 x3)) (f0_94 x0 x1 x2 x3))) ((w0_214_a x0 x1 x2 x3)).toNatClampNeg)
def j0_331_s0_a (x0 : Int32) (x1 : Int32) (x2 : Int32) (x3 : Int32) : Int32 := (if (w0_219_a x0 x1 x2 x3) = (rI (0 : Int32) (j0_11_s0 x0 x1 x2 x3) (f0_54 x0 x1 x2 x3) (f0_94 x0 x1 x2 x3)) then (if (w0_236_a x0 x1 x2 x3) = (rI (1 : Int32) (j0_11_s0 x0 x1 x2 x3) (f0_54 x0 x1 x2 x3) (f0_94 x0 x1 x2 x3)) then (if (w0_253_a x0 x1 x2 x3) = (rI (2 : Int32) (j0_11_s0 x0 x1 x2 x3) (f0_54 x0 x1 x2 x3) (f0_94 x0 x1 x2 x3)) then (if (w0_270_a x0 x1 x2 x3) = (rI (3 : Int32) (j0_11_s0 x0 x1 x2 x3) (f0_54 x0 x1 x2 x3) (f0_94 x0 x1 x2 x3)) then (if (w0_290 x0 x1 x2 x3) = (rI (303 : Int32) (j0_11_s0 x0 x1 x2 x3) (f0_54 x0 x1 x2 x3) (f0_94 x0 x1 x2 x3)) then (if (w0_311_a x0 x1 x2 x3) = (rI (w0_214_a x0 x1 x2 x3) (j0_11_s0 x0 x1 x2 x3) (f0_54 x0 x1 x2 x3) (f0_94 x0 x1 x2 x3)) then (1 : Int32) else (0 : Int32)) else (0 : Int32)) else (0 : Int32)) else (0 : Int32)) else (0 : Int32)) else (0 : Int32))
def w0_344_a (x0 : Int32) (x1 : Int32) (x2 : Int32) (x3 : Int32) : Int32 := (nar .byte (((w0_219_a x0 x1 x2 x3) ^^^ (90 : Int32)).toInt8.toInt32))
def f0_344_a (x0 : Int32) (x1 : Int32) (x2 : Int32) (x3 : Int32) : Nat → Int32 := own_ud (f5_512_28 (304 : Int32) (fD_18 (fC_18 (fB_30 (j0_11_s0 x0 x1 x2 x3) own_z) (f0_54 x0 x1 x2 x3)) (f0_94 x0 x1 x2 x3))) 0 (w0_344_a x0 x1 x2 x3)
def w0_357_a (x0 : Int32) (x1 : Int32) (x2 : Int32) (x3 : Int32) : Int32 := ((f0_344_a x0 x1 x2 x3) 303)
def w0_362_a (x0 : Int32) (x1 : Int32) (x2 : Int32) (x3 : Int32) : Int32 := (nar .byte (((w0_357_a x0 x1 x2 x3) ^^^ (51 : Int32)).toInt8.toInt32))
def f0_362_a (x0 : Int32) (x1 : Int32) (x2 : Int32) (x3 : Int32) : Nat → Int32 := own_ud (f0_344_a x0 x1 x2 x3) 303 (w0_362_a x0 x1 x2 x3)
def j0_435_s0_a (x0 : Int32) (x1 : Int32) (x2 : Int32) (x3 : Int32) : Int32 := (if (j0_331_s0_a x0 x1 x2 x3) = (0 : Int32) then (0 : Int32) else (if (w0_219_a x0 x1 x2 x3) = (rI (0 : Int32) (j0_11_s0 x0 x1 x2 x3) (f0_54 x0 x1 x2 x3) (f0_94 x0 x1 x2 x3)) then (if (w0_290 x0 x1 x2 x3) = (rI (303 : Int32) (j0_11_s0 x0 x1 x2 x3) (f0_54 x0 x1 x2 x3) (f0_94 x0 x1 x2 x3)) then (1 : Int32) else (0 : Int32)) else (0 : Int32)))
def w0_446_a (x0 : Int32) (x1 : Int32) (x2 : Int32) (x3 : Int32) : Int32 := ((w0_445l x0 x1 x2 x3) - ((w0_445l x0 x1 x2 x3) / (305 : Int32)) * (305 : Int32))
def j0_480_s0_a (x0 : Int32) (x1 : Int32) (x2 : Int32) (x3 : Int32) : Int32 := (if (j0_435_s0_a x0 x1 x2 x3) = (0 : Int32) then (0 : Int32) else (1 : Int32))
def w0_495_a (x0 : Int32) (x1 : Int32) (x2 : Int32) (x3 : Int32) : Int32 := ((f5_512_28 (w0_446_a x0 x1 x2 x3) (fD_18 (fC_18 (fB_30 (j0_11_s0 x0 x1 x2 x3) own_z) (f0_54 x0 x1 x2 x3)) (f0_94 x0 x1 x2 x3))) 0)
def w0_515_a (x0 : Int32) (x1 : Int32) (x2 : Int32) (x3 : Int32) : Int32 := ((f5_512_28 (w0_446_a x0 x1 x2 x3) (fD_18 (fC_18 (fB_30 (j0_11_s0 x0 x1 x2 x3) own_z) (f0_54 x0 x1 x2 x3)) (f0_94 x0 x1 x2 x3))) (((w0_446_a x0 x1 x2 x3) - (1 : Int32))).toNatClampNeg)
def c0_526_3_a (x0 : Int32) (x1 : Int32) (x2 : Int32) (x3 : Int32) : Int32 := ((w0_446_a x0 x1 x2 x3) - (1 : Int32))
def j0_537_s0_a (x0 : Int32) (x1 : Int32) (x2 : Int32) (x3 : Int32) : Int32 := (if (j0_480_s0_a x0 x1 x2 x3) = (0 : Int32) then (0 : Int32) else (if (w0_495_a x0 x1 x2 x3) = (rI (0 : Int32) (j0_11_s0 x0 x1 x2 x3) (f0_54 x0 x1 x2 x3) (f0_94 x0 x1 x2 x3)) then (if (w0_515_a x0 x1 x2 x3) = (rI (c0_526_3_a x0 x1 x2 x3) (j0_11_s0 x0 x1 x2 x3) (f0_54 x0 x1 x2 x3) (f0_94 x0 x1 x2 x3)) then (1 : Int32) else (0 : Int32)) else (0 : Int32)))
def j0_539_10_a (x0 : Int32) (x1 : Int32) (x2 : Int32) (x3 : Int32) : Int32 := (if (0 : Int32) < (w0_446_a x0 x1 x2 x3) then (j0_537_s0_a x0 x1 x2 x3) else (j0_480_s0_a x0 x1 x2 x3))
def r0 (x0 : Int32) (x1 : Int32) (x2 : Int32) (x3 : Int32) : Int32 := (if (j0_24_s0 x0 x1 x2 x3) = (0 : Int32) then (j0_539_10 x0 x1 x2 x3) else (j0_539_10_a x0 x1 x2 x3))
theorem own_lz (x : Int32) {k : Int32} (h : (k &&& 31).toUInt32.toNat = 3) : 0 ≤ ((x.toUInt32 >>> (k &&& 31).toUInt32).toInt32).toInt := by
  have e : ((x.toUInt32 >>> (k &&& 31).toUInt32).toInt32).toBitVec.toNat < 2 ^ 31 := by
    show (x.toUInt32 >>> (k &&& 31).toUInt32).toNat < 2 ^ 31
    rw [UInt32.toNat_shiftRight, h]
    have : x.toUInt32.toNat < 2 ^ 32 := UInt32.toNat_lt _
    rw [Nat.shiftRight_eq_div_pow, show (2 : Nat) ^ (3 % 32) = 8 from rfl]
    omega
  rw [own_ofbv32 e]
  omega
theorem own_rm {u m : Int32} {a M : Int} (hu : u.toInt = a) (a0 : 0 ≤ a) (hm : m.toInt = M) (M0 : 0 < M) : ∃ c : Int, (u - (u / m) * m).toInt = c ∧ 0 ≤ c ∧ c < M :=
  ⟨_, own_r32 hu hm a0, Int.emod_nonneg _ (by omega), Int.emod_lt_of_pos _ M0⟩
theorem own_k0 {k : Int32} (h0 : ¬ k < (0 : Int32)) (hk : (0 : Int32) < k) : ¬ (0 : Int32) < 0 ∧ (0 : Int32) < k ∧ 0 < k.toNatClampNeg := by
  refine ⟨by decide, hk, ?_⟩
  rw [Int32.lt_iff_toInt_lt] at hk
  have e : (0 : Int32).toInt = 0 := by decide
  show 0 < k.toInt.toNat
  omega
theorem own_k1 {k : Int32} (h0 : ¬ k < (0 : Int32)) (hk : (0 : Int32) < k) : ¬ (k - (1 : Int32)) < 0 ∧ (k - (1 : Int32)) < k ∧ (k - (1 : Int32)).toNatClampNeg < k.toNatClampNeg := by
  obtain ⟨a, e⟩ : ∃ a : Int, k.toInt = a := ⟨_, rfl⟩
  have u : k.toInt < 2 ^ 31 := Int32.toInt_lt k
  rw [own_lt32 (show (0 : Int32).toInt = 0 by decide) e] at hk
  rw [e] at u
  have d := own_sub32 e (show (1 : Int32).toInt = 1 by decide) (by omega) (by omega)
  rw [own_lt32 d (show (0 : Int32).toInt = 0 by decide), own_lt32 d e, own_ncl d, own_ncl e]
  omega
section
variable (x0 x1 x2 x3 : Int32)
theorem own_i77 : ¬ ((w0_71l x0 x1 x2 x3) - ((w0_71l x0 x1 x2 x3) / (300 : Int32)) * (300 : Int32)) < 0 ∧ ((w0_71l x0 x1 x2 x3) - ((w0_71l x0 x1 x2 x3) / (300 : Int32)) * (300 : Int32)) < (300 : Int32) ∧ (((w0_71l x0 x1 x2 x3) - ((w0_71l x0 x1 x2 x3) / (300 : Int32)) * (300 : Int32))).toNatClampNeg < 300 := by
  obtain ⟨A, m0, a0, -, -⟩ := own_m32 x3 (2147483647 : Int32) (k := 31) (by decide) (by decide)
  obtain ⟨c, e, c0, c1⟩ := own_rm (show (w0_71l x0 x1 x2 x3).toInt = A from m0) a0 (show (300 : Int32).toInt = 300 by decide) (by omega)
  rw [own_lt32 e (show (0 : Int32).toInt = 0 by decide), own_lt32 e (show (300 : Int32).toInt = 300 by decide), own_ncl e]
  omega
theorem own_jv4 : ∃ c : Int, (w0_214 x0 x1 x2 x3).toInt = c ∧ 0 ≤ c ∧ c < 4 := own_rm (rfl : (w0_213l x0 x1 x2 x3).toInt = _) (own_lz x3 (by decide)) (show (4 : Int32).toInt = 4 by decide) (by omega)
theorem own_jv304 : ∃ c : Int, (w0_214_a x0 x1 x2 x3).toInt = c ∧ 0 ≤ c ∧ c < 304 := own_rm (rfl : (w0_213l x0 x1 x2 x3).toInt = _) (own_lz x3 (by decide)) (show (304 : Int32).toInt = 304 by decide) (by omega)
theorem own_j4 : ¬ w0_214 x0 x1 x2 x3 < 0 ∧ w0_214 x0 x1 x2 x3 < (4 : Int32) ∧ (w0_214 x0 x1 x2 x3).toNatClampNeg < ((4 : Int32)).toNatClampNeg := by
  obtain ⟨c, e, c0, c1⟩ := own_jv4 x0 x1 x2 x3
  rw [own_lt32 e (show (0 : Int32).toInt = 0 by decide), own_lt32 e (show (4 : Int32).toInt = 4 by decide), own_ncl e, show ((4 : Int32)).toNatClampNeg = 4 from rfl]
  omega
theorem own_jb4 : w0_214 x0 x1 x2 x3 < (304 : Int32) := by
  obtain ⟨c, e, c0, c1⟩ := own_jv4 x0 x1 x2 x3
  rw [own_lt32 e (show (304 : Int32).toInt = 304 by decide)]; omega
theorem own_j304 : ¬ w0_214_a x0 x1 x2 x3 < 0 ∧ w0_214_a x0 x1 x2 x3 < (304 : Int32) ∧ (w0_214_a x0 x1 x2 x3).toNatClampNeg < ((304 : Int32)).toNatClampNeg := by
  obtain ⟨c, e, c0, c1⟩ := own_jv304 x0 x1 x2 x3
  rw [own_lt32 e (show (0 : Int32).toInt = 0 by decide), own_lt32 e (show (304 : Int32).toInt = 304 by decide), own_ncl e, show ((304 : Int32)).toNatClampNeg = 304 from rfl]
  omega
theorem own_jb304 : w0_214_a x0 x1 x2 x3 < (304 : Int32) := (own_j304 x0 x1 x2 x3).2.1
theorem own_kv4 : ∃ c : Int, (w0_446 x0 x1 x2 x3).toInt = c ∧ 0 ≤ c ∧ c < 5 := by
  obtain ⟨A, m0, a0, -, -⟩ := own_m32 x2 (2147483647 : Int32) (k := 31) (by decide) (by decide)
  exact own_rm (show (w0_445l x0 x1 x2 x3).toInt = A from m0) a0 (show (5 : Int32).toInt = 5 by decide) (by omega)
theorem own_kv304 : ∃ c : Int, (w0_446_a x0 x1 x2 x3).toInt = c ∧ 0 ≤ c ∧ c < 305 := by
  obtain ⟨A, m0, a0, -, -⟩ := own_m32 x2 (2147483647 : Int32) (k := 31) (by decide) (by decide)
  exact own_rm (show (w0_445l x0 x1 x2 x3).toInt = A from m0) a0 (show (305 : Int32).toInt = 305 by decide) (by omega)
theorem own_kb4 : ¬ w0_446 x0 x1 x2 x3 < (0 : Int32) ∧ w0_446 x0 x1 x2 x3 < (256 : Int32) ∧ w0_446 x0 x1 x2 x3 < ((4 : Int32) + (1 : Int32)) := by
  obtain ⟨c, e, c0, c1⟩ := own_kv4 x0 x1 x2 x3
  rw [own_lt32 e (show (0 : Int32).toInt = 0 by decide), own_lt32 e (show (256 : Int32).toInt = 256 by decide), own_lt32 e (show ((4 : Int32) + (1 : Int32)).toInt = 5 by decide)]
  omega
theorem own_kb304 : ¬ w0_446_a x0 x1 x2 x3 < (0 : Int32) ∧ w0_446_a x0 x1 x2 x3 < (512 : Int32) ∧ w0_446_a x0 x1 x2 x3 < ((304 : Int32) + (1 : Int32)) := by
  obtain ⟨c, e, c0, c1⟩ := own_kv304 x0 x1 x2 x3
  rw [own_lt32 e (show (0 : Int32).toInt = 0 by decide), own_lt32 e (show (512 : Int32).toInt = 512 by decide), own_lt32 e (show ((304 : Int32) + (1 : Int32)).toInt = 305 by decide)]
  omega
theorem own_k1b4 (h : (0 : Int32) < w0_446 x0 x1 x2 x3) : (w0_446 x0 x1 x2 x3 - (1 : Int32)) < (304 : Int32) := by
  obtain ⟨c, e, c0, c1⟩ := own_kv4 x0 x1 x2 x3
  rw [own_lt32 (show (0 : Int32).toInt = 0 by decide) e] at h
  rw [own_lt32 (own_sub32 e (show (1 : Int32).toInt = 1 by decide) (by omega) (by omega)) (show (304 : Int32).toInt = 304 by decide)]; omega
theorem own_k1b304 (h : (0 : Int32) < w0_446_a x0 x1 x2 x3) : (w0_446_a x0 x1 x2 x3 - (1 : Int32)) < (304 : Int32) := by
  obtain ⟨c, e, c0, c1⟩ := own_kv304 x0 x1 x2 x3
  rw [own_lt32 (show (0 : Int32).toInt = 0 by decide) e] at h
  rw [own_lt32 (own_sub32 e (show (1 : Int32).toInt = 1 by decide) (by omega) (by omega)) (show (304 : Int32).toInt = 304 by decide)]; omega
theorem own_nn8 (u : Int32) : nar .byte (nar .byte u) = nar .byte u := by
  show (u.toInt8.toInt32).toInt8.toInt32 = u.toInt8.toInt32
  simp
theorem own_nz8 (i : Nat) : nar .byte (own_z i) = own_z i := by show nar .byte (0 : Int32) = 0; decide
theorem own_nud {F : Nat → Int32} {j : Nat} {v : Int32} (hF : ∀ i, nar .byte (F i) = F i) (hv : nar .byte v = v) (i : Nat) : nar .byte (own_ud F j v i) = own_ud F j v i := by
  unfold own_ud; split
  · exact hv
  · exact hF i
theorem own_hA (i : Nat) : nar .byte (f0_54 x0 x1 x2 x3 i) = f0_54 x0 x1 x2 x3 i := own_nud (fun i => own_nud (fun i => own_nud own_nz8 (own_nn8 _) i) (own_nn8 _) i) (own_nn8 _) i
theorem own_hB (i : Nat) : nar .byte (f0_94 x0 x1 x2 x3 i) = f0_94 x0 x1 x2 x3 i := own_nud (fun i => own_nud (fun i => own_nud own_nz8 (own_nn8 _) i) (own_nn8 _) i) (own_nn8 _) i
end
def own_E (v : Int32) (f g : Nat → Int32) (i : Nat) : Int32 := if i = 0 then (if v = (0 : Int32) then (0 : Int32) else (1 : Int32)).toInt8.toInt32 else if i < 4 then f (i - 1) else g (i - 4)
theorem own_B0 (v : Int32) (f g : Nat → Int32) : fB_30 v own_z 0 = own_E v f g 0 := by
  unfold fB_30 own_ud own_E
  rw [if_pos rfl, if_pos rfl]
  exact own_nb8 _
theorem own_B4 (v : Int32) (f g : Nat → Int32) (j : Nat) (h : j < 4) : fC_18 (fB_30 v own_z) f j = own_E v f g j := by
  by_cases j0 : j = 0
  · subst j0
    rw [← own_B0 v f g]
    unfold fC_18 own_cp
    rw [if_neg (by omega)]
  · unfold fC_18 own_cp own_E
    rw [if_pos (by omega), if_neg j0, if_pos h, Nat.zero_add]
theorem own_B304 (v : Int32) (f g : Nat → Int32) (j : Nat) (h : j < 304) : fD_18 (fC_18 (fB_30 v own_z) f) g j = own_E v f g j := by
  by_cases j4 : j < 4
  · rw [← own_B4 v f g j j4]
    have e : fD_18 (fC_18 (fB_30 v own_z) f) g j = f6_28 (fC_18 (fB_30 v own_z) f) j := by
      unfold fD_18 own_cp
      rw [if_neg (by omega)]
    rw [e]
    unfold f6_28 own_cp
    rw [if_pos (by omega), Nat.zero_add, Nat.sub_zero]
  · unfold fD_18 own_cp own_E
    rw [if_pos (by omega), if_neg (by omega), if_neg j4, Nat.zero_add]
theorem own_F256 (x : Int32) (F : Nat → Int32) (j : Nat) (h : j < x.toNatClampNeg) : f5_256_28 x F j = F j := by
  unfold f5_256_28 own_cp
  rw [if_pos (by omega), Nat.zero_add, Nat.sub_zero]
theorem own_F512 (x : Int32) (F : Nat → Int32) (j : Nat) (h : j < x.toNatClampNeg) : f5_512_28 x F j = F j := by
  unfold f5_512_28 own_cp
  rw [if_pos (by omega), Nat.zero_add, Nat.sub_zero]
theorem own_rI {x : Int32} {a : Int} (v : Int32) (f g : Nat → Int32) (e : x.toInt = a) (a0 : 0 ≤ a) (a1 : a < 304) : rI x v f g = own_E v f g a.toNat := by
  by_cases z : a = 0
  · subst z
    exact (if_pos ((own_eq32 e (show (0 : Int32).toInt = 0 by decide)).mpr rfl)).trans rfl
  · have n1 : ¬ x = (0 : Int32) := by rw [own_eq32 e (show (0 : Int32).toInt = 0 by decide)]; exact z
    have n2 : ¬ a.toNat = 0 := by omega
    have e1 : rI x v f g = (if x < (4 : Int32) then wI_24 x v f g else wI_30 x v f g) := if_neg n1
    have e2 : own_E v f g a.toNat = (if a.toNat < 4 then f (a.toNat - 1) else g (a.toNat - 4)) := if_neg n2
    rw [e1, e2]
    by_cases y : a < 4
    · rw [if_pos ((own_lt32 e (show (4 : Int32).toInt = 4 by decide)).mpr y), if_pos (show a.toNat < 4 by omega)]
      unfold wI_24
      rw [own_ncl (own_sub32 e (show (1 : Int32).toInt = 1 by decide) (by omega) (by omega))]
      congr 1; omega
    · rw [if_neg (show ¬ x < (4 : Int32) by rw [own_lt32 e (show (4 : Int32).toInt = 4 by decide)]; exact y), if_neg (show ¬ a.toNat < 4 by omega)]
      unfold wI_30
      rw [own_ncl (own_sub32 e (show (4 : Int32).toInt = 4 by decide) (by omega) (by omega))]
      congr 1; omega
section
variable (x0 x1 x2 x3 : Int32)
theorem own_ne10 : ¬ (1 : Int32) = 0 := by decide
theorem own_ok4 : j0_539_10 x0 x1 x2 x3 = 1 := by
  obtain ⟨c, e, c0, c1⟩ := own_jv4 x0 x1 x2 x3
  obtain ⟨k, ke, k0, k1⟩ := own_kv4 x0 x1 x2 x3
  have R : ∀ (x : Int32) (a : Int), x.toInt = a → 0 ≤ a → a < 304 → rI x (j0_11_s0 x0 x1 x2 x3) (f0_54 x0 x1 x2 x3) (f0_94 x0 x1 x2 x3) = own_E (j0_11_s0 x0 x1 x2 x3) (f0_54 x0 x1 x2 x3) (f0_94 x0 x1 x2 x3) a.toNat := fun x a q r s => own_rI _ _ _ q r s
  have Fv : ∀ (x : Int32) (j : Nat), j < x.toNatClampNeg → j < 4 → f5_256_28 x (fC_18 (fB_30 (j0_11_s0 x0 x1 x2 x3) own_z) (f0_54 x0 x1 x2 x3)) j = own_E (j0_11_s0 x0 x1 x2 x3) (f0_54 x0 x1 x2 x3) (f0_94 x0 x1 x2 x3) j := fun x j h h4 => (own_F256 x _ j h).trans (own_B4 _ _ _ j h4)
  have a0 : w0_219 x0 x1 x2 x3 = rI (0 : Int32) (j0_11_s0 x0 x1 x2 x3) (f0_54 x0 x1 x2 x3) (f0_94 x0 x1 x2 x3) := (Fv _ 0 (by decide) (by omega)).trans (R 0 0 (by decide) (by omega) (by omega)).symm
  have a1 : w0_236 x0 x1 x2 x3 = rI (1 : Int32) (j0_11_s0 x0 x1 x2 x3) (f0_54 x0 x1 x2 x3) (f0_94 x0 x1 x2 x3) := (Fv _ 1 (by decide) (by omega)).trans (R 1 1 (by decide) (by omega) (by omega)).symm
  have a2 : w0_253 x0 x1 x2 x3 = rI (2 : Int32) (j0_11_s0 x0 x1 x2 x3) (f0_54 x0 x1 x2 x3) (f0_94 x0 x1 x2 x3) := (Fv _ 2 (by decide) (by omega)).trans (R 2 2 (by decide) (by omega) (by omega)).symm
  have a3 : w0_270 x0 x1 x2 x3 = rI (3 : Int32) (j0_11_s0 x0 x1 x2 x3) (f0_54 x0 x1 x2 x3) (f0_94 x0 x1 x2 x3) := (Fv _ 3 (by decide) (by omega)).trans (R 3 3 (by decide) (by omega) (by omega)).symm
  have aj : w0_311 x0 x1 x2 x3 = rI (w0_214 x0 x1 x2 x3) (j0_11_s0 x0 x1 x2 x3) (f0_54 x0 x1 x2 x3) (f0_94 x0 x1 x2 x3) := by
    rw [R _ c e c0 (by omega), ← own_ncl e]
    exact Fv _ _ (own_j4 x0 x1 x2 x3).2.2 (by rw [own_ncl e]; omega)
  have s1 : j0_331_s0 x0 x1 x2 x3 = 1 := by unfold j0_331_s0; simp only [if_pos a0, if_pos a1, if_pos a2, if_pos a3, if_pos aj]
  have s2 : j0_435_s0 x0 x1 x2 x3 = 1 := by unfold j0_435_s0; rw [s1, if_neg own_ne10, if_pos a0, if_pos a3]
  have s3 : j0_480_s0 x0 x1 x2 x3 = 1 := by unfold j0_480_s0; rw [s2, if_neg own_ne10]
  unfold j0_539_10
  split
  · rename_i hk
    rw [own_lt32 (show (0 : Int32).toInt = 0 by decide) ke] at hk
    have d := own_sub32 ke (show (1 : Int32).toInt = 1 by decide) (by omega) (by omega)
    have b0 : w0_495 x0 x1 x2 x3 = rI (0 : Int32) (j0_11_s0 x0 x1 x2 x3) (f0_54 x0 x1 x2 x3) (f0_94 x0 x1 x2 x3) := (Fv _ 0 (by rw [own_ncl ke]; omega) (by omega)).trans (R 0 0 (by decide) (by omega) (by omega)).symm
    have b1 : w0_515 x0 x1 x2 x3 = rI (c0_526_3 x0 x1 x2 x3) (j0_11_s0 x0 x1 x2 x3) (f0_54 x0 x1 x2 x3) (f0_94 x0 x1 x2 x3) := by
      rw [show c0_526_3 x0 x1 x2 x3 = w0_446 x0 x1 x2 x3 - (1 : Int32) from rfl, R _ _ d (by omega) (by omega), ← own_ncl d]
      exact Fv _ _ (by rw [own_ncl d, own_ncl ke]; omega) (by rw [own_ncl d]; omega)
    unfold j0_537_s0; rw [s3, if_neg own_ne10, if_pos b0, if_pos b1]
  · exact s3
theorem own_ok304 : j0_539_10_a x0 x1 x2 x3 = 1 := by
  obtain ⟨c, e, c0, c1⟩ := own_jv304 x0 x1 x2 x3
  obtain ⟨k, ke, k0, k1⟩ := own_kv304 x0 x1 x2 x3
  have R : ∀ (x : Int32) (a : Int), x.toInt = a → 0 ≤ a → a < 304 → rI x (j0_11_s0 x0 x1 x2 x3) (f0_54 x0 x1 x2 x3) (f0_94 x0 x1 x2 x3) = own_E (j0_11_s0 x0 x1 x2 x3) (f0_54 x0 x1 x2 x3) (f0_94 x0 x1 x2 x3) a.toNat := fun x a q r s => own_rI _ _ _ q r s
  have Fv : ∀ (x : Int32) (j : Nat), j < x.toNatClampNeg → j < 304 → f5_512_28 x (fD_18 (fC_18 (fB_30 (j0_11_s0 x0 x1 x2 x3) own_z) (f0_54 x0 x1 x2 x3)) (f0_94 x0 x1 x2 x3)) j = own_E (j0_11_s0 x0 x1 x2 x3) (f0_54 x0 x1 x2 x3) (f0_94 x0 x1 x2 x3) j := fun x j h h4 => (own_F512 x _ j h).trans (own_B304 _ _ _ j h4)
  have a0 : w0_219_a x0 x1 x2 x3 = rI (0 : Int32) (j0_11_s0 x0 x1 x2 x3) (f0_54 x0 x1 x2 x3) (f0_94 x0 x1 x2 x3) := (Fv _ 0 (by decide) (by omega)).trans (R 0 0 (by decide) (by omega) (by omega)).symm
  have a1 : w0_236_a x0 x1 x2 x3 = rI (1 : Int32) (j0_11_s0 x0 x1 x2 x3) (f0_54 x0 x1 x2 x3) (f0_94 x0 x1 x2 x3) := (Fv _ 1 (by decide) (by omega)).trans (R 1 1 (by decide) (by omega) (by omega)).symm
  have a2 : w0_253_a x0 x1 x2 x3 = rI (2 : Int32) (j0_11_s0 x0 x1 x2 x3) (f0_54 x0 x1 x2 x3) (f0_94 x0 x1 x2 x3) := (Fv _ 2 (by decide) (by omega)).trans (R 2 2 (by decide) (by omega) (by omega)).symm
  have a3 : w0_270_a x0 x1 x2 x3 = rI (3 : Int32) (j0_11_s0 x0 x1 x2 x3) (f0_54 x0 x1 x2 x3) (f0_94 x0 x1 x2 x3) := (Fv _ 3 (by decide) (by omega)).trans (R 3 3 (by decide) (by omega) (by omega)).symm
  have a9 : w0_290 x0 x1 x2 x3 = rI (303 : Int32) (j0_11_s0 x0 x1 x2 x3) (f0_54 x0 x1 x2 x3) (f0_94 x0 x1 x2 x3) := (Fv _ 303 (by decide) (by omega)).trans (R 303 303 (by decide) (by omega) (by omega)).symm
  have aj : w0_311_a x0 x1 x2 x3 = rI (w0_214_a x0 x1 x2 x3) (j0_11_s0 x0 x1 x2 x3) (f0_54 x0 x1 x2 x3) (f0_94 x0 x1 x2 x3) := by
    rw [R _ c e c0 (by omega), ← own_ncl e]
    exact Fv _ _ (own_j304 x0 x1 x2 x3).2.2 (by rw [own_ncl e]; omega)
  have s1 : j0_331_s0_a x0 x1 x2 x3 = 1 := by unfold j0_331_s0_a; simp only [if_pos a0, if_pos a1, if_pos a2, if_pos a3, if_pos a9, if_pos aj]
  have s2 : j0_435_s0_a x0 x1 x2 x3 = 1 := by unfold j0_435_s0_a; rw [s1, if_neg own_ne10, if_pos a0, if_pos a9]
  have s3 : j0_480_s0_a x0 x1 x2 x3 = 1 := by unfold j0_480_s0_a; rw [s2, if_neg own_ne10]
  unfold j0_539_10_a
  split
  · rename_i hk
    rw [own_lt32 (show (0 : Int32).toInt = 0 by decide) ke] at hk
    have d := own_sub32 ke (show (1 : Int32).toInt = 1 by decide) (by omega) (by omega)
    have b0 : w0_495_a x0 x1 x2 x3 = rI (0 : Int32) (j0_11_s0 x0 x1 x2 x3) (f0_54 x0 x1 x2 x3) (f0_94 x0 x1 x2 x3) := (Fv _ 0 (by rw [own_ncl ke]; omega) (by omega)).trans (R 0 0 (by decide) (by omega) (by omega)).symm
    have b1 : w0_515_a x0 x1 x2 x3 = rI (c0_526_3_a x0 x1 x2 x3) (j0_11_s0 x0 x1 x2 x3) (f0_54 x0 x1 x2 x3) (f0_94 x0 x1 x2 x3) := by
      rw [show c0_526_3_a x0 x1 x2 x3 = w0_446_a x0 x1 x2 x3 - (1 : Int32) from rfl, R _ _ d (by omega) (by omega), ← own_ncl d]
      exact Fv _ _ (by rw [own_ncl d, own_ncl ke]; omega) (by rw [own_ncl d]; omega)
    unfold j0_537_s0_a; rw [s3, if_neg own_ne10, if_pos b0, if_pos b1]
  · exact s3
theorem own_nr4 : nar .boolean (j0_539_10 x0 x1 x2 x3) = j0_539_10 x0 x1 x2 x3 := by rw [own_ok4]; decide
theorem own_nr304 : nar .boolean (j0_539_10_a x0 x1 x2 x3) = j0_539_10_a x0 x1 x2 x3 := by rw [own_ok304]; decide
theorem law_true : r0 x0 x1 x2 x3 = 1 := by
  unfold r0
  split
  · exact own_ok4 x0 x1 x2 x3
  · exact own_ok304 x0 x1 x2 x3
end
set_option maxRecDepth 65536 in
set_option maxHeartbeats 40000000 in
theorem rm0 (l : Launch) (Z : State) (a0 : Array Value) (hw : ∀ d ∈ tables_1, d.before a0 Z = true) (ws : List Jvm.Cond) (x0 : Int32) (x1 : Int32) (x2 : Int32) (x3 : Int32) (h0 : Heap) (n0 : Nat) (Z0 : n0 ≤ h0.size) :
    MetFree l x (head1 (Jvm.Cond.code x code maxLocals ret :: ws) room_1) (fun a U => a = #[(.int x0), (.int x1), (.int x2), (.int x3)] ∧ Z.Warmed39 U.vm ∧ U.heap = h0) (fun _ _ _ _ _ => True) (fun _ U o U' => ∃ v L, o = .returned v ∧ (QL (some (.int (r0 x0 x1 x2 x3))) n0) v U'.heap L ∧ FrameEnd U o U' L room_1.cells room_1.slots) := by
  refine MetFree.of_bodySF (plainFor_of_name pn0) hisR ?_
  intro p e s m args below meth c s₁ Bd hml0 hP hK
  obtain ⟨rfl, hZ, hh⟩ := hP
  have hx := Bd.exec
  have hby := Bd.bytes
  have hml : c.maxLocals = 17 := hml0
  have hlk : meth.locks = false := BodyLoose.notSynchronized Bd
  have hown : s.vm.findClass "com/example/upcaster/upcaster/io/BinaryEncoderToByteArrayPinLaw" = some m.cls := findClass_of_methodNamed Bd.named
  have hnm := (name_of_methodNamed Bd.named Bd.method).1
  have w_0 := hw _ (List.mem_of_getElem? (i := 0) rfl)
  have w_1 := hw _ (List.mem_of_getElem? (i := 1) rfl)
  have w_2 := hw _ (List.mem_of_getElem? (i := 2) rfl)
  have w_3 := hw _ (List.mem_of_getElem? (i := 3) rfl)
  have w_4 := hw _ (List.mem_of_getElem? (i := 4) rfl)
  have w_5 := hw _ (List.mem_of_getElem? (i := 5) rfl)
  have w_6 := hw _ (List.mem_of_getElem? (i := 6) rfl)
  have w_7 := hw _ (List.mem_of_getElem? (i := 7) rfl)
  have w_12 := hw _ (List.mem_of_getElem? (i := 12) rfl)
  have w_13 := hw _ (List.mem_of_getElem? (i := 13) rfl)
  have w_14 := hw _ (List.mem_of_getElem? (i := 14) rfl)
  have w_15 := hw _ (List.mem_of_getElem? (i := 15) rfl)
  have w_16 := hw _ (List.mem_of_getElem? (i := 16) rfl)
  have w_17 := hw _ (List.mem_of_getElem? (i := 17) rfl)
  have w_19 := hw _ (List.mem_of_getElem? (i := 19) rfl)
  have w_32 := hw _ (List.mem_of_getElem? (i := 32) rfl)
  have w_33 := hw _ (List.mem_of_getElem? (i := 33) rfl)
  have w_34 := hw _ (List.mem_of_getElem? (i := 34) rfl)
  have w_35 := hw _ (List.mem_of_getElem? (i := 35) rfl)
  have w_36 := hw _ (List.mem_of_getElem? (i := 36) rfl)
  have w_41 := hw _ (List.mem_of_getElem? (i := 41) rfl)
  have w_42 := hw _ (List.mem_of_getElem? (i := 42) rfl)
  have w_43 := hw _ (List.mem_of_getElem? (i := 43) rfl)
  have w_44 := hw _ (List.mem_of_getElem? (i := 44) rfl)
  have w_45 := hw _ (List.mem_of_getElem? (i := 45) rfl)
  have w_61 := hw _ (List.mem_of_getElem? (i := 61) rfl)
  have w_62 := hw _ (List.mem_of_getElem? (i := 62) rfl)
  have w_63 := hw _ (List.mem_of_getElem? (i := 63) rfl)
  have w_64 := hw _ (List.mem_of_getElem? (i := 64) rfl)
  have w_65 := hw _ (List.mem_of_getElem? (i := 65) rfl)
  have w_66 := hw _ (List.mem_of_getElem? (i := 66) rfl)
  have w_67 := hw _ (List.mem_of_getElem? (i := 67) rfl)
  have w_68 := hw _ (List.mem_of_getElem? (i := 68) rfl)
  have w_69 := hw _ (List.mem_of_getElem? (i := 69) rfl)
  have w_70 := hw _ (List.mem_of_getElem? (i := 70) rfl)
  have w_71 := hw _ (List.mem_of_getElem? (i := 71) rfl)
  have w_72 := hw _ (List.mem_of_getElem? (i := 72) rfl)
  have w_73 := hw _ (List.mem_of_getElem? (i := 73) rfl)
  have w_74 := hw _ (List.mem_of_getElem? (i := 74) rfl)
  have hci : ∀ i v, (i, v) ∈ ([(7, 2147483647)] : List (Nat × Int32)) → (Jvm.Cond.constant "com/example/upcaster/upcaster/io/BinaryEncoderToByteArrayPinLaw" i v).before #[(.int x0), (.int x1), (.int x2), (.int x3)] s = true := (own_ciS (mvT hZ w_1) own_ci0)
  have hcl : ∀ i v, (i, v) ∈ ([] : List (Nat × Int64)) → (Jvm.Cond.constantLong "com/example/upcaster/upcaster/io/BinaryEncoderToByteArrayPinLaw" i v).before #[(.int x0), (.int x1), (.int x2), (.int x3)] s = true := own_ci0
  have X0 : Stand p l e room_1 s m #[(.int x0), (.int x1), (.int x2), (.int x3)] below meth c s₁ [] 0 0 := Stand.of_body Bd
  have e0 : s₁.heap = h0 := by rw [← hh, Bd.state]; rfl
  have N0 := Fr.nil n0
  show Goes p e below s (QL (some (.int (r0 x0 x1 x2 x3))) n0) room_1.cells room_1.slots (s₁.setTop (entryFrame m #[(.int x0), (.int x1), (.int x2), (.int x3)] maxLocals))
  refine Goes.cast (ef0 m x0 x1 x2 x3) ?_
  refine Goes.run X0 hx hown hci hcl hby (L := [(0, .iload_n 1, 1), (1, .iconst 1, 1), (2, .iand, 1)]) (by decide +kernel) rfl (g' := (mkF m 3 #[iv x0, iv x1, iv x2, iv x3, .unset, .unset, .unset, .unset, .unset, .unset, .unset, .unset, .unset, .unset, .unset, .unset, .unset] [(.int (x1 &&& (1 : Int32)))])) rfl ?_
  have jn11_2 : Goes p e below s (QL (some (.int (r0 x0 x1 x2 x3))) n0) room_1.cells room_1.slots (s₁.setTop (mkF m 11 #[iv x0, iv x1, iv x2, iv x3, .unset, .unset, .unset, .unset, .unset, .unset, .unset, .unset, .unset, .unset, .unset, .unset, .unset] [(.int (j0_11_s0 x0 x1 x2 x3))])) := by
    refine Goes.run X0 hx hown hci hcl hby (L := [(11, .istore 4, 2), (13, .iload_n 1, 1), (14, .iconst 2, 1), (15, .iand, 1)]) (by decide +kernel) rfl (g' := (mkF m 16 #[iv x0, iv x1, iv x2, iv x3, iv (j0_11_s0 x0 x1 x2 x3), .unset, .unset, .unset, .unset, .unset, .unset, .unset, .unset, .unset, .unset, .unset, .unset] [(.int (x1 &&& (2 : Int32)))])) rfl ?_
    have jn24_4 : Goes p e below s (QL (some (.int (r0 x0 x1 x2 x3))) n0) room_1.cells room_1.slots (s₁.setTop (mkF m 24 #[iv x0, iv x1, iv x2, iv x3, iv (j0_11_s0 x0 x1 x2 x3), .unset, .unset, .unset, .unset, .unset, .unset, .unset, .unset, .unset, .unset, .unset, .unset] [(.int (j0_24_s0 x0 x1 x2 x3))])) := by
      refine Goes.run X0 hx hown hci hcl hby (L := [(24, .istore 5, 2), (26, .iconst 3, 1)]) (by decide +kernel) rfl (g' := (mkF m 27 #[iv x0, iv x1, iv x2, iv x3, iv (j0_11_s0 x0 x1 x2 x3), iv (j0_24_s0 x0 x1 x2 x3), .unset, .unset, .unset, .unset, .unset, .unset, .unset, .unset, .unset, .unset, .unset] [(.int (3 : Int32))])) rfl ?_
      obtain ⟨T5, h5, k5, X5, e5, E5, A5, B5, st5⟩ := newPE X0 hx hZ (aty := .byte) w_0 e0 (g := (mkF m 27 #[iv x0, iv x1, iv x2, iv x3, iv (j0_11_s0 x0 x1 x2 x3), iv (j0_24_s0 x0 x1 x2 x3), .unset, .unset, .unset, .unset, .unset, .unset, .unset, .unset, .unset, .unset, .unset] [(.int (3 : Int32))])) rfl (hb hby at_27) rfl (by decide) (cap := 3) (by decide) (by decide) (by decide) (by decide) (ad := "[B") (by decide)
      obtain ⟨b5, g5⟩ : ∃ z, z = h0.size := ⟨_, rfl⟩
      rw [← g5] at A5 B5 st5
      have g_b5 : n0 ≤ b5 := Nat.le_trans Z0 (Nat.le_of_eq g5.symm)
      have Zn5 : n0 ≤ h5.size := Nat.le_trans Z0 E5.1
      have E_b5 : Exa Z h5 b5 "[B" := B5
      have V_b5 : Arv Z h5 b5 k5 .byte (3 : Int32) (own_fv 3 own_z) (.int (0 : Int32)) := (Arv.new A5 (by decide)).pad (own_fnew 3)
      refine Goes.st (B := T5.setTop (mkF m 29 #[iv x0, iv x1, iv x2, iv x3, iv (j0_11_s0 x0 x1 x2 x3), iv (j0_24_s0 x0 x1 x2 x3), .unset, .unset, .unset, .unset, .unset, .unset, .unset, .unset, .unset, .unset, .unset] [(.ref b5)])) st5 ?_
      refine Goes.run X5 hx hown hci hcl hby (L := [(29, .astore 6, 2), (31, .aload 6, 2), (33, .iconst 0, 1), (34, .iload_n 0, 1), (35, .i2b, 1)]) (by decide +kernel) rfl (g' := (mkF m 36 #[iv x0, iv x1, iv x2, iv x3, iv (j0_11_s0 x0 x1 x2 x3), iv (j0_24_s0 x0 x1 x2 x3), rv b5, .unset, .unset, .unset, .unset, .unset, .unset, .unset, .unset, .unset, .unset] [(.int (x0.toInt8.toInt32)), (.int (0 : Int32)), (.ref b5)])) rfl ?_
      obtain ⟨cl6, Ar6, q6, S6, M6, Hs6, G6⟩ := id V_b5
      have hin6 : ¬ ((0 : Int32) < 0 ∨ cl6.slots.size ≤ ((0 : Int32)).toNatClampNeg) := inb_of S6 ⟨(by decide), (by decide)⟩
      obtain ⟨T6, h6, X6, e6, W6, st6⟩ := stB X5 hx hZ e5 Ar6 (j := (0 : Int32)) hin6 (g := (mkF m 36 #[iv x0, iv x1, iv x2, iv x3, iv (j0_11_s0 x0 x1 x2 x3), iv (j0_24_s0 x0 x1 x2 x3), rv b5, .unset, .unset, .unset, .unset, .unset, .unset, .unset, .unset, .unset, .unset] [(.int (x0.toInt8.toInt32)), (.int (0 : Int32)), (.ref b5)])) rfl rfl (hb hby at_36)
      have E_b5 := E_b5.wr W6
      have Zn6 : n0 ≤ h6.size := Nat.le_trans Zn5 (Keep.of_wr W6).1
      have N6 := Fr.snoc X6 N0 g_b5
      have V_b5 : Arv Z h6 b5 k5 .byte (3 : Int32) (own_fv 3 (f0_36 x0 x1 x2 x3)) (.int (0 : Int32)) := (Arv.set Ar6 q6 S6 M6 Hs6 G6 (fits_nar_byte _) W6 0 rfl (by rw [own_flen]; exact (by decide))).pad (own_fset 3 own_z 0 (w0_36 x0 x1 x2 x3) (by decide))
      refine Goes.st (B := T6.setTop (mkF m 37 #[iv x0, iv x1, iv x2, iv x3, iv (j0_11_s0 x0 x1 x2 x3), iv (j0_24_s0 x0 x1 x2 x3), rv b5, .unset, .unset, .unset, .unset, .unset, .unset, .unset, .unset, .unset, .unset] [])) st6 ?_
      refine Goes.run X6 hx hown hci hcl hby (L := [(37, .aload 6, 2), (39, .iconst 1, 1), (40, .iload_n 0, 1), (41, .bipush 8, 2), (43, .ishr, 1), (44, .i2b, 1)]) (by decide +kernel) rfl (g' := (mkF m 45 #[iv x0, iv x1, iv x2, iv x3, iv (j0_11_s0 x0 x1 x2 x3), iv (j0_24_s0 x0 x1 x2 x3), rv b5, .unset, .unset, .unset, .unset, .unset, .unset, .unset, .unset, .unset, .unset] [(.int ((x0 >>> ((8 : Int32) &&& 31)).toInt8.toInt32)), (.int (1 : Int32)), (.ref b5)])) rfl ?_
      obtain ⟨cl7, Ar7, q7, S7, M7, Hs7, G7⟩ := id V_b5
      have hin7 : ¬ ((1 : Int32) < 0 ∨ cl7.slots.size ≤ ((1 : Int32)).toNatClampNeg) := inb_of S7 ⟨(by decide), (by decide)⟩
      obtain ⟨T7, h7, X7, e7, W7, st7⟩ := stB X6 hx hZ e6 Ar7 (j := (1 : Int32)) hin7 (g := (mkF m 45 #[iv x0, iv x1, iv x2, iv x3, iv (j0_11_s0 x0 x1 x2 x3), iv (j0_24_s0 x0 x1 x2 x3), rv b5, .unset, .unset, .unset, .unset, .unset, .unset, .unset, .unset, .unset, .unset] [(.int ((x0 >>> ((8 : Int32) &&& 31)).toInt8.toInt32)), (.int (1 : Int32)), (.ref b5)])) rfl rfl (hb hby at_45)
      have E_b5 := E_b5.wr W7
      have Zn7 : n0 ≤ h7.size := Nat.le_trans Zn6 (Keep.of_wr W7).1
      have N7 := Fr.snoc X7 N6 g_b5
      have V_b5 : Arv Z h7 b5 k5 .byte (3 : Int32) (own_fv 3 (f0_45 x0 x1 x2 x3)) (.int (0 : Int32)) := (Arv.set Ar7 q7 S7 M7 Hs7 G7 (fits_nar_byte _) W7 1 rfl (by rw [own_flen]; exact (by decide))).pad (own_fset 3 (f0_36 x0 x1 x2 x3) 1 (w0_45 x0 x1 x2 x3) (by decide))
      refine Goes.st (B := T7.setTop (mkF m 46 #[iv x0, iv x1, iv x2, iv x3, iv (j0_11_s0 x0 x1 x2 x3), iv (j0_24_s0 x0 x1 x2 x3), rv b5, .unset, .unset, .unset, .unset, .unset, .unset, .unset, .unset, .unset, .unset] [])) st7 ?_
      refine Goes.run X7 hx hown hci hcl hby (L := [(46, .aload 6, 2), (48, .iconst 2, 1), (49, .iload_n 0, 1), (50, .bipush 16, 2), (52, .ishr, 1), (53, .i2b, 1)]) (by decide +kernel) rfl (g' := (mkF m 54 #[iv x0, iv x1, iv x2, iv x3, iv (j0_11_s0 x0 x1 x2 x3), iv (j0_24_s0 x0 x1 x2 x3), rv b5, .unset, .unset, .unset, .unset, .unset, .unset, .unset, .unset, .unset, .unset] [(.int ((x0 >>> ((16 : Int32) &&& 31)).toInt8.toInt32)), (.int (2 : Int32)), (.ref b5)])) rfl ?_
      obtain ⟨cl8, Ar8, q8, S8, M8, Hs8, G8⟩ := id V_b5
      have hin8 : ¬ ((2 : Int32) < 0 ∨ cl8.slots.size ≤ ((2 : Int32)).toNatClampNeg) := inb_of S8 ⟨(by decide), (by decide)⟩
      obtain ⟨T8, h8, X8, e8, W8, st8⟩ := stB X7 hx hZ e7 Ar8 (j := (2 : Int32)) hin8 (g := (mkF m 54 #[iv x0, iv x1, iv x2, iv x3, iv (j0_11_s0 x0 x1 x2 x3), iv (j0_24_s0 x0 x1 x2 x3), rv b5, .unset, .unset, .unset, .unset, .unset, .unset, .unset, .unset, .unset, .unset] [(.int ((x0 >>> ((16 : Int32) &&& 31)).toInt8.toInt32)), (.int (2 : Int32)), (.ref b5)])) rfl rfl (hb hby at_54)
      have E_b5 := E_b5.wr W8
      have Zn8 : n0 ≤ h8.size := Nat.le_trans Zn7 (Keep.of_wr W8).1
      have N8 := Fr.snoc X8 N7 g_b5
      have V_b5 : Arv Z h8 b5 k5 .byte (3 : Int32) (own_fv 3 (f0_54 x0 x1 x2 x3)) (.int (0 : Int32)) := (Arv.set Ar8 q8 S8 M8 Hs8 G8 (fits_nar_byte _) W8 2 rfl (by rw [own_flen]; exact (by decide))).pad (own_fset 3 (f0_45 x0 x1 x2 x3) 2 (w0_54 x0 x1 x2 x3) (by decide))
      refine Goes.st (B := T8.setTop (mkF m 55 #[iv x0, iv x1, iv x2, iv x3, iv (j0_11_s0 x0 x1 x2 x3), iv (j0_24_s0 x0 x1 x2 x3), rv b5, .unset, .unset, .unset, .unset, .unset, .unset, .unset, .unset, .unset, .unset] [])) st8 ?_
      refine Goes.run X8 hx hown hci hcl hby (L := [(55, .sipush 300, 3)]) (by decide +kernel) rfl (g' := (mkF m 58 #[iv x0, iv x1, iv x2, iv x3, iv (j0_11_s0 x0 x1 x2 x3), iv (j0_24_s0 x0 x1 x2 x3), rv b5, .unset, .unset, .unset, .unset, .unset, .unset, .unset, .unset, .unset, .unset] [(.int (300 : Int32))])) rfl ?_
      obtain ⟨T9, h9, k9, X9, e9, E9, A9, B9, st9⟩ := newPE X8 hx hZ (aty := .byte) w_0 e8 (g := (mkF m 58 #[iv x0, iv x1, iv x2, iv x3, iv (j0_11_s0 x0 x1 x2 x3), iv (j0_24_s0 x0 x1 x2 x3), rv b5, .unset, .unset, .unset, .unset, .unset, .unset, .unset, .unset, .unset, .unset] [(.int (300 : Int32))])) rfl (hb hby at_58) rfl (by decide) (cap := 300) (by decide) (by decide) (by decide) (by decide) (ad := "[B") (by decide)
      obtain ⟨b9, g9⟩ : ∃ z, z = h8.size := ⟨_, rfl⟩
      rw [← g9] at A9 B9 st9
      have ne_b5_b9 : b5 ≠ b9 := Nat.ne_of_lt (Nat.lt_of_lt_of_le E_b5.lt (Nat.le_of_eq g9.symm))
      have g_b9 : n0 ≤ b9 := Nat.le_trans Zn8 (Nat.le_of_eq g9.symm)
      have E_b5 := E_b5.ext E9
      have V_b5 := V_b5.ext E9
      have Zn9 : n0 ≤ h9.size := Nat.le_trans Zn8 E9.1
      have E_b9 : Exa Z h9 b9 "[B" := B9
      have V_b9 : Arv Z h9 b9 k9 .byte (300 : Int32) (own_fv 300 own_z) (.int (0 : Int32)) := (Arv.new A9 (by decide)).pad (own_fnew 300)
      refine Goes.st (B := T9.setTop (mkF m 60 #[iv x0, iv x1, iv x2, iv x3, iv (j0_11_s0 x0 x1 x2 x3), iv (j0_24_s0 x0 x1 x2 x3), rv b5, .unset, .unset, .unset, .unset, .unset, .unset, .unset, .unset, .unset, .unset] [(.ref b9)])) st9 ?_
      refine Goes.run X9 hx hown hci hcl hby (L := [(60, .astore 7, 2), (62, .aload 7, 2), (64, .iload_n 3, 1), (65, .ldc 7, 2), (67, .iand, 1), (68, .sipush 300, 3)]) (by decide +kernel) rfl (g' := (mkF m 71 #[iv x0, iv x1, iv x2, iv x3, iv (j0_11_s0 x0 x1 x2 x3), iv (j0_24_s0 x0 x1 x2 x3), rv b5, rv b9, .unset, .unset, .unset, .unset, .unset, .unset, .unset, .unset, .unset] [(.int (300 : Int32)), (.int (x3 &&& (2147483647 : Int32))), (.ref b9)])) rfl ?_
      refine Goes.run X9 hx hown hci hcl hby (L := [(71, .irem, 1), (72, .iload_n 3, 1), (73, .bipush 8, 2), (75, .iushr, 1), (76, .i2b, 1)]) (by decide +kernel) rfl (g' := (mkF m 77 #[iv x0, iv x1, iv x2, iv x3, iv (j0_11_s0 x0 x1 x2 x3), iv (j0_24_s0 x0 x1 x2 x3), rv b5, rv b9, .unset, .unset, .unset, .unset, .unset, .unset, .unset, .unset, .unset] [(.int (((x3.toUInt32 >>> ((8 : Int32) &&& 31).toUInt32).toInt32).toInt8.toInt32)), (.int ((w0_71l x0 x1 x2 x3) - ((w0_71l x0 x1 x2 x3) / (300 : Int32)) * (300 : Int32))), (.ref b9)])) rfl ?_
      obtain ⟨cl10, Ar10, q10, S10, M10, Hs10, G10⟩ := id V_b9
      have hin10 : ¬ (((w0_71l x0 x1 x2 x3) - ((w0_71l x0 x1 x2 x3) / (300 : Int32)) * (300 : Int32)) < 0 ∨ cl10.slots.size ≤ (((w0_71l x0 x1 x2 x3) - ((w0_71l x0 x1 x2 x3) / (300 : Int32)) * (300 : Int32))).toNatClampNeg) := inb_of S10 ⟨(own_i77 x0 x1 x2 x3).1, (own_i77 x0 x1 x2 x3).2.1⟩
      obtain ⟨T10, h10, X10, e10, W10, st10⟩ := stB X9 hx hZ e9 Ar10 (j := ((w0_71l x0 x1 x2 x3) - ((w0_71l x0 x1 x2 x3) / (300 : Int32)) * (300 : Int32))) hin10 (g := (mkF m 77 #[iv x0, iv x1, iv x2, iv x3, iv (j0_11_s0 x0 x1 x2 x3), iv (j0_24_s0 x0 x1 x2 x3), rv b5, rv b9, .unset, .unset, .unset, .unset, .unset, .unset, .unset, .unset, .unset] [(.int (((x3.toUInt32 >>> ((8 : Int32) &&& 31).toUInt32).toInt32).toInt8.toInt32)), (.int ((w0_71l x0 x1 x2 x3) - ((w0_71l x0 x1 x2 x3) / (300 : Int32)) * (300 : Int32))), (.ref b9)])) rfl rfl (hb hby at_77)
      have E_b5 := E_b5.wr W10
      have V_b5 := V_b5.other W10 ne_b5_b9
      have E_b9 := E_b9.wr W10
      have Zn10 : n0 ≤ h10.size := Nat.le_trans Zn9 (Keep.of_wr W10).1
      have N10 := Fr.snoc X10 N8 g_b9
      have V_b9 : Arv Z h10 b9 k9 .byte (300 : Int32) (own_fv 300 (f0_77 x0 x1 x2 x3)) (.int (0 : Int32)) := (Arv.set Ar10 q10 S10 M10 Hs10 G10 (fits_nar_byte _) W10 (((w0_71l x0 x1 x2 x3) - ((w0_71l x0 x1 x2 x3) / (300 : Int32)) * (300 : Int32))).toNatClampNeg rfl (by rw [own_flen]; exact (own_i77 x0 x1 x2 x3).2.2)).pad (own_fset 300 own_z (((w0_71l x0 x1 x2 x3) - ((w0_71l x0 x1 x2 x3) / (300 : Int32)) * (300 : Int32))).toNatClampNeg (w0_77 x0 x1 x2 x3) (own_i77 x0 x1 x2 x3).2.2)
      refine Goes.st (B := T10.setTop (mkF m 78 #[iv x0, iv x1, iv x2, iv x3, iv (j0_11_s0 x0 x1 x2 x3), iv (j0_24_s0 x0 x1 x2 x3), rv b5, rv b9, .unset, .unset, .unset, .unset, .unset, .unset, .unset, .unset, .unset] [])) st10 ?_
      refine Goes.run X10 hx hown hci hcl hby (L := [(78, .aload 7, 2), (80, .iconst 0, 1), (81, .iload_n 0, 1), (82, .bipush 24, 2), (84, .iushr, 1), (85, .i2b, 1)]) (by decide +kernel) rfl (g' := (mkF m 86 #[iv x0, iv x1, iv x2, iv x3, iv (j0_11_s0 x0 x1 x2 x3), iv (j0_24_s0 x0 x1 x2 x3), rv b5, rv b9, .unset, .unset, .unset, .unset, .unset, .unset, .unset, .unset, .unset] [(.int (((x0.toUInt32 >>> ((24 : Int32) &&& 31).toUInt32).toInt32).toInt8.toInt32)), (.int (0 : Int32)), (.ref b9)])) rfl ?_
      obtain ⟨cl11, Ar11, q11, S11, M11, Hs11, G11⟩ := id V_b9
      have hin11 : ¬ ((0 : Int32) < 0 ∨ cl11.slots.size ≤ ((0 : Int32)).toNatClampNeg) := inb_of S11 ⟨(by decide), (by decide)⟩
      obtain ⟨T11, h11, X11, e11, W11, st11⟩ := stB X10 hx hZ e10 Ar11 (j := (0 : Int32)) hin11 (g := (mkF m 86 #[iv x0, iv x1, iv x2, iv x3, iv (j0_11_s0 x0 x1 x2 x3), iv (j0_24_s0 x0 x1 x2 x3), rv b5, rv b9, .unset, .unset, .unset, .unset, .unset, .unset, .unset, .unset, .unset] [(.int (((x0.toUInt32 >>> ((24 : Int32) &&& 31).toUInt32).toInt32).toInt8.toInt32)), (.int (0 : Int32)), (.ref b9)])) rfl rfl (hb hby at_86)
      have E_b5 := E_b5.wr W11
      have V_b5 := V_b5.other W11 ne_b5_b9
      have E_b9 := E_b9.wr W11
      have Zn11 : n0 ≤ h11.size := Nat.le_trans Zn10 (Keep.of_wr W11).1
      have N11 := Fr.snoc X11 N10 g_b9
      have V_b9 : Arv Z h11 b9 k9 .byte (300 : Int32) (own_fv 300 (f0_86 x0 x1 x2 x3)) (.int (0 : Int32)) := (Arv.set Ar11 q11 S11 M11 Hs11 G11 (fits_nar_byte _) W11 0 rfl (by rw [own_flen]; exact (by decide))).pad (own_fset 300 (f0_77 x0 x1 x2 x3) 0 (w0_86 x0 x1 x2 x3) (by decide))
      refine Goes.st (B := T11.setTop (mkF m 87 #[iv x0, iv x1, iv x2, iv x3, iv (j0_11_s0 x0 x1 x2 x3), iv (j0_24_s0 x0 x1 x2 x3), rv b5, rv b9, .unset, .unset, .unset, .unset, .unset, .unset, .unset, .unset, .unset] [])) st11 ?_
      refine Goes.run X11 hx hown hci hcl hby (L := [(87, .aload 7, 2), (89, .sipush 299, 3), (92, .iload_n 3, 1), (93, .i2b, 1)]) (by decide +kernel) rfl (g' := (mkF m 94 #[iv x0, iv x1, iv x2, iv x3, iv (j0_11_s0 x0 x1 x2 x3), iv (j0_24_s0 x0 x1 x2 x3), rv b5, rv b9, .unset, .unset, .unset, .unset, .unset, .unset, .unset, .unset, .unset] [(.int (x3.toInt8.toInt32)), (.int (299 : Int32)), (.ref b9)])) rfl ?_
      obtain ⟨cl12, Ar12, q12, S12, M12, Hs12, G12⟩ := id V_b9
      have hin12 : ¬ ((299 : Int32) < 0 ∨ cl12.slots.size ≤ ((299 : Int32)).toNatClampNeg) := inb_of S12 ⟨(by decide), (by decide)⟩
      obtain ⟨T12, h12, X12, e12, W12, st12⟩ := stB X11 hx hZ e11 Ar12 (j := (299 : Int32)) hin12 (g := (mkF m 94 #[iv x0, iv x1, iv x2, iv x3, iv (j0_11_s0 x0 x1 x2 x3), iv (j0_24_s0 x0 x1 x2 x3), rv b5, rv b9, .unset, .unset, .unset, .unset, .unset, .unset, .unset, .unset, .unset] [(.int (x3.toInt8.toInt32)), (.int (299 : Int32)), (.ref b9)])) rfl rfl (hb hby at_94)
      have E_b5 := E_b5.wr W12
      have V_b5 := V_b5.other W12 ne_b5_b9
      have E_b9 := E_b9.wr W12
      have Zn12 : n0 ≤ h12.size := Nat.le_trans Zn11 (Keep.of_wr W12).1
      have N12 := Fr.snoc X12 N11 g_b9
      have V_b9 : Arv Z h12 b9 k9 .byte (300 : Int32) (own_fv 300 (f0_94 x0 x1 x2 x3)) (.int (0 : Int32)) := (Arv.set Ar12 q12 S12 M12 Hs12 G12 (fits_nar_byte _) W12 299 rfl (by rw [own_flen]; exact (by decide))).pad (own_fset 300 (f0_86 x0 x1 x2 x3) 299 (w0_94 x0 x1 x2 x3) (by decide))
      refine Goes.st (B := T12.setTop (mkF m 95 #[iv x0, iv x1, iv x2, iv x3, iv (j0_11_s0 x0 x1 x2 x3), iv (j0_24_s0 x0 x1 x2 x3), rv b5, rv b9, .unset, .unset, .unset, .unset, .unset, .unset, .unset, .unset, .unset] [])) st12 ?_
      obtain ⟨T13, h13, X13, e13, E13, A13, D13, -, st13⟩ := newO X12 hx hZ hown w_2 w_3 w_4 e12 (g := (mkF m 95 #[iv x0, iv x1, iv x2, iv x3, iv (j0_11_s0 x0 x1 x2 x3), iv (j0_24_s0 x0 x1 x2 x3), rv b5, rv b9, .unset, .unset, .unset, .unset, .unset, .unset, .unset, .unset, .unset] [])) rfl (hb hby at_95) (by decide) (by decide)
      obtain ⟨b13, g13⟩ : ∃ z, z = h12.size := ⟨_, rfl⟩
      rw [← g13] at A13 D13 st13
      have ne_b9_b13 : b9 ≠ b13 := Nat.ne_of_lt (Nat.lt_of_lt_of_le E_b9.lt (Nat.le_of_eq g13.symm))
      have ne_b5_b13 : b5 ≠ b13 := Nat.ne_of_lt (Nat.lt_of_lt_of_le E_b5.lt (Nat.le_of_eq g13.symm))
      have g_b13 : n0 ≤ b13 := Nat.le_trans Zn12 (Nat.le_of_eq g13.symm)
      have E_b5 := E_b5.ext E13
      have V_b5 := V_b5.ext E13
      have E_b9 := E_b9.ext E13
      have V_b9 := V_b9.ext E13
      have Zn13 : n0 ≤ h13.size := Nat.le_trans Zn12 E13.1
      have E_b13 : Exa Z h13 b13 "com/example/upcaster/upcaster/io/BinaryEncoder" := A13
      have F_buffer_b13 : Fld Z h13 b13 "com/example/upcaster/upcaster/io/BinaryEncoder" "buffer" "[B" .null := D13 (Or.inl w_12) (ty := (.array .byte)) (by decide)
      have F_size_b13 : Fld Z h13 b13 "com/example/upcaster/upcaster/io/BinaryEncoder" "size" "I" (.int (0 : Int32)) := D13 (Or.inl w_19) (ty := .int) (by decide)
      refine Goes.st (B := T13.setTop (mkF m 98 #[iv x0, iv x1, iv x2, iv x3, iv (j0_11_s0 x0 x1 x2 x3), iv (j0_24_s0 x0 x1 x2 x3), rv b5, rv b9, .unset, .unset, .unset, .unset, .unset, .unset, .unset, .unset, .unset] [(.ref b13)])) st13 ?_
      refine Goes.run X13 hx hown hci hcl hby (L := [(98, .dup, 1)]) (by decide +kernel) rfl (g' := (mkF m 99 #[iv x0, iv x1, iv x2, iv x3, iv (j0_11_s0 x0 x1 x2 x3), iv (j0_24_s0 x0 x1 x2 x3), rv b5, rv b9, .unset, .unset, .unset, .unset, .unset, .unset, .unset, .unset, .unset] [(.ref b13), (.ref b13)])) rfl ?_
      obtain ⟨_, _, ⟨T14, L14, k14, n14⟩, -, X14, ⟨Lc14, hQ14, l14, y14, z14⟩, st14⟩ := X13.specialBack hx (y := ym0) rfl hown (mvT hZ w_5) (mvT hZ w_6) (mvT hZ w_7) (by decide) (backOf (W := 1) (rm1 l Z a0 hw [] b13 h13 n0 Zn13 E_b13 F_buffer_b13 F_size_b13 g_b13) hZ w_7 w_4 (by decide) (by decide)) (g := (mkF m 99 #[iv x0, iv x1, iv x2, iv x3, iv (j0_11_s0 x0 x1 x2 x3), iv (j0_24_s0 x0 x1 x2 x3), rv b5, rv b9, .unset, .unset, .unset, .unset, .unset, .unset, .unset, .unset, .unset] [(.ref b13), (.ref b13)])) rfl (by rw [hml]; rfl) (Steps.refl _) (a := b13) (argsL := []) (rest := [(.ref b13)]) (lenOf pd0_0 rfl) rfl (by show 2 * 0 + _ ≤ _; exact Nat.le_of_eq rfl) (hb hby at_99) (fun _ _ => ⟨rfl, e13, (by decide : 3 + 1 ≤ _), (by decide : 305 + 256 ≤ _)⟩)
      dsimp only [Pt.U, Pt.locs, Pt.cells, Pt.slots] at X14 l14 y14 z14 st14 hQ14
      subst l14 y14 z14
      obtain ⟨h14, eh14⟩ : ∃ z, z = T14.heap := ⟨_, rfl⟩
      rw [← eh14] at hQ14
      have e14 : T14.heap = h14 := eh14.symm
      obtain ⟨nb14, k_nb14, rfl, N14q, Kq14, sq_nb14, o14_0, o14_1, o14_2, o14_3⟩ := hQ14
      have ne_b13_nb14 : b13 ≠ nb14 := Nat.ne_of_lt (Nat.lt_of_lt_of_le E_b13.lt sq_nb14)
      have ne_b5_nb14 : b5 ≠ nb14 := Nat.ne_of_lt (Nat.lt_of_lt_of_le E_b5.lt sq_nb14)
      have ne_b9_nb14 : b9 ≠ nb14 := Nat.ne_of_lt (Nat.lt_of_lt_of_le E_b9.lt sq_nb14)
      have g_nb14 : n0 ≤ nb14 := Nat.le_trans Zn13 sq_nb14
      have N14 := Fr.app N12 N14q
      have E_b5 := E_b5.keep Kq14
      have V_b5 := V_b5.keep Kq14 (ninS ne_b5_b13 nin0)
      have E_b9 := E_b9.keep Kq14
      have V_b9 := V_b9.keep Kq14 (ninS ne_b9_b13 nin0)
      have Zn14 : n0 ≤ h14.size := Nat.le_trans Zn13 Kq14.1
      have E_b13 : Exa Z h14 b13 "com/example/upcaster/upcaster/io/BinaryEncoder" := o14_0
      have F_buffer_b13 : Fld Z h14 b13 "com/example/upcaster/upcaster/io/BinaryEncoder" "buffer" "[B" (.ref nb14) := o14_1
      have F_size_b13 : Fld Z h14 b13 "com/example/upcaster/upcaster/io/BinaryEncoder" "size" "I" (.int (0 : Int32)) := o14_2
      have V_nb14 : Arv Z h14 nb14 k_nb14 .byte (256 : Int32) (own_fv 256 own_z) (.int (0 : Int32)) := o14_3
      refine Goes.st (B := T14.setTop (mkF m 102 #[iv x0, iv x1, iv x2, iv x3, iv (j0_11_s0 x0 x1 x2 x3), iv (j0_24_s0 x0 x1 x2 x3), rv b5, rv b9, .unset, .unset, .unset, .unset, .unset, .unset, .unset, .unset, .unset] [(.ref b13)])) (fun t k => st14.trans k) ?_
      refine Goes.run X14 hx hown hci hcl hby (L := [(102, .astore 8, 2), (104, .aload 8, 2)]) (by decide +kernel) rfl (g' := (mkF m 106 #[iv x0, iv x1, iv x2, iv x3, iv (j0_11_s0 x0 x1 x2 x3), iv (j0_24_s0 x0 x1 x2 x3), rv b5, rv b9, rv b13, .unset, .unset, .unset, .unset, .unset, .unset, .unset, .unset] [(.ref b13)])) rfl ?_
      obtain ⟨cq15, kq15, q15a, q15b, q15c⟩ := isOf hZ e14 E_b13
      obtain ⟨_, _, ⟨T15, L15, k15, n15⟩, -, X15, ⟨Lc15, hQ15, l15, y15, z15⟩, st15⟩ := X14.virtualBack hx (y := ym6) (z := ym6) hown (mvT hZ w_13) (mvT hZ w_14) (notFace_of_selects (args := #[]) (mvT hZ w_16)) (mvT hZ w_16) (mvT hZ w_15) (by decide) (backOf (W := 0) (rm8_256 l Z a0 hw [] b13 nb14 k_nb14 own_z (0 : Int32) h14 n0 Zn14 F_buffer_b13 F_size_b13 V_nb14 (by decide) (by decide)) hZ w_17 w_4 (by decide) (by decide)) q15a q15c (g := (mkF m 106 #[iv x0, iv x1, iv x2, iv x3, iv (j0_11_s0 x0 x1 x2 x3), iv (j0_24_s0 x0 x1 x2 x3), rv b5, rv b9, rv b13, .unset, .unset, .unset, .unset, .unset, .unset, .unset, .unset] [(.ref b13)])) rfl (by rw [hml]; rfl) (Steps.refl _) (argsL := []) (rest := []) (lenOf pd0_1 rfl) rfl (by show 2 * 0 + _ ≤ _; exact Nat.le_of_eq rfl) (hb hby at_106) (fun _ _ => ⟨rfl, e14, (by decide : 4 + 1 ≤ _), (by decide : 561 + 256 ≤ _)⟩)
      dsimp only [Pt.U, Pt.locs, Pt.cells, Pt.slots] at X15 l15 y15 z15 st15 hQ15
      subst l15 y15 z15
      obtain ⟨h15, eh15⟩ : ∃ z, z = T15.heap := ⟨_, rfl⟩
      rw [← eh15] at hQ15
      have e15 : T15.heap = h15 := eh15.symm
      obtain ⟨b15, kc15, rfl, N15q, Kq15, szq15, o15_0, o15_1⟩ := hQ15
      have ne_b13_b15 : b13 ≠ b15 := Nat.ne_of_lt (Nat.lt_of_lt_of_le E_b13.lt szq15)
      have ne_b5_b15 : b5 ≠ b15 := Nat.ne_of_lt (Nat.lt_of_lt_of_le E_b5.lt szq15)
      have ne_b9_b15 : b9 ≠ b15 := Nat.ne_of_lt (Nat.lt_of_lt_of_le E_b9.lt szq15)
      have ne_nb14_b15 : nb14 ≠ b15 := Nat.ne_of_lt (Nat.lt_of_lt_of_le V_nb14.lt szq15)
      have g_b15 : n0 ≤ b15 := Nat.le_trans Zn14 szq15
      have N15 := Fr.app N14 N15q
      have E_b5 := E_b5.keep Kq15
      have V_b5 := V_b5.keep Kq15 nin0
      have E_b9 := E_b9.keep Kq15
      have V_b9 := V_b9.keep Kq15 nin0
      have E_b13 := E_b13.keep Kq15
      have F_buffer_b13 := F_buffer_b13.keep Kq15 nin0
      have F_size_b13 := F_size_b13.keep Kq15 nin0
      have V_nb14 := V_nb14.keep Kq15 nin0
      have E_b15 : Exa Z h15 b15 "[B" := o15_0
      have V_b15 : Arv Z h15 b15 kc15 .byte (0 : Int32) (own_fv ((0 : Int32)).toNatClampNeg (f5_256_28 (0 : Int32) own_z)) (.int (0 : Int32)) := o15_1
      have Zn15 : n0 ≤ h15.size := Nat.le_trans Zn14 Kq15.1
      refine Goes.st (B := T15.setTop (mkF m 109 #[iv x0, iv x1, iv x2, iv x3, iv (j0_11_s0 x0 x1 x2 x3), iv (j0_24_s0 x0 x1 x2 x3), rv b5, rv b9, rv b13, .unset, .unset, .unset, .unset, .unset, .unset, .unset, .unset] [(.ref b15)])) (fun t k => st15.trans k) ?_
      refine Goes.run X15 hx hown hci hcl hby (L := [(109, .astore 9, 2), (111, .aload 9, 2)]) (by decide +kernel) rfl (g' := (mkF m 113 #[iv x0, iv x1, iv x2, iv x3, iv (j0_11_s0 x0 x1 x2 x3), iv (j0_24_s0 x0 x1 x2 x3), rv b5, rv b9, rv b13, rv b15, .unset, .unset, .unset, .unset, .unset, .unset, .unset] [(.ref b15)])) rfl ?_
      obtain ⟨cl16, Ar16, q16, S16, M16, Hs16, G16⟩ := id V_b15
      refine Goes.st (B := T15.setTop (mkF m 114 #[iv x0, iv x1, iv x2, iv x3, iv (j0_11_s0 x0 x1 x2 x3), iv (j0_24_s0 x0 x1 x2 x3), rv b5, rv b9, rv b13, rv b15, .unset, .unset, .unset, .unset, .unset, .unset, .unset] [(.int (0 : Int32))])) (fun t k => ?_) ?_
      · refine X15.arraylength hx (cell := cl16) (by rw [e15]; exact Ar16.1) (State.isArrayOf_alike hZ.alike Ar16.2.1) (g := (mkF m 113 #[iv x0, iv x1, iv x2, iv x3, iv (j0_11_s0 x0 x1 x2 x3), iv (j0_24_s0 x0 x1 x2 x3), rv b5, rv b9, rv b13, rv b15, .unset, .unset, .unset, .unset, .unset, .unset, .unset] [(.ref b15)])) rfl (rest := []) rfl (hb hby at_113) _ ?_
        rw [len_of S16 M16]
        exact k
      have hc114_17 : (0 : Int32) = (0 : Int32) := rfl
      refine Goes.st (B := T15.setTop (mkF m 117 #[iv x0, iv x1, iv x2, iv x3, iv (j0_11_s0 x0 x1 x2 x3), iv (j0_24_s0 x0 x1 x2 x3), rv b5, rv b9, rv b13, rv b15, .unset, .unset, .unset, .unset, .unset, .unset, .unset] [])) (fun t k => ?_) ?_
      · refine XS.ifNo X15.here hx rfl (hb hby at_114) rfl ((if0 _ _).trans (teq hc114_17).2) ?_
        exact k
      refine Goes.run X15 hx hown hci hcl hby (L := [(117, .iconst 1, 1), (118, .goto 4, 3), (122, .istore 10, 2), (124, .aload 8, 2), (126, .iload 4, 2)]) (by decide +kernel) rfl (g' := (mkF m 128 #[iv x0, iv x1, iv x2, iv x3, iv (j0_11_s0 x0 x1 x2 x3), iv (j0_24_s0 x0 x1 x2 x3), rv b5, rv b9, rv b13, rv b15, iv (1 : Int32), .unset, .unset, .unset, .unset, .unset, .unset] [(.int (j0_11_s0 x0 x1 x2 x3)), (.ref b13)])) rfl ?_
      obtain ⟨cq18, kq18, q18a, q18b, q18c⟩ := isOf hZ e15 E_b13
      obtain ⟨_, _, ⟨T18, L18, k18, n18⟩, -, X18, ⟨Lc18, hQ18, l18, y18, z18⟩, st18⟩ := X15.virtualBack hx (y := ym8) (z := ym8) hown (mvT hZ w_32) (mvT hZ w_33) (notFace_of_selects (args := #[]) (mvT hZ w_35)) (mvT hZ w_35) (mvT hZ w_34) (by decide) (backOf (W := 0) (rmB l Z a0 hw [] b13 (j0_11_s0 x0 x1 x2 x3) nb14 k_nb14 own_z h15 n0 Zn15 E_b13 F_buffer_b13 F_size_b13 V_nb14 g_b13 g_nb14 ne_b13_nb14) hZ w_36 w_4 (by decide) (by decide)) q18a q18c (g := (mkF m 128 #[iv x0, iv x1, iv x2, iv x3, iv (j0_11_s0 x0 x1 x2 x3), iv (j0_24_s0 x0 x1 x2 x3), rv b5, rv b9, rv b13, rv b15, iv (1 : Int32), .unset, .unset, .unset, .unset, .unset, .unset] [(.int (j0_11_s0 x0 x1 x2 x3)), (.ref b13)])) rfl (by rw [hml]; rfl) (Steps.refl _) (argsL := [(.int (j0_11_s0 x0 x1 x2 x3))]) (rest := []) (lenOf pd0_2 rfl) rfl (by show 2 * 0 + _ ≤ _; exact Nat.le_of_eq rfl) (hb hby at_128) (fun _ _ => ⟨rfl, e15, (by decide : 5 + 0 ≤ _), (by decide : 817 + 0 ≤ _)⟩)
      dsimp only [Pt.U, Pt.locs, Pt.cells, Pt.slots] at X18 l18 y18 z18 st18 hQ18
      subst l18 y18 z18
      obtain ⟨h18, eh18⟩ : ∃ z, z = T18.heap := ⟨_, rfl⟩
      rw [← eh18] at hQ18
      have e18 : T18.heap = h18 := eh18.symm
      obtain ⟨rfl, N18q, Kq18, o18_0, o18_1, o18_2, o18_3⟩ := hQ18
      have N18 := Fr.app N15 N18q
      have E_b5 := E_b5.keep Kq18
      have V_b5 := V_b5.keep Kq18 (ninS ne_b5_b13 (ninS ne_b5_nb14 nin0))
      have E_b9 := E_b9.keep Kq18
      have V_b9 := V_b9.keep Kq18 (ninS ne_b9_b13 (ninS ne_b9_nb14 nin0))
      have E_b15 := E_b15.keep Kq18
      have V_b15 := V_b15.keep Kq18 (ninS (Ne.symm ne_b13_b15) (ninS (Ne.symm ne_nb14_b15) nin0))
      have Zn18 : n0 ≤ h18.size := Nat.le_trans Zn15 Kq18.1
      have E_b13 : Exa Z h18 b13 "com/example/upcaster/upcaster/io/BinaryEncoder" := o18_0
      have F_buffer_b13 : Fld Z h18 b13 "com/example/upcaster/upcaster/io/BinaryEncoder" "buffer" "[B" (.ref nb14) := o18_1
      have F_size_b13 : Fld Z h18 b13 "com/example/upcaster/upcaster/io/BinaryEncoder" "size" "I" (.int (1 : Int32)) := o18_2
      have V_nb14 : Arv Z h18 nb14 k_nb14 .byte (256 : Int32) (own_fv 256 (fB_30 (j0_11_s0 x0 x1 x2 x3) own_z)) (.int (0 : Int32)) := o18_3
      refine Goes.st (B := T18.setTop (mkF m 131 #[iv x0, iv x1, iv x2, iv x3, iv (j0_11_s0 x0 x1 x2 x3), iv (j0_24_s0 x0 x1 x2 x3), rv b5, rv b9, rv b13, rv b15, iv (1 : Int32), .unset, .unset, .unset, .unset, .unset, .unset] [])) (fun t k => st18.trans k) ?_
      refine Goes.run X18 hx hown hci hcl hby (L := [(131, .aload 8, 2), (133, .aload 6, 2)]) (by decide +kernel) rfl (g' := (mkF m 135 #[iv x0, iv x1, iv x2, iv x3, iv (j0_11_s0 x0 x1 x2 x3), iv (j0_24_s0 x0 x1 x2 x3), rv b5, rv b9, rv b13, rv b15, iv (1 : Int32), .unset, .unset, .unset, .unset, .unset, .unset] [(.ref b5), (.ref b13)])) rfl ?_
      obtain ⟨cq19, kq19, q19a, q19b, q19c⟩ := isOf hZ e18 E_b13
      obtain ⟨_, _, ⟨T19, L19, k19, n19⟩, -, X19, ⟨Lc19, hQ19, l19, y19, z19⟩, st19⟩ := X18.virtualBack hx (y := ym9) (z := ym9) hown (mvT hZ w_41) (mvT hZ w_42) (notFace_of_selects (args := #[]) (mvT hZ w_44)) (mvT hZ w_44) (mvT hZ w_43) (by decide) (backOf (W := 0) (rmC l Z a0 hw [] b13 b5 nb14 k_nb14 k5 (fB_30 (j0_11_s0 x0 x1 x2 x3) own_z) (f0_54 x0 x1 x2 x3) h18 n0 Zn18 E_b13 F_buffer_b13 F_size_b13 V_nb14 V_b5 g_b13 g_nb14 ne_b13_nb14 ne_b5_nb14 ne_b5_b13) hZ w_45 w_4 (by decide) (by decide)) q19a q19c (g := (mkF m 135 #[iv x0, iv x1, iv x2, iv x3, iv (j0_11_s0 x0 x1 x2 x3), iv (j0_24_s0 x0 x1 x2 x3), rv b5, rv b9, rv b13, rv b15, iv (1 : Int32), .unset, .unset, .unset, .unset, .unset, .unset] [(.ref b5), (.ref b13)])) rfl (by rw [hml]; rfl) (Steps.refl _) (argsL := [(.ref b5)]) (rest := []) (lenOf pd0_3 rfl) rfl (by show 2 * 0 + _ ≤ _; exact Nat.le_of_eq rfl) (hb hby at_135) (fun _ _ => ⟨rfl, e18, (by decide : 5 + 0 ≤ _), (by decide : 817 + 0 ≤ _)⟩)
      dsimp only [Pt.U, Pt.locs, Pt.cells, Pt.slots] at X19 l19 y19 z19 st19 hQ19
      subst l19 y19 z19
      obtain ⟨h19, eh19⟩ : ∃ z, z = T19.heap := ⟨_, rfl⟩
      rw [← eh19] at hQ19
      have e19 : T19.heap = h19 := eh19.symm
      obtain ⟨rfl, N19q, Kq19, o19_0, o19_1, o19_2, o19_3⟩ := hQ19
      have N19 := Fr.app N18 N19q
      have E_b5 := E_b5.keep Kq19
      have V_b5 := V_b5.keep Kq19 (ninS ne_b5_b13 (ninS ne_b5_nb14 nin0))
      have E_b9 := E_b9.keep Kq19
      have V_b9 := V_b9.keep Kq19 (ninS ne_b9_b13 (ninS ne_b9_nb14 nin0))
      have E_b15 := E_b15.keep Kq19
      have V_b15 := V_b15.keep Kq19 (ninS (Ne.symm ne_b13_b15) (ninS (Ne.symm ne_nb14_b15) nin0))
      have Zn19 : n0 ≤ h19.size := Nat.le_trans Zn18 Kq19.1
      have E_b13 : Exa Z h19 b13 "com/example/upcaster/upcaster/io/BinaryEncoder" := o19_0
      have F_buffer_b13 : Fld Z h19 b13 "com/example/upcaster/upcaster/io/BinaryEncoder" "buffer" "[B" (.ref nb14) := o19_1
      have F_size_b13 : Fld Z h19 b13 "com/example/upcaster/upcaster/io/BinaryEncoder" "size" "I" (.int (4 : Int32)) := o19_2
      have V_nb14 : Arv Z h19 nb14 k_nb14 .byte (256 : Int32) (own_fv 256 (fC_18 (fB_30 (j0_11_s0 x0 x1 x2 x3) own_z) (f0_54 x0 x1 x2 x3))) (.int (0 : Int32)) := o19_3
      refine Goes.st (B := T19.setTop (mkF m 138 #[iv x0, iv x1, iv x2, iv x3, iv (j0_11_s0 x0 x1 x2 x3), iv (j0_24_s0 x0 x1 x2 x3), rv b5, rv b9, rv b13, rv b15, iv (1 : Int32), .unset, .unset, .unset, .unset, .unset, .unset] [])) (fun t k => st19.trans k) ?_
      refine Goes.run X19 hx hown hci hcl hby (L := [(138, .iload 5, 2)]) (by decide +kernel) rfl (g' := (mkF m 140 #[iv x0, iv x1, iv x2, iv x3, iv (j0_11_s0 x0 x1 x2 x3), iv (j0_24_s0 x0 x1 x2 x3), rv b5, rv b9, rv b13, rv b15, iv (1 : Int32), .unset, .unset, .unset, .unset, .unset, .unset] [(.int (j0_24_s0 x0 x1 x2 x3))])) rfl ?_
      by_cases hc140_20 : (j0_24_s0 x0 x1 x2 x3) = (0 : Int32)
      · skip
        refine Goes.st (B := T19.setTop (mkF m 150 #[iv x0, iv x1, iv x2, iv x3, iv (j0_11_s0 x0 x1 x2 x3), iv (j0_24_s0 x0 x1 x2 x3), rv b5, rv b9, rv b13, rv b15, iv (1 : Int32), .unset, .unset, .unset, .unset, .unset, .unset] [])) (fun t k => ?_) ?_
        · refine XS.ifYes X19.here hx rfl (pc0 := 140) (pc' := 150) rfl (hb hby at_140) rfl ((if0 _ _).trans (teq hc140_20).1) (by decide) (by decide) ?_
          exact k
        refine Goes.run X19 hx hown hci hcl hby (L := [(150, .iload 5, 2)]) (by decide +kernel) rfl (g' := (mkF m 152 #[iv x0, iv x1, iv x2, iv x3, iv (j0_11_s0 x0 x1 x2 x3), iv (j0_24_s0 x0 x1 x2 x3), rv b5, rv b9, rv b13, rv b15, iv (1 : Int32), .unset, .unset, .unset, .unset, .unset, .unset] [(.int (j0_24_s0 x0 x1 x2 x3))])) rfl ?_
        have hc152_21 : (j0_24_s0 x0 x1 x2 x3) = (0 : Int32) := hc140_20
        refine Goes.st (B := T19.setTop (mkF m 161 #[iv x0, iv x1, iv x2, iv x3, iv (j0_11_s0 x0 x1 x2 x3), iv (j0_24_s0 x0 x1 x2 x3), rv b5, rv b9, rv b13, rv b15, iv (1 : Int32), .unset, .unset, .unset, .unset, .unset, .unset] [])) (fun t k => ?_) ?_
        · refine XS.ifYes X19.here hx rfl (pc0 := 152) (pc' := 161) rfl (hb hby at_152) rfl ((if0 _ _).trans (teq hc152_21).1) (by decide) (by decide) ?_
          exact k
        refine Goes.run X19 hx hown hci hcl hby (L := [(161, .iconst 4, 1), (162, .istore 11, 2), (164, .aload 8, 2)]) (by decide +kernel) rfl (g' := (mkF m 166 #[iv x0, iv x1, iv x2, iv x3, iv (j0_11_s0 x0 x1 x2 x3), iv (j0_24_s0 x0 x1 x2 x3), rv b5, rv b9, rv b13, rv b15, iv (1 : Int32), iv (4 : Int32), .unset, .unset, .unset, .unset, .unset] [(.ref b13)])) rfl ?_
        obtain ⟨cq22, kq22, q22a, q22b, q22c⟩ := isOf hZ e19 E_b13
        obtain ⟨_, _, ⟨T22, L22, k22, n22⟩, -, X22, ⟨Lc22, hQ22, l22, y22, z22⟩, st22⟩ := X19.virtualBack hx (y := ym6) (z := ym6) hown (mvT hZ w_13) (mvT hZ w_14) (notFace_of_selects (args := #[]) (mvT hZ w_16)) (mvT hZ w_16) (mvT hZ w_15) (by decide) (backOf (W := 0) (rm8_256 l Z a0 hw [] b13 nb14 k_nb14 (fC_18 (fB_30 (j0_11_s0 x0 x1 x2 x3) own_z) (f0_54 x0 x1 x2 x3)) (4 : Int32) h19 n0 Zn19 F_buffer_b13 F_size_b13 V_nb14 (by decide) (by decide)) hZ w_17 w_4 (by decide) (by decide)) q22a q22c (g := (mkF m 166 #[iv x0, iv x1, iv x2, iv x3, iv (j0_11_s0 x0 x1 x2 x3), iv (j0_24_s0 x0 x1 x2 x3), rv b5, rv b9, rv b13, rv b15, iv (1 : Int32), iv (4 : Int32), .unset, .unset, .unset, .unset, .unset] [(.ref b13)])) rfl (by rw [hml]; rfl) (Steps.refl _) (argsL := []) (rest := []) (lenOf pd0_1 rfl) rfl (by show 2 * 0 + _ ≤ _; exact Nat.le_of_eq rfl) (hb hby at_166) (fun _ _ => ⟨rfl, e19, (by decide : 5 + 1 ≤ _), (by decide : 817 + 256 ≤ _)⟩)
        dsimp only [Pt.U, Pt.locs, Pt.cells, Pt.slots] at X22 l22 y22 z22 st22 hQ22
        subst l22 y22 z22
        obtain ⟨h22, eh22⟩ : ∃ z, z = T22.heap := ⟨_, rfl⟩
        rw [← eh22] at hQ22
        have e22 : T22.heap = h22 := eh22.symm
        obtain ⟨b22, kc22, rfl, N22q, Kq22, szq22, o22_0, o22_1⟩ := hQ22
        have ne_b13_b22 : b13 ≠ b22 := Nat.ne_of_lt (Nat.lt_of_lt_of_le E_b13.lt szq22)
        have ne_b15_b22 : b15 ≠ b22 := Nat.ne_of_lt (Nat.lt_of_lt_of_le E_b15.lt szq22)
        have ne_b5_b22 : b5 ≠ b22 := Nat.ne_of_lt (Nat.lt_of_lt_of_le E_b5.lt szq22)
        have ne_b9_b22 : b9 ≠ b22 := Nat.ne_of_lt (Nat.lt_of_lt_of_le E_b9.lt szq22)
        have ne_nb14_b22 : nb14 ≠ b22 := Nat.ne_of_lt (Nat.lt_of_lt_of_le V_nb14.lt szq22)
        have g_b22 : n0 ≤ b22 := Nat.le_trans Zn19 szq22
        have N22 := Fr.app N19 N22q
        have E_b5 := E_b5.keep Kq22
        have V_b5 := V_b5.keep Kq22 nin0
        have E_b9 := E_b9.keep Kq22
        have V_b9 := V_b9.keep Kq22 nin0
        have E_b13 := E_b13.keep Kq22
        have F_buffer_b13 := F_buffer_b13.keep Kq22 nin0
        have F_size_b13 := F_size_b13.keep Kq22 nin0
        have V_nb14 := V_nb14.keep Kq22 nin0
        have E_b15 := E_b15.keep Kq22
        have V_b15 := V_b15.keep Kq22 nin0
        have E_b22 : Exa Z h22 b22 "[B" := o22_0
        have V_b22 : Arv Z h22 b22 kc22 .byte (4 : Int32) (own_fv ((4 : Int32)).toNatClampNeg (f5_256_28 (4 : Int32) (fC_18 (fB_30 (j0_11_s0 x0 x1 x2 x3) own_z) (f0_54 x0 x1 x2 x3)))) (.int (0 : Int32)) := o22_1
        have Zn22 : n0 ≤ h22.size := Nat.le_trans Zn19 Kq22.1
        refine Goes.st (B := T22.setTop (mkF m 169 #[iv x0, iv x1, iv x2, iv x3, iv (j0_11_s0 x0 x1 x2 x3), iv (j0_24_s0 x0 x1 x2 x3), rv b5, rv b9, rv b13, rv b15, iv (1 : Int32), iv (4 : Int32), .unset, .unset, .unset, .unset, .unset] [(.ref b22)])) (fun t k => st22.trans k) ?_
        refine Goes.run X22 hx hown hci hcl hby (L := [(169, .astore 12, 2), (171, .iload 10, 2)]) (by decide +kernel) rfl (g' := (mkF m 173 #[iv x0, iv x1, iv x2, iv x3, iv (j0_11_s0 x0 x1 x2 x3), iv (j0_24_s0 x0 x1 x2 x3), rv b5, rv b9, rv b13, rv b15, iv (1 : Int32), iv (4 : Int32), rv b22, .unset, .unset, .unset, .unset] [(.int (1 : Int32))])) rfl ?_
        have hc173_23 : ¬ ((1 : Int32) = (0 : Int32)) := by decide
        refine Goes.st (B := T22.setTop (mkF m 176 #[iv x0, iv x1, iv x2, iv x3, iv (j0_11_s0 x0 x1 x2 x3), iv (j0_24_s0 x0 x1 x2 x3), rv b5, rv b9, rv b13, rv b15, iv (1 : Int32), iv (4 : Int32), rv b22, .unset, .unset, .unset, .unset] [])) (fun t k => ?_) ?_
        · refine XS.ifNo X22.here hx rfl (hb hby at_173) rfl ((if0 _ _).trans (feq hc173_23).1) ?_
          exact k
        refine Goes.run X22 hx hown hci hcl hby (L := [(176, .aload 12, 2)]) (by decide +kernel) rfl (g' := (mkF m 178 #[iv x0, iv x1, iv x2, iv x3, iv (j0_11_s0 x0 x1 x2 x3), iv (j0_24_s0 x0 x1 x2 x3), rv b5, rv b9, rv b13, rv b15, iv (1 : Int32), iv (4 : Int32), rv b22, .unset, .unset, .unset, .unset] [(.ref b22)])) rfl ?_
        obtain ⟨cl24, Ar24, q24, S24, M24, Hs24, G24⟩ := id V_b22
        refine Goes.st (B := T22.setTop (mkF m 179 #[iv x0, iv x1, iv x2, iv x3, iv (j0_11_s0 x0 x1 x2 x3), iv (j0_24_s0 x0 x1 x2 x3), rv b5, rv b9, rv b13, rv b15, iv (1 : Int32), iv (4 : Int32), rv b22, .unset, .unset, .unset, .unset] [(.int (4 : Int32))])) (fun t k => ?_) ?_
        · refine X22.arraylength hx (cell := cl24) (by rw [e22]; exact Ar24.1) (State.isArrayOf_alike hZ.alike Ar24.2.1) (g := (mkF m 178 #[iv x0, iv x1, iv x2, iv x3, iv (j0_11_s0 x0 x1 x2 x3), iv (j0_24_s0 x0 x1 x2 x3), rv b5, rv b9, rv b13, rv b15, iv (1 : Int32), iv (4 : Int32), rv b22, .unset, .unset, .unset, .unset] [(.ref b22)])) rfl (rest := []) rfl (hb hby at_178) _ ?_
          rw [len_of S24 M24]
          exact k
        refine Goes.run X22 hx hown hci hcl hby (L := [(179, .iload 11, 2)]) (by decide +kernel) rfl (g' := (mkF m 181 #[iv x0, iv x1, iv x2, iv x3, iv (j0_11_s0 x0 x1 x2 x3), iv (j0_24_s0 x0 x1 x2 x3), rv b5, rv b9, rv b13, rv b15, iv (1 : Int32), iv (4 : Int32), rv b22, .unset, .unset, .unset, .unset] [(.int (4 : Int32)), (.int (4 : Int32))])) rfl ?_
        have hc181_25 : (4 : Int32) = (4 : Int32) := rfl
        refine Goes.st (B := T22.setTop (mkF m 184 #[iv x0, iv x1, iv x2, iv x3, iv (j0_11_s0 x0 x1 x2 x3), iv (j0_24_s0 x0 x1 x2 x3), rv b5, rv b9, rv b13, rv b15, iv (1 : Int32), iv (4 : Int32), rv b22, .unset, .unset, .unset, .unset] [])) (fun t k => ?_) ?_
        · refine XS.icmpNo X22.here hx rfl (hb hby at_181) rfl (teq hc181_25).2 ?_
          exact k
        refine Goes.run X22 hx hown hci hcl hby (L := [(184, .aload 8, 2)]) (by decide +kernel) rfl (g' := (mkF m 186 #[iv x0, iv x1, iv x2, iv x3, iv (j0_11_s0 x0 x1 x2 x3), iv (j0_24_s0 x0 x1 x2 x3), rv b5, rv b9, rv b13, rv b15, iv (1 : Int32), iv (4 : Int32), rv b22, .unset, .unset, .unset, .unset] [(.ref b13)])) rfl ?_
        obtain ⟨cq26, kq26, q26a, q26b, q26c⟩ := isOf hZ e22 E_b13
        obtain ⟨_, _, ⟨T26, L26, k26, n26⟩, -, X26, ⟨Lc26, hQ26, l26, y26, z26⟩, st26⟩ := X22.virtualBack hx (y := ym13) (z := ym13) hown (mvT hZ w_61) (mvT hZ w_62) (notFace_of_selects (args := #[]) (mvT hZ w_64)) (mvT hZ w_64) (mvT hZ w_63) (by decide) (backOf (W := 0) (rmH l Z a0 hw [] b13 (4 : Int32) h22 n0 Zn22 F_size_b13) hZ w_65 w_4 (by decide) (by decide)) q26a q26c (g := (mkF m 186 #[iv x0, iv x1, iv x2, iv x3, iv (j0_11_s0 x0 x1 x2 x3), iv (j0_24_s0 x0 x1 x2 x3), rv b5, rv b9, rv b13, rv b15, iv (1 : Int32), iv (4 : Int32), rv b22, .unset, .unset, .unset, .unset] [(.ref b13)])) rfl (by rw [hml]; rfl) (Steps.refl _) (argsL := []) (rest := []) (lenOf pd0_4 rfl) rfl (by show 2 * 0 + _ ≤ _; exact Nat.le_of_eq rfl) (hb hby at_186) (fun _ _ => ⟨rfl, e22, (by decide : 6 + 0 ≤ _), (by decide : 1073 + 0 ≤ _)⟩)
        dsimp only [Pt.U, Pt.locs, Pt.cells, Pt.slots] at X26 l26 y26 z26 st26 hQ26
        subst l26 y26 z26
        obtain ⟨rfl, N26q, e26⟩ := hQ26
        have N26 := Fr.app N22 N26q
        refine Goes.st (B := T26.setTop (mkF m 189 #[iv x0, iv x1, iv x2, iv x3, iv (j0_11_s0 x0 x1 x2 x3), iv (j0_24_s0 x0 x1 x2 x3), rv b5, rv b9, rv b13, rv b15, iv (1 : Int32), iv (4 : Int32), rv b22, .unset, .unset, .unset, .unset] [(.int (4 : Int32))])) (fun t k => st26.trans k) ?_
        refine Goes.run X26 hx hown hci hcl hby (L := [(189, .iload 11, 2)]) (by decide +kernel) rfl (g' := (mkF m 191 #[iv x0, iv x1, iv x2, iv x3, iv (j0_11_s0 x0 x1 x2 x3), iv (j0_24_s0 x0 x1 x2 x3), rv b5, rv b9, rv b13, rv b15, iv (1 : Int32), iv (4 : Int32), rv b22, .unset, .unset, .unset, .unset] [(.int (4 : Int32)), (.int (4 : Int32))])) rfl ?_
        have hc191_27 : (4 : Int32) = (4 : Int32) := rfl
        refine Goes.st (B := T26.setTop (mkF m 194 #[iv x0, iv x1, iv x2, iv x3, iv (j0_11_s0 x0 x1 x2 x3), iv (j0_24_s0 x0 x1 x2 x3), rv b5, rv b9, rv b13, rv b15, iv (1 : Int32), iv (4 : Int32), rv b22, .unset, .unset, .unset, .unset] [])) (fun t k => ?_) ?_
        · refine XS.icmpNo X26.here hx rfl (hb hby at_191) rfl (teq hc191_27).2 ?_
          exact k
        refine Goes.run X26 hx hown hci hcl hby (L := [(194, .iconst 1, 1), (195, .goto 4, 3), (199, .istore 10, 2), (201, .iload 10, 2)]) (by decide +kernel) rfl (g' := (mkF m 203 #[iv x0, iv x1, iv x2, iv x3, iv (j0_11_s0 x0 x1 x2 x3), iv (j0_24_s0 x0 x1 x2 x3), rv b5, rv b9, rv b13, rv b15, iv (1 : Int32), iv (4 : Int32), rv b22, .unset, .unset, .unset, .unset] [(.int (1 : Int32))])) rfl ?_
        have hc203_28 : ¬ ((1 : Int32) = (0 : Int32)) := by decide
        refine Goes.st (B := T26.setTop (mkF m 208 #[iv x0, iv x1, iv x2, iv x3, iv (j0_11_s0 x0 x1 x2 x3), iv (j0_24_s0 x0 x1 x2 x3), rv b5, rv b9, rv b13, rv b15, iv (1 : Int32), iv (4 : Int32), rv b22, .unset, .unset, .unset, .unset] [])) (fun t k => ?_) ?_
        · refine XS.ifYes X26.here hx rfl (pc0 := 203) (pc' := 208) rfl (hb hby at_203) rfl ((if0 _ _).trans (feq hc203_28).2) (by decide) (by decide) ?_
          exact k
        refine Goes.run X26 hx hown hci hcl hby (L := [(208, .iload_n 3, 1), (209, .iconst 3, 1), (210, .iushr, 1), (211, .iload 11, 2), (213, .irem, 1), (214, .istore 13, 2)]) (by decide +kernel) rfl (g' := (mkF m 216 #[iv x0, iv x1, iv x2, iv x3, iv (j0_11_s0 x0 x1 x2 x3), iv (j0_24_s0 x0 x1 x2 x3), rv b5, rv b9, rv b13, rv b15, iv (1 : Int32), iv (4 : Int32), rv b22, iv (w0_214 x0 x1 x2 x3), .unset, .unset, .unset] [])) rfl ?_
        refine Goes.run X26 hx hown hci hcl hby (L := [(216, .aload 12, 2), (218, .iconst 0, 1)]) (by decide +kernel) rfl (g' := (mkF m 219 #[iv x0, iv x1, iv x2, iv x3, iv (j0_11_s0 x0 x1 x2 x3), iv (j0_24_s0 x0 x1 x2 x3), rv b5, rv b9, rv b13, rv b15, iv (1 : Int32), iv (4 : Int32), rv b22, iv (w0_214 x0 x1 x2 x3), .unset, .unset, .unset] [(.int (0 : Int32)), (.ref b22)])) rfl ?_
        obtain ⟨cl29, Ar29, q29, S29, M29, Hs29, G29⟩ := id V_b22
        have hin29 : ¬ ((0 : Int32) < 0 ∨ cl29.slots.size ≤ ((0 : Int32)).toNatClampNeg) := inb_of S29 ⟨(by decide), (by decide)⟩
        have hat29 : cl29.slots[((0 : Int32)).toNatClampNeg]? = some (.int (w0_219 x0 x1 x2 x3)) := Hs29.at hin29 ((own_fget ((4 : Int32)).toNatClampNeg (f5_256_28 (4 : Int32) (fC_18 (fB_30 (j0_11_s0 x0 x1 x2 x3) own_z) (f0_54 x0 x1 x2 x3))) 0 _).trans (if_pos (by decide)))
        refine Goes.st (B := T26.setTop (mkF m 220 #[iv x0, iv x1, iv x2, iv x3, iv (j0_11_s0 x0 x1 x2 x3), iv (j0_24_s0 x0 x1 x2 x3), rv b5, rv b9, rv b13, rv b15, iv (1 : Int32), iv (4 : Int32), rv b22, iv (w0_214 x0 x1 x2 x3), .unset, .unset, .unset] [(.int (w0_219 x0 x1 x2 x3))])) (X26.baloadBytes hx (j := (0 : Int32)) (v := (.int (w0_219 x0 x1 x2 x3))) (by rw [e26]; exact Ar29.1) (State.isArrayOf_alike hZ.alike Ar29.2.1) Ar29.2.2 hin29 hat29 (g := (mkF m 219 #[iv x0, iv x1, iv x2, iv x3, iv (j0_11_s0 x0 x1 x2 x3), iv (j0_24_s0 x0 x1 x2 x3), rv b5, rv b9, rv b13, rv b15, iv (1 : Int32), iv (4 : Int32), rv b22, iv (w0_214 x0 x1 x2 x3), .unset, .unset, .unset] [(.int (0 : Int32)), (.ref b22)])) rfl rfl (hb hby at_219)) ?_
        refine Goes.run X26 hx hown hci hcl hby (L := [(220, .iconst 0, 1), (221, .iload 4, 2), (223, .aload 6, 2), (225, .aload 7, 2)]) (by decide +kernel) rfl (g' := (mkF m 227 #[iv x0, iv x1, iv x2, iv x3, iv (j0_11_s0 x0 x1 x2 x3), iv (j0_24_s0 x0 x1 x2 x3), rv b5, rv b9, rv b13, rv b15, iv (1 : Int32), iv (4 : Int32), rv b22, iv (w0_214 x0 x1 x2 x3), .unset, .unset, .unset] [(.ref b9), (.ref b5), (.int (j0_11_s0 x0 x1 x2 x3)), (.int (0 : Int32)), (.int (w0_219 x0 x1 x2 x3))])) rfl ?_
        obtain ⟨_, _, ⟨T30, L30, k30, n30⟩, -, X30, ⟨Lc30, hQ30, l30, y30, z30⟩, st30⟩ := Jvm.LawKit.callS X26 hx (y := ym14) hown (mvT hZ w_66) (mvT hZ w_67) (mvT hZ w_68) (mvT hZ w_69) (by decide) (backOf (W := 1) (rmI l Z a0 hw [] (0 : Int32) (j0_11_s0 x0 x1 x2 x3) b5 b9 k5 k9 (f0_54 x0 x1 x2 x3) (f0_94 x0 x1 x2 x3) h22 n0 Zn22 V_b5 V_b9 (by decide) (by decide) (own_hA x0 x1 x2 x3) (own_hB x0 x1 x2 x3)) hZ w_69 w_68 (by decide) (by decide)) (g := (mkF m 227 #[iv x0, iv x1, iv x2, iv x3, iv (j0_11_s0 x0 x1 x2 x3), iv (j0_24_s0 x0 x1 x2 x3), rv b5, rv b9, rv b13, rv b15, iv (1 : Int32), iv (4 : Int32), rv b22, iv (w0_214 x0 x1 x2 x3), .unset, .unset, .unset] [(.ref b9), (.ref b5), (.int (j0_11_s0 x0 x1 x2 x3)), (.int (0 : Int32)), (.int (w0_219 x0 x1 x2 x3))])) rfl (by rw [hml]; rfl) (argsL := [(.int (0 : Int32)), (.int (j0_11_s0 x0 x1 x2 x3)), (.ref b5), (.ref b9)]) (rest := [(.int (w0_219 x0 x1 x2 x3))]) (lenOf pd0_5 rfl) rfl (by show 2 * 0 + _ ≤ _; exact Nat.le_of_eq rfl) (hb hby at_227) (fun _ _ => ⟨rfl, e26, (by decide : 6 + 0 ≤ _), (by decide : 1073 + 0 ≤ _)⟩)
        dsimp only [Pt.U, Pt.locs, Pt.cells, Pt.slots] at X30 l30 y30 z30 st30 hQ30
        subst l30 y30 z30
        obtain ⟨rfl, N30q, e30⟩ := hQ30
        have N30 := Fr.app N26 N30q
        refine Goes.st (B := T30.setTop (mkF m 230 #[iv x0, iv x1, iv x2, iv x3, iv (j0_11_s0 x0 x1 x2 x3), iv (j0_24_s0 x0 x1 x2 x3), rv b5, rv b9, rv b13, rv b15, iv (1 : Int32), iv (4 : Int32), rv b22, iv (w0_214 x0 x1 x2 x3), .unset, .unset, .unset] [(.int (rI (0 : Int32) (j0_11_s0 x0 x1 x2 x3) (f0_54 x0 x1 x2 x3) (f0_94 x0 x1 x2 x3))), (.int (w0_219 x0 x1 x2 x3))])) st30 ?_
        have jn331_47 : ∀ (T48 : State) (L48 : List Loc) (X48 : Stand p l e room_1 s m #[(.int x0), (.int x1), (.int x2), (.int x3)] below meth c T48 L48 6 1073) (e48 : T48.heap = h22) (N48 : Fr n0 L48), Goes p e below s (QL (some (.int (r0 x0 x1 x2 x3))) n0) room_1.cells room_1.slots (T48.setTop (mkF m 331 #[iv x0, iv x1, iv x2, iv x3, iv (j0_11_s0 x0 x1 x2 x3), iv (j0_24_s0 x0 x1 x2 x3), rv b5, rv b9, rv b13, rv b15, iv (1 : Int32), iv (4 : Int32), rv b22, iv (w0_214 x0 x1 x2 x3), .unset, .unset, .unset] [(.int (j0_331_s0 x0 x1 x2 x3))])) := by
          intro T48 L48 X48 e48 N48
          refine Goes.run X48 hx hown hci hcl hby (L := [(331, .istore 10, 2), (333, .aload 12, 2), (335, .iconst 0, 1), (336, .aload 12, 2), (338, .iconst 0, 1)]) (by decide +kernel) rfl (g' := (mkF m 339 #[iv x0, iv x1, iv x2, iv x3, iv (j0_11_s0 x0 x1 x2 x3), iv (j0_24_s0 x0 x1 x2 x3), rv b5, rv b9, rv b13, rv b15, iv (j0_331_s0 x0 x1 x2 x3), iv (4 : Int32), rv b22, iv (w0_214 x0 x1 x2 x3), .unset, .unset, .unset] [(.int (0 : Int32)), (.ref b22), (.int (0 : Int32)), (.ref b22)])) rfl ?_
          obtain ⟨cl49, Ar49, q49, S49, M49, Hs49, G49⟩ := id V_b22
          have hin49 : ¬ ((0 : Int32) < 0 ∨ cl49.slots.size ≤ ((0 : Int32)).toNatClampNeg) := inb_of S49 ⟨(by decide), (by decide)⟩
          have hat49 : cl49.slots[((0 : Int32)).toNatClampNeg]? = some (.int (w0_219 x0 x1 x2 x3)) := Hs49.at hin49 ((own_fget ((4 : Int32)).toNatClampNeg (f5_256_28 (4 : Int32) (fC_18 (fB_30 (j0_11_s0 x0 x1 x2 x3) own_z) (f0_54 x0 x1 x2 x3))) 0 _).trans (if_pos (by decide)))
          refine Goes.st (B := T48.setTop (mkF m 340 #[iv x0, iv x1, iv x2, iv x3, iv (j0_11_s0 x0 x1 x2 x3), iv (j0_24_s0 x0 x1 x2 x3), rv b5, rv b9, rv b13, rv b15, iv (j0_331_s0 x0 x1 x2 x3), iv (4 : Int32), rv b22, iv (w0_214 x0 x1 x2 x3), .unset, .unset, .unset] [(.int (w0_219 x0 x1 x2 x3)), (.int (0 : Int32)), (.ref b22)])) (X48.baloadBytes hx (j := (0 : Int32)) (v := (.int (w0_219 x0 x1 x2 x3))) (by rw [e48]; exact Ar49.1) (State.isArrayOf_alike hZ.alike Ar49.2.1) Ar49.2.2 hin49 hat49 (g := (mkF m 339 #[iv x0, iv x1, iv x2, iv x3, iv (j0_11_s0 x0 x1 x2 x3), iv (j0_24_s0 x0 x1 x2 x3), rv b5, rv b9, rv b13, rv b15, iv (j0_331_s0 x0 x1 x2 x3), iv (4 : Int32), rv b22, iv (w0_214 x0 x1 x2 x3), .unset, .unset, .unset] [(.int (0 : Int32)), (.ref b22), (.int (0 : Int32)), (.ref b22)])) rfl rfl (hb hby at_339)) ?_
          refine Goes.run X48 hx hown hci hcl hby (L := [(340, .bipush 90, 2), (342, .ixor, 1), (343, .i2b, 1)]) (by decide +kernel) rfl (g' := (mkF m 344 #[iv x0, iv x1, iv x2, iv x3, iv (j0_11_s0 x0 x1 x2 x3), iv (j0_24_s0 x0 x1 x2 x3), rv b5, rv b9, rv b13, rv b15, iv (j0_331_s0 x0 x1 x2 x3), iv (4 : Int32), rv b22, iv (w0_214 x0 x1 x2 x3), .unset, .unset, .unset] [(.int (((w0_219 x0 x1 x2 x3) ^^^ (90 : Int32)).toInt8.toInt32)), (.int (0 : Int32)), (.ref b22)])) rfl ?_
          obtain ⟨cl50, Ar50, q50, S50, M50, Hs50, G50⟩ := id V_b22
          have hin50 : ¬ ((0 : Int32) < 0 ∨ cl50.slots.size ≤ ((0 : Int32)).toNatClampNeg) := inb_of S50 ⟨(by decide), (by decide)⟩
          obtain ⟨T50, h50, X50, e50, W50, st50⟩ := stB X48 hx hZ e48 Ar50 (j := (0 : Int32)) hin50 (g := (mkF m 344 #[iv x0, iv x1, iv x2, iv x3, iv (j0_11_s0 x0 x1 x2 x3), iv (j0_24_s0 x0 x1 x2 x3), rv b5, rv b9, rv b13, rv b15, iv (j0_331_s0 x0 x1 x2 x3), iv (4 : Int32), rv b22, iv (w0_214 x0 x1 x2 x3), .unset, .unset, .unset] [(.int (((w0_219 x0 x1 x2 x3) ^^^ (90 : Int32)).toInt8.toInt32)), (.int (0 : Int32)), (.ref b22)])) rfl rfl (hb hby at_344)
          have E_b5 := E_b5.wr W50
          have V_b5 := V_b5.other W50 ne_b5_b22
          have E_b9 := E_b9.wr W50
          have V_b9 := V_b9.other W50 ne_b9_b22
          have E_b13 := E_b13.wr W50
          have F_buffer_b13 := F_buffer_b13.other W50 (Or.inl ne_b13_b22)
          have F_size_b13 := F_size_b13.other W50 (Or.inl ne_b13_b22)
          have V_nb14 := V_nb14.other W50 ne_nb14_b22
          have E_b15 := E_b15.wr W50
          have V_b15 := V_b15.other W50 ne_b15_b22
          have E_b22 := E_b22.wr W50
          have Zn50 : n0 ≤ h50.size := Nat.le_trans Zn22 (Keep.of_wr W50).1
          have N50 := Fr.snoc X50 N48 g_b22
          have V_b22 : Arv Z h50 b22 kc22 .byte (4 : Int32) (own_fv ((4 : Int32)).toNatClampNeg (f0_344 x0 x1 x2 x3)) (.int (0 : Int32)) := (Arv.set Ar50 q50 S50 M50 Hs50 G50 (fits_nar_byte _) W50 0 rfl (by rw [own_flen]; exact (by decide))).pad (own_fset ((4 : Int32)).toNatClampNeg (f5_256_28 (4 : Int32) (fC_18 (fB_30 (j0_11_s0 x0 x1 x2 x3) own_z) (f0_54 x0 x1 x2 x3))) 0 (w0_344 x0 x1 x2 x3) (by decide))
          refine Goes.st (B := T50.setTop (mkF m 345 #[iv x0, iv x1, iv x2, iv x3, iv (j0_11_s0 x0 x1 x2 x3), iv (j0_24_s0 x0 x1 x2 x3), rv b5, rv b9, rv b13, rv b15, iv (j0_331_s0 x0 x1 x2 x3), iv (4 : Int32), rv b22, iv (w0_214 x0 x1 x2 x3), .unset, .unset, .unset] [])) st50 ?_
          refine Goes.run X50 hx hown hci hcl hby (L := [(345, .aload 12, 2), (347, .iload 11, 2), (349, .iconst 1, 1), (350, .isub, 1), (351, .aload 12, 2), (353, .iload 11, 2)]) (by decide +kernel) rfl (g' := (mkF m 355 #[iv x0, iv x1, iv x2, iv x3, iv (j0_11_s0 x0 x1 x2 x3), iv (j0_24_s0 x0 x1 x2 x3), rv b5, rv b9, rv b13, rv b15, iv (j0_331_s0 x0 x1 x2 x3), iv (4 : Int32), rv b22, iv (w0_214 x0 x1 x2 x3), .unset, .unset, .unset] [(.int (4 : Int32)), (.ref b22), (.int (3 : Int32)), (.ref b22)])) rfl ?_
          refine Goes.run X50 hx hown hci hcl hby (L := [(355, .iconst 1, 1), (356, .isub, 1)]) (by decide +kernel) rfl (g' := (mkF m 357 #[iv x0, iv x1, iv x2, iv x3, iv (j0_11_s0 x0 x1 x2 x3), iv (j0_24_s0 x0 x1 x2 x3), rv b5, rv b9, rv b13, rv b15, iv (j0_331_s0 x0 x1 x2 x3), iv (4 : Int32), rv b22, iv (w0_214 x0 x1 x2 x3), .unset, .unset, .unset] [(.int (3 : Int32)), (.ref b22), (.int (3 : Int32)), (.ref b22)])) rfl ?_
          obtain ⟨cl51, Ar51, q51, S51, M51, Hs51, G51⟩ := id V_b22
          have hin51 : ¬ ((3 : Int32) < 0 ∨ cl51.slots.size ≤ ((3 : Int32)).toNatClampNeg) := inb_of S51 ⟨(by decide), (by decide)⟩
          have hat51 : cl51.slots[((3 : Int32)).toNatClampNeg]? = some (.int (w0_357 x0 x1 x2 x3)) := Hs51.at hin51 ((own_fget ((4 : Int32)).toNatClampNeg (f0_344 x0 x1 x2 x3) 3 _).trans (if_pos (by decide)))
          refine Goes.st (B := T50.setTop (mkF m 358 #[iv x0, iv x1, iv x2, iv x3, iv (j0_11_s0 x0 x1 x2 x3), iv (j0_24_s0 x0 x1 x2 x3), rv b5, rv b9, rv b13, rv b15, iv (j0_331_s0 x0 x1 x2 x3), iv (4 : Int32), rv b22, iv (w0_214 x0 x1 x2 x3), .unset, .unset, .unset] [(.int (w0_357 x0 x1 x2 x3)), (.int (3 : Int32)), (.ref b22)])) (X50.baloadBytes hx (j := (3 : Int32)) (v := (.int (w0_357 x0 x1 x2 x3))) (by rw [e50]; exact Ar51.1) (State.isArrayOf_alike hZ.alike Ar51.2.1) Ar51.2.2 hin51 hat51 (g := (mkF m 357 #[iv x0, iv x1, iv x2, iv x3, iv (j0_11_s0 x0 x1 x2 x3), iv (j0_24_s0 x0 x1 x2 x3), rv b5, rv b9, rv b13, rv b15, iv (j0_331_s0 x0 x1 x2 x3), iv (4 : Int32), rv b22, iv (w0_214 x0 x1 x2 x3), .unset, .unset, .unset] [(.int (3 : Int32)), (.ref b22), (.int (3 : Int32)), (.ref b22)])) rfl rfl (hb hby at_357)) ?_
          refine Goes.run X50 hx hown hci hcl hby (L := [(358, .bipush 51, 2), (360, .ixor, 1), (361, .i2b, 1)]) (by decide +kernel) rfl (g' := (mkF m 362 #[iv x0, iv x1, iv x2, iv x3, iv (j0_11_s0 x0 x1 x2 x3), iv (j0_24_s0 x0 x1 x2 x3), rv b5, rv b9, rv b13, rv b15, iv (j0_331_s0 x0 x1 x2 x3), iv (4 : Int32), rv b22, iv (w0_214 x0 x1 x2 x3), .unset, .unset, .unset] [(.int (((w0_357 x0 x1 x2 x3) ^^^ (51 : Int32)).toInt8.toInt32)), (.int (3 : Int32)), (.ref b22)])) rfl ?_
          obtain ⟨cl52, Ar52, q52, S52, M52, Hs52, G52⟩ := id V_b22
          have hin52 : ¬ ((3 : Int32) < 0 ∨ cl52.slots.size ≤ ((3 : Int32)).toNatClampNeg) := inb_of S52 ⟨(by decide), (by decide)⟩
          obtain ⟨T52, h52, X52, e52, W52, st52⟩ := stB X50 hx hZ e50 Ar52 (j := (3 : Int32)) hin52 (g := (mkF m 362 #[iv x0, iv x1, iv x2, iv x3, iv (j0_11_s0 x0 x1 x2 x3), iv (j0_24_s0 x0 x1 x2 x3), rv b5, rv b9, rv b13, rv b15, iv (j0_331_s0 x0 x1 x2 x3), iv (4 : Int32), rv b22, iv (w0_214 x0 x1 x2 x3), .unset, .unset, .unset] [(.int (((w0_357 x0 x1 x2 x3) ^^^ (51 : Int32)).toInt8.toInt32)), (.int (3 : Int32)), (.ref b22)])) rfl rfl (hb hby at_362)
          have E_b5 := E_b5.wr W52
          have V_b5 := V_b5.other W52 ne_b5_b22
          have E_b9 := E_b9.wr W52
          have V_b9 := V_b9.other W52 ne_b9_b22
          have E_b13 := E_b13.wr W52
          have F_buffer_b13 := F_buffer_b13.other W52 (Or.inl ne_b13_b22)
          have F_size_b13 := F_size_b13.other W52 (Or.inl ne_b13_b22)
          have V_nb14 := V_nb14.other W52 ne_nb14_b22
          have E_b15 := E_b15.wr W52
          have V_b15 := V_b15.other W52 ne_b15_b22
          have E_b22 := E_b22.wr W52
          have Zn52 : n0 ≤ h52.size := Nat.le_trans Zn50 (Keep.of_wr W52).1
          have N52 := Fr.snoc X52 N50 g_b22
          have V_b22 : Arv Z h52 b22 kc22 .byte (4 : Int32) (own_fv ((4 : Int32)).toNatClampNeg (f0_362 x0 x1 x2 x3)) (.int (0 : Int32)) := (Arv.set Ar52 q52 S52 M52 Hs52 G52 (fits_nar_byte _) W52 3 rfl (by rw [own_flen]; exact (by decide))).pad (own_fset ((4 : Int32)).toNatClampNeg (f0_344 x0 x1 x2 x3) 3 (w0_362 x0 x1 x2 x3) (by decide))
          refine Goes.st (B := T52.setTop (mkF m 363 #[iv x0, iv x1, iv x2, iv x3, iv (j0_11_s0 x0 x1 x2 x3), iv (j0_24_s0 x0 x1 x2 x3), rv b5, rv b9, rv b13, rv b15, iv (j0_331_s0 x0 x1 x2 x3), iv (4 : Int32), rv b22, iv (w0_214 x0 x1 x2 x3), .unset, .unset, .unset] [])) st52 ?_
          refine Goes.run X52 hx hown hci hcl hby (L := [(363, .aload 8, 2)]) (by decide +kernel) rfl (g' := (mkF m 365 #[iv x0, iv x1, iv x2, iv x3, iv (j0_11_s0 x0 x1 x2 x3), iv (j0_24_s0 x0 x1 x2 x3), rv b5, rv b9, rv b13, rv b15, iv (j0_331_s0 x0 x1 x2 x3), iv (4 : Int32), rv b22, iv (w0_214 x0 x1 x2 x3), .unset, .unset, .unset] [(.ref b13)])) rfl ?_
          obtain ⟨cq53, kq53, q53a, q53b, q53c⟩ := isOf hZ e52 E_b13
          obtain ⟨_, _, ⟨T53, L53, k53, n53⟩, -, X53, ⟨Lc53, hQ53, l53, y53, z53⟩, st53⟩ := X52.virtualBack hx (y := ym6) (z := ym6) hown (mvT hZ w_13) (mvT hZ w_14) (notFace_of_selects (args := #[]) (mvT hZ w_16)) (mvT hZ w_16) (mvT hZ w_15) (by decide) (backOf (W := 0) (rm8_256 l Z a0 hw [] b13 nb14 k_nb14 (fC_18 (fB_30 (j0_11_s0 x0 x1 x2 x3) own_z) (f0_54 x0 x1 x2 x3)) (4 : Int32) h52 n0 Zn52 F_buffer_b13 F_size_b13 V_nb14 (by decide) (by decide)) hZ w_17 w_4 (by decide) (by decide)) q53a q53c (g := (mkF m 365 #[iv x0, iv x1, iv x2, iv x3, iv (j0_11_s0 x0 x1 x2 x3), iv (j0_24_s0 x0 x1 x2 x3), rv b5, rv b9, rv b13, rv b15, iv (j0_331_s0 x0 x1 x2 x3), iv (4 : Int32), rv b22, iv (w0_214 x0 x1 x2 x3), .unset, .unset, .unset] [(.ref b13)])) rfl (by rw [hml]; rfl) (Steps.refl _) (argsL := []) (rest := []) (lenOf pd0_1 rfl) rfl (by show 2 * 0 + _ ≤ _; exact Nat.le_of_eq rfl) (hb hby at_365) (fun _ _ => ⟨rfl, e52, (by decide : 6 + 1 ≤ _), (by decide : 1073 + 256 ≤ _)⟩)
          dsimp only [Pt.U, Pt.locs, Pt.cells, Pt.slots] at X53 l53 y53 z53 st53 hQ53
          subst l53 y53 z53
          obtain ⟨h53, eh53⟩ : ∃ z, z = T53.heap := ⟨_, rfl⟩
          rw [← eh53] at hQ53
          have e53 : T53.heap = h53 := eh53.symm
          obtain ⟨b53, kc53, rfl, N53q, Kq53, szq53, o53_0, o53_1⟩ := hQ53
          have ne_b13_b53 : b13 ≠ b53 := Nat.ne_of_lt (Nat.lt_of_lt_of_le E_b13.lt szq53)
          have ne_b15_b53 : b15 ≠ b53 := Nat.ne_of_lt (Nat.lt_of_lt_of_le E_b15.lt szq53)
          have ne_b22_b53 : b22 ≠ b53 := Nat.ne_of_lt (Nat.lt_of_lt_of_le E_b22.lt szq53)
          have ne_b5_b53 : b5 ≠ b53 := Nat.ne_of_lt (Nat.lt_of_lt_of_le E_b5.lt szq53)
          have ne_b9_b53 : b9 ≠ b53 := Nat.ne_of_lt (Nat.lt_of_lt_of_le E_b9.lt szq53)
          have ne_nb14_b53 : nb14 ≠ b53 := Nat.ne_of_lt (Nat.lt_of_lt_of_le V_nb14.lt szq53)
          have g_b53 : n0 ≤ b53 := Nat.le_trans Zn52 szq53
          have N53 := Fr.app N52 N53q
          have E_b5 := E_b5.keep Kq53
          have V_b5 := V_b5.keep Kq53 nin0
          have E_b9 := E_b9.keep Kq53
          have V_b9 := V_b9.keep Kq53 nin0
          have E_b13 := E_b13.keep Kq53
          have F_buffer_b13 := F_buffer_b13.keep Kq53 nin0
          have F_size_b13 := F_size_b13.keep Kq53 nin0
          have V_nb14 := V_nb14.keep Kq53 nin0
          have E_b15 := E_b15.keep Kq53
          have V_b15 := V_b15.keep Kq53 nin0
          have E_b22 := E_b22.keep Kq53
          have V_b22 := V_b22.keep Kq53 nin0
          have E_b53 : Exa Z h53 b53 "[B" := o53_0
          have V_b53 : Arv Z h53 b53 kc53 .byte (4 : Int32) (own_fv ((4 : Int32)).toNatClampNeg (f5_256_28 (4 : Int32) (fC_18 (fB_30 (j0_11_s0 x0 x1 x2 x3) own_z) (f0_54 x0 x1 x2 x3)))) (.int (0 : Int32)) := o53_1
          have Zn53 : n0 ≤ h53.size := Nat.le_trans Zn52 Kq53.1
          refine Goes.st (B := T53.setTop (mkF m 368 #[iv x0, iv x1, iv x2, iv x3, iv (j0_11_s0 x0 x1 x2 x3), iv (j0_24_s0 x0 x1 x2 x3), rv b5, rv b9, rv b13, rv b15, iv (j0_331_s0 x0 x1 x2 x3), iv (4 : Int32), rv b22, iv (w0_214 x0 x1 x2 x3), .unset, .unset, .unset] [(.ref b53)])) (fun t k => st53.trans k) ?_
          refine Goes.run X53 hx hown hci hcl hby (L := [(368, .astore 14, 2), (370, .iload 10, 2)]) (by decide +kernel) rfl (g' := (mkF m 372 #[iv x0, iv x1, iv x2, iv x3, iv (j0_11_s0 x0 x1 x2 x3), iv (j0_24_s0 x0 x1 x2 x3), rv b5, rv b9, rv b13, rv b15, iv (j0_331_s0 x0 x1 x2 x3), iv (4 : Int32), rv b22, iv (w0_214 x0 x1 x2 x3), rv b53, .unset, .unset] [(.int (j0_331_s0 x0 x1 x2 x3))])) rfl ?_
          have jn435_64 : ∀ (T65 : State) (L65 : List Loc) (X65 : Stand p l e room_1 s m #[(.int x0), (.int x1), (.int x2), (.int x3)] below meth c T65 L65 7 1329) (e65 : T65.heap = h53) (N65 : Fr n0 L65), Goes p e below s (QL (some (.int (r0 x0 x1 x2 x3))) n0) room_1.cells room_1.slots (T65.setTop (mkF m 435 #[iv x0, iv x1, iv x2, iv x3, iv (j0_11_s0 x0 x1 x2 x3), iv (j0_24_s0 x0 x1 x2 x3), rv b5, rv b9, rv b13, rv b15, iv (j0_331_s0 x0 x1 x2 x3), iv (4 : Int32), rv b22, iv (w0_214 x0 x1 x2 x3), rv b53, .unset, .unset] [(.int (j0_435_s0 x0 x1 x2 x3))])) := by
            intro T65 L65 X65 e65 N65
            refine Goes.run X65 hx hown hci hcl hby (L := [(435, .istore 10, 2), (437, .iload_n 2, 1), (438, .ldc 7, 2), (440, .iand, 1), (441, .iload 11, 2), (443, .iconst 1, 1)]) (by decide +kernel) rfl (g' := (mkF m 444 #[iv x0, iv x1, iv x2, iv x3, iv (j0_11_s0 x0 x1 x2 x3), iv (j0_24_s0 x0 x1 x2 x3), rv b5, rv b9, rv b13, rv b15, iv (j0_435_s0 x0 x1 x2 x3), iv (4 : Int32), rv b22, iv (w0_214 x0 x1 x2 x3), rv b53, .unset, .unset] [(.int (1 : Int32)), (.int (4 : Int32)), (.int (x2 &&& (2147483647 : Int32)))])) rfl ?_
            refine Goes.run X65 hx hown hci hcl hby (L := [(444, .iadd, 1), (445, .irem, 1), (446, .istore 15, 2), (448, .aload 8, 2), (450, .iload 15, 2)]) (by decide +kernel) rfl (g' := (mkF m 452 #[iv x0, iv x1, iv x2, iv x3, iv (j0_11_s0 x0 x1 x2 x3), iv (j0_24_s0 x0 x1 x2 x3), rv b5, rv b9, rv b13, rv b15, iv (j0_435_s0 x0 x1 x2 x3), iv (4 : Int32), rv b22, iv (w0_214 x0 x1 x2 x3), rv b53, iv (w0_446 x0 x1 x2 x3), .unset] [(.int (w0_446 x0 x1 x2 x3)), (.ref b13)])) rfl ?_
            obtain ⟨cq66, kq66, q66a, q66b, q66c⟩ := isOf hZ e65 E_b13
            obtain ⟨_, _, ⟨T66, L66, k66, n66⟩, -, X66, ⟨Lc66, hQ66, l66, y66, z66⟩, st66⟩ := X65.virtualBack hx (y := ym12) (z := ym12) hown (mvT hZ w_70) (mvT hZ w_71) (notFace_of_selects (args := #[]) (mvT hZ w_73)) (mvT hZ w_73) (mvT hZ w_72) (by decide) (backOf (W := 0) (rmG l Z a0 hw [] b13 (w0_446 x0 x1 x2 x3) nb14 (4 : Int32) h53 n0 Zn53 E_b13 F_buffer_b13 F_size_b13 g_b13 (own_kb4 x0 x1 x2 x3).1 (own_kb4 x0 x1 x2 x3).2.2) hZ w_74 w_4 (by decide) (by decide)) q66a q66c (g := (mkF m 452 #[iv x0, iv x1, iv x2, iv x3, iv (j0_11_s0 x0 x1 x2 x3), iv (j0_24_s0 x0 x1 x2 x3), rv b5, rv b9, rv b13, rv b15, iv (j0_435_s0 x0 x1 x2 x3), iv (4 : Int32), rv b22, iv (w0_214 x0 x1 x2 x3), rv b53, iv (w0_446 x0 x1 x2 x3), .unset] [(.int (w0_446 x0 x1 x2 x3)), (.ref b13)])) rfl (by rw [hml]; rfl) (Steps.refl _) (argsL := [(.int (w0_446 x0 x1 x2 x3))]) (rest := []) (lenOf pd0_6 rfl) rfl (by show 2 * 0 + _ ≤ _; exact Nat.le_of_eq rfl) (hb hby at_452) (fun _ _ => ⟨rfl, e65, (by decide : 7 + 0 ≤ _), (by decide : 1329 + 0 ≤ _)⟩)
            dsimp only [Pt.U, Pt.locs, Pt.cells, Pt.slots] at X66 l66 y66 z66 st66 hQ66
            subst l66 y66 z66
            obtain ⟨h66, eh66⟩ : ∃ z, z = T66.heap := ⟨_, rfl⟩
            rw [← eh66] at hQ66
            have e66 : T66.heap = h66 := eh66.symm
            obtain ⟨rfl, N66q, Kq66, o66_0, o66_1, o66_2⟩ := hQ66
            have N66 := Fr.app N65 N66q
            have E_b5 := E_b5.keep Kq66
            have V_b5 := V_b5.keep Kq66 (ninS ne_b5_b13 nin0)
            have E_b9 := E_b9.keep Kq66
            have V_b9 := V_b9.keep Kq66 (ninS ne_b9_b13 nin0)
            have V_nb14 := V_nb14.keep Kq66 (ninS (Ne.symm ne_b13_nb14) nin0)
            have E_b15 := E_b15.keep Kq66
            have V_b15 := V_b15.keep Kq66 (ninS (Ne.symm ne_b13_b15) nin0)
            have E_b22 := E_b22.keep Kq66
            have V_b22 := V_b22.keep Kq66 (ninS (Ne.symm ne_b13_b22) nin0)
            have E_b53 := E_b53.keep Kq66
            have V_b53 := V_b53.keep Kq66 (ninS (Ne.symm ne_b13_b53) nin0)
            have E_b13 : Exa Z h66 b13 "com/example/upcaster/upcaster/io/BinaryEncoder" := o66_0
            have F_buffer_b13 : Fld Z h66 b13 "com/example/upcaster/upcaster/io/BinaryEncoder" "buffer" "[B" (.ref nb14) := o66_1
            have F_size_b13 : Fld Z h66 b13 "com/example/upcaster/upcaster/io/BinaryEncoder" "size" "I" (.int (w0_446 x0 x1 x2 x3)) := o66_2
            have Zn66 : n0 ≤ h66.size := Nat.le_trans Zn53 Kq66.1
            refine Goes.st (B := T66.setTop (mkF m 455 #[iv x0, iv x1, iv x2, iv x3, iv (j0_11_s0 x0 x1 x2 x3), iv (j0_24_s0 x0 x1 x2 x3), rv b5, rv b9, rv b13, rv b15, iv (j0_435_s0 x0 x1 x2 x3), iv (4 : Int32), rv b22, iv (w0_214 x0 x1 x2 x3), rv b53, iv (w0_446 x0 x1 x2 x3), .unset] [])) (fun t k => st66.trans k) ?_
            refine Goes.run X66 hx hown hci hcl hby (L := [(455, .aload 8, 2)]) (by decide +kernel) rfl (g' := (mkF m 457 #[iv x0, iv x1, iv x2, iv x3, iv (j0_11_s0 x0 x1 x2 x3), iv (j0_24_s0 x0 x1 x2 x3), rv b5, rv b9, rv b13, rv b15, iv (j0_435_s0 x0 x1 x2 x3), iv (4 : Int32), rv b22, iv (w0_214 x0 x1 x2 x3), rv b53, iv (w0_446 x0 x1 x2 x3), .unset] [(.ref b13)])) rfl ?_
            obtain ⟨cq67, kq67, q67a, q67b, q67c⟩ := isOf hZ e66 E_b13
            obtain ⟨_, _, ⟨T67, L67, k67, n67⟩, -, X67, ⟨Lc67, hQ67, l67, y67, z67⟩, st67⟩ := X66.virtualBack hx (y := ym6) (z := ym6) hown (mvT hZ w_13) (mvT hZ w_14) (notFace_of_selects (args := #[]) (mvT hZ w_16)) (mvT hZ w_16) (mvT hZ w_15) (by decide) (backOf (W := 0) (rm8_256 l Z a0 hw [] b13 nb14 k_nb14 (fC_18 (fB_30 (j0_11_s0 x0 x1 x2 x3) own_z) (f0_54 x0 x1 x2 x3)) (w0_446 x0 x1 x2 x3) h66 n0 Zn66 F_buffer_b13 F_size_b13 V_nb14 (own_kb4 x0 x1 x2 x3).1 (own_kb4 x0 x1 x2 x3).2.1) hZ w_17 w_4 (by decide) (by decide)) q67a q67c (g := (mkF m 457 #[iv x0, iv x1, iv x2, iv x3, iv (j0_11_s0 x0 x1 x2 x3), iv (j0_24_s0 x0 x1 x2 x3), rv b5, rv b9, rv b13, rv b15, iv (j0_435_s0 x0 x1 x2 x3), iv (4 : Int32), rv b22, iv (w0_214 x0 x1 x2 x3), rv b53, iv (w0_446 x0 x1 x2 x3), .unset] [(.ref b13)])) rfl (by rw [hml]; rfl) (Steps.refl _) (argsL := []) (rest := []) (lenOf pd0_1 rfl) rfl (by show 2 * 0 + _ ≤ _; exact Nat.le_of_eq rfl) (hb hby at_457) (fun _ _ => ⟨rfl, e66, (by decide : 7 + 1 ≤ _), (by decide : 1329 + 256 ≤ _)⟩)
            dsimp only [Pt.U, Pt.locs, Pt.cells, Pt.slots] at X67 l67 y67 z67 st67 hQ67
            subst l67 y67 z67
            obtain ⟨h67, eh67⟩ : ∃ z, z = T67.heap := ⟨_, rfl⟩
            rw [← eh67] at hQ67
            have e67 : T67.heap = h67 := eh67.symm
            obtain ⟨b67, kc67, rfl, N67q, Kq67, szq67, o67_0, o67_1⟩ := hQ67
            have ne_b13_b67 : b13 ≠ b67 := Nat.ne_of_lt (Nat.lt_of_lt_of_le E_b13.lt szq67)
            have ne_b15_b67 : b15 ≠ b67 := Nat.ne_of_lt (Nat.lt_of_lt_of_le E_b15.lt szq67)
            have ne_b22_b67 : b22 ≠ b67 := Nat.ne_of_lt (Nat.lt_of_lt_of_le E_b22.lt szq67)
            have ne_b5_b67 : b5 ≠ b67 := Nat.ne_of_lt (Nat.lt_of_lt_of_le E_b5.lt szq67)
            have ne_b53_b67 : b53 ≠ b67 := Nat.ne_of_lt (Nat.lt_of_lt_of_le E_b53.lt szq67)
            have ne_b9_b67 : b9 ≠ b67 := Nat.ne_of_lt (Nat.lt_of_lt_of_le E_b9.lt szq67)
            have ne_nb14_b67 : nb14 ≠ b67 := Nat.ne_of_lt (Nat.lt_of_lt_of_le V_nb14.lt szq67)
            have g_b67 : n0 ≤ b67 := Nat.le_trans Zn66 szq67
            have N67 := Fr.app N66 N67q
            have E_b5 := E_b5.keep Kq67
            have V_b5 := V_b5.keep Kq67 nin0
            have E_b9 := E_b9.keep Kq67
            have V_b9 := V_b9.keep Kq67 nin0
            have E_b13 := E_b13.keep Kq67
            have F_buffer_b13 := F_buffer_b13.keep Kq67 nin0
            have F_size_b13 := F_size_b13.keep Kq67 nin0
            have V_nb14 := V_nb14.keep Kq67 nin0
            have E_b15 := E_b15.keep Kq67
            have V_b15 := V_b15.keep Kq67 nin0
            have E_b22 := E_b22.keep Kq67
            have V_b22 := V_b22.keep Kq67 nin0
            have E_b53 := E_b53.keep Kq67
            have V_b53 := V_b53.keep Kq67 nin0
            have E_b67 : Exa Z h67 b67 "[B" := o67_0
            have V_b67 : Arv Z h67 b67 kc67 .byte (w0_446 x0 x1 x2 x3) (own_fv ((w0_446 x0 x1 x2 x3)).toNatClampNeg (f5_256_28 (w0_446 x0 x1 x2 x3) (fC_18 (fB_30 (j0_11_s0 x0 x1 x2 x3) own_z) (f0_54 x0 x1 x2 x3)))) (.int (0 : Int32)) := o67_1
            have Zn67 : n0 ≤ h67.size := Nat.le_trans Zn66 Kq67.1
            refine Goes.st (B := T67.setTop (mkF m 460 #[iv x0, iv x1, iv x2, iv x3, iv (j0_11_s0 x0 x1 x2 x3), iv (j0_24_s0 x0 x1 x2 x3), rv b5, rv b9, rv b13, rv b15, iv (j0_435_s0 x0 x1 x2 x3), iv (4 : Int32), rv b22, iv (w0_214 x0 x1 x2 x3), rv b53, iv (w0_446 x0 x1 x2 x3), .unset] [(.ref b67)])) (fun t k => st67.trans k) ?_
            refine Goes.run X67 hx hown hci hcl hby (L := [(460, .astore 16, 2), (462, .iload 10, 2)]) (by decide +kernel) rfl (g' := (mkF m 464 #[iv x0, iv x1, iv x2, iv x3, iv (j0_11_s0 x0 x1 x2 x3), iv (j0_24_s0 x0 x1 x2 x3), rv b5, rv b9, rv b13, rv b15, iv (j0_435_s0 x0 x1 x2 x3), iv (4 : Int32), rv b22, iv (w0_214 x0 x1 x2 x3), rv b53, iv (w0_446 x0 x1 x2 x3), rv b67] [(.int (j0_435_s0 x0 x1 x2 x3))])) rfl ?_
            have jn480_71 : Goes p e below s (QL (some (.int (r0 x0 x1 x2 x3))) n0) room_1.cells room_1.slots (T67.setTop (mkF m 480 #[iv x0, iv x1, iv x2, iv x3, iv (j0_11_s0 x0 x1 x2 x3), iv (j0_24_s0 x0 x1 x2 x3), rv b5, rv b9, rv b13, rv b15, iv (j0_435_s0 x0 x1 x2 x3), iv (4 : Int32), rv b22, iv (w0_214 x0 x1 x2 x3), rv b53, iv (w0_446 x0 x1 x2 x3), rv b67] [(.int (j0_480_s0 x0 x1 x2 x3))])) := by
              refine Goes.run X67 hx hown hci hcl hby (L := [(480, .istore 10, 2), (482, .iload 15, 2)]) (by decide +kernel) rfl (g' := (mkF m 484 #[iv x0, iv x1, iv x2, iv x3, iv (j0_11_s0 x0 x1 x2 x3), iv (j0_24_s0 x0 x1 x2 x3), rv b5, rv b9, rv b13, rv b15, iv (j0_480_s0 x0 x1 x2 x3), iv (4 : Int32), rv b22, iv (w0_214 x0 x1 x2 x3), rv b53, iv (w0_446 x0 x1 x2 x3), rv b67] [(.int (w0_446 x0 x1 x2 x3))])) rfl ?_
              have jn539_88 : ∀ (T89 : State) (L89 : List Loc) (X89 : Stand p l e room_1 s m #[(.int x0), (.int x1), (.int x2), (.int x3)] below meth c T89 L89 8 1585) (e89 : T89.heap = h67) (N89 : Fr n0 L89), Goes p e below s (QL (some (.int (r0 x0 x1 x2 x3))) n0) room_1.cells room_1.slots (T89.setTop (mkF m 539 #[iv x0, iv x1, iv x2, iv x3, iv (j0_11_s0 x0 x1 x2 x3), iv (j0_24_s0 x0 x1 x2 x3), rv b5, rv b9, rv b13, rv b15, iv (j0_539_10 x0 x1 x2 x3), iv (4 : Int32), rv b22, iv (w0_214 x0 x1 x2 x3), rv b53, iv (w0_446 x0 x1 x2 x3), rv b67] [])) := by
                intro T89 L89 X89 e89 N89
                refine Goes.run X89 hx hown hci hcl hby (L := [(539, .iload 10, 2)]) (by decide +kernel) rfl (g' := (mkF m 541 #[iv x0, iv x1, iv x2, iv x3, iv (j0_11_s0 x0 x1 x2 x3), iv (j0_24_s0 x0 x1 x2 x3), rv b5, rv b9, rv b13, rv b15, iv (j0_539_10 x0 x1 x2 x3), iv (4 : Int32), rv b22, iv (w0_214 x0 x1 x2 x3), rv b53, iv (w0_446 x0 x1 x2 x3), rv b67] [(.int (j0_539_10 x0 x1 x2 x3))])) rfl ?_
                exact Goes.retB X89 hx hlk (t := .boolean) Bd.returns (by simp) (hb hby at_541) (own_nr4 x0 x1 x2 x3) ⟨(congrArg (fun z => some (Value.int z)) (show (r0 x0 x1 x2 x3) = (j0_539_10 x0 x1 x2 x3) from (if_pos hc140_20)).symm), N89⟩ (by decide) (by decide)
              by_cases hc484_72 : (0 : Int32) < (w0_446 x0 x1 x2 x3)
              · skip
                refine Goes.st (B := T67.setTop (mkF m 487 #[iv x0, iv x1, iv x2, iv x3, iv (j0_11_s0 x0 x1 x2 x3), iv (j0_24_s0 x0 x1 x2 x3), rv b5, rv b9, rv b13, rv b15, iv (j0_480_s0 x0 x1 x2 x3), iv (4 : Int32), rv b22, iv (w0_214 x0 x1 x2 x3), rv b53, iv (w0_446 x0 x1 x2 x3), rv b67] [])) (fun t k => ?_) ?_
                · refine XS.ifNo X67.here hx rfl (hb hby at_484) rfl ((if0 _ _).trans (tlt hc484_72).2.2.2) ?_
                  exact k
                refine Goes.run X67 hx hown hci hcl hby (L := [(487, .iload 10, 2)]) (by decide +kernel) rfl (g' := (mkF m 489 #[iv x0, iv x1, iv x2, iv x3, iv (j0_11_s0 x0 x1 x2 x3), iv (j0_24_s0 x0 x1 x2 x3), rv b5, rv b9, rv b13, rv b15, iv (j0_480_s0 x0 x1 x2 x3), iv (4 : Int32), rv b22, iv (w0_214 x0 x1 x2 x3), rv b53, iv (w0_446 x0 x1 x2 x3), rv b67] [(.int (j0_480_s0 x0 x1 x2 x3))])) rfl ?_
                have jn537_97 : ∀ (T98 : State) (L98 : List Loc) (X98 : Stand p l e room_1 s m #[(.int x0), (.int x1), (.int x2), (.int x3)] below meth c T98 L98 8 1585) (e98 : T98.heap = h67) (N98 : Fr n0 L98), Goes p e below s (QL (some (.int (r0 x0 x1 x2 x3))) n0) room_1.cells room_1.slots (T98.setTop (mkF m 537 #[iv x0, iv x1, iv x2, iv x3, iv (j0_11_s0 x0 x1 x2 x3), iv (j0_24_s0 x0 x1 x2 x3), rv b5, rv b9, rv b13, rv b15, iv (j0_480_s0 x0 x1 x2 x3), iv (4 : Int32), rv b22, iv (w0_214 x0 x1 x2 x3), rv b53, iv (w0_446 x0 x1 x2 x3), rv b67] [(.int (j0_537_s0 x0 x1 x2 x3))])) := by
                  intro T98 L98 X98 e98 N98
                  refine Goes.run X98 hx hown hci hcl hby (L := [(537, .istore 10, 2)]) (by decide +kernel) rfl (g' := (mkF m 539 #[iv x0, iv x1, iv x2, iv x3, iv (j0_11_s0 x0 x1 x2 x3), iv (j0_24_s0 x0 x1 x2 x3), rv b5, rv b9, rv b13, rv b15, iv (j0_537_s0 x0 x1 x2 x3), iv (4 : Int32), rv b22, iv (w0_214 x0 x1 x2 x3), rv b53, iv (w0_446 x0 x1 x2 x3), rv b67] [])) rfl ?_
                  have q := jn539_88 _ _ X98 e98 N98
                  rw [show (j0_539_10 x0 x1 x2 x3) = (j0_537_s0 x0 x1 x2 x3) from (if_pos hc484_72)] at q
                  exact q
                by_cases hc489_90 : (j0_480_s0 x0 x1 x2 x3) = (0 : Int32)
                · skip
                  refine Goes.st (B := T67.setTop (mkF m 536 #[iv x0, iv x1, iv x2, iv x3, iv (j0_11_s0 x0 x1 x2 x3), iv (j0_24_s0 x0 x1 x2 x3), rv b5, rv b9, rv b13, rv b15, iv (j0_480_s0 x0 x1 x2 x3), iv (4 : Int32), rv b22, iv (w0_214 x0 x1 x2 x3), rv b53, iv (w0_446 x0 x1 x2 x3), rv b67] [])) (fun t k => ?_) ?_
                  · refine XS.ifYes X67.here hx rfl (pc0 := 489) (pc' := 536) rfl (hb hby at_489) rfl ((if0 _ _).trans (teq hc489_90).1) (by decide) (by decide) ?_
                    exact k
                  refine Goes.run X67 hx hown hci hcl hby (L := [(536, .iconst 0, 1)]) (by decide +kernel) rfl (g' := (mkF m 537 #[iv x0, iv x1, iv x2, iv x3, iv (j0_11_s0 x0 x1 x2 x3), iv (j0_24_s0 x0 x1 x2 x3), rv b5, rv b9, rv b13, rv b15, iv (j0_480_s0 x0 x1 x2 x3), iv (4 : Int32), rv b22, iv (w0_214 x0 x1 x2 x3), rv b53, iv (w0_446 x0 x1 x2 x3), rv b67] [(.int (0 : Int32))])) rfl ?_
                  have q := jn537_97 _ _ X67 e67 N67
                  rw [show (j0_537_s0 x0 x1 x2 x3) = (0 : Int32) from (if_pos hc489_90)] at q
                  exact q
                · skip
                  refine Goes.st (B := T67.setTop (mkF m 492 #[iv x0, iv x1, iv x2, iv x3, iv (j0_11_s0 x0 x1 x2 x3), iv (j0_24_s0 x0 x1 x2 x3), rv b5, rv b9, rv b13, rv b15, iv (j0_480_s0 x0 x1 x2 x3), iv (4 : Int32), rv b22, iv (w0_214 x0 x1 x2 x3), rv b53, iv (w0_446 x0 x1 x2 x3), rv b67] [])) (fun t k => ?_) ?_
                  · refine XS.ifNo X67.here hx rfl (hb hby at_489) rfl ((if0 _ _).trans (feq hc489_90).1) ?_
                    exact k
                  refine Goes.run X67 hx hown hci hcl hby (L := [(492, .aload 16, 2), (494, .iconst 0, 1)]) (by decide +kernel) rfl (g' := (mkF m 495 #[iv x0, iv x1, iv x2, iv x3, iv (j0_11_s0 x0 x1 x2 x3), iv (j0_24_s0 x0 x1 x2 x3), rv b5, rv b9, rv b13, rv b15, iv (j0_480_s0 x0 x1 x2 x3), iv (4 : Int32), rv b22, iv (w0_214 x0 x1 x2 x3), rv b53, iv (w0_446 x0 x1 x2 x3), rv b67] [(.int (0 : Int32)), (.ref b67)])) rfl ?_
                  obtain ⟨cl99, Ar99, q99, S99, M99, Hs99, G99⟩ := id V_b67
                  have hin99 : ¬ ((0 : Int32) < 0 ∨ cl99.slots.size ≤ ((0 : Int32)).toNatClampNeg) := inb_of S99 ⟨(own_k0 (own_kb4 x0 x1 x2 x3).1 hc484_72).1, (own_k0 (own_kb4 x0 x1 x2 x3).1 hc484_72).2.1⟩
                  have hat99 : cl99.slots[((0 : Int32)).toNatClampNeg]? = some (.int (w0_495 x0 x1 x2 x3)) := Hs99.at hin99 ((own_fget ((w0_446 x0 x1 x2 x3)).toNatClampNeg (f5_256_28 (w0_446 x0 x1 x2 x3) (fC_18 (fB_30 (j0_11_s0 x0 x1 x2 x3) own_z) (f0_54 x0 x1 x2 x3))) 0 _).trans (if_pos (own_k0 (own_kb4 x0 x1 x2 x3).1 hc484_72).2.2))
                  refine Goes.st (B := T67.setTop (mkF m 496 #[iv x0, iv x1, iv x2, iv x3, iv (j0_11_s0 x0 x1 x2 x3), iv (j0_24_s0 x0 x1 x2 x3), rv b5, rv b9, rv b13, rv b15, iv (j0_480_s0 x0 x1 x2 x3), iv (4 : Int32), rv b22, iv (w0_214 x0 x1 x2 x3), rv b53, iv (w0_446 x0 x1 x2 x3), rv b67] [(.int (w0_495 x0 x1 x2 x3))])) (X67.baloadBytes hx (j := (0 : Int32)) (v := (.int (w0_495 x0 x1 x2 x3))) (by rw [e67]; exact Ar99.1) (State.isArrayOf_alike hZ.alike Ar99.2.1) Ar99.2.2 hin99 hat99 (g := (mkF m 495 #[iv x0, iv x1, iv x2, iv x3, iv (j0_11_s0 x0 x1 x2 x3), iv (j0_24_s0 x0 x1 x2 x3), rv b5, rv b9, rv b13, rv b15, iv (j0_480_s0 x0 x1 x2 x3), iv (4 : Int32), rv b22, iv (w0_214 x0 x1 x2 x3), rv b53, iv (w0_446 x0 x1 x2 x3), rv b67] [(.int (0 : Int32)), (.ref b67)])) rfl rfl (hb hby at_495)) ?_
                  refine Goes.run X67 hx hown hci hcl hby (L := [(496, .iconst 0, 1), (497, .iload 4, 2), (499, .aload 6, 2), (501, .aload 7, 2)]) (by decide +kernel) rfl (g' := (mkF m 503 #[iv x0, iv x1, iv x2, iv x3, iv (j0_11_s0 x0 x1 x2 x3), iv (j0_24_s0 x0 x1 x2 x3), rv b5, rv b9, rv b13, rv b15, iv (j0_480_s0 x0 x1 x2 x3), iv (4 : Int32), rv b22, iv (w0_214 x0 x1 x2 x3), rv b53, iv (w0_446 x0 x1 x2 x3), rv b67] [(.ref b9), (.ref b5), (.int (j0_11_s0 x0 x1 x2 x3)), (.int (0 : Int32)), (.int (w0_495 x0 x1 x2 x3))])) rfl ?_
                  obtain ⟨_, _, ⟨T100, L100, k100, n100⟩, -, X100, ⟨Lc100, hQ100, l100, y100, z100⟩, st100⟩ := Jvm.LawKit.callS X67 hx (y := ym14) hown (mvT hZ w_66) (mvT hZ w_67) (mvT hZ w_68) (mvT hZ w_69) (by decide) (backOf (W := 1) (rmI l Z a0 hw [] (0 : Int32) (j0_11_s0 x0 x1 x2 x3) b5 b9 k5 k9 (f0_54 x0 x1 x2 x3) (f0_94 x0 x1 x2 x3) h67 n0 Zn67 V_b5 V_b9 (by decide) (by decide) (own_hA x0 x1 x2 x3) (own_hB x0 x1 x2 x3)) hZ w_69 w_68 (by decide) (by decide)) (g := (mkF m 503 #[iv x0, iv x1, iv x2, iv x3, iv (j0_11_s0 x0 x1 x2 x3), iv (j0_24_s0 x0 x1 x2 x3), rv b5, rv b9, rv b13, rv b15, iv (j0_480_s0 x0 x1 x2 x3), iv (4 : Int32), rv b22, iv (w0_214 x0 x1 x2 x3), rv b53, iv (w0_446 x0 x1 x2 x3), rv b67] [(.ref b9), (.ref b5), (.int (j0_11_s0 x0 x1 x2 x3)), (.int (0 : Int32)), (.int (w0_495 x0 x1 x2 x3))])) rfl (by rw [hml]; rfl) (argsL := [(.int (0 : Int32)), (.int (j0_11_s0 x0 x1 x2 x3)), (.ref b5), (.ref b9)]) (rest := [(.int (w0_495 x0 x1 x2 x3))]) (lenOf pd0_5 rfl) rfl (by show 2 * 0 + _ ≤ _; exact Nat.le_of_eq rfl) (hb hby at_503) (fun _ _ => ⟨rfl, e67, (by decide : 8 + 0 ≤ _), (by decide : 1585 + 0 ≤ _)⟩)
                  dsimp only [Pt.U, Pt.locs, Pt.cells, Pt.slots] at X100 l100 y100 z100 st100 hQ100
                  subst l100 y100 z100
                  obtain ⟨rfl, N100q, e100⟩ := hQ100
                  have N100 := Fr.app N67 N100q
                  refine Goes.st (B := T100.setTop (mkF m 506 #[iv x0, iv x1, iv x2, iv x3, iv (j0_11_s0 x0 x1 x2 x3), iv (j0_24_s0 x0 x1 x2 x3), rv b5, rv b9, rv b13, rv b15, iv (j0_480_s0 x0 x1 x2 x3), iv (4 : Int32), rv b22, iv (w0_214 x0 x1 x2 x3), rv b53, iv (w0_446 x0 x1 x2 x3), rv b67] [(.int (rI (0 : Int32) (j0_11_s0 x0 x1 x2 x3) (f0_54 x0 x1 x2 x3) (f0_94 x0 x1 x2 x3))), (.int (w0_495 x0 x1 x2 x3))])) st100 ?_
                  by_cases hc506_101 : (w0_495 x0 x1 x2 x3) = (rI (0 : Int32) (j0_11_s0 x0 x1 x2 x3) (f0_54 x0 x1 x2 x3) (f0_94 x0 x1 x2 x3))
                  · skip
                    refine Goes.st (B := T100.setTop (mkF m 509 #[iv x0, iv x1, iv x2, iv x3, iv (j0_11_s0 x0 x1 x2 x3), iv (j0_24_s0 x0 x1 x2 x3), rv b5, rv b9, rv b13, rv b15, iv (j0_480_s0 x0 x1 x2 x3), iv (4 : Int32), rv b22, iv (w0_214 x0 x1 x2 x3), rv b53, iv (w0_446 x0 x1 x2 x3), rv b67] [])) (fun t k => ?_) ?_
                    · refine XS.icmpNo X100.here hx rfl (hb hby at_506) rfl (teq hc506_101).2 ?_
                      exact k
                    refine Goes.run X100 hx hown hci hcl hby (L := [(509, .aload 16, 2), (511, .iload 15, 2), (513, .iconst 1, 1), (514, .isub, 1)]) (by decide +kernel) rfl (g' := (mkF m 515 #[iv x0, iv x1, iv x2, iv x3, iv (j0_11_s0 x0 x1 x2 x3), iv (j0_24_s0 x0 x1 x2 x3), rv b5, rv b9, rv b13, rv b15, iv (j0_480_s0 x0 x1 x2 x3), iv (4 : Int32), rv b22, iv (w0_214 x0 x1 x2 x3), rv b53, iv (w0_446 x0 x1 x2 x3), rv b67] [(.int ((w0_446 x0 x1 x2 x3) - (1 : Int32))), (.ref b67)])) rfl ?_
                    obtain ⟨cl102, Ar102, q102, S102, M102, Hs102, G102⟩ := id V_b67
                    have hin102 : ¬ (((w0_446 x0 x1 x2 x3) - (1 : Int32)) < 0 ∨ cl102.slots.size ≤ (((w0_446 x0 x1 x2 x3) - (1 : Int32))).toNatClampNeg) := inb_of S102 ⟨(own_k1 (own_kb4 x0 x1 x2 x3).1 hc484_72).1, (own_k1 (own_kb4 x0 x1 x2 x3).1 hc484_72).2.1⟩
                    have hat102 : cl102.slots[(((w0_446 x0 x1 x2 x3) - (1 : Int32))).toNatClampNeg]? = some (.int (w0_515 x0 x1 x2 x3)) := Hs102.at hin102 ((own_fget ((w0_446 x0 x1 x2 x3)).toNatClampNeg (f5_256_28 (w0_446 x0 x1 x2 x3) (fC_18 (fB_30 (j0_11_s0 x0 x1 x2 x3) own_z) (f0_54 x0 x1 x2 x3))) (((w0_446 x0 x1 x2 x3) - (1 : Int32))).toNatClampNeg _).trans (if_pos (own_k1 (own_kb4 x0 x1 x2 x3).1 hc484_72).2.2))
                    refine Goes.st (B := T100.setTop (mkF m 516 #[iv x0, iv x1, iv x2, iv x3, iv (j0_11_s0 x0 x1 x2 x3), iv (j0_24_s0 x0 x1 x2 x3), rv b5, rv b9, rv b13, rv b15, iv (j0_480_s0 x0 x1 x2 x3), iv (4 : Int32), rv b22, iv (w0_214 x0 x1 x2 x3), rv b53, iv (w0_446 x0 x1 x2 x3), rv b67] [(.int (w0_515 x0 x1 x2 x3))])) (X100.baloadBytes hx (j := ((w0_446 x0 x1 x2 x3) - (1 : Int32))) (v := (.int (w0_515 x0 x1 x2 x3))) (by rw [e100]; exact Ar102.1) (State.isArrayOf_alike hZ.alike Ar102.2.1) Ar102.2.2 hin102 hat102 (g := (mkF m 515 #[iv x0, iv x1, iv x2, iv x3, iv (j0_11_s0 x0 x1 x2 x3), iv (j0_24_s0 x0 x1 x2 x3), rv b5, rv b9, rv b13, rv b15, iv (j0_480_s0 x0 x1 x2 x3), iv (4 : Int32), rv b22, iv (w0_214 x0 x1 x2 x3), rv b53, iv (w0_446 x0 x1 x2 x3), rv b67] [(.int ((w0_446 x0 x1 x2 x3) - (1 : Int32))), (.ref b67)])) rfl rfl (hb hby at_515)) ?_
                    refine Goes.run X100 hx hown hci hcl hby (L := [(516, .iload 15, 2), (518, .iconst 1, 1), (519, .isub, 1), (520, .iload 4, 2), (522, .aload 6, 2), (524, .aload 7, 2)]) (by decide +kernel) rfl (g' := (mkF m 526 #[iv x0, iv x1, iv x2, iv x3, iv (j0_11_s0 x0 x1 x2 x3), iv (j0_24_s0 x0 x1 x2 x3), rv b5, rv b9, rv b13, rv b15, iv (j0_480_s0 x0 x1 x2 x3), iv (4 : Int32), rv b22, iv (w0_214 x0 x1 x2 x3), rv b53, iv (w0_446 x0 x1 x2 x3), rv b67] [(.ref b9), (.ref b5), (.int (j0_11_s0 x0 x1 x2 x3)), (.int (c0_526_3 x0 x1 x2 x3)), (.int (w0_515 x0 x1 x2 x3))])) rfl ?_
                    obtain ⟨_, _, ⟨T103, L103, k103, n103⟩, -, X103, ⟨Lc103, hQ103, l103, y103, z103⟩, st103⟩ := Jvm.LawKit.callS X100 hx (y := ym14) hown (mvT hZ w_66) (mvT hZ w_67) (mvT hZ w_68) (mvT hZ w_69) (by decide) (backOf (W := 1) (rmI l Z a0 hw [] (c0_526_3 x0 x1 x2 x3) (j0_11_s0 x0 x1 x2 x3) b5 b9 k5 k9 (f0_54 x0 x1 x2 x3) (f0_94 x0 x1 x2 x3) h67 n0 Zn67 V_b5 V_b9 (own_k1 (own_kb4 x0 x1 x2 x3).1 hc484_72).1 (own_k1b4 x0 x1 x2 x3 hc484_72) (own_hA x0 x1 x2 x3) (own_hB x0 x1 x2 x3)) hZ w_69 w_68 (by decide) (by decide)) (g := (mkF m 526 #[iv x0, iv x1, iv x2, iv x3, iv (j0_11_s0 x0 x1 x2 x3), iv (j0_24_s0 x0 x1 x2 x3), rv b5, rv b9, rv b13, rv b15, iv (j0_480_s0 x0 x1 x2 x3), iv (4 : Int32), rv b22, iv (w0_214 x0 x1 x2 x3), rv b53, iv (w0_446 x0 x1 x2 x3), rv b67] [(.ref b9), (.ref b5), (.int (j0_11_s0 x0 x1 x2 x3)), (.int (c0_526_3 x0 x1 x2 x3)), (.int (w0_515 x0 x1 x2 x3))])) rfl (by rw [hml]; rfl) (argsL := [(.int (c0_526_3 x0 x1 x2 x3)), (.int (j0_11_s0 x0 x1 x2 x3)), (.ref b5), (.ref b9)]) (rest := [(.int (w0_515 x0 x1 x2 x3))]) (lenOf pd0_5 rfl) rfl (by show 2 * 0 + _ ≤ _; exact Nat.le_of_eq rfl) (hb hby at_526) (fun _ _ => ⟨rfl, e100, (by decide : 8 + 0 ≤ _), (by decide : 1585 + 0 ≤ _)⟩)
                    dsimp only [Pt.U, Pt.locs, Pt.cells, Pt.slots] at X103 l103 y103 z103 st103 hQ103
                    subst l103 y103 z103
                    obtain ⟨rfl, N103q, e103⟩ := hQ103
                    have N103 := Fr.app N100 N103q
                    refine Goes.st (B := T103.setTop (mkF m 529 #[iv x0, iv x1, iv x2, iv x3, iv (j0_11_s0 x0 x1 x2 x3), iv (j0_24_s0 x0 x1 x2 x3), rv b5, rv b9, rv b13, rv b15, iv (j0_480_s0 x0 x1 x2 x3), iv (4 : Int32), rv b22, iv (w0_214 x0 x1 x2 x3), rv b53, iv (w0_446 x0 x1 x2 x3), rv b67] [(.int (rI (c0_526_3 x0 x1 x2 x3) (j0_11_s0 x0 x1 x2 x3) (f0_54 x0 x1 x2 x3) (f0_94 x0 x1 x2 x3))), (.int (w0_515 x0 x1 x2 x3))])) st103 ?_
                    by_cases hc529_104 : (w0_515 x0 x1 x2 x3) = (rI (c0_526_3 x0 x1 x2 x3) (j0_11_s0 x0 x1 x2 x3) (f0_54 x0 x1 x2 x3) (f0_94 x0 x1 x2 x3))
                    · skip
                      refine Goes.st (B := T103.setTop (mkF m 532 #[iv x0, iv x1, iv x2, iv x3, iv (j0_11_s0 x0 x1 x2 x3), iv (j0_24_s0 x0 x1 x2 x3), rv b5, rv b9, rv b13, rv b15, iv (j0_480_s0 x0 x1 x2 x3), iv (4 : Int32), rv b22, iv (w0_214 x0 x1 x2 x3), rv b53, iv (w0_446 x0 x1 x2 x3), rv b67] [])) (fun t k => ?_) ?_
                      · refine XS.icmpNo X103.here hx rfl (hb hby at_529) rfl (teq hc529_104).2 ?_
                        exact k
                      refine Goes.run X103 hx hown hci hcl hby (L := [(532, .iconst 1, 1), (533, .goto 4, 3)]) (by decide +kernel) rfl (g' := (mkF m 537 #[iv x0, iv x1, iv x2, iv x3, iv (j0_11_s0 x0 x1 x2 x3), iv (j0_24_s0 x0 x1 x2 x3), rv b5, rv b9, rv b13, rv b15, iv (j0_480_s0 x0 x1 x2 x3), iv (4 : Int32), rv b22, iv (w0_214 x0 x1 x2 x3), rv b53, iv (w0_446 x0 x1 x2 x3), rv b67] [(.int (1 : Int32))])) rfl ?_
                      have q := jn537_97 _ _ X103 e103 N103
                      rw [show (j0_537_s0 x0 x1 x2 x3) = (1 : Int32) from (((if_neg hc489_90).trans (if_pos hc506_101)).trans (if_pos hc529_104))] at q
                      exact q
                    · skip
                      refine Goes.st (B := T103.setTop (mkF m 536 #[iv x0, iv x1, iv x2, iv x3, iv (j0_11_s0 x0 x1 x2 x3), iv (j0_24_s0 x0 x1 x2 x3), rv b5, rv b9, rv b13, rv b15, iv (j0_480_s0 x0 x1 x2 x3), iv (4 : Int32), rv b22, iv (w0_214 x0 x1 x2 x3), rv b53, iv (w0_446 x0 x1 x2 x3), rv b67] [])) (fun t k => ?_) ?_
                      · refine XS.icmpYes X103.here hx rfl (pc0 := 529) (pc' := 536) rfl (hb hby at_529) rfl (feq hc529_104).2 (by decide) (by decide) ?_
                        exact k
                      refine Goes.run X103 hx hown hci hcl hby (L := [(536, .iconst 0, 1)]) (by decide +kernel) rfl (g' := (mkF m 537 #[iv x0, iv x1, iv x2, iv x3, iv (j0_11_s0 x0 x1 x2 x3), iv (j0_24_s0 x0 x1 x2 x3), rv b5, rv b9, rv b13, rv b15, iv (j0_480_s0 x0 x1 x2 x3), iv (4 : Int32), rv b22, iv (w0_214 x0 x1 x2 x3), rv b53, iv (w0_446 x0 x1 x2 x3), rv b67] [(.int (0 : Int32))])) rfl ?_
                      have q := jn537_97 _ _ X103 e103 N103
                      rw [show (j0_537_s0 x0 x1 x2 x3) = (0 : Int32) from (((if_neg hc489_90).trans (if_pos hc506_101)).trans (if_neg hc529_104))] at q
                      exact q
                  · skip
                    refine Goes.st (B := T100.setTop (mkF m 536 #[iv x0, iv x1, iv x2, iv x3, iv (j0_11_s0 x0 x1 x2 x3), iv (j0_24_s0 x0 x1 x2 x3), rv b5, rv b9, rv b13, rv b15, iv (j0_480_s0 x0 x1 x2 x3), iv (4 : Int32), rv b22, iv (w0_214 x0 x1 x2 x3), rv b53, iv (w0_446 x0 x1 x2 x3), rv b67] [])) (fun t k => ?_) ?_
                    · refine XS.icmpYes X100.here hx rfl (pc0 := 506) (pc' := 536) rfl (hb hby at_506) rfl (feq hc506_101).2 (by decide) (by decide) ?_
                      exact k
                    refine Goes.run X100 hx hown hci hcl hby (L := [(536, .iconst 0, 1)]) (by decide +kernel) rfl (g' := (mkF m 537 #[iv x0, iv x1, iv x2, iv x3, iv (j0_11_s0 x0 x1 x2 x3), iv (j0_24_s0 x0 x1 x2 x3), rv b5, rv b9, rv b13, rv b15, iv (j0_480_s0 x0 x1 x2 x3), iv (4 : Int32), rv b22, iv (w0_214 x0 x1 x2 x3), rv b53, iv (w0_446 x0 x1 x2 x3), rv b67] [(.int (0 : Int32))])) rfl ?_
                    have q := jn537_97 _ _ X100 e100 N100
                    rw [show (j0_537_s0 x0 x1 x2 x3) = (0 : Int32) from ((if_neg hc489_90).trans (if_neg hc506_101))] at q
                    exact q
              · skip
                refine Goes.st (B := T67.setTop (mkF m 539 #[iv x0, iv x1, iv x2, iv x3, iv (j0_11_s0 x0 x1 x2 x3), iv (j0_24_s0 x0 x1 x2 x3), rv b5, rv b9, rv b13, rv b15, iv (j0_480_s0 x0 x1 x2 x3), iv (4 : Int32), rv b22, iv (w0_214 x0 x1 x2 x3), rv b53, iv (w0_446 x0 x1 x2 x3), rv b67] [])) (fun t k => ?_) ?_
                · refine XS.ifYes X67.here hx rfl (pc0 := 484) (pc' := 539) rfl (hb hby at_484) rfl ((if0 _ _).trans (flt hc484_72).2.2.2) (by decide) (by decide) ?_
                  exact k
                have q := jn539_88 _ _ X67 e67 N67
                rw [show (j0_539_10 x0 x1 x2 x3) = (j0_480_s0 x0 x1 x2 x3) from (if_neg hc484_72)] at q
                exact q
            by_cases hc464_68 : (j0_435_s0 x0 x1 x2 x3) = (0 : Int32)
            · skip
              refine Goes.st (B := T67.setTop (mkF m 479 #[iv x0, iv x1, iv x2, iv x3, iv (j0_11_s0 x0 x1 x2 x3), iv (j0_24_s0 x0 x1 x2 x3), rv b5, rv b9, rv b13, rv b15, iv (j0_435_s0 x0 x1 x2 x3), iv (4 : Int32), rv b22, iv (w0_214 x0 x1 x2 x3), rv b53, iv (w0_446 x0 x1 x2 x3), rv b67] [])) (fun t k => ?_) ?_
              · refine XS.ifYes X67.here hx rfl (pc0 := 464) (pc' := 479) rfl (hb hby at_464) rfl ((if0 _ _).trans (teq hc464_68).1) (by decide) (by decide) ?_
                exact k
              refine Goes.run X67 hx hown hci hcl hby (L := [(479, .iconst 0, 1)]) (by decide +kernel) rfl (g' := (mkF m 480 #[iv x0, iv x1, iv x2, iv x3, iv (j0_11_s0 x0 x1 x2 x3), iv (j0_24_s0 x0 x1 x2 x3), rv b5, rv b9, rv b13, rv b15, iv (j0_435_s0 x0 x1 x2 x3), iv (4 : Int32), rv b22, iv (w0_214 x0 x1 x2 x3), rv b53, iv (w0_446 x0 x1 x2 x3), rv b67] [(.int (0 : Int32))])) rfl ?_
              have q := jn480_71
              rw [show (j0_480_s0 x0 x1 x2 x3) = (0 : Int32) from (if_pos hc464_68)] at q
              exact q
            · skip
              refine Goes.st (B := T67.setTop (mkF m 467 #[iv x0, iv x1, iv x2, iv x3, iv (j0_11_s0 x0 x1 x2 x3), iv (j0_24_s0 x0 x1 x2 x3), rv b5, rv b9, rv b13, rv b15, iv (j0_435_s0 x0 x1 x2 x3), iv (4 : Int32), rv b22, iv (w0_214 x0 x1 x2 x3), rv b53, iv (w0_446 x0 x1 x2 x3), rv b67] [])) (fun t k => ?_) ?_
              · refine XS.ifNo X67.here hx rfl (hb hby at_464) rfl ((if0 _ _).trans (feq hc464_68).1) ?_
                exact k
              refine Goes.run X67 hx hown hci hcl hby (L := [(467, .aload 16, 2)]) (by decide +kernel) rfl (g' := (mkF m 469 #[iv x0, iv x1, iv x2, iv x3, iv (j0_11_s0 x0 x1 x2 x3), iv (j0_24_s0 x0 x1 x2 x3), rv b5, rv b9, rv b13, rv b15, iv (j0_435_s0 x0 x1 x2 x3), iv (4 : Int32), rv b22, iv (w0_214 x0 x1 x2 x3), rv b53, iv (w0_446 x0 x1 x2 x3), rv b67] [(.ref b67)])) rfl ?_
              obtain ⟨cl105, Ar105, q105, S105, M105, Hs105, G105⟩ := id V_b67
              refine Goes.st (B := T67.setTop (mkF m 470 #[iv x0, iv x1, iv x2, iv x3, iv (j0_11_s0 x0 x1 x2 x3), iv (j0_24_s0 x0 x1 x2 x3), rv b5, rv b9, rv b13, rv b15, iv (j0_435_s0 x0 x1 x2 x3), iv (4 : Int32), rv b22, iv (w0_214 x0 x1 x2 x3), rv b53, iv (w0_446 x0 x1 x2 x3), rv b67] [(.int (w0_446 x0 x1 x2 x3))])) (fun t k => ?_) ?_
              · refine X67.arraylength hx (cell := cl105) (by rw [e67]; exact Ar105.1) (State.isArrayOf_alike hZ.alike Ar105.2.1) (g := (mkF m 469 #[iv x0, iv x1, iv x2, iv x3, iv (j0_11_s0 x0 x1 x2 x3), iv (j0_24_s0 x0 x1 x2 x3), rv b5, rv b9, rv b13, rv b15, iv (j0_435_s0 x0 x1 x2 x3), iv (4 : Int32), rv b22, iv (w0_214 x0 x1 x2 x3), rv b53, iv (w0_446 x0 x1 x2 x3), rv b67] [(.ref b67)])) rfl (rest := []) rfl (hb hby at_469) _ ?_
                rw [len_of S105 M105]
                exact k
              refine Goes.run X67 hx hown hci hcl hby (L := [(470, .iload 15, 2)]) (by decide +kernel) rfl (g' := (mkF m 472 #[iv x0, iv x1, iv x2, iv x3, iv (j0_11_s0 x0 x1 x2 x3), iv (j0_24_s0 x0 x1 x2 x3), rv b5, rv b9, rv b13, rv b15, iv (j0_435_s0 x0 x1 x2 x3), iv (4 : Int32), rv b22, iv (w0_214 x0 x1 x2 x3), rv b53, iv (w0_446 x0 x1 x2 x3), rv b67] [(.int (w0_446 x0 x1 x2 x3)), (.int (w0_446 x0 x1 x2 x3))])) rfl ?_
              have hc472_106 : (w0_446 x0 x1 x2 x3) = (w0_446 x0 x1 x2 x3) := rfl
              refine Goes.st (B := T67.setTop (mkF m 475 #[iv x0, iv x1, iv x2, iv x3, iv (j0_11_s0 x0 x1 x2 x3), iv (j0_24_s0 x0 x1 x2 x3), rv b5, rv b9, rv b13, rv b15, iv (j0_435_s0 x0 x1 x2 x3), iv (4 : Int32), rv b22, iv (w0_214 x0 x1 x2 x3), rv b53, iv (w0_446 x0 x1 x2 x3), rv b67] [])) (fun t k => ?_) ?_
              · refine XS.icmpNo X67.here hx rfl (hb hby at_472) rfl (teq hc472_106).2 ?_
                exact k
              refine Goes.run X67 hx hown hci hcl hby (L := [(475, .iconst 1, 1), (476, .goto 4, 3)]) (by decide +kernel) rfl (g' := (mkF m 480 #[iv x0, iv x1, iv x2, iv x3, iv (j0_11_s0 x0 x1 x2 x3), iv (j0_24_s0 x0 x1 x2 x3), rv b5, rv b9, rv b13, rv b15, iv (j0_435_s0 x0 x1 x2 x3), iv (4 : Int32), rv b22, iv (w0_214 x0 x1 x2 x3), rv b53, iv (w0_446 x0 x1 x2 x3), rv b67] [(.int (1 : Int32))])) rfl ?_
              have q := jn480_71
              rw [show (j0_480_s0 x0 x1 x2 x3) = (1 : Int32) from (if_neg hc464_68)] at q
              exact q
          by_cases hc372_54 : (j0_331_s0 x0 x1 x2 x3) = (0 : Int32)
          · skip
            refine Goes.st (B := T53.setTop (mkF m 434 #[iv x0, iv x1, iv x2, iv x3, iv (j0_11_s0 x0 x1 x2 x3), iv (j0_24_s0 x0 x1 x2 x3), rv b5, rv b9, rv b13, rv b15, iv (j0_331_s0 x0 x1 x2 x3), iv (4 : Int32), rv b22, iv (w0_214 x0 x1 x2 x3), rv b53, .unset, .unset] [])) (fun t k => ?_) ?_
            · refine XS.ifYes X53.here hx rfl (pc0 := 372) (pc' := 434) rfl (hb hby at_372) rfl ((if0 _ _).trans (teq hc372_54).1) (by decide) (by decide) ?_
              exact k
            refine Goes.run X53 hx hown hci hcl hby (L := [(434, .iconst 0, 1)]) (by decide +kernel) rfl (g' := (mkF m 435 #[iv x0, iv x1, iv x2, iv x3, iv (j0_11_s0 x0 x1 x2 x3), iv (j0_24_s0 x0 x1 x2 x3), rv b5, rv b9, rv b13, rv b15, iv (j0_331_s0 x0 x1 x2 x3), iv (4 : Int32), rv b22, iv (w0_214 x0 x1 x2 x3), rv b53, .unset, .unset] [(.int (0 : Int32))])) rfl ?_
            have q := jn435_64 _ _ X53 e53 N53
            rw [show (j0_435_s0 x0 x1 x2 x3) = (0 : Int32) from (if_pos hc372_54)] at q
            exact q
          · skip
            refine Goes.st (B := T53.setTop (mkF m 375 #[iv x0, iv x1, iv x2, iv x3, iv (j0_11_s0 x0 x1 x2 x3), iv (j0_24_s0 x0 x1 x2 x3), rv b5, rv b9, rv b13, rv b15, iv (j0_331_s0 x0 x1 x2 x3), iv (4 : Int32), rv b22, iv (w0_214 x0 x1 x2 x3), rv b53, .unset, .unset] [])) (fun t k => ?_) ?_
            · refine XS.ifNo X53.here hx rfl (hb hby at_372) rfl ((if0 _ _).trans (feq hc372_54).1) ?_
              exact k
            refine Goes.run X53 hx hown hci hcl hby (L := [(375, .aload 14, 2), (377, .aload 12, 2)]) (by decide +kernel) rfl (g' := (mkF m 379 #[iv x0, iv x1, iv x2, iv x3, iv (j0_11_s0 x0 x1 x2 x3), iv (j0_24_s0 x0 x1 x2 x3), rv b5, rv b9, rv b13, rv b15, iv (j0_331_s0 x0 x1 x2 x3), iv (4 : Int32), rv b22, iv (w0_214 x0 x1 x2 x3), rv b53, .unset, .unset] [(.ref b22), (.ref b53)])) rfl ?_
            have hc379_107 : ¬ (b53 = b22) := (Ne.symm ne_b22_b53)
            refine Goes.st (B := T53.setTop (mkF m 382 #[iv x0, iv x1, iv x2, iv x3, iv (j0_11_s0 x0 x1 x2 x3), iv (j0_24_s0 x0 x1 x2 x3), rv b5, rv b9, rv b13, rv b15, iv (j0_331_s0 x0 x1 x2 x3), iv (4 : Int32), rv b22, iv (w0_214 x0 x1 x2 x3), rv b53, .unset, .unset] [])) (fun t k => ?_) ?_
            · refine Jvm.RoadKit.acmp (g := (mkF m 379 #[iv x0, iv x1, iv x2, iv x3, iv (j0_11_s0 x0 x1 x2 x3), iv (j0_24_s0 x0 x1 x2 x3), rv b5, rv b9, rv b13, rv b15, iv (j0_331_s0 x0 x1 x2 x3), iv (4 : Int32), rv b22, iv (w0_214 x0 x1 x2 x3), rv b53, .unset, .unset] [(.ref b22), (.ref b53)])) X53 hx rfl rfl rfl (pc0 := 379) (pc' := 382) (same := false) rfl (hb hby at_379) rfl (decide_eq_false fun q => hc379_107 (Value.ref.inj q)) (by decide) (by decide) ?_
              exact k
            refine Goes.run X53 hx hown hci hcl hby (L := [(382, .aload 14, 2)]) (by decide +kernel) rfl (g' := (mkF m 384 #[iv x0, iv x1, iv x2, iv x3, iv (j0_11_s0 x0 x1 x2 x3), iv (j0_24_s0 x0 x1 x2 x3), rv b5, rv b9, rv b13, rv b15, iv (j0_331_s0 x0 x1 x2 x3), iv (4 : Int32), rv b22, iv (w0_214 x0 x1 x2 x3), rv b53, .unset, .unset] [(.ref b53)])) rfl ?_
            obtain ⟨cl108, Ar108, q108, S108, M108, Hs108, G108⟩ := id V_b53
            refine Goes.st (B := T53.setTop (mkF m 385 #[iv x0, iv x1, iv x2, iv x3, iv (j0_11_s0 x0 x1 x2 x3), iv (j0_24_s0 x0 x1 x2 x3), rv b5, rv b9, rv b13, rv b15, iv (j0_331_s0 x0 x1 x2 x3), iv (4 : Int32), rv b22, iv (w0_214 x0 x1 x2 x3), rv b53, .unset, .unset] [(.int (4 : Int32))])) (fun t k => ?_) ?_
            · refine X53.arraylength hx (cell := cl108) (by rw [e53]; exact Ar108.1) (State.isArrayOf_alike hZ.alike Ar108.2.1) (g := (mkF m 384 #[iv x0, iv x1, iv x2, iv x3, iv (j0_11_s0 x0 x1 x2 x3), iv (j0_24_s0 x0 x1 x2 x3), rv b5, rv b9, rv b13, rv b15, iv (j0_331_s0 x0 x1 x2 x3), iv (4 : Int32), rv b22, iv (w0_214 x0 x1 x2 x3), rv b53, .unset, .unset] [(.ref b53)])) rfl (rest := []) rfl (hb hby at_384) _ ?_
              rw [len_of S108 M108]
              exact k
            refine Goes.run X53 hx hown hci hcl hby (L := [(385, .iload 11, 2)]) (by decide +kernel) rfl (g' := (mkF m 387 #[iv x0, iv x1, iv x2, iv x3, iv (j0_11_s0 x0 x1 x2 x3), iv (j0_24_s0 x0 x1 x2 x3), rv b5, rv b9, rv b13, rv b15, iv (j0_331_s0 x0 x1 x2 x3), iv (4 : Int32), rv b22, iv (w0_214 x0 x1 x2 x3), rv b53, .unset, .unset] [(.int (4 : Int32)), (.int (4 : Int32))])) rfl ?_
            have hc387_109 : (4 : Int32) = (4 : Int32) := rfl
            refine Goes.st (B := T53.setTop (mkF m 390 #[iv x0, iv x1, iv x2, iv x3, iv (j0_11_s0 x0 x1 x2 x3), iv (j0_24_s0 x0 x1 x2 x3), rv b5, rv b9, rv b13, rv b15, iv (j0_331_s0 x0 x1 x2 x3), iv (4 : Int32), rv b22, iv (w0_214 x0 x1 x2 x3), rv b53, .unset, .unset] [])) (fun t k => ?_) ?_
            · refine XS.icmpNo X53.here hx rfl (hb hby at_387) rfl (teq hc387_109).2 ?_
              exact k
            refine Goes.run X53 hx hown hci hcl hby (L := [(390, .aload 14, 2), (392, .iconst 0, 1)]) (by decide +kernel) rfl (g' := (mkF m 393 #[iv x0, iv x1, iv x2, iv x3, iv (j0_11_s0 x0 x1 x2 x3), iv (j0_24_s0 x0 x1 x2 x3), rv b5, rv b9, rv b13, rv b15, iv (j0_331_s0 x0 x1 x2 x3), iv (4 : Int32), rv b22, iv (w0_214 x0 x1 x2 x3), rv b53, .unset, .unset] [(.int (0 : Int32)), (.ref b53)])) rfl ?_
            obtain ⟨cl110, Ar110, q110, S110, M110, Hs110, G110⟩ := id V_b53
            have hin110 : ¬ ((0 : Int32) < 0 ∨ cl110.slots.size ≤ ((0 : Int32)).toNatClampNeg) := inb_of S110 ⟨(by decide), (by decide)⟩
            have hat110 : cl110.slots[((0 : Int32)).toNatClampNeg]? = some (.int (w0_219 x0 x1 x2 x3)) := Hs110.at hin110 ((own_fget ((4 : Int32)).toNatClampNeg (f5_256_28 (4 : Int32) (fC_18 (fB_30 (j0_11_s0 x0 x1 x2 x3) own_z) (f0_54 x0 x1 x2 x3))) 0 _).trans (if_pos (by decide)))
            refine Goes.st (B := T53.setTop (mkF m 394 #[iv x0, iv x1, iv x2, iv x3, iv (j0_11_s0 x0 x1 x2 x3), iv (j0_24_s0 x0 x1 x2 x3), rv b5, rv b9, rv b13, rv b15, iv (j0_331_s0 x0 x1 x2 x3), iv (4 : Int32), rv b22, iv (w0_214 x0 x1 x2 x3), rv b53, .unset, .unset] [(.int (w0_219 x0 x1 x2 x3))])) (X53.baloadBytes hx (j := (0 : Int32)) (v := (.int (w0_219 x0 x1 x2 x3))) (by rw [e53]; exact Ar110.1) (State.isArrayOf_alike hZ.alike Ar110.2.1) Ar110.2.2 hin110 hat110 (g := (mkF m 393 #[iv x0, iv x1, iv x2, iv x3, iv (j0_11_s0 x0 x1 x2 x3), iv (j0_24_s0 x0 x1 x2 x3), rv b5, rv b9, rv b13, rv b15, iv (j0_331_s0 x0 x1 x2 x3), iv (4 : Int32), rv b22, iv (w0_214 x0 x1 x2 x3), rv b53, .unset, .unset] [(.int (0 : Int32)), (.ref b53)])) rfl rfl (hb hby at_393)) ?_
            refine Goes.run X53 hx hown hci hcl hby (L := [(394, .iconst 0, 1), (395, .iload 4, 2), (397, .aload 6, 2), (399, .aload 7, 2)]) (by decide +kernel) rfl (g' := (mkF m 401 #[iv x0, iv x1, iv x2, iv x3, iv (j0_11_s0 x0 x1 x2 x3), iv (j0_24_s0 x0 x1 x2 x3), rv b5, rv b9, rv b13, rv b15, iv (j0_331_s0 x0 x1 x2 x3), iv (4 : Int32), rv b22, iv (w0_214 x0 x1 x2 x3), rv b53, .unset, .unset] [(.ref b9), (.ref b5), (.int (j0_11_s0 x0 x1 x2 x3)), (.int (0 : Int32)), (.int (w0_219 x0 x1 x2 x3))])) rfl ?_
            obtain ⟨_, _, ⟨T111, L111, k111, n111⟩, -, X111, ⟨Lc111, hQ111, l111, y111, z111⟩, st111⟩ := Jvm.LawKit.callS X53 hx (y := ym14) hown (mvT hZ w_66) (mvT hZ w_67) (mvT hZ w_68) (mvT hZ w_69) (by decide) (backOf (W := 1) (rmI l Z a0 hw [] (0 : Int32) (j0_11_s0 x0 x1 x2 x3) b5 b9 k5 k9 (f0_54 x0 x1 x2 x3) (f0_94 x0 x1 x2 x3) h53 n0 Zn53 V_b5 V_b9 (by decide) (by decide) (own_hA x0 x1 x2 x3) (own_hB x0 x1 x2 x3)) hZ w_69 w_68 (by decide) (by decide)) (g := (mkF m 401 #[iv x0, iv x1, iv x2, iv x3, iv (j0_11_s0 x0 x1 x2 x3), iv (j0_24_s0 x0 x1 x2 x3), rv b5, rv b9, rv b13, rv b15, iv (j0_331_s0 x0 x1 x2 x3), iv (4 : Int32), rv b22, iv (w0_214 x0 x1 x2 x3), rv b53, .unset, .unset] [(.ref b9), (.ref b5), (.int (j0_11_s0 x0 x1 x2 x3)), (.int (0 : Int32)), (.int (w0_219 x0 x1 x2 x3))])) rfl (by rw [hml]; rfl) (argsL := [(.int (0 : Int32)), (.int (j0_11_s0 x0 x1 x2 x3)), (.ref b5), (.ref b9)]) (rest := [(.int (w0_219 x0 x1 x2 x3))]) (lenOf pd0_5 rfl) rfl (by show 2 * 0 + _ ≤ _; exact Nat.le_of_eq rfl) (hb hby at_401) (fun _ _ => ⟨rfl, e53, (by decide : 7 + 0 ≤ _), (by decide : 1329 + 0 ≤ _)⟩)
            dsimp only [Pt.U, Pt.locs, Pt.cells, Pt.slots] at X111 l111 y111 z111 st111 hQ111
            subst l111 y111 z111
            obtain ⟨rfl, N111q, e111⟩ := hQ111
            have N111 := Fr.app N53 N111q
            refine Goes.st (B := T111.setTop (mkF m 404 #[iv x0, iv x1, iv x2, iv x3, iv (j0_11_s0 x0 x1 x2 x3), iv (j0_24_s0 x0 x1 x2 x3), rv b5, rv b9, rv b13, rv b15, iv (j0_331_s0 x0 x1 x2 x3), iv (4 : Int32), rv b22, iv (w0_214 x0 x1 x2 x3), rv b53, .unset, .unset] [(.int (rI (0 : Int32) (j0_11_s0 x0 x1 x2 x3) (f0_54 x0 x1 x2 x3) (f0_94 x0 x1 x2 x3))), (.int (w0_219 x0 x1 x2 x3))])) st111 ?_
            by_cases hc404_112 : (w0_219 x0 x1 x2 x3) = (rI (0 : Int32) (j0_11_s0 x0 x1 x2 x3) (f0_54 x0 x1 x2 x3) (f0_94 x0 x1 x2 x3))
            · skip
              refine Goes.st (B := T111.setTop (mkF m 407 #[iv x0, iv x1, iv x2, iv x3, iv (j0_11_s0 x0 x1 x2 x3), iv (j0_24_s0 x0 x1 x2 x3), rv b5, rv b9, rv b13, rv b15, iv (j0_331_s0 x0 x1 x2 x3), iv (4 : Int32), rv b22, iv (w0_214 x0 x1 x2 x3), rv b53, .unset, .unset] [])) (fun t k => ?_) ?_
              · refine XS.icmpNo X111.here hx rfl (hb hby at_404) rfl (teq hc404_112).2 ?_
                exact k
              refine Goes.run X111 hx hown hci hcl hby (L := [(407, .aload 14, 2), (409, .iload 11, 2), (411, .iconst 1, 1), (412, .isub, 1)]) (by decide +kernel) rfl (g' := (mkF m 413 #[iv x0, iv x1, iv x2, iv x3, iv (j0_11_s0 x0 x1 x2 x3), iv (j0_24_s0 x0 x1 x2 x3), rv b5, rv b9, rv b13, rv b15, iv (j0_331_s0 x0 x1 x2 x3), iv (4 : Int32), rv b22, iv (w0_214 x0 x1 x2 x3), rv b53, .unset, .unset] [(.int (3 : Int32)), (.ref b53)])) rfl ?_
              obtain ⟨cl113, Ar113, q113, S113, M113, Hs113, G113⟩ := id V_b53
              have hin113 : ¬ ((3 : Int32) < 0 ∨ cl113.slots.size ≤ ((3 : Int32)).toNatClampNeg) := inb_of S113 ⟨(by decide), (by decide)⟩
              have hat113 : cl113.slots[((3 : Int32)).toNatClampNeg]? = some (.int (w0_270 x0 x1 x2 x3)) := Hs113.at hin113 ((own_fget ((4 : Int32)).toNatClampNeg (f5_256_28 (4 : Int32) (fC_18 (fB_30 (j0_11_s0 x0 x1 x2 x3) own_z) (f0_54 x0 x1 x2 x3))) 3 _).trans (if_pos (by decide)))
              refine Goes.st (B := T111.setTop (mkF m 414 #[iv x0, iv x1, iv x2, iv x3, iv (j0_11_s0 x0 x1 x2 x3), iv (j0_24_s0 x0 x1 x2 x3), rv b5, rv b9, rv b13, rv b15, iv (j0_331_s0 x0 x1 x2 x3), iv (4 : Int32), rv b22, iv (w0_214 x0 x1 x2 x3), rv b53, .unset, .unset] [(.int (w0_270 x0 x1 x2 x3))])) (X111.baloadBytes hx (j := (3 : Int32)) (v := (.int (w0_270 x0 x1 x2 x3))) (by rw [e111]; exact Ar113.1) (State.isArrayOf_alike hZ.alike Ar113.2.1) Ar113.2.2 hin113 hat113 (g := (mkF m 413 #[iv x0, iv x1, iv x2, iv x3, iv (j0_11_s0 x0 x1 x2 x3), iv (j0_24_s0 x0 x1 x2 x3), rv b5, rv b9, rv b13, rv b15, iv (j0_331_s0 x0 x1 x2 x3), iv (4 : Int32), rv b22, iv (w0_214 x0 x1 x2 x3), rv b53, .unset, .unset] [(.int (3 : Int32)), (.ref b53)])) rfl rfl (hb hby at_413)) ?_
              refine Goes.run X111 hx hown hci hcl hby (L := [(414, .iload 11, 2), (416, .iconst 1, 1), (417, .isub, 1), (418, .iload 4, 2), (420, .aload 6, 2), (422, .aload 7, 2)]) (by decide +kernel) rfl (g' := (mkF m 424 #[iv x0, iv x1, iv x2, iv x3, iv (j0_11_s0 x0 x1 x2 x3), iv (j0_24_s0 x0 x1 x2 x3), rv b5, rv b9, rv b13, rv b15, iv (j0_331_s0 x0 x1 x2 x3), iv (4 : Int32), rv b22, iv (w0_214 x0 x1 x2 x3), rv b53, .unset, .unset] [(.ref b9), (.ref b5), (.int (j0_11_s0 x0 x1 x2 x3)), (.int (3 : Int32)), (.int (w0_270 x0 x1 x2 x3))])) rfl ?_
              obtain ⟨_, _, ⟨T114, L114, k114, n114⟩, -, X114, ⟨Lc114, hQ114, l114, y114, z114⟩, st114⟩ := Jvm.LawKit.callS X111 hx (y := ym14) hown (mvT hZ w_66) (mvT hZ w_67) (mvT hZ w_68) (mvT hZ w_69) (by decide) (backOf (W := 1) (rmI l Z a0 hw [] (3 : Int32) (j0_11_s0 x0 x1 x2 x3) b5 b9 k5 k9 (f0_54 x0 x1 x2 x3) (f0_94 x0 x1 x2 x3) h53 n0 Zn53 V_b5 V_b9 (by decide) (by decide) (own_hA x0 x1 x2 x3) (own_hB x0 x1 x2 x3)) hZ w_69 w_68 (by decide) (by decide)) (g := (mkF m 424 #[iv x0, iv x1, iv x2, iv x3, iv (j0_11_s0 x0 x1 x2 x3), iv (j0_24_s0 x0 x1 x2 x3), rv b5, rv b9, rv b13, rv b15, iv (j0_331_s0 x0 x1 x2 x3), iv (4 : Int32), rv b22, iv (w0_214 x0 x1 x2 x3), rv b53, .unset, .unset] [(.ref b9), (.ref b5), (.int (j0_11_s0 x0 x1 x2 x3)), (.int (3 : Int32)), (.int (w0_270 x0 x1 x2 x3))])) rfl (by rw [hml]; rfl) (argsL := [(.int (3 : Int32)), (.int (j0_11_s0 x0 x1 x2 x3)), (.ref b5), (.ref b9)]) (rest := [(.int (w0_270 x0 x1 x2 x3))]) (lenOf pd0_5 rfl) rfl (by show 2 * 0 + _ ≤ _; exact Nat.le_of_eq rfl) (hb hby at_424) (fun _ _ => ⟨rfl, e111, (by decide : 7 + 0 ≤ _), (by decide : 1329 + 0 ≤ _)⟩)
              dsimp only [Pt.U, Pt.locs, Pt.cells, Pt.slots] at X114 l114 y114 z114 st114 hQ114
              subst l114 y114 z114
              obtain ⟨rfl, N114q, e114⟩ := hQ114
              have N114 := Fr.app N111 N114q
              refine Goes.st (B := T114.setTop (mkF m 427 #[iv x0, iv x1, iv x2, iv x3, iv (j0_11_s0 x0 x1 x2 x3), iv (j0_24_s0 x0 x1 x2 x3), rv b5, rv b9, rv b13, rv b15, iv (j0_331_s0 x0 x1 x2 x3), iv (4 : Int32), rv b22, iv (w0_214 x0 x1 x2 x3), rv b53, .unset, .unset] [(.int (rI (3 : Int32) (j0_11_s0 x0 x1 x2 x3) (f0_54 x0 x1 x2 x3) (f0_94 x0 x1 x2 x3))), (.int (w0_270 x0 x1 x2 x3))])) st114 ?_
              by_cases hc427_115 : (w0_270 x0 x1 x2 x3) = (rI (3 : Int32) (j0_11_s0 x0 x1 x2 x3) (f0_54 x0 x1 x2 x3) (f0_94 x0 x1 x2 x3))
              · skip
                refine Goes.st (B := T114.setTop (mkF m 430 #[iv x0, iv x1, iv x2, iv x3, iv (j0_11_s0 x0 x1 x2 x3), iv (j0_24_s0 x0 x1 x2 x3), rv b5, rv b9, rv b13, rv b15, iv (j0_331_s0 x0 x1 x2 x3), iv (4 : Int32), rv b22, iv (w0_214 x0 x1 x2 x3), rv b53, .unset, .unset] [])) (fun t k => ?_) ?_
                · refine XS.icmpNo X114.here hx rfl (hb hby at_427) rfl (teq hc427_115).2 ?_
                  exact k
                refine Goes.run X114 hx hown hci hcl hby (L := [(430, .iconst 1, 1), (431, .goto 4, 3)]) (by decide +kernel) rfl (g' := (mkF m 435 #[iv x0, iv x1, iv x2, iv x3, iv (j0_11_s0 x0 x1 x2 x3), iv (j0_24_s0 x0 x1 x2 x3), rv b5, rv b9, rv b13, rv b15, iv (j0_331_s0 x0 x1 x2 x3), iv (4 : Int32), rv b22, iv (w0_214 x0 x1 x2 x3), rv b53, .unset, .unset] [(.int (1 : Int32))])) rfl ?_
                have q := jn435_64 _ _ X114 e114 N114
                rw [show (j0_435_s0 x0 x1 x2 x3) = (1 : Int32) from (((if_neg hc372_54).trans (if_pos hc404_112)).trans (if_pos hc427_115))] at q
                exact q
              · skip
                refine Goes.st (B := T114.setTop (mkF m 434 #[iv x0, iv x1, iv x2, iv x3, iv (j0_11_s0 x0 x1 x2 x3), iv (j0_24_s0 x0 x1 x2 x3), rv b5, rv b9, rv b13, rv b15, iv (j0_331_s0 x0 x1 x2 x3), iv (4 : Int32), rv b22, iv (w0_214 x0 x1 x2 x3), rv b53, .unset, .unset] [])) (fun t k => ?_) ?_
                · refine XS.icmpYes X114.here hx rfl (pc0 := 427) (pc' := 434) rfl (hb hby at_427) rfl (feq hc427_115).2 (by decide) (by decide) ?_
                  exact k
                refine Goes.run X114 hx hown hci hcl hby (L := [(434, .iconst 0, 1)]) (by decide +kernel) rfl (g' := (mkF m 435 #[iv x0, iv x1, iv x2, iv x3, iv (j0_11_s0 x0 x1 x2 x3), iv (j0_24_s0 x0 x1 x2 x3), rv b5, rv b9, rv b13, rv b15, iv (j0_331_s0 x0 x1 x2 x3), iv (4 : Int32), rv b22, iv (w0_214 x0 x1 x2 x3), rv b53, .unset, .unset] [(.int (0 : Int32))])) rfl ?_
                have q := jn435_64 _ _ X114 e114 N114
                rw [show (j0_435_s0 x0 x1 x2 x3) = (0 : Int32) from (((if_neg hc372_54).trans (if_pos hc404_112)).trans (if_neg hc427_115))] at q
                exact q
            · skip
              refine Goes.st (B := T111.setTop (mkF m 434 #[iv x0, iv x1, iv x2, iv x3, iv (j0_11_s0 x0 x1 x2 x3), iv (j0_24_s0 x0 x1 x2 x3), rv b5, rv b9, rv b13, rv b15, iv (j0_331_s0 x0 x1 x2 x3), iv (4 : Int32), rv b22, iv (w0_214 x0 x1 x2 x3), rv b53, .unset, .unset] [])) (fun t k => ?_) ?_
              · refine XS.icmpYes X111.here hx rfl (pc0 := 404) (pc' := 434) rfl (hb hby at_404) rfl (feq hc404_112).2 (by decide) (by decide) ?_
                exact k
              refine Goes.run X111 hx hown hci hcl hby (L := [(434, .iconst 0, 1)]) (by decide +kernel) rfl (g' := (mkF m 435 #[iv x0, iv x1, iv x2, iv x3, iv (j0_11_s0 x0 x1 x2 x3), iv (j0_24_s0 x0 x1 x2 x3), rv b5, rv b9, rv b13, rv b15, iv (j0_331_s0 x0 x1 x2 x3), iv (4 : Int32), rv b22, iv (w0_214 x0 x1 x2 x3), rv b53, .unset, .unset] [(.int (0 : Int32))])) rfl ?_
              have q := jn435_64 _ _ X111 e111 N111
              rw [show (j0_435_s0 x0 x1 x2 x3) = (0 : Int32) from ((if_neg hc372_54).trans (if_neg hc404_112))] at q
              exact q
        by_cases hc230_31 : (w0_219 x0 x1 x2 x3) = (rI (0 : Int32) (j0_11_s0 x0 x1 x2 x3) (f0_54 x0 x1 x2 x3) (f0_94 x0 x1 x2 x3))
        · skip
          refine Goes.st (B := T30.setTop (mkF m 233 #[iv x0, iv x1, iv x2, iv x3, iv (j0_11_s0 x0 x1 x2 x3), iv (j0_24_s0 x0 x1 x2 x3), rv b5, rv b9, rv b13, rv b15, iv (1 : Int32), iv (4 : Int32), rv b22, iv (w0_214 x0 x1 x2 x3), .unset, .unset, .unset] [])) (fun t k => ?_) ?_
          · refine XS.icmpNo X30.here hx rfl (hb hby at_230) rfl (teq hc230_31).2 ?_
            exact k
          refine Goes.run X30 hx hown hci hcl hby (L := [(233, .aload 12, 2), (235, .iconst 1, 1)]) (by decide +kernel) rfl (g' := (mkF m 236 #[iv x0, iv x1, iv x2, iv x3, iv (j0_11_s0 x0 x1 x2 x3), iv (j0_24_s0 x0 x1 x2 x3), rv b5, rv b9, rv b13, rv b15, iv (1 : Int32), iv (4 : Int32), rv b22, iv (w0_214 x0 x1 x2 x3), .unset, .unset, .unset] [(.int (1 : Int32)), (.ref b22)])) rfl ?_
          obtain ⟨cl116, Ar116, q116, S116, M116, Hs116, G116⟩ := id V_b22
          have hin116 : ¬ ((1 : Int32) < 0 ∨ cl116.slots.size ≤ ((1 : Int32)).toNatClampNeg) := inb_of S116 ⟨(by decide), (by decide)⟩
          have hat116 : cl116.slots[((1 : Int32)).toNatClampNeg]? = some (.int (w0_236 x0 x1 x2 x3)) := Hs116.at hin116 ((own_fget ((4 : Int32)).toNatClampNeg (f5_256_28 (4 : Int32) (fC_18 (fB_30 (j0_11_s0 x0 x1 x2 x3) own_z) (f0_54 x0 x1 x2 x3))) 1 _).trans (if_pos (by decide)))
          refine Goes.st (B := T30.setTop (mkF m 237 #[iv x0, iv x1, iv x2, iv x3, iv (j0_11_s0 x0 x1 x2 x3), iv (j0_24_s0 x0 x1 x2 x3), rv b5, rv b9, rv b13, rv b15, iv (1 : Int32), iv (4 : Int32), rv b22, iv (w0_214 x0 x1 x2 x3), .unset, .unset, .unset] [(.int (w0_236 x0 x1 x2 x3))])) (X30.baloadBytes hx (j := (1 : Int32)) (v := (.int (w0_236 x0 x1 x2 x3))) (by rw [e30]; exact Ar116.1) (State.isArrayOf_alike hZ.alike Ar116.2.1) Ar116.2.2 hin116 hat116 (g := (mkF m 236 #[iv x0, iv x1, iv x2, iv x3, iv (j0_11_s0 x0 x1 x2 x3), iv (j0_24_s0 x0 x1 x2 x3), rv b5, rv b9, rv b13, rv b15, iv (1 : Int32), iv (4 : Int32), rv b22, iv (w0_214 x0 x1 x2 x3), .unset, .unset, .unset] [(.int (1 : Int32)), (.ref b22)])) rfl rfl (hb hby at_236)) ?_
          refine Goes.run X30 hx hown hci hcl hby (L := [(237, .iconst 1, 1), (238, .iload 4, 2), (240, .aload 6, 2), (242, .aload 7, 2)]) (by decide +kernel) rfl (g' := (mkF m 244 #[iv x0, iv x1, iv x2, iv x3, iv (j0_11_s0 x0 x1 x2 x3), iv (j0_24_s0 x0 x1 x2 x3), rv b5, rv b9, rv b13, rv b15, iv (1 : Int32), iv (4 : Int32), rv b22, iv (w0_214 x0 x1 x2 x3), .unset, .unset, .unset] [(.ref b9), (.ref b5), (.int (j0_11_s0 x0 x1 x2 x3)), (.int (1 : Int32)), (.int (w0_236 x0 x1 x2 x3))])) rfl ?_
          obtain ⟨_, _, ⟨T117, L117, k117, n117⟩, -, X117, ⟨Lc117, hQ117, l117, y117, z117⟩, st117⟩ := Jvm.LawKit.callS X30 hx (y := ym14) hown (mvT hZ w_66) (mvT hZ w_67) (mvT hZ w_68) (mvT hZ w_69) (by decide) (backOf (W := 1) (rmI l Z a0 hw [] (1 : Int32) (j0_11_s0 x0 x1 x2 x3) b5 b9 k5 k9 (f0_54 x0 x1 x2 x3) (f0_94 x0 x1 x2 x3) h22 n0 Zn22 V_b5 V_b9 (by decide) (by decide) (own_hA x0 x1 x2 x3) (own_hB x0 x1 x2 x3)) hZ w_69 w_68 (by decide) (by decide)) (g := (mkF m 244 #[iv x0, iv x1, iv x2, iv x3, iv (j0_11_s0 x0 x1 x2 x3), iv (j0_24_s0 x0 x1 x2 x3), rv b5, rv b9, rv b13, rv b15, iv (1 : Int32), iv (4 : Int32), rv b22, iv (w0_214 x0 x1 x2 x3), .unset, .unset, .unset] [(.ref b9), (.ref b5), (.int (j0_11_s0 x0 x1 x2 x3)), (.int (1 : Int32)), (.int (w0_236 x0 x1 x2 x3))])) rfl (by rw [hml]; rfl) (argsL := [(.int (1 : Int32)), (.int (j0_11_s0 x0 x1 x2 x3)), (.ref b5), (.ref b9)]) (rest := [(.int (w0_236 x0 x1 x2 x3))]) (lenOf pd0_5 rfl) rfl (by show 2 * 0 + _ ≤ _; exact Nat.le_of_eq rfl) (hb hby at_244) (fun _ _ => ⟨rfl, e30, (by decide : 6 + 0 ≤ _), (by decide : 1073 + 0 ≤ _)⟩)
          dsimp only [Pt.U, Pt.locs, Pt.cells, Pt.slots] at X117 l117 y117 z117 st117 hQ117
          subst l117 y117 z117
          obtain ⟨rfl, N117q, e117⟩ := hQ117
          have N117 := Fr.app N30 N117q
          refine Goes.st (B := T117.setTop (mkF m 247 #[iv x0, iv x1, iv x2, iv x3, iv (j0_11_s0 x0 x1 x2 x3), iv (j0_24_s0 x0 x1 x2 x3), rv b5, rv b9, rv b13, rv b15, iv (1 : Int32), iv (4 : Int32), rv b22, iv (w0_214 x0 x1 x2 x3), .unset, .unset, .unset] [(.int (rI (1 : Int32) (j0_11_s0 x0 x1 x2 x3) (f0_54 x0 x1 x2 x3) (f0_94 x0 x1 x2 x3))), (.int (w0_236 x0 x1 x2 x3))])) st117 ?_
          by_cases hc247_118 : (w0_236 x0 x1 x2 x3) = (rI (1 : Int32) (j0_11_s0 x0 x1 x2 x3) (f0_54 x0 x1 x2 x3) (f0_94 x0 x1 x2 x3))
          · skip
            refine Goes.st (B := T117.setTop (mkF m 250 #[iv x0, iv x1, iv x2, iv x3, iv (j0_11_s0 x0 x1 x2 x3), iv (j0_24_s0 x0 x1 x2 x3), rv b5, rv b9, rv b13, rv b15, iv (1 : Int32), iv (4 : Int32), rv b22, iv (w0_214 x0 x1 x2 x3), .unset, .unset, .unset] [])) (fun t k => ?_) ?_
            · refine XS.icmpNo X117.here hx rfl (hb hby at_247) rfl (teq hc247_118).2 ?_
              exact k
            refine Goes.run X117 hx hown hci hcl hby (L := [(250, .aload 12, 2), (252, .iconst 2, 1)]) (by decide +kernel) rfl (g' := (mkF m 253 #[iv x0, iv x1, iv x2, iv x3, iv (j0_11_s0 x0 x1 x2 x3), iv (j0_24_s0 x0 x1 x2 x3), rv b5, rv b9, rv b13, rv b15, iv (1 : Int32), iv (4 : Int32), rv b22, iv (w0_214 x0 x1 x2 x3), .unset, .unset, .unset] [(.int (2 : Int32)), (.ref b22)])) rfl ?_
            obtain ⟨cl119, Ar119, q119, S119, M119, Hs119, G119⟩ := id V_b22
            have hin119 : ¬ ((2 : Int32) < 0 ∨ cl119.slots.size ≤ ((2 : Int32)).toNatClampNeg) := inb_of S119 ⟨(by decide), (by decide)⟩
            have hat119 : cl119.slots[((2 : Int32)).toNatClampNeg]? = some (.int (w0_253 x0 x1 x2 x3)) := Hs119.at hin119 ((own_fget ((4 : Int32)).toNatClampNeg (f5_256_28 (4 : Int32) (fC_18 (fB_30 (j0_11_s0 x0 x1 x2 x3) own_z) (f0_54 x0 x1 x2 x3))) 2 _).trans (if_pos (by decide)))
            refine Goes.st (B := T117.setTop (mkF m 254 #[iv x0, iv x1, iv x2, iv x3, iv (j0_11_s0 x0 x1 x2 x3), iv (j0_24_s0 x0 x1 x2 x3), rv b5, rv b9, rv b13, rv b15, iv (1 : Int32), iv (4 : Int32), rv b22, iv (w0_214 x0 x1 x2 x3), .unset, .unset, .unset] [(.int (w0_253 x0 x1 x2 x3))])) (X117.baloadBytes hx (j := (2 : Int32)) (v := (.int (w0_253 x0 x1 x2 x3))) (by rw [e117]; exact Ar119.1) (State.isArrayOf_alike hZ.alike Ar119.2.1) Ar119.2.2 hin119 hat119 (g := (mkF m 253 #[iv x0, iv x1, iv x2, iv x3, iv (j0_11_s0 x0 x1 x2 x3), iv (j0_24_s0 x0 x1 x2 x3), rv b5, rv b9, rv b13, rv b15, iv (1 : Int32), iv (4 : Int32), rv b22, iv (w0_214 x0 x1 x2 x3), .unset, .unset, .unset] [(.int (2 : Int32)), (.ref b22)])) rfl rfl (hb hby at_253)) ?_
            refine Goes.run X117 hx hown hci hcl hby (L := [(254, .iconst 2, 1), (255, .iload 4, 2), (257, .aload 6, 2), (259, .aload 7, 2)]) (by decide +kernel) rfl (g' := (mkF m 261 #[iv x0, iv x1, iv x2, iv x3, iv (j0_11_s0 x0 x1 x2 x3), iv (j0_24_s0 x0 x1 x2 x3), rv b5, rv b9, rv b13, rv b15, iv (1 : Int32), iv (4 : Int32), rv b22, iv (w0_214 x0 x1 x2 x3), .unset, .unset, .unset] [(.ref b9), (.ref b5), (.int (j0_11_s0 x0 x1 x2 x3)), (.int (2 : Int32)), (.int (w0_253 x0 x1 x2 x3))])) rfl ?_
            obtain ⟨_, _, ⟨T120, L120, k120, n120⟩, -, X120, ⟨Lc120, hQ120, l120, y120, z120⟩, st120⟩ := Jvm.LawKit.callS X117 hx (y := ym14) hown (mvT hZ w_66) (mvT hZ w_67) (mvT hZ w_68) (mvT hZ w_69) (by decide) (backOf (W := 1) (rmI l Z a0 hw [] (2 : Int32) (j0_11_s0 x0 x1 x2 x3) b5 b9 k5 k9 (f0_54 x0 x1 x2 x3) (f0_94 x0 x1 x2 x3) h22 n0 Zn22 V_b5 V_b9 (by decide) (by decide) (own_hA x0 x1 x2 x3) (own_hB x0 x1 x2 x3)) hZ w_69 w_68 (by decide) (by decide)) (g := (mkF m 261 #[iv x0, iv x1, iv x2, iv x3, iv (j0_11_s0 x0 x1 x2 x3), iv (j0_24_s0 x0 x1 x2 x3), rv b5, rv b9, rv b13, rv b15, iv (1 : Int32), iv (4 : Int32), rv b22, iv (w0_214 x0 x1 x2 x3), .unset, .unset, .unset] [(.ref b9), (.ref b5), (.int (j0_11_s0 x0 x1 x2 x3)), (.int (2 : Int32)), (.int (w0_253 x0 x1 x2 x3))])) rfl (by rw [hml]; rfl) (argsL := [(.int (2 : Int32)), (.int (j0_11_s0 x0 x1 x2 x3)), (.ref b5), (.ref b9)]) (rest := [(.int (w0_253 x0 x1 x2 x3))]) (lenOf pd0_5 rfl) rfl (by show 2 * 0 + _ ≤ _; exact Nat.le_of_eq rfl) (hb hby at_261) (fun _ _ => ⟨rfl, e117, (by decide : 6 + 0 ≤ _), (by decide : 1073 + 0 ≤ _)⟩)
            dsimp only [Pt.U, Pt.locs, Pt.cells, Pt.slots] at X120 l120 y120 z120 st120 hQ120
            subst l120 y120 z120
            obtain ⟨rfl, N120q, e120⟩ := hQ120
            have N120 := Fr.app N117 N120q
            refine Goes.st (B := T120.setTop (mkF m 264 #[iv x0, iv x1, iv x2, iv x3, iv (j0_11_s0 x0 x1 x2 x3), iv (j0_24_s0 x0 x1 x2 x3), rv b5, rv b9, rv b13, rv b15, iv (1 : Int32), iv (4 : Int32), rv b22, iv (w0_214 x0 x1 x2 x3), .unset, .unset, .unset] [(.int (rI (2 : Int32) (j0_11_s0 x0 x1 x2 x3) (f0_54 x0 x1 x2 x3) (f0_94 x0 x1 x2 x3))), (.int (w0_253 x0 x1 x2 x3))])) st120 ?_
            by_cases hc264_121 : (w0_253 x0 x1 x2 x3) = (rI (2 : Int32) (j0_11_s0 x0 x1 x2 x3) (f0_54 x0 x1 x2 x3) (f0_94 x0 x1 x2 x3))
            · skip
              refine Goes.st (B := T120.setTop (mkF m 267 #[iv x0, iv x1, iv x2, iv x3, iv (j0_11_s0 x0 x1 x2 x3), iv (j0_24_s0 x0 x1 x2 x3), rv b5, rv b9, rv b13, rv b15, iv (1 : Int32), iv (4 : Int32), rv b22, iv (w0_214 x0 x1 x2 x3), .unset, .unset, .unset] [])) (fun t k => ?_) ?_
              · refine XS.icmpNo X120.here hx rfl (hb hby at_264) rfl (teq hc264_121).2 ?_
                exact k
              refine Goes.run X120 hx hown hci hcl hby (L := [(267, .aload 12, 2), (269, .iconst 3, 1)]) (by decide +kernel) rfl (g' := (mkF m 270 #[iv x0, iv x1, iv x2, iv x3, iv (j0_11_s0 x0 x1 x2 x3), iv (j0_24_s0 x0 x1 x2 x3), rv b5, rv b9, rv b13, rv b15, iv (1 : Int32), iv (4 : Int32), rv b22, iv (w0_214 x0 x1 x2 x3), .unset, .unset, .unset] [(.int (3 : Int32)), (.ref b22)])) rfl ?_
              obtain ⟨cl122, Ar122, q122, S122, M122, Hs122, G122⟩ := id V_b22
              have hin122 : ¬ ((3 : Int32) < 0 ∨ cl122.slots.size ≤ ((3 : Int32)).toNatClampNeg) := inb_of S122 ⟨(by decide), (by decide)⟩
              have hat122 : cl122.slots[((3 : Int32)).toNatClampNeg]? = some (.int (w0_270 x0 x1 x2 x3)) := Hs122.at hin122 ((own_fget ((4 : Int32)).toNatClampNeg (f5_256_28 (4 : Int32) (fC_18 (fB_30 (j0_11_s0 x0 x1 x2 x3) own_z) (f0_54 x0 x1 x2 x3))) 3 _).trans (if_pos (by decide)))
              refine Goes.st (B := T120.setTop (mkF m 271 #[iv x0, iv x1, iv x2, iv x3, iv (j0_11_s0 x0 x1 x2 x3), iv (j0_24_s0 x0 x1 x2 x3), rv b5, rv b9, rv b13, rv b15, iv (1 : Int32), iv (4 : Int32), rv b22, iv (w0_214 x0 x1 x2 x3), .unset, .unset, .unset] [(.int (w0_270 x0 x1 x2 x3))])) (X120.baloadBytes hx (j := (3 : Int32)) (v := (.int (w0_270 x0 x1 x2 x3))) (by rw [e120]; exact Ar122.1) (State.isArrayOf_alike hZ.alike Ar122.2.1) Ar122.2.2 hin122 hat122 (g := (mkF m 270 #[iv x0, iv x1, iv x2, iv x3, iv (j0_11_s0 x0 x1 x2 x3), iv (j0_24_s0 x0 x1 x2 x3), rv b5, rv b9, rv b13, rv b15, iv (1 : Int32), iv (4 : Int32), rv b22, iv (w0_214 x0 x1 x2 x3), .unset, .unset, .unset] [(.int (3 : Int32)), (.ref b22)])) rfl rfl (hb hby at_270)) ?_
              refine Goes.run X120 hx hown hci hcl hby (L := [(271, .iconst 3, 1), (272, .iload 4, 2), (274, .aload 6, 2), (276, .aload 7, 2)]) (by decide +kernel) rfl (g' := (mkF m 278 #[iv x0, iv x1, iv x2, iv x3, iv (j0_11_s0 x0 x1 x2 x3), iv (j0_24_s0 x0 x1 x2 x3), rv b5, rv b9, rv b13, rv b15, iv (1 : Int32), iv (4 : Int32), rv b22, iv (w0_214 x0 x1 x2 x3), .unset, .unset, .unset] [(.ref b9), (.ref b5), (.int (j0_11_s0 x0 x1 x2 x3)), (.int (3 : Int32)), (.int (w0_270 x0 x1 x2 x3))])) rfl ?_
              obtain ⟨_, _, ⟨T123, L123, k123, n123⟩, -, X123, ⟨Lc123, hQ123, l123, y123, z123⟩, st123⟩ := Jvm.LawKit.callS X120 hx (y := ym14) hown (mvT hZ w_66) (mvT hZ w_67) (mvT hZ w_68) (mvT hZ w_69) (by decide) (backOf (W := 1) (rmI l Z a0 hw [] (3 : Int32) (j0_11_s0 x0 x1 x2 x3) b5 b9 k5 k9 (f0_54 x0 x1 x2 x3) (f0_94 x0 x1 x2 x3) h22 n0 Zn22 V_b5 V_b9 (by decide) (by decide) (own_hA x0 x1 x2 x3) (own_hB x0 x1 x2 x3)) hZ w_69 w_68 (by decide) (by decide)) (g := (mkF m 278 #[iv x0, iv x1, iv x2, iv x3, iv (j0_11_s0 x0 x1 x2 x3), iv (j0_24_s0 x0 x1 x2 x3), rv b5, rv b9, rv b13, rv b15, iv (1 : Int32), iv (4 : Int32), rv b22, iv (w0_214 x0 x1 x2 x3), .unset, .unset, .unset] [(.ref b9), (.ref b5), (.int (j0_11_s0 x0 x1 x2 x3)), (.int (3 : Int32)), (.int (w0_270 x0 x1 x2 x3))])) rfl (by rw [hml]; rfl) (argsL := [(.int (3 : Int32)), (.int (j0_11_s0 x0 x1 x2 x3)), (.ref b5), (.ref b9)]) (rest := [(.int (w0_270 x0 x1 x2 x3))]) (lenOf pd0_5 rfl) rfl (by show 2 * 0 + _ ≤ _; exact Nat.le_of_eq rfl) (hb hby at_278) (fun _ _ => ⟨rfl, e120, (by decide : 6 + 0 ≤ _), (by decide : 1073 + 0 ≤ _)⟩)
              dsimp only [Pt.U, Pt.locs, Pt.cells, Pt.slots] at X123 l123 y123 z123 st123 hQ123
              subst l123 y123 z123
              obtain ⟨rfl, N123q, e123⟩ := hQ123
              have N123 := Fr.app N120 N123q
              refine Goes.st (B := T123.setTop (mkF m 281 #[iv x0, iv x1, iv x2, iv x3, iv (j0_11_s0 x0 x1 x2 x3), iv (j0_24_s0 x0 x1 x2 x3), rv b5, rv b9, rv b13, rv b15, iv (1 : Int32), iv (4 : Int32), rv b22, iv (w0_214 x0 x1 x2 x3), .unset, .unset, .unset] [(.int (rI (3 : Int32) (j0_11_s0 x0 x1 x2 x3) (f0_54 x0 x1 x2 x3) (f0_94 x0 x1 x2 x3))), (.int (w0_270 x0 x1 x2 x3))])) st123 ?_
              by_cases hc281_124 : (w0_270 x0 x1 x2 x3) = (rI (3 : Int32) (j0_11_s0 x0 x1 x2 x3) (f0_54 x0 x1 x2 x3) (f0_94 x0 x1 x2 x3))
              · skip
                refine Goes.st (B := T123.setTop (mkF m 284 #[iv x0, iv x1, iv x2, iv x3, iv (j0_11_s0 x0 x1 x2 x3), iv (j0_24_s0 x0 x1 x2 x3), rv b5, rv b9, rv b13, rv b15, iv (1 : Int32), iv (4 : Int32), rv b22, iv (w0_214 x0 x1 x2 x3), .unset, .unset, .unset] [])) (fun t k => ?_) ?_
                · refine XS.icmpNo X123.here hx rfl (hb hby at_281) rfl (teq hc281_124).2 ?_
                  exact k
                refine Goes.run X123 hx hown hci hcl hby (L := [(284, .aload 12, 2), (286, .iload 11, 2), (288, .iconst 1, 1), (289, .isub, 1)]) (by decide +kernel) rfl (g' := (mkF m 290 #[iv x0, iv x1, iv x2, iv x3, iv (j0_11_s0 x0 x1 x2 x3), iv (j0_24_s0 x0 x1 x2 x3), rv b5, rv b9, rv b13, rv b15, iv (1 : Int32), iv (4 : Int32), rv b22, iv (w0_214 x0 x1 x2 x3), .unset, .unset, .unset] [(.int (3 : Int32)), (.ref b22)])) rfl ?_
                obtain ⟨cl125, Ar125, q125, S125, M125, Hs125, G125⟩ := id V_b22
                have hin125 : ¬ ((3 : Int32) < 0 ∨ cl125.slots.size ≤ ((3 : Int32)).toNatClampNeg) := inb_of S125 ⟨(by decide), (by decide)⟩
                have hat125 : cl125.slots[((3 : Int32)).toNatClampNeg]? = some (.int (w0_270 x0 x1 x2 x3)) := Hs125.at hin125 ((own_fget ((4 : Int32)).toNatClampNeg (f5_256_28 (4 : Int32) (fC_18 (fB_30 (j0_11_s0 x0 x1 x2 x3) own_z) (f0_54 x0 x1 x2 x3))) 3 _).trans (if_pos (by decide)))
                refine Goes.st (B := T123.setTop (mkF m 291 #[iv x0, iv x1, iv x2, iv x3, iv (j0_11_s0 x0 x1 x2 x3), iv (j0_24_s0 x0 x1 x2 x3), rv b5, rv b9, rv b13, rv b15, iv (1 : Int32), iv (4 : Int32), rv b22, iv (w0_214 x0 x1 x2 x3), .unset, .unset, .unset] [(.int (w0_270 x0 x1 x2 x3))])) (X123.baloadBytes hx (j := (3 : Int32)) (v := (.int (w0_270 x0 x1 x2 x3))) (by rw [e123]; exact Ar125.1) (State.isArrayOf_alike hZ.alike Ar125.2.1) Ar125.2.2 hin125 hat125 (g := (mkF m 290 #[iv x0, iv x1, iv x2, iv x3, iv (j0_11_s0 x0 x1 x2 x3), iv (j0_24_s0 x0 x1 x2 x3), rv b5, rv b9, rv b13, rv b15, iv (1 : Int32), iv (4 : Int32), rv b22, iv (w0_214 x0 x1 x2 x3), .unset, .unset, .unset] [(.int (3 : Int32)), (.ref b22)])) rfl rfl (hb hby at_290)) ?_
                refine Goes.run X123 hx hown hci hcl hby (L := [(291, .iload 11, 2), (293, .iconst 1, 1), (294, .isub, 1), (295, .iload 4, 2), (297, .aload 6, 2), (299, .aload 7, 2)]) (by decide +kernel) rfl (g' := (mkF m 301 #[iv x0, iv x1, iv x2, iv x3, iv (j0_11_s0 x0 x1 x2 x3), iv (j0_24_s0 x0 x1 x2 x3), rv b5, rv b9, rv b13, rv b15, iv (1 : Int32), iv (4 : Int32), rv b22, iv (w0_214 x0 x1 x2 x3), .unset, .unset, .unset] [(.ref b9), (.ref b5), (.int (j0_11_s0 x0 x1 x2 x3)), (.int (3 : Int32)), (.int (w0_270 x0 x1 x2 x3))])) rfl ?_
                obtain ⟨_, _, ⟨T126, L126, k126, n126⟩, -, X126, ⟨Lc126, hQ126, l126, y126, z126⟩, st126⟩ := Jvm.LawKit.callS X123 hx (y := ym14) hown (mvT hZ w_66) (mvT hZ w_67) (mvT hZ w_68) (mvT hZ w_69) (by decide) (backOf (W := 1) (rmI l Z a0 hw [] (3 : Int32) (j0_11_s0 x0 x1 x2 x3) b5 b9 k5 k9 (f0_54 x0 x1 x2 x3) (f0_94 x0 x1 x2 x3) h22 n0 Zn22 V_b5 V_b9 (by decide) (by decide) (own_hA x0 x1 x2 x3) (own_hB x0 x1 x2 x3)) hZ w_69 w_68 (by decide) (by decide)) (g := (mkF m 301 #[iv x0, iv x1, iv x2, iv x3, iv (j0_11_s0 x0 x1 x2 x3), iv (j0_24_s0 x0 x1 x2 x3), rv b5, rv b9, rv b13, rv b15, iv (1 : Int32), iv (4 : Int32), rv b22, iv (w0_214 x0 x1 x2 x3), .unset, .unset, .unset] [(.ref b9), (.ref b5), (.int (j0_11_s0 x0 x1 x2 x3)), (.int (3 : Int32)), (.int (w0_270 x0 x1 x2 x3))])) rfl (by rw [hml]; rfl) (argsL := [(.int (3 : Int32)), (.int (j0_11_s0 x0 x1 x2 x3)), (.ref b5), (.ref b9)]) (rest := [(.int (w0_270 x0 x1 x2 x3))]) (lenOf pd0_5 rfl) rfl (by show 2 * 0 + _ ≤ _; exact Nat.le_of_eq rfl) (hb hby at_301) (fun _ _ => ⟨rfl, e123, (by decide : 6 + 0 ≤ _), (by decide : 1073 + 0 ≤ _)⟩)
                dsimp only [Pt.U, Pt.locs, Pt.cells, Pt.slots] at X126 l126 y126 z126 st126 hQ126
                subst l126 y126 z126
                obtain ⟨rfl, N126q, e126⟩ := hQ126
                have N126 := Fr.app N123 N126q
                refine Goes.st (B := T126.setTop (mkF m 304 #[iv x0, iv x1, iv x2, iv x3, iv (j0_11_s0 x0 x1 x2 x3), iv (j0_24_s0 x0 x1 x2 x3), rv b5, rv b9, rv b13, rv b15, iv (1 : Int32), iv (4 : Int32), rv b22, iv (w0_214 x0 x1 x2 x3), .unset, .unset, .unset] [(.int (rI (3 : Int32) (j0_11_s0 x0 x1 x2 x3) (f0_54 x0 x1 x2 x3) (f0_94 x0 x1 x2 x3))), (.int (w0_270 x0 x1 x2 x3))])) st126 ?_
                have hc304_127 : (w0_270 x0 x1 x2 x3) = (rI (3 : Int32) (j0_11_s0 x0 x1 x2 x3) (f0_54 x0 x1 x2 x3) (f0_94 x0 x1 x2 x3)) := hc281_124
                refine Goes.st (B := T126.setTop (mkF m 307 #[iv x0, iv x1, iv x2, iv x3, iv (j0_11_s0 x0 x1 x2 x3), iv (j0_24_s0 x0 x1 x2 x3), rv b5, rv b9, rv b13, rv b15, iv (1 : Int32), iv (4 : Int32), rv b22, iv (w0_214 x0 x1 x2 x3), .unset, .unset, .unset] [])) (fun t k => ?_) ?_
                · refine XS.icmpNo X126.here hx rfl (hb hby at_304) rfl (teq hc304_127).2 ?_
                  exact k
                refine Goes.run X126 hx hown hci hcl hby (L := [(307, .aload 12, 2), (309, .iload 13, 2)]) (by decide +kernel) rfl (g' := (mkF m 311 #[iv x0, iv x1, iv x2, iv x3, iv (j0_11_s0 x0 x1 x2 x3), iv (j0_24_s0 x0 x1 x2 x3), rv b5, rv b9, rv b13, rv b15, iv (1 : Int32), iv (4 : Int32), rv b22, iv (w0_214 x0 x1 x2 x3), .unset, .unset, .unset] [(.int (w0_214 x0 x1 x2 x3)), (.ref b22)])) rfl ?_
                obtain ⟨cl128, Ar128, q128, S128, M128, Hs128, G128⟩ := id V_b22
                have hin128 : ¬ ((w0_214 x0 x1 x2 x3) < 0 ∨ cl128.slots.size ≤ ((w0_214 x0 x1 x2 x3)).toNatClampNeg) := inb_of S128 ⟨(own_j4 x0 x1 x2 x3).1, (own_j4 x0 x1 x2 x3).2.1⟩
                have hat128 : cl128.slots[((w0_214 x0 x1 x2 x3)).toNatClampNeg]? = some (.int (w0_311 x0 x1 x2 x3)) := Hs128.at hin128 ((own_fget ((4 : Int32)).toNatClampNeg (f5_256_28 (4 : Int32) (fC_18 (fB_30 (j0_11_s0 x0 x1 x2 x3) own_z) (f0_54 x0 x1 x2 x3))) ((w0_214 x0 x1 x2 x3)).toNatClampNeg _).trans (if_pos (own_j4 x0 x1 x2 x3).2.2))
                refine Goes.st (B := T126.setTop (mkF m 312 #[iv x0, iv x1, iv x2, iv x3, iv (j0_11_s0 x0 x1 x2 x3), iv (j0_24_s0 x0 x1 x2 x3), rv b5, rv b9, rv b13, rv b15, iv (1 : Int32), iv (4 : Int32), rv b22, iv (w0_214 x0 x1 x2 x3), .unset, .unset, .unset] [(.int (w0_311 x0 x1 x2 x3))])) (X126.baloadBytes hx (j := (w0_214 x0 x1 x2 x3)) (v := (.int (w0_311 x0 x1 x2 x3))) (by rw [e126]; exact Ar128.1) (State.isArrayOf_alike hZ.alike Ar128.2.1) Ar128.2.2 hin128 hat128 (g := (mkF m 311 #[iv x0, iv x1, iv x2, iv x3, iv (j0_11_s0 x0 x1 x2 x3), iv (j0_24_s0 x0 x1 x2 x3), rv b5, rv b9, rv b13, rv b15, iv (1 : Int32), iv (4 : Int32), rv b22, iv (w0_214 x0 x1 x2 x3), .unset, .unset, .unset] [(.int (w0_214 x0 x1 x2 x3)), (.ref b22)])) rfl rfl (hb hby at_311)) ?_
                refine Goes.run X126 hx hown hci hcl hby (L := [(312, .iload 13, 2), (314, .iload 4, 2), (316, .aload 6, 2), (318, .aload 7, 2)]) (by decide +kernel) rfl (g' := (mkF m 320 #[iv x0, iv x1, iv x2, iv x3, iv (j0_11_s0 x0 x1 x2 x3), iv (j0_24_s0 x0 x1 x2 x3), rv b5, rv b9, rv b13, rv b15, iv (1 : Int32), iv (4 : Int32), rv b22, iv (w0_214 x0 x1 x2 x3), .unset, .unset, .unset] [(.ref b9), (.ref b5), (.int (j0_11_s0 x0 x1 x2 x3)), (.int (w0_214 x0 x1 x2 x3)), (.int (w0_311 x0 x1 x2 x3))])) rfl ?_
                obtain ⟨_, _, ⟨T129, L129, k129, n129⟩, -, X129, ⟨Lc129, hQ129, l129, y129, z129⟩, st129⟩ := Jvm.LawKit.callS X126 hx (y := ym14) hown (mvT hZ w_66) (mvT hZ w_67) (mvT hZ w_68) (mvT hZ w_69) (by decide) (backOf (W := 1) (rmI l Z a0 hw [] (w0_214 x0 x1 x2 x3) (j0_11_s0 x0 x1 x2 x3) b5 b9 k5 k9 (f0_54 x0 x1 x2 x3) (f0_94 x0 x1 x2 x3) h22 n0 Zn22 V_b5 V_b9 (own_j4 x0 x1 x2 x3).1 (own_jb4 x0 x1 x2 x3) (own_hA x0 x1 x2 x3) (own_hB x0 x1 x2 x3)) hZ w_69 w_68 (by decide) (by decide)) (g := (mkF m 320 #[iv x0, iv x1, iv x2, iv x3, iv (j0_11_s0 x0 x1 x2 x3), iv (j0_24_s0 x0 x1 x2 x3), rv b5, rv b9, rv b13, rv b15, iv (1 : Int32), iv (4 : Int32), rv b22, iv (w0_214 x0 x1 x2 x3), .unset, .unset, .unset] [(.ref b9), (.ref b5), (.int (j0_11_s0 x0 x1 x2 x3)), (.int (w0_214 x0 x1 x2 x3)), (.int (w0_311 x0 x1 x2 x3))])) rfl (by rw [hml]; rfl) (argsL := [(.int (w0_214 x0 x1 x2 x3)), (.int (j0_11_s0 x0 x1 x2 x3)), (.ref b5), (.ref b9)]) (rest := [(.int (w0_311 x0 x1 x2 x3))]) (lenOf pd0_5 rfl) rfl (by show 2 * 0 + _ ≤ _; exact Nat.le_of_eq rfl) (hb hby at_320) (fun _ _ => ⟨rfl, e126, (by decide : 6 + 0 ≤ _), (by decide : 1073 + 0 ≤ _)⟩)
                dsimp only [Pt.U, Pt.locs, Pt.cells, Pt.slots] at X129 l129 y129 z129 st129 hQ129
                subst l129 y129 z129
                obtain ⟨rfl, N129q, e129⟩ := hQ129
                have N129 := Fr.app N126 N129q
                refine Goes.st (B := T129.setTop (mkF m 323 #[iv x0, iv x1, iv x2, iv x3, iv (j0_11_s0 x0 x1 x2 x3), iv (j0_24_s0 x0 x1 x2 x3), rv b5, rv b9, rv b13, rv b15, iv (1 : Int32), iv (4 : Int32), rv b22, iv (w0_214 x0 x1 x2 x3), .unset, .unset, .unset] [(.int (rI (w0_214 x0 x1 x2 x3) (j0_11_s0 x0 x1 x2 x3) (f0_54 x0 x1 x2 x3) (f0_94 x0 x1 x2 x3))), (.int (w0_311 x0 x1 x2 x3))])) st129 ?_
                by_cases hc323_130 : (w0_311 x0 x1 x2 x3) = (rI (w0_214 x0 x1 x2 x3) (j0_11_s0 x0 x1 x2 x3) (f0_54 x0 x1 x2 x3) (f0_94 x0 x1 x2 x3))
                · skip
                  refine Goes.st (B := T129.setTop (mkF m 326 #[iv x0, iv x1, iv x2, iv x3, iv (j0_11_s0 x0 x1 x2 x3), iv (j0_24_s0 x0 x1 x2 x3), rv b5, rv b9, rv b13, rv b15, iv (1 : Int32), iv (4 : Int32), rv b22, iv (w0_214 x0 x1 x2 x3), .unset, .unset, .unset] [])) (fun t k => ?_) ?_
                  · refine XS.icmpNo X129.here hx rfl (hb hby at_323) rfl (teq hc323_130).2 ?_
                    exact k
                  refine Goes.run X129 hx hown hci hcl hby (L := [(326, .iconst 1, 1), (327, .goto 4, 3)]) (by decide +kernel) rfl (g' := (mkF m 331 #[iv x0, iv x1, iv x2, iv x3, iv (j0_11_s0 x0 x1 x2 x3), iv (j0_24_s0 x0 x1 x2 x3), rv b5, rv b9, rv b13, rv b15, iv (1 : Int32), iv (4 : Int32), rv b22, iv (w0_214 x0 x1 x2 x3), .unset, .unset, .unset] [(.int (1 : Int32))])) rfl ?_
                  have q := jn331_47 _ _ X129 e129 N129
                  rw [show (j0_331_s0 x0 x1 x2 x3) = (1 : Int32) from (((((if_pos hc230_31).trans (if_pos hc247_118)).trans (if_pos hc264_121)).trans (if_pos hc281_124)).trans (if_pos hc323_130))] at q
                  exact q
                · skip
                  refine Goes.st (B := T129.setTop (mkF m 330 #[iv x0, iv x1, iv x2, iv x3, iv (j0_11_s0 x0 x1 x2 x3), iv (j0_24_s0 x0 x1 x2 x3), rv b5, rv b9, rv b13, rv b15, iv (1 : Int32), iv (4 : Int32), rv b22, iv (w0_214 x0 x1 x2 x3), .unset, .unset, .unset] [])) (fun t k => ?_) ?_
                  · refine XS.icmpYes X129.here hx rfl (pc0 := 323) (pc' := 330) rfl (hb hby at_323) rfl (feq hc323_130).2 (by decide) (by decide) ?_
                    exact k
                  refine Goes.run X129 hx hown hci hcl hby (L := [(330, .iconst 0, 1)]) (by decide +kernel) rfl (g' := (mkF m 331 #[iv x0, iv x1, iv x2, iv x3, iv (j0_11_s0 x0 x1 x2 x3), iv (j0_24_s0 x0 x1 x2 x3), rv b5, rv b9, rv b13, rv b15, iv (1 : Int32), iv (4 : Int32), rv b22, iv (w0_214 x0 x1 x2 x3), .unset, .unset, .unset] [(.int (0 : Int32))])) rfl ?_
                  have q := jn331_47 _ _ X129 e129 N129
                  rw [show (j0_331_s0 x0 x1 x2 x3) = (0 : Int32) from (((((if_pos hc230_31).trans (if_pos hc247_118)).trans (if_pos hc264_121)).trans (if_pos hc281_124)).trans (if_neg hc323_130))] at q
                  exact q
              · skip
                refine Goes.st (B := T123.setTop (mkF m 330 #[iv x0, iv x1, iv x2, iv x3, iv (j0_11_s0 x0 x1 x2 x3), iv (j0_24_s0 x0 x1 x2 x3), rv b5, rv b9, rv b13, rv b15, iv (1 : Int32), iv (4 : Int32), rv b22, iv (w0_214 x0 x1 x2 x3), .unset, .unset, .unset] [])) (fun t k => ?_) ?_
                · refine XS.icmpYes X123.here hx rfl (pc0 := 281) (pc' := 330) rfl (hb hby at_281) rfl (feq hc281_124).2 (by decide) (by decide) ?_
                  exact k
                refine Goes.run X123 hx hown hci hcl hby (L := [(330, .iconst 0, 1)]) (by decide +kernel) rfl (g' := (mkF m 331 #[iv x0, iv x1, iv x2, iv x3, iv (j0_11_s0 x0 x1 x2 x3), iv (j0_24_s0 x0 x1 x2 x3), rv b5, rv b9, rv b13, rv b15, iv (1 : Int32), iv (4 : Int32), rv b22, iv (w0_214 x0 x1 x2 x3), .unset, .unset, .unset] [(.int (0 : Int32))])) rfl ?_
                have q := jn331_47 _ _ X123 e123 N123
                rw [show (j0_331_s0 x0 x1 x2 x3) = (0 : Int32) from ((((if_pos hc230_31).trans (if_pos hc247_118)).trans (if_pos hc264_121)).trans (if_neg hc281_124))] at q
                exact q
            · skip
              refine Goes.st (B := T120.setTop (mkF m 330 #[iv x0, iv x1, iv x2, iv x3, iv (j0_11_s0 x0 x1 x2 x3), iv (j0_24_s0 x0 x1 x2 x3), rv b5, rv b9, rv b13, rv b15, iv (1 : Int32), iv (4 : Int32), rv b22, iv (w0_214 x0 x1 x2 x3), .unset, .unset, .unset] [])) (fun t k => ?_) ?_
              · refine XS.icmpYes X120.here hx rfl (pc0 := 264) (pc' := 330) rfl (hb hby at_264) rfl (feq hc264_121).2 (by decide) (by decide) ?_
                exact k
              refine Goes.run X120 hx hown hci hcl hby (L := [(330, .iconst 0, 1)]) (by decide +kernel) rfl (g' := (mkF m 331 #[iv x0, iv x1, iv x2, iv x3, iv (j0_11_s0 x0 x1 x2 x3), iv (j0_24_s0 x0 x1 x2 x3), rv b5, rv b9, rv b13, rv b15, iv (1 : Int32), iv (4 : Int32), rv b22, iv (w0_214 x0 x1 x2 x3), .unset, .unset, .unset] [(.int (0 : Int32))])) rfl ?_
              have q := jn331_47 _ _ X120 e120 N120
              rw [show (j0_331_s0 x0 x1 x2 x3) = (0 : Int32) from (((if_pos hc230_31).trans (if_pos hc247_118)).trans (if_neg hc264_121))] at q
              exact q
          · skip
            refine Goes.st (B := T117.setTop (mkF m 330 #[iv x0, iv x1, iv x2, iv x3, iv (j0_11_s0 x0 x1 x2 x3), iv (j0_24_s0 x0 x1 x2 x3), rv b5, rv b9, rv b13, rv b15, iv (1 : Int32), iv (4 : Int32), rv b22, iv (w0_214 x0 x1 x2 x3), .unset, .unset, .unset] [])) (fun t k => ?_) ?_
            · refine XS.icmpYes X117.here hx rfl (pc0 := 247) (pc' := 330) rfl (hb hby at_247) rfl (feq hc247_118).2 (by decide) (by decide) ?_
              exact k
            refine Goes.run X117 hx hown hci hcl hby (L := [(330, .iconst 0, 1)]) (by decide +kernel) rfl (g' := (mkF m 331 #[iv x0, iv x1, iv x2, iv x3, iv (j0_11_s0 x0 x1 x2 x3), iv (j0_24_s0 x0 x1 x2 x3), rv b5, rv b9, rv b13, rv b15, iv (1 : Int32), iv (4 : Int32), rv b22, iv (w0_214 x0 x1 x2 x3), .unset, .unset, .unset] [(.int (0 : Int32))])) rfl ?_
            have q := jn331_47 _ _ X117 e117 N117
            rw [show (j0_331_s0 x0 x1 x2 x3) = (0 : Int32) from ((if_pos hc230_31).trans (if_neg hc247_118))] at q
            exact q
        · skip
          refine Goes.st (B := T30.setTop (mkF m 330 #[iv x0, iv x1, iv x2, iv x3, iv (j0_11_s0 x0 x1 x2 x3), iv (j0_24_s0 x0 x1 x2 x3), rv b5, rv b9, rv b13, rv b15, iv (1 : Int32), iv (4 : Int32), rv b22, iv (w0_214 x0 x1 x2 x3), .unset, .unset, .unset] [])) (fun t k => ?_) ?_
          · refine XS.icmpYes X30.here hx rfl (pc0 := 230) (pc' := 330) rfl (hb hby at_230) rfl (feq hc230_31).2 (by decide) (by decide) ?_
            exact k
          refine Goes.run X30 hx hown hci hcl hby (L := [(330, .iconst 0, 1)]) (by decide +kernel) rfl (g' := (mkF m 331 #[iv x0, iv x1, iv x2, iv x3, iv (j0_11_s0 x0 x1 x2 x3), iv (j0_24_s0 x0 x1 x2 x3), rv b5, rv b9, rv b13, rv b15, iv (1 : Int32), iv (4 : Int32), rv b22, iv (w0_214 x0 x1 x2 x3), .unset, .unset, .unset] [(.int (0 : Int32))])) rfl ?_
          have q := jn331_47 _ _ X30 e30 N30
          rw [show (j0_331_s0 x0 x1 x2 x3) = (0 : Int32) from (if_neg hc230_31)] at q
          exact q
      · skip
        refine Goes.st (B := T19.setTop (mkF m 143 #[iv x0, iv x1, iv x2, iv x3, iv (j0_11_s0 x0 x1 x2 x3), iv (j0_24_s0 x0 x1 x2 x3), rv b5, rv b9, rv b13, rv b15, iv (1 : Int32), .unset, .unset, .unset, .unset, .unset, .unset] [])) (fun t k => ?_) ?_
        · refine XS.ifNo X19.here hx rfl (hb hby at_140) rfl ((if0 _ _).trans (feq hc140_20).1) ?_
          exact k
        refine Goes.run X19 hx hown hci hcl hby (L := [(143, .aload 8, 2), (145, .aload 7, 2)]) (by decide +kernel) rfl (g' := (mkF m 147 #[iv x0, iv x1, iv x2, iv x3, iv (j0_11_s0 x0 x1 x2 x3), iv (j0_24_s0 x0 x1 x2 x3), rv b5, rv b9, rv b13, rv b15, iv (1 : Int32), .unset, .unset, .unset, .unset, .unset, .unset] [(.ref b9), (.ref b13)])) rfl ?_
        obtain ⟨cq131, kq131, q131a, q131b, q131c⟩ := isOf hZ e19 E_b13
        obtain ⟨_, _, ⟨T131, L131, k131, n131⟩, -, X131, ⟨Lc131, hQ131, l131, y131, z131⟩, st131⟩ := X19.virtualBack hx (y := ym9) (z := ym9) hown (mvT hZ w_41) (mvT hZ w_42) (notFace_of_selects (args := #[]) (mvT hZ w_44)) (mvT hZ w_44) (mvT hZ w_43) (by decide) (backOf (W := 0) (rmD l Z a0 hw [] b13 b9 nb14 k_nb14 k9 (fC_18 (fB_30 (j0_11_s0 x0 x1 x2 x3) own_z) (f0_54 x0 x1 x2 x3)) (f0_94 x0 x1 x2 x3) h19 n0 Zn19 E_b13 F_buffer_b13 F_size_b13 V_nb14 V_b9 g_b13 g_nb14 ne_b13_nb14 ne_b9_nb14 ne_b9_b13) hZ w_45 w_4 (by decide) (by decide)) q131a q131c (g := (mkF m 147 #[iv x0, iv x1, iv x2, iv x3, iv (j0_11_s0 x0 x1 x2 x3), iv (j0_24_s0 x0 x1 x2 x3), rv b5, rv b9, rv b13, rv b15, iv (1 : Int32), .unset, .unset, .unset, .unset, .unset, .unset] [(.ref b9), (.ref b13)])) rfl (by rw [hml]; rfl) (Steps.refl _) (argsL := [(.ref b9)]) (rest := []) (lenOf pd0_3 rfl) rfl (by show 2 * 0 + _ ≤ _; exact Nat.le_of_eq rfl) (hb hby at_147) (fun _ _ => ⟨rfl, e19, (by decide : 5 + 1 ≤ _), (by decide : 817 + 512 ≤ _)⟩)
        dsimp only [Pt.U, Pt.locs, Pt.cells, Pt.slots] at X131 l131 y131 z131 st131 hQ131
        subst l131 y131 z131
        obtain ⟨h131, eh131⟩ : ∃ z, z = T131.heap := ⟨_, rfl⟩
        rw [← eh131] at hQ131
        have e131 : T131.heap = h131 := eh131.symm
        obtain ⟨nb131, k_nb131, rfl, N131q, Kq131, sq_nb131, o131_0, o131_1, o131_2, o131_3⟩ := hQ131
        have ne_b13_nb131 : b13 ≠ nb131 := Nat.ne_of_lt (Nat.lt_of_lt_of_le E_b13.lt sq_nb131)
        have ne_b15_nb131 : b15 ≠ nb131 := Nat.ne_of_lt (Nat.lt_of_lt_of_le E_b15.lt sq_nb131)
        have ne_b5_nb131 : b5 ≠ nb131 := Nat.ne_of_lt (Nat.lt_of_lt_of_le E_b5.lt sq_nb131)
        have ne_b9_nb131 : b9 ≠ nb131 := Nat.ne_of_lt (Nat.lt_of_lt_of_le E_b9.lt sq_nb131)
        have ne_nb14_nb131 : nb14 ≠ nb131 := Nat.ne_of_lt (Nat.lt_of_lt_of_le V_nb14.lt sq_nb131)
        have g_nb131 : n0 ≤ nb131 := Nat.le_trans Zn19 sq_nb131
        have N131 := Fr.app N19 N131q
        have E_b5 := E_b5.keep Kq131
        have V_b5 := V_b5.keep Kq131 (ninS ne_b5_b13 nin0)
        have E_b9 := E_b9.keep Kq131
        have V_b9 := V_b9.keep Kq131 (ninS ne_b9_b13 nin0)
        have V_nb14 := V_nb14.keep Kq131 (ninS (Ne.symm ne_b13_nb14) nin0)
        have E_b15 := E_b15.keep Kq131
        have V_b15 := V_b15.keep Kq131 (ninS (Ne.symm ne_b13_b15) nin0)
        have Zn131 : n0 ≤ h131.size := Nat.le_trans Zn19 Kq131.1
        have E_b13 : Exa Z h131 b13 "com/example/upcaster/upcaster/io/BinaryEncoder" := o131_0
        have F_buffer_b13 : Fld Z h131 b13 "com/example/upcaster/upcaster/io/BinaryEncoder" "buffer" "[B" (.ref nb131) := o131_1
        have F_size_b13 : Fld Z h131 b13 "com/example/upcaster/upcaster/io/BinaryEncoder" "size" "I" (.int (304 : Int32)) := o131_2
        have V_nb131 : Arv Z h131 nb131 k_nb131 .byte (512 : Int32) (own_fv 512 (fD_18 (fC_18 (fB_30 (j0_11_s0 x0 x1 x2 x3) own_z) (f0_54 x0 x1 x2 x3)) (f0_94 x0 x1 x2 x3))) (.int (0 : Int32)) := o131_3
        refine Goes.st (B := T131.setTop (mkF m 150 #[iv x0, iv x1, iv x2, iv x3, iv (j0_11_s0 x0 x1 x2 x3), iv (j0_24_s0 x0 x1 x2 x3), rv b5, rv b9, rv b13, rv b15, iv (1 : Int32), .unset, .unset, .unset, .unset, .unset, .unset] [])) (fun t k => st131.trans k) ?_
        refine Goes.run X131 hx hown hci hcl hby (L := [(150, .iload 5, 2)]) (by decide +kernel) rfl (g' := (mkF m 152 #[iv x0, iv x1, iv x2, iv x3, iv (j0_11_s0 x0 x1 x2 x3), iv (j0_24_s0 x0 x1 x2 x3), rv b5, rv b9, rv b13, rv b15, iv (1 : Int32), .unset, .unset, .unset, .unset, .unset, .unset] [(.int (j0_24_s0 x0 x1 x2 x3))])) rfl ?_
        have hc152_132 : ¬ ((j0_24_s0 x0 x1 x2 x3) = (0 : Int32)) := hc140_20
        refine Goes.st (B := T131.setTop (mkF m 155 #[iv x0, iv x1, iv x2, iv x3, iv (j0_11_s0 x0 x1 x2 x3), iv (j0_24_s0 x0 x1 x2 x3), rv b5, rv b9, rv b13, rv b15, iv (1 : Int32), .unset, .unset, .unset, .unset, .unset, .unset] [])) (fun t k => ?_) ?_
        · refine XS.ifNo X131.here hx rfl (hb hby at_152) rfl ((if0 _ _).trans (feq hc152_132).1) ?_
          exact k
        refine Goes.run X131 hx hown hci hcl hby (L := [(155, .sipush 304, 3), (158, .goto 4, 3), (162, .istore 11, 2), (164, .aload 8, 2)]) (by decide +kernel) rfl (g' := (mkF m 166 #[iv x0, iv x1, iv x2, iv x3, iv (j0_11_s0 x0 x1 x2 x3), iv (j0_24_s0 x0 x1 x2 x3), rv b5, rv b9, rv b13, rv b15, iv (1 : Int32), iv (304 : Int32), .unset, .unset, .unset, .unset, .unset] [(.ref b13)])) rfl ?_
        obtain ⟨cq133, kq133, q133a, q133b, q133c⟩ := isOf hZ e131 E_b13
        obtain ⟨_, _, ⟨T133, L133, k133, n133⟩, -, X133, ⟨Lc133, hQ133, l133, y133, z133⟩, st133⟩ := X131.virtualBack hx (y := ym6) (z := ym6) hown (mvT hZ w_13) (mvT hZ w_14) (notFace_of_selects (args := #[]) (mvT hZ w_16)) (mvT hZ w_16) (mvT hZ w_15) (by decide) (backOf (W := 0) (rm8_512 l Z a0 hw [] b13 nb131 k_nb131 (fD_18 (fC_18 (fB_30 (j0_11_s0 x0 x1 x2 x3) own_z) (f0_54 x0 x1 x2 x3)) (f0_94 x0 x1 x2 x3)) (304 : Int32) h131 n0 Zn131 F_buffer_b13 F_size_b13 V_nb131 (by decide) (by decide)) hZ w_17 w_4 (by decide) (by decide)) q133a q133c (g := (mkF m 166 #[iv x0, iv x1, iv x2, iv x3, iv (j0_11_s0 x0 x1 x2 x3), iv (j0_24_s0 x0 x1 x2 x3), rv b5, rv b9, rv b13, rv b15, iv (1 : Int32), iv (304 : Int32), .unset, .unset, .unset, .unset, .unset] [(.ref b13)])) rfl (by rw [hml]; rfl) (Steps.refl _) (argsL := []) (rest := []) (lenOf pd0_1 rfl) rfl (by show 2 * 0 + _ ≤ _; exact Nat.le_of_eq rfl) (hb hby at_166) (fun _ _ => ⟨rfl, e131, (by decide : 6 + 1 ≤ _), (by decide : 1329 + 512 ≤ _)⟩)
        dsimp only [Pt.U, Pt.locs, Pt.cells, Pt.slots] at X133 l133 y133 z133 st133 hQ133
        subst l133 y133 z133
        obtain ⟨h133, eh133⟩ : ∃ z, z = T133.heap := ⟨_, rfl⟩
        rw [← eh133] at hQ133
        have e133 : T133.heap = h133 := eh133.symm
        obtain ⟨b133, kc133, rfl, N133q, Kq133, szq133, o133_0, o133_1⟩ := hQ133
        have ne_b13_b133 : b13 ≠ b133 := Nat.ne_of_lt (Nat.lt_of_lt_of_le E_b13.lt szq133)
        have ne_b15_b133 : b15 ≠ b133 := Nat.ne_of_lt (Nat.lt_of_lt_of_le E_b15.lt szq133)
        have ne_b5_b133 : b5 ≠ b133 := Nat.ne_of_lt (Nat.lt_of_lt_of_le E_b5.lt szq133)
        have ne_b9_b133 : b9 ≠ b133 := Nat.ne_of_lt (Nat.lt_of_lt_of_le E_b9.lt szq133)
        have ne_nb131_b133 : nb131 ≠ b133 := Nat.ne_of_lt (Nat.lt_of_lt_of_le V_nb131.lt szq133)
        have ne_nb14_b133 : nb14 ≠ b133 := Nat.ne_of_lt (Nat.lt_of_lt_of_le V_nb14.lt szq133)
        have g_b133 : n0 ≤ b133 := Nat.le_trans Zn131 szq133
        have N133 := Fr.app N131 N133q
        have E_b5 := E_b5.keep Kq133
        have V_b5 := V_b5.keep Kq133 nin0
        have E_b9 := E_b9.keep Kq133
        have V_b9 := V_b9.keep Kq133 nin0
        have E_b13 := E_b13.keep Kq133
        have F_buffer_b13 := F_buffer_b13.keep Kq133 nin0
        have F_size_b13 := F_size_b13.keep Kq133 nin0
        have V_nb14 := V_nb14.keep Kq133 nin0
        have E_b15 := E_b15.keep Kq133
        have V_b15 := V_b15.keep Kq133 nin0
        have V_nb131 := V_nb131.keep Kq133 nin0
        have E_b133 : Exa Z h133 b133 "[B" := o133_0
        have V_b133 : Arv Z h133 b133 kc133 .byte (304 : Int32) (own_fv ((304 : Int32)).toNatClampNeg (f5_512_28 (304 : Int32) (fD_18 (fC_18 (fB_30 (j0_11_s0 x0 x1 x2 x3) own_z) (f0_54 x0 x1 x2 x3)) (f0_94 x0 x1 x2 x3)))) (.int (0 : Int32)) := o133_1
        have Zn133 : n0 ≤ h133.size := Nat.le_trans Zn131 Kq133.1
        refine Goes.st (B := T133.setTop (mkF m 169 #[iv x0, iv x1, iv x2, iv x3, iv (j0_11_s0 x0 x1 x2 x3), iv (j0_24_s0 x0 x1 x2 x3), rv b5, rv b9, rv b13, rv b15, iv (1 : Int32), iv (304 : Int32), .unset, .unset, .unset, .unset, .unset] [(.ref b133)])) (fun t k => st133.trans k) ?_
        refine Goes.run X133 hx hown hci hcl hby (L := [(169, .astore 12, 2), (171, .iload 10, 2)]) (by decide +kernel) rfl (g' := (mkF m 173 #[iv x0, iv x1, iv x2, iv x3, iv (j0_11_s0 x0 x1 x2 x3), iv (j0_24_s0 x0 x1 x2 x3), rv b5, rv b9, rv b13, rv b15, iv (1 : Int32), iv (304 : Int32), rv b133, .unset, .unset, .unset, .unset] [(.int (1 : Int32))])) rfl ?_
        have hc173_134 : ¬ ((1 : Int32) = (0 : Int32)) := by decide
        refine Goes.st (B := T133.setTop (mkF m 176 #[iv x0, iv x1, iv x2, iv x3, iv (j0_11_s0 x0 x1 x2 x3), iv (j0_24_s0 x0 x1 x2 x3), rv b5, rv b9, rv b13, rv b15, iv (1 : Int32), iv (304 : Int32), rv b133, .unset, .unset, .unset, .unset] [])) (fun t k => ?_) ?_
        · refine XS.ifNo X133.here hx rfl (hb hby at_173) rfl ((if0 _ _).trans (feq hc173_134).1) ?_
          exact k
        refine Goes.run X133 hx hown hci hcl hby (L := [(176, .aload 12, 2)]) (by decide +kernel) rfl (g' := (mkF m 178 #[iv x0, iv x1, iv x2, iv x3, iv (j0_11_s0 x0 x1 x2 x3), iv (j0_24_s0 x0 x1 x2 x3), rv b5, rv b9, rv b13, rv b15, iv (1 : Int32), iv (304 : Int32), rv b133, .unset, .unset, .unset, .unset] [(.ref b133)])) rfl ?_
        obtain ⟨cl135, Ar135, q135, S135, M135, Hs135, G135⟩ := id V_b133
        refine Goes.st (B := T133.setTop (mkF m 179 #[iv x0, iv x1, iv x2, iv x3, iv (j0_11_s0 x0 x1 x2 x3), iv (j0_24_s0 x0 x1 x2 x3), rv b5, rv b9, rv b13, rv b15, iv (1 : Int32), iv (304 : Int32), rv b133, .unset, .unset, .unset, .unset] [(.int (304 : Int32))])) (fun t k => ?_) ?_
        · refine X133.arraylength hx (cell := cl135) (by rw [e133]; exact Ar135.1) (State.isArrayOf_alike hZ.alike Ar135.2.1) (g := (mkF m 178 #[iv x0, iv x1, iv x2, iv x3, iv (j0_11_s0 x0 x1 x2 x3), iv (j0_24_s0 x0 x1 x2 x3), rv b5, rv b9, rv b13, rv b15, iv (1 : Int32), iv (304 : Int32), rv b133, .unset, .unset, .unset, .unset] [(.ref b133)])) rfl (rest := []) rfl (hb hby at_178) _ ?_
          rw [len_of S135 M135]
          exact k
        refine Goes.run X133 hx hown hci hcl hby (L := [(179, .iload 11, 2)]) (by decide +kernel) rfl (g' := (mkF m 181 #[iv x0, iv x1, iv x2, iv x3, iv (j0_11_s0 x0 x1 x2 x3), iv (j0_24_s0 x0 x1 x2 x3), rv b5, rv b9, rv b13, rv b15, iv (1 : Int32), iv (304 : Int32), rv b133, .unset, .unset, .unset, .unset] [(.int (304 : Int32)), (.int (304 : Int32))])) rfl ?_
        have hc181_136 : (304 : Int32) = (304 : Int32) := rfl
        refine Goes.st (B := T133.setTop (mkF m 184 #[iv x0, iv x1, iv x2, iv x3, iv (j0_11_s0 x0 x1 x2 x3), iv (j0_24_s0 x0 x1 x2 x3), rv b5, rv b9, rv b13, rv b15, iv (1 : Int32), iv (304 : Int32), rv b133, .unset, .unset, .unset, .unset] [])) (fun t k => ?_) ?_
        · refine XS.icmpNo X133.here hx rfl (hb hby at_181) rfl (teq hc181_136).2 ?_
          exact k
        refine Goes.run X133 hx hown hci hcl hby (L := [(184, .aload 8, 2)]) (by decide +kernel) rfl (g' := (mkF m 186 #[iv x0, iv x1, iv x2, iv x3, iv (j0_11_s0 x0 x1 x2 x3), iv (j0_24_s0 x0 x1 x2 x3), rv b5, rv b9, rv b13, rv b15, iv (1 : Int32), iv (304 : Int32), rv b133, .unset, .unset, .unset, .unset] [(.ref b13)])) rfl ?_
        obtain ⟨cq137, kq137, q137a, q137b, q137c⟩ := isOf hZ e133 E_b13
        obtain ⟨_, _, ⟨T137, L137, k137, n137⟩, -, X137, ⟨Lc137, hQ137, l137, y137, z137⟩, st137⟩ := X133.virtualBack hx (y := ym13) (z := ym13) hown (mvT hZ w_61) (mvT hZ w_62) (notFace_of_selects (args := #[]) (mvT hZ w_64)) (mvT hZ w_64) (mvT hZ w_63) (by decide) (backOf (W := 0) (rmH l Z a0 hw [] b13 (304 : Int32) h133 n0 Zn133 F_size_b13) hZ w_65 w_4 (by decide) (by decide)) q137a q137c (g := (mkF m 186 #[iv x0, iv x1, iv x2, iv x3, iv (j0_11_s0 x0 x1 x2 x3), iv (j0_24_s0 x0 x1 x2 x3), rv b5, rv b9, rv b13, rv b15, iv (1 : Int32), iv (304 : Int32), rv b133, .unset, .unset, .unset, .unset] [(.ref b13)])) rfl (by rw [hml]; rfl) (Steps.refl _) (argsL := []) (rest := []) (lenOf pd0_4 rfl) rfl (by show 2 * 0 + _ ≤ _; exact Nat.le_of_eq rfl) (hb hby at_186) (fun _ _ => ⟨rfl, e133, (by decide : 7 + 0 ≤ _), (by decide : 1841 + 0 ≤ _)⟩)
        dsimp only [Pt.U, Pt.locs, Pt.cells, Pt.slots] at X137 l137 y137 z137 st137 hQ137
        subst l137 y137 z137
        obtain ⟨rfl, N137q, e137⟩ := hQ137
        have N137 := Fr.app N133 N137q
        refine Goes.st (B := T137.setTop (mkF m 189 #[iv x0, iv x1, iv x2, iv x3, iv (j0_11_s0 x0 x1 x2 x3), iv (j0_24_s0 x0 x1 x2 x3), rv b5, rv b9, rv b13, rv b15, iv (1 : Int32), iv (304 : Int32), rv b133, .unset, .unset, .unset, .unset] [(.int (304 : Int32))])) (fun t k => st137.trans k) ?_
        refine Goes.run X137 hx hown hci hcl hby (L := [(189, .iload 11, 2)]) (by decide +kernel) rfl (g' := (mkF m 191 #[iv x0, iv x1, iv x2, iv x3, iv (j0_11_s0 x0 x1 x2 x3), iv (j0_24_s0 x0 x1 x2 x3), rv b5, rv b9, rv b13, rv b15, iv (1 : Int32), iv (304 : Int32), rv b133, .unset, .unset, .unset, .unset] [(.int (304 : Int32)), (.int (304 : Int32))])) rfl ?_
        have hc191_138 : (304 : Int32) = (304 : Int32) := rfl
        refine Goes.st (B := T137.setTop (mkF m 194 #[iv x0, iv x1, iv x2, iv x3, iv (j0_11_s0 x0 x1 x2 x3), iv (j0_24_s0 x0 x1 x2 x3), rv b5, rv b9, rv b13, rv b15, iv (1 : Int32), iv (304 : Int32), rv b133, .unset, .unset, .unset, .unset] [])) (fun t k => ?_) ?_
        · refine XS.icmpNo X137.here hx rfl (hb hby at_191) rfl (teq hc191_138).2 ?_
          exact k
        refine Goes.run X137 hx hown hci hcl hby (L := [(194, .iconst 1, 1), (195, .goto 4, 3), (199, .istore 10, 2), (201, .iload 10, 2)]) (by decide +kernel) rfl (g' := (mkF m 203 #[iv x0, iv x1, iv x2, iv x3, iv (j0_11_s0 x0 x1 x2 x3), iv (j0_24_s0 x0 x1 x2 x3), rv b5, rv b9, rv b13, rv b15, iv (1 : Int32), iv (304 : Int32), rv b133, .unset, .unset, .unset, .unset] [(.int (1 : Int32))])) rfl ?_
        have hc203_139 : ¬ ((1 : Int32) = (0 : Int32)) := by decide
        refine Goes.st (B := T137.setTop (mkF m 208 #[iv x0, iv x1, iv x2, iv x3, iv (j0_11_s0 x0 x1 x2 x3), iv (j0_24_s0 x0 x1 x2 x3), rv b5, rv b9, rv b13, rv b15, iv (1 : Int32), iv (304 : Int32), rv b133, .unset, .unset, .unset, .unset] [])) (fun t k => ?_) ?_
        · refine XS.ifYes X137.here hx rfl (pc0 := 203) (pc' := 208) rfl (hb hby at_203) rfl ((if0 _ _).trans (feq hc203_139).2) (by decide) (by decide) ?_
          exact k
        refine Goes.run X137 hx hown hci hcl hby (L := [(208, .iload_n 3, 1), (209, .iconst 3, 1), (210, .iushr, 1), (211, .iload 11, 2), (213, .irem, 1), (214, .istore 13, 2)]) (by decide +kernel) rfl (g' := (mkF m 216 #[iv x0, iv x1, iv x2, iv x3, iv (j0_11_s0 x0 x1 x2 x3), iv (j0_24_s0 x0 x1 x2 x3), rv b5, rv b9, rv b13, rv b15, iv (1 : Int32), iv (304 : Int32), rv b133, iv (w0_214_a x0 x1 x2 x3), .unset, .unset, .unset] [])) rfl ?_
        refine Goes.run X137 hx hown hci hcl hby (L := [(216, .aload 12, 2), (218, .iconst 0, 1)]) (by decide +kernel) rfl (g' := (mkF m 219 #[iv x0, iv x1, iv x2, iv x3, iv (j0_11_s0 x0 x1 x2 x3), iv (j0_24_s0 x0 x1 x2 x3), rv b5, rv b9, rv b13, rv b15, iv (1 : Int32), iv (304 : Int32), rv b133, iv (w0_214_a x0 x1 x2 x3), .unset, .unset, .unset] [(.int (0 : Int32)), (.ref b133)])) rfl ?_
        obtain ⟨cl140, Ar140, q140, S140, M140, Hs140, G140⟩ := id V_b133
        have hin140 : ¬ ((0 : Int32) < 0 ∨ cl140.slots.size ≤ ((0 : Int32)).toNatClampNeg) := inb_of S140 ⟨(by decide), (by decide)⟩
        have hat140 : cl140.slots[((0 : Int32)).toNatClampNeg]? = some (.int (w0_219_a x0 x1 x2 x3)) := Hs140.at hin140 ((own_fget ((304 : Int32)).toNatClampNeg (f5_512_28 (304 : Int32) (fD_18 (fC_18 (fB_30 (j0_11_s0 x0 x1 x2 x3) own_z) (f0_54 x0 x1 x2 x3)) (f0_94 x0 x1 x2 x3))) 0 _).trans (if_pos (by decide)))
        refine Goes.st (B := T137.setTop (mkF m 220 #[iv x0, iv x1, iv x2, iv x3, iv (j0_11_s0 x0 x1 x2 x3), iv (j0_24_s0 x0 x1 x2 x3), rv b5, rv b9, rv b13, rv b15, iv (1 : Int32), iv (304 : Int32), rv b133, iv (w0_214_a x0 x1 x2 x3), .unset, .unset, .unset] [(.int (w0_219_a x0 x1 x2 x3))])) (X137.baloadBytes hx (j := (0 : Int32)) (v := (.int (w0_219_a x0 x1 x2 x3))) (by rw [e137]; exact Ar140.1) (State.isArrayOf_alike hZ.alike Ar140.2.1) Ar140.2.2 hin140 hat140 (g := (mkF m 219 #[iv x0, iv x1, iv x2, iv x3, iv (j0_11_s0 x0 x1 x2 x3), iv (j0_24_s0 x0 x1 x2 x3), rv b5, rv b9, rv b13, rv b15, iv (1 : Int32), iv (304 : Int32), rv b133, iv (w0_214_a x0 x1 x2 x3), .unset, .unset, .unset] [(.int (0 : Int32)), (.ref b133)])) rfl rfl (hb hby at_219)) ?_
        refine Goes.run X137 hx hown hci hcl hby (L := [(220, .iconst 0, 1), (221, .iload 4, 2), (223, .aload 6, 2), (225, .aload 7, 2)]) (by decide +kernel) rfl (g' := (mkF m 227 #[iv x0, iv x1, iv x2, iv x3, iv (j0_11_s0 x0 x1 x2 x3), iv (j0_24_s0 x0 x1 x2 x3), rv b5, rv b9, rv b13, rv b15, iv (1 : Int32), iv (304 : Int32), rv b133, iv (w0_214_a x0 x1 x2 x3), .unset, .unset, .unset] [(.ref b9), (.ref b5), (.int (j0_11_s0 x0 x1 x2 x3)), (.int (0 : Int32)), (.int (w0_219_a x0 x1 x2 x3))])) rfl ?_
        obtain ⟨_, _, ⟨T141, L141, k141, n141⟩, -, X141, ⟨Lc141, hQ141, l141, y141, z141⟩, st141⟩ := Jvm.LawKit.callS X137 hx (y := ym14) hown (mvT hZ w_66) (mvT hZ w_67) (mvT hZ w_68) (mvT hZ w_69) (by decide) (backOf (W := 1) (rmI l Z a0 hw [] (0 : Int32) (j0_11_s0 x0 x1 x2 x3) b5 b9 k5 k9 (f0_54 x0 x1 x2 x3) (f0_94 x0 x1 x2 x3) h133 n0 Zn133 V_b5 V_b9 (by decide) (by decide) (own_hA x0 x1 x2 x3) (own_hB x0 x1 x2 x3)) hZ w_69 w_68 (by decide) (by decide)) (g := (mkF m 227 #[iv x0, iv x1, iv x2, iv x3, iv (j0_11_s0 x0 x1 x2 x3), iv (j0_24_s0 x0 x1 x2 x3), rv b5, rv b9, rv b13, rv b15, iv (1 : Int32), iv (304 : Int32), rv b133, iv (w0_214_a x0 x1 x2 x3), .unset, .unset, .unset] [(.ref b9), (.ref b5), (.int (j0_11_s0 x0 x1 x2 x3)), (.int (0 : Int32)), (.int (w0_219_a x0 x1 x2 x3))])) rfl (by rw [hml]; rfl) (argsL := [(.int (0 : Int32)), (.int (j0_11_s0 x0 x1 x2 x3)), (.ref b5), (.ref b9)]) (rest := [(.int (w0_219_a x0 x1 x2 x3))]) (lenOf pd0_5 rfl) rfl (by show 2 * 0 + _ ≤ _; exact Nat.le_of_eq rfl) (hb hby at_227) (fun _ _ => ⟨rfl, e137, (by decide : 7 + 0 ≤ _), (by decide : 1841 + 0 ≤ _)⟩)
        dsimp only [Pt.U, Pt.locs, Pt.cells, Pt.slots] at X141 l141 y141 z141 st141 hQ141
        subst l141 y141 z141
        obtain ⟨rfl, N141q, e141⟩ := hQ141
        have N141 := Fr.app N137 N141q
        refine Goes.st (B := T141.setTop (mkF m 230 #[iv x0, iv x1, iv x2, iv x3, iv (j0_11_s0 x0 x1 x2 x3), iv (j0_24_s0 x0 x1 x2 x3), rv b5, rv b9, rv b13, rv b15, iv (1 : Int32), iv (304 : Int32), rv b133, iv (w0_214_a x0 x1 x2 x3), .unset, .unset, .unset] [(.int (rI (0 : Int32) (j0_11_s0 x0 x1 x2 x3) (f0_54 x0 x1 x2 x3) (f0_94 x0 x1 x2 x3))), (.int (w0_219_a x0 x1 x2 x3))])) st141 ?_
        have jn331_158 : ∀ (T159 : State) (L159 : List Loc) (X159 : Stand p l e room_1 s m #[(.int x0), (.int x1), (.int x2), (.int x3)] below meth c T159 L159 7 1841) (e159 : T159.heap = h133) (N159 : Fr n0 L159), Goes p e below s (QL (some (.int (r0 x0 x1 x2 x3))) n0) room_1.cells room_1.slots (T159.setTop (mkF m 331 #[iv x0, iv x1, iv x2, iv x3, iv (j0_11_s0 x0 x1 x2 x3), iv (j0_24_s0 x0 x1 x2 x3), rv b5, rv b9, rv b13, rv b15, iv (1 : Int32), iv (304 : Int32), rv b133, iv (w0_214_a x0 x1 x2 x3), .unset, .unset, .unset] [(.int (j0_331_s0_a x0 x1 x2 x3))])) := by
          intro T159 L159 X159 e159 N159
          refine Goes.run X159 hx hown hci hcl hby (L := [(331, .istore 10, 2), (333, .aload 12, 2), (335, .iconst 0, 1), (336, .aload 12, 2), (338, .iconst 0, 1)]) (by decide +kernel) rfl (g' := (mkF m 339 #[iv x0, iv x1, iv x2, iv x3, iv (j0_11_s0 x0 x1 x2 x3), iv (j0_24_s0 x0 x1 x2 x3), rv b5, rv b9, rv b13, rv b15, iv (j0_331_s0_a x0 x1 x2 x3), iv (304 : Int32), rv b133, iv (w0_214_a x0 x1 x2 x3), .unset, .unset, .unset] [(.int (0 : Int32)), (.ref b133), (.int (0 : Int32)), (.ref b133)])) rfl ?_
          obtain ⟨cl160, Ar160, q160, S160, M160, Hs160, G160⟩ := id V_b133
          have hin160 : ¬ ((0 : Int32) < 0 ∨ cl160.slots.size ≤ ((0 : Int32)).toNatClampNeg) := inb_of S160 ⟨(by decide), (by decide)⟩
          have hat160 : cl160.slots[((0 : Int32)).toNatClampNeg]? = some (.int (w0_219_a x0 x1 x2 x3)) := Hs160.at hin160 ((own_fget ((304 : Int32)).toNatClampNeg (f5_512_28 (304 : Int32) (fD_18 (fC_18 (fB_30 (j0_11_s0 x0 x1 x2 x3) own_z) (f0_54 x0 x1 x2 x3)) (f0_94 x0 x1 x2 x3))) 0 _).trans (if_pos (by decide)))
          refine Goes.st (B := T159.setTop (mkF m 340 #[iv x0, iv x1, iv x2, iv x3, iv (j0_11_s0 x0 x1 x2 x3), iv (j0_24_s0 x0 x1 x2 x3), rv b5, rv b9, rv b13, rv b15, iv (j0_331_s0_a x0 x1 x2 x3), iv (304 : Int32), rv b133, iv (w0_214_a x0 x1 x2 x3), .unset, .unset, .unset] [(.int (w0_219_a x0 x1 x2 x3)), (.int (0 : Int32)), (.ref b133)])) (X159.baloadBytes hx (j := (0 : Int32)) (v := (.int (w0_219_a x0 x1 x2 x3))) (by rw [e159]; exact Ar160.1) (State.isArrayOf_alike hZ.alike Ar160.2.1) Ar160.2.2 hin160 hat160 (g := (mkF m 339 #[iv x0, iv x1, iv x2, iv x3, iv (j0_11_s0 x0 x1 x2 x3), iv (j0_24_s0 x0 x1 x2 x3), rv b5, rv b9, rv b13, rv b15, iv (j0_331_s0_a x0 x1 x2 x3), iv (304 : Int32), rv b133, iv (w0_214_a x0 x1 x2 x3), .unset, .unset, .unset] [(.int (0 : Int32)), (.ref b133), (.int (0 : Int32)), (.ref b133)])) rfl rfl (hb hby at_339)) ?_
          refine Goes.run X159 hx hown hci hcl hby (L := [(340, .bipush 90, 2), (342, .ixor, 1), (343, .i2b, 1)]) (by decide +kernel) rfl (g' := (mkF m 344 #[iv x0, iv x1, iv x2, iv x3, iv (j0_11_s0 x0 x1 x2 x3), iv (j0_24_s0 x0 x1 x2 x3), rv b5, rv b9, rv b13, rv b15, iv (j0_331_s0_a x0 x1 x2 x3), iv (304 : Int32), rv b133, iv (w0_214_a x0 x1 x2 x3), .unset, .unset, .unset] [(.int (((w0_219_a x0 x1 x2 x3) ^^^ (90 : Int32)).toInt8.toInt32)), (.int (0 : Int32)), (.ref b133)])) rfl ?_
          obtain ⟨cl161, Ar161, q161, S161, M161, Hs161, G161⟩ := id V_b133
          have hin161 : ¬ ((0 : Int32) < 0 ∨ cl161.slots.size ≤ ((0 : Int32)).toNatClampNeg) := inb_of S161 ⟨(by decide), (by decide)⟩
          obtain ⟨T161, h161, X161, e161, W161, st161⟩ := stB X159 hx hZ e159 Ar161 (j := (0 : Int32)) hin161 (g := (mkF m 344 #[iv x0, iv x1, iv x2, iv x3, iv (j0_11_s0 x0 x1 x2 x3), iv (j0_24_s0 x0 x1 x2 x3), rv b5, rv b9, rv b13, rv b15, iv (j0_331_s0_a x0 x1 x2 x3), iv (304 : Int32), rv b133, iv (w0_214_a x0 x1 x2 x3), .unset, .unset, .unset] [(.int (((w0_219_a x0 x1 x2 x3) ^^^ (90 : Int32)).toInt8.toInt32)), (.int (0 : Int32)), (.ref b133)])) rfl rfl (hb hby at_344)
          have E_b5 := E_b5.wr W161
          have V_b5 := V_b5.other W161 ne_b5_b133
          have E_b9 := E_b9.wr W161
          have V_b9 := V_b9.other W161 ne_b9_b133
          have E_b13 := E_b13.wr W161
          have F_buffer_b13 := F_buffer_b13.other W161 (Or.inl ne_b13_b133)
          have F_size_b13 := F_size_b13.other W161 (Or.inl ne_b13_b133)
          have V_nb14 := V_nb14.other W161 ne_nb14_b133
          have E_b15 := E_b15.wr W161
          have V_b15 := V_b15.other W161 ne_b15_b133
          have V_nb131 := V_nb131.other W161 ne_nb131_b133
          have E_b133 := E_b133.wr W161
          have Zn161 : n0 ≤ h161.size := Nat.le_trans Zn133 (Keep.of_wr W161).1
          have N161 := Fr.snoc X161 N159 g_b133
          have V_b133 : Arv Z h161 b133 kc133 .byte (304 : Int32) (own_fv ((304 : Int32)).toNatClampNeg (f0_344_a x0 x1 x2 x3)) (.int (0 : Int32)) := (Arv.set Ar161 q161 S161 M161 Hs161 G161 (fits_nar_byte _) W161 0 rfl (by rw [own_flen]; exact (by decide))).pad (own_fset ((304 : Int32)).toNatClampNeg (f5_512_28 (304 : Int32) (fD_18 (fC_18 (fB_30 (j0_11_s0 x0 x1 x2 x3) own_z) (f0_54 x0 x1 x2 x3)) (f0_94 x0 x1 x2 x3))) 0 (w0_344_a x0 x1 x2 x3) (by decide))
          refine Goes.st (B := T161.setTop (mkF m 345 #[iv x0, iv x1, iv x2, iv x3, iv (j0_11_s0 x0 x1 x2 x3), iv (j0_24_s0 x0 x1 x2 x3), rv b5, rv b9, rv b13, rv b15, iv (j0_331_s0_a x0 x1 x2 x3), iv (304 : Int32), rv b133, iv (w0_214_a x0 x1 x2 x3), .unset, .unset, .unset] [])) st161 ?_
          refine Goes.run X161 hx hown hci hcl hby (L := [(345, .aload 12, 2), (347, .iload 11, 2), (349, .iconst 1, 1), (350, .isub, 1), (351, .aload 12, 2), (353, .iload 11, 2)]) (by decide +kernel) rfl (g' := (mkF m 355 #[iv x0, iv x1, iv x2, iv x3, iv (j0_11_s0 x0 x1 x2 x3), iv (j0_24_s0 x0 x1 x2 x3), rv b5, rv b9, rv b13, rv b15, iv (j0_331_s0_a x0 x1 x2 x3), iv (304 : Int32), rv b133, iv (w0_214_a x0 x1 x2 x3), .unset, .unset, .unset] [(.int (304 : Int32)), (.ref b133), (.int (303 : Int32)), (.ref b133)])) rfl ?_
          refine Goes.run X161 hx hown hci hcl hby (L := [(355, .iconst 1, 1), (356, .isub, 1)]) (by decide +kernel) rfl (g' := (mkF m 357 #[iv x0, iv x1, iv x2, iv x3, iv (j0_11_s0 x0 x1 x2 x3), iv (j0_24_s0 x0 x1 x2 x3), rv b5, rv b9, rv b13, rv b15, iv (j0_331_s0_a x0 x1 x2 x3), iv (304 : Int32), rv b133, iv (w0_214_a x0 x1 x2 x3), .unset, .unset, .unset] [(.int (303 : Int32)), (.ref b133), (.int (303 : Int32)), (.ref b133)])) rfl ?_
          obtain ⟨cl162, Ar162, q162, S162, M162, Hs162, G162⟩ := id V_b133
          have hin162 : ¬ ((303 : Int32) < 0 ∨ cl162.slots.size ≤ ((303 : Int32)).toNatClampNeg) := inb_of S162 ⟨(by decide), (by decide)⟩
          have hat162 : cl162.slots[((303 : Int32)).toNatClampNeg]? = some (.int (w0_357_a x0 x1 x2 x3)) := Hs162.at hin162 ((own_fget ((304 : Int32)).toNatClampNeg (f0_344_a x0 x1 x2 x3) 303 _).trans (if_pos (by decide)))
          refine Goes.st (B := T161.setTop (mkF m 358 #[iv x0, iv x1, iv x2, iv x3, iv (j0_11_s0 x0 x1 x2 x3), iv (j0_24_s0 x0 x1 x2 x3), rv b5, rv b9, rv b13, rv b15, iv (j0_331_s0_a x0 x1 x2 x3), iv (304 : Int32), rv b133, iv (w0_214_a x0 x1 x2 x3), .unset, .unset, .unset] [(.int (w0_357_a x0 x1 x2 x3)), (.int (303 : Int32)), (.ref b133)])) (X161.baloadBytes hx (j := (303 : Int32)) (v := (.int (w0_357_a x0 x1 x2 x3))) (by rw [e161]; exact Ar162.1) (State.isArrayOf_alike hZ.alike Ar162.2.1) Ar162.2.2 hin162 hat162 (g := (mkF m 357 #[iv x0, iv x1, iv x2, iv x3, iv (j0_11_s0 x0 x1 x2 x3), iv (j0_24_s0 x0 x1 x2 x3), rv b5, rv b9, rv b13, rv b15, iv (j0_331_s0_a x0 x1 x2 x3), iv (304 : Int32), rv b133, iv (w0_214_a x0 x1 x2 x3), .unset, .unset, .unset] [(.int (303 : Int32)), (.ref b133), (.int (303 : Int32)), (.ref b133)])) rfl rfl (hb hby at_357)) ?_
          refine Goes.run X161 hx hown hci hcl hby (L := [(358, .bipush 51, 2), (360, .ixor, 1), (361, .i2b, 1)]) (by decide +kernel) rfl (g' := (mkF m 362 #[iv x0, iv x1, iv x2, iv x3, iv (j0_11_s0 x0 x1 x2 x3), iv (j0_24_s0 x0 x1 x2 x3), rv b5, rv b9, rv b13, rv b15, iv (j0_331_s0_a x0 x1 x2 x3), iv (304 : Int32), rv b133, iv (w0_214_a x0 x1 x2 x3), .unset, .unset, .unset] [(.int (((w0_357_a x0 x1 x2 x3) ^^^ (51 : Int32)).toInt8.toInt32)), (.int (303 : Int32)), (.ref b133)])) rfl ?_
          obtain ⟨cl163, Ar163, q163, S163, M163, Hs163, G163⟩ := id V_b133
          have hin163 : ¬ ((303 : Int32) < 0 ∨ cl163.slots.size ≤ ((303 : Int32)).toNatClampNeg) := inb_of S163 ⟨(by decide), (by decide)⟩
          obtain ⟨T163, h163, X163, e163, W163, st163⟩ := stB X161 hx hZ e161 Ar163 (j := (303 : Int32)) hin163 (g := (mkF m 362 #[iv x0, iv x1, iv x2, iv x3, iv (j0_11_s0 x0 x1 x2 x3), iv (j0_24_s0 x0 x1 x2 x3), rv b5, rv b9, rv b13, rv b15, iv (j0_331_s0_a x0 x1 x2 x3), iv (304 : Int32), rv b133, iv (w0_214_a x0 x1 x2 x3), .unset, .unset, .unset] [(.int (((w0_357_a x0 x1 x2 x3) ^^^ (51 : Int32)).toInt8.toInt32)), (.int (303 : Int32)), (.ref b133)])) rfl rfl (hb hby at_362)
          have E_b5 := E_b5.wr W163
          have V_b5 := V_b5.other W163 ne_b5_b133
          have E_b9 := E_b9.wr W163
          have V_b9 := V_b9.other W163 ne_b9_b133
          have E_b13 := E_b13.wr W163
          have F_buffer_b13 := F_buffer_b13.other W163 (Or.inl ne_b13_b133)
          have F_size_b13 := F_size_b13.other W163 (Or.inl ne_b13_b133)
          have V_nb14 := V_nb14.other W163 ne_nb14_b133
          have E_b15 := E_b15.wr W163
          have V_b15 := V_b15.other W163 ne_b15_b133
          have V_nb131 := V_nb131.other W163 ne_nb131_b133
          have E_b133 := E_b133.wr W163
          have Zn163 : n0 ≤ h163.size := Nat.le_trans Zn161 (Keep.of_wr W163).1
          have N163 := Fr.snoc X163 N161 g_b133
          have V_b133 : Arv Z h163 b133 kc133 .byte (304 : Int32) (own_fv ((304 : Int32)).toNatClampNeg (f0_362_a x0 x1 x2 x3)) (.int (0 : Int32)) := (Arv.set Ar163 q163 S163 M163 Hs163 G163 (fits_nar_byte _) W163 303 rfl (by rw [own_flen]; exact (by decide))).pad (own_fset ((304 : Int32)).toNatClampNeg (f0_344_a x0 x1 x2 x3) 303 (w0_362_a x0 x1 x2 x3) (by decide))
          refine Goes.st (B := T163.setTop (mkF m 363 #[iv x0, iv x1, iv x2, iv x3, iv (j0_11_s0 x0 x1 x2 x3), iv (j0_24_s0 x0 x1 x2 x3), rv b5, rv b9, rv b13, rv b15, iv (j0_331_s0_a x0 x1 x2 x3), iv (304 : Int32), rv b133, iv (w0_214_a x0 x1 x2 x3), .unset, .unset, .unset] [])) st163 ?_
          refine Goes.run X163 hx hown hci hcl hby (L := [(363, .aload 8, 2)]) (by decide +kernel) rfl (g' := (mkF m 365 #[iv x0, iv x1, iv x2, iv x3, iv (j0_11_s0 x0 x1 x2 x3), iv (j0_24_s0 x0 x1 x2 x3), rv b5, rv b9, rv b13, rv b15, iv (j0_331_s0_a x0 x1 x2 x3), iv (304 : Int32), rv b133, iv (w0_214_a x0 x1 x2 x3), .unset, .unset, .unset] [(.ref b13)])) rfl ?_
          obtain ⟨cq164, kq164, q164a, q164b, q164c⟩ := isOf hZ e163 E_b13
          obtain ⟨_, _, ⟨T164, L164, k164, n164⟩, -, X164, ⟨Lc164, hQ164, l164, y164, z164⟩, st164⟩ := X163.virtualBack hx (y := ym6) (z := ym6) hown (mvT hZ w_13) (mvT hZ w_14) (notFace_of_selects (args := #[]) (mvT hZ w_16)) (mvT hZ w_16) (mvT hZ w_15) (by decide) (backOf (W := 0) (rm8_512 l Z a0 hw [] b13 nb131 k_nb131 (fD_18 (fC_18 (fB_30 (j0_11_s0 x0 x1 x2 x3) own_z) (f0_54 x0 x1 x2 x3)) (f0_94 x0 x1 x2 x3)) (304 : Int32) h163 n0 Zn163 F_buffer_b13 F_size_b13 V_nb131 (by decide) (by decide)) hZ w_17 w_4 (by decide) (by decide)) q164a q164c (g := (mkF m 365 #[iv x0, iv x1, iv x2, iv x3, iv (j0_11_s0 x0 x1 x2 x3), iv (j0_24_s0 x0 x1 x2 x3), rv b5, rv b9, rv b13, rv b15, iv (j0_331_s0_a x0 x1 x2 x3), iv (304 : Int32), rv b133, iv (w0_214_a x0 x1 x2 x3), .unset, .unset, .unset] [(.ref b13)])) rfl (by rw [hml]; rfl) (Steps.refl _) (argsL := []) (rest := []) (lenOf pd0_1 rfl) rfl (by show 2 * 0 + _ ≤ _; exact Nat.le_of_eq rfl) (hb hby at_365) (fun _ _ => ⟨rfl, e163, (by decide : 7 + 1 ≤ _), (by decide : 1841 + 512 ≤ _)⟩)
          dsimp only [Pt.U, Pt.locs, Pt.cells, Pt.slots] at X164 l164 y164 z164 st164 hQ164
          subst l164 y164 z164
          obtain ⟨h164, eh164⟩ : ∃ z, z = T164.heap := ⟨_, rfl⟩
          rw [← eh164] at hQ164
          have e164 : T164.heap = h164 := eh164.symm
          obtain ⟨b164, kc164, rfl, N164q, Kq164, szq164, o164_0, o164_1⟩ := hQ164
          have ne_b13_b164 : b13 ≠ b164 := Nat.ne_of_lt (Nat.lt_of_lt_of_le E_b13.lt szq164)
          have ne_b133_b164 : b133 ≠ b164 := Nat.ne_of_lt (Nat.lt_of_lt_of_le E_b133.lt szq164)
          have ne_b15_b164 : b15 ≠ b164 := Nat.ne_of_lt (Nat.lt_of_lt_of_le E_b15.lt szq164)
          have ne_b5_b164 : b5 ≠ b164 := Nat.ne_of_lt (Nat.lt_of_lt_of_le E_b5.lt szq164)
          have ne_b9_b164 : b9 ≠ b164 := Nat.ne_of_lt (Nat.lt_of_lt_of_le E_b9.lt szq164)
          have ne_nb131_b164 : nb131 ≠ b164 := Nat.ne_of_lt (Nat.lt_of_lt_of_le V_nb131.lt szq164)
          have ne_nb14_b164 : nb14 ≠ b164 := Nat.ne_of_lt (Nat.lt_of_lt_of_le V_nb14.lt szq164)
          have g_b164 : n0 ≤ b164 := Nat.le_trans Zn163 szq164
          have N164 := Fr.app N163 N164q
          have E_b5 := E_b5.keep Kq164
          have V_b5 := V_b5.keep Kq164 nin0
          have E_b9 := E_b9.keep Kq164
          have V_b9 := V_b9.keep Kq164 nin0
          have E_b13 := E_b13.keep Kq164
          have F_buffer_b13 := F_buffer_b13.keep Kq164 nin0
          have F_size_b13 := F_size_b13.keep Kq164 nin0
          have V_nb14 := V_nb14.keep Kq164 nin0
          have E_b15 := E_b15.keep Kq164
          have V_b15 := V_b15.keep Kq164 nin0
          have V_nb131 := V_nb131.keep Kq164 nin0
          have E_b133 := E_b133.keep Kq164
          have V_b133 := V_b133.keep Kq164 nin0
          have E_b164 : Exa Z h164 b164 "[B" := o164_0
          have V_b164 : Arv Z h164 b164 kc164 .byte (304 : Int32) (own_fv ((304 : Int32)).toNatClampNeg (f5_512_28 (304 : Int32) (fD_18 (fC_18 (fB_30 (j0_11_s0 x0 x1 x2 x3) own_z) (f0_54 x0 x1 x2 x3)) (f0_94 x0 x1 x2 x3)))) (.int (0 : Int32)) := o164_1
          have Zn164 : n0 ≤ h164.size := Nat.le_trans Zn163 Kq164.1
          refine Goes.st (B := T164.setTop (mkF m 368 #[iv x0, iv x1, iv x2, iv x3, iv (j0_11_s0 x0 x1 x2 x3), iv (j0_24_s0 x0 x1 x2 x3), rv b5, rv b9, rv b13, rv b15, iv (j0_331_s0_a x0 x1 x2 x3), iv (304 : Int32), rv b133, iv (w0_214_a x0 x1 x2 x3), .unset, .unset, .unset] [(.ref b164)])) (fun t k => st164.trans k) ?_
          refine Goes.run X164 hx hown hci hcl hby (L := [(368, .astore 14, 2), (370, .iload 10, 2)]) (by decide +kernel) rfl (g' := (mkF m 372 #[iv x0, iv x1, iv x2, iv x3, iv (j0_11_s0 x0 x1 x2 x3), iv (j0_24_s0 x0 x1 x2 x3), rv b5, rv b9, rv b13, rv b15, iv (j0_331_s0_a x0 x1 x2 x3), iv (304 : Int32), rv b133, iv (w0_214_a x0 x1 x2 x3), rv b164, .unset, .unset] [(.int (j0_331_s0_a x0 x1 x2 x3))])) rfl ?_
          have jn435_175 : ∀ (T176 : State) (L176 : List Loc) (X176 : Stand p l e room_1 s m #[(.int x0), (.int x1), (.int x2), (.int x3)] below meth c T176 L176 8 2353) (e176 : T176.heap = h164) (N176 : Fr n0 L176), Goes p e below s (QL (some (.int (r0 x0 x1 x2 x3))) n0) room_1.cells room_1.slots (T176.setTop (mkF m 435 #[iv x0, iv x1, iv x2, iv x3, iv (j0_11_s0 x0 x1 x2 x3), iv (j0_24_s0 x0 x1 x2 x3), rv b5, rv b9, rv b13, rv b15, iv (j0_331_s0_a x0 x1 x2 x3), iv (304 : Int32), rv b133, iv (w0_214_a x0 x1 x2 x3), rv b164, .unset, .unset] [(.int (j0_435_s0_a x0 x1 x2 x3))])) := by
            intro T176 L176 X176 e176 N176
            refine Goes.run X176 hx hown hci hcl hby (L := [(435, .istore 10, 2), (437, .iload_n 2, 1), (438, .ldc 7, 2), (440, .iand, 1), (441, .iload 11, 2), (443, .iconst 1, 1)]) (by decide +kernel) rfl (g' := (mkF m 444 #[iv x0, iv x1, iv x2, iv x3, iv (j0_11_s0 x0 x1 x2 x3), iv (j0_24_s0 x0 x1 x2 x3), rv b5, rv b9, rv b13, rv b15, iv (j0_435_s0_a x0 x1 x2 x3), iv (304 : Int32), rv b133, iv (w0_214_a x0 x1 x2 x3), rv b164, .unset, .unset] [(.int (1 : Int32)), (.int (304 : Int32)), (.int (x2 &&& (2147483647 : Int32)))])) rfl ?_
            refine Goes.run X176 hx hown hci hcl hby (L := [(444, .iadd, 1), (445, .irem, 1), (446, .istore 15, 2), (448, .aload 8, 2), (450, .iload 15, 2)]) (by decide +kernel) rfl (g' := (mkF m 452 #[iv x0, iv x1, iv x2, iv x3, iv (j0_11_s0 x0 x1 x2 x3), iv (j0_24_s0 x0 x1 x2 x3), rv b5, rv b9, rv b13, rv b15, iv (j0_435_s0_a x0 x1 x2 x3), iv (304 : Int32), rv b133, iv (w0_214_a x0 x1 x2 x3), rv b164, iv (w0_446_a x0 x1 x2 x3), .unset] [(.int (w0_446_a x0 x1 x2 x3)), (.ref b13)])) rfl ?_
            obtain ⟨cq177, kq177, q177a, q177b, q177c⟩ := isOf hZ e176 E_b13
            obtain ⟨_, _, ⟨T177, L177, k177, n177⟩, -, X177, ⟨Lc177, hQ177, l177, y177, z177⟩, st177⟩ := X176.virtualBack hx (y := ym12) (z := ym12) hown (mvT hZ w_70) (mvT hZ w_71) (notFace_of_selects (args := #[]) (mvT hZ w_73)) (mvT hZ w_73) (mvT hZ w_72) (by decide) (backOf (W := 0) (rmG l Z a0 hw [] b13 (w0_446_a x0 x1 x2 x3) nb131 (304 : Int32) h164 n0 Zn164 E_b13 F_buffer_b13 F_size_b13 g_b13 (own_kb304 x0 x1 x2 x3).1 (own_kb304 x0 x1 x2 x3).2.2) hZ w_74 w_4 (by decide) (by decide)) q177a q177c (g := (mkF m 452 #[iv x0, iv x1, iv x2, iv x3, iv (j0_11_s0 x0 x1 x2 x3), iv (j0_24_s0 x0 x1 x2 x3), rv b5, rv b9, rv b13, rv b15, iv (j0_435_s0_a x0 x1 x2 x3), iv (304 : Int32), rv b133, iv (w0_214_a x0 x1 x2 x3), rv b164, iv (w0_446_a x0 x1 x2 x3), .unset] [(.int (w0_446_a x0 x1 x2 x3)), (.ref b13)])) rfl (by rw [hml]; rfl) (Steps.refl _) (argsL := [(.int (w0_446_a x0 x1 x2 x3))]) (rest := []) (lenOf pd0_6 rfl) rfl (by show 2 * 0 + _ ≤ _; exact Nat.le_of_eq rfl) (hb hby at_452) (fun _ _ => ⟨rfl, e176, (by decide : 8 + 0 ≤ _), (by decide : 2353 + 0 ≤ _)⟩)
            dsimp only [Pt.U, Pt.locs, Pt.cells, Pt.slots] at X177 l177 y177 z177 st177 hQ177
            subst l177 y177 z177
            obtain ⟨h177, eh177⟩ : ∃ z, z = T177.heap := ⟨_, rfl⟩
            rw [← eh177] at hQ177
            have e177 : T177.heap = h177 := eh177.symm
            obtain ⟨rfl, N177q, Kq177, o177_0, o177_1, o177_2⟩ := hQ177
            have N177 := Fr.app N176 N177q
            have E_b5 := E_b5.keep Kq177
            have V_b5 := V_b5.keep Kq177 (ninS ne_b5_b13 nin0)
            have E_b9 := E_b9.keep Kq177
            have V_b9 := V_b9.keep Kq177 (ninS ne_b9_b13 nin0)
            have V_nb14 := V_nb14.keep Kq177 (ninS (Ne.symm ne_b13_nb14) nin0)
            have E_b15 := E_b15.keep Kq177
            have V_b15 := V_b15.keep Kq177 (ninS (Ne.symm ne_b13_b15) nin0)
            have V_nb131 := V_nb131.keep Kq177 (ninS (Ne.symm ne_b13_nb131) nin0)
            have E_b133 := E_b133.keep Kq177
            have V_b133 := V_b133.keep Kq177 (ninS (Ne.symm ne_b13_b133) nin0)
            have E_b164 := E_b164.keep Kq177
            have V_b164 := V_b164.keep Kq177 (ninS (Ne.symm ne_b13_b164) nin0)
            have E_b13 : Exa Z h177 b13 "com/example/upcaster/upcaster/io/BinaryEncoder" := o177_0
            have F_buffer_b13 : Fld Z h177 b13 "com/example/upcaster/upcaster/io/BinaryEncoder" "buffer" "[B" (.ref nb131) := o177_1
            have F_size_b13 : Fld Z h177 b13 "com/example/upcaster/upcaster/io/BinaryEncoder" "size" "I" (.int (w0_446_a x0 x1 x2 x3)) := o177_2
            have Zn177 : n0 ≤ h177.size := Nat.le_trans Zn164 Kq177.1
            refine Goes.st (B := T177.setTop (mkF m 455 #[iv x0, iv x1, iv x2, iv x3, iv (j0_11_s0 x0 x1 x2 x3), iv (j0_24_s0 x0 x1 x2 x3), rv b5, rv b9, rv b13, rv b15, iv (j0_435_s0_a x0 x1 x2 x3), iv (304 : Int32), rv b133, iv (w0_214_a x0 x1 x2 x3), rv b164, iv (w0_446_a x0 x1 x2 x3), .unset] [])) (fun t k => st177.trans k) ?_
            refine Goes.run X177 hx hown hci hcl hby (L := [(455, .aload 8, 2)]) (by decide +kernel) rfl (g' := (mkF m 457 #[iv x0, iv x1, iv x2, iv x3, iv (j0_11_s0 x0 x1 x2 x3), iv (j0_24_s0 x0 x1 x2 x3), rv b5, rv b9, rv b13, rv b15, iv (j0_435_s0_a x0 x1 x2 x3), iv (304 : Int32), rv b133, iv (w0_214_a x0 x1 x2 x3), rv b164, iv (w0_446_a x0 x1 x2 x3), .unset] [(.ref b13)])) rfl ?_
            obtain ⟨cq178, kq178, q178a, q178b, q178c⟩ := isOf hZ e177 E_b13
            obtain ⟨_, _, ⟨T178, L178, k178, n178⟩, -, X178, ⟨Lc178, hQ178, l178, y178, z178⟩, st178⟩ := X177.virtualBack hx (y := ym6) (z := ym6) hown (mvT hZ w_13) (mvT hZ w_14) (notFace_of_selects (args := #[]) (mvT hZ w_16)) (mvT hZ w_16) (mvT hZ w_15) (by decide) (backOf (W := 0) (rm8_512 l Z a0 hw [] b13 nb131 k_nb131 (fD_18 (fC_18 (fB_30 (j0_11_s0 x0 x1 x2 x3) own_z) (f0_54 x0 x1 x2 x3)) (f0_94 x0 x1 x2 x3)) (w0_446_a x0 x1 x2 x3) h177 n0 Zn177 F_buffer_b13 F_size_b13 V_nb131 (own_kb304 x0 x1 x2 x3).1 (own_kb304 x0 x1 x2 x3).2.1) hZ w_17 w_4 (by decide) (by decide)) q178a q178c (g := (mkF m 457 #[iv x0, iv x1, iv x2, iv x3, iv (j0_11_s0 x0 x1 x2 x3), iv (j0_24_s0 x0 x1 x2 x3), rv b5, rv b9, rv b13, rv b15, iv (j0_435_s0_a x0 x1 x2 x3), iv (304 : Int32), rv b133, iv (w0_214_a x0 x1 x2 x3), rv b164, iv (w0_446_a x0 x1 x2 x3), .unset] [(.ref b13)])) rfl (by rw [hml]; rfl) (Steps.refl _) (argsL := []) (rest := []) (lenOf pd0_1 rfl) rfl (by show 2 * 0 + _ ≤ _; exact Nat.le_of_eq rfl) (hb hby at_457) (fun _ _ => ⟨rfl, e177, (by decide : 8 + 1 ≤ _), (by decide : 2353 + 512 ≤ _)⟩)
            dsimp only [Pt.U, Pt.locs, Pt.cells, Pt.slots] at X178 l178 y178 z178 st178 hQ178
            subst l178 y178 z178
            obtain ⟨h178, eh178⟩ : ∃ z, z = T178.heap := ⟨_, rfl⟩
            rw [← eh178] at hQ178
            have e178 : T178.heap = h178 := eh178.symm
            obtain ⟨b178, kc178, rfl, N178q, Kq178, szq178, o178_0, o178_1⟩ := hQ178
            have ne_b13_b178 : b13 ≠ b178 := Nat.ne_of_lt (Nat.lt_of_lt_of_le E_b13.lt szq178)
            have ne_b133_b178 : b133 ≠ b178 := Nat.ne_of_lt (Nat.lt_of_lt_of_le E_b133.lt szq178)
            have ne_b15_b178 : b15 ≠ b178 := Nat.ne_of_lt (Nat.lt_of_lt_of_le E_b15.lt szq178)
            have ne_b164_b178 : b164 ≠ b178 := Nat.ne_of_lt (Nat.lt_of_lt_of_le E_b164.lt szq178)
            have ne_b5_b178 : b5 ≠ b178 := Nat.ne_of_lt (Nat.lt_of_lt_of_le E_b5.lt szq178)
            have ne_b9_b178 : b9 ≠ b178 := Nat.ne_of_lt (Nat.lt_of_lt_of_le E_b9.lt szq178)
            have ne_nb131_b178 : nb131 ≠ b178 := Nat.ne_of_lt (Nat.lt_of_lt_of_le V_nb131.lt szq178)
            have ne_nb14_b178 : nb14 ≠ b178 := Nat.ne_of_lt (Nat.lt_of_lt_of_le V_nb14.lt szq178)
            have g_b178 : n0 ≤ b178 := Nat.le_trans Zn177 szq178
            have N178 := Fr.app N177 N178q
            have E_b5 := E_b5.keep Kq178
            have V_b5 := V_b5.keep Kq178 nin0
            have E_b9 := E_b9.keep Kq178
            have V_b9 := V_b9.keep Kq178 nin0
            have E_b13 := E_b13.keep Kq178
            have F_buffer_b13 := F_buffer_b13.keep Kq178 nin0
            have F_size_b13 := F_size_b13.keep Kq178 nin0
            have V_nb14 := V_nb14.keep Kq178 nin0
            have E_b15 := E_b15.keep Kq178
            have V_b15 := V_b15.keep Kq178 nin0
            have V_nb131 := V_nb131.keep Kq178 nin0
            have E_b133 := E_b133.keep Kq178
            have V_b133 := V_b133.keep Kq178 nin0
            have E_b164 := E_b164.keep Kq178
            have V_b164 := V_b164.keep Kq178 nin0
            have E_b178 : Exa Z h178 b178 "[B" := o178_0
            have V_b178 : Arv Z h178 b178 kc178 .byte (w0_446_a x0 x1 x2 x3) (own_fv ((w0_446_a x0 x1 x2 x3)).toNatClampNeg (f5_512_28 (w0_446_a x0 x1 x2 x3) (fD_18 (fC_18 (fB_30 (j0_11_s0 x0 x1 x2 x3) own_z) (f0_54 x0 x1 x2 x3)) (f0_94 x0 x1 x2 x3)))) (.int (0 : Int32)) := o178_1
            have Zn178 : n0 ≤ h178.size := Nat.le_trans Zn177 Kq178.1
            refine Goes.st (B := T178.setTop (mkF m 460 #[iv x0, iv x1, iv x2, iv x3, iv (j0_11_s0 x0 x1 x2 x3), iv (j0_24_s0 x0 x1 x2 x3), rv b5, rv b9, rv b13, rv b15, iv (j0_435_s0_a x0 x1 x2 x3), iv (304 : Int32), rv b133, iv (w0_214_a x0 x1 x2 x3), rv b164, iv (w0_446_a x0 x1 x2 x3), .unset] [(.ref b178)])) (fun t k => st178.trans k) ?_
            refine Goes.run X178 hx hown hci hcl hby (L := [(460, .astore 16, 2), (462, .iload 10, 2)]) (by decide +kernel) rfl (g' := (mkF m 464 #[iv x0, iv x1, iv x2, iv x3, iv (j0_11_s0 x0 x1 x2 x3), iv (j0_24_s0 x0 x1 x2 x3), rv b5, rv b9, rv b13, rv b15, iv (j0_435_s0_a x0 x1 x2 x3), iv (304 : Int32), rv b133, iv (w0_214_a x0 x1 x2 x3), rv b164, iv (w0_446_a x0 x1 x2 x3), rv b178] [(.int (j0_435_s0_a x0 x1 x2 x3))])) rfl ?_
            have jn480_182 : Goes p e below s (QL (some (.int (r0 x0 x1 x2 x3))) n0) room_1.cells room_1.slots (T178.setTop (mkF m 480 #[iv x0, iv x1, iv x2, iv x3, iv (j0_11_s0 x0 x1 x2 x3), iv (j0_24_s0 x0 x1 x2 x3), rv b5, rv b9, rv b13, rv b15, iv (j0_435_s0_a x0 x1 x2 x3), iv (304 : Int32), rv b133, iv (w0_214_a x0 x1 x2 x3), rv b164, iv (w0_446_a x0 x1 x2 x3), rv b178] [(.int (j0_480_s0_a x0 x1 x2 x3))])) := by
              refine Goes.run X178 hx hown hci hcl hby (L := [(480, .istore 10, 2), (482, .iload 15, 2)]) (by decide +kernel) rfl (g' := (mkF m 484 #[iv x0, iv x1, iv x2, iv x3, iv (j0_11_s0 x0 x1 x2 x3), iv (j0_24_s0 x0 x1 x2 x3), rv b5, rv b9, rv b13, rv b15, iv (j0_480_s0_a x0 x1 x2 x3), iv (304 : Int32), rv b133, iv (w0_214_a x0 x1 x2 x3), rv b164, iv (w0_446_a x0 x1 x2 x3), rv b178] [(.int (w0_446_a x0 x1 x2 x3))])) rfl ?_
              have jn539_199 : ∀ (T200 : State) (L200 : List Loc) (X200 : Stand p l e room_1 s m #[(.int x0), (.int x1), (.int x2), (.int x3)] below meth c T200 L200 9 2865) (e200 : T200.heap = h178) (N200 : Fr n0 L200), Goes p e below s (QL (some (.int (r0 x0 x1 x2 x3))) n0) room_1.cells room_1.slots (T200.setTop (mkF m 539 #[iv x0, iv x1, iv x2, iv x3, iv (j0_11_s0 x0 x1 x2 x3), iv (j0_24_s0 x0 x1 x2 x3), rv b5, rv b9, rv b13, rv b15, iv (j0_539_10_a x0 x1 x2 x3), iv (304 : Int32), rv b133, iv (w0_214_a x0 x1 x2 x3), rv b164, iv (w0_446_a x0 x1 x2 x3), rv b178] [])) := by
                intro T200 L200 X200 e200 N200
                refine Goes.run X200 hx hown hci hcl hby (L := [(539, .iload 10, 2)]) (by decide +kernel) rfl (g' := (mkF m 541 #[iv x0, iv x1, iv x2, iv x3, iv (j0_11_s0 x0 x1 x2 x3), iv (j0_24_s0 x0 x1 x2 x3), rv b5, rv b9, rv b13, rv b15, iv (j0_539_10_a x0 x1 x2 x3), iv (304 : Int32), rv b133, iv (w0_214_a x0 x1 x2 x3), rv b164, iv (w0_446_a x0 x1 x2 x3), rv b178] [(.int (j0_539_10_a x0 x1 x2 x3))])) rfl ?_
                exact Goes.retB X200 hx hlk (t := .boolean) Bd.returns (by simp) (hb hby at_541) (own_nr304 x0 x1 x2 x3) ⟨(congrArg (fun z => some (Value.int z)) (show (r0 x0 x1 x2 x3) = (j0_539_10_a x0 x1 x2 x3) from (if_neg hc140_20)).symm), N200⟩ (by decide) (by decide)
              by_cases hc484_183 : (0 : Int32) < (w0_446_a x0 x1 x2 x3)
              · skip
                refine Goes.st (B := T178.setTop (mkF m 487 #[iv x0, iv x1, iv x2, iv x3, iv (j0_11_s0 x0 x1 x2 x3), iv (j0_24_s0 x0 x1 x2 x3), rv b5, rv b9, rv b13, rv b15, iv (j0_480_s0_a x0 x1 x2 x3), iv (304 : Int32), rv b133, iv (w0_214_a x0 x1 x2 x3), rv b164, iv (w0_446_a x0 x1 x2 x3), rv b178] [])) (fun t k => ?_) ?_
                · refine XS.ifNo X178.here hx rfl (hb hby at_484) rfl ((if0 _ _).trans (tlt hc484_183).2.2.2) ?_
                  exact k
                refine Goes.run X178 hx hown hci hcl hby (L := [(487, .iload 10, 2)]) (by decide +kernel) rfl (g' := (mkF m 489 #[iv x0, iv x1, iv x2, iv x3, iv (j0_11_s0 x0 x1 x2 x3), iv (j0_24_s0 x0 x1 x2 x3), rv b5, rv b9, rv b13, rv b15, iv (j0_480_s0_a x0 x1 x2 x3), iv (304 : Int32), rv b133, iv (w0_214_a x0 x1 x2 x3), rv b164, iv (w0_446_a x0 x1 x2 x3), rv b178] [(.int (j0_480_s0_a x0 x1 x2 x3))])) rfl ?_
                have jn537_208 : ∀ (T209 : State) (L209 : List Loc) (X209 : Stand p l e room_1 s m #[(.int x0), (.int x1), (.int x2), (.int x3)] below meth c T209 L209 9 2865) (e209 : T209.heap = h178) (N209 : Fr n0 L209), Goes p e below s (QL (some (.int (r0 x0 x1 x2 x3))) n0) room_1.cells room_1.slots (T209.setTop (mkF m 537 #[iv x0, iv x1, iv x2, iv x3, iv (j0_11_s0 x0 x1 x2 x3), iv (j0_24_s0 x0 x1 x2 x3), rv b5, rv b9, rv b13, rv b15, iv (j0_480_s0_a x0 x1 x2 x3), iv (304 : Int32), rv b133, iv (w0_214_a x0 x1 x2 x3), rv b164, iv (w0_446_a x0 x1 x2 x3), rv b178] [(.int (j0_537_s0_a x0 x1 x2 x3))])) := by
                  intro T209 L209 X209 e209 N209
                  refine Goes.run X209 hx hown hci hcl hby (L := [(537, .istore 10, 2)]) (by decide +kernel) rfl (g' := (mkF m 539 #[iv x0, iv x1, iv x2, iv x3, iv (j0_11_s0 x0 x1 x2 x3), iv (j0_24_s0 x0 x1 x2 x3), rv b5, rv b9, rv b13, rv b15, iv (j0_537_s0_a x0 x1 x2 x3), iv (304 : Int32), rv b133, iv (w0_214_a x0 x1 x2 x3), rv b164, iv (w0_446_a x0 x1 x2 x3), rv b178] [])) rfl ?_
                  have q := jn539_199 _ _ X209 e209 N209
                  rw [show (j0_539_10_a x0 x1 x2 x3) = (j0_537_s0_a x0 x1 x2 x3) from (if_pos hc484_183)] at q
                  exact q
                by_cases hc489_201 : (j0_480_s0_a x0 x1 x2 x3) = (0 : Int32)
                · skip
                  refine Goes.st (B := T178.setTop (mkF m 536 #[iv x0, iv x1, iv x2, iv x3, iv (j0_11_s0 x0 x1 x2 x3), iv (j0_24_s0 x0 x1 x2 x3), rv b5, rv b9, rv b13, rv b15, iv (j0_480_s0_a x0 x1 x2 x3), iv (304 : Int32), rv b133, iv (w0_214_a x0 x1 x2 x3), rv b164, iv (w0_446_a x0 x1 x2 x3), rv b178] [])) (fun t k => ?_) ?_
                  · refine XS.ifYes X178.here hx rfl (pc0 := 489) (pc' := 536) rfl (hb hby at_489) rfl ((if0 _ _).trans (teq hc489_201).1) (by decide) (by decide) ?_
                    exact k
                  refine Goes.run X178 hx hown hci hcl hby (L := [(536, .iconst 0, 1)]) (by decide +kernel) rfl (g' := (mkF m 537 #[iv x0, iv x1, iv x2, iv x3, iv (j0_11_s0 x0 x1 x2 x3), iv (j0_24_s0 x0 x1 x2 x3), rv b5, rv b9, rv b13, rv b15, iv (j0_480_s0_a x0 x1 x2 x3), iv (304 : Int32), rv b133, iv (w0_214_a x0 x1 x2 x3), rv b164, iv (w0_446_a x0 x1 x2 x3), rv b178] [(.int (0 : Int32))])) rfl ?_
                  have q := jn537_208 _ _ X178 e178 N178
                  rw [show (j0_537_s0_a x0 x1 x2 x3) = (0 : Int32) from (if_pos hc489_201)] at q
                  exact q
                · skip
                  refine Goes.st (B := T178.setTop (mkF m 492 #[iv x0, iv x1, iv x2, iv x3, iv (j0_11_s0 x0 x1 x2 x3), iv (j0_24_s0 x0 x1 x2 x3), rv b5, rv b9, rv b13, rv b15, iv (j0_480_s0_a x0 x1 x2 x3), iv (304 : Int32), rv b133, iv (w0_214_a x0 x1 x2 x3), rv b164, iv (w0_446_a x0 x1 x2 x3), rv b178] [])) (fun t k => ?_) ?_
                  · refine XS.ifNo X178.here hx rfl (hb hby at_489) rfl ((if0 _ _).trans (feq hc489_201).1) ?_
                    exact k
                  refine Goes.run X178 hx hown hci hcl hby (L := [(492, .aload 16, 2), (494, .iconst 0, 1)]) (by decide +kernel) rfl (g' := (mkF m 495 #[iv x0, iv x1, iv x2, iv x3, iv (j0_11_s0 x0 x1 x2 x3), iv (j0_24_s0 x0 x1 x2 x3), rv b5, rv b9, rv b13, rv b15, iv (j0_480_s0_a x0 x1 x2 x3), iv (304 : Int32), rv b133, iv (w0_214_a x0 x1 x2 x3), rv b164, iv (w0_446_a x0 x1 x2 x3), rv b178] [(.int (0 : Int32)), (.ref b178)])) rfl ?_
                  obtain ⟨cl210, Ar210, q210, S210, M210, Hs210, G210⟩ := id V_b178
                  have hin210 : ¬ ((0 : Int32) < 0 ∨ cl210.slots.size ≤ ((0 : Int32)).toNatClampNeg) := inb_of S210 ⟨(own_k0 (own_kb304 x0 x1 x2 x3).1 hc484_183).1, (own_k0 (own_kb304 x0 x1 x2 x3).1 hc484_183).2.1⟩
                  have hat210 : cl210.slots[((0 : Int32)).toNatClampNeg]? = some (.int (w0_495_a x0 x1 x2 x3)) := Hs210.at hin210 ((own_fget ((w0_446_a x0 x1 x2 x3)).toNatClampNeg (f5_512_28 (w0_446_a x0 x1 x2 x3) (fD_18 (fC_18 (fB_30 (j0_11_s0 x0 x1 x2 x3) own_z) (f0_54 x0 x1 x2 x3)) (f0_94 x0 x1 x2 x3))) 0 _).trans (if_pos (own_k0 (own_kb304 x0 x1 x2 x3).1 hc484_183).2.2))
                  refine Goes.st (B := T178.setTop (mkF m 496 #[iv x0, iv x1, iv x2, iv x3, iv (j0_11_s0 x0 x1 x2 x3), iv (j0_24_s0 x0 x1 x2 x3), rv b5, rv b9, rv b13, rv b15, iv (j0_480_s0_a x0 x1 x2 x3), iv (304 : Int32), rv b133, iv (w0_214_a x0 x1 x2 x3), rv b164, iv (w0_446_a x0 x1 x2 x3), rv b178] [(.int (w0_495_a x0 x1 x2 x3))])) (X178.baloadBytes hx (j := (0 : Int32)) (v := (.int (w0_495_a x0 x1 x2 x3))) (by rw [e178]; exact Ar210.1) (State.isArrayOf_alike hZ.alike Ar210.2.1) Ar210.2.2 hin210 hat210 (g := (mkF m 495 #[iv x0, iv x1, iv x2, iv x3, iv (j0_11_s0 x0 x1 x2 x3), iv (j0_24_s0 x0 x1 x2 x3), rv b5, rv b9, rv b13, rv b15, iv (j0_480_s0_a x0 x1 x2 x3), iv (304 : Int32), rv b133, iv (w0_214_a x0 x1 x2 x3), rv b164, iv (w0_446_a x0 x1 x2 x3), rv b178] [(.int (0 : Int32)), (.ref b178)])) rfl rfl (hb hby at_495)) ?_
                  refine Goes.run X178 hx hown hci hcl hby (L := [(496, .iconst 0, 1), (497, .iload 4, 2), (499, .aload 6, 2), (501, .aload 7, 2)]) (by decide +kernel) rfl (g' := (mkF m 503 #[iv x0, iv x1, iv x2, iv x3, iv (j0_11_s0 x0 x1 x2 x3), iv (j0_24_s0 x0 x1 x2 x3), rv b5, rv b9, rv b13, rv b15, iv (j0_480_s0_a x0 x1 x2 x3), iv (304 : Int32), rv b133, iv (w0_214_a x0 x1 x2 x3), rv b164, iv (w0_446_a x0 x1 x2 x3), rv b178] [(.ref b9), (.ref b5), (.int (j0_11_s0 x0 x1 x2 x3)), (.int (0 : Int32)), (.int (w0_495_a x0 x1 x2 x3))])) rfl ?_
                  obtain ⟨_, _, ⟨T211, L211, k211, n211⟩, -, X211, ⟨Lc211, hQ211, l211, y211, z211⟩, st211⟩ := Jvm.LawKit.callS X178 hx (y := ym14) hown (mvT hZ w_66) (mvT hZ w_67) (mvT hZ w_68) (mvT hZ w_69) (by decide) (backOf (W := 1) (rmI l Z a0 hw [] (0 : Int32) (j0_11_s0 x0 x1 x2 x3) b5 b9 k5 k9 (f0_54 x0 x1 x2 x3) (f0_94 x0 x1 x2 x3) h178 n0 Zn178 V_b5 V_b9 (by decide) (by decide) (own_hA x0 x1 x2 x3) (own_hB x0 x1 x2 x3)) hZ w_69 w_68 (by decide) (by decide)) (g := (mkF m 503 #[iv x0, iv x1, iv x2, iv x3, iv (j0_11_s0 x0 x1 x2 x3), iv (j0_24_s0 x0 x1 x2 x3), rv b5, rv b9, rv b13, rv b15, iv (j0_480_s0_a x0 x1 x2 x3), iv (304 : Int32), rv b133, iv (w0_214_a x0 x1 x2 x3), rv b164, iv (w0_446_a x0 x1 x2 x3), rv b178] [(.ref b9), (.ref b5), (.int (j0_11_s0 x0 x1 x2 x3)), (.int (0 : Int32)), (.int (w0_495_a x0 x1 x2 x3))])) rfl (by rw [hml]; rfl) (argsL := [(.int (0 : Int32)), (.int (j0_11_s0 x0 x1 x2 x3)), (.ref b5), (.ref b9)]) (rest := [(.int (w0_495_a x0 x1 x2 x3))]) (lenOf pd0_5 rfl) rfl (by show 2 * 0 + _ ≤ _; exact Nat.le_of_eq rfl) (hb hby at_503) (fun _ _ => ⟨rfl, e178, (by decide : 9 + 0 ≤ _), (by decide : 2865 + 0 ≤ _)⟩)
                  dsimp only [Pt.U, Pt.locs, Pt.cells, Pt.slots] at X211 l211 y211 z211 st211 hQ211
                  subst l211 y211 z211
                  obtain ⟨rfl, N211q, e211⟩ := hQ211
                  have N211 := Fr.app N178 N211q
                  refine Goes.st (B := T211.setTop (mkF m 506 #[iv x0, iv x1, iv x2, iv x3, iv (j0_11_s0 x0 x1 x2 x3), iv (j0_24_s0 x0 x1 x2 x3), rv b5, rv b9, rv b13, rv b15, iv (j0_480_s0_a x0 x1 x2 x3), iv (304 : Int32), rv b133, iv (w0_214_a x0 x1 x2 x3), rv b164, iv (w0_446_a x0 x1 x2 x3), rv b178] [(.int (rI (0 : Int32) (j0_11_s0 x0 x1 x2 x3) (f0_54 x0 x1 x2 x3) (f0_94 x0 x1 x2 x3))), (.int (w0_495_a x0 x1 x2 x3))])) st211 ?_
                  by_cases hc506_212 : (w0_495_a x0 x1 x2 x3) = (rI (0 : Int32) (j0_11_s0 x0 x1 x2 x3) (f0_54 x0 x1 x2 x3) (f0_94 x0 x1 x2 x3))
                  · skip
                    refine Goes.st (B := T211.setTop (mkF m 509 #[iv x0, iv x1, iv x2, iv x3, iv (j0_11_s0 x0 x1 x2 x3), iv (j0_24_s0 x0 x1 x2 x3), rv b5, rv b9, rv b13, rv b15, iv (j0_480_s0_a x0 x1 x2 x3), iv (304 : Int32), rv b133, iv (w0_214_a x0 x1 x2 x3), rv b164, iv (w0_446_a x0 x1 x2 x3), rv b178] [])) (fun t k => ?_) ?_
                    · refine XS.icmpNo X211.here hx rfl (hb hby at_506) rfl (teq hc506_212).2 ?_
                      exact k
                    refine Goes.run X211 hx hown hci hcl hby (L := [(509, .aload 16, 2), (511, .iload 15, 2), (513, .iconst 1, 1), (514, .isub, 1)]) (by decide +kernel) rfl (g' := (mkF m 515 #[iv x0, iv x1, iv x2, iv x3, iv (j0_11_s0 x0 x1 x2 x3), iv (j0_24_s0 x0 x1 x2 x3), rv b5, rv b9, rv b13, rv b15, iv (j0_480_s0_a x0 x1 x2 x3), iv (304 : Int32), rv b133, iv (w0_214_a x0 x1 x2 x3), rv b164, iv (w0_446_a x0 x1 x2 x3), rv b178] [(.int ((w0_446_a x0 x1 x2 x3) - (1 : Int32))), (.ref b178)])) rfl ?_
                    obtain ⟨cl213, Ar213, q213, S213, M213, Hs213, G213⟩ := id V_b178
                    have hin213 : ¬ (((w0_446_a x0 x1 x2 x3) - (1 : Int32)) < 0 ∨ cl213.slots.size ≤ (((w0_446_a x0 x1 x2 x3) - (1 : Int32))).toNatClampNeg) := inb_of S213 ⟨(own_k1 (own_kb304 x0 x1 x2 x3).1 hc484_183).1, (own_k1 (own_kb304 x0 x1 x2 x3).1 hc484_183).2.1⟩
                    have hat213 : cl213.slots[(((w0_446_a x0 x1 x2 x3) - (1 : Int32))).toNatClampNeg]? = some (.int (w0_515_a x0 x1 x2 x3)) := Hs213.at hin213 ((own_fget ((w0_446_a x0 x1 x2 x3)).toNatClampNeg (f5_512_28 (w0_446_a x0 x1 x2 x3) (fD_18 (fC_18 (fB_30 (j0_11_s0 x0 x1 x2 x3) own_z) (f0_54 x0 x1 x2 x3)) (f0_94 x0 x1 x2 x3))) (((w0_446_a x0 x1 x2 x3) - (1 : Int32))).toNatClampNeg _).trans (if_pos (own_k1 (own_kb304 x0 x1 x2 x3).1 hc484_183).2.2))
                    refine Goes.st (B := T211.setTop (mkF m 516 #[iv x0, iv x1, iv x2, iv x3, iv (j0_11_s0 x0 x1 x2 x3), iv (j0_24_s0 x0 x1 x2 x3), rv b5, rv b9, rv b13, rv b15, iv (j0_480_s0_a x0 x1 x2 x3), iv (304 : Int32), rv b133, iv (w0_214_a x0 x1 x2 x3), rv b164, iv (w0_446_a x0 x1 x2 x3), rv b178] [(.int (w0_515_a x0 x1 x2 x3))])) (X211.baloadBytes hx (j := ((w0_446_a x0 x1 x2 x3) - (1 : Int32))) (v := (.int (w0_515_a x0 x1 x2 x3))) (by rw [e211]; exact Ar213.1) (State.isArrayOf_alike hZ.alike Ar213.2.1) Ar213.2.2 hin213 hat213 (g := (mkF m 515 #[iv x0, iv x1, iv x2, iv x3, iv (j0_11_s0 x0 x1 x2 x3), iv (j0_24_s0 x0 x1 x2 x3), rv b5, rv b9, rv b13, rv b15, iv (j0_480_s0_a x0 x1 x2 x3), iv (304 : Int32), rv b133, iv (w0_214_a x0 x1 x2 x3), rv b164, iv (w0_446_a x0 x1 x2 x3), rv b178] [(.int ((w0_446_a x0 x1 x2 x3) - (1 : Int32))), (.ref b178)])) rfl rfl (hb hby at_515)) ?_
                    refine Goes.run X211 hx hown hci hcl hby (L := [(516, .iload 15, 2), (518, .iconst 1, 1), (519, .isub, 1), (520, .iload 4, 2), (522, .aload 6, 2), (524, .aload 7, 2)]) (by decide +kernel) rfl (g' := (mkF m 526 #[iv x0, iv x1, iv x2, iv x3, iv (j0_11_s0 x0 x1 x2 x3), iv (j0_24_s0 x0 x1 x2 x3), rv b5, rv b9, rv b13, rv b15, iv (j0_480_s0_a x0 x1 x2 x3), iv (304 : Int32), rv b133, iv (w0_214_a x0 x1 x2 x3), rv b164, iv (w0_446_a x0 x1 x2 x3), rv b178] [(.ref b9), (.ref b5), (.int (j0_11_s0 x0 x1 x2 x3)), (.int (c0_526_3_a x0 x1 x2 x3)), (.int (w0_515_a x0 x1 x2 x3))])) rfl ?_
                    obtain ⟨_, _, ⟨T214, L214, k214, n214⟩, -, X214, ⟨Lc214, hQ214, l214, y214, z214⟩, st214⟩ := Jvm.LawKit.callS X211 hx (y := ym14) hown (mvT hZ w_66) (mvT hZ w_67) (mvT hZ w_68) (mvT hZ w_69) (by decide) (backOf (W := 1) (rmI l Z a0 hw [] (c0_526_3_a x0 x1 x2 x3) (j0_11_s0 x0 x1 x2 x3) b5 b9 k5 k9 (f0_54 x0 x1 x2 x3) (f0_94 x0 x1 x2 x3) h178 n0 Zn178 V_b5 V_b9 (own_k1 (own_kb304 x0 x1 x2 x3).1 hc484_183).1 (own_k1b304 x0 x1 x2 x3 hc484_183) (own_hA x0 x1 x2 x3) (own_hB x0 x1 x2 x3)) hZ w_69 w_68 (by decide) (by decide)) (g := (mkF m 526 #[iv x0, iv x1, iv x2, iv x3, iv (j0_11_s0 x0 x1 x2 x3), iv (j0_24_s0 x0 x1 x2 x3), rv b5, rv b9, rv b13, rv b15, iv (j0_480_s0_a x0 x1 x2 x3), iv (304 : Int32), rv b133, iv (w0_214_a x0 x1 x2 x3), rv b164, iv (w0_446_a x0 x1 x2 x3), rv b178] [(.ref b9), (.ref b5), (.int (j0_11_s0 x0 x1 x2 x3)), (.int (c0_526_3_a x0 x1 x2 x3)), (.int (w0_515_a x0 x1 x2 x3))])) rfl (by rw [hml]; rfl) (argsL := [(.int (c0_526_3_a x0 x1 x2 x3)), (.int (j0_11_s0 x0 x1 x2 x3)), (.ref b5), (.ref b9)]) (rest := [(.int (w0_515_a x0 x1 x2 x3))]) (lenOf pd0_5 rfl) rfl (by show 2 * 0 + _ ≤ _; exact Nat.le_of_eq rfl) (hb hby at_526) (fun _ _ => ⟨rfl, e211, (by decide : 9 + 0 ≤ _), (by decide : 2865 + 0 ≤ _)⟩)
                    dsimp only [Pt.U, Pt.locs, Pt.cells, Pt.slots] at X214 l214 y214 z214 st214 hQ214
                    subst l214 y214 z214
                    obtain ⟨rfl, N214q, e214⟩ := hQ214
                    have N214 := Fr.app N211 N214q
                    refine Goes.st (B := T214.setTop (mkF m 529 #[iv x0, iv x1, iv x2, iv x3, iv (j0_11_s0 x0 x1 x2 x3), iv (j0_24_s0 x0 x1 x2 x3), rv b5, rv b9, rv b13, rv b15, iv (j0_480_s0_a x0 x1 x2 x3), iv (304 : Int32), rv b133, iv (w0_214_a x0 x1 x2 x3), rv b164, iv (w0_446_a x0 x1 x2 x3), rv b178] [(.int (rI (c0_526_3_a x0 x1 x2 x3) (j0_11_s0 x0 x1 x2 x3) (f0_54 x0 x1 x2 x3) (f0_94 x0 x1 x2 x3))), (.int (w0_515_a x0 x1 x2 x3))])) st214 ?_
                    by_cases hc529_215 : (w0_515_a x0 x1 x2 x3) = (rI (c0_526_3_a x0 x1 x2 x3) (j0_11_s0 x0 x1 x2 x3) (f0_54 x0 x1 x2 x3) (f0_94 x0 x1 x2 x3))
                    · skip
                      refine Goes.st (B := T214.setTop (mkF m 532 #[iv x0, iv x1, iv x2, iv x3, iv (j0_11_s0 x0 x1 x2 x3), iv (j0_24_s0 x0 x1 x2 x3), rv b5, rv b9, rv b13, rv b15, iv (j0_480_s0_a x0 x1 x2 x3), iv (304 : Int32), rv b133, iv (w0_214_a x0 x1 x2 x3), rv b164, iv (w0_446_a x0 x1 x2 x3), rv b178] [])) (fun t k => ?_) ?_
                      · refine XS.icmpNo X214.here hx rfl (hb hby at_529) rfl (teq hc529_215).2 ?_
                        exact k
                      refine Goes.run X214 hx hown hci hcl hby (L := [(532, .iconst 1, 1), (533, .goto 4, 3)]) (by decide +kernel) rfl (g' := (mkF m 537 #[iv x0, iv x1, iv x2, iv x3, iv (j0_11_s0 x0 x1 x2 x3), iv (j0_24_s0 x0 x1 x2 x3), rv b5, rv b9, rv b13, rv b15, iv (j0_480_s0_a x0 x1 x2 x3), iv (304 : Int32), rv b133, iv (w0_214_a x0 x1 x2 x3), rv b164, iv (w0_446_a x0 x1 x2 x3), rv b178] [(.int (1 : Int32))])) rfl ?_
                      have q := jn537_208 _ _ X214 e214 N214
                      rw [show (j0_537_s0_a x0 x1 x2 x3) = (1 : Int32) from (((if_neg hc489_201).trans (if_pos hc506_212)).trans (if_pos hc529_215))] at q
                      exact q
                    · skip
                      refine Goes.st (B := T214.setTop (mkF m 536 #[iv x0, iv x1, iv x2, iv x3, iv (j0_11_s0 x0 x1 x2 x3), iv (j0_24_s0 x0 x1 x2 x3), rv b5, rv b9, rv b13, rv b15, iv (j0_480_s0_a x0 x1 x2 x3), iv (304 : Int32), rv b133, iv (w0_214_a x0 x1 x2 x3), rv b164, iv (w0_446_a x0 x1 x2 x3), rv b178] [])) (fun t k => ?_) ?_
                      · refine XS.icmpYes X214.here hx rfl (pc0 := 529) (pc' := 536) rfl (hb hby at_529) rfl (feq hc529_215).2 (by decide) (by decide) ?_
                        exact k
                      refine Goes.run X214 hx hown hci hcl hby (L := [(536, .iconst 0, 1)]) (by decide +kernel) rfl (g' := (mkF m 537 #[iv x0, iv x1, iv x2, iv x3, iv (j0_11_s0 x0 x1 x2 x3), iv (j0_24_s0 x0 x1 x2 x3), rv b5, rv b9, rv b13, rv b15, iv (j0_480_s0_a x0 x1 x2 x3), iv (304 : Int32), rv b133, iv (w0_214_a x0 x1 x2 x3), rv b164, iv (w0_446_a x0 x1 x2 x3), rv b178] [(.int (0 : Int32))])) rfl ?_
                      have q := jn537_208 _ _ X214 e214 N214
                      rw [show (j0_537_s0_a x0 x1 x2 x3) = (0 : Int32) from (((if_neg hc489_201).trans (if_pos hc506_212)).trans (if_neg hc529_215))] at q
                      exact q
                  · skip
                    refine Goes.st (B := T211.setTop (mkF m 536 #[iv x0, iv x1, iv x2, iv x3, iv (j0_11_s0 x0 x1 x2 x3), iv (j0_24_s0 x0 x1 x2 x3), rv b5, rv b9, rv b13, rv b15, iv (j0_480_s0_a x0 x1 x2 x3), iv (304 : Int32), rv b133, iv (w0_214_a x0 x1 x2 x3), rv b164, iv (w0_446_a x0 x1 x2 x3), rv b178] [])) (fun t k => ?_) ?_
                    · refine XS.icmpYes X211.here hx rfl (pc0 := 506) (pc' := 536) rfl (hb hby at_506) rfl (feq hc506_212).2 (by decide) (by decide) ?_
                      exact k
                    refine Goes.run X211 hx hown hci hcl hby (L := [(536, .iconst 0, 1)]) (by decide +kernel) rfl (g' := (mkF m 537 #[iv x0, iv x1, iv x2, iv x3, iv (j0_11_s0 x0 x1 x2 x3), iv (j0_24_s0 x0 x1 x2 x3), rv b5, rv b9, rv b13, rv b15, iv (j0_480_s0_a x0 x1 x2 x3), iv (304 : Int32), rv b133, iv (w0_214_a x0 x1 x2 x3), rv b164, iv (w0_446_a x0 x1 x2 x3), rv b178] [(.int (0 : Int32))])) rfl ?_
                    have q := jn537_208 _ _ X211 e211 N211
                    rw [show (j0_537_s0_a x0 x1 x2 x3) = (0 : Int32) from ((if_neg hc489_201).trans (if_neg hc506_212))] at q
                    exact q
              · skip
                refine Goes.st (B := T178.setTop (mkF m 539 #[iv x0, iv x1, iv x2, iv x3, iv (j0_11_s0 x0 x1 x2 x3), iv (j0_24_s0 x0 x1 x2 x3), rv b5, rv b9, rv b13, rv b15, iv (j0_480_s0_a x0 x1 x2 x3), iv (304 : Int32), rv b133, iv (w0_214_a x0 x1 x2 x3), rv b164, iv (w0_446_a x0 x1 x2 x3), rv b178] [])) (fun t k => ?_) ?_
                · refine XS.ifYes X178.here hx rfl (pc0 := 484) (pc' := 539) rfl (hb hby at_484) rfl ((if0 _ _).trans (flt hc484_183).2.2.2) (by decide) (by decide) ?_
                  exact k
                have q := jn539_199 _ _ X178 e178 N178
                rw [show (j0_539_10_a x0 x1 x2 x3) = (j0_480_s0_a x0 x1 x2 x3) from (if_neg hc484_183)] at q
                exact q
            by_cases hc464_179 : (j0_435_s0_a x0 x1 x2 x3) = (0 : Int32)
            · skip
              refine Goes.st (B := T178.setTop (mkF m 479 #[iv x0, iv x1, iv x2, iv x3, iv (j0_11_s0 x0 x1 x2 x3), iv (j0_24_s0 x0 x1 x2 x3), rv b5, rv b9, rv b13, rv b15, iv (j0_435_s0_a x0 x1 x2 x3), iv (304 : Int32), rv b133, iv (w0_214_a x0 x1 x2 x3), rv b164, iv (w0_446_a x0 x1 x2 x3), rv b178] [])) (fun t k => ?_) ?_
              · refine XS.ifYes X178.here hx rfl (pc0 := 464) (pc' := 479) rfl (hb hby at_464) rfl ((if0 _ _).trans (teq hc464_179).1) (by decide) (by decide) ?_
                exact k
              refine Goes.run X178 hx hown hci hcl hby (L := [(479, .iconst 0, 1)]) (by decide +kernel) rfl (g' := (mkF m 480 #[iv x0, iv x1, iv x2, iv x3, iv (j0_11_s0 x0 x1 x2 x3), iv (j0_24_s0 x0 x1 x2 x3), rv b5, rv b9, rv b13, rv b15, iv (j0_435_s0_a x0 x1 x2 x3), iv (304 : Int32), rv b133, iv (w0_214_a x0 x1 x2 x3), rv b164, iv (w0_446_a x0 x1 x2 x3), rv b178] [(.int (0 : Int32))])) rfl ?_
              have q := jn480_182
              rw [show (j0_480_s0_a x0 x1 x2 x3) = (0 : Int32) from (if_pos hc464_179)] at q
              exact q
            · skip
              refine Goes.st (B := T178.setTop (mkF m 467 #[iv x0, iv x1, iv x2, iv x3, iv (j0_11_s0 x0 x1 x2 x3), iv (j0_24_s0 x0 x1 x2 x3), rv b5, rv b9, rv b13, rv b15, iv (j0_435_s0_a x0 x1 x2 x3), iv (304 : Int32), rv b133, iv (w0_214_a x0 x1 x2 x3), rv b164, iv (w0_446_a x0 x1 x2 x3), rv b178] [])) (fun t k => ?_) ?_
              · refine XS.ifNo X178.here hx rfl (hb hby at_464) rfl ((if0 _ _).trans (feq hc464_179).1) ?_
                exact k
              refine Goes.run X178 hx hown hci hcl hby (L := [(467, .aload 16, 2)]) (by decide +kernel) rfl (g' := (mkF m 469 #[iv x0, iv x1, iv x2, iv x3, iv (j0_11_s0 x0 x1 x2 x3), iv (j0_24_s0 x0 x1 x2 x3), rv b5, rv b9, rv b13, rv b15, iv (j0_435_s0_a x0 x1 x2 x3), iv (304 : Int32), rv b133, iv (w0_214_a x0 x1 x2 x3), rv b164, iv (w0_446_a x0 x1 x2 x3), rv b178] [(.ref b178)])) rfl ?_
              obtain ⟨cl216, Ar216, q216, S216, M216, Hs216, G216⟩ := id V_b178
              refine Goes.st (B := T178.setTop (mkF m 470 #[iv x0, iv x1, iv x2, iv x3, iv (j0_11_s0 x0 x1 x2 x3), iv (j0_24_s0 x0 x1 x2 x3), rv b5, rv b9, rv b13, rv b15, iv (j0_435_s0_a x0 x1 x2 x3), iv (304 : Int32), rv b133, iv (w0_214_a x0 x1 x2 x3), rv b164, iv (w0_446_a x0 x1 x2 x3), rv b178] [(.int (w0_446_a x0 x1 x2 x3))])) (fun t k => ?_) ?_
              · refine X178.arraylength hx (cell := cl216) (by rw [e178]; exact Ar216.1) (State.isArrayOf_alike hZ.alike Ar216.2.1) (g := (mkF m 469 #[iv x0, iv x1, iv x2, iv x3, iv (j0_11_s0 x0 x1 x2 x3), iv (j0_24_s0 x0 x1 x2 x3), rv b5, rv b9, rv b13, rv b15, iv (j0_435_s0_a x0 x1 x2 x3), iv (304 : Int32), rv b133, iv (w0_214_a x0 x1 x2 x3), rv b164, iv (w0_446_a x0 x1 x2 x3), rv b178] [(.ref b178)])) rfl (rest := []) rfl (hb hby at_469) _ ?_
                rw [len_of S216 M216]
                exact k
              refine Goes.run X178 hx hown hci hcl hby (L := [(470, .iload 15, 2)]) (by decide +kernel) rfl (g' := (mkF m 472 #[iv x0, iv x1, iv x2, iv x3, iv (j0_11_s0 x0 x1 x2 x3), iv (j0_24_s0 x0 x1 x2 x3), rv b5, rv b9, rv b13, rv b15, iv (j0_435_s0_a x0 x1 x2 x3), iv (304 : Int32), rv b133, iv (w0_214_a x0 x1 x2 x3), rv b164, iv (w0_446_a x0 x1 x2 x3), rv b178] [(.int (w0_446_a x0 x1 x2 x3)), (.int (w0_446_a x0 x1 x2 x3))])) rfl ?_
              have hc472_217 : (w0_446_a x0 x1 x2 x3) = (w0_446_a x0 x1 x2 x3) := rfl
              refine Goes.st (B := T178.setTop (mkF m 475 #[iv x0, iv x1, iv x2, iv x3, iv (j0_11_s0 x0 x1 x2 x3), iv (j0_24_s0 x0 x1 x2 x3), rv b5, rv b9, rv b13, rv b15, iv (j0_435_s0_a x0 x1 x2 x3), iv (304 : Int32), rv b133, iv (w0_214_a x0 x1 x2 x3), rv b164, iv (w0_446_a x0 x1 x2 x3), rv b178] [])) (fun t k => ?_) ?_
              · refine XS.icmpNo X178.here hx rfl (hb hby at_472) rfl (teq hc472_217).2 ?_
                exact k
              refine Goes.run X178 hx hown hci hcl hby (L := [(475, .iconst 1, 1), (476, .goto 4, 3)]) (by decide +kernel) rfl (g' := (mkF m 480 #[iv x0, iv x1, iv x2, iv x3, iv (j0_11_s0 x0 x1 x2 x3), iv (j0_24_s0 x0 x1 x2 x3), rv b5, rv b9, rv b13, rv b15, iv (j0_435_s0_a x0 x1 x2 x3), iv (304 : Int32), rv b133, iv (w0_214_a x0 x1 x2 x3), rv b164, iv (w0_446_a x0 x1 x2 x3), rv b178] [(.int (1 : Int32))])) rfl ?_
              have q := jn480_182
              rw [show (j0_480_s0_a x0 x1 x2 x3) = (1 : Int32) from (if_neg hc464_179)] at q
              exact q
          by_cases hc372_165 : (j0_331_s0_a x0 x1 x2 x3) = (0 : Int32)
          · skip
            refine Goes.st (B := T164.setTop (mkF m 434 #[iv x0, iv x1, iv x2, iv x3, iv (j0_11_s0 x0 x1 x2 x3), iv (j0_24_s0 x0 x1 x2 x3), rv b5, rv b9, rv b13, rv b15, iv (j0_331_s0_a x0 x1 x2 x3), iv (304 : Int32), rv b133, iv (w0_214_a x0 x1 x2 x3), rv b164, .unset, .unset] [])) (fun t k => ?_) ?_
            · refine XS.ifYes X164.here hx rfl (pc0 := 372) (pc' := 434) rfl (hb hby at_372) rfl ((if0 _ _).trans (teq hc372_165).1) (by decide) (by decide) ?_
              exact k
            refine Goes.run X164 hx hown hci hcl hby (L := [(434, .iconst 0, 1)]) (by decide +kernel) rfl (g' := (mkF m 435 #[iv x0, iv x1, iv x2, iv x3, iv (j0_11_s0 x0 x1 x2 x3), iv (j0_24_s0 x0 x1 x2 x3), rv b5, rv b9, rv b13, rv b15, iv (j0_331_s0_a x0 x1 x2 x3), iv (304 : Int32), rv b133, iv (w0_214_a x0 x1 x2 x3), rv b164, .unset, .unset] [(.int (0 : Int32))])) rfl ?_
            have q := jn435_175 _ _ X164 e164 N164
            rw [show (j0_435_s0_a x0 x1 x2 x3) = (0 : Int32) from (if_pos hc372_165)] at q
            exact q
          · skip
            refine Goes.st (B := T164.setTop (mkF m 375 #[iv x0, iv x1, iv x2, iv x3, iv (j0_11_s0 x0 x1 x2 x3), iv (j0_24_s0 x0 x1 x2 x3), rv b5, rv b9, rv b13, rv b15, iv (j0_331_s0_a x0 x1 x2 x3), iv (304 : Int32), rv b133, iv (w0_214_a x0 x1 x2 x3), rv b164, .unset, .unset] [])) (fun t k => ?_) ?_
            · refine XS.ifNo X164.here hx rfl (hb hby at_372) rfl ((if0 _ _).trans (feq hc372_165).1) ?_
              exact k
            refine Goes.run X164 hx hown hci hcl hby (L := [(375, .aload 14, 2), (377, .aload 12, 2)]) (by decide +kernel) rfl (g' := (mkF m 379 #[iv x0, iv x1, iv x2, iv x3, iv (j0_11_s0 x0 x1 x2 x3), iv (j0_24_s0 x0 x1 x2 x3), rv b5, rv b9, rv b13, rv b15, iv (j0_331_s0_a x0 x1 x2 x3), iv (304 : Int32), rv b133, iv (w0_214_a x0 x1 x2 x3), rv b164, .unset, .unset] [(.ref b133), (.ref b164)])) rfl ?_
            have hc379_218 : ¬ (b164 = b133) := (Ne.symm ne_b133_b164)
            refine Goes.st (B := T164.setTop (mkF m 382 #[iv x0, iv x1, iv x2, iv x3, iv (j0_11_s0 x0 x1 x2 x3), iv (j0_24_s0 x0 x1 x2 x3), rv b5, rv b9, rv b13, rv b15, iv (j0_331_s0_a x0 x1 x2 x3), iv (304 : Int32), rv b133, iv (w0_214_a x0 x1 x2 x3), rv b164, .unset, .unset] [])) (fun t k => ?_) ?_
            · refine Jvm.RoadKit.acmp (g := (mkF m 379 #[iv x0, iv x1, iv x2, iv x3, iv (j0_11_s0 x0 x1 x2 x3), iv (j0_24_s0 x0 x1 x2 x3), rv b5, rv b9, rv b13, rv b15, iv (j0_331_s0_a x0 x1 x2 x3), iv (304 : Int32), rv b133, iv (w0_214_a x0 x1 x2 x3), rv b164, .unset, .unset] [(.ref b133), (.ref b164)])) X164 hx rfl rfl rfl (pc0 := 379) (pc' := 382) (same := false) rfl (hb hby at_379) rfl (decide_eq_false fun q => hc379_218 (Value.ref.inj q)) (by decide) (by decide) ?_
              exact k
            refine Goes.run X164 hx hown hci hcl hby (L := [(382, .aload 14, 2)]) (by decide +kernel) rfl (g' := (mkF m 384 #[iv x0, iv x1, iv x2, iv x3, iv (j0_11_s0 x0 x1 x2 x3), iv (j0_24_s0 x0 x1 x2 x3), rv b5, rv b9, rv b13, rv b15, iv (j0_331_s0_a x0 x1 x2 x3), iv (304 : Int32), rv b133, iv (w0_214_a x0 x1 x2 x3), rv b164, .unset, .unset] [(.ref b164)])) rfl ?_
            obtain ⟨cl219, Ar219, q219, S219, M219, Hs219, G219⟩ := id V_b164
            refine Goes.st (B := T164.setTop (mkF m 385 #[iv x0, iv x1, iv x2, iv x3, iv (j0_11_s0 x0 x1 x2 x3), iv (j0_24_s0 x0 x1 x2 x3), rv b5, rv b9, rv b13, rv b15, iv (j0_331_s0_a x0 x1 x2 x3), iv (304 : Int32), rv b133, iv (w0_214_a x0 x1 x2 x3), rv b164, .unset, .unset] [(.int (304 : Int32))])) (fun t k => ?_) ?_
            · refine X164.arraylength hx (cell := cl219) (by rw [e164]; exact Ar219.1) (State.isArrayOf_alike hZ.alike Ar219.2.1) (g := (mkF m 384 #[iv x0, iv x1, iv x2, iv x3, iv (j0_11_s0 x0 x1 x2 x3), iv (j0_24_s0 x0 x1 x2 x3), rv b5, rv b9, rv b13, rv b15, iv (j0_331_s0_a x0 x1 x2 x3), iv (304 : Int32), rv b133, iv (w0_214_a x0 x1 x2 x3), rv b164, .unset, .unset] [(.ref b164)])) rfl (rest := []) rfl (hb hby at_384) _ ?_
              rw [len_of S219 M219]
              exact k
            refine Goes.run X164 hx hown hci hcl hby (L := [(385, .iload 11, 2)]) (by decide +kernel) rfl (g' := (mkF m 387 #[iv x0, iv x1, iv x2, iv x3, iv (j0_11_s0 x0 x1 x2 x3), iv (j0_24_s0 x0 x1 x2 x3), rv b5, rv b9, rv b13, rv b15, iv (j0_331_s0_a x0 x1 x2 x3), iv (304 : Int32), rv b133, iv (w0_214_a x0 x1 x2 x3), rv b164, .unset, .unset] [(.int (304 : Int32)), (.int (304 : Int32))])) rfl ?_
            have hc387_220 : (304 : Int32) = (304 : Int32) := rfl
            refine Goes.st (B := T164.setTop (mkF m 390 #[iv x0, iv x1, iv x2, iv x3, iv (j0_11_s0 x0 x1 x2 x3), iv (j0_24_s0 x0 x1 x2 x3), rv b5, rv b9, rv b13, rv b15, iv (j0_331_s0_a x0 x1 x2 x3), iv (304 : Int32), rv b133, iv (w0_214_a x0 x1 x2 x3), rv b164, .unset, .unset] [])) (fun t k => ?_) ?_
            · refine XS.icmpNo X164.here hx rfl (hb hby at_387) rfl (teq hc387_220).2 ?_
              exact k
            refine Goes.run X164 hx hown hci hcl hby (L := [(390, .aload 14, 2), (392, .iconst 0, 1)]) (by decide +kernel) rfl (g' := (mkF m 393 #[iv x0, iv x1, iv x2, iv x3, iv (j0_11_s0 x0 x1 x2 x3), iv (j0_24_s0 x0 x1 x2 x3), rv b5, rv b9, rv b13, rv b15, iv (j0_331_s0_a x0 x1 x2 x3), iv (304 : Int32), rv b133, iv (w0_214_a x0 x1 x2 x3), rv b164, .unset, .unset] [(.int (0 : Int32)), (.ref b164)])) rfl ?_
            obtain ⟨cl221, Ar221, q221, S221, M221, Hs221, G221⟩ := id V_b164
            have hin221 : ¬ ((0 : Int32) < 0 ∨ cl221.slots.size ≤ ((0 : Int32)).toNatClampNeg) := inb_of S221 ⟨(by decide), (by decide)⟩
            have hat221 : cl221.slots[((0 : Int32)).toNatClampNeg]? = some (.int (w0_219_a x0 x1 x2 x3)) := Hs221.at hin221 ((own_fget ((304 : Int32)).toNatClampNeg (f5_512_28 (304 : Int32) (fD_18 (fC_18 (fB_30 (j0_11_s0 x0 x1 x2 x3) own_z) (f0_54 x0 x1 x2 x3)) (f0_94 x0 x1 x2 x3))) 0 _).trans (if_pos (by decide)))
            refine Goes.st (B := T164.setTop (mkF m 394 #[iv x0, iv x1, iv x2, iv x3, iv (j0_11_s0 x0 x1 x2 x3), iv (j0_24_s0 x0 x1 x2 x3), rv b5, rv b9, rv b13, rv b15, iv (j0_331_s0_a x0 x1 x2 x3), iv (304 : Int32), rv b133, iv (w0_214_a x0 x1 x2 x3), rv b164, .unset, .unset] [(.int (w0_219_a x0 x1 x2 x3))])) (X164.baloadBytes hx (j := (0 : Int32)) (v := (.int (w0_219_a x0 x1 x2 x3))) (by rw [e164]; exact Ar221.1) (State.isArrayOf_alike hZ.alike Ar221.2.1) Ar221.2.2 hin221 hat221 (g := (mkF m 393 #[iv x0, iv x1, iv x2, iv x3, iv (j0_11_s0 x0 x1 x2 x3), iv (j0_24_s0 x0 x1 x2 x3), rv b5, rv b9, rv b13, rv b15, iv (j0_331_s0_a x0 x1 x2 x3), iv (304 : Int32), rv b133, iv (w0_214_a x0 x1 x2 x3), rv b164, .unset, .unset] [(.int (0 : Int32)), (.ref b164)])) rfl rfl (hb hby at_393)) ?_
            refine Goes.run X164 hx hown hci hcl hby (L := [(394, .iconst 0, 1), (395, .iload 4, 2), (397, .aload 6, 2), (399, .aload 7, 2)]) (by decide +kernel) rfl (g' := (mkF m 401 #[iv x0, iv x1, iv x2, iv x3, iv (j0_11_s0 x0 x1 x2 x3), iv (j0_24_s0 x0 x1 x2 x3), rv b5, rv b9, rv b13, rv b15, iv (j0_331_s0_a x0 x1 x2 x3), iv (304 : Int32), rv b133, iv (w0_214_a x0 x1 x2 x3), rv b164, .unset, .unset] [(.ref b9), (.ref b5), (.int (j0_11_s0 x0 x1 x2 x3)), (.int (0 : Int32)), (.int (w0_219_a x0 x1 x2 x3))])) rfl ?_
            obtain ⟨_, _, ⟨T222, L222, k222, n222⟩, -, X222, ⟨Lc222, hQ222, l222, y222, z222⟩, st222⟩ := Jvm.LawKit.callS X164 hx (y := ym14) hown (mvT hZ w_66) (mvT hZ w_67) (mvT hZ w_68) (mvT hZ w_69) (by decide) (backOf (W := 1) (rmI l Z a0 hw [] (0 : Int32) (j0_11_s0 x0 x1 x2 x3) b5 b9 k5 k9 (f0_54 x0 x1 x2 x3) (f0_94 x0 x1 x2 x3) h164 n0 Zn164 V_b5 V_b9 (by decide) (by decide) (own_hA x0 x1 x2 x3) (own_hB x0 x1 x2 x3)) hZ w_69 w_68 (by decide) (by decide)) (g := (mkF m 401 #[iv x0, iv x1, iv x2, iv x3, iv (j0_11_s0 x0 x1 x2 x3), iv (j0_24_s0 x0 x1 x2 x3), rv b5, rv b9, rv b13, rv b15, iv (j0_331_s0_a x0 x1 x2 x3), iv (304 : Int32), rv b133, iv (w0_214_a x0 x1 x2 x3), rv b164, .unset, .unset] [(.ref b9), (.ref b5), (.int (j0_11_s0 x0 x1 x2 x3)), (.int (0 : Int32)), (.int (w0_219_a x0 x1 x2 x3))])) rfl (by rw [hml]; rfl) (argsL := [(.int (0 : Int32)), (.int (j0_11_s0 x0 x1 x2 x3)), (.ref b5), (.ref b9)]) (rest := [(.int (w0_219_a x0 x1 x2 x3))]) (lenOf pd0_5 rfl) rfl (by show 2 * 0 + _ ≤ _; exact Nat.le_of_eq rfl) (hb hby at_401) (fun _ _ => ⟨rfl, e164, (by decide : 8 + 0 ≤ _), (by decide : 2353 + 0 ≤ _)⟩)
            dsimp only [Pt.U, Pt.locs, Pt.cells, Pt.slots] at X222 l222 y222 z222 st222 hQ222
            subst l222 y222 z222
            obtain ⟨rfl, N222q, e222⟩ := hQ222
            have N222 := Fr.app N164 N222q
            refine Goes.st (B := T222.setTop (mkF m 404 #[iv x0, iv x1, iv x2, iv x3, iv (j0_11_s0 x0 x1 x2 x3), iv (j0_24_s0 x0 x1 x2 x3), rv b5, rv b9, rv b13, rv b15, iv (j0_331_s0_a x0 x1 x2 x3), iv (304 : Int32), rv b133, iv (w0_214_a x0 x1 x2 x3), rv b164, .unset, .unset] [(.int (rI (0 : Int32) (j0_11_s0 x0 x1 x2 x3) (f0_54 x0 x1 x2 x3) (f0_94 x0 x1 x2 x3))), (.int (w0_219_a x0 x1 x2 x3))])) st222 ?_
            by_cases hc404_223 : (w0_219_a x0 x1 x2 x3) = (rI (0 : Int32) (j0_11_s0 x0 x1 x2 x3) (f0_54 x0 x1 x2 x3) (f0_94 x0 x1 x2 x3))
            · skip
              refine Goes.st (B := T222.setTop (mkF m 407 #[iv x0, iv x1, iv x2, iv x3, iv (j0_11_s0 x0 x1 x2 x3), iv (j0_24_s0 x0 x1 x2 x3), rv b5, rv b9, rv b13, rv b15, iv (j0_331_s0_a x0 x1 x2 x3), iv (304 : Int32), rv b133, iv (w0_214_a x0 x1 x2 x3), rv b164, .unset, .unset] [])) (fun t k => ?_) ?_
              · refine XS.icmpNo X222.here hx rfl (hb hby at_404) rfl (teq hc404_223).2 ?_
                exact k
              refine Goes.run X222 hx hown hci hcl hby (L := [(407, .aload 14, 2), (409, .iload 11, 2), (411, .iconst 1, 1), (412, .isub, 1)]) (by decide +kernel) rfl (g' := (mkF m 413 #[iv x0, iv x1, iv x2, iv x3, iv (j0_11_s0 x0 x1 x2 x3), iv (j0_24_s0 x0 x1 x2 x3), rv b5, rv b9, rv b13, rv b15, iv (j0_331_s0_a x0 x1 x2 x3), iv (304 : Int32), rv b133, iv (w0_214_a x0 x1 x2 x3), rv b164, .unset, .unset] [(.int (303 : Int32)), (.ref b164)])) rfl ?_
              obtain ⟨cl224, Ar224, q224, S224, M224, Hs224, G224⟩ := id V_b164
              have hin224 : ¬ ((303 : Int32) < 0 ∨ cl224.slots.size ≤ ((303 : Int32)).toNatClampNeg) := inb_of S224 ⟨(by decide), (by decide)⟩
              have hat224 : cl224.slots[((303 : Int32)).toNatClampNeg]? = some (.int (w0_290 x0 x1 x2 x3)) := Hs224.at hin224 ((own_fget ((304 : Int32)).toNatClampNeg (f5_512_28 (304 : Int32) (fD_18 (fC_18 (fB_30 (j0_11_s0 x0 x1 x2 x3) own_z) (f0_54 x0 x1 x2 x3)) (f0_94 x0 x1 x2 x3))) 303 _).trans (if_pos (by decide)))
              refine Goes.st (B := T222.setTop (mkF m 414 #[iv x0, iv x1, iv x2, iv x3, iv (j0_11_s0 x0 x1 x2 x3), iv (j0_24_s0 x0 x1 x2 x3), rv b5, rv b9, rv b13, rv b15, iv (j0_331_s0_a x0 x1 x2 x3), iv (304 : Int32), rv b133, iv (w0_214_a x0 x1 x2 x3), rv b164, .unset, .unset] [(.int (w0_290 x0 x1 x2 x3))])) (X222.baloadBytes hx (j := (303 : Int32)) (v := (.int (w0_290 x0 x1 x2 x3))) (by rw [e222]; exact Ar224.1) (State.isArrayOf_alike hZ.alike Ar224.2.1) Ar224.2.2 hin224 hat224 (g := (mkF m 413 #[iv x0, iv x1, iv x2, iv x3, iv (j0_11_s0 x0 x1 x2 x3), iv (j0_24_s0 x0 x1 x2 x3), rv b5, rv b9, rv b13, rv b15, iv (j0_331_s0_a x0 x1 x2 x3), iv (304 : Int32), rv b133, iv (w0_214_a x0 x1 x2 x3), rv b164, .unset, .unset] [(.int (303 : Int32)), (.ref b164)])) rfl rfl (hb hby at_413)) ?_
              refine Goes.run X222 hx hown hci hcl hby (L := [(414, .iload 11, 2), (416, .iconst 1, 1), (417, .isub, 1), (418, .iload 4, 2), (420, .aload 6, 2), (422, .aload 7, 2)]) (by decide +kernel) rfl (g' := (mkF m 424 #[iv x0, iv x1, iv x2, iv x3, iv (j0_11_s0 x0 x1 x2 x3), iv (j0_24_s0 x0 x1 x2 x3), rv b5, rv b9, rv b13, rv b15, iv (j0_331_s0_a x0 x1 x2 x3), iv (304 : Int32), rv b133, iv (w0_214_a x0 x1 x2 x3), rv b164, .unset, .unset] [(.ref b9), (.ref b5), (.int (j0_11_s0 x0 x1 x2 x3)), (.int (303 : Int32)), (.int (w0_290 x0 x1 x2 x3))])) rfl ?_
              obtain ⟨_, _, ⟨T225, L225, k225, n225⟩, -, X225, ⟨Lc225, hQ225, l225, y225, z225⟩, st225⟩ := Jvm.LawKit.callS X222 hx (y := ym14) hown (mvT hZ w_66) (mvT hZ w_67) (mvT hZ w_68) (mvT hZ w_69) (by decide) (backOf (W := 1) (rmI l Z a0 hw [] (303 : Int32) (j0_11_s0 x0 x1 x2 x3) b5 b9 k5 k9 (f0_54 x0 x1 x2 x3) (f0_94 x0 x1 x2 x3) h164 n0 Zn164 V_b5 V_b9 (by decide) (by decide) (own_hA x0 x1 x2 x3) (own_hB x0 x1 x2 x3)) hZ w_69 w_68 (by decide) (by decide)) (g := (mkF m 424 #[iv x0, iv x1, iv x2, iv x3, iv (j0_11_s0 x0 x1 x2 x3), iv (j0_24_s0 x0 x1 x2 x3), rv b5, rv b9, rv b13, rv b15, iv (j0_331_s0_a x0 x1 x2 x3), iv (304 : Int32), rv b133, iv (w0_214_a x0 x1 x2 x3), rv b164, .unset, .unset] [(.ref b9), (.ref b5), (.int (j0_11_s0 x0 x1 x2 x3)), (.int (303 : Int32)), (.int (w0_290 x0 x1 x2 x3))])) rfl (by rw [hml]; rfl) (argsL := [(.int (303 : Int32)), (.int (j0_11_s0 x0 x1 x2 x3)), (.ref b5), (.ref b9)]) (rest := [(.int (w0_290 x0 x1 x2 x3))]) (lenOf pd0_5 rfl) rfl (by show 2 * 0 + _ ≤ _; exact Nat.le_of_eq rfl) (hb hby at_424) (fun _ _ => ⟨rfl, e222, (by decide : 8 + 0 ≤ _), (by decide : 2353 + 0 ≤ _)⟩)
              dsimp only [Pt.U, Pt.locs, Pt.cells, Pt.slots] at X225 l225 y225 z225 st225 hQ225
              subst l225 y225 z225
              obtain ⟨rfl, N225q, e225⟩ := hQ225
              have N225 := Fr.app N222 N225q
              refine Goes.st (B := T225.setTop (mkF m 427 #[iv x0, iv x1, iv x2, iv x3, iv (j0_11_s0 x0 x1 x2 x3), iv (j0_24_s0 x0 x1 x2 x3), rv b5, rv b9, rv b13, rv b15, iv (j0_331_s0_a x0 x1 x2 x3), iv (304 : Int32), rv b133, iv (w0_214_a x0 x1 x2 x3), rv b164, .unset, .unset] [(.int (rI (303 : Int32) (j0_11_s0 x0 x1 x2 x3) (f0_54 x0 x1 x2 x3) (f0_94 x0 x1 x2 x3))), (.int (w0_290 x0 x1 x2 x3))])) st225 ?_
              by_cases hc427_226 : (w0_290 x0 x1 x2 x3) = (rI (303 : Int32) (j0_11_s0 x0 x1 x2 x3) (f0_54 x0 x1 x2 x3) (f0_94 x0 x1 x2 x3))
              · skip
                refine Goes.st (B := T225.setTop (mkF m 430 #[iv x0, iv x1, iv x2, iv x3, iv (j0_11_s0 x0 x1 x2 x3), iv (j0_24_s0 x0 x1 x2 x3), rv b5, rv b9, rv b13, rv b15, iv (j0_331_s0_a x0 x1 x2 x3), iv (304 : Int32), rv b133, iv (w0_214_a x0 x1 x2 x3), rv b164, .unset, .unset] [])) (fun t k => ?_) ?_
                · refine XS.icmpNo X225.here hx rfl (hb hby at_427) rfl (teq hc427_226).2 ?_
                  exact k
                refine Goes.run X225 hx hown hci hcl hby (L := [(430, .iconst 1, 1), (431, .goto 4, 3)]) (by decide +kernel) rfl (g' := (mkF m 435 #[iv x0, iv x1, iv x2, iv x3, iv (j0_11_s0 x0 x1 x2 x3), iv (j0_24_s0 x0 x1 x2 x3), rv b5, rv b9, rv b13, rv b15, iv (j0_331_s0_a x0 x1 x2 x3), iv (304 : Int32), rv b133, iv (w0_214_a x0 x1 x2 x3), rv b164, .unset, .unset] [(.int (1 : Int32))])) rfl ?_
                have q := jn435_175 _ _ X225 e225 N225
                rw [show (j0_435_s0_a x0 x1 x2 x3) = (1 : Int32) from (((if_neg hc372_165).trans (if_pos hc404_223)).trans (if_pos hc427_226))] at q
                exact q
              · skip
                refine Goes.st (B := T225.setTop (mkF m 434 #[iv x0, iv x1, iv x2, iv x3, iv (j0_11_s0 x0 x1 x2 x3), iv (j0_24_s0 x0 x1 x2 x3), rv b5, rv b9, rv b13, rv b15, iv (j0_331_s0_a x0 x1 x2 x3), iv (304 : Int32), rv b133, iv (w0_214_a x0 x1 x2 x3), rv b164, .unset, .unset] [])) (fun t k => ?_) ?_
                · refine XS.icmpYes X225.here hx rfl (pc0 := 427) (pc' := 434) rfl (hb hby at_427) rfl (feq hc427_226).2 (by decide) (by decide) ?_
                  exact k
                refine Goes.run X225 hx hown hci hcl hby (L := [(434, .iconst 0, 1)]) (by decide +kernel) rfl (g' := (mkF m 435 #[iv x0, iv x1, iv x2, iv x3, iv (j0_11_s0 x0 x1 x2 x3), iv (j0_24_s0 x0 x1 x2 x3), rv b5, rv b9, rv b13, rv b15, iv (j0_331_s0_a x0 x1 x2 x3), iv (304 : Int32), rv b133, iv (w0_214_a x0 x1 x2 x3), rv b164, .unset, .unset] [(.int (0 : Int32))])) rfl ?_
                have q := jn435_175 _ _ X225 e225 N225
                rw [show (j0_435_s0_a x0 x1 x2 x3) = (0 : Int32) from (((if_neg hc372_165).trans (if_pos hc404_223)).trans (if_neg hc427_226))] at q
                exact q
            · skip
              refine Goes.st (B := T222.setTop (mkF m 434 #[iv x0, iv x1, iv x2, iv x3, iv (j0_11_s0 x0 x1 x2 x3), iv (j0_24_s0 x0 x1 x2 x3), rv b5, rv b9, rv b13, rv b15, iv (j0_331_s0_a x0 x1 x2 x3), iv (304 : Int32), rv b133, iv (w0_214_a x0 x1 x2 x3), rv b164, .unset, .unset] [])) (fun t k => ?_) ?_
              · refine XS.icmpYes X222.here hx rfl (pc0 := 404) (pc' := 434) rfl (hb hby at_404) rfl (feq hc404_223).2 (by decide) (by decide) ?_
                exact k
              refine Goes.run X222 hx hown hci hcl hby (L := [(434, .iconst 0, 1)]) (by decide +kernel) rfl (g' := (mkF m 435 #[iv x0, iv x1, iv x2, iv x3, iv (j0_11_s0 x0 x1 x2 x3), iv (j0_24_s0 x0 x1 x2 x3), rv b5, rv b9, rv b13, rv b15, iv (j0_331_s0_a x0 x1 x2 x3), iv (304 : Int32), rv b133, iv (w0_214_a x0 x1 x2 x3), rv b164, .unset, .unset] [(.int (0 : Int32))])) rfl ?_
              have q := jn435_175 _ _ X222 e222 N222
              rw [show (j0_435_s0_a x0 x1 x2 x3) = (0 : Int32) from ((if_neg hc372_165).trans (if_neg hc404_223))] at q
              exact q
        by_cases hc230_142 : (w0_219_a x0 x1 x2 x3) = (rI (0 : Int32) (j0_11_s0 x0 x1 x2 x3) (f0_54 x0 x1 x2 x3) (f0_94 x0 x1 x2 x3))
        · skip
          refine Goes.st (B := T141.setTop (mkF m 233 #[iv x0, iv x1, iv x2, iv x3, iv (j0_11_s0 x0 x1 x2 x3), iv (j0_24_s0 x0 x1 x2 x3), rv b5, rv b9, rv b13, rv b15, iv (1 : Int32), iv (304 : Int32), rv b133, iv (w0_214_a x0 x1 x2 x3), .unset, .unset, .unset] [])) (fun t k => ?_) ?_
          · refine XS.icmpNo X141.here hx rfl (hb hby at_230) rfl (teq hc230_142).2 ?_
            exact k
          refine Goes.run X141 hx hown hci hcl hby (L := [(233, .aload 12, 2), (235, .iconst 1, 1)]) (by decide +kernel) rfl (g' := (mkF m 236 #[iv x0, iv x1, iv x2, iv x3, iv (j0_11_s0 x0 x1 x2 x3), iv (j0_24_s0 x0 x1 x2 x3), rv b5, rv b9, rv b13, rv b15, iv (1 : Int32), iv (304 : Int32), rv b133, iv (w0_214_a x0 x1 x2 x3), .unset, .unset, .unset] [(.int (1 : Int32)), (.ref b133)])) rfl ?_
          obtain ⟨cl227, Ar227, q227, S227, M227, Hs227, G227⟩ := id V_b133
          have hin227 : ¬ ((1 : Int32) < 0 ∨ cl227.slots.size ≤ ((1 : Int32)).toNatClampNeg) := inb_of S227 ⟨(by decide), (by decide)⟩
          have hat227 : cl227.slots[((1 : Int32)).toNatClampNeg]? = some (.int (w0_236_a x0 x1 x2 x3)) := Hs227.at hin227 ((own_fget ((304 : Int32)).toNatClampNeg (f5_512_28 (304 : Int32) (fD_18 (fC_18 (fB_30 (j0_11_s0 x0 x1 x2 x3) own_z) (f0_54 x0 x1 x2 x3)) (f0_94 x0 x1 x2 x3))) 1 _).trans (if_pos (by decide)))
          refine Goes.st (B := T141.setTop (mkF m 237 #[iv x0, iv x1, iv x2, iv x3, iv (j0_11_s0 x0 x1 x2 x3), iv (j0_24_s0 x0 x1 x2 x3), rv b5, rv b9, rv b13, rv b15, iv (1 : Int32), iv (304 : Int32), rv b133, iv (w0_214_a x0 x1 x2 x3), .unset, .unset, .unset] [(.int (w0_236_a x0 x1 x2 x3))])) (X141.baloadBytes hx (j := (1 : Int32)) (v := (.int (w0_236_a x0 x1 x2 x3))) (by rw [e141]; exact Ar227.1) (State.isArrayOf_alike hZ.alike Ar227.2.1) Ar227.2.2 hin227 hat227 (g := (mkF m 236 #[iv x0, iv x1, iv x2, iv x3, iv (j0_11_s0 x0 x1 x2 x3), iv (j0_24_s0 x0 x1 x2 x3), rv b5, rv b9, rv b13, rv b15, iv (1 : Int32), iv (304 : Int32), rv b133, iv (w0_214_a x0 x1 x2 x3), .unset, .unset, .unset] [(.int (1 : Int32)), (.ref b133)])) rfl rfl (hb hby at_236)) ?_
          refine Goes.run X141 hx hown hci hcl hby (L := [(237, .iconst 1, 1), (238, .iload 4, 2), (240, .aload 6, 2), (242, .aload 7, 2)]) (by decide +kernel) rfl (g' := (mkF m 244 #[iv x0, iv x1, iv x2, iv x3, iv (j0_11_s0 x0 x1 x2 x3), iv (j0_24_s0 x0 x1 x2 x3), rv b5, rv b9, rv b13, rv b15, iv (1 : Int32), iv (304 : Int32), rv b133, iv (w0_214_a x0 x1 x2 x3), .unset, .unset, .unset] [(.ref b9), (.ref b5), (.int (j0_11_s0 x0 x1 x2 x3)), (.int (1 : Int32)), (.int (w0_236_a x0 x1 x2 x3))])) rfl ?_
          obtain ⟨_, _, ⟨T228, L228, k228, n228⟩, -, X228, ⟨Lc228, hQ228, l228, y228, z228⟩, st228⟩ := Jvm.LawKit.callS X141 hx (y := ym14) hown (mvT hZ w_66) (mvT hZ w_67) (mvT hZ w_68) (mvT hZ w_69) (by decide) (backOf (W := 1) (rmI l Z a0 hw [] (1 : Int32) (j0_11_s0 x0 x1 x2 x3) b5 b9 k5 k9 (f0_54 x0 x1 x2 x3) (f0_94 x0 x1 x2 x3) h133 n0 Zn133 V_b5 V_b9 (by decide) (by decide) (own_hA x0 x1 x2 x3) (own_hB x0 x1 x2 x3)) hZ w_69 w_68 (by decide) (by decide)) (g := (mkF m 244 #[iv x0, iv x1, iv x2, iv x3, iv (j0_11_s0 x0 x1 x2 x3), iv (j0_24_s0 x0 x1 x2 x3), rv b5, rv b9, rv b13, rv b15, iv (1 : Int32), iv (304 : Int32), rv b133, iv (w0_214_a x0 x1 x2 x3), .unset, .unset, .unset] [(.ref b9), (.ref b5), (.int (j0_11_s0 x0 x1 x2 x3)), (.int (1 : Int32)), (.int (w0_236_a x0 x1 x2 x3))])) rfl (by rw [hml]; rfl) (argsL := [(.int (1 : Int32)), (.int (j0_11_s0 x0 x1 x2 x3)), (.ref b5), (.ref b9)]) (rest := [(.int (w0_236_a x0 x1 x2 x3))]) (lenOf pd0_5 rfl) rfl (by show 2 * 0 + _ ≤ _; exact Nat.le_of_eq rfl) (hb hby at_244) (fun _ _ => ⟨rfl, e141, (by decide : 7 + 0 ≤ _), (by decide : 1841 + 0 ≤ _)⟩)
          dsimp only [Pt.U, Pt.locs, Pt.cells, Pt.slots] at X228 l228 y228 z228 st228 hQ228
          subst l228 y228 z228
          obtain ⟨rfl, N228q, e228⟩ := hQ228
          have N228 := Fr.app N141 N228q
          refine Goes.st (B := T228.setTop (mkF m 247 #[iv x0, iv x1, iv x2, iv x3, iv (j0_11_s0 x0 x1 x2 x3), iv (j0_24_s0 x0 x1 x2 x3), rv b5, rv b9, rv b13, rv b15, iv (1 : Int32), iv (304 : Int32), rv b133, iv (w0_214_a x0 x1 x2 x3), .unset, .unset, .unset] [(.int (rI (1 : Int32) (j0_11_s0 x0 x1 x2 x3) (f0_54 x0 x1 x2 x3) (f0_94 x0 x1 x2 x3))), (.int (w0_236_a x0 x1 x2 x3))])) st228 ?_
          by_cases hc247_229 : (w0_236_a x0 x1 x2 x3) = (rI (1 : Int32) (j0_11_s0 x0 x1 x2 x3) (f0_54 x0 x1 x2 x3) (f0_94 x0 x1 x2 x3))
          · skip
            refine Goes.st (B := T228.setTop (mkF m 250 #[iv x0, iv x1, iv x2, iv x3, iv (j0_11_s0 x0 x1 x2 x3), iv (j0_24_s0 x0 x1 x2 x3), rv b5, rv b9, rv b13, rv b15, iv (1 : Int32), iv (304 : Int32), rv b133, iv (w0_214_a x0 x1 x2 x3), .unset, .unset, .unset] [])) (fun t k => ?_) ?_
            · refine XS.icmpNo X228.here hx rfl (hb hby at_247) rfl (teq hc247_229).2 ?_
              exact k
            refine Goes.run X228 hx hown hci hcl hby (L := [(250, .aload 12, 2), (252, .iconst 2, 1)]) (by decide +kernel) rfl (g' := (mkF m 253 #[iv x0, iv x1, iv x2, iv x3, iv (j0_11_s0 x0 x1 x2 x3), iv (j0_24_s0 x0 x1 x2 x3), rv b5, rv b9, rv b13, rv b15, iv (1 : Int32), iv (304 : Int32), rv b133, iv (w0_214_a x0 x1 x2 x3), .unset, .unset, .unset] [(.int (2 : Int32)), (.ref b133)])) rfl ?_
            obtain ⟨cl230, Ar230, q230, S230, M230, Hs230, G230⟩ := id V_b133
            have hin230 : ¬ ((2 : Int32) < 0 ∨ cl230.slots.size ≤ ((2 : Int32)).toNatClampNeg) := inb_of S230 ⟨(by decide), (by decide)⟩
            have hat230 : cl230.slots[((2 : Int32)).toNatClampNeg]? = some (.int (w0_253_a x0 x1 x2 x3)) := Hs230.at hin230 ((own_fget ((304 : Int32)).toNatClampNeg (f5_512_28 (304 : Int32) (fD_18 (fC_18 (fB_30 (j0_11_s0 x0 x1 x2 x3) own_z) (f0_54 x0 x1 x2 x3)) (f0_94 x0 x1 x2 x3))) 2 _).trans (if_pos (by decide)))
            refine Goes.st (B := T228.setTop (mkF m 254 #[iv x0, iv x1, iv x2, iv x3, iv (j0_11_s0 x0 x1 x2 x3), iv (j0_24_s0 x0 x1 x2 x3), rv b5, rv b9, rv b13, rv b15, iv (1 : Int32), iv (304 : Int32), rv b133, iv (w0_214_a x0 x1 x2 x3), .unset, .unset, .unset] [(.int (w0_253_a x0 x1 x2 x3))])) (X228.baloadBytes hx (j := (2 : Int32)) (v := (.int (w0_253_a x0 x1 x2 x3))) (by rw [e228]; exact Ar230.1) (State.isArrayOf_alike hZ.alike Ar230.2.1) Ar230.2.2 hin230 hat230 (g := (mkF m 253 #[iv x0, iv x1, iv x2, iv x3, iv (j0_11_s0 x0 x1 x2 x3), iv (j0_24_s0 x0 x1 x2 x3), rv b5, rv b9, rv b13, rv b15, iv (1 : Int32), iv (304 : Int32), rv b133, iv (w0_214_a x0 x1 x2 x3), .unset, .unset, .unset] [(.int (2 : Int32)), (.ref b133)])) rfl rfl (hb hby at_253)) ?_
            refine Goes.run X228 hx hown hci hcl hby (L := [(254, .iconst 2, 1), (255, .iload 4, 2), (257, .aload 6, 2), (259, .aload 7, 2)]) (by decide +kernel) rfl (g' := (mkF m 261 #[iv x0, iv x1, iv x2, iv x3, iv (j0_11_s0 x0 x1 x2 x3), iv (j0_24_s0 x0 x1 x2 x3), rv b5, rv b9, rv b13, rv b15, iv (1 : Int32), iv (304 : Int32), rv b133, iv (w0_214_a x0 x1 x2 x3), .unset, .unset, .unset] [(.ref b9), (.ref b5), (.int (j0_11_s0 x0 x1 x2 x3)), (.int (2 : Int32)), (.int (w0_253_a x0 x1 x2 x3))])) rfl ?_
            obtain ⟨_, _, ⟨T231, L231, k231, n231⟩, -, X231, ⟨Lc231, hQ231, l231, y231, z231⟩, st231⟩ := Jvm.LawKit.callS X228 hx (y := ym14) hown (mvT hZ w_66) (mvT hZ w_67) (mvT hZ w_68) (mvT hZ w_69) (by decide) (backOf (W := 1) (rmI l Z a0 hw [] (2 : Int32) (j0_11_s0 x0 x1 x2 x3) b5 b9 k5 k9 (f0_54 x0 x1 x2 x3) (f0_94 x0 x1 x2 x3) h133 n0 Zn133 V_b5 V_b9 (by decide) (by decide) (own_hA x0 x1 x2 x3) (own_hB x0 x1 x2 x3)) hZ w_69 w_68 (by decide) (by decide)) (g := (mkF m 261 #[iv x0, iv x1, iv x2, iv x3, iv (j0_11_s0 x0 x1 x2 x3), iv (j0_24_s0 x0 x1 x2 x3), rv b5, rv b9, rv b13, rv b15, iv (1 : Int32), iv (304 : Int32), rv b133, iv (w0_214_a x0 x1 x2 x3), .unset, .unset, .unset] [(.ref b9), (.ref b5), (.int (j0_11_s0 x0 x1 x2 x3)), (.int (2 : Int32)), (.int (w0_253_a x0 x1 x2 x3))])) rfl (by rw [hml]; rfl) (argsL := [(.int (2 : Int32)), (.int (j0_11_s0 x0 x1 x2 x3)), (.ref b5), (.ref b9)]) (rest := [(.int (w0_253_a x0 x1 x2 x3))]) (lenOf pd0_5 rfl) rfl (by show 2 * 0 + _ ≤ _; exact Nat.le_of_eq rfl) (hb hby at_261) (fun _ _ => ⟨rfl, e228, (by decide : 7 + 0 ≤ _), (by decide : 1841 + 0 ≤ _)⟩)
            dsimp only [Pt.U, Pt.locs, Pt.cells, Pt.slots] at X231 l231 y231 z231 st231 hQ231
            subst l231 y231 z231
            obtain ⟨rfl, N231q, e231⟩ := hQ231
            have N231 := Fr.app N228 N231q
            refine Goes.st (B := T231.setTop (mkF m 264 #[iv x0, iv x1, iv x2, iv x3, iv (j0_11_s0 x0 x1 x2 x3), iv (j0_24_s0 x0 x1 x2 x3), rv b5, rv b9, rv b13, rv b15, iv (1 : Int32), iv (304 : Int32), rv b133, iv (w0_214_a x0 x1 x2 x3), .unset, .unset, .unset] [(.int (rI (2 : Int32) (j0_11_s0 x0 x1 x2 x3) (f0_54 x0 x1 x2 x3) (f0_94 x0 x1 x2 x3))), (.int (w0_253_a x0 x1 x2 x3))])) st231 ?_
            by_cases hc264_232 : (w0_253_a x0 x1 x2 x3) = (rI (2 : Int32) (j0_11_s0 x0 x1 x2 x3) (f0_54 x0 x1 x2 x3) (f0_94 x0 x1 x2 x3))
            · skip
              refine Goes.st (B := T231.setTop (mkF m 267 #[iv x0, iv x1, iv x2, iv x3, iv (j0_11_s0 x0 x1 x2 x3), iv (j0_24_s0 x0 x1 x2 x3), rv b5, rv b9, rv b13, rv b15, iv (1 : Int32), iv (304 : Int32), rv b133, iv (w0_214_a x0 x1 x2 x3), .unset, .unset, .unset] [])) (fun t k => ?_) ?_
              · refine XS.icmpNo X231.here hx rfl (hb hby at_264) rfl (teq hc264_232).2 ?_
                exact k
              refine Goes.run X231 hx hown hci hcl hby (L := [(267, .aload 12, 2), (269, .iconst 3, 1)]) (by decide +kernel) rfl (g' := (mkF m 270 #[iv x0, iv x1, iv x2, iv x3, iv (j0_11_s0 x0 x1 x2 x3), iv (j0_24_s0 x0 x1 x2 x3), rv b5, rv b9, rv b13, rv b15, iv (1 : Int32), iv (304 : Int32), rv b133, iv (w0_214_a x0 x1 x2 x3), .unset, .unset, .unset] [(.int (3 : Int32)), (.ref b133)])) rfl ?_
              obtain ⟨cl233, Ar233, q233, S233, M233, Hs233, G233⟩ := id V_b133
              have hin233 : ¬ ((3 : Int32) < 0 ∨ cl233.slots.size ≤ ((3 : Int32)).toNatClampNeg) := inb_of S233 ⟨(by decide), (by decide)⟩
              have hat233 : cl233.slots[((3 : Int32)).toNatClampNeg]? = some (.int (w0_270_a x0 x1 x2 x3)) := Hs233.at hin233 ((own_fget ((304 : Int32)).toNatClampNeg (f5_512_28 (304 : Int32) (fD_18 (fC_18 (fB_30 (j0_11_s0 x0 x1 x2 x3) own_z) (f0_54 x0 x1 x2 x3)) (f0_94 x0 x1 x2 x3))) 3 _).trans (if_pos (by decide)))
              refine Goes.st (B := T231.setTop (mkF m 271 #[iv x0, iv x1, iv x2, iv x3, iv (j0_11_s0 x0 x1 x2 x3), iv (j0_24_s0 x0 x1 x2 x3), rv b5, rv b9, rv b13, rv b15, iv (1 : Int32), iv (304 : Int32), rv b133, iv (w0_214_a x0 x1 x2 x3), .unset, .unset, .unset] [(.int (w0_270_a x0 x1 x2 x3))])) (X231.baloadBytes hx (j := (3 : Int32)) (v := (.int (w0_270_a x0 x1 x2 x3))) (by rw [e231]; exact Ar233.1) (State.isArrayOf_alike hZ.alike Ar233.2.1) Ar233.2.2 hin233 hat233 (g := (mkF m 270 #[iv x0, iv x1, iv x2, iv x3, iv (j0_11_s0 x0 x1 x2 x3), iv (j0_24_s0 x0 x1 x2 x3), rv b5, rv b9, rv b13, rv b15, iv (1 : Int32), iv (304 : Int32), rv b133, iv (w0_214_a x0 x1 x2 x3), .unset, .unset, .unset] [(.int (3 : Int32)), (.ref b133)])) rfl rfl (hb hby at_270)) ?_
              refine Goes.run X231 hx hown hci hcl hby (L := [(271, .iconst 3, 1), (272, .iload 4, 2), (274, .aload 6, 2), (276, .aload 7, 2)]) (by decide +kernel) rfl (g' := (mkF m 278 #[iv x0, iv x1, iv x2, iv x3, iv (j0_11_s0 x0 x1 x2 x3), iv (j0_24_s0 x0 x1 x2 x3), rv b5, rv b9, rv b13, rv b15, iv (1 : Int32), iv (304 : Int32), rv b133, iv (w0_214_a x0 x1 x2 x3), .unset, .unset, .unset] [(.ref b9), (.ref b5), (.int (j0_11_s0 x0 x1 x2 x3)), (.int (3 : Int32)), (.int (w0_270_a x0 x1 x2 x3))])) rfl ?_
              obtain ⟨_, _, ⟨T234, L234, k234, n234⟩, -, X234, ⟨Lc234, hQ234, l234, y234, z234⟩, st234⟩ := Jvm.LawKit.callS X231 hx (y := ym14) hown (mvT hZ w_66) (mvT hZ w_67) (mvT hZ w_68) (mvT hZ w_69) (by decide) (backOf (W := 1) (rmI l Z a0 hw [] (3 : Int32) (j0_11_s0 x0 x1 x2 x3) b5 b9 k5 k9 (f0_54 x0 x1 x2 x3) (f0_94 x0 x1 x2 x3) h133 n0 Zn133 V_b5 V_b9 (by decide) (by decide) (own_hA x0 x1 x2 x3) (own_hB x0 x1 x2 x3)) hZ w_69 w_68 (by decide) (by decide)) (g := (mkF m 278 #[iv x0, iv x1, iv x2, iv x3, iv (j0_11_s0 x0 x1 x2 x3), iv (j0_24_s0 x0 x1 x2 x3), rv b5, rv b9, rv b13, rv b15, iv (1 : Int32), iv (304 : Int32), rv b133, iv (w0_214_a x0 x1 x2 x3), .unset, .unset, .unset] [(.ref b9), (.ref b5), (.int (j0_11_s0 x0 x1 x2 x3)), (.int (3 : Int32)), (.int (w0_270_a x0 x1 x2 x3))])) rfl (by rw [hml]; rfl) (argsL := [(.int (3 : Int32)), (.int (j0_11_s0 x0 x1 x2 x3)), (.ref b5), (.ref b9)]) (rest := [(.int (w0_270_a x0 x1 x2 x3))]) (lenOf pd0_5 rfl) rfl (by show 2 * 0 + _ ≤ _; exact Nat.le_of_eq rfl) (hb hby at_278) (fun _ _ => ⟨rfl, e231, (by decide : 7 + 0 ≤ _), (by decide : 1841 + 0 ≤ _)⟩)
              dsimp only [Pt.U, Pt.locs, Pt.cells, Pt.slots] at X234 l234 y234 z234 st234 hQ234
              subst l234 y234 z234
              obtain ⟨rfl, N234q, e234⟩ := hQ234
              have N234 := Fr.app N231 N234q
              refine Goes.st (B := T234.setTop (mkF m 281 #[iv x0, iv x1, iv x2, iv x3, iv (j0_11_s0 x0 x1 x2 x3), iv (j0_24_s0 x0 x1 x2 x3), rv b5, rv b9, rv b13, rv b15, iv (1 : Int32), iv (304 : Int32), rv b133, iv (w0_214_a x0 x1 x2 x3), .unset, .unset, .unset] [(.int (rI (3 : Int32) (j0_11_s0 x0 x1 x2 x3) (f0_54 x0 x1 x2 x3) (f0_94 x0 x1 x2 x3))), (.int (w0_270_a x0 x1 x2 x3))])) st234 ?_
              by_cases hc281_235 : (w0_270_a x0 x1 x2 x3) = (rI (3 : Int32) (j0_11_s0 x0 x1 x2 x3) (f0_54 x0 x1 x2 x3) (f0_94 x0 x1 x2 x3))
              · skip
                refine Goes.st (B := T234.setTop (mkF m 284 #[iv x0, iv x1, iv x2, iv x3, iv (j0_11_s0 x0 x1 x2 x3), iv (j0_24_s0 x0 x1 x2 x3), rv b5, rv b9, rv b13, rv b15, iv (1 : Int32), iv (304 : Int32), rv b133, iv (w0_214_a x0 x1 x2 x3), .unset, .unset, .unset] [])) (fun t k => ?_) ?_
                · refine XS.icmpNo X234.here hx rfl (hb hby at_281) rfl (teq hc281_235).2 ?_
                  exact k
                refine Goes.run X234 hx hown hci hcl hby (L := [(284, .aload 12, 2), (286, .iload 11, 2), (288, .iconst 1, 1), (289, .isub, 1)]) (by decide +kernel) rfl (g' := (mkF m 290 #[iv x0, iv x1, iv x2, iv x3, iv (j0_11_s0 x0 x1 x2 x3), iv (j0_24_s0 x0 x1 x2 x3), rv b5, rv b9, rv b13, rv b15, iv (1 : Int32), iv (304 : Int32), rv b133, iv (w0_214_a x0 x1 x2 x3), .unset, .unset, .unset] [(.int (303 : Int32)), (.ref b133)])) rfl ?_
                obtain ⟨cl236, Ar236, q236, S236, M236, Hs236, G236⟩ := id V_b133
                have hin236 : ¬ ((303 : Int32) < 0 ∨ cl236.slots.size ≤ ((303 : Int32)).toNatClampNeg) := inb_of S236 ⟨(by decide), (by decide)⟩
                have hat236 : cl236.slots[((303 : Int32)).toNatClampNeg]? = some (.int (w0_290 x0 x1 x2 x3)) := Hs236.at hin236 ((own_fget ((304 : Int32)).toNatClampNeg (f5_512_28 (304 : Int32) (fD_18 (fC_18 (fB_30 (j0_11_s0 x0 x1 x2 x3) own_z) (f0_54 x0 x1 x2 x3)) (f0_94 x0 x1 x2 x3))) 303 _).trans (if_pos (by decide)))
                refine Goes.st (B := T234.setTop (mkF m 291 #[iv x0, iv x1, iv x2, iv x3, iv (j0_11_s0 x0 x1 x2 x3), iv (j0_24_s0 x0 x1 x2 x3), rv b5, rv b9, rv b13, rv b15, iv (1 : Int32), iv (304 : Int32), rv b133, iv (w0_214_a x0 x1 x2 x3), .unset, .unset, .unset] [(.int (w0_290 x0 x1 x2 x3))])) (X234.baloadBytes hx (j := (303 : Int32)) (v := (.int (w0_290 x0 x1 x2 x3))) (by rw [e234]; exact Ar236.1) (State.isArrayOf_alike hZ.alike Ar236.2.1) Ar236.2.2 hin236 hat236 (g := (mkF m 290 #[iv x0, iv x1, iv x2, iv x3, iv (j0_11_s0 x0 x1 x2 x3), iv (j0_24_s0 x0 x1 x2 x3), rv b5, rv b9, rv b13, rv b15, iv (1 : Int32), iv (304 : Int32), rv b133, iv (w0_214_a x0 x1 x2 x3), .unset, .unset, .unset] [(.int (303 : Int32)), (.ref b133)])) rfl rfl (hb hby at_290)) ?_
                refine Goes.run X234 hx hown hci hcl hby (L := [(291, .iload 11, 2), (293, .iconst 1, 1), (294, .isub, 1), (295, .iload 4, 2), (297, .aload 6, 2), (299, .aload 7, 2)]) (by decide +kernel) rfl (g' := (mkF m 301 #[iv x0, iv x1, iv x2, iv x3, iv (j0_11_s0 x0 x1 x2 x3), iv (j0_24_s0 x0 x1 x2 x3), rv b5, rv b9, rv b13, rv b15, iv (1 : Int32), iv (304 : Int32), rv b133, iv (w0_214_a x0 x1 x2 x3), .unset, .unset, .unset] [(.ref b9), (.ref b5), (.int (j0_11_s0 x0 x1 x2 x3)), (.int (303 : Int32)), (.int (w0_290 x0 x1 x2 x3))])) rfl ?_
                obtain ⟨_, _, ⟨T237, L237, k237, n237⟩, -, X237, ⟨Lc237, hQ237, l237, y237, z237⟩, st237⟩ := Jvm.LawKit.callS X234 hx (y := ym14) hown (mvT hZ w_66) (mvT hZ w_67) (mvT hZ w_68) (mvT hZ w_69) (by decide) (backOf (W := 1) (rmI l Z a0 hw [] (303 : Int32) (j0_11_s0 x0 x1 x2 x3) b5 b9 k5 k9 (f0_54 x0 x1 x2 x3) (f0_94 x0 x1 x2 x3) h133 n0 Zn133 V_b5 V_b9 (by decide) (by decide) (own_hA x0 x1 x2 x3) (own_hB x0 x1 x2 x3)) hZ w_69 w_68 (by decide) (by decide)) (g := (mkF m 301 #[iv x0, iv x1, iv x2, iv x3, iv (j0_11_s0 x0 x1 x2 x3), iv (j0_24_s0 x0 x1 x2 x3), rv b5, rv b9, rv b13, rv b15, iv (1 : Int32), iv (304 : Int32), rv b133, iv (w0_214_a x0 x1 x2 x3), .unset, .unset, .unset] [(.ref b9), (.ref b5), (.int (j0_11_s0 x0 x1 x2 x3)), (.int (303 : Int32)), (.int (w0_290 x0 x1 x2 x3))])) rfl (by rw [hml]; rfl) (argsL := [(.int (303 : Int32)), (.int (j0_11_s0 x0 x1 x2 x3)), (.ref b5), (.ref b9)]) (rest := [(.int (w0_290 x0 x1 x2 x3))]) (lenOf pd0_5 rfl) rfl (by show 2 * 0 + _ ≤ _; exact Nat.le_of_eq rfl) (hb hby at_301) (fun _ _ => ⟨rfl, e234, (by decide : 7 + 0 ≤ _), (by decide : 1841 + 0 ≤ _)⟩)
                dsimp only [Pt.U, Pt.locs, Pt.cells, Pt.slots] at X237 l237 y237 z237 st237 hQ237
                subst l237 y237 z237
                obtain ⟨rfl, N237q, e237⟩ := hQ237
                have N237 := Fr.app N234 N237q
                refine Goes.st (B := T237.setTop (mkF m 304 #[iv x0, iv x1, iv x2, iv x3, iv (j0_11_s0 x0 x1 x2 x3), iv (j0_24_s0 x0 x1 x2 x3), rv b5, rv b9, rv b13, rv b15, iv (1 : Int32), iv (304 : Int32), rv b133, iv (w0_214_a x0 x1 x2 x3), .unset, .unset, .unset] [(.int (rI (303 : Int32) (j0_11_s0 x0 x1 x2 x3) (f0_54 x0 x1 x2 x3) (f0_94 x0 x1 x2 x3))), (.int (w0_290 x0 x1 x2 x3))])) st237 ?_
                by_cases hc304_238 : (w0_290 x0 x1 x2 x3) = (rI (303 : Int32) (j0_11_s0 x0 x1 x2 x3) (f0_54 x0 x1 x2 x3) (f0_94 x0 x1 x2 x3))
                · skip
                  refine Goes.st (B := T237.setTop (mkF m 307 #[iv x0, iv x1, iv x2, iv x3, iv (j0_11_s0 x0 x1 x2 x3), iv (j0_24_s0 x0 x1 x2 x3), rv b5, rv b9, rv b13, rv b15, iv (1 : Int32), iv (304 : Int32), rv b133, iv (w0_214_a x0 x1 x2 x3), .unset, .unset, .unset] [])) (fun t k => ?_) ?_
                  · refine XS.icmpNo X237.here hx rfl (hb hby at_304) rfl (teq hc304_238).2 ?_
                    exact k
                  refine Goes.run X237 hx hown hci hcl hby (L := [(307, .aload 12, 2), (309, .iload 13, 2)]) (by decide +kernel) rfl (g' := (mkF m 311 #[iv x0, iv x1, iv x2, iv x3, iv (j0_11_s0 x0 x1 x2 x3), iv (j0_24_s0 x0 x1 x2 x3), rv b5, rv b9, rv b13, rv b15, iv (1 : Int32), iv (304 : Int32), rv b133, iv (w0_214_a x0 x1 x2 x3), .unset, .unset, .unset] [(.int (w0_214_a x0 x1 x2 x3)), (.ref b133)])) rfl ?_
                  obtain ⟨cl239, Ar239, q239, S239, M239, Hs239, G239⟩ := id V_b133
                  have hin239 : ¬ ((w0_214_a x0 x1 x2 x3) < 0 ∨ cl239.slots.size ≤ ((w0_214_a x0 x1 x2 x3)).toNatClampNeg) := inb_of S239 ⟨(own_j304 x0 x1 x2 x3).1, (own_j304 x0 x1 x2 x3).2.1⟩
                  have hat239 : cl239.slots[((w0_214_a x0 x1 x2 x3)).toNatClampNeg]? = some (.int (w0_311_a x0 x1 x2 x3)) := Hs239.at hin239 ((own_fget ((304 : Int32)).toNatClampNeg (f5_512_28 (304 : Int32) (fD_18 (fC_18 (fB_30 (j0_11_s0 x0 x1 x2 x3) own_z) (f0_54 x0 x1 x2 x3)) (f0_94 x0 x1 x2 x3))) ((w0_214_a x0 x1 x2 x3)).toNatClampNeg _).trans (if_pos (own_j304 x0 x1 x2 x3).2.2))
                  refine Goes.st (B := T237.setTop (mkF m 312 #[iv x0, iv x1, iv x2, iv x3, iv (j0_11_s0 x0 x1 x2 x3), iv (j0_24_s0 x0 x1 x2 x3), rv b5, rv b9, rv b13, rv b15, iv (1 : Int32), iv (304 : Int32), rv b133, iv (w0_214_a x0 x1 x2 x3), .unset, .unset, .unset] [(.int (w0_311_a x0 x1 x2 x3))])) (X237.baloadBytes hx (j := (w0_214_a x0 x1 x2 x3)) (v := (.int (w0_311_a x0 x1 x2 x3))) (by rw [e237]; exact Ar239.1) (State.isArrayOf_alike hZ.alike Ar239.2.1) Ar239.2.2 hin239 hat239 (g := (mkF m 311 #[iv x0, iv x1, iv x2, iv x3, iv (j0_11_s0 x0 x1 x2 x3), iv (j0_24_s0 x0 x1 x2 x3), rv b5, rv b9, rv b13, rv b15, iv (1 : Int32), iv (304 : Int32), rv b133, iv (w0_214_a x0 x1 x2 x3), .unset, .unset, .unset] [(.int (w0_214_a x0 x1 x2 x3)), (.ref b133)])) rfl rfl (hb hby at_311)) ?_
                  refine Goes.run X237 hx hown hci hcl hby (L := [(312, .iload 13, 2), (314, .iload 4, 2), (316, .aload 6, 2), (318, .aload 7, 2)]) (by decide +kernel) rfl (g' := (mkF m 320 #[iv x0, iv x1, iv x2, iv x3, iv (j0_11_s0 x0 x1 x2 x3), iv (j0_24_s0 x0 x1 x2 x3), rv b5, rv b9, rv b13, rv b15, iv (1 : Int32), iv (304 : Int32), rv b133, iv (w0_214_a x0 x1 x2 x3), .unset, .unset, .unset] [(.ref b9), (.ref b5), (.int (j0_11_s0 x0 x1 x2 x3)), (.int (w0_214_a x0 x1 x2 x3)), (.int (w0_311_a x0 x1 x2 x3))])) rfl ?_
                  obtain ⟨_, _, ⟨T240, L240, k240, n240⟩, -, X240, ⟨Lc240, hQ240, l240, y240, z240⟩, st240⟩ := Jvm.LawKit.callS X237 hx (y := ym14) hown (mvT hZ w_66) (mvT hZ w_67) (mvT hZ w_68) (mvT hZ w_69) (by decide) (backOf (W := 1) (rmI l Z a0 hw [] (w0_214_a x0 x1 x2 x3) (j0_11_s0 x0 x1 x2 x3) b5 b9 k5 k9 (f0_54 x0 x1 x2 x3) (f0_94 x0 x1 x2 x3) h133 n0 Zn133 V_b5 V_b9 (own_j304 x0 x1 x2 x3).1 (own_jb304 x0 x1 x2 x3) (own_hA x0 x1 x2 x3) (own_hB x0 x1 x2 x3)) hZ w_69 w_68 (by decide) (by decide)) (g := (mkF m 320 #[iv x0, iv x1, iv x2, iv x3, iv (j0_11_s0 x0 x1 x2 x3), iv (j0_24_s0 x0 x1 x2 x3), rv b5, rv b9, rv b13, rv b15, iv (1 : Int32), iv (304 : Int32), rv b133, iv (w0_214_a x0 x1 x2 x3), .unset, .unset, .unset] [(.ref b9), (.ref b5), (.int (j0_11_s0 x0 x1 x2 x3)), (.int (w0_214_a x0 x1 x2 x3)), (.int (w0_311_a x0 x1 x2 x3))])) rfl (by rw [hml]; rfl) (argsL := [(.int (w0_214_a x0 x1 x2 x3)), (.int (j0_11_s0 x0 x1 x2 x3)), (.ref b5), (.ref b9)]) (rest := [(.int (w0_311_a x0 x1 x2 x3))]) (lenOf pd0_5 rfl) rfl (by show 2 * 0 + _ ≤ _; exact Nat.le_of_eq rfl) (hb hby at_320) (fun _ _ => ⟨rfl, e237, (by decide : 7 + 0 ≤ _), (by decide : 1841 + 0 ≤ _)⟩)
                  dsimp only [Pt.U, Pt.locs, Pt.cells, Pt.slots] at X240 l240 y240 z240 st240 hQ240
                  subst l240 y240 z240
                  obtain ⟨rfl, N240q, e240⟩ := hQ240
                  have N240 := Fr.app N237 N240q
                  refine Goes.st (B := T240.setTop (mkF m 323 #[iv x0, iv x1, iv x2, iv x3, iv (j0_11_s0 x0 x1 x2 x3), iv (j0_24_s0 x0 x1 x2 x3), rv b5, rv b9, rv b13, rv b15, iv (1 : Int32), iv (304 : Int32), rv b133, iv (w0_214_a x0 x1 x2 x3), .unset, .unset, .unset] [(.int (rI (w0_214_a x0 x1 x2 x3) (j0_11_s0 x0 x1 x2 x3) (f0_54 x0 x1 x2 x3) (f0_94 x0 x1 x2 x3))), (.int (w0_311_a x0 x1 x2 x3))])) st240 ?_
                  by_cases hc323_241 : (w0_311_a x0 x1 x2 x3) = (rI (w0_214_a x0 x1 x2 x3) (j0_11_s0 x0 x1 x2 x3) (f0_54 x0 x1 x2 x3) (f0_94 x0 x1 x2 x3))
                  · skip
                    refine Goes.st (B := T240.setTop (mkF m 326 #[iv x0, iv x1, iv x2, iv x3, iv (j0_11_s0 x0 x1 x2 x3), iv (j0_24_s0 x0 x1 x2 x3), rv b5, rv b9, rv b13, rv b15, iv (1 : Int32), iv (304 : Int32), rv b133, iv (w0_214_a x0 x1 x2 x3), .unset, .unset, .unset] [])) (fun t k => ?_) ?_
                    · refine XS.icmpNo X240.here hx rfl (hb hby at_323) rfl (teq hc323_241).2 ?_
                      exact k
                    refine Goes.run X240 hx hown hci hcl hby (L := [(326, .iconst 1, 1), (327, .goto 4, 3)]) (by decide +kernel) rfl (g' := (mkF m 331 #[iv x0, iv x1, iv x2, iv x3, iv (j0_11_s0 x0 x1 x2 x3), iv (j0_24_s0 x0 x1 x2 x3), rv b5, rv b9, rv b13, rv b15, iv (1 : Int32), iv (304 : Int32), rv b133, iv (w0_214_a x0 x1 x2 x3), .unset, .unset, .unset] [(.int (1 : Int32))])) rfl ?_
                    have q := jn331_158 _ _ X240 e240 N240
                    rw [show (j0_331_s0_a x0 x1 x2 x3) = (1 : Int32) from ((((((if_pos hc230_142).trans (if_pos hc247_229)).trans (if_pos hc264_232)).trans (if_pos hc281_235)).trans (if_pos hc304_238)).trans (if_pos hc323_241))] at q
                    exact q
                  · skip
                    refine Goes.st (B := T240.setTop (mkF m 330 #[iv x0, iv x1, iv x2, iv x3, iv (j0_11_s0 x0 x1 x2 x3), iv (j0_24_s0 x0 x1 x2 x3), rv b5, rv b9, rv b13, rv b15, iv (1 : Int32), iv (304 : Int32), rv b133, iv (w0_214_a x0 x1 x2 x3), .unset, .unset, .unset] [])) (fun t k => ?_) ?_
                    · refine XS.icmpYes X240.here hx rfl (pc0 := 323) (pc' := 330) rfl (hb hby at_323) rfl (feq hc323_241).2 (by decide) (by decide) ?_
                      exact k
                    refine Goes.run X240 hx hown hci hcl hby (L := [(330, .iconst 0, 1)]) (by decide +kernel) rfl (g' := (mkF m 331 #[iv x0, iv x1, iv x2, iv x3, iv (j0_11_s0 x0 x1 x2 x3), iv (j0_24_s0 x0 x1 x2 x3), rv b5, rv b9, rv b13, rv b15, iv (1 : Int32), iv (304 : Int32), rv b133, iv (w0_214_a x0 x1 x2 x3), .unset, .unset, .unset] [(.int (0 : Int32))])) rfl ?_
                    have q := jn331_158 _ _ X240 e240 N240
                    rw [show (j0_331_s0_a x0 x1 x2 x3) = (0 : Int32) from ((((((if_pos hc230_142).trans (if_pos hc247_229)).trans (if_pos hc264_232)).trans (if_pos hc281_235)).trans (if_pos hc304_238)).trans (if_neg hc323_241))] at q
                    exact q
                · skip
                  refine Goes.st (B := T237.setTop (mkF m 330 #[iv x0, iv x1, iv x2, iv x3, iv (j0_11_s0 x0 x1 x2 x3), iv (j0_24_s0 x0 x1 x2 x3), rv b5, rv b9, rv b13, rv b15, iv (1 : Int32), iv (304 : Int32), rv b133, iv (w0_214_a x0 x1 x2 x3), .unset, .unset, .unset] [])) (fun t k => ?_) ?_
                  · refine XS.icmpYes X237.here hx rfl (pc0 := 304) (pc' := 330) rfl (hb hby at_304) rfl (feq hc304_238).2 (by decide) (by decide) ?_
                    exact k
                  refine Goes.run X237 hx hown hci hcl hby (L := [(330, .iconst 0, 1)]) (by decide +kernel) rfl (g' := (mkF m 331 #[iv x0, iv x1, iv x2, iv x3, iv (j0_11_s0 x0 x1 x2 x3), iv (j0_24_s0 x0 x1 x2 x3), rv b5, rv b9, rv b13, rv b15, iv (1 : Int32), iv (304 : Int32), rv b133, iv (w0_214_a x0 x1 x2 x3), .unset, .unset, .unset] [(.int (0 : Int32))])) rfl ?_
                  have q := jn331_158 _ _ X237 e237 N237
                  rw [show (j0_331_s0_a x0 x1 x2 x3) = (0 : Int32) from (((((if_pos hc230_142).trans (if_pos hc247_229)).trans (if_pos hc264_232)).trans (if_pos hc281_235)).trans (if_neg hc304_238))] at q
                  exact q
              · skip
                refine Goes.st (B := T234.setTop (mkF m 330 #[iv x0, iv x1, iv x2, iv x3, iv (j0_11_s0 x0 x1 x2 x3), iv (j0_24_s0 x0 x1 x2 x3), rv b5, rv b9, rv b13, rv b15, iv (1 : Int32), iv (304 : Int32), rv b133, iv (w0_214_a x0 x1 x2 x3), .unset, .unset, .unset] [])) (fun t k => ?_) ?_
                · refine XS.icmpYes X234.here hx rfl (pc0 := 281) (pc' := 330) rfl (hb hby at_281) rfl (feq hc281_235).2 (by decide) (by decide) ?_
                  exact k
                refine Goes.run X234 hx hown hci hcl hby (L := [(330, .iconst 0, 1)]) (by decide +kernel) rfl (g' := (mkF m 331 #[iv x0, iv x1, iv x2, iv x3, iv (j0_11_s0 x0 x1 x2 x3), iv (j0_24_s0 x0 x1 x2 x3), rv b5, rv b9, rv b13, rv b15, iv (1 : Int32), iv (304 : Int32), rv b133, iv (w0_214_a x0 x1 x2 x3), .unset, .unset, .unset] [(.int (0 : Int32))])) rfl ?_
                have q := jn331_158 _ _ X234 e234 N234
                rw [show (j0_331_s0_a x0 x1 x2 x3) = (0 : Int32) from ((((if_pos hc230_142).trans (if_pos hc247_229)).trans (if_pos hc264_232)).trans (if_neg hc281_235))] at q
                exact q
            · skip
              refine Goes.st (B := T231.setTop (mkF m 330 #[iv x0, iv x1, iv x2, iv x3, iv (j0_11_s0 x0 x1 x2 x3), iv (j0_24_s0 x0 x1 x2 x3), rv b5, rv b9, rv b13, rv b15, iv (1 : Int32), iv (304 : Int32), rv b133, iv (w0_214_a x0 x1 x2 x3), .unset, .unset, .unset] [])) (fun t k => ?_) ?_
              · refine XS.icmpYes X231.here hx rfl (pc0 := 264) (pc' := 330) rfl (hb hby at_264) rfl (feq hc264_232).2 (by decide) (by decide) ?_
                exact k
              refine Goes.run X231 hx hown hci hcl hby (L := [(330, .iconst 0, 1)]) (by decide +kernel) rfl (g' := (mkF m 331 #[iv x0, iv x1, iv x2, iv x3, iv (j0_11_s0 x0 x1 x2 x3), iv (j0_24_s0 x0 x1 x2 x3), rv b5, rv b9, rv b13, rv b15, iv (1 : Int32), iv (304 : Int32), rv b133, iv (w0_214_a x0 x1 x2 x3), .unset, .unset, .unset] [(.int (0 : Int32))])) rfl ?_
              have q := jn331_158 _ _ X231 e231 N231
              rw [show (j0_331_s0_a x0 x1 x2 x3) = (0 : Int32) from (((if_pos hc230_142).trans (if_pos hc247_229)).trans (if_neg hc264_232))] at q
              exact q
          · skip
            refine Goes.st (B := T228.setTop (mkF m 330 #[iv x0, iv x1, iv x2, iv x3, iv (j0_11_s0 x0 x1 x2 x3), iv (j0_24_s0 x0 x1 x2 x3), rv b5, rv b9, rv b13, rv b15, iv (1 : Int32), iv (304 : Int32), rv b133, iv (w0_214_a x0 x1 x2 x3), .unset, .unset, .unset] [])) (fun t k => ?_) ?_
            · refine XS.icmpYes X228.here hx rfl (pc0 := 247) (pc' := 330) rfl (hb hby at_247) rfl (feq hc247_229).2 (by decide) (by decide) ?_
              exact k
            refine Goes.run X228 hx hown hci hcl hby (L := [(330, .iconst 0, 1)]) (by decide +kernel) rfl (g' := (mkF m 331 #[iv x0, iv x1, iv x2, iv x3, iv (j0_11_s0 x0 x1 x2 x3), iv (j0_24_s0 x0 x1 x2 x3), rv b5, rv b9, rv b13, rv b15, iv (1 : Int32), iv (304 : Int32), rv b133, iv (w0_214_a x0 x1 x2 x3), .unset, .unset, .unset] [(.int (0 : Int32))])) rfl ?_
            have q := jn331_158 _ _ X228 e228 N228
            rw [show (j0_331_s0_a x0 x1 x2 x3) = (0 : Int32) from ((if_pos hc230_142).trans (if_neg hc247_229))] at q
            exact q
        · skip
          refine Goes.st (B := T141.setTop (mkF m 330 #[iv x0, iv x1, iv x2, iv x3, iv (j0_11_s0 x0 x1 x2 x3), iv (j0_24_s0 x0 x1 x2 x3), rv b5, rv b9, rv b13, rv b15, iv (1 : Int32), iv (304 : Int32), rv b133, iv (w0_214_a x0 x1 x2 x3), .unset, .unset, .unset] [])) (fun t k => ?_) ?_
          · refine XS.icmpYes X141.here hx rfl (pc0 := 230) (pc' := 330) rfl (hb hby at_230) rfl (feq hc230_142).2 (by decide) (by decide) ?_
            exact k
          refine Goes.run X141 hx hown hci hcl hby (L := [(330, .iconst 0, 1)]) (by decide +kernel) rfl (g' := (mkF m 331 #[iv x0, iv x1, iv x2, iv x3, iv (j0_11_s0 x0 x1 x2 x3), iv (j0_24_s0 x0 x1 x2 x3), rv b5, rv b9, rv b13, rv b15, iv (1 : Int32), iv (304 : Int32), rv b133, iv (w0_214_a x0 x1 x2 x3), .unset, .unset, .unset] [(.int (0 : Int32))])) rfl ?_
          have q := jn331_158 _ _ X141 e141 N141
          rw [show (j0_331_s0_a x0 x1 x2 x3) = (0 : Int32) from (if_neg hc230_142)] at q
          exact q
    by_cases hc16_3 : (x1 &&& (2 : Int32)) = (0 : Int32)
    · skip
      refine Goes.st (B := s₁.setTop (mkF m 23 #[iv x0, iv x1, iv x2, iv x3, iv (j0_11_s0 x0 x1 x2 x3), .unset, .unset, .unset, .unset, .unset, .unset, .unset, .unset, .unset, .unset, .unset, .unset] [])) (fun t k => ?_) ?_
      · refine XS.ifYes X0.here hx rfl (pc0 := 16) (pc' := 23) rfl (hb hby at_16) rfl ((if0 _ _).trans (teq hc16_3).1) (by decide) (by decide) ?_
        exact k
      refine Goes.run X0 hx hown hci hcl hby (L := [(23, .iconst 0, 1)]) (by decide +kernel) rfl (g' := (mkF m 24 #[iv x0, iv x1, iv x2, iv x3, iv (j0_11_s0 x0 x1 x2 x3), .unset, .unset, .unset, .unset, .unset, .unset, .unset, .unset, .unset, .unset, .unset, .unset] [(.int (0 : Int32))])) rfl ?_
      have q := jn24_4
      rw [show (j0_24_s0 x0 x1 x2 x3) = (0 : Int32) from (if_pos hc16_3)] at q
      exact q
    · skip
      refine Goes.st (B := s₁.setTop (mkF m 19 #[iv x0, iv x1, iv x2, iv x3, iv (j0_11_s0 x0 x1 x2 x3), .unset, .unset, .unset, .unset, .unset, .unset, .unset, .unset, .unset, .unset, .unset, .unset] [])) (fun t k => ?_) ?_
      · refine XS.ifNo X0.here hx rfl (hb hby at_16) rfl ((if0 _ _).trans (feq hc16_3).1) ?_
        exact k
      refine Goes.run X0 hx hown hci hcl hby (L := [(19, .iconst 1, 1), (20, .goto 4, 3)]) (by decide +kernel) rfl (g' := (mkF m 24 #[iv x0, iv x1, iv x2, iv x3, iv (j0_11_s0 x0 x1 x2 x3), .unset, .unset, .unset, .unset, .unset, .unset, .unset, .unset, .unset, .unset, .unset, .unset] [(.int (1 : Int32))])) rfl ?_
      have q := jn24_4
      rw [show (j0_24_s0 x0 x1 x2 x3) = (1 : Int32) from (if_neg hc16_3)] at q
      exact q
  by_cases hc3_1 : (x1 &&& (1 : Int32)) = (0 : Int32)
  · skip
    refine Goes.st (B := s₁.setTop (mkF m 10 #[iv x0, iv x1, iv x2, iv x3, .unset, .unset, .unset, .unset, .unset, .unset, .unset, .unset, .unset, .unset, .unset, .unset, .unset] [])) (fun t k => ?_) ?_
    · refine XS.ifYes X0.here hx rfl (pc0 := 3) (pc' := 10) rfl (hb hby at_3) rfl ((if0 _ _).trans (teq hc3_1).1) (by decide) (by decide) ?_
      exact k
    refine Goes.run X0 hx hown hci hcl hby (L := [(10, .iconst 0, 1)]) (by decide +kernel) rfl (g' := (mkF m 11 #[iv x0, iv x1, iv x2, iv x3, .unset, .unset, .unset, .unset, .unset, .unset, .unset, .unset, .unset, .unset, .unset, .unset, .unset] [(.int (0 : Int32))])) rfl ?_
    have q := jn11_2
    rw [show (j0_11_s0 x0 x1 x2 x3) = (0 : Int32) from (if_pos hc3_1)] at q
    exact q
  · skip
    refine Goes.st (B := s₁.setTop (mkF m 6 #[iv x0, iv x1, iv x2, iv x3, .unset, .unset, .unset, .unset, .unset, .unset, .unset, .unset, .unset, .unset, .unset, .unset, .unset] [])) (fun t k => ?_) ?_
    · refine XS.ifNo X0.here hx rfl (hb hby at_3) rfl ((if0 _ _).trans (feq hc3_1).1) ?_
      exact k
    refine Goes.run X0 hx hown hci hcl hby (L := [(6, .iconst 1, 1), (7, .goto 4, 3)]) (by decide +kernel) rfl (g' := (mkF m 11 #[iv x0, iv x1, iv x2, iv x3, .unset, .unset, .unset, .unset, .unset, .unset, .unset, .unset, .unset, .unset, .unset, .unset, .unset] [(.int (1 : Int32))])) rfl ?_
    have q := jn11_2
    rw [show (j0_11_s0 x0 x1 x2 x3) = (1 : Int32) from (if_neg hc3_1)] at q
    exact q
set_option maxRecDepth 65536 in
set_option maxHeartbeats 40000000 in
theorem comes_1 {Post : Tables → Env → Array Value → State → Outcome → State → Prop} (hpost : ∀ tb e args s v u, (limb_1_1.after args s (.returned v) u = true ∧ limb_1_2.after args s (.returned v) u = true ∧ True) → FrameEnd s (.returned v) u (Jvm.fieldLocs frame_1_writes args s ++ Jvm.arrayLocs frame_1_arrays args s ++ Jvm.staticLocs frame_1_statics s) 32 4032 → Post tb e args s (.returned v) u) :
    ArmFor flags0 classFile x code maxLocals ret World_1 tables_1 room_1 Calls_1 rest_1 Pre_1 Post := by
  intro l hfl _ _ p e ha hc hk s m args below hf hA hF happ hP
  obtain ⟨hcalls, hrest, hpre⟩ := hP
  obtain ⟨-, -, -, hnamed, -, -, -, hat⟩ := (Spec.applies_iff hf).mp happ
  obtain ⟨hg, hn⟩ := and_e (Cond.before_iff.mp (show (Jvm.Cond.and given_1 narrow_1).before args s = true from hpre))
  obtain ⟨g0, g0r⟩ := and_e hg
  obtain ⟨g1, g1r⟩ := and_e g0r
  obtain ⟨g2, g2r⟩ := and_e g1r
  obtain ⟨g3, g4⟩ := and_e g2r
  obtain ⟨w0, w1, w2, w3, rfl⟩ : ∃ w0 w1 w2 w3 : Value, args = #[w0, w1, w2, w3] := by
    have hs : args.size = 4 := by simpa [Cond.value, given_1] using g0
    obtain ⟨L⟩ := args
    match L, hs with
    | [w0, w1, w2, w3], _ => exact ⟨w0, w1, w2, w3, rfl⟩
  have hw := fun d (hd : d ∈ tables_1) => atoms_spec (ws := Jvm.Cond.code x code maxLocals ret :: tables_1) hat d (List.mem_cons_of_mem _ hd)
  have hfit : Fit s := fun {y c} hc i hi => by
    obtain ⟨ha, rfl⟩ := Array.getElem?_eq_some_iff.mp hc
    have q := List.all_eq_true.mp ((Array.all_eq_true_iff_forall_mem.mp hF) _ (Array.getElem_mem ha)) i (List.mem_range.mpr hi)
    simpa [Array.getElem?_eq_getElem hi] using q
  obtain ⟨i0, ei0⟩ := is_v g1
  obtain rfl : w0 = (.int i0) := Option.some.inj ei0
  obtain ⟨i1, ei1⟩ := is_v g2
  obtain rfl : w1 = (.int i1) := Option.some.inj ei1
  obtain ⟨i2, ei2⟩ := is_v g3
  obtain rfl : w2 = (.int i2) := Option.some.inj ei2
  obtain ⟨i3, ei3⟩ := is_v g4
  obtain rfl : w3 = (.int i3) := Option.some.inj ei3
  obtain ⟨n, o, h1, h2, h3, v, L, rfl, hv, hq⟩ := rm0 l s _ hw tables_1 i0 i1 i2 i3  s.heap s.heap.size (Nat.le_refl _)  p e ha hc hk s m _ below hf ((Spec.applies_iff_loose hf).mp happ).1 ⟨rfl, State.Warmed39.refl s, rfl⟩ trivial
  have N := hv.2
  have hv1 : v = some (.int 1) := hv.1.trans (congrArg (fun z => some (Value.int z)) (law_true i0 i1 i2 i3))
  subst hv1
  refine ⟨n, _, h1, h2, h3, hpost _ _ _ _ _ _ ⟨Cond.after_iff.mpr rfl, Cond.after_iff.mpr (eq_i res_at (Term.int_eval (1)) rfl), trivial⟩ ⟨hq.1, hq.2.1, (hq.2.2.sift fun y hy => Or.inr (N y hy)).mono (by decide) (by decide)⟩⟩
theorem main_1_1 : Claimed_1_1 := comes_1 fun _ _ _ _ _ _ h hF => ⟨h.1, hF⟩
theorem main_1_2 : Claimed_1_2 := comes_1 fun _ _ _ _ _ _ h hF => ⟨h.2.1, hF⟩
end Jvm.Pilot.@@N@@
namespace Jvm.Pilot.@@N@@
open Jvm Jvm.ClassFile Sem Op Lib Jvm.Free Jvm.Stand Jvm.Pilot.@@N@@.Jvm.D
/-! MADE BY PROGRAM (witnessworld.py) out of the Statement's table words and the real class files: 15 classes; the members and pool entries that the words name. The judged class is class 1, her method 2. -/
namespace start1
open Jvm.ClassFile
def u (s : String) : CpInfo := .utf8 (stringToUtf16 s)
/-- a pool by its gaps: so many unusable entries, then the entry; so many at the end -/
def gap : Nat → List CpInfo → List CpInfo
  | 0, r => r
  | n + 1, r => .unusable :: gap n r
def poolList (es : List (Nat × CpInfo)) (last : Nat) : List CpInfo := es.foldr (fun e r => gap e.1 (e.2 :: r)) (gap last [])
def pool (es : List (Nat × CpInfo)) (last : Nat) : Array CpInfo := ⟨poolList es last⟩
def fileOf (pool : Array CpInfo) (this : Nat) (attrs : Array Attribute := #[]) (ms : Array MethodInfo := #[]) (fl : Nat := 33) (sup : Nat := 0) (ifs : Array Nat := #[]) (fds : Array FieldInfo := #[]) : ClassFile where
  minorVersion := 0
  majorVersion := 65
  constantPool := pool
  accessFlags := fl
  thisClass := this
  superClass := sup
  interfaces := ifs
  fields := fds
  methods := ms
  attributes := attrs
def plain (name : String) (sup : Option ClassId) : Class where
  name := name
  kind := .ordinary
  loader := none
  accessFlags := 33
  super := sup
  interfaces := #[]
  cf := none
  fields := #[]
  methods := #[]
  instanceTypes := #[]
  staticTypes := #[]
  resolved := #[]
  callSites := []
  init := .initialized
  statics := none
  mirror := none

def pool0 : Array CpInfo := pool [(5, u "<init>"), (0, u "()V"), (1, .class_ 10), (1, u "java/lang/Object")] 113

def k0c0 : Code := { maxStack := 0, maxLocals := 1, code := object_method_1_code, exceptionTable := #[], attributes := #[] }
def k0m0 : Method := { name := "<init>", desc := "()V", sig := { parameters := [], returnType := none }, accessFlags := 1, code := some k0c0 }
/-- java/lang/Object -/
def k0 : Class := { plain "java/lang/Object" none with
  accessFlags := 33
  interfaces := #[]
  cf := some (fileOf pool0 8 #[] #[{ accessFlags := 1, nameIndex := 5, descriptorIndex := 6, attributes := #[] }] 33 0 #[] #[])
  fields := #[]
  methods := #[k0m0]
  instanceTypes := #[]
  staticTypes := #[]
  resolved := Array.replicate 124 none
  statics := none }

def pool1 : Array CpInfo := pool [(2, .class_ 4), (0, .nameAndType 5 6), (0, u "java/lang/Object"), (0, u "<init>"), (0, u "()V"), (0, .integer 2147483647), (0, .class_ 9), (0, u "com/example/upcaster/upcaster/io/BinaryEncoder"), (0, .methodref 8 3), (0, .methodref 8 12), (0, .nameAndType 13 14), (0, u "toByteArray"), (0, u "()[B"), (0, .methodref 8 16), (0, .nameAndType 17 18), (0, u "writeBoolean"), (0, u "(Z)V"), (0, .methodref 8 20), (0, .nameAndType 21 22), (0, u "writeFixed"), (0, u "([B)V"), (0, .methodref 8 24), (0, .nameAndType 25 26), (0, u "size"), (0, u "()I"), (0, .methodref 28 29), (0, .class_ 30), (0, .nameAndType 31 32), (0, u "com/example/upcaster/upcaster/io/BinaryEncoderToByteArrayPinLaw"), (0, u "exp"), (0, u "(IZ[B[B)B"), (0, .methodref 8 34), (0, .nameAndType 35 36), (0, u "truncate"), (0, u "(I)V"), (3, u "law"), (0, u "(IIII)Z")] 4

def k1m0 : Method := { name := "<init>", desc := "()V", sig := { parameters := [], returnType := none }, accessFlags := 1, code := none }
def k1c1 : Code := { maxStack := 3, maxLocals := 4, code := method_2_code, exceptionTable := #[], attributes := #[] }
def k1m1 : Method := { name := "exp", desc := "(IZ[B[B)B", sig := { parameters := [.int, .boolean, (.array .byte), (.array .byte)], returnType := some .byte }, accessFlags := 10, code := some k1c1 }
def k1c2 : Code := { maxStack := 5, maxLocals := 17, code := code, exceptionTable := #[], attributes := #[] }
def k1m2 : Method := { name := "law", desc := "(IIII)Z", sig := { parameters := [.int, .int, .int, .int], returnType := some .boolean }, accessFlags := 9, code := some k1c2 }
/-- com/example/upcaster/upcaster/io/BinaryEncoderToByteArrayPinLaw -/
def k1 : Class := { plain "com/example/upcaster/upcaster/io/BinaryEncoderToByteArrayPinLaw" (some 0) with
  accessFlags := 49
  interfaces := #[]
  cf := some (fileOf pool1 28 #[] #[{ accessFlags := 1, nameIndex := 5, descriptorIndex := 6, attributes := #[] }, { accessFlags := 10, nameIndex := 31, descriptorIndex := 32, attributes := #[] }, { accessFlags := 9, nameIndex := 40, descriptorIndex := 41, attributes := #[] }] 49 2 #[] #[])
  fields := #[]
  methods := #[k1m0, k1m1, k1m2]
  instanceTypes := #[]
  staticTypes := #[]
  resolved := Array.replicate 46 none
  statics := none }

def pool2 : Array CpInfo := pool [(1, .methodref 2 3), (0, .class_ 4), (0, .nameAndType 5 6), (0, u "java/lang/Object"), (0, u "<init>"), (0, u "()V"), (0, .class_ 8), (0, u "com/example/upcaster/upcaster/io/BinaryEncoder"), (0, .fieldref 7 10), (0, .nameAndType 11 12), (0, u "buffer"), (0, u "[B"), (0, .fieldref 7 14), (0, .nameAndType 15 16), (0, u "size"), (0, u "I"), (0, .methodref 18 19), (0, .class_ 20), (0, .nameAndType 21 22), (0, u "java/util/Objects"), (0, u "checkIndex"), (0, u "(II)I"), (6, .methodref 30 31), (0, .class_ 32), (0, .nameAndType 33 34), (0, u "java/util/Arrays"), (0, u "copyOf"), (0, u "([BI)[B"), (0, .methodref 7 36), (0, .nameAndType 37 38), (0, u "room"), (0, u "(I)V"), (12, u "INT_LE"), (0, u "Ljava/lang/invoke/VarHandle;"), (13, u "LONG_LE"), (9, u "writeFixed"), (0, u "([B)V"), (28, .methodref 107 108), (0, .class_ 109), (0, .nameAndType 110 111), (0, u "java/lang/System"), (0, u "arraycopy"), (0, u "(Ljava/lang/Object;ILjava/lang/Object;II)V"), (3, u "()I"), (16, .class_ 133), (0, u "com/example/upcaster/upcaster/io/Buffers"), (0, .integer 2147483639), (5, .methodref 132 141), (0, .nameAndType 142 143), (0, u "grown"), (0, u "([BJ)[B"), (16, u "FIRST_BUFFER_SIZE"), (2, u "VARINT_LIMIT"), (4, u "truncate"), (5, u "toByteArray"), (0, u "()[B"), (0, u "writeBoolean"), (0, u "(Z)V")] 24

def k2c0 : Code := { maxStack := 2, maxLocals := 1, code := prog_6_method_1_code, exceptionTable := #[], attributes := #[] }
def k2m0 : Method := { name := "<init>", desc := "()V", sig := { parameters := [], returnType := none }, accessFlags := 1, code := some k2c0 }
def k2c1 : Code := { maxStack := 1, maxLocals := 1, code := prog_6_method_2_code, exceptionTable := #[], attributes := #[] }
def k2m1 : Method := { name := "size", desc := "()I", sig := { parameters := [], returnType := some .int }, accessFlags := 1, code := some k2c1 }
def k2c2 : Code := { maxStack := 4, maxLocals := 2, code := prog_6_method_4_code, exceptionTable := #[], attributes := #[] }
def k2m2 : Method := { name := "truncate", desc := "(I)V", sig := { parameters := [.int], returnType := none }, accessFlags := 1, code := some k2c2 }
def k2c3 : Code := { maxStack := 2, maxLocals := 1, code := prog_6_method_6_code, exceptionTable := #[], attributes := #[] }
def k2m3 : Method := { name := "toByteArray", desc := "()[B", sig := { parameters := [], returnType := some (.array .byte) }, accessFlags := 1, code := some k2c3 }
def k2c4 : Code := { maxStack := 5, maxLocals := 2, code := prog_6_method_7_code, exceptionTable := #[], attributes := #[] }
def k2m4 : Method := { name := "writeBoolean", desc := "(Z)V", sig := { parameters := [.boolean], returnType := none }, accessFlags := 1, code := some k2c4 }
def k2c5 : Code := { maxStack := 5, maxLocals := 2, code := prog_6_method_14_code, exceptionTable := #[], attributes := #[] }
def k2m5 : Method := { name := "writeFixed", desc := "([B)V", sig := { parameters := [(.array .byte)], returnType := none }, accessFlags := 1, code := some k2c5 }
def k2c6 : Code := { maxStack := 6, maxLocals := 2, code := prog_6_method_16_code, exceptionTable := #[], attributes := #[] }
def k2m6 : Method := { name := "room", desc := "(I)V", sig := { parameters := [.int], returnType := none }, accessFlags := 2, code := some k2c6 }
/-- com/example/upcaster/upcaster/io/BinaryEncoder -/
def k2 : Class := { plain "com/example/upcaster/upcaster/io/BinaryEncoder" (some 0) with
  accessFlags := 33
  interfaces := #[]
  cf := some (fileOf pool2 7 #[] #[{ accessFlags := 1, nameIndex := 5, descriptorIndex := 6, attributes := #[] }, { accessFlags := 1, nameIndex := 15, descriptorIndex := 115, attributes := #[] }, { accessFlags := 1, nameIndex := 168, descriptorIndex := 38, attributes := #[] }, { accessFlags := 1, nameIndex := 174, descriptorIndex := 175, attributes := #[] }, { accessFlags := 1, nameIndex := 176, descriptorIndex := 177, attributes := #[] }, { accessFlags := 1, nameIndex := 76, descriptorIndex := 77, attributes := #[] }, { accessFlags := 2, nameIndex := 37, descriptorIndex := 38, attributes := #[] }] 33 2 #[] #[{ accessFlags := 26, nameIndex := 51, descriptorIndex := 52, attributes := #[] }, { accessFlags := 26, nameIndex := 66, descriptorIndex := 52, attributes := #[] }, { accessFlags := 26, nameIndex := 160, descriptorIndex := 16, attributes := #[] }, { accessFlags := 26, nameIndex := 163, descriptorIndex := 16, attributes := #[] }, { accessFlags := 2, nameIndex := 11, descriptorIndex := 12, attributes := #[] }, { accessFlags := 2, nameIndex := 15, descriptorIndex := 16, attributes := #[] }])
  fields := #[{ name := "INT_LE", type := (.object "java/lang/invoke/VarHandle"), accessFlags := 26, slot := 0, constantValue := 0 }, { name := "LONG_LE", type := (.object "java/lang/invoke/VarHandle"), accessFlags := 26, slot := 1, constantValue := 0 }, { name := "FIRST_BUFFER_SIZE", type := .int, accessFlags := 26, slot := 2, constantValue := 0 }, { name := "VARINT_LIMIT", type := .int, accessFlags := 26, slot := 3, constantValue := 0 }, { name := "buffer", type := (.array .byte), accessFlags := 2, slot := 0, constantValue := 0 }, { name := "size", type := .int, accessFlags := 2, slot := 1, constantValue := 0 }]
  methods := #[k2m0, k2m1, k2m2, k2m3, k2m4, k2m5, k2m6]
  instanceTypes := #[(.array .byte), .int]
  staticTypes := #[(.object "java/lang/invoke/VarHandle"), (.object "java/lang/invoke/VarHandle"), .int, .int]
  resolved := Array.replicate 202 none
  statics := none }

def pool3 : Array CpInfo := pool [(2, .class_ 4), (1, u "java/lang/Object"), (0, u "<init>"), (0, u "()V"), (7, .class_ 16), (1, u "java/util/Arrays"), (57, .class_ 76), (1, u "java/util/Arrays$NaturalOrder"), (36, .class_ 115), (1, u "java/util/Arrays$LegacyMergeSort"), (1, u "Z"), (32, .methodref 151 152), (0, .class_ 153), (0, .nameAndType 154 155), (0, u "java/lang/System"), (0, u "arraycopy"), (0, u "(Ljava/lang/Object;ILjava/lang/Object;II)V"), (146, u "copyOf"), (1, .methodref 305 306), (0, .class_ 307), (0, .nameAndType 308 309), (0, u "java/lang/Math"), (0, u "min"), (0, u "(II)I"), (65, .class_ 376), (0, u "java/util/Arrays$ArrayList"), (68, u "$assertionsDisabled"), (269, u "MIN_ARRAY_SORT_GRAN"), (0, u "I"), (2, u "INSERTIONSORT_THRESHOLD"), (149, u "([BI)[B"), (105, .class_ 976), (0, u "java/util/Arrays$ArrayItr")] 52

def k3m0 : Method := { name := "<init>", desc := "()V", sig := { parameters := [], returnType := none }, accessFlags := 2, code := none }
def k3c1 : Code := { maxStack := 6, maxLocals := 3, code := jdk_65_method_121_code, exceptionTable := #[], attributes := #[] }
def k3m1 : Method := { name := "copyOf", desc := "([BI)[B", sig := { parameters := [(.array .byte), .int], returnType := some (.array .byte) }, accessFlags := 9, code := some k3c1 }
/-- java/util/Arrays -/
def k3 : Class := { plain "java/util/Arrays" (some 0) with
  accessFlags := 49
  interfaces := #[]
  cf := some (fileOf pool3 14 #[.nestMembers #[975, 375, 113, 74]] #[{ accessFlags := 2, nameIndex := 5, descriptorIndex := 6, attributes := #[] }, { accessFlags := 9, nameIndex := 302, descriptorIndex := 869, attributes := #[] }] 49 2 #[] #[{ accessFlags := 26, nameIndex := 715, descriptorIndex := 716, attributes := #[] }, { accessFlags := 26, nameIndex := 719, descriptorIndex := 716, attributes := #[] }, { accessFlags := 4120, nameIndex := 445, descriptorIndex := 117, attributes := #[] }])
  fields := #[{ name := "MIN_ARRAY_SORT_GRAN", type := .int, accessFlags := 26, slot := 0, constantValue := 0 }, { name := "INSERTIONSORT_THRESHOLD", type := .int, accessFlags := 26, slot := 1, constantValue := 0 }, { name := "$assertionsDisabled", type := .boolean, accessFlags := 4120, slot := 2, constantValue := 0 }]
  methods := #[k3m0, k3m1]
  instanceTypes := #[]
  staticTypes := #[.int, .int, .boolean]
  resolved := Array.replicate 1029 none
  statics := none }

def pool4 : Array CpInfo := pool [(1, .class_ 2), (0, u "java/lang/Math"), (1, .class_ 6), (1, u "java/lang/Object"), (0, u "<init>"), (0, u "()V"), (89, .class_ 100), (1, u "java/lang/Math$RandomNumberGeneratorHolder"), (20, u "(JJ)J"), (50, u "negativeZeroFloatBits"), (0, u "J"), (2, u "negativeZeroDoubleBits"), (21, u "max"), (2, u "min"), (43, u "$assertionsDisabled"), (0, u "Z"), (88, u "(II)I"), (2, u "twoToTheDoubleScaleDown"), (0, u "D"), (4, u "twoToTheDoubleScaleUp"), (9, u "E"), (3, u "PI"), (2, u "TAU"), (2, u "DEGREES_TO_RADIANS"), (0, u "RADIANS_TO_DEGREES")] 94

def k4m0 : Method := { name := "<init>", desc := "()V", sig := { parameters := [], returnType := none }, accessFlags := 2, code := none }
def k4c1 : Code := { maxStack := 4, maxLocals := 4, code := jdk_29_method_66_code, exceptionTable := #[], attributes := #[] }
def k4m1 : Method := { name := "max", desc := "(JJ)J", sig := { parameters := [.long, .long], returnType := some .long }, accessFlags := 9, code := some k4c1 }
def k4c2 : Code := { maxStack := 2, maxLocals := 2, code := jdk_29_method_69_code, exceptionTable := #[], attributes := #[] }
def k4m2 : Method := { name := "min", desc := "(II)I", sig := { parameters := [.int, .int], returnType := some .int }, accessFlags := 9, code := some k4c2 }
def k4c3 : Code := { maxStack := 4, maxLocals := 4, code := jdk_29_method_70_code, exceptionTable := #[], attributes := #[] }
def k4m3 : Method := { name := "min", desc := "(JJ)J", sig := { parameters := [.long, .long], returnType := some .long }, accessFlags := 9, code := some k4c3 }
/-- java/lang/Math -/
def k4 : Class := { plain "java/lang/Math" (some 0) with
  accessFlags := 49
  interfaces := #[]
  cf := some (fileOf pool4 1 #[.nestMembers #[98]] #[{ accessFlags := 2, nameIndex := 7, descriptorIndex := 8, attributes := #[] }, { accessFlags := 9, nameIndex := 198, descriptorIndex := 121, attributes := #[] }, { accessFlags := 9, nameIndex := 201, descriptorIndex := 335, attributes := #[] }, { accessFlags := 9, nameIndex := 201, descriptorIndex := 121, attributes := #[] }] 49 4 #[] #[{ accessFlags := 25, nameIndex := 354, descriptorIndex := 339, attributes := #[] }, { accessFlags := 25, nameIndex := 358, descriptorIndex := 339, attributes := #[] }, { accessFlags := 25, nameIndex := 361, descriptorIndex := 339, attributes := #[] }, { accessFlags := 26, nameIndex := 364, descriptorIndex := 339, attributes := #[] }, { accessFlags := 26, nameIndex := 365, descriptorIndex := 339, attributes := #[] }, { accessFlags := 26, nameIndex := 172, descriptorIndex := 173, attributes := #[] }, { accessFlags := 26, nameIndex := 176, descriptorIndex := 173, attributes := #[] }, { accessFlags := 8, nameIndex := 344, descriptorIndex := 339, attributes := #[] }, { accessFlags := 8, nameIndex := 338, descriptorIndex := 339, attributes := #[] }, { accessFlags := 4120, nameIndex := 245, descriptorIndex := 246, attributes := #[] }])
  fields := #[{ name := "E", type := .double, accessFlags := 25, slot := 0, constantValue := 0 }, { name := "PI", type := .double, accessFlags := 25, slot := 1, constantValue := 0 }, { name := "TAU", type := .double, accessFlags := 25, slot := 2, constantValue := 0 }, { name := "DEGREES_TO_RADIANS", type := .double, accessFlags := 26, slot := 3, constantValue := 0 }, { name := "RADIANS_TO_DEGREES", type := .double, accessFlags := 26, slot := 4, constantValue := 0 }, { name := "negativeZeroFloatBits", type := .long, accessFlags := 26, slot := 5, constantValue := 0 }, { name := "negativeZeroDoubleBits", type := .long, accessFlags := 26, slot := 6, constantValue := 0 }, { name := "twoToTheDoubleScaleUp", type := .double, accessFlags := 8, slot := 7, constantValue := 0 }, { name := "twoToTheDoubleScaleDown", type := .double, accessFlags := 8, slot := 8, constantValue := 0 }, { name := "$assertionsDisabled", type := .boolean, accessFlags := 4120, slot := 9, constantValue := 0 }]
  methods := #[k4m0, k4m1, k4m2, k4m3]
  instanceTypes := #[]
  staticTypes := #[.double, .double, .double, .double, .double, .long, .long, .double, .double, .boolean]
  resolved := Array.replicate 460 none
  statics := none }

def pool5 : Array CpInfo := pool [(2, .class_ 4), (1, u "java/lang/Object"), (0, u "<init>"), (0, u "()V"), (1, .class_ 10), (1, u "java/lang/System"), (0, u "allowSecurityManager"), (0, u "I"), (16, u "cons"), (0, u "Ljava/io/Console;"), (77, .class_ 110), (1, u "java/lang/System$CallersHolder"), (43, u "initialErrStream"), (0, u "Ljava/io/PrintStream;"), (19, u "security"), (0, u "Ljava/lang/SecurityManager;"), (31, .class_ 209), (0, u "java/lang/System$1"), (7, u "props"), (0, u "Ljava/util/Properties;"), (2, u "lineSeparator"), (0, u "Ljava/lang/String;"), (96, .class_ 321), (1, u "java/lang/System$LoggerFinder"), (5, .class_ 328), (0, u "java/lang/System$Logger"), (67, u "err"), (2, u "out"), (91, u "notSupportedJnuEncoding"), (15, u "in"), (17, u "initialIn"), (0, u "Ljava/io/InputStream;"), (35, u "bootLayer"), (0, u "Ljava/lang/ModuleLayer;"), (99, .class_ 664), (0, u "java/lang/System$2"), (9, u "NEVER"), (2, u "MAYBE"), (49, u "arraycopy"), (0, u "(Ljava/lang/Object;ILjava/lang/Object;II)V"), (72, .class_ 802), (0, u "java/lang/System$Logger$Level")] 31

def k5m0 : Method := { name := "<init>", desc := "()V", sig := { parameters := [], returnType := none }, accessFlags := 2, code := none }
def k5m1 : Method := { name := "arraycopy", desc := "(Ljava/lang/Object;ILjava/lang/Object;II)V", sig := { parameters := [(.object "java/lang/Object"), .int, (.object "java/lang/Object"), .int, .int], returnType := none }, accessFlags := 265, code := none }
/-- java/lang/System -/
def k5 : Class := { plain "java/lang/System" (some 0) with
  accessFlags := 49
  interfaces := #[]
  cf := some (fileOf pool5 8 #[.nestMembers #[319, 327, 801, 108, 663, 208]] #[{ accessFlags := 2, nameIndex := 5, descriptorIndex := 6, attributes := #[] }, { accessFlags := 265, nameIndex := 727, descriptorIndex := 728, attributes := #[] }] 49 2 #[] #[{ accessFlags := 25, nameIndex := 507, descriptorIndex := 526, attributes := #[] }, { accessFlags := 25, nameIndex := 399, descriptorIndex := 155, attributes := #[] }, { accessFlags := 25, nameIndex := 396, descriptorIndex := 155, attributes := #[] }, { accessFlags := 10, nameIndex := 525, descriptorIndex := 526, attributes := #[] }, { accessFlags := 26, nameIndex := 674, descriptorIndex := 12, attributes := #[] }, { accessFlags := 26, nameIndex := 677, descriptorIndex := 12, attributes := #[] }, { accessFlags := 10, nameIndex := 11, descriptorIndex := 12, attributes := #[] }, { accessFlags := 74, nameIndex := 175, descriptorIndex := 176, attributes := #[] }, { accessFlags := 10, nameIndex := 491, descriptorIndex := 222, attributes := #[] }, { accessFlags := 74, nameIndex := 29, descriptorIndex := 30, attributes := #[] }, { accessFlags := 74, nameIndex := 154, descriptorIndex := 155, attributes := #[] }, { accessFlags := 10, nameIndex := 217, descriptorIndex := 218, attributes := #[] }, { accessFlags := 10, nameIndex := 221, descriptorIndex := 222, attributes := #[] }, { accessFlags := 8, nameIndex := 562, descriptorIndex := 563, attributes := #[] }])
  fields := #[{ name := "in", type := (.object "java/io/InputStream"), accessFlags := 25, slot := 0, constantValue := 0 }, { name := "out", type := (.object "java/io/PrintStream"), accessFlags := 25, slot := 1, constantValue := 0 }, { name := "err", type := (.object "java/io/PrintStream"), accessFlags := 25, slot := 2, constantValue := 0 }, { name := "initialIn", type := (.object "java/io/InputStream"), accessFlags := 10, slot := 3, constantValue := 0 }, { name := "NEVER", type := .int, accessFlags := 26, slot := 4, constantValue := 0 }, { name := "MAYBE", type := .int, accessFlags := 26, slot := 5, constantValue := 0 }, { name := "allowSecurityManager", type := .int, accessFlags := 10, slot := 6, constantValue := 0 }, { name := "security", type := (.object "java/lang/SecurityManager"), accessFlags := 74, slot := 7, constantValue := 0 }, { name := "notSupportedJnuEncoding", type := (.object "java/lang/String"), accessFlags := 10, slot := 8, constantValue := 0 }, { name := "cons", type := (.object "java/io/Console"), accessFlags := 74, slot := 9, constantValue := 0 }, { name := "initialErrStream", type := (.object "java/io/PrintStream"), accessFlags := 74, slot := 10, constantValue := 0 }, { name := "props", type := (.object "java/util/Properties"), accessFlags := 10, slot := 11, constantValue := 0 }, { name := "lineSeparator", type := (.object "java/lang/String"), accessFlags := 10, slot := 12, constantValue := 0 }, { name := "bootLayer", type := (.object "java/lang/ModuleLayer"), accessFlags := 8, slot := 13, constantValue := 0 }]
  methods := #[k5m0, k5m1]
  instanceTypes := #[]
  staticTypes := #[(.object "java/io/InputStream"), (.object "java/io/PrintStream"), (.object "java/io/PrintStream"), (.object "java/io/InputStream"), .int, .int, .int, (.object "java/lang/SecurityManager"), (.object "java/lang/String"), (.object "java/io/Console"), (.object "java/io/PrintStream"), (.object "java/util/Properties"), (.object "java/lang/String"), (.object "java/lang/ModuleLayer")]
  resolved := Array.replicate 834 none
  statics := none }

def pool6 : Array CpInfo := pool [(4, .class_ 6), (1, u "java/lang/Object"), (0, u "<init>"), (0, u "()V"), (0, .long 2), (1, .methodref 12 13), (0, .class_ 14), (0, .nameAndType 15 16), (0, u "java/lang/Math"), (0, u "max"), (0, u "(JJ)J"), (0, .class_ 18), (0, u "com/example/upcaster/upcaster/io/Buffers"), (0, .long 2147483639), (1, .methodref 12 22), (0, .nameAndType 23 16), (0, u "min"), (0, .methodref 25 26), (0, .class_ 27), (0, .nameAndType 28 29), (0, u "java/util/Arrays"), (0, u "copyOf"), (0, u "([BI)[B"), (0, u "LIMIT"), (0, u "I"), (4, u "grown"), (0, u "([BJ)[B")] 2

def k6m0 : Method := { name := "<init>", desc := "()V", sig := { parameters := [], returnType := none }, accessFlags := 2, code := none }
def k6c1 : Code := { maxStack := 5, maxLocals := 3, code := prog_8_method_2_code, exceptionTable := #[], attributes := #[] }
def k6m1 : Method := { name := "grown", desc := "([BJ)[B", sig := { parameters := [(.array .byte), .long], returnType := some (.array .byte) }, accessFlags := 8, code := some k6c1 }
/-- com/example/upcaster/upcaster/io/Buffers -/
def k6 : Class := { plain "com/example/upcaster/upcaster/io/Buffers" (some 0) with
  accessFlags := 32
  interfaces := #[]
  cf := some (fileOf pool6 17 #[] #[{ accessFlags := 2, nameIndex := 7, descriptorIndex := 8, attributes := #[] }, { accessFlags := 8, nameIndex := 36, descriptorIndex := 37, attributes := #[] }] 32 4 #[] #[{ accessFlags := 24, nameIndex := 30, descriptorIndex := 31, attributes := #[] }])
  fields := #[{ name := "LIMIT", type := .int, accessFlags := 24, slot := 0, constantValue := 0 }]
  methods := #[k6m0, k6m1]
  instanceTypes := #[]
  staticTypes := #[.int]
  resolved := Array.replicate 40 none
  statics := none }

def pool7 : Array CpInfo := pool [(2, .class_ 4), (1, u "java/lang/Object"), (0, u "<init>"), (0, u "()V"), (35, .class_ 44), (1, u "java/util/Objects"), (60, .methodref 106 107), (0, .class_ 108), (0, .nameAndType 109 110), (0, u "jdk/internal/util/Preconditions"), (0, u "checkIndex"), (0, u "(IILjava/util/function/BiFunction;)I"), (60, u "(II)I")] 12

def k7m0 : Method := { name := "<init>", desc := "()V", sig := { parameters := [], returnType := none }, accessFlags := 2, code := none }
def k7c1 : Code := { maxStack := 3, maxLocals := 2, code := jdk_31_method_17_code, exceptionTable := #[], attributes := #[] }
def k7m1 : Method := { name := "checkIndex", desc := "(II)I", sig := { parameters := [.int, .int], returnType := some .int }, accessFlags := 9, code := some k7c1 }
/-- java/util/Objects -/
def k7 : Class := { plain "java/util/Objects" (some 0) with
  accessFlags := 49
  interfaces := #[]
  cf := some (fileOf pool7 42 #[] #[{ accessFlags := 2, nameIndex := 5, descriptorIndex := 6, attributes := #[] }, { accessFlags := 9, nameIndex := 109, descriptorIndex := 171, attributes := #[] }] 49 2 #[] #[])
  fields := #[]
  methods := #[k7m0, k7m1]
  instanceTypes := #[]
  staticTypes := #[]
  resolved := Array.replicate 184 none
  statics := none }

def pool8 : Array CpInfo := pool [(2, .class_ 4), (1, u "java/lang/Object"), (0, u "<init>"), (0, u "()V"), (17, .class_ 26), (1, u "jdk/internal/util/Preconditions"), (6, u "checkIndex"), (21, .class_ 56), (0, u "jdk/internal/util/Preconditions$4"), (57, .class_ 115), (0, u "jdk/internal/util/Preconditions$1"), (7, u "SIOOBE_FORMATTER"), (0, u "Ljava/util/function/BiFunction;"), (0, .class_ 126), (0, u "jdk/internal/util/Preconditions$2"), (3, u "AIOOBE_FORMATTER"), (0, .class_ 132), (0, u "jdk/internal/util/Preconditions$3"), (3, u "IOOBE_FORMATTER"), (41, u "(IILjava/util/function/BiFunction;)I")] 15

def k8m0 : Method := { name := "<init>", desc := "()V", sig := { parameters := [], returnType := none }, accessFlags := 1, code := none }
def k8c1 : Code := { maxStack := 3, maxLocals := 3, code := jdk_41_method_11_code, exceptionTable := #[], attributes := #[] }
def k8m1 : Method := { name := "checkIndex", desc := "(IILjava/util/function/BiFunction;)I", sig := { parameters := [.int, .int, (.object "java/util/function/BiFunction")], returnType := some .int }, accessFlags := 9, code := some k8c1 }
/-- jdk/internal/util/Preconditions -/
def k8 : Class := { plain "jdk/internal/util/Preconditions" (some 0) with
  accessFlags := 33
  interfaces := #[]
  cf := some (fileOf pool8 24 #[.nestMembers #[55, 131, 125, 114]] #[{ accessFlags := 1, nameIndex := 5, descriptorIndex := 6, attributes := #[] }, { accessFlags := 9, nameIndex := 33, descriptorIndex := 178, attributes := #[] }] 33 2 #[] #[{ accessFlags := 25, nameIndex := 123, descriptorIndex := 124, attributes := #[] }, { accessFlags := 25, nameIndex := 130, descriptorIndex := 124, attributes := #[] }, { accessFlags := 25, nameIndex := 136, descriptorIndex := 124, attributes := #[] }])
  fields := #[{ name := "SIOOBE_FORMATTER", type := (.object "java/util/function/BiFunction"), accessFlags := 25, slot := 0, constantValue := 0 }, { name := "AIOOBE_FORMATTER", type := (.object "java/util/function/BiFunction"), accessFlags := 25, slot := 1, constantValue := 0 }, { name := "IOOBE_FORMATTER", type := (.object "java/util/function/BiFunction"), accessFlags := 25, slot := 2, constantValue := 0 }]
  methods := #[k8m0, k8m1]
  instanceTypes := #[]
  staticTypes := #[(.object "java/util/function/BiFunction"), (.object "java/util/function/BiFunction"), (.object "java/util/function/BiFunction")]
  resolved := Array.replicate 194 none
  statics := none }

def pool9 : Array CpInfo := pool [(1, u "java/lang/Cloneable"), (0, .class_ 1), (0, u "java/lang/Object"), (0, .class_ 3)] 3

/-- java/lang/Cloneable -/
def k9 : Class := { plain "java/lang/Cloneable" (some 0) with
  accessFlags := 1537
  interfaces := #[]
  cf := some (fileOf pool9 2 #[] #[] 1537 4 #[] #[])
  fields := #[]
  methods := #[]
  instanceTypes := #[]
  staticTypes := #[]
  resolved := Array.replicate 8 none
  statics := none }

def pool10 : Array CpInfo := pool [(1, u "java/io/Serializable"), (0, .class_ 1), (0, u "java/lang/Object"), (0, .class_ 3)] 3

/-- java/io/Serializable -/
def k10 : Class := { plain "java/io/Serializable" (some 0) with
  accessFlags := 1537
  interfaces := #[]
  cf := some (fileOf pool10 2 #[] #[] 1537 4 #[] #[])
  fields := #[]
  methods := #[]
  instanceTypes := #[]
  staticTypes := #[]
  resolved := Array.replicate 8 none
  statics := none }

/-- the primitive byte -/
def k11 : Class := { plain "byte" none with kind := .primitive 'B', accessFlags := 0x411 }
/-- [B -/
def k12 : Class := { plain "[B" (some 0) with kind := .array 11 .byte, interfaces := #[9, 10], accessFlags := 1041 }

/-- the primitive int -/
def k13 : Class := { plain "int" none with kind := .primitive 'I', accessFlags := 0x411 }
/-- [I -/
def k14 : Class := { plain "[I" (some 0) with kind := .array 13 .int, interfaces := #[9, 10], accessFlags := 1041 }

def heap : Heap := #[]
def classes : Array Class := #[k0, k1, k2, k3, k4, k5, k6, k7, k8, k9, k10, k11, k12, k13, k14]
def interned : List (Array UInt16 × Addr) := []
def slotsUsed : Nat := 0
def theMethod : MethodId := ⟨1, 2⟩
def args0 : Array Value := #[.int 5, .int 7, .int 9, .int 3]
def aboutOver (below : List Frame) : State where
  vm := { classes := classes, interned := interned.toArray }
  heap := heap
  slotsUsed := slotsUsed
  threads := #[{ frames := .invoking theMethod args0 :: below }]
def below0 : List Frame := [.native { method := ⟨0, 0⟩, args := #[] }]
def about1 : State := aboutOver below0
def p0 : Program := .bare "" "" ""
def e0 : Env := launch0.env 0 0 0
theorem w_frames : about1.frames = Frame.invoking theMethod args0 :: below0 := rfl
set_option maxRecDepth 65536 in
theorem w_args : argsFit about1.vm theMethod args0 = true := by decide +kernel
set_option maxRecDepth 65536 in
theorem w_heap : heapFits about1 = true := by decide +kernel
set_option maxRecDepth 65536 in
theorem w_runnable : about1.curStatus? = some .runnable := by decide +kernel
set_option maxRecDepth 65536 in
theorem w_alone : about1.alone = true := by decide +kernel
set_option maxRecDepth 65536 in
theorem w_named : about1.methodNamed? x = some theMethod := by decide +kernel
set_option maxRecDepth 65536 in
theorem w_hears : about1.hears theMethod below0 = true := by decide +kernel
set_option maxRecDepth 65536 in
theorem w_ripe : about1.ripe theMethod args0 below0 = true := by decide +kernel
theorem w_running : about1.status = .running := rfl
set_option maxRecDepth 65536 in
theorem w_room : about1.hasRoom e0.platform room_1 = true :=
  launch0.hasRoom_least _ room_1 (by decide +kernel) (by decide +kernel) (by decide +kernel) (by decide +kernel) (by decide +kernel) (by decide +kernel)
theorem allAtoms_all (ts : List Jvm.Cond) (a : Array Jvm.Value) (st : Jvm.State) : (allAtoms ts).before a st = ts.all (fun c => c.before a st) := by
  induction ts with
  | nil => rfl
  | cons c t ih =>
    show (Jvm.Cond.and c (allAtoms t)).before a st = _
    rw [Jvm.Cond.before_and, ih, List.all_cons]
def words1 : List Jvm.Cond := Jvm.Cond.code x code maxLocals ret :: tables_1
/-- a 'code' word, met by the world's own term for the bytes: nothing is compared byte by byte -/
theorem code_word {y : MethodName} {bytes : ByteArray} {mx : Nat} {rt : Option FieldType} {a : Array Value} {s : State} {m : MethodId} {meth : Method} {c : Code} (h1 : s.methodNamed? y = some m) (h2 : s.vm.method? m = some meth) (h3 : meth.code = some c) (h4 : c.code = bytes)
    (h5 : (c.maxLocals == mx && c.exceptionTable.isEmpty && decide (c.maxStack ≤ mostOperands) && decide (meth.sig.returnType = rt) && !meth.locks && decide (parseMethodDescriptor y.desc = some meth.sig)) = true) : (Jvm.Cond.code y bytes mx rt).before a s = true := by
  simp only [Bool.and_eq_true, beq_iff_eq, Bool.not_eq_true', decide_eq_true_eq] at h5
  obtain ⟨⟨⟨⟨⟨g1, g2⟩, g3⟩, g4⟩, g5⟩, g6⟩ := h5
  simp [Cond.before, Cond.holds, Cond.value, h1, h2, h3, h4, g1, g2, g3, g4, g5, g6]
def isCode : Jvm.Cond → Bool
  | .code _ _ _ _ => true
  | _ => false
theorem all_split {L : List Jvm.Cond} {P : Jvm.Cond → Bool} (h1 : L.all (fun c => isCode c || P c) = true) (h2 : ∀ c ∈ L.filter isCode, P c = true) : L.all P = true := by
  refine List.all_eq_true.mpr fun c hc => ?_
  have h := List.all_eq_true.mp h1 c hc
  rcases Bool.eq_false_or_eq_true (isCode c) with hi | hi
  · exact h2 c (List.mem_filter.mpr ⟨hc, hi⟩)
  · simpa [hi] using h
set_option maxRecDepth 65536 in
theorem w_c0 : (Jvm.Cond.code x code maxLocals ret).before args0 about1 = true := code_word (m := ⟨1, 2⟩) (meth := k1m2) (c := k1c2) (by decide +kernel) rfl rfl rfl (by decide +kernel)
set_option maxRecDepth 65536 in
theorem w_c1 : (Jvm.Cond.code ({ cls := "com/example/upcaster/upcaster/io/BinaryEncoder", name := "<init>", desc := "()V" } : Jvm.MethodName) prog_6_method_1_code (1 : Nat) (Option.none : Option Jvm.ClassFile.FieldType)).before args0 about1 = true := code_word (m := ⟨2, 0⟩) (meth := k2m0) (c := k2c0) (by decide +kernel) rfl rfl rfl (by decide +kernel)
set_option maxRecDepth 65536 in
theorem w_c2 : (Jvm.Cond.code ({ cls := "java/lang/Object", name := "<init>", desc := "()V" } : Jvm.MethodName) object_method_1_code (1 : Nat) (Option.none : Option Jvm.ClassFile.FieldType)).before args0 about1 = true := code_word (m := ⟨0, 0⟩) (meth := k0m0) (c := k0c0) (by decide +kernel) rfl rfl rfl (by decide +kernel)
set_option maxRecDepth 65536 in
theorem w_c3 : (Jvm.Cond.code ({ cls := "com/example/upcaster/upcaster/io/BinaryEncoder", name := "toByteArray", desc := "()[B" } : Jvm.MethodName) prog_6_method_6_code (1 : Nat) (Option.some (Jvm.ClassFile.FieldType.array Jvm.ClassFile.FieldType.byte))).before args0 about1 = true := code_word (m := ⟨2, 3⟩) (meth := k2m3) (c := k2c3) (by decide +kernel) rfl rfl rfl (by decide +kernel)
set_option maxRecDepth 65536 in
theorem w_c4 : (Jvm.Cond.code ({ cls := "java/util/Arrays", name := "copyOf", desc := "([BI)[B" } : Jvm.MethodName) jdk_65_method_121_code (3 : Nat) (Option.some (Jvm.ClassFile.FieldType.array Jvm.ClassFile.FieldType.byte))).before args0 about1 = true := code_word (m := ⟨3, 1⟩) (meth := k3m1) (c := k3c1) (by decide +kernel) rfl rfl rfl (by decide +kernel)
set_option maxRecDepth 65536 in
theorem w_c5 : (Jvm.Cond.code ({ cls := "java/lang/Math", name := "min", desc := "(II)I" } : Jvm.MethodName) jdk_29_method_69_code (2 : Nat) (Option.some Jvm.ClassFile.FieldType.int)).before args0 about1 = true := code_word (m := ⟨4, 2⟩) (meth := k4m2) (c := k4c2) (by decide +kernel) rfl rfl rfl (by decide +kernel)
set_option maxRecDepth 65536 in
theorem w_c6 : (Jvm.Cond.code ({ cls := "com/example/upcaster/upcaster/io/BinaryEncoder", name := "writeBoolean", desc := "(Z)V" } : Jvm.MethodName) prog_6_method_7_code (2 : Nat) (Option.none : Option Jvm.ClassFile.FieldType)).before args0 about1 = true := code_word (m := ⟨2, 4⟩) (meth := k2m4) (c := k2c4) (by decide +kernel) rfl rfl rfl (by decide +kernel)
set_option maxRecDepth 65536 in
theorem w_c7 : (Jvm.Cond.code ({ cls := "com/example/upcaster/upcaster/io/BinaryEncoder", name := "room", desc := "(I)V" } : Jvm.MethodName) prog_6_method_16_code (2 : Nat) (Option.none : Option Jvm.ClassFile.FieldType)).before args0 about1 = true := code_word (m := ⟨2, 6⟩) (meth := k2m6) (c := k2c6) (by decide +kernel) rfl rfl rfl (by decide +kernel)
set_option maxRecDepth 65536 in
theorem w_c8 : (Jvm.Cond.code ({ cls := "com/example/upcaster/upcaster/io/BinaryEncoder", name := "writeFixed", desc := "([B)V" } : Jvm.MethodName) prog_6_method_14_code (2 : Nat) (Option.none : Option Jvm.ClassFile.FieldType)).before args0 about1 = true := code_word (m := ⟨2, 5⟩) (meth := k2m5) (c := k2c5) (by decide +kernel) rfl rfl rfl (by decide +kernel)
set_option maxRecDepth 65536 in
theorem w_c9 : (Jvm.Cond.code ({ cls := "com/example/upcaster/upcaster/io/Buffers", name := "grown", desc := "([BJ)[B" } : Jvm.MethodName) prog_8_method_2_code (3 : Nat) (Option.some (Jvm.ClassFile.FieldType.array Jvm.ClassFile.FieldType.byte))).before args0 about1 = true := code_word (m := ⟨6, 1⟩) (meth := k6m1) (c := k6c1) (by decide +kernel) rfl rfl rfl (by decide +kernel)
set_option maxRecDepth 65536 in
theorem w_c10 : (Jvm.Cond.code ({ cls := "java/lang/Math", name := "max", desc := "(JJ)J" } : Jvm.MethodName) jdk_29_method_66_code (4 : Nat) (Option.some Jvm.ClassFile.FieldType.long)).before args0 about1 = true := code_word (m := ⟨4, 1⟩) (meth := k4m1) (c := k4c1) (by decide +kernel) rfl rfl rfl (by decide +kernel)
set_option maxRecDepth 65536 in
theorem w_c11 : (Jvm.Cond.code ({ cls := "java/lang/Math", name := "min", desc := "(JJ)J" } : Jvm.MethodName) jdk_29_method_70_code (4 : Nat) (Option.some Jvm.ClassFile.FieldType.long)).before args0 about1 = true := code_word (m := ⟨4, 3⟩) (meth := k4m3) (c := k4c3) (by decide +kernel) rfl rfl rfl (by decide +kernel)
set_option maxRecDepth 65536 in
theorem w_c12 : (Jvm.Cond.code ({ cls := "com/example/upcaster/upcaster/io/BinaryEncoder", name := "size", desc := "()I" } : Jvm.MethodName) prog_6_method_2_code (1 : Nat) (Option.some Jvm.ClassFile.FieldType.int)).before args0 about1 = true := code_word (m := ⟨2, 1⟩) (meth := k2m1) (c := k2c1) (by decide +kernel) rfl rfl rfl (by decide +kernel)
set_option maxRecDepth 65536 in
theorem w_c13 : (Jvm.Cond.code ({ cls := "com/example/upcaster/upcaster/io/BinaryEncoderToByteArrayPinLaw", name := "exp", desc := "(IZ[B[B)B" } : Jvm.MethodName) method_2_code (4 : Nat) (Option.some Jvm.ClassFile.FieldType.byte)).before args0 about1 = true := code_word (m := ⟨1, 1⟩) (meth := k1m1) (c := k1c1) (by decide +kernel) rfl rfl rfl (by decide +kernel)
set_option maxRecDepth 65536 in
theorem w_c14 : (Jvm.Cond.code ({ cls := "com/example/upcaster/upcaster/io/BinaryEncoder", name := "truncate", desc := "(I)V" } : Jvm.MethodName) prog_6_method_4_code (2 : Nat) (Option.none : Option Jvm.ClassFile.FieldType)).before args0 about1 = true := code_word (m := ⟨2, 2⟩) (meth := k2m2) (c := k2c2) (by decide +kernel) rfl rfl rfl (by decide +kernel)
set_option maxRecDepth 65536 in
theorem w_c15 : (Jvm.Cond.code ({ cls := "java/util/Objects", name := "checkIndex", desc := "(II)I" } : Jvm.MethodName) jdk_31_method_17_code (2 : Nat) (Option.some Jvm.ClassFile.FieldType.int)).before args0 about1 = true := code_word (m := ⟨7, 1⟩) (meth := k7m1) (c := k7c1) (by decide +kernel) rfl rfl rfl (by decide +kernel)
set_option maxRecDepth 65536 in
theorem w_c16 : (Jvm.Cond.code ({ cls := "jdk/internal/util/Preconditions", name := "checkIndex", desc := "(IILjava/util/function/BiFunction;)I" } : Jvm.MethodName) jdk_41_method_11_code (3 : Nat) (Option.some Jvm.ClassFile.FieldType.int)).before args0 about1 = true := code_word (m := ⟨8, 1⟩) (meth := k8m1) (c := k8c1) (by decide +kernel) rfl rfl rfl (by decide +kernel)
def codes1 : List Jvm.Cond := [Jvm.Cond.code x code maxLocals ret, Jvm.Cond.code ({ cls := "com/example/upcaster/upcaster/io/BinaryEncoder", name := "<init>", desc := "()V" } : Jvm.MethodName) prog_6_method_1_code (1 : Nat) (Option.none : Option Jvm.ClassFile.FieldType), Jvm.Cond.code ({ cls := "java/lang/Object", name := "<init>", desc := "()V" } : Jvm.MethodName) object_method_1_code (1 : Nat) (Option.none : Option Jvm.ClassFile.FieldType), Jvm.Cond.code ({ cls := "com/example/upcaster/upcaster/io/BinaryEncoder", name := "toByteArray", desc := "()[B" } : Jvm.MethodName) prog_6_method_6_code (1 : Nat) (Option.some (Jvm.ClassFile.FieldType.array Jvm.ClassFile.FieldType.byte)), Jvm.Cond.code ({ cls := "java/util/Arrays", name := "copyOf", desc := "([BI)[B" } : Jvm.MethodName) jdk_65_method_121_code (3 : Nat) (Option.some (Jvm.ClassFile.FieldType.array Jvm.ClassFile.FieldType.byte)), Jvm.Cond.code ({ cls := "java/lang/Math", name := "min", desc := "(II)I" } : Jvm.MethodName) jdk_29_method_69_code (2 : Nat) (Option.some Jvm.ClassFile.FieldType.int), Jvm.Cond.code ({ cls := "com/example/upcaster/upcaster/io/BinaryEncoder", name := "writeBoolean", desc := "(Z)V" } : Jvm.MethodName) prog_6_method_7_code (2 : Nat) (Option.none : Option Jvm.ClassFile.FieldType), Jvm.Cond.code ({ cls := "com/example/upcaster/upcaster/io/BinaryEncoder", name := "room", desc := "(I)V" } : Jvm.MethodName) prog_6_method_16_code (2 : Nat) (Option.none : Option Jvm.ClassFile.FieldType), Jvm.Cond.code ({ cls := "com/example/upcaster/upcaster/io/BinaryEncoder", name := "writeFixed", desc := "([B)V" } : Jvm.MethodName) prog_6_method_14_code (2 : Nat) (Option.none : Option Jvm.ClassFile.FieldType), Jvm.Cond.code ({ cls := "com/example/upcaster/upcaster/io/Buffers", name := "grown", desc := "([BJ)[B" } : Jvm.MethodName) prog_8_method_2_code (3 : Nat) (Option.some (Jvm.ClassFile.FieldType.array Jvm.ClassFile.FieldType.byte)), Jvm.Cond.code ({ cls := "java/lang/Math", name := "max", desc := "(JJ)J" } : Jvm.MethodName) jdk_29_method_66_code (4 : Nat) (Option.some Jvm.ClassFile.FieldType.long), Jvm.Cond.code ({ cls := "java/lang/Math", name := "min", desc := "(JJ)J" } : Jvm.MethodName) jdk_29_method_70_code (4 : Nat) (Option.some Jvm.ClassFile.FieldType.long), Jvm.Cond.code ({ cls := "com/example/upcaster/upcaster/io/BinaryEncoder", name := "size", desc := "()I" } : Jvm.MethodName) prog_6_method_2_code (1 : Nat) (Option.some Jvm.ClassFile.FieldType.int), Jvm.Cond.code ({ cls := "com/example/upcaster/upcaster/io/BinaryEncoderToByteArrayPinLaw", name := "exp", desc := "(IZ[B[B)B" } : Jvm.MethodName) method_2_code (4 : Nat) (Option.some Jvm.ClassFile.FieldType.byte), Jvm.Cond.code ({ cls := "com/example/upcaster/upcaster/io/BinaryEncoder", name := "truncate", desc := "(I)V" } : Jvm.MethodName) prog_6_method_4_code (2 : Nat) (Option.none : Option Jvm.ClassFile.FieldType), Jvm.Cond.code ({ cls := "java/util/Objects", name := "checkIndex", desc := "(II)I" } : Jvm.MethodName) jdk_31_method_17_code (2 : Nat) (Option.some Jvm.ClassFile.FieldType.int), Jvm.Cond.code ({ cls := "jdk/internal/util/Preconditions", name := "checkIndex", desc := "(IILjava/util/function/BiFunction;)I" } : Jvm.MethodName) jdk_41_method_11_code (3 : Nat) (Option.some Jvm.ClassFile.FieldType.int)]
set_option maxRecDepth 65536 in
theorem codes_eq : words1.filter isCode = codes1 := rfl
theorem w_codes : ∀ c ∈ words1.filter isCode, c.before args0 about1 = true := by
  rw [codes_eq]
  intro c hc
  simp only [codes1, List.mem_cons, List.not_mem_nil, or_false] at hc
  rcases hc with rfl | rfl | rfl | rfl | rfl | rfl | rfl | rfl | rfl | rfl | rfl | rfl | rfl | rfl | rfl | rfl | rfl
  · exact w_c0
  · exact w_c1
  · exact w_c2
  · exact w_c3
  · exact w_c4
  · exact w_c5
  · exact w_c6
  · exact w_c7
  · exact w_c8
  · exact w_c9
  · exact w_c10
  · exact w_c11
  · exact w_c12
  · exact w_c13
  · exact w_c14
  · exact w_c15
  · exact w_c16
set_option maxRecDepth 65536 in
theorem w_t1 : (words1.take 24).all (fun c => isCode c || c.before args0 about1) = true := by decide +kernel
set_option maxRecDepth 65536 in
theorem w_t2 : ((words1.drop 24).take 24).all (fun c => isCode c || c.before args0 about1) = true := by decide +kernel
set_option maxRecDepth 65536 in
theorem w_t3 : (((words1.drop 24).drop 24).take 24).all (fun c => isCode c || c.before args0 about1) = true := by decide +kernel
set_option maxRecDepth 65536 in
theorem w_t4 : (((words1.drop 24).drop 24).drop 24).all (fun c => isCode c || c.before args0 about1) = true := by decide +kernel
theorem w_tables : (allAtoms (Jvm.Cond.code x code maxLocals ret :: tables_1)).before args0 about1 = true := by
  rw [allAtoms_all]
  show words1.all (fun c => c.before args0 about1) = true
  refine all_split ?_ w_codes
  rw [← List.take_append_drop 24 words1, List.all_append, w_t1, ← List.take_append_drop 24 (words1.drop 24), List.all_append, w_t2, ← List.take_append_drop 24 ((words1.drop 24).drop 24), List.all_append, w_t3, w_t4]
  rfl
set_option maxRecDepth 65536 in
theorem w_case : (Jvm.Cond.and given_1 narrow_1).before args0 about1 = true := by decide +kernel
theorem w_applies : (headSpec (Jvm.Cond.code x code maxLocals ret :: tables_1) room_1).applies x e0.platform about1 = true :=
  (Spec.applies_iff w_frames).mpr ⟨w_running, w_runnable, w_alone, w_named, w_hears, w_ripe, w_room, w_tables⟩
theorem atStart : AtStart classFile x code maxLocals ret World_1 tables_1 room_1 Calls_1 rest_1 Pre_1 launch0 p0 e0 about1 theMethod args0 below0 :=
  ⟨lists_1, trivial, launch0.admits_env _ _ _, launch0.least_env, fairChoices_fair.cas, fairChoices_fair.clock, w_frames, w_args, w_heap, w_applies, trivial, trivial, w_case⟩
end start1
theorem witness_1 : WitnessClaimed_1 := ⟨start1.p0, start1.e0, start1.about1, start1.theMethod, start1.args0, start1.below0, start1.atStart⟩
end Jvm.Pilot.@@N@@
