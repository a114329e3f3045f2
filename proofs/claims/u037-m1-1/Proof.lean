import JvmDerived
import JvmDerived.Pilot.@@N@@Statement
import JvmDerived.Pilot.@@N@@Code
set_option linter.unusedVariables false
set_option linter.unusedSimpArgs false
@@BLOCK:NumsL.lean.txt@@
namespace Jvm.Pilot.@@N@@
open Jvm Jvm.ClassFile Sem Op Lib Jvm.Free Jvm.Stand Jvm.LawKit Jvm.RoadKit Bundle Jvm.Pilot.@@N@@.Jvm.D
abbrev ym0 : MethodName := ⟨"com/example/upcaster/upcaster/io/BinaryEncoder", "<init>", "()V"⟩
abbrev ym1 : MethodName := ⟨"com/example/upcaster/upcaster/io/BinaryEncoder", "room", "(I)V"⟩
abbrev ym2 : MethodName := ⟨"com/example/upcaster/upcaster/io/BinaryEncoder", "writeFixed", "([B)V"⟩
abbrev ym3 : MethodName := ⟨"jdk/internal/util/Preconditions", "checkIndex", "(IILjava/util/function/BiFunction;)I"⟩
abbrev ym4 : MethodName := ⟨"java/util/Objects", "checkIndex", "(II)I"⟩
abbrev ym5 : MethodName := ⟨"com/example/upcaster/upcaster/io/BinaryEncoder", "truncate", "(I)V"⟩
abbrev ym6 : MethodName := ⟨"com/example/upcaster/upcaster/io/BinaryEncoder", "size", "()I"⟩
abbrev ym7 : MethodName := ⟨"java/lang/Math", "min", "(II)I"⟩
abbrev ym8 : MethodName := ⟨"com/example/upcaster/upcaster/io/BinaryEncoder", "writeBoolean", "(Z)V"⟩
abbrev ym9 : MethodName := ⟨"java/util/Arrays", "copyOf", "([BI)[B"⟩
abbrev ym10 : MethodName := ⟨"com/example/upcaster/upcaster/io/BinaryEncoder", "toByteArray", "()[B"⟩
abbrev ym11 : MethodName := ⟨"com/example/upcaster/upcaster/io/BinaryEncoderTruncatePinLaw", "kept", "([BIIB)Z"⟩
def Goes (p : Program) (e : Env) (below : List Frame) (s : State) (Q : Option Value → Heap → List Loc → Prop) (kc ks : Nat) (A : State) : Prop :=
  ∃ s₂ o, Steps p.tables e below A s₂ ∧ s₂.status = .running ∧ Ended s₂ below o ∧ ∃ v L, o = .returned v ∧ Q v s₂.heap L ∧ FrameEnd s o s₂ L kc ks
abbrev jv (x : Int64) : Slot := .val (.long x)
def QL (w : Option Value) (n0 : Nat) (v : Option Value) (h : Heap) (L : List Loc) : Prop := v = w ∧ Fr n0 L
theorem own_selp {s : State} {args : Array Value} {y : MethodName} {n : Nat} (hins : (Cond.instantiable y.cls n).before args s = true) (hpriv : (Cond.privateMethod y).before args s = true) (hinst : (Cond.instanceMethod y).before args s = true) (hy : y.cls ≠ "java/lang/invoke/MethodHandle" ∧ y.cls ≠ "java/lang/invoke/VarHandle") : (Cond.selects y.cls y y).before args s = true := by
  obtain ⟨c, k, hc, hk, -, hniab, -, -⟩ := Cond.instantiable_spec hins
  exact selects_self_of_private hc hk (Bool.or_eq_false_iff.mp hniab).1 (Cond.privateMethod_at hpriv) hinst hy
def QP (w : Option Value) (h0 : Heap) (n0 : Nat) (v : Option Value) (h : Heap) (L : List Loc) : Prop := v = w ∧ Fr n0 L ∧ h = h0
section OwnGoes
variable {p : Program} {l : Launch} {e : Env} {R : Room} {s : State} {m : MethodId} {args : Array Value} {below : List Frame} {meth : Method} {c : Code} {T : State} {locs : List Loc} {cells slots kc ks : Nat} {Q : Option Value → Heap → List Loc → Prop}
theorem Goes.st {A B : State} (h : ∀ t, Steps p.tables e below B t → Steps p.tables e below A t) (g : Goes p e below s Q kc ks B) : Goes p e below s Q kc ks A := by
  obtain ⟨s₂, o, h1, r⟩ := g
  exact ⟨s₂, o, h _ h1, r⟩
theorem Goes.cast {g g' : JFrame} (q : g = g') (h : Goes p e below s Q kc ks (T.setTop g')) : Goes p e below s Q kc ks (T.setTop g) := q ▸ h
theorem Goes.retI (X : Stand p l e R s m args below meth c T locs cells slots) (hx : p.tables.exec = Jvm.exec) (hlk : meth.locks = false) (hret : meth.sig.returnType = some .int) {pc : Nat} {Ls : Array Slot} {z : Int32} {rest : List Value} (hd : decode c.code pc = .ok (.ireturn, 1)) (hQ : Q (some (.int z)) T.heap locs) (h1 : cells ≤ kc) (h2 : slots ≤ ks) : Goes p e below s Q kc ks (T.setTop (mkF m pc Ls (.int z :: rest))) := by
  obtain ⟨fs, hr, hrun, hended, hW, hsame⟩ := X.leave (v := some (.int z)) (fun h => by rw [hret] at h; cases h)
  exact ⟨_, _, retOut X hx hret rfl (Or.inl ⟨rfl, Or.inl rfl, _, rfl⟩) hd hr, hrun, hended, _, _, rfl, hQ, ⟨_, rfl⟩, hW, hsame.mono h1 h2⟩
theorem Goes.retJ (X : Stand p l e R s m args below meth c T locs cells slots) (hx : p.tables.exec = Jvm.exec) (hlk : meth.locks = false) (hret : meth.sig.returnType = some .long) {pc : Nat} {Ls : Array Slot} {z : Int64} {rest : List Value} (hd : decode c.code pc = .ok (.lreturn, 1)) (hQ : Q (some (.long z)) T.heap locs) (h1 : cells ≤ kc) (h2 : slots ≤ ks) : Goes p e below s Q kc ks (T.setTop (mkF m pc Ls (.long z :: rest))) := by
  obtain ⟨fs, hr, hrun, hended, hW, hsame⟩ := X.leave (v := some (.long z)) (fun h => by rw [hret] at h; cases h)
  exact ⟨_, _, retOut X hx hret rfl (Or.inr (Or.inl ⟨rfl, rfl, _, rfl⟩)) hd hr, hrun, hended, _, _, rfl, hQ, ⟨_, rfl⟩, hW, hsame.mono h1 h2⟩
theorem Goes.retR (X : Stand p l e R s m args below meth c T locs cells slots) (hx : p.tables.exec = Jvm.exec) (hlk : meth.locks = false) {t : FieldType} (hret : meth.sig.returnType = some t) {w : Value} (ht : t.isReference = true) (hw : w.isRef = true) {pc : Nat} {Ls : Array Slot} {rest : List Value} (hd : decode c.code pc = .ok (.areturn, 1)) (hQ : Q (some w) T.heap locs) (h1 : cells ≤ kc) (h2 : slots ≤ ks) : Goes p e below s Q kc ks (T.setTop (mkF m pc Ls (w :: rest))) := by
  obtain ⟨fs, hr, hrun, hended, hW, hsame⟩ := X.leave (v := some w) (fun h => by rw [hret] at h; cases h)
  have hn : narrow t w = w := by cases t <;> cases w <;> first | rfl | (simp [FieldType.isReference] at ht) | (simp [Value.isRef] at hw)
  exact ⟨_, _, retOut X hx hret hn (Or.inr (Or.inr (Or.inr (Or.inr ⟨rfl, ht, hw⟩)))) hd hr, hrun, hended, _, _, rfl, hQ, ⟨_, rfl⟩, hW, hsame.mono h1 h2⟩
theorem Goes.retB (X : Stand p l e R s m args below meth c T locs cells slots) (hx : p.tables.exec = Jvm.exec) (hlk : meth.locks = false) {t : FieldType} (hret : meth.sig.returnType = some t) (ht : t = .boolean ∨ t = .byte ∨ t = .char ∨ t = .short) {pc : Nat} {Ls : Array Slot} {z : Int32} {rest : List Value} (hd : decode c.code pc = .ok (.ireturn, 1)) (hz : nar t z = z) (hQ : Q (some (.int z)) T.heap locs) (h1 : cells ≤ kc) (h2 : slots ≤ ks) : Goes p e below s Q kc ks (T.setTop (mkF m pc Ls (.int z :: rest))) := by
  obtain ⟨fs, hr, hrun, hended, hW, hsame⟩ := X.leave (v := some (.int z)) (fun h => by rw [hret] at h; cases h)
  exact ⟨_, _, retN X hx hret ht hd (by rw [hz]; exact hr), hrun, hended, _, _, rfl, hQ, ⟨_, rfl⟩, hW, hsame.mono h1 h2⟩
theorem Goes.retV (X : Stand p l e R s m args below meth c T locs cells slots) (hx : p.tables.exec = Jvm.exec) (hlk : meth.locks = false) (hret : meth.sig.returnType = none) {pc : Nat} {Ls : Array Slot} (hd : decode c.code pc = .ok (.return_, 1)) (hQ : Q none T.heap locs) (h1 : cells ≤ kc) (h2 : slots ≤ ks) : Goes p e below s Q kc ks (T.setTop (mkF m pc Ls [])) := by
  obtain ⟨fs, hr, hrun, hended, hW, hsame⟩ := X.leave (v := none) (fun _ => rfl)
  exact ⟨_, _, X.returnOut hx hret hd hr, hrun, hended, _, _, rfl, hQ, ⟨_, rfl⟩, hW, hsame.mono h1 h2⟩
end OwnGoes
theorem tltL {x y : Int64} (h : x < y) : ifCond.holds .lt (lcmpW x y) = true ∧ ifCond.holds .ge (lcmpW x y) = false ∧ ifCond.holds .gt (lcmpW y x) = true ∧ ifCond.holds .le (lcmpW y x) = false :=
  ⟨(if0 _ _).trans (tlt ((lw_lt x y).mpr h)).1, (if0 _ _).trans (tlt ((lw_lt x y).mpr h)).2.1, (if0 _ _).trans (tlt ((lw_gt y x).mpr h)).2.2.1, (if0 _ _).trans (tlt ((lw_gt y x).mpr h)).2.2.2⟩
theorem fltL {x y : Int64} (h : ¬ x < y) : ifCond.holds .lt (lcmpW x y) = false ∧ ifCond.holds .ge (lcmpW x y) = true ∧ ifCond.holds .gt (lcmpW y x) = false ∧ ifCond.holds .le (lcmpW y x) = true :=
  ⟨(if0 _ _).trans (flt fun q => h ((lw_lt x y).mp q)).1, (if0 _ _).trans (flt fun q => h ((lw_lt x y).mp q)).2.1, (if0 _ _).trans (flt fun q => h ((lw_gt y x).mp q)).2.2.1, (if0 _ _).trans (flt fun q => h ((lw_gt y x).mp q)).2.2.2⟩
theorem teqL {x y : Int64} (h : x = y) : ifCond.holds .eq (lcmpW x y) = true ∧ ifCond.holds .ne (lcmpW x y) = false :=
  ⟨(if0 _ _).trans (teq ((lw_eq x y).mpr h)).1, (if0 _ _).trans (teq ((lw_eq x y).mpr h)).2⟩
theorem feqL {x y : Int64} (h : ¬ x = y) : ifCond.holds .eq (lcmpW x y) = false ∧ ifCond.holds .ne (lcmpW x y) = true :=
  ⟨(if0 _ _).trans (feq fun q => h ((lw_eq x y).mp q)).1, (if0 _ _).trans (feq fun q => h ((lw_eq x y).mp q)).2⟩
def own_look {α : Type} (i : Nat) : List (Nat × α) → Option α
  | [] => none
  | (j, v) :: r => if i = j then some v else own_look i r
theorem own_look_mem {α : Type} {i : Nat} {v : α} : ∀ {L : List (Nat × α)}, own_look i L = some v → (i, v) ∈ L
  | [], h => by cases h
  | (j, w) :: r, h => by
    unfold own_look at h
    by_cases q : i = j
    · rw [if_pos q] at h; cases h; subst q; exact List.mem_cons_self
    · rw [if_neg q] at h; exact List.mem_cons_of_mem _ (own_look_mem h)
def own_pstep (ci : List (Nat × Int32)) (cl : List (Nat × Int64)) (i : Instr) (n : Nat) (g : JFrame) : Option JFrame :=
  match i with
  | .iload_n k => if n = 1 then (match g.locals[k.val]? with | some (.val (.int v)) => some { g with pc := g.pc + 1, stack := .int v :: g.stack } | _ => none) else none
  | .iload k => if n = 2 then (match g.locals[k]? with | some (.val (.int v)) => some { g with pc := g.pc + 2, stack := .int v :: g.stack } | _ => none) else none
  | .lload_n k => if n = 1 then (match g.locals[k.val]? with | some (.val (.long v)) => some { g with pc := g.pc + 1, stack := .long v :: g.stack } | _ => none) else none
  | .lload k => if n = 2 then (match g.locals[k]? with | some (.val (.long v)) => some { g with pc := g.pc + 2, stack := .long v :: g.stack } | _ => none) else none
  | .aload_n k => if n = 1 then (match g.locals[k.val]? with | some (.val v) => if v.isRef = true then some { g with pc := g.pc + 1, stack := v :: g.stack } else none | _ => none) else none
  | .aload k => if n = 2 then (match g.locals[k]? with | some (.val v) => if v.isRef = true then some { g with pc := g.pc + 2, stack := v :: g.stack } else none | _ => none) else none
  | .istore_n k => if n = 1 then (match g.stack with | .int x :: rest => (match storeLocals g.locals k.val (.int x) with | some l' => some { g with pc := g.pc + 1, stack := rest, locals := l' } | none => none) | _ => none) else none
  | .istore k => if n = 2 then (match g.stack with | .int x :: rest => (match storeLocals g.locals k (.int x) with | some l' => some { g with pc := g.pc + 2, stack := rest, locals := l' } | none => none) | _ => none) else none
  | .lstore_n k => if n = 1 then (match g.stack with | .long x :: rest => (match storeLocals g.locals k.val (.long x) with | some l' => some { g with pc := g.pc + 1, stack := rest, locals := l' } | none => none) | _ => none) else none
  | .lstore k => if n = 2 then (match g.stack with | .long x :: rest => (match storeLocals g.locals k (.long x) with | some l' => some { g with pc := g.pc + 2, stack := rest, locals := l' } | none => none) | _ => none) else none
  | .astore_n k => if n = 1 then (match g.stack with | x :: rest => (if x.isRef = true then (match storeLocals g.locals k.val x with | some l' => some { g with pc := g.pc + 1, stack := rest, locals := l' } | none => none) else none) | _ => none) else none
  | .astore k => if n = 2 then (match g.stack with | x :: rest => (if x.isRef = true then (match storeLocals g.locals k x with | some l' => some { g with pc := g.pc + 2, stack := rest, locals := l' } | none => none) else none) | _ => none) else none
  | .iconst i => if n = 1 then (some { g with pc := g.pc + 1, stack := .int (Int32.ofInt i) :: g.stack }) else none
  | .bipush i => if n = 2 then (some { g with pc := g.pc + 2, stack := .int (Int8.ofInt i).toInt32 :: g.stack }) else none
  | .sipush i => if n = 3 then (some { g with pc := g.pc + 3, stack := .int (Int16.ofInt i).toInt32 :: g.stack }) else none
  | .lconst k => if n = 1 then (some { g with pc := g.pc + 1, stack := .long (Int64.ofNat k) :: g.stack }) else none
  | .aconst_null => if n = 1 then (some { g with pc := g.pc + 1, stack := .null :: g.stack }) else none
  | .iadd => if n = 1 then (match g.stack with | .int y :: .int x :: rest => some { g with pc := g.pc + 1, stack := .int (x + y) :: rest } | _ => none) else none
  | .ladd => if n = 1 then (match g.stack with | .long y :: .long x :: rest => some { g with pc := g.pc + 1, stack := .long (x + y) :: rest } | _ => none) else none
  | .isub => if n = 1 then (match g.stack with | .int y :: .int x :: rest => some { g with pc := g.pc + 1, stack := .int (x - y) :: rest } | _ => none) else none
  | .lsub => if n = 1 then (match g.stack with | .long y :: .long x :: rest => some { g with pc := g.pc + 1, stack := .long (x - y) :: rest } | _ => none) else none
  | .imul => if n = 1 then (match g.stack with | .int y :: .int x :: rest => some { g with pc := g.pc + 1, stack := .int (x * y) :: rest } | _ => none) else none
  | .lmul => if n = 1 then (match g.stack with | .long y :: .long x :: rest => some { g with pc := g.pc + 1, stack := .long (x * y) :: rest } | _ => none) else none
  | .iand => if n = 1 then (match g.stack with | .int y :: .int x :: rest => some { g with pc := g.pc + 1, stack := .int (x &&& y) :: rest } | _ => none) else none
  | .land => if n = 1 then (match g.stack with | .long y :: .long x :: rest => some { g with pc := g.pc + 1, stack := .long (x &&& y) :: rest } | _ => none) else none
  | .ior => if n = 1 then (match g.stack with | .int y :: .int x :: rest => some { g with pc := g.pc + 1, stack := .int (x ||| y) :: rest } | _ => none) else none
  | .lor => if n = 1 then (match g.stack with | .long y :: .long x :: rest => some { g with pc := g.pc + 1, stack := .long (x ||| y) :: rest } | _ => none) else none
  | .ixor => if n = 1 then (match g.stack with | .int y :: .int x :: rest => some { g with pc := g.pc + 1, stack := .int (x ^^^ y) :: rest } | _ => none) else none
  | .lxor => if n = 1 then (match g.stack with | .long y :: .long x :: rest => some { g with pc := g.pc + 1, stack := .long (x ^^^ y) :: rest } | _ => none) else none
  | .ishl => if n = 1 then (match g.stack with | .int y :: .int x :: rest => some { g with pc := g.pc + 1, stack := .int (x <<< (y &&& 31)) :: rest } | _ => none) else none
  | .ishr => if n = 1 then (match g.stack with | .int y :: .int x :: rest => some { g with pc := g.pc + 1, stack := .int (x >>> (y &&& 31)) :: rest } | _ => none) else none
  | .iushr => if n = 1 then (match g.stack with | .int y :: .int x :: rest => some { g with pc := g.pc + 1, stack := .int ((x.toUInt32 >>> (y &&& 31).toUInt32).toInt32) :: rest } | _ => none) else none
  | .lshl => if n = 1 then (match g.stack with | .int y :: .long x :: rest => some { g with pc := g.pc + 1, stack := .long (x <<< (y &&& 0x3f).toInt64) :: rest } | _ => none) else none
  | .lshr => if n = 1 then (match g.stack with | .int y :: .long x :: rest => some { g with pc := g.pc + 1, stack := .long (x >>> (y &&& 0x3f).toInt64) :: rest } | _ => none) else none
  | .lushr => if n = 1 then (match g.stack with | .int y :: .long x :: rest => some { g with pc := g.pc + 1, stack := .long ((x.toUInt64 >>> (y &&& 0x3f).toInt64.toUInt64).toInt64) :: rest } | _ => none) else none
  | .lcmp => if n = 1 then (match g.stack with | .long y :: .long x :: rest => some { g with pc := g.pc + 1, stack := .int (if x > y then 1 else if x = y then 0 else -1) :: rest } | _ => none) else none
  | .ineg => if n = 1 then (match g.stack with | .int v :: rest => some { g with pc := g.pc + 1, stack := .int (-v) :: rest } | _ => none) else none
  | .lneg => if n = 1 then (match g.stack with | .long v :: rest => some { g with pc := g.pc + 1, stack := .long (-v) :: rest } | _ => none) else none
  | .i2l => if n = 1 then (match g.stack with | .int v :: rest => some { g with pc := g.pc + 1, stack := .long (v.toInt64) :: rest } | _ => none) else none
  | .l2i => if n = 1 then (match g.stack with | .long v :: rest => some { g with pc := g.pc + 1, stack := .int (v.toInt32) :: rest } | _ => none) else none
  | .i2b => if n = 1 then (match g.stack with | .int v :: rest => some { g with pc := g.pc + 1, stack := .int (v.toInt8.toInt32) :: rest } | _ => none) else none
  | .i2c => if n = 1 then (match g.stack with | .int v :: rest => some { g with pc := g.pc + 1, stack := .int (v.toUInt32.toUInt16.toUInt32.toInt32) :: rest } | _ => none) else none
  | .i2s => if n = 1 then (match g.stack with | .int v :: rest => some { g with pc := g.pc + 1, stack := .int (v.toInt16.toInt32) :: rest } | _ => none) else none
  | .iinc k cst => if n = 3 then (match g.locals[k]? with | some (.val (.int x)) => (match storeLocals g.locals k (.int (x + Int32.ofInt cst)) with | some l' => some { g with pc := g.pc + 3, locals := l' } | none => none) | _ => none) else none
  | .dup => if n = 1 then (match g.stack with | x :: rest => (if x.category = 1 then some { g with pc := g.pc + 1, stack := x :: x :: rest } else none) | _ => none) else none
  | .pop => if n = 1 then (match g.stack with | x :: rest => (if x.category = 1 then some { g with pc := g.pc + 1, stack := rest } else none) | _ => none) else none
  | .goto o => if n = 3 then (if 0 ≤ (g.pc : Int) + o then some { g with pc := ((g.pc : Int) + o).toNat } else none) else none
  | .ldc i => if n = 2 then (match own_look i ci with | some v => some { g with pc := g.pc + 2, stack := .int v :: g.stack } | none => none) else none
  | .ldc_w i => if n = 3 then (match own_look i ci with | some v => some { g with pc := g.pc + 3, stack := .int v :: g.stack } | none => none) else none
  | .ldc2_w i => if n = 3 then (match own_look i cl with | some v => some { g with pc := g.pc + 3, stack := .long v :: g.stack } | none => none) else none
  | .idiv => if n = 1 then (match g.stack with | .int y :: .int x :: rest => (if y = 0 then none else some { g with pc := g.pc + 1, stack := .int (x / y) :: rest }) | _ => none) else none
  | .irem => if n = 1 then (match g.stack with | .int y :: .int x :: rest => (if y = 0 then none else some { g with pc := g.pc + 1, stack := .int (x - (x / y) * y) :: rest }) | _ => none) else none
  | .ldiv => if n = 1 then (match g.stack with | .long y :: .long x :: rest => (if y = 0 then none else some { g with pc := g.pc + 1, stack := .long (x / y) :: rest }) | _ => none) else none
  | .lrem => if n = 1 then (match g.stack with | .long y :: .long x :: rest => (if y = 0 then none else some { g with pc := g.pc + 1, stack := .long (x - (x / y) * y) :: rest }) | _ => none) else none
  | _ => none
section OwnRun
variable {p : Program} {l : Launch} {e : Env} {R : Room} {s : State} {m : MethodId} {args : Array Value} {below : List Frame} {meth : Method} {c : Code} {T target : State} {locs : List Loc} {cells slots kc ks : Nat} {own : String} {ci : List (Nat × Int32)} {cl : List (Nat × Int64)} {Q : Option Value → Heap → List Loc → Prop}
set_option maxHeartbeats 4000000 in
theorem own_pstep_ok (X : Stand p l e R s m args below meth c T locs cells slots) (hx : p.tables.exec = Jvm.exec) (hown : s.vm.findClass own = some m.cls) (hci : ∀ i v, (i, v) ∈ ci → (Cond.constant own i v).before args s = true) (hcl : ∀ i v, (i, v) ∈ cl → (Cond.constantLong own i v).before args s = true)
    {g g' : JFrame} (hg : g.method = m) {i : Instr} {n : Nat} (hd : decode c.code g.pc = .ok (i, n)) (hp : own_pstep ci cl i n g = some g') : (∀ target, Steps p.tables e below (T.setTop g') target → Steps p.tables e below (T.setTop g) target) ∧ g'.method = m := by
  cases i
  all_goals first
    | (exact absurd hp (by intro q; cases q))
    | skip
  case iload_n k =>
    by_cases hn : n = 1
    · subst hn
      replace hp : (match g.locals[k.val]? with | some (.val (.int v)) => some { g with pc := g.pc + 1, stack := .int v :: g.stack } | _ => none) = some g' := hp
      split at hp
      · skip
        cases hp
        exact ⟨fun _ hr => XS.iloadN X.here hx hg hd (by assumption) hr, hg⟩
      · cases hp
    · exact absurd hp (by intro q; rw [show own_pstep ci cl (.iload_n k) n g = none from if_neg hn] at q; cases q)
  case iload k =>
    by_cases hn : n = 2
    · subst hn
      replace hp : (match g.locals[k]? with | some (.val (.int v)) => some { g with pc := g.pc + 2, stack := .int v :: g.stack } | _ => none) = some g' := hp
      split at hp
      · skip
        cases hp
        exact ⟨fun _ hr => XS.iload X.here hx hg hd (by assumption) hr, hg⟩
      · cases hp
    · exact absurd hp (by intro q; rw [show own_pstep ci cl (.iload k) n g = none from if_neg hn] at q; cases q)
  case lload_n k =>
    by_cases hn : n = 1
    · subst hn
      replace hp : (match g.locals[k.val]? with | some (.val (.long v)) => some { g with pc := g.pc + 1, stack := .long v :: g.stack } | _ => none) = some g' := hp
      split at hp
      · skip
        cases hp
        exact ⟨fun _ hr => XS.lloadN X.here hx hg hd (by assumption) hr, hg⟩
      · cases hp
    · exact absurd hp (by intro q; rw [show own_pstep ci cl (.lload_n k) n g = none from if_neg hn] at q; cases q)
  case lload k =>
    by_cases hn : n = 2
    · subst hn
      replace hp : (match g.locals[k]? with | some (.val (.long v)) => some { g with pc := g.pc + 2, stack := .long v :: g.stack } | _ => none) = some g' := hp
      split at hp
      · skip
        cases hp
        exact ⟨fun _ hr => XS.lload X.here hx hg hd (by assumption) hr, hg⟩
      · cases hp
    · exact absurd hp (by intro q; rw [show own_pstep ci cl (.lload k) n g = none from if_neg hn] at q; cases q)
  case aload_n k =>
    by_cases hn : n = 1
    · subst hn
      replace hp : (match g.locals[k.val]? with | some (.val v) => if v.isRef = true then some { g with pc := g.pc + 1, stack := v :: g.stack } else none | _ => none) = some g' := hp
      split at hp
      · skip
        split at hp
        · skip
          cases hp
          exact ⟨fun _ hr => XS.aloadN X.here hx hg hd (by assumption) (by assumption) hr, hg⟩
        · cases hp
      · cases hp
    · exact absurd hp (by intro q; rw [show own_pstep ci cl (.aload_n k) n g = none from if_neg hn] at q; cases q)
  case aload k =>
    by_cases hn : n = 2
    · subst hn
      replace hp : (match g.locals[k]? with | some (.val v) => if v.isRef = true then some { g with pc := g.pc + 2, stack := v :: g.stack } else none | _ => none) = some g' := hp
      split at hp
      · skip
        split at hp
        · skip
          cases hp
          exact ⟨fun _ hr => XS.aload X.here hx hg hd (by assumption) (by assumption) hr, hg⟩
        · cases hp
      · cases hp
    · exact absurd hp (by intro q; rw [show own_pstep ci cl (.aload k) n g = none from if_neg hn] at q; cases q)
  case istore_n k =>
    by_cases hn : n = 1
    · subst hn
      replace hp : (match g.stack with | .int x :: rest => (match storeLocals g.locals k.val (.int x) with | some l' => some { g with pc := g.pc + 1, stack := rest, locals := l' } | none => none) | _ => none) = some g' := hp
      split at hp
      · skip
        split at hp
        · skip
          cases hp
          exact ⟨fun _ hr => XS.istoreN X.here hx hg hd (by assumption) (by assumption) hr, hg⟩
        · cases hp
      · cases hp
    · exact absurd hp (by intro q; rw [show own_pstep ci cl (.istore_n k) n g = none from if_neg hn] at q; cases q)
  case istore k =>
    by_cases hn : n = 2
    · subst hn
      replace hp : (match g.stack with | .int x :: rest => (match storeLocals g.locals k (.int x) with | some l' => some { g with pc := g.pc + 2, stack := rest, locals := l' } | none => none) | _ => none) = some g' := hp
      split at hp
      · skip
        split at hp
        · skip
          cases hp
          exact ⟨fun _ hr => XS.istore X.here hx hg hd (by assumption) (by assumption) hr, hg⟩
        · cases hp
      · cases hp
    · exact absurd hp (by intro q; rw [show own_pstep ci cl (.istore k) n g = none from if_neg hn] at q; cases q)
  case lstore_n k =>
    by_cases hn : n = 1
    · subst hn
      replace hp : (match g.stack with | .long x :: rest => (match storeLocals g.locals k.val (.long x) with | some l' => some { g with pc := g.pc + 1, stack := rest, locals := l' } | none => none) | _ => none) = some g' := hp
      split at hp
      · skip
        split at hp
        · skip
          cases hp
          exact ⟨fun _ hr => XS.lstoreN X.here hx hg hd (by assumption) (by assumption) hr, hg⟩
        · cases hp
      · cases hp
    · exact absurd hp (by intro q; rw [show own_pstep ci cl (.lstore_n k) n g = none from if_neg hn] at q; cases q)
  case lstore k =>
    by_cases hn : n = 2
    · subst hn
      replace hp : (match g.stack with | .long x :: rest => (match storeLocals g.locals k (.long x) with | some l' => some { g with pc := g.pc + 2, stack := rest, locals := l' } | none => none) | _ => none) = some g' := hp
      split at hp
      · skip
        split at hp
        · skip
          cases hp
          exact ⟨fun _ hr => XS.lstore X.here hx hg hd (by assumption) (by assumption) hr, hg⟩
        · cases hp
      · cases hp
    · exact absurd hp (by intro q; rw [show own_pstep ci cl (.lstore k) n g = none from if_neg hn] at q; cases q)
  case astore_n k =>
    by_cases hn : n = 1
    · subst hn
      replace hp : (match g.stack with | x :: rest => (if x.isRef = true then (match storeLocals g.locals k.val x with | some l' => some { g with pc := g.pc + 1, stack := rest, locals := l' } | none => none) else none) | _ => none) = some g' := hp
      split at hp
      · skip
        split at hp
        · skip
          split at hp
          · skip
            cases hp
            exact ⟨fun _ hr => XS.astoreN X.here hx hg hd (by assumption) (by assumption) (by assumption) hr, hg⟩
          · cases hp
        · cases hp
      · cases hp
    · exact absurd hp (by intro q; rw [show own_pstep ci cl (.astore_n k) n g = none from if_neg hn] at q; cases q)
  case astore k =>
    by_cases hn : n = 2
    · subst hn
      replace hp : (match g.stack with | x :: rest => (if x.isRef = true then (match storeLocals g.locals k x with | some l' => some { g with pc := g.pc + 2, stack := rest, locals := l' } | none => none) else none) | _ => none) = some g' := hp
      split at hp
      · skip
        split at hp
        · skip
          split at hp
          · skip
            cases hp
            exact ⟨fun _ hr => XS.astore X.here hx hg hd (by assumption) (by assumption) (by assumption) hr, hg⟩
          · cases hp
        · cases hp
      · cases hp
    · exact absurd hp (by intro q; rw [show own_pstep ci cl (.astore k) n g = none from if_neg hn] at q; cases q)
  case iconst i =>
    by_cases hn : n = 1
    · subst hn
      replace hp : (some { g with pc := g.pc + 1, stack := .int (Int32.ofInt i) :: g.stack }) = some g' := hp
      cases hp
      exact ⟨fun _ hr => XS.iconst X.here hx hg hd hr, hg⟩
    · exact absurd hp (by intro q; rw [show own_pstep ci cl (.iconst i) n g = none from if_neg hn] at q; cases q)
  case bipush i =>
    by_cases hn : n = 2
    · subst hn
      replace hp : (some { g with pc := g.pc + 2, stack := .int (Int8.ofInt i).toInt32 :: g.stack }) = some g' := hp
      cases hp
      exact ⟨fun _ hr => XS.bipush X.here hx hg hd hr, hg⟩
    · exact absurd hp (by intro q; rw [show own_pstep ci cl (.bipush i) n g = none from if_neg hn] at q; cases q)
  case sipush i =>
    by_cases hn : n = 3
    · subst hn
      replace hp : (some { g with pc := g.pc + 3, stack := .int (Int16.ofInt i).toInt32 :: g.stack }) = some g' := hp
      cases hp
      exact ⟨fun _ hr => XS.sipush X.here hx hg hd hr, hg⟩
    · exact absurd hp (by intro q; rw [show own_pstep ci cl (.sipush i) n g = none from if_neg hn] at q; cases q)
  case lconst k =>
    by_cases hn : n = 1
    · subst hn
      replace hp : (some { g with pc := g.pc + 1, stack := .long (Int64.ofNat k) :: g.stack }) = some g' := hp
      cases hp
      exact ⟨fun _ hr => XS.lconst X.here hx hg hd hr, hg⟩
    · exact absurd hp (by intro q; rw [show own_pstep ci cl (.lconst k) n g = none from if_neg hn] at q; cases q)
  case aconst_null =>
    by_cases hn : n = 1
    · subst hn
      replace hp : (some { g with pc := g.pc + 1, stack := .null :: g.stack }) = some g' := hp
      cases hp
      exact ⟨fun _ hr => XS.aconstNull X.here hx hg hd hr, hg⟩
    · exact absurd hp (by intro q; rw [show own_pstep ci cl (.aconst_null) n g = none from if_neg hn] at q; cases q)
  case iadd =>
    by_cases hn : n = 1
    · subst hn
      replace hp : (match g.stack with | .int y :: .int x :: rest => some { g with pc := g.pc + 1, stack := .int (x + y) :: rest } | _ => none) = some g' := hp
      split at hp
      · skip
        cases hp
        exact ⟨fun _ hr => XS.iadd X.here hx hg hd (by assumption) hr, hg⟩
      · cases hp
    · exact absurd hp (by intro q; rw [show own_pstep ci cl (.iadd) n g = none from if_neg hn] at q; cases q)
  case ladd =>
    by_cases hn : n = 1
    · subst hn
      replace hp : (match g.stack with | .long y :: .long x :: rest => some { g with pc := g.pc + 1, stack := .long (x + y) :: rest } | _ => none) = some g' := hp
      split at hp
      · skip
        cases hp
        exact ⟨fun _ hr => XS.ladd X.here hx hg hd (by assumption) hr, hg⟩
      · cases hp
    · exact absurd hp (by intro q; rw [show own_pstep ci cl (.ladd) n g = none from if_neg hn] at q; cases q)
  case isub =>
    by_cases hn : n = 1
    · subst hn
      replace hp : (match g.stack with | .int y :: .int x :: rest => some { g with pc := g.pc + 1, stack := .int (x - y) :: rest } | _ => none) = some g' := hp
      split at hp
      · skip
        cases hp
        exact ⟨fun _ hr => XS.isub X.here hx hg hd (by assumption) hr, hg⟩
      · cases hp
    · exact absurd hp (by intro q; rw [show own_pstep ci cl (.isub) n g = none from if_neg hn] at q; cases q)
  case lsub =>
    by_cases hn : n = 1
    · subst hn
      replace hp : (match g.stack with | .long y :: .long x :: rest => some { g with pc := g.pc + 1, stack := .long (x - y) :: rest } | _ => none) = some g' := hp
      split at hp
      · skip
        cases hp
        exact ⟨fun _ hr => XS.lsub X.here hx hg hd (by assumption) hr, hg⟩
      · cases hp
    · exact absurd hp (by intro q; rw [show own_pstep ci cl (.lsub) n g = none from if_neg hn] at q; cases q)
  case imul =>
    by_cases hn : n = 1
    · subst hn
      replace hp : (match g.stack with | .int y :: .int x :: rest => some { g with pc := g.pc + 1, stack := .int (x * y) :: rest } | _ => none) = some g' := hp
      split at hp
      · skip
        cases hp
        exact ⟨fun _ hr => XS.imul X.here hx hg hd (by assumption) hr, hg⟩
      · cases hp
    · exact absurd hp (by intro q; rw [show own_pstep ci cl (.imul) n g = none from if_neg hn] at q; cases q)
  case lmul =>
    by_cases hn : n = 1
    · subst hn
      replace hp : (match g.stack with | .long y :: .long x :: rest => some { g with pc := g.pc + 1, stack := .long (x * y) :: rest } | _ => none) = some g' := hp
      split at hp
      · skip
        cases hp
        exact ⟨fun _ hr => XS.lmul X.here hx hg hd (by assumption) hr, hg⟩
      · cases hp
    · exact absurd hp (by intro q; rw [show own_pstep ci cl (.lmul) n g = none from if_neg hn] at q; cases q)
  case iand =>
    by_cases hn : n = 1
    · subst hn
      replace hp : (match g.stack with | .int y :: .int x :: rest => some { g with pc := g.pc + 1, stack := .int (x &&& y) :: rest } | _ => none) = some g' := hp
      split at hp
      · skip
        cases hp
        exact ⟨fun _ hr => XS.iand X.here hx hg hd (by assumption) hr, hg⟩
      · cases hp
    · exact absurd hp (by intro q; rw [show own_pstep ci cl (.iand) n g = none from if_neg hn] at q; cases q)
  case land =>
    by_cases hn : n = 1
    · subst hn
      replace hp : (match g.stack with | .long y :: .long x :: rest => some { g with pc := g.pc + 1, stack := .long (x &&& y) :: rest } | _ => none) = some g' := hp
      split at hp
      · skip
        cases hp
        exact ⟨fun _ hr => XS.land X.here hx hg hd (by assumption) hr, hg⟩
      · cases hp
    · exact absurd hp (by intro q; rw [show own_pstep ci cl (.land) n g = none from if_neg hn] at q; cases q)
  case ior =>
    by_cases hn : n = 1
    · subst hn
      replace hp : (match g.stack with | .int y :: .int x :: rest => some { g with pc := g.pc + 1, stack := .int (x ||| y) :: rest } | _ => none) = some g' := hp
      split at hp
      · skip
        cases hp
        exact ⟨fun _ hr => XS.ior X.here hx hg hd (by assumption) hr, hg⟩
      · cases hp
    · exact absurd hp (by intro q; rw [show own_pstep ci cl (.ior) n g = none from if_neg hn] at q; cases q)
  case lor =>
    by_cases hn : n = 1
    · subst hn
      replace hp : (match g.stack with | .long y :: .long x :: rest => some { g with pc := g.pc + 1, stack := .long (x ||| y) :: rest } | _ => none) = some g' := hp
      split at hp
      · skip
        cases hp
        exact ⟨fun _ hr => XS.lor X.here hx hg hd (by assumption) hr, hg⟩
      · cases hp
    · exact absurd hp (by intro q; rw [show own_pstep ci cl (.lor) n g = none from if_neg hn] at q; cases q)
  case ixor =>
    by_cases hn : n = 1
    · subst hn
      replace hp : (match g.stack with | .int y :: .int x :: rest => some { g with pc := g.pc + 1, stack := .int (x ^^^ y) :: rest } | _ => none) = some g' := hp
      split at hp
      · skip
        cases hp
        exact ⟨fun _ hr => XS.ixor X.here hx hg hd (by assumption) hr, hg⟩
      · cases hp
    · exact absurd hp (by intro q; rw [show own_pstep ci cl (.ixor) n g = none from if_neg hn] at q; cases q)
  case lxor =>
    by_cases hn : n = 1
    · subst hn
      replace hp : (match g.stack with | .long y :: .long x :: rest => some { g with pc := g.pc + 1, stack := .long (x ^^^ y) :: rest } | _ => none) = some g' := hp
      split at hp
      · skip
        cases hp
        exact ⟨fun _ hr => XS.lxor X.here hx hg hd (by assumption) hr, hg⟩
      · cases hp
    · exact absurd hp (by intro q; rw [show own_pstep ci cl (.lxor) n g = none from if_neg hn] at q; cases q)
  case ishl =>
    by_cases hn : n = 1
    · subst hn
      replace hp : (match g.stack with | .int y :: .int x :: rest => some { g with pc := g.pc + 1, stack := .int (x <<< (y &&& 31)) :: rest } | _ => none) = some g' := hp
      split at hp
      · skip
        cases hp
        exact ⟨fun _ hr => XS.ishl X.here hx hg hd (by assumption) hr, hg⟩
      · cases hp
    · exact absurd hp (by intro q; rw [show own_pstep ci cl (.ishl) n g = none from if_neg hn] at q; cases q)
  case ishr =>
    by_cases hn : n = 1
    · subst hn
      replace hp : (match g.stack with | .int y :: .int x :: rest => some { g with pc := g.pc + 1, stack := .int (x >>> (y &&& 31)) :: rest } | _ => none) = some g' := hp
      split at hp
      · skip
        cases hp
        exact ⟨fun _ hr => XS.ishr X.here hx hg hd (by assumption) hr, hg⟩
      · cases hp
    · exact absurd hp (by intro q; rw [show own_pstep ci cl (.ishr) n g = none from if_neg hn] at q; cases q)
  case iushr =>
    by_cases hn : n = 1
    · subst hn
      replace hp : (match g.stack with | .int y :: .int x :: rest => some { g with pc := g.pc + 1, stack := .int ((x.toUInt32 >>> (y &&& 31).toUInt32).toInt32) :: rest } | _ => none) = some g' := hp
      split at hp
      · skip
        cases hp
        exact ⟨fun _ hr => XS.iushr X.here hx hg hd (by assumption) hr, hg⟩
      · cases hp
    · exact absurd hp (by intro q; rw [show own_pstep ci cl (.iushr) n g = none from if_neg hn] at q; cases q)
  case lshl =>
    by_cases hn : n = 1
    · subst hn
      replace hp : (match g.stack with | .int y :: .long x :: rest => some { g with pc := g.pc + 1, stack := .long (x <<< (y &&& 0x3f).toInt64) :: rest } | _ => none) = some g' := hp
      split at hp
      · skip
        cases hp
        exact ⟨fun _ hr => XS.lshl X.here hx hg hd (by assumption) hr, hg⟩
      · cases hp
    · exact absurd hp (by intro q; rw [show own_pstep ci cl (.lshl) n g = none from if_neg hn] at q; cases q)
  case lshr =>
    by_cases hn : n = 1
    · subst hn
      replace hp : (match g.stack with | .int y :: .long x :: rest => some { g with pc := g.pc + 1, stack := .long (x >>> (y &&& 0x3f).toInt64) :: rest } | _ => none) = some g' := hp
      split at hp
      · skip
        cases hp
        exact ⟨fun _ hr => XS.lshr X.here hx hg hd (by assumption) hr, hg⟩
      · cases hp
    · exact absurd hp (by intro q; rw [show own_pstep ci cl (.lshr) n g = none from if_neg hn] at q; cases q)
  case lushr =>
    by_cases hn : n = 1
    · subst hn
      replace hp : (match g.stack with | .int y :: .long x :: rest => some { g with pc := g.pc + 1, stack := .long ((x.toUInt64 >>> (y &&& 0x3f).toInt64.toUInt64).toInt64) :: rest } | _ => none) = some g' := hp
      split at hp
      · skip
        cases hp
        exact ⟨fun _ hr => XS.lushr X.here hx hg hd (by assumption) hr, hg⟩
      · cases hp
    · exact absurd hp (by intro q; rw [show own_pstep ci cl (.lushr) n g = none from if_neg hn] at q; cases q)
  case lcmp =>
    by_cases hn : n = 1
    · subst hn
      replace hp : (match g.stack with | .long y :: .long x :: rest => some { g with pc := g.pc + 1, stack := .int (if x > y then 1 else if x = y then 0 else -1) :: rest } | _ => none) = some g' := hp
      split at hp
      · skip
        cases hp
        exact ⟨fun _ hr => XS.lcmp X.here hx hg hd (by assumption) hr, hg⟩
      · cases hp
    · exact absurd hp (by intro q; rw [show own_pstep ci cl (.lcmp) n g = none from if_neg hn] at q; cases q)
  case ineg =>
    by_cases hn : n = 1
    · subst hn
      replace hp : (match g.stack with | .int v :: rest => some { g with pc := g.pc + 1, stack := .int (-v) :: rest } | _ => none) = some g' := hp
      split at hp
      · skip
        cases hp
        exact ⟨fun _ hr => XS.ineg X.here hx hg hd (by assumption) hr, hg⟩
      · cases hp
    · exact absurd hp (by intro q; rw [show own_pstep ci cl (.ineg) n g = none from if_neg hn] at q; cases q)
  case lneg =>
    by_cases hn : n = 1
    · subst hn
      replace hp : (match g.stack with | .long v :: rest => some { g with pc := g.pc + 1, stack := .long (-v) :: rest } | _ => none) = some g' := hp
      split at hp
      · skip
        cases hp
        exact ⟨fun _ hr => XS.lneg X.here hx hg hd (by assumption) hr, hg⟩
      · cases hp
    · exact absurd hp (by intro q; rw [show own_pstep ci cl (.lneg) n g = none from if_neg hn] at q; cases q)
  case i2l =>
    by_cases hn : n = 1
    · subst hn
      replace hp : (match g.stack with | .int v :: rest => some { g with pc := g.pc + 1, stack := .long (v.toInt64) :: rest } | _ => none) = some g' := hp
      split at hp
      · skip
        cases hp
        exact ⟨fun _ hr => XS.i2l X.here hx hg hd (by assumption) hr, hg⟩
      · cases hp
    · exact absurd hp (by intro q; rw [show own_pstep ci cl (.i2l) n g = none from if_neg hn] at q; cases q)
  case l2i =>
    by_cases hn : n = 1
    · subst hn
      replace hp : (match g.stack with | .long v :: rest => some { g with pc := g.pc + 1, stack := .int (v.toInt32) :: rest } | _ => none) = some g' := hp
      split at hp
      · skip
        cases hp
        exact ⟨fun _ hr => XS.l2i X.here hx hg hd (by assumption) hr, hg⟩
      · cases hp
    · exact absurd hp (by intro q; rw [show own_pstep ci cl (.l2i) n g = none from if_neg hn] at q; cases q)
  case i2b =>
    by_cases hn : n = 1
    · subst hn
      replace hp : (match g.stack with | .int v :: rest => some { g with pc := g.pc + 1, stack := .int (v.toInt8.toInt32) :: rest } | _ => none) = some g' := hp
      split at hp
      · skip
        cases hp
        exact ⟨fun _ hr => XS.i2b X.here hx hg hd (by assumption) hr, hg⟩
      · cases hp
    · exact absurd hp (by intro q; rw [show own_pstep ci cl (.i2b) n g = none from if_neg hn] at q; cases q)
  case i2c =>
    by_cases hn : n = 1
    · subst hn
      replace hp : (match g.stack with | .int v :: rest => some { g with pc := g.pc + 1, stack := .int (v.toUInt32.toUInt16.toUInt32.toInt32) :: rest } | _ => none) = some g' := hp
      split at hp
      · skip
        cases hp
        exact ⟨fun _ hr => XS.i2c X.here hx hg hd (by assumption) hr, hg⟩
      · cases hp
    · exact absurd hp (by intro q; rw [show own_pstep ci cl (.i2c) n g = none from if_neg hn] at q; cases q)
  case i2s =>
    by_cases hn : n = 1
    · subst hn
      replace hp : (match g.stack with | .int v :: rest => some { g with pc := g.pc + 1, stack := .int (v.toInt16.toInt32) :: rest } | _ => none) = some g' := hp
      split at hp
      · skip
        cases hp
        exact ⟨fun _ hr => XS.i2s X.here hx hg hd (by assumption) hr, hg⟩
      · cases hp
    · exact absurd hp (by intro q; rw [show own_pstep ci cl (.i2s) n g = none from if_neg hn] at q; cases q)
  case iinc k cst =>
    by_cases hn : n = 3
    · subst hn
      replace hp : (match g.locals[k]? with | some (.val (.int x)) => (match storeLocals g.locals k (.int (x + Int32.ofInt cst)) with | some l' => some { g with pc := g.pc + 3, locals := l' } | none => none) | _ => none) = some g' := hp
      split at hp
      · skip
        split at hp
        · skip
          cases hp
          exact ⟨fun _ hr => XS.iinc X.here hx hg hd (by assumption) (by assumption) hr, hg⟩
        · cases hp
      · cases hp
    · exact absurd hp (by intro q; rw [show own_pstep ci cl (.iinc k cst) n g = none from if_neg hn] at q; cases q)
  case dup =>
    by_cases hn : n = 1
    · subst hn
      replace hp : (match g.stack with | x :: rest => (if x.category = 1 then some { g with pc := g.pc + 1, stack := x :: x :: rest } else none) | _ => none) = some g' := hp
      split at hp
      · skip
        split at hp
        · skip
          cases hp
          exact ⟨fun _ hr => XS.dup X.here hx hg hd (by assumption) (by assumption) hr, hg⟩
        · cases hp
      · cases hp
    · exact absurd hp (by intro q; rw [show own_pstep ci cl (.dup) n g = none from if_neg hn] at q; cases q)
  case pop =>
    by_cases hn : n = 1
    · subst hn
      replace hp : (match g.stack with | x :: rest => (if x.category = 1 then some { g with pc := g.pc + 1, stack := rest } else none) | _ => none) = some g' := hp
      split at hp
      · skip
        split at hp
        · skip
          cases hp
          exact ⟨fun _ hr => XS.pop X.here hx hg hd (by assumption) (by assumption) hr, hg⟩
        · cases hp
      · cases hp
    · exact absurd hp (by intro q; rw [show own_pstep ci cl (.pop) n g = none from if_neg hn] at q; cases q)
  case goto o =>
    by_cases hn : n = 3
    · subst hn
      replace hp : (if 0 ≤ (g.pc : Int) + o then some { g with pc := ((g.pc : Int) + o).toNat } else none) = some g' := hp
      split at hp
      · skip
        cases hp
        exact ⟨fun _ hr => XS.goto X.here hx hg rfl hd (by assumption) rfl hr, hg⟩
      · cases hp
    · exact absurd hp (by intro q; rw [show own_pstep ci cl (.goto o) n g = none from if_neg hn] at q; cases q)
  case ldc i =>
    by_cases hn : n = 2
    · subst hn
      replace hp : (match own_look i ci with | some v => some { g with pc := g.pc + 2, stack := .int v :: g.stack } | none => none) = some g' := hp
      split at hp
      · skip
        cases hp
        exact ⟨fun _ hr => X.ldcInt hx hown (hci _ _ (own_look_mem (by assumption))) hg hd _ hr, hg⟩
      · cases hp
    · exact absurd hp (by intro q; rw [show own_pstep ci cl (.ldc i) n g = none from if_neg hn] at q; cases q)
  case ldc_w i =>
    by_cases hn : n = 3
    · subst hn
      replace hp : (match own_look i ci with | some v => some { g with pc := g.pc + 3, stack := .int v :: g.stack } | none => none) = some g' := hp
      split at hp
      · skip
        cases hp
        exact ⟨fun _ hr => X.ldcwInt hx hown (hci _ _ (own_look_mem (by assumption))) hg hd _ hr, hg⟩
      · cases hp
    · exact absurd hp (by intro q; rw [show own_pstep ci cl (.ldc_w i) n g = none from if_neg hn] at q; cases q)
  case ldc2_w i =>
    by_cases hn : n = 3
    · subst hn
      replace hp : (match own_look i cl with | some v => some { g with pc := g.pc + 3, stack := .long v :: g.stack } | none => none) = some g' := hp
      split at hp
      · skip
        cases hp
        exact ⟨fun _ hr => X.ldc2Long hx hown (hcl _ _ (own_look_mem (by assumption))) hg hd _ hr, hg⟩
      · cases hp
    · exact absurd hp (by intro q; rw [show own_pstep ci cl (.ldc2_w i) n g = none from if_neg hn] at q; cases q)
  case idiv =>
    by_cases hn : n = 1
    · subst hn
      replace hp : (match g.stack with | .int y :: .int x :: rest => (if y = 0 then none else some { g with pc := g.pc + 1, stack := .int (x / y) :: rest }) | _ => none) = some g' := hp
      split at hp
      · skip
        split at hp
        · cases hp
        · cases hp; exact ⟨fun _ hr => XS.idiv X.here hx hg hd (by assumption) (by assumption) hr, hg⟩
      · cases hp
    · exact absurd hp (by intro q; rw [show own_pstep ci cl (.idiv) n g = none from if_neg hn] at q; cases q)
  case irem =>
    by_cases hn : n = 1
    · subst hn
      replace hp : (match g.stack with | .int y :: .int x :: rest => (if y = 0 then none else some { g with pc := g.pc + 1, stack := .int (x - (x / y) * y) :: rest }) | _ => none) = some g' := hp
      split at hp
      · skip
        split at hp
        · cases hp
        · cases hp; exact ⟨fun _ hr => XS.irem X.here hx hg hd (by assumption) (by assumption) hr, hg⟩
      · cases hp
    · exact absurd hp (by intro q; rw [show own_pstep ci cl (.irem) n g = none from if_neg hn] at q; cases q)
  case ldiv =>
    by_cases hn : n = 1
    · subst hn
      replace hp : (match g.stack with | .long y :: .long x :: rest => (if y = 0 then none else some { g with pc := g.pc + 1, stack := .long (x / y) :: rest }) | _ => none) = some g' := hp
      split at hp
      · skip
        split at hp
        · cases hp
        · cases hp; exact ⟨fun _ hr => XS.ldiv X.here hx hg hd (by assumption) (by assumption) hr, hg⟩
      · cases hp
    · exact absurd hp (by intro q; rw [show own_pstep ci cl (.ldiv) n g = none from if_neg hn] at q; cases q)
  case lrem =>
    by_cases hn : n = 1
    · subst hn
      replace hp : (match g.stack with | .long y :: .long x :: rest => (if y = 0 then none else some { g with pc := g.pc + 1, stack := .long (x - (x / y) * y) :: rest }) | _ => none) = some g' := hp
      split at hp
      · skip
        split at hp
        · cases hp
        · cases hp; exact ⟨fun _ hr => XS.lrem X.here hx hg hd (by assumption) (by assumption) hr, hg⟩
      · cases hp
    · exact absurd hp (by intro q; rw [show own_pstep ci cl (.lrem) n g = none from if_neg hn] at q; cases q)
def own_decs (code : ByteArray) (L : List (Nat × Instr × Nat)) : Bool := L.all fun q => decide (decode code q.1 = .ok (q.2.1, q.2.2))
def own_prun (ci : List (Nat × Int32)) (cl : List (Nat × Int64)) : List (Nat × Instr × Nat) → JFrame → Option JFrame
  | [], g => some g
  | (pc, i, n) :: r, g => if g.pc = pc then (match own_pstep ci cl i n g with | some g' => own_prun ci cl r g' | none => none) else none
theorem own_prun_ok (X : Stand p l e R s m args below meth c T locs cells slots) (hx : p.tables.exec = Jvm.exec) (hown : s.vm.findClass own = some m.cls) (hci : ∀ i v, (i, v) ∈ ci → (Cond.constant own i v).before args s = true) (hcl : ∀ i v, (i, v) ∈ cl → (Cond.constantLong own i v).before args s = true) {code : ByteArray} (hby : c.code = code) :
    ∀ (L : List (Nat × Instr × Nat)) (g g' : JFrame), g.method = m → own_decs code L = true → own_prun ci cl L g = some g' → Steps p.tables e below (T.setTop g') target → Steps p.tables e below (T.setTop g) target := by
  intro L
  induction L with
  | nil => intro g g' _ _ hp hr; cases hp; exact hr
  | cons q r ih =>
    intro g g' hg hd hp hr
    obtain ⟨pc, i, n⟩ := q
    have hd' : decide (decode code pc = .ok (i, n)) = true ∧ own_decs code r = true := by
      have : (decide (decode code pc = .ok (i, n)) && own_decs code r) = true := hd
      simpa using this
    replace hp : (if g.pc = pc then (match own_pstep ci cl i n g with | some g' => own_prun ci cl r g' | none => none) else none) = some g' := hp
    by_cases hpc : g.pc = pc
    · rw [if_pos hpc] at hp
      cases hs : own_pstep ci cl i n g with
      | none => rw [hs] at hp; cases hp
      | some g1 =>
        rw [hs] at hp
        have q := own_pstep_ok X hx hown hci hcl hg (i := i) (n := n) (by rw [hby, hpc]; exact of_decide_eq_true hd'.1) hs
        exact q.1 _ (ih g1 g' q.2 hd'.2 hp hr)
    · rw [if_neg hpc] at hp; cases hp
theorem Goes.run (X : Stand p l e R s m args below meth c T locs cells slots) (hx : p.tables.exec = Jvm.exec) (hown : s.vm.findClass own = some m.cls) (hci : ∀ i v, (i, v) ∈ ci → (Cond.constant own i v).before args s = true) (hcl : ∀ i v, (i, v) ∈ cl → (Cond.constantLong own i v).before args s = true) {code : ByteArray} (hby : c.code = code)
    {L : List (Nat × Instr × Nat)} (hd : own_decs code L = true) {g g' : JFrame} (hg : g.method = m) (hp : own_prun ci cl L g = some g') (h : Goes p e below s Q kc ks (T.setTop g')) : Goes p e below s Q kc ks (T.setTop g) :=
  Goes.st (fun _ k => own_prun_ok X hx hown hci hcl hby L g g' hg hd hp k) h
theorem own_ci0 {α : Type} {P : Nat → α → Prop} : ∀ i v, (i, v) ∈ ([] : List (Nat × α)) → P i v := fun _ _ q => nomatch q
theorem own_ciS {α : Type} {P : Nat → α → Prop} {j : Nat} {w : α} {L : List (Nat × α)} (h : P j w) (r : ∀ i v, (i, v) ∈ L → P i v) : ∀ i v, (i, v) ∈ (j, w) :: L → P i v := fun i v q => (List.mem_cons.mp q).elim (fun z => by cases z; exact h) (r i v)
end OwnRun
theorem own_rem32 (x y : Int32) : (x - (x / y) * y).toInt = x.toInt.tmod y.toInt := by
  have a := (x % y).toInt_lt; have b := (x % y).le_toInt
  rw [Int32.toInt_mod] at a b
  rw [Int32.toInt_sub, Int32.toInt_mul, Int32.toInt_div, Int.bmod_mul_bmod, Int.sub_bmod_bmod, Int.mul_comm, ← Int.tmod_def]
  exact Jvm.Kit.bmod32 b a
section OwnNums
variable {x y : Int64} {u v : Int32} {a b : Int}
theorem own_r32 (hx : u.toInt = a) (hy : v.toInt = b) (h0 : 0 ≤ a) : (u - (u / v) * v).toInt = a % b := by subst hx hy; rw [own_rem32, Int.tmod_eq_emod_of_nonneg h0]
theorem own_r64 (hx : x.toInt = a) (hy : y.toInt = b) (h0 : 0 ≤ a) : (x - (x / y) * y).toInt = a % b := by subst hx hy; rw [Jvm.Kit.i64_rem, Int.tmod_eq_emod_of_nonneg h0]
theorem own_mul64 (hx : x.toInt = a) (hy : y.toInt = b) (h1 : -2 ^ 63 ≤ a * b) (h2 : a * b < 2 ^ 63) : (x * y).toInt = a * b := by subst hx hy; exact Jvm.Kit.i64_mul h1 h2
theorem own_mul32 (hx : u.toInt = a) (hy : v.toInt = b) (h1 : -2 ^ 31 ≤ a * b) (h2 : a * b < 2 ^ 31) : (u * v).toInt = a * b := by subst hx hy; exact Jvm.Kit.i32_mul h1 h2
theorem own_add64 (hx : x.toInt = a) (hy : y.toInt = b) (h1 : -2 ^ 63 ≤ a + b) (h2 : a + b < 2 ^ 63) : (x + y).toInt = a + b := by subst hx hy; exact Jvm.Kit.i64_add h1 h2
theorem own_add32 (hx : u.toInt = a) (hy : v.toInt = b) (h1 : -2 ^ 31 ≤ a + b) (h2 : a + b < 2 ^ 31) : (u + v).toInt = a + b := by subst hx hy; exact Jvm.Kit.i32_add h1 h2
theorem own_sub64 (hx : x.toInt = a) (hy : y.toInt = b) (h1 : -2 ^ 63 ≤ a - b) (h2 : a - b < 2 ^ 63) : (x - y).toInt = a - b := by subst hx hy; exact Jvm.Kit.i64_sub h1 h2
theorem own_sub32 (hx : u.toInt = a) (hy : v.toInt = b) (h1 : -2 ^ 31 ≤ a - b) (h2 : a - b < 2 ^ 31) : (u - v).toInt = a - b := by subst hx hy; exact Jvm.Kit.i32_sub h1 h2
theorem own_i2l (hx : u.toInt = a) : u.toInt64.toInt = a := by subst hx; exact Jvm.Kit.i64_of_i32 u
theorem own_lt64 (hx : x.toInt = a) (hy : y.toInt = b) : x < y ↔ a < b := by rw [Int64.lt_iff_toInt_lt, hx, hy]
theorem own_lt32 (hx : u.toInt = a) (hy : v.toInt = b) : u < v ↔ a < b := by rw [Int32.lt_iff_toInt_lt, hx, hy]
theorem own_eq64 (hx : x.toInt = a) (hy : y.toInt = b) : x = y ↔ a = b := by rw [← Int64.toInt_inj, hx, hy]
theorem own_eq32 (hx : u.toInt = a) (hy : v.toInt = b) : u = v ↔ a = b := by rw [← Int32.toInt_inj, hx, hy]
theorem own_m32 (u : Int32) (m : Int32) {k : Nat} (hk : k < 32) (hm : m.toBitVec.toNat = 2 ^ k - 1) : ∃ a : Int, (u &&& m).toInt = a ∧ 0 ≤ a ∧ a < 2 ^ k ∧ a = u.toInt % 2 ^ k := by
  refine ⟨_, Jvm.Kit.i32_mask u m hk hm, Int.emod_nonneg _ (Int.ne_of_gt (Int.pow_pos (by decide))), Int.emod_lt_of_pos _ (Int.pow_pos (by decide)), rfl⟩
theorem own_m64 (x : Int64) (m : Int64) {k : Nat} (hk : k < 64) (hm : m.toBitVec.toNat = 2 ^ k - 1) : ∃ a : Int, (x &&& m).toInt = a ∧ 0 ≤ a ∧ a < 2 ^ k ∧ a = x.toInt % 2 ^ k := by
  refine ⟨_, Jvm.Kit.i64_mask x m hk hm, Int.emod_nonneg _ (Int.ne_of_gt (Int.pow_pos (by decide))), Int.emod_lt_of_pos _ (Int.pow_pos (by decide)), rfl⟩
theorem own_nm {P : Int → Prop} {z : Int} (h : P z) : ∃ a, a = z ∧ P a := ⟨z, rfl, h⟩
end OwnNums
theorem own_nat32 {u : Int32} {a : Int} (hu : u.toInt = a) (h0 : 0 ≤ a) {N : Nat} (h1 : a < N) : ∃ n : Nat, n < N ∧ u = Int32.ofNat n ∧ a = (n : Int) := by
  have q := u.toInt_lt
  refine ⟨a.toNat, by omega, ?_, by omega⟩
  apply Int32.toInt_inj.mp
  rw [Int32.toInt_ofNat_of_lt (by omega), hu]; omega
theorem own_bv64 {x : Int64} {a : Int} (hx : x.toInt = a) (h0 : 0 ≤ a) : (x.toBitVec.toNat : Int) = a := by
  have e : x.toInt = x.toBitVec.toInt := rfl
  have hb := x.toBitVec.isLt
  rw [e, BitVec.toInt_eq_toNat_cond] at hx
  split at hx <;> omega
theorem own_bv32 {x : Int32} {a : Int} (hx : x.toInt = a) (h0 : 0 ≤ a) : (x.toBitVec.toNat : Int) = a := by
  have e : x.toInt = x.toBitVec.toInt := rfl
  have hb := x.toBitVec.isLt
  rw [e, BitVec.toInt_eq_toNat_cond] at hx
  split at hx <;> omega
theorem own_shn (y : Int32) : ((y &&& 0x3f).toInt64.toUInt64).toNat < 64 := by
  obtain ⟨a, h1, h2, h3, -⟩ := own_m32 y (0x3f : Int32) (k := 6) (by decide) (by decide)
  have h4 := own_bv64 (own_i2l h1) h2
  have e : ((y &&& 0x3f).toInt64.toUInt64).toNat = (y &&& 0x3f).toInt64.toBitVec.toNat := rfl
  rw [e]
  omega
theorem own_ushr0 {x : Int64} {a : Int} (hx : x.toInt = a) (h0 : 0 ≤ a) (y : Int32) : ∃ b : Int, ((x.toUInt64 >>> (y &&& 0x3f).toInt64.toUInt64).toInt64).toInt = b ∧ 0 ≤ b ∧ b ≤ a := by
  refine ⟨_, Jvm.Kit.i64_lushr (by rw [Jvm.Kit.i64_nonneg, hx]; exact h0) rfl (own_shn y), ?_, ?_⟩
  · rw [hx]; exact Int.ediv_nonneg h0 (Int.le_of_lt (Int.pow_pos (by decide)))
  · rw [hx]; exact Int.ediv_le_self _ h0
theorem own_ushrk {x : Int64} {a : Int} (hx : x.toInt = a) (h0 : 0 ≤ a) {n : UInt64} {k : Nat} (hn : n.toNat = k) (hk : k < 64) {d : Int} (hd : (2 : Int) ^ k = d) : ((x.toUInt64 >>> n).toInt64).toInt = a / d := by
  rw [Jvm.Kit.i64_lushr (by rw [Jvm.Kit.i64_nonneg, hx]; exact h0) hn hk, hx, hd]
theorem own_ofbv32 {x : Int32} (h : x.toBitVec.toNat < 2 ^ 31) : x.toInt = (x.toBitVec.toNat : Int) := by
  have e : x.toInt = x.toBitVec.toInt := rfl
  rw [e, BitVec.toInt_eq_toNat_cond, if_pos (by omega)]
theorem own_xor32 {x y : Int32} {a b : Int} (hx : x.toInt = a) (hy : y.toInt = b) (h0 : 0 ≤ a) (h1 : 0 ≤ b) : ∃ c : Int, (x ^^^ y).toInt = c ∧ 0 ≤ c := by
  have p := own_bv32 hx h0; have q := own_bv32 hy h1
  have r := x.toInt_lt; have s := y.toInt_lt
  have e : (x ^^^ y).toBitVec.toNat = x.toBitVec.toNat ^^^ y.toBitVec.toNat := by simp [Int32.toBitVec_xor, BitVec.toNat_xor]
  have l : (x ^^^ y).toBitVec.toNat < 2 ^ 31 := by rw [e]; exact Nat.xor_lt_two_pow (by omega) (by omega)
  exact ⟨_, own_ofbv32 l, Int.natCast_nonneg _⟩
theorem d1_1 : decode prog_6_method_1_code 1 = .ok (.invokespecial 1, 3) := by decide +kernel
theorem d1_8 : decode prog_6_method_1_code 8 = .ok (.newarray .byte, 2) := by decide +kernel
theorem d1_10 : decode prog_6_method_1_code 10 = .ok (.putfield 9, 3) := by decide +kernel
theorem d1_13 : decode prog_6_method_1_code 13 = .ok (.return_, 1) := by decide +kernel
theorem pn1 : plainName "com/example/upcaster/upcaster/io/BinaryEncoder" = true := by first | (simp [plainName, overriddenIn]; done) | decide +kernel
theorem ef1 (m : MethodId) (x0 : Addr) : entryFrame m #[(.ref x0)] 1 = (mkF m 0 #[rv x0] []) := by first | (simp [entryFrame, mkF, argsToLocals, Value.category]; done) | rfl
def Q1 (Z : State) (x0 : Addr) (h0 : Heap) (n0 : Nat) (v : Option Value) (h : Heap) (L : List Loc) : Prop := ∃ (b : Addr) (k : ClassId), v = none ∧ Fr n0 L ∧ Keep h0 h [x0] ∧ h0.size ≤ b ∧ Exa Z h b "[B" ∧ Arv Z h b k .byte (256 : Int32) [(.int (0 : Int32)), (.int (0 : Int32)), (.int (0 : Int32)), (.int (0 : Int32)), (.int (0 : Int32)), (.int (0 : Int32)), (.int (0 : Int32)), (.int (0 : Int32))] (.int (0 : Int32)) ∧ Exa Z h x0 "com/example/upcaster/upcaster/io/BinaryEncoder" ∧ Fld Z h x0 "com/example/upcaster/upcaster/io/BinaryEncoder" "buffer" "[B" (.ref b) ∧ Fld Z h x0 "com/example/upcaster/upcaster/io/BinaryEncoder" "size" "I" (.int (0 : Int32))
set_option maxRecDepth 65536 in
set_option maxHeartbeats 40000000 in
theorem rm1 (l : Launch) (Z : State) (a0 : Array Value) (hw : ∀ d ∈ tables_1, d.before a0 Z = true) (ws : List Jvm.Cond) (x0 : Addr) (h0 : Heap) (n0 : Nat) (Z0 : n0 ≤ h0.size) (E_x0 : Exa Z h0 x0 "com/example/upcaster/upcaster/io/BinaryEncoder") (F_buffer_x0 : Fld Z h0 x0 "com/example/upcaster/upcaster/io/BinaryEncoder" "buffer" "[B" .null) (F_size_x0 : Fld Z h0 x0 "com/example/upcaster/upcaster/io/BinaryEncoder" "size" "I" (.int (0 : Int32))) (g_x0 : n0 ≤ x0) :
    MetFree l ym0 (head1 (Jvm.Cond.code ym0 prog_6_method_1_code 1 none :: ws) ({ frames := 1, cells := 1, slots := 256, locals := 12 } : Room)) (fun a U => a = #[(.ref x0)] ∧ Z.Warmed39 U.vm ∧ U.heap = h0) (fun _ _ _ _ _ => True) (fun _ U o U' => ∃ v L, o = .returned v ∧ (Q1 Z x0 h0 n0) v U'.heap L ∧ FrameEnd U o U' L ({ frames := 1, cells := 1, slots := 256, locals := 12 } : Room).cells ({ frames := 1, cells := 1, slots := 256, locals := 12 } : Room).slots) := by
  refine MetFree.of_bodySF (plainFor_of_name pn1) hisR ?_
  intro p e s m args below meth c s₁ Bd hml0 hP hK
  obtain ⟨rfl, hZ, hh⟩ := hP
  have hx := Bd.exec
  have hby := Bd.bytes
  have hml : c.maxLocals = 1 := hml0
  have hlk : meth.locks = false := BodyLoose.notSynchronized Bd
  have hown : s.vm.findClass "com/example/upcaster/upcaster/io/BinaryEncoder" = some m.cls := findClass_of_methodNamed Bd.named
  have hnm := (name_of_methodNamed Bd.named Bd.method).1
  have w_0 := hw _ (List.mem_of_getElem? (i := 0) rfl)
  have w_2 := hw _ (List.mem_of_getElem? (i := 2) rfl)
  have w_7 := hw _ (List.mem_of_getElem? (i := 7) rfl)
  have w_8 := hw _ (List.mem_of_getElem? (i := 8) rfl)
  have w_9 := hw _ (List.mem_of_getElem? (i := 9) rfl)
  have w_10 := hw _ (List.mem_of_getElem? (i := 10) rfl)
  have w_11 := hw _ (List.mem_of_getElem? (i := 11) rfl)
  have w_22 := hw _ (List.mem_of_getElem? (i := 22) rfl)
  have w_69 := hw _ (List.mem_of_getElem? (i := 69) rfl)
  have hci : ∀ i v, (i, v) ∈ ([(134, 2147483639)] : List (Nat × Int32)) → (Jvm.Cond.constant "com/example/upcaster/upcaster/io/BinaryEncoder" i v).before #[(.ref x0)] s = true := (own_ciS (mvT hZ w_69) own_ci0)
  have hcl : ∀ i v, (i, v) ∈ ([] : List (Nat × Int64)) → (Jvm.Cond.constantLong "com/example/upcaster/upcaster/io/BinaryEncoder" i v).before #[(.ref x0)] s = true := own_ci0
  have X0 : Stand p l e ({ frames := 1, cells := 1, slots := 256, locals := 12 } : Room) s m #[(.ref x0)] below meth c s₁ [] 0 0 := Stand.of_body Bd
  have e0 : s₁.heap = h0 := by rw [← hh, Bd.state]; rfl
  have N0 := Fr.nil n0
  show Goes p e below s (Q1 Z x0 h0 n0) ({ frames := 1, cells := 1, slots := 256, locals := 12 } : Room).cells ({ frames := 1, cells := 1, slots := 256, locals := 12 } : Room).slots (s₁.setTop (entryFrame m #[(.ref x0)] 1))
  refine Goes.cast (ef1 m x0) ?_
  have K0 : Keep h0 h0 [x0] := Keep.refl h0 _
  refine Goes.run X0 hx hown hci hcl hby (L := [(0, .aload_n 0, 1)]) (by decide +kernel) rfl (g' := (mkF m 1 #[rv x0] [(.ref x0)])) rfl ?_
  obtain ⟨T1, X1, e1, st1⟩ := initO X0 hx hZ hown w_7 w_8 w_9 e0 (g := (mkF m 1 #[rv x0] [(.ref x0)])) rfl (by rw [hml]; rfl) rfl (hb hby d1_1) (by decide) (W := 0) (by show 2 * 0 + _ ≤ _; exact Nat.le_of_eq rfl) (by decide)
  refine Goes.st (B := T1.setTop (mkF m 4 #[rv x0] [])) st1 ?_
  refine Goes.run X1 hx hown hci hcl hby (L := [(4, .aload_n 0, 1), (5, .sipush 256, 3)]) (by decide +kernel) rfl (g' := (mkF m 8 #[rv x0] [(.int (256 : Int32)), (.ref x0)])) rfl ?_
  obtain ⟨T2, h2, k2, X2, e2, E2, A2, B2, st2⟩ := newPE X1 hx hZ (aty := .byte) w_0 e1 (g := (mkF m 8 #[rv x0] [(.int (256 : Int32)), (.ref x0)])) rfl (hb hby d1_8) rfl (by decide) (cap := 256) (by decide) (by decide) (by decide) (by decide) (ad := "[B") (by decide)
  obtain ⟨b2, g2⟩ : ∃ z, z = h0.size := ⟨_, rfl⟩
  rw [← g2] at A2 B2 st2
  have ne_x0_b2 : x0 ≠ b2 := Nat.ne_of_lt (Nat.lt_of_lt_of_le E_x0.lt (Nat.le_of_eq g2.symm))
  have g_b2 : n0 ≤ b2 := Nat.le_trans Z0 (Nat.le_of_eq g2.symm)
  have sz_b2 : h0.size ≤ b2 := Nat.le_trans K0.1 (Nat.le_of_eq g2.symm)
  have E_x0 := E_x0.ext E2
  have F_buffer_x0 := F_buffer_x0.ext E2
  have F_size_x0 := F_size_x0.ext E2
  have Zn2 : n0 ≤ h2.size := Nat.le_trans Z0 E2.1
  have K2 := K0.ext E2
  have E_b2 : Exa Z h2 b2 "[B" := B2
  have V_b2 : Arv Z h2 b2 k2 .byte (256 : Int32) [(.int (0 : Int32)), (.int (0 : Int32)), (.int (0 : Int32)), (.int (0 : Int32)), (.int (0 : Int32)), (.int (0 : Int32)), (.int (0 : Int32)), (.int (0 : Int32))] (.int (0 : Int32)) := (Arv.new A2 (by decide)).pad (pad_rep [] (.int (0 : Int32)) 8)
  refine Goes.st (B := T2.setTop (mkF m 10 #[rv x0] [(.ref b2), (.ref x0)])) st2 ?_
  obtain ⟨T3, h3, X3, e3, W3, st3⟩ := putF X2 hx hZ hown (host := "") (Or.inl w_10) Via.refl e2 F_buffer_x0 E_x0 (Or.inl w_11) w_2 (ty := (.array .byte)) (by decide) rfl rfl (g := (mkF m 10 #[rv x0] [(.ref b2), (.ref x0)])) rfl rfl (hb hby d1_10)
  have E_x0 := E_x0.wr W3
  have F_buffer_x0 : Fld Z h3 x0 "com/example/upcaster/upcaster/io/BinaryEncoder" "buffer" "[B" (.ref b2) := F_buffer_x0.same W3
  have F_size_x0 := F_size_x0.other W3 (Or.inr (slot_ne (Or.inl w_22) (Or.inl w_11) (by decide) (t := .int) (t' := (.array .byte)) (by decide) (by decide)))
  have E_b2 := E_b2.wr W3
  have V_b2 := V_b2.other W3 (Ne.symm ne_x0_b2)
  have Zn3 : n0 ≤ h3.size := Nat.le_trans Zn2 (Keep.of_wr W3).1
  have K3 := K2.wr W3 (Or.inl (List.mem_of_getElem? (i := 0) rfl))
  have N3 := Fr.snoc X3 N0 g_x0
  refine Goes.st (B := T3.setTop (mkF m 13 #[rv x0] [])) st3 ?_
  refine Goes.retV X3 hx hlk Bd.returns (hb hby d1_13) ?_ (by decide) (by decide)
  show (Q1 Z x0 h0 n0) _ _ _
  rw [e3]
  exact ⟨b2, k2, rfl, N3, K3, sz_b2, E_b2, V_b2, E_x0, F_buffer_x0, F_size_x0⟩
theorem d2_2 : decode prog_6_method_16_code 2 = .ok (.getfield 9, 3) := by decide +kernel
theorem d2_5 : decode prog_6_method_16_code 5 = .ok (.arraylength, 1) := by decide +kernel
theorem d2_7 : decode prog_6_method_16_code 7 = .ok (.getfield 13, 3) := by decide +kernel
theorem d2_11 : decode prog_6_method_16_code 11 = .ok (.if_icmp .le 43, 3) := by decide +kernel
theorem d2_54 : decode prog_6_method_16_code 54 = .ok (.return_, 1) := by decide +kernel
theorem pn2 : plainName "com/example/upcaster/upcaster/io/BinaryEncoder" = true := by first | (simp [plainName, overriddenIn]; done) | decide +kernel
theorem ef2 (m : MethodId) (x0 : Addr) (x1 : Int32) : entryFrame m #[(.ref x0), (.int x1)] 2 = (mkF m 0 #[rv x0, iv x1] []) := by first | (simp [entryFrame, mkF, argsToLocals, Value.category]; done) | rfl
set_option maxRecDepth 65536 in
set_option maxHeartbeats 40000000 in
theorem rm2 (l : Launch) (Z : State) (a0 : Array Value) (hw : ∀ d ∈ tables_1, d.before a0 Z = true) (ws : List Jvm.Cond) (x0 : Addr) (x1 : Int32) (bf : Addr) (kb : ClassId) (vs : List Value) (w : Int32) (h0 : Heap) (n0 : Nat) (Z0 : n0 ≤ h0.size) (F_buffer_x0 : Fld Z h0 x0 "com/example/upcaster/upcaster/io/BinaryEncoder" "buffer" "[B" (.ref bf)) (F_size_x0 : Fld Z h0 x0 "com/example/upcaster/upcaster/io/BinaryEncoder" "size" "I" (.int w)) (V_bf : Arv Z h0 bf kb .byte (256 : Int32) vs (.int (0 : Int32))) (p1 : ¬ (((256 : Int32) - w) < x1)) :
    MetFree l ym1 (head1 (Jvm.Cond.code ym1 prog_6_method_16_code 2 none :: ws) ({ frames := 0, cells := 0, slots := 0, locals := 0 } : Room)) (fun a U => a = #[(.ref x0), (.int x1)] ∧ Z.Warmed39 U.vm ∧ U.heap = h0) (fun _ _ _ _ _ => True) (fun _ U o U' => ∃ v L, o = .returned v ∧ (QP none h0 n0) v U'.heap L ∧ FrameEnd U o U' L ({ frames := 0, cells := 0, slots := 0, locals := 0 } : Room).cells ({ frames := 0, cells := 0, slots := 0, locals := 0 } : Room).slots) := by
  refine MetFree.of_bodySF (plainFor_of_name pn2) hisR ?_
  intro p e s m args below meth c s₁ Bd hml0 hP hK
  obtain ⟨rfl, hZ, hh⟩ := hP
  have hx := Bd.exec
  have hby := Bd.bytes
  have hml : c.maxLocals = 2 := hml0
  have hlk : meth.locks = false := BodyLoose.notSynchronized Bd
  have hown : s.vm.findClass "com/example/upcaster/upcaster/io/BinaryEncoder" = some m.cls := findClass_of_methodNamed Bd.named
  have hnm := (name_of_methodNamed Bd.named Bd.method).1
  have w_10 := hw _ (List.mem_of_getElem? (i := 10) rfl)
  have w_21 := hw _ (List.mem_of_getElem? (i := 21) rfl)
  have w_69 := hw _ (List.mem_of_getElem? (i := 69) rfl)
  have hci : ∀ i v, (i, v) ∈ ([(134, 2147483639)] : List (Nat × Int32)) → (Jvm.Cond.constant "com/example/upcaster/upcaster/io/BinaryEncoder" i v).before #[(.ref x0), (.int x1)] s = true := (own_ciS (mvT hZ w_69) own_ci0)
  have hcl : ∀ i v, (i, v) ∈ ([] : List (Nat × Int64)) → (Jvm.Cond.constantLong "com/example/upcaster/upcaster/io/BinaryEncoder" i v).before #[(.ref x0), (.int x1)] s = true := own_ci0
  have X0 : Stand p l e ({ frames := 0, cells := 0, slots := 0, locals := 0 } : Room) s m #[(.ref x0), (.int x1)] below meth c s₁ [] 0 0 := Stand.of_body Bd
  have e0 : s₁.heap = h0 := by rw [← hh, Bd.state]; rfl
  have N0 := Fr.nil n0
  show Goes p e below s (QP none h0 n0) ({ frames := 0, cells := 0, slots := 0, locals := 0 } : Room).cells ({ frames := 0, cells := 0, slots := 0, locals := 0 } : Room).slots (s₁.setTop (entryFrame m #[(.ref x0), (.int x1)] 2))
  refine Goes.cast (ef2 m x0 x1) ?_
  refine Goes.run X0 hx hown hci hcl hby (L := [(0, .iload_n 1, 1), (1, .aload_n 0, 1)]) (by decide +kernel) rfl (g' := (mkF m 2 #[rv x0, iv x1] [(.ref x0), (.int x1)])) rfl ?_
  obtain ⟨T1, X1, e1, st1⟩ := getF X0 hx hZ hown (host := "") (Or.inl w_10) Via.refl e0 F_buffer_x0 (g := (mkF m 2 #[rv x0, iv x1] [(.ref x0), (.int x1)])) rfl rfl (hb hby d2_2)
  refine Goes.st (B := T1.setTop (mkF m 5 #[rv x0, iv x1] [(.ref bf), (.int x1)])) st1 ?_
  obtain ⟨cl2, Ar2, q2, S2, M2, Hs2, G2⟩ := id V_bf
  refine Goes.st (B := T1.setTop (mkF m 6 #[rv x0, iv x1] [(.int (256 : Int32)), (.int x1)])) (fun t k => ?_) ?_
  · refine X1.arraylength hx (cell := cl2) (by rw [e1]; exact Ar2.1) (State.isArrayOf_alike hZ.alike Ar2.2.1) (g := (mkF m 5 #[rv x0, iv x1] [(.ref bf), (.int x1)])) rfl (rest := [(.int x1)]) rfl (hb hby d2_5) _ ?_
    rw [len_of S2 M2]
    exact k
  refine Goes.run X1 hx hown hci hcl hby (L := [(6, .aload_n 0, 1)]) (by decide +kernel) rfl (g' := (mkF m 7 #[rv x0, iv x1] [(.ref x0), (.int (256 : Int32)), (.int x1)])) rfl ?_
  obtain ⟨T3, X3, e3, st3⟩ := getF X1 hx hZ hown (host := "") (Or.inl w_21) Via.refl e1 F_size_x0 (g := (mkF m 7 #[rv x0, iv x1] [(.ref x0), (.int (256 : Int32)), (.int x1)])) rfl rfl (hb hby d2_7)
  refine Goes.st (B := T3.setTop (mkF m 10 #[rv x0, iv x1] [(.int w), (.int (256 : Int32)), (.int x1)])) st3 ?_
  refine Goes.run X3 hx hown hci hcl hby (L := [(10, .isub, 1)]) (by decide +kernel) rfl (g' := (mkF m 11 #[rv x0, iv x1] [(.int ((256 : Int32) - w)), (.int x1)])) rfl ?_
  have hc11_4 : ¬ (((256 : Int32) - w) < x1) := p1
  refine Goes.st (B := T3.setTop (mkF m 54 #[rv x0, iv x1] [])) (fun t k => ?_) ?_
  · refine XS.icmpYes X3.here hx rfl (pc0 := 11) (pc' := 54) rfl (hb hby d2_11) rfl (flt hc11_4).2.2.2 (by decide) (by decide) ?_
    exact k
  exact Goes.retV X3 hx hlk Bd.returns (hb hby d2_54) ⟨rfl, N0, e3⟩ (by decide) (by decide)
theorem d3_2 : decode prog_6_method_14_code 2 = .ok (.arraylength, 1) := by decide +kernel
theorem d3_3 : decode prog_6_method_14_code 3 = .ok (.invokevirtual 35, 3) := by decide +kernel
theorem d3_9 : decode prog_6_method_14_code 9 = .ok (.getfield 9, 3) := by decide +kernel
theorem d3_13 : decode prog_6_method_14_code 13 = .ok (.getfield 13, 3) := by decide +kernel
theorem d3_17 : decode prog_6_method_14_code 17 = .ok (.arraylength, 1) := by decide +kernel
theorem d3_18 : decode prog_6_method_14_code 18 = .ok (.invokestatic 106, 3) := by decide +kernel
theorem d3_23 : decode prog_6_method_14_code 23 = .ok (.getfield 13, 3) := by decide +kernel
theorem d3_27 : decode prog_6_method_14_code 27 = .ok (.arraylength, 1) := by decide +kernel
theorem d3_29 : decode prog_6_method_14_code 29 = .ok (.putfield 13, 3) := by decide +kernel
theorem d3_32 : decode prog_6_method_14_code 32 = .ok (.return_, 1) := by decide +kernel
theorem pn3 : plainName "com/example/upcaster/upcaster/io/BinaryEncoder" = true := by first | (simp [plainName, overriddenIn]; done) | decide +kernel
theorem pd3_0 : parseMethodDescriptor "(I)V" = some ⟨[.int], none⟩ := by decide +kernel
theorem ef3 (m : MethodId) (x0 : Addr) (x1 : Addr) : entryFrame m #[(.ref x0), (.ref x1)] 2 = (mkF m 0 #[rv x0, rv x1] []) := by first | (simp [entryFrame, mkF, argsToLocals, Value.category]; done) | rfl
def Q3 (Z : State) (x0 : Addr) (x1 : Addr) (bf : Addr) (kb : ClassId) (kx : ClassId) (v0 : Int32) (v1 : Int32) (v2 : Int32) (v3 : Int32) (h0 : Heap) (n0 : Nat) (v : Option Value) (h : Heap) (L : List Loc) : Prop := v = none ∧ Fr n0 L ∧ Keep h0 h [x0, bf] ∧ Exa Z h x0 "com/example/upcaster/upcaster/io/BinaryEncoder" ∧ Fld Z h x0 "com/example/upcaster/upcaster/io/BinaryEncoder" "buffer" "[B" (.ref bf) ∧ Fld Z h x0 "com/example/upcaster/upcaster/io/BinaryEncoder" "size" "I" (.int (4 : Int32)) ∧ Exa Z h bf "[B" ∧ Arv Z h bf kb .byte (256 : Int32) [(.int v0), (.int v1), (.int v2), (.int v3), (.int (0 : Int32)), (.int (0 : Int32)), (.int (0 : Int32)), (.int (0 : Int32))] (.int (0 : Int32))
set_option maxRecDepth 65536 in
set_option maxHeartbeats 40000000 in
theorem rm3 (l : Launch) (Z : State) (a0 : Array Value) (hw : ∀ d ∈ tables_1, d.before a0 Z = true) (ws : List Jvm.Cond) (x0 : Addr) (x1 : Addr) (bf : Addr) (kb : ClassId) (kx : ClassId) (v0 : Int32) (v1 : Int32) (v2 : Int32) (v3 : Int32) (h0 : Heap) (n0 : Nat) (Z0 : n0 ≤ h0.size) (E_x0 : Exa Z h0 x0 "com/example/upcaster/upcaster/io/BinaryEncoder") (F_buffer_x0 : Fld Z h0 x0 "com/example/upcaster/upcaster/io/BinaryEncoder" "buffer" "[B" (.ref bf)) (F_size_x0 : Fld Z h0 x0 "com/example/upcaster/upcaster/io/BinaryEncoder" "size" "I" (.int (0 : Int32))) (E_bf : Exa Z h0 bf "[B") (V_bf : Arv Z h0 bf kb .byte (256 : Int32) [(.int (0 : Int32)), (.int (0 : Int32)), (.int (0 : Int32)), (.int (0 : Int32)), (.int (0 : Int32)), (.int (0 : Int32)), (.int (0 : Int32)), (.int (0 : Int32))] (.int (0 : Int32))) (V_x1 : Arv Z h0 x1 kx .byte (4 : Int32) [(.int v0), (.int v1), (.int v2), (.int v3)] (.int (0 : Int32))) (g_x0 : n0 ≤ x0) (g_bf : n0 ≤ bf) (hn1 : x0 ≠ bf) (hn2 : x1 ≠ bf) (hn3 : x1 ≠ x0) :
    MetFree l ym2 (head1 (Jvm.Cond.code ym2 prog_6_method_14_code 2 none :: ws) ({ frames := 1, cells := 0, slots := 0, locals := 18 } : Room)) (fun a U => a = #[(.ref x0), (.ref x1)] ∧ Z.Warmed39 U.vm ∧ U.heap = h0) (fun _ _ _ _ _ => True) (fun _ U o U' => ∃ v L, o = .returned v ∧ (Q3 Z x0 x1 bf kb kx v0 v1 v2 v3 h0 n0) v U'.heap L ∧ FrameEnd U o U' L ({ frames := 1, cells := 0, slots := 0, locals := 18 } : Room).cells ({ frames := 1, cells := 0, slots := 0, locals := 18 } : Room).slots) := by
  refine MetFree.of_bodySF (plainFor_of_name pn3) hisR ?_
  intro p e s m args below meth c s₁ Bd hml0 hP hK
  obtain ⟨rfl, hZ, hh⟩ := hP
  have hx := Bd.exec
  have hby := Bd.bytes
  have hml : c.maxLocals = 2 := hml0
  have hlk : meth.locks = false := BodyLoose.notSynchronized Bd
  have hown : s.vm.findClass "com/example/upcaster/upcaster/io/BinaryEncoder" = some m.cls := findClass_of_methodNamed Bd.named
  have hnm := (name_of_methodNamed Bd.named Bd.method).1
  have w_2 := hw _ (List.mem_of_getElem? (i := 2) rfl)
  have w_3 := hw _ (List.mem_of_getElem? (i := 3) rfl)
  have w_10 := hw _ (List.mem_of_getElem? (i := 10) rfl)
  have w_11 := hw _ (List.mem_of_getElem? (i := 11) rfl)
  have w_17 := hw _ (List.mem_of_getElem? (i := 17) rfl)
  have w_18 := hw _ (List.mem_of_getElem? (i := 18) rfl)
  have w_19 := hw _ (List.mem_of_getElem? (i := 19) rfl)
  have w_20 := hw _ (List.mem_of_getElem? (i := 20) rfl)
  have w_21 := hw _ (List.mem_of_getElem? (i := 21) rfl)
  have w_22 := hw _ (List.mem_of_getElem? (i := 22) rfl)
  have w_23 := hw _ (List.mem_of_getElem? (i := 23) rfl)
  have w_24 := hw _ (List.mem_of_getElem? (i := 24) rfl)
  have w_25 := hw _ (List.mem_of_getElem? (i := 25) rfl)
  have w_26 := hw _ (List.mem_of_getElem? (i := 26) rfl)
  have w_69 := hw _ (List.mem_of_getElem? (i := 69) rfl)
  have hci : ∀ i v, (i, v) ∈ ([(134, 2147483639)] : List (Nat × Int32)) → (Jvm.Cond.constant "com/example/upcaster/upcaster/io/BinaryEncoder" i v).before #[(.ref x0), (.ref x1)] s = true := (own_ciS (mvT hZ w_69) own_ci0)
  have hcl : ∀ i v, (i, v) ∈ ([] : List (Nat × Int64)) → (Jvm.Cond.constantLong "com/example/upcaster/upcaster/io/BinaryEncoder" i v).before #[(.ref x0), (.ref x1)] s = true := own_ci0
  have X0 : Stand p l e ({ frames := 1, cells := 0, slots := 0, locals := 18 } : Room) s m #[(.ref x0), (.ref x1)] below meth c s₁ [] 0 0 := Stand.of_body Bd
  have e0 : s₁.heap = h0 := by rw [← hh, Bd.state]; rfl
  have N0 := Fr.nil n0
  show Goes p e below s (Q3 Z x0 x1 bf kb kx v0 v1 v2 v3 h0 n0) ({ frames := 1, cells := 0, slots := 0, locals := 18 } : Room).cells ({ frames := 1, cells := 0, slots := 0, locals := 18 } : Room).slots (s₁.setTop (entryFrame m #[(.ref x0), (.ref x1)] 2))
  refine Goes.cast (ef3 m x0 x1) ?_
  have K0 : Keep h0 h0 [x0, bf] := Keep.refl h0 _
  refine Goes.run X0 hx hown hci hcl hby (L := [(0, .aload_n 0, 1), (1, .aload_n 1, 1)]) (by decide +kernel) rfl (g' := (mkF m 2 #[rv x0, rv x1] [(.ref x1), (.ref x0)])) rfl ?_
  obtain ⟨cl1, Ar1, q1, S1, M1, Hs1, G1⟩ := id V_x1
  refine Goes.st (B := s₁.setTop (mkF m 3 #[rv x0, rv x1] [(.int (4 : Int32)), (.ref x0)])) (fun t k => ?_) ?_
  · refine X0.arraylength hx (cell := cl1) (by rw [e0]; exact Ar1.1) (State.isArrayOf_alike hZ.alike Ar1.2.1) (g := (mkF m 2 #[rv x0, rv x1] [(.ref x1), (.ref x0)])) rfl (rest := [(.ref x0)]) rfl (hb hby d3_2) _ ?_
    rw [len_of S1 M1]
    exact k
  obtain ⟨cq2, q2a, q2b⟩ := E_x0.cell
  obtain ⟨_, _, ⟨T2, L2, k2, n2⟩, -, X2, ⟨Lc2, hQ2, l2, y2, z2⟩, st2⟩ := X0.privateBack hx (y := ym1) hown (mvT hZ w_17) (mvT hZ w_18) (own_selp (y := ym1) (mvT hZ w_2) (mvP hZ w_19) (mvT hZ w_18) (by decide)) (Cond.privateMethod_at (mvP hZ w_19 (args := #[]))) (mvT hZ w_20) (by decide) (backOf (W := 0) (rm2 l Z a0 hw [] x0 (4 : Int32) bf kb [(.int (0 : Int32)), (.int (0 : Int32)), (.int (0 : Int32)), (.int (0 : Int32)), (.int (0 : Int32)), (.int (0 : Int32)), (.int (0 : Int32)), (.int (0 : Int32))] (0 : Int32) h0 n0 Z0 F_buffer_x0 F_size_x0 V_bf (by decide)) hZ w_20 w_3 (by decide) (by decide)) (g := (mkF m 3 #[rv x0, rv x1] [(.int (4 : Int32)), (.ref x0)])) rfl (by rw [hml]; rfl) (Steps.refl _) (a := x0) (by rw [e0]; exact q2a) q2b (argsL := [(.int (4 : Int32))]) (rest := []) (lenOf pd3_0 rfl) rfl (by show 2 * 0 + _ ≤ _; exact Nat.le_of_eq rfl) (hb hby d3_3) (fun _ _ => ⟨rfl, e0, (by decide : 0 + 0 ≤ _), (by decide : 0 + 0 ≤ _)⟩)
  dsimp only [Pt.U, Pt.locs, Pt.cells, Pt.slots] at X2 l2 y2 z2 st2 hQ2
  subst l2 y2 z2
  obtain ⟨rfl, N2q, e2⟩ := hQ2
  have N2 := Fr.app N0 N2q
  refine Goes.st (B := T2.setTop (mkF m 6 #[rv x0, rv x1] [])) (fun t k => st2.trans k) ?_
  refine Goes.run X2 hx hown hci hcl hby (L := [(6, .aload_n 1, 1), (7, .iconst 0, 1), (8, .aload_n 0, 1)]) (by decide +kernel) rfl (g' := (mkF m 9 #[rv x0, rv x1] [(.ref x0), (.int (0 : Int32)), (.ref x1)])) rfl ?_
  obtain ⟨T3, X3, e3, st3⟩ := getF X2 hx hZ hown (host := "") (Or.inl w_10) Via.refl e2 F_buffer_x0 (g := (mkF m 9 #[rv x0, rv x1] [(.ref x0), (.int (0 : Int32)), (.ref x1)])) rfl rfl (hb hby d3_9)
  refine Goes.st (B := T3.setTop (mkF m 12 #[rv x0, rv x1] [(.ref bf), (.int (0 : Int32)), (.ref x1)])) st3 ?_
  refine Goes.run X3 hx hown hci hcl hby (L := [(12, .aload_n 0, 1)]) (by decide +kernel) rfl (g' := (mkF m 13 #[rv x0, rv x1] [(.ref x0), (.ref bf), (.int (0 : Int32)), (.ref x1)])) rfl ?_
  obtain ⟨T4, X4, e4, st4⟩ := getF X3 hx hZ hown (host := "") (Or.inl w_21) Via.refl e3 F_size_x0 (g := (mkF m 13 #[rv x0, rv x1] [(.ref x0), (.ref bf), (.int (0 : Int32)), (.ref x1)])) rfl rfl (hb hby d3_13)
  refine Goes.st (B := T4.setTop (mkF m 16 #[rv x0, rv x1] [(.int (0 : Int32)), (.ref bf), (.int (0 : Int32)), (.ref x1)])) st4 ?_
  refine Goes.run X4 hx hown hci hcl hby (L := [(16, .aload_n 1, 1)]) (by decide +kernel) rfl (g' := (mkF m 17 #[rv x0, rv x1] [(.ref x1), (.int (0 : Int32)), (.ref bf), (.int (0 : Int32)), (.ref x1)])) rfl ?_
  obtain ⟨cl5, Ar5, q5, S5, M5, Hs5, G5⟩ := id V_x1
  refine Goes.st (B := T4.setTop (mkF m 18 #[rv x0, rv x1] [(.int (4 : Int32)), (.int (0 : Int32)), (.ref bf), (.int (0 : Int32)), (.ref x1)])) (fun t k => ?_) ?_
  · refine X4.arraylength hx (cell := cl5) (by rw [e4]; exact Ar5.1) (State.isArrayOf_alike hZ.alike Ar5.2.1) (g := (mkF m 17 #[rv x0, rv x1] [(.ref x1), (.int (0 : Int32)), (.ref bf), (.int (0 : Int32)), (.ref x1)])) rfl (rest := [(.int (0 : Int32)), (.ref bf), (.int (0 : Int32)), (.ref x1)]) rfl (hb hby d3_17) _ ?_
    rw [len_of S5 M5]
    exact k
  obtain ⟨T6, h6, L6, X6, e6, N6, Kq6, Vq6, st6⟩ := cpA X4 hx hZ hown w_23 w_26 w_24 w_25 e4 V_x1 V_bf (Or.inl ⟨rfl, rfl⟩) (sp := (0 : Int32)) (dp := (0 : Int32)) (nn := (4 : Int32)) (by decide) (by decide) (by decide) (by decide) (by decide) (us := [(.int v0), (.int v1), (.int v2), (.int v3)]) rfl (Nat.le_of_ble_eq_true rfl) N2 g_bf (g := (mkF m 18 #[rv x0, rv x1] [(.int (4 : Int32)), (.int (0 : Int32)), (.ref bf), (.int (0 : Int32)), (.ref x1)])) rfl (by rw [hml]; rfl) (rest := []) rfl (hb hby d3_18) (by decide) (W := 0) (by show 2 * 0 + _ ≤ _; exact Nat.le_of_eq rfl) (by decide)
  have E_x0 := E_x0.keep Kq6
  have F_buffer_x0 := F_buffer_x0.keep Kq6 (ninS hn1 nin0)
  have F_size_x0 := F_size_x0.keep Kq6 (ninS hn1 nin0)
  have E_bf := E_bf.keep Kq6
  have V_x1 := V_x1.keep Kq6 (ninS hn2 nin0)
  have Zn6 : n0 ≤ h6.size := Nat.le_trans Z0 Kq6.1
  have K6 := K0.trans Kq6 ((allS (Or.inl (List.mem_of_getElem? (i := 1) rfl)) all0))
  have V_bf : Arv Z h6 bf kb .byte (256 : Int32) [(.int v0), (.int v1), (.int v2), (.int v3), (.int (0 : Int32)), (.int (0 : Int32)), (.int (0 : Int32)), (.int (0 : Int32))] (.int (0 : Int32)) := Vq6
  refine Goes.st (B := T6.setTop (mkF m 21 #[rv x0, rv x1] [])) st6 ?_
  refine Goes.run X6 hx hown hci hcl hby (L := [(21, .aload_n 0, 1), (22, .dup, 1)]) (by decide +kernel) rfl (g' := (mkF m 23 #[rv x0, rv x1] [(.ref x0), (.ref x0)])) rfl ?_
  obtain ⟨T7, X7, e7, st7⟩ := getF X6 hx hZ hown (host := "") (Or.inl w_21) Via.refl e6 F_size_x0 (g := (mkF m 23 #[rv x0, rv x1] [(.ref x0), (.ref x0)])) rfl rfl (hb hby d3_23)
  refine Goes.st (B := T7.setTop (mkF m 26 #[rv x0, rv x1] [(.int (0 : Int32)), (.ref x0)])) st7 ?_
  refine Goes.run X7 hx hown hci hcl hby (L := [(26, .aload_n 1, 1)]) (by decide +kernel) rfl (g' := (mkF m 27 #[rv x0, rv x1] [(.ref x1), (.int (0 : Int32)), (.ref x0)])) rfl ?_
  obtain ⟨cl8, Ar8, q8, S8, M8, Hs8, G8⟩ := id V_x1
  refine Goes.st (B := T7.setTop (mkF m 28 #[rv x0, rv x1] [(.int (4 : Int32)), (.int (0 : Int32)), (.ref x0)])) (fun t k => ?_) ?_
  · refine X7.arraylength hx (cell := cl8) (by rw [e7]; exact Ar8.1) (State.isArrayOf_alike hZ.alike Ar8.2.1) (g := (mkF m 27 #[rv x0, rv x1] [(.ref x1), (.int (0 : Int32)), (.ref x0)])) rfl (rest := [(.int (0 : Int32)), (.ref x0)]) rfl (hb hby d3_27) _ ?_
    rw [len_of S8 M8]
    exact k
  refine Goes.run X7 hx hown hci hcl hby (L := [(28, .iadd, 1)]) (by decide +kernel) rfl (g' := (mkF m 29 #[rv x0, rv x1] [(.int (4 : Int32)), (.ref x0)])) rfl ?_
  obtain ⟨T9, h9, X9, e9, W9, st9⟩ := putF X7 hx hZ hown (host := "") (Or.inl w_21) Via.refl e7 F_size_x0 E_x0 (Or.inl w_22) w_2 (ty := .int) (by decide) rfl rfl (g := (mkF m 29 #[rv x0, rv x1] [(.int (4 : Int32)), (.ref x0)])) rfl rfl (hb hby d3_29)
  have E_x0 := E_x0.wr W9
  have F_buffer_x0 := F_buffer_x0.other W9 (Or.inr (slot_ne (Or.inl w_11) (Or.inl w_22) (by decide) (t := (.array .byte)) (t' := .int) (by decide) (by decide)))
  have F_size_x0 : Fld Z h9 x0 "com/example/upcaster/upcaster/io/BinaryEncoder" "size" "I" (.int (4 : Int32)) := F_size_x0.same W9
  have E_bf := E_bf.wr W9
  have V_x1 := V_x1.other W9 hn3
  have V_bf := V_bf.other W9 (Ne.symm hn1)
  have Zn9 : n0 ≤ h9.size := Nat.le_trans Zn6 (Keep.of_wr W9).1
  have K9 := K6.wr W9 (Or.inl (List.mem_of_getElem? (i := 0) rfl))
  have N9 := Fr.snoc X9 N6 g_x0
  refine Goes.st (B := T9.setTop (mkF m 32 #[rv x0, rv x1] [])) st9 ?_
  refine Goes.retV X9 hx hlk Bd.returns (hb hby d3_32) ?_ (by decide) (by decide)
  show (Q3 Z x0 x1 bf kb kx v0 v1 v2 v3 h0 n0) _ _ _
  rw [e9]
  exact ⟨rfl, N9, K9, E_x0, F_buffer_x0, F_size_x0, E_bf, V_bf⟩
theorem d4_1 : decode jdk_41_method_11_code 1 = .ok (.ifCond .lt 8, 3) := by decide +kernel
theorem d4_6 : decode jdk_41_method_11_code 6 = .ok (.if_icmp .lt 10, 3) := by decide +kernel
theorem d4_17 : decode jdk_41_method_11_code 17 = .ok (.ireturn, 1) := by decide +kernel
theorem pn4 : plainName "jdk/internal/util/Preconditions" = true := by first | (simp [plainName, overriddenIn]; done) | decide +kernel
theorem ef4 (m : MethodId) (x0 : Int32) (x1 : Int32) : entryFrame m #[(.int x0), (.int x1), .null] 3 = (mkF m 0 #[iv x0, iv x1, .val .null] []) := by first | (simp [entryFrame, mkF, argsToLocals, Value.category]; done) | rfl
def r4 (x0 : Int32) (x1 : Int32) : Int32 := x0
set_option maxRecDepth 65536 in
set_option maxHeartbeats 40000000 in
theorem rm4 (l : Launch) (Z : State) (a0 : Array Value) (hw : ∀ d ∈ tables_1, d.before a0 Z = true) (ws : List Jvm.Cond) (x0 : Int32) (x1 : Int32) (h0 : Heap) (n0 : Nat) (Z0 : n0 ≤ h0.size) (p1 : ¬ (x0 < (0 : Int32))) (p2 : x0 < x1) :
    MetFree l ym3 (head1 (Jvm.Cond.code ym3 jdk_41_method_11_code 3 (some .int) :: ws) ({ frames := 0, cells := 0, slots := 0, locals := 0 } : Room)) (fun a U => a = #[(.int x0), (.int x1), .null] ∧ Z.Warmed39 U.vm ∧ U.heap = h0) (fun _ _ _ _ _ => True) (fun _ U o U' => ∃ v L, o = .returned v ∧ (QP (some (.int (r4 x0 x1))) h0 n0) v U'.heap L ∧ FrameEnd U o U' L ({ frames := 0, cells := 0, slots := 0, locals := 0 } : Room).cells ({ frames := 0, cells := 0, slots := 0, locals := 0 } : Room).slots) := by
  refine MetFree.of_bodySF (plainFor_of_name pn4) hisR ?_
  intro p e s m args below meth c s₁ Bd hml0 hP hK
  obtain ⟨rfl, hZ, hh⟩ := hP
  have hx := Bd.exec
  have hby := Bd.bytes
  have hml : c.maxLocals = 3 := hml0
  have hlk : meth.locks = false := BodyLoose.notSynchronized Bd
  have hown : s.vm.findClass "jdk/internal/util/Preconditions" = some m.cls := findClass_of_methodNamed Bd.named
  have hnm := (name_of_methodNamed Bd.named Bd.method).1
  have hci : ∀ i v, (i, v) ∈ ([] : List (Nat × Int32)) → (Jvm.Cond.constant "jdk/internal/util/Preconditions" i v).before #[(.int x0), (.int x1), .null] s = true := own_ci0
  have hcl : ∀ i v, (i, v) ∈ ([] : List (Nat × Int64)) → (Jvm.Cond.constantLong "jdk/internal/util/Preconditions" i v).before #[(.int x0), (.int x1), .null] s = true := own_ci0
  have X0 : Stand p l e ({ frames := 0, cells := 0, slots := 0, locals := 0 } : Room) s m #[(.int x0), (.int x1), .null] below meth c s₁ [] 0 0 := Stand.of_body Bd
  have e0 : s₁.heap = h0 := by rw [← hh, Bd.state]; rfl
  have N0 := Fr.nil n0
  show Goes p e below s (QP (some (.int (r4 x0 x1))) h0 n0) ({ frames := 0, cells := 0, slots := 0, locals := 0 } : Room).cells ({ frames := 0, cells := 0, slots := 0, locals := 0 } : Room).slots (s₁.setTop (entryFrame m #[(.int x0), (.int x1), .null] 3))
  refine Goes.cast (ef4 m x0 x1) ?_
  refine Goes.run X0 hx hown hci hcl hby (L := [(0, .iload_n 0, 1)]) (by decide +kernel) rfl (g' := (mkF m 1 #[iv x0, iv x1, .val .null] [(.int x0)])) rfl ?_
  have hc1_1 : ¬ (x0 < (0 : Int32)) := p1
  refine Goes.st (B := s₁.setTop (mkF m 4 #[iv x0, iv x1, .val .null] [])) (fun t k => ?_) ?_
  · refine XS.ifNo X0.here hx rfl (hb hby d4_1) rfl ((if0 _ _).trans (flt hc1_1).1) ?_
    exact k
  refine Goes.run X0 hx hown hci hcl hby (L := [(4, .iload_n 0, 1), (5, .iload_n 1, 1)]) (by decide +kernel) rfl (g' := (mkF m 6 #[iv x0, iv x1, .val .null] [(.int x1), (.int x0)])) rfl ?_
  have hc6_2 : x0 < x1 := p2
  refine Goes.st (B := s₁.setTop (mkF m 16 #[iv x0, iv x1, .val .null] [])) (fun t k => ?_) ?_
  · refine XS.icmpYes X0.here hx rfl (pc0 := 6) (pc' := 16) rfl (hb hby d4_6) rfl (tlt hc6_2).1 (by decide) (by decide) ?_
    exact k
  refine Goes.run X0 hx hown hci hcl hby (L := [(16, .iload_n 0, 1)]) (by decide +kernel) rfl (g' := (mkF m 17 #[iv x0, iv x1, .val .null] [(.int x0)])) rfl ?_
  exact Goes.retI X0 hx hlk Bd.returns (hb hby d4_17) ⟨(congrArg (fun z => some (Value.int z)) (show (r4 x0 x1) = x0 from rfl).symm), N0, e0⟩ (by decide) (by decide)
theorem d5_3 : decode jdk_31_method_17_code 3 = .ok (.invokestatic 105, 3) := by decide +kernel
theorem d5_6 : decode jdk_31_method_17_code 6 = .ok (.ireturn, 1) := by decide +kernel
theorem pn5 : plainName "java/util/Objects" = true := by first | (simp [plainName, overriddenIn]; done) | decide +kernel
theorem pd5_0 : parseMethodDescriptor "(IILjava/util/function/BiFunction;)I" = some ⟨[.int, .int, (.object "java/util/function/BiFunction")], some .int⟩ := by decide +kernel
theorem ef5 (m : MethodId) (x0 : Int32) (x1 : Int32) : entryFrame m #[(.int x0), (.int x1)] 2 = (mkF m 0 #[iv x0, iv x1] []) := by first | (simp [entryFrame, mkF, argsToLocals, Value.category]; done) | rfl
def r5 (x0 : Int32) (x1 : Int32) : Int32 := (r4 x0 x1)
set_option maxRecDepth 65536 in
set_option maxHeartbeats 40000000 in
theorem rm5 (l : Launch) (Z : State) (a0 : Array Value) (hw : ∀ d ∈ tables_1, d.before a0 Z = true) (ws : List Jvm.Cond) (x0 : Int32) (x1 : Int32) (h0 : Heap) (n0 : Nat) (Z0 : n0 ≤ h0.size) (p1 : ¬ (x0 < (0 : Int32))) (p2 : x0 < x1) :
    MetFree l ym4 (head1 (Jvm.Cond.code ym4 jdk_31_method_17_code 2 (some .int) :: ws) ({ frames := 1, cells := 0, slots := 0, locals := 14 } : Room)) (fun a U => a = #[(.int x0), (.int x1)] ∧ Z.Warmed39 U.vm ∧ U.heap = h0) (fun _ _ _ _ _ => True) (fun _ U o U' => ∃ v L, o = .returned v ∧ (QP (some (.int (r5 x0 x1))) h0 n0) v U'.heap L ∧ FrameEnd U o U' L ({ frames := 1, cells := 0, slots := 0, locals := 14 } : Room).cells ({ frames := 1, cells := 0, slots := 0, locals := 14 } : Room).slots) := by
  refine MetFree.of_bodySF (plainFor_of_name pn5) hisR ?_
  intro p e s m args below meth c s₁ Bd hml0 hP hK
  obtain ⟨rfl, hZ, hh⟩ := hP
  have hx := Bd.exec
  have hby := Bd.bytes
  have hml : c.maxLocals = 2 := hml0
  have hlk : meth.locks = false := BodyLoose.notSynchronized Bd
  have hown : s.vm.findClass "java/util/Objects" = some m.cls := findClass_of_methodNamed Bd.named
  have hnm := (name_of_methodNamed Bd.named Bd.method).1
  have w_37 := hw _ (List.mem_of_getElem? (i := 37) rfl)
  have w_38 := hw _ (List.mem_of_getElem? (i := 38) rfl)
  have w_39 := hw _ (List.mem_of_getElem? (i := 39) rfl)
  have w_40 := hw _ (List.mem_of_getElem? (i := 40) rfl)
  have hci : ∀ i v, (i, v) ∈ ([] : List (Nat × Int32)) → (Jvm.Cond.constant "java/util/Objects" i v).before #[(.int x0), (.int x1)] s = true := own_ci0
  have hcl : ∀ i v, (i, v) ∈ ([] : List (Nat × Int64)) → (Jvm.Cond.constantLong "java/util/Objects" i v).before #[(.int x0), (.int x1)] s = true := own_ci0
  have X0 : Stand p l e ({ frames := 1, cells := 0, slots := 0, locals := 14 } : Room) s m #[(.int x0), (.int x1)] below meth c s₁ [] 0 0 := Stand.of_body Bd
  have e0 : s₁.heap = h0 := by rw [← hh, Bd.state]; rfl
  have N0 := Fr.nil n0
  show Goes p e below s (QP (some (.int (r5 x0 x1))) h0 n0) ({ frames := 1, cells := 0, slots := 0, locals := 14 } : Room).cells ({ frames := 1, cells := 0, slots := 0, locals := 14 } : Room).slots (s₁.setTop (entryFrame m #[(.int x0), (.int x1)] 2))
  refine Goes.cast (ef5 m x0 x1) ?_
  refine Goes.run X0 hx hown hci hcl hby (L := [(0, .iload_n 0, 1), (1, .iload_n 1, 1), (2, .aconst_null, 1)]) (by decide +kernel) rfl (g' := (mkF m 3 #[iv x0, iv x1] [.null, (.int x1), (.int x0)])) rfl ?_
  obtain ⟨_, _, ⟨T1, L1, k1, n1⟩, -, X1, ⟨Lc1, hQ1, l1, y1, z1⟩, st1⟩ := Jvm.LawKit.callS X0 hx (y := ym3) hown (mvT hZ w_37) (mvT hZ w_38) (mvT hZ w_39) (mvT hZ w_40) (by decide) (backOf (W := 0) (rm4 l Z a0 hw [] x0 x1 h0 n0 Z0 p1 p2) hZ w_40 w_39 (by decide) (by decide)) (g := (mkF m 3 #[iv x0, iv x1] [.null, (.int x1), (.int x0)])) rfl (by rw [hml]; rfl) (argsL := [(.int x0), (.int x1), .null]) (rest := []) (lenOf pd5_0 rfl) rfl (by show 2 * 0 + _ ≤ _; exact Nat.le_of_eq rfl) (hb hby d5_3) (fun _ _ => ⟨rfl, e0, (by decide : 0 + 0 ≤ _), (by decide : 0 + 0 ≤ _)⟩)
  dsimp only [Pt.U, Pt.locs, Pt.cells, Pt.slots] at X1 l1 y1 z1 st1 hQ1
  subst l1 y1 z1
  obtain ⟨rfl, N1q, e1⟩ := hQ1
  have N1 := Fr.app N0 N1q
  refine Goes.st (B := T1.setTop (mkF m 6 #[iv x0, iv x1] [(.int (r4 x0 x1))])) st1 ?_
  exact Goes.retI X1 hx hlk Bd.returns (hb hby d5_6) ⟨(congrArg (fun z => some (Value.int z)) (show (r5 x0 x1) = (r4 x0 x1) from rfl).symm), N1, e1⟩ (by decide) (by decide)
theorem d6_3 : decode prog_6_method_4_code 3 = .ok (.getfield 13, 3) := by decide +kernel
theorem d6_8 : decode prog_6_method_4_code 8 = .ok (.invokestatic 17, 3) := by decide +kernel
theorem d6_11 : decode prog_6_method_4_code 11 = .ok (.putfield 13, 3) := by decide +kernel
theorem d6_14 : decode prog_6_method_4_code 14 = .ok (.return_, 1) := by decide +kernel
theorem pn6 : plainName "com/example/upcaster/upcaster/io/BinaryEncoder" = true := by first | (simp [plainName, overriddenIn]; done) | decide +kernel
theorem pd6_0 : parseMethodDescriptor "(II)I" = some ⟨[.int, .int], some .int⟩ := by decide +kernel
theorem ef6 (m : MethodId) (x0 : Addr) (x1 : Int32) : entryFrame m #[(.ref x0), (.int x1)] 2 = (mkF m 0 #[rv x0, iv x1] []) := by first | (simp [entryFrame, mkF, argsToLocals, Value.category]; done) | rfl
def c6_8_0 (x1 : Int32) (w : Int32) : Int32 := (w + (1 : Int32))
def Q6 (Z : State) (x0 : Addr) (x1 : Int32) (bf : Addr) (w : Int32) (h0 : Heap) (n0 : Nat) (v : Option Value) (h : Heap) (L : List Loc) : Prop := v = none ∧ Fr n0 L ∧ Keep h0 h [x0] ∧ Exa Z h x0 "com/example/upcaster/upcaster/io/BinaryEncoder" ∧ Fld Z h x0 "com/example/upcaster/upcaster/io/BinaryEncoder" "buffer" "[B" (.ref bf) ∧ Fld Z h x0 "com/example/upcaster/upcaster/io/BinaryEncoder" "size" "I" (.int x1)
set_option maxRecDepth 65536 in
set_option maxHeartbeats 40000000 in
theorem rm6 (l : Launch) (Z : State) (a0 : Array Value) (hw : ∀ d ∈ tables_1, d.before a0 Z = true) (ws : List Jvm.Cond) (x0 : Addr) (x1 : Int32) (bf : Addr) (w : Int32) (h0 : Heap) (n0 : Nat) (Z0 : n0 ≤ h0.size) (E_x0 : Exa Z h0 x0 "com/example/upcaster/upcaster/io/BinaryEncoder") (F_buffer_x0 : Fld Z h0 x0 "com/example/upcaster/upcaster/io/BinaryEncoder" "buffer" "[B" (.ref bf)) (F_size_x0 : Fld Z h0 x0 "com/example/upcaster/upcaster/io/BinaryEncoder" "size" "I" (.int w)) (g_x0 : n0 ≤ x0) (p1 : ¬ (x1 < (0 : Int32))) (p2 : x1 < (w + (1 : Int32))) :
    MetFree l ym5 (head1 (Jvm.Cond.code ym5 prog_6_method_4_code 2 none :: ws) ({ frames := 2, cells := 0, slots := 0, locals := 28 } : Room)) (fun a U => a = #[(.ref x0), (.int x1)] ∧ Z.Warmed39 U.vm ∧ U.heap = h0) (fun _ _ _ _ _ => True) (fun _ U o U' => ∃ v L, o = .returned v ∧ (Q6 Z x0 x1 bf w h0 n0) v U'.heap L ∧ FrameEnd U o U' L ({ frames := 2, cells := 0, slots := 0, locals := 28 } : Room).cells ({ frames := 2, cells := 0, slots := 0, locals := 28 } : Room).slots) := by
  refine MetFree.of_bodySF (plainFor_of_name pn6) hisR ?_
  intro p e s m args below meth c s₁ Bd hml0 hP hK
  obtain ⟨rfl, hZ, hh⟩ := hP
  have hx := Bd.exec
  have hby := Bd.bytes
  have hml : c.maxLocals = 2 := hml0
  have hlk : meth.locks = false := BodyLoose.notSynchronized Bd
  have hown : s.vm.findClass "com/example/upcaster/upcaster/io/BinaryEncoder" = some m.cls := findClass_of_methodNamed Bd.named
  have hnm := (name_of_methodNamed Bd.named Bd.method).1
  have w_2 := hw _ (List.mem_of_getElem? (i := 2) rfl)
  have w_11 := hw _ (List.mem_of_getElem? (i := 11) rfl)
  have w_21 := hw _ (List.mem_of_getElem? (i := 21) rfl)
  have w_22 := hw _ (List.mem_of_getElem? (i := 22) rfl)
  have w_33 := hw _ (List.mem_of_getElem? (i := 33) rfl)
  have w_34 := hw _ (List.mem_of_getElem? (i := 34) rfl)
  have w_35 := hw _ (List.mem_of_getElem? (i := 35) rfl)
  have w_36 := hw _ (List.mem_of_getElem? (i := 36) rfl)
  have w_69 := hw _ (List.mem_of_getElem? (i := 69) rfl)
  have hci : ∀ i v, (i, v) ∈ ([(134, 2147483639)] : List (Nat × Int32)) → (Jvm.Cond.constant "com/example/upcaster/upcaster/io/BinaryEncoder" i v).before #[(.ref x0), (.int x1)] s = true := (own_ciS (mvT hZ w_69) own_ci0)
  have hcl : ∀ i v, (i, v) ∈ ([] : List (Nat × Int64)) → (Jvm.Cond.constantLong "com/example/upcaster/upcaster/io/BinaryEncoder" i v).before #[(.ref x0), (.int x1)] s = true := own_ci0
  have X0 : Stand p l e ({ frames := 2, cells := 0, slots := 0, locals := 28 } : Room) s m #[(.ref x0), (.int x1)] below meth c s₁ [] 0 0 := Stand.of_body Bd
  have e0 : s₁.heap = h0 := by rw [← hh, Bd.state]; rfl
  have N0 := Fr.nil n0
  show Goes p e below s (Q6 Z x0 x1 bf w h0 n0) ({ frames := 2, cells := 0, slots := 0, locals := 28 } : Room).cells ({ frames := 2, cells := 0, slots := 0, locals := 28 } : Room).slots (s₁.setTop (entryFrame m #[(.ref x0), (.int x1)] 2))
  refine Goes.cast (ef6 m x0 x1) ?_
  have K0 : Keep h0 h0 [x0] := Keep.refl h0 _
  refine Goes.run X0 hx hown hci hcl hby (L := [(0, .aload_n 0, 1), (1, .iload_n 1, 1), (2, .aload_n 0, 1)]) (by decide +kernel) rfl (g' := (mkF m 3 #[rv x0, iv x1] [(.ref x0), (.int x1), (.ref x0)])) rfl ?_
  obtain ⟨T1, X1, e1, st1⟩ := getF X0 hx hZ hown (host := "") (Or.inl w_21) Via.refl e0 F_size_x0 (g := (mkF m 3 #[rv x0, iv x1] [(.ref x0), (.int x1), (.ref x0)])) rfl rfl (hb hby d6_3)
  refine Goes.st (B := T1.setTop (mkF m 6 #[rv x0, iv x1] [(.int w), (.int x1), (.ref x0)])) st1 ?_
  refine Goes.run X1 hx hown hci hcl hby (L := [(6, .iconst 1, 1), (7, .iadd, 1)]) (by decide +kernel) rfl (g' := (mkF m 8 #[rv x0, iv x1] [(.int (c6_8_0 x1 w)), (.int x1), (.ref x0)])) rfl ?_
  obtain ⟨_, _, ⟨T2, L2, k2, n2⟩, -, X2, ⟨Lc2, hQ2, l2, y2, z2⟩, st2⟩ := Jvm.LawKit.callS X1 hx (y := ym4) hown (mvT hZ w_33) (mvT hZ w_34) (mvT hZ w_35) (mvT hZ w_36) (by decide) (backOf (W := 1) (rm5 l Z a0 hw [] x1 (c6_8_0 x1 w) h0 n0 Z0 p1 p2) hZ w_36 w_35 (by decide) (by decide)) (g := (mkF m 8 #[rv x0, iv x1] [(.int (c6_8_0 x1 w)), (.int x1), (.ref x0)])) rfl (by rw [hml]; rfl) (argsL := [(.int x1), (.int (c6_8_0 x1 w))]) (rest := [(.ref x0)]) (lenOf pd6_0 rfl) rfl (by show 2 * 0 + _ ≤ _; exact Nat.le_of_eq rfl) (hb hby d6_8) (fun _ _ => ⟨rfl, e1, (by decide : 0 + 0 ≤ _), (by decide : 0 + 0 ≤ _)⟩)
  dsimp only [Pt.U, Pt.locs, Pt.cells, Pt.slots] at X2 l2 y2 z2 st2 hQ2
  subst l2 y2 z2
  obtain ⟨rfl, N2q, e2⟩ := hQ2
  have N2 := Fr.app N0 N2q
  refine Goes.st (B := T2.setTop (mkF m 11 #[rv x0, iv x1] [(.int x1), (.ref x0)])) st2 ?_
  obtain ⟨T3, h3, X3, e3, W3, st3⟩ := putF X2 hx hZ hown (host := "") (Or.inl w_21) Via.refl e2 F_size_x0 E_x0 (Or.inl w_22) w_2 (ty := .int) (by decide) rfl rfl (g := (mkF m 11 #[rv x0, iv x1] [(.int x1), (.ref x0)])) rfl rfl (hb hby d6_11)
  have E_x0 := E_x0.wr W3
  have F_buffer_x0 := F_buffer_x0.other W3 (Or.inr (slot_ne (Or.inl w_11) (Or.inl w_22) (by decide) (t := (.array .byte)) (t' := .int) (by decide) (by decide)))
  have F_size_x0 : Fld Z h3 x0 "com/example/upcaster/upcaster/io/BinaryEncoder" "size" "I" (.int x1) := F_size_x0.same W3
  have Zn3 : n0 ≤ h3.size := Nat.le_trans Z0 (Keep.of_wr W3).1
  have K3 := K0.wr W3 (Or.inl (List.mem_of_getElem? (i := 0) rfl))
  have N3 := Fr.snoc X3 N2 g_x0
  refine Goes.st (B := T3.setTop (mkF m 14 #[rv x0, iv x1] [])) st3 ?_
  refine Goes.retV X3 hx hlk Bd.returns (hb hby d6_14) ?_ (by decide) (by decide)
  show (Q6 Z x0 x1 bf w h0 n0) _ _ _
  rw [e3]
  exact ⟨rfl, N3, K3, E_x0, F_buffer_x0, F_size_x0⟩
theorem d7_1 : decode prog_6_method_2_code 1 = .ok (.getfield 13, 3) := by decide +kernel
theorem d7_4 : decode prog_6_method_2_code 4 = .ok (.ireturn, 1) := by decide +kernel
theorem pn7 : plainName "com/example/upcaster/upcaster/io/BinaryEncoder" = true := by first | (simp [plainName, overriddenIn]; done) | decide +kernel
theorem ef7 (m : MethodId) (x0 : Addr) : entryFrame m #[(.ref x0)] 1 = (mkF m 0 #[rv x0] []) := by first | (simp [entryFrame, mkF, argsToLocals, Value.category]; done) | rfl
def r7 (w : Int32) : Int32 := w
set_option maxRecDepth 65536 in
set_option maxHeartbeats 40000000 in
theorem rm7 (l : Launch) (Z : State) (a0 : Array Value) (hw : ∀ d ∈ tables_1, d.before a0 Z = true) (ws : List Jvm.Cond) (x0 : Addr) (w : Int32) (h0 : Heap) (n0 : Nat) (Z0 : n0 ≤ h0.size) (F_size_x0 : Fld Z h0 x0 "com/example/upcaster/upcaster/io/BinaryEncoder" "size" "I" (.int w)) :
    MetFree l ym6 (head1 (Jvm.Cond.code ym6 prog_6_method_2_code 1 (some .int) :: ws) ({ frames := 0, cells := 0, slots := 0, locals := 0 } : Room)) (fun a U => a = #[(.ref x0)] ∧ Z.Warmed39 U.vm ∧ U.heap = h0) (fun _ _ _ _ _ => True) (fun _ U o U' => ∃ v L, o = .returned v ∧ (QP (some (.int (r7 w))) h0 n0) v U'.heap L ∧ FrameEnd U o U' L ({ frames := 0, cells := 0, slots := 0, locals := 0 } : Room).cells ({ frames := 0, cells := 0, slots := 0, locals := 0 } : Room).slots) := by
  refine MetFree.of_bodySF (plainFor_of_name pn7) hisR ?_
  intro p e s m args below meth c s₁ Bd hml0 hP hK
  obtain ⟨rfl, hZ, hh⟩ := hP
  have hx := Bd.exec
  have hby := Bd.bytes
  have hml : c.maxLocals = 1 := hml0
  have hlk : meth.locks = false := BodyLoose.notSynchronized Bd
  have hown : s.vm.findClass "com/example/upcaster/upcaster/io/BinaryEncoder" = some m.cls := findClass_of_methodNamed Bd.named
  have hnm := (name_of_methodNamed Bd.named Bd.method).1
  have w_21 := hw _ (List.mem_of_getElem? (i := 21) rfl)
  have w_69 := hw _ (List.mem_of_getElem? (i := 69) rfl)
  have hci : ∀ i v, (i, v) ∈ ([(134, 2147483639)] : List (Nat × Int32)) → (Jvm.Cond.constant "com/example/upcaster/upcaster/io/BinaryEncoder" i v).before #[(.ref x0)] s = true := (own_ciS (mvT hZ w_69) own_ci0)
  have hcl : ∀ i v, (i, v) ∈ ([] : List (Nat × Int64)) → (Jvm.Cond.constantLong "com/example/upcaster/upcaster/io/BinaryEncoder" i v).before #[(.ref x0)] s = true := own_ci0
  have X0 : Stand p l e ({ frames := 0, cells := 0, slots := 0, locals := 0 } : Room) s m #[(.ref x0)] below meth c s₁ [] 0 0 := Stand.of_body Bd
  have e0 : s₁.heap = h0 := by rw [← hh, Bd.state]; rfl
  have N0 := Fr.nil n0
  show Goes p e below s (QP (some (.int (r7 w))) h0 n0) ({ frames := 0, cells := 0, slots := 0, locals := 0 } : Room).cells ({ frames := 0, cells := 0, slots := 0, locals := 0 } : Room).slots (s₁.setTop (entryFrame m #[(.ref x0)] 1))
  refine Goes.cast (ef7 m x0) ?_
  refine Goes.run X0 hx hown hci hcl hby (L := [(0, .aload_n 0, 1)]) (by decide +kernel) rfl (g' := (mkF m 1 #[rv x0] [(.ref x0)])) rfl ?_
  obtain ⟨T1, X1, e1, st1⟩ := getF X0 hx hZ hown (host := "") (Or.inl w_21) Via.refl e0 F_size_x0 (g := (mkF m 1 #[rv x0] [(.ref x0)])) rfl rfl (hb hby d7_1)
  refine Goes.st (B := T1.setTop (mkF m 4 #[rv x0] [(.int w)])) st1 ?_
  exact Goes.retI X1 hx hlk Bd.returns (hb hby d7_4) ⟨(congrArg (fun z => some (Value.int z)) (show (r7 w) = w from rfl).symm), N0, e1⟩ (by decide) (by decide)
theorem d8_2 : decode jdk_29_method_69_code 2 = .ok (.if_icmp .gt 7, 3) := by decide +kernel
theorem d8_10 : decode jdk_29_method_69_code 10 = .ok (.ireturn, 1) := by decide +kernel
theorem ef8 (m : MethodId) (x0 : Int32) (x1 : Int32) : entryFrame m #[(.int x0), (.int x1)] 2 = (mkF m 0 #[iv x0, iv x1] []) := by first | (simp [entryFrame, mkF, argsToLocals, Value.category]; done) | rfl
def r8 (x0 : Int32) (x1 : Int32) : Int32 := (if x1 < x0 then x1 else x0)
set_option maxRecDepth 65536 in
set_option maxHeartbeats 40000000 in
theorem rm8 (l : Launch) (Z : State) (a0 : Array Value) (hw : ∀ d ∈ tables_1, d.before a0 Z = true) (ws : List Jvm.Cond) (x0 : Int32) (x1 : Int32) (h0 : Heap) (n0 : Nat) (Z0 : n0 ≤ h0.size) :
    MetFree l ym7 (head1 (Jvm.Cond.code ym7 jdk_29_method_69_code 2 (some .int) :: ws) ({ frames := 0, cells := 0, slots := 0, locals := 0 } : Room)) (fun a U => a = #[(.int x0), (.int x1)] ∧ Z.Warmed39 U.vm ∧ U.heap = h0) (fun _ _ _ _ _ => True) (fun _ U o U' => ∃ v L, o = .returned v ∧ (QP (some (.int (r8 x0 x1))) h0 n0) v U'.heap L ∧ FrameEnd U o U' L ({ frames := 0, cells := 0, slots := 0, locals := 0 } : Room).cells ({ frames := 0, cells := 0, slots := 0, locals := 0 } : Room).slots) := by
  refine MetFree.of_bodySF (Jvm.Free.JP.mathPlain rfl (by decide +kernel)) hisR ?_
  intro p e s m args below meth c s₁ Bd hml0 hP hK
  obtain ⟨rfl, hZ, hh⟩ := hP
  have hx := Bd.exec
  have hby := Bd.bytes
  have hml : c.maxLocals = 2 := hml0
  have hlk : meth.locks = false := BodyLoose.notSynchronized Bd
  have hown : s.vm.findClass "java/lang/Math" = some m.cls := findClass_of_methodNamed Bd.named
  have hnm := (name_of_methodNamed Bd.named Bd.method).1
  have hci : ∀ i v, (i, v) ∈ ([] : List (Nat × Int32)) → (Jvm.Cond.constant "java/lang/Math" i v).before #[(.int x0), (.int x1)] s = true := own_ci0
  have hcl : ∀ i v, (i, v) ∈ ([] : List (Nat × Int64)) → (Jvm.Cond.constantLong "java/lang/Math" i v).before #[(.int x0), (.int x1)] s = true := own_ci0
  have X0 : Stand p l e ({ frames := 0, cells := 0, slots := 0, locals := 0 } : Room) s m #[(.int x0), (.int x1)] below meth c s₁ [] 0 0 := Stand.of_body Bd
  have e0 : s₁.heap = h0 := by rw [← hh, Bd.state]; rfl
  have N0 := Fr.nil n0
  show Goes p e below s (QP (some (.int (r8 x0 x1))) h0 n0) ({ frames := 0, cells := 0, slots := 0, locals := 0 } : Room).cells ({ frames := 0, cells := 0, slots := 0, locals := 0 } : Room).slots (s₁.setTop (entryFrame m #[(.int x0), (.int x1)] 2))
  refine Goes.cast (ef8 m x0 x1) ?_
  refine Goes.run X0 hx hown hci hcl hby (L := [(0, .iload_n 0, 1), (1, .iload_n 1, 1)]) (by decide +kernel) rfl (g' := (mkF m 2 #[iv x0, iv x1] [(.int x1), (.int x0)])) rfl ?_
  by_cases hc2_1 : x1 < x0
  · skip
    refine Goes.st (B := s₁.setTop (mkF m 9 #[iv x0, iv x1] [])) (fun t k => ?_) ?_
    · refine XS.icmpYes X0.here hx rfl (pc0 := 2) (pc' := 9) rfl (hb hby d8_2) rfl (tlt hc2_1).2.2.1 (by decide) (by decide) ?_
      exact k
    refine Goes.run X0 hx hown hci hcl hby (L := [(9, .iload_n 1, 1)]) (by decide +kernel) rfl (g' := (mkF m 10 #[iv x0, iv x1] [(.int x1)])) rfl ?_
    exact Goes.retI X0 hx hlk Bd.returns (hb hby d8_10) ⟨(congrArg (fun z => some (Value.int z)) (show (r8 x0 x1) = x1 from (if_pos hc2_1)).symm), N0, e0⟩ (by decide) (by decide)
  · skip
    refine Goes.st (B := s₁.setTop (mkF m 5 #[iv x0, iv x1] [])) (fun t k => ?_) ?_
    · refine XS.icmpNo X0.here hx rfl (hb hby d8_2) rfl (flt hc2_1).2.2.1 ?_
      exact k
    refine Goes.run X0 hx hown hci hcl hby (L := [(5, .iload_n 0, 1), (6, .goto 4, 3)]) (by decide +kernel) rfl (g' := (mkF m 10 #[iv x0, iv x1] [(.int x0)])) rfl ?_
    exact Goes.retI X0 hx hlk Bd.returns (hb hby d8_10) ⟨(congrArg (fun z => some (Value.int z)) (show (r8 x0 x1) = x0 from (if_neg hc2_1)).symm), N0, e0⟩ (by decide) (by decide)
theorem d9_2 : decode prog_6_method_7_code 2 = .ok (.invokevirtual 35, 3) := by decide +kernel
theorem d9_6 : decode prog_6_method_7_code 6 = .ok (.getfield 9, 3) := by decide +kernel
theorem d9_11 : decode prog_6_method_7_code 11 = .ok (.getfield 13, 3) := by decide +kernel
theorem d9_14 : decode prog_6_method_7_code 14 = .ok (.dup_x1, 1) := by decide +kernel
theorem d9_17 : decode prog_6_method_7_code 17 = .ok (.putfield 13, 3) := by decide +kernel
theorem d9_21 : decode prog_6_method_7_code 21 = .ok (.ifCond .eq 7, 3) := by decide +kernel
theorem d9_30 : decode prog_6_method_7_code 30 = .ok (.bastore, 1) := by decide +kernel
theorem d9_31 : decode prog_6_method_7_code 31 = .ok (.return_, 1) := by decide +kernel
theorem pn90 : plainName "com/example/upcaster/upcaster/io/BinaryEncoder" = true := by first | (simp [plainName, overriddenIn]; done) | decide +kernel
theorem pd90_0 : parseMethodDescriptor "(I)V" = some ⟨[.int], none⟩ := by decide +kernel
theorem ef90 (m : MethodId) (x0 : Addr) (x1 : Int32) : entryFrame m #[(.ref x0), (.int x1)] 2 = (mkF m 0 #[rv x0, iv x1] []) := by first | (simp [entryFrame, mkF, argsToLocals, Value.category]; done) | rfl
def j90_29_s0 (x1 : Int32) (u0 : Int32) (u1 : Int32) (u2 : Int32) (u3 : Int32) (u4 : Int32) (u5 : Int32) (u6 : Int32) (u7 : Int32) : Int32 := (if x1 = (0 : Int32) then (0 : Int32) else (1 : Int32))
def w90_30 (x1 : Int32) (u0 : Int32) (u1 : Int32) (u2 : Int32) (u3 : Int32) (u4 : Int32) (u5 : Int32) (u6 : Int32) (u7 : Int32) : Int32 := (nar .byte ((j90_29_s0 x1 u0 u1 u2 u3 u4 u5 u6 u7).toInt8.toInt32))
def Q90 (Z : State) (x0 : Addr) (x1 : Int32) (bf : Addr) (kb : ClassId) (u0 : Int32) (u1 : Int32) (u2 : Int32) (u3 : Int32) (u4 : Int32) (u5 : Int32) (u6 : Int32) (u7 : Int32) (h0 : Heap) (n0 : Nat) (v : Option Value) (h : Heap) (L : List Loc) : Prop := v = none ∧ Fr n0 L ∧ Keep h0 h [x0, bf] ∧ Exa Z h x0 "com/example/upcaster/upcaster/io/BinaryEncoder" ∧ Fld Z h x0 "com/example/upcaster/upcaster/io/BinaryEncoder" "buffer" "[B" (.ref bf) ∧ Fld Z h x0 "com/example/upcaster/upcaster/io/BinaryEncoder" "size" "I" (.int (1 : Int32)) ∧ Exa Z h bf "[B" ∧ Arv Z h bf kb .byte (256 : Int32) [(.int (w90_30 x1 u0 u1 u2 u3 u4 u5 u6 u7)), (.int u1), (.int u2), (.int u3), (.int u4), (.int u5), (.int u6), (.int u7)] (.int (0 : Int32))
set_option maxRecDepth 65536 in
set_option maxHeartbeats 40000000 in
theorem rm90 (l : Launch) (Z : State) (a0 : Array Value) (hw : ∀ d ∈ tables_1, d.before a0 Z = true) (ws : List Jvm.Cond) (x0 : Addr) (x1 : Int32) (bf : Addr) (kb : ClassId) (u0 : Int32) (u1 : Int32) (u2 : Int32) (u3 : Int32) (u4 : Int32) (u5 : Int32) (u6 : Int32) (u7 : Int32) (h0 : Heap) (n0 : Nat) (Z0 : n0 ≤ h0.size) (E_x0 : Exa Z h0 x0 "com/example/upcaster/upcaster/io/BinaryEncoder") (F_buffer_x0 : Fld Z h0 x0 "com/example/upcaster/upcaster/io/BinaryEncoder" "buffer" "[B" (.ref bf)) (F_size_x0 : Fld Z h0 x0 "com/example/upcaster/upcaster/io/BinaryEncoder" "size" "I" (.int (0 : Int32))) (E_bf : Exa Z h0 bf "[B") (V_bf : Arv Z h0 bf kb .byte (256 : Int32) [(.int u0), (.int u1), (.int u2), (.int u3), (.int u4), (.int u5), (.int u6), (.int u7)] (.int (0 : Int32))) (g_x0 : n0 ≤ x0) (g_bf : n0 ≤ bf) (hn1 : x0 ≠ bf) :
    MetFree l ym8 (head1 (Jvm.Cond.code ym8 prog_6_method_7_code 2 none :: ws) ({ frames := 1, cells := 0, slots := 0, locals := 13 } : Room)) (fun a U => a = #[(.ref x0), (.int x1)] ∧ Z.Warmed39 U.vm ∧ U.heap = h0) (fun _ _ _ _ _ => True) (fun _ U o U' => ∃ v L, o = .returned v ∧ (Q90 Z x0 x1 bf kb u0 u1 u2 u3 u4 u5 u6 u7 h0 n0) v U'.heap L ∧ FrameEnd U o U' L ({ frames := 1, cells := 0, slots := 0, locals := 13 } : Room).cells ({ frames := 1, cells := 0, slots := 0, locals := 13 } : Room).slots) := by
  refine MetFree.of_bodySF (plainFor_of_name pn90) hisR ?_
  intro p e s m args below meth c s₁ Bd hml0 hP hK
  obtain ⟨rfl, hZ, hh⟩ := hP
  have hx := Bd.exec
  have hby := Bd.bytes
  have hml : c.maxLocals = 2 := hml0
  have hlk : meth.locks = false := BodyLoose.notSynchronized Bd
  have hown : s.vm.findClass "com/example/upcaster/upcaster/io/BinaryEncoder" = some m.cls := findClass_of_methodNamed Bd.named
  have hnm := (name_of_methodNamed Bd.named Bd.method).1
  have w_2 := hw _ (List.mem_of_getElem? (i := 2) rfl)
  have w_3 := hw _ (List.mem_of_getElem? (i := 3) rfl)
  have w_10 := hw _ (List.mem_of_getElem? (i := 10) rfl)
  have w_11 := hw _ (List.mem_of_getElem? (i := 11) rfl)
  have w_17 := hw _ (List.mem_of_getElem? (i := 17) rfl)
  have w_18 := hw _ (List.mem_of_getElem? (i := 18) rfl)
  have w_19 := hw _ (List.mem_of_getElem? (i := 19) rfl)
  have w_20 := hw _ (List.mem_of_getElem? (i := 20) rfl)
  have w_21 := hw _ (List.mem_of_getElem? (i := 21) rfl)
  have w_22 := hw _ (List.mem_of_getElem? (i := 22) rfl)
  have w_69 := hw _ (List.mem_of_getElem? (i := 69) rfl)
  have hci : ∀ i v, (i, v) ∈ ([(134, 2147483639)] : List (Nat × Int32)) → (Jvm.Cond.constant "com/example/upcaster/upcaster/io/BinaryEncoder" i v).before #[(.ref x0), (.int x1)] s = true := (own_ciS (mvT hZ w_69) own_ci0)
  have hcl : ∀ i v, (i, v) ∈ ([] : List (Nat × Int64)) → (Jvm.Cond.constantLong "com/example/upcaster/upcaster/io/BinaryEncoder" i v).before #[(.ref x0), (.int x1)] s = true := own_ci0
  have X0 : Stand p l e ({ frames := 1, cells := 0, slots := 0, locals := 13 } : Room) s m #[(.ref x0), (.int x1)] below meth c s₁ [] 0 0 := Stand.of_body Bd
  have e0 : s₁.heap = h0 := by rw [← hh, Bd.state]; rfl
  have N0 := Fr.nil n0
  show Goes p e below s (Q90 Z x0 x1 bf kb u0 u1 u2 u3 u4 u5 u6 u7 h0 n0) ({ frames := 1, cells := 0, slots := 0, locals := 13 } : Room).cells ({ frames := 1, cells := 0, slots := 0, locals := 13 } : Room).slots (s₁.setTop (entryFrame m #[(.ref x0), (.int x1)] 2))
  refine Goes.cast (ef90 m x0 x1) ?_
  have K0 : Keep h0 h0 [x0, bf] := Keep.refl h0 _
  refine Goes.run X0 hx hown hci hcl hby (L := [(0, .aload_n 0, 1), (1, .iconst 1, 1)]) (by decide +kernel) rfl (g' := (mkF m 2 #[rv x0, iv x1] [(.int (1 : Int32)), (.ref x0)])) rfl ?_
  obtain ⟨cq1, q1a, q1b⟩ := E_x0.cell
  obtain ⟨_, _, ⟨T1, L1, k1, n1⟩, -, X1, ⟨Lc1, hQ1, l1, y1, z1⟩, st1⟩ := X0.privateBack hx (y := ym1) hown (mvT hZ w_17) (mvT hZ w_18) (own_selp (y := ym1) (mvT hZ w_2) (mvP hZ w_19) (mvT hZ w_18) (by decide)) (Cond.privateMethod_at (mvP hZ w_19 (args := #[]))) (mvT hZ w_20) (by decide) (backOf (W := 0) (rm2 l Z a0 hw [] x0 (1 : Int32) bf kb [(.int u0), (.int u1), (.int u2), (.int u3), (.int u4), (.int u5), (.int u6), (.int u7)] (0 : Int32) h0 n0 Z0 F_buffer_x0 F_size_x0 V_bf (by decide)) hZ w_20 w_3 (by decide) (by decide)) (g := (mkF m 2 #[rv x0, iv x1] [(.int (1 : Int32)), (.ref x0)])) rfl (by rw [hml]; rfl) (Steps.refl _) (a := x0) (by rw [e0]; exact q1a) q1b (argsL := [(.int (1 : Int32))]) (rest := []) (lenOf pd90_0 rfl) rfl (by show 2 * 0 + _ ≤ _; exact Nat.le_of_eq rfl) (hb hby d9_2) (fun _ _ => ⟨rfl, e0, (by decide : 0 + 0 ≤ _), (by decide : 0 + 0 ≤ _)⟩)
  dsimp only [Pt.U, Pt.locs, Pt.cells, Pt.slots] at X1 l1 y1 z1 st1 hQ1
  subst l1 y1 z1
  obtain ⟨rfl, N1q, e1⟩ := hQ1
  have N1 := Fr.app N0 N1q
  refine Goes.st (B := T1.setTop (mkF m 5 #[rv x0, iv x1] [])) (fun t k => st1.trans k) ?_
  refine Goes.run X1 hx hown hci hcl hby (L := [(5, .aload_n 0, 1)]) (by decide +kernel) rfl (g' := (mkF m 6 #[rv x0, iv x1] [(.ref x0)])) rfl ?_
  obtain ⟨T2, X2, e2, st2⟩ := getF X1 hx hZ hown (host := "") (Or.inl w_10) Via.refl e1 F_buffer_x0 (g := (mkF m 6 #[rv x0, iv x1] [(.ref x0)])) rfl rfl (hb hby d9_6)
  refine Goes.st (B := T2.setTop (mkF m 9 #[rv x0, iv x1] [(.ref bf)])) st2 ?_
  refine Goes.run X2 hx hown hci hcl hby (L := [(9, .aload_n 0, 1), (10, .dup, 1)]) (by decide +kernel) rfl (g' := (mkF m 11 #[rv x0, iv x1] [(.ref x0), (.ref x0), (.ref bf)])) rfl ?_
  obtain ⟨T3, X3, e3, st3⟩ := getF X2 hx hZ hown (host := "") (Or.inl w_21) Via.refl e2 F_size_x0 (g := (mkF m 11 #[rv x0, iv x1] [(.ref x0), (.ref x0), (.ref bf)])) rfl rfl (hb hby d9_11)
  refine Goes.st (B := T3.setTop (mkF m 14 #[rv x0, iv x1] [(.int (0 : Int32)), (.ref x0), (.ref bf)])) st3 ?_
  refine Goes.st (B := T3.setTop (mkF m 15 #[rv x0, iv x1] [(.int (0 : Int32)), (.ref x0), (.int (0 : Int32)), (.ref bf)])) (fun t k => ?_) ?_
  · refine XS.dupX1 X3.here hx rfl (hb hby d9_14) rfl rfl rfl ?_
    exact k
  refine Goes.run X3 hx hown hci hcl hby (L := [(15, .iconst 1, 1), (16, .iadd, 1)]) (by decide +kernel) rfl (g' := (mkF m 17 #[rv x0, iv x1] [(.int (1 : Int32)), (.ref x0), (.int (0 : Int32)), (.ref bf)])) rfl ?_
  obtain ⟨T4, h4, X4, e4, W4, st4⟩ := putF X3 hx hZ hown (host := "") (Or.inl w_21) Via.refl e3 F_size_x0 E_x0 (Or.inl w_22) w_2 (ty := .int) (by decide) rfl rfl (g := (mkF m 17 #[rv x0, iv x1] [(.int (1 : Int32)), (.ref x0), (.int (0 : Int32)), (.ref bf)])) rfl rfl (hb hby d9_17)
  have E_x0 := E_x0.wr W4
  have F_buffer_x0 := F_buffer_x0.other W4 (Or.inr (slot_ne (Or.inl w_11) (Or.inl w_22) (by decide) (t := (.array .byte)) (t' := .int) (by decide) (by decide)))
  have F_size_x0 : Fld Z h4 x0 "com/example/upcaster/upcaster/io/BinaryEncoder" "size" "I" (.int (1 : Int32)) := F_size_x0.same W4
  have E_bf := E_bf.wr W4
  have V_bf := V_bf.other W4 (Ne.symm hn1)
  have Zn4 : n0 ≤ h4.size := Nat.le_trans Z0 (Keep.of_wr W4).1
  have K4 := K0.wr W4 (Or.inl (List.mem_of_getElem? (i := 0) rfl))
  have N4 := Fr.snoc X4 N1 g_x0
  refine Goes.st (B := T4.setTop (mkF m 20 #[rv x0, iv x1] [(.int (0 : Int32)), (.ref bf)])) st4 ?_
  refine Goes.run X4 hx hown hci hcl hby (L := [(20, .iload_n 1, 1)]) (by decide +kernel) rfl (g' := (mkF m 21 #[rv x0, iv x1] [(.int x1), (.int (0 : Int32)), (.ref bf)])) rfl ?_
  have jn29_6 : Goes p e below s (Q90 Z x0 x1 bf kb u0 u1 u2 u3 u4 u5 u6 u7 h0 n0) ({ frames := 1, cells := 0, slots := 0, locals := 13 } : Room).cells ({ frames := 1, cells := 0, slots := 0, locals := 13 } : Room).slots (T4.setTop (mkF m 29 #[rv x0, iv x1] [(.int (j90_29_s0 x1 u0 u1 u2 u3 u4 u5 u6 u7)), (.int (0 : Int32)), (.ref bf)])) := by
    refine Goes.run X4 hx hown hci hcl hby (L := [(29, .i2b, 1)]) (by decide +kernel) rfl (g' := (mkF m 30 #[rv x0, iv x1] [(.int ((j90_29_s0 x1 u0 u1 u2 u3 u4 u5 u6 u7).toInt8.toInt32)), (.int (0 : Int32)), (.ref bf)])) rfl ?_
    obtain ⟨cl7, Ar7, q7, S7, M7, Hs7, G7⟩ := id V_bf
    have hin7 : ¬ ((0 : Int32) < 0 ∨ cl7.slots.size ≤ ((0 : Int32)).toNatClampNeg) := inb_of S7 ⟨(by decide), (by decide)⟩
    obtain ⟨T7, h7, X7, e7, W7, st7⟩ := stB X4 hx hZ e4 Ar7 (j := (0 : Int32)) hin7 (g := (mkF m 30 #[rv x0, iv x1] [(.int ((j90_29_s0 x1 u0 u1 u2 u3 u4 u5 u6 u7).toInt8.toInt32)), (.int (0 : Int32)), (.ref bf)])) rfl rfl (hb hby d9_30)
    have E_x0 := E_x0.wr W7
    have F_buffer_x0 := F_buffer_x0.other W7 (Or.inl hn1)
    have F_size_x0 := F_size_x0.other W7 (Or.inl hn1)
    have E_bf := E_bf.wr W7
    have Zn7 : n0 ≤ h7.size := Nat.le_trans Zn4 (Keep.of_wr W7).1
    have K7 := K4.wr W7 (Or.inl (List.mem_of_getElem? (i := 1) rfl))
    have N7 := Fr.snoc X7 N4 g_bf
    have V_bf : Arv Z h7 bf kb .byte (256 : Int32) [(.int (w90_30 x1 u0 u1 u2 u3 u4 u5 u6 u7)), (.int u1), (.int u2), (.int u3), (.int u4), (.int u5), (.int u6), (.int u7)] (.int (0 : Int32)) := Arv.set Ar7 q7 S7 M7 Hs7 G7 (fits_nar_byte _) W7 0 rfl (Nat.le_of_ble_eq_true rfl)
    refine Goes.st (B := T7.setTop (mkF m 31 #[rv x0, iv x1] [])) st7 ?_
    refine Goes.retV X7 hx hlk Bd.returns (hb hby d9_31) ?_ (by decide) (by decide)
    show (Q90 Z x0 x1 bf kb u0 u1 u2 u3 u4 u5 u6 u7 h0 n0) _ _ _
    rw [e7]
    exact ⟨rfl, N7, K7, E_x0, F_buffer_x0, F_size_x0, E_bf, V_bf⟩
  by_cases hc21_5 : x1 = (0 : Int32)
  · skip
    refine Goes.st (B := T4.setTop (mkF m 28 #[rv x0, iv x1] [(.int (0 : Int32)), (.ref bf)])) (fun t k => ?_) ?_
    · refine XS.ifYes X4.here hx rfl (pc0 := 21) (pc' := 28) rfl (hb hby d9_21) rfl ((if0 _ _).trans (teq hc21_5).1) (by decide) (by decide) ?_
      exact k
    refine Goes.run X4 hx hown hci hcl hby (L := [(28, .iconst 0, 1)]) (by decide +kernel) rfl (g' := (mkF m 29 #[rv x0, iv x1] [(.int (0 : Int32)), (.int (0 : Int32)), (.ref bf)])) rfl ?_
    have q := jn29_6
    rw [show (j90_29_s0 x1 u0 u1 u2 u3 u4 u5 u6 u7) = (0 : Int32) from (if_pos hc21_5)] at q
    exact q
  · skip
    refine Goes.st (B := T4.setTop (mkF m 24 #[rv x0, iv x1] [(.int (0 : Int32)), (.ref bf)])) (fun t k => ?_) ?_
    · refine XS.ifNo X4.here hx rfl (hb hby d9_21) rfl ((if0 _ _).trans (feq hc21_5).1) ?_
      exact k
    refine Goes.run X4 hx hown hci hcl hby (L := [(24, .iconst 1, 1), (25, .goto 4, 3)]) (by decide +kernel) rfl (g' := (mkF m 29 #[rv x0, iv x1] [(.int (1 : Int32)), (.int (0 : Int32)), (.ref bf)])) rfl ?_
    have q := jn29_6
    rw [show (j90_29_s0 x1 u0 u1 u2 u3 u4 u5 u6 u7) = (1 : Int32) from (if_neg hc21_5)] at q
    exact q
theorem d10_2 : decode jdk_65_method_121_code 2 = .ok (.arraylength, 1) := by decide +kernel
theorem d10_3 : decode jdk_65_method_121_code 3 = .ok (.if_icmp .ne 11, 3) := by decide +kernel
theorem d10_15 : decode jdk_65_method_121_code 15 = .ok (.newarray .byte, 2) := by decide +kernel
theorem d10_23 : decode jdk_65_method_121_code 23 = .ok (.arraylength, 1) := by decide +kernel
theorem d10_25 : decode jdk_65_method_121_code 25 = .ok (.invokestatic 304, 3) := by decide +kernel
theorem d10_28 : decode jdk_65_method_121_code 28 = .ok (.invokestatic 150, 3) := by decide +kernel
theorem d10_32 : decode jdk_65_method_121_code 32 = .ok (.areturn, 1) := by decide +kernel
theorem pnA0 : plainName "java/util/Arrays" = true := by first | (simp [plainName, overriddenIn]; done) | decide +kernel
theorem pdA0_0 : parseMethodDescriptor "(II)I" = some ⟨[.int, .int], some .int⟩ := by decide +kernel
theorem efA0 (m : MethodId) (x0 : Addr) : entryFrame m #[(.ref x0), (.int (1 : Int32))] 3 = (mkF m 0 #[rv x0, iv (1 : Int32), .unset] []) := by first | (simp [entryFrame, mkF, argsToLocals, Value.category]; done) | rfl
def QA0 (Z : State) (x0 : Addr) (kb : ClassId) (u0 : Int32) (u1 : Int32) (u2 : Int32) (u3 : Int32) (u4 : Int32) (u5 : Int32) (u6 : Int32) (u7 : Int32) (h0 : Heap) (n0 : Nat) (v : Option Value) (h : Heap) (L : List Loc) : Prop := ∃ (b : Addr) (k : ClassId), v = some (.ref b) ∧ Fr n0 L ∧ Keep h0 h [] ∧ h0.size ≤ b ∧ Exa Z h b "[B" ∧ Arv Z h b k .byte (1 : Int32) [(.int u0)] (.int (0 : Int32))
set_option maxRecDepth 65536 in
set_option maxHeartbeats 40000000 in
theorem rmA0 (l : Launch) (Z : State) (a0 : Array Value) (hw : ∀ d ∈ tables_1, d.before a0 Z = true) (ws : List Jvm.Cond) (x0 : Addr) (kb : ClassId) (u0 : Int32) (u1 : Int32) (u2 : Int32) (u3 : Int32) (u4 : Int32) (u5 : Int32) (u6 : Int32) (u7 : Int32) (h0 : Heap) (n0 : Nat) (Z0 : n0 ≤ h0.size) (V_x0 : Arv Z h0 x0 kb .byte (256 : Int32) [(.int u0), (.int u1), (.int u2), (.int u3), (.int u4), (.int u5), (.int u6), (.int u7)] (.int (0 : Int32))) :
    MetFree l ym9 (head1 (Jvm.Cond.code ym9 jdk_65_method_121_code 3 (some (.array .byte)) :: ws) ({ frames := 1, cells := 1, slots := 1, locals := 18 } : Room)) (fun a U => a = #[(.ref x0), (.int (1 : Int32))] ∧ Z.Warmed39 U.vm ∧ U.heap = h0) (fun _ _ _ _ _ => True) (fun _ U o U' => ∃ v L, o = .returned v ∧ (QA0 Z x0 kb u0 u1 u2 u3 u4 u5 u6 u7 h0 n0) v U'.heap L ∧ FrameEnd U o U' L ({ frames := 1, cells := 1, slots := 1, locals := 18 } : Room).cells ({ frames := 1, cells := 1, slots := 1, locals := 18 } : Room).slots) := by
  refine MetFree.of_bodySF (plainFor_of_name pnA0) hisR ?_
  intro p e s m args below meth c s₁ Bd hml0 hP hK
  obtain ⟨rfl, hZ, hh⟩ := hP
  have hx := Bd.exec
  have hby := Bd.bytes
  have hml : c.maxLocals = 3 := hml0
  have hlk : meth.locks = false := BodyLoose.notSynchronized Bd
  have hown : s.vm.findClass "java/util/Arrays" = some m.cls := findClass_of_methodNamed Bd.named
  have hnm := (name_of_methodNamed Bd.named Bd.method).1
  have w_0 := hw _ (List.mem_of_getElem? (i := 0) rfl)
  have w_24 := hw _ (List.mem_of_getElem? (i := 24) rfl)
  have w_25 := hw _ (List.mem_of_getElem? (i := 25) rfl)
  have w_26 := hw _ (List.mem_of_getElem? (i := 26) rfl)
  have w_60 := hw _ (List.mem_of_getElem? (i := 60) rfl)
  have w_61 := hw _ (List.mem_of_getElem? (i := 61) rfl)
  have w_62 := hw _ (List.mem_of_getElem? (i := 62) rfl)
  have w_63 := hw _ (List.mem_of_getElem? (i := 63) rfl)
  have w_64 := hw _ (List.mem_of_getElem? (i := 64) rfl)
  have hci : ∀ i v, (i, v) ∈ ([] : List (Nat × Int32)) → (Jvm.Cond.constant "java/util/Arrays" i v).before #[(.ref x0), (.int (1 : Int32))] s = true := own_ci0
  have hcl : ∀ i v, (i, v) ∈ ([] : List (Nat × Int64)) → (Jvm.Cond.constantLong "java/util/Arrays" i v).before #[(.ref x0), (.int (1 : Int32))] s = true := own_ci0
  have X0 : Stand p l e ({ frames := 1, cells := 1, slots := 1, locals := 18 } : Room) s m #[(.ref x0), (.int (1 : Int32))] below meth c s₁ [] 0 0 := Stand.of_body Bd
  have e0 : s₁.heap = h0 := by rw [← hh, Bd.state]; rfl
  have N0 := Fr.nil n0
  show Goes p e below s (QA0 Z x0 kb u0 u1 u2 u3 u4 u5 u6 u7 h0 n0) ({ frames := 1, cells := 1, slots := 1, locals := 18 } : Room).cells ({ frames := 1, cells := 1, slots := 1, locals := 18 } : Room).slots (s₁.setTop (entryFrame m #[(.ref x0), (.int (1 : Int32))] 3))
  refine Goes.cast (efA0 m x0) ?_
  have K0 : Keep h0 h0 [] := Keep.refl h0 _
  refine Goes.run X0 hx hown hci hcl hby (L := [(0, .iload_n 1, 1), (1, .aload_n 0, 1)]) (by decide +kernel) rfl (g' := (mkF m 2 #[rv x0, iv (1 : Int32), .unset] [(.ref x0), (.int (1 : Int32))])) rfl ?_
  obtain ⟨cl1, Ar1, q1, S1, M1, Hs1, G1⟩ := id V_x0
  refine Goes.st (B := s₁.setTop (mkF m 3 #[rv x0, iv (1 : Int32), .unset] [(.int (256 : Int32)), (.int (1 : Int32))])) (fun t k => ?_) ?_
  · refine X0.arraylength hx (cell := cl1) (by rw [e0]; exact Ar1.1) (State.isArrayOf_alike hZ.alike Ar1.2.1) (g := (mkF m 2 #[rv x0, iv (1 : Int32), .unset] [(.ref x0), (.int (1 : Int32))])) rfl (rest := [(.int (1 : Int32))]) rfl (hb hby d10_2) _ ?_
    rw [len_of S1 M1]
    exact k
  have hc3_2 : ¬ ((1 : Int32) = (256 : Int32)) := by decide
  refine Goes.st (B := s₁.setTop (mkF m 14 #[rv x0, iv (1 : Int32), .unset] [])) (fun t k => ?_) ?_
  · refine XS.icmpYes X0.here hx rfl (pc0 := 3) (pc' := 14) rfl (hb hby d10_3) rfl (feq hc3_2).2 (by decide) (by decide) ?_
    exact k
  refine Goes.run X0 hx hown hci hcl hby (L := [(14, .iload_n 1, 1)]) (by decide +kernel) rfl (g' := (mkF m 15 #[rv x0, iv (1 : Int32), .unset] [(.int (1 : Int32))])) rfl ?_
  obtain ⟨T3, h3, k3, X3, e3, E3, A3, B3, st3⟩ := newPE X0 hx hZ (aty := .byte) w_0 e0 (g := (mkF m 15 #[rv x0, iv (1 : Int32), .unset] [(.int (1 : Int32))])) rfl (hb hby d10_15) rfl (by decide) (cap := 1) (by decide) (by decide) (by decide) (by decide) (ad := "[B") (by decide)
  obtain ⟨b3, g3⟩ : ∃ z, z = h0.size := ⟨_, rfl⟩
  rw [← g3] at A3 B3 st3
  have ne_x0_b3 : x0 ≠ b3 := Nat.ne_of_lt (Nat.lt_of_lt_of_le V_x0.lt (Nat.le_of_eq g3.symm))
  have g_b3 : n0 ≤ b3 := Nat.le_trans Z0 (Nat.le_of_eq g3.symm)
  have sz_b3 : h0.size ≤ b3 := Nat.le_trans K0.1 (Nat.le_of_eq g3.symm)
  have V_x0 := V_x0.ext E3
  have Zn3 : n0 ≤ h3.size := Nat.le_trans Z0 E3.1
  have K3 := K0.ext E3
  have E_b3 : Exa Z h3 b3 "[B" := B3
  have V_b3 : Arv Z h3 b3 k3 .byte (1 : Int32) [(.int (0 : Int32))] (.int (0 : Int32)) := (Arv.new A3 (by decide)).pad (pad_rep [] (.int (0 : Int32)) 1)
  refine Goes.st (B := T3.setTop (mkF m 17 #[rv x0, iv (1 : Int32), .unset] [(.ref b3)])) st3 ?_
  refine Goes.run X3 hx hown hci hcl hby (L := [(17, .astore_n 2, 1), (18, .aload_n 0, 1), (19, .iconst 0, 1), (20, .aload_n 2, 1), (21, .iconst 0, 1), (22, .aload_n 0, 1)]) (by decide +kernel) rfl (g' := (mkF m 23 #[rv x0, iv (1 : Int32), rv b3] [(.ref x0), (.int (0 : Int32)), (.ref b3), (.int (0 : Int32)), (.ref x0)])) rfl ?_
  obtain ⟨cl4, Ar4, q4, S4, M4, Hs4, G4⟩ := id V_x0
  refine Goes.st (B := T3.setTop (mkF m 24 #[rv x0, iv (1 : Int32), rv b3] [(.int (256 : Int32)), (.int (0 : Int32)), (.ref b3), (.int (0 : Int32)), (.ref x0)])) (fun t k => ?_) ?_
  · refine X3.arraylength hx (cell := cl4) (by rw [e3]; exact Ar4.1) (State.isArrayOf_alike hZ.alike Ar4.2.1) (g := (mkF m 23 #[rv x0, iv (1 : Int32), rv b3] [(.ref x0), (.int (0 : Int32)), (.ref b3), (.int (0 : Int32)), (.ref x0)])) rfl (rest := [(.int (0 : Int32)), (.ref b3), (.int (0 : Int32)), (.ref x0)]) rfl (hb hby d10_23) _ ?_
    rw [len_of S4 M4]
    exact k
  refine Goes.run X3 hx hown hci hcl hby (L := [(24, .iload_n 1, 1)]) (by decide +kernel) rfl (g' := (mkF m 25 #[rv x0, iv (1 : Int32), rv b3] [(.int (1 : Int32)), (.int (256 : Int32)), (.int (0 : Int32)), (.ref b3), (.int (0 : Int32)), (.ref x0)])) rfl ?_
  obtain ⟨_, _, ⟨T5, L5, k5, n5⟩, -, X5, ⟨Lc5, hQ5, l5, y5, z5⟩, st5⟩ := Jvm.LawKit.callS X3 hx (y := ym7) hown (mvT hZ w_60) (mvT hZ w_61) (mvT hZ w_62) (mvT hZ w_63) (by decide) (backOf (W := 4) (rm8 l Z a0 hw [] (256 : Int32) (1 : Int32) h3 n0 Zn3 ) hZ w_63 w_62 (by decide) (by decide)) (g := (mkF m 25 #[rv x0, iv (1 : Int32), rv b3] [(.int (1 : Int32)), (.int (256 : Int32)), (.int (0 : Int32)), (.ref b3), (.int (0 : Int32)), (.ref x0)])) rfl (by rw [hml]; rfl) (argsL := [(.int (256 : Int32)), (.int (1 : Int32))]) (rest := [(.int (0 : Int32)), (.ref b3), (.int (0 : Int32)), (.ref x0)]) (lenOf pdA0_0 rfl) rfl (by show 2 * 0 + _ ≤ _; exact Nat.le_of_eq rfl) (hb hby d10_25) (fun _ _ => ⟨rfl, e3, (by decide : 1 + 0 ≤ _), (by decide : 1 + 0 ≤ _)⟩)
  dsimp only [Pt.U, Pt.locs, Pt.cells, Pt.slots] at X5 l5 y5 z5 st5 hQ5
  subst l5 y5 z5
  obtain ⟨rfl, N5q, e5⟩ := hQ5
  have N5 := Fr.app N0 N5q
  refine Goes.st (B := T5.setTop (mkF m 28 #[rv x0, iv (1 : Int32), rv b3] [(.int (1 : Int32)), (.int (0 : Int32)), (.ref b3), (.int (0 : Int32)), (.ref x0)])) st5 ?_
  obtain ⟨T6, h6, L6, X6, e6, N6, Kq6, Vq6, st6⟩ := cpA X5 hx hZ hown w_64 w_26 w_24 w_25 e5 V_x0 V_b3 (Or.inl ⟨rfl, rfl⟩) (sp := (0 : Int32)) (dp := (0 : Int32)) (nn := (1 : Int32)) (by decide) (by decide) (by decide) (by decide) (by decide) (us := [(.int u0)]) rfl (Nat.le_of_ble_eq_true rfl) N5 g_b3 (g := (mkF m 28 #[rv x0, iv (1 : Int32), rv b3] [(.int (1 : Int32)), (.int (0 : Int32)), (.ref b3), (.int (0 : Int32)), (.ref x0)])) rfl (by rw [hml]; rfl) (rest := []) rfl (hb hby d10_28) (by decide) (W := 0) (by show 2 * 0 + _ ≤ _; exact Nat.le_of_eq rfl) (by decide)
  have V_x0 := V_x0.keep Kq6 (ninS ne_x0_b3 nin0)
  have E_b3 := E_b3.keep Kq6
  have Zn6 : n0 ≤ h6.size := Nat.le_trans Zn3 Kq6.1
  have K6 := K3.trans Kq6 ((allS (Or.inr sz_b3) all0))
  have V_b3 : Arv Z h6 b3 k3 .byte (1 : Int32) [(.int u0)] (.int (0 : Int32)) := Vq6
  refine Goes.st (B := T6.setTop (mkF m 31 #[rv x0, iv (1 : Int32), rv b3] [])) st6 ?_
  refine Goes.run X6 hx hown hci hcl hby (L := [(31, .aload_n 2, 1)]) (by decide +kernel) rfl (g' := (mkF m 32 #[rv x0, iv (1 : Int32), rv b3] [(.ref b3)])) rfl ?_
  refine Goes.retR X6 hx hlk Bd.returns rfl rfl (hb hby d10_32) ?_ (by decide) (by decide)
  show (QA0 Z x0 kb u0 u1 u2 u3 u4 u5 u6 u7 h0 n0) _ _ _
  rw [e6]
  exact ⟨b3, k3, rfl, N6, K6, sz_b3, E_b3, V_b3⟩
theorem d11_1 : decode prog_6_method_6_code 1 = .ok (.getfield 9, 3) := by decide +kernel
theorem d11_5 : decode prog_6_method_6_code 5 = .ok (.getfield 13, 3) := by decide +kernel
theorem d11_8 : decode prog_6_method_6_code 8 = .ok (.invokestatic 29, 3) := by decide +kernel
theorem d11_11 : decode prog_6_method_6_code 11 = .ok (.areturn, 1) := by decide +kernel
theorem pnB0 : plainName "com/example/upcaster/upcaster/io/BinaryEncoder" = true := by first | (simp [plainName, overriddenIn]; done) | decide +kernel
theorem pdB0_0 : parseMethodDescriptor "([BI)[B" = some ⟨[(.array .byte), .int], some (.array .byte)⟩ := by decide +kernel
theorem efB0 (m : MethodId) (x0 : Addr) : entryFrame m #[(.ref x0)] 1 = (mkF m 0 #[rv x0] []) := by first | (simp [entryFrame, mkF, argsToLocals, Value.category]; done) | rfl
def QB0 (Z : State) (x0 : Addr) (bf : Addr) (kb : ClassId) (u0 : Int32) (u1 : Int32) (u2 : Int32) (u3 : Int32) (u4 : Int32) (u5 : Int32) (u6 : Int32) (u7 : Int32) (h0 : Heap) (n0 : Nat) (v : Option Value) (h : Heap) (L : List Loc) : Prop := ∃ (b : Addr) (k : ClassId), v = some (.ref b) ∧ Fr n0 L ∧ Keep h0 h [] ∧ h0.size ≤ b ∧ Exa Z h b "[B" ∧ Arv Z h b k .byte (1 : Int32) [(.int u0)] (.int (0 : Int32))
set_option maxRecDepth 65536 in
set_option maxHeartbeats 40000000 in
theorem rmB0 (l : Launch) (Z : State) (a0 : Array Value) (hw : ∀ d ∈ tables_1, d.before a0 Z = true) (ws : List Jvm.Cond) (x0 : Addr) (bf : Addr) (kb : ClassId) (u0 : Int32) (u1 : Int32) (u2 : Int32) (u3 : Int32) (u4 : Int32) (u5 : Int32) (u6 : Int32) (u7 : Int32) (h0 : Heap) (n0 : Nat) (Z0 : n0 ≤ h0.size) (F_buffer_x0 : Fld Z h0 x0 "com/example/upcaster/upcaster/io/BinaryEncoder" "buffer" "[B" (.ref bf)) (F_size_x0 : Fld Z h0 x0 "com/example/upcaster/upcaster/io/BinaryEncoder" "size" "I" (.int (1 : Int32))) (V_bf : Arv Z h0 bf kb .byte (256 : Int32) [(.int u0), (.int u1), (.int u2), (.int u3), (.int u4), (.int u5), (.int u6), (.int u7)] (.int (0 : Int32))) :
    MetFree l ym10 (head1 (Jvm.Cond.code ym10 prog_6_method_6_code 1 (some (.array .byte)) :: ws) ({ frames := 2, cells := 1, slots := 1, locals := 32 } : Room)) (fun a U => a = #[(.ref x0)] ∧ Z.Warmed39 U.vm ∧ U.heap = h0) (fun _ _ _ _ _ => True) (fun _ U o U' => ∃ v L, o = .returned v ∧ (QB0 Z x0 bf kb u0 u1 u2 u3 u4 u5 u6 u7 h0 n0) v U'.heap L ∧ FrameEnd U o U' L ({ frames := 2, cells := 1, slots := 1, locals := 32 } : Room).cells ({ frames := 2, cells := 1, slots := 1, locals := 32 } : Room).slots) := by
  refine MetFree.of_bodySF (plainFor_of_name pnB0) hisR ?_
  intro p e s m args below meth c s₁ Bd hml0 hP hK
  obtain ⟨rfl, hZ, hh⟩ := hP
  have hx := Bd.exec
  have hby := Bd.bytes
  have hml : c.maxLocals = 1 := hml0
  have hlk : meth.locks = false := BodyLoose.notSynchronized Bd
  have hown : s.vm.findClass "com/example/upcaster/upcaster/io/BinaryEncoder" = some m.cls := findClass_of_methodNamed Bd.named
  have hnm := (name_of_methodNamed Bd.named Bd.method).1
  have w_10 := hw _ (List.mem_of_getElem? (i := 10) rfl)
  have w_21 := hw _ (List.mem_of_getElem? (i := 21) rfl)
  have w_56 := hw _ (List.mem_of_getElem? (i := 56) rfl)
  have w_57 := hw _ (List.mem_of_getElem? (i := 57) rfl)
  have w_58 := hw _ (List.mem_of_getElem? (i := 58) rfl)
  have w_59 := hw _ (List.mem_of_getElem? (i := 59) rfl)
  have w_69 := hw _ (List.mem_of_getElem? (i := 69) rfl)
  have hci : ∀ i v, (i, v) ∈ ([(134, 2147483639)] : List (Nat × Int32)) → (Jvm.Cond.constant "com/example/upcaster/upcaster/io/BinaryEncoder" i v).before #[(.ref x0)] s = true := (own_ciS (mvT hZ w_69) own_ci0)
  have hcl : ∀ i v, (i, v) ∈ ([] : List (Nat × Int64)) → (Jvm.Cond.constantLong "com/example/upcaster/upcaster/io/BinaryEncoder" i v).before #[(.ref x0)] s = true := own_ci0
  have X0 : Stand p l e ({ frames := 2, cells := 1, slots := 1, locals := 32 } : Room) s m #[(.ref x0)] below meth c s₁ [] 0 0 := Stand.of_body Bd
  have e0 : s₁.heap = h0 := by rw [← hh, Bd.state]; rfl
  have N0 := Fr.nil n0
  show Goes p e below s (QB0 Z x0 bf kb u0 u1 u2 u3 u4 u5 u6 u7 h0 n0) ({ frames := 2, cells := 1, slots := 1, locals := 32 } : Room).cells ({ frames := 2, cells := 1, slots := 1, locals := 32 } : Room).slots (s₁.setTop (entryFrame m #[(.ref x0)] 1))
  refine Goes.cast (efB0 m x0) ?_
  have K0 : Keep h0 h0 [] := Keep.refl h0 _
  refine Goes.run X0 hx hown hci hcl hby (L := [(0, .aload_n 0, 1)]) (by decide +kernel) rfl (g' := (mkF m 1 #[rv x0] [(.ref x0)])) rfl ?_
  obtain ⟨T1, X1, e1, st1⟩ := getF X0 hx hZ hown (host := "") (Or.inl w_10) Via.refl e0 F_buffer_x0 (g := (mkF m 1 #[rv x0] [(.ref x0)])) rfl rfl (hb hby d11_1)
  refine Goes.st (B := T1.setTop (mkF m 4 #[rv x0] [(.ref bf)])) st1 ?_
  refine Goes.run X1 hx hown hci hcl hby (L := [(4, .aload_n 0, 1)]) (by decide +kernel) rfl (g' := (mkF m 5 #[rv x0] [(.ref x0), (.ref bf)])) rfl ?_
  obtain ⟨T2, X2, e2, st2⟩ := getF X1 hx hZ hown (host := "") (Or.inl w_21) Via.refl e1 F_size_x0 (g := (mkF m 5 #[rv x0] [(.ref x0), (.ref bf)])) rfl rfl (hb hby d11_5)
  refine Goes.st (B := T2.setTop (mkF m 8 #[rv x0] [(.int (1 : Int32)), (.ref bf)])) st2 ?_
  obtain ⟨_, _, ⟨T3, L3, k3, n3⟩, -, X3, ⟨Lc3, hQ3, l3, y3, z3⟩, st3⟩ := Jvm.LawKit.callS X2 hx (y := ym9) hown (mvT hZ w_56) (mvT hZ w_57) (mvT hZ w_58) (mvT hZ w_59) (by decide) (backOf (W := 0) (rmA0 l Z a0 hw [] bf kb u0 u1 u2 u3 u4 u5 u6 u7 h0 n0 Z0 V_bf) hZ w_59 w_58 (by decide) (by decide)) (g := (mkF m 8 #[rv x0] [(.int (1 : Int32)), (.ref bf)])) rfl (by rw [hml]; rfl) (argsL := [(.ref bf), (.int (1 : Int32))]) (rest := []) (lenOf pdB0_0 rfl) rfl (by show 2 * 0 + _ ≤ _; exact Nat.le_of_eq rfl) (hb hby d11_8) (fun _ _ => ⟨rfl, e2, (by decide : 0 + 1 ≤ _), (by decide : 0 + 1 ≤ _)⟩)
  dsimp only [Pt.U, Pt.locs, Pt.cells, Pt.slots] at X3 l3 y3 z3 st3 hQ3
  subst l3 y3 z3
  obtain ⟨h3, eh3⟩ : ∃ z, z = T3.heap := ⟨_, rfl⟩
  rw [← eh3] at hQ3
  have e3 : T3.heap = h3 := eh3.symm
  obtain ⟨b3, kc3, rfl, N3q, Kq3, szq3, o3_0, o3_1⟩ := hQ3
  have ne_bf_b3 : bf ≠ b3 := Nat.ne_of_lt (Nat.lt_of_lt_of_le V_bf.lt szq3)
  have ne_x0_b3 : x0 ≠ b3 := Nat.ne_of_lt (Nat.lt_of_lt_of_le F_buffer_x0.lt szq3)
  have g_b3 : n0 ≤ b3 := Nat.le_trans Z0 szq3
  have sz_b3 : h0.size ≤ b3 := Nat.le_trans K0.1 szq3
  have N3 := Fr.app N0 N3q
  have F_buffer_x0 := F_buffer_x0.keep Kq3 nin0
  have F_size_x0 := F_size_x0.keep Kq3 nin0
  have V_bf := V_bf.keep Kq3 nin0
  have E_b3 : Exa Z h3 b3 "[B" := o3_0
  have V_b3 : Arv Z h3 b3 kc3 .byte (1 : Int32) [(.int u0)] (.int (0 : Int32)) := o3_1
  have Zn3 : n0 ≤ h3.size := Nat.le_trans Z0 Kq3.1
  have K3 := K0.trans Kq3 (all0)
  refine Goes.st (B := T3.setTop (mkF m 11 #[rv x0] [(.ref b3)])) st3 ?_
  refine Goes.retR X3 hx hlk Bd.returns rfl rfl (hb hby d11_11) ?_ (by decide) (by decide)
  show (QB0 Z x0 bf kb u0 u1 u2 u3 u4 u5 u6 u7 h0 n0) _ _ _
  rw [e3]
  exact ⟨b3, kc3, rfl, N3, K3, sz_b3, E_b3, V_b3⟩
theorem pn91 : plainName "com/example/upcaster/upcaster/io/BinaryEncoder" = true := by first | (simp [plainName, overriddenIn]; done) | decide +kernel
theorem pd91_0 : parseMethodDescriptor "(I)V" = some ⟨[.int], none⟩ := by decide +kernel
theorem ef91 (m : MethodId) (x0 : Addr) (x1 : Int32) : entryFrame m #[(.ref x0), (.int x1)] 2 = (mkF m 0 #[rv x0, iv x1] []) := by first | (simp [entryFrame, mkF, argsToLocals, Value.category]; done) | rfl
def j91_29_s0 (x1 : Int32) (u0 : Int32) (u1 : Int32) (u2 : Int32) (u3 : Int32) (u4 : Int32) (u5 : Int32) (u6 : Int32) (u7 : Int32) : Int32 := (if x1 = (0 : Int32) then (0 : Int32) else (1 : Int32))
def w91_30 (x1 : Int32) (u0 : Int32) (u1 : Int32) (u2 : Int32) (u3 : Int32) (u4 : Int32) (u5 : Int32) (u6 : Int32) (u7 : Int32) : Int32 := (nar .byte ((j91_29_s0 x1 u0 u1 u2 u3 u4 u5 u6 u7).toInt8.toInt32))
def Q91 (Z : State) (x0 : Addr) (x1 : Int32) (bf : Addr) (kb : ClassId) (u0 : Int32) (u1 : Int32) (u2 : Int32) (u3 : Int32) (u4 : Int32) (u5 : Int32) (u6 : Int32) (u7 : Int32) (h0 : Heap) (n0 : Nat) (v : Option Value) (h : Heap) (L : List Loc) : Prop := v = none ∧ Fr n0 L ∧ Keep h0 h [x0, bf] ∧ Exa Z h x0 "com/example/upcaster/upcaster/io/BinaryEncoder" ∧ Fld Z h x0 "com/example/upcaster/upcaster/io/BinaryEncoder" "buffer" "[B" (.ref bf) ∧ Fld Z h x0 "com/example/upcaster/upcaster/io/BinaryEncoder" "size" "I" (.int (2 : Int32)) ∧ Exa Z h bf "[B" ∧ Arv Z h bf kb .byte (256 : Int32) [(.int u0), (.int (w91_30 x1 u0 u1 u2 u3 u4 u5 u6 u7)), (.int u2), (.int u3), (.int u4), (.int u5), (.int u6), (.int u7)] (.int (0 : Int32))
set_option maxRecDepth 65536 in
set_option maxHeartbeats 40000000 in
theorem rm91 (l : Launch) (Z : State) (a0 : Array Value) (hw : ∀ d ∈ tables_1, d.before a0 Z = true) (ws : List Jvm.Cond) (x0 : Addr) (x1 : Int32) (bf : Addr) (kb : ClassId) (u0 : Int32) (u1 : Int32) (u2 : Int32) (u3 : Int32) (u4 : Int32) (u5 : Int32) (u6 : Int32) (u7 : Int32) (h0 : Heap) (n0 : Nat) (Z0 : n0 ≤ h0.size) (E_x0 : Exa Z h0 x0 "com/example/upcaster/upcaster/io/BinaryEncoder") (F_buffer_x0 : Fld Z h0 x0 "com/example/upcaster/upcaster/io/BinaryEncoder" "buffer" "[B" (.ref bf)) (F_size_x0 : Fld Z h0 x0 "com/example/upcaster/upcaster/io/BinaryEncoder" "size" "I" (.int (1 : Int32))) (E_bf : Exa Z h0 bf "[B") (V_bf : Arv Z h0 bf kb .byte (256 : Int32) [(.int u0), (.int u1), (.int u2), (.int u3), (.int u4), (.int u5), (.int u6), (.int u7)] (.int (0 : Int32))) (g_x0 : n0 ≤ x0) (g_bf : n0 ≤ bf) (hn1 : x0 ≠ bf) :
    MetFree l ym8 (head1 (Jvm.Cond.code ym8 prog_6_method_7_code 2 none :: ws) ({ frames := 1, cells := 0, slots := 0, locals := 13 } : Room)) (fun a U => a = #[(.ref x0), (.int x1)] ∧ Z.Warmed39 U.vm ∧ U.heap = h0) (fun _ _ _ _ _ => True) (fun _ U o U' => ∃ v L, o = .returned v ∧ (Q91 Z x0 x1 bf kb u0 u1 u2 u3 u4 u5 u6 u7 h0 n0) v U'.heap L ∧ FrameEnd U o U' L ({ frames := 1, cells := 0, slots := 0, locals := 13 } : Room).cells ({ frames := 1, cells := 0, slots := 0, locals := 13 } : Room).slots) := by
  refine MetFree.of_bodySF (plainFor_of_name pn91) hisR ?_
  intro p e s m args below meth c s₁ Bd hml0 hP hK
  obtain ⟨rfl, hZ, hh⟩ := hP
  have hx := Bd.exec
  have hby := Bd.bytes
  have hml : c.maxLocals = 2 := hml0
  have hlk : meth.locks = false := BodyLoose.notSynchronized Bd
  have hown : s.vm.findClass "com/example/upcaster/upcaster/io/BinaryEncoder" = some m.cls := findClass_of_methodNamed Bd.named
  have hnm := (name_of_methodNamed Bd.named Bd.method).1
  have w_2 := hw _ (List.mem_of_getElem? (i := 2) rfl)
  have w_3 := hw _ (List.mem_of_getElem? (i := 3) rfl)
  have w_10 := hw _ (List.mem_of_getElem? (i := 10) rfl)
  have w_11 := hw _ (List.mem_of_getElem? (i := 11) rfl)
  have w_17 := hw _ (List.mem_of_getElem? (i := 17) rfl)
  have w_18 := hw _ (List.mem_of_getElem? (i := 18) rfl)
  have w_19 := hw _ (List.mem_of_getElem? (i := 19) rfl)
  have w_20 := hw _ (List.mem_of_getElem? (i := 20) rfl)
  have w_21 := hw _ (List.mem_of_getElem? (i := 21) rfl)
  have w_22 := hw _ (List.mem_of_getElem? (i := 22) rfl)
  have w_69 := hw _ (List.mem_of_getElem? (i := 69) rfl)
  have hci : ∀ i v, (i, v) ∈ ([(134, 2147483639)] : List (Nat × Int32)) → (Jvm.Cond.constant "com/example/upcaster/upcaster/io/BinaryEncoder" i v).before #[(.ref x0), (.int x1)] s = true := (own_ciS (mvT hZ w_69) own_ci0)
  have hcl : ∀ i v, (i, v) ∈ ([] : List (Nat × Int64)) → (Jvm.Cond.constantLong "com/example/upcaster/upcaster/io/BinaryEncoder" i v).before #[(.ref x0), (.int x1)] s = true := own_ci0
  have X0 : Stand p l e ({ frames := 1, cells := 0, slots := 0, locals := 13 } : Room) s m #[(.ref x0), (.int x1)] below meth c s₁ [] 0 0 := Stand.of_body Bd
  have e0 : s₁.heap = h0 := by rw [← hh, Bd.state]; rfl
  have N0 := Fr.nil n0
  show Goes p e below s (Q91 Z x0 x1 bf kb u0 u1 u2 u3 u4 u5 u6 u7 h0 n0) ({ frames := 1, cells := 0, slots := 0, locals := 13 } : Room).cells ({ frames := 1, cells := 0, slots := 0, locals := 13 } : Room).slots (s₁.setTop (entryFrame m #[(.ref x0), (.int x1)] 2))
  refine Goes.cast (ef91 m x0 x1) ?_
  have K0 : Keep h0 h0 [x0, bf] := Keep.refl h0 _
  refine Goes.run X0 hx hown hci hcl hby (L := [(0, .aload_n 0, 1), (1, .iconst 1, 1)]) (by decide +kernel) rfl (g' := (mkF m 2 #[rv x0, iv x1] [(.int (1 : Int32)), (.ref x0)])) rfl ?_
  obtain ⟨cq1, q1a, q1b⟩ := E_x0.cell
  obtain ⟨_, _, ⟨T1, L1, k1, n1⟩, -, X1, ⟨Lc1, hQ1, l1, y1, z1⟩, st1⟩ := X0.privateBack hx (y := ym1) hown (mvT hZ w_17) (mvT hZ w_18) (own_selp (y := ym1) (mvT hZ w_2) (mvP hZ w_19) (mvT hZ w_18) (by decide)) (Cond.privateMethod_at (mvP hZ w_19 (args := #[]))) (mvT hZ w_20) (by decide) (backOf (W := 0) (rm2 l Z a0 hw [] x0 (1 : Int32) bf kb [(.int u0), (.int u1), (.int u2), (.int u3), (.int u4), (.int u5), (.int u6), (.int u7)] (1 : Int32) h0 n0 Z0 F_buffer_x0 F_size_x0 V_bf (by decide)) hZ w_20 w_3 (by decide) (by decide)) (g := (mkF m 2 #[rv x0, iv x1] [(.int (1 : Int32)), (.ref x0)])) rfl (by rw [hml]; rfl) (Steps.refl _) (a := x0) (by rw [e0]; exact q1a) q1b (argsL := [(.int (1 : Int32))]) (rest := []) (lenOf pd91_0 rfl) rfl (by show 2 * 0 + _ ≤ _; exact Nat.le_of_eq rfl) (hb hby d9_2) (fun _ _ => ⟨rfl, e0, (by decide : 0 + 0 ≤ _), (by decide : 0 + 0 ≤ _)⟩)
  dsimp only [Pt.U, Pt.locs, Pt.cells, Pt.slots] at X1 l1 y1 z1 st1 hQ1
  subst l1 y1 z1
  obtain ⟨rfl, N1q, e1⟩ := hQ1
  have N1 := Fr.app N0 N1q
  refine Goes.st (B := T1.setTop (mkF m 5 #[rv x0, iv x1] [])) (fun t k => st1.trans k) ?_
  refine Goes.run X1 hx hown hci hcl hby (L := [(5, .aload_n 0, 1)]) (by decide +kernel) rfl (g' := (mkF m 6 #[rv x0, iv x1] [(.ref x0)])) rfl ?_
  obtain ⟨T2, X2, e2, st2⟩ := getF X1 hx hZ hown (host := "") (Or.inl w_10) Via.refl e1 F_buffer_x0 (g := (mkF m 6 #[rv x0, iv x1] [(.ref x0)])) rfl rfl (hb hby d9_6)
  refine Goes.st (B := T2.setTop (mkF m 9 #[rv x0, iv x1] [(.ref bf)])) st2 ?_
  refine Goes.run X2 hx hown hci hcl hby (L := [(9, .aload_n 0, 1), (10, .dup, 1)]) (by decide +kernel) rfl (g' := (mkF m 11 #[rv x0, iv x1] [(.ref x0), (.ref x0), (.ref bf)])) rfl ?_
  obtain ⟨T3, X3, e3, st3⟩ := getF X2 hx hZ hown (host := "") (Or.inl w_21) Via.refl e2 F_size_x0 (g := (mkF m 11 #[rv x0, iv x1] [(.ref x0), (.ref x0), (.ref bf)])) rfl rfl (hb hby d9_11)
  refine Goes.st (B := T3.setTop (mkF m 14 #[rv x0, iv x1] [(.int (1 : Int32)), (.ref x0), (.ref bf)])) st3 ?_
  refine Goes.st (B := T3.setTop (mkF m 15 #[rv x0, iv x1] [(.int (1 : Int32)), (.ref x0), (.int (1 : Int32)), (.ref bf)])) (fun t k => ?_) ?_
  · refine XS.dupX1 X3.here hx rfl (hb hby d9_14) rfl rfl rfl ?_
    exact k
  refine Goes.run X3 hx hown hci hcl hby (L := [(15, .iconst 1, 1), (16, .iadd, 1)]) (by decide +kernel) rfl (g' := (mkF m 17 #[rv x0, iv x1] [(.int (2 : Int32)), (.ref x0), (.int (1 : Int32)), (.ref bf)])) rfl ?_
  obtain ⟨T4, h4, X4, e4, W4, st4⟩ := putF X3 hx hZ hown (host := "") (Or.inl w_21) Via.refl e3 F_size_x0 E_x0 (Or.inl w_22) w_2 (ty := .int) (by decide) rfl rfl (g := (mkF m 17 #[rv x0, iv x1] [(.int (2 : Int32)), (.ref x0), (.int (1 : Int32)), (.ref bf)])) rfl rfl (hb hby d9_17)
  have E_x0 := E_x0.wr W4
  have F_buffer_x0 := F_buffer_x0.other W4 (Or.inr (slot_ne (Or.inl w_11) (Or.inl w_22) (by decide) (t := (.array .byte)) (t' := .int) (by decide) (by decide)))
  have F_size_x0 : Fld Z h4 x0 "com/example/upcaster/upcaster/io/BinaryEncoder" "size" "I" (.int (2 : Int32)) := F_size_x0.same W4
  have E_bf := E_bf.wr W4
  have V_bf := V_bf.other W4 (Ne.symm hn1)
  have Zn4 : n0 ≤ h4.size := Nat.le_trans Z0 (Keep.of_wr W4).1
  have K4 := K0.wr W4 (Or.inl (List.mem_of_getElem? (i := 0) rfl))
  have N4 := Fr.snoc X4 N1 g_x0
  refine Goes.st (B := T4.setTop (mkF m 20 #[rv x0, iv x1] [(.int (1 : Int32)), (.ref bf)])) st4 ?_
  refine Goes.run X4 hx hown hci hcl hby (L := [(20, .iload_n 1, 1)]) (by decide +kernel) rfl (g' := (mkF m 21 #[rv x0, iv x1] [(.int x1), (.int (1 : Int32)), (.ref bf)])) rfl ?_
  have jn29_6 : Goes p e below s (Q91 Z x0 x1 bf kb u0 u1 u2 u3 u4 u5 u6 u7 h0 n0) ({ frames := 1, cells := 0, slots := 0, locals := 13 } : Room).cells ({ frames := 1, cells := 0, slots := 0, locals := 13 } : Room).slots (T4.setTop (mkF m 29 #[rv x0, iv x1] [(.int (j91_29_s0 x1 u0 u1 u2 u3 u4 u5 u6 u7)), (.int (1 : Int32)), (.ref bf)])) := by
    refine Goes.run X4 hx hown hci hcl hby (L := [(29, .i2b, 1)]) (by decide +kernel) rfl (g' := (mkF m 30 #[rv x0, iv x1] [(.int ((j91_29_s0 x1 u0 u1 u2 u3 u4 u5 u6 u7).toInt8.toInt32)), (.int (1 : Int32)), (.ref bf)])) rfl ?_
    obtain ⟨cl7, Ar7, q7, S7, M7, Hs7, G7⟩ := id V_bf
    have hin7 : ¬ ((1 : Int32) < 0 ∨ cl7.slots.size ≤ ((1 : Int32)).toNatClampNeg) := inb_of S7 ⟨(by decide), (by decide)⟩
    obtain ⟨T7, h7, X7, e7, W7, st7⟩ := stB X4 hx hZ e4 Ar7 (j := (1 : Int32)) hin7 (g := (mkF m 30 #[rv x0, iv x1] [(.int ((j91_29_s0 x1 u0 u1 u2 u3 u4 u5 u6 u7).toInt8.toInt32)), (.int (1 : Int32)), (.ref bf)])) rfl rfl (hb hby d9_30)
    have E_x0 := E_x0.wr W7
    have F_buffer_x0 := F_buffer_x0.other W7 (Or.inl hn1)
    have F_size_x0 := F_size_x0.other W7 (Or.inl hn1)
    have E_bf := E_bf.wr W7
    have Zn7 : n0 ≤ h7.size := Nat.le_trans Zn4 (Keep.of_wr W7).1
    have K7 := K4.wr W7 (Or.inl (List.mem_of_getElem? (i := 1) rfl))
    have N7 := Fr.snoc X7 N4 g_bf
    have V_bf : Arv Z h7 bf kb .byte (256 : Int32) [(.int u0), (.int (w91_30 x1 u0 u1 u2 u3 u4 u5 u6 u7)), (.int u2), (.int u3), (.int u4), (.int u5), (.int u6), (.int u7)] (.int (0 : Int32)) := Arv.set Ar7 q7 S7 M7 Hs7 G7 (fits_nar_byte _) W7 1 rfl (Nat.le_of_ble_eq_true rfl)
    refine Goes.st (B := T7.setTop (mkF m 31 #[rv x0, iv x1] [])) st7 ?_
    refine Goes.retV X7 hx hlk Bd.returns (hb hby d9_31) ?_ (by decide) (by decide)
    show (Q91 Z x0 x1 bf kb u0 u1 u2 u3 u4 u5 u6 u7 h0 n0) _ _ _
    rw [e7]
    exact ⟨rfl, N7, K7, E_x0, F_buffer_x0, F_size_x0, E_bf, V_bf⟩
  by_cases hc21_5 : x1 = (0 : Int32)
  · skip
    refine Goes.st (B := T4.setTop (mkF m 28 #[rv x0, iv x1] [(.int (1 : Int32)), (.ref bf)])) (fun t k => ?_) ?_
    · refine XS.ifYes X4.here hx rfl (pc0 := 21) (pc' := 28) rfl (hb hby d9_21) rfl ((if0 _ _).trans (teq hc21_5).1) (by decide) (by decide) ?_
      exact k
    refine Goes.run X4 hx hown hci hcl hby (L := [(28, .iconst 0, 1)]) (by decide +kernel) rfl (g' := (mkF m 29 #[rv x0, iv x1] [(.int (0 : Int32)), (.int (1 : Int32)), (.ref bf)])) rfl ?_
    have q := jn29_6
    rw [show (j91_29_s0 x1 u0 u1 u2 u3 u4 u5 u6 u7) = (0 : Int32) from (if_pos hc21_5)] at q
    exact q
  · skip
    refine Goes.st (B := T4.setTop (mkF m 24 #[rv x0, iv x1] [(.int (1 : Int32)), (.ref bf)])) (fun t k => ?_) ?_
    · refine XS.ifNo X4.here hx rfl (hb hby d9_21) rfl ((if0 _ _).trans (feq hc21_5).1) ?_
      exact k
    refine Goes.run X4 hx hown hci hcl hby (L := [(24, .iconst 1, 1), (25, .goto 4, 3)]) (by decide +kernel) rfl (g' := (mkF m 29 #[rv x0, iv x1] [(.int (1 : Int32)), (.int (1 : Int32)), (.ref bf)])) rfl ?_
    have q := jn29_6
    rw [show (j91_29_s0 x1 u0 u1 u2 u3 u4 u5 u6 u7) = (1 : Int32) from (if_neg hc21_5)] at q
    exact q
theorem pnA1 : plainName "java/util/Arrays" = true := by first | (simp [plainName, overriddenIn]; done) | decide +kernel
theorem pdA1_0 : parseMethodDescriptor "(II)I" = some ⟨[.int, .int], some .int⟩ := by decide +kernel
theorem efA1 (m : MethodId) (x0 : Addr) : entryFrame m #[(.ref x0), (.int (2 : Int32))] 3 = (mkF m 0 #[rv x0, iv (2 : Int32), .unset] []) := by first | (simp [entryFrame, mkF, argsToLocals, Value.category]; done) | rfl
def QA1 (Z : State) (x0 : Addr) (kb : ClassId) (u0 : Int32) (u1 : Int32) (u2 : Int32) (u3 : Int32) (u4 : Int32) (u5 : Int32) (u6 : Int32) (u7 : Int32) (h0 : Heap) (n0 : Nat) (v : Option Value) (h : Heap) (L : List Loc) : Prop := ∃ (b : Addr) (k : ClassId), v = some (.ref b) ∧ Fr n0 L ∧ Keep h0 h [] ∧ h0.size ≤ b ∧ Exa Z h b "[B" ∧ Arv Z h b k .byte (2 : Int32) [(.int u0), (.int u1)] (.int (0 : Int32))
set_option maxRecDepth 65536 in
set_option maxHeartbeats 40000000 in
theorem rmA1 (l : Launch) (Z : State) (a0 : Array Value) (hw : ∀ d ∈ tables_1, d.before a0 Z = true) (ws : List Jvm.Cond) (x0 : Addr) (kb : ClassId) (u0 : Int32) (u1 : Int32) (u2 : Int32) (u3 : Int32) (u4 : Int32) (u5 : Int32) (u6 : Int32) (u7 : Int32) (h0 : Heap) (n0 : Nat) (Z0 : n0 ≤ h0.size) (V_x0 : Arv Z h0 x0 kb .byte (256 : Int32) [(.int u0), (.int u1), (.int u2), (.int u3), (.int u4), (.int u5), (.int u6), (.int u7)] (.int (0 : Int32))) :
    MetFree l ym9 (head1 (Jvm.Cond.code ym9 jdk_65_method_121_code 3 (some (.array .byte)) :: ws) ({ frames := 1, cells := 1, slots := 2, locals := 18 } : Room)) (fun a U => a = #[(.ref x0), (.int (2 : Int32))] ∧ Z.Warmed39 U.vm ∧ U.heap = h0) (fun _ _ _ _ _ => True) (fun _ U o U' => ∃ v L, o = .returned v ∧ (QA1 Z x0 kb u0 u1 u2 u3 u4 u5 u6 u7 h0 n0) v U'.heap L ∧ FrameEnd U o U' L ({ frames := 1, cells := 1, slots := 2, locals := 18 } : Room).cells ({ frames := 1, cells := 1, slots := 2, locals := 18 } : Room).slots) := by
  refine MetFree.of_bodySF (plainFor_of_name pnA1) hisR ?_
  intro p e s m args below meth c s₁ Bd hml0 hP hK
  obtain ⟨rfl, hZ, hh⟩ := hP
  have hx := Bd.exec
  have hby := Bd.bytes
  have hml : c.maxLocals = 3 := hml0
  have hlk : meth.locks = false := BodyLoose.notSynchronized Bd
  have hown : s.vm.findClass "java/util/Arrays" = some m.cls := findClass_of_methodNamed Bd.named
  have hnm := (name_of_methodNamed Bd.named Bd.method).1
  have w_0 := hw _ (List.mem_of_getElem? (i := 0) rfl)
  have w_24 := hw _ (List.mem_of_getElem? (i := 24) rfl)
  have w_25 := hw _ (List.mem_of_getElem? (i := 25) rfl)
  have w_26 := hw _ (List.mem_of_getElem? (i := 26) rfl)
  have w_60 := hw _ (List.mem_of_getElem? (i := 60) rfl)
  have w_61 := hw _ (List.mem_of_getElem? (i := 61) rfl)
  have w_62 := hw _ (List.mem_of_getElem? (i := 62) rfl)
  have w_63 := hw _ (List.mem_of_getElem? (i := 63) rfl)
  have w_64 := hw _ (List.mem_of_getElem? (i := 64) rfl)
  have hci : ∀ i v, (i, v) ∈ ([] : List (Nat × Int32)) → (Jvm.Cond.constant "java/util/Arrays" i v).before #[(.ref x0), (.int (2 : Int32))] s = true := own_ci0
  have hcl : ∀ i v, (i, v) ∈ ([] : List (Nat × Int64)) → (Jvm.Cond.constantLong "java/util/Arrays" i v).before #[(.ref x0), (.int (2 : Int32))] s = true := own_ci0
  have X0 : Stand p l e ({ frames := 1, cells := 1, slots := 2, locals := 18 } : Room) s m #[(.ref x0), (.int (2 : Int32))] below meth c s₁ [] 0 0 := Stand.of_body Bd
  have e0 : s₁.heap = h0 := by rw [← hh, Bd.state]; rfl
  have N0 := Fr.nil n0
  show Goes p e below s (QA1 Z x0 kb u0 u1 u2 u3 u4 u5 u6 u7 h0 n0) ({ frames := 1, cells := 1, slots := 2, locals := 18 } : Room).cells ({ frames := 1, cells := 1, slots := 2, locals := 18 } : Room).slots (s₁.setTop (entryFrame m #[(.ref x0), (.int (2 : Int32))] 3))
  refine Goes.cast (efA1 m x0) ?_
  have K0 : Keep h0 h0 [] := Keep.refl h0 _
  refine Goes.run X0 hx hown hci hcl hby (L := [(0, .iload_n 1, 1), (1, .aload_n 0, 1)]) (by decide +kernel) rfl (g' := (mkF m 2 #[rv x0, iv (2 : Int32), .unset] [(.ref x0), (.int (2 : Int32))])) rfl ?_
  obtain ⟨cl1, Ar1, q1, S1, M1, Hs1, G1⟩ := id V_x0
  refine Goes.st (B := s₁.setTop (mkF m 3 #[rv x0, iv (2 : Int32), .unset] [(.int (256 : Int32)), (.int (2 : Int32))])) (fun t k => ?_) ?_
  · refine X0.arraylength hx (cell := cl1) (by rw [e0]; exact Ar1.1) (State.isArrayOf_alike hZ.alike Ar1.2.1) (g := (mkF m 2 #[rv x0, iv (2 : Int32), .unset] [(.ref x0), (.int (2 : Int32))])) rfl (rest := [(.int (2 : Int32))]) rfl (hb hby d10_2) _ ?_
    rw [len_of S1 M1]
    exact k
  have hc3_2 : ¬ ((2 : Int32) = (256 : Int32)) := by decide
  refine Goes.st (B := s₁.setTop (mkF m 14 #[rv x0, iv (2 : Int32), .unset] [])) (fun t k => ?_) ?_
  · refine XS.icmpYes X0.here hx rfl (pc0 := 3) (pc' := 14) rfl (hb hby d10_3) rfl (feq hc3_2).2 (by decide) (by decide) ?_
    exact k
  refine Goes.run X0 hx hown hci hcl hby (L := [(14, .iload_n 1, 1)]) (by decide +kernel) rfl (g' := (mkF m 15 #[rv x0, iv (2 : Int32), .unset] [(.int (2 : Int32))])) rfl ?_
  obtain ⟨T3, h3, k3, X3, e3, E3, A3, B3, st3⟩ := newPE X0 hx hZ (aty := .byte) w_0 e0 (g := (mkF m 15 #[rv x0, iv (2 : Int32), .unset] [(.int (2 : Int32))])) rfl (hb hby d10_15) rfl (by decide) (cap := 2) (by decide) (by decide) (by decide) (by decide) (ad := "[B") (by decide)
  obtain ⟨b3, g3⟩ : ∃ z, z = h0.size := ⟨_, rfl⟩
  rw [← g3] at A3 B3 st3
  have ne_x0_b3 : x0 ≠ b3 := Nat.ne_of_lt (Nat.lt_of_lt_of_le V_x0.lt (Nat.le_of_eq g3.symm))
  have g_b3 : n0 ≤ b3 := Nat.le_trans Z0 (Nat.le_of_eq g3.symm)
  have sz_b3 : h0.size ≤ b3 := Nat.le_trans K0.1 (Nat.le_of_eq g3.symm)
  have V_x0 := V_x0.ext E3
  have Zn3 : n0 ≤ h3.size := Nat.le_trans Z0 E3.1
  have K3 := K0.ext E3
  have E_b3 : Exa Z h3 b3 "[B" := B3
  have V_b3 : Arv Z h3 b3 k3 .byte (2 : Int32) [(.int (0 : Int32)), (.int (0 : Int32))] (.int (0 : Int32)) := (Arv.new A3 (by decide)).pad (pad_rep [] (.int (0 : Int32)) 2)
  refine Goes.st (B := T3.setTop (mkF m 17 #[rv x0, iv (2 : Int32), .unset] [(.ref b3)])) st3 ?_
  refine Goes.run X3 hx hown hci hcl hby (L := [(17, .astore_n 2, 1), (18, .aload_n 0, 1), (19, .iconst 0, 1), (20, .aload_n 2, 1), (21, .iconst 0, 1), (22, .aload_n 0, 1)]) (by decide +kernel) rfl (g' := (mkF m 23 #[rv x0, iv (2 : Int32), rv b3] [(.ref x0), (.int (0 : Int32)), (.ref b3), (.int (0 : Int32)), (.ref x0)])) rfl ?_
  obtain ⟨cl4, Ar4, q4, S4, M4, Hs4, G4⟩ := id V_x0
  refine Goes.st (B := T3.setTop (mkF m 24 #[rv x0, iv (2 : Int32), rv b3] [(.int (256 : Int32)), (.int (0 : Int32)), (.ref b3), (.int (0 : Int32)), (.ref x0)])) (fun t k => ?_) ?_
  · refine X3.arraylength hx (cell := cl4) (by rw [e3]; exact Ar4.1) (State.isArrayOf_alike hZ.alike Ar4.2.1) (g := (mkF m 23 #[rv x0, iv (2 : Int32), rv b3] [(.ref x0), (.int (0 : Int32)), (.ref b3), (.int (0 : Int32)), (.ref x0)])) rfl (rest := [(.int (0 : Int32)), (.ref b3), (.int (0 : Int32)), (.ref x0)]) rfl (hb hby d10_23) _ ?_
    rw [len_of S4 M4]
    exact k
  refine Goes.run X3 hx hown hci hcl hby (L := [(24, .iload_n 1, 1)]) (by decide +kernel) rfl (g' := (mkF m 25 #[rv x0, iv (2 : Int32), rv b3] [(.int (2 : Int32)), (.int (256 : Int32)), (.int (0 : Int32)), (.ref b3), (.int (0 : Int32)), (.ref x0)])) rfl ?_
  obtain ⟨_, _, ⟨T5, L5, k5, n5⟩, -, X5, ⟨Lc5, hQ5, l5, y5, z5⟩, st5⟩ := Jvm.LawKit.callS X3 hx (y := ym7) hown (mvT hZ w_60) (mvT hZ w_61) (mvT hZ w_62) (mvT hZ w_63) (by decide) (backOf (W := 4) (rm8 l Z a0 hw [] (256 : Int32) (2 : Int32) h3 n0 Zn3 ) hZ w_63 w_62 (by decide) (by decide)) (g := (mkF m 25 #[rv x0, iv (2 : Int32), rv b3] [(.int (2 : Int32)), (.int (256 : Int32)), (.int (0 : Int32)), (.ref b3), (.int (0 : Int32)), (.ref x0)])) rfl (by rw [hml]; rfl) (argsL := [(.int (256 : Int32)), (.int (2 : Int32))]) (rest := [(.int (0 : Int32)), (.ref b3), (.int (0 : Int32)), (.ref x0)]) (lenOf pdA1_0 rfl) rfl (by show 2 * 0 + _ ≤ _; exact Nat.le_of_eq rfl) (hb hby d10_25) (fun _ _ => ⟨rfl, e3, (by decide : 1 + 0 ≤ _), (by decide : 2 + 0 ≤ _)⟩)
  dsimp only [Pt.U, Pt.locs, Pt.cells, Pt.slots] at X5 l5 y5 z5 st5 hQ5
  subst l5 y5 z5
  obtain ⟨rfl, N5q, e5⟩ := hQ5
  have N5 := Fr.app N0 N5q
  refine Goes.st (B := T5.setTop (mkF m 28 #[rv x0, iv (2 : Int32), rv b3] [(.int (2 : Int32)), (.int (0 : Int32)), (.ref b3), (.int (0 : Int32)), (.ref x0)])) st5 ?_
  obtain ⟨T6, h6, L6, X6, e6, N6, Kq6, Vq6, st6⟩ := cpA X5 hx hZ hown w_64 w_26 w_24 w_25 e5 V_x0 V_b3 (Or.inl ⟨rfl, rfl⟩) (sp := (0 : Int32)) (dp := (0 : Int32)) (nn := (2 : Int32)) (by decide) (by decide) (by decide) (by decide) (by decide) (us := [(.int u0), (.int u1)]) rfl (Nat.le_of_ble_eq_true rfl) N5 g_b3 (g := (mkF m 28 #[rv x0, iv (2 : Int32), rv b3] [(.int (2 : Int32)), (.int (0 : Int32)), (.ref b3), (.int (0 : Int32)), (.ref x0)])) rfl (by rw [hml]; rfl) (rest := []) rfl (hb hby d10_28) (by decide) (W := 0) (by show 2 * 0 + _ ≤ _; exact Nat.le_of_eq rfl) (by decide)
  have V_x0 := V_x0.keep Kq6 (ninS ne_x0_b3 nin0)
  have E_b3 := E_b3.keep Kq6
  have Zn6 : n0 ≤ h6.size := Nat.le_trans Zn3 Kq6.1
  have K6 := K3.trans Kq6 ((allS (Or.inr sz_b3) all0))
  have V_b3 : Arv Z h6 b3 k3 .byte (2 : Int32) [(.int u0), (.int u1)] (.int (0 : Int32)) := Vq6
  refine Goes.st (B := T6.setTop (mkF m 31 #[rv x0, iv (2 : Int32), rv b3] [])) st6 ?_
  refine Goes.run X6 hx hown hci hcl hby (L := [(31, .aload_n 2, 1)]) (by decide +kernel) rfl (g' := (mkF m 32 #[rv x0, iv (2 : Int32), rv b3] [(.ref b3)])) rfl ?_
  refine Goes.retR X6 hx hlk Bd.returns rfl rfl (hb hby d10_32) ?_ (by decide) (by decide)
  show (QA1 Z x0 kb u0 u1 u2 u3 u4 u5 u6 u7 h0 n0) _ _ _
  rw [e6]
  exact ⟨b3, k3, rfl, N6, K6, sz_b3, E_b3, V_b3⟩
theorem pnB1 : plainName "com/example/upcaster/upcaster/io/BinaryEncoder" = true := by first | (simp [plainName, overriddenIn]; done) | decide +kernel
theorem pdB1_0 : parseMethodDescriptor "([BI)[B" = some ⟨[(.array .byte), .int], some (.array .byte)⟩ := by decide +kernel
theorem efB1 (m : MethodId) (x0 : Addr) : entryFrame m #[(.ref x0)] 1 = (mkF m 0 #[rv x0] []) := by first | (simp [entryFrame, mkF, argsToLocals, Value.category]; done) | rfl
def QB1 (Z : State) (x0 : Addr) (bf : Addr) (kb : ClassId) (u0 : Int32) (u1 : Int32) (u2 : Int32) (u3 : Int32) (u4 : Int32) (u5 : Int32) (u6 : Int32) (u7 : Int32) (h0 : Heap) (n0 : Nat) (v : Option Value) (h : Heap) (L : List Loc) : Prop := ∃ (b : Addr) (k : ClassId), v = some (.ref b) ∧ Fr n0 L ∧ Keep h0 h [] ∧ h0.size ≤ b ∧ Exa Z h b "[B" ∧ Arv Z h b k .byte (2 : Int32) [(.int u0), (.int u1)] (.int (0 : Int32))
set_option maxRecDepth 65536 in
set_option maxHeartbeats 40000000 in
theorem rmB1 (l : Launch) (Z : State) (a0 : Array Value) (hw : ∀ d ∈ tables_1, d.before a0 Z = true) (ws : List Jvm.Cond) (x0 : Addr) (bf : Addr) (kb : ClassId) (u0 : Int32) (u1 : Int32) (u2 : Int32) (u3 : Int32) (u4 : Int32) (u5 : Int32) (u6 : Int32) (u7 : Int32) (h0 : Heap) (n0 : Nat) (Z0 : n0 ≤ h0.size) (F_buffer_x0 : Fld Z h0 x0 "com/example/upcaster/upcaster/io/BinaryEncoder" "buffer" "[B" (.ref bf)) (F_size_x0 : Fld Z h0 x0 "com/example/upcaster/upcaster/io/BinaryEncoder" "size" "I" (.int (2 : Int32))) (V_bf : Arv Z h0 bf kb .byte (256 : Int32) [(.int u0), (.int u1), (.int u2), (.int u3), (.int u4), (.int u5), (.int u6), (.int u7)] (.int (0 : Int32))) :
    MetFree l ym10 (head1 (Jvm.Cond.code ym10 prog_6_method_6_code 1 (some (.array .byte)) :: ws) ({ frames := 2, cells := 1, slots := 2, locals := 32 } : Room)) (fun a U => a = #[(.ref x0)] ∧ Z.Warmed39 U.vm ∧ U.heap = h0) (fun _ _ _ _ _ => True) (fun _ U o U' => ∃ v L, o = .returned v ∧ (QB1 Z x0 bf kb u0 u1 u2 u3 u4 u5 u6 u7 h0 n0) v U'.heap L ∧ FrameEnd U o U' L ({ frames := 2, cells := 1, slots := 2, locals := 32 } : Room).cells ({ frames := 2, cells := 1, slots := 2, locals := 32 } : Room).slots) := by
  refine MetFree.of_bodySF (plainFor_of_name pnB1) hisR ?_
  intro p e s m args below meth c s₁ Bd hml0 hP hK
  obtain ⟨rfl, hZ, hh⟩ := hP
  have hx := Bd.exec
  have hby := Bd.bytes
  have hml : c.maxLocals = 1 := hml0
  have hlk : meth.locks = false := BodyLoose.notSynchronized Bd
  have hown : s.vm.findClass "com/example/upcaster/upcaster/io/BinaryEncoder" = some m.cls := findClass_of_methodNamed Bd.named
  have hnm := (name_of_methodNamed Bd.named Bd.method).1
  have w_10 := hw _ (List.mem_of_getElem? (i := 10) rfl)
  have w_21 := hw _ (List.mem_of_getElem? (i := 21) rfl)
  have w_56 := hw _ (List.mem_of_getElem? (i := 56) rfl)
  have w_57 := hw _ (List.mem_of_getElem? (i := 57) rfl)
  have w_58 := hw _ (List.mem_of_getElem? (i := 58) rfl)
  have w_59 := hw _ (List.mem_of_getElem? (i := 59) rfl)
  have w_69 := hw _ (List.mem_of_getElem? (i := 69) rfl)
  have hci : ∀ i v, (i, v) ∈ ([(134, 2147483639)] : List (Nat × Int32)) → (Jvm.Cond.constant "com/example/upcaster/upcaster/io/BinaryEncoder" i v).before #[(.ref x0)] s = true := (own_ciS (mvT hZ w_69) own_ci0)
  have hcl : ∀ i v, (i, v) ∈ ([] : List (Nat × Int64)) → (Jvm.Cond.constantLong "com/example/upcaster/upcaster/io/BinaryEncoder" i v).before #[(.ref x0)] s = true := own_ci0
  have X0 : Stand p l e ({ frames := 2, cells := 1, slots := 2, locals := 32 } : Room) s m #[(.ref x0)] below meth c s₁ [] 0 0 := Stand.of_body Bd
  have e0 : s₁.heap = h0 := by rw [← hh, Bd.state]; rfl
  have N0 := Fr.nil n0
  show Goes p e below s (QB1 Z x0 bf kb u0 u1 u2 u3 u4 u5 u6 u7 h0 n0) ({ frames := 2, cells := 1, slots := 2, locals := 32 } : Room).cells ({ frames := 2, cells := 1, slots := 2, locals := 32 } : Room).slots (s₁.setTop (entryFrame m #[(.ref x0)] 1))
  refine Goes.cast (efB1 m x0) ?_
  have K0 : Keep h0 h0 [] := Keep.refl h0 _
  refine Goes.run X0 hx hown hci hcl hby (L := [(0, .aload_n 0, 1)]) (by decide +kernel) rfl (g' := (mkF m 1 #[rv x0] [(.ref x0)])) rfl ?_
  obtain ⟨T1, X1, e1, st1⟩ := getF X0 hx hZ hown (host := "") (Or.inl w_10) Via.refl e0 F_buffer_x0 (g := (mkF m 1 #[rv x0] [(.ref x0)])) rfl rfl (hb hby d11_1)
  refine Goes.st (B := T1.setTop (mkF m 4 #[rv x0] [(.ref bf)])) st1 ?_
  refine Goes.run X1 hx hown hci hcl hby (L := [(4, .aload_n 0, 1)]) (by decide +kernel) rfl (g' := (mkF m 5 #[rv x0] [(.ref x0), (.ref bf)])) rfl ?_
  obtain ⟨T2, X2, e2, st2⟩ := getF X1 hx hZ hown (host := "") (Or.inl w_21) Via.refl e1 F_size_x0 (g := (mkF m 5 #[rv x0] [(.ref x0), (.ref bf)])) rfl rfl (hb hby d11_5)
  refine Goes.st (B := T2.setTop (mkF m 8 #[rv x0] [(.int (2 : Int32)), (.ref bf)])) st2 ?_
  obtain ⟨_, _, ⟨T3, L3, k3, n3⟩, -, X3, ⟨Lc3, hQ3, l3, y3, z3⟩, st3⟩ := Jvm.LawKit.callS X2 hx (y := ym9) hown (mvT hZ w_56) (mvT hZ w_57) (mvT hZ w_58) (mvT hZ w_59) (by decide) (backOf (W := 0) (rmA1 l Z a0 hw [] bf kb u0 u1 u2 u3 u4 u5 u6 u7 h0 n0 Z0 V_bf) hZ w_59 w_58 (by decide) (by decide)) (g := (mkF m 8 #[rv x0] [(.int (2 : Int32)), (.ref bf)])) rfl (by rw [hml]; rfl) (argsL := [(.ref bf), (.int (2 : Int32))]) (rest := []) (lenOf pdB1_0 rfl) rfl (by show 2 * 0 + _ ≤ _; exact Nat.le_of_eq rfl) (hb hby d11_8) (fun _ _ => ⟨rfl, e2, (by decide : 0 + 1 ≤ _), (by decide : 0 + 2 ≤ _)⟩)
  dsimp only [Pt.U, Pt.locs, Pt.cells, Pt.slots] at X3 l3 y3 z3 st3 hQ3
  subst l3 y3 z3
  obtain ⟨h3, eh3⟩ : ∃ z, z = T3.heap := ⟨_, rfl⟩
  rw [← eh3] at hQ3
  have e3 : T3.heap = h3 := eh3.symm
  obtain ⟨b3, kc3, rfl, N3q, Kq3, szq3, o3_0, o3_1⟩ := hQ3
  have ne_bf_b3 : bf ≠ b3 := Nat.ne_of_lt (Nat.lt_of_lt_of_le V_bf.lt szq3)
  have ne_x0_b3 : x0 ≠ b3 := Nat.ne_of_lt (Nat.lt_of_lt_of_le F_buffer_x0.lt szq3)
  have g_b3 : n0 ≤ b3 := Nat.le_trans Z0 szq3
  have sz_b3 : h0.size ≤ b3 := Nat.le_trans K0.1 szq3
  have N3 := Fr.app N0 N3q
  have F_buffer_x0 := F_buffer_x0.keep Kq3 nin0
  have F_size_x0 := F_size_x0.keep Kq3 nin0
  have V_bf := V_bf.keep Kq3 nin0
  have E_b3 : Exa Z h3 b3 "[B" := o3_0
  have V_b3 : Arv Z h3 b3 kc3 .byte (2 : Int32) [(.int u0), (.int u1)] (.int (0 : Int32)) := o3_1
  have Zn3 : n0 ≤ h3.size := Nat.le_trans Z0 Kq3.1
  have K3 := K0.trans Kq3 (all0)
  refine Goes.st (B := T3.setTop (mkF m 11 #[rv x0] [(.ref b3)])) st3 ?_
  refine Goes.retR X3 hx hlk Bd.returns rfl rfl (hb hby d11_11) ?_ (by decide) (by decide)
  show (QB1 Z x0 bf kb u0 u1 u2 u3 u4 u5 u6 u7 h0 n0) _ _ _
  rw [e3]
  exact ⟨b3, kc3, rfl, N3, K3, sz_b3, E_b3, V_b3⟩
theorem pn92 : plainName "com/example/upcaster/upcaster/io/BinaryEncoder" = true := by first | (simp [plainName, overriddenIn]; done) | decide +kernel
theorem pd92_0 : parseMethodDescriptor "(I)V" = some ⟨[.int], none⟩ := by decide +kernel
theorem ef92 (m : MethodId) (x0 : Addr) (x1 : Int32) : entryFrame m #[(.ref x0), (.int x1)] 2 = (mkF m 0 #[rv x0, iv x1] []) := by first | (simp [entryFrame, mkF, argsToLocals, Value.category]; done) | rfl
def j92_29_s0 (x1 : Int32) (u0 : Int32) (u1 : Int32) (u2 : Int32) (u3 : Int32) (u4 : Int32) (u5 : Int32) (u6 : Int32) (u7 : Int32) : Int32 := (if x1 = (0 : Int32) then (0 : Int32) else (1 : Int32))
def w92_30 (x1 : Int32) (u0 : Int32) (u1 : Int32) (u2 : Int32) (u3 : Int32) (u4 : Int32) (u5 : Int32) (u6 : Int32) (u7 : Int32) : Int32 := (nar .byte ((j92_29_s0 x1 u0 u1 u2 u3 u4 u5 u6 u7).toInt8.toInt32))
def Q92 (Z : State) (x0 : Addr) (x1 : Int32) (bf : Addr) (kb : ClassId) (u0 : Int32) (u1 : Int32) (u2 : Int32) (u3 : Int32) (u4 : Int32) (u5 : Int32) (u6 : Int32) (u7 : Int32) (h0 : Heap) (n0 : Nat) (v : Option Value) (h : Heap) (L : List Loc) : Prop := v = none ∧ Fr n0 L ∧ Keep h0 h [x0, bf] ∧ Exa Z h x0 "com/example/upcaster/upcaster/io/BinaryEncoder" ∧ Fld Z h x0 "com/example/upcaster/upcaster/io/BinaryEncoder" "buffer" "[B" (.ref bf) ∧ Fld Z h x0 "com/example/upcaster/upcaster/io/BinaryEncoder" "size" "I" (.int (3 : Int32)) ∧ Exa Z h bf "[B" ∧ Arv Z h bf kb .byte (256 : Int32) [(.int u0), (.int u1), (.int (w92_30 x1 u0 u1 u2 u3 u4 u5 u6 u7)), (.int u3), (.int u4), (.int u5), (.int u6), (.int u7)] (.int (0 : Int32))
set_option maxRecDepth 65536 in
set_option maxHeartbeats 40000000 in
theorem rm92 (l : Launch) (Z : State) (a0 : Array Value) (hw : ∀ d ∈ tables_1, d.before a0 Z = true) (ws : List Jvm.Cond) (x0 : Addr) (x1 : Int32) (bf : Addr) (kb : ClassId) (u0 : Int32) (u1 : Int32) (u2 : Int32) (u3 : Int32) (u4 : Int32) (u5 : Int32) (u6 : Int32) (u7 : Int32) (h0 : Heap) (n0 : Nat) (Z0 : n0 ≤ h0.size) (E_x0 : Exa Z h0 x0 "com/example/upcaster/upcaster/io/BinaryEncoder") (F_buffer_x0 : Fld Z h0 x0 "com/example/upcaster/upcaster/io/BinaryEncoder" "buffer" "[B" (.ref bf)) (F_size_x0 : Fld Z h0 x0 "com/example/upcaster/upcaster/io/BinaryEncoder" "size" "I" (.int (2 : Int32))) (E_bf : Exa Z h0 bf "[B") (V_bf : Arv Z h0 bf kb .byte (256 : Int32) [(.int u0), (.int u1), (.int u2), (.int u3), (.int u4), (.int u5), (.int u6), (.int u7)] (.int (0 : Int32))) (g_x0 : n0 ≤ x0) (g_bf : n0 ≤ bf) (hn1 : x0 ≠ bf) :
    MetFree l ym8 (head1 (Jvm.Cond.code ym8 prog_6_method_7_code 2 none :: ws) ({ frames := 1, cells := 0, slots := 0, locals := 13 } : Room)) (fun a U => a = #[(.ref x0), (.int x1)] ∧ Z.Warmed39 U.vm ∧ U.heap = h0) (fun _ _ _ _ _ => True) (fun _ U o U' => ∃ v L, o = .returned v ∧ (Q92 Z x0 x1 bf kb u0 u1 u2 u3 u4 u5 u6 u7 h0 n0) v U'.heap L ∧ FrameEnd U o U' L ({ frames := 1, cells := 0, slots := 0, locals := 13 } : Room).cells ({ frames := 1, cells := 0, slots := 0, locals := 13 } : Room).slots) := by
  refine MetFree.of_bodySF (plainFor_of_name pn92) hisR ?_
  intro p e s m args below meth c s₁ Bd hml0 hP hK
  obtain ⟨rfl, hZ, hh⟩ := hP
  have hx := Bd.exec
  have hby := Bd.bytes
  have hml : c.maxLocals = 2 := hml0
  have hlk : meth.locks = false := BodyLoose.notSynchronized Bd
  have hown : s.vm.findClass "com/example/upcaster/upcaster/io/BinaryEncoder" = some m.cls := findClass_of_methodNamed Bd.named
  have hnm := (name_of_methodNamed Bd.named Bd.method).1
  have w_2 := hw _ (List.mem_of_getElem? (i := 2) rfl)
  have w_3 := hw _ (List.mem_of_getElem? (i := 3) rfl)
  have w_10 := hw _ (List.mem_of_getElem? (i := 10) rfl)
  have w_11 := hw _ (List.mem_of_getElem? (i := 11) rfl)
  have w_17 := hw _ (List.mem_of_getElem? (i := 17) rfl)
  have w_18 := hw _ (List.mem_of_getElem? (i := 18) rfl)
  have w_19 := hw _ (List.mem_of_getElem? (i := 19) rfl)
  have w_20 := hw _ (List.mem_of_getElem? (i := 20) rfl)
  have w_21 := hw _ (List.mem_of_getElem? (i := 21) rfl)
  have w_22 := hw _ (List.mem_of_getElem? (i := 22) rfl)
  have w_69 := hw _ (List.mem_of_getElem? (i := 69) rfl)
  have hci : ∀ i v, (i, v) ∈ ([(134, 2147483639)] : List (Nat × Int32)) → (Jvm.Cond.constant "com/example/upcaster/upcaster/io/BinaryEncoder" i v).before #[(.ref x0), (.int x1)] s = true := (own_ciS (mvT hZ w_69) own_ci0)
  have hcl : ∀ i v, (i, v) ∈ ([] : List (Nat × Int64)) → (Jvm.Cond.constantLong "com/example/upcaster/upcaster/io/BinaryEncoder" i v).before #[(.ref x0), (.int x1)] s = true := own_ci0
  have X0 : Stand p l e ({ frames := 1, cells := 0, slots := 0, locals := 13 } : Room) s m #[(.ref x0), (.int x1)] below meth c s₁ [] 0 0 := Stand.of_body Bd
  have e0 : s₁.heap = h0 := by rw [← hh, Bd.state]; rfl
  have N0 := Fr.nil n0
  show Goes p e below s (Q92 Z x0 x1 bf kb u0 u1 u2 u3 u4 u5 u6 u7 h0 n0) ({ frames := 1, cells := 0, slots := 0, locals := 13 } : Room).cells ({ frames := 1, cells := 0, slots := 0, locals := 13 } : Room).slots (s₁.setTop (entryFrame m #[(.ref x0), (.int x1)] 2))
  refine Goes.cast (ef92 m x0 x1) ?_
  have K0 : Keep h0 h0 [x0, bf] := Keep.refl h0 _
  refine Goes.run X0 hx hown hci hcl hby (L := [(0, .aload_n 0, 1), (1, .iconst 1, 1)]) (by decide +kernel) rfl (g' := (mkF m 2 #[rv x0, iv x1] [(.int (1 : Int32)), (.ref x0)])) rfl ?_
  obtain ⟨cq1, q1a, q1b⟩ := E_x0.cell
  obtain ⟨_, _, ⟨T1, L1, k1, n1⟩, -, X1, ⟨Lc1, hQ1, l1, y1, z1⟩, st1⟩ := X0.privateBack hx (y := ym1) hown (mvT hZ w_17) (mvT hZ w_18) (own_selp (y := ym1) (mvT hZ w_2) (mvP hZ w_19) (mvT hZ w_18) (by decide)) (Cond.privateMethod_at (mvP hZ w_19 (args := #[]))) (mvT hZ w_20) (by decide) (backOf (W := 0) (rm2 l Z a0 hw [] x0 (1 : Int32) bf kb [(.int u0), (.int u1), (.int u2), (.int u3), (.int u4), (.int u5), (.int u6), (.int u7)] (2 : Int32) h0 n0 Z0 F_buffer_x0 F_size_x0 V_bf (by decide)) hZ w_20 w_3 (by decide) (by decide)) (g := (mkF m 2 #[rv x0, iv x1] [(.int (1 : Int32)), (.ref x0)])) rfl (by rw [hml]; rfl) (Steps.refl _) (a := x0) (by rw [e0]; exact q1a) q1b (argsL := [(.int (1 : Int32))]) (rest := []) (lenOf pd92_0 rfl) rfl (by show 2 * 0 + _ ≤ _; exact Nat.le_of_eq rfl) (hb hby d9_2) (fun _ _ => ⟨rfl, e0, (by decide : 0 + 0 ≤ _), (by decide : 0 + 0 ≤ _)⟩)
  dsimp only [Pt.U, Pt.locs, Pt.cells, Pt.slots] at X1 l1 y1 z1 st1 hQ1
  subst l1 y1 z1
  obtain ⟨rfl, N1q, e1⟩ := hQ1
  have N1 := Fr.app N0 N1q
  refine Goes.st (B := T1.setTop (mkF m 5 #[rv x0, iv x1] [])) (fun t k => st1.trans k) ?_
  refine Goes.run X1 hx hown hci hcl hby (L := [(5, .aload_n 0, 1)]) (by decide +kernel) rfl (g' := (mkF m 6 #[rv x0, iv x1] [(.ref x0)])) rfl ?_
  obtain ⟨T2, X2, e2, st2⟩ := getF X1 hx hZ hown (host := "") (Or.inl w_10) Via.refl e1 F_buffer_x0 (g := (mkF m 6 #[rv x0, iv x1] [(.ref x0)])) rfl rfl (hb hby d9_6)
  refine Goes.st (B := T2.setTop (mkF m 9 #[rv x0, iv x1] [(.ref bf)])) st2 ?_
  refine Goes.run X2 hx hown hci hcl hby (L := [(9, .aload_n 0, 1), (10, .dup, 1)]) (by decide +kernel) rfl (g' := (mkF m 11 #[rv x0, iv x1] [(.ref x0), (.ref x0), (.ref bf)])) rfl ?_
  obtain ⟨T3, X3, e3, st3⟩ := getF X2 hx hZ hown (host := "") (Or.inl w_21) Via.refl e2 F_size_x0 (g := (mkF m 11 #[rv x0, iv x1] [(.ref x0), (.ref x0), (.ref bf)])) rfl rfl (hb hby d9_11)
  refine Goes.st (B := T3.setTop (mkF m 14 #[rv x0, iv x1] [(.int (2 : Int32)), (.ref x0), (.ref bf)])) st3 ?_
  refine Goes.st (B := T3.setTop (mkF m 15 #[rv x0, iv x1] [(.int (2 : Int32)), (.ref x0), (.int (2 : Int32)), (.ref bf)])) (fun t k => ?_) ?_
  · refine XS.dupX1 X3.here hx rfl (hb hby d9_14) rfl rfl rfl ?_
    exact k
  refine Goes.run X3 hx hown hci hcl hby (L := [(15, .iconst 1, 1), (16, .iadd, 1)]) (by decide +kernel) rfl (g' := (mkF m 17 #[rv x0, iv x1] [(.int (3 : Int32)), (.ref x0), (.int (2 : Int32)), (.ref bf)])) rfl ?_
  obtain ⟨T4, h4, X4, e4, W4, st4⟩ := putF X3 hx hZ hown (host := "") (Or.inl w_21) Via.refl e3 F_size_x0 E_x0 (Or.inl w_22) w_2 (ty := .int) (by decide) rfl rfl (g := (mkF m 17 #[rv x0, iv x1] [(.int (3 : Int32)), (.ref x0), (.int (2 : Int32)), (.ref bf)])) rfl rfl (hb hby d9_17)
  have E_x0 := E_x0.wr W4
  have F_buffer_x0 := F_buffer_x0.other W4 (Or.inr (slot_ne (Or.inl w_11) (Or.inl w_22) (by decide) (t := (.array .byte)) (t' := .int) (by decide) (by decide)))
  have F_size_x0 : Fld Z h4 x0 "com/example/upcaster/upcaster/io/BinaryEncoder" "size" "I" (.int (3 : Int32)) := F_size_x0.same W4
  have E_bf := E_bf.wr W4
  have V_bf := V_bf.other W4 (Ne.symm hn1)
  have Zn4 : n0 ≤ h4.size := Nat.le_trans Z0 (Keep.of_wr W4).1
  have K4 := K0.wr W4 (Or.inl (List.mem_of_getElem? (i := 0) rfl))
  have N4 := Fr.snoc X4 N1 g_x0
  refine Goes.st (B := T4.setTop (mkF m 20 #[rv x0, iv x1] [(.int (2 : Int32)), (.ref bf)])) st4 ?_
  refine Goes.run X4 hx hown hci hcl hby (L := [(20, .iload_n 1, 1)]) (by decide +kernel) rfl (g' := (mkF m 21 #[rv x0, iv x1] [(.int x1), (.int (2 : Int32)), (.ref bf)])) rfl ?_
  have jn29_6 : Goes p e below s (Q92 Z x0 x1 bf kb u0 u1 u2 u3 u4 u5 u6 u7 h0 n0) ({ frames := 1, cells := 0, slots := 0, locals := 13 } : Room).cells ({ frames := 1, cells := 0, slots := 0, locals := 13 } : Room).slots (T4.setTop (mkF m 29 #[rv x0, iv x1] [(.int (j92_29_s0 x1 u0 u1 u2 u3 u4 u5 u6 u7)), (.int (2 : Int32)), (.ref bf)])) := by
    refine Goes.run X4 hx hown hci hcl hby (L := [(29, .i2b, 1)]) (by decide +kernel) rfl (g' := (mkF m 30 #[rv x0, iv x1] [(.int ((j92_29_s0 x1 u0 u1 u2 u3 u4 u5 u6 u7).toInt8.toInt32)), (.int (2 : Int32)), (.ref bf)])) rfl ?_
    obtain ⟨cl7, Ar7, q7, S7, M7, Hs7, G7⟩ := id V_bf
    have hin7 : ¬ ((2 : Int32) < 0 ∨ cl7.slots.size ≤ ((2 : Int32)).toNatClampNeg) := inb_of S7 ⟨(by decide), (by decide)⟩
    obtain ⟨T7, h7, X7, e7, W7, st7⟩ := stB X4 hx hZ e4 Ar7 (j := (2 : Int32)) hin7 (g := (mkF m 30 #[rv x0, iv x1] [(.int ((j92_29_s0 x1 u0 u1 u2 u3 u4 u5 u6 u7).toInt8.toInt32)), (.int (2 : Int32)), (.ref bf)])) rfl rfl (hb hby d9_30)
    have E_x0 := E_x0.wr W7
    have F_buffer_x0 := F_buffer_x0.other W7 (Or.inl hn1)
    have F_size_x0 := F_size_x0.other W7 (Or.inl hn1)
    have E_bf := E_bf.wr W7
    have Zn7 : n0 ≤ h7.size := Nat.le_trans Zn4 (Keep.of_wr W7).1
    have K7 := K4.wr W7 (Or.inl (List.mem_of_getElem? (i := 1) rfl))
    have N7 := Fr.snoc X7 N4 g_bf
    have V_bf : Arv Z h7 bf kb .byte (256 : Int32) [(.int u0), (.int u1), (.int (w92_30 x1 u0 u1 u2 u3 u4 u5 u6 u7)), (.int u3), (.int u4), (.int u5), (.int u6), (.int u7)] (.int (0 : Int32)) := Arv.set Ar7 q7 S7 M7 Hs7 G7 (fits_nar_byte _) W7 2 rfl (Nat.le_of_ble_eq_true rfl)
    refine Goes.st (B := T7.setTop (mkF m 31 #[rv x0, iv x1] [])) st7 ?_
    refine Goes.retV X7 hx hlk Bd.returns (hb hby d9_31) ?_ (by decide) (by decide)
    show (Q92 Z x0 x1 bf kb u0 u1 u2 u3 u4 u5 u6 u7 h0 n0) _ _ _
    rw [e7]
    exact ⟨rfl, N7, K7, E_x0, F_buffer_x0, F_size_x0, E_bf, V_bf⟩
  by_cases hc21_5 : x1 = (0 : Int32)
  · skip
    refine Goes.st (B := T4.setTop (mkF m 28 #[rv x0, iv x1] [(.int (2 : Int32)), (.ref bf)])) (fun t k => ?_) ?_
    · refine XS.ifYes X4.here hx rfl (pc0 := 21) (pc' := 28) rfl (hb hby d9_21) rfl ((if0 _ _).trans (teq hc21_5).1) (by decide) (by decide) ?_
      exact k
    refine Goes.run X4 hx hown hci hcl hby (L := [(28, .iconst 0, 1)]) (by decide +kernel) rfl (g' := (mkF m 29 #[rv x0, iv x1] [(.int (0 : Int32)), (.int (2 : Int32)), (.ref bf)])) rfl ?_
    have q := jn29_6
    rw [show (j92_29_s0 x1 u0 u1 u2 u3 u4 u5 u6 u7) = (0 : Int32) from (if_pos hc21_5)] at q
    exact q
  · skip
    refine Goes.st (B := T4.setTop (mkF m 24 #[rv x0, iv x1] [(.int (2 : Int32)), (.ref bf)])) (fun t k => ?_) ?_
    · refine XS.ifNo X4.here hx rfl (hb hby d9_21) rfl ((if0 _ _).trans (feq hc21_5).1) ?_
      exact k
    refine Goes.run X4 hx hown hci hcl hby (L := [(24, .iconst 1, 1), (25, .goto 4, 3)]) (by decide +kernel) rfl (g' := (mkF m 29 #[rv x0, iv x1] [(.int (1 : Int32)), (.int (2 : Int32)), (.ref bf)])) rfl ?_
    have q := jn29_6
    rw [show (j92_29_s0 x1 u0 u1 u2 u3 u4 u5 u6 u7) = (1 : Int32) from (if_neg hc21_5)] at q
    exact q
theorem pnA2 : plainName "java/util/Arrays" = true := by first | (simp [plainName, overriddenIn]; done) | decide +kernel
theorem pdA2_0 : parseMethodDescriptor "(II)I" = some ⟨[.int, .int], some .int⟩ := by decide +kernel
theorem efA2 (m : MethodId) (x0 : Addr) : entryFrame m #[(.ref x0), (.int (3 : Int32))] 3 = (mkF m 0 #[rv x0, iv (3 : Int32), .unset] []) := by first | (simp [entryFrame, mkF, argsToLocals, Value.category]; done) | rfl
def QA2 (Z : State) (x0 : Addr) (kb : ClassId) (u0 : Int32) (u1 : Int32) (u2 : Int32) (u3 : Int32) (u4 : Int32) (u5 : Int32) (u6 : Int32) (u7 : Int32) (h0 : Heap) (n0 : Nat) (v : Option Value) (h : Heap) (L : List Loc) : Prop := ∃ (b : Addr) (k : ClassId), v = some (.ref b) ∧ Fr n0 L ∧ Keep h0 h [] ∧ h0.size ≤ b ∧ Exa Z h b "[B" ∧ Arv Z h b k .byte (3 : Int32) [(.int u0), (.int u1), (.int u2)] (.int (0 : Int32))
set_option maxRecDepth 65536 in
set_option maxHeartbeats 40000000 in
theorem rmA2 (l : Launch) (Z : State) (a0 : Array Value) (hw : ∀ d ∈ tables_1, d.before a0 Z = true) (ws : List Jvm.Cond) (x0 : Addr) (kb : ClassId) (u0 : Int32) (u1 : Int32) (u2 : Int32) (u3 : Int32) (u4 : Int32) (u5 : Int32) (u6 : Int32) (u7 : Int32) (h0 : Heap) (n0 : Nat) (Z0 : n0 ≤ h0.size) (V_x0 : Arv Z h0 x0 kb .byte (256 : Int32) [(.int u0), (.int u1), (.int u2), (.int u3), (.int u4), (.int u5), (.int u6), (.int u7)] (.int (0 : Int32))) :
    MetFree l ym9 (head1 (Jvm.Cond.code ym9 jdk_65_method_121_code 3 (some (.array .byte)) :: ws) ({ frames := 1, cells := 1, slots := 3, locals := 18 } : Room)) (fun a U => a = #[(.ref x0), (.int (3 : Int32))] ∧ Z.Warmed39 U.vm ∧ U.heap = h0) (fun _ _ _ _ _ => True) (fun _ U o U' => ∃ v L, o = .returned v ∧ (QA2 Z x0 kb u0 u1 u2 u3 u4 u5 u6 u7 h0 n0) v U'.heap L ∧ FrameEnd U o U' L ({ frames := 1, cells := 1, slots := 3, locals := 18 } : Room).cells ({ frames := 1, cells := 1, slots := 3, locals := 18 } : Room).slots) := by
  refine MetFree.of_bodySF (plainFor_of_name pnA2) hisR ?_
  intro p e s m args below meth c s₁ Bd hml0 hP hK
  obtain ⟨rfl, hZ, hh⟩ := hP
  have hx := Bd.exec
  have hby := Bd.bytes
  have hml : c.maxLocals = 3 := hml0
  have hlk : meth.locks = false := BodyLoose.notSynchronized Bd
  have hown : s.vm.findClass "java/util/Arrays" = some m.cls := findClass_of_methodNamed Bd.named
  have hnm := (name_of_methodNamed Bd.named Bd.method).1
  have w_0 := hw _ (List.mem_of_getElem? (i := 0) rfl)
  have w_24 := hw _ (List.mem_of_getElem? (i := 24) rfl)
  have w_25 := hw _ (List.mem_of_getElem? (i := 25) rfl)
  have w_26 := hw _ (List.mem_of_getElem? (i := 26) rfl)
  have w_60 := hw _ (List.mem_of_getElem? (i := 60) rfl)
  have w_61 := hw _ (List.mem_of_getElem? (i := 61) rfl)
  have w_62 := hw _ (List.mem_of_getElem? (i := 62) rfl)
  have w_63 := hw _ (List.mem_of_getElem? (i := 63) rfl)
  have w_64 := hw _ (List.mem_of_getElem? (i := 64) rfl)
  have hci : ∀ i v, (i, v) ∈ ([] : List (Nat × Int32)) → (Jvm.Cond.constant "java/util/Arrays" i v).before #[(.ref x0), (.int (3 : Int32))] s = true := own_ci0
  have hcl : ∀ i v, (i, v) ∈ ([] : List (Nat × Int64)) → (Jvm.Cond.constantLong "java/util/Arrays" i v).before #[(.ref x0), (.int (3 : Int32))] s = true := own_ci0
  have X0 : Stand p l e ({ frames := 1, cells := 1, slots := 3, locals := 18 } : Room) s m #[(.ref x0), (.int (3 : Int32))] below meth c s₁ [] 0 0 := Stand.of_body Bd
  have e0 : s₁.heap = h0 := by rw [← hh, Bd.state]; rfl
  have N0 := Fr.nil n0
  show Goes p e below s (QA2 Z x0 kb u0 u1 u2 u3 u4 u5 u6 u7 h0 n0) ({ frames := 1, cells := 1, slots := 3, locals := 18 } : Room).cells ({ frames := 1, cells := 1, slots := 3, locals := 18 } : Room).slots (s₁.setTop (entryFrame m #[(.ref x0), (.int (3 : Int32))] 3))
  refine Goes.cast (efA2 m x0) ?_
  have K0 : Keep h0 h0 [] := Keep.refl h0 _
  refine Goes.run X0 hx hown hci hcl hby (L := [(0, .iload_n 1, 1), (1, .aload_n 0, 1)]) (by decide +kernel) rfl (g' := (mkF m 2 #[rv x0, iv (3 : Int32), .unset] [(.ref x0), (.int (3 : Int32))])) rfl ?_
  obtain ⟨cl1, Ar1, q1, S1, M1, Hs1, G1⟩ := id V_x0
  refine Goes.st (B := s₁.setTop (mkF m 3 #[rv x0, iv (3 : Int32), .unset] [(.int (256 : Int32)), (.int (3 : Int32))])) (fun t k => ?_) ?_
  · refine X0.arraylength hx (cell := cl1) (by rw [e0]; exact Ar1.1) (State.isArrayOf_alike hZ.alike Ar1.2.1) (g := (mkF m 2 #[rv x0, iv (3 : Int32), .unset] [(.ref x0), (.int (3 : Int32))])) rfl (rest := [(.int (3 : Int32))]) rfl (hb hby d10_2) _ ?_
    rw [len_of S1 M1]
    exact k
  have hc3_2 : ¬ ((3 : Int32) = (256 : Int32)) := by decide
  refine Goes.st (B := s₁.setTop (mkF m 14 #[rv x0, iv (3 : Int32), .unset] [])) (fun t k => ?_) ?_
  · refine XS.icmpYes X0.here hx rfl (pc0 := 3) (pc' := 14) rfl (hb hby d10_3) rfl (feq hc3_2).2 (by decide) (by decide) ?_
    exact k
  refine Goes.run X0 hx hown hci hcl hby (L := [(14, .iload_n 1, 1)]) (by decide +kernel) rfl (g' := (mkF m 15 #[rv x0, iv (3 : Int32), .unset] [(.int (3 : Int32))])) rfl ?_
  obtain ⟨T3, h3, k3, X3, e3, E3, A3, B3, st3⟩ := newPE X0 hx hZ (aty := .byte) w_0 e0 (g := (mkF m 15 #[rv x0, iv (3 : Int32), .unset] [(.int (3 : Int32))])) rfl (hb hby d10_15) rfl (by decide) (cap := 3) (by decide) (by decide) (by decide) (by decide) (ad := "[B") (by decide)
  obtain ⟨b3, g3⟩ : ∃ z, z = h0.size := ⟨_, rfl⟩
  rw [← g3] at A3 B3 st3
  have ne_x0_b3 : x0 ≠ b3 := Nat.ne_of_lt (Nat.lt_of_lt_of_le V_x0.lt (Nat.le_of_eq g3.symm))
  have g_b3 : n0 ≤ b3 := Nat.le_trans Z0 (Nat.le_of_eq g3.symm)
  have sz_b3 : h0.size ≤ b3 := Nat.le_trans K0.1 (Nat.le_of_eq g3.symm)
  have V_x0 := V_x0.ext E3
  have Zn3 : n0 ≤ h3.size := Nat.le_trans Z0 E3.1
  have K3 := K0.ext E3
  have E_b3 : Exa Z h3 b3 "[B" := B3
  have V_b3 : Arv Z h3 b3 k3 .byte (3 : Int32) [(.int (0 : Int32)), (.int (0 : Int32)), (.int (0 : Int32))] (.int (0 : Int32)) := (Arv.new A3 (by decide)).pad (pad_rep [] (.int (0 : Int32)) 3)
  refine Goes.st (B := T3.setTop (mkF m 17 #[rv x0, iv (3 : Int32), .unset] [(.ref b3)])) st3 ?_
  refine Goes.run X3 hx hown hci hcl hby (L := [(17, .astore_n 2, 1), (18, .aload_n 0, 1), (19, .iconst 0, 1), (20, .aload_n 2, 1), (21, .iconst 0, 1), (22, .aload_n 0, 1)]) (by decide +kernel) rfl (g' := (mkF m 23 #[rv x0, iv (3 : Int32), rv b3] [(.ref x0), (.int (0 : Int32)), (.ref b3), (.int (0 : Int32)), (.ref x0)])) rfl ?_
  obtain ⟨cl4, Ar4, q4, S4, M4, Hs4, G4⟩ := id V_x0
  refine Goes.st (B := T3.setTop (mkF m 24 #[rv x0, iv (3 : Int32), rv b3] [(.int (256 : Int32)), (.int (0 : Int32)), (.ref b3), (.int (0 : Int32)), (.ref x0)])) (fun t k => ?_) ?_
  · refine X3.arraylength hx (cell := cl4) (by rw [e3]; exact Ar4.1) (State.isArrayOf_alike hZ.alike Ar4.2.1) (g := (mkF m 23 #[rv x0, iv (3 : Int32), rv b3] [(.ref x0), (.int (0 : Int32)), (.ref b3), (.int (0 : Int32)), (.ref x0)])) rfl (rest := [(.int (0 : Int32)), (.ref b3), (.int (0 : Int32)), (.ref x0)]) rfl (hb hby d10_23) _ ?_
    rw [len_of S4 M4]
    exact k
  refine Goes.run X3 hx hown hci hcl hby (L := [(24, .iload_n 1, 1)]) (by decide +kernel) rfl (g' := (mkF m 25 #[rv x0, iv (3 : Int32), rv b3] [(.int (3 : Int32)), (.int (256 : Int32)), (.int (0 : Int32)), (.ref b3), (.int (0 : Int32)), (.ref x0)])) rfl ?_
  obtain ⟨_, _, ⟨T5, L5, k5, n5⟩, -, X5, ⟨Lc5, hQ5, l5, y5, z5⟩, st5⟩ := Jvm.LawKit.callS X3 hx (y := ym7) hown (mvT hZ w_60) (mvT hZ w_61) (mvT hZ w_62) (mvT hZ w_63) (by decide) (backOf (W := 4) (rm8 l Z a0 hw [] (256 : Int32) (3 : Int32) h3 n0 Zn3 ) hZ w_63 w_62 (by decide) (by decide)) (g := (mkF m 25 #[rv x0, iv (3 : Int32), rv b3] [(.int (3 : Int32)), (.int (256 : Int32)), (.int (0 : Int32)), (.ref b3), (.int (0 : Int32)), (.ref x0)])) rfl (by rw [hml]; rfl) (argsL := [(.int (256 : Int32)), (.int (3 : Int32))]) (rest := [(.int (0 : Int32)), (.ref b3), (.int (0 : Int32)), (.ref x0)]) (lenOf pdA2_0 rfl) rfl (by show 2 * 0 + _ ≤ _; exact Nat.le_of_eq rfl) (hb hby d10_25) (fun _ _ => ⟨rfl, e3, (by decide : 1 + 0 ≤ _), (by decide : 3 + 0 ≤ _)⟩)
  dsimp only [Pt.U, Pt.locs, Pt.cells, Pt.slots] at X5 l5 y5 z5 st5 hQ5
  subst l5 y5 z5
  obtain ⟨rfl, N5q, e5⟩ := hQ5
  have N5 := Fr.app N0 N5q
  refine Goes.st (B := T5.setTop (mkF m 28 #[rv x0, iv (3 : Int32), rv b3] [(.int (3 : Int32)), (.int (0 : Int32)), (.ref b3), (.int (0 : Int32)), (.ref x0)])) st5 ?_
  obtain ⟨T6, h6, L6, X6, e6, N6, Kq6, Vq6, st6⟩ := cpA X5 hx hZ hown w_64 w_26 w_24 w_25 e5 V_x0 V_b3 (Or.inl ⟨rfl, rfl⟩) (sp := (0 : Int32)) (dp := (0 : Int32)) (nn := (3 : Int32)) (by decide) (by decide) (by decide) (by decide) (by decide) (us := [(.int u0), (.int u1), (.int u2)]) rfl (Nat.le_of_ble_eq_true rfl) N5 g_b3 (g := (mkF m 28 #[rv x0, iv (3 : Int32), rv b3] [(.int (3 : Int32)), (.int (0 : Int32)), (.ref b3), (.int (0 : Int32)), (.ref x0)])) rfl (by rw [hml]; rfl) (rest := []) rfl (hb hby d10_28) (by decide) (W := 0) (by show 2 * 0 + _ ≤ _; exact Nat.le_of_eq rfl) (by decide)
  have V_x0 := V_x0.keep Kq6 (ninS ne_x0_b3 nin0)
  have E_b3 := E_b3.keep Kq6
  have Zn6 : n0 ≤ h6.size := Nat.le_trans Zn3 Kq6.1
  have K6 := K3.trans Kq6 ((allS (Or.inr sz_b3) all0))
  have V_b3 : Arv Z h6 b3 k3 .byte (3 : Int32) [(.int u0), (.int u1), (.int u2)] (.int (0 : Int32)) := Vq6
  refine Goes.st (B := T6.setTop (mkF m 31 #[rv x0, iv (3 : Int32), rv b3] [])) st6 ?_
  refine Goes.run X6 hx hown hci hcl hby (L := [(31, .aload_n 2, 1)]) (by decide +kernel) rfl (g' := (mkF m 32 #[rv x0, iv (3 : Int32), rv b3] [(.ref b3)])) rfl ?_
  refine Goes.retR X6 hx hlk Bd.returns rfl rfl (hb hby d10_32) ?_ (by decide) (by decide)
  show (QA2 Z x0 kb u0 u1 u2 u3 u4 u5 u6 u7 h0 n0) _ _ _
  rw [e6]
  exact ⟨b3, k3, rfl, N6, K6, sz_b3, E_b3, V_b3⟩
theorem pnB2 : plainName "com/example/upcaster/upcaster/io/BinaryEncoder" = true := by first | (simp [plainName, overriddenIn]; done) | decide +kernel
theorem pdB2_0 : parseMethodDescriptor "([BI)[B" = some ⟨[(.array .byte), .int], some (.array .byte)⟩ := by decide +kernel
theorem efB2 (m : MethodId) (x0 : Addr) : entryFrame m #[(.ref x0)] 1 = (mkF m 0 #[rv x0] []) := by first | (simp [entryFrame, mkF, argsToLocals, Value.category]; done) | rfl
def QB2 (Z : State) (x0 : Addr) (bf : Addr) (kb : ClassId) (u0 : Int32) (u1 : Int32) (u2 : Int32) (u3 : Int32) (u4 : Int32) (u5 : Int32) (u6 : Int32) (u7 : Int32) (h0 : Heap) (n0 : Nat) (v : Option Value) (h : Heap) (L : List Loc) : Prop := ∃ (b : Addr) (k : ClassId), v = some (.ref b) ∧ Fr n0 L ∧ Keep h0 h [] ∧ h0.size ≤ b ∧ Exa Z h b "[B" ∧ Arv Z h b k .byte (3 : Int32) [(.int u0), (.int u1), (.int u2)] (.int (0 : Int32))
set_option maxRecDepth 65536 in
set_option maxHeartbeats 40000000 in
theorem rmB2 (l : Launch) (Z : State) (a0 : Array Value) (hw : ∀ d ∈ tables_1, d.before a0 Z = true) (ws : List Jvm.Cond) (x0 : Addr) (bf : Addr) (kb : ClassId) (u0 : Int32) (u1 : Int32) (u2 : Int32) (u3 : Int32) (u4 : Int32) (u5 : Int32) (u6 : Int32) (u7 : Int32) (h0 : Heap) (n0 : Nat) (Z0 : n0 ≤ h0.size) (F_buffer_x0 : Fld Z h0 x0 "com/example/upcaster/upcaster/io/BinaryEncoder" "buffer" "[B" (.ref bf)) (F_size_x0 : Fld Z h0 x0 "com/example/upcaster/upcaster/io/BinaryEncoder" "size" "I" (.int (3 : Int32))) (V_bf : Arv Z h0 bf kb .byte (256 : Int32) [(.int u0), (.int u1), (.int u2), (.int u3), (.int u4), (.int u5), (.int u6), (.int u7)] (.int (0 : Int32))) :
    MetFree l ym10 (head1 (Jvm.Cond.code ym10 prog_6_method_6_code 1 (some (.array .byte)) :: ws) ({ frames := 2, cells := 1, slots := 3, locals := 32 } : Room)) (fun a U => a = #[(.ref x0)] ∧ Z.Warmed39 U.vm ∧ U.heap = h0) (fun _ _ _ _ _ => True) (fun _ U o U' => ∃ v L, o = .returned v ∧ (QB2 Z x0 bf kb u0 u1 u2 u3 u4 u5 u6 u7 h0 n0) v U'.heap L ∧ FrameEnd U o U' L ({ frames := 2, cells := 1, slots := 3, locals := 32 } : Room).cells ({ frames := 2, cells := 1, slots := 3, locals := 32 } : Room).slots) := by
  refine MetFree.of_bodySF (plainFor_of_name pnB2) hisR ?_
  intro p e s m args below meth c s₁ Bd hml0 hP hK
  obtain ⟨rfl, hZ, hh⟩ := hP
  have hx := Bd.exec
  have hby := Bd.bytes
  have hml : c.maxLocals = 1 := hml0
  have hlk : meth.locks = false := BodyLoose.notSynchronized Bd
  have hown : s.vm.findClass "com/example/upcaster/upcaster/io/BinaryEncoder" = some m.cls := findClass_of_methodNamed Bd.named
  have hnm := (name_of_methodNamed Bd.named Bd.method).1
  have w_10 := hw _ (List.mem_of_getElem? (i := 10) rfl)
  have w_21 := hw _ (List.mem_of_getElem? (i := 21) rfl)
  have w_56 := hw _ (List.mem_of_getElem? (i := 56) rfl)
  have w_57 := hw _ (List.mem_of_getElem? (i := 57) rfl)
  have w_58 := hw _ (List.mem_of_getElem? (i := 58) rfl)
  have w_59 := hw _ (List.mem_of_getElem? (i := 59) rfl)
  have w_69 := hw _ (List.mem_of_getElem? (i := 69) rfl)
  have hci : ∀ i v, (i, v) ∈ ([(134, 2147483639)] : List (Nat × Int32)) → (Jvm.Cond.constant "com/example/upcaster/upcaster/io/BinaryEncoder" i v).before #[(.ref x0)] s = true := (own_ciS (mvT hZ w_69) own_ci0)
  have hcl : ∀ i v, (i, v) ∈ ([] : List (Nat × Int64)) → (Jvm.Cond.constantLong "com/example/upcaster/upcaster/io/BinaryEncoder" i v).before #[(.ref x0)] s = true := own_ci0
  have X0 : Stand p l e ({ frames := 2, cells := 1, slots := 3, locals := 32 } : Room) s m #[(.ref x0)] below meth c s₁ [] 0 0 := Stand.of_body Bd
  have e0 : s₁.heap = h0 := by rw [← hh, Bd.state]; rfl
  have N0 := Fr.nil n0
  show Goes p e below s (QB2 Z x0 bf kb u0 u1 u2 u3 u4 u5 u6 u7 h0 n0) ({ frames := 2, cells := 1, slots := 3, locals := 32 } : Room).cells ({ frames := 2, cells := 1, slots := 3, locals := 32 } : Room).slots (s₁.setTop (entryFrame m #[(.ref x0)] 1))
  refine Goes.cast (efB2 m x0) ?_
  have K0 : Keep h0 h0 [] := Keep.refl h0 _
  refine Goes.run X0 hx hown hci hcl hby (L := [(0, .aload_n 0, 1)]) (by decide +kernel) rfl (g' := (mkF m 1 #[rv x0] [(.ref x0)])) rfl ?_
  obtain ⟨T1, X1, e1, st1⟩ := getF X0 hx hZ hown (host := "") (Or.inl w_10) Via.refl e0 F_buffer_x0 (g := (mkF m 1 #[rv x0] [(.ref x0)])) rfl rfl (hb hby d11_1)
  refine Goes.st (B := T1.setTop (mkF m 4 #[rv x0] [(.ref bf)])) st1 ?_
  refine Goes.run X1 hx hown hci hcl hby (L := [(4, .aload_n 0, 1)]) (by decide +kernel) rfl (g' := (mkF m 5 #[rv x0] [(.ref x0), (.ref bf)])) rfl ?_
  obtain ⟨T2, X2, e2, st2⟩ := getF X1 hx hZ hown (host := "") (Or.inl w_21) Via.refl e1 F_size_x0 (g := (mkF m 5 #[rv x0] [(.ref x0), (.ref bf)])) rfl rfl (hb hby d11_5)
  refine Goes.st (B := T2.setTop (mkF m 8 #[rv x0] [(.int (3 : Int32)), (.ref bf)])) st2 ?_
  obtain ⟨_, _, ⟨T3, L3, k3, n3⟩, -, X3, ⟨Lc3, hQ3, l3, y3, z3⟩, st3⟩ := Jvm.LawKit.callS X2 hx (y := ym9) hown (mvT hZ w_56) (mvT hZ w_57) (mvT hZ w_58) (mvT hZ w_59) (by decide) (backOf (W := 0) (rmA2 l Z a0 hw [] bf kb u0 u1 u2 u3 u4 u5 u6 u7 h0 n0 Z0 V_bf) hZ w_59 w_58 (by decide) (by decide)) (g := (mkF m 8 #[rv x0] [(.int (3 : Int32)), (.ref bf)])) rfl (by rw [hml]; rfl) (argsL := [(.ref bf), (.int (3 : Int32))]) (rest := []) (lenOf pdB2_0 rfl) rfl (by show 2 * 0 + _ ≤ _; exact Nat.le_of_eq rfl) (hb hby d11_8) (fun _ _ => ⟨rfl, e2, (by decide : 0 + 1 ≤ _), (by decide : 0 + 3 ≤ _)⟩)
  dsimp only [Pt.U, Pt.locs, Pt.cells, Pt.slots] at X3 l3 y3 z3 st3 hQ3
  subst l3 y3 z3
  obtain ⟨h3, eh3⟩ : ∃ z, z = T3.heap := ⟨_, rfl⟩
  rw [← eh3] at hQ3
  have e3 : T3.heap = h3 := eh3.symm
  obtain ⟨b3, kc3, rfl, N3q, Kq3, szq3, o3_0, o3_1⟩ := hQ3
  have ne_bf_b3 : bf ≠ b3 := Nat.ne_of_lt (Nat.lt_of_lt_of_le V_bf.lt szq3)
  have ne_x0_b3 : x0 ≠ b3 := Nat.ne_of_lt (Nat.lt_of_lt_of_le F_buffer_x0.lt szq3)
  have g_b3 : n0 ≤ b3 := Nat.le_trans Z0 szq3
  have sz_b3 : h0.size ≤ b3 := Nat.le_trans K0.1 szq3
  have N3 := Fr.app N0 N3q
  have F_buffer_x0 := F_buffer_x0.keep Kq3 nin0
  have F_size_x0 := F_size_x0.keep Kq3 nin0
  have V_bf := V_bf.keep Kq3 nin0
  have E_b3 : Exa Z h3 b3 "[B" := o3_0
  have V_b3 : Arv Z h3 b3 kc3 .byte (3 : Int32) [(.int u0), (.int u1), (.int u2)] (.int (0 : Int32)) := o3_1
  have Zn3 : n0 ≤ h3.size := Nat.le_trans Z0 Kq3.1
  have K3 := K0.trans Kq3 (all0)
  refine Goes.st (B := T3.setTop (mkF m 11 #[rv x0] [(.ref b3)])) st3 ?_
  refine Goes.retR X3 hx hlk Bd.returns rfl rfl (hb hby d11_11) ?_ (by decide) (by decide)
  show (QB2 Z x0 bf kb u0 u1 u2 u3 u4 u5 u6 u7 h0 n0) _ _ _
  rw [e3]
  exact ⟨b3, kc3, rfl, N3, K3, sz_b3, E_b3, V_b3⟩
theorem pn93 : plainName "com/example/upcaster/upcaster/io/BinaryEncoder" = true := by first | (simp [plainName, overriddenIn]; done) | decide +kernel
theorem pd93_0 : parseMethodDescriptor "(I)V" = some ⟨[.int], none⟩ := by decide +kernel
theorem ef93 (m : MethodId) (x0 : Addr) (x1 : Int32) : entryFrame m #[(.ref x0), (.int x1)] 2 = (mkF m 0 #[rv x0, iv x1] []) := by first | (simp [entryFrame, mkF, argsToLocals, Value.category]; done) | rfl
def j93_29_s0 (x1 : Int32) (u0 : Int32) (u1 : Int32) (u2 : Int32) (u3 : Int32) (u4 : Int32) (u5 : Int32) (u6 : Int32) (u7 : Int32) : Int32 := (if x1 = (0 : Int32) then (0 : Int32) else (1 : Int32))
def w93_30 (x1 : Int32) (u0 : Int32) (u1 : Int32) (u2 : Int32) (u3 : Int32) (u4 : Int32) (u5 : Int32) (u6 : Int32) (u7 : Int32) : Int32 := (nar .byte ((j93_29_s0 x1 u0 u1 u2 u3 u4 u5 u6 u7).toInt8.toInt32))
def Q93 (Z : State) (x0 : Addr) (x1 : Int32) (bf : Addr) (kb : ClassId) (u0 : Int32) (u1 : Int32) (u2 : Int32) (u3 : Int32) (u4 : Int32) (u5 : Int32) (u6 : Int32) (u7 : Int32) (h0 : Heap) (n0 : Nat) (v : Option Value) (h : Heap) (L : List Loc) : Prop := v = none ∧ Fr n0 L ∧ Keep h0 h [x0, bf] ∧ Exa Z h x0 "com/example/upcaster/upcaster/io/BinaryEncoder" ∧ Fld Z h x0 "com/example/upcaster/upcaster/io/BinaryEncoder" "buffer" "[B" (.ref bf) ∧ Fld Z h x0 "com/example/upcaster/upcaster/io/BinaryEncoder" "size" "I" (.int (4 : Int32)) ∧ Exa Z h bf "[B" ∧ Arv Z h bf kb .byte (256 : Int32) [(.int u0), (.int u1), (.int u2), (.int (w93_30 x1 u0 u1 u2 u3 u4 u5 u6 u7)), (.int u4), (.int u5), (.int u6), (.int u7)] (.int (0 : Int32))
set_option maxRecDepth 65536 in
set_option maxHeartbeats 40000000 in
theorem rm93 (l : Launch) (Z : State) (a0 : Array Value) (hw : ∀ d ∈ tables_1, d.before a0 Z = true) (ws : List Jvm.Cond) (x0 : Addr) (x1 : Int32) (bf : Addr) (kb : ClassId) (u0 : Int32) (u1 : Int32) (u2 : Int32) (u3 : Int32) (u4 : Int32) (u5 : Int32) (u6 : Int32) (u7 : Int32) (h0 : Heap) (n0 : Nat) (Z0 : n0 ≤ h0.size) (E_x0 : Exa Z h0 x0 "com/example/upcaster/upcaster/io/BinaryEncoder") (F_buffer_x0 : Fld Z h0 x0 "com/example/upcaster/upcaster/io/BinaryEncoder" "buffer" "[B" (.ref bf)) (F_size_x0 : Fld Z h0 x0 "com/example/upcaster/upcaster/io/BinaryEncoder" "size" "I" (.int (3 : Int32))) (E_bf : Exa Z h0 bf "[B") (V_bf : Arv Z h0 bf kb .byte (256 : Int32) [(.int u0), (.int u1), (.int u2), (.int u3), (.int u4), (.int u5), (.int u6), (.int u7)] (.int (0 : Int32))) (g_x0 : n0 ≤ x0) (g_bf : n0 ≤ bf) (hn1 : x0 ≠ bf) :
    MetFree l ym8 (head1 (Jvm.Cond.code ym8 prog_6_method_7_code 2 none :: ws) ({ frames := 1, cells := 0, slots := 0, locals := 13 } : Room)) (fun a U => a = #[(.ref x0), (.int x1)] ∧ Z.Warmed39 U.vm ∧ U.heap = h0) (fun _ _ _ _ _ => True) (fun _ U o U' => ∃ v L, o = .returned v ∧ (Q93 Z x0 x1 bf kb u0 u1 u2 u3 u4 u5 u6 u7 h0 n0) v U'.heap L ∧ FrameEnd U o U' L ({ frames := 1, cells := 0, slots := 0, locals := 13 } : Room).cells ({ frames := 1, cells := 0, slots := 0, locals := 13 } : Room).slots) := by
  refine MetFree.of_bodySF (plainFor_of_name pn93) hisR ?_
  intro p e s m args below meth c s₁ Bd hml0 hP hK
  obtain ⟨rfl, hZ, hh⟩ := hP
  have hx := Bd.exec
  have hby := Bd.bytes
  have hml : c.maxLocals = 2 := hml0
  have hlk : meth.locks = false := BodyLoose.notSynchronized Bd
  have hown : s.vm.findClass "com/example/upcaster/upcaster/io/BinaryEncoder" = some m.cls := findClass_of_methodNamed Bd.named
  have hnm := (name_of_methodNamed Bd.named Bd.method).1
  have w_2 := hw _ (List.mem_of_getElem? (i := 2) rfl)
  have w_3 := hw _ (List.mem_of_getElem? (i := 3) rfl)
  have w_10 := hw _ (List.mem_of_getElem? (i := 10) rfl)
  have w_11 := hw _ (List.mem_of_getElem? (i := 11) rfl)
  have w_17 := hw _ (List.mem_of_getElem? (i := 17) rfl)
  have w_18 := hw _ (List.mem_of_getElem? (i := 18) rfl)
  have w_19 := hw _ (List.mem_of_getElem? (i := 19) rfl)
  have w_20 := hw _ (List.mem_of_getElem? (i := 20) rfl)
  have w_21 := hw _ (List.mem_of_getElem? (i := 21) rfl)
  have w_22 := hw _ (List.mem_of_getElem? (i := 22) rfl)
  have w_69 := hw _ (List.mem_of_getElem? (i := 69) rfl)
  have hci : ∀ i v, (i, v) ∈ ([(134, 2147483639)] : List (Nat × Int32)) → (Jvm.Cond.constant "com/example/upcaster/upcaster/io/BinaryEncoder" i v).before #[(.ref x0), (.int x1)] s = true := (own_ciS (mvT hZ w_69) own_ci0)
  have hcl : ∀ i v, (i, v) ∈ ([] : List (Nat × Int64)) → (Jvm.Cond.constantLong "com/example/upcaster/upcaster/io/BinaryEncoder" i v).before #[(.ref x0), (.int x1)] s = true := own_ci0
  have X0 : Stand p l e ({ frames := 1, cells := 0, slots := 0, locals := 13 } : Room) s m #[(.ref x0), (.int x1)] below meth c s₁ [] 0 0 := Stand.of_body Bd
  have e0 : s₁.heap = h0 := by rw [← hh, Bd.state]; rfl
  have N0 := Fr.nil n0
  show Goes p e below s (Q93 Z x0 x1 bf kb u0 u1 u2 u3 u4 u5 u6 u7 h0 n0) ({ frames := 1, cells := 0, slots := 0, locals := 13 } : Room).cells ({ frames := 1, cells := 0, slots := 0, locals := 13 } : Room).slots (s₁.setTop (entryFrame m #[(.ref x0), (.int x1)] 2))
  refine Goes.cast (ef93 m x0 x1) ?_
  have K0 : Keep h0 h0 [x0, bf] := Keep.refl h0 _
  refine Goes.run X0 hx hown hci hcl hby (L := [(0, .aload_n 0, 1), (1, .iconst 1, 1)]) (by decide +kernel) rfl (g' := (mkF m 2 #[rv x0, iv x1] [(.int (1 : Int32)), (.ref x0)])) rfl ?_
  obtain ⟨cq1, q1a, q1b⟩ := E_x0.cell
  obtain ⟨_, _, ⟨T1, L1, k1, n1⟩, -, X1, ⟨Lc1, hQ1, l1, y1, z1⟩, st1⟩ := X0.privateBack hx (y := ym1) hown (mvT hZ w_17) (mvT hZ w_18) (own_selp (y := ym1) (mvT hZ w_2) (mvP hZ w_19) (mvT hZ w_18) (by decide)) (Cond.privateMethod_at (mvP hZ w_19 (args := #[]))) (mvT hZ w_20) (by decide) (backOf (W := 0) (rm2 l Z a0 hw [] x0 (1 : Int32) bf kb [(.int u0), (.int u1), (.int u2), (.int u3), (.int u4), (.int u5), (.int u6), (.int u7)] (3 : Int32) h0 n0 Z0 F_buffer_x0 F_size_x0 V_bf (by decide)) hZ w_20 w_3 (by decide) (by decide)) (g := (mkF m 2 #[rv x0, iv x1] [(.int (1 : Int32)), (.ref x0)])) rfl (by rw [hml]; rfl) (Steps.refl _) (a := x0) (by rw [e0]; exact q1a) q1b (argsL := [(.int (1 : Int32))]) (rest := []) (lenOf pd93_0 rfl) rfl (by show 2 * 0 + _ ≤ _; exact Nat.le_of_eq rfl) (hb hby d9_2) (fun _ _ => ⟨rfl, e0, (by decide : 0 + 0 ≤ _), (by decide : 0 + 0 ≤ _)⟩)
  dsimp only [Pt.U, Pt.locs, Pt.cells, Pt.slots] at X1 l1 y1 z1 st1 hQ1
  subst l1 y1 z1
  obtain ⟨rfl, N1q, e1⟩ := hQ1
  have N1 := Fr.app N0 N1q
  refine Goes.st (B := T1.setTop (mkF m 5 #[rv x0, iv x1] [])) (fun t k => st1.trans k) ?_
  refine Goes.run X1 hx hown hci hcl hby (L := [(5, .aload_n 0, 1)]) (by decide +kernel) rfl (g' := (mkF m 6 #[rv x0, iv x1] [(.ref x0)])) rfl ?_
  obtain ⟨T2, X2, e2, st2⟩ := getF X1 hx hZ hown (host := "") (Or.inl w_10) Via.refl e1 F_buffer_x0 (g := (mkF m 6 #[rv x0, iv x1] [(.ref x0)])) rfl rfl (hb hby d9_6)
  refine Goes.st (B := T2.setTop (mkF m 9 #[rv x0, iv x1] [(.ref bf)])) st2 ?_
  refine Goes.run X2 hx hown hci hcl hby (L := [(9, .aload_n 0, 1), (10, .dup, 1)]) (by decide +kernel) rfl (g' := (mkF m 11 #[rv x0, iv x1] [(.ref x0), (.ref x0), (.ref bf)])) rfl ?_
  obtain ⟨T3, X3, e3, st3⟩ := getF X2 hx hZ hown (host := "") (Or.inl w_21) Via.refl e2 F_size_x0 (g := (mkF m 11 #[rv x0, iv x1] [(.ref x0), (.ref x0), (.ref bf)])) rfl rfl (hb hby d9_11)
  refine Goes.st (B := T3.setTop (mkF m 14 #[rv x0, iv x1] [(.int (3 : Int32)), (.ref x0), (.ref bf)])) st3 ?_
  refine Goes.st (B := T3.setTop (mkF m 15 #[rv x0, iv x1] [(.int (3 : Int32)), (.ref x0), (.int (3 : Int32)), (.ref bf)])) (fun t k => ?_) ?_
  · refine XS.dupX1 X3.here hx rfl (hb hby d9_14) rfl rfl rfl ?_
    exact k
  refine Goes.run X3 hx hown hci hcl hby (L := [(15, .iconst 1, 1), (16, .iadd, 1)]) (by decide +kernel) rfl (g' := (mkF m 17 #[rv x0, iv x1] [(.int (4 : Int32)), (.ref x0), (.int (3 : Int32)), (.ref bf)])) rfl ?_
  obtain ⟨T4, h4, X4, e4, W4, st4⟩ := putF X3 hx hZ hown (host := "") (Or.inl w_21) Via.refl e3 F_size_x0 E_x0 (Or.inl w_22) w_2 (ty := .int) (by decide) rfl rfl (g := (mkF m 17 #[rv x0, iv x1] [(.int (4 : Int32)), (.ref x0), (.int (3 : Int32)), (.ref bf)])) rfl rfl (hb hby d9_17)
  have E_x0 := E_x0.wr W4
  have F_buffer_x0 := F_buffer_x0.other W4 (Or.inr (slot_ne (Or.inl w_11) (Or.inl w_22) (by decide) (t := (.array .byte)) (t' := .int) (by decide) (by decide)))
  have F_size_x0 : Fld Z h4 x0 "com/example/upcaster/upcaster/io/BinaryEncoder" "size" "I" (.int (4 : Int32)) := F_size_x0.same W4
  have E_bf := E_bf.wr W4
  have V_bf := V_bf.other W4 (Ne.symm hn1)
  have Zn4 : n0 ≤ h4.size := Nat.le_trans Z0 (Keep.of_wr W4).1
  have K4 := K0.wr W4 (Or.inl (List.mem_of_getElem? (i := 0) rfl))
  have N4 := Fr.snoc X4 N1 g_x0
  refine Goes.st (B := T4.setTop (mkF m 20 #[rv x0, iv x1] [(.int (3 : Int32)), (.ref bf)])) st4 ?_
  refine Goes.run X4 hx hown hci hcl hby (L := [(20, .iload_n 1, 1)]) (by decide +kernel) rfl (g' := (mkF m 21 #[rv x0, iv x1] [(.int x1), (.int (3 : Int32)), (.ref bf)])) rfl ?_
  have jn29_6 : Goes p e below s (Q93 Z x0 x1 bf kb u0 u1 u2 u3 u4 u5 u6 u7 h0 n0) ({ frames := 1, cells := 0, slots := 0, locals := 13 } : Room).cells ({ frames := 1, cells := 0, slots := 0, locals := 13 } : Room).slots (T4.setTop (mkF m 29 #[rv x0, iv x1] [(.int (j93_29_s0 x1 u0 u1 u2 u3 u4 u5 u6 u7)), (.int (3 : Int32)), (.ref bf)])) := by
    refine Goes.run X4 hx hown hci hcl hby (L := [(29, .i2b, 1)]) (by decide +kernel) rfl (g' := (mkF m 30 #[rv x0, iv x1] [(.int ((j93_29_s0 x1 u0 u1 u2 u3 u4 u5 u6 u7).toInt8.toInt32)), (.int (3 : Int32)), (.ref bf)])) rfl ?_
    obtain ⟨cl7, Ar7, q7, S7, M7, Hs7, G7⟩ := id V_bf
    have hin7 : ¬ ((3 : Int32) < 0 ∨ cl7.slots.size ≤ ((3 : Int32)).toNatClampNeg) := inb_of S7 ⟨(by decide), (by decide)⟩
    obtain ⟨T7, h7, X7, e7, W7, st7⟩ := stB X4 hx hZ e4 Ar7 (j := (3 : Int32)) hin7 (g := (mkF m 30 #[rv x0, iv x1] [(.int ((j93_29_s0 x1 u0 u1 u2 u3 u4 u5 u6 u7).toInt8.toInt32)), (.int (3 : Int32)), (.ref bf)])) rfl rfl (hb hby d9_30)
    have E_x0 := E_x0.wr W7
    have F_buffer_x0 := F_buffer_x0.other W7 (Or.inl hn1)
    have F_size_x0 := F_size_x0.other W7 (Or.inl hn1)
    have E_bf := E_bf.wr W7
    have Zn7 : n0 ≤ h7.size := Nat.le_trans Zn4 (Keep.of_wr W7).1
    have K7 := K4.wr W7 (Or.inl (List.mem_of_getElem? (i := 1) rfl))
    have N7 := Fr.snoc X7 N4 g_bf
    have V_bf : Arv Z h7 bf kb .byte (256 : Int32) [(.int u0), (.int u1), (.int u2), (.int (w93_30 x1 u0 u1 u2 u3 u4 u5 u6 u7)), (.int u4), (.int u5), (.int u6), (.int u7)] (.int (0 : Int32)) := Arv.set Ar7 q7 S7 M7 Hs7 G7 (fits_nar_byte _) W7 3 rfl (Nat.le_of_ble_eq_true rfl)
    refine Goes.st (B := T7.setTop (mkF m 31 #[rv x0, iv x1] [])) st7 ?_
    refine Goes.retV X7 hx hlk Bd.returns (hb hby d9_31) ?_ (by decide) (by decide)
    show (Q93 Z x0 x1 bf kb u0 u1 u2 u3 u4 u5 u6 u7 h0 n0) _ _ _
    rw [e7]
    exact ⟨rfl, N7, K7, E_x0, F_buffer_x0, F_size_x0, E_bf, V_bf⟩
  by_cases hc21_5 : x1 = (0 : Int32)
  · skip
    refine Goes.st (B := T4.setTop (mkF m 28 #[rv x0, iv x1] [(.int (3 : Int32)), (.ref bf)])) (fun t k => ?_) ?_
    · refine XS.ifYes X4.here hx rfl (pc0 := 21) (pc' := 28) rfl (hb hby d9_21) rfl ((if0 _ _).trans (teq hc21_5).1) (by decide) (by decide) ?_
      exact k
    refine Goes.run X4 hx hown hci hcl hby (L := [(28, .iconst 0, 1)]) (by decide +kernel) rfl (g' := (mkF m 29 #[rv x0, iv x1] [(.int (0 : Int32)), (.int (3 : Int32)), (.ref bf)])) rfl ?_
    have q := jn29_6
    rw [show (j93_29_s0 x1 u0 u1 u2 u3 u4 u5 u6 u7) = (0 : Int32) from (if_pos hc21_5)] at q
    exact q
  · skip
    refine Goes.st (B := T4.setTop (mkF m 24 #[rv x0, iv x1] [(.int (3 : Int32)), (.ref bf)])) (fun t k => ?_) ?_
    · refine XS.ifNo X4.here hx rfl (hb hby d9_21) rfl ((if0 _ _).trans (feq hc21_5).1) ?_
      exact k
    refine Goes.run X4 hx hown hci hcl hby (L := [(24, .iconst 1, 1), (25, .goto 4, 3)]) (by decide +kernel) rfl (g' := (mkF m 29 #[rv x0, iv x1] [(.int (1 : Int32)), (.int (3 : Int32)), (.ref bf)])) rfl ?_
    have q := jn29_6
    rw [show (j93_29_s0 x1 u0 u1 u2 u3 u4 u5 u6 u7) = (1 : Int32) from (if_neg hc21_5)] at q
    exact q
theorem pnA3 : plainName "java/util/Arrays" = true := by first | (simp [plainName, overriddenIn]; done) | decide +kernel
theorem pdA3_0 : parseMethodDescriptor "(II)I" = some ⟨[.int, .int], some .int⟩ := by decide +kernel
theorem efA3 (m : MethodId) (x0 : Addr) : entryFrame m #[(.ref x0), (.int (4 : Int32))] 3 = (mkF m 0 #[rv x0, iv (4 : Int32), .unset] []) := by first | (simp [entryFrame, mkF, argsToLocals, Value.category]; done) | rfl
def QA3 (Z : State) (x0 : Addr) (kb : ClassId) (u0 : Int32) (u1 : Int32) (u2 : Int32) (u3 : Int32) (u4 : Int32) (u5 : Int32) (u6 : Int32) (u7 : Int32) (h0 : Heap) (n0 : Nat) (v : Option Value) (h : Heap) (L : List Loc) : Prop := ∃ (b : Addr) (k : ClassId), v = some (.ref b) ∧ Fr n0 L ∧ Keep h0 h [] ∧ h0.size ≤ b ∧ Exa Z h b "[B" ∧ Arv Z h b k .byte (4 : Int32) [(.int u0), (.int u1), (.int u2), (.int u3)] (.int (0 : Int32))
set_option maxRecDepth 65536 in
set_option maxHeartbeats 40000000 in
theorem rmA3 (l : Launch) (Z : State) (a0 : Array Value) (hw : ∀ d ∈ tables_1, d.before a0 Z = true) (ws : List Jvm.Cond) (x0 : Addr) (kb : ClassId) (u0 : Int32) (u1 : Int32) (u2 : Int32) (u3 : Int32) (u4 : Int32) (u5 : Int32) (u6 : Int32) (u7 : Int32) (h0 : Heap) (n0 : Nat) (Z0 : n0 ≤ h0.size) (V_x0 : Arv Z h0 x0 kb .byte (256 : Int32) [(.int u0), (.int u1), (.int u2), (.int u3), (.int u4), (.int u5), (.int u6), (.int u7)] (.int (0 : Int32))) :
    MetFree l ym9 (head1 (Jvm.Cond.code ym9 jdk_65_method_121_code 3 (some (.array .byte)) :: ws) ({ frames := 1, cells := 1, slots := 4, locals := 18 } : Room)) (fun a U => a = #[(.ref x0), (.int (4 : Int32))] ∧ Z.Warmed39 U.vm ∧ U.heap = h0) (fun _ _ _ _ _ => True) (fun _ U o U' => ∃ v L, o = .returned v ∧ (QA3 Z x0 kb u0 u1 u2 u3 u4 u5 u6 u7 h0 n0) v U'.heap L ∧ FrameEnd U o U' L ({ frames := 1, cells := 1, slots := 4, locals := 18 } : Room).cells ({ frames := 1, cells := 1, slots := 4, locals := 18 } : Room).slots) := by
  refine MetFree.of_bodySF (plainFor_of_name pnA3) hisR ?_
  intro p e s m args below meth c s₁ Bd hml0 hP hK
  obtain ⟨rfl, hZ, hh⟩ := hP
  have hx := Bd.exec
  have hby := Bd.bytes
  have hml : c.maxLocals = 3 := hml0
  have hlk : meth.locks = false := BodyLoose.notSynchronized Bd
  have hown : s.vm.findClass "java/util/Arrays" = some m.cls := findClass_of_methodNamed Bd.named
  have hnm := (name_of_methodNamed Bd.named Bd.method).1
  have w_0 := hw _ (List.mem_of_getElem? (i := 0) rfl)
  have w_24 := hw _ (List.mem_of_getElem? (i := 24) rfl)
  have w_25 := hw _ (List.mem_of_getElem? (i := 25) rfl)
  have w_26 := hw _ (List.mem_of_getElem? (i := 26) rfl)
  have w_60 := hw _ (List.mem_of_getElem? (i := 60) rfl)
  have w_61 := hw _ (List.mem_of_getElem? (i := 61) rfl)
  have w_62 := hw _ (List.mem_of_getElem? (i := 62) rfl)
  have w_63 := hw _ (List.mem_of_getElem? (i := 63) rfl)
  have w_64 := hw _ (List.mem_of_getElem? (i := 64) rfl)
  have hci : ∀ i v, (i, v) ∈ ([] : List (Nat × Int32)) → (Jvm.Cond.constant "java/util/Arrays" i v).before #[(.ref x0), (.int (4 : Int32))] s = true := own_ci0
  have hcl : ∀ i v, (i, v) ∈ ([] : List (Nat × Int64)) → (Jvm.Cond.constantLong "java/util/Arrays" i v).before #[(.ref x0), (.int (4 : Int32))] s = true := own_ci0
  have X0 : Stand p l e ({ frames := 1, cells := 1, slots := 4, locals := 18 } : Room) s m #[(.ref x0), (.int (4 : Int32))] below meth c s₁ [] 0 0 := Stand.of_body Bd
  have e0 : s₁.heap = h0 := by rw [← hh, Bd.state]; rfl
  have N0 := Fr.nil n0
  show Goes p e below s (QA3 Z x0 kb u0 u1 u2 u3 u4 u5 u6 u7 h0 n0) ({ frames := 1, cells := 1, slots := 4, locals := 18 } : Room).cells ({ frames := 1, cells := 1, slots := 4, locals := 18 } : Room).slots (s₁.setTop (entryFrame m #[(.ref x0), (.int (4 : Int32))] 3))
  refine Goes.cast (efA3 m x0) ?_
  have K0 : Keep h0 h0 [] := Keep.refl h0 _
  refine Goes.run X0 hx hown hci hcl hby (L := [(0, .iload_n 1, 1), (1, .aload_n 0, 1)]) (by decide +kernel) rfl (g' := (mkF m 2 #[rv x0, iv (4 : Int32), .unset] [(.ref x0), (.int (4 : Int32))])) rfl ?_
  obtain ⟨cl1, Ar1, q1, S1, M1, Hs1, G1⟩ := id V_x0
  refine Goes.st (B := s₁.setTop (mkF m 3 #[rv x0, iv (4 : Int32), .unset] [(.int (256 : Int32)), (.int (4 : Int32))])) (fun t k => ?_) ?_
  · refine X0.arraylength hx (cell := cl1) (by rw [e0]; exact Ar1.1) (State.isArrayOf_alike hZ.alike Ar1.2.1) (g := (mkF m 2 #[rv x0, iv (4 : Int32), .unset] [(.ref x0), (.int (4 : Int32))])) rfl (rest := [(.int (4 : Int32))]) rfl (hb hby d10_2) _ ?_
    rw [len_of S1 M1]
    exact k
  have hc3_2 : ¬ ((4 : Int32) = (256 : Int32)) := by decide
  refine Goes.st (B := s₁.setTop (mkF m 14 #[rv x0, iv (4 : Int32), .unset] [])) (fun t k => ?_) ?_
  · refine XS.icmpYes X0.here hx rfl (pc0 := 3) (pc' := 14) rfl (hb hby d10_3) rfl (feq hc3_2).2 (by decide) (by decide) ?_
    exact k
  refine Goes.run X0 hx hown hci hcl hby (L := [(14, .iload_n 1, 1)]) (by decide +kernel) rfl (g' := (mkF m 15 #[rv x0, iv (4 : Int32), .unset] [(.int (4 : Int32))])) rfl ?_
  obtain ⟨T3, h3, k3, X3, e3, E3, A3, B3, st3⟩ := newPE X0 hx hZ (aty := .byte) w_0 e0 (g := (mkF m 15 #[rv x0, iv (4 : Int32), .unset] [(.int (4 : Int32))])) rfl (hb hby d10_15) rfl (by decide) (cap := 4) (by decide) (by decide) (by decide) (by decide) (ad := "[B") (by decide)
  obtain ⟨b3, g3⟩ : ∃ z, z = h0.size := ⟨_, rfl⟩
  rw [← g3] at A3 B3 st3
  have ne_x0_b3 : x0 ≠ b3 := Nat.ne_of_lt (Nat.lt_of_lt_of_le V_x0.lt (Nat.le_of_eq g3.symm))
  have g_b3 : n0 ≤ b3 := Nat.le_trans Z0 (Nat.le_of_eq g3.symm)
  have sz_b3 : h0.size ≤ b3 := Nat.le_trans K0.1 (Nat.le_of_eq g3.symm)
  have V_x0 := V_x0.ext E3
  have Zn3 : n0 ≤ h3.size := Nat.le_trans Z0 E3.1
  have K3 := K0.ext E3
  have E_b3 : Exa Z h3 b3 "[B" := B3
  have V_b3 : Arv Z h3 b3 k3 .byte (4 : Int32) [(.int (0 : Int32)), (.int (0 : Int32)), (.int (0 : Int32)), (.int (0 : Int32))] (.int (0 : Int32)) := (Arv.new A3 (by decide)).pad (pad_rep [] (.int (0 : Int32)) 4)
  refine Goes.st (B := T3.setTop (mkF m 17 #[rv x0, iv (4 : Int32), .unset] [(.ref b3)])) st3 ?_
  refine Goes.run X3 hx hown hci hcl hby (L := [(17, .astore_n 2, 1), (18, .aload_n 0, 1), (19, .iconst 0, 1), (20, .aload_n 2, 1), (21, .iconst 0, 1), (22, .aload_n 0, 1)]) (by decide +kernel) rfl (g' := (mkF m 23 #[rv x0, iv (4 : Int32), rv b3] [(.ref x0), (.int (0 : Int32)), (.ref b3), (.int (0 : Int32)), (.ref x0)])) rfl ?_
  obtain ⟨cl4, Ar4, q4, S4, M4, Hs4, G4⟩ := id V_x0
  refine Goes.st (B := T3.setTop (mkF m 24 #[rv x0, iv (4 : Int32), rv b3] [(.int (256 : Int32)), (.int (0 : Int32)), (.ref b3), (.int (0 : Int32)), (.ref x0)])) (fun t k => ?_) ?_
  · refine X3.arraylength hx (cell := cl4) (by rw [e3]; exact Ar4.1) (State.isArrayOf_alike hZ.alike Ar4.2.1) (g := (mkF m 23 #[rv x0, iv (4 : Int32), rv b3] [(.ref x0), (.int (0 : Int32)), (.ref b3), (.int (0 : Int32)), (.ref x0)])) rfl (rest := [(.int (0 : Int32)), (.ref b3), (.int (0 : Int32)), (.ref x0)]) rfl (hb hby d10_23) _ ?_
    rw [len_of S4 M4]
    exact k
  refine Goes.run X3 hx hown hci hcl hby (L := [(24, .iload_n 1, 1)]) (by decide +kernel) rfl (g' := (mkF m 25 #[rv x0, iv (4 : Int32), rv b3] [(.int (4 : Int32)), (.int (256 : Int32)), (.int (0 : Int32)), (.ref b3), (.int (0 : Int32)), (.ref x0)])) rfl ?_
  obtain ⟨_, _, ⟨T5, L5, k5, n5⟩, -, X5, ⟨Lc5, hQ5, l5, y5, z5⟩, st5⟩ := Jvm.LawKit.callS X3 hx (y := ym7) hown (mvT hZ w_60) (mvT hZ w_61) (mvT hZ w_62) (mvT hZ w_63) (by decide) (backOf (W := 4) (rm8 l Z a0 hw [] (256 : Int32) (4 : Int32) h3 n0 Zn3 ) hZ w_63 w_62 (by decide) (by decide)) (g := (mkF m 25 #[rv x0, iv (4 : Int32), rv b3] [(.int (4 : Int32)), (.int (256 : Int32)), (.int (0 : Int32)), (.ref b3), (.int (0 : Int32)), (.ref x0)])) rfl (by rw [hml]; rfl) (argsL := [(.int (256 : Int32)), (.int (4 : Int32))]) (rest := [(.int (0 : Int32)), (.ref b3), (.int (0 : Int32)), (.ref x0)]) (lenOf pdA3_0 rfl) rfl (by show 2 * 0 + _ ≤ _; exact Nat.le_of_eq rfl) (hb hby d10_25) (fun _ _ => ⟨rfl, e3, (by decide : 1 + 0 ≤ _), (by decide : 4 + 0 ≤ _)⟩)
  dsimp only [Pt.U, Pt.locs, Pt.cells, Pt.slots] at X5 l5 y5 z5 st5 hQ5
  subst l5 y5 z5
  obtain ⟨rfl, N5q, e5⟩ := hQ5
  have N5 := Fr.app N0 N5q
  refine Goes.st (B := T5.setTop (mkF m 28 #[rv x0, iv (4 : Int32), rv b3] [(.int (4 : Int32)), (.int (0 : Int32)), (.ref b3), (.int (0 : Int32)), (.ref x0)])) st5 ?_
  obtain ⟨T6, h6, L6, X6, e6, N6, Kq6, Vq6, st6⟩ := cpA X5 hx hZ hown w_64 w_26 w_24 w_25 e5 V_x0 V_b3 (Or.inl ⟨rfl, rfl⟩) (sp := (0 : Int32)) (dp := (0 : Int32)) (nn := (4 : Int32)) (by decide) (by decide) (by decide) (by decide) (by decide) (us := [(.int u0), (.int u1), (.int u2), (.int u3)]) rfl (Nat.le_of_ble_eq_true rfl) N5 g_b3 (g := (mkF m 28 #[rv x0, iv (4 : Int32), rv b3] [(.int (4 : Int32)), (.int (0 : Int32)), (.ref b3), (.int (0 : Int32)), (.ref x0)])) rfl (by rw [hml]; rfl) (rest := []) rfl (hb hby d10_28) (by decide) (W := 0) (by show 2 * 0 + _ ≤ _; exact Nat.le_of_eq rfl) (by decide)
  have V_x0 := V_x0.keep Kq6 (ninS ne_x0_b3 nin0)
  have E_b3 := E_b3.keep Kq6
  have Zn6 : n0 ≤ h6.size := Nat.le_trans Zn3 Kq6.1
  have K6 := K3.trans Kq6 ((allS (Or.inr sz_b3) all0))
  have V_b3 : Arv Z h6 b3 k3 .byte (4 : Int32) [(.int u0), (.int u1), (.int u2), (.int u3)] (.int (0 : Int32)) := Vq6
  refine Goes.st (B := T6.setTop (mkF m 31 #[rv x0, iv (4 : Int32), rv b3] [])) st6 ?_
  refine Goes.run X6 hx hown hci hcl hby (L := [(31, .aload_n 2, 1)]) (by decide +kernel) rfl (g' := (mkF m 32 #[rv x0, iv (4 : Int32), rv b3] [(.ref b3)])) rfl ?_
  refine Goes.retR X6 hx hlk Bd.returns rfl rfl (hb hby d10_32) ?_ (by decide) (by decide)
  show (QA3 Z x0 kb u0 u1 u2 u3 u4 u5 u6 u7 h0 n0) _ _ _
  rw [e6]
  exact ⟨b3, k3, rfl, N6, K6, sz_b3, E_b3, V_b3⟩
theorem pnB3 : plainName "com/example/upcaster/upcaster/io/BinaryEncoder" = true := by first | (simp [plainName, overriddenIn]; done) | decide +kernel
theorem pdB3_0 : parseMethodDescriptor "([BI)[B" = some ⟨[(.array .byte), .int], some (.array .byte)⟩ := by decide +kernel
theorem efB3 (m : MethodId) (x0 : Addr) : entryFrame m #[(.ref x0)] 1 = (mkF m 0 #[rv x0] []) := by first | (simp [entryFrame, mkF, argsToLocals, Value.category]; done) | rfl
def QB3 (Z : State) (x0 : Addr) (bf : Addr) (kb : ClassId) (u0 : Int32) (u1 : Int32) (u2 : Int32) (u3 : Int32) (u4 : Int32) (u5 : Int32) (u6 : Int32) (u7 : Int32) (h0 : Heap) (n0 : Nat) (v : Option Value) (h : Heap) (L : List Loc) : Prop := ∃ (b : Addr) (k : ClassId), v = some (.ref b) ∧ Fr n0 L ∧ Keep h0 h [] ∧ h0.size ≤ b ∧ Exa Z h b "[B" ∧ Arv Z h b k .byte (4 : Int32) [(.int u0), (.int u1), (.int u2), (.int u3)] (.int (0 : Int32))
set_option maxRecDepth 65536 in
set_option maxHeartbeats 40000000 in
theorem rmB3 (l : Launch) (Z : State) (a0 : Array Value) (hw : ∀ d ∈ tables_1, d.before a0 Z = true) (ws : List Jvm.Cond) (x0 : Addr) (bf : Addr) (kb : ClassId) (u0 : Int32) (u1 : Int32) (u2 : Int32) (u3 : Int32) (u4 : Int32) (u5 : Int32) (u6 : Int32) (u7 : Int32) (h0 : Heap) (n0 : Nat) (Z0 : n0 ≤ h0.size) (F_buffer_x0 : Fld Z h0 x0 "com/example/upcaster/upcaster/io/BinaryEncoder" "buffer" "[B" (.ref bf)) (F_size_x0 : Fld Z h0 x0 "com/example/upcaster/upcaster/io/BinaryEncoder" "size" "I" (.int (4 : Int32))) (V_bf : Arv Z h0 bf kb .byte (256 : Int32) [(.int u0), (.int u1), (.int u2), (.int u3), (.int u4), (.int u5), (.int u6), (.int u7)] (.int (0 : Int32))) :
    MetFree l ym10 (head1 (Jvm.Cond.code ym10 prog_6_method_6_code 1 (some (.array .byte)) :: ws) ({ frames := 2, cells := 1, slots := 4, locals := 32 } : Room)) (fun a U => a = #[(.ref x0)] ∧ Z.Warmed39 U.vm ∧ U.heap = h0) (fun _ _ _ _ _ => True) (fun _ U o U' => ∃ v L, o = .returned v ∧ (QB3 Z x0 bf kb u0 u1 u2 u3 u4 u5 u6 u7 h0 n0) v U'.heap L ∧ FrameEnd U o U' L ({ frames := 2, cells := 1, slots := 4, locals := 32 } : Room).cells ({ frames := 2, cells := 1, slots := 4, locals := 32 } : Room).slots) := by
  refine MetFree.of_bodySF (plainFor_of_name pnB3) hisR ?_
  intro p e s m args below meth c s₁ Bd hml0 hP hK
  obtain ⟨rfl, hZ, hh⟩ := hP
  have hx := Bd.exec
  have hby := Bd.bytes
  have hml : c.maxLocals = 1 := hml0
  have hlk : meth.locks = false := BodyLoose.notSynchronized Bd
  have hown : s.vm.findClass "com/example/upcaster/upcaster/io/BinaryEncoder" = some m.cls := findClass_of_methodNamed Bd.named
  have hnm := (name_of_methodNamed Bd.named Bd.method).1
  have w_10 := hw _ (List.mem_of_getElem? (i := 10) rfl)
  have w_21 := hw _ (List.mem_of_getElem? (i := 21) rfl)
  have w_56 := hw _ (List.mem_of_getElem? (i := 56) rfl)
  have w_57 := hw _ (List.mem_of_getElem? (i := 57) rfl)
  have w_58 := hw _ (List.mem_of_getElem? (i := 58) rfl)
  have w_59 := hw _ (List.mem_of_getElem? (i := 59) rfl)
  have w_69 := hw _ (List.mem_of_getElem? (i := 69) rfl)
  have hci : ∀ i v, (i, v) ∈ ([(134, 2147483639)] : List (Nat × Int32)) → (Jvm.Cond.constant "com/example/upcaster/upcaster/io/BinaryEncoder" i v).before #[(.ref x0)] s = true := (own_ciS (mvT hZ w_69) own_ci0)
  have hcl : ∀ i v, (i, v) ∈ ([] : List (Nat × Int64)) → (Jvm.Cond.constantLong "com/example/upcaster/upcaster/io/BinaryEncoder" i v).before #[(.ref x0)] s = true := own_ci0
  have X0 : Stand p l e ({ frames := 2, cells := 1, slots := 4, locals := 32 } : Room) s m #[(.ref x0)] below meth c s₁ [] 0 0 := Stand.of_body Bd
  have e0 : s₁.heap = h0 := by rw [← hh, Bd.state]; rfl
  have N0 := Fr.nil n0
  show Goes p e below s (QB3 Z x0 bf kb u0 u1 u2 u3 u4 u5 u6 u7 h0 n0) ({ frames := 2, cells := 1, slots := 4, locals := 32 } : Room).cells ({ frames := 2, cells := 1, slots := 4, locals := 32 } : Room).slots (s₁.setTop (entryFrame m #[(.ref x0)] 1))
  refine Goes.cast (efB3 m x0) ?_
  have K0 : Keep h0 h0 [] := Keep.refl h0 _
  refine Goes.run X0 hx hown hci hcl hby (L := [(0, .aload_n 0, 1)]) (by decide +kernel) rfl (g' := (mkF m 1 #[rv x0] [(.ref x0)])) rfl ?_
  obtain ⟨T1, X1, e1, st1⟩ := getF X0 hx hZ hown (host := "") (Or.inl w_10) Via.refl e0 F_buffer_x0 (g := (mkF m 1 #[rv x0] [(.ref x0)])) rfl rfl (hb hby d11_1)
  refine Goes.st (B := T1.setTop (mkF m 4 #[rv x0] [(.ref bf)])) st1 ?_
  refine Goes.run X1 hx hown hci hcl hby (L := [(4, .aload_n 0, 1)]) (by decide +kernel) rfl (g' := (mkF m 5 #[rv x0] [(.ref x0), (.ref bf)])) rfl ?_
  obtain ⟨T2, X2, e2, st2⟩ := getF X1 hx hZ hown (host := "") (Or.inl w_21) Via.refl e1 F_size_x0 (g := (mkF m 5 #[rv x0] [(.ref x0), (.ref bf)])) rfl rfl (hb hby d11_5)
  refine Goes.st (B := T2.setTop (mkF m 8 #[rv x0] [(.int (4 : Int32)), (.ref bf)])) st2 ?_
  obtain ⟨_, _, ⟨T3, L3, k3, n3⟩, -, X3, ⟨Lc3, hQ3, l3, y3, z3⟩, st3⟩ := Jvm.LawKit.callS X2 hx (y := ym9) hown (mvT hZ w_56) (mvT hZ w_57) (mvT hZ w_58) (mvT hZ w_59) (by decide) (backOf (W := 0) (rmA3 l Z a0 hw [] bf kb u0 u1 u2 u3 u4 u5 u6 u7 h0 n0 Z0 V_bf) hZ w_59 w_58 (by decide) (by decide)) (g := (mkF m 8 #[rv x0] [(.int (4 : Int32)), (.ref bf)])) rfl (by rw [hml]; rfl) (argsL := [(.ref bf), (.int (4 : Int32))]) (rest := []) (lenOf pdB3_0 rfl) rfl (by show 2 * 0 + _ ≤ _; exact Nat.le_of_eq rfl) (hb hby d11_8) (fun _ _ => ⟨rfl, e2, (by decide : 0 + 1 ≤ _), (by decide : 0 + 4 ≤ _)⟩)
  dsimp only [Pt.U, Pt.locs, Pt.cells, Pt.slots] at X3 l3 y3 z3 st3 hQ3
  subst l3 y3 z3
  obtain ⟨h3, eh3⟩ : ∃ z, z = T3.heap := ⟨_, rfl⟩
  rw [← eh3] at hQ3
  have e3 : T3.heap = h3 := eh3.symm
  obtain ⟨b3, kc3, rfl, N3q, Kq3, szq3, o3_0, o3_1⟩ := hQ3
  have ne_bf_b3 : bf ≠ b3 := Nat.ne_of_lt (Nat.lt_of_lt_of_le V_bf.lt szq3)
  have ne_x0_b3 : x0 ≠ b3 := Nat.ne_of_lt (Nat.lt_of_lt_of_le F_buffer_x0.lt szq3)
  have g_b3 : n0 ≤ b3 := Nat.le_trans Z0 szq3
  have sz_b3 : h0.size ≤ b3 := Nat.le_trans K0.1 szq3
  have N3 := Fr.app N0 N3q
  have F_buffer_x0 := F_buffer_x0.keep Kq3 nin0
  have F_size_x0 := F_size_x0.keep Kq3 nin0
  have V_bf := V_bf.keep Kq3 nin0
  have E_b3 : Exa Z h3 b3 "[B" := o3_0
  have V_b3 : Arv Z h3 b3 kc3 .byte (4 : Int32) [(.int u0), (.int u1), (.int u2), (.int u3)] (.int (0 : Int32)) := o3_1
  have Zn3 : n0 ≤ h3.size := Nat.le_trans Z0 Kq3.1
  have K3 := K0.trans Kq3 (all0)
  refine Goes.st (B := T3.setTop (mkF m 11 #[rv x0] [(.ref b3)])) st3 ?_
  refine Goes.retR X3 hx hlk Bd.returns rfl rfl (hb hby d11_11) ?_ (by decide) (by decide)
  show (QB3 Z x0 bf kb u0 u1 u2 u3 u4 u5 u6 u7 h0 n0) _ _ _
  rw [e3]
  exact ⟨b3, kc3, rfl, N3, K3, sz_b3, E_b3, V_b3⟩
theorem pn94 : plainName "com/example/upcaster/upcaster/io/BinaryEncoder" = true := by first | (simp [plainName, overriddenIn]; done) | decide +kernel
theorem pd94_0 : parseMethodDescriptor "(I)V" = some ⟨[.int], none⟩ := by decide +kernel
theorem ef94 (m : MethodId) (x0 : Addr) (x1 : Int32) : entryFrame m #[(.ref x0), (.int x1)] 2 = (mkF m 0 #[rv x0, iv x1] []) := by first | (simp [entryFrame, mkF, argsToLocals, Value.category]; done) | rfl
def j94_29_s0 (x1 : Int32) (u0 : Int32) (u1 : Int32) (u2 : Int32) (u3 : Int32) (u4 : Int32) (u5 : Int32) (u6 : Int32) (u7 : Int32) : Int32 := (if x1 = (0 : Int32) then (0 : Int32) else (1 : Int32))
def w94_30 (x1 : Int32) (u0 : Int32) (u1 : Int32) (u2 : Int32) (u3 : Int32) (u4 : Int32) (u5 : Int32) (u6 : Int32) (u7 : Int32) : Int32 := (nar .byte ((j94_29_s0 x1 u0 u1 u2 u3 u4 u5 u6 u7).toInt8.toInt32))
def Q94 (Z : State) (x0 : Addr) (x1 : Int32) (bf : Addr) (kb : ClassId) (u0 : Int32) (u1 : Int32) (u2 : Int32) (u3 : Int32) (u4 : Int32) (u5 : Int32) (u6 : Int32) (u7 : Int32) (h0 : Heap) (n0 : Nat) (v : Option Value) (h : Heap) (L : List Loc) : Prop := v = none ∧ Fr n0 L ∧ Keep h0 h [x0, bf] ∧ Exa Z h x0 "com/example/upcaster/upcaster/io/BinaryEncoder" ∧ Fld Z h x0 "com/example/upcaster/upcaster/io/BinaryEncoder" "buffer" "[B" (.ref bf) ∧ Fld Z h x0 "com/example/upcaster/upcaster/io/BinaryEncoder" "size" "I" (.int (5 : Int32)) ∧ Exa Z h bf "[B" ∧ Arv Z h bf kb .byte (256 : Int32) [(.int u0), (.int u1), (.int u2), (.int u3), (.int (w94_30 x1 u0 u1 u2 u3 u4 u5 u6 u7)), (.int u5), (.int u6), (.int u7)] (.int (0 : Int32))
set_option maxRecDepth 65536 in
set_option maxHeartbeats 40000000 in
theorem rm94 (l : Launch) (Z : State) (a0 : Array Value) (hw : ∀ d ∈ tables_1, d.before a0 Z = true) (ws : List Jvm.Cond) (x0 : Addr) (x1 : Int32) (bf : Addr) (kb : ClassId) (u0 : Int32) (u1 : Int32) (u2 : Int32) (u3 : Int32) (u4 : Int32) (u5 : Int32) (u6 : Int32) (u7 : Int32) (h0 : Heap) (n0 : Nat) (Z0 : n0 ≤ h0.size) (E_x0 : Exa Z h0 x0 "com/example/upcaster/upcaster/io/BinaryEncoder") (F_buffer_x0 : Fld Z h0 x0 "com/example/upcaster/upcaster/io/BinaryEncoder" "buffer" "[B" (.ref bf)) (F_size_x0 : Fld Z h0 x0 "com/example/upcaster/upcaster/io/BinaryEncoder" "size" "I" (.int (4 : Int32))) (E_bf : Exa Z h0 bf "[B") (V_bf : Arv Z h0 bf kb .byte (256 : Int32) [(.int u0), (.int u1), (.int u2), (.int u3), (.int u4), (.int u5), (.int u6), (.int u7)] (.int (0 : Int32))) (g_x0 : n0 ≤ x0) (g_bf : n0 ≤ bf) (hn1 : x0 ≠ bf) :
    MetFree l ym8 (head1 (Jvm.Cond.code ym8 prog_6_method_7_code 2 none :: ws) ({ frames := 1, cells := 0, slots := 0, locals := 13 } : Room)) (fun a U => a = #[(.ref x0), (.int x1)] ∧ Z.Warmed39 U.vm ∧ U.heap = h0) (fun _ _ _ _ _ => True) (fun _ U o U' => ∃ v L, o = .returned v ∧ (Q94 Z x0 x1 bf kb u0 u1 u2 u3 u4 u5 u6 u7 h0 n0) v U'.heap L ∧ FrameEnd U o U' L ({ frames := 1, cells := 0, slots := 0, locals := 13 } : Room).cells ({ frames := 1, cells := 0, slots := 0, locals := 13 } : Room).slots) := by
  refine MetFree.of_bodySF (plainFor_of_name pn94) hisR ?_
  intro p e s m args below meth c s₁ Bd hml0 hP hK
  obtain ⟨rfl, hZ, hh⟩ := hP
  have hx := Bd.exec
  have hby := Bd.bytes
  have hml : c.maxLocals = 2 := hml0
  have hlk : meth.locks = false := BodyLoose.notSynchronized Bd
  have hown : s.vm.findClass "com/example/upcaster/upcaster/io/BinaryEncoder" = some m.cls := findClass_of_methodNamed Bd.named
  have hnm := (name_of_methodNamed Bd.named Bd.method).1
  have w_2 := hw _ (List.mem_of_getElem? (i := 2) rfl)
  have w_3 := hw _ (List.mem_of_getElem? (i := 3) rfl)
  have w_10 := hw _ (List.mem_of_getElem? (i := 10) rfl)
  have w_11 := hw _ (List.mem_of_getElem? (i := 11) rfl)
  have w_17 := hw _ (List.mem_of_getElem? (i := 17) rfl)
  have w_18 := hw _ (List.mem_of_getElem? (i := 18) rfl)
  have w_19 := hw _ (List.mem_of_getElem? (i := 19) rfl)
  have w_20 := hw _ (List.mem_of_getElem? (i := 20) rfl)
  have w_21 := hw _ (List.mem_of_getElem? (i := 21) rfl)
  have w_22 := hw _ (List.mem_of_getElem? (i := 22) rfl)
  have w_69 := hw _ (List.mem_of_getElem? (i := 69) rfl)
  have hci : ∀ i v, (i, v) ∈ ([(134, 2147483639)] : List (Nat × Int32)) → (Jvm.Cond.constant "com/example/upcaster/upcaster/io/BinaryEncoder" i v).before #[(.ref x0), (.int x1)] s = true := (own_ciS (mvT hZ w_69) own_ci0)
  have hcl : ∀ i v, (i, v) ∈ ([] : List (Nat × Int64)) → (Jvm.Cond.constantLong "com/example/upcaster/upcaster/io/BinaryEncoder" i v).before #[(.ref x0), (.int x1)] s = true := own_ci0
  have X0 : Stand p l e ({ frames := 1, cells := 0, slots := 0, locals := 13 } : Room) s m #[(.ref x0), (.int x1)] below meth c s₁ [] 0 0 := Stand.of_body Bd
  have e0 : s₁.heap = h0 := by rw [← hh, Bd.state]; rfl
  have N0 := Fr.nil n0
  show Goes p e below s (Q94 Z x0 x1 bf kb u0 u1 u2 u3 u4 u5 u6 u7 h0 n0) ({ frames := 1, cells := 0, slots := 0, locals := 13 } : Room).cells ({ frames := 1, cells := 0, slots := 0, locals := 13 } : Room).slots (s₁.setTop (entryFrame m #[(.ref x0), (.int x1)] 2))
  refine Goes.cast (ef94 m x0 x1) ?_
  have K0 : Keep h0 h0 [x0, bf] := Keep.refl h0 _
  refine Goes.run X0 hx hown hci hcl hby (L := [(0, .aload_n 0, 1), (1, .iconst 1, 1)]) (by decide +kernel) rfl (g' := (mkF m 2 #[rv x0, iv x1] [(.int (1 : Int32)), (.ref x0)])) rfl ?_
  obtain ⟨cq1, q1a, q1b⟩ := E_x0.cell
  obtain ⟨_, _, ⟨T1, L1, k1, n1⟩, -, X1, ⟨Lc1, hQ1, l1, y1, z1⟩, st1⟩ := X0.privateBack hx (y := ym1) hown (mvT hZ w_17) (mvT hZ w_18) (own_selp (y := ym1) (mvT hZ w_2) (mvP hZ w_19) (mvT hZ w_18) (by decide)) (Cond.privateMethod_at (mvP hZ w_19 (args := #[]))) (mvT hZ w_20) (by decide) (backOf (W := 0) (rm2 l Z a0 hw [] x0 (1 : Int32) bf kb [(.int u0), (.int u1), (.int u2), (.int u3), (.int u4), (.int u5), (.int u6), (.int u7)] (4 : Int32) h0 n0 Z0 F_buffer_x0 F_size_x0 V_bf (by decide)) hZ w_20 w_3 (by decide) (by decide)) (g := (mkF m 2 #[rv x0, iv x1] [(.int (1 : Int32)), (.ref x0)])) rfl (by rw [hml]; rfl) (Steps.refl _) (a := x0) (by rw [e0]; exact q1a) q1b (argsL := [(.int (1 : Int32))]) (rest := []) (lenOf pd94_0 rfl) rfl (by show 2 * 0 + _ ≤ _; exact Nat.le_of_eq rfl) (hb hby d9_2) (fun _ _ => ⟨rfl, e0, (by decide : 0 + 0 ≤ _), (by decide : 0 + 0 ≤ _)⟩)
  dsimp only [Pt.U, Pt.locs, Pt.cells, Pt.slots] at X1 l1 y1 z1 st1 hQ1
  subst l1 y1 z1
  obtain ⟨rfl, N1q, e1⟩ := hQ1
  have N1 := Fr.app N0 N1q
  refine Goes.st (B := T1.setTop (mkF m 5 #[rv x0, iv x1] [])) (fun t k => st1.trans k) ?_
  refine Goes.run X1 hx hown hci hcl hby (L := [(5, .aload_n 0, 1)]) (by decide +kernel) rfl (g' := (mkF m 6 #[rv x0, iv x1] [(.ref x0)])) rfl ?_
  obtain ⟨T2, X2, e2, st2⟩ := getF X1 hx hZ hown (host := "") (Or.inl w_10) Via.refl e1 F_buffer_x0 (g := (mkF m 6 #[rv x0, iv x1] [(.ref x0)])) rfl rfl (hb hby d9_6)
  refine Goes.st (B := T2.setTop (mkF m 9 #[rv x0, iv x1] [(.ref bf)])) st2 ?_
  refine Goes.run X2 hx hown hci hcl hby (L := [(9, .aload_n 0, 1), (10, .dup, 1)]) (by decide +kernel) rfl (g' := (mkF m 11 #[rv x0, iv x1] [(.ref x0), (.ref x0), (.ref bf)])) rfl ?_
  obtain ⟨T3, X3, e3, st3⟩ := getF X2 hx hZ hown (host := "") (Or.inl w_21) Via.refl e2 F_size_x0 (g := (mkF m 11 #[rv x0, iv x1] [(.ref x0), (.ref x0), (.ref bf)])) rfl rfl (hb hby d9_11)
  refine Goes.st (B := T3.setTop (mkF m 14 #[rv x0, iv x1] [(.int (4 : Int32)), (.ref x0), (.ref bf)])) st3 ?_
  refine Goes.st (B := T3.setTop (mkF m 15 #[rv x0, iv x1] [(.int (4 : Int32)), (.ref x0), (.int (4 : Int32)), (.ref bf)])) (fun t k => ?_) ?_
  · refine XS.dupX1 X3.here hx rfl (hb hby d9_14) rfl rfl rfl ?_
    exact k
  refine Goes.run X3 hx hown hci hcl hby (L := [(15, .iconst 1, 1), (16, .iadd, 1)]) (by decide +kernel) rfl (g' := (mkF m 17 #[rv x0, iv x1] [(.int (5 : Int32)), (.ref x0), (.int (4 : Int32)), (.ref bf)])) rfl ?_
  obtain ⟨T4, h4, X4, e4, W4, st4⟩ := putF X3 hx hZ hown (host := "") (Or.inl w_21) Via.refl e3 F_size_x0 E_x0 (Or.inl w_22) w_2 (ty := .int) (by decide) rfl rfl (g := (mkF m 17 #[rv x0, iv x1] [(.int (5 : Int32)), (.ref x0), (.int (4 : Int32)), (.ref bf)])) rfl rfl (hb hby d9_17)
  have E_x0 := E_x0.wr W4
  have F_buffer_x0 := F_buffer_x0.other W4 (Or.inr (slot_ne (Or.inl w_11) (Or.inl w_22) (by decide) (t := (.array .byte)) (t' := .int) (by decide) (by decide)))
  have F_size_x0 : Fld Z h4 x0 "com/example/upcaster/upcaster/io/BinaryEncoder" "size" "I" (.int (5 : Int32)) := F_size_x0.same W4
  have E_bf := E_bf.wr W4
  have V_bf := V_bf.other W4 (Ne.symm hn1)
  have Zn4 : n0 ≤ h4.size := Nat.le_trans Z0 (Keep.of_wr W4).1
  have K4 := K0.wr W4 (Or.inl (List.mem_of_getElem? (i := 0) rfl))
  have N4 := Fr.snoc X4 N1 g_x0
  refine Goes.st (B := T4.setTop (mkF m 20 #[rv x0, iv x1] [(.int (4 : Int32)), (.ref bf)])) st4 ?_
  refine Goes.run X4 hx hown hci hcl hby (L := [(20, .iload_n 1, 1)]) (by decide +kernel) rfl (g' := (mkF m 21 #[rv x0, iv x1] [(.int x1), (.int (4 : Int32)), (.ref bf)])) rfl ?_
  have jn29_6 : Goes p e below s (Q94 Z x0 x1 bf kb u0 u1 u2 u3 u4 u5 u6 u7 h0 n0) ({ frames := 1, cells := 0, slots := 0, locals := 13 } : Room).cells ({ frames := 1, cells := 0, slots := 0, locals := 13 } : Room).slots (T4.setTop (mkF m 29 #[rv x0, iv x1] [(.int (j94_29_s0 x1 u0 u1 u2 u3 u4 u5 u6 u7)), (.int (4 : Int32)), (.ref bf)])) := by
    refine Goes.run X4 hx hown hci hcl hby (L := [(29, .i2b, 1)]) (by decide +kernel) rfl (g' := (mkF m 30 #[rv x0, iv x1] [(.int ((j94_29_s0 x1 u0 u1 u2 u3 u4 u5 u6 u7).toInt8.toInt32)), (.int (4 : Int32)), (.ref bf)])) rfl ?_
    obtain ⟨cl7, Ar7, q7, S7, M7, Hs7, G7⟩ := id V_bf
    have hin7 : ¬ ((4 : Int32) < 0 ∨ cl7.slots.size ≤ ((4 : Int32)).toNatClampNeg) := inb_of S7 ⟨(by decide), (by decide)⟩
    obtain ⟨T7, h7, X7, e7, W7, st7⟩ := stB X4 hx hZ e4 Ar7 (j := (4 : Int32)) hin7 (g := (mkF m 30 #[rv x0, iv x1] [(.int ((j94_29_s0 x1 u0 u1 u2 u3 u4 u5 u6 u7).toInt8.toInt32)), (.int (4 : Int32)), (.ref bf)])) rfl rfl (hb hby d9_30)
    have E_x0 := E_x0.wr W7
    have F_buffer_x0 := F_buffer_x0.other W7 (Or.inl hn1)
    have F_size_x0 := F_size_x0.other W7 (Or.inl hn1)
    have E_bf := E_bf.wr W7
    have Zn7 : n0 ≤ h7.size := Nat.le_trans Zn4 (Keep.of_wr W7).1
    have K7 := K4.wr W7 (Or.inl (List.mem_of_getElem? (i := 1) rfl))
    have N7 := Fr.snoc X7 N4 g_bf
    have V_bf : Arv Z h7 bf kb .byte (256 : Int32) [(.int u0), (.int u1), (.int u2), (.int u3), (.int (w94_30 x1 u0 u1 u2 u3 u4 u5 u6 u7)), (.int u5), (.int u6), (.int u7)] (.int (0 : Int32)) := Arv.set Ar7 q7 S7 M7 Hs7 G7 (fits_nar_byte _) W7 4 rfl (Nat.le_of_ble_eq_true rfl)
    refine Goes.st (B := T7.setTop (mkF m 31 #[rv x0, iv x1] [])) st7 ?_
    refine Goes.retV X7 hx hlk Bd.returns (hb hby d9_31) ?_ (by decide) (by decide)
    show (Q94 Z x0 x1 bf kb u0 u1 u2 u3 u4 u5 u6 u7 h0 n0) _ _ _
    rw [e7]
    exact ⟨rfl, N7, K7, E_x0, F_buffer_x0, F_size_x0, E_bf, V_bf⟩
  by_cases hc21_5 : x1 = (0 : Int32)
  · skip
    refine Goes.st (B := T4.setTop (mkF m 28 #[rv x0, iv x1] [(.int (4 : Int32)), (.ref bf)])) (fun t k => ?_) ?_
    · refine XS.ifYes X4.here hx rfl (pc0 := 21) (pc' := 28) rfl (hb hby d9_21) rfl ((if0 _ _).trans (teq hc21_5).1) (by decide) (by decide) ?_
      exact k
    refine Goes.run X4 hx hown hci hcl hby (L := [(28, .iconst 0, 1)]) (by decide +kernel) rfl (g' := (mkF m 29 #[rv x0, iv x1] [(.int (0 : Int32)), (.int (4 : Int32)), (.ref bf)])) rfl ?_
    have q := jn29_6
    rw [show (j94_29_s0 x1 u0 u1 u2 u3 u4 u5 u6 u7) = (0 : Int32) from (if_pos hc21_5)] at q
    exact q
  · skip
    refine Goes.st (B := T4.setTop (mkF m 24 #[rv x0, iv x1] [(.int (4 : Int32)), (.ref bf)])) (fun t k => ?_) ?_
    · refine XS.ifNo X4.here hx rfl (hb hby d9_21) rfl ((if0 _ _).trans (feq hc21_5).1) ?_
      exact k
    refine Goes.run X4 hx hown hci hcl hby (L := [(24, .iconst 1, 1), (25, .goto 4, 3)]) (by decide +kernel) rfl (g' := (mkF m 29 #[rv x0, iv x1] [(.int (1 : Int32)), (.int (4 : Int32)), (.ref bf)])) rfl ?_
    have q := jn29_6
    rw [show (j94_29_s0 x1 u0 u1 u2 u3 u4 u5 u6 u7) = (1 : Int32) from (if_neg hc21_5)] at q
    exact q
theorem pnA4 : plainName "java/util/Arrays" = true := by first | (simp [plainName, overriddenIn]; done) | decide +kernel
theorem pdA4_0 : parseMethodDescriptor "(II)I" = some ⟨[.int, .int], some .int⟩ := by decide +kernel
theorem efA4 (m : MethodId) (x0 : Addr) : entryFrame m #[(.ref x0), (.int (5 : Int32))] 3 = (mkF m 0 #[rv x0, iv (5 : Int32), .unset] []) := by first | (simp [entryFrame, mkF, argsToLocals, Value.category]; done) | rfl
def QA4 (Z : State) (x0 : Addr) (kb : ClassId) (u0 : Int32) (u1 : Int32) (u2 : Int32) (u3 : Int32) (u4 : Int32) (u5 : Int32) (u6 : Int32) (u7 : Int32) (h0 : Heap) (n0 : Nat) (v : Option Value) (h : Heap) (L : List Loc) : Prop := ∃ (b : Addr) (k : ClassId), v = some (.ref b) ∧ Fr n0 L ∧ Keep h0 h [] ∧ h0.size ≤ b ∧ Exa Z h b "[B" ∧ Arv Z h b k .byte (5 : Int32) [(.int u0), (.int u1), (.int u2), (.int u3), (.int u4)] (.int (0 : Int32))
set_option maxRecDepth 65536 in
set_option maxHeartbeats 40000000 in
theorem rmA4 (l : Launch) (Z : State) (a0 : Array Value) (hw : ∀ d ∈ tables_1, d.before a0 Z = true) (ws : List Jvm.Cond) (x0 : Addr) (kb : ClassId) (u0 : Int32) (u1 : Int32) (u2 : Int32) (u3 : Int32) (u4 : Int32) (u5 : Int32) (u6 : Int32) (u7 : Int32) (h0 : Heap) (n0 : Nat) (Z0 : n0 ≤ h0.size) (V_x0 : Arv Z h0 x0 kb .byte (256 : Int32) [(.int u0), (.int u1), (.int u2), (.int u3), (.int u4), (.int u5), (.int u6), (.int u7)] (.int (0 : Int32))) :
    MetFree l ym9 (head1 (Jvm.Cond.code ym9 jdk_65_method_121_code 3 (some (.array .byte)) :: ws) ({ frames := 1, cells := 1, slots := 5, locals := 18 } : Room)) (fun a U => a = #[(.ref x0), (.int (5 : Int32))] ∧ Z.Warmed39 U.vm ∧ U.heap = h0) (fun _ _ _ _ _ => True) (fun _ U o U' => ∃ v L, o = .returned v ∧ (QA4 Z x0 kb u0 u1 u2 u3 u4 u5 u6 u7 h0 n0) v U'.heap L ∧ FrameEnd U o U' L ({ frames := 1, cells := 1, slots := 5, locals := 18 } : Room).cells ({ frames := 1, cells := 1, slots := 5, locals := 18 } : Room).slots) := by
  refine MetFree.of_bodySF (plainFor_of_name pnA4) hisR ?_
  intro p e s m args below meth c s₁ Bd hml0 hP hK
  obtain ⟨rfl, hZ, hh⟩ := hP
  have hx := Bd.exec
  have hby := Bd.bytes
  have hml : c.maxLocals = 3 := hml0
  have hlk : meth.locks = false := BodyLoose.notSynchronized Bd
  have hown : s.vm.findClass "java/util/Arrays" = some m.cls := findClass_of_methodNamed Bd.named
  have hnm := (name_of_methodNamed Bd.named Bd.method).1
  have w_0 := hw _ (List.mem_of_getElem? (i := 0) rfl)
  have w_24 := hw _ (List.mem_of_getElem? (i := 24) rfl)
  have w_25 := hw _ (List.mem_of_getElem? (i := 25) rfl)
  have w_26 := hw _ (List.mem_of_getElem? (i := 26) rfl)
  have w_60 := hw _ (List.mem_of_getElem? (i := 60) rfl)
  have w_61 := hw _ (List.mem_of_getElem? (i := 61) rfl)
  have w_62 := hw _ (List.mem_of_getElem? (i := 62) rfl)
  have w_63 := hw _ (List.mem_of_getElem? (i := 63) rfl)
  have w_64 := hw _ (List.mem_of_getElem? (i := 64) rfl)
  have hci : ∀ i v, (i, v) ∈ ([] : List (Nat × Int32)) → (Jvm.Cond.constant "java/util/Arrays" i v).before #[(.ref x0), (.int (5 : Int32))] s = true := own_ci0
  have hcl : ∀ i v, (i, v) ∈ ([] : List (Nat × Int64)) → (Jvm.Cond.constantLong "java/util/Arrays" i v).before #[(.ref x0), (.int (5 : Int32))] s = true := own_ci0
  have X0 : Stand p l e ({ frames := 1, cells := 1, slots := 5, locals := 18 } : Room) s m #[(.ref x0), (.int (5 : Int32))] below meth c s₁ [] 0 0 := Stand.of_body Bd
  have e0 : s₁.heap = h0 := by rw [← hh, Bd.state]; rfl
  have N0 := Fr.nil n0
  show Goes p e below s (QA4 Z x0 kb u0 u1 u2 u3 u4 u5 u6 u7 h0 n0) ({ frames := 1, cells := 1, slots := 5, locals := 18 } : Room).cells ({ frames := 1, cells := 1, slots := 5, locals := 18 } : Room).slots (s₁.setTop (entryFrame m #[(.ref x0), (.int (5 : Int32))] 3))
  refine Goes.cast (efA4 m x0) ?_
  have K0 : Keep h0 h0 [] := Keep.refl h0 _
  refine Goes.run X0 hx hown hci hcl hby (L := [(0, .iload_n 1, 1), (1, .aload_n 0, 1)]) (by decide +kernel) rfl (g' := (mkF m 2 #[rv x0, iv (5 : Int32), .unset] [(.ref x0), (.int (5 : Int32))])) rfl ?_
  obtain ⟨cl1, Ar1, q1, S1, M1, Hs1, G1⟩ := id V_x0
  refine Goes.st (B := s₁.setTop (mkF m 3 #[rv x0, iv (5 : Int32), .unset] [(.int (256 : Int32)), (.int (5 : Int32))])) (fun t k => ?_) ?_
  · refine X0.arraylength hx (cell := cl1) (by rw [e0]; exact Ar1.1) (State.isArrayOf_alike hZ.alike Ar1.2.1) (g := (mkF m 2 #[rv x0, iv (5 : Int32), .unset] [(.ref x0), (.int (5 : Int32))])) rfl (rest := [(.int (5 : Int32))]) rfl (hb hby d10_2) _ ?_
    rw [len_of S1 M1]
    exact k
  have hc3_2 : ¬ ((5 : Int32) = (256 : Int32)) := by decide
  refine Goes.st (B := s₁.setTop (mkF m 14 #[rv x0, iv (5 : Int32), .unset] [])) (fun t k => ?_) ?_
  · refine XS.icmpYes X0.here hx rfl (pc0 := 3) (pc' := 14) rfl (hb hby d10_3) rfl (feq hc3_2).2 (by decide) (by decide) ?_
    exact k
  refine Goes.run X0 hx hown hci hcl hby (L := [(14, .iload_n 1, 1)]) (by decide +kernel) rfl (g' := (mkF m 15 #[rv x0, iv (5 : Int32), .unset] [(.int (5 : Int32))])) rfl ?_
  obtain ⟨T3, h3, k3, X3, e3, E3, A3, B3, st3⟩ := newPE X0 hx hZ (aty := .byte) w_0 e0 (g := (mkF m 15 #[rv x0, iv (5 : Int32), .unset] [(.int (5 : Int32))])) rfl (hb hby d10_15) rfl (by decide) (cap := 5) (by decide) (by decide) (by decide) (by decide) (ad := "[B") (by decide)
  obtain ⟨b3, g3⟩ : ∃ z, z = h0.size := ⟨_, rfl⟩
  rw [← g3] at A3 B3 st3
  have ne_x0_b3 : x0 ≠ b3 := Nat.ne_of_lt (Nat.lt_of_lt_of_le V_x0.lt (Nat.le_of_eq g3.symm))
  have g_b3 : n0 ≤ b3 := Nat.le_trans Z0 (Nat.le_of_eq g3.symm)
  have sz_b3 : h0.size ≤ b3 := Nat.le_trans K0.1 (Nat.le_of_eq g3.symm)
  have V_x0 := V_x0.ext E3
  have Zn3 : n0 ≤ h3.size := Nat.le_trans Z0 E3.1
  have K3 := K0.ext E3
  have E_b3 : Exa Z h3 b3 "[B" := B3
  have V_b3 : Arv Z h3 b3 k3 .byte (5 : Int32) [(.int (0 : Int32)), (.int (0 : Int32)), (.int (0 : Int32)), (.int (0 : Int32)), (.int (0 : Int32))] (.int (0 : Int32)) := (Arv.new A3 (by decide)).pad (pad_rep [] (.int (0 : Int32)) 5)
  refine Goes.st (B := T3.setTop (mkF m 17 #[rv x0, iv (5 : Int32), .unset] [(.ref b3)])) st3 ?_
  refine Goes.run X3 hx hown hci hcl hby (L := [(17, .astore_n 2, 1), (18, .aload_n 0, 1), (19, .iconst 0, 1), (20, .aload_n 2, 1), (21, .iconst 0, 1), (22, .aload_n 0, 1)]) (by decide +kernel) rfl (g' := (mkF m 23 #[rv x0, iv (5 : Int32), rv b3] [(.ref x0), (.int (0 : Int32)), (.ref b3), (.int (0 : Int32)), (.ref x0)])) rfl ?_
  obtain ⟨cl4, Ar4, q4, S4, M4, Hs4, G4⟩ := id V_x0
  refine Goes.st (B := T3.setTop (mkF m 24 #[rv x0, iv (5 : Int32), rv b3] [(.int (256 : Int32)), (.int (0 : Int32)), (.ref b3), (.int (0 : Int32)), (.ref x0)])) (fun t k => ?_) ?_
  · refine X3.arraylength hx (cell := cl4) (by rw [e3]; exact Ar4.1) (State.isArrayOf_alike hZ.alike Ar4.2.1) (g := (mkF m 23 #[rv x0, iv (5 : Int32), rv b3] [(.ref x0), (.int (0 : Int32)), (.ref b3), (.int (0 : Int32)), (.ref x0)])) rfl (rest := [(.int (0 : Int32)), (.ref b3), (.int (0 : Int32)), (.ref x0)]) rfl (hb hby d10_23) _ ?_
    rw [len_of S4 M4]
    exact k
  refine Goes.run X3 hx hown hci hcl hby (L := [(24, .iload_n 1, 1)]) (by decide +kernel) rfl (g' := (mkF m 25 #[rv x0, iv (5 : Int32), rv b3] [(.int (5 : Int32)), (.int (256 : Int32)), (.int (0 : Int32)), (.ref b3), (.int (0 : Int32)), (.ref x0)])) rfl ?_
  obtain ⟨_, _, ⟨T5, L5, k5, n5⟩, -, X5, ⟨Lc5, hQ5, l5, y5, z5⟩, st5⟩ := Jvm.LawKit.callS X3 hx (y := ym7) hown (mvT hZ w_60) (mvT hZ w_61) (mvT hZ w_62) (mvT hZ w_63) (by decide) (backOf (W := 4) (rm8 l Z a0 hw [] (256 : Int32) (5 : Int32) h3 n0 Zn3 ) hZ w_63 w_62 (by decide) (by decide)) (g := (mkF m 25 #[rv x0, iv (5 : Int32), rv b3] [(.int (5 : Int32)), (.int (256 : Int32)), (.int (0 : Int32)), (.ref b3), (.int (0 : Int32)), (.ref x0)])) rfl (by rw [hml]; rfl) (argsL := [(.int (256 : Int32)), (.int (5 : Int32))]) (rest := [(.int (0 : Int32)), (.ref b3), (.int (0 : Int32)), (.ref x0)]) (lenOf pdA4_0 rfl) rfl (by show 2 * 0 + _ ≤ _; exact Nat.le_of_eq rfl) (hb hby d10_25) (fun _ _ => ⟨rfl, e3, (by decide : 1 + 0 ≤ _), (by decide : 5 + 0 ≤ _)⟩)
  dsimp only [Pt.U, Pt.locs, Pt.cells, Pt.slots] at X5 l5 y5 z5 st5 hQ5
  subst l5 y5 z5
  obtain ⟨rfl, N5q, e5⟩ := hQ5
  have N5 := Fr.app N0 N5q
  refine Goes.st (B := T5.setTop (mkF m 28 #[rv x0, iv (5 : Int32), rv b3] [(.int (5 : Int32)), (.int (0 : Int32)), (.ref b3), (.int (0 : Int32)), (.ref x0)])) st5 ?_
  obtain ⟨T6, h6, L6, X6, e6, N6, Kq6, Vq6, st6⟩ := cpA X5 hx hZ hown w_64 w_26 w_24 w_25 e5 V_x0 V_b3 (Or.inl ⟨rfl, rfl⟩) (sp := (0 : Int32)) (dp := (0 : Int32)) (nn := (5 : Int32)) (by decide) (by decide) (by decide) (by decide) (by decide) (us := [(.int u0), (.int u1), (.int u2), (.int u3), (.int u4)]) rfl (Nat.le_of_ble_eq_true rfl) N5 g_b3 (g := (mkF m 28 #[rv x0, iv (5 : Int32), rv b3] [(.int (5 : Int32)), (.int (0 : Int32)), (.ref b3), (.int (0 : Int32)), (.ref x0)])) rfl (by rw [hml]; rfl) (rest := []) rfl (hb hby d10_28) (by decide) (W := 0) (by show 2 * 0 + _ ≤ _; exact Nat.le_of_eq rfl) (by decide)
  have V_x0 := V_x0.keep Kq6 (ninS ne_x0_b3 nin0)
  have E_b3 := E_b3.keep Kq6
  have Zn6 : n0 ≤ h6.size := Nat.le_trans Zn3 Kq6.1
  have K6 := K3.trans Kq6 ((allS (Or.inr sz_b3) all0))
  have V_b3 : Arv Z h6 b3 k3 .byte (5 : Int32) [(.int u0), (.int u1), (.int u2), (.int u3), (.int u4)] (.int (0 : Int32)) := Vq6
  refine Goes.st (B := T6.setTop (mkF m 31 #[rv x0, iv (5 : Int32), rv b3] [])) st6 ?_
  refine Goes.run X6 hx hown hci hcl hby (L := [(31, .aload_n 2, 1)]) (by decide +kernel) rfl (g' := (mkF m 32 #[rv x0, iv (5 : Int32), rv b3] [(.ref b3)])) rfl ?_
  refine Goes.retR X6 hx hlk Bd.returns rfl rfl (hb hby d10_32) ?_ (by decide) (by decide)
  show (QA4 Z x0 kb u0 u1 u2 u3 u4 u5 u6 u7 h0 n0) _ _ _
  rw [e6]
  exact ⟨b3, k3, rfl, N6, K6, sz_b3, E_b3, V_b3⟩
theorem pnB4 : plainName "com/example/upcaster/upcaster/io/BinaryEncoder" = true := by first | (simp [plainName, overriddenIn]; done) | decide +kernel
theorem pdB4_0 : parseMethodDescriptor "([BI)[B" = some ⟨[(.array .byte), .int], some (.array .byte)⟩ := by decide +kernel
theorem efB4 (m : MethodId) (x0 : Addr) : entryFrame m #[(.ref x0)] 1 = (mkF m 0 #[rv x0] []) := by first | (simp [entryFrame, mkF, argsToLocals, Value.category]; done) | rfl
def QB4 (Z : State) (x0 : Addr) (bf : Addr) (kb : ClassId) (u0 : Int32) (u1 : Int32) (u2 : Int32) (u3 : Int32) (u4 : Int32) (u5 : Int32) (u6 : Int32) (u7 : Int32) (h0 : Heap) (n0 : Nat) (v : Option Value) (h : Heap) (L : List Loc) : Prop := ∃ (b : Addr) (k : ClassId), v = some (.ref b) ∧ Fr n0 L ∧ Keep h0 h [] ∧ h0.size ≤ b ∧ Exa Z h b "[B" ∧ Arv Z h b k .byte (5 : Int32) [(.int u0), (.int u1), (.int u2), (.int u3), (.int u4)] (.int (0 : Int32))
set_option maxRecDepth 65536 in
set_option maxHeartbeats 40000000 in
theorem rmB4 (l : Launch) (Z : State) (a0 : Array Value) (hw : ∀ d ∈ tables_1, d.before a0 Z = true) (ws : List Jvm.Cond) (x0 : Addr) (bf : Addr) (kb : ClassId) (u0 : Int32) (u1 : Int32) (u2 : Int32) (u3 : Int32) (u4 : Int32) (u5 : Int32) (u6 : Int32) (u7 : Int32) (h0 : Heap) (n0 : Nat) (Z0 : n0 ≤ h0.size) (F_buffer_x0 : Fld Z h0 x0 "com/example/upcaster/upcaster/io/BinaryEncoder" "buffer" "[B" (.ref bf)) (F_size_x0 : Fld Z h0 x0 "com/example/upcaster/upcaster/io/BinaryEncoder" "size" "I" (.int (5 : Int32))) (V_bf : Arv Z h0 bf kb .byte (256 : Int32) [(.int u0), (.int u1), (.int u2), (.int u3), (.int u4), (.int u5), (.int u6), (.int u7)] (.int (0 : Int32))) :
    MetFree l ym10 (head1 (Jvm.Cond.code ym10 prog_6_method_6_code 1 (some (.array .byte)) :: ws) ({ frames := 2, cells := 1, slots := 5, locals := 32 } : Room)) (fun a U => a = #[(.ref x0)] ∧ Z.Warmed39 U.vm ∧ U.heap = h0) (fun _ _ _ _ _ => True) (fun _ U o U' => ∃ v L, o = .returned v ∧ (QB4 Z x0 bf kb u0 u1 u2 u3 u4 u5 u6 u7 h0 n0) v U'.heap L ∧ FrameEnd U o U' L ({ frames := 2, cells := 1, slots := 5, locals := 32 } : Room).cells ({ frames := 2, cells := 1, slots := 5, locals := 32 } : Room).slots) := by
  refine MetFree.of_bodySF (plainFor_of_name pnB4) hisR ?_
  intro p e s m args below meth c s₁ Bd hml0 hP hK
  obtain ⟨rfl, hZ, hh⟩ := hP
  have hx := Bd.exec
  have hby := Bd.bytes
  have hml : c.maxLocals = 1 := hml0
  have hlk : meth.locks = false := BodyLoose.notSynchronized Bd
  have hown : s.vm.findClass "com/example/upcaster/upcaster/io/BinaryEncoder" = some m.cls := findClass_of_methodNamed Bd.named
  have hnm := (name_of_methodNamed Bd.named Bd.method).1
  have w_10 := hw _ (List.mem_of_getElem? (i := 10) rfl)
  have w_21 := hw _ (List.mem_of_getElem? (i := 21) rfl)
  have w_56 := hw _ (List.mem_of_getElem? (i := 56) rfl)
  have w_57 := hw _ (List.mem_of_getElem? (i := 57) rfl)
  have w_58 := hw _ (List.mem_of_getElem? (i := 58) rfl)
  have w_59 := hw _ (List.mem_of_getElem? (i := 59) rfl)
  have w_69 := hw _ (List.mem_of_getElem? (i := 69) rfl)
  have hci : ∀ i v, (i, v) ∈ ([(134, 2147483639)] : List (Nat × Int32)) → (Jvm.Cond.constant "com/example/upcaster/upcaster/io/BinaryEncoder" i v).before #[(.ref x0)] s = true := (own_ciS (mvT hZ w_69) own_ci0)
  have hcl : ∀ i v, (i, v) ∈ ([] : List (Nat × Int64)) → (Jvm.Cond.constantLong "com/example/upcaster/upcaster/io/BinaryEncoder" i v).before #[(.ref x0)] s = true := own_ci0
  have X0 : Stand p l e ({ frames := 2, cells := 1, slots := 5, locals := 32 } : Room) s m #[(.ref x0)] below meth c s₁ [] 0 0 := Stand.of_body Bd
  have e0 : s₁.heap = h0 := by rw [← hh, Bd.state]; rfl
  have N0 := Fr.nil n0
  show Goes p e below s (QB4 Z x0 bf kb u0 u1 u2 u3 u4 u5 u6 u7 h0 n0) ({ frames := 2, cells := 1, slots := 5, locals := 32 } : Room).cells ({ frames := 2, cells := 1, slots := 5, locals := 32 } : Room).slots (s₁.setTop (entryFrame m #[(.ref x0)] 1))
  refine Goes.cast (efB4 m x0) ?_
  have K0 : Keep h0 h0 [] := Keep.refl h0 _
  refine Goes.run X0 hx hown hci hcl hby (L := [(0, .aload_n 0, 1)]) (by decide +kernel) rfl (g' := (mkF m 1 #[rv x0] [(.ref x0)])) rfl ?_
  obtain ⟨T1, X1, e1, st1⟩ := getF X0 hx hZ hown (host := "") (Or.inl w_10) Via.refl e0 F_buffer_x0 (g := (mkF m 1 #[rv x0] [(.ref x0)])) rfl rfl (hb hby d11_1)
  refine Goes.st (B := T1.setTop (mkF m 4 #[rv x0] [(.ref bf)])) st1 ?_
  refine Goes.run X1 hx hown hci hcl hby (L := [(4, .aload_n 0, 1)]) (by decide +kernel) rfl (g' := (mkF m 5 #[rv x0] [(.ref x0), (.ref bf)])) rfl ?_
  obtain ⟨T2, X2, e2, st2⟩ := getF X1 hx hZ hown (host := "") (Or.inl w_21) Via.refl e1 F_size_x0 (g := (mkF m 5 #[rv x0] [(.ref x0), (.ref bf)])) rfl rfl (hb hby d11_5)
  refine Goes.st (B := T2.setTop (mkF m 8 #[rv x0] [(.int (5 : Int32)), (.ref bf)])) st2 ?_
  obtain ⟨_, _, ⟨T3, L3, k3, n3⟩, -, X3, ⟨Lc3, hQ3, l3, y3, z3⟩, st3⟩ := Jvm.LawKit.callS X2 hx (y := ym9) hown (mvT hZ w_56) (mvT hZ w_57) (mvT hZ w_58) (mvT hZ w_59) (by decide) (backOf (W := 0) (rmA4 l Z a0 hw [] bf kb u0 u1 u2 u3 u4 u5 u6 u7 h0 n0 Z0 V_bf) hZ w_59 w_58 (by decide) (by decide)) (g := (mkF m 8 #[rv x0] [(.int (5 : Int32)), (.ref bf)])) rfl (by rw [hml]; rfl) (argsL := [(.ref bf), (.int (5 : Int32))]) (rest := []) (lenOf pdB4_0 rfl) rfl (by show 2 * 0 + _ ≤ _; exact Nat.le_of_eq rfl) (hb hby d11_8) (fun _ _ => ⟨rfl, e2, (by decide : 0 + 1 ≤ _), (by decide : 0 + 5 ≤ _)⟩)
  dsimp only [Pt.U, Pt.locs, Pt.cells, Pt.slots] at X3 l3 y3 z3 st3 hQ3
  subst l3 y3 z3
  obtain ⟨h3, eh3⟩ : ∃ z, z = T3.heap := ⟨_, rfl⟩
  rw [← eh3] at hQ3
  have e3 : T3.heap = h3 := eh3.symm
  obtain ⟨b3, kc3, rfl, N3q, Kq3, szq3, o3_0, o3_1⟩ := hQ3
  have ne_bf_b3 : bf ≠ b3 := Nat.ne_of_lt (Nat.lt_of_lt_of_le V_bf.lt szq3)
  have ne_x0_b3 : x0 ≠ b3 := Nat.ne_of_lt (Nat.lt_of_lt_of_le F_buffer_x0.lt szq3)
  have g_b3 : n0 ≤ b3 := Nat.le_trans Z0 szq3
  have sz_b3 : h0.size ≤ b3 := Nat.le_trans K0.1 szq3
  have N3 := Fr.app N0 N3q
  have F_buffer_x0 := F_buffer_x0.keep Kq3 nin0
  have F_size_x0 := F_size_x0.keep Kq3 nin0
  have V_bf := V_bf.keep Kq3 nin0
  have E_b3 : Exa Z h3 b3 "[B" := o3_0
  have V_b3 : Arv Z h3 b3 kc3 .byte (5 : Int32) [(.int u0), (.int u1), (.int u2), (.int u3), (.int u4)] (.int (0 : Int32)) := o3_1
  have Zn3 : n0 ≤ h3.size := Nat.le_trans Z0 Kq3.1
  have K3 := K0.trans Kq3 (all0)
  refine Goes.st (B := T3.setTop (mkF m 11 #[rv x0] [(.ref b3)])) st3 ?_
  refine Goes.retR X3 hx hlk Bd.returns rfl rfl (hb hby d11_11) ?_ (by decide) (by decide)
  show (QB4 Z x0 bf kb u0 u1 u2 u3 u4 u5 u6 u7 h0 n0) _ _ _
  rw [e3]
  exact ⟨b3, kc3, rfl, N3, K3, sz_b3, E_b3, V_b3⟩
theorem d12_2 : decode method_3_code 2 = .ok (.if_icmp .ge 10, 3) := by decide +kernel
theorem d12_7 : decode method_3_code 7 = .ok (.baload, 1) := by decide +kernel
theorem d12_9 : decode method_3_code 9 = .ok (.if_icmp .ne 7, 3) := by decide +kernel
theorem d12_17 : decode method_3_code 17 = .ok (.ireturn, 1) := by decide +kernel
theorem pnC : plainName "com/example/upcaster/upcaster/io/BinaryEncoderTruncatePinLaw" = true := by first | (simp [plainName, overriddenIn]; done) | decide +kernel
theorem efC (m : MethodId) (x0 : Addr) (x1 : Int32) (x2 : Int32) (x3 : Int32) : entryFrame m #[(.ref x0), (.int x1), (.int x2), (.int x3)] 4 = (mkF m 0 #[rv x0, iv x1, iv x2, iv x3] []) := by first | (simp [entryFrame, mkF, argsToLocals, Value.category]; done) | rfl
def rC (x1 : Int32) (x2 : Int32) (x3 : Int32) (n : Int32) (z : Int32) : Int32 := (if x1 < x2 then (if z = x3 then (1 : Int32) else (0 : Int32)) else (1 : Int32))
set_option maxRecDepth 65536 in
set_option maxHeartbeats 40000000 in
theorem rmC (l : Launch) (Z : State) (a0 : Array Value) (hw : ∀ d ∈ tables_1, d.before a0 Z = true) (ws : List Jvm.Cond) (x0 : Addr) (x1 : Int32) (x2 : Int32) (x3 : Int32) (kx : ClassId) (n : Int32) (vs : List Value) (z : Int32) (h0 : Heap) (n0 : Nat) (Z0 : n0 ≤ h0.size) (V_x0 : Arv Z h0 x0 kx .byte n vs (.int (0 : Int32))) (p1 : ¬ (x1 < (0 : Int32))) (p2 : x1 < n) (hz : vs.getD x1.toNatClampNeg (.int (0 : Int32)) = .int z) :
    MetFree l ym11 (head1 (Jvm.Cond.code ym11 method_3_code 4 (some .boolean) :: ws) ({ frames := 0, cells := 0, slots := 0, locals := 0 } : Room)) (fun a U => a = #[(.ref x0), (.int x1), (.int x2), (.int x3)] ∧ Z.Warmed39 U.vm ∧ U.heap = h0) (fun _ _ _ _ _ => True) (fun _ U o U' => ∃ v L, o = .returned v ∧ (QP (some (.int (rC x1 x2 x3 n z))) h0 n0) v U'.heap L ∧ FrameEnd U o U' L ({ frames := 0, cells := 0, slots := 0, locals := 0 } : Room).cells ({ frames := 0, cells := 0, slots := 0, locals := 0 } : Room).slots) := by
  refine MetFree.of_bodySF (plainFor_of_name pnC) hisR ?_
  intro p e s m args below meth c s₁ Bd hml0 hP hK
  obtain ⟨rfl, hZ, hh⟩ := hP
  have hx := Bd.exec
  have hby := Bd.bytes
  have hml : c.maxLocals = 4 := hml0
  have hlk : meth.locks = false := BodyLoose.notSynchronized Bd
  have hown : s.vm.findClass "com/example/upcaster/upcaster/io/BinaryEncoderTruncatePinLaw" = some m.cls := findClass_of_methodNamed Bd.named
  have hnm := (name_of_methodNamed Bd.named Bd.method).1
  have w_27 := hw _ (List.mem_of_getElem? (i := 27) rfl)
  have hci : ∀ i v, (i, v) ∈ ([(14, 2147483647)] : List (Nat × Int32)) → (Jvm.Cond.constant "com/example/upcaster/upcaster/io/BinaryEncoderTruncatePinLaw" i v).before #[(.ref x0), (.int x1), (.int x2), (.int x3)] s = true := (own_ciS (mvT hZ w_27) own_ci0)
  have hcl : ∀ i v, (i, v) ∈ ([] : List (Nat × Int64)) → (Jvm.Cond.constantLong "com/example/upcaster/upcaster/io/BinaryEncoderTruncatePinLaw" i v).before #[(.ref x0), (.int x1), (.int x2), (.int x3)] s = true := own_ci0
  have X0 : Stand p l e ({ frames := 0, cells := 0, slots := 0, locals := 0 } : Room) s m #[(.ref x0), (.int x1), (.int x2), (.int x3)] below meth c s₁ [] 0 0 := Stand.of_body Bd
  have e0 : s₁.heap = h0 := by rw [← hh, Bd.state]; rfl
  have N0 := Fr.nil n0
  show Goes p e below s (QP (some (.int (rC x1 x2 x3 n z))) h0 n0) ({ frames := 0, cells := 0, slots := 0, locals := 0 } : Room).cells ({ frames := 0, cells := 0, slots := 0, locals := 0 } : Room).slots (s₁.setTop (entryFrame m #[(.ref x0), (.int x1), (.int x2), (.int x3)] 4))
  refine Goes.cast (efC m x0 x1 x2 x3) ?_
  refine Goes.run X0 hx hown hci hcl hby (L := [(0, .iload_n 1, 1), (1, .iload_n 2, 1)]) (by decide +kernel) rfl (g' := (mkF m 2 #[rv x0, iv x1, iv x2, iv x3] [(.int x2), (.int x1)])) rfl ?_
  by_cases hc2_1 : x1 < x2
  · skip
    refine Goes.st (B := s₁.setTop (mkF m 5 #[rv x0, iv x1, iv x2, iv x3] [])) (fun t k => ?_) ?_
    · refine XS.icmpNo X0.here hx rfl (hb hby d12_2) rfl (tlt hc2_1).2.1 ?_
      exact k
    refine Goes.run X0 hx hown hci hcl hby (L := [(5, .aload_n 0, 1), (6, .iload_n 1, 1)]) (by decide +kernel) rfl (g' := (mkF m 7 #[rv x0, iv x1, iv x2, iv x3] [(.int x1), (.ref x0)])) rfl ?_
    obtain ⟨cl2, Ar2, q2, S2, M2, Hs2, G2⟩ := id V_x0
    have hin2 : ¬ (x1 < 0 ∨ cl2.slots.size ≤ (x1).toNatClampNeg) := inb_of S2 ⟨p1, p2⟩
    have hat2 : cl2.slots[(x1).toNatClampNeg]? = some (.int z) := Hs2.at hin2 hz
    refine Goes.st (B := s₁.setTop (mkF m 8 #[rv x0, iv x1, iv x2, iv x3] [(.int z)])) (X0.baloadBytes hx (j := x1) (v := (.int z)) (by rw [e0]; exact Ar2.1) (State.isArrayOf_alike hZ.alike Ar2.2.1) Ar2.2.2 hin2 hat2 (g := (mkF m 7 #[rv x0, iv x1, iv x2, iv x3] [(.int x1), (.ref x0)])) rfl rfl (hb hby d12_7)) ?_
    refine Goes.run X0 hx hown hci hcl hby (L := [(8, .iload_n 3, 1)]) (by decide +kernel) rfl (g' := (mkF m 9 #[rv x0, iv x1, iv x2, iv x3] [(.int x3), (.int z)])) rfl ?_
    by_cases hc9_3 : z = x3
    · skip
      refine Goes.st (B := s₁.setTop (mkF m 12 #[rv x0, iv x1, iv x2, iv x3] [])) (fun t k => ?_) ?_
      · refine XS.icmpNo X0.here hx rfl (hb hby d12_9) rfl (teq hc9_3).2 ?_
        exact k
      refine Goes.run X0 hx hown hci hcl hby (L := [(12, .iconst 1, 1), (13, .goto 4, 3)]) (by decide +kernel) rfl (g' := (mkF m 17 #[rv x0, iv x1, iv x2, iv x3] [(.int (1 : Int32))])) rfl ?_
      exact Goes.retB X0 hx hlk (t := .boolean) Bd.returns (by simp) (hb hby d12_17) rfl ⟨(congrArg (fun z => some (Value.int z)) (show (rC x1 x2 x3 n z) = (1 : Int32) from ((if_pos hc2_1).trans (if_pos hc9_3))).symm), N0, e0⟩ (by decide) (by decide)
    · skip
      refine Goes.st (B := s₁.setTop (mkF m 16 #[rv x0, iv x1, iv x2, iv x3] [])) (fun t k => ?_) ?_
      · refine XS.icmpYes X0.here hx rfl (pc0 := 9) (pc' := 16) rfl (hb hby d12_9) rfl (feq hc9_3).2 (by decide) (by decide) ?_
        exact k
      refine Goes.run X0 hx hown hci hcl hby (L := [(16, .iconst 0, 1)]) (by decide +kernel) rfl (g' := (mkF m 17 #[rv x0, iv x1, iv x2, iv x3] [(.int (0 : Int32))])) rfl ?_
      exact Goes.retB X0 hx hlk (t := .boolean) Bd.returns (by simp) (hb hby d12_17) rfl ⟨(congrArg (fun z => some (Value.int z)) (show (rC x1 x2 x3 n z) = (0 : Int32) from ((if_pos hc2_1).trans (if_neg hc9_3))).symm), N0, e0⟩ (by decide) (by decide)
  · skip
    refine Goes.st (B := s₁.setTop (mkF m 12 #[rv x0, iv x1, iv x2, iv x3] [])) (fun t k => ?_) ?_
    · refine XS.icmpYes X0.here hx rfl (pc0 := 2) (pc' := 12) rfl (hb hby d12_2) rfl (flt hc2_1).2.1 (by decide) (by decide) ?_
      exact k
    refine Goes.run X0 hx hown hci hcl hby (L := [(12, .iconst 1, 1), (13, .goto 4, 3)]) (by decide +kernel) rfl (g' := (mkF m 17 #[rv x0, iv x1, iv x2, iv x3] [(.int (1 : Int32))])) rfl ?_
    exact Goes.retB X0 hx hlk (t := .boolean) Bd.returns (by simp) (hb hby d12_17) rfl ⟨(congrArg (fun z => some (Value.int z)) (show (rC x1 x2 x3 n z) = (1 : Int32) from (if_neg hc2_1)).symm), N0, e0⟩ (by decide) (by decide)
theorem pnD : plainName "com/example/upcaster/upcaster/io/BinaryEncoderTruncatePinLaw" = true := by first | (simp [plainName, overriddenIn]; done) | decide +kernel
theorem efD (m : MethodId) (x0 : Addr) (x1 : Int32) (x2 : Int32) (x3 : Int32) : entryFrame m #[(.ref x0), (.int x1), (.int x2), (.int x3)] 4 = (mkF m 0 #[rv x0, iv x1, iv x2, iv x3] []) := by first | (simp [entryFrame, mkF, argsToLocals, Value.category]; done) | rfl
def rD (x1 : Int32) (x2 : Int32) (x3 : Int32) : Int32 := (1 : Int32)
set_option maxRecDepth 65536 in
set_option maxHeartbeats 40000000 in
theorem rmD (l : Launch) (Z : State) (a0 : Array Value) (hw : ∀ d ∈ tables_1, d.before a0 Z = true) (ws : List Jvm.Cond) (x0 : Addr) (x1 : Int32) (x2 : Int32) (x3 : Int32) (h0 : Heap) (n0 : Nat) (Z0 : n0 ≤ h0.size) (p1 : ¬ (x1 < x2)) :
    MetFree l ym11 (head1 (Jvm.Cond.code ym11 method_3_code 4 (some .boolean) :: ws) ({ frames := 0, cells := 0, slots := 0, locals := 0 } : Room)) (fun a U => a = #[(.ref x0), (.int x1), (.int x2), (.int x3)] ∧ Z.Warmed39 U.vm ∧ U.heap = h0) (fun _ _ _ _ _ => True) (fun _ U o U' => ∃ v L, o = .returned v ∧ (QP (some (.int (rD x1 x2 x3))) h0 n0) v U'.heap L ∧ FrameEnd U o U' L ({ frames := 0, cells := 0, slots := 0, locals := 0 } : Room).cells ({ frames := 0, cells := 0, slots := 0, locals := 0 } : Room).slots) := by
  refine MetFree.of_bodySF (plainFor_of_name pnD) hisR ?_
  intro p e s m args below meth c s₁ Bd hml0 hP hK
  obtain ⟨rfl, hZ, hh⟩ := hP
  have hx := Bd.exec
  have hby := Bd.bytes
  have hml : c.maxLocals = 4 := hml0
  have hlk : meth.locks = false := BodyLoose.notSynchronized Bd
  have hown : s.vm.findClass "com/example/upcaster/upcaster/io/BinaryEncoderTruncatePinLaw" = some m.cls := findClass_of_methodNamed Bd.named
  have hnm := (name_of_methodNamed Bd.named Bd.method).1
  have w_27 := hw _ (List.mem_of_getElem? (i := 27) rfl)
  have hci : ∀ i v, (i, v) ∈ ([(14, 2147483647)] : List (Nat × Int32)) → (Jvm.Cond.constant "com/example/upcaster/upcaster/io/BinaryEncoderTruncatePinLaw" i v).before #[(.ref x0), (.int x1), (.int x2), (.int x3)] s = true := (own_ciS (mvT hZ w_27) own_ci0)
  have hcl : ∀ i v, (i, v) ∈ ([] : List (Nat × Int64)) → (Jvm.Cond.constantLong "com/example/upcaster/upcaster/io/BinaryEncoderTruncatePinLaw" i v).before #[(.ref x0), (.int x1), (.int x2), (.int x3)] s = true := own_ci0
  have X0 : Stand p l e ({ frames := 0, cells := 0, slots := 0, locals := 0 } : Room) s m #[(.ref x0), (.int x1), (.int x2), (.int x3)] below meth c s₁ [] 0 0 := Stand.of_body Bd
  have e0 : s₁.heap = h0 := by rw [← hh, Bd.state]; rfl
  have N0 := Fr.nil n0
  show Goes p e below s (QP (some (.int (rD x1 x2 x3))) h0 n0) ({ frames := 0, cells := 0, slots := 0, locals := 0 } : Room).cells ({ frames := 0, cells := 0, slots := 0, locals := 0 } : Room).slots (s₁.setTop (entryFrame m #[(.ref x0), (.int x1), (.int x2), (.int x3)] 4))
  refine Goes.cast (efD m x0 x1 x2 x3) ?_
  refine Goes.run X0 hx hown hci hcl hby (L := [(0, .iload_n 1, 1), (1, .iload_n 2, 1)]) (by decide +kernel) rfl (g' := (mkF m 2 #[rv x0, iv x1, iv x2, iv x3] [(.int x2), (.int x1)])) rfl ?_
  have hc2_1 : ¬ (x1 < x2) := p1
  refine Goes.st (B := s₁.setTop (mkF m 12 #[rv x0, iv x1, iv x2, iv x3] [])) (fun t k => ?_) ?_
  · refine XS.icmpYes X0.here hx rfl (pc0 := 2) (pc' := 12) rfl (hb hby d12_2) rfl (flt hc2_1).2.1 (by decide) (by decide) ?_
    exact k
  refine Goes.run X0 hx hown hci hcl hby (L := [(12, .iconst 1, 1), (13, .goto 4, 3)]) (by decide +kernel) rfl (g' := (mkF m 17 #[rv x0, iv x1, iv x2, iv x3] [(.int (1 : Int32))])) rfl ?_
  exact Goes.retB X0 hx hlk (t := .boolean) Bd.returns (by simp) (hb hby d12_17) rfl ⟨(congrArg (fun z => some (Value.int z)) (show (rD x1 x2 x3) = (1 : Int32) from rfl).symm), N0, e0⟩ (by decide) (by decide)
theorem pn0 : plainName "com/example/upcaster/upcaster/io/BinaryEncoderTruncatePinLaw" = true := by first | (simp [plainName, overriddenIn]; done) | decide +kernel
theorem pd0_0 : parseMethodDescriptor "()V" = some ⟨[], none⟩ := by decide +kernel
theorem pd0_1 : parseMethodDescriptor "([B)V" = some ⟨[(.array .byte)], none⟩ := by decide +kernel
theorem pd0_2 : parseMethodDescriptor "(I)V" = some ⟨[.int], none⟩ := by decide +kernel
theorem pd0_3 : parseMethodDescriptor "()I" = some ⟨[], some .int⟩ := by decide +kernel
theorem pd0_4 : parseMethodDescriptor "(Z)V" = some ⟨[.boolean], none⟩ := by decide +kernel
theorem pd0_5 : parseMethodDescriptor "()[B" = some ⟨[], some (.array .byte)⟩ := by decide +kernel
theorem pd0_6 : parseMethodDescriptor "([BIIB)Z" = some ⟨[(.array .byte), .int, .int, .byte], some .boolean⟩ := by decide +kernel
theorem ef0 (m : MethodId) (x0 : Int32) (x1 : Int32) (x2 : Int32) (x3 : Int32) : entryFrame m #[(.int x0), (.int x1), (.int x2), (.int x3)] maxLocals = (mkF m 0 #[iv x0, iv x1, iv x2, iv x3, .unset, .unset, .unset, .unset, .unset, .unset, .unset, .unset, .unset, .unset] []) := by first | (simp [entryFrame, mkF, argsToLocals, Value.category, maxLocals]; done) | rfl
def w0_2 (x0 : Int32) (x1 : Int32) (x2 : Int32) (x3 : Int32) : Int32 := (x0.toInt8.toInt32)
def w0_9 (x0 : Int32) (x1 : Int32) (x2 : Int32) (x3 : Int32) : Int32 := (((x0.toUInt32 >>> ((8 : Int32) &&& 31).toUInt32).toInt32).toInt8.toInt32)
def w0_16 (x0 : Int32) (x1 : Int32) (x2 : Int32) (x3 : Int32) : Int32 := (((x0.toUInt32 >>> ((16 : Int32) &&& 31).toUInt32).toInt32).toInt8.toInt32)
def w0_23 (x0 : Int32) (x1 : Int32) (x2 : Int32) (x3 : Int32) : Int32 := (((x0.toUInt32 >>> ((24 : Int32) &&& 31).toUInt32).toInt32).toInt8.toInt32)
def w0_32 (x0 : Int32) (x1 : Int32) (x2 : Int32) (x3 : Int32) : Int32 := (nar .byte (w0_2 x0 x1 x2 x3))
def w0_37 (x0 : Int32) (x1 : Int32) (x2 : Int32) (x3 : Int32) : Int32 := (nar .byte (w0_9 x0 x1 x2 x3))
def w0_42 (x0 : Int32) (x1 : Int32) (x2 : Int32) (x3 : Int32) : Int32 := (nar .byte (w0_16 x0 x1 x2 x3))
def w0_47 (x0 : Int32) (x1 : Int32) (x2 : Int32) (x3 : Int32) : Int32 := (nar .byte (w0_23 x0 x1 x2 x3))
def j0_61_s0 (x0 : Int32) (x1 : Int32) (x2 : Int32) (x3 : Int32) : Int32 := (if (x3 &&& (1 : Int32)) = (0 : Int32) then (0 : Int32) else (1 : Int32))
def w0_84l (x0 : Int32) (x1 : Int32) (x2 : Int32) (x3 : Int32) : Int32 := (x1 &&& (2147483647 : Int32))
def w0_85 (x0 : Int32) (x1 : Int32) (x2 : Int32) (x3 : Int32) : Int32 := ((w0_84l x0 x1 x2 x3) - ((w0_84l x0 x1 x2 x3) / (5 : Int32)) * (5 : Int32))
def w0_114l (x0 : Int32) (x1 : Int32) (x2 : Int32) (x3 : Int32) : Int32 := (x2 &&& (2147483647 : Int32))
def w0_114r (x0 : Int32) (x1 : Int32) (x2 : Int32) (x3 : Int32) : Int32 := ((w0_85 x0 x1 x2 x3) + (1 : Int32))
def w0_115 (x0 : Int32) (x1 : Int32) (x2 : Int32) (x3 : Int32) : Int32 := ((w0_114l x0 x1 x2 x3) - ((w0_114l x0 x1 x2 x3) / (w0_114r x0 x1 x2 x3)) * (w0_114r x0 x1 x2 x3))
def j0_177_s0 (x0 : Int32) (x1 : Int32) (x2 : Int32) (x3 : Int32) : Int32 := (if (j0_61_s0 x0 x1 x2 x3) = (0 : Int32) then (0 : Int32) else (1 : Int32))
def r0 (x0 : Int32) (x1 : Int32) (x2 : Int32) (x3 : Int32) : Int32 := (if (w0_115 x0 x1 x2 x3) = (0 : Int32) then (if (w90_30 (j0_61_s0 x0 x1 x2 x3) (w0_32 x0 x1 x2 x3) (w0_37 x0 x1 x2 x3) (w0_42 x0 x1 x2 x3) (w0_47 x0 x1 x2 x3) (0 : Int32) (0 : Int32) (0 : Int32) (0 : Int32)) = ((j0_177_s0 x0 x1 x2 x3).toInt8.toInt32) then (if (rD (0 : Int32) (0 : Int32) (w0_2 x0 x1 x2 x3)) = (0 : Int32) then (0 : Int32) else (if (rD (1 : Int32) (0 : Int32) (w0_9 x0 x1 x2 x3)) = (0 : Int32) then (0 : Int32) else (if (rD (2 : Int32) (0 : Int32) (w0_16 x0 x1 x2 x3)) = (0 : Int32) then (0 : Int32) else (if (rD (3 : Int32) (0 : Int32) (w0_23 x0 x1 x2 x3)) = (0 : Int32) then (0 : Int32) else (1 : Int32))))) else (0 : Int32)) else (if (w0_115 x0 x1 x2 x3) = (1 : Int32) then (if (w91_30 (j0_61_s0 x0 x1 x2 x3) (w0_32 x0 x1 x2 x3) (w0_37 x0 x1 x2 x3) (w0_42 x0 x1 x2 x3) (w0_47 x0 x1 x2 x3) (0 : Int32) (0 : Int32) (0 : Int32) (0 : Int32)) = ((j0_177_s0 x0 x1 x2 x3).toInt8.toInt32) then (if (rC (0 : Int32) (1 : Int32) (w0_2 x0 x1 x2 x3) (2 : Int32) (w0_32 x0 x1 x2 x3)) = (0 : Int32) then (0 : Int32) else (if (rD (1 : Int32) (1 : Int32) (w0_9 x0 x1 x2 x3)) = (0 : Int32) then (0 : Int32) else (if (rD (2 : Int32) (1 : Int32) (w0_16 x0 x1 x2 x3)) = (0 : Int32) then (0 : Int32) else (if (rD (3 : Int32) (1 : Int32) (w0_23 x0 x1 x2 x3)) = (0 : Int32) then (0 : Int32) else (1 : Int32))))) else (0 : Int32)) else (if (w0_115 x0 x1 x2 x3) = (2 : Int32) then (if (w92_30 (j0_61_s0 x0 x1 x2 x3) (w0_32 x0 x1 x2 x3) (w0_37 x0 x1 x2 x3) (w0_42 x0 x1 x2 x3) (w0_47 x0 x1 x2 x3) (0 : Int32) (0 : Int32) (0 : Int32) (0 : Int32)) = ((j0_177_s0 x0 x1 x2 x3).toInt8.toInt32) then (if (rC (0 : Int32) (2 : Int32) (w0_2 x0 x1 x2 x3) (3 : Int32) (w0_32 x0 x1 x2 x3)) = (0 : Int32) then (0 : Int32) else (if (rC (1 : Int32) (2 : Int32) (w0_9 x0 x1 x2 x3) (3 : Int32) (w0_37 x0 x1 x2 x3)) = (0 : Int32) then (0 : Int32) else (if (rD (2 : Int32) (2 : Int32) (w0_16 x0 x1 x2 x3)) = (0 : Int32) then (0 : Int32) else (if (rD (3 : Int32) (2 : Int32) (w0_23 x0 x1 x2 x3)) = (0 : Int32) then (0 : Int32) else (1 : Int32))))) else (0 : Int32)) else (if (w0_115 x0 x1 x2 x3) = (3 : Int32) then (if (w93_30 (j0_61_s0 x0 x1 x2 x3) (w0_32 x0 x1 x2 x3) (w0_37 x0 x1 x2 x3) (w0_42 x0 x1 x2 x3) (w0_47 x0 x1 x2 x3) (0 : Int32) (0 : Int32) (0 : Int32) (0 : Int32)) = ((j0_177_s0 x0 x1 x2 x3).toInt8.toInt32) then (if (rC (0 : Int32) (3 : Int32) (w0_2 x0 x1 x2 x3) (4 : Int32) (w0_32 x0 x1 x2 x3)) = (0 : Int32) then (0 : Int32) else (if (rC (1 : Int32) (3 : Int32) (w0_9 x0 x1 x2 x3) (4 : Int32) (w0_37 x0 x1 x2 x3)) = (0 : Int32) then (0 : Int32) else (if (rC (2 : Int32) (3 : Int32) (w0_16 x0 x1 x2 x3) (4 : Int32) (w0_42 x0 x1 x2 x3)) = (0 : Int32) then (0 : Int32) else (if (rD (3 : Int32) (3 : Int32) (w0_23 x0 x1 x2 x3)) = (0 : Int32) then (0 : Int32) else (1 : Int32))))) else (0 : Int32)) else (if (w94_30 (j0_61_s0 x0 x1 x2 x3) (w0_32 x0 x1 x2 x3) (w0_37 x0 x1 x2 x3) (w0_42 x0 x1 x2 x3) (w0_47 x0 x1 x2 x3) (0 : Int32) (0 : Int32) (0 : Int32) (0 : Int32)) = ((j0_177_s0 x0 x1 x2 x3).toInt8.toInt32) then (if (rC (0 : Int32) (4 : Int32) (w0_2 x0 x1 x2 x3) (5 : Int32) (w0_32 x0 x1 x2 x3)) = (0 : Int32) then (0 : Int32) else (if (rC (1 : Int32) (4 : Int32) (w0_9 x0 x1 x2 x3) (5 : Int32) (w0_37 x0 x1 x2 x3)) = (0 : Int32) then (0 : Int32) else (if (rC (2 : Int32) (4 : Int32) (w0_16 x0 x1 x2 x3) (5 : Int32) (w0_42 x0 x1 x2 x3)) = (0 : Int32) then (0 : Int32) else (if (rC (3 : Int32) (4 : Int32) (w0_23 x0 x1 x2 x3) (5 : Int32) (w0_47 x0 x1 x2 x3)) = (0 : Int32) then (0 : Int32) else (1 : Int32))))) else (0 : Int32))))))
theorem own_nb (y : Int32) : nar .byte (y.toInt8.toInt32) = y.toInt8.toInt32 := by
  show (y.toInt8.toInt32).toInt8.toInt32 = _
  rw [Int8.toInt8_toInt32]
theorem own_rC (x1 x2 b n : Int32) : rC x1 x2 b n b = 1 := by
  unfold rC
  split
  · exact if_pos rfl
  · rfl
theorem own_mk (x0 x1 x2 x3 : Int32) : ∃ M K, (w0_85 x0 x1 x2 x3).toInt = M ∧ 0 ≤ M ∧ M ≤ 4 ∧ (w0_114r x0 x1 x2 x3).toInt = M + 1 ∧ (w0_115 x0 x1 x2 x3).toInt = K ∧ 0 ≤ K ∧ K ≤ M := by
  obtain ⟨B, m0, b0, -, -⟩ := own_m32 x1 (2147483647 : Int32) (k := 31) (by decide) (by decide)
  obtain ⟨C, m1, c0, -, -⟩ := own_m32 x2 (2147483647 : Int32) (k := 31) (by decide) (by decide)
  obtain ⟨M, hM, m⟩ : ∃ M, (w0_85 x0 x1 x2 x3).toInt = M ∧ M = B % 5 := ⟨_, own_r32 m0 (show (5 : Int32).toInt = 5 by decide) b0, rfl⟩
  have hr : (w0_114r x0 x1 x2 x3).toInt = M + 1 := own_add32 hM (show (1 : Int32).toInt = 1 by decide) (by omega) (by omega)
  obtain ⟨K, hK, k⟩ : ∃ K, (w0_115 x0 x1 x2 x3).toInt = K ∧ K = C % (M + 1) := ⟨_, own_r32 m1 hr c0, rfl⟩
  have k0 : 0 ≤ K := by rw [k]; exact Int.emod_nonneg _ (by omega)
  have k1 : K < M + 1 := by rw [k]; exact Int.emod_lt_of_pos _ (by omega)
  exact ⟨M, K, hM, by omega, by omega, hr, hK, k0, by omega⟩
theorem own_t1a (x0 x1 x2 x3 : Int32) : ¬ (w0_85 x0 x1 x2 x3) < (0 : Int32) := by
  obtain ⟨M, K, h1, h2, h3, h4, h5, h6, h7⟩ := own_mk x0 x1 x2 x3; rw [own_lt32 h1 (show (0 : Int32).toInt = 0 by decide)]; omega
theorem own_t2a (x0 x1 x2 x3 : Int32) : (w0_85 x0 x1 x2 x3) < ((4 : Int32) + (1 : Int32)) := by
  obtain ⟨M, K, h1, h2, h3, h4, h5, h6, h7⟩ := own_mk x0 x1 x2 x3; rw [own_lt32 h1 (show ((4 : Int32) + (1 : Int32)).toInt = 5 by decide)]; omega
theorem own_t1b (x0 x1 x2 x3 : Int32) : ¬ (w0_115 x0 x1 x2 x3) < (0 : Int32) := by
  obtain ⟨M, K, h1, h2, h3, h4, h5, h6, h7⟩ := own_mk x0 x1 x2 x3; rw [own_lt32 h5 (show (0 : Int32).toInt = 0 by decide)]; omega
theorem own_t2b (x0 x1 x2 x3 : Int32) : (w0_115 x0 x1 x2 x3) < ((w0_85 x0 x1 x2 x3) + (1 : Int32)) := by
  obtain ⟨M, K, h1, h2, h3, h4, h5, h6, h7⟩ := own_mk x0 x1 x2 x3
  exact (own_lt32 (v := w0_114r x0 x1 x2 x3) h5 h4).mpr (by omega)
theorem own_nz (x0 x1 x2 x3 : Int32) : w0_114r x0 x1 x2 x3 ≠ 0 := by
  obtain ⟨M, K, h1, h2, h3, h4, h5, h6, h7⟩ := own_mk x0 x1 x2 x3; rw [Ne, own_eq32 h4 (show (0 : Int32).toInt = 0 by decide)]; omega
theorem own_k5 (x0 x1 x2 x3 : Int32) (a0 : ¬ w0_115 x0 x1 x2 x3 = 0) (a1 : ¬ w0_115 x0 x1 x2 x3 = 1) (a2 : ¬ w0_115 x0 x1 x2 x3 = 2) (a3 : ¬ w0_115 x0 x1 x2 x3 = 3) : w0_115 x0 x1 x2 x3 = 4 := by
  obtain ⟨M, K, h1, h2, h3, h4, h5, h6, h7⟩ := own_mk x0 x1 x2 x3
  rw [own_eq32 h5 (show (0 : Int32).toInt = 0 by decide)] at a0
  rw [own_eq32 h5 (show (1 : Int32).toInt = 1 by decide)] at a1
  rw [own_eq32 h5 (show (2 : Int32).toInt = 2 by decide)] at a2
  rw [own_eq32 h5 (show (3 : Int32).toInt = 3 by decide)] at a3
  rw [own_eq32 h5 (show (4 : Int32).toInt = 4 by decide)]
  omega
theorem law_true (x0 x1 x2 x3 : Int32) : r0 x0 x1 x2 x3 = 1 := by
  have e1 : w0_32 x0 x1 x2 x3 = w0_2 x0 x1 x2 x3 := own_nb _
  have e2 : w0_37 x0 x1 x2 x3 = w0_9 x0 x1 x2 x3 := own_nb _
  have e3 : w0_42 x0 x1 x2 x3 = w0_16 x0 x1 x2 x3 := own_nb _
  have e4 : w0_47 x0 x1 x2 x3 = w0_23 x0 x1 x2 x3 := own_nb _
  have b0 : ∀ u0 u1 u2 u3 u4 u5 u6 u7, w90_30 (j0_61_s0 x0 x1 x2 x3) u0 u1 u2 u3 u4 u5 u6 u7 = ((j0_177_s0 x0 x1 x2 x3).toInt8.toInt32) := fun _ _ _ _ _ _ _ _ => own_nb _
  have b1 : ∀ u0 u1 u2 u3 u4 u5 u6 u7, w91_30 (j0_61_s0 x0 x1 x2 x3) u0 u1 u2 u3 u4 u5 u6 u7 = ((j0_177_s0 x0 x1 x2 x3).toInt8.toInt32) := fun _ _ _ _ _ _ _ _ => own_nb _
  have b2 : ∀ u0 u1 u2 u3 u4 u5 u6 u7, w92_30 (j0_61_s0 x0 x1 x2 x3) u0 u1 u2 u3 u4 u5 u6 u7 = ((j0_177_s0 x0 x1 x2 x3).toInt8.toInt32) := fun _ _ _ _ _ _ _ _ => own_nb _
  have b3 : ∀ u0 u1 u2 u3 u4 u5 u6 u7, w93_30 (j0_61_s0 x0 x1 x2 x3) u0 u1 u2 u3 u4 u5 u6 u7 = ((j0_177_s0 x0 x1 x2 x3).toInt8.toInt32) := fun _ _ _ _ _ _ _ _ => own_nb _
  have b4 : ∀ u0 u1 u2 u3 u4 u5 u6 u7, w94_30 (j0_61_s0 x0 x1 x2 x3) u0 u1 u2 u3 u4 u5 u6 u7 = ((j0_177_s0 x0 x1 x2 x3).toInt8.toInt32) := fun _ _ _ _ _ _ _ _ => own_nb _
  have rd : ∀ a b c, rD a b c = 1 := fun _ _ _ => rfl
  have d : ¬ ((1 : Int32) = 0) := by decide
  unfold r0
  simp only [b0, b1, b2, b3, b4, e1, e2, e3, e4, own_rC, rd, if_true, if_neg d, ite_self]
set_option maxRecDepth 65536 in
set_option maxHeartbeats 40000000 in
theorem rm0 (l : Launch) (Z : State) (a0 : Array Value) (hw : ∀ d ∈ tables_1, d.before a0 Z = true) (ws : List Jvm.Cond) (x0 : Int32) (x1 : Int32) (x2 : Int32) (x3 : Int32) (h0 : Heap) (n0 : Nat) (Z0 : n0 ≤ h0.size) :
    MetFree l x (head1 (Jvm.Cond.code x code maxLocals ret :: ws) room_1) (fun a U => a = #[(.int x0), (.int x1), (.int x2), (.int x3)] ∧ Z.Warmed39 U.vm ∧ U.heap = h0) (fun _ _ _ _ _ => True) (fun _ U o U' => ∃ v L, o = .returned v ∧ (QL (some (.int (r0 x0 x1 x2 x3))) n0) v U'.heap L ∧ FrameEnd U o U' L room_1.cells room_1.slots) := by
  refine MetFree.of_bodySF (plainFor_of_name pn0) hisR ?_
  intro p e s m args below meth c s₁ Bd hml0 hP hK
  obtain ⟨rfl, hZ, hh⟩ := hP
  have hx := Bd.exec
  have hby := Bd.bytes
  have hml : c.maxLocals = 14 := hml0
  have hlk : meth.locks = false := BodyLoose.notSynchronized Bd
  have hown : s.vm.findClass "com/example/upcaster/upcaster/io/BinaryEncoderTruncatePinLaw" = some m.cls := findClass_of_methodNamed Bd.named
  have hnm := (name_of_methodNamed Bd.named Bd.method).1
  have w_0 := hw _ (List.mem_of_getElem? (i := 0) rfl)
  have w_1 := hw _ (List.mem_of_getElem? (i := 1) rfl)
  have w_2 := hw _ (List.mem_of_getElem? (i := 2) rfl)
  have w_3 := hw _ (List.mem_of_getElem? (i := 3) rfl)
  have w_4 := hw _ (List.mem_of_getElem? (i := 4) rfl)
  have w_5 := hw _ (List.mem_of_getElem? (i := 5) rfl)
  have w_6 := hw _ (List.mem_of_getElem? (i := 6) rfl)
  have w_11 := hw _ (List.mem_of_getElem? (i := 11) rfl)
  have w_12 := hw _ (List.mem_of_getElem? (i := 12) rfl)
  have w_13 := hw _ (List.mem_of_getElem? (i := 13) rfl)
  have w_14 := hw _ (List.mem_of_getElem? (i := 14) rfl)
  have w_15 := hw _ (List.mem_of_getElem? (i := 15) rfl)
  have w_16 := hw _ (List.mem_of_getElem? (i := 16) rfl)
  have w_22 := hw _ (List.mem_of_getElem? (i := 22) rfl)
  have w_27 := hw _ (List.mem_of_getElem? (i := 27) rfl)
  have w_28 := hw _ (List.mem_of_getElem? (i := 28) rfl)
  have w_29 := hw _ (List.mem_of_getElem? (i := 29) rfl)
  have w_30 := hw _ (List.mem_of_getElem? (i := 30) rfl)
  have w_31 := hw _ (List.mem_of_getElem? (i := 31) rfl)
  have w_32 := hw _ (List.mem_of_getElem? (i := 32) rfl)
  have w_41 := hw _ (List.mem_of_getElem? (i := 41) rfl)
  have w_42 := hw _ (List.mem_of_getElem? (i := 42) rfl)
  have w_43 := hw _ (List.mem_of_getElem? (i := 43) rfl)
  have w_44 := hw _ (List.mem_of_getElem? (i := 44) rfl)
  have w_45 := hw _ (List.mem_of_getElem? (i := 45) rfl)
  have w_46 := hw _ (List.mem_of_getElem? (i := 46) rfl)
  have w_47 := hw _ (List.mem_of_getElem? (i := 47) rfl)
  have w_48 := hw _ (List.mem_of_getElem? (i := 48) rfl)
  have w_49 := hw _ (List.mem_of_getElem? (i := 49) rfl)
  have w_50 := hw _ (List.mem_of_getElem? (i := 50) rfl)
  have w_51 := hw _ (List.mem_of_getElem? (i := 51) rfl)
  have w_52 := hw _ (List.mem_of_getElem? (i := 52) rfl)
  have w_53 := hw _ (List.mem_of_getElem? (i := 53) rfl)
  have w_54 := hw _ (List.mem_of_getElem? (i := 54) rfl)
  have w_55 := hw _ (List.mem_of_getElem? (i := 55) rfl)
  have w_65 := hw _ (List.mem_of_getElem? (i := 65) rfl)
  have w_66 := hw _ (List.mem_of_getElem? (i := 66) rfl)
  have w_67 := hw _ (List.mem_of_getElem? (i := 67) rfl)
  have w_68 := hw _ (List.mem_of_getElem? (i := 68) rfl)
  have hci : ∀ i v, (i, v) ∈ ([(14, 2147483647)] : List (Nat × Int32)) → (Jvm.Cond.constant "com/example/upcaster/upcaster/io/BinaryEncoderTruncatePinLaw" i v).before #[(.int x0), (.int x1), (.int x2), (.int x3)] s = true := (own_ciS (mvT hZ w_27) own_ci0)
  have hcl : ∀ i v, (i, v) ∈ ([] : List (Nat × Int64)) → (Jvm.Cond.constantLong "com/example/upcaster/upcaster/io/BinaryEncoderTruncatePinLaw" i v).before #[(.int x0), (.int x1), (.int x2), (.int x3)] s = true := own_ci0
  have X0 : Stand p l e room_1 s m #[(.int x0), (.int x1), (.int x2), (.int x3)] below meth c s₁ [] 0 0 := Stand.of_body Bd
  have e0 : s₁.heap = h0 := by rw [← hh, Bd.state]; rfl
  have N0 := Fr.nil n0
  show Goes p e below s (QL (some (.int (r0 x0 x1 x2 x3))) n0) room_1.cells room_1.slots (s₁.setTop (entryFrame m #[(.int x0), (.int x1), (.int x2), (.int x3)] maxLocals))
  refine Goes.cast (ef0 m x0 x1 x2 x3) ?_
  refine Goes.run X0 hx hown hci hcl hby (L := [(0, .iload_n 0, 1), (1, .i2b, 1), (2, .istore 4, 2), (4, .iload_n 0, 1), (5, .bipush 8, 2), (7, .iushr, 1)]) (by decide +kernel) rfl (g' := (mkF m 8 #[iv x0, iv x1, iv x2, iv x3, iv (w0_2 x0 x1 x2 x3), .unset, .unset, .unset, .unset, .unset, .unset, .unset, .unset, .unset] [(.int ((x0.toUInt32 >>> ((8 : Int32) &&& 31).toUInt32).toInt32))])) rfl ?_
  refine Goes.run X0 hx hown hci hcl hby (L := [(8, .i2b, 1), (9, .istore 5, 2), (11, .iload_n 0, 1), (12, .bipush 16, 2), (14, .iushr, 1), (15, .i2b, 1)]) (by decide +kernel) rfl (g' := (mkF m 16 #[iv x0, iv x1, iv x2, iv x3, iv (w0_2 x0 x1 x2 x3), iv (w0_9 x0 x1 x2 x3), .unset, .unset, .unset, .unset, .unset, .unset, .unset, .unset] [(.int (((x0.toUInt32 >>> ((16 : Int32) &&& 31).toUInt32).toInt32).toInt8.toInt32))])) rfl ?_
  refine Goes.run X0 hx hown hci hcl hby (L := [(16, .istore 6, 2), (18, .iload_n 0, 1), (19, .bipush 24, 2), (21, .iushr, 1), (22, .i2b, 1), (23, .istore 7, 2)]) (by decide +kernel) rfl (g' := (mkF m 25 #[iv x0, iv x1, iv x2, iv x3, iv (w0_2 x0 x1 x2 x3), iv (w0_9 x0 x1 x2 x3), iv (w0_16 x0 x1 x2 x3), iv (w0_23 x0 x1 x2 x3), .unset, .unset, .unset, .unset, .unset, .unset] [])) rfl ?_
  refine Goes.run X0 hx hown hci hcl hby (L := [(25, .iconst 4, 1)]) (by decide +kernel) rfl (g' := (mkF m 26 #[iv x0, iv x1, iv x2, iv x3, iv (w0_2 x0 x1 x2 x3), iv (w0_9 x0 x1 x2 x3), iv (w0_16 x0 x1 x2 x3), iv (w0_23 x0 x1 x2 x3), .unset, .unset, .unset, .unset, .unset, .unset] [(.int (4 : Int32))])) rfl ?_
  obtain ⟨T1, h1, k1, X1, e1, E1, A1, B1, st1⟩ := newPE X0 hx hZ (aty := .byte) w_0 e0 (g := (mkF m 26 #[iv x0, iv x1, iv x2, iv x3, iv (w0_2 x0 x1 x2 x3), iv (w0_9 x0 x1 x2 x3), iv (w0_16 x0 x1 x2 x3), iv (w0_23 x0 x1 x2 x3), .unset, .unset, .unset, .unset, .unset, .unset] [(.int (4 : Int32))])) rfl (hb hby at_26) rfl (by decide) (cap := 4) (by decide) (by decide) (by decide) (by decide) (ad := "[B") (by decide)
  obtain ⟨b1, g1⟩ : ∃ z, z = h0.size := ⟨_, rfl⟩
  rw [← g1] at A1 B1 st1
  have g_b1 : n0 ≤ b1 := Nat.le_trans Z0 (Nat.le_of_eq g1.symm)
  have Zn1 : n0 ≤ h1.size := Nat.le_trans Z0 E1.1
  have E_b1 : Exa Z h1 b1 "[B" := B1
  have V_b1 : Arv Z h1 b1 k1 .byte (4 : Int32) [(.int (0 : Int32)), (.int (0 : Int32)), (.int (0 : Int32)), (.int (0 : Int32))] (.int (0 : Int32)) := (Arv.new A1 (by decide)).pad (pad_rep [] (.int (0 : Int32)) 4)
  refine Goes.st (B := T1.setTop (mkF m 28 #[iv x0, iv x1, iv x2, iv x3, iv (w0_2 x0 x1 x2 x3), iv (w0_9 x0 x1 x2 x3), iv (w0_16 x0 x1 x2 x3), iv (w0_23 x0 x1 x2 x3), .unset, .unset, .unset, .unset, .unset, .unset] [(.ref b1)])) st1 ?_
  refine Goes.run X1 hx hown hci hcl hby (L := [(28, .dup, 1), (29, .iconst 0, 1), (30, .iload 4, 2)]) (by decide +kernel) rfl (g' := (mkF m 32 #[iv x0, iv x1, iv x2, iv x3, iv (w0_2 x0 x1 x2 x3), iv (w0_9 x0 x1 x2 x3), iv (w0_16 x0 x1 x2 x3), iv (w0_23 x0 x1 x2 x3), .unset, .unset, .unset, .unset, .unset, .unset] [(.int (w0_2 x0 x1 x2 x3)), (.int (0 : Int32)), (.ref b1), (.ref b1)])) rfl ?_
  obtain ⟨cl2, Ar2, q2, S2, M2, Hs2, G2⟩ := id V_b1
  have hin2 : ¬ ((0 : Int32) < 0 ∨ cl2.slots.size ≤ ((0 : Int32)).toNatClampNeg) := inb_of S2 ⟨(by decide), (by decide)⟩
  obtain ⟨T2, h2, X2, e2, W2, st2⟩ := stB X1 hx hZ e1 Ar2 (j := (0 : Int32)) hin2 (g := (mkF m 32 #[iv x0, iv x1, iv x2, iv x3, iv (w0_2 x0 x1 x2 x3), iv (w0_9 x0 x1 x2 x3), iv (w0_16 x0 x1 x2 x3), iv (w0_23 x0 x1 x2 x3), .unset, .unset, .unset, .unset, .unset, .unset] [(.int (w0_2 x0 x1 x2 x3)), (.int (0 : Int32)), (.ref b1), (.ref b1)])) rfl rfl (hb hby at_32)
  have E_b1 := E_b1.wr W2
  have Zn2 : n0 ≤ h2.size := Nat.le_trans Zn1 (Keep.of_wr W2).1
  have N2 := Fr.snoc X2 N0 g_b1
  have V_b1 : Arv Z h2 b1 k1 .byte (4 : Int32) [(.int (w0_32 x0 x1 x2 x3)), (.int (0 : Int32)), (.int (0 : Int32)), (.int (0 : Int32))] (.int (0 : Int32)) := Arv.set Ar2 q2 S2 M2 Hs2 G2 (fits_nar_byte _) W2 0 rfl (Nat.le_of_ble_eq_true rfl)
  refine Goes.st (B := T2.setTop (mkF m 33 #[iv x0, iv x1, iv x2, iv x3, iv (w0_2 x0 x1 x2 x3), iv (w0_9 x0 x1 x2 x3), iv (w0_16 x0 x1 x2 x3), iv (w0_23 x0 x1 x2 x3), .unset, .unset, .unset, .unset, .unset, .unset] [(.ref b1)])) st2 ?_
  refine Goes.run X2 hx hown hci hcl hby (L := [(33, .dup, 1), (34, .iconst 1, 1), (35, .iload 5, 2)]) (by decide +kernel) rfl (g' := (mkF m 37 #[iv x0, iv x1, iv x2, iv x3, iv (w0_2 x0 x1 x2 x3), iv (w0_9 x0 x1 x2 x3), iv (w0_16 x0 x1 x2 x3), iv (w0_23 x0 x1 x2 x3), .unset, .unset, .unset, .unset, .unset, .unset] [(.int (w0_9 x0 x1 x2 x3)), (.int (1 : Int32)), (.ref b1), (.ref b1)])) rfl ?_
  obtain ⟨cl3, Ar3, q3, S3, M3, Hs3, G3⟩ := id V_b1
  have hin3 : ¬ ((1 : Int32) < 0 ∨ cl3.slots.size ≤ ((1 : Int32)).toNatClampNeg) := inb_of S3 ⟨(by decide), (by decide)⟩
  obtain ⟨T3, h3, X3, e3, W3, st3⟩ := stB X2 hx hZ e2 Ar3 (j := (1 : Int32)) hin3 (g := (mkF m 37 #[iv x0, iv x1, iv x2, iv x3, iv (w0_2 x0 x1 x2 x3), iv (w0_9 x0 x1 x2 x3), iv (w0_16 x0 x1 x2 x3), iv (w0_23 x0 x1 x2 x3), .unset, .unset, .unset, .unset, .unset, .unset] [(.int (w0_9 x0 x1 x2 x3)), (.int (1 : Int32)), (.ref b1), (.ref b1)])) rfl rfl (hb hby at_37)
  have E_b1 := E_b1.wr W3
  have Zn3 : n0 ≤ h3.size := Nat.le_trans Zn2 (Keep.of_wr W3).1
  have N3 := Fr.snoc X3 N2 g_b1
  have V_b1 : Arv Z h3 b1 k1 .byte (4 : Int32) [(.int (w0_32 x0 x1 x2 x3)), (.int (w0_37 x0 x1 x2 x3)), (.int (0 : Int32)), (.int (0 : Int32))] (.int (0 : Int32)) := Arv.set Ar3 q3 S3 M3 Hs3 G3 (fits_nar_byte _) W3 1 rfl (Nat.le_of_ble_eq_true rfl)
  refine Goes.st (B := T3.setTop (mkF m 38 #[iv x0, iv x1, iv x2, iv x3, iv (w0_2 x0 x1 x2 x3), iv (w0_9 x0 x1 x2 x3), iv (w0_16 x0 x1 x2 x3), iv (w0_23 x0 x1 x2 x3), .unset, .unset, .unset, .unset, .unset, .unset] [(.ref b1)])) st3 ?_
  refine Goes.run X3 hx hown hci hcl hby (L := [(38, .dup, 1), (39, .iconst 2, 1), (40, .iload 6, 2)]) (by decide +kernel) rfl (g' := (mkF m 42 #[iv x0, iv x1, iv x2, iv x3, iv (w0_2 x0 x1 x2 x3), iv (w0_9 x0 x1 x2 x3), iv (w0_16 x0 x1 x2 x3), iv (w0_23 x0 x1 x2 x3), .unset, .unset, .unset, .unset, .unset, .unset] [(.int (w0_16 x0 x1 x2 x3)), (.int (2 : Int32)), (.ref b1), (.ref b1)])) rfl ?_
  obtain ⟨cl4, Ar4, q4, S4, M4, Hs4, G4⟩ := id V_b1
  have hin4 : ¬ ((2 : Int32) < 0 ∨ cl4.slots.size ≤ ((2 : Int32)).toNatClampNeg) := inb_of S4 ⟨(by decide), (by decide)⟩
  obtain ⟨T4, h4, X4, e4, W4, st4⟩ := stB X3 hx hZ e3 Ar4 (j := (2 : Int32)) hin4 (g := (mkF m 42 #[iv x0, iv x1, iv x2, iv x3, iv (w0_2 x0 x1 x2 x3), iv (w0_9 x0 x1 x2 x3), iv (w0_16 x0 x1 x2 x3), iv (w0_23 x0 x1 x2 x3), .unset, .unset, .unset, .unset, .unset, .unset] [(.int (w0_16 x0 x1 x2 x3)), (.int (2 : Int32)), (.ref b1), (.ref b1)])) rfl rfl (hb hby at_42)
  have E_b1 := E_b1.wr W4
  have Zn4 : n0 ≤ h4.size := Nat.le_trans Zn3 (Keep.of_wr W4).1
  have N4 := Fr.snoc X4 N3 g_b1
  have V_b1 : Arv Z h4 b1 k1 .byte (4 : Int32) [(.int (w0_32 x0 x1 x2 x3)), (.int (w0_37 x0 x1 x2 x3)), (.int (w0_42 x0 x1 x2 x3)), (.int (0 : Int32))] (.int (0 : Int32)) := Arv.set Ar4 q4 S4 M4 Hs4 G4 (fits_nar_byte _) W4 2 rfl (Nat.le_of_ble_eq_true rfl)
  refine Goes.st (B := T4.setTop (mkF m 43 #[iv x0, iv x1, iv x2, iv x3, iv (w0_2 x0 x1 x2 x3), iv (w0_9 x0 x1 x2 x3), iv (w0_16 x0 x1 x2 x3), iv (w0_23 x0 x1 x2 x3), .unset, .unset, .unset, .unset, .unset, .unset] [(.ref b1)])) st4 ?_
  refine Goes.run X4 hx hown hci hcl hby (L := [(43, .dup, 1), (44, .iconst 3, 1), (45, .iload 7, 2)]) (by decide +kernel) rfl (g' := (mkF m 47 #[iv x0, iv x1, iv x2, iv x3, iv (w0_2 x0 x1 x2 x3), iv (w0_9 x0 x1 x2 x3), iv (w0_16 x0 x1 x2 x3), iv (w0_23 x0 x1 x2 x3), .unset, .unset, .unset, .unset, .unset, .unset] [(.int (w0_23 x0 x1 x2 x3)), (.int (3 : Int32)), (.ref b1), (.ref b1)])) rfl ?_
  obtain ⟨cl5, Ar5, q5, S5, M5, Hs5, G5⟩ := id V_b1
  have hin5 : ¬ ((3 : Int32) < 0 ∨ cl5.slots.size ≤ ((3 : Int32)).toNatClampNeg) := inb_of S5 ⟨(by decide), (by decide)⟩
  obtain ⟨T5, h5, X5, e5, W5, st5⟩ := stB X4 hx hZ e4 Ar5 (j := (3 : Int32)) hin5 (g := (mkF m 47 #[iv x0, iv x1, iv x2, iv x3, iv (w0_2 x0 x1 x2 x3), iv (w0_9 x0 x1 x2 x3), iv (w0_16 x0 x1 x2 x3), iv (w0_23 x0 x1 x2 x3), .unset, .unset, .unset, .unset, .unset, .unset] [(.int (w0_23 x0 x1 x2 x3)), (.int (3 : Int32)), (.ref b1), (.ref b1)])) rfl rfl (hb hby at_47)
  have E_b1 := E_b1.wr W5
  have Zn5 : n0 ≤ h5.size := Nat.le_trans Zn4 (Keep.of_wr W5).1
  have N5 := Fr.snoc X5 N4 g_b1
  have V_b1 : Arv Z h5 b1 k1 .byte (4 : Int32) [(.int (w0_32 x0 x1 x2 x3)), (.int (w0_37 x0 x1 x2 x3)), (.int (w0_42 x0 x1 x2 x3)), (.int (w0_47 x0 x1 x2 x3))] (.int (0 : Int32)) := Arv.set Ar5 q5 S5 M5 Hs5 G5 (fits_nar_byte _) W5 3 rfl (Nat.le_of_ble_eq_true rfl)
  refine Goes.st (B := T5.setTop (mkF m 48 #[iv x0, iv x1, iv x2, iv x3, iv (w0_2 x0 x1 x2 x3), iv (w0_9 x0 x1 x2 x3), iv (w0_16 x0 x1 x2 x3), iv (w0_23 x0 x1 x2 x3), .unset, .unset, .unset, .unset, .unset, .unset] [(.ref b1)])) st5 ?_
  refine Goes.run X5 hx hown hci hcl hby (L := [(48, .astore 8, 2), (50, .iload_n 3, 1), (51, .iconst 1, 1), (52, .iand, 1)]) (by decide +kernel) rfl (g' := (mkF m 53 #[iv x0, iv x1, iv x2, iv x3, iv (w0_2 x0 x1 x2 x3), iv (w0_9 x0 x1 x2 x3), iv (w0_16 x0 x1 x2 x3), iv (w0_23 x0 x1 x2 x3), rv b1, .unset, .unset, .unset, .unset, .unset] [(.int (x3 &&& (1 : Int32)))])) rfl ?_
  have jn61_7 : Goes p e below s (QL (some (.int (r0 x0 x1 x2 x3))) n0) room_1.cells room_1.slots (T5.setTop (mkF m 61 #[iv x0, iv x1, iv x2, iv x3, iv (w0_2 x0 x1 x2 x3), iv (w0_9 x0 x1 x2 x3), iv (w0_16 x0 x1 x2 x3), iv (w0_23 x0 x1 x2 x3), rv b1, .unset, .unset, .unset, .unset, .unset] [(.int (j0_61_s0 x0 x1 x2 x3))])) := by
    refine Goes.run X5 hx hown hci hcl hby (L := [(61, .istore 9, 2)]) (by decide +kernel) rfl (g' := (mkF m 63 #[iv x0, iv x1, iv x2, iv x3, iv (w0_2 x0 x1 x2 x3), iv (w0_9 x0 x1 x2 x3), iv (w0_16 x0 x1 x2 x3), iv (w0_23 x0 x1 x2 x3), rv b1, iv (j0_61_s0 x0 x1 x2 x3), .unset, .unset, .unset, .unset] [])) rfl ?_
    obtain ⟨T8, h8, X8, e8, E8, A8, D8, -, st8⟩ := newO X5 hx hZ hown w_1 w_2 w_3 e5 (g := (mkF m 63 #[iv x0, iv x1, iv x2, iv x3, iv (w0_2 x0 x1 x2 x3), iv (w0_9 x0 x1 x2 x3), iv (w0_16 x0 x1 x2 x3), iv (w0_23 x0 x1 x2 x3), rv b1, iv (j0_61_s0 x0 x1 x2 x3), .unset, .unset, .unset, .unset] [])) rfl (hb hby at_63) (by decide) (by decide)
    obtain ⟨b8, g8⟩ : ∃ z, z = h5.size := ⟨_, rfl⟩
    rw [← g8] at A8 D8 st8
    have ne_b1_b8 : b1 ≠ b8 := Nat.ne_of_lt (Nat.lt_of_lt_of_le E_b1.lt (Nat.le_of_eq g8.symm))
    have g_b8 : n0 ≤ b8 := Nat.le_trans Zn5 (Nat.le_of_eq g8.symm)
    have E_b1 := E_b1.ext E8
    have V_b1 := V_b1.ext E8
    have Zn8 : n0 ≤ h8.size := Nat.le_trans Zn5 E8.1
    have E_b8 : Exa Z h8 b8 "com/example/upcaster/upcaster/io/BinaryEncoder" := A8
    have F_buffer_b8 : Fld Z h8 b8 "com/example/upcaster/upcaster/io/BinaryEncoder" "buffer" "[B" .null := D8 (Or.inl w_11) (ty := (.array .byte)) (by decide)
    have F_size_b8 : Fld Z h8 b8 "com/example/upcaster/upcaster/io/BinaryEncoder" "size" "I" (.int (0 : Int32)) := D8 (Or.inl w_22) (ty := .int) (by decide)
    refine Goes.st (B := T8.setTop (mkF m 66 #[iv x0, iv x1, iv x2, iv x3, iv (w0_2 x0 x1 x2 x3), iv (w0_9 x0 x1 x2 x3), iv (w0_16 x0 x1 x2 x3), iv (w0_23 x0 x1 x2 x3), rv b1, iv (j0_61_s0 x0 x1 x2 x3), .unset, .unset, .unset, .unset] [(.ref b8)])) st8 ?_
    refine Goes.run X8 hx hown hci hcl hby (L := [(66, .dup, 1)]) (by decide +kernel) rfl (g' := (mkF m 67 #[iv x0, iv x1, iv x2, iv x3, iv (w0_2 x0 x1 x2 x3), iv (w0_9 x0 x1 x2 x3), iv (w0_16 x0 x1 x2 x3), iv (w0_23 x0 x1 x2 x3), rv b1, iv (j0_61_s0 x0 x1 x2 x3), .unset, .unset, .unset, .unset] [(.ref b8), (.ref b8)])) rfl ?_
    obtain ⟨_, _, ⟨T9, L9, k9, n9⟩, -, X9, ⟨Lc9, hQ9, l9, y9, z9⟩, st9⟩ := X8.specialBack hx (y := ym0) rfl hown (mvT hZ w_4) (mvT hZ w_5) (mvT hZ w_6) (by decide) (backOf (W := 1) (rm1 l Z a0 hw [] b8 h8 n0 Zn8 E_b8 F_buffer_b8 F_size_b8 g_b8) hZ w_6 w_3 (by decide) (by decide)) (g := (mkF m 67 #[iv x0, iv x1, iv x2, iv x3, iv (w0_2 x0 x1 x2 x3), iv (w0_9 x0 x1 x2 x3), iv (w0_16 x0 x1 x2 x3), iv (w0_23 x0 x1 x2 x3), rv b1, iv (j0_61_s0 x0 x1 x2 x3), .unset, .unset, .unset, .unset] [(.ref b8), (.ref b8)])) rfl (by rw [hml]; rfl) (Steps.refl _) (a := b8) (argsL := []) (rest := [(.ref b8)]) (lenOf pd0_0 rfl) rfl (by show 2 * 0 + _ ≤ _; exact Nat.le_of_eq rfl) (hb hby at_67) (fun _ _ => ⟨rfl, e8, (by decide : 2 + 1 ≤ _), (by decide : 6 + 256 ≤ _)⟩)
    dsimp only [Pt.U, Pt.locs, Pt.cells, Pt.slots] at X9 l9 y9 z9 st9 hQ9
    subst l9 y9 z9
    obtain ⟨h9, eh9⟩ : ∃ z, z = T9.heap := ⟨_, rfl⟩
    rw [← eh9] at hQ9
    have e9 : T9.heap = h9 := eh9.symm
    obtain ⟨b9, kc9, rfl, N9q, Kq9, szq9, o9_0, o9_1, o9_2, o9_3, o9_4⟩ := hQ9
    have ne_b1_b9 : b1 ≠ b9 := Nat.ne_of_lt (Nat.lt_of_lt_of_le E_b1.lt szq9)
    have ne_b8_b9 : b8 ≠ b9 := Nat.ne_of_lt (Nat.lt_of_lt_of_le E_b8.lt szq9)
    have g_b9 : n0 ≤ b9 := Nat.le_trans Zn8 szq9
    have N9 := Fr.app N5 N9q
    have E_b1 := E_b1.keep Kq9
    have V_b1 := V_b1.keep Kq9 (ninS ne_b1_b8 nin0)
    have E_b9 : Exa Z h9 b9 "[B" := o9_0
    have V_b9 : Arv Z h9 b9 kc9 .byte (256 : Int32) [(.int (0 : Int32)), (.int (0 : Int32)), (.int (0 : Int32)), (.int (0 : Int32)), (.int (0 : Int32)), (.int (0 : Int32)), (.int (0 : Int32)), (.int (0 : Int32))] (.int (0 : Int32)) := o9_1
    have E_b8 : Exa Z h9 b8 "com/example/upcaster/upcaster/io/BinaryEncoder" := o9_2
    have F_buffer_b8 : Fld Z h9 b8 "com/example/upcaster/upcaster/io/BinaryEncoder" "buffer" "[B" (.ref b9) := o9_3
    have F_size_b8 : Fld Z h9 b8 "com/example/upcaster/upcaster/io/BinaryEncoder" "size" "I" (.int (0 : Int32)) := o9_4
    have Zn9 : n0 ≤ h9.size := Nat.le_trans Zn8 Kq9.1
    refine Goes.st (B := T9.setTop (mkF m 70 #[iv x0, iv x1, iv x2, iv x3, iv (w0_2 x0 x1 x2 x3), iv (w0_9 x0 x1 x2 x3), iv (w0_16 x0 x1 x2 x3), iv (w0_23 x0 x1 x2 x3), rv b1, iv (j0_61_s0 x0 x1 x2 x3), .unset, .unset, .unset, .unset] [(.ref b8)])) (fun t k => st9.trans k) ?_
    refine Goes.run X9 hx hown hci hcl hby (L := [(70, .astore 10, 2), (72, .aload 10, 2), (74, .aload 8, 2)]) (by decide +kernel) rfl (g' := (mkF m 76 #[iv x0, iv x1, iv x2, iv x3, iv (w0_2 x0 x1 x2 x3), iv (w0_9 x0 x1 x2 x3), iv (w0_16 x0 x1 x2 x3), iv (w0_23 x0 x1 x2 x3), rv b1, iv (j0_61_s0 x0 x1 x2 x3), rv b8, .unset, .unset, .unset] [(.ref b1), (.ref b8)])) rfl ?_
    obtain ⟨cq10, kq10, q10a, q10b, q10c⟩ := isOf hZ e9 E_b8
    obtain ⟨_, _, ⟨T10, L10, k10, n10⟩, -, X10, ⟨Lc10, hQ10, l10, y10, z10⟩, st10⟩ := X9.virtualBack hx (y := ym2) (z := ym2) hown (mvT hZ w_12) (mvT hZ w_13) (notFace_of_selects (args := #[]) (mvT hZ w_15)) (mvT hZ w_15) (mvT hZ w_14) (by decide) (backOf (W := 0) (rm3 l Z a0 hw [] b8 b1 b9 kc9 k1 (w0_32 x0 x1 x2 x3) (w0_37 x0 x1 x2 x3) (w0_42 x0 x1 x2 x3) (w0_47 x0 x1 x2 x3) h9 n0 Zn9 E_b8 F_buffer_b8 F_size_b8 E_b9 V_b9 V_b1 g_b8 g_b9 ne_b8_b9 ne_b1_b9 ne_b1_b8) hZ w_16 w_3 (by decide) (by decide)) q10a q10c (g := (mkF m 76 #[iv x0, iv x1, iv x2, iv x3, iv (w0_2 x0 x1 x2 x3), iv (w0_9 x0 x1 x2 x3), iv (w0_16 x0 x1 x2 x3), iv (w0_23 x0 x1 x2 x3), rv b1, iv (j0_61_s0 x0 x1 x2 x3), rv b8, .unset, .unset, .unset] [(.ref b1), (.ref b8)])) rfl (by rw [hml]; rfl) (Steps.refl _) (argsL := [(.ref b1)]) (rest := []) (lenOf pd0_1 rfl) rfl (by show 2 * 0 + _ ≤ _; exact Nat.le_of_eq rfl) (hb hby at_76) (fun _ _ => ⟨rfl, e9, (by decide : 3 + 0 ≤ _), (by decide : 262 + 0 ≤ _)⟩)
    dsimp only [Pt.U, Pt.locs, Pt.cells, Pt.slots] at X10 l10 y10 z10 st10 hQ10
    subst l10 y10 z10
    obtain ⟨h10, eh10⟩ : ∃ z, z = T10.heap := ⟨_, rfl⟩
    rw [← eh10] at hQ10
    have e10 : T10.heap = h10 := eh10.symm
    obtain ⟨rfl, N10q, Kq10, o10_0, o10_1, o10_2, o10_3, o10_4⟩ := hQ10
    have N10 := Fr.app N9 N10q
    have E_b1 := E_b1.keep Kq10
    have V_b1 := V_b1.keep Kq10 (ninS ne_b1_b8 (ninS ne_b1_b9 nin0))
    have E_b8 : Exa Z h10 b8 "com/example/upcaster/upcaster/io/BinaryEncoder" := o10_0
    have F_buffer_b8 : Fld Z h10 b8 "com/example/upcaster/upcaster/io/BinaryEncoder" "buffer" "[B" (.ref b9) := o10_1
    have F_size_b8 : Fld Z h10 b8 "com/example/upcaster/upcaster/io/BinaryEncoder" "size" "I" (.int (4 : Int32)) := o10_2
    have E_b9 : Exa Z h10 b9 "[B" := o10_3
    have V_b9 : Arv Z h10 b9 kc9 .byte (256 : Int32) [(.int (w0_32 x0 x1 x2 x3)), (.int (w0_37 x0 x1 x2 x3)), (.int (w0_42 x0 x1 x2 x3)), (.int (w0_47 x0 x1 x2 x3)), (.int (0 : Int32)), (.int (0 : Int32)), (.int (0 : Int32)), (.int (0 : Int32))] (.int (0 : Int32)) := o10_4
    have Zn10 : n0 ≤ h10.size := Nat.le_trans Zn9 Kq10.1
    refine Goes.st (B := T10.setTop (mkF m 79 #[iv x0, iv x1, iv x2, iv x3, iv (w0_2 x0 x1 x2 x3), iv (w0_9 x0 x1 x2 x3), iv (w0_16 x0 x1 x2 x3), iv (w0_23 x0 x1 x2 x3), rv b1, iv (j0_61_s0 x0 x1 x2 x3), rv b8, .unset, .unset, .unset] [])) (fun t k => st10.trans k) ?_
    refine Goes.run X10 hx hown hci hcl hby (L := [(79, .iload_n 1, 1), (80, .ldc 14, 2), (82, .iand, 1), (83, .iconst 5, 1), (84, .irem, 1), (85, .istore 11, 2)]) (by decide +kernel) rfl (g' := (mkF m 87 #[iv x0, iv x1, iv x2, iv x3, iv (w0_2 x0 x1 x2 x3), iv (w0_9 x0 x1 x2 x3), iv (w0_16 x0 x1 x2 x3), iv (w0_23 x0 x1 x2 x3), rv b1, iv (j0_61_s0 x0 x1 x2 x3), rv b8, iv (w0_85 x0 x1 x2 x3), .unset, .unset] [])) rfl ?_
    refine Goes.run X10 hx hown hci hcl hby (L := [(87, .aload 10, 2), (89, .iload 11, 2)]) (by decide +kernel) rfl (g' := (mkF m 91 #[iv x0, iv x1, iv x2, iv x3, iv (w0_2 x0 x1 x2 x3), iv (w0_9 x0 x1 x2 x3), iv (w0_16 x0 x1 x2 x3), iv (w0_23 x0 x1 x2 x3), rv b1, iv (j0_61_s0 x0 x1 x2 x3), rv b8, iv (w0_85 x0 x1 x2 x3), .unset, .unset] [(.int (w0_85 x0 x1 x2 x3)), (.ref b8)])) rfl ?_
    obtain ⟨cq11, kq11, q11a, q11b, q11c⟩ := isOf hZ e10 E_b8
    obtain ⟨_, _, ⟨T11, L11, k11, n11⟩, -, X11, ⟨Lc11, hQ11, l11, y11, z11⟩, st11⟩ := X10.virtualBack hx (y := ym5) (z := ym5) hown (mvT hZ w_28) (mvT hZ w_29) (notFace_of_selects (args := #[]) (mvT hZ w_31)) (mvT hZ w_31) (mvT hZ w_30) (by decide) (backOf (W := 0) (rm6 l Z a0 hw [] b8 (w0_85 x0 x1 x2 x3) b9 (4 : Int32) h10 n0 Zn10 E_b8 F_buffer_b8 F_size_b8 g_b8 (own_t1a x0 x1 x2 x3) (own_t2a x0 x1 x2 x3)) hZ w_32 w_3 (by decide) (by decide)) q11a q11c (g := (mkF m 91 #[iv x0, iv x1, iv x2, iv x3, iv (w0_2 x0 x1 x2 x3), iv (w0_9 x0 x1 x2 x3), iv (w0_16 x0 x1 x2 x3), iv (w0_23 x0 x1 x2 x3), rv b1, iv (j0_61_s0 x0 x1 x2 x3), rv b8, iv (w0_85 x0 x1 x2 x3), .unset, .unset] [(.int (w0_85 x0 x1 x2 x3)), (.ref b8)])) rfl (by rw [hml]; rfl) (Steps.refl _) (argsL := [(.int (w0_85 x0 x1 x2 x3))]) (rest := []) (lenOf pd0_2 rfl) rfl (by show 2 * 0 + _ ≤ _; exact Nat.le_of_eq rfl) (hb hby at_91) (fun _ _ => ⟨rfl, e10, (by decide : 3 + 0 ≤ _), (by decide : 262 + 0 ≤ _)⟩)
    dsimp only [Pt.U, Pt.locs, Pt.cells, Pt.slots] at X11 l11 y11 z11 st11 hQ11
    subst l11 y11 z11
    obtain ⟨h11, eh11⟩ : ∃ z, z = T11.heap := ⟨_, rfl⟩
    rw [← eh11] at hQ11
    have e11 : T11.heap = h11 := eh11.symm
    obtain ⟨rfl, N11q, Kq11, o11_0, o11_1, o11_2⟩ := hQ11
    have N11 := Fr.app N10 N11q
    have E_b1 := E_b1.keep Kq11
    have V_b1 := V_b1.keep Kq11 (ninS ne_b1_b8 nin0)
    have E_b9 := E_b9.keep Kq11
    have V_b9 := V_b9.keep Kq11 (ninS (Ne.symm ne_b8_b9) nin0)
    have E_b8 : Exa Z h11 b8 "com/example/upcaster/upcaster/io/BinaryEncoder" := o11_0
    have F_buffer_b8 : Fld Z h11 b8 "com/example/upcaster/upcaster/io/BinaryEncoder" "buffer" "[B" (.ref b9) := o11_1
    have F_size_b8 : Fld Z h11 b8 "com/example/upcaster/upcaster/io/BinaryEncoder" "size" "I" (.int (w0_85 x0 x1 x2 x3)) := o11_2
    have Zn11 : n0 ≤ h11.size := Nat.le_trans Zn10 Kq11.1
    refine Goes.st (B := T11.setTop (mkF m 94 #[iv x0, iv x1, iv x2, iv x3, iv (w0_2 x0 x1 x2 x3), iv (w0_9 x0 x1 x2 x3), iv (w0_16 x0 x1 x2 x3), iv (w0_23 x0 x1 x2 x3), rv b1, iv (j0_61_s0 x0 x1 x2 x3), rv b8, iv (w0_85 x0 x1 x2 x3), .unset, .unset] [])) (fun t k => st11.trans k) ?_
    refine Goes.run X11 hx hown hci hcl hby (L := [(94, .aload 10, 2)]) (by decide +kernel) rfl (g' := (mkF m 96 #[iv x0, iv x1, iv x2, iv x3, iv (w0_2 x0 x1 x2 x3), iv (w0_9 x0 x1 x2 x3), iv (w0_16 x0 x1 x2 x3), iv (w0_23 x0 x1 x2 x3), rv b1, iv (j0_61_s0 x0 x1 x2 x3), rv b8, iv (w0_85 x0 x1 x2 x3), .unset, .unset] [(.ref b8)])) rfl ?_
    obtain ⟨cq12, kq12, q12a, q12b, q12c⟩ := isOf hZ e11 E_b8
    obtain ⟨_, _, ⟨T12, L12, k12, n12⟩, -, X12, ⟨Lc12, hQ12, l12, y12, z12⟩, st12⟩ := X11.virtualBack hx (y := ym6) (z := ym6) hown (mvT hZ w_41) (mvT hZ w_42) (notFace_of_selects (args := #[]) (mvT hZ w_44)) (mvT hZ w_44) (mvT hZ w_43) (by decide) (backOf (W := 0) (rm7 l Z a0 hw [] b8 (w0_85 x0 x1 x2 x3) h11 n0 Zn11 F_size_b8) hZ w_45 w_3 (by decide) (by decide)) q12a q12c (g := (mkF m 96 #[iv x0, iv x1, iv x2, iv x3, iv (w0_2 x0 x1 x2 x3), iv (w0_9 x0 x1 x2 x3), iv (w0_16 x0 x1 x2 x3), iv (w0_23 x0 x1 x2 x3), rv b1, iv (j0_61_s0 x0 x1 x2 x3), rv b8, iv (w0_85 x0 x1 x2 x3), .unset, .unset] [(.ref b8)])) rfl (by rw [hml]; rfl) (Steps.refl _) (argsL := []) (rest := []) (lenOf pd0_3 rfl) rfl (by show 2 * 0 + _ ≤ _; exact Nat.le_of_eq rfl) (hb hby at_96) (fun _ _ => ⟨rfl, e11, (by decide : 3 + 0 ≤ _), (by decide : 262 + 0 ≤ _)⟩)
    dsimp only [Pt.U, Pt.locs, Pt.cells, Pt.slots] at X12 l12 y12 z12 st12 hQ12
    subst l12 y12 z12
    obtain ⟨rfl, N12q, e12⟩ := hQ12
    have N12 := Fr.app N11 N12q
    refine Goes.st (B := T12.setTop (mkF m 99 #[iv x0, iv x1, iv x2, iv x3, iv (w0_2 x0 x1 x2 x3), iv (w0_9 x0 x1 x2 x3), iv (w0_16 x0 x1 x2 x3), iv (w0_23 x0 x1 x2 x3), rv b1, iv (j0_61_s0 x0 x1 x2 x3), rv b8, iv (w0_85 x0 x1 x2 x3), .unset, .unset] [(.int (w0_85 x0 x1 x2 x3))])) (fun t k => st12.trans k) ?_
    refine Goes.run X12 hx hown hci hcl hby (L := [(99, .iload 11, 2)]) (by decide +kernel) rfl (g' := (mkF m 101 #[iv x0, iv x1, iv x2, iv x3, iv (w0_2 x0 x1 x2 x3), iv (w0_9 x0 x1 x2 x3), iv (w0_16 x0 x1 x2 x3), iv (w0_23 x0 x1 x2 x3), rv b1, iv (j0_61_s0 x0 x1 x2 x3), rv b8, iv (w0_85 x0 x1 x2 x3), .unset, .unset] [(.int (w0_85 x0 x1 x2 x3)), (.int (w0_85 x0 x1 x2 x3))])) rfl ?_
    have hc101_13 : (w0_85 x0 x1 x2 x3) = (w0_85 x0 x1 x2 x3) := rfl
    refine Goes.st (B := T12.setTop (mkF m 106 #[iv x0, iv x1, iv x2, iv x3, iv (w0_2 x0 x1 x2 x3), iv (w0_9 x0 x1 x2 x3), iv (w0_16 x0 x1 x2 x3), iv (w0_23 x0 x1 x2 x3), rv b1, iv (j0_61_s0 x0 x1 x2 x3), rv b8, iv (w0_85 x0 x1 x2 x3), .unset, .unset] [])) (fun t k => ?_) ?_
    · refine XS.icmpYes X12.here hx rfl (pc0 := 101) (pc' := 106) rfl (hb hby at_101) rfl (teq hc101_13).1 (by decide) (by decide) ?_
      exact k
    refine Goes.run X12 hx hown hci hcl hby (L := [(106, .iload_n 2, 1), (107, .ldc 14, 2), (109, .iand, 1), (110, .iload 11, 2), (112, .iconst 1, 1), (113, .iadd, 1)]) (by decide +kernel) rfl (g' := (mkF m 114 #[iv x0, iv x1, iv x2, iv x3, iv (w0_2 x0 x1 x2 x3), iv (w0_9 x0 x1 x2 x3), iv (w0_16 x0 x1 x2 x3), iv (w0_23 x0 x1 x2 x3), rv b1, iv (j0_61_s0 x0 x1 x2 x3), rv b8, iv (w0_85 x0 x1 x2 x3), .unset, .unset] [(.int ((w0_85 x0 x1 x2 x3) + (1 : Int32))), (.int (x2 &&& (2147483647 : Int32)))])) rfl ?_
    refine Goes.st (B := T12.setTop (mkF m 115 #[iv x0, iv x1, iv x2, iv x3, iv (w0_2 x0 x1 x2 x3), iv (w0_9 x0 x1 x2 x3), iv (w0_16 x0 x1 x2 x3), iv (w0_23 x0 x1 x2 x3), rv b1, iv (j0_61_s0 x0 x1 x2 x3), rv b8, iv (w0_85 x0 x1 x2 x3), .unset, .unset] [(.int ((w0_114l x0 x1 x2 x3) - ((w0_114l x0 x1 x2 x3) / (w0_114r x0 x1 x2 x3)) * (w0_114r x0 x1 x2 x3)))])) (fun t k => ?_) ?_
    · refine XS.irem X12.here hx rfl (hb hby at_114) rfl (own_nz x0 x1 x2 x3) ?_
      exact k
    refine Goes.run X12 hx hown hci hcl hby (L := [(115, .istore 12, 2), (117, .aload 10, 2), (119, .iload 12, 2)]) (by decide +kernel) rfl (g' := (mkF m 121 #[iv x0, iv x1, iv x2, iv x3, iv (w0_2 x0 x1 x2 x3), iv (w0_9 x0 x1 x2 x3), iv (w0_16 x0 x1 x2 x3), iv (w0_23 x0 x1 x2 x3), rv b1, iv (j0_61_s0 x0 x1 x2 x3), rv b8, iv (w0_85 x0 x1 x2 x3), iv (w0_115 x0 x1 x2 x3), .unset] [(.int (w0_115 x0 x1 x2 x3)), (.ref b8)])) rfl ?_
    obtain ⟨cq14, kq14, q14a, q14b, q14c⟩ := isOf hZ e12 E_b8
    obtain ⟨_, _, ⟨T14, L14, k14, n14⟩, -, X14, ⟨Lc14, hQ14, l14, y14, z14⟩, st14⟩ := X12.virtualBack hx (y := ym5) (z := ym5) hown (mvT hZ w_28) (mvT hZ w_29) (notFace_of_selects (args := #[]) (mvT hZ w_31)) (mvT hZ w_31) (mvT hZ w_30) (by decide) (backOf (W := 0) (rm6 l Z a0 hw [] b8 (w0_115 x0 x1 x2 x3) b9 (w0_85 x0 x1 x2 x3) h11 n0 Zn11 E_b8 F_buffer_b8 F_size_b8 g_b8 (own_t1b x0 x1 x2 x3) (own_t2b x0 x1 x2 x3)) hZ w_32 w_3 (by decide) (by decide)) q14a q14c (g := (mkF m 121 #[iv x0, iv x1, iv x2, iv x3, iv (w0_2 x0 x1 x2 x3), iv (w0_9 x0 x1 x2 x3), iv (w0_16 x0 x1 x2 x3), iv (w0_23 x0 x1 x2 x3), rv b1, iv (j0_61_s0 x0 x1 x2 x3), rv b8, iv (w0_85 x0 x1 x2 x3), iv (w0_115 x0 x1 x2 x3), .unset] [(.int (w0_115 x0 x1 x2 x3)), (.ref b8)])) rfl (by rw [hml]; rfl) (Steps.refl _) (argsL := [(.int (w0_115 x0 x1 x2 x3))]) (rest := []) (lenOf pd0_2 rfl) rfl (by show 2 * 0 + _ ≤ _; exact Nat.le_of_eq rfl) (hb hby at_121) (fun _ _ => ⟨rfl, e12, (by decide : 3 + 0 ≤ _), (by decide : 262 + 0 ≤ _)⟩)
    dsimp only [Pt.U, Pt.locs, Pt.cells, Pt.slots] at X14 l14 y14 z14 st14 hQ14
    subst l14 y14 z14
    obtain ⟨h14, eh14⟩ : ∃ z, z = T14.heap := ⟨_, rfl⟩
    rw [← eh14] at hQ14
    have e14 : T14.heap = h14 := eh14.symm
    obtain ⟨rfl, N14q, Kq14, o14_0, o14_1, o14_2⟩ := hQ14
    have N14 := Fr.app N12 N14q
    have E_b1 := E_b1.keep Kq14
    have V_b1 := V_b1.keep Kq14 (ninS ne_b1_b8 nin0)
    have E_b9 := E_b9.keep Kq14
    have V_b9 := V_b9.keep Kq14 (ninS (Ne.symm ne_b8_b9) nin0)
    have E_b8 : Exa Z h14 b8 "com/example/upcaster/upcaster/io/BinaryEncoder" := o14_0
    have F_buffer_b8 : Fld Z h14 b8 "com/example/upcaster/upcaster/io/BinaryEncoder" "buffer" "[B" (.ref b9) := o14_1
    have F_size_b8 : Fld Z h14 b8 "com/example/upcaster/upcaster/io/BinaryEncoder" "size" "I" (.int (w0_115 x0 x1 x2 x3)) := o14_2
    have Zn14 : n0 ≤ h14.size := Nat.le_trans Zn11 Kq14.1
    refine Goes.st (B := T14.setTop (mkF m 124 #[iv x0, iv x1, iv x2, iv x3, iv (w0_2 x0 x1 x2 x3), iv (w0_9 x0 x1 x2 x3), iv (w0_16 x0 x1 x2 x3), iv (w0_23 x0 x1 x2 x3), rv b1, iv (j0_61_s0 x0 x1 x2 x3), rv b8, iv (w0_85 x0 x1 x2 x3), iv (w0_115 x0 x1 x2 x3), .unset] [])) (fun t k => st14.trans k) ?_
    refine Goes.run X14 hx hown hci hcl hby (L := [(124, .aload 10, 2)]) (by decide +kernel) rfl (g' := (mkF m 126 #[iv x0, iv x1, iv x2, iv x3, iv (w0_2 x0 x1 x2 x3), iv (w0_9 x0 x1 x2 x3), iv (w0_16 x0 x1 x2 x3), iv (w0_23 x0 x1 x2 x3), rv b1, iv (j0_61_s0 x0 x1 x2 x3), rv b8, iv (w0_85 x0 x1 x2 x3), iv (w0_115 x0 x1 x2 x3), .unset] [(.ref b8)])) rfl ?_
    obtain ⟨cq15, kq15, q15a, q15b, q15c⟩ := isOf hZ e14 E_b8
    obtain ⟨_, _, ⟨T15, L15, k15, n15⟩, -, X15, ⟨Lc15, hQ15, l15, y15, z15⟩, st15⟩ := X14.virtualBack hx (y := ym6) (z := ym6) hown (mvT hZ w_41) (mvT hZ w_42) (notFace_of_selects (args := #[]) (mvT hZ w_44)) (mvT hZ w_44) (mvT hZ w_43) (by decide) (backOf (W := 0) (rm7 l Z a0 hw [] b8 (w0_115 x0 x1 x2 x3) h14 n0 Zn14 F_size_b8) hZ w_45 w_3 (by decide) (by decide)) q15a q15c (g := (mkF m 126 #[iv x0, iv x1, iv x2, iv x3, iv (w0_2 x0 x1 x2 x3), iv (w0_9 x0 x1 x2 x3), iv (w0_16 x0 x1 x2 x3), iv (w0_23 x0 x1 x2 x3), rv b1, iv (j0_61_s0 x0 x1 x2 x3), rv b8, iv (w0_85 x0 x1 x2 x3), iv (w0_115 x0 x1 x2 x3), .unset] [(.ref b8)])) rfl (by rw [hml]; rfl) (Steps.refl _) (argsL := []) (rest := []) (lenOf pd0_3 rfl) rfl (by show 2 * 0 + _ ≤ _; exact Nat.le_of_eq rfl) (hb hby at_126) (fun _ _ => ⟨rfl, e14, (by decide : 3 + 0 ≤ _), (by decide : 262 + 0 ≤ _)⟩)
    dsimp only [Pt.U, Pt.locs, Pt.cells, Pt.slots] at X15 l15 y15 z15 st15 hQ15
    subst l15 y15 z15
    obtain ⟨rfl, N15q, e15⟩ := hQ15
    have N15 := Fr.app N14 N15q
    refine Goes.st (B := T15.setTop (mkF m 129 #[iv x0, iv x1, iv x2, iv x3, iv (w0_2 x0 x1 x2 x3), iv (w0_9 x0 x1 x2 x3), iv (w0_16 x0 x1 x2 x3), iv (w0_23 x0 x1 x2 x3), rv b1, iv (j0_61_s0 x0 x1 x2 x3), rv b8, iv (w0_85 x0 x1 x2 x3), iv (w0_115 x0 x1 x2 x3), .unset] [(.int (w0_115 x0 x1 x2 x3))])) (fun t k => st15.trans k) ?_
    refine Goes.run X15 hx hown hci hcl hby (L := [(129, .iload 12, 2)]) (by decide +kernel) rfl (g' := (mkF m 131 #[iv x0, iv x1, iv x2, iv x3, iv (w0_2 x0 x1 x2 x3), iv (w0_9 x0 x1 x2 x3), iv (w0_16 x0 x1 x2 x3), iv (w0_23 x0 x1 x2 x3), rv b1, iv (j0_61_s0 x0 x1 x2 x3), rv b8, iv (w0_85 x0 x1 x2 x3), iv (w0_115 x0 x1 x2 x3), .unset] [(.int (w0_115 x0 x1 x2 x3)), (.int (w0_115 x0 x1 x2 x3))])) rfl ?_
    have hc131_16 : (w0_115 x0 x1 x2 x3) = (w0_115 x0 x1 x2 x3) := rfl
    refine Goes.st (B := T15.setTop (mkF m 136 #[iv x0, iv x1, iv x2, iv x3, iv (w0_2 x0 x1 x2 x3), iv (w0_9 x0 x1 x2 x3), iv (w0_16 x0 x1 x2 x3), iv (w0_23 x0 x1 x2 x3), rv b1, iv (j0_61_s0 x0 x1 x2 x3), rv b8, iv (w0_85 x0 x1 x2 x3), iv (w0_115 x0 x1 x2 x3), .unset] [])) (fun t k => ?_) ?_
    · refine XS.icmpYes X15.here hx rfl (pc0 := 131) (pc' := 136) rfl (hb hby at_131) rfl (teq hc131_16).1 (by decide) (by decide) ?_
      exact k
    by_cases hs136_17 : (w0_115 x0 x1 x2 x3) = (0 : Int32)
    · skip
      rw [hs136_17]
      rw [hs136_17] at F_size_b8
      refine Goes.run X15 hx hown hci hcl hby (L := [(136, .aload 10, 2), (138, .iload 9, 2)]) (by decide +kernel) rfl (g' := (mkF m 140 #[iv x0, iv x1, iv x2, iv x3, iv (w0_2 x0 x1 x2 x3), iv (w0_9 x0 x1 x2 x3), iv (w0_16 x0 x1 x2 x3), iv (w0_23 x0 x1 x2 x3), rv b1, iv (j0_61_s0 x0 x1 x2 x3), rv b8, iv (w0_85 x0 x1 x2 x3), iv (0 : Int32), .unset] [(.int (j0_61_s0 x0 x1 x2 x3)), (.ref b8)])) rfl ?_
      obtain ⟨cq18, kq18, q18a, q18b, q18c⟩ := isOf hZ e15 E_b8
      obtain ⟨_, _, ⟨T18, L18, k18, n18⟩, -, X18, ⟨Lc18, hQ18, l18, y18, z18⟩, st18⟩ := X15.virtualBack hx (y := ym8) (z := ym8) hown (mvT hZ w_46) (mvT hZ w_47) (notFace_of_selects (args := #[]) (mvT hZ w_49)) (mvT hZ w_49) (mvT hZ w_48) (by decide) (backOf (W := 0) (rm90 l Z a0 hw [] b8 (j0_61_s0 x0 x1 x2 x3) b9 kc9 (w0_32 x0 x1 x2 x3) (w0_37 x0 x1 x2 x3) (w0_42 x0 x1 x2 x3) (w0_47 x0 x1 x2 x3) (0 : Int32) (0 : Int32) (0 : Int32) (0 : Int32) h14 n0 Zn14 E_b8 F_buffer_b8 F_size_b8 E_b9 V_b9 g_b8 g_b9 ne_b8_b9) hZ w_50 w_3 (by decide) (by decide)) q18a q18c (g := (mkF m 140 #[iv x0, iv x1, iv x2, iv x3, iv (w0_2 x0 x1 x2 x3), iv (w0_9 x0 x1 x2 x3), iv (w0_16 x0 x1 x2 x3), iv (w0_23 x0 x1 x2 x3), rv b1, iv (j0_61_s0 x0 x1 x2 x3), rv b8, iv (w0_85 x0 x1 x2 x3), iv (0 : Int32), .unset] [(.int (j0_61_s0 x0 x1 x2 x3)), (.ref b8)])) rfl (by rw [hml]; rfl) (Steps.refl _) (argsL := [(.int (j0_61_s0 x0 x1 x2 x3))]) (rest := []) (lenOf pd0_4 rfl) rfl (by show 2 * 0 + _ ≤ _; exact Nat.le_of_eq rfl) (hb hby at_140) (fun _ _ => ⟨rfl, e15, (by decide : 3 + 0 ≤ _), (by decide : 262 + 0 ≤ _)⟩)
      dsimp only [Pt.U, Pt.locs, Pt.cells, Pt.slots] at X18 l18 y18 z18 st18 hQ18
      subst l18 y18 z18
      obtain ⟨h18, eh18⟩ : ∃ z, z = T18.heap := ⟨_, rfl⟩
      rw [← eh18] at hQ18
      have e18 : T18.heap = h18 := eh18.symm
      obtain ⟨rfl, N18q, Kq18, o18_0, o18_1, o18_2, o18_3, o18_4⟩ := hQ18
      have N18 := Fr.app N15 N18q
      have E_b1 := E_b1.keep Kq18
      have V_b1 := V_b1.keep Kq18 (ninS ne_b1_b8 (ninS ne_b1_b9 nin0))
      have E_b8 : Exa Z h18 b8 "com/example/upcaster/upcaster/io/BinaryEncoder" := o18_0
      have F_buffer_b8 : Fld Z h18 b8 "com/example/upcaster/upcaster/io/BinaryEncoder" "buffer" "[B" (.ref b9) := o18_1
      have F_size_b8 : Fld Z h18 b8 "com/example/upcaster/upcaster/io/BinaryEncoder" "size" "I" (.int (1 : Int32)) := o18_2
      have E_b9 : Exa Z h18 b9 "[B" := o18_3
      have V_b9 : Arv Z h18 b9 kc9 .byte (256 : Int32) [(.int (w90_30 (j0_61_s0 x0 x1 x2 x3) (w0_32 x0 x1 x2 x3) (w0_37 x0 x1 x2 x3) (w0_42 x0 x1 x2 x3) (w0_47 x0 x1 x2 x3) (0 : Int32) (0 : Int32) (0 : Int32) (0 : Int32))), (.int (w0_37 x0 x1 x2 x3)), (.int (w0_42 x0 x1 x2 x3)), (.int (w0_47 x0 x1 x2 x3)), (.int (0 : Int32)), (.int (0 : Int32)), (.int (0 : Int32)), (.int (0 : Int32))] (.int (0 : Int32)) := o18_4
      have Zn18 : n0 ≤ h18.size := Nat.le_trans Zn14 Kq18.1
      refine Goes.st (B := T18.setTop (mkF m 143 #[iv x0, iv x1, iv x2, iv x3, iv (w0_2 x0 x1 x2 x3), iv (w0_9 x0 x1 x2 x3), iv (w0_16 x0 x1 x2 x3), iv (w0_23 x0 x1 x2 x3), rv b1, iv (j0_61_s0 x0 x1 x2 x3), rv b8, iv (w0_85 x0 x1 x2 x3), iv (0 : Int32), .unset] [])) (fun t k => st18.trans k) ?_
      refine Goes.run X18 hx hown hci hcl hby (L := [(143, .aload 10, 2)]) (by decide +kernel) rfl (g' := (mkF m 145 #[iv x0, iv x1, iv x2, iv x3, iv (w0_2 x0 x1 x2 x3), iv (w0_9 x0 x1 x2 x3), iv (w0_16 x0 x1 x2 x3), iv (w0_23 x0 x1 x2 x3), rv b1, iv (j0_61_s0 x0 x1 x2 x3), rv b8, iv (w0_85 x0 x1 x2 x3), iv (0 : Int32), .unset] [(.ref b8)])) rfl ?_
      obtain ⟨cq19, kq19, q19a, q19b, q19c⟩ := isOf hZ e18 E_b8
      obtain ⟨_, _, ⟨T19, L19, k19, n19⟩, -, X19, ⟨Lc19, hQ19, l19, y19, z19⟩, st19⟩ := X18.virtualBack hx (y := ym10) (z := ym10) hown (mvT hZ w_51) (mvT hZ w_52) (notFace_of_selects (args := #[]) (mvT hZ w_54)) (mvT hZ w_54) (mvT hZ w_53) (by decide) (backOf (W := 0) (rmB0 l Z a0 hw [] b8 b9 kc9 (w90_30 (j0_61_s0 x0 x1 x2 x3) (w0_32 x0 x1 x2 x3) (w0_37 x0 x1 x2 x3) (w0_42 x0 x1 x2 x3) (w0_47 x0 x1 x2 x3) (0 : Int32) (0 : Int32) (0 : Int32) (0 : Int32)) (w0_37 x0 x1 x2 x3) (w0_42 x0 x1 x2 x3) (w0_47 x0 x1 x2 x3) (0 : Int32) (0 : Int32) (0 : Int32) (0 : Int32) h18 n0 Zn18 F_buffer_b8 F_size_b8 V_b9) hZ w_55 w_3 (by decide) (by decide)) q19a q19c (g := (mkF m 145 #[iv x0, iv x1, iv x2, iv x3, iv (w0_2 x0 x1 x2 x3), iv (w0_9 x0 x1 x2 x3), iv (w0_16 x0 x1 x2 x3), iv (w0_23 x0 x1 x2 x3), rv b1, iv (j0_61_s0 x0 x1 x2 x3), rv b8, iv (w0_85 x0 x1 x2 x3), iv (0 : Int32), .unset] [(.ref b8)])) rfl (by rw [hml]; rfl) (Steps.refl _) (argsL := []) (rest := []) (lenOf pd0_5 rfl) rfl (by show 2 * 0 + _ ≤ _; exact Nat.le_of_eq rfl) (hb hby at_145) (fun _ _ => ⟨rfl, e18, (by decide : 3 + 1 ≤ _), (by decide : 262 + 1 ≤ _)⟩)
      dsimp only [Pt.U, Pt.locs, Pt.cells, Pt.slots] at X19 l19 y19 z19 st19 hQ19
      subst l19 y19 z19
      obtain ⟨h19, eh19⟩ : ∃ z, z = T19.heap := ⟨_, rfl⟩
      rw [← eh19] at hQ19
      have e19 : T19.heap = h19 := eh19.symm
      obtain ⟨b19, kc19, rfl, N19q, Kq19, szq19, o19_0, o19_1⟩ := hQ19
      have ne_b1_b19 : b1 ≠ b19 := Nat.ne_of_lt (Nat.lt_of_lt_of_le E_b1.lt szq19)
      have ne_b8_b19 : b8 ≠ b19 := Nat.ne_of_lt (Nat.lt_of_lt_of_le E_b8.lt szq19)
      have ne_b9_b19 : b9 ≠ b19 := Nat.ne_of_lt (Nat.lt_of_lt_of_le E_b9.lt szq19)
      have g_b19 : n0 ≤ b19 := Nat.le_trans Zn18 szq19
      have N19 := Fr.app N18 N19q
      have E_b1 := E_b1.keep Kq19
      have V_b1 := V_b1.keep Kq19 nin0
      have E_b8 := E_b8.keep Kq19
      have F_buffer_b8 := F_buffer_b8.keep Kq19 nin0
      have F_size_b8 := F_size_b8.keep Kq19 nin0
      have E_b9 := E_b9.keep Kq19
      have V_b9 := V_b9.keep Kq19 nin0
      have E_b19 : Exa Z h19 b19 "[B" := o19_0
      have V_b19 : Arv Z h19 b19 kc19 .byte (1 : Int32) [(.int (w90_30 (j0_61_s0 x0 x1 x2 x3) (w0_32 x0 x1 x2 x3) (w0_37 x0 x1 x2 x3) (w0_42 x0 x1 x2 x3) (w0_47 x0 x1 x2 x3) (0 : Int32) (0 : Int32) (0 : Int32) (0 : Int32)))] (.int (0 : Int32)) := o19_1
      have Zn19 : n0 ≤ h19.size := Nat.le_trans Zn18 Kq19.1
      refine Goes.st (B := T19.setTop (mkF m 148 #[iv x0, iv x1, iv x2, iv x3, iv (w0_2 x0 x1 x2 x3), iv (w0_9 x0 x1 x2 x3), iv (w0_16 x0 x1 x2 x3), iv (w0_23 x0 x1 x2 x3), rv b1, iv (j0_61_s0 x0 x1 x2 x3), rv b8, iv (w0_85 x0 x1 x2 x3), iv (0 : Int32), .unset] [(.ref b19)])) (fun t k => st19.trans k) ?_
      refine Goes.run X19 hx hown hci hcl hby (L := [(148, .astore 13, 2), (150, .aload 13, 2)]) (by decide +kernel) rfl (g' := (mkF m 152 #[iv x0, iv x1, iv x2, iv x3, iv (w0_2 x0 x1 x2 x3), iv (w0_9 x0 x1 x2 x3), iv (w0_16 x0 x1 x2 x3), iv (w0_23 x0 x1 x2 x3), rv b1, iv (j0_61_s0 x0 x1 x2 x3), rv b8, iv (w0_85 x0 x1 x2 x3), iv (0 : Int32), rv b19] [(.ref b19)])) rfl ?_
      obtain ⟨cl20, Ar20, q20, S20, M20, Hs20, G20⟩ := id V_b19
      refine Goes.st (B := T19.setTop (mkF m 153 #[iv x0, iv x1, iv x2, iv x3, iv (w0_2 x0 x1 x2 x3), iv (w0_9 x0 x1 x2 x3), iv (w0_16 x0 x1 x2 x3), iv (w0_23 x0 x1 x2 x3), rv b1, iv (j0_61_s0 x0 x1 x2 x3), rv b8, iv (w0_85 x0 x1 x2 x3), iv (0 : Int32), rv b19] [(.int (1 : Int32))])) (fun t k => ?_) ?_
      · refine X19.arraylength hx (cell := cl20) (by rw [e19]; exact Ar20.1) (State.isArrayOf_alike hZ.alike Ar20.2.1) (g := (mkF m 152 #[iv x0, iv x1, iv x2, iv x3, iv (w0_2 x0 x1 x2 x3), iv (w0_9 x0 x1 x2 x3), iv (w0_16 x0 x1 x2 x3), iv (w0_23 x0 x1 x2 x3), rv b1, iv (j0_61_s0 x0 x1 x2 x3), rv b8, iv (w0_85 x0 x1 x2 x3), iv (0 : Int32), rv b19] [(.ref b19)])) rfl (rest := []) rfl (hb hby at_152) _ ?_
        rw [len_of S20 M20]
        exact k
      refine Goes.run X19 hx hown hci hcl hby (L := [(153, .iload 12, 2), (155, .iconst 1, 1), (156, .iadd, 1)]) (by decide +kernel) rfl (g' := (mkF m 157 #[iv x0, iv x1, iv x2, iv x3, iv (w0_2 x0 x1 x2 x3), iv (w0_9 x0 x1 x2 x3), iv (w0_16 x0 x1 x2 x3), iv (w0_23 x0 x1 x2 x3), rv b1, iv (j0_61_s0 x0 x1 x2 x3), rv b8, iv (w0_85 x0 x1 x2 x3), iv (0 : Int32), rv b19] [(.int (1 : Int32)), (.int (1 : Int32))])) rfl ?_
      have hc157_21 : (1 : Int32) = (1 : Int32) := rfl
      refine Goes.st (B := T19.setTop (mkF m 162 #[iv x0, iv x1, iv x2, iv x3, iv (w0_2 x0 x1 x2 x3), iv (w0_9 x0 x1 x2 x3), iv (w0_16 x0 x1 x2 x3), iv (w0_23 x0 x1 x2 x3), rv b1, iv (j0_61_s0 x0 x1 x2 x3), rv b8, iv (w0_85 x0 x1 x2 x3), iv (0 : Int32), rv b19] [])) (fun t k => ?_) ?_
      · refine XS.icmpYes X19.here hx rfl (pc0 := 157) (pc' := 162) rfl (hb hby at_157) rfl (teq hc157_21).1 (by decide) (by decide) ?_
        exact k
      refine Goes.run X19 hx hown hci hcl hby (L := [(162, .aload 13, 2), (164, .iload 12, 2)]) (by decide +kernel) rfl (g' := (mkF m 166 #[iv x0, iv x1, iv x2, iv x3, iv (w0_2 x0 x1 x2 x3), iv (w0_9 x0 x1 x2 x3), iv (w0_16 x0 x1 x2 x3), iv (w0_23 x0 x1 x2 x3), rv b1, iv (j0_61_s0 x0 x1 x2 x3), rv b8, iv (w0_85 x0 x1 x2 x3), iv (0 : Int32), rv b19] [(.int (0 : Int32)), (.ref b19)])) rfl ?_
      obtain ⟨cl22, Ar22, q22, S22, M22, Hs22, G22⟩ := id V_b19
      have hin22 : ¬ ((0 : Int32) < 0 ∨ cl22.slots.size ≤ ((0 : Int32)).toNatClampNeg) := inb_of S22 ⟨(by decide), (by decide)⟩
      have hat22 : cl22.slots[((0 : Int32)).toNatClampNeg]? = some (.int (w90_30 (j0_61_s0 x0 x1 x2 x3) (w0_32 x0 x1 x2 x3) (w0_37 x0 x1 x2 x3) (w0_42 x0 x1 x2 x3) (w0_47 x0 x1 x2 x3) (0 : Int32) (0 : Int32) (0 : Int32) (0 : Int32))) := Hs22.at hin22 rfl
      refine Goes.st (B := T19.setTop (mkF m 167 #[iv x0, iv x1, iv x2, iv x3, iv (w0_2 x0 x1 x2 x3), iv (w0_9 x0 x1 x2 x3), iv (w0_16 x0 x1 x2 x3), iv (w0_23 x0 x1 x2 x3), rv b1, iv (j0_61_s0 x0 x1 x2 x3), rv b8, iv (w0_85 x0 x1 x2 x3), iv (0 : Int32), rv b19] [(.int (w90_30 (j0_61_s0 x0 x1 x2 x3) (w0_32 x0 x1 x2 x3) (w0_37 x0 x1 x2 x3) (w0_42 x0 x1 x2 x3) (w0_47 x0 x1 x2 x3) (0 : Int32) (0 : Int32) (0 : Int32) (0 : Int32)))])) (X19.baloadBytes hx (j := (0 : Int32)) (v := (.int (w90_30 (j0_61_s0 x0 x1 x2 x3) (w0_32 x0 x1 x2 x3) (w0_37 x0 x1 x2 x3) (w0_42 x0 x1 x2 x3) (w0_47 x0 x1 x2 x3) (0 : Int32) (0 : Int32) (0 : Int32) (0 : Int32)))) (by rw [e19]; exact Ar22.1) (State.isArrayOf_alike hZ.alike Ar22.2.1) Ar22.2.2 hin22 hat22 (g := (mkF m 166 #[iv x0, iv x1, iv x2, iv x3, iv (w0_2 x0 x1 x2 x3), iv (w0_9 x0 x1 x2 x3), iv (w0_16 x0 x1 x2 x3), iv (w0_23 x0 x1 x2 x3), rv b1, iv (j0_61_s0 x0 x1 x2 x3), rv b8, iv (w0_85 x0 x1 x2 x3), iv (0 : Int32), rv b19] [(.int (0 : Int32)), (.ref b19)])) rfl rfl (hb hby at_166)) ?_
      refine Goes.run X19 hx hown hci hcl hby (L := [(167, .iload 9, 2)]) (by decide +kernel) rfl (g' := (mkF m 169 #[iv x0, iv x1, iv x2, iv x3, iv (w0_2 x0 x1 x2 x3), iv (w0_9 x0 x1 x2 x3), iv (w0_16 x0 x1 x2 x3), iv (w0_23 x0 x1 x2 x3), rv b1, iv (j0_61_s0 x0 x1 x2 x3), rv b8, iv (w0_85 x0 x1 x2 x3), iv (0 : Int32), rv b19] [(.int (j0_61_s0 x0 x1 x2 x3)), (.int (w90_30 (j0_61_s0 x0 x1 x2 x3) (w0_32 x0 x1 x2 x3) (w0_37 x0 x1 x2 x3) (w0_42 x0 x1 x2 x3) (w0_47 x0 x1 x2 x3) (0 : Int32) (0 : Int32) (0 : Int32) (0 : Int32)))])) rfl ?_
      have jn177_24 : Goes p e below s (QL (some (.int (r0 x0 x1 x2 x3))) n0) room_1.cells room_1.slots (T19.setTop (mkF m 177 #[iv x0, iv x1, iv x2, iv x3, iv (w0_2 x0 x1 x2 x3), iv (w0_9 x0 x1 x2 x3), iv (w0_16 x0 x1 x2 x3), iv (w0_23 x0 x1 x2 x3), rv b1, iv (j0_61_s0 x0 x1 x2 x3), rv b8, iv (w0_85 x0 x1 x2 x3), iv (0 : Int32), rv b19] [(.int (j0_177_s0 x0 x1 x2 x3)), (.int (w90_30 (j0_61_s0 x0 x1 x2 x3) (w0_32 x0 x1 x2 x3) (w0_37 x0 x1 x2 x3) (w0_42 x0 x1 x2 x3) (w0_47 x0 x1 x2 x3) (0 : Int32) (0 : Int32) (0 : Int32) (0 : Int32)))])) := by
        refine Goes.run X19 hx hown hci hcl hby (L := [(177, .i2b, 1)]) (by decide +kernel) rfl (g' := (mkF m 178 #[iv x0, iv x1, iv x2, iv x3, iv (w0_2 x0 x1 x2 x3), iv (w0_9 x0 x1 x2 x3), iv (w0_16 x0 x1 x2 x3), iv (w0_23 x0 x1 x2 x3), rv b1, iv (j0_61_s0 x0 x1 x2 x3), rv b8, iv (w0_85 x0 x1 x2 x3), iv (0 : Int32), rv b19] [(.int ((j0_177_s0 x0 x1 x2 x3).toInt8.toInt32)), (.int (w90_30 (j0_61_s0 x0 x1 x2 x3) (w0_32 x0 x1 x2 x3) (w0_37 x0 x1 x2 x3) (w0_42 x0 x1 x2 x3) (w0_47 x0 x1 x2 x3) (0 : Int32) (0 : Int32) (0 : Int32) (0 : Int32)))])) rfl ?_
        by_cases hc178_25 : (w90_30 (j0_61_s0 x0 x1 x2 x3) (w0_32 x0 x1 x2 x3) (w0_37 x0 x1 x2 x3) (w0_42 x0 x1 x2 x3) (w0_47 x0 x1 x2 x3) (0 : Int32) (0 : Int32) (0 : Int32) (0 : Int32)) = ((j0_177_s0 x0 x1 x2 x3).toInt8.toInt32)
        · skip
          refine Goes.st (B := T19.setTop (mkF m 183 #[iv x0, iv x1, iv x2, iv x3, iv (w0_2 x0 x1 x2 x3), iv (w0_9 x0 x1 x2 x3), iv (w0_16 x0 x1 x2 x3), iv (w0_23 x0 x1 x2 x3), rv b1, iv (j0_61_s0 x0 x1 x2 x3), rv b8, iv (w0_85 x0 x1 x2 x3), iv (0 : Int32), rv b19] [])) (fun t k => ?_) ?_
          · refine XS.icmpYes X19.here hx rfl (pc0 := 178) (pc' := 183) rfl (hb hby at_178) rfl (teq hc178_25).1 (by decide) (by decide) ?_
            exact k
          refine Goes.run X19 hx hown hci hcl hby (L := [(183, .aload 13, 2), (185, .iconst 0, 1), (186, .iload 12, 2), (188, .iload 4, 2)]) (by decide +kernel) rfl (g' := (mkF m 190 #[iv x0, iv x1, iv x2, iv x3, iv (w0_2 x0 x1 x2 x3), iv (w0_9 x0 x1 x2 x3), iv (w0_16 x0 x1 x2 x3), iv (w0_23 x0 x1 x2 x3), rv b1, iv (j0_61_s0 x0 x1 x2 x3), rv b8, iv (w0_85 x0 x1 x2 x3), iv (0 : Int32), rv b19] [(.int (w0_2 x0 x1 x2 x3)), (.int (0 : Int32)), (.int (0 : Int32)), (.ref b19)])) rfl ?_
          obtain ⟨_, _, ⟨T26, L26, k26, n26⟩, -, X26, ⟨Lc26, hQ26, l26, y26, z26⟩, st26⟩ := Jvm.LawKit.callS X19 hx (y := ym11) hown (mvT hZ w_65) (mvT hZ w_66) (mvT hZ w_67) (mvT hZ w_68) (by decide) (backOf (W := 0) (rmD l Z a0 hw [] b19 (0 : Int32) (0 : Int32) (w0_2 x0 x1 x2 x3) h19 n0 Zn19 (by decide)) hZ w_68 w_67 (by decide) (by decide)) (g := (mkF m 190 #[iv x0, iv x1, iv x2, iv x3, iv (w0_2 x0 x1 x2 x3), iv (w0_9 x0 x1 x2 x3), iv (w0_16 x0 x1 x2 x3), iv (w0_23 x0 x1 x2 x3), rv b1, iv (j0_61_s0 x0 x1 x2 x3), rv b8, iv (w0_85 x0 x1 x2 x3), iv (0 : Int32), rv b19] [(.int (w0_2 x0 x1 x2 x3)), (.int (0 : Int32)), (.int (0 : Int32)), (.ref b19)])) rfl (by rw [hml]; rfl) (argsL := [(.ref b19), (.int (0 : Int32)), (.int (0 : Int32)), (.int (w0_2 x0 x1 x2 x3))]) (rest := []) (lenOf pd0_6 rfl) rfl (by show 2 * 0 + _ ≤ _; exact Nat.le_of_eq rfl) (hb hby at_190) (fun _ _ => ⟨rfl, e19, (by decide : 4 + 0 ≤ _), (by decide : 263 + 0 ≤ _)⟩)
          dsimp only [Pt.U, Pt.locs, Pt.cells, Pt.slots] at X26 l26 y26 z26 st26 hQ26
          subst l26 y26 z26
          obtain ⟨rfl, N26q, e26⟩ := hQ26
          have N26 := Fr.app N19 N26q
          refine Goes.st (B := T26.setTop (mkF m 193 #[iv x0, iv x1, iv x2, iv x3, iv (w0_2 x0 x1 x2 x3), iv (w0_9 x0 x1 x2 x3), iv (w0_16 x0 x1 x2 x3), iv (w0_23 x0 x1 x2 x3), rv b1, iv (j0_61_s0 x0 x1 x2 x3), rv b8, iv (w0_85 x0 x1 x2 x3), iv (0 : Int32), rv b19] [(.int (rD (0 : Int32) (0 : Int32) (w0_2 x0 x1 x2 x3)))])) st26 ?_
          by_cases hc193_27 : (rD (0 : Int32) (0 : Int32) (w0_2 x0 x1 x2 x3)) = (0 : Int32)
          · skip
            refine Goes.st (B := T26.setTop (mkF m 239 #[iv x0, iv x1, iv x2, iv x3, iv (w0_2 x0 x1 x2 x3), iv (w0_9 x0 x1 x2 x3), iv (w0_16 x0 x1 x2 x3), iv (w0_23 x0 x1 x2 x3), rv b1, iv (j0_61_s0 x0 x1 x2 x3), rv b8, iv (w0_85 x0 x1 x2 x3), iv (0 : Int32), rv b19] [])) (fun t k => ?_) ?_
            · refine XS.ifYes X26.here hx rfl (pc0 := 193) (pc' := 239) rfl (hb hby at_193) rfl ((if0 _ _).trans (teq hc193_27).1) (by decide) (by decide) ?_
              exact k
            refine Goes.run X26 hx hown hci hcl hby (L := [(239, .iconst 0, 1)]) (by decide +kernel) rfl (g' := (mkF m 240 #[iv x0, iv x1, iv x2, iv x3, iv (w0_2 x0 x1 x2 x3), iv (w0_9 x0 x1 x2 x3), iv (w0_16 x0 x1 x2 x3), iv (w0_23 x0 x1 x2 x3), rv b1, iv (j0_61_s0 x0 x1 x2 x3), rv b8, iv (w0_85 x0 x1 x2 x3), iv (0 : Int32), rv b19] [(.int (0 : Int32))])) rfl ?_
            exact Goes.retB X26 hx hlk (t := .boolean) Bd.returns (by simp) (hb hby at_240) rfl ⟨(congrArg (fun z => some (Value.int z)) (show (r0 x0 x1 x2 x3) = (0 : Int32) from (((if_pos hs136_17).trans (if_pos hc178_25)).trans (if_pos hc193_27))).symm), N26⟩ (by decide) (by decide)
          · skip
            refine Goes.st (B := T26.setTop (mkF m 196 #[iv x0, iv x1, iv x2, iv x3, iv (w0_2 x0 x1 x2 x3), iv (w0_9 x0 x1 x2 x3), iv (w0_16 x0 x1 x2 x3), iv (w0_23 x0 x1 x2 x3), rv b1, iv (j0_61_s0 x0 x1 x2 x3), rv b8, iv (w0_85 x0 x1 x2 x3), iv (0 : Int32), rv b19] [])) (fun t k => ?_) ?_
            · refine XS.ifNo X26.here hx rfl (hb hby at_193) rfl ((if0 _ _).trans (feq hc193_27).1) ?_
              exact k
            refine Goes.run X26 hx hown hci hcl hby (L := [(196, .aload 13, 2), (198, .iconst 1, 1), (199, .iload 12, 2), (201, .iload 5, 2)]) (by decide +kernel) rfl (g' := (mkF m 203 #[iv x0, iv x1, iv x2, iv x3, iv (w0_2 x0 x1 x2 x3), iv (w0_9 x0 x1 x2 x3), iv (w0_16 x0 x1 x2 x3), iv (w0_23 x0 x1 x2 x3), rv b1, iv (j0_61_s0 x0 x1 x2 x3), rv b8, iv (w0_85 x0 x1 x2 x3), iv (0 : Int32), rv b19] [(.int (w0_9 x0 x1 x2 x3)), (.int (0 : Int32)), (.int (1 : Int32)), (.ref b19)])) rfl ?_
            obtain ⟨_, _, ⟨T28, L28, k28, n28⟩, -, X28, ⟨Lc28, hQ28, l28, y28, z28⟩, st28⟩ := Jvm.LawKit.callS X26 hx (y := ym11) hown (mvT hZ w_65) (mvT hZ w_66) (mvT hZ w_67) (mvT hZ w_68) (by decide) (backOf (W := 0) (rmD l Z a0 hw [] b19 (1 : Int32) (0 : Int32) (w0_9 x0 x1 x2 x3) h19 n0 Zn19 (by decide)) hZ w_68 w_67 (by decide) (by decide)) (g := (mkF m 203 #[iv x0, iv x1, iv x2, iv x3, iv (w0_2 x0 x1 x2 x3), iv (w0_9 x0 x1 x2 x3), iv (w0_16 x0 x1 x2 x3), iv (w0_23 x0 x1 x2 x3), rv b1, iv (j0_61_s0 x0 x1 x2 x3), rv b8, iv (w0_85 x0 x1 x2 x3), iv (0 : Int32), rv b19] [(.int (w0_9 x0 x1 x2 x3)), (.int (0 : Int32)), (.int (1 : Int32)), (.ref b19)])) rfl (by rw [hml]; rfl) (argsL := [(.ref b19), (.int (1 : Int32)), (.int (0 : Int32)), (.int (w0_9 x0 x1 x2 x3))]) (rest := []) (lenOf pd0_6 rfl) rfl (by show 2 * 0 + _ ≤ _; exact Nat.le_of_eq rfl) (hb hby at_203) (fun _ _ => ⟨rfl, e26, (by decide : 4 + 0 ≤ _), (by decide : 263 + 0 ≤ _)⟩)
            dsimp only [Pt.U, Pt.locs, Pt.cells, Pt.slots] at X28 l28 y28 z28 st28 hQ28
            subst l28 y28 z28
            obtain ⟨rfl, N28q, e28⟩ := hQ28
            have N28 := Fr.app N26 N28q
            refine Goes.st (B := T28.setTop (mkF m 206 #[iv x0, iv x1, iv x2, iv x3, iv (w0_2 x0 x1 x2 x3), iv (w0_9 x0 x1 x2 x3), iv (w0_16 x0 x1 x2 x3), iv (w0_23 x0 x1 x2 x3), rv b1, iv (j0_61_s0 x0 x1 x2 x3), rv b8, iv (w0_85 x0 x1 x2 x3), iv (0 : Int32), rv b19] [(.int (rD (1 : Int32) (0 : Int32) (w0_9 x0 x1 x2 x3)))])) st28 ?_
            by_cases hc206_29 : (rD (1 : Int32) (0 : Int32) (w0_9 x0 x1 x2 x3)) = (0 : Int32)
            · skip
              refine Goes.st (B := T28.setTop (mkF m 239 #[iv x0, iv x1, iv x2, iv x3, iv (w0_2 x0 x1 x2 x3), iv (w0_9 x0 x1 x2 x3), iv (w0_16 x0 x1 x2 x3), iv (w0_23 x0 x1 x2 x3), rv b1, iv (j0_61_s0 x0 x1 x2 x3), rv b8, iv (w0_85 x0 x1 x2 x3), iv (0 : Int32), rv b19] [])) (fun t k => ?_) ?_
              · refine XS.ifYes X28.here hx rfl (pc0 := 206) (pc' := 239) rfl (hb hby at_206) rfl ((if0 _ _).trans (teq hc206_29).1) (by decide) (by decide) ?_
                exact k
              refine Goes.run X28 hx hown hci hcl hby (L := [(239, .iconst 0, 1)]) (by decide +kernel) rfl (g' := (mkF m 240 #[iv x0, iv x1, iv x2, iv x3, iv (w0_2 x0 x1 x2 x3), iv (w0_9 x0 x1 x2 x3), iv (w0_16 x0 x1 x2 x3), iv (w0_23 x0 x1 x2 x3), rv b1, iv (j0_61_s0 x0 x1 x2 x3), rv b8, iv (w0_85 x0 x1 x2 x3), iv (0 : Int32), rv b19] [(.int (0 : Int32))])) rfl ?_
              exact Goes.retB X28 hx hlk (t := .boolean) Bd.returns (by simp) (hb hby at_240) rfl ⟨(congrArg (fun z => some (Value.int z)) (show (r0 x0 x1 x2 x3) = (0 : Int32) from ((((if_pos hs136_17).trans (if_pos hc178_25)).trans (if_neg hc193_27)).trans (if_pos hc206_29))).symm), N28⟩ (by decide) (by decide)
            · skip
              refine Goes.st (B := T28.setTop (mkF m 209 #[iv x0, iv x1, iv x2, iv x3, iv (w0_2 x0 x1 x2 x3), iv (w0_9 x0 x1 x2 x3), iv (w0_16 x0 x1 x2 x3), iv (w0_23 x0 x1 x2 x3), rv b1, iv (j0_61_s0 x0 x1 x2 x3), rv b8, iv (w0_85 x0 x1 x2 x3), iv (0 : Int32), rv b19] [])) (fun t k => ?_) ?_
              · refine XS.ifNo X28.here hx rfl (hb hby at_206) rfl ((if0 _ _).trans (feq hc206_29).1) ?_
                exact k
              refine Goes.run X28 hx hown hci hcl hby (L := [(209, .aload 13, 2), (211, .iconst 2, 1), (212, .iload 12, 2), (214, .iload 6, 2)]) (by decide +kernel) rfl (g' := (mkF m 216 #[iv x0, iv x1, iv x2, iv x3, iv (w0_2 x0 x1 x2 x3), iv (w0_9 x0 x1 x2 x3), iv (w0_16 x0 x1 x2 x3), iv (w0_23 x0 x1 x2 x3), rv b1, iv (j0_61_s0 x0 x1 x2 x3), rv b8, iv (w0_85 x0 x1 x2 x3), iv (0 : Int32), rv b19] [(.int (w0_16 x0 x1 x2 x3)), (.int (0 : Int32)), (.int (2 : Int32)), (.ref b19)])) rfl ?_
              obtain ⟨_, _, ⟨T30, L30, k30, n30⟩, -, X30, ⟨Lc30, hQ30, l30, y30, z30⟩, st30⟩ := Jvm.LawKit.callS X28 hx (y := ym11) hown (mvT hZ w_65) (mvT hZ w_66) (mvT hZ w_67) (mvT hZ w_68) (by decide) (backOf (W := 0) (rmD l Z a0 hw [] b19 (2 : Int32) (0 : Int32) (w0_16 x0 x1 x2 x3) h19 n0 Zn19 (by decide)) hZ w_68 w_67 (by decide) (by decide)) (g := (mkF m 216 #[iv x0, iv x1, iv x2, iv x3, iv (w0_2 x0 x1 x2 x3), iv (w0_9 x0 x1 x2 x3), iv (w0_16 x0 x1 x2 x3), iv (w0_23 x0 x1 x2 x3), rv b1, iv (j0_61_s0 x0 x1 x2 x3), rv b8, iv (w0_85 x0 x1 x2 x3), iv (0 : Int32), rv b19] [(.int (w0_16 x0 x1 x2 x3)), (.int (0 : Int32)), (.int (2 : Int32)), (.ref b19)])) rfl (by rw [hml]; rfl) (argsL := [(.ref b19), (.int (2 : Int32)), (.int (0 : Int32)), (.int (w0_16 x0 x1 x2 x3))]) (rest := []) (lenOf pd0_6 rfl) rfl (by show 2 * 0 + _ ≤ _; exact Nat.le_of_eq rfl) (hb hby at_216) (fun _ _ => ⟨rfl, e28, (by decide : 4 + 0 ≤ _), (by decide : 263 + 0 ≤ _)⟩)
              dsimp only [Pt.U, Pt.locs, Pt.cells, Pt.slots] at X30 l30 y30 z30 st30 hQ30
              subst l30 y30 z30
              obtain ⟨rfl, N30q, e30⟩ := hQ30
              have N30 := Fr.app N28 N30q
              refine Goes.st (B := T30.setTop (mkF m 219 #[iv x0, iv x1, iv x2, iv x3, iv (w0_2 x0 x1 x2 x3), iv (w0_9 x0 x1 x2 x3), iv (w0_16 x0 x1 x2 x3), iv (w0_23 x0 x1 x2 x3), rv b1, iv (j0_61_s0 x0 x1 x2 x3), rv b8, iv (w0_85 x0 x1 x2 x3), iv (0 : Int32), rv b19] [(.int (rD (2 : Int32) (0 : Int32) (w0_16 x0 x1 x2 x3)))])) st30 ?_
              by_cases hc219_31 : (rD (2 : Int32) (0 : Int32) (w0_16 x0 x1 x2 x3)) = (0 : Int32)
              · skip
                refine Goes.st (B := T30.setTop (mkF m 239 #[iv x0, iv x1, iv x2, iv x3, iv (w0_2 x0 x1 x2 x3), iv (w0_9 x0 x1 x2 x3), iv (w0_16 x0 x1 x2 x3), iv (w0_23 x0 x1 x2 x3), rv b1, iv (j0_61_s0 x0 x1 x2 x3), rv b8, iv (w0_85 x0 x1 x2 x3), iv (0 : Int32), rv b19] [])) (fun t k => ?_) ?_
                · refine XS.ifYes X30.here hx rfl (pc0 := 219) (pc' := 239) rfl (hb hby at_219) rfl ((if0 _ _).trans (teq hc219_31).1) (by decide) (by decide) ?_
                  exact k
                refine Goes.run X30 hx hown hci hcl hby (L := [(239, .iconst 0, 1)]) (by decide +kernel) rfl (g' := (mkF m 240 #[iv x0, iv x1, iv x2, iv x3, iv (w0_2 x0 x1 x2 x3), iv (w0_9 x0 x1 x2 x3), iv (w0_16 x0 x1 x2 x3), iv (w0_23 x0 x1 x2 x3), rv b1, iv (j0_61_s0 x0 x1 x2 x3), rv b8, iv (w0_85 x0 x1 x2 x3), iv (0 : Int32), rv b19] [(.int (0 : Int32))])) rfl ?_
                exact Goes.retB X30 hx hlk (t := .boolean) Bd.returns (by simp) (hb hby at_240) rfl ⟨(congrArg (fun z => some (Value.int z)) (show (r0 x0 x1 x2 x3) = (0 : Int32) from (((((if_pos hs136_17).trans (if_pos hc178_25)).trans (if_neg hc193_27)).trans (if_neg hc206_29)).trans (if_pos hc219_31))).symm), N30⟩ (by decide) (by decide)
              · skip
                refine Goes.st (B := T30.setTop (mkF m 222 #[iv x0, iv x1, iv x2, iv x3, iv (w0_2 x0 x1 x2 x3), iv (w0_9 x0 x1 x2 x3), iv (w0_16 x0 x1 x2 x3), iv (w0_23 x0 x1 x2 x3), rv b1, iv (j0_61_s0 x0 x1 x2 x3), rv b8, iv (w0_85 x0 x1 x2 x3), iv (0 : Int32), rv b19] [])) (fun t k => ?_) ?_
                · refine XS.ifNo X30.here hx rfl (hb hby at_219) rfl ((if0 _ _).trans (feq hc219_31).1) ?_
                  exact k
                refine Goes.run X30 hx hown hci hcl hby (L := [(222, .aload 13, 2), (224, .iconst 3, 1), (225, .iload 12, 2), (227, .iload 7, 2)]) (by decide +kernel) rfl (g' := (mkF m 229 #[iv x0, iv x1, iv x2, iv x3, iv (w0_2 x0 x1 x2 x3), iv (w0_9 x0 x1 x2 x3), iv (w0_16 x0 x1 x2 x3), iv (w0_23 x0 x1 x2 x3), rv b1, iv (j0_61_s0 x0 x1 x2 x3), rv b8, iv (w0_85 x0 x1 x2 x3), iv (0 : Int32), rv b19] [(.int (w0_23 x0 x1 x2 x3)), (.int (0 : Int32)), (.int (3 : Int32)), (.ref b19)])) rfl ?_
                obtain ⟨_, _, ⟨T32, L32, k32, n32⟩, -, X32, ⟨Lc32, hQ32, l32, y32, z32⟩, st32⟩ := Jvm.LawKit.callS X30 hx (y := ym11) hown (mvT hZ w_65) (mvT hZ w_66) (mvT hZ w_67) (mvT hZ w_68) (by decide) (backOf (W := 0) (rmD l Z a0 hw [] b19 (3 : Int32) (0 : Int32) (w0_23 x0 x1 x2 x3) h19 n0 Zn19 (by decide)) hZ w_68 w_67 (by decide) (by decide)) (g := (mkF m 229 #[iv x0, iv x1, iv x2, iv x3, iv (w0_2 x0 x1 x2 x3), iv (w0_9 x0 x1 x2 x3), iv (w0_16 x0 x1 x2 x3), iv (w0_23 x0 x1 x2 x3), rv b1, iv (j0_61_s0 x0 x1 x2 x3), rv b8, iv (w0_85 x0 x1 x2 x3), iv (0 : Int32), rv b19] [(.int (w0_23 x0 x1 x2 x3)), (.int (0 : Int32)), (.int (3 : Int32)), (.ref b19)])) rfl (by rw [hml]; rfl) (argsL := [(.ref b19), (.int (3 : Int32)), (.int (0 : Int32)), (.int (w0_23 x0 x1 x2 x3))]) (rest := []) (lenOf pd0_6 rfl) rfl (by show 2 * 0 + _ ≤ _; exact Nat.le_of_eq rfl) (hb hby at_229) (fun _ _ => ⟨rfl, e30, (by decide : 4 + 0 ≤ _), (by decide : 263 + 0 ≤ _)⟩)
                dsimp only [Pt.U, Pt.locs, Pt.cells, Pt.slots] at X32 l32 y32 z32 st32 hQ32
                subst l32 y32 z32
                obtain ⟨rfl, N32q, e32⟩ := hQ32
                have N32 := Fr.app N30 N32q
                refine Goes.st (B := T32.setTop (mkF m 232 #[iv x0, iv x1, iv x2, iv x3, iv (w0_2 x0 x1 x2 x3), iv (w0_9 x0 x1 x2 x3), iv (w0_16 x0 x1 x2 x3), iv (w0_23 x0 x1 x2 x3), rv b1, iv (j0_61_s0 x0 x1 x2 x3), rv b8, iv (w0_85 x0 x1 x2 x3), iv (0 : Int32), rv b19] [(.int (rD (3 : Int32) (0 : Int32) (w0_23 x0 x1 x2 x3)))])) st32 ?_
                by_cases hc232_33 : (rD (3 : Int32) (0 : Int32) (w0_23 x0 x1 x2 x3)) = (0 : Int32)
                · skip
                  refine Goes.st (B := T32.setTop (mkF m 239 #[iv x0, iv x1, iv x2, iv x3, iv (w0_2 x0 x1 x2 x3), iv (w0_9 x0 x1 x2 x3), iv (w0_16 x0 x1 x2 x3), iv (w0_23 x0 x1 x2 x3), rv b1, iv (j0_61_s0 x0 x1 x2 x3), rv b8, iv (w0_85 x0 x1 x2 x3), iv (0 : Int32), rv b19] [])) (fun t k => ?_) ?_
                  · refine XS.ifYes X32.here hx rfl (pc0 := 232) (pc' := 239) rfl (hb hby at_232) rfl ((if0 _ _).trans (teq hc232_33).1) (by decide) (by decide) ?_
                    exact k
                  refine Goes.run X32 hx hown hci hcl hby (L := [(239, .iconst 0, 1)]) (by decide +kernel) rfl (g' := (mkF m 240 #[iv x0, iv x1, iv x2, iv x3, iv (w0_2 x0 x1 x2 x3), iv (w0_9 x0 x1 x2 x3), iv (w0_16 x0 x1 x2 x3), iv (w0_23 x0 x1 x2 x3), rv b1, iv (j0_61_s0 x0 x1 x2 x3), rv b8, iv (w0_85 x0 x1 x2 x3), iv (0 : Int32), rv b19] [(.int (0 : Int32))])) rfl ?_
                  exact Goes.retB X32 hx hlk (t := .boolean) Bd.returns (by simp) (hb hby at_240) rfl ⟨(congrArg (fun z => some (Value.int z)) (show (r0 x0 x1 x2 x3) = (0 : Int32) from ((((((if_pos hs136_17).trans (if_pos hc178_25)).trans (if_neg hc193_27)).trans (if_neg hc206_29)).trans (if_neg hc219_31)).trans (if_pos hc232_33))).symm), N32⟩ (by decide) (by decide)
                · skip
                  refine Goes.st (B := T32.setTop (mkF m 235 #[iv x0, iv x1, iv x2, iv x3, iv (w0_2 x0 x1 x2 x3), iv (w0_9 x0 x1 x2 x3), iv (w0_16 x0 x1 x2 x3), iv (w0_23 x0 x1 x2 x3), rv b1, iv (j0_61_s0 x0 x1 x2 x3), rv b8, iv (w0_85 x0 x1 x2 x3), iv (0 : Int32), rv b19] [])) (fun t k => ?_) ?_
                  · refine XS.ifNo X32.here hx rfl (hb hby at_232) rfl ((if0 _ _).trans (feq hc232_33).1) ?_
                    exact k
                  refine Goes.run X32 hx hown hci hcl hby (L := [(235, .iconst 1, 1), (236, .goto 4, 3)]) (by decide +kernel) rfl (g' := (mkF m 240 #[iv x0, iv x1, iv x2, iv x3, iv (w0_2 x0 x1 x2 x3), iv (w0_9 x0 x1 x2 x3), iv (w0_16 x0 x1 x2 x3), iv (w0_23 x0 x1 x2 x3), rv b1, iv (j0_61_s0 x0 x1 x2 x3), rv b8, iv (w0_85 x0 x1 x2 x3), iv (0 : Int32), rv b19] [(.int (1 : Int32))])) rfl ?_
                  exact Goes.retB X32 hx hlk (t := .boolean) Bd.returns (by simp) (hb hby at_240) rfl ⟨(congrArg (fun z => some (Value.int z)) (show (r0 x0 x1 x2 x3) = (1 : Int32) from ((((((if_pos hs136_17).trans (if_pos hc178_25)).trans (if_neg hc193_27)).trans (if_neg hc206_29)).trans (if_neg hc219_31)).trans (if_neg hc232_33))).symm), N32⟩ (by decide) (by decide)
        · skip
          refine Goes.st (B := T19.setTop (mkF m 181 #[iv x0, iv x1, iv x2, iv x3, iv (w0_2 x0 x1 x2 x3), iv (w0_9 x0 x1 x2 x3), iv (w0_16 x0 x1 x2 x3), iv (w0_23 x0 x1 x2 x3), rv b1, iv (j0_61_s0 x0 x1 x2 x3), rv b8, iv (w0_85 x0 x1 x2 x3), iv (0 : Int32), rv b19] [])) (fun t k => ?_) ?_
          · refine XS.icmpNo X19.here hx rfl (hb hby at_178) rfl (feq hc178_25).1 ?_
            exact k
          refine Goes.run X19 hx hown hci hcl hby (L := [(181, .iconst 0, 1)]) (by decide +kernel) rfl (g' := (mkF m 182 #[iv x0, iv x1, iv x2, iv x3, iv (w0_2 x0 x1 x2 x3), iv (w0_9 x0 x1 x2 x3), iv (w0_16 x0 x1 x2 x3), iv (w0_23 x0 x1 x2 x3), rv b1, iv (j0_61_s0 x0 x1 x2 x3), rv b8, iv (w0_85 x0 x1 x2 x3), iv (0 : Int32), rv b19] [(.int (0 : Int32))])) rfl ?_
          exact Goes.retB X19 hx hlk (t := .boolean) Bd.returns (by simp) (hb hby at_182) rfl ⟨(congrArg (fun z => some (Value.int z)) (show (r0 x0 x1 x2 x3) = (0 : Int32) from ((if_pos hs136_17).trans (if_neg hc178_25))).symm), N19⟩ (by decide) (by decide)
      by_cases hc169_23 : (j0_61_s0 x0 x1 x2 x3) = (0 : Int32)
      · skip
        refine Goes.st (B := T19.setTop (mkF m 176 #[iv x0, iv x1, iv x2, iv x3, iv (w0_2 x0 x1 x2 x3), iv (w0_9 x0 x1 x2 x3), iv (w0_16 x0 x1 x2 x3), iv (w0_23 x0 x1 x2 x3), rv b1, iv (j0_61_s0 x0 x1 x2 x3), rv b8, iv (w0_85 x0 x1 x2 x3), iv (0 : Int32), rv b19] [(.int (w90_30 (j0_61_s0 x0 x1 x2 x3) (w0_32 x0 x1 x2 x3) (w0_37 x0 x1 x2 x3) (w0_42 x0 x1 x2 x3) (w0_47 x0 x1 x2 x3) (0 : Int32) (0 : Int32) (0 : Int32) (0 : Int32)))])) (fun t k => ?_) ?_
        · refine XS.ifYes X19.here hx rfl (pc0 := 169) (pc' := 176) rfl (hb hby at_169) rfl ((if0 _ _).trans (teq hc169_23).1) (by decide) (by decide) ?_
          exact k
        refine Goes.run X19 hx hown hci hcl hby (L := [(176, .iconst 0, 1)]) (by decide +kernel) rfl (g' := (mkF m 177 #[iv x0, iv x1, iv x2, iv x3, iv (w0_2 x0 x1 x2 x3), iv (w0_9 x0 x1 x2 x3), iv (w0_16 x0 x1 x2 x3), iv (w0_23 x0 x1 x2 x3), rv b1, iv (j0_61_s0 x0 x1 x2 x3), rv b8, iv (w0_85 x0 x1 x2 x3), iv (0 : Int32), rv b19] [(.int (0 : Int32)), (.int (w90_30 (j0_61_s0 x0 x1 x2 x3) (w0_32 x0 x1 x2 x3) (w0_37 x0 x1 x2 x3) (w0_42 x0 x1 x2 x3) (w0_47 x0 x1 x2 x3) (0 : Int32) (0 : Int32) (0 : Int32) (0 : Int32)))])) rfl ?_
        have q := jn177_24
        rw [show (j0_177_s0 x0 x1 x2 x3) = (0 : Int32) from (if_pos hc169_23)] at q
        exact q
      · skip
        refine Goes.st (B := T19.setTop (mkF m 172 #[iv x0, iv x1, iv x2, iv x3, iv (w0_2 x0 x1 x2 x3), iv (w0_9 x0 x1 x2 x3), iv (w0_16 x0 x1 x2 x3), iv (w0_23 x0 x1 x2 x3), rv b1, iv (j0_61_s0 x0 x1 x2 x3), rv b8, iv (w0_85 x0 x1 x2 x3), iv (0 : Int32), rv b19] [(.int (w90_30 (j0_61_s0 x0 x1 x2 x3) (w0_32 x0 x1 x2 x3) (w0_37 x0 x1 x2 x3) (w0_42 x0 x1 x2 x3) (w0_47 x0 x1 x2 x3) (0 : Int32) (0 : Int32) (0 : Int32) (0 : Int32)))])) (fun t k => ?_) ?_
        · refine XS.ifNo X19.here hx rfl (hb hby at_169) rfl ((if0 _ _).trans (feq hc169_23).1) ?_
          exact k
        refine Goes.run X19 hx hown hci hcl hby (L := [(172, .iconst 1, 1), (173, .goto 4, 3)]) (by decide +kernel) rfl (g' := (mkF m 177 #[iv x0, iv x1, iv x2, iv x3, iv (w0_2 x0 x1 x2 x3), iv (w0_9 x0 x1 x2 x3), iv (w0_16 x0 x1 x2 x3), iv (w0_23 x0 x1 x2 x3), rv b1, iv (j0_61_s0 x0 x1 x2 x3), rv b8, iv (w0_85 x0 x1 x2 x3), iv (0 : Int32), rv b19] [(.int (1 : Int32)), (.int (w90_30 (j0_61_s0 x0 x1 x2 x3) (w0_32 x0 x1 x2 x3) (w0_37 x0 x1 x2 x3) (w0_42 x0 x1 x2 x3) (w0_47 x0 x1 x2 x3) (0 : Int32) (0 : Int32) (0 : Int32) (0 : Int32)))])) rfl ?_
        have q := jn177_24
        rw [show (j0_177_s0 x0 x1 x2 x3) = (1 : Int32) from (if_neg hc169_23)] at q
        exact q
    · skip
      by_cases hs136_34 : (w0_115 x0 x1 x2 x3) = (1 : Int32)
      · skip
        rw [hs136_34]
        rw [hs136_34] at F_size_b8
        refine Goes.run X15 hx hown hci hcl hby (L := [(136, .aload 10, 2), (138, .iload 9, 2)]) (by decide +kernel) rfl (g' := (mkF m 140 #[iv x0, iv x1, iv x2, iv x3, iv (w0_2 x0 x1 x2 x3), iv (w0_9 x0 x1 x2 x3), iv (w0_16 x0 x1 x2 x3), iv (w0_23 x0 x1 x2 x3), rv b1, iv (j0_61_s0 x0 x1 x2 x3), rv b8, iv (w0_85 x0 x1 x2 x3), iv (1 : Int32), .unset] [(.int (j0_61_s0 x0 x1 x2 x3)), (.ref b8)])) rfl ?_
        obtain ⟨cq35, kq35, q35a, q35b, q35c⟩ := isOf hZ e15 E_b8
        obtain ⟨_, _, ⟨T35, L35, k35, n35⟩, -, X35, ⟨Lc35, hQ35, l35, y35, z35⟩, st35⟩ := X15.virtualBack hx (y := ym8) (z := ym8) hown (mvT hZ w_46) (mvT hZ w_47) (notFace_of_selects (args := #[]) (mvT hZ w_49)) (mvT hZ w_49) (mvT hZ w_48) (by decide) (backOf (W := 0) (rm91 l Z a0 hw [] b8 (j0_61_s0 x0 x1 x2 x3) b9 kc9 (w0_32 x0 x1 x2 x3) (w0_37 x0 x1 x2 x3) (w0_42 x0 x1 x2 x3) (w0_47 x0 x1 x2 x3) (0 : Int32) (0 : Int32) (0 : Int32) (0 : Int32) h14 n0 Zn14 E_b8 F_buffer_b8 F_size_b8 E_b9 V_b9 g_b8 g_b9 ne_b8_b9) hZ w_50 w_3 (by decide) (by decide)) q35a q35c (g := (mkF m 140 #[iv x0, iv x1, iv x2, iv x3, iv (w0_2 x0 x1 x2 x3), iv (w0_9 x0 x1 x2 x3), iv (w0_16 x0 x1 x2 x3), iv (w0_23 x0 x1 x2 x3), rv b1, iv (j0_61_s0 x0 x1 x2 x3), rv b8, iv (w0_85 x0 x1 x2 x3), iv (1 : Int32), .unset] [(.int (j0_61_s0 x0 x1 x2 x3)), (.ref b8)])) rfl (by rw [hml]; rfl) (Steps.refl _) (argsL := [(.int (j0_61_s0 x0 x1 x2 x3))]) (rest := []) (lenOf pd0_4 rfl) rfl (by show 2 * 0 + _ ≤ _; exact Nat.le_of_eq rfl) (hb hby at_140) (fun _ _ => ⟨rfl, e15, (by decide : 3 + 0 ≤ _), (by decide : 262 + 0 ≤ _)⟩)
        dsimp only [Pt.U, Pt.locs, Pt.cells, Pt.slots] at X35 l35 y35 z35 st35 hQ35
        subst l35 y35 z35
        obtain ⟨h35, eh35⟩ : ∃ z, z = T35.heap := ⟨_, rfl⟩
        rw [← eh35] at hQ35
        have e35 : T35.heap = h35 := eh35.symm
        obtain ⟨rfl, N35q, Kq35, o35_0, o35_1, o35_2, o35_3, o35_4⟩ := hQ35
        have N35 := Fr.app N15 N35q
        have E_b1 := E_b1.keep Kq35
        have V_b1 := V_b1.keep Kq35 (ninS ne_b1_b8 (ninS ne_b1_b9 nin0))
        have E_b8 : Exa Z h35 b8 "com/example/upcaster/upcaster/io/BinaryEncoder" := o35_0
        have F_buffer_b8 : Fld Z h35 b8 "com/example/upcaster/upcaster/io/BinaryEncoder" "buffer" "[B" (.ref b9) := o35_1
        have F_size_b8 : Fld Z h35 b8 "com/example/upcaster/upcaster/io/BinaryEncoder" "size" "I" (.int (2 : Int32)) := o35_2
        have E_b9 : Exa Z h35 b9 "[B" := o35_3
        have V_b9 : Arv Z h35 b9 kc9 .byte (256 : Int32) [(.int (w0_32 x0 x1 x2 x3)), (.int (w91_30 (j0_61_s0 x0 x1 x2 x3) (w0_32 x0 x1 x2 x3) (w0_37 x0 x1 x2 x3) (w0_42 x0 x1 x2 x3) (w0_47 x0 x1 x2 x3) (0 : Int32) (0 : Int32) (0 : Int32) (0 : Int32))), (.int (w0_42 x0 x1 x2 x3)), (.int (w0_47 x0 x1 x2 x3)), (.int (0 : Int32)), (.int (0 : Int32)), (.int (0 : Int32)), (.int (0 : Int32))] (.int (0 : Int32)) := o35_4
        have Zn35 : n0 ≤ h35.size := Nat.le_trans Zn14 Kq35.1
        refine Goes.st (B := T35.setTop (mkF m 143 #[iv x0, iv x1, iv x2, iv x3, iv (w0_2 x0 x1 x2 x3), iv (w0_9 x0 x1 x2 x3), iv (w0_16 x0 x1 x2 x3), iv (w0_23 x0 x1 x2 x3), rv b1, iv (j0_61_s0 x0 x1 x2 x3), rv b8, iv (w0_85 x0 x1 x2 x3), iv (1 : Int32), .unset] [])) (fun t k => st35.trans k) ?_
        refine Goes.run X35 hx hown hci hcl hby (L := [(143, .aload 10, 2)]) (by decide +kernel) rfl (g' := (mkF m 145 #[iv x0, iv x1, iv x2, iv x3, iv (w0_2 x0 x1 x2 x3), iv (w0_9 x0 x1 x2 x3), iv (w0_16 x0 x1 x2 x3), iv (w0_23 x0 x1 x2 x3), rv b1, iv (j0_61_s0 x0 x1 x2 x3), rv b8, iv (w0_85 x0 x1 x2 x3), iv (1 : Int32), .unset] [(.ref b8)])) rfl ?_
        obtain ⟨cq36, kq36, q36a, q36b, q36c⟩ := isOf hZ e35 E_b8
        obtain ⟨_, _, ⟨T36, L36, k36, n36⟩, -, X36, ⟨Lc36, hQ36, l36, y36, z36⟩, st36⟩ := X35.virtualBack hx (y := ym10) (z := ym10) hown (mvT hZ w_51) (mvT hZ w_52) (notFace_of_selects (args := #[]) (mvT hZ w_54)) (mvT hZ w_54) (mvT hZ w_53) (by decide) (backOf (W := 0) (rmB1 l Z a0 hw [] b8 b9 kc9 (w0_32 x0 x1 x2 x3) (w91_30 (j0_61_s0 x0 x1 x2 x3) (w0_32 x0 x1 x2 x3) (w0_37 x0 x1 x2 x3) (w0_42 x0 x1 x2 x3) (w0_47 x0 x1 x2 x3) (0 : Int32) (0 : Int32) (0 : Int32) (0 : Int32)) (w0_42 x0 x1 x2 x3) (w0_47 x0 x1 x2 x3) (0 : Int32) (0 : Int32) (0 : Int32) (0 : Int32) h35 n0 Zn35 F_buffer_b8 F_size_b8 V_b9) hZ w_55 w_3 (by decide) (by decide)) q36a q36c (g := (mkF m 145 #[iv x0, iv x1, iv x2, iv x3, iv (w0_2 x0 x1 x2 x3), iv (w0_9 x0 x1 x2 x3), iv (w0_16 x0 x1 x2 x3), iv (w0_23 x0 x1 x2 x3), rv b1, iv (j0_61_s0 x0 x1 x2 x3), rv b8, iv (w0_85 x0 x1 x2 x3), iv (1 : Int32), .unset] [(.ref b8)])) rfl (by rw [hml]; rfl) (Steps.refl _) (argsL := []) (rest := []) (lenOf pd0_5 rfl) rfl (by show 2 * 0 + _ ≤ _; exact Nat.le_of_eq rfl) (hb hby at_145) (fun _ _ => ⟨rfl, e35, (by decide : 3 + 1 ≤ _), (by decide : 262 + 2 ≤ _)⟩)
        dsimp only [Pt.U, Pt.locs, Pt.cells, Pt.slots] at X36 l36 y36 z36 st36 hQ36
        subst l36 y36 z36
        obtain ⟨h36, eh36⟩ : ∃ z, z = T36.heap := ⟨_, rfl⟩
        rw [← eh36] at hQ36
        have e36 : T36.heap = h36 := eh36.symm
        obtain ⟨b36, kc36, rfl, N36q, Kq36, szq36, o36_0, o36_1⟩ := hQ36
        have ne_b1_b36 : b1 ≠ b36 := Nat.ne_of_lt (Nat.lt_of_lt_of_le E_b1.lt szq36)
        have ne_b8_b36 : b8 ≠ b36 := Nat.ne_of_lt (Nat.lt_of_lt_of_le E_b8.lt szq36)
        have ne_b9_b36 : b9 ≠ b36 := Nat.ne_of_lt (Nat.lt_of_lt_of_le E_b9.lt szq36)
        have g_b36 : n0 ≤ b36 := Nat.le_trans Zn35 szq36
        have N36 := Fr.app N35 N36q
        have E_b1 := E_b1.keep Kq36
        have V_b1 := V_b1.keep Kq36 nin0
        have E_b8 := E_b8.keep Kq36
        have F_buffer_b8 := F_buffer_b8.keep Kq36 nin0
        have F_size_b8 := F_size_b8.keep Kq36 nin0
        have E_b9 := E_b9.keep Kq36
        have V_b9 := V_b9.keep Kq36 nin0
        have E_b36 : Exa Z h36 b36 "[B" := o36_0
        have V_b36 : Arv Z h36 b36 kc36 .byte (2 : Int32) [(.int (w0_32 x0 x1 x2 x3)), (.int (w91_30 (j0_61_s0 x0 x1 x2 x3) (w0_32 x0 x1 x2 x3) (w0_37 x0 x1 x2 x3) (w0_42 x0 x1 x2 x3) (w0_47 x0 x1 x2 x3) (0 : Int32) (0 : Int32) (0 : Int32) (0 : Int32)))] (.int (0 : Int32)) := o36_1
        have Zn36 : n0 ≤ h36.size := Nat.le_trans Zn35 Kq36.1
        refine Goes.st (B := T36.setTop (mkF m 148 #[iv x0, iv x1, iv x2, iv x3, iv (w0_2 x0 x1 x2 x3), iv (w0_9 x0 x1 x2 x3), iv (w0_16 x0 x1 x2 x3), iv (w0_23 x0 x1 x2 x3), rv b1, iv (j0_61_s0 x0 x1 x2 x3), rv b8, iv (w0_85 x0 x1 x2 x3), iv (1 : Int32), .unset] [(.ref b36)])) (fun t k => st36.trans k) ?_
        refine Goes.run X36 hx hown hci hcl hby (L := [(148, .astore 13, 2), (150, .aload 13, 2)]) (by decide +kernel) rfl (g' := (mkF m 152 #[iv x0, iv x1, iv x2, iv x3, iv (w0_2 x0 x1 x2 x3), iv (w0_9 x0 x1 x2 x3), iv (w0_16 x0 x1 x2 x3), iv (w0_23 x0 x1 x2 x3), rv b1, iv (j0_61_s0 x0 x1 x2 x3), rv b8, iv (w0_85 x0 x1 x2 x3), iv (1 : Int32), rv b36] [(.ref b36)])) rfl ?_
        obtain ⟨cl37, Ar37, q37, S37, M37, Hs37, G37⟩ := id V_b36
        refine Goes.st (B := T36.setTop (mkF m 153 #[iv x0, iv x1, iv x2, iv x3, iv (w0_2 x0 x1 x2 x3), iv (w0_9 x0 x1 x2 x3), iv (w0_16 x0 x1 x2 x3), iv (w0_23 x0 x1 x2 x3), rv b1, iv (j0_61_s0 x0 x1 x2 x3), rv b8, iv (w0_85 x0 x1 x2 x3), iv (1 : Int32), rv b36] [(.int (2 : Int32))])) (fun t k => ?_) ?_
        · refine X36.arraylength hx (cell := cl37) (by rw [e36]; exact Ar37.1) (State.isArrayOf_alike hZ.alike Ar37.2.1) (g := (mkF m 152 #[iv x0, iv x1, iv x2, iv x3, iv (w0_2 x0 x1 x2 x3), iv (w0_9 x0 x1 x2 x3), iv (w0_16 x0 x1 x2 x3), iv (w0_23 x0 x1 x2 x3), rv b1, iv (j0_61_s0 x0 x1 x2 x3), rv b8, iv (w0_85 x0 x1 x2 x3), iv (1 : Int32), rv b36] [(.ref b36)])) rfl (rest := []) rfl (hb hby at_152) _ ?_
          rw [len_of S37 M37]
          exact k
        refine Goes.run X36 hx hown hci hcl hby (L := [(153, .iload 12, 2), (155, .iconst 1, 1), (156, .iadd, 1)]) (by decide +kernel) rfl (g' := (mkF m 157 #[iv x0, iv x1, iv x2, iv x3, iv (w0_2 x0 x1 x2 x3), iv (w0_9 x0 x1 x2 x3), iv (w0_16 x0 x1 x2 x3), iv (w0_23 x0 x1 x2 x3), rv b1, iv (j0_61_s0 x0 x1 x2 x3), rv b8, iv (w0_85 x0 x1 x2 x3), iv (1 : Int32), rv b36] [(.int (2 : Int32)), (.int (2 : Int32))])) rfl ?_
        have hc157_38 : (2 : Int32) = (2 : Int32) := rfl
        refine Goes.st (B := T36.setTop (mkF m 162 #[iv x0, iv x1, iv x2, iv x3, iv (w0_2 x0 x1 x2 x3), iv (w0_9 x0 x1 x2 x3), iv (w0_16 x0 x1 x2 x3), iv (w0_23 x0 x1 x2 x3), rv b1, iv (j0_61_s0 x0 x1 x2 x3), rv b8, iv (w0_85 x0 x1 x2 x3), iv (1 : Int32), rv b36] [])) (fun t k => ?_) ?_
        · refine XS.icmpYes X36.here hx rfl (pc0 := 157) (pc' := 162) rfl (hb hby at_157) rfl (teq hc157_38).1 (by decide) (by decide) ?_
          exact k
        refine Goes.run X36 hx hown hci hcl hby (L := [(162, .aload 13, 2), (164, .iload 12, 2)]) (by decide +kernel) rfl (g' := (mkF m 166 #[iv x0, iv x1, iv x2, iv x3, iv (w0_2 x0 x1 x2 x3), iv (w0_9 x0 x1 x2 x3), iv (w0_16 x0 x1 x2 x3), iv (w0_23 x0 x1 x2 x3), rv b1, iv (j0_61_s0 x0 x1 x2 x3), rv b8, iv (w0_85 x0 x1 x2 x3), iv (1 : Int32), rv b36] [(.int (1 : Int32)), (.ref b36)])) rfl ?_
        obtain ⟨cl39, Ar39, q39, S39, M39, Hs39, G39⟩ := id V_b36
        have hin39 : ¬ ((1 : Int32) < 0 ∨ cl39.slots.size ≤ ((1 : Int32)).toNatClampNeg) := inb_of S39 ⟨(by decide), (by decide)⟩
        have hat39 : cl39.slots[((1 : Int32)).toNatClampNeg]? = some (.int (w91_30 (j0_61_s0 x0 x1 x2 x3) (w0_32 x0 x1 x2 x3) (w0_37 x0 x1 x2 x3) (w0_42 x0 x1 x2 x3) (w0_47 x0 x1 x2 x3) (0 : Int32) (0 : Int32) (0 : Int32) (0 : Int32))) := Hs39.at hin39 rfl
        refine Goes.st (B := T36.setTop (mkF m 167 #[iv x0, iv x1, iv x2, iv x3, iv (w0_2 x0 x1 x2 x3), iv (w0_9 x0 x1 x2 x3), iv (w0_16 x0 x1 x2 x3), iv (w0_23 x0 x1 x2 x3), rv b1, iv (j0_61_s0 x0 x1 x2 x3), rv b8, iv (w0_85 x0 x1 x2 x3), iv (1 : Int32), rv b36] [(.int (w91_30 (j0_61_s0 x0 x1 x2 x3) (w0_32 x0 x1 x2 x3) (w0_37 x0 x1 x2 x3) (w0_42 x0 x1 x2 x3) (w0_47 x0 x1 x2 x3) (0 : Int32) (0 : Int32) (0 : Int32) (0 : Int32)))])) (X36.baloadBytes hx (j := (1 : Int32)) (v := (.int (w91_30 (j0_61_s0 x0 x1 x2 x3) (w0_32 x0 x1 x2 x3) (w0_37 x0 x1 x2 x3) (w0_42 x0 x1 x2 x3) (w0_47 x0 x1 x2 x3) (0 : Int32) (0 : Int32) (0 : Int32) (0 : Int32)))) (by rw [e36]; exact Ar39.1) (State.isArrayOf_alike hZ.alike Ar39.2.1) Ar39.2.2 hin39 hat39 (g := (mkF m 166 #[iv x0, iv x1, iv x2, iv x3, iv (w0_2 x0 x1 x2 x3), iv (w0_9 x0 x1 x2 x3), iv (w0_16 x0 x1 x2 x3), iv (w0_23 x0 x1 x2 x3), rv b1, iv (j0_61_s0 x0 x1 x2 x3), rv b8, iv (w0_85 x0 x1 x2 x3), iv (1 : Int32), rv b36] [(.int (1 : Int32)), (.ref b36)])) rfl rfl (hb hby at_166)) ?_
        refine Goes.run X36 hx hown hci hcl hby (L := [(167, .iload 9, 2)]) (by decide +kernel) rfl (g' := (mkF m 169 #[iv x0, iv x1, iv x2, iv x3, iv (w0_2 x0 x1 x2 x3), iv (w0_9 x0 x1 x2 x3), iv (w0_16 x0 x1 x2 x3), iv (w0_23 x0 x1 x2 x3), rv b1, iv (j0_61_s0 x0 x1 x2 x3), rv b8, iv (w0_85 x0 x1 x2 x3), iv (1 : Int32), rv b36] [(.int (j0_61_s0 x0 x1 x2 x3)), (.int (w91_30 (j0_61_s0 x0 x1 x2 x3) (w0_32 x0 x1 x2 x3) (w0_37 x0 x1 x2 x3) (w0_42 x0 x1 x2 x3) (w0_47 x0 x1 x2 x3) (0 : Int32) (0 : Int32) (0 : Int32) (0 : Int32)))])) rfl ?_
        have jn177_41 : Goes p e below s (QL (some (.int (r0 x0 x1 x2 x3))) n0) room_1.cells room_1.slots (T36.setTop (mkF m 177 #[iv x0, iv x1, iv x2, iv x3, iv (w0_2 x0 x1 x2 x3), iv (w0_9 x0 x1 x2 x3), iv (w0_16 x0 x1 x2 x3), iv (w0_23 x0 x1 x2 x3), rv b1, iv (j0_61_s0 x0 x1 x2 x3), rv b8, iv (w0_85 x0 x1 x2 x3), iv (1 : Int32), rv b36] [(.int (j0_177_s0 x0 x1 x2 x3)), (.int (w91_30 (j0_61_s0 x0 x1 x2 x3) (w0_32 x0 x1 x2 x3) (w0_37 x0 x1 x2 x3) (w0_42 x0 x1 x2 x3) (w0_47 x0 x1 x2 x3) (0 : Int32) (0 : Int32) (0 : Int32) (0 : Int32)))])) := by
          refine Goes.run X36 hx hown hci hcl hby (L := [(177, .i2b, 1)]) (by decide +kernel) rfl (g' := (mkF m 178 #[iv x0, iv x1, iv x2, iv x3, iv (w0_2 x0 x1 x2 x3), iv (w0_9 x0 x1 x2 x3), iv (w0_16 x0 x1 x2 x3), iv (w0_23 x0 x1 x2 x3), rv b1, iv (j0_61_s0 x0 x1 x2 x3), rv b8, iv (w0_85 x0 x1 x2 x3), iv (1 : Int32), rv b36] [(.int ((j0_177_s0 x0 x1 x2 x3).toInt8.toInt32)), (.int (w91_30 (j0_61_s0 x0 x1 x2 x3) (w0_32 x0 x1 x2 x3) (w0_37 x0 x1 x2 x3) (w0_42 x0 x1 x2 x3) (w0_47 x0 x1 x2 x3) (0 : Int32) (0 : Int32) (0 : Int32) (0 : Int32)))])) rfl ?_
          by_cases hc178_42 : (w91_30 (j0_61_s0 x0 x1 x2 x3) (w0_32 x0 x1 x2 x3) (w0_37 x0 x1 x2 x3) (w0_42 x0 x1 x2 x3) (w0_47 x0 x1 x2 x3) (0 : Int32) (0 : Int32) (0 : Int32) (0 : Int32)) = ((j0_177_s0 x0 x1 x2 x3).toInt8.toInt32)
          · skip
            refine Goes.st (B := T36.setTop (mkF m 183 #[iv x0, iv x1, iv x2, iv x3, iv (w0_2 x0 x1 x2 x3), iv (w0_9 x0 x1 x2 x3), iv (w0_16 x0 x1 x2 x3), iv (w0_23 x0 x1 x2 x3), rv b1, iv (j0_61_s0 x0 x1 x2 x3), rv b8, iv (w0_85 x0 x1 x2 x3), iv (1 : Int32), rv b36] [])) (fun t k => ?_) ?_
            · refine XS.icmpYes X36.here hx rfl (pc0 := 178) (pc' := 183) rfl (hb hby at_178) rfl (teq hc178_42).1 (by decide) (by decide) ?_
              exact k
            refine Goes.run X36 hx hown hci hcl hby (L := [(183, .aload 13, 2), (185, .iconst 0, 1), (186, .iload 12, 2), (188, .iload 4, 2)]) (by decide +kernel) rfl (g' := (mkF m 190 #[iv x0, iv x1, iv x2, iv x3, iv (w0_2 x0 x1 x2 x3), iv (w0_9 x0 x1 x2 x3), iv (w0_16 x0 x1 x2 x3), iv (w0_23 x0 x1 x2 x3), rv b1, iv (j0_61_s0 x0 x1 x2 x3), rv b8, iv (w0_85 x0 x1 x2 x3), iv (1 : Int32), rv b36] [(.int (w0_2 x0 x1 x2 x3)), (.int (1 : Int32)), (.int (0 : Int32)), (.ref b36)])) rfl ?_
            obtain ⟨_, _, ⟨T43, L43, k43, n43⟩, -, X43, ⟨Lc43, hQ43, l43, y43, z43⟩, st43⟩ := Jvm.LawKit.callS X36 hx (y := ym11) hown (mvT hZ w_65) (mvT hZ w_66) (mvT hZ w_67) (mvT hZ w_68) (by decide) (backOf (W := 0) (rmC l Z a0 hw [] b36 (0 : Int32) (1 : Int32) (w0_2 x0 x1 x2 x3) kc36 (2 : Int32) [(.int (w0_32 x0 x1 x2 x3)), (.int (w91_30 (j0_61_s0 x0 x1 x2 x3) (w0_32 x0 x1 x2 x3) (w0_37 x0 x1 x2 x3) (w0_42 x0 x1 x2 x3) (w0_47 x0 x1 x2 x3) (0 : Int32) (0 : Int32) (0 : Int32) (0 : Int32)))] (w0_32 x0 x1 x2 x3) h36 n0 Zn36 V_b36 (by decide) (by decide) rfl) hZ w_68 w_67 (by decide) (by decide)) (g := (mkF m 190 #[iv x0, iv x1, iv x2, iv x3, iv (w0_2 x0 x1 x2 x3), iv (w0_9 x0 x1 x2 x3), iv (w0_16 x0 x1 x2 x3), iv (w0_23 x0 x1 x2 x3), rv b1, iv (j0_61_s0 x0 x1 x2 x3), rv b8, iv (w0_85 x0 x1 x2 x3), iv (1 : Int32), rv b36] [(.int (w0_2 x0 x1 x2 x3)), (.int (1 : Int32)), (.int (0 : Int32)), (.ref b36)])) rfl (by rw [hml]; rfl) (argsL := [(.ref b36), (.int (0 : Int32)), (.int (1 : Int32)), (.int (w0_2 x0 x1 x2 x3))]) (rest := []) (lenOf pd0_6 rfl) rfl (by show 2 * 0 + _ ≤ _; exact Nat.le_of_eq rfl) (hb hby at_190) (fun _ _ => ⟨rfl, e36, (by decide : 4 + 0 ≤ _), (by decide : 264 + 0 ≤ _)⟩)
            dsimp only [Pt.U, Pt.locs, Pt.cells, Pt.slots] at X43 l43 y43 z43 st43 hQ43
            subst l43 y43 z43
            obtain ⟨rfl, N43q, e43⟩ := hQ43
            have N43 := Fr.app N36 N43q
            refine Goes.st (B := T43.setTop (mkF m 193 #[iv x0, iv x1, iv x2, iv x3, iv (w0_2 x0 x1 x2 x3), iv (w0_9 x0 x1 x2 x3), iv (w0_16 x0 x1 x2 x3), iv (w0_23 x0 x1 x2 x3), rv b1, iv (j0_61_s0 x0 x1 x2 x3), rv b8, iv (w0_85 x0 x1 x2 x3), iv (1 : Int32), rv b36] [(.int (rC (0 : Int32) (1 : Int32) (w0_2 x0 x1 x2 x3) (2 : Int32) (w0_32 x0 x1 x2 x3)))])) st43 ?_
            by_cases hc193_44 : (rC (0 : Int32) (1 : Int32) (w0_2 x0 x1 x2 x3) (2 : Int32) (w0_32 x0 x1 x2 x3)) = (0 : Int32)
            · skip
              refine Goes.st (B := T43.setTop (mkF m 239 #[iv x0, iv x1, iv x2, iv x3, iv (w0_2 x0 x1 x2 x3), iv (w0_9 x0 x1 x2 x3), iv (w0_16 x0 x1 x2 x3), iv (w0_23 x0 x1 x2 x3), rv b1, iv (j0_61_s0 x0 x1 x2 x3), rv b8, iv (w0_85 x0 x1 x2 x3), iv (1 : Int32), rv b36] [])) (fun t k => ?_) ?_
              · refine XS.ifYes X43.here hx rfl (pc0 := 193) (pc' := 239) rfl (hb hby at_193) rfl ((if0 _ _).trans (teq hc193_44).1) (by decide) (by decide) ?_
                exact k
              refine Goes.run X43 hx hown hci hcl hby (L := [(239, .iconst 0, 1)]) (by decide +kernel) rfl (g' := (mkF m 240 #[iv x0, iv x1, iv x2, iv x3, iv (w0_2 x0 x1 x2 x3), iv (w0_9 x0 x1 x2 x3), iv (w0_16 x0 x1 x2 x3), iv (w0_23 x0 x1 x2 x3), rv b1, iv (j0_61_s0 x0 x1 x2 x3), rv b8, iv (w0_85 x0 x1 x2 x3), iv (1 : Int32), rv b36] [(.int (0 : Int32))])) rfl ?_
              exact Goes.retB X43 hx hlk (t := .boolean) Bd.returns (by simp) (hb hby at_240) rfl ⟨(congrArg (fun z => some (Value.int z)) (show (r0 x0 x1 x2 x3) = (0 : Int32) from ((((if_neg hs136_17).trans (if_pos hs136_34)).trans (if_pos hc178_42)).trans (if_pos hc193_44))).symm), N43⟩ (by decide) (by decide)
            · skip
              refine Goes.st (B := T43.setTop (mkF m 196 #[iv x0, iv x1, iv x2, iv x3, iv (w0_2 x0 x1 x2 x3), iv (w0_9 x0 x1 x2 x3), iv (w0_16 x0 x1 x2 x3), iv (w0_23 x0 x1 x2 x3), rv b1, iv (j0_61_s0 x0 x1 x2 x3), rv b8, iv (w0_85 x0 x1 x2 x3), iv (1 : Int32), rv b36] [])) (fun t k => ?_) ?_
              · refine XS.ifNo X43.here hx rfl (hb hby at_193) rfl ((if0 _ _).trans (feq hc193_44).1) ?_
                exact k
              refine Goes.run X43 hx hown hci hcl hby (L := [(196, .aload 13, 2), (198, .iconst 1, 1), (199, .iload 12, 2), (201, .iload 5, 2)]) (by decide +kernel) rfl (g' := (mkF m 203 #[iv x0, iv x1, iv x2, iv x3, iv (w0_2 x0 x1 x2 x3), iv (w0_9 x0 x1 x2 x3), iv (w0_16 x0 x1 x2 x3), iv (w0_23 x0 x1 x2 x3), rv b1, iv (j0_61_s0 x0 x1 x2 x3), rv b8, iv (w0_85 x0 x1 x2 x3), iv (1 : Int32), rv b36] [(.int (w0_9 x0 x1 x2 x3)), (.int (1 : Int32)), (.int (1 : Int32)), (.ref b36)])) rfl ?_
              obtain ⟨_, _, ⟨T45, L45, k45, n45⟩, -, X45, ⟨Lc45, hQ45, l45, y45, z45⟩, st45⟩ := Jvm.LawKit.callS X43 hx (y := ym11) hown (mvT hZ w_65) (mvT hZ w_66) (mvT hZ w_67) (mvT hZ w_68) (by decide) (backOf (W := 0) (rmD l Z a0 hw [] b36 (1 : Int32) (1 : Int32) (w0_9 x0 x1 x2 x3) h36 n0 Zn36 (by decide)) hZ w_68 w_67 (by decide) (by decide)) (g := (mkF m 203 #[iv x0, iv x1, iv x2, iv x3, iv (w0_2 x0 x1 x2 x3), iv (w0_9 x0 x1 x2 x3), iv (w0_16 x0 x1 x2 x3), iv (w0_23 x0 x1 x2 x3), rv b1, iv (j0_61_s0 x0 x1 x2 x3), rv b8, iv (w0_85 x0 x1 x2 x3), iv (1 : Int32), rv b36] [(.int (w0_9 x0 x1 x2 x3)), (.int (1 : Int32)), (.int (1 : Int32)), (.ref b36)])) rfl (by rw [hml]; rfl) (argsL := [(.ref b36), (.int (1 : Int32)), (.int (1 : Int32)), (.int (w0_9 x0 x1 x2 x3))]) (rest := []) (lenOf pd0_6 rfl) rfl (by show 2 * 0 + _ ≤ _; exact Nat.le_of_eq rfl) (hb hby at_203) (fun _ _ => ⟨rfl, e43, (by decide : 4 + 0 ≤ _), (by decide : 264 + 0 ≤ _)⟩)
              dsimp only [Pt.U, Pt.locs, Pt.cells, Pt.slots] at X45 l45 y45 z45 st45 hQ45
              subst l45 y45 z45
              obtain ⟨rfl, N45q, e45⟩ := hQ45
              have N45 := Fr.app N43 N45q
              refine Goes.st (B := T45.setTop (mkF m 206 #[iv x0, iv x1, iv x2, iv x3, iv (w0_2 x0 x1 x2 x3), iv (w0_9 x0 x1 x2 x3), iv (w0_16 x0 x1 x2 x3), iv (w0_23 x0 x1 x2 x3), rv b1, iv (j0_61_s0 x0 x1 x2 x3), rv b8, iv (w0_85 x0 x1 x2 x3), iv (1 : Int32), rv b36] [(.int (rD (1 : Int32) (1 : Int32) (w0_9 x0 x1 x2 x3)))])) st45 ?_
              by_cases hc206_46 : (rD (1 : Int32) (1 : Int32) (w0_9 x0 x1 x2 x3)) = (0 : Int32)
              · skip
                refine Goes.st (B := T45.setTop (mkF m 239 #[iv x0, iv x1, iv x2, iv x3, iv (w0_2 x0 x1 x2 x3), iv (w0_9 x0 x1 x2 x3), iv (w0_16 x0 x1 x2 x3), iv (w0_23 x0 x1 x2 x3), rv b1, iv (j0_61_s0 x0 x1 x2 x3), rv b8, iv (w0_85 x0 x1 x2 x3), iv (1 : Int32), rv b36] [])) (fun t k => ?_) ?_
                · refine XS.ifYes X45.here hx rfl (pc0 := 206) (pc' := 239) rfl (hb hby at_206) rfl ((if0 _ _).trans (teq hc206_46).1) (by decide) (by decide) ?_
                  exact k
                refine Goes.run X45 hx hown hci hcl hby (L := [(239, .iconst 0, 1)]) (by decide +kernel) rfl (g' := (mkF m 240 #[iv x0, iv x1, iv x2, iv x3, iv (w0_2 x0 x1 x2 x3), iv (w0_9 x0 x1 x2 x3), iv (w0_16 x0 x1 x2 x3), iv (w0_23 x0 x1 x2 x3), rv b1, iv (j0_61_s0 x0 x1 x2 x3), rv b8, iv (w0_85 x0 x1 x2 x3), iv (1 : Int32), rv b36] [(.int (0 : Int32))])) rfl ?_
                exact Goes.retB X45 hx hlk (t := .boolean) Bd.returns (by simp) (hb hby at_240) rfl ⟨(congrArg (fun z => some (Value.int z)) (show (r0 x0 x1 x2 x3) = (0 : Int32) from (((((if_neg hs136_17).trans (if_pos hs136_34)).trans (if_pos hc178_42)).trans (if_neg hc193_44)).trans (if_pos hc206_46))).symm), N45⟩ (by decide) (by decide)
              · skip
                refine Goes.st (B := T45.setTop (mkF m 209 #[iv x0, iv x1, iv x2, iv x3, iv (w0_2 x0 x1 x2 x3), iv (w0_9 x0 x1 x2 x3), iv (w0_16 x0 x1 x2 x3), iv (w0_23 x0 x1 x2 x3), rv b1, iv (j0_61_s0 x0 x1 x2 x3), rv b8, iv (w0_85 x0 x1 x2 x3), iv (1 : Int32), rv b36] [])) (fun t k => ?_) ?_
                · refine XS.ifNo X45.here hx rfl (hb hby at_206) rfl ((if0 _ _).trans (feq hc206_46).1) ?_
                  exact k
                refine Goes.run X45 hx hown hci hcl hby (L := [(209, .aload 13, 2), (211, .iconst 2, 1), (212, .iload 12, 2), (214, .iload 6, 2)]) (by decide +kernel) rfl (g' := (mkF m 216 #[iv x0, iv x1, iv x2, iv x3, iv (w0_2 x0 x1 x2 x3), iv (w0_9 x0 x1 x2 x3), iv (w0_16 x0 x1 x2 x3), iv (w0_23 x0 x1 x2 x3), rv b1, iv (j0_61_s0 x0 x1 x2 x3), rv b8, iv (w0_85 x0 x1 x2 x3), iv (1 : Int32), rv b36] [(.int (w0_16 x0 x1 x2 x3)), (.int (1 : Int32)), (.int (2 : Int32)), (.ref b36)])) rfl ?_
                obtain ⟨_, _, ⟨T47, L47, k47, n47⟩, -, X47, ⟨Lc47, hQ47, l47, y47, z47⟩, st47⟩ := Jvm.LawKit.callS X45 hx (y := ym11) hown (mvT hZ w_65) (mvT hZ w_66) (mvT hZ w_67) (mvT hZ w_68) (by decide) (backOf (W := 0) (rmD l Z a0 hw [] b36 (2 : Int32) (1 : Int32) (w0_16 x0 x1 x2 x3) h36 n0 Zn36 (by decide)) hZ w_68 w_67 (by decide) (by decide)) (g := (mkF m 216 #[iv x0, iv x1, iv x2, iv x3, iv (w0_2 x0 x1 x2 x3), iv (w0_9 x0 x1 x2 x3), iv (w0_16 x0 x1 x2 x3), iv (w0_23 x0 x1 x2 x3), rv b1, iv (j0_61_s0 x0 x1 x2 x3), rv b8, iv (w0_85 x0 x1 x2 x3), iv (1 : Int32), rv b36] [(.int (w0_16 x0 x1 x2 x3)), (.int (1 : Int32)), (.int (2 : Int32)), (.ref b36)])) rfl (by rw [hml]; rfl) (argsL := [(.ref b36), (.int (2 : Int32)), (.int (1 : Int32)), (.int (w0_16 x0 x1 x2 x3))]) (rest := []) (lenOf pd0_6 rfl) rfl (by show 2 * 0 + _ ≤ _; exact Nat.le_of_eq rfl) (hb hby at_216) (fun _ _ => ⟨rfl, e45, (by decide : 4 + 0 ≤ _), (by decide : 264 + 0 ≤ _)⟩)
                dsimp only [Pt.U, Pt.locs, Pt.cells, Pt.slots] at X47 l47 y47 z47 st47 hQ47
                subst l47 y47 z47
                obtain ⟨rfl, N47q, e47⟩ := hQ47
                have N47 := Fr.app N45 N47q
                refine Goes.st (B := T47.setTop (mkF m 219 #[iv x0, iv x1, iv x2, iv x3, iv (w0_2 x0 x1 x2 x3), iv (w0_9 x0 x1 x2 x3), iv (w0_16 x0 x1 x2 x3), iv (w0_23 x0 x1 x2 x3), rv b1, iv (j0_61_s0 x0 x1 x2 x3), rv b8, iv (w0_85 x0 x1 x2 x3), iv (1 : Int32), rv b36] [(.int (rD (2 : Int32) (1 : Int32) (w0_16 x0 x1 x2 x3)))])) st47 ?_
                by_cases hc219_48 : (rD (2 : Int32) (1 : Int32) (w0_16 x0 x1 x2 x3)) = (0 : Int32)
                · skip
                  refine Goes.st (B := T47.setTop (mkF m 239 #[iv x0, iv x1, iv x2, iv x3, iv (w0_2 x0 x1 x2 x3), iv (w0_9 x0 x1 x2 x3), iv (w0_16 x0 x1 x2 x3), iv (w0_23 x0 x1 x2 x3), rv b1, iv (j0_61_s0 x0 x1 x2 x3), rv b8, iv (w0_85 x0 x1 x2 x3), iv (1 : Int32), rv b36] [])) (fun t k => ?_) ?_
                  · refine XS.ifYes X47.here hx rfl (pc0 := 219) (pc' := 239) rfl (hb hby at_219) rfl ((if0 _ _).trans (teq hc219_48).1) (by decide) (by decide) ?_
                    exact k
                  refine Goes.run X47 hx hown hci hcl hby (L := [(239, .iconst 0, 1)]) (by decide +kernel) rfl (g' := (mkF m 240 #[iv x0, iv x1, iv x2, iv x3, iv (w0_2 x0 x1 x2 x3), iv (w0_9 x0 x1 x2 x3), iv (w0_16 x0 x1 x2 x3), iv (w0_23 x0 x1 x2 x3), rv b1, iv (j0_61_s0 x0 x1 x2 x3), rv b8, iv (w0_85 x0 x1 x2 x3), iv (1 : Int32), rv b36] [(.int (0 : Int32))])) rfl ?_
                  exact Goes.retB X47 hx hlk (t := .boolean) Bd.returns (by simp) (hb hby at_240) rfl ⟨(congrArg (fun z => some (Value.int z)) (show (r0 x0 x1 x2 x3) = (0 : Int32) from ((((((if_neg hs136_17).trans (if_pos hs136_34)).trans (if_pos hc178_42)).trans (if_neg hc193_44)).trans (if_neg hc206_46)).trans (if_pos hc219_48))).symm), N47⟩ (by decide) (by decide)
                · skip
                  refine Goes.st (B := T47.setTop (mkF m 222 #[iv x0, iv x1, iv x2, iv x3, iv (w0_2 x0 x1 x2 x3), iv (w0_9 x0 x1 x2 x3), iv (w0_16 x0 x1 x2 x3), iv (w0_23 x0 x1 x2 x3), rv b1, iv (j0_61_s0 x0 x1 x2 x3), rv b8, iv (w0_85 x0 x1 x2 x3), iv (1 : Int32), rv b36] [])) (fun t k => ?_) ?_
                  · refine XS.ifNo X47.here hx rfl (hb hby at_219) rfl ((if0 _ _).trans (feq hc219_48).1) ?_
                    exact k
                  refine Goes.run X47 hx hown hci hcl hby (L := [(222, .aload 13, 2), (224, .iconst 3, 1), (225, .iload 12, 2), (227, .iload 7, 2)]) (by decide +kernel) rfl (g' := (mkF m 229 #[iv x0, iv x1, iv x2, iv x3, iv (w0_2 x0 x1 x2 x3), iv (w0_9 x0 x1 x2 x3), iv (w0_16 x0 x1 x2 x3), iv (w0_23 x0 x1 x2 x3), rv b1, iv (j0_61_s0 x0 x1 x2 x3), rv b8, iv (w0_85 x0 x1 x2 x3), iv (1 : Int32), rv b36] [(.int (w0_23 x0 x1 x2 x3)), (.int (1 : Int32)), (.int (3 : Int32)), (.ref b36)])) rfl ?_
                  obtain ⟨_, _, ⟨T49, L49, k49, n49⟩, -, X49, ⟨Lc49, hQ49, l49, y49, z49⟩, st49⟩ := Jvm.LawKit.callS X47 hx (y := ym11) hown (mvT hZ w_65) (mvT hZ w_66) (mvT hZ w_67) (mvT hZ w_68) (by decide) (backOf (W := 0) (rmD l Z a0 hw [] b36 (3 : Int32) (1 : Int32) (w0_23 x0 x1 x2 x3) h36 n0 Zn36 (by decide)) hZ w_68 w_67 (by decide) (by decide)) (g := (mkF m 229 #[iv x0, iv x1, iv x2, iv x3, iv (w0_2 x0 x1 x2 x3), iv (w0_9 x0 x1 x2 x3), iv (w0_16 x0 x1 x2 x3), iv (w0_23 x0 x1 x2 x3), rv b1, iv (j0_61_s0 x0 x1 x2 x3), rv b8, iv (w0_85 x0 x1 x2 x3), iv (1 : Int32), rv b36] [(.int (w0_23 x0 x1 x2 x3)), (.int (1 : Int32)), (.int (3 : Int32)), (.ref b36)])) rfl (by rw [hml]; rfl) (argsL := [(.ref b36), (.int (3 : Int32)), (.int (1 : Int32)), (.int (w0_23 x0 x1 x2 x3))]) (rest := []) (lenOf pd0_6 rfl) rfl (by show 2 * 0 + _ ≤ _; exact Nat.le_of_eq rfl) (hb hby at_229) (fun _ _ => ⟨rfl, e47, (by decide : 4 + 0 ≤ _), (by decide : 264 + 0 ≤ _)⟩)
                  dsimp only [Pt.U, Pt.locs, Pt.cells, Pt.slots] at X49 l49 y49 z49 st49 hQ49
                  subst l49 y49 z49
                  obtain ⟨rfl, N49q, e49⟩ := hQ49
                  have N49 := Fr.app N47 N49q
                  refine Goes.st (B := T49.setTop (mkF m 232 #[iv x0, iv x1, iv x2, iv x3, iv (w0_2 x0 x1 x2 x3), iv (w0_9 x0 x1 x2 x3), iv (w0_16 x0 x1 x2 x3), iv (w0_23 x0 x1 x2 x3), rv b1, iv (j0_61_s0 x0 x1 x2 x3), rv b8, iv (w0_85 x0 x1 x2 x3), iv (1 : Int32), rv b36] [(.int (rD (3 : Int32) (1 : Int32) (w0_23 x0 x1 x2 x3)))])) st49 ?_
                  by_cases hc232_50 : (rD (3 : Int32) (1 : Int32) (w0_23 x0 x1 x2 x3)) = (0 : Int32)
                  · skip
                    refine Goes.st (B := T49.setTop (mkF m 239 #[iv x0, iv x1, iv x2, iv x3, iv (w0_2 x0 x1 x2 x3), iv (w0_9 x0 x1 x2 x3), iv (w0_16 x0 x1 x2 x3), iv (w0_23 x0 x1 x2 x3), rv b1, iv (j0_61_s0 x0 x1 x2 x3), rv b8, iv (w0_85 x0 x1 x2 x3), iv (1 : Int32), rv b36] [])) (fun t k => ?_) ?_
                    · refine XS.ifYes X49.here hx rfl (pc0 := 232) (pc' := 239) rfl (hb hby at_232) rfl ((if0 _ _).trans (teq hc232_50).1) (by decide) (by decide) ?_
                      exact k
                    refine Goes.run X49 hx hown hci hcl hby (L := [(239, .iconst 0, 1)]) (by decide +kernel) rfl (g' := (mkF m 240 #[iv x0, iv x1, iv x2, iv x3, iv (w0_2 x0 x1 x2 x3), iv (w0_9 x0 x1 x2 x3), iv (w0_16 x0 x1 x2 x3), iv (w0_23 x0 x1 x2 x3), rv b1, iv (j0_61_s0 x0 x1 x2 x3), rv b8, iv (w0_85 x0 x1 x2 x3), iv (1 : Int32), rv b36] [(.int (0 : Int32))])) rfl ?_
                    exact Goes.retB X49 hx hlk (t := .boolean) Bd.returns (by simp) (hb hby at_240) rfl ⟨(congrArg (fun z => some (Value.int z)) (show (r0 x0 x1 x2 x3) = (0 : Int32) from (((((((if_neg hs136_17).trans (if_pos hs136_34)).trans (if_pos hc178_42)).trans (if_neg hc193_44)).trans (if_neg hc206_46)).trans (if_neg hc219_48)).trans (if_pos hc232_50))).symm), N49⟩ (by decide) (by decide)
                  · skip
                    refine Goes.st (B := T49.setTop (mkF m 235 #[iv x0, iv x1, iv x2, iv x3, iv (w0_2 x0 x1 x2 x3), iv (w0_9 x0 x1 x2 x3), iv (w0_16 x0 x1 x2 x3), iv (w0_23 x0 x1 x2 x3), rv b1, iv (j0_61_s0 x0 x1 x2 x3), rv b8, iv (w0_85 x0 x1 x2 x3), iv (1 : Int32), rv b36] [])) (fun t k => ?_) ?_
                    · refine XS.ifNo X49.here hx rfl (hb hby at_232) rfl ((if0 _ _).trans (feq hc232_50).1) ?_
                      exact k
                    refine Goes.run X49 hx hown hci hcl hby (L := [(235, .iconst 1, 1), (236, .goto 4, 3)]) (by decide +kernel) rfl (g' := (mkF m 240 #[iv x0, iv x1, iv x2, iv x3, iv (w0_2 x0 x1 x2 x3), iv (w0_9 x0 x1 x2 x3), iv (w0_16 x0 x1 x2 x3), iv (w0_23 x0 x1 x2 x3), rv b1, iv (j0_61_s0 x0 x1 x2 x3), rv b8, iv (w0_85 x0 x1 x2 x3), iv (1 : Int32), rv b36] [(.int (1 : Int32))])) rfl ?_
                    exact Goes.retB X49 hx hlk (t := .boolean) Bd.returns (by simp) (hb hby at_240) rfl ⟨(congrArg (fun z => some (Value.int z)) (show (r0 x0 x1 x2 x3) = (1 : Int32) from (((((((if_neg hs136_17).trans (if_pos hs136_34)).trans (if_pos hc178_42)).trans (if_neg hc193_44)).trans (if_neg hc206_46)).trans (if_neg hc219_48)).trans (if_neg hc232_50))).symm), N49⟩ (by decide) (by decide)
          · skip
            refine Goes.st (B := T36.setTop (mkF m 181 #[iv x0, iv x1, iv x2, iv x3, iv (w0_2 x0 x1 x2 x3), iv (w0_9 x0 x1 x2 x3), iv (w0_16 x0 x1 x2 x3), iv (w0_23 x0 x1 x2 x3), rv b1, iv (j0_61_s0 x0 x1 x2 x3), rv b8, iv (w0_85 x0 x1 x2 x3), iv (1 : Int32), rv b36] [])) (fun t k => ?_) ?_
            · refine XS.icmpNo X36.here hx rfl (hb hby at_178) rfl (feq hc178_42).1 ?_
              exact k
            refine Goes.run X36 hx hown hci hcl hby (L := [(181, .iconst 0, 1)]) (by decide +kernel) rfl (g' := (mkF m 182 #[iv x0, iv x1, iv x2, iv x3, iv (w0_2 x0 x1 x2 x3), iv (w0_9 x0 x1 x2 x3), iv (w0_16 x0 x1 x2 x3), iv (w0_23 x0 x1 x2 x3), rv b1, iv (j0_61_s0 x0 x1 x2 x3), rv b8, iv (w0_85 x0 x1 x2 x3), iv (1 : Int32), rv b36] [(.int (0 : Int32))])) rfl ?_
            exact Goes.retB X36 hx hlk (t := .boolean) Bd.returns (by simp) (hb hby at_182) rfl ⟨(congrArg (fun z => some (Value.int z)) (show (r0 x0 x1 x2 x3) = (0 : Int32) from (((if_neg hs136_17).trans (if_pos hs136_34)).trans (if_neg hc178_42))).symm), N36⟩ (by decide) (by decide)
        by_cases hc169_40 : (j0_61_s0 x0 x1 x2 x3) = (0 : Int32)
        · skip
          refine Goes.st (B := T36.setTop (mkF m 176 #[iv x0, iv x1, iv x2, iv x3, iv (w0_2 x0 x1 x2 x3), iv (w0_9 x0 x1 x2 x3), iv (w0_16 x0 x1 x2 x3), iv (w0_23 x0 x1 x2 x3), rv b1, iv (j0_61_s0 x0 x1 x2 x3), rv b8, iv (w0_85 x0 x1 x2 x3), iv (1 : Int32), rv b36] [(.int (w91_30 (j0_61_s0 x0 x1 x2 x3) (w0_32 x0 x1 x2 x3) (w0_37 x0 x1 x2 x3) (w0_42 x0 x1 x2 x3) (w0_47 x0 x1 x2 x3) (0 : Int32) (0 : Int32) (0 : Int32) (0 : Int32)))])) (fun t k => ?_) ?_
          · refine XS.ifYes X36.here hx rfl (pc0 := 169) (pc' := 176) rfl (hb hby at_169) rfl ((if0 _ _).trans (teq hc169_40).1) (by decide) (by decide) ?_
            exact k
          refine Goes.run X36 hx hown hci hcl hby (L := [(176, .iconst 0, 1)]) (by decide +kernel) rfl (g' := (mkF m 177 #[iv x0, iv x1, iv x2, iv x3, iv (w0_2 x0 x1 x2 x3), iv (w0_9 x0 x1 x2 x3), iv (w0_16 x0 x1 x2 x3), iv (w0_23 x0 x1 x2 x3), rv b1, iv (j0_61_s0 x0 x1 x2 x3), rv b8, iv (w0_85 x0 x1 x2 x3), iv (1 : Int32), rv b36] [(.int (0 : Int32)), (.int (w91_30 (j0_61_s0 x0 x1 x2 x3) (w0_32 x0 x1 x2 x3) (w0_37 x0 x1 x2 x3) (w0_42 x0 x1 x2 x3) (w0_47 x0 x1 x2 x3) (0 : Int32) (0 : Int32) (0 : Int32) (0 : Int32)))])) rfl ?_
          have q := jn177_41
          rw [show (j0_177_s0 x0 x1 x2 x3) = (0 : Int32) from (if_pos hc169_40)] at q
          exact q
        · skip
          refine Goes.st (B := T36.setTop (mkF m 172 #[iv x0, iv x1, iv x2, iv x3, iv (w0_2 x0 x1 x2 x3), iv (w0_9 x0 x1 x2 x3), iv (w0_16 x0 x1 x2 x3), iv (w0_23 x0 x1 x2 x3), rv b1, iv (j0_61_s0 x0 x1 x2 x3), rv b8, iv (w0_85 x0 x1 x2 x3), iv (1 : Int32), rv b36] [(.int (w91_30 (j0_61_s0 x0 x1 x2 x3) (w0_32 x0 x1 x2 x3) (w0_37 x0 x1 x2 x3) (w0_42 x0 x1 x2 x3) (w0_47 x0 x1 x2 x3) (0 : Int32) (0 : Int32) (0 : Int32) (0 : Int32)))])) (fun t k => ?_) ?_
          · refine XS.ifNo X36.here hx rfl (hb hby at_169) rfl ((if0 _ _).trans (feq hc169_40).1) ?_
            exact k
          refine Goes.run X36 hx hown hci hcl hby (L := [(172, .iconst 1, 1), (173, .goto 4, 3)]) (by decide +kernel) rfl (g' := (mkF m 177 #[iv x0, iv x1, iv x2, iv x3, iv (w0_2 x0 x1 x2 x3), iv (w0_9 x0 x1 x2 x3), iv (w0_16 x0 x1 x2 x3), iv (w0_23 x0 x1 x2 x3), rv b1, iv (j0_61_s0 x0 x1 x2 x3), rv b8, iv (w0_85 x0 x1 x2 x3), iv (1 : Int32), rv b36] [(.int (1 : Int32)), (.int (w91_30 (j0_61_s0 x0 x1 x2 x3) (w0_32 x0 x1 x2 x3) (w0_37 x0 x1 x2 x3) (w0_42 x0 x1 x2 x3) (w0_47 x0 x1 x2 x3) (0 : Int32) (0 : Int32) (0 : Int32) (0 : Int32)))])) rfl ?_
          have q := jn177_41
          rw [show (j0_177_s0 x0 x1 x2 x3) = (1 : Int32) from (if_neg hc169_40)] at q
          exact q
      · skip
        by_cases hs136_51 : (w0_115 x0 x1 x2 x3) = (2 : Int32)
        · skip
          rw [hs136_51]
          rw [hs136_51] at F_size_b8
          refine Goes.run X15 hx hown hci hcl hby (L := [(136, .aload 10, 2), (138, .iload 9, 2)]) (by decide +kernel) rfl (g' := (mkF m 140 #[iv x0, iv x1, iv x2, iv x3, iv (w0_2 x0 x1 x2 x3), iv (w0_9 x0 x1 x2 x3), iv (w0_16 x0 x1 x2 x3), iv (w0_23 x0 x1 x2 x3), rv b1, iv (j0_61_s0 x0 x1 x2 x3), rv b8, iv (w0_85 x0 x1 x2 x3), iv (2 : Int32), .unset] [(.int (j0_61_s0 x0 x1 x2 x3)), (.ref b8)])) rfl ?_
          obtain ⟨cq52, kq52, q52a, q52b, q52c⟩ := isOf hZ e15 E_b8
          obtain ⟨_, _, ⟨T52, L52, k52, n52⟩, -, X52, ⟨Lc52, hQ52, l52, y52, z52⟩, st52⟩ := X15.virtualBack hx (y := ym8) (z := ym8) hown (mvT hZ w_46) (mvT hZ w_47) (notFace_of_selects (args := #[]) (mvT hZ w_49)) (mvT hZ w_49) (mvT hZ w_48) (by decide) (backOf (W := 0) (rm92 l Z a0 hw [] b8 (j0_61_s0 x0 x1 x2 x3) b9 kc9 (w0_32 x0 x1 x2 x3) (w0_37 x0 x1 x2 x3) (w0_42 x0 x1 x2 x3) (w0_47 x0 x1 x2 x3) (0 : Int32) (0 : Int32) (0 : Int32) (0 : Int32) h14 n0 Zn14 E_b8 F_buffer_b8 F_size_b8 E_b9 V_b9 g_b8 g_b9 ne_b8_b9) hZ w_50 w_3 (by decide) (by decide)) q52a q52c (g := (mkF m 140 #[iv x0, iv x1, iv x2, iv x3, iv (w0_2 x0 x1 x2 x3), iv (w0_9 x0 x1 x2 x3), iv (w0_16 x0 x1 x2 x3), iv (w0_23 x0 x1 x2 x3), rv b1, iv (j0_61_s0 x0 x1 x2 x3), rv b8, iv (w0_85 x0 x1 x2 x3), iv (2 : Int32), .unset] [(.int (j0_61_s0 x0 x1 x2 x3)), (.ref b8)])) rfl (by rw [hml]; rfl) (Steps.refl _) (argsL := [(.int (j0_61_s0 x0 x1 x2 x3))]) (rest := []) (lenOf pd0_4 rfl) rfl (by show 2 * 0 + _ ≤ _; exact Nat.le_of_eq rfl) (hb hby at_140) (fun _ _ => ⟨rfl, e15, (by decide : 3 + 0 ≤ _), (by decide : 262 + 0 ≤ _)⟩)
          dsimp only [Pt.U, Pt.locs, Pt.cells, Pt.slots] at X52 l52 y52 z52 st52 hQ52
          subst l52 y52 z52
          obtain ⟨h52, eh52⟩ : ∃ z, z = T52.heap := ⟨_, rfl⟩
          rw [← eh52] at hQ52
          have e52 : T52.heap = h52 := eh52.symm
          obtain ⟨rfl, N52q, Kq52, o52_0, o52_1, o52_2, o52_3, o52_4⟩ := hQ52
          have N52 := Fr.app N15 N52q
          have E_b1 := E_b1.keep Kq52
          have V_b1 := V_b1.keep Kq52 (ninS ne_b1_b8 (ninS ne_b1_b9 nin0))
          have E_b8 : Exa Z h52 b8 "com/example/upcaster/upcaster/io/BinaryEncoder" := o52_0
          have F_buffer_b8 : Fld Z h52 b8 "com/example/upcaster/upcaster/io/BinaryEncoder" "buffer" "[B" (.ref b9) := o52_1
          have F_size_b8 : Fld Z h52 b8 "com/example/upcaster/upcaster/io/BinaryEncoder" "size" "I" (.int (3 : Int32)) := o52_2
          have E_b9 : Exa Z h52 b9 "[B" := o52_3
          have V_b9 : Arv Z h52 b9 kc9 .byte (256 : Int32) [(.int (w0_32 x0 x1 x2 x3)), (.int (w0_37 x0 x1 x2 x3)), (.int (w92_30 (j0_61_s0 x0 x1 x2 x3) (w0_32 x0 x1 x2 x3) (w0_37 x0 x1 x2 x3) (w0_42 x0 x1 x2 x3) (w0_47 x0 x1 x2 x3) (0 : Int32) (0 : Int32) (0 : Int32) (0 : Int32))), (.int (w0_47 x0 x1 x2 x3)), (.int (0 : Int32)), (.int (0 : Int32)), (.int (0 : Int32)), (.int (0 : Int32))] (.int (0 : Int32)) := o52_4
          have Zn52 : n0 ≤ h52.size := Nat.le_trans Zn14 Kq52.1
          refine Goes.st (B := T52.setTop (mkF m 143 #[iv x0, iv x1, iv x2, iv x3, iv (w0_2 x0 x1 x2 x3), iv (w0_9 x0 x1 x2 x3), iv (w0_16 x0 x1 x2 x3), iv (w0_23 x0 x1 x2 x3), rv b1, iv (j0_61_s0 x0 x1 x2 x3), rv b8, iv (w0_85 x0 x1 x2 x3), iv (2 : Int32), .unset] [])) (fun t k => st52.trans k) ?_
          refine Goes.run X52 hx hown hci hcl hby (L := [(143, .aload 10, 2)]) (by decide +kernel) rfl (g' := (mkF m 145 #[iv x0, iv x1, iv x2, iv x3, iv (w0_2 x0 x1 x2 x3), iv (w0_9 x0 x1 x2 x3), iv (w0_16 x0 x1 x2 x3), iv (w0_23 x0 x1 x2 x3), rv b1, iv (j0_61_s0 x0 x1 x2 x3), rv b8, iv (w0_85 x0 x1 x2 x3), iv (2 : Int32), .unset] [(.ref b8)])) rfl ?_
          obtain ⟨cq53, kq53, q53a, q53b, q53c⟩ := isOf hZ e52 E_b8
          obtain ⟨_, _, ⟨T53, L53, k53, n53⟩, -, X53, ⟨Lc53, hQ53, l53, y53, z53⟩, st53⟩ := X52.virtualBack hx (y := ym10) (z := ym10) hown (mvT hZ w_51) (mvT hZ w_52) (notFace_of_selects (args := #[]) (mvT hZ w_54)) (mvT hZ w_54) (mvT hZ w_53) (by decide) (backOf (W := 0) (rmB2 l Z a0 hw [] b8 b9 kc9 (w0_32 x0 x1 x2 x3) (w0_37 x0 x1 x2 x3) (w92_30 (j0_61_s0 x0 x1 x2 x3) (w0_32 x0 x1 x2 x3) (w0_37 x0 x1 x2 x3) (w0_42 x0 x1 x2 x3) (w0_47 x0 x1 x2 x3) (0 : Int32) (0 : Int32) (0 : Int32) (0 : Int32)) (w0_47 x0 x1 x2 x3) (0 : Int32) (0 : Int32) (0 : Int32) (0 : Int32) h52 n0 Zn52 F_buffer_b8 F_size_b8 V_b9) hZ w_55 w_3 (by decide) (by decide)) q53a q53c (g := (mkF m 145 #[iv x0, iv x1, iv x2, iv x3, iv (w0_2 x0 x1 x2 x3), iv (w0_9 x0 x1 x2 x3), iv (w0_16 x0 x1 x2 x3), iv (w0_23 x0 x1 x2 x3), rv b1, iv (j0_61_s0 x0 x1 x2 x3), rv b8, iv (w0_85 x0 x1 x2 x3), iv (2 : Int32), .unset] [(.ref b8)])) rfl (by rw [hml]; rfl) (Steps.refl _) (argsL := []) (rest := []) (lenOf pd0_5 rfl) rfl (by show 2 * 0 + _ ≤ _; exact Nat.le_of_eq rfl) (hb hby at_145) (fun _ _ => ⟨rfl, e52, (by decide : 3 + 1 ≤ _), (by decide : 262 + 3 ≤ _)⟩)
          dsimp only [Pt.U, Pt.locs, Pt.cells, Pt.slots] at X53 l53 y53 z53 st53 hQ53
          subst l53 y53 z53
          obtain ⟨h53, eh53⟩ : ∃ z, z = T53.heap := ⟨_, rfl⟩
          rw [← eh53] at hQ53
          have e53 : T53.heap = h53 := eh53.symm
          obtain ⟨b53, kc53, rfl, N53q, Kq53, szq53, o53_0, o53_1⟩ := hQ53
          have ne_b1_b53 : b1 ≠ b53 := Nat.ne_of_lt (Nat.lt_of_lt_of_le E_b1.lt szq53)
          have ne_b8_b53 : b8 ≠ b53 := Nat.ne_of_lt (Nat.lt_of_lt_of_le E_b8.lt szq53)
          have ne_b9_b53 : b9 ≠ b53 := Nat.ne_of_lt (Nat.lt_of_lt_of_le E_b9.lt szq53)
          have g_b53 : n0 ≤ b53 := Nat.le_trans Zn52 szq53
          have N53 := Fr.app N52 N53q
          have E_b1 := E_b1.keep Kq53
          have V_b1 := V_b1.keep Kq53 nin0
          have E_b8 := E_b8.keep Kq53
          have F_buffer_b8 := F_buffer_b8.keep Kq53 nin0
          have F_size_b8 := F_size_b8.keep Kq53 nin0
          have E_b9 := E_b9.keep Kq53
          have V_b9 := V_b9.keep Kq53 nin0
          have E_b53 : Exa Z h53 b53 "[B" := o53_0
          have V_b53 : Arv Z h53 b53 kc53 .byte (3 : Int32) [(.int (w0_32 x0 x1 x2 x3)), (.int (w0_37 x0 x1 x2 x3)), (.int (w92_30 (j0_61_s0 x0 x1 x2 x3) (w0_32 x0 x1 x2 x3) (w0_37 x0 x1 x2 x3) (w0_42 x0 x1 x2 x3) (w0_47 x0 x1 x2 x3) (0 : Int32) (0 : Int32) (0 : Int32) (0 : Int32)))] (.int (0 : Int32)) := o53_1
          have Zn53 : n0 ≤ h53.size := Nat.le_trans Zn52 Kq53.1
          refine Goes.st (B := T53.setTop (mkF m 148 #[iv x0, iv x1, iv x2, iv x3, iv (w0_2 x0 x1 x2 x3), iv (w0_9 x0 x1 x2 x3), iv (w0_16 x0 x1 x2 x3), iv (w0_23 x0 x1 x2 x3), rv b1, iv (j0_61_s0 x0 x1 x2 x3), rv b8, iv (w0_85 x0 x1 x2 x3), iv (2 : Int32), .unset] [(.ref b53)])) (fun t k => st53.trans k) ?_
          refine Goes.run X53 hx hown hci hcl hby (L := [(148, .astore 13, 2), (150, .aload 13, 2)]) (by decide +kernel) rfl (g' := (mkF m 152 #[iv x0, iv x1, iv x2, iv x3, iv (w0_2 x0 x1 x2 x3), iv (w0_9 x0 x1 x2 x3), iv (w0_16 x0 x1 x2 x3), iv (w0_23 x0 x1 x2 x3), rv b1, iv (j0_61_s0 x0 x1 x2 x3), rv b8, iv (w0_85 x0 x1 x2 x3), iv (2 : Int32), rv b53] [(.ref b53)])) rfl ?_
          obtain ⟨cl54, Ar54, q54, S54, M54, Hs54, G54⟩ := id V_b53
          refine Goes.st (B := T53.setTop (mkF m 153 #[iv x0, iv x1, iv x2, iv x3, iv (w0_2 x0 x1 x2 x3), iv (w0_9 x0 x1 x2 x3), iv (w0_16 x0 x1 x2 x3), iv (w0_23 x0 x1 x2 x3), rv b1, iv (j0_61_s0 x0 x1 x2 x3), rv b8, iv (w0_85 x0 x1 x2 x3), iv (2 : Int32), rv b53] [(.int (3 : Int32))])) (fun t k => ?_) ?_
          · refine X53.arraylength hx (cell := cl54) (by rw [e53]; exact Ar54.1) (State.isArrayOf_alike hZ.alike Ar54.2.1) (g := (mkF m 152 #[iv x0, iv x1, iv x2, iv x3, iv (w0_2 x0 x1 x2 x3), iv (w0_9 x0 x1 x2 x3), iv (w0_16 x0 x1 x2 x3), iv (w0_23 x0 x1 x2 x3), rv b1, iv (j0_61_s0 x0 x1 x2 x3), rv b8, iv (w0_85 x0 x1 x2 x3), iv (2 : Int32), rv b53] [(.ref b53)])) rfl (rest := []) rfl (hb hby at_152) _ ?_
            rw [len_of S54 M54]
            exact k
          refine Goes.run X53 hx hown hci hcl hby (L := [(153, .iload 12, 2), (155, .iconst 1, 1), (156, .iadd, 1)]) (by decide +kernel) rfl (g' := (mkF m 157 #[iv x0, iv x1, iv x2, iv x3, iv (w0_2 x0 x1 x2 x3), iv (w0_9 x0 x1 x2 x3), iv (w0_16 x0 x1 x2 x3), iv (w0_23 x0 x1 x2 x3), rv b1, iv (j0_61_s0 x0 x1 x2 x3), rv b8, iv (w0_85 x0 x1 x2 x3), iv (2 : Int32), rv b53] [(.int (3 : Int32)), (.int (3 : Int32))])) rfl ?_
          have hc157_55 : (3 : Int32) = (3 : Int32) := rfl
          refine Goes.st (B := T53.setTop (mkF m 162 #[iv x0, iv x1, iv x2, iv x3, iv (w0_2 x0 x1 x2 x3), iv (w0_9 x0 x1 x2 x3), iv (w0_16 x0 x1 x2 x3), iv (w0_23 x0 x1 x2 x3), rv b1, iv (j0_61_s0 x0 x1 x2 x3), rv b8, iv (w0_85 x0 x1 x2 x3), iv (2 : Int32), rv b53] [])) (fun t k => ?_) ?_
          · refine XS.icmpYes X53.here hx rfl (pc0 := 157) (pc' := 162) rfl (hb hby at_157) rfl (teq hc157_55).1 (by decide) (by decide) ?_
            exact k
          refine Goes.run X53 hx hown hci hcl hby (L := [(162, .aload 13, 2), (164, .iload 12, 2)]) (by decide +kernel) rfl (g' := (mkF m 166 #[iv x0, iv x1, iv x2, iv x3, iv (w0_2 x0 x1 x2 x3), iv (w0_9 x0 x1 x2 x3), iv (w0_16 x0 x1 x2 x3), iv (w0_23 x0 x1 x2 x3), rv b1, iv (j0_61_s0 x0 x1 x2 x3), rv b8, iv (w0_85 x0 x1 x2 x3), iv (2 : Int32), rv b53] [(.int (2 : Int32)), (.ref b53)])) rfl ?_
          obtain ⟨cl56, Ar56, q56, S56, M56, Hs56, G56⟩ := id V_b53
          have hin56 : ¬ ((2 : Int32) < 0 ∨ cl56.slots.size ≤ ((2 : Int32)).toNatClampNeg) := inb_of S56 ⟨(by decide), (by decide)⟩
          have hat56 : cl56.slots[((2 : Int32)).toNatClampNeg]? = some (.int (w92_30 (j0_61_s0 x0 x1 x2 x3) (w0_32 x0 x1 x2 x3) (w0_37 x0 x1 x2 x3) (w0_42 x0 x1 x2 x3) (w0_47 x0 x1 x2 x3) (0 : Int32) (0 : Int32) (0 : Int32) (0 : Int32))) := Hs56.at hin56 rfl
          refine Goes.st (B := T53.setTop (mkF m 167 #[iv x0, iv x1, iv x2, iv x3, iv (w0_2 x0 x1 x2 x3), iv (w0_9 x0 x1 x2 x3), iv (w0_16 x0 x1 x2 x3), iv (w0_23 x0 x1 x2 x3), rv b1, iv (j0_61_s0 x0 x1 x2 x3), rv b8, iv (w0_85 x0 x1 x2 x3), iv (2 : Int32), rv b53] [(.int (w92_30 (j0_61_s0 x0 x1 x2 x3) (w0_32 x0 x1 x2 x3) (w0_37 x0 x1 x2 x3) (w0_42 x0 x1 x2 x3) (w0_47 x0 x1 x2 x3) (0 : Int32) (0 : Int32) (0 : Int32) (0 : Int32)))])) (X53.baloadBytes hx (j := (2 : Int32)) (v := (.int (w92_30 (j0_61_s0 x0 x1 x2 x3) (w0_32 x0 x1 x2 x3) (w0_37 x0 x1 x2 x3) (w0_42 x0 x1 x2 x3) (w0_47 x0 x1 x2 x3) (0 : Int32) (0 : Int32) (0 : Int32) (0 : Int32)))) (by rw [e53]; exact Ar56.1) (State.isArrayOf_alike hZ.alike Ar56.2.1) Ar56.2.2 hin56 hat56 (g := (mkF m 166 #[iv x0, iv x1, iv x2, iv x3, iv (w0_2 x0 x1 x2 x3), iv (w0_9 x0 x1 x2 x3), iv (w0_16 x0 x1 x2 x3), iv (w0_23 x0 x1 x2 x3), rv b1, iv (j0_61_s0 x0 x1 x2 x3), rv b8, iv (w0_85 x0 x1 x2 x3), iv (2 : Int32), rv b53] [(.int (2 : Int32)), (.ref b53)])) rfl rfl (hb hby at_166)) ?_
          refine Goes.run X53 hx hown hci hcl hby (L := [(167, .iload 9, 2)]) (by decide +kernel) rfl (g' := (mkF m 169 #[iv x0, iv x1, iv x2, iv x3, iv (w0_2 x0 x1 x2 x3), iv (w0_9 x0 x1 x2 x3), iv (w0_16 x0 x1 x2 x3), iv (w0_23 x0 x1 x2 x3), rv b1, iv (j0_61_s0 x0 x1 x2 x3), rv b8, iv (w0_85 x0 x1 x2 x3), iv (2 : Int32), rv b53] [(.int (j0_61_s0 x0 x1 x2 x3)), (.int (w92_30 (j0_61_s0 x0 x1 x2 x3) (w0_32 x0 x1 x2 x3) (w0_37 x0 x1 x2 x3) (w0_42 x0 x1 x2 x3) (w0_47 x0 x1 x2 x3) (0 : Int32) (0 : Int32) (0 : Int32) (0 : Int32)))])) rfl ?_
          have jn177_58 : Goes p e below s (QL (some (.int (r0 x0 x1 x2 x3))) n0) room_1.cells room_1.slots (T53.setTop (mkF m 177 #[iv x0, iv x1, iv x2, iv x3, iv (w0_2 x0 x1 x2 x3), iv (w0_9 x0 x1 x2 x3), iv (w0_16 x0 x1 x2 x3), iv (w0_23 x0 x1 x2 x3), rv b1, iv (j0_61_s0 x0 x1 x2 x3), rv b8, iv (w0_85 x0 x1 x2 x3), iv (2 : Int32), rv b53] [(.int (j0_177_s0 x0 x1 x2 x3)), (.int (w92_30 (j0_61_s0 x0 x1 x2 x3) (w0_32 x0 x1 x2 x3) (w0_37 x0 x1 x2 x3) (w0_42 x0 x1 x2 x3) (w0_47 x0 x1 x2 x3) (0 : Int32) (0 : Int32) (0 : Int32) (0 : Int32)))])) := by
            refine Goes.run X53 hx hown hci hcl hby (L := [(177, .i2b, 1)]) (by decide +kernel) rfl (g' := (mkF m 178 #[iv x0, iv x1, iv x2, iv x3, iv (w0_2 x0 x1 x2 x3), iv (w0_9 x0 x1 x2 x3), iv (w0_16 x0 x1 x2 x3), iv (w0_23 x0 x1 x2 x3), rv b1, iv (j0_61_s0 x0 x1 x2 x3), rv b8, iv (w0_85 x0 x1 x2 x3), iv (2 : Int32), rv b53] [(.int ((j0_177_s0 x0 x1 x2 x3).toInt8.toInt32)), (.int (w92_30 (j0_61_s0 x0 x1 x2 x3) (w0_32 x0 x1 x2 x3) (w0_37 x0 x1 x2 x3) (w0_42 x0 x1 x2 x3) (w0_47 x0 x1 x2 x3) (0 : Int32) (0 : Int32) (0 : Int32) (0 : Int32)))])) rfl ?_
            by_cases hc178_59 : (w92_30 (j0_61_s0 x0 x1 x2 x3) (w0_32 x0 x1 x2 x3) (w0_37 x0 x1 x2 x3) (w0_42 x0 x1 x2 x3) (w0_47 x0 x1 x2 x3) (0 : Int32) (0 : Int32) (0 : Int32) (0 : Int32)) = ((j0_177_s0 x0 x1 x2 x3).toInt8.toInt32)
            · skip
              refine Goes.st (B := T53.setTop (mkF m 183 #[iv x0, iv x1, iv x2, iv x3, iv (w0_2 x0 x1 x2 x3), iv (w0_9 x0 x1 x2 x3), iv (w0_16 x0 x1 x2 x3), iv (w0_23 x0 x1 x2 x3), rv b1, iv (j0_61_s0 x0 x1 x2 x3), rv b8, iv (w0_85 x0 x1 x2 x3), iv (2 : Int32), rv b53] [])) (fun t k => ?_) ?_
              · refine XS.icmpYes X53.here hx rfl (pc0 := 178) (pc' := 183) rfl (hb hby at_178) rfl (teq hc178_59).1 (by decide) (by decide) ?_
                exact k
              refine Goes.run X53 hx hown hci hcl hby (L := [(183, .aload 13, 2), (185, .iconst 0, 1), (186, .iload 12, 2), (188, .iload 4, 2)]) (by decide +kernel) rfl (g' := (mkF m 190 #[iv x0, iv x1, iv x2, iv x3, iv (w0_2 x0 x1 x2 x3), iv (w0_9 x0 x1 x2 x3), iv (w0_16 x0 x1 x2 x3), iv (w0_23 x0 x1 x2 x3), rv b1, iv (j0_61_s0 x0 x1 x2 x3), rv b8, iv (w0_85 x0 x1 x2 x3), iv (2 : Int32), rv b53] [(.int (w0_2 x0 x1 x2 x3)), (.int (2 : Int32)), (.int (0 : Int32)), (.ref b53)])) rfl ?_
              obtain ⟨_, _, ⟨T60, L60, k60, n60⟩, -, X60, ⟨Lc60, hQ60, l60, y60, z60⟩, st60⟩ := Jvm.LawKit.callS X53 hx (y := ym11) hown (mvT hZ w_65) (mvT hZ w_66) (mvT hZ w_67) (mvT hZ w_68) (by decide) (backOf (W := 0) (rmC l Z a0 hw [] b53 (0 : Int32) (2 : Int32) (w0_2 x0 x1 x2 x3) kc53 (3 : Int32) [(.int (w0_32 x0 x1 x2 x3)), (.int (w0_37 x0 x1 x2 x3)), (.int (w92_30 (j0_61_s0 x0 x1 x2 x3) (w0_32 x0 x1 x2 x3) (w0_37 x0 x1 x2 x3) (w0_42 x0 x1 x2 x3) (w0_47 x0 x1 x2 x3) (0 : Int32) (0 : Int32) (0 : Int32) (0 : Int32)))] (w0_32 x0 x1 x2 x3) h53 n0 Zn53 V_b53 (by decide) (by decide) rfl) hZ w_68 w_67 (by decide) (by decide)) (g := (mkF m 190 #[iv x0, iv x1, iv x2, iv x3, iv (w0_2 x0 x1 x2 x3), iv (w0_9 x0 x1 x2 x3), iv (w0_16 x0 x1 x2 x3), iv (w0_23 x0 x1 x2 x3), rv b1, iv (j0_61_s0 x0 x1 x2 x3), rv b8, iv (w0_85 x0 x1 x2 x3), iv (2 : Int32), rv b53] [(.int (w0_2 x0 x1 x2 x3)), (.int (2 : Int32)), (.int (0 : Int32)), (.ref b53)])) rfl (by rw [hml]; rfl) (argsL := [(.ref b53), (.int (0 : Int32)), (.int (2 : Int32)), (.int (w0_2 x0 x1 x2 x3))]) (rest := []) (lenOf pd0_6 rfl) rfl (by show 2 * 0 + _ ≤ _; exact Nat.le_of_eq rfl) (hb hby at_190) (fun _ _ => ⟨rfl, e53, (by decide : 4 + 0 ≤ _), (by decide : 265 + 0 ≤ _)⟩)
              dsimp only [Pt.U, Pt.locs, Pt.cells, Pt.slots] at X60 l60 y60 z60 st60 hQ60
              subst l60 y60 z60
              obtain ⟨rfl, N60q, e60⟩ := hQ60
              have N60 := Fr.app N53 N60q
              refine Goes.st (B := T60.setTop (mkF m 193 #[iv x0, iv x1, iv x2, iv x3, iv (w0_2 x0 x1 x2 x3), iv (w0_9 x0 x1 x2 x3), iv (w0_16 x0 x1 x2 x3), iv (w0_23 x0 x1 x2 x3), rv b1, iv (j0_61_s0 x0 x1 x2 x3), rv b8, iv (w0_85 x0 x1 x2 x3), iv (2 : Int32), rv b53] [(.int (rC (0 : Int32) (2 : Int32) (w0_2 x0 x1 x2 x3) (3 : Int32) (w0_32 x0 x1 x2 x3)))])) st60 ?_
              by_cases hc193_61 : (rC (0 : Int32) (2 : Int32) (w0_2 x0 x1 x2 x3) (3 : Int32) (w0_32 x0 x1 x2 x3)) = (0 : Int32)
              · skip
                refine Goes.st (B := T60.setTop (mkF m 239 #[iv x0, iv x1, iv x2, iv x3, iv (w0_2 x0 x1 x2 x3), iv (w0_9 x0 x1 x2 x3), iv (w0_16 x0 x1 x2 x3), iv (w0_23 x0 x1 x2 x3), rv b1, iv (j0_61_s0 x0 x1 x2 x3), rv b8, iv (w0_85 x0 x1 x2 x3), iv (2 : Int32), rv b53] [])) (fun t k => ?_) ?_
                · refine XS.ifYes X60.here hx rfl (pc0 := 193) (pc' := 239) rfl (hb hby at_193) rfl ((if0 _ _).trans (teq hc193_61).1) (by decide) (by decide) ?_
                  exact k
                refine Goes.run X60 hx hown hci hcl hby (L := [(239, .iconst 0, 1)]) (by decide +kernel) rfl (g' := (mkF m 240 #[iv x0, iv x1, iv x2, iv x3, iv (w0_2 x0 x1 x2 x3), iv (w0_9 x0 x1 x2 x3), iv (w0_16 x0 x1 x2 x3), iv (w0_23 x0 x1 x2 x3), rv b1, iv (j0_61_s0 x0 x1 x2 x3), rv b8, iv (w0_85 x0 x1 x2 x3), iv (2 : Int32), rv b53] [(.int (0 : Int32))])) rfl ?_
                exact Goes.retB X60 hx hlk (t := .boolean) Bd.returns (by simp) (hb hby at_240) rfl ⟨(congrArg (fun z => some (Value.int z)) (show (r0 x0 x1 x2 x3) = (0 : Int32) from (((((if_neg hs136_17).trans (if_neg hs136_34)).trans (if_pos hs136_51)).trans (if_pos hc178_59)).trans (if_pos hc193_61))).symm), N60⟩ (by decide) (by decide)
              · skip
                refine Goes.st (B := T60.setTop (mkF m 196 #[iv x0, iv x1, iv x2, iv x3, iv (w0_2 x0 x1 x2 x3), iv (w0_9 x0 x1 x2 x3), iv (w0_16 x0 x1 x2 x3), iv (w0_23 x0 x1 x2 x3), rv b1, iv (j0_61_s0 x0 x1 x2 x3), rv b8, iv (w0_85 x0 x1 x2 x3), iv (2 : Int32), rv b53] [])) (fun t k => ?_) ?_
                · refine XS.ifNo X60.here hx rfl (hb hby at_193) rfl ((if0 _ _).trans (feq hc193_61).1) ?_
                  exact k
                refine Goes.run X60 hx hown hci hcl hby (L := [(196, .aload 13, 2), (198, .iconst 1, 1), (199, .iload 12, 2), (201, .iload 5, 2)]) (by decide +kernel) rfl (g' := (mkF m 203 #[iv x0, iv x1, iv x2, iv x3, iv (w0_2 x0 x1 x2 x3), iv (w0_9 x0 x1 x2 x3), iv (w0_16 x0 x1 x2 x3), iv (w0_23 x0 x1 x2 x3), rv b1, iv (j0_61_s0 x0 x1 x2 x3), rv b8, iv (w0_85 x0 x1 x2 x3), iv (2 : Int32), rv b53] [(.int (w0_9 x0 x1 x2 x3)), (.int (2 : Int32)), (.int (1 : Int32)), (.ref b53)])) rfl ?_
                obtain ⟨_, _, ⟨T62, L62, k62, n62⟩, -, X62, ⟨Lc62, hQ62, l62, y62, z62⟩, st62⟩ := Jvm.LawKit.callS X60 hx (y := ym11) hown (mvT hZ w_65) (mvT hZ w_66) (mvT hZ w_67) (mvT hZ w_68) (by decide) (backOf (W := 0) (rmC l Z a0 hw [] b53 (1 : Int32) (2 : Int32) (w0_9 x0 x1 x2 x3) kc53 (3 : Int32) [(.int (w0_32 x0 x1 x2 x3)), (.int (w0_37 x0 x1 x2 x3)), (.int (w92_30 (j0_61_s0 x0 x1 x2 x3) (w0_32 x0 x1 x2 x3) (w0_37 x0 x1 x2 x3) (w0_42 x0 x1 x2 x3) (w0_47 x0 x1 x2 x3) (0 : Int32) (0 : Int32) (0 : Int32) (0 : Int32)))] (w0_37 x0 x1 x2 x3) h53 n0 Zn53 V_b53 (by decide) (by decide) rfl) hZ w_68 w_67 (by decide) (by decide)) (g := (mkF m 203 #[iv x0, iv x1, iv x2, iv x3, iv (w0_2 x0 x1 x2 x3), iv (w0_9 x0 x1 x2 x3), iv (w0_16 x0 x1 x2 x3), iv (w0_23 x0 x1 x2 x3), rv b1, iv (j0_61_s0 x0 x1 x2 x3), rv b8, iv (w0_85 x0 x1 x2 x3), iv (2 : Int32), rv b53] [(.int (w0_9 x0 x1 x2 x3)), (.int (2 : Int32)), (.int (1 : Int32)), (.ref b53)])) rfl (by rw [hml]; rfl) (argsL := [(.ref b53), (.int (1 : Int32)), (.int (2 : Int32)), (.int (w0_9 x0 x1 x2 x3))]) (rest := []) (lenOf pd0_6 rfl) rfl (by show 2 * 0 + _ ≤ _; exact Nat.le_of_eq rfl) (hb hby at_203) (fun _ _ => ⟨rfl, e60, (by decide : 4 + 0 ≤ _), (by decide : 265 + 0 ≤ _)⟩)
                dsimp only [Pt.U, Pt.locs, Pt.cells, Pt.slots] at X62 l62 y62 z62 st62 hQ62
                subst l62 y62 z62
                obtain ⟨rfl, N62q, e62⟩ := hQ62
                have N62 := Fr.app N60 N62q
                refine Goes.st (B := T62.setTop (mkF m 206 #[iv x0, iv x1, iv x2, iv x3, iv (w0_2 x0 x1 x2 x3), iv (w0_9 x0 x1 x2 x3), iv (w0_16 x0 x1 x2 x3), iv (w0_23 x0 x1 x2 x3), rv b1, iv (j0_61_s0 x0 x1 x2 x3), rv b8, iv (w0_85 x0 x1 x2 x3), iv (2 : Int32), rv b53] [(.int (rC (1 : Int32) (2 : Int32) (w0_9 x0 x1 x2 x3) (3 : Int32) (w0_37 x0 x1 x2 x3)))])) st62 ?_
                by_cases hc206_63 : (rC (1 : Int32) (2 : Int32) (w0_9 x0 x1 x2 x3) (3 : Int32) (w0_37 x0 x1 x2 x3)) = (0 : Int32)
                · skip
                  refine Goes.st (B := T62.setTop (mkF m 239 #[iv x0, iv x1, iv x2, iv x3, iv (w0_2 x0 x1 x2 x3), iv (w0_9 x0 x1 x2 x3), iv (w0_16 x0 x1 x2 x3), iv (w0_23 x0 x1 x2 x3), rv b1, iv (j0_61_s0 x0 x1 x2 x3), rv b8, iv (w0_85 x0 x1 x2 x3), iv (2 : Int32), rv b53] [])) (fun t k => ?_) ?_
                  · refine XS.ifYes X62.here hx rfl (pc0 := 206) (pc' := 239) rfl (hb hby at_206) rfl ((if0 _ _).trans (teq hc206_63).1) (by decide) (by decide) ?_
                    exact k
                  refine Goes.run X62 hx hown hci hcl hby (L := [(239, .iconst 0, 1)]) (by decide +kernel) rfl (g' := (mkF m 240 #[iv x0, iv x1, iv x2, iv x3, iv (w0_2 x0 x1 x2 x3), iv (w0_9 x0 x1 x2 x3), iv (w0_16 x0 x1 x2 x3), iv (w0_23 x0 x1 x2 x3), rv b1, iv (j0_61_s0 x0 x1 x2 x3), rv b8, iv (w0_85 x0 x1 x2 x3), iv (2 : Int32), rv b53] [(.int (0 : Int32))])) rfl ?_
                  exact Goes.retB X62 hx hlk (t := .boolean) Bd.returns (by simp) (hb hby at_240) rfl ⟨(congrArg (fun z => some (Value.int z)) (show (r0 x0 x1 x2 x3) = (0 : Int32) from ((((((if_neg hs136_17).trans (if_neg hs136_34)).trans (if_pos hs136_51)).trans (if_pos hc178_59)).trans (if_neg hc193_61)).trans (if_pos hc206_63))).symm), N62⟩ (by decide) (by decide)
                · skip
                  refine Goes.st (B := T62.setTop (mkF m 209 #[iv x0, iv x1, iv x2, iv x3, iv (w0_2 x0 x1 x2 x3), iv (w0_9 x0 x1 x2 x3), iv (w0_16 x0 x1 x2 x3), iv (w0_23 x0 x1 x2 x3), rv b1, iv (j0_61_s0 x0 x1 x2 x3), rv b8, iv (w0_85 x0 x1 x2 x3), iv (2 : Int32), rv b53] [])) (fun t k => ?_) ?_
                  · refine XS.ifNo X62.here hx rfl (hb hby at_206) rfl ((if0 _ _).trans (feq hc206_63).1) ?_
                    exact k
                  refine Goes.run X62 hx hown hci hcl hby (L := [(209, .aload 13, 2), (211, .iconst 2, 1), (212, .iload 12, 2), (214, .iload 6, 2)]) (by decide +kernel) rfl (g' := (mkF m 216 #[iv x0, iv x1, iv x2, iv x3, iv (w0_2 x0 x1 x2 x3), iv (w0_9 x0 x1 x2 x3), iv (w0_16 x0 x1 x2 x3), iv (w0_23 x0 x1 x2 x3), rv b1, iv (j0_61_s0 x0 x1 x2 x3), rv b8, iv (w0_85 x0 x1 x2 x3), iv (2 : Int32), rv b53] [(.int (w0_16 x0 x1 x2 x3)), (.int (2 : Int32)), (.int (2 : Int32)), (.ref b53)])) rfl ?_
                  obtain ⟨_, _, ⟨T64, L64, k64, n64⟩, -, X64, ⟨Lc64, hQ64, l64, y64, z64⟩, st64⟩ := Jvm.LawKit.callS X62 hx (y := ym11) hown (mvT hZ w_65) (mvT hZ w_66) (mvT hZ w_67) (mvT hZ w_68) (by decide) (backOf (W := 0) (rmD l Z a0 hw [] b53 (2 : Int32) (2 : Int32) (w0_16 x0 x1 x2 x3) h53 n0 Zn53 (by decide)) hZ w_68 w_67 (by decide) (by decide)) (g := (mkF m 216 #[iv x0, iv x1, iv x2, iv x3, iv (w0_2 x0 x1 x2 x3), iv (w0_9 x0 x1 x2 x3), iv (w0_16 x0 x1 x2 x3), iv (w0_23 x0 x1 x2 x3), rv b1, iv (j0_61_s0 x0 x1 x2 x3), rv b8, iv (w0_85 x0 x1 x2 x3), iv (2 : Int32), rv b53] [(.int (w0_16 x0 x1 x2 x3)), (.int (2 : Int32)), (.int (2 : Int32)), (.ref b53)])) rfl (by rw [hml]; rfl) (argsL := [(.ref b53), (.int (2 : Int32)), (.int (2 : Int32)), (.int (w0_16 x0 x1 x2 x3))]) (rest := []) (lenOf pd0_6 rfl) rfl (by show 2 * 0 + _ ≤ _; exact Nat.le_of_eq rfl) (hb hby at_216) (fun _ _ => ⟨rfl, e62, (by decide : 4 + 0 ≤ _), (by decide : 265 + 0 ≤ _)⟩)
                  dsimp only [Pt.U, Pt.locs, Pt.cells, Pt.slots] at X64 l64 y64 z64 st64 hQ64
                  subst l64 y64 z64
                  obtain ⟨rfl, N64q, e64⟩ := hQ64
                  have N64 := Fr.app N62 N64q
                  refine Goes.st (B := T64.setTop (mkF m 219 #[iv x0, iv x1, iv x2, iv x3, iv (w0_2 x0 x1 x2 x3), iv (w0_9 x0 x1 x2 x3), iv (w0_16 x0 x1 x2 x3), iv (w0_23 x0 x1 x2 x3), rv b1, iv (j0_61_s0 x0 x1 x2 x3), rv b8, iv (w0_85 x0 x1 x2 x3), iv (2 : Int32), rv b53] [(.int (rD (2 : Int32) (2 : Int32) (w0_16 x0 x1 x2 x3)))])) st64 ?_
                  by_cases hc219_65 : (rD (2 : Int32) (2 : Int32) (w0_16 x0 x1 x2 x3)) = (0 : Int32)
                  · skip
                    refine Goes.st (B := T64.setTop (mkF m 239 #[iv x0, iv x1, iv x2, iv x3, iv (w0_2 x0 x1 x2 x3), iv (w0_9 x0 x1 x2 x3), iv (w0_16 x0 x1 x2 x3), iv (w0_23 x0 x1 x2 x3), rv b1, iv (j0_61_s0 x0 x1 x2 x3), rv b8, iv (w0_85 x0 x1 x2 x3), iv (2 : Int32), rv b53] [])) (fun t k => ?_) ?_
                    · refine XS.ifYes X64.here hx rfl (pc0 := 219) (pc' := 239) rfl (hb hby at_219) rfl ((if0 _ _).trans (teq hc219_65).1) (by decide) (by decide) ?_
                      exact k
                    refine Goes.run X64 hx hown hci hcl hby (L := [(239, .iconst 0, 1)]) (by decide +kernel) rfl (g' := (mkF m 240 #[iv x0, iv x1, iv x2, iv x3, iv (w0_2 x0 x1 x2 x3), iv (w0_9 x0 x1 x2 x3), iv (w0_16 x0 x1 x2 x3), iv (w0_23 x0 x1 x2 x3), rv b1, iv (j0_61_s0 x0 x1 x2 x3), rv b8, iv (w0_85 x0 x1 x2 x3), iv (2 : Int32), rv b53] [(.int (0 : Int32))])) rfl ?_
                    exact Goes.retB X64 hx hlk (t := .boolean) Bd.returns (by simp) (hb hby at_240) rfl ⟨(congrArg (fun z => some (Value.int z)) (show (r0 x0 x1 x2 x3) = (0 : Int32) from (((((((if_neg hs136_17).trans (if_neg hs136_34)).trans (if_pos hs136_51)).trans (if_pos hc178_59)).trans (if_neg hc193_61)).trans (if_neg hc206_63)).trans (if_pos hc219_65))).symm), N64⟩ (by decide) (by decide)
                  · skip
                    refine Goes.st (B := T64.setTop (mkF m 222 #[iv x0, iv x1, iv x2, iv x3, iv (w0_2 x0 x1 x2 x3), iv (w0_9 x0 x1 x2 x3), iv (w0_16 x0 x1 x2 x3), iv (w0_23 x0 x1 x2 x3), rv b1, iv (j0_61_s0 x0 x1 x2 x3), rv b8, iv (w0_85 x0 x1 x2 x3), iv (2 : Int32), rv b53] [])) (fun t k => ?_) ?_
                    · refine XS.ifNo X64.here hx rfl (hb hby at_219) rfl ((if0 _ _).trans (feq hc219_65).1) ?_
                      exact k
                    refine Goes.run X64 hx hown hci hcl hby (L := [(222, .aload 13, 2), (224, .iconst 3, 1), (225, .iload 12, 2), (227, .iload 7, 2)]) (by decide +kernel) rfl (g' := (mkF m 229 #[iv x0, iv x1, iv x2, iv x3, iv (w0_2 x0 x1 x2 x3), iv (w0_9 x0 x1 x2 x3), iv (w0_16 x0 x1 x2 x3), iv (w0_23 x0 x1 x2 x3), rv b1, iv (j0_61_s0 x0 x1 x2 x3), rv b8, iv (w0_85 x0 x1 x2 x3), iv (2 : Int32), rv b53] [(.int (w0_23 x0 x1 x2 x3)), (.int (2 : Int32)), (.int (3 : Int32)), (.ref b53)])) rfl ?_
                    obtain ⟨_, _, ⟨T66, L66, k66, n66⟩, -, X66, ⟨Lc66, hQ66, l66, y66, z66⟩, st66⟩ := Jvm.LawKit.callS X64 hx (y := ym11) hown (mvT hZ w_65) (mvT hZ w_66) (mvT hZ w_67) (mvT hZ w_68) (by decide) (backOf (W := 0) (rmD l Z a0 hw [] b53 (3 : Int32) (2 : Int32) (w0_23 x0 x1 x2 x3) h53 n0 Zn53 (by decide)) hZ w_68 w_67 (by decide) (by decide)) (g := (mkF m 229 #[iv x0, iv x1, iv x2, iv x3, iv (w0_2 x0 x1 x2 x3), iv (w0_9 x0 x1 x2 x3), iv (w0_16 x0 x1 x2 x3), iv (w0_23 x0 x1 x2 x3), rv b1, iv (j0_61_s0 x0 x1 x2 x3), rv b8, iv (w0_85 x0 x1 x2 x3), iv (2 : Int32), rv b53] [(.int (w0_23 x0 x1 x2 x3)), (.int (2 : Int32)), (.int (3 : Int32)), (.ref b53)])) rfl (by rw [hml]; rfl) (argsL := [(.ref b53), (.int (3 : Int32)), (.int (2 : Int32)), (.int (w0_23 x0 x1 x2 x3))]) (rest := []) (lenOf pd0_6 rfl) rfl (by show 2 * 0 + _ ≤ _; exact Nat.le_of_eq rfl) (hb hby at_229) (fun _ _ => ⟨rfl, e64, (by decide : 4 + 0 ≤ _), (by decide : 265 + 0 ≤ _)⟩)
                    dsimp only [Pt.U, Pt.locs, Pt.cells, Pt.slots] at X66 l66 y66 z66 st66 hQ66
                    subst l66 y66 z66
                    obtain ⟨rfl, N66q, e66⟩ := hQ66
                    have N66 := Fr.app N64 N66q
                    refine Goes.st (B := T66.setTop (mkF m 232 #[iv x0, iv x1, iv x2, iv x3, iv (w0_2 x0 x1 x2 x3), iv (w0_9 x0 x1 x2 x3), iv (w0_16 x0 x1 x2 x3), iv (w0_23 x0 x1 x2 x3), rv b1, iv (j0_61_s0 x0 x1 x2 x3), rv b8, iv (w0_85 x0 x1 x2 x3), iv (2 : Int32), rv b53] [(.int (rD (3 : Int32) (2 : Int32) (w0_23 x0 x1 x2 x3)))])) st66 ?_
                    by_cases hc232_67 : (rD (3 : Int32) (2 : Int32) (w0_23 x0 x1 x2 x3)) = (0 : Int32)
                    · skip
                      refine Goes.st (B := T66.setTop (mkF m 239 #[iv x0, iv x1, iv x2, iv x3, iv (w0_2 x0 x1 x2 x3), iv (w0_9 x0 x1 x2 x3), iv (w0_16 x0 x1 x2 x3), iv (w0_23 x0 x1 x2 x3), rv b1, iv (j0_61_s0 x0 x1 x2 x3), rv b8, iv (w0_85 x0 x1 x2 x3), iv (2 : Int32), rv b53] [])) (fun t k => ?_) ?_
                      · refine XS.ifYes X66.here hx rfl (pc0 := 232) (pc' := 239) rfl (hb hby at_232) rfl ((if0 _ _).trans (teq hc232_67).1) (by decide) (by decide) ?_
                        exact k
                      refine Goes.run X66 hx hown hci hcl hby (L := [(239, .iconst 0, 1)]) (by decide +kernel) rfl (g' := (mkF m 240 #[iv x0, iv x1, iv x2, iv x3, iv (w0_2 x0 x1 x2 x3), iv (w0_9 x0 x1 x2 x3), iv (w0_16 x0 x1 x2 x3), iv (w0_23 x0 x1 x2 x3), rv b1, iv (j0_61_s0 x0 x1 x2 x3), rv b8, iv (w0_85 x0 x1 x2 x3), iv (2 : Int32), rv b53] [(.int (0 : Int32))])) rfl ?_
                      exact Goes.retB X66 hx hlk (t := .boolean) Bd.returns (by simp) (hb hby at_240) rfl ⟨(congrArg (fun z => some (Value.int z)) (show (r0 x0 x1 x2 x3) = (0 : Int32) from ((((((((if_neg hs136_17).trans (if_neg hs136_34)).trans (if_pos hs136_51)).trans (if_pos hc178_59)).trans (if_neg hc193_61)).trans (if_neg hc206_63)).trans (if_neg hc219_65)).trans (if_pos hc232_67))).symm), N66⟩ (by decide) (by decide)
                    · skip
                      refine Goes.st (B := T66.setTop (mkF m 235 #[iv x0, iv x1, iv x2, iv x3, iv (w0_2 x0 x1 x2 x3), iv (w0_9 x0 x1 x2 x3), iv (w0_16 x0 x1 x2 x3), iv (w0_23 x0 x1 x2 x3), rv b1, iv (j0_61_s0 x0 x1 x2 x3), rv b8, iv (w0_85 x0 x1 x2 x3), iv (2 : Int32), rv b53] [])) (fun t k => ?_) ?_
                      · refine XS.ifNo X66.here hx rfl (hb hby at_232) rfl ((if0 _ _).trans (feq hc232_67).1) ?_
                        exact k
                      refine Goes.run X66 hx hown hci hcl hby (L := [(235, .iconst 1, 1), (236, .goto 4, 3)]) (by decide +kernel) rfl (g' := (mkF m 240 #[iv x0, iv x1, iv x2, iv x3, iv (w0_2 x0 x1 x2 x3), iv (w0_9 x0 x1 x2 x3), iv (w0_16 x0 x1 x2 x3), iv (w0_23 x0 x1 x2 x3), rv b1, iv (j0_61_s0 x0 x1 x2 x3), rv b8, iv (w0_85 x0 x1 x2 x3), iv (2 : Int32), rv b53] [(.int (1 : Int32))])) rfl ?_
                      exact Goes.retB X66 hx hlk (t := .boolean) Bd.returns (by simp) (hb hby at_240) rfl ⟨(congrArg (fun z => some (Value.int z)) (show (r0 x0 x1 x2 x3) = (1 : Int32) from ((((((((if_neg hs136_17).trans (if_neg hs136_34)).trans (if_pos hs136_51)).trans (if_pos hc178_59)).trans (if_neg hc193_61)).trans (if_neg hc206_63)).trans (if_neg hc219_65)).trans (if_neg hc232_67))).symm), N66⟩ (by decide) (by decide)
            · skip
              refine Goes.st (B := T53.setTop (mkF m 181 #[iv x0, iv x1, iv x2, iv x3, iv (w0_2 x0 x1 x2 x3), iv (w0_9 x0 x1 x2 x3), iv (w0_16 x0 x1 x2 x3), iv (w0_23 x0 x1 x2 x3), rv b1, iv (j0_61_s0 x0 x1 x2 x3), rv b8, iv (w0_85 x0 x1 x2 x3), iv (2 : Int32), rv b53] [])) (fun t k => ?_) ?_
              · refine XS.icmpNo X53.here hx rfl (hb hby at_178) rfl (feq hc178_59).1 ?_
                exact k
              refine Goes.run X53 hx hown hci hcl hby (L := [(181, .iconst 0, 1)]) (by decide +kernel) rfl (g' := (mkF m 182 #[iv x0, iv x1, iv x2, iv x3, iv (w0_2 x0 x1 x2 x3), iv (w0_9 x0 x1 x2 x3), iv (w0_16 x0 x1 x2 x3), iv (w0_23 x0 x1 x2 x3), rv b1, iv (j0_61_s0 x0 x1 x2 x3), rv b8, iv (w0_85 x0 x1 x2 x3), iv (2 : Int32), rv b53] [(.int (0 : Int32))])) rfl ?_
              exact Goes.retB X53 hx hlk (t := .boolean) Bd.returns (by simp) (hb hby at_182) rfl ⟨(congrArg (fun z => some (Value.int z)) (show (r0 x0 x1 x2 x3) = (0 : Int32) from ((((if_neg hs136_17).trans (if_neg hs136_34)).trans (if_pos hs136_51)).trans (if_neg hc178_59))).symm), N53⟩ (by decide) (by decide)
          by_cases hc169_57 : (j0_61_s0 x0 x1 x2 x3) = (0 : Int32)
          · skip
            refine Goes.st (B := T53.setTop (mkF m 176 #[iv x0, iv x1, iv x2, iv x3, iv (w0_2 x0 x1 x2 x3), iv (w0_9 x0 x1 x2 x3), iv (w0_16 x0 x1 x2 x3), iv (w0_23 x0 x1 x2 x3), rv b1, iv (j0_61_s0 x0 x1 x2 x3), rv b8, iv (w0_85 x0 x1 x2 x3), iv (2 : Int32), rv b53] [(.int (w92_30 (j0_61_s0 x0 x1 x2 x3) (w0_32 x0 x1 x2 x3) (w0_37 x0 x1 x2 x3) (w0_42 x0 x1 x2 x3) (w0_47 x0 x1 x2 x3) (0 : Int32) (0 : Int32) (0 : Int32) (0 : Int32)))])) (fun t k => ?_) ?_
            · refine XS.ifYes X53.here hx rfl (pc0 := 169) (pc' := 176) rfl (hb hby at_169) rfl ((if0 _ _).trans (teq hc169_57).1) (by decide) (by decide) ?_
              exact k
            refine Goes.run X53 hx hown hci hcl hby (L := [(176, .iconst 0, 1)]) (by decide +kernel) rfl (g' := (mkF m 177 #[iv x0, iv x1, iv x2, iv x3, iv (w0_2 x0 x1 x2 x3), iv (w0_9 x0 x1 x2 x3), iv (w0_16 x0 x1 x2 x3), iv (w0_23 x0 x1 x2 x3), rv b1, iv (j0_61_s0 x0 x1 x2 x3), rv b8, iv (w0_85 x0 x1 x2 x3), iv (2 : Int32), rv b53] [(.int (0 : Int32)), (.int (w92_30 (j0_61_s0 x0 x1 x2 x3) (w0_32 x0 x1 x2 x3) (w0_37 x0 x1 x2 x3) (w0_42 x0 x1 x2 x3) (w0_47 x0 x1 x2 x3) (0 : Int32) (0 : Int32) (0 : Int32) (0 : Int32)))])) rfl ?_
            have q := jn177_58
            rw [show (j0_177_s0 x0 x1 x2 x3) = (0 : Int32) from (if_pos hc169_57)] at q
            exact q
          · skip
            refine Goes.st (B := T53.setTop (mkF m 172 #[iv x0, iv x1, iv x2, iv x3, iv (w0_2 x0 x1 x2 x3), iv (w0_9 x0 x1 x2 x3), iv (w0_16 x0 x1 x2 x3), iv (w0_23 x0 x1 x2 x3), rv b1, iv (j0_61_s0 x0 x1 x2 x3), rv b8, iv (w0_85 x0 x1 x2 x3), iv (2 : Int32), rv b53] [(.int (w92_30 (j0_61_s0 x0 x1 x2 x3) (w0_32 x0 x1 x2 x3) (w0_37 x0 x1 x2 x3) (w0_42 x0 x1 x2 x3) (w0_47 x0 x1 x2 x3) (0 : Int32) (0 : Int32) (0 : Int32) (0 : Int32)))])) (fun t k => ?_) ?_
            · refine XS.ifNo X53.here hx rfl (hb hby at_169) rfl ((if0 _ _).trans (feq hc169_57).1) ?_
              exact k
            refine Goes.run X53 hx hown hci hcl hby (L := [(172, .iconst 1, 1), (173, .goto 4, 3)]) (by decide +kernel) rfl (g' := (mkF m 177 #[iv x0, iv x1, iv x2, iv x3, iv (w0_2 x0 x1 x2 x3), iv (w0_9 x0 x1 x2 x3), iv (w0_16 x0 x1 x2 x3), iv (w0_23 x0 x1 x2 x3), rv b1, iv (j0_61_s0 x0 x1 x2 x3), rv b8, iv (w0_85 x0 x1 x2 x3), iv (2 : Int32), rv b53] [(.int (1 : Int32)), (.int (w92_30 (j0_61_s0 x0 x1 x2 x3) (w0_32 x0 x1 x2 x3) (w0_37 x0 x1 x2 x3) (w0_42 x0 x1 x2 x3) (w0_47 x0 x1 x2 x3) (0 : Int32) (0 : Int32) (0 : Int32) (0 : Int32)))])) rfl ?_
            have q := jn177_58
            rw [show (j0_177_s0 x0 x1 x2 x3) = (1 : Int32) from (if_neg hc169_57)] at q
            exact q
        · skip
          by_cases hs136_68 : (w0_115 x0 x1 x2 x3) = (3 : Int32)
          · skip
            rw [hs136_68]
            rw [hs136_68] at F_size_b8
            refine Goes.run X15 hx hown hci hcl hby (L := [(136, .aload 10, 2), (138, .iload 9, 2)]) (by decide +kernel) rfl (g' := (mkF m 140 #[iv x0, iv x1, iv x2, iv x3, iv (w0_2 x0 x1 x2 x3), iv (w0_9 x0 x1 x2 x3), iv (w0_16 x0 x1 x2 x3), iv (w0_23 x0 x1 x2 x3), rv b1, iv (j0_61_s0 x0 x1 x2 x3), rv b8, iv (w0_85 x0 x1 x2 x3), iv (3 : Int32), .unset] [(.int (j0_61_s0 x0 x1 x2 x3)), (.ref b8)])) rfl ?_
            obtain ⟨cq69, kq69, q69a, q69b, q69c⟩ := isOf hZ e15 E_b8
            obtain ⟨_, _, ⟨T69, L69, k69, n69⟩, -, X69, ⟨Lc69, hQ69, l69, y69, z69⟩, st69⟩ := X15.virtualBack hx (y := ym8) (z := ym8) hown (mvT hZ w_46) (mvT hZ w_47) (notFace_of_selects (args := #[]) (mvT hZ w_49)) (mvT hZ w_49) (mvT hZ w_48) (by decide) (backOf (W := 0) (rm93 l Z a0 hw [] b8 (j0_61_s0 x0 x1 x2 x3) b9 kc9 (w0_32 x0 x1 x2 x3) (w0_37 x0 x1 x2 x3) (w0_42 x0 x1 x2 x3) (w0_47 x0 x1 x2 x3) (0 : Int32) (0 : Int32) (0 : Int32) (0 : Int32) h14 n0 Zn14 E_b8 F_buffer_b8 F_size_b8 E_b9 V_b9 g_b8 g_b9 ne_b8_b9) hZ w_50 w_3 (by decide) (by decide)) q69a q69c (g := (mkF m 140 #[iv x0, iv x1, iv x2, iv x3, iv (w0_2 x0 x1 x2 x3), iv (w0_9 x0 x1 x2 x3), iv (w0_16 x0 x1 x2 x3), iv (w0_23 x0 x1 x2 x3), rv b1, iv (j0_61_s0 x0 x1 x2 x3), rv b8, iv (w0_85 x0 x1 x2 x3), iv (3 : Int32), .unset] [(.int (j0_61_s0 x0 x1 x2 x3)), (.ref b8)])) rfl (by rw [hml]; rfl) (Steps.refl _) (argsL := [(.int (j0_61_s0 x0 x1 x2 x3))]) (rest := []) (lenOf pd0_4 rfl) rfl (by show 2 * 0 + _ ≤ _; exact Nat.le_of_eq rfl) (hb hby at_140) (fun _ _ => ⟨rfl, e15, (by decide : 3 + 0 ≤ _), (by decide : 262 + 0 ≤ _)⟩)
            dsimp only [Pt.U, Pt.locs, Pt.cells, Pt.slots] at X69 l69 y69 z69 st69 hQ69
            subst l69 y69 z69
            obtain ⟨h69, eh69⟩ : ∃ z, z = T69.heap := ⟨_, rfl⟩
            rw [← eh69] at hQ69
            have e69 : T69.heap = h69 := eh69.symm
            obtain ⟨rfl, N69q, Kq69, o69_0, o69_1, o69_2, o69_3, o69_4⟩ := hQ69
            have N69 := Fr.app N15 N69q
            have E_b1 := E_b1.keep Kq69
            have V_b1 := V_b1.keep Kq69 (ninS ne_b1_b8 (ninS ne_b1_b9 nin0))
            have E_b8 : Exa Z h69 b8 "com/example/upcaster/upcaster/io/BinaryEncoder" := o69_0
            have F_buffer_b8 : Fld Z h69 b8 "com/example/upcaster/upcaster/io/BinaryEncoder" "buffer" "[B" (.ref b9) := o69_1
            have F_size_b8 : Fld Z h69 b8 "com/example/upcaster/upcaster/io/BinaryEncoder" "size" "I" (.int (4 : Int32)) := o69_2
            have E_b9 : Exa Z h69 b9 "[B" := o69_3
            have V_b9 : Arv Z h69 b9 kc9 .byte (256 : Int32) [(.int (w0_32 x0 x1 x2 x3)), (.int (w0_37 x0 x1 x2 x3)), (.int (w0_42 x0 x1 x2 x3)), (.int (w93_30 (j0_61_s0 x0 x1 x2 x3) (w0_32 x0 x1 x2 x3) (w0_37 x0 x1 x2 x3) (w0_42 x0 x1 x2 x3) (w0_47 x0 x1 x2 x3) (0 : Int32) (0 : Int32) (0 : Int32) (0 : Int32))), (.int (0 : Int32)), (.int (0 : Int32)), (.int (0 : Int32)), (.int (0 : Int32))] (.int (0 : Int32)) := o69_4
            have Zn69 : n0 ≤ h69.size := Nat.le_trans Zn14 Kq69.1
            refine Goes.st (B := T69.setTop (mkF m 143 #[iv x0, iv x1, iv x2, iv x3, iv (w0_2 x0 x1 x2 x3), iv (w0_9 x0 x1 x2 x3), iv (w0_16 x0 x1 x2 x3), iv (w0_23 x0 x1 x2 x3), rv b1, iv (j0_61_s0 x0 x1 x2 x3), rv b8, iv (w0_85 x0 x1 x2 x3), iv (3 : Int32), .unset] [])) (fun t k => st69.trans k) ?_
            refine Goes.run X69 hx hown hci hcl hby (L := [(143, .aload 10, 2)]) (by decide +kernel) rfl (g' := (mkF m 145 #[iv x0, iv x1, iv x2, iv x3, iv (w0_2 x0 x1 x2 x3), iv (w0_9 x0 x1 x2 x3), iv (w0_16 x0 x1 x2 x3), iv (w0_23 x0 x1 x2 x3), rv b1, iv (j0_61_s0 x0 x1 x2 x3), rv b8, iv (w0_85 x0 x1 x2 x3), iv (3 : Int32), .unset] [(.ref b8)])) rfl ?_
            obtain ⟨cq70, kq70, q70a, q70b, q70c⟩ := isOf hZ e69 E_b8
            obtain ⟨_, _, ⟨T70, L70, k70, n70⟩, -, X70, ⟨Lc70, hQ70, l70, y70, z70⟩, st70⟩ := X69.virtualBack hx (y := ym10) (z := ym10) hown (mvT hZ w_51) (mvT hZ w_52) (notFace_of_selects (args := #[]) (mvT hZ w_54)) (mvT hZ w_54) (mvT hZ w_53) (by decide) (backOf (W := 0) (rmB3 l Z a0 hw [] b8 b9 kc9 (w0_32 x0 x1 x2 x3) (w0_37 x0 x1 x2 x3) (w0_42 x0 x1 x2 x3) (w93_30 (j0_61_s0 x0 x1 x2 x3) (w0_32 x0 x1 x2 x3) (w0_37 x0 x1 x2 x3) (w0_42 x0 x1 x2 x3) (w0_47 x0 x1 x2 x3) (0 : Int32) (0 : Int32) (0 : Int32) (0 : Int32)) (0 : Int32) (0 : Int32) (0 : Int32) (0 : Int32) h69 n0 Zn69 F_buffer_b8 F_size_b8 V_b9) hZ w_55 w_3 (by decide) (by decide)) q70a q70c (g := (mkF m 145 #[iv x0, iv x1, iv x2, iv x3, iv (w0_2 x0 x1 x2 x3), iv (w0_9 x0 x1 x2 x3), iv (w0_16 x0 x1 x2 x3), iv (w0_23 x0 x1 x2 x3), rv b1, iv (j0_61_s0 x0 x1 x2 x3), rv b8, iv (w0_85 x0 x1 x2 x3), iv (3 : Int32), .unset] [(.ref b8)])) rfl (by rw [hml]; rfl) (Steps.refl _) (argsL := []) (rest := []) (lenOf pd0_5 rfl) rfl (by show 2 * 0 + _ ≤ _; exact Nat.le_of_eq rfl) (hb hby at_145) (fun _ _ => ⟨rfl, e69, (by decide : 3 + 1 ≤ _), (by decide : 262 + 4 ≤ _)⟩)
            dsimp only [Pt.U, Pt.locs, Pt.cells, Pt.slots] at X70 l70 y70 z70 st70 hQ70
            subst l70 y70 z70
            obtain ⟨h70, eh70⟩ : ∃ z, z = T70.heap := ⟨_, rfl⟩
            rw [← eh70] at hQ70
            have e70 : T70.heap = h70 := eh70.symm
            obtain ⟨b70, kc70, rfl, N70q, Kq70, szq70, o70_0, o70_1⟩ := hQ70
            have ne_b1_b70 : b1 ≠ b70 := Nat.ne_of_lt (Nat.lt_of_lt_of_le E_b1.lt szq70)
            have ne_b8_b70 : b8 ≠ b70 := Nat.ne_of_lt (Nat.lt_of_lt_of_le E_b8.lt szq70)
            have ne_b9_b70 : b9 ≠ b70 := Nat.ne_of_lt (Nat.lt_of_lt_of_le E_b9.lt szq70)
            have g_b70 : n0 ≤ b70 := Nat.le_trans Zn69 szq70
            have N70 := Fr.app N69 N70q
            have E_b1 := E_b1.keep Kq70
            have V_b1 := V_b1.keep Kq70 nin0
            have E_b8 := E_b8.keep Kq70
            have F_buffer_b8 := F_buffer_b8.keep Kq70 nin0
            have F_size_b8 := F_size_b8.keep Kq70 nin0
            have E_b9 := E_b9.keep Kq70
            have V_b9 := V_b9.keep Kq70 nin0
            have E_b70 : Exa Z h70 b70 "[B" := o70_0
            have V_b70 : Arv Z h70 b70 kc70 .byte (4 : Int32) [(.int (w0_32 x0 x1 x2 x3)), (.int (w0_37 x0 x1 x2 x3)), (.int (w0_42 x0 x1 x2 x3)), (.int (w93_30 (j0_61_s0 x0 x1 x2 x3) (w0_32 x0 x1 x2 x3) (w0_37 x0 x1 x2 x3) (w0_42 x0 x1 x2 x3) (w0_47 x0 x1 x2 x3) (0 : Int32) (0 : Int32) (0 : Int32) (0 : Int32)))] (.int (0 : Int32)) := o70_1
            have Zn70 : n0 ≤ h70.size := Nat.le_trans Zn69 Kq70.1
            refine Goes.st (B := T70.setTop (mkF m 148 #[iv x0, iv x1, iv x2, iv x3, iv (w0_2 x0 x1 x2 x3), iv (w0_9 x0 x1 x2 x3), iv (w0_16 x0 x1 x2 x3), iv (w0_23 x0 x1 x2 x3), rv b1, iv (j0_61_s0 x0 x1 x2 x3), rv b8, iv (w0_85 x0 x1 x2 x3), iv (3 : Int32), .unset] [(.ref b70)])) (fun t k => st70.trans k) ?_
            refine Goes.run X70 hx hown hci hcl hby (L := [(148, .astore 13, 2), (150, .aload 13, 2)]) (by decide +kernel) rfl (g' := (mkF m 152 #[iv x0, iv x1, iv x2, iv x3, iv (w0_2 x0 x1 x2 x3), iv (w0_9 x0 x1 x2 x3), iv (w0_16 x0 x1 x2 x3), iv (w0_23 x0 x1 x2 x3), rv b1, iv (j0_61_s0 x0 x1 x2 x3), rv b8, iv (w0_85 x0 x1 x2 x3), iv (3 : Int32), rv b70] [(.ref b70)])) rfl ?_
            obtain ⟨cl71, Ar71, q71, S71, M71, Hs71, G71⟩ := id V_b70
            refine Goes.st (B := T70.setTop (mkF m 153 #[iv x0, iv x1, iv x2, iv x3, iv (w0_2 x0 x1 x2 x3), iv (w0_9 x0 x1 x2 x3), iv (w0_16 x0 x1 x2 x3), iv (w0_23 x0 x1 x2 x3), rv b1, iv (j0_61_s0 x0 x1 x2 x3), rv b8, iv (w0_85 x0 x1 x2 x3), iv (3 : Int32), rv b70] [(.int (4 : Int32))])) (fun t k => ?_) ?_
            · refine X70.arraylength hx (cell := cl71) (by rw [e70]; exact Ar71.1) (State.isArrayOf_alike hZ.alike Ar71.2.1) (g := (mkF m 152 #[iv x0, iv x1, iv x2, iv x3, iv (w0_2 x0 x1 x2 x3), iv (w0_9 x0 x1 x2 x3), iv (w0_16 x0 x1 x2 x3), iv (w0_23 x0 x1 x2 x3), rv b1, iv (j0_61_s0 x0 x1 x2 x3), rv b8, iv (w0_85 x0 x1 x2 x3), iv (3 : Int32), rv b70] [(.ref b70)])) rfl (rest := []) rfl (hb hby at_152) _ ?_
              rw [len_of S71 M71]
              exact k
            refine Goes.run X70 hx hown hci hcl hby (L := [(153, .iload 12, 2), (155, .iconst 1, 1), (156, .iadd, 1)]) (by decide +kernel) rfl (g' := (mkF m 157 #[iv x0, iv x1, iv x2, iv x3, iv (w0_2 x0 x1 x2 x3), iv (w0_9 x0 x1 x2 x3), iv (w0_16 x0 x1 x2 x3), iv (w0_23 x0 x1 x2 x3), rv b1, iv (j0_61_s0 x0 x1 x2 x3), rv b8, iv (w0_85 x0 x1 x2 x3), iv (3 : Int32), rv b70] [(.int (4 : Int32)), (.int (4 : Int32))])) rfl ?_
            have hc157_72 : (4 : Int32) = (4 : Int32) := rfl
            refine Goes.st (B := T70.setTop (mkF m 162 #[iv x0, iv x1, iv x2, iv x3, iv (w0_2 x0 x1 x2 x3), iv (w0_9 x0 x1 x2 x3), iv (w0_16 x0 x1 x2 x3), iv (w0_23 x0 x1 x2 x3), rv b1, iv (j0_61_s0 x0 x1 x2 x3), rv b8, iv (w0_85 x0 x1 x2 x3), iv (3 : Int32), rv b70] [])) (fun t k => ?_) ?_
            · refine XS.icmpYes X70.here hx rfl (pc0 := 157) (pc' := 162) rfl (hb hby at_157) rfl (teq hc157_72).1 (by decide) (by decide) ?_
              exact k
            refine Goes.run X70 hx hown hci hcl hby (L := [(162, .aload 13, 2), (164, .iload 12, 2)]) (by decide +kernel) rfl (g' := (mkF m 166 #[iv x0, iv x1, iv x2, iv x3, iv (w0_2 x0 x1 x2 x3), iv (w0_9 x0 x1 x2 x3), iv (w0_16 x0 x1 x2 x3), iv (w0_23 x0 x1 x2 x3), rv b1, iv (j0_61_s0 x0 x1 x2 x3), rv b8, iv (w0_85 x0 x1 x2 x3), iv (3 : Int32), rv b70] [(.int (3 : Int32)), (.ref b70)])) rfl ?_
            obtain ⟨cl73, Ar73, q73, S73, M73, Hs73, G73⟩ := id V_b70
            have hin73 : ¬ ((3 : Int32) < 0 ∨ cl73.slots.size ≤ ((3 : Int32)).toNatClampNeg) := inb_of S73 ⟨(by decide), (by decide)⟩
            have hat73 : cl73.slots[((3 : Int32)).toNatClampNeg]? = some (.int (w93_30 (j0_61_s0 x0 x1 x2 x3) (w0_32 x0 x1 x2 x3) (w0_37 x0 x1 x2 x3) (w0_42 x0 x1 x2 x3) (w0_47 x0 x1 x2 x3) (0 : Int32) (0 : Int32) (0 : Int32) (0 : Int32))) := Hs73.at hin73 rfl
            refine Goes.st (B := T70.setTop (mkF m 167 #[iv x0, iv x1, iv x2, iv x3, iv (w0_2 x0 x1 x2 x3), iv (w0_9 x0 x1 x2 x3), iv (w0_16 x0 x1 x2 x3), iv (w0_23 x0 x1 x2 x3), rv b1, iv (j0_61_s0 x0 x1 x2 x3), rv b8, iv (w0_85 x0 x1 x2 x3), iv (3 : Int32), rv b70] [(.int (w93_30 (j0_61_s0 x0 x1 x2 x3) (w0_32 x0 x1 x2 x3) (w0_37 x0 x1 x2 x3) (w0_42 x0 x1 x2 x3) (w0_47 x0 x1 x2 x3) (0 : Int32) (0 : Int32) (0 : Int32) (0 : Int32)))])) (X70.baloadBytes hx (j := (3 : Int32)) (v := (.int (w93_30 (j0_61_s0 x0 x1 x2 x3) (w0_32 x0 x1 x2 x3) (w0_37 x0 x1 x2 x3) (w0_42 x0 x1 x2 x3) (w0_47 x0 x1 x2 x3) (0 : Int32) (0 : Int32) (0 : Int32) (0 : Int32)))) (by rw [e70]; exact Ar73.1) (State.isArrayOf_alike hZ.alike Ar73.2.1) Ar73.2.2 hin73 hat73 (g := (mkF m 166 #[iv x0, iv x1, iv x2, iv x3, iv (w0_2 x0 x1 x2 x3), iv (w0_9 x0 x1 x2 x3), iv (w0_16 x0 x1 x2 x3), iv (w0_23 x0 x1 x2 x3), rv b1, iv (j0_61_s0 x0 x1 x2 x3), rv b8, iv (w0_85 x0 x1 x2 x3), iv (3 : Int32), rv b70] [(.int (3 : Int32)), (.ref b70)])) rfl rfl (hb hby at_166)) ?_
            refine Goes.run X70 hx hown hci hcl hby (L := [(167, .iload 9, 2)]) (by decide +kernel) rfl (g' := (mkF m 169 #[iv x0, iv x1, iv x2, iv x3, iv (w0_2 x0 x1 x2 x3), iv (w0_9 x0 x1 x2 x3), iv (w0_16 x0 x1 x2 x3), iv (w0_23 x0 x1 x2 x3), rv b1, iv (j0_61_s0 x0 x1 x2 x3), rv b8, iv (w0_85 x0 x1 x2 x3), iv (3 : Int32), rv b70] [(.int (j0_61_s0 x0 x1 x2 x3)), (.int (w93_30 (j0_61_s0 x0 x1 x2 x3) (w0_32 x0 x1 x2 x3) (w0_37 x0 x1 x2 x3) (w0_42 x0 x1 x2 x3) (w0_47 x0 x1 x2 x3) (0 : Int32) (0 : Int32) (0 : Int32) (0 : Int32)))])) rfl ?_
            have jn177_75 : Goes p e below s (QL (some (.int (r0 x0 x1 x2 x3))) n0) room_1.cells room_1.slots (T70.setTop (mkF m 177 #[iv x0, iv x1, iv x2, iv x3, iv (w0_2 x0 x1 x2 x3), iv (w0_9 x0 x1 x2 x3), iv (w0_16 x0 x1 x2 x3), iv (w0_23 x0 x1 x2 x3), rv b1, iv (j0_61_s0 x0 x1 x2 x3), rv b8, iv (w0_85 x0 x1 x2 x3), iv (3 : Int32), rv b70] [(.int (j0_177_s0 x0 x1 x2 x3)), (.int (w93_30 (j0_61_s0 x0 x1 x2 x3) (w0_32 x0 x1 x2 x3) (w0_37 x0 x1 x2 x3) (w0_42 x0 x1 x2 x3) (w0_47 x0 x1 x2 x3) (0 : Int32) (0 : Int32) (0 : Int32) (0 : Int32)))])) := by
              refine Goes.run X70 hx hown hci hcl hby (L := [(177, .i2b, 1)]) (by decide +kernel) rfl (g' := (mkF m 178 #[iv x0, iv x1, iv x2, iv x3, iv (w0_2 x0 x1 x2 x3), iv (w0_9 x0 x1 x2 x3), iv (w0_16 x0 x1 x2 x3), iv (w0_23 x0 x1 x2 x3), rv b1, iv (j0_61_s0 x0 x1 x2 x3), rv b8, iv (w0_85 x0 x1 x2 x3), iv (3 : Int32), rv b70] [(.int ((j0_177_s0 x0 x1 x2 x3).toInt8.toInt32)), (.int (w93_30 (j0_61_s0 x0 x1 x2 x3) (w0_32 x0 x1 x2 x3) (w0_37 x0 x1 x2 x3) (w0_42 x0 x1 x2 x3) (w0_47 x0 x1 x2 x3) (0 : Int32) (0 : Int32) (0 : Int32) (0 : Int32)))])) rfl ?_
              by_cases hc178_76 : (w93_30 (j0_61_s0 x0 x1 x2 x3) (w0_32 x0 x1 x2 x3) (w0_37 x0 x1 x2 x3) (w0_42 x0 x1 x2 x3) (w0_47 x0 x1 x2 x3) (0 : Int32) (0 : Int32) (0 : Int32) (0 : Int32)) = ((j0_177_s0 x0 x1 x2 x3).toInt8.toInt32)
              · skip
                refine Goes.st (B := T70.setTop (mkF m 183 #[iv x0, iv x1, iv x2, iv x3, iv (w0_2 x0 x1 x2 x3), iv (w0_9 x0 x1 x2 x3), iv (w0_16 x0 x1 x2 x3), iv (w0_23 x0 x1 x2 x3), rv b1, iv (j0_61_s0 x0 x1 x2 x3), rv b8, iv (w0_85 x0 x1 x2 x3), iv (3 : Int32), rv b70] [])) (fun t k => ?_) ?_
                · refine XS.icmpYes X70.here hx rfl (pc0 := 178) (pc' := 183) rfl (hb hby at_178) rfl (teq hc178_76).1 (by decide) (by decide) ?_
                  exact k
                refine Goes.run X70 hx hown hci hcl hby (L := [(183, .aload 13, 2), (185, .iconst 0, 1), (186, .iload 12, 2), (188, .iload 4, 2)]) (by decide +kernel) rfl (g' := (mkF m 190 #[iv x0, iv x1, iv x2, iv x3, iv (w0_2 x0 x1 x2 x3), iv (w0_9 x0 x1 x2 x3), iv (w0_16 x0 x1 x2 x3), iv (w0_23 x0 x1 x2 x3), rv b1, iv (j0_61_s0 x0 x1 x2 x3), rv b8, iv (w0_85 x0 x1 x2 x3), iv (3 : Int32), rv b70] [(.int (w0_2 x0 x1 x2 x3)), (.int (3 : Int32)), (.int (0 : Int32)), (.ref b70)])) rfl ?_
                obtain ⟨_, _, ⟨T77, L77, k77, n77⟩, -, X77, ⟨Lc77, hQ77, l77, y77, z77⟩, st77⟩ := Jvm.LawKit.callS X70 hx (y := ym11) hown (mvT hZ w_65) (mvT hZ w_66) (mvT hZ w_67) (mvT hZ w_68) (by decide) (backOf (W := 0) (rmC l Z a0 hw [] b70 (0 : Int32) (3 : Int32) (w0_2 x0 x1 x2 x3) kc70 (4 : Int32) [(.int (w0_32 x0 x1 x2 x3)), (.int (w0_37 x0 x1 x2 x3)), (.int (w0_42 x0 x1 x2 x3)), (.int (w93_30 (j0_61_s0 x0 x1 x2 x3) (w0_32 x0 x1 x2 x3) (w0_37 x0 x1 x2 x3) (w0_42 x0 x1 x2 x3) (w0_47 x0 x1 x2 x3) (0 : Int32) (0 : Int32) (0 : Int32) (0 : Int32)))] (w0_32 x0 x1 x2 x3) h70 n0 Zn70 V_b70 (by decide) (by decide) rfl) hZ w_68 w_67 (by decide) (by decide)) (g := (mkF m 190 #[iv x0, iv x1, iv x2, iv x3, iv (w0_2 x0 x1 x2 x3), iv (w0_9 x0 x1 x2 x3), iv (w0_16 x0 x1 x2 x3), iv (w0_23 x0 x1 x2 x3), rv b1, iv (j0_61_s0 x0 x1 x2 x3), rv b8, iv (w0_85 x0 x1 x2 x3), iv (3 : Int32), rv b70] [(.int (w0_2 x0 x1 x2 x3)), (.int (3 : Int32)), (.int (0 : Int32)), (.ref b70)])) rfl (by rw [hml]; rfl) (argsL := [(.ref b70), (.int (0 : Int32)), (.int (3 : Int32)), (.int (w0_2 x0 x1 x2 x3))]) (rest := []) (lenOf pd0_6 rfl) rfl (by show 2 * 0 + _ ≤ _; exact Nat.le_of_eq rfl) (hb hby at_190) (fun _ _ => ⟨rfl, e70, (by decide : 4 + 0 ≤ _), (by decide : 266 + 0 ≤ _)⟩)
                dsimp only [Pt.U, Pt.locs, Pt.cells, Pt.slots] at X77 l77 y77 z77 st77 hQ77
                subst l77 y77 z77
                obtain ⟨rfl, N77q, e77⟩ := hQ77
                have N77 := Fr.app N70 N77q
                refine Goes.st (B := T77.setTop (mkF m 193 #[iv x0, iv x1, iv x2, iv x3, iv (w0_2 x0 x1 x2 x3), iv (w0_9 x0 x1 x2 x3), iv (w0_16 x0 x1 x2 x3), iv (w0_23 x0 x1 x2 x3), rv b1, iv (j0_61_s0 x0 x1 x2 x3), rv b8, iv (w0_85 x0 x1 x2 x3), iv (3 : Int32), rv b70] [(.int (rC (0 : Int32) (3 : Int32) (w0_2 x0 x1 x2 x3) (4 : Int32) (w0_32 x0 x1 x2 x3)))])) st77 ?_
                by_cases hc193_78 : (rC (0 : Int32) (3 : Int32) (w0_2 x0 x1 x2 x3) (4 : Int32) (w0_32 x0 x1 x2 x3)) = (0 : Int32)
                · skip
                  refine Goes.st (B := T77.setTop (mkF m 239 #[iv x0, iv x1, iv x2, iv x3, iv (w0_2 x0 x1 x2 x3), iv (w0_9 x0 x1 x2 x3), iv (w0_16 x0 x1 x2 x3), iv (w0_23 x0 x1 x2 x3), rv b1, iv (j0_61_s0 x0 x1 x2 x3), rv b8, iv (w0_85 x0 x1 x2 x3), iv (3 : Int32), rv b70] [])) (fun t k => ?_) ?_
                  · refine XS.ifYes X77.here hx rfl (pc0 := 193) (pc' := 239) rfl (hb hby at_193) rfl ((if0 _ _).trans (teq hc193_78).1) (by decide) (by decide) ?_
                    exact k
                  refine Goes.run X77 hx hown hci hcl hby (L := [(239, .iconst 0, 1)]) (by decide +kernel) rfl (g' := (mkF m 240 #[iv x0, iv x1, iv x2, iv x3, iv (w0_2 x0 x1 x2 x3), iv (w0_9 x0 x1 x2 x3), iv (w0_16 x0 x1 x2 x3), iv (w0_23 x0 x1 x2 x3), rv b1, iv (j0_61_s0 x0 x1 x2 x3), rv b8, iv (w0_85 x0 x1 x2 x3), iv (3 : Int32), rv b70] [(.int (0 : Int32))])) rfl ?_
                  exact Goes.retB X77 hx hlk (t := .boolean) Bd.returns (by simp) (hb hby at_240) rfl ⟨(congrArg (fun z => some (Value.int z)) (show (r0 x0 x1 x2 x3) = (0 : Int32) from ((((((if_neg hs136_17).trans (if_neg hs136_34)).trans (if_neg hs136_51)).trans (if_pos hs136_68)).trans (if_pos hc178_76)).trans (if_pos hc193_78))).symm), N77⟩ (by decide) (by decide)
                · skip
                  refine Goes.st (B := T77.setTop (mkF m 196 #[iv x0, iv x1, iv x2, iv x3, iv (w0_2 x0 x1 x2 x3), iv (w0_9 x0 x1 x2 x3), iv (w0_16 x0 x1 x2 x3), iv (w0_23 x0 x1 x2 x3), rv b1, iv (j0_61_s0 x0 x1 x2 x3), rv b8, iv (w0_85 x0 x1 x2 x3), iv (3 : Int32), rv b70] [])) (fun t k => ?_) ?_
                  · refine XS.ifNo X77.here hx rfl (hb hby at_193) rfl ((if0 _ _).trans (feq hc193_78).1) ?_
                    exact k
                  refine Goes.run X77 hx hown hci hcl hby (L := [(196, .aload 13, 2), (198, .iconst 1, 1), (199, .iload 12, 2), (201, .iload 5, 2)]) (by decide +kernel) rfl (g' := (mkF m 203 #[iv x0, iv x1, iv x2, iv x3, iv (w0_2 x0 x1 x2 x3), iv (w0_9 x0 x1 x2 x3), iv (w0_16 x0 x1 x2 x3), iv (w0_23 x0 x1 x2 x3), rv b1, iv (j0_61_s0 x0 x1 x2 x3), rv b8, iv (w0_85 x0 x1 x2 x3), iv (3 : Int32), rv b70] [(.int (w0_9 x0 x1 x2 x3)), (.int (3 : Int32)), (.int (1 : Int32)), (.ref b70)])) rfl ?_
                  obtain ⟨_, _, ⟨T79, L79, k79, n79⟩, -, X79, ⟨Lc79, hQ79, l79, y79, z79⟩, st79⟩ := Jvm.LawKit.callS X77 hx (y := ym11) hown (mvT hZ w_65) (mvT hZ w_66) (mvT hZ w_67) (mvT hZ w_68) (by decide) (backOf (W := 0) (rmC l Z a0 hw [] b70 (1 : Int32) (3 : Int32) (w0_9 x0 x1 x2 x3) kc70 (4 : Int32) [(.int (w0_32 x0 x1 x2 x3)), (.int (w0_37 x0 x1 x2 x3)), (.int (w0_42 x0 x1 x2 x3)), (.int (w93_30 (j0_61_s0 x0 x1 x2 x3) (w0_32 x0 x1 x2 x3) (w0_37 x0 x1 x2 x3) (w0_42 x0 x1 x2 x3) (w0_47 x0 x1 x2 x3) (0 : Int32) (0 : Int32) (0 : Int32) (0 : Int32)))] (w0_37 x0 x1 x2 x3) h70 n0 Zn70 V_b70 (by decide) (by decide) rfl) hZ w_68 w_67 (by decide) (by decide)) (g := (mkF m 203 #[iv x0, iv x1, iv x2, iv x3, iv (w0_2 x0 x1 x2 x3), iv (w0_9 x0 x1 x2 x3), iv (w0_16 x0 x1 x2 x3), iv (w0_23 x0 x1 x2 x3), rv b1, iv (j0_61_s0 x0 x1 x2 x3), rv b8, iv (w0_85 x0 x1 x2 x3), iv (3 : Int32), rv b70] [(.int (w0_9 x0 x1 x2 x3)), (.int (3 : Int32)), (.int (1 : Int32)), (.ref b70)])) rfl (by rw [hml]; rfl) (argsL := [(.ref b70), (.int (1 : Int32)), (.int (3 : Int32)), (.int (w0_9 x0 x1 x2 x3))]) (rest := []) (lenOf pd0_6 rfl) rfl (by show 2 * 0 + _ ≤ _; exact Nat.le_of_eq rfl) (hb hby at_203) (fun _ _ => ⟨rfl, e77, (by decide : 4 + 0 ≤ _), (by decide : 266 + 0 ≤ _)⟩)
                  dsimp only [Pt.U, Pt.locs, Pt.cells, Pt.slots] at X79 l79 y79 z79 st79 hQ79
                  subst l79 y79 z79
                  obtain ⟨rfl, N79q, e79⟩ := hQ79
                  have N79 := Fr.app N77 N79q
                  refine Goes.st (B := T79.setTop (mkF m 206 #[iv x0, iv x1, iv x2, iv x3, iv (w0_2 x0 x1 x2 x3), iv (w0_9 x0 x1 x2 x3), iv (w0_16 x0 x1 x2 x3), iv (w0_23 x0 x1 x2 x3), rv b1, iv (j0_61_s0 x0 x1 x2 x3), rv b8, iv (w0_85 x0 x1 x2 x3), iv (3 : Int32), rv b70] [(.int (rC (1 : Int32) (3 : Int32) (w0_9 x0 x1 x2 x3) (4 : Int32) (w0_37 x0 x1 x2 x3)))])) st79 ?_
                  by_cases hc206_80 : (rC (1 : Int32) (3 : Int32) (w0_9 x0 x1 x2 x3) (4 : Int32) (w0_37 x0 x1 x2 x3)) = (0 : Int32)
                  · skip
                    refine Goes.st (B := T79.setTop (mkF m 239 #[iv x0, iv x1, iv x2, iv x3, iv (w0_2 x0 x1 x2 x3), iv (w0_9 x0 x1 x2 x3), iv (w0_16 x0 x1 x2 x3), iv (w0_23 x0 x1 x2 x3), rv b1, iv (j0_61_s0 x0 x1 x2 x3), rv b8, iv (w0_85 x0 x1 x2 x3), iv (3 : Int32), rv b70] [])) (fun t k => ?_) ?_
                    · refine XS.ifYes X79.here hx rfl (pc0 := 206) (pc' := 239) rfl (hb hby at_206) rfl ((if0 _ _).trans (teq hc206_80).1) (by decide) (by decide) ?_
                      exact k
                    refine Goes.run X79 hx hown hci hcl hby (L := [(239, .iconst 0, 1)]) (by decide +kernel) rfl (g' := (mkF m 240 #[iv x0, iv x1, iv x2, iv x3, iv (w0_2 x0 x1 x2 x3), iv (w0_9 x0 x1 x2 x3), iv (w0_16 x0 x1 x2 x3), iv (w0_23 x0 x1 x2 x3), rv b1, iv (j0_61_s0 x0 x1 x2 x3), rv b8, iv (w0_85 x0 x1 x2 x3), iv (3 : Int32), rv b70] [(.int (0 : Int32))])) rfl ?_
                    exact Goes.retB X79 hx hlk (t := .boolean) Bd.returns (by simp) (hb hby at_240) rfl ⟨(congrArg (fun z => some (Value.int z)) (show (r0 x0 x1 x2 x3) = (0 : Int32) from (((((((if_neg hs136_17).trans (if_neg hs136_34)).trans (if_neg hs136_51)).trans (if_pos hs136_68)).trans (if_pos hc178_76)).trans (if_neg hc193_78)).trans (if_pos hc206_80))).symm), N79⟩ (by decide) (by decide)
                  · skip
                    refine Goes.st (B := T79.setTop (mkF m 209 #[iv x0, iv x1, iv x2, iv x3, iv (w0_2 x0 x1 x2 x3), iv (w0_9 x0 x1 x2 x3), iv (w0_16 x0 x1 x2 x3), iv (w0_23 x0 x1 x2 x3), rv b1, iv (j0_61_s0 x0 x1 x2 x3), rv b8, iv (w0_85 x0 x1 x2 x3), iv (3 : Int32), rv b70] [])) (fun t k => ?_) ?_
                    · refine XS.ifNo X79.here hx rfl (hb hby at_206) rfl ((if0 _ _).trans (feq hc206_80).1) ?_
                      exact k
                    refine Goes.run X79 hx hown hci hcl hby (L := [(209, .aload 13, 2), (211, .iconst 2, 1), (212, .iload 12, 2), (214, .iload 6, 2)]) (by decide +kernel) rfl (g' := (mkF m 216 #[iv x0, iv x1, iv x2, iv x3, iv (w0_2 x0 x1 x2 x3), iv (w0_9 x0 x1 x2 x3), iv (w0_16 x0 x1 x2 x3), iv (w0_23 x0 x1 x2 x3), rv b1, iv (j0_61_s0 x0 x1 x2 x3), rv b8, iv (w0_85 x0 x1 x2 x3), iv (3 : Int32), rv b70] [(.int (w0_16 x0 x1 x2 x3)), (.int (3 : Int32)), (.int (2 : Int32)), (.ref b70)])) rfl ?_
                    obtain ⟨_, _, ⟨T81, L81, k81, n81⟩, -, X81, ⟨Lc81, hQ81, l81, y81, z81⟩, st81⟩ := Jvm.LawKit.callS X79 hx (y := ym11) hown (mvT hZ w_65) (mvT hZ w_66) (mvT hZ w_67) (mvT hZ w_68) (by decide) (backOf (W := 0) (rmC l Z a0 hw [] b70 (2 : Int32) (3 : Int32) (w0_16 x0 x1 x2 x3) kc70 (4 : Int32) [(.int (w0_32 x0 x1 x2 x3)), (.int (w0_37 x0 x1 x2 x3)), (.int (w0_42 x0 x1 x2 x3)), (.int (w93_30 (j0_61_s0 x0 x1 x2 x3) (w0_32 x0 x1 x2 x3) (w0_37 x0 x1 x2 x3) (w0_42 x0 x1 x2 x3) (w0_47 x0 x1 x2 x3) (0 : Int32) (0 : Int32) (0 : Int32) (0 : Int32)))] (w0_42 x0 x1 x2 x3) h70 n0 Zn70 V_b70 (by decide) (by decide) rfl) hZ w_68 w_67 (by decide) (by decide)) (g := (mkF m 216 #[iv x0, iv x1, iv x2, iv x3, iv (w0_2 x0 x1 x2 x3), iv (w0_9 x0 x1 x2 x3), iv (w0_16 x0 x1 x2 x3), iv (w0_23 x0 x1 x2 x3), rv b1, iv (j0_61_s0 x0 x1 x2 x3), rv b8, iv (w0_85 x0 x1 x2 x3), iv (3 : Int32), rv b70] [(.int (w0_16 x0 x1 x2 x3)), (.int (3 : Int32)), (.int (2 : Int32)), (.ref b70)])) rfl (by rw [hml]; rfl) (argsL := [(.ref b70), (.int (2 : Int32)), (.int (3 : Int32)), (.int (w0_16 x0 x1 x2 x3))]) (rest := []) (lenOf pd0_6 rfl) rfl (by show 2 * 0 + _ ≤ _; exact Nat.le_of_eq rfl) (hb hby at_216) (fun _ _ => ⟨rfl, e79, (by decide : 4 + 0 ≤ _), (by decide : 266 + 0 ≤ _)⟩)
                    dsimp only [Pt.U, Pt.locs, Pt.cells, Pt.slots] at X81 l81 y81 z81 st81 hQ81
                    subst l81 y81 z81
                    obtain ⟨rfl, N81q, e81⟩ := hQ81
                    have N81 := Fr.app N79 N81q
                    refine Goes.st (B := T81.setTop (mkF m 219 #[iv x0, iv x1, iv x2, iv x3, iv (w0_2 x0 x1 x2 x3), iv (w0_9 x0 x1 x2 x3), iv (w0_16 x0 x1 x2 x3), iv (w0_23 x0 x1 x2 x3), rv b1, iv (j0_61_s0 x0 x1 x2 x3), rv b8, iv (w0_85 x0 x1 x2 x3), iv (3 : Int32), rv b70] [(.int (rC (2 : Int32) (3 : Int32) (w0_16 x0 x1 x2 x3) (4 : Int32) (w0_42 x0 x1 x2 x3)))])) st81 ?_
                    by_cases hc219_82 : (rC (2 : Int32) (3 : Int32) (w0_16 x0 x1 x2 x3) (4 : Int32) (w0_42 x0 x1 x2 x3)) = (0 : Int32)
                    · skip
                      refine Goes.st (B := T81.setTop (mkF m 239 #[iv x0, iv x1, iv x2, iv x3, iv (w0_2 x0 x1 x2 x3), iv (w0_9 x0 x1 x2 x3), iv (w0_16 x0 x1 x2 x3), iv (w0_23 x0 x1 x2 x3), rv b1, iv (j0_61_s0 x0 x1 x2 x3), rv b8, iv (w0_85 x0 x1 x2 x3), iv (3 : Int32), rv b70] [])) (fun t k => ?_) ?_
                      · refine XS.ifYes X81.here hx rfl (pc0 := 219) (pc' := 239) rfl (hb hby at_219) rfl ((if0 _ _).trans (teq hc219_82).1) (by decide) (by decide) ?_
                        exact k
                      refine Goes.run X81 hx hown hci hcl hby (L := [(239, .iconst 0, 1)]) (by decide +kernel) rfl (g' := (mkF m 240 #[iv x0, iv x1, iv x2, iv x3, iv (w0_2 x0 x1 x2 x3), iv (w0_9 x0 x1 x2 x3), iv (w0_16 x0 x1 x2 x3), iv (w0_23 x0 x1 x2 x3), rv b1, iv (j0_61_s0 x0 x1 x2 x3), rv b8, iv (w0_85 x0 x1 x2 x3), iv (3 : Int32), rv b70] [(.int (0 : Int32))])) rfl ?_
                      exact Goes.retB X81 hx hlk (t := .boolean) Bd.returns (by simp) (hb hby at_240) rfl ⟨(congrArg (fun z => some (Value.int z)) (show (r0 x0 x1 x2 x3) = (0 : Int32) from ((((((((if_neg hs136_17).trans (if_neg hs136_34)).trans (if_neg hs136_51)).trans (if_pos hs136_68)).trans (if_pos hc178_76)).trans (if_neg hc193_78)).trans (if_neg hc206_80)).trans (if_pos hc219_82))).symm), N81⟩ (by decide) (by decide)
                    · skip
                      refine Goes.st (B := T81.setTop (mkF m 222 #[iv x0, iv x1, iv x2, iv x3, iv (w0_2 x0 x1 x2 x3), iv (w0_9 x0 x1 x2 x3), iv (w0_16 x0 x1 x2 x3), iv (w0_23 x0 x1 x2 x3), rv b1, iv (j0_61_s0 x0 x1 x2 x3), rv b8, iv (w0_85 x0 x1 x2 x3), iv (3 : Int32), rv b70] [])) (fun t k => ?_) ?_
                      · refine XS.ifNo X81.here hx rfl (hb hby at_219) rfl ((if0 _ _).trans (feq hc219_82).1) ?_
                        exact k
                      refine Goes.run X81 hx hown hci hcl hby (L := [(222, .aload 13, 2), (224, .iconst 3, 1), (225, .iload 12, 2), (227, .iload 7, 2)]) (by decide +kernel) rfl (g' := (mkF m 229 #[iv x0, iv x1, iv x2, iv x3, iv (w0_2 x0 x1 x2 x3), iv (w0_9 x0 x1 x2 x3), iv (w0_16 x0 x1 x2 x3), iv (w0_23 x0 x1 x2 x3), rv b1, iv (j0_61_s0 x0 x1 x2 x3), rv b8, iv (w0_85 x0 x1 x2 x3), iv (3 : Int32), rv b70] [(.int (w0_23 x0 x1 x2 x3)), (.int (3 : Int32)), (.int (3 : Int32)), (.ref b70)])) rfl ?_
                      obtain ⟨_, _, ⟨T83, L83, k83, n83⟩, -, X83, ⟨Lc83, hQ83, l83, y83, z83⟩, st83⟩ := Jvm.LawKit.callS X81 hx (y := ym11) hown (mvT hZ w_65) (mvT hZ w_66) (mvT hZ w_67) (mvT hZ w_68) (by decide) (backOf (W := 0) (rmD l Z a0 hw [] b70 (3 : Int32) (3 : Int32) (w0_23 x0 x1 x2 x3) h70 n0 Zn70 (by decide)) hZ w_68 w_67 (by decide) (by decide)) (g := (mkF m 229 #[iv x0, iv x1, iv x2, iv x3, iv (w0_2 x0 x1 x2 x3), iv (w0_9 x0 x1 x2 x3), iv (w0_16 x0 x1 x2 x3), iv (w0_23 x0 x1 x2 x3), rv b1, iv (j0_61_s0 x0 x1 x2 x3), rv b8, iv (w0_85 x0 x1 x2 x3), iv (3 : Int32), rv b70] [(.int (w0_23 x0 x1 x2 x3)), (.int (3 : Int32)), (.int (3 : Int32)), (.ref b70)])) rfl (by rw [hml]; rfl) (argsL := [(.ref b70), (.int (3 : Int32)), (.int (3 : Int32)), (.int (w0_23 x0 x1 x2 x3))]) (rest := []) (lenOf pd0_6 rfl) rfl (by show 2 * 0 + _ ≤ _; exact Nat.le_of_eq rfl) (hb hby at_229) (fun _ _ => ⟨rfl, e81, (by decide : 4 + 0 ≤ _), (by decide : 266 + 0 ≤ _)⟩)
                      dsimp only [Pt.U, Pt.locs, Pt.cells, Pt.slots] at X83 l83 y83 z83 st83 hQ83
                      subst l83 y83 z83
                      obtain ⟨rfl, N83q, e83⟩ := hQ83
                      have N83 := Fr.app N81 N83q
                      refine Goes.st (B := T83.setTop (mkF m 232 #[iv x0, iv x1, iv x2, iv x3, iv (w0_2 x0 x1 x2 x3), iv (w0_9 x0 x1 x2 x3), iv (w0_16 x0 x1 x2 x3), iv (w0_23 x0 x1 x2 x3), rv b1, iv (j0_61_s0 x0 x1 x2 x3), rv b8, iv (w0_85 x0 x1 x2 x3), iv (3 : Int32), rv b70] [(.int (rD (3 : Int32) (3 : Int32) (w0_23 x0 x1 x2 x3)))])) st83 ?_
                      by_cases hc232_84 : (rD (3 : Int32) (3 : Int32) (w0_23 x0 x1 x2 x3)) = (0 : Int32)
                      · skip
                        refine Goes.st (B := T83.setTop (mkF m 239 #[iv x0, iv x1, iv x2, iv x3, iv (w0_2 x0 x1 x2 x3), iv (w0_9 x0 x1 x2 x3), iv (w0_16 x0 x1 x2 x3), iv (w0_23 x0 x1 x2 x3), rv b1, iv (j0_61_s0 x0 x1 x2 x3), rv b8, iv (w0_85 x0 x1 x2 x3), iv (3 : Int32), rv b70] [])) (fun t k => ?_) ?_
                        · refine XS.ifYes X83.here hx rfl (pc0 := 232) (pc' := 239) rfl (hb hby at_232) rfl ((if0 _ _).trans (teq hc232_84).1) (by decide) (by decide) ?_
                          exact k
                        refine Goes.run X83 hx hown hci hcl hby (L := [(239, .iconst 0, 1)]) (by decide +kernel) rfl (g' := (mkF m 240 #[iv x0, iv x1, iv x2, iv x3, iv (w0_2 x0 x1 x2 x3), iv (w0_9 x0 x1 x2 x3), iv (w0_16 x0 x1 x2 x3), iv (w0_23 x0 x1 x2 x3), rv b1, iv (j0_61_s0 x0 x1 x2 x3), rv b8, iv (w0_85 x0 x1 x2 x3), iv (3 : Int32), rv b70] [(.int (0 : Int32))])) rfl ?_
                        exact Goes.retB X83 hx hlk (t := .boolean) Bd.returns (by simp) (hb hby at_240) rfl ⟨(congrArg (fun z => some (Value.int z)) (show (r0 x0 x1 x2 x3) = (0 : Int32) from (((((((((if_neg hs136_17).trans (if_neg hs136_34)).trans (if_neg hs136_51)).trans (if_pos hs136_68)).trans (if_pos hc178_76)).trans (if_neg hc193_78)).trans (if_neg hc206_80)).trans (if_neg hc219_82)).trans (if_pos hc232_84))).symm), N83⟩ (by decide) (by decide)
                      · skip
                        refine Goes.st (B := T83.setTop (mkF m 235 #[iv x0, iv x1, iv x2, iv x3, iv (w0_2 x0 x1 x2 x3), iv (w0_9 x0 x1 x2 x3), iv (w0_16 x0 x1 x2 x3), iv (w0_23 x0 x1 x2 x3), rv b1, iv (j0_61_s0 x0 x1 x2 x3), rv b8, iv (w0_85 x0 x1 x2 x3), iv (3 : Int32), rv b70] [])) (fun t k => ?_) ?_
                        · refine XS.ifNo X83.here hx rfl (hb hby at_232) rfl ((if0 _ _).trans (feq hc232_84).1) ?_
                          exact k
                        refine Goes.run X83 hx hown hci hcl hby (L := [(235, .iconst 1, 1), (236, .goto 4, 3)]) (by decide +kernel) rfl (g' := (mkF m 240 #[iv x0, iv x1, iv x2, iv x3, iv (w0_2 x0 x1 x2 x3), iv (w0_9 x0 x1 x2 x3), iv (w0_16 x0 x1 x2 x3), iv (w0_23 x0 x1 x2 x3), rv b1, iv (j0_61_s0 x0 x1 x2 x3), rv b8, iv (w0_85 x0 x1 x2 x3), iv (3 : Int32), rv b70] [(.int (1 : Int32))])) rfl ?_
                        exact Goes.retB X83 hx hlk (t := .boolean) Bd.returns (by simp) (hb hby at_240) rfl ⟨(congrArg (fun z => some (Value.int z)) (show (r0 x0 x1 x2 x3) = (1 : Int32) from (((((((((if_neg hs136_17).trans (if_neg hs136_34)).trans (if_neg hs136_51)).trans (if_pos hs136_68)).trans (if_pos hc178_76)).trans (if_neg hc193_78)).trans (if_neg hc206_80)).trans (if_neg hc219_82)).trans (if_neg hc232_84))).symm), N83⟩ (by decide) (by decide)
              · skip
                refine Goes.st (B := T70.setTop (mkF m 181 #[iv x0, iv x1, iv x2, iv x3, iv (w0_2 x0 x1 x2 x3), iv (w0_9 x0 x1 x2 x3), iv (w0_16 x0 x1 x2 x3), iv (w0_23 x0 x1 x2 x3), rv b1, iv (j0_61_s0 x0 x1 x2 x3), rv b8, iv (w0_85 x0 x1 x2 x3), iv (3 : Int32), rv b70] [])) (fun t k => ?_) ?_
                · refine XS.icmpNo X70.here hx rfl (hb hby at_178) rfl (feq hc178_76).1 ?_
                  exact k
                refine Goes.run X70 hx hown hci hcl hby (L := [(181, .iconst 0, 1)]) (by decide +kernel) rfl (g' := (mkF m 182 #[iv x0, iv x1, iv x2, iv x3, iv (w0_2 x0 x1 x2 x3), iv (w0_9 x0 x1 x2 x3), iv (w0_16 x0 x1 x2 x3), iv (w0_23 x0 x1 x2 x3), rv b1, iv (j0_61_s0 x0 x1 x2 x3), rv b8, iv (w0_85 x0 x1 x2 x3), iv (3 : Int32), rv b70] [(.int (0 : Int32))])) rfl ?_
                exact Goes.retB X70 hx hlk (t := .boolean) Bd.returns (by simp) (hb hby at_182) rfl ⟨(congrArg (fun z => some (Value.int z)) (show (r0 x0 x1 x2 x3) = (0 : Int32) from (((((if_neg hs136_17).trans (if_neg hs136_34)).trans (if_neg hs136_51)).trans (if_pos hs136_68)).trans (if_neg hc178_76))).symm), N70⟩ (by decide) (by decide)
            by_cases hc169_74 : (j0_61_s0 x0 x1 x2 x3) = (0 : Int32)
            · skip
              refine Goes.st (B := T70.setTop (mkF m 176 #[iv x0, iv x1, iv x2, iv x3, iv (w0_2 x0 x1 x2 x3), iv (w0_9 x0 x1 x2 x3), iv (w0_16 x0 x1 x2 x3), iv (w0_23 x0 x1 x2 x3), rv b1, iv (j0_61_s0 x0 x1 x2 x3), rv b8, iv (w0_85 x0 x1 x2 x3), iv (3 : Int32), rv b70] [(.int (w93_30 (j0_61_s0 x0 x1 x2 x3) (w0_32 x0 x1 x2 x3) (w0_37 x0 x1 x2 x3) (w0_42 x0 x1 x2 x3) (w0_47 x0 x1 x2 x3) (0 : Int32) (0 : Int32) (0 : Int32) (0 : Int32)))])) (fun t k => ?_) ?_
              · refine XS.ifYes X70.here hx rfl (pc0 := 169) (pc' := 176) rfl (hb hby at_169) rfl ((if0 _ _).trans (teq hc169_74).1) (by decide) (by decide) ?_
                exact k
              refine Goes.run X70 hx hown hci hcl hby (L := [(176, .iconst 0, 1)]) (by decide +kernel) rfl (g' := (mkF m 177 #[iv x0, iv x1, iv x2, iv x3, iv (w0_2 x0 x1 x2 x3), iv (w0_9 x0 x1 x2 x3), iv (w0_16 x0 x1 x2 x3), iv (w0_23 x0 x1 x2 x3), rv b1, iv (j0_61_s0 x0 x1 x2 x3), rv b8, iv (w0_85 x0 x1 x2 x3), iv (3 : Int32), rv b70] [(.int (0 : Int32)), (.int (w93_30 (j0_61_s0 x0 x1 x2 x3) (w0_32 x0 x1 x2 x3) (w0_37 x0 x1 x2 x3) (w0_42 x0 x1 x2 x3) (w0_47 x0 x1 x2 x3) (0 : Int32) (0 : Int32) (0 : Int32) (0 : Int32)))])) rfl ?_
              have q := jn177_75
              rw [show (j0_177_s0 x0 x1 x2 x3) = (0 : Int32) from (if_pos hc169_74)] at q
              exact q
            · skip
              refine Goes.st (B := T70.setTop (mkF m 172 #[iv x0, iv x1, iv x2, iv x3, iv (w0_2 x0 x1 x2 x3), iv (w0_9 x0 x1 x2 x3), iv (w0_16 x0 x1 x2 x3), iv (w0_23 x0 x1 x2 x3), rv b1, iv (j0_61_s0 x0 x1 x2 x3), rv b8, iv (w0_85 x0 x1 x2 x3), iv (3 : Int32), rv b70] [(.int (w93_30 (j0_61_s0 x0 x1 x2 x3) (w0_32 x0 x1 x2 x3) (w0_37 x0 x1 x2 x3) (w0_42 x0 x1 x2 x3) (w0_47 x0 x1 x2 x3) (0 : Int32) (0 : Int32) (0 : Int32) (0 : Int32)))])) (fun t k => ?_) ?_
              · refine XS.ifNo X70.here hx rfl (hb hby at_169) rfl ((if0 _ _).trans (feq hc169_74).1) ?_
                exact k
              refine Goes.run X70 hx hown hci hcl hby (L := [(172, .iconst 1, 1), (173, .goto 4, 3)]) (by decide +kernel) rfl (g' := (mkF m 177 #[iv x0, iv x1, iv x2, iv x3, iv (w0_2 x0 x1 x2 x3), iv (w0_9 x0 x1 x2 x3), iv (w0_16 x0 x1 x2 x3), iv (w0_23 x0 x1 x2 x3), rv b1, iv (j0_61_s0 x0 x1 x2 x3), rv b8, iv (w0_85 x0 x1 x2 x3), iv (3 : Int32), rv b70] [(.int (1 : Int32)), (.int (w93_30 (j0_61_s0 x0 x1 x2 x3) (w0_32 x0 x1 x2 x3) (w0_37 x0 x1 x2 x3) (w0_42 x0 x1 x2 x3) (w0_47 x0 x1 x2 x3) (0 : Int32) (0 : Int32) (0 : Int32) (0 : Int32)))])) rfl ?_
              have q := jn177_75
              rw [show (j0_177_s0 x0 x1 x2 x3) = (1 : Int32) from (if_neg hc169_74)] at q
              exact q
          · skip
            have hs136_85 : (w0_115 x0 x1 x2 x3) = (4 : Int32) := own_k5 x0 x1 x2 x3 hs136_17 hs136_34 hs136_51 hs136_68
            rw [hs136_85]
            rw [hs136_85] at F_size_b8
            refine Goes.run X15 hx hown hci hcl hby (L := [(136, .aload 10, 2), (138, .iload 9, 2)]) (by decide +kernel) rfl (g' := (mkF m 140 #[iv x0, iv x1, iv x2, iv x3, iv (w0_2 x0 x1 x2 x3), iv (w0_9 x0 x1 x2 x3), iv (w0_16 x0 x1 x2 x3), iv (w0_23 x0 x1 x2 x3), rv b1, iv (j0_61_s0 x0 x1 x2 x3), rv b8, iv (w0_85 x0 x1 x2 x3), iv (4 : Int32), .unset] [(.int (j0_61_s0 x0 x1 x2 x3)), (.ref b8)])) rfl ?_
            obtain ⟨cq86, kq86, q86a, q86b, q86c⟩ := isOf hZ e15 E_b8
            obtain ⟨_, _, ⟨T86, L86, k86, n86⟩, -, X86, ⟨Lc86, hQ86, l86, y86, z86⟩, st86⟩ := X15.virtualBack hx (y := ym8) (z := ym8) hown (mvT hZ w_46) (mvT hZ w_47) (notFace_of_selects (args := #[]) (mvT hZ w_49)) (mvT hZ w_49) (mvT hZ w_48) (by decide) (backOf (W := 0) (rm94 l Z a0 hw [] b8 (j0_61_s0 x0 x1 x2 x3) b9 kc9 (w0_32 x0 x1 x2 x3) (w0_37 x0 x1 x2 x3) (w0_42 x0 x1 x2 x3) (w0_47 x0 x1 x2 x3) (0 : Int32) (0 : Int32) (0 : Int32) (0 : Int32) h14 n0 Zn14 E_b8 F_buffer_b8 F_size_b8 E_b9 V_b9 g_b8 g_b9 ne_b8_b9) hZ w_50 w_3 (by decide) (by decide)) q86a q86c (g := (mkF m 140 #[iv x0, iv x1, iv x2, iv x3, iv (w0_2 x0 x1 x2 x3), iv (w0_9 x0 x1 x2 x3), iv (w0_16 x0 x1 x2 x3), iv (w0_23 x0 x1 x2 x3), rv b1, iv (j0_61_s0 x0 x1 x2 x3), rv b8, iv (w0_85 x0 x1 x2 x3), iv (4 : Int32), .unset] [(.int (j0_61_s0 x0 x1 x2 x3)), (.ref b8)])) rfl (by rw [hml]; rfl) (Steps.refl _) (argsL := [(.int (j0_61_s0 x0 x1 x2 x3))]) (rest := []) (lenOf pd0_4 rfl) rfl (by show 2 * 0 + _ ≤ _; exact Nat.le_of_eq rfl) (hb hby at_140) (fun _ _ => ⟨rfl, e15, (by decide : 3 + 0 ≤ _), (by decide : 262 + 0 ≤ _)⟩)
            dsimp only [Pt.U, Pt.locs, Pt.cells, Pt.slots] at X86 l86 y86 z86 st86 hQ86
            subst l86 y86 z86
            obtain ⟨h86, eh86⟩ : ∃ z, z = T86.heap := ⟨_, rfl⟩
            rw [← eh86] at hQ86
            have e86 : T86.heap = h86 := eh86.symm
            obtain ⟨rfl, N86q, Kq86, o86_0, o86_1, o86_2, o86_3, o86_4⟩ := hQ86
            have N86 := Fr.app N15 N86q
            have E_b1 := E_b1.keep Kq86
            have V_b1 := V_b1.keep Kq86 (ninS ne_b1_b8 (ninS ne_b1_b9 nin0))
            have E_b8 : Exa Z h86 b8 "com/example/upcaster/upcaster/io/BinaryEncoder" := o86_0
            have F_buffer_b8 : Fld Z h86 b8 "com/example/upcaster/upcaster/io/BinaryEncoder" "buffer" "[B" (.ref b9) := o86_1
            have F_size_b8 : Fld Z h86 b8 "com/example/upcaster/upcaster/io/BinaryEncoder" "size" "I" (.int (5 : Int32)) := o86_2
            have E_b9 : Exa Z h86 b9 "[B" := o86_3
            have V_b9 : Arv Z h86 b9 kc9 .byte (256 : Int32) [(.int (w0_32 x0 x1 x2 x3)), (.int (w0_37 x0 x1 x2 x3)), (.int (w0_42 x0 x1 x2 x3)), (.int (w0_47 x0 x1 x2 x3)), (.int (w94_30 (j0_61_s0 x0 x1 x2 x3) (w0_32 x0 x1 x2 x3) (w0_37 x0 x1 x2 x3) (w0_42 x0 x1 x2 x3) (w0_47 x0 x1 x2 x3) (0 : Int32) (0 : Int32) (0 : Int32) (0 : Int32))), (.int (0 : Int32)), (.int (0 : Int32)), (.int (0 : Int32))] (.int (0 : Int32)) := o86_4
            have Zn86 : n0 ≤ h86.size := Nat.le_trans Zn14 Kq86.1
            refine Goes.st (B := T86.setTop (mkF m 143 #[iv x0, iv x1, iv x2, iv x3, iv (w0_2 x0 x1 x2 x3), iv (w0_9 x0 x1 x2 x3), iv (w0_16 x0 x1 x2 x3), iv (w0_23 x0 x1 x2 x3), rv b1, iv (j0_61_s0 x0 x1 x2 x3), rv b8, iv (w0_85 x0 x1 x2 x3), iv (4 : Int32), .unset] [])) (fun t k => st86.trans k) ?_
            refine Goes.run X86 hx hown hci hcl hby (L := [(143, .aload 10, 2)]) (by decide +kernel) rfl (g' := (mkF m 145 #[iv x0, iv x1, iv x2, iv x3, iv (w0_2 x0 x1 x2 x3), iv (w0_9 x0 x1 x2 x3), iv (w0_16 x0 x1 x2 x3), iv (w0_23 x0 x1 x2 x3), rv b1, iv (j0_61_s0 x0 x1 x2 x3), rv b8, iv (w0_85 x0 x1 x2 x3), iv (4 : Int32), .unset] [(.ref b8)])) rfl ?_
            obtain ⟨cq87, kq87, q87a, q87b, q87c⟩ := isOf hZ e86 E_b8
            obtain ⟨_, _, ⟨T87, L87, k87, n87⟩, -, X87, ⟨Lc87, hQ87, l87, y87, z87⟩, st87⟩ := X86.virtualBack hx (y := ym10) (z := ym10) hown (mvT hZ w_51) (mvT hZ w_52) (notFace_of_selects (args := #[]) (mvT hZ w_54)) (mvT hZ w_54) (mvT hZ w_53) (by decide) (backOf (W := 0) (rmB4 l Z a0 hw [] b8 b9 kc9 (w0_32 x0 x1 x2 x3) (w0_37 x0 x1 x2 x3) (w0_42 x0 x1 x2 x3) (w0_47 x0 x1 x2 x3) (w94_30 (j0_61_s0 x0 x1 x2 x3) (w0_32 x0 x1 x2 x3) (w0_37 x0 x1 x2 x3) (w0_42 x0 x1 x2 x3) (w0_47 x0 x1 x2 x3) (0 : Int32) (0 : Int32) (0 : Int32) (0 : Int32)) (0 : Int32) (0 : Int32) (0 : Int32) h86 n0 Zn86 F_buffer_b8 F_size_b8 V_b9) hZ w_55 w_3 (by decide) (by decide)) q87a q87c (g := (mkF m 145 #[iv x0, iv x1, iv x2, iv x3, iv (w0_2 x0 x1 x2 x3), iv (w0_9 x0 x1 x2 x3), iv (w0_16 x0 x1 x2 x3), iv (w0_23 x0 x1 x2 x3), rv b1, iv (j0_61_s0 x0 x1 x2 x3), rv b8, iv (w0_85 x0 x1 x2 x3), iv (4 : Int32), .unset] [(.ref b8)])) rfl (by rw [hml]; rfl) (Steps.refl _) (argsL := []) (rest := []) (lenOf pd0_5 rfl) rfl (by show 2 * 0 + _ ≤ _; exact Nat.le_of_eq rfl) (hb hby at_145) (fun _ _ => ⟨rfl, e86, (by decide : 3 + 1 ≤ _), (by decide : 262 + 5 ≤ _)⟩)
            dsimp only [Pt.U, Pt.locs, Pt.cells, Pt.slots] at X87 l87 y87 z87 st87 hQ87
            subst l87 y87 z87
            obtain ⟨h87, eh87⟩ : ∃ z, z = T87.heap := ⟨_, rfl⟩
            rw [← eh87] at hQ87
            have e87 : T87.heap = h87 := eh87.symm
            obtain ⟨b87, kc87, rfl, N87q, Kq87, szq87, o87_0, o87_1⟩ := hQ87
            have ne_b1_b87 : b1 ≠ b87 := Nat.ne_of_lt (Nat.lt_of_lt_of_le E_b1.lt szq87)
            have ne_b8_b87 : b8 ≠ b87 := Nat.ne_of_lt (Nat.lt_of_lt_of_le E_b8.lt szq87)
            have ne_b9_b87 : b9 ≠ b87 := Nat.ne_of_lt (Nat.lt_of_lt_of_le E_b9.lt szq87)
            have g_b87 : n0 ≤ b87 := Nat.le_trans Zn86 szq87
            have N87 := Fr.app N86 N87q
            have E_b1 := E_b1.keep Kq87
            have V_b1 := V_b1.keep Kq87 nin0
            have E_b8 := E_b8.keep Kq87
            have F_buffer_b8 := F_buffer_b8.keep Kq87 nin0
            have F_size_b8 := F_size_b8.keep Kq87 nin0
            have E_b9 := E_b9.keep Kq87
            have V_b9 := V_b9.keep Kq87 nin0
            have E_b87 : Exa Z h87 b87 "[B" := o87_0
            have V_b87 : Arv Z h87 b87 kc87 .byte (5 : Int32) [(.int (w0_32 x0 x1 x2 x3)), (.int (w0_37 x0 x1 x2 x3)), (.int (w0_42 x0 x1 x2 x3)), (.int (w0_47 x0 x1 x2 x3)), (.int (w94_30 (j0_61_s0 x0 x1 x2 x3) (w0_32 x0 x1 x2 x3) (w0_37 x0 x1 x2 x3) (w0_42 x0 x1 x2 x3) (w0_47 x0 x1 x2 x3) (0 : Int32) (0 : Int32) (0 : Int32) (0 : Int32)))] (.int (0 : Int32)) := o87_1
            have Zn87 : n0 ≤ h87.size := Nat.le_trans Zn86 Kq87.1
            refine Goes.st (B := T87.setTop (mkF m 148 #[iv x0, iv x1, iv x2, iv x3, iv (w0_2 x0 x1 x2 x3), iv (w0_9 x0 x1 x2 x3), iv (w0_16 x0 x1 x2 x3), iv (w0_23 x0 x1 x2 x3), rv b1, iv (j0_61_s0 x0 x1 x2 x3), rv b8, iv (w0_85 x0 x1 x2 x3), iv (4 : Int32), .unset] [(.ref b87)])) (fun t k => st87.trans k) ?_
            refine Goes.run X87 hx hown hci hcl hby (L := [(148, .astore 13, 2), (150, .aload 13, 2)]) (by decide +kernel) rfl (g' := (mkF m 152 #[iv x0, iv x1, iv x2, iv x3, iv (w0_2 x0 x1 x2 x3), iv (w0_9 x0 x1 x2 x3), iv (w0_16 x0 x1 x2 x3), iv (w0_23 x0 x1 x2 x3), rv b1, iv (j0_61_s0 x0 x1 x2 x3), rv b8, iv (w0_85 x0 x1 x2 x3), iv (4 : Int32), rv b87] [(.ref b87)])) rfl ?_
            obtain ⟨cl88, Ar88, q88, S88, M88, Hs88, G88⟩ := id V_b87
            refine Goes.st (B := T87.setTop (mkF m 153 #[iv x0, iv x1, iv x2, iv x3, iv (w0_2 x0 x1 x2 x3), iv (w0_9 x0 x1 x2 x3), iv (w0_16 x0 x1 x2 x3), iv (w0_23 x0 x1 x2 x3), rv b1, iv (j0_61_s0 x0 x1 x2 x3), rv b8, iv (w0_85 x0 x1 x2 x3), iv (4 : Int32), rv b87] [(.int (5 : Int32))])) (fun t k => ?_) ?_
            · refine X87.arraylength hx (cell := cl88) (by rw [e87]; exact Ar88.1) (State.isArrayOf_alike hZ.alike Ar88.2.1) (g := (mkF m 152 #[iv x0, iv x1, iv x2, iv x3, iv (w0_2 x0 x1 x2 x3), iv (w0_9 x0 x1 x2 x3), iv (w0_16 x0 x1 x2 x3), iv (w0_23 x0 x1 x2 x3), rv b1, iv (j0_61_s0 x0 x1 x2 x3), rv b8, iv (w0_85 x0 x1 x2 x3), iv (4 : Int32), rv b87] [(.ref b87)])) rfl (rest := []) rfl (hb hby at_152) _ ?_
              rw [len_of S88 M88]
              exact k
            refine Goes.run X87 hx hown hci hcl hby (L := [(153, .iload 12, 2), (155, .iconst 1, 1), (156, .iadd, 1)]) (by decide +kernel) rfl (g' := (mkF m 157 #[iv x0, iv x1, iv x2, iv x3, iv (w0_2 x0 x1 x2 x3), iv (w0_9 x0 x1 x2 x3), iv (w0_16 x0 x1 x2 x3), iv (w0_23 x0 x1 x2 x3), rv b1, iv (j0_61_s0 x0 x1 x2 x3), rv b8, iv (w0_85 x0 x1 x2 x3), iv (4 : Int32), rv b87] [(.int (5 : Int32)), (.int (5 : Int32))])) rfl ?_
            have hc157_89 : (5 : Int32) = (5 : Int32) := rfl
            refine Goes.st (B := T87.setTop (mkF m 162 #[iv x0, iv x1, iv x2, iv x3, iv (w0_2 x0 x1 x2 x3), iv (w0_9 x0 x1 x2 x3), iv (w0_16 x0 x1 x2 x3), iv (w0_23 x0 x1 x2 x3), rv b1, iv (j0_61_s0 x0 x1 x2 x3), rv b8, iv (w0_85 x0 x1 x2 x3), iv (4 : Int32), rv b87] [])) (fun t k => ?_) ?_
            · refine XS.icmpYes X87.here hx rfl (pc0 := 157) (pc' := 162) rfl (hb hby at_157) rfl (teq hc157_89).1 (by decide) (by decide) ?_
              exact k
            refine Goes.run X87 hx hown hci hcl hby (L := [(162, .aload 13, 2), (164, .iload 12, 2)]) (by decide +kernel) rfl (g' := (mkF m 166 #[iv x0, iv x1, iv x2, iv x3, iv (w0_2 x0 x1 x2 x3), iv (w0_9 x0 x1 x2 x3), iv (w0_16 x0 x1 x2 x3), iv (w0_23 x0 x1 x2 x3), rv b1, iv (j0_61_s0 x0 x1 x2 x3), rv b8, iv (w0_85 x0 x1 x2 x3), iv (4 : Int32), rv b87] [(.int (4 : Int32)), (.ref b87)])) rfl ?_
            obtain ⟨cl90, Ar90, q90, S90, M90, Hs90, G90⟩ := id V_b87
            have hin90 : ¬ ((4 : Int32) < 0 ∨ cl90.slots.size ≤ ((4 : Int32)).toNatClampNeg) := inb_of S90 ⟨(by decide), (by decide)⟩
            have hat90 : cl90.slots[((4 : Int32)).toNatClampNeg]? = some (.int (w94_30 (j0_61_s0 x0 x1 x2 x3) (w0_32 x0 x1 x2 x3) (w0_37 x0 x1 x2 x3) (w0_42 x0 x1 x2 x3) (w0_47 x0 x1 x2 x3) (0 : Int32) (0 : Int32) (0 : Int32) (0 : Int32))) := Hs90.at hin90 rfl
            refine Goes.st (B := T87.setTop (mkF m 167 #[iv x0, iv x1, iv x2, iv x3, iv (w0_2 x0 x1 x2 x3), iv (w0_9 x0 x1 x2 x3), iv (w0_16 x0 x1 x2 x3), iv (w0_23 x0 x1 x2 x3), rv b1, iv (j0_61_s0 x0 x1 x2 x3), rv b8, iv (w0_85 x0 x1 x2 x3), iv (4 : Int32), rv b87] [(.int (w94_30 (j0_61_s0 x0 x1 x2 x3) (w0_32 x0 x1 x2 x3) (w0_37 x0 x1 x2 x3) (w0_42 x0 x1 x2 x3) (w0_47 x0 x1 x2 x3) (0 : Int32) (0 : Int32) (0 : Int32) (0 : Int32)))])) (X87.baloadBytes hx (j := (4 : Int32)) (v := (.int (w94_30 (j0_61_s0 x0 x1 x2 x3) (w0_32 x0 x1 x2 x3) (w0_37 x0 x1 x2 x3) (w0_42 x0 x1 x2 x3) (w0_47 x0 x1 x2 x3) (0 : Int32) (0 : Int32) (0 : Int32) (0 : Int32)))) (by rw [e87]; exact Ar90.1) (State.isArrayOf_alike hZ.alike Ar90.2.1) Ar90.2.2 hin90 hat90 (g := (mkF m 166 #[iv x0, iv x1, iv x2, iv x3, iv (w0_2 x0 x1 x2 x3), iv (w0_9 x0 x1 x2 x3), iv (w0_16 x0 x1 x2 x3), iv (w0_23 x0 x1 x2 x3), rv b1, iv (j0_61_s0 x0 x1 x2 x3), rv b8, iv (w0_85 x0 x1 x2 x3), iv (4 : Int32), rv b87] [(.int (4 : Int32)), (.ref b87)])) rfl rfl (hb hby at_166)) ?_
            refine Goes.run X87 hx hown hci hcl hby (L := [(167, .iload 9, 2)]) (by decide +kernel) rfl (g' := (mkF m 169 #[iv x0, iv x1, iv x2, iv x3, iv (w0_2 x0 x1 x2 x3), iv (w0_9 x0 x1 x2 x3), iv (w0_16 x0 x1 x2 x3), iv (w0_23 x0 x1 x2 x3), rv b1, iv (j0_61_s0 x0 x1 x2 x3), rv b8, iv (w0_85 x0 x1 x2 x3), iv (4 : Int32), rv b87] [(.int (j0_61_s0 x0 x1 x2 x3)), (.int (w94_30 (j0_61_s0 x0 x1 x2 x3) (w0_32 x0 x1 x2 x3) (w0_37 x0 x1 x2 x3) (w0_42 x0 x1 x2 x3) (w0_47 x0 x1 x2 x3) (0 : Int32) (0 : Int32) (0 : Int32) (0 : Int32)))])) rfl ?_
            have jn177_92 : Goes p e below s (QL (some (.int (r0 x0 x1 x2 x3))) n0) room_1.cells room_1.slots (T87.setTop (mkF m 177 #[iv x0, iv x1, iv x2, iv x3, iv (w0_2 x0 x1 x2 x3), iv (w0_9 x0 x1 x2 x3), iv (w0_16 x0 x1 x2 x3), iv (w0_23 x0 x1 x2 x3), rv b1, iv (j0_61_s0 x0 x1 x2 x3), rv b8, iv (w0_85 x0 x1 x2 x3), iv (4 : Int32), rv b87] [(.int (j0_177_s0 x0 x1 x2 x3)), (.int (w94_30 (j0_61_s0 x0 x1 x2 x3) (w0_32 x0 x1 x2 x3) (w0_37 x0 x1 x2 x3) (w0_42 x0 x1 x2 x3) (w0_47 x0 x1 x2 x3) (0 : Int32) (0 : Int32) (0 : Int32) (0 : Int32)))])) := by
              refine Goes.run X87 hx hown hci hcl hby (L := [(177, .i2b, 1)]) (by decide +kernel) rfl (g' := (mkF m 178 #[iv x0, iv x1, iv x2, iv x3, iv (w0_2 x0 x1 x2 x3), iv (w0_9 x0 x1 x2 x3), iv (w0_16 x0 x1 x2 x3), iv (w0_23 x0 x1 x2 x3), rv b1, iv (j0_61_s0 x0 x1 x2 x3), rv b8, iv (w0_85 x0 x1 x2 x3), iv (4 : Int32), rv b87] [(.int ((j0_177_s0 x0 x1 x2 x3).toInt8.toInt32)), (.int (w94_30 (j0_61_s0 x0 x1 x2 x3) (w0_32 x0 x1 x2 x3) (w0_37 x0 x1 x2 x3) (w0_42 x0 x1 x2 x3) (w0_47 x0 x1 x2 x3) (0 : Int32) (0 : Int32) (0 : Int32) (0 : Int32)))])) rfl ?_
              by_cases hc178_93 : (w94_30 (j0_61_s0 x0 x1 x2 x3) (w0_32 x0 x1 x2 x3) (w0_37 x0 x1 x2 x3) (w0_42 x0 x1 x2 x3) (w0_47 x0 x1 x2 x3) (0 : Int32) (0 : Int32) (0 : Int32) (0 : Int32)) = ((j0_177_s0 x0 x1 x2 x3).toInt8.toInt32)
              · skip
                refine Goes.st (B := T87.setTop (mkF m 183 #[iv x0, iv x1, iv x2, iv x3, iv (w0_2 x0 x1 x2 x3), iv (w0_9 x0 x1 x2 x3), iv (w0_16 x0 x1 x2 x3), iv (w0_23 x0 x1 x2 x3), rv b1, iv (j0_61_s0 x0 x1 x2 x3), rv b8, iv (w0_85 x0 x1 x2 x3), iv (4 : Int32), rv b87] [])) (fun t k => ?_) ?_
                · refine XS.icmpYes X87.here hx rfl (pc0 := 178) (pc' := 183) rfl (hb hby at_178) rfl (teq hc178_93).1 (by decide) (by decide) ?_
                  exact k
                refine Goes.run X87 hx hown hci hcl hby (L := [(183, .aload 13, 2), (185, .iconst 0, 1), (186, .iload 12, 2), (188, .iload 4, 2)]) (by decide +kernel) rfl (g' := (mkF m 190 #[iv x0, iv x1, iv x2, iv x3, iv (w0_2 x0 x1 x2 x3), iv (w0_9 x0 x1 x2 x3), iv (w0_16 x0 x1 x2 x3), iv (w0_23 x0 x1 x2 x3), rv b1, iv (j0_61_s0 x0 x1 x2 x3), rv b8, iv (w0_85 x0 x1 x2 x3), iv (4 : Int32), rv b87] [(.int (w0_2 x0 x1 x2 x3)), (.int (4 : Int32)), (.int (0 : Int32)), (.ref b87)])) rfl ?_
                obtain ⟨_, _, ⟨T94, L94, k94, n94⟩, -, X94, ⟨Lc94, hQ94, l94, y94, z94⟩, st94⟩ := Jvm.LawKit.callS X87 hx (y := ym11) hown (mvT hZ w_65) (mvT hZ w_66) (mvT hZ w_67) (mvT hZ w_68) (by decide) (backOf (W := 0) (rmC l Z a0 hw [] b87 (0 : Int32) (4 : Int32) (w0_2 x0 x1 x2 x3) kc87 (5 : Int32) [(.int (w0_32 x0 x1 x2 x3)), (.int (w0_37 x0 x1 x2 x3)), (.int (w0_42 x0 x1 x2 x3)), (.int (w0_47 x0 x1 x2 x3)), (.int (w94_30 (j0_61_s0 x0 x1 x2 x3) (w0_32 x0 x1 x2 x3) (w0_37 x0 x1 x2 x3) (w0_42 x0 x1 x2 x3) (w0_47 x0 x1 x2 x3) (0 : Int32) (0 : Int32) (0 : Int32) (0 : Int32)))] (w0_32 x0 x1 x2 x3) h87 n0 Zn87 V_b87 (by decide) (by decide) rfl) hZ w_68 w_67 (by decide) (by decide)) (g := (mkF m 190 #[iv x0, iv x1, iv x2, iv x3, iv (w0_2 x0 x1 x2 x3), iv (w0_9 x0 x1 x2 x3), iv (w0_16 x0 x1 x2 x3), iv (w0_23 x0 x1 x2 x3), rv b1, iv (j0_61_s0 x0 x1 x2 x3), rv b8, iv (w0_85 x0 x1 x2 x3), iv (4 : Int32), rv b87] [(.int (w0_2 x0 x1 x2 x3)), (.int (4 : Int32)), (.int (0 : Int32)), (.ref b87)])) rfl (by rw [hml]; rfl) (argsL := [(.ref b87), (.int (0 : Int32)), (.int (4 : Int32)), (.int (w0_2 x0 x1 x2 x3))]) (rest := []) (lenOf pd0_6 rfl) rfl (by show 2 * 0 + _ ≤ _; exact Nat.le_of_eq rfl) (hb hby at_190) (fun _ _ => ⟨rfl, e87, (by decide : 4 + 0 ≤ _), (by decide : 267 + 0 ≤ _)⟩)
                dsimp only [Pt.U, Pt.locs, Pt.cells, Pt.slots] at X94 l94 y94 z94 st94 hQ94
                subst l94 y94 z94
                obtain ⟨rfl, N94q, e94⟩ := hQ94
                have N94 := Fr.app N87 N94q
                refine Goes.st (B := T94.setTop (mkF m 193 #[iv x0, iv x1, iv x2, iv x3, iv (w0_2 x0 x1 x2 x3), iv (w0_9 x0 x1 x2 x3), iv (w0_16 x0 x1 x2 x3), iv (w0_23 x0 x1 x2 x3), rv b1, iv (j0_61_s0 x0 x1 x2 x3), rv b8, iv (w0_85 x0 x1 x2 x3), iv (4 : Int32), rv b87] [(.int (rC (0 : Int32) (4 : Int32) (w0_2 x0 x1 x2 x3) (5 : Int32) (w0_32 x0 x1 x2 x3)))])) st94 ?_
                by_cases hc193_95 : (rC (0 : Int32) (4 : Int32) (w0_2 x0 x1 x2 x3) (5 : Int32) (w0_32 x0 x1 x2 x3)) = (0 : Int32)
                · skip
                  refine Goes.st (B := T94.setTop (mkF m 239 #[iv x0, iv x1, iv x2, iv x3, iv (w0_2 x0 x1 x2 x3), iv (w0_9 x0 x1 x2 x3), iv (w0_16 x0 x1 x2 x3), iv (w0_23 x0 x1 x2 x3), rv b1, iv (j0_61_s0 x0 x1 x2 x3), rv b8, iv (w0_85 x0 x1 x2 x3), iv (4 : Int32), rv b87] [])) (fun t k => ?_) ?_
                  · refine XS.ifYes X94.here hx rfl (pc0 := 193) (pc' := 239) rfl (hb hby at_193) rfl ((if0 _ _).trans (teq hc193_95).1) (by decide) (by decide) ?_
                    exact k
                  refine Goes.run X94 hx hown hci hcl hby (L := [(239, .iconst 0, 1)]) (by decide +kernel) rfl (g' := (mkF m 240 #[iv x0, iv x1, iv x2, iv x3, iv (w0_2 x0 x1 x2 x3), iv (w0_9 x0 x1 x2 x3), iv (w0_16 x0 x1 x2 x3), iv (w0_23 x0 x1 x2 x3), rv b1, iv (j0_61_s0 x0 x1 x2 x3), rv b8, iv (w0_85 x0 x1 x2 x3), iv (4 : Int32), rv b87] [(.int (0 : Int32))])) rfl ?_
                  exact Goes.retB X94 hx hlk (t := .boolean) Bd.returns (by simp) (hb hby at_240) rfl ⟨(congrArg (fun z => some (Value.int z)) (show (r0 x0 x1 x2 x3) = (0 : Int32) from ((((((if_neg hs136_17).trans (if_neg hs136_34)).trans (if_neg hs136_51)).trans (if_neg hs136_68)).trans (if_pos hc178_93)).trans (if_pos hc193_95))).symm), N94⟩ (by decide) (by decide)
                · skip
                  refine Goes.st (B := T94.setTop (mkF m 196 #[iv x0, iv x1, iv x2, iv x3, iv (w0_2 x0 x1 x2 x3), iv (w0_9 x0 x1 x2 x3), iv (w0_16 x0 x1 x2 x3), iv (w0_23 x0 x1 x2 x3), rv b1, iv (j0_61_s0 x0 x1 x2 x3), rv b8, iv (w0_85 x0 x1 x2 x3), iv (4 : Int32), rv b87] [])) (fun t k => ?_) ?_
                  · refine XS.ifNo X94.here hx rfl (hb hby at_193) rfl ((if0 _ _).trans (feq hc193_95).1) ?_
                    exact k
                  refine Goes.run X94 hx hown hci hcl hby (L := [(196, .aload 13, 2), (198, .iconst 1, 1), (199, .iload 12, 2), (201, .iload 5, 2)]) (by decide +kernel) rfl (g' := (mkF m 203 #[iv x0, iv x1, iv x2, iv x3, iv (w0_2 x0 x1 x2 x3), iv (w0_9 x0 x1 x2 x3), iv (w0_16 x0 x1 x2 x3), iv (w0_23 x0 x1 x2 x3), rv b1, iv (j0_61_s0 x0 x1 x2 x3), rv b8, iv (w0_85 x0 x1 x2 x3), iv (4 : Int32), rv b87] [(.int (w0_9 x0 x1 x2 x3)), (.int (4 : Int32)), (.int (1 : Int32)), (.ref b87)])) rfl ?_
                  obtain ⟨_, _, ⟨T96, L96, k96, n96⟩, -, X96, ⟨Lc96, hQ96, l96, y96, z96⟩, st96⟩ := Jvm.LawKit.callS X94 hx (y := ym11) hown (mvT hZ w_65) (mvT hZ w_66) (mvT hZ w_67) (mvT hZ w_68) (by decide) (backOf (W := 0) (rmC l Z a0 hw [] b87 (1 : Int32) (4 : Int32) (w0_9 x0 x1 x2 x3) kc87 (5 : Int32) [(.int (w0_32 x0 x1 x2 x3)), (.int (w0_37 x0 x1 x2 x3)), (.int (w0_42 x0 x1 x2 x3)), (.int (w0_47 x0 x1 x2 x3)), (.int (w94_30 (j0_61_s0 x0 x1 x2 x3) (w0_32 x0 x1 x2 x3) (w0_37 x0 x1 x2 x3) (w0_42 x0 x1 x2 x3) (w0_47 x0 x1 x2 x3) (0 : Int32) (0 : Int32) (0 : Int32) (0 : Int32)))] (w0_37 x0 x1 x2 x3) h87 n0 Zn87 V_b87 (by decide) (by decide) rfl) hZ w_68 w_67 (by decide) (by decide)) (g := (mkF m 203 #[iv x0, iv x1, iv x2, iv x3, iv (w0_2 x0 x1 x2 x3), iv (w0_9 x0 x1 x2 x3), iv (w0_16 x0 x1 x2 x3), iv (w0_23 x0 x1 x2 x3), rv b1, iv (j0_61_s0 x0 x1 x2 x3), rv b8, iv (w0_85 x0 x1 x2 x3), iv (4 : Int32), rv b87] [(.int (w0_9 x0 x1 x2 x3)), (.int (4 : Int32)), (.int (1 : Int32)), (.ref b87)])) rfl (by rw [hml]; rfl) (argsL := [(.ref b87), (.int (1 : Int32)), (.int (4 : Int32)), (.int (w0_9 x0 x1 x2 x3))]) (rest := []) (lenOf pd0_6 rfl) rfl (by show 2 * 0 + _ ≤ _; exact Nat.le_of_eq rfl) (hb hby at_203) (fun _ _ => ⟨rfl, e94, (by decide : 4 + 0 ≤ _), (by decide : 267 + 0 ≤ _)⟩)
                  dsimp only [Pt.U, Pt.locs, Pt.cells, Pt.slots] at X96 l96 y96 z96 st96 hQ96
                  subst l96 y96 z96
                  obtain ⟨rfl, N96q, e96⟩ := hQ96
                  have N96 := Fr.app N94 N96q
                  refine Goes.st (B := T96.setTop (mkF m 206 #[iv x0, iv x1, iv x2, iv x3, iv (w0_2 x0 x1 x2 x3), iv (w0_9 x0 x1 x2 x3), iv (w0_16 x0 x1 x2 x3), iv (w0_23 x0 x1 x2 x3), rv b1, iv (j0_61_s0 x0 x1 x2 x3), rv b8, iv (w0_85 x0 x1 x2 x3), iv (4 : Int32), rv b87] [(.int (rC (1 : Int32) (4 : Int32) (w0_9 x0 x1 x2 x3) (5 : Int32) (w0_37 x0 x1 x2 x3)))])) st96 ?_
                  by_cases hc206_97 : (rC (1 : Int32) (4 : Int32) (w0_9 x0 x1 x2 x3) (5 : Int32) (w0_37 x0 x1 x2 x3)) = (0 : Int32)
                  · skip
                    refine Goes.st (B := T96.setTop (mkF m 239 #[iv x0, iv x1, iv x2, iv x3, iv (w0_2 x0 x1 x2 x3), iv (w0_9 x0 x1 x2 x3), iv (w0_16 x0 x1 x2 x3), iv (w0_23 x0 x1 x2 x3), rv b1, iv (j0_61_s0 x0 x1 x2 x3), rv b8, iv (w0_85 x0 x1 x2 x3), iv (4 : Int32), rv b87] [])) (fun t k => ?_) ?_
                    · refine XS.ifYes X96.here hx rfl (pc0 := 206) (pc' := 239) rfl (hb hby at_206) rfl ((if0 _ _).trans (teq hc206_97).1) (by decide) (by decide) ?_
                      exact k
                    refine Goes.run X96 hx hown hci hcl hby (L := [(239, .iconst 0, 1)]) (by decide +kernel) rfl (g' := (mkF m 240 #[iv x0, iv x1, iv x2, iv x3, iv (w0_2 x0 x1 x2 x3), iv (w0_9 x0 x1 x2 x3), iv (w0_16 x0 x1 x2 x3), iv (w0_23 x0 x1 x2 x3), rv b1, iv (j0_61_s0 x0 x1 x2 x3), rv b8, iv (w0_85 x0 x1 x2 x3), iv (4 : Int32), rv b87] [(.int (0 : Int32))])) rfl ?_
                    exact Goes.retB X96 hx hlk (t := .boolean) Bd.returns (by simp) (hb hby at_240) rfl ⟨(congrArg (fun z => some (Value.int z)) (show (r0 x0 x1 x2 x3) = (0 : Int32) from (((((((if_neg hs136_17).trans (if_neg hs136_34)).trans (if_neg hs136_51)).trans (if_neg hs136_68)).trans (if_pos hc178_93)).trans (if_neg hc193_95)).trans (if_pos hc206_97))).symm), N96⟩ (by decide) (by decide)
                  · skip
                    refine Goes.st (B := T96.setTop (mkF m 209 #[iv x0, iv x1, iv x2, iv x3, iv (w0_2 x0 x1 x2 x3), iv (w0_9 x0 x1 x2 x3), iv (w0_16 x0 x1 x2 x3), iv (w0_23 x0 x1 x2 x3), rv b1, iv (j0_61_s0 x0 x1 x2 x3), rv b8, iv (w0_85 x0 x1 x2 x3), iv (4 : Int32), rv b87] [])) (fun t k => ?_) ?_
                    · refine XS.ifNo X96.here hx rfl (hb hby at_206) rfl ((if0 _ _).trans (feq hc206_97).1) ?_
                      exact k
                    refine Goes.run X96 hx hown hci hcl hby (L := [(209, .aload 13, 2), (211, .iconst 2, 1), (212, .iload 12, 2), (214, .iload 6, 2)]) (by decide +kernel) rfl (g' := (mkF m 216 #[iv x0, iv x1, iv x2, iv x3, iv (w0_2 x0 x1 x2 x3), iv (w0_9 x0 x1 x2 x3), iv (w0_16 x0 x1 x2 x3), iv (w0_23 x0 x1 x2 x3), rv b1, iv (j0_61_s0 x0 x1 x2 x3), rv b8, iv (w0_85 x0 x1 x2 x3), iv (4 : Int32), rv b87] [(.int (w0_16 x0 x1 x2 x3)), (.int (4 : Int32)), (.int (2 : Int32)), (.ref b87)])) rfl ?_
                    obtain ⟨_, _, ⟨T98, L98, k98, n98⟩, -, X98, ⟨Lc98, hQ98, l98, y98, z98⟩, st98⟩ := Jvm.LawKit.callS X96 hx (y := ym11) hown (mvT hZ w_65) (mvT hZ w_66) (mvT hZ w_67) (mvT hZ w_68) (by decide) (backOf (W := 0) (rmC l Z a0 hw [] b87 (2 : Int32) (4 : Int32) (w0_16 x0 x1 x2 x3) kc87 (5 : Int32) [(.int (w0_32 x0 x1 x2 x3)), (.int (w0_37 x0 x1 x2 x3)), (.int (w0_42 x0 x1 x2 x3)), (.int (w0_47 x0 x1 x2 x3)), (.int (w94_30 (j0_61_s0 x0 x1 x2 x3) (w0_32 x0 x1 x2 x3) (w0_37 x0 x1 x2 x3) (w0_42 x0 x1 x2 x3) (w0_47 x0 x1 x2 x3) (0 : Int32) (0 : Int32) (0 : Int32) (0 : Int32)))] (w0_42 x0 x1 x2 x3) h87 n0 Zn87 V_b87 (by decide) (by decide) rfl) hZ w_68 w_67 (by decide) (by decide)) (g := (mkF m 216 #[iv x0, iv x1, iv x2, iv x3, iv (w0_2 x0 x1 x2 x3), iv (w0_9 x0 x1 x2 x3), iv (w0_16 x0 x1 x2 x3), iv (w0_23 x0 x1 x2 x3), rv b1, iv (j0_61_s0 x0 x1 x2 x3), rv b8, iv (w0_85 x0 x1 x2 x3), iv (4 : Int32), rv b87] [(.int (w0_16 x0 x1 x2 x3)), (.int (4 : Int32)), (.int (2 : Int32)), (.ref b87)])) rfl (by rw [hml]; rfl) (argsL := [(.ref b87), (.int (2 : Int32)), (.int (4 : Int32)), (.int (w0_16 x0 x1 x2 x3))]) (rest := []) (lenOf pd0_6 rfl) rfl (by show 2 * 0 + _ ≤ _; exact Nat.le_of_eq rfl) (hb hby at_216) (fun _ _ => ⟨rfl, e96, (by decide : 4 + 0 ≤ _), (by decide : 267 + 0 ≤ _)⟩)
                    dsimp only [Pt.U, Pt.locs, Pt.cells, Pt.slots] at X98 l98 y98 z98 st98 hQ98
                    subst l98 y98 z98
                    obtain ⟨rfl, N98q, e98⟩ := hQ98
                    have N98 := Fr.app N96 N98q
                    refine Goes.st (B := T98.setTop (mkF m 219 #[iv x0, iv x1, iv x2, iv x3, iv (w0_2 x0 x1 x2 x3), iv (w0_9 x0 x1 x2 x3), iv (w0_16 x0 x1 x2 x3), iv (w0_23 x0 x1 x2 x3), rv b1, iv (j0_61_s0 x0 x1 x2 x3), rv b8, iv (w0_85 x0 x1 x2 x3), iv (4 : Int32), rv b87] [(.int (rC (2 : Int32) (4 : Int32) (w0_16 x0 x1 x2 x3) (5 : Int32) (w0_42 x0 x1 x2 x3)))])) st98 ?_
                    by_cases hc219_99 : (rC (2 : Int32) (4 : Int32) (w0_16 x0 x1 x2 x3) (5 : Int32) (w0_42 x0 x1 x2 x3)) = (0 : Int32)
                    · skip
                      refine Goes.st (B := T98.setTop (mkF m 239 #[iv x0, iv x1, iv x2, iv x3, iv (w0_2 x0 x1 x2 x3), iv (w0_9 x0 x1 x2 x3), iv (w0_16 x0 x1 x2 x3), iv (w0_23 x0 x1 x2 x3), rv b1, iv (j0_61_s0 x0 x1 x2 x3), rv b8, iv (w0_85 x0 x1 x2 x3), iv (4 : Int32), rv b87] [])) (fun t k => ?_) ?_
                      · refine XS.ifYes X98.here hx rfl (pc0 := 219) (pc' := 239) rfl (hb hby at_219) rfl ((if0 _ _).trans (teq hc219_99).1) (by decide) (by decide) ?_
                        exact k
                      refine Goes.run X98 hx hown hci hcl hby (L := [(239, .iconst 0, 1)]) (by decide +kernel) rfl (g' := (mkF m 240 #[iv x0, iv x1, iv x2, iv x3, iv (w0_2 x0 x1 x2 x3), iv (w0_9 x0 x1 x2 x3), iv (w0_16 x0 x1 x2 x3), iv (w0_23 x0 x1 x2 x3), rv b1, iv (j0_61_s0 x0 x1 x2 x3), rv b8, iv (w0_85 x0 x1 x2 x3), iv (4 : Int32), rv b87] [(.int (0 : Int32))])) rfl ?_
                      exact Goes.retB X98 hx hlk (t := .boolean) Bd.returns (by simp) (hb hby at_240) rfl ⟨(congrArg (fun z => some (Value.int z)) (show (r0 x0 x1 x2 x3) = (0 : Int32) from ((((((((if_neg hs136_17).trans (if_neg hs136_34)).trans (if_neg hs136_51)).trans (if_neg hs136_68)).trans (if_pos hc178_93)).trans (if_neg hc193_95)).trans (if_neg hc206_97)).trans (if_pos hc219_99))).symm), N98⟩ (by decide) (by decide)
                    · skip
                      refine Goes.st (B := T98.setTop (mkF m 222 #[iv x0, iv x1, iv x2, iv x3, iv (w0_2 x0 x1 x2 x3), iv (w0_9 x0 x1 x2 x3), iv (w0_16 x0 x1 x2 x3), iv (w0_23 x0 x1 x2 x3), rv b1, iv (j0_61_s0 x0 x1 x2 x3), rv b8, iv (w0_85 x0 x1 x2 x3), iv (4 : Int32), rv b87] [])) (fun t k => ?_) ?_
                      · refine XS.ifNo X98.here hx rfl (hb hby at_219) rfl ((if0 _ _).trans (feq hc219_99).1) ?_
                        exact k
                      refine Goes.run X98 hx hown hci hcl hby (L := [(222, .aload 13, 2), (224, .iconst 3, 1), (225, .iload 12, 2), (227, .iload 7, 2)]) (by decide +kernel) rfl (g' := (mkF m 229 #[iv x0, iv x1, iv x2, iv x3, iv (w0_2 x0 x1 x2 x3), iv (w0_9 x0 x1 x2 x3), iv (w0_16 x0 x1 x2 x3), iv (w0_23 x0 x1 x2 x3), rv b1, iv (j0_61_s0 x0 x1 x2 x3), rv b8, iv (w0_85 x0 x1 x2 x3), iv (4 : Int32), rv b87] [(.int (w0_23 x0 x1 x2 x3)), (.int (4 : Int32)), (.int (3 : Int32)), (.ref b87)])) rfl ?_
                      obtain ⟨_, _, ⟨T100, L100, k100, n100⟩, -, X100, ⟨Lc100, hQ100, l100, y100, z100⟩, st100⟩ := Jvm.LawKit.callS X98 hx (y := ym11) hown (mvT hZ w_65) (mvT hZ w_66) (mvT hZ w_67) (mvT hZ w_68) (by decide) (backOf (W := 0) (rmC l Z a0 hw [] b87 (3 : Int32) (4 : Int32) (w0_23 x0 x1 x2 x3) kc87 (5 : Int32) [(.int (w0_32 x0 x1 x2 x3)), (.int (w0_37 x0 x1 x2 x3)), (.int (w0_42 x0 x1 x2 x3)), (.int (w0_47 x0 x1 x2 x3)), (.int (w94_30 (j0_61_s0 x0 x1 x2 x3) (w0_32 x0 x1 x2 x3) (w0_37 x0 x1 x2 x3) (w0_42 x0 x1 x2 x3) (w0_47 x0 x1 x2 x3) (0 : Int32) (0 : Int32) (0 : Int32) (0 : Int32)))] (w0_47 x0 x1 x2 x3) h87 n0 Zn87 V_b87 (by decide) (by decide) rfl) hZ w_68 w_67 (by decide) (by decide)) (g := (mkF m 229 #[iv x0, iv x1, iv x2, iv x3, iv (w0_2 x0 x1 x2 x3), iv (w0_9 x0 x1 x2 x3), iv (w0_16 x0 x1 x2 x3), iv (w0_23 x0 x1 x2 x3), rv b1, iv (j0_61_s0 x0 x1 x2 x3), rv b8, iv (w0_85 x0 x1 x2 x3), iv (4 : Int32), rv b87] [(.int (w0_23 x0 x1 x2 x3)), (.int (4 : Int32)), (.int (3 : Int32)), (.ref b87)])) rfl (by rw [hml]; rfl) (argsL := [(.ref b87), (.int (3 : Int32)), (.int (4 : Int32)), (.int (w0_23 x0 x1 x2 x3))]) (rest := []) (lenOf pd0_6 rfl) rfl (by show 2 * 0 + _ ≤ _; exact Nat.le_of_eq rfl) (hb hby at_229) (fun _ _ => ⟨rfl, e98, (by decide : 4 + 0 ≤ _), (by decide : 267 + 0 ≤ _)⟩)
                      dsimp only [Pt.U, Pt.locs, Pt.cells, Pt.slots] at X100 l100 y100 z100 st100 hQ100
                      subst l100 y100 z100
                      obtain ⟨rfl, N100q, e100⟩ := hQ100
                      have N100 := Fr.app N98 N100q
                      refine Goes.st (B := T100.setTop (mkF m 232 #[iv x0, iv x1, iv x2, iv x3, iv (w0_2 x0 x1 x2 x3), iv (w0_9 x0 x1 x2 x3), iv (w0_16 x0 x1 x2 x3), iv (w0_23 x0 x1 x2 x3), rv b1, iv (j0_61_s0 x0 x1 x2 x3), rv b8, iv (w0_85 x0 x1 x2 x3), iv (4 : Int32), rv b87] [(.int (rC (3 : Int32) (4 : Int32) (w0_23 x0 x1 x2 x3) (5 : Int32) (w0_47 x0 x1 x2 x3)))])) st100 ?_
                      by_cases hc232_101 : (rC (3 : Int32) (4 : Int32) (w0_23 x0 x1 x2 x3) (5 : Int32) (w0_47 x0 x1 x2 x3)) = (0 : Int32)
                      · skip
                        refine Goes.st (B := T100.setTop (mkF m 239 #[iv x0, iv x1, iv x2, iv x3, iv (w0_2 x0 x1 x2 x3), iv (w0_9 x0 x1 x2 x3), iv (w0_16 x0 x1 x2 x3), iv (w0_23 x0 x1 x2 x3), rv b1, iv (j0_61_s0 x0 x1 x2 x3), rv b8, iv (w0_85 x0 x1 x2 x3), iv (4 : Int32), rv b87] [])) (fun t k => ?_) ?_
                        · refine XS.ifYes X100.here hx rfl (pc0 := 232) (pc' := 239) rfl (hb hby at_232) rfl ((if0 _ _).trans (teq hc232_101).1) (by decide) (by decide) ?_
                          exact k
                        refine Goes.run X100 hx hown hci hcl hby (L := [(239, .iconst 0, 1)]) (by decide +kernel) rfl (g' := (mkF m 240 #[iv x0, iv x1, iv x2, iv x3, iv (w0_2 x0 x1 x2 x3), iv (w0_9 x0 x1 x2 x3), iv (w0_16 x0 x1 x2 x3), iv (w0_23 x0 x1 x2 x3), rv b1, iv (j0_61_s0 x0 x1 x2 x3), rv b8, iv (w0_85 x0 x1 x2 x3), iv (4 : Int32), rv b87] [(.int (0 : Int32))])) rfl ?_
                        exact Goes.retB X100 hx hlk (t := .boolean) Bd.returns (by simp) (hb hby at_240) rfl ⟨(congrArg (fun z => some (Value.int z)) (show (r0 x0 x1 x2 x3) = (0 : Int32) from (((((((((if_neg hs136_17).trans (if_neg hs136_34)).trans (if_neg hs136_51)).trans (if_neg hs136_68)).trans (if_pos hc178_93)).trans (if_neg hc193_95)).trans (if_neg hc206_97)).trans (if_neg hc219_99)).trans (if_pos hc232_101))).symm), N100⟩ (by decide) (by decide)
                      · skip
                        refine Goes.st (B := T100.setTop (mkF m 235 #[iv x0, iv x1, iv x2, iv x3, iv (w0_2 x0 x1 x2 x3), iv (w0_9 x0 x1 x2 x3), iv (w0_16 x0 x1 x2 x3), iv (w0_23 x0 x1 x2 x3), rv b1, iv (j0_61_s0 x0 x1 x2 x3), rv b8, iv (w0_85 x0 x1 x2 x3), iv (4 : Int32), rv b87] [])) (fun t k => ?_) ?_
                        · refine XS.ifNo X100.here hx rfl (hb hby at_232) rfl ((if0 _ _).trans (feq hc232_101).1) ?_
                          exact k
                        refine Goes.run X100 hx hown hci hcl hby (L := [(235, .iconst 1, 1), (236, .goto 4, 3)]) (by decide +kernel) rfl (g' := (mkF m 240 #[iv x0, iv x1, iv x2, iv x3, iv (w0_2 x0 x1 x2 x3), iv (w0_9 x0 x1 x2 x3), iv (w0_16 x0 x1 x2 x3), iv (w0_23 x0 x1 x2 x3), rv b1, iv (j0_61_s0 x0 x1 x2 x3), rv b8, iv (w0_85 x0 x1 x2 x3), iv (4 : Int32), rv b87] [(.int (1 : Int32))])) rfl ?_
                        exact Goes.retB X100 hx hlk (t := .boolean) Bd.returns (by simp) (hb hby at_240) rfl ⟨(congrArg (fun z => some (Value.int z)) (show (r0 x0 x1 x2 x3) = (1 : Int32) from (((((((((if_neg hs136_17).trans (if_neg hs136_34)).trans (if_neg hs136_51)).trans (if_neg hs136_68)).trans (if_pos hc178_93)).trans (if_neg hc193_95)).trans (if_neg hc206_97)).trans (if_neg hc219_99)).trans (if_neg hc232_101))).symm), N100⟩ (by decide) (by decide)
              · skip
                refine Goes.st (B := T87.setTop (mkF m 181 #[iv x0, iv x1, iv x2, iv x3, iv (w0_2 x0 x1 x2 x3), iv (w0_9 x0 x1 x2 x3), iv (w0_16 x0 x1 x2 x3), iv (w0_23 x0 x1 x2 x3), rv b1, iv (j0_61_s0 x0 x1 x2 x3), rv b8, iv (w0_85 x0 x1 x2 x3), iv (4 : Int32), rv b87] [])) (fun t k => ?_) ?_
                · refine XS.icmpNo X87.here hx rfl (hb hby at_178) rfl (feq hc178_93).1 ?_
                  exact k
                refine Goes.run X87 hx hown hci hcl hby (L := [(181, .iconst 0, 1)]) (by decide +kernel) rfl (g' := (mkF m 182 #[iv x0, iv x1, iv x2, iv x3, iv (w0_2 x0 x1 x2 x3), iv (w0_9 x0 x1 x2 x3), iv (w0_16 x0 x1 x2 x3), iv (w0_23 x0 x1 x2 x3), rv b1, iv (j0_61_s0 x0 x1 x2 x3), rv b8, iv (w0_85 x0 x1 x2 x3), iv (4 : Int32), rv b87] [(.int (0 : Int32))])) rfl ?_
                exact Goes.retB X87 hx hlk (t := .boolean) Bd.returns (by simp) (hb hby at_182) rfl ⟨(congrArg (fun z => some (Value.int z)) (show (r0 x0 x1 x2 x3) = (0 : Int32) from (((((if_neg hs136_17).trans (if_neg hs136_34)).trans (if_neg hs136_51)).trans (if_neg hs136_68)).trans (if_neg hc178_93))).symm), N87⟩ (by decide) (by decide)
            by_cases hc169_91 : (j0_61_s0 x0 x1 x2 x3) = (0 : Int32)
            · skip
              refine Goes.st (B := T87.setTop (mkF m 176 #[iv x0, iv x1, iv x2, iv x3, iv (w0_2 x0 x1 x2 x3), iv (w0_9 x0 x1 x2 x3), iv (w0_16 x0 x1 x2 x3), iv (w0_23 x0 x1 x2 x3), rv b1, iv (j0_61_s0 x0 x1 x2 x3), rv b8, iv (w0_85 x0 x1 x2 x3), iv (4 : Int32), rv b87] [(.int (w94_30 (j0_61_s0 x0 x1 x2 x3) (w0_32 x0 x1 x2 x3) (w0_37 x0 x1 x2 x3) (w0_42 x0 x1 x2 x3) (w0_47 x0 x1 x2 x3) (0 : Int32) (0 : Int32) (0 : Int32) (0 : Int32)))])) (fun t k => ?_) ?_
              · refine XS.ifYes X87.here hx rfl (pc0 := 169) (pc' := 176) rfl (hb hby at_169) rfl ((if0 _ _).trans (teq hc169_91).1) (by decide) (by decide) ?_
                exact k
              refine Goes.run X87 hx hown hci hcl hby (L := [(176, .iconst 0, 1)]) (by decide +kernel) rfl (g' := (mkF m 177 #[iv x0, iv x1, iv x2, iv x3, iv (w0_2 x0 x1 x2 x3), iv (w0_9 x0 x1 x2 x3), iv (w0_16 x0 x1 x2 x3), iv (w0_23 x0 x1 x2 x3), rv b1, iv (j0_61_s0 x0 x1 x2 x3), rv b8, iv (w0_85 x0 x1 x2 x3), iv (4 : Int32), rv b87] [(.int (0 : Int32)), (.int (w94_30 (j0_61_s0 x0 x1 x2 x3) (w0_32 x0 x1 x2 x3) (w0_37 x0 x1 x2 x3) (w0_42 x0 x1 x2 x3) (w0_47 x0 x1 x2 x3) (0 : Int32) (0 : Int32) (0 : Int32) (0 : Int32)))])) rfl ?_
              have q := jn177_92
              rw [show (j0_177_s0 x0 x1 x2 x3) = (0 : Int32) from (if_pos hc169_91)] at q
              exact q
            · skip
              refine Goes.st (B := T87.setTop (mkF m 172 #[iv x0, iv x1, iv x2, iv x3, iv (w0_2 x0 x1 x2 x3), iv (w0_9 x0 x1 x2 x3), iv (w0_16 x0 x1 x2 x3), iv (w0_23 x0 x1 x2 x3), rv b1, iv (j0_61_s0 x0 x1 x2 x3), rv b8, iv (w0_85 x0 x1 x2 x3), iv (4 : Int32), rv b87] [(.int (w94_30 (j0_61_s0 x0 x1 x2 x3) (w0_32 x0 x1 x2 x3) (w0_37 x0 x1 x2 x3) (w0_42 x0 x1 x2 x3) (w0_47 x0 x1 x2 x3) (0 : Int32) (0 : Int32) (0 : Int32) (0 : Int32)))])) (fun t k => ?_) ?_
              · refine XS.ifNo X87.here hx rfl (hb hby at_169) rfl ((if0 _ _).trans (feq hc169_91).1) ?_
                exact k
              refine Goes.run X87 hx hown hci hcl hby (L := [(172, .iconst 1, 1), (173, .goto 4, 3)]) (by decide +kernel) rfl (g' := (mkF m 177 #[iv x0, iv x1, iv x2, iv x3, iv (w0_2 x0 x1 x2 x3), iv (w0_9 x0 x1 x2 x3), iv (w0_16 x0 x1 x2 x3), iv (w0_23 x0 x1 x2 x3), rv b1, iv (j0_61_s0 x0 x1 x2 x3), rv b8, iv (w0_85 x0 x1 x2 x3), iv (4 : Int32), rv b87] [(.int (1 : Int32)), (.int (w94_30 (j0_61_s0 x0 x1 x2 x3) (w0_32 x0 x1 x2 x3) (w0_37 x0 x1 x2 x3) (w0_42 x0 x1 x2 x3) (w0_47 x0 x1 x2 x3) (0 : Int32) (0 : Int32) (0 : Int32) (0 : Int32)))])) rfl ?_
              have q := jn177_92
              rw [show (j0_177_s0 x0 x1 x2 x3) = (1 : Int32) from (if_neg hc169_91)] at q
              exact q
  by_cases hc53_6 : (x3 &&& (1 : Int32)) = (0 : Int32)
  · skip
    refine Goes.st (B := T5.setTop (mkF m 60 #[iv x0, iv x1, iv x2, iv x3, iv (w0_2 x0 x1 x2 x3), iv (w0_9 x0 x1 x2 x3), iv (w0_16 x0 x1 x2 x3), iv (w0_23 x0 x1 x2 x3), rv b1, .unset, .unset, .unset, .unset, .unset] [])) (fun t k => ?_) ?_
    · refine XS.ifYes X5.here hx rfl (pc0 := 53) (pc' := 60) rfl (hb hby at_53) rfl ((if0 _ _).trans (teq hc53_6).1) (by decide) (by decide) ?_
      exact k
    refine Goes.run X5 hx hown hci hcl hby (L := [(60, .iconst 0, 1)]) (by decide +kernel) rfl (g' := (mkF m 61 #[iv x0, iv x1, iv x2, iv x3, iv (w0_2 x0 x1 x2 x3), iv (w0_9 x0 x1 x2 x3), iv (w0_16 x0 x1 x2 x3), iv (w0_23 x0 x1 x2 x3), rv b1, .unset, .unset, .unset, .unset, .unset] [(.int (0 : Int32))])) rfl ?_
    have q := jn61_7
    rw [show (j0_61_s0 x0 x1 x2 x3) = (0 : Int32) from (if_pos hc53_6)] at q
    exact q
  · skip
    refine Goes.st (B := T5.setTop (mkF m 56 #[iv x0, iv x1, iv x2, iv x3, iv (w0_2 x0 x1 x2 x3), iv (w0_9 x0 x1 x2 x3), iv (w0_16 x0 x1 x2 x3), iv (w0_23 x0 x1 x2 x3), rv b1, .unset, .unset, .unset, .unset, .unset] [])) (fun t k => ?_) ?_
    · refine XS.ifNo X5.here hx rfl (hb hby at_53) rfl ((if0 _ _).trans (feq hc53_6).1) ?_
      exact k
    refine Goes.run X5 hx hown hci hcl hby (L := [(56, .iconst 1, 1), (57, .goto 4, 3)]) (by decide +kernel) rfl (g' := (mkF m 61 #[iv x0, iv x1, iv x2, iv x3, iv (w0_2 x0 x1 x2 x3), iv (w0_9 x0 x1 x2 x3), iv (w0_16 x0 x1 x2 x3), iv (w0_23 x0 x1 x2 x3), rv b1, .unset, .unset, .unset, .unset, .unset] [(.int (1 : Int32))])) rfl ?_
    have q := jn61_7
    rw [show (j0_61_s0 x0 x1 x2 x3) = (1 : Int32) from (if_neg hc53_6)] at q
    exact q
set_option maxRecDepth 65536 in
set_option maxHeartbeats 40000000 in
theorem comes_1 {Post : Tables → Env → Array Value → State → Outcome → State → Prop} (hpost : ∀ tb e args s v u, (limb_1_1.after args s (.returned v) u = true ∧ limb_1_2.after args s (.returned v) u = true ∧ True) → FrameEnd s (.returned v) u (Jvm.fieldLocs frame_1_writes args s ++ Jvm.arrayLocs frame_1_arrays args s ++ Jvm.staticLocs frame_1_statics s) 16 640 → Post tb e args s (.returned v) u) :
    ArmFor flags0 classFile x code maxLocals ret World_1 tables_1 room_1 Calls_1 rest_1 Pre_1 Post := by
  intro l hfl _ _ p e ha hc hk s m args below hf hA hF happ hP
  obtain ⟨hcalls, hrest, hpre⟩ := hP
  obtain ⟨-, -, -, hnamed, -, -, -, hat⟩ := (Spec.applies_iff hf).mp happ
  obtain ⟨hg, hn⟩ := and_e (Cond.before_iff.mp (show (Jvm.Cond.and given_1 narrow_1).before args s = true from hpre))
  obtain ⟨g0, g0r⟩ := and_e hg
  obtain ⟨g1, g1r⟩ := and_e g0r
  obtain ⟨g2, g2r⟩ := and_e g1r
  obtain ⟨g3, g4⟩ := and_e g2r
  obtain ⟨w0, w1, w2, w3, rfl⟩ : ∃ w0 w1 w2 w3 : Value, args = #[w0, w1, w2, w3] := by
    have hs : args.size = 4 := by simpa [Cond.value, given_1] using g0
    obtain ⟨L⟩ := args
    match L, hs with
    | [w0, w1, w2, w3], _ => exact ⟨w0, w1, w2, w3, rfl⟩
  have hw := fun d (hd : d ∈ tables_1) => atoms_spec (ws := Jvm.Cond.code x code maxLocals ret :: tables_1) hat d (List.mem_cons_of_mem _ hd)
  have hfit : Fit s := fun {y c} hc i hi => by
    obtain ⟨ha, rfl⟩ := Array.getElem?_eq_some_iff.mp hc
    have q := List.all_eq_true.mp ((Array.all_eq_true_iff_forall_mem.mp hF) _ (Array.getElem_mem ha)) i (List.mem_range.mpr hi)
    simpa [Array.getElem?_eq_getElem hi] using q
  obtain ⟨i0, ei0⟩ := is_v g1
  obtain rfl : w0 = (.int i0) := Option.some.inj ei0
  obtain ⟨i1, ei1⟩ := is_v g2
  obtain rfl : w1 = (.int i1) := Option.some.inj ei1
  obtain ⟨i2, ei2⟩ := is_v g3
  obtain rfl : w2 = (.int i2) := Option.some.inj ei2
  obtain ⟨i3, ei3⟩ := is_v g4
  obtain rfl : w3 = (.int i3) := Option.some.inj ei3
  obtain ⟨n, o, h1, h2, h3, v, L, rfl, hv, hq⟩ := rm0 l s _ hw tables_1 i0 i1 i2 i3  s.heap s.heap.size (Nat.le_refl _)  p e ha hc hk s m _ below hf ((Spec.applies_iff_loose hf).mp happ).1 ⟨rfl, State.Warmed39.refl s, rfl⟩ trivial
  have N := hv.2
  have hv1 : v = some (.int 1) := hv.1.trans (congrArg (fun z => some (Value.int z)) (law_true i0 i1 i2 i3))
  subst hv1
  refine ⟨n, _, h1, h2, h3, hpost _ _ _ _ _ _ ⟨Cond.after_iff.mpr rfl, Cond.after_iff.mpr (eq_i res_at (Term.int_eval (1)) rfl), trivial⟩ ⟨hq.1, hq.2.1, (hq.2.2.sift fun y hy => Or.inr (N y hy)).mono (by decide) (by decide)⟩⟩
theorem main_1_1 : Claimed_1_1 := comes_1 fun _ _ _ _ _ _ h hF => ⟨h.1, hF⟩
theorem main_1_2 : Claimed_1_2 := comes_1 fun _ _ _ _ _ _ h hF => ⟨h.2.1, hF⟩
end Jvm.Pilot.@@N@@
namespace Jvm.Pilot.@@N@@
open Jvm Jvm.ClassFile Sem Op Lib Jvm.Free Jvm.Stand Jvm.Pilot.@@N@@.Jvm.D
/-! MADE BY PROGRAM (witnessworld.py) out of the Statement's table words and the real class files: 14 classes; the members and pool entries that the words name. The judged class is class 1, her method 1. -/
namespace start1
open Jvm.ClassFile
def u (s : String) : CpInfo := .utf8 (stringToUtf16 s)
/-- a pool by its gaps: so many unusable entries, then the entry; so many at the end -/
def gap : Nat → List CpInfo → List CpInfo
  | 0, r => r
  | n + 1, r => .unusable :: gap n r
def poolList (es : List (Nat × CpInfo)) (last : Nat) : List CpInfo := es.foldr (fun e r => gap e.1 (e.2 :: r)) (gap last [])
def pool (es : List (Nat × CpInfo)) (last : Nat) : Array CpInfo := ⟨poolList es last⟩
def fileOf (pool : Array CpInfo) (this : Nat) (attrs : Array Attribute := #[]) (ms : Array MethodInfo := #[]) (fl : Nat := 33) (sup : Nat := 0) (ifs : Array Nat := #[]) (fds : Array FieldInfo := #[]) : ClassFile where
  minorVersion := 0
  majorVersion := 65
  constantPool := pool
  accessFlags := fl
  thisClass := this
  superClass := sup
  interfaces := ifs
  fields := fds
  methods := ms
  attributes := attrs
def plain (name : String) (sup : Option ClassId) : Class where
  name := name
  kind := .ordinary
  loader := none
  accessFlags := 33
  super := sup
  interfaces := #[]
  cf := none
  fields := #[]
  methods := #[]
  instanceTypes := #[]
  staticTypes := #[]
  resolved := #[]
  callSites := []
  init := .initialized
  statics := none
  mirror := none

def pool0 : Array CpInfo := pool [(5, u "<init>"), (0, u "()V"), (1, .class_ 10), (1, u "java/lang/Object")] 113

def k0c0 : Code := { maxStack := 0, maxLocals := 1, code := object_method_1_code, exceptionTable := #[], attributes := #[] }
def k0m0 : Method := { name := "<init>", desc := "()V", sig := { parameters := [], returnType := none }, accessFlags := 1, code := some k0c0 }
/-- java/lang/Object -/
def k0 : Class := { plain "java/lang/Object" none with
  accessFlags := 33
  interfaces := #[]
  cf := some (fileOf pool0 8 #[] #[{ accessFlags := 1, nameIndex := 5, descriptorIndex := 6, attributes := #[] }] 33 0 #[] #[])
  fields := #[]
  methods := #[k0m0]
  instanceTypes := #[]
  staticTypes := #[]
  resolved := Array.replicate 124 none
  statics := none }

def pool1 : Array CpInfo := pool [(2, .class_ 4), (0, .nameAndType 5 6), (0, u "java/lang/Object"), (0, u "<init>"), (0, u "()V"), (0, .class_ 8), (0, u "com/example/upcaster/upcaster/io/BinaryEncoder"), (0, .methodref 7 3), (0, .methodref 7 11), (0, .nameAndType 12 13), (0, u "writeFixed"), (0, u "([B)V"), (0, .integer 2147483647), (0, .methodref 7 16), (0, .nameAndType 17 18), (0, u "truncate"), (0, u "(I)V"), (0, .methodref 7 20), (0, .nameAndType 21 22), (0, u "size"), (0, u "()I"), (0, .methodref 7 24), (0, .nameAndType 25 26), (0, u "writeBoolean"), (0, u "(Z)V"), (0, .methodref 7 28), (0, .nameAndType 29 30), (0, u "toByteArray"), (0, u "()[B"), (0, .methodref 32 33), (0, .class_ 34), (0, .nameAndType 35 36), (0, u "com/example/upcaster/upcaster/io/BinaryEncoderTruncatePinLaw"), (0, u "kept"), (0, u "([BIIB)Z"), (2, u "law"), (0, u "(IIII)Z")] 5

def k1m0 : Method := { name := "<init>", desc := "()V", sig := { parameters := [], returnType := none }, accessFlags := 1, code := none }
def k1c1 : Code := { maxStack := 4, maxLocals := 14, code := code, exceptionTable := #[], attributes := #[] }
def k1m1 : Method := { name := "law", desc := "(IIII)Z", sig := { parameters := [.int, .int, .int, .int], returnType := some .boolean }, accessFlags := 9, code := some k1c1 }
def k1c2 : Code := { maxStack := 2, maxLocals := 4, code := method_3_code, exceptionTable := #[], attributes := #[] }
def k1m2 : Method := { name := "kept", desc := "([BIIB)Z", sig := { parameters := [(.array .byte), .int, .int, .byte], returnType := some .boolean }, accessFlags := 10, code := some k1c2 }
/-- com/example/upcaster/upcaster/io/BinaryEncoderTruncatePinLaw -/
def k1 : Class := { plain "com/example/upcaster/upcaster/io/BinaryEncoderTruncatePinLaw" (some 0) with
  accessFlags := 49
  interfaces := #[]
  cf := some (fileOf pool1 32 #[] #[{ accessFlags := 1, nameIndex := 5, descriptorIndex := 6, attributes := #[] }, { accessFlags := 9, nameIndex := 39, descriptorIndex := 40, attributes := #[] }, { accessFlags := 10, nameIndex := 35, descriptorIndex := 36, attributes := #[] }] 49 2 #[] #[])
  fields := #[]
  methods := #[k1m0, k1m1, k1m2]
  instanceTypes := #[]
  staticTypes := #[]
  resolved := Array.replicate 46 none
  statics := none }

def pool2 : Array CpInfo := pool [(1, .methodref 2 3), (0, .class_ 4), (0, .nameAndType 5 6), (0, u "java/lang/Object"), (0, u "<init>"), (0, u "()V"), (0, .class_ 8), (0, u "com/example/upcaster/upcaster/io/BinaryEncoder"), (0, .fieldref 7 10), (0, .nameAndType 11 12), (0, u "buffer"), (0, u "[B"), (0, .fieldref 7 14), (0, .nameAndType 15 16), (0, u "size"), (0, u "I"), (0, .methodref 18 19), (0, .class_ 20), (0, .nameAndType 21 22), (0, u "java/util/Objects"), (0, u "checkIndex"), (0, u "(II)I"), (6, .methodref 30 31), (0, .class_ 32), (0, .nameAndType 33 34), (0, u "java/util/Arrays"), (0, u "copyOf"), (0, u "([BI)[B"), (0, .methodref 7 36), (0, .nameAndType 37 38), (0, u "room"), (0, u "(I)V"), (12, u "INT_LE"), (0, u "Ljava/lang/invoke/VarHandle;"), (13, u "LONG_LE"), (9, u "writeFixed"), (0, u "([B)V"), (28, .methodref 107 108), (0, .class_ 109), (0, .nameAndType 110 111), (0, u "java/lang/System"), (0, u "arraycopy"), (0, u "(Ljava/lang/Object;ILjava/lang/Object;II)V"), (3, u "()I"), (18, .integer 2147483639), (25, u "FIRST_BUFFER_SIZE"), (2, u "VARINT_LIMIT"), (4, u "truncate"), (5, u "toByteArray"), (0, u "()[B"), (0, u "writeBoolean"), (0, u "(Z)V")] 24

def k2c0 : Code := { maxStack := 2, maxLocals := 1, code := prog_6_method_1_code, exceptionTable := #[], attributes := #[] }
def k2m0 : Method := { name := "<init>", desc := "()V", sig := { parameters := [], returnType := none }, accessFlags := 1, code := some k2c0 }
def k2c1 : Code := { maxStack := 1, maxLocals := 1, code := prog_6_method_2_code, exceptionTable := #[], attributes := #[] }
def k2m1 : Method := { name := "size", desc := "()I", sig := { parameters := [], returnType := some .int }, accessFlags := 1, code := some k2c1 }
def k2c2 : Code := { maxStack := 4, maxLocals := 2, code := prog_6_method_4_code, exceptionTable := #[], attributes := #[] }
def k2m2 : Method := { name := "truncate", desc := "(I)V", sig := { parameters := [.int], returnType := none }, accessFlags := 1, code := some k2c2 }
def k2c3 : Code := { maxStack := 2, maxLocals := 1, code := prog_6_method_6_code, exceptionTable := #[], attributes := #[] }
def k2m3 : Method := { name := "toByteArray", desc := "()[B", sig := { parameters := [], returnType := some (.array .byte) }, accessFlags := 1, code := some k2c3 }
def k2c4 : Code := { maxStack := 5, maxLocals := 2, code := prog_6_method_7_code, exceptionTable := #[], attributes := #[] }
def k2m4 : Method := { name := "writeBoolean", desc := "(Z)V", sig := { parameters := [.boolean], returnType := none }, accessFlags := 1, code := some k2c4 }
def k2c5 : Code := { maxStack := 5, maxLocals := 2, code := prog_6_method_14_code, exceptionTable := #[], attributes := #[] }
def k2m5 : Method := { name := "writeFixed", desc := "([B)V", sig := { parameters := [(.array .byte)], returnType := none }, accessFlags := 1, code := some k2c5 }
def k2c6 : Code := { maxStack := 6, maxLocals := 2, code := prog_6_method_16_code, exceptionTable := #[], attributes := #[] }
def k2m6 : Method := { name := "room", desc := "(I)V", sig := { parameters := [.int], returnType := none }, accessFlags := 2, code := some k2c6 }
/-- com/example/upcaster/upcaster/io/BinaryEncoder -/
def k2 : Class := { plain "com/example/upcaster/upcaster/io/BinaryEncoder" (some 0) with
  accessFlags := 33
  interfaces := #[]
  cf := some (fileOf pool2 7 #[] #[{ accessFlags := 1, nameIndex := 5, descriptorIndex := 6, attributes := #[] }, { accessFlags := 1, nameIndex := 15, descriptorIndex := 115, attributes := #[] }, { accessFlags := 1, nameIndex := 168, descriptorIndex := 38, attributes := #[] }, { accessFlags := 1, nameIndex := 174, descriptorIndex := 175, attributes := #[] }, { accessFlags := 1, nameIndex := 176, descriptorIndex := 177, attributes := #[] }, { accessFlags := 1, nameIndex := 76, descriptorIndex := 77, attributes := #[] }, { accessFlags := 2, nameIndex := 37, descriptorIndex := 38, attributes := #[] }] 33 2 #[] #[{ accessFlags := 26, nameIndex := 51, descriptorIndex := 52, attributes := #[] }, { accessFlags := 26, nameIndex := 66, descriptorIndex := 52, attributes := #[] }, { accessFlags := 26, nameIndex := 160, descriptorIndex := 16, attributes := #[] }, { accessFlags := 26, nameIndex := 163, descriptorIndex := 16, attributes := #[] }, { accessFlags := 2, nameIndex := 11, descriptorIndex := 12, attributes := #[] }, { accessFlags := 2, nameIndex := 15, descriptorIndex := 16, attributes := #[] }])
  fields := #[{ name := "INT_LE", type := (.object "java/lang/invoke/VarHandle"), accessFlags := 26, slot := 0, constantValue := 0 }, { name := "LONG_LE", type := (.object "java/lang/invoke/VarHandle"), accessFlags := 26, slot := 1, constantValue := 0 }, { name := "FIRST_BUFFER_SIZE", type := .int, accessFlags := 26, slot := 2, constantValue := 0 }, { name := "VARINT_LIMIT", type := .int, accessFlags := 26, slot := 3, constantValue := 0 }, { name := "buffer", type := (.array .byte), accessFlags := 2, slot := 0, constantValue := 0 }, { name := "size", type := .int, accessFlags := 2, slot := 1, constantValue := 0 }]
  methods := #[k2m0, k2m1, k2m2, k2m3, k2m4, k2m5, k2m6]
  instanceTypes := #[(.array .byte), .int]
  staticTypes := #[(.object "java/lang/invoke/VarHandle"), (.object "java/lang/invoke/VarHandle"), .int, .int]
  resolved := Array.replicate 202 none
  statics := none }

def pool3 : Array CpInfo := pool [(2, .class_ 4), (1, u "java/lang/Object"), (0, u "<init>"), (0, u "()V"), (1, .class_ 10), (1, u "java/lang/System"), (0, u "allowSecurityManager"), (0, u "I"), (16, u "cons"), (0, u "Ljava/io/Console;"), (77, .class_ 110), (1, u "java/lang/System$CallersHolder"), (43, u "initialErrStream"), (0, u "Ljava/io/PrintStream;"), (19, u "security"), (0, u "Ljava/lang/SecurityManager;"), (31, .class_ 209), (0, u "java/lang/System$1"), (7, u "props"), (0, u "Ljava/util/Properties;"), (2, u "lineSeparator"), (0, u "Ljava/lang/String;"), (96, .class_ 321), (1, u "java/lang/System$LoggerFinder"), (5, .class_ 328), (0, u "java/lang/System$Logger"), (67, u "err"), (2, u "out"), (91, u "notSupportedJnuEncoding"), (15, u "in"), (17, u "initialIn"), (0, u "Ljava/io/InputStream;"), (35, u "bootLayer"), (0, u "Ljava/lang/ModuleLayer;"), (99, .class_ 664), (0, u "java/lang/System$2"), (9, u "NEVER"), (2, u "MAYBE"), (49, u "arraycopy"), (0, u "(Ljava/lang/Object;ILjava/lang/Object;II)V"), (72, .class_ 802), (0, u "java/lang/System$Logger$Level")] 31

def k3m0 : Method := { name := "<init>", desc := "()V", sig := { parameters := [], returnType := none }, accessFlags := 2, code := none }
def k3m1 : Method := { name := "arraycopy", desc := "(Ljava/lang/Object;ILjava/lang/Object;II)V", sig := { parameters := [(.object "java/lang/Object"), .int, (.object "java/lang/Object"), .int, .int], returnType := none }, accessFlags := 265, code := none }
/-- java/lang/System -/
def k3 : Class := { plain "java/lang/System" (some 0) with
  accessFlags := 49
  interfaces := #[]
  cf := some (fileOf pool3 8 #[.nestMembers #[319, 327, 801, 108, 663, 208]] #[{ accessFlags := 2, nameIndex := 5, descriptorIndex := 6, attributes := #[] }, { accessFlags := 265, nameIndex := 727, descriptorIndex := 728, attributes := #[] }] 49 2 #[] #[{ accessFlags := 25, nameIndex := 507, descriptorIndex := 526, attributes := #[] }, { accessFlags := 25, nameIndex := 399, descriptorIndex := 155, attributes := #[] }, { accessFlags := 25, nameIndex := 396, descriptorIndex := 155, attributes := #[] }, { accessFlags := 10, nameIndex := 525, descriptorIndex := 526, attributes := #[] }, { accessFlags := 26, nameIndex := 674, descriptorIndex := 12, attributes := #[] }, { accessFlags := 26, nameIndex := 677, descriptorIndex := 12, attributes := #[] }, { accessFlags := 10, nameIndex := 11, descriptorIndex := 12, attributes := #[] }, { accessFlags := 74, nameIndex := 175, descriptorIndex := 176, attributes := #[] }, { accessFlags := 10, nameIndex := 491, descriptorIndex := 222, attributes := #[] }, { accessFlags := 74, nameIndex := 29, descriptorIndex := 30, attributes := #[] }, { accessFlags := 74, nameIndex := 154, descriptorIndex := 155, attributes := #[] }, { accessFlags := 10, nameIndex := 217, descriptorIndex := 218, attributes := #[] }, { accessFlags := 10, nameIndex := 221, descriptorIndex := 222, attributes := #[] }, { accessFlags := 8, nameIndex := 562, descriptorIndex := 563, attributes := #[] }])
  fields := #[{ name := "in", type := (.object "java/io/InputStream"), accessFlags := 25, slot := 0, constantValue := 0 }, { name := "out", type := (.object "java/io/PrintStream"), accessFlags := 25, slot := 1, constantValue := 0 }, { name := "err", type := (.object "java/io/PrintStream"), accessFlags := 25, slot := 2, constantValue := 0 }, { name := "initialIn", type := (.object "java/io/InputStream"), accessFlags := 10, slot := 3, constantValue := 0 }, { name := "NEVER", type := .int, accessFlags := 26, slot := 4, constantValue := 0 }, { name := "MAYBE", type := .int, accessFlags := 26, slot := 5, constantValue := 0 }, { name := "allowSecurityManager", type := .int, accessFlags := 10, slot := 6, constantValue := 0 }, { name := "security", type := (.object "java/lang/SecurityManager"), accessFlags := 74, slot := 7, constantValue := 0 }, { name := "notSupportedJnuEncoding", type := (.object "java/lang/String"), accessFlags := 10, slot := 8, constantValue := 0 }, { name := "cons", type := (.object "java/io/Console"), accessFlags := 74, slot := 9, constantValue := 0 }, { name := "initialErrStream", type := (.object "java/io/PrintStream"), accessFlags := 74, slot := 10, constantValue := 0 }, { name := "props", type := (.object "java/util/Properties"), accessFlags := 10, slot := 11, constantValue := 0 }, { name := "lineSeparator", type := (.object "java/lang/String"), accessFlags := 10, slot := 12, constantValue := 0 }, { name := "bootLayer", type := (.object "java/lang/ModuleLayer"), accessFlags := 8, slot := 13, constantValue := 0 }]
  methods := #[k3m0, k3m1]
  instanceTypes := #[]
  staticTypes := #[(.object "java/io/InputStream"), (.object "java/io/PrintStream"), (.object "java/io/PrintStream"), (.object "java/io/InputStream"), .int, .int, .int, (.object "java/lang/SecurityManager"), (.object "java/lang/String"), (.object "java/io/Console"), (.object "java/io/PrintStream"), (.object "java/util/Properties"), (.object "java/lang/String"), (.object "java/lang/ModuleLayer")]
  resolved := Array.replicate 834 none
  statics := none }

def pool4 : Array CpInfo := pool [(2, .class_ 4), (1, u "java/lang/Object"), (0, u "<init>"), (0, u "()V"), (35, .class_ 44), (1, u "java/util/Objects"), (60, .methodref 106 107), (0, .class_ 108), (0, .nameAndType 109 110), (0, u "jdk/internal/util/Preconditions"), (0, u "checkIndex"), (0, u "(IILjava/util/function/BiFunction;)I"), (60, u "(II)I")] 12

def k4m0 : Method := { name := "<init>", desc := "()V", sig := { parameters := [], returnType := none }, accessFlags := 2, code := none }
def k4c1 : Code := { maxStack := 3, maxLocals := 2, code := jdk_31_method_17_code, exceptionTable := #[], attributes := #[] }
def k4m1 : Method := { name := "checkIndex", desc := "(II)I", sig := { parameters := [.int, .int], returnType := some .int }, accessFlags := 9, code := some k4c1 }
/-- java/util/Objects -/
def k4 : Class := { plain "java/util/Objects" (some 0) with
  accessFlags := 49
  interfaces := #[]
  cf := some (fileOf pool4 42 #[] #[{ accessFlags := 2, nameIndex := 5, descriptorIndex := 6, attributes := #[] }, { accessFlags := 9, nameIndex := 109, descriptorIndex := 171, attributes := #[] }] 49 2 #[] #[])
  fields := #[]
  methods := #[k4m0, k4m1]
  instanceTypes := #[]
  staticTypes := #[]
  resolved := Array.replicate 184 none
  statics := none }

def pool5 : Array CpInfo := pool [(2, .class_ 4), (1, u "java/lang/Object"), (0, u "<init>"), (0, u "()V"), (17, .class_ 26), (1, u "jdk/internal/util/Preconditions"), (6, u "checkIndex"), (21, .class_ 56), (0, u "jdk/internal/util/Preconditions$4"), (57, .class_ 115), (0, u "jdk/internal/util/Preconditions$1"), (7, u "SIOOBE_FORMATTER"), (0, u "Ljava/util/function/BiFunction;"), (0, .class_ 126), (0, u "jdk/internal/util/Preconditions$2"), (3, u "AIOOBE_FORMATTER"), (0, .class_ 132), (0, u "jdk/internal/util/Preconditions$3"), (3, u "IOOBE_FORMATTER"), (41, u "(IILjava/util/function/BiFunction;)I")] 15

def k5m0 : Method := { name := "<init>", desc := "()V", sig := { parameters := [], returnType := none }, accessFlags := 1, code := none }
def k5c1 : Code := { maxStack := 3, maxLocals := 3, code := jdk_41_method_11_code, exceptionTable := #[], attributes := #[] }
def k5m1 : Method := { name := "checkIndex", desc := "(IILjava/util/function/BiFunction;)I", sig := { parameters := [.int, .int, (.object "java/util/function/BiFunction")], returnType := some .int }, accessFlags := 9, code := some k5c1 }
/-- jdk/internal/util/Preconditions -/
def k5 : Class := { plain "jdk/internal/util/Preconditions" (some 0) with
  accessFlags := 33
  interfaces := #[]
  cf := some (fileOf pool5 24 #[.nestMembers #[55, 131, 125, 114]] #[{ accessFlags := 1, nameIndex := 5, descriptorIndex := 6, attributes := #[] }, { accessFlags := 9, nameIndex := 33, descriptorIndex := 178, attributes := #[] }] 33 2 #[] #[{ accessFlags := 25, nameIndex := 123, descriptorIndex := 124, attributes := #[] }, { accessFlags := 25, nameIndex := 130, descriptorIndex := 124, attributes := #[] }, { accessFlags := 25, nameIndex := 136, descriptorIndex := 124, attributes := #[] }])
  fields := #[{ name := "SIOOBE_FORMATTER", type := (.object "java/util/function/BiFunction"), accessFlags := 25, slot := 0, constantValue := 0 }, { name := "AIOOBE_FORMATTER", type := (.object "java/util/function/BiFunction"), accessFlags := 25, slot := 1, constantValue := 0 }, { name := "IOOBE_FORMATTER", type := (.object "java/util/function/BiFunction"), accessFlags := 25, slot := 2, constantValue := 0 }]
  methods := #[k5m0, k5m1]
  instanceTypes := #[]
  staticTypes := #[(.object "java/util/function/BiFunction"), (.object "java/util/function/BiFunction"), (.object "java/util/function/BiFunction")]
  resolved := Array.replicate 194 none
  statics := none }

def pool6 : Array CpInfo := pool [(2, .class_ 4), (1, u "java/lang/Object"), (0, u "<init>"), (0, u "()V"), (7, .class_ 16), (1, u "java/util/Arrays"), (57, .class_ 76), (1, u "java/util/Arrays$NaturalOrder"), (36, .class_ 115), (1, u "java/util/Arrays$LegacyMergeSort"), (1, u "Z"), (32, .methodref 151 152), (0, .class_ 153), (0, .nameAndType 154 155), (0, u "java/lang/System"), (0, u "arraycopy"), (0, u "(Ljava/lang/Object;ILjava/lang/Object;II)V"), (146, u "copyOf"), (1, .methodref 305 306), (0, .class_ 307), (0, .nameAndType 308 309), (0, u "java/lang/Math"), (0, u "min"), (0, u "(II)I"), (65, .class_ 376), (0, u "java/util/Arrays$ArrayList"), (68, u "$assertionsDisabled"), (269, u "MIN_ARRAY_SORT_GRAN"), (0, u "I"), (2, u "INSERTIONSORT_THRESHOLD"), (149, u "([BI)[B"), (105, .class_ 976), (0, u "java/util/Arrays$ArrayItr")] 52

def k6m0 : Method := { name := "<init>", desc := "()V", sig := { parameters := [], returnType := none }, accessFlags := 2, code := none }
def k6c1 : Code := { maxStack := 6, maxLocals := 3, code := jdk_65_method_121_code, exceptionTable := #[], attributes := #[] }
def k6m1 : Method := { name := "copyOf", desc := "([BI)[B", sig := { parameters := [(.array .byte), .int], returnType := some (.array .byte) }, accessFlags := 9, code := some k6c1 }
/-- java/util/Arrays -/
def k6 : Class := { plain "java/util/Arrays" (some 0) with
  accessFlags := 49
  interfaces := #[]
  cf := some (fileOf pool6 14 #[.nestMembers #[975, 375, 113, 74]] #[{ accessFlags := 2, nameIndex := 5, descriptorIndex := 6, attributes := #[] }, { accessFlags := 9, nameIndex := 302, descriptorIndex := 869, attributes := #[] }] 49 2 #[] #[{ accessFlags := 26, nameIndex := 715, descriptorIndex := 716, attributes := #[] }, { accessFlags := 26, nameIndex := 719, descriptorIndex := 716, attributes := #[] }, { accessFlags := 4120, nameIndex := 445, descriptorIndex := 117, attributes := #[] }])
  fields := #[{ name := "MIN_ARRAY_SORT_GRAN", type := .int, accessFlags := 26, slot := 0, constantValue := 0 }, { name := "INSERTIONSORT_THRESHOLD", type := .int, accessFlags := 26, slot := 1, constantValue := 0 }, { name := "$assertionsDisabled", type := .boolean, accessFlags := 4120, slot := 2, constantValue := 0 }]
  methods := #[k6m0, k6m1]
  instanceTypes := #[]
  staticTypes := #[.int, .int, .boolean]
  resolved := Array.replicate 1029 none
  statics := none }

def pool7 : Array CpInfo := pool [(1, .class_ 2), (0, u "java/lang/Math"), (1, .class_ 6), (1, u "java/lang/Object"), (0, u "<init>"), (0, u "()V"), (89, .class_ 100), (1, u "java/lang/Math$RandomNumberGeneratorHolder"), (71, u "negativeZeroFloatBits"), (0, u "J"), (2, u "negativeZeroDoubleBits"), (24, u "min"), (43, u "$assertionsDisabled"), (0, u "Z"), (88, u "(II)I"), (2, u "twoToTheDoubleScaleDown"), (0, u "D"), (4, u "twoToTheDoubleScaleUp"), (9, u "E"), (3, u "PI"), (2, u "TAU"), (2, u "DEGREES_TO_RADIANS"), (0, u "RADIANS_TO_DEGREES")] 94

def k7m0 : Method := { name := "<init>", desc := "()V", sig := { parameters := [], returnType := none }, accessFlags := 2, code := none }
def k7c1 : Code := { maxStack := 2, maxLocals := 2, code := jdk_29_method_69_code, exceptionTable := #[], attributes := #[] }
def k7m1 : Method := { name := "min", desc := "(II)I", sig := { parameters := [.int, .int], returnType := some .int }, accessFlags := 9, code := some k7c1 }
/-- java/lang/Math -/
def k7 : Class := { plain "java/lang/Math" (some 0) with
  accessFlags := 49
  interfaces := #[]
  cf := some (fileOf pool7 1 #[.nestMembers #[98]] #[{ accessFlags := 2, nameIndex := 7, descriptorIndex := 8, attributes := #[] }, { accessFlags := 9, nameIndex := 201, descriptorIndex := 335, attributes := #[] }] 49 4 #[] #[{ accessFlags := 25, nameIndex := 354, descriptorIndex := 339, attributes := #[] }, { accessFlags := 25, nameIndex := 358, descriptorIndex := 339, attributes := #[] }, { accessFlags := 25, nameIndex := 361, descriptorIndex := 339, attributes := #[] }, { accessFlags := 26, nameIndex := 364, descriptorIndex := 339, attributes := #[] }, { accessFlags := 26, nameIndex := 365, descriptorIndex := 339, attributes := #[] }, { accessFlags := 26, nameIndex := 172, descriptorIndex := 173, attributes := #[] }, { accessFlags := 26, nameIndex := 176, descriptorIndex := 173, attributes := #[] }, { accessFlags := 8, nameIndex := 344, descriptorIndex := 339, attributes := #[] }, { accessFlags := 8, nameIndex := 338, descriptorIndex := 339, attributes := #[] }, { accessFlags := 4120, nameIndex := 245, descriptorIndex := 246, attributes := #[] }])
  fields := #[{ name := "E", type := .double, accessFlags := 25, slot := 0, constantValue := 0 }, { name := "PI", type := .double, accessFlags := 25, slot := 1, constantValue := 0 }, { name := "TAU", type := .double, accessFlags := 25, slot := 2, constantValue := 0 }, { name := "DEGREES_TO_RADIANS", type := .double, accessFlags := 26, slot := 3, constantValue := 0 }, { name := "RADIANS_TO_DEGREES", type := .double, accessFlags := 26, slot := 4, constantValue := 0 }, { name := "negativeZeroFloatBits", type := .long, accessFlags := 26, slot := 5, constantValue := 0 }, { name := "negativeZeroDoubleBits", type := .long, accessFlags := 26, slot := 6, constantValue := 0 }, { name := "twoToTheDoubleScaleUp", type := .double, accessFlags := 8, slot := 7, constantValue := 0 }, { name := "twoToTheDoubleScaleDown", type := .double, accessFlags := 8, slot := 8, constantValue := 0 }, { name := "$assertionsDisabled", type := .boolean, accessFlags := 4120, slot := 9, constantValue := 0 }]
  methods := #[k7m0, k7m1]
  instanceTypes := #[]
  staticTypes := #[.double, .double, .double, .double, .double, .long, .long, .double, .double, .boolean]
  resolved := Array.replicate 460 none
  statics := none }

def pool8 : Array CpInfo := pool [(1, u "java/lang/Cloneable"), (0, .class_ 1), (0, u "java/lang/Object"), (0, .class_ 3)] 3

/-- java/lang/Cloneable -/
def k8 : Class := { plain "java/lang/Cloneable" (some 0) with
  accessFlags := 1537
  interfaces := #[]
  cf := some (fileOf pool8 2 #[] #[] 1537 4 #[] #[])
  fields := #[]
  methods := #[]
  instanceTypes := #[]
  staticTypes := #[]
  resolved := Array.replicate 8 none
  statics := none }

def pool9 : Array CpInfo := pool [(1, u "java/io/Serializable"), (0, .class_ 1), (0, u "java/lang/Object"), (0, .class_ 3)] 3

/-- java/io/Serializable -/
def k9 : Class := { plain "java/io/Serializable" (some 0) with
  accessFlags := 1537
  interfaces := #[]
  cf := some (fileOf pool9 2 #[] #[] 1537 4 #[] #[])
  fields := #[]
  methods := #[]
  instanceTypes := #[]
  staticTypes := #[]
  resolved := Array.replicate 8 none
  statics := none }

/-- the primitive byte -/
def k10 : Class := { plain "byte" none with kind := .primitive 'B', accessFlags := 0x411 }
/-- [B -/
def k11 : Class := { plain "[B" (some 0) with kind := .array 10 .byte, interfaces := #[8, 9], accessFlags := 1041 }

/-- the primitive int -/
def k12 : Class := { plain "int" none with kind := .primitive 'I', accessFlags := 0x411 }
/-- [I -/
def k13 : Class := { plain "[I" (some 0) with kind := .array 12 .int, interfaces := #[8, 9], accessFlags := 1041 }

def heap : Heap := #[]
def classes : Array Class := #[k0, k1, k2, k3, k4, k5, k6, k7, k8, k9, k10, k11, k12, k13]
def interned : List (Array UInt16 × Addr) := []
def slotsUsed : Nat := 0
def theMethod : MethodId := ⟨1, 1⟩
def args0 : Array Value := #[.int 5, .int 7, .int 9, .int 3]
def aboutOver (below : List Frame) : State where
  vm := { classes := classes, interned := interned.toArray }
  heap := heap
  slotsUsed := slotsUsed
  threads := #[{ frames := .invoking theMethod args0 :: below }]
def below0 : List Frame := [.native { method := ⟨0, 0⟩, args := #[] }]
def about1 : State := aboutOver below0
def p0 : Program := .bare "" "" ""
def e0 : Env := launch0.env 0 0 0
theorem w_frames : about1.frames = Frame.invoking theMethod args0 :: below0 := rfl
set_option maxRecDepth 65536 in
theorem w_args : argsFit about1.vm theMethod args0 = true := by decide +kernel
set_option maxRecDepth 65536 in
theorem w_heap : heapFits about1 = true := by decide +kernel
set_option maxRecDepth 65536 in
theorem w_runnable : about1.curStatus? = some .runnable := by decide +kernel
set_option maxRecDepth 65536 in
theorem w_alone : about1.alone = true := by decide +kernel
set_option maxRecDepth 65536 in
theorem w_named : about1.methodNamed? x = some theMethod := by decide +kernel
set_option maxRecDepth 65536 in
theorem w_hears : about1.hears theMethod below0 = true := by decide +kernel
set_option maxRecDepth 65536 in
theorem w_ripe : about1.ripe theMethod args0 below0 = true := by decide +kernel
theorem w_running : about1.status = .running := rfl
set_option maxRecDepth 65536 in
theorem w_room : about1.hasRoom e0.platform room_1 = true :=
  launch0.hasRoom_least _ room_1 (by decide +kernel) (by decide +kernel) (by decide +kernel) (by decide +kernel) (by decide +kernel) (by decide +kernel)
theorem allAtoms_all (ts : List Jvm.Cond) (a : Array Jvm.Value) (st : Jvm.State) : (allAtoms ts).before a st = ts.all (fun c => c.before a st) := by
  induction ts with
  | nil => rfl
  | cons c t ih =>
    show (Jvm.Cond.and c (allAtoms t)).before a st = _
    rw [Jvm.Cond.before_and, ih, List.all_cons]
def words1 : List Jvm.Cond := Jvm.Cond.code x code maxLocals ret :: tables_1
/-- a 'code' word, met by the world's own term for the bytes: nothing is compared byte by byte -/
theorem code_word {y : MethodName} {bytes : ByteArray} {mx : Nat} {rt : Option FieldType} {a : Array Value} {s : State} {m : MethodId} {meth : Method} {c : Code} (h1 : s.methodNamed? y = some m) (h2 : s.vm.method? m = some meth) (h3 : meth.code = some c) (h4 : c.code = bytes)
    (h5 : (c.maxLocals == mx && c.exceptionTable.isEmpty && decide (c.maxStack ≤ mostOperands) && decide (meth.sig.returnType = rt) && !meth.locks && decide (parseMethodDescriptor y.desc = some meth.sig)) = true) : (Jvm.Cond.code y bytes mx rt).before a s = true := by
  simp only [Bool.and_eq_true, beq_iff_eq, Bool.not_eq_true', decide_eq_true_eq] at h5
  obtain ⟨⟨⟨⟨⟨g1, g2⟩, g3⟩, g4⟩, g5⟩, g6⟩ := h5
  simp [Cond.before, Cond.holds, Cond.value, h1, h2, h3, h4, g1, g2, g3, g4, g5, g6]
def isCode : Jvm.Cond → Bool
  | .code _ _ _ _ => true
  | _ => false
theorem all_split {L : List Jvm.Cond} {P : Jvm.Cond → Bool} (h1 : L.all (fun c => isCode c || P c) = true) (h2 : ∀ c ∈ L.filter isCode, P c = true) : L.all P = true := by
  refine List.all_eq_true.mpr fun c hc => ?_
  have h := List.all_eq_true.mp h1 c hc
  rcases Bool.eq_false_or_eq_true (isCode c) with hi | hi
  · exact h2 c (List.mem_filter.mpr ⟨hc, hi⟩)
  · simpa [hi] using h
set_option maxRecDepth 65536 in
theorem w_c0 : (Jvm.Cond.code x code maxLocals ret).before args0 about1 = true := code_word (m := ⟨1, 1⟩) (meth := k1m1) (c := k1c1) (by decide +kernel) rfl rfl rfl (by decide +kernel)
set_option maxRecDepth 65536 in
theorem w_c1 : (Jvm.Cond.code ({ cls := "com/example/upcaster/upcaster/io/BinaryEncoder", name := "<init>", desc := "()V" } : Jvm.MethodName) prog_6_method_1_code (1 : Nat) (Option.none : Option Jvm.ClassFile.FieldType)).before args0 about1 = true := code_word (m := ⟨2, 0⟩) (meth := k2m0) (c := k2c0) (by decide +kernel) rfl rfl rfl (by decide +kernel)
set_option maxRecDepth 65536 in
theorem w_c2 : (Jvm.Cond.code ({ cls := "java/lang/Object", name := "<init>", desc := "()V" } : Jvm.MethodName) object_method_1_code (1 : Nat) (Option.none : Option Jvm.ClassFile.FieldType)).before args0 about1 = true := code_word (m := ⟨0, 0⟩) (meth := k0m0) (c := k0c0) (by decide +kernel) rfl rfl rfl (by decide +kernel)
set_option maxRecDepth 65536 in
theorem w_c3 : (Jvm.Cond.code ({ cls := "com/example/upcaster/upcaster/io/BinaryEncoder", name := "writeFixed", desc := "([B)V" } : Jvm.MethodName) prog_6_method_14_code (2 : Nat) (Option.none : Option Jvm.ClassFile.FieldType)).before args0 about1 = true := code_word (m := ⟨2, 5⟩) (meth := k2m5) (c := k2c5) (by decide +kernel) rfl rfl rfl (by decide +kernel)
set_option maxRecDepth 65536 in
theorem w_c4 : (Jvm.Cond.code ({ cls := "com/example/upcaster/upcaster/io/BinaryEncoder", name := "room", desc := "(I)V" } : Jvm.MethodName) prog_6_method_16_code (2 : Nat) (Option.none : Option Jvm.ClassFile.FieldType)).before args0 about1 = true := code_word (m := ⟨2, 6⟩) (meth := k2m6) (c := k2c6) (by decide +kernel) rfl rfl rfl (by decide +kernel)
set_option maxRecDepth 65536 in
theorem w_c5 : (Jvm.Cond.code ({ cls := "com/example/upcaster/upcaster/io/BinaryEncoder", name := "truncate", desc := "(I)V" } : Jvm.MethodName) prog_6_method_4_code (2 : Nat) (Option.none : Option Jvm.ClassFile.FieldType)).before args0 about1 = true := code_word (m := ⟨2, 2⟩) (meth := k2m2) (c := k2c2) (by decide +kernel) rfl rfl rfl (by decide +kernel)
set_option maxRecDepth 65536 in
theorem w_c6 : (Jvm.Cond.code ({ cls := "java/util/Objects", name := "checkIndex", desc := "(II)I" } : Jvm.MethodName) jdk_31_method_17_code (2 : Nat) (Option.some Jvm.ClassFile.FieldType.int)).before args0 about1 = true := code_word (m := ⟨4, 1⟩) (meth := k4m1) (c := k4c1) (by decide +kernel) rfl rfl rfl (by decide +kernel)
set_option maxRecDepth 65536 in
theorem w_c7 : (Jvm.Cond.code ({ cls := "jdk/internal/util/Preconditions", name := "checkIndex", desc := "(IILjava/util/function/BiFunction;)I" } : Jvm.MethodName) jdk_41_method_11_code (3 : Nat) (Option.some Jvm.ClassFile.FieldType.int)).before args0 about1 = true := code_word (m := ⟨5, 1⟩) (meth := k5m1) (c := k5c1) (by decide +kernel) rfl rfl rfl (by decide +kernel)
set_option maxRecDepth 65536 in
theorem w_c8 : (Jvm.Cond.code ({ cls := "com/example/upcaster/upcaster/io/BinaryEncoder", name := "size", desc := "()I" } : Jvm.MethodName) prog_6_method_2_code (1 : Nat) (Option.some Jvm.ClassFile.FieldType.int)).before args0 about1 = true := code_word (m := ⟨2, 1⟩) (meth := k2m1) (c := k2c1) (by decide +kernel) rfl rfl rfl (by decide +kernel)
set_option maxRecDepth 65536 in
theorem w_c9 : (Jvm.Cond.code ({ cls := "com/example/upcaster/upcaster/io/BinaryEncoder", name := "writeBoolean", desc := "(Z)V" } : Jvm.MethodName) prog_6_method_7_code (2 : Nat) (Option.none : Option Jvm.ClassFile.FieldType)).before args0 about1 = true := code_word (m := ⟨2, 4⟩) (meth := k2m4) (c := k2c4) (by decide +kernel) rfl rfl rfl (by decide +kernel)
set_option maxRecDepth 65536 in
theorem w_c10 : (Jvm.Cond.code ({ cls := "com/example/upcaster/upcaster/io/BinaryEncoder", name := "toByteArray", desc := "()[B" } : Jvm.MethodName) prog_6_method_6_code (1 : Nat) (Option.some (Jvm.ClassFile.FieldType.array Jvm.ClassFile.FieldType.byte))).before args0 about1 = true := code_word (m := ⟨2, 3⟩) (meth := k2m3) (c := k2c3) (by decide +kernel) rfl rfl rfl (by decide +kernel)
set_option maxRecDepth 65536 in
theorem w_c11 : (Jvm.Cond.code ({ cls := "java/util/Arrays", name := "copyOf", desc := "([BI)[B" } : Jvm.MethodName) jdk_65_method_121_code (3 : Nat) (Option.some (Jvm.ClassFile.FieldType.array Jvm.ClassFile.FieldType.byte))).before args0 about1 = true := code_word (m := ⟨6, 1⟩) (meth := k6m1) (c := k6c1) (by decide +kernel) rfl rfl rfl (by decide +kernel)
set_option maxRecDepth 65536 in
theorem w_c12 : (Jvm.Cond.code ({ cls := "java/lang/Math", name := "min", desc := "(II)I" } : Jvm.MethodName) jdk_29_method_69_code (2 : Nat) (Option.some Jvm.ClassFile.FieldType.int)).before args0 about1 = true := code_word (m := ⟨7, 1⟩) (meth := k7m1) (c := k7c1) (by decide +kernel) rfl rfl rfl (by decide +kernel)
set_option maxRecDepth 65536 in
theorem w_c13 : (Jvm.Cond.code ({ cls := "com/example/upcaster/upcaster/io/BinaryEncoderTruncatePinLaw", name := "kept", desc := "([BIIB)Z" } : Jvm.MethodName) method_3_code (4 : Nat) (Option.some Jvm.ClassFile.FieldType.boolean)).before args0 about1 = true := code_word (m := ⟨1, 2⟩) (meth := k1m2) (c := k1c2) (by decide +kernel) rfl rfl rfl (by decide +kernel)
def codes1 : List Jvm.Cond := [Jvm.Cond.code x code maxLocals ret, Jvm.Cond.code ({ cls := "com/example/upcaster/upcaster/io/BinaryEncoder", name := "<init>", desc := "()V" } : Jvm.MethodName) prog_6_method_1_code (1 : Nat) (Option.none : Option Jvm.ClassFile.FieldType), Jvm.Cond.code ({ cls := "java/lang/Object", name := "<init>", desc := "()V" } : Jvm.MethodName) object_method_1_code (1 : Nat) (Option.none : Option Jvm.ClassFile.FieldType), Jvm.Cond.code ({ cls := "com/example/upcaster/upcaster/io/BinaryEncoder", name := "writeFixed", desc := "([B)V" } : Jvm.MethodName) prog_6_method_14_code (2 : Nat) (Option.none : Option Jvm.ClassFile.FieldType), Jvm.Cond.code ({ cls := "com/example/upcaster/upcaster/io/BinaryEncoder", name := "room", desc := "(I)V" } : Jvm.MethodName) prog_6_method_16_code (2 : Nat) (Option.none : Option Jvm.ClassFile.FieldType), Jvm.Cond.code ({ cls := "com/example/upcaster/upcaster/io/BinaryEncoder", name := "truncate", desc := "(I)V" } : Jvm.MethodName) prog_6_method_4_code (2 : Nat) (Option.none : Option Jvm.ClassFile.FieldType), Jvm.Cond.code ({ cls := "java/util/Objects", name := "checkIndex", desc := "(II)I" } : Jvm.MethodName) jdk_31_method_17_code (2 : Nat) (Option.some Jvm.ClassFile.FieldType.int), Jvm.Cond.code ({ cls := "jdk/internal/util/Preconditions", name := "checkIndex", desc := "(IILjava/util/function/BiFunction;)I" } : Jvm.MethodName) jdk_41_method_11_code (3 : Nat) (Option.some Jvm.ClassFile.FieldType.int), Jvm.Cond.code ({ cls := "com/example/upcaster/upcaster/io/BinaryEncoder", name := "size", desc := "()I" } : Jvm.MethodName) prog_6_method_2_code (1 : Nat) (Option.some Jvm.ClassFile.FieldType.int), Jvm.Cond.code ({ cls := "com/example/upcaster/upcaster/io/BinaryEncoder", name := "writeBoolean", desc := "(Z)V" } : Jvm.MethodName) prog_6_method_7_code (2 : Nat) (Option.none : Option Jvm.ClassFile.FieldType), Jvm.Cond.code ({ cls := "com/example/upcaster/upcaster/io/BinaryEncoder", name := "toByteArray", desc := "()[B" } : Jvm.MethodName) prog_6_method_6_code (1 : Nat) (Option.some (Jvm.ClassFile.FieldType.array Jvm.ClassFile.FieldType.byte)), Jvm.Cond.code ({ cls := "java/util/Arrays", name := "copyOf", desc := "([BI)[B" } : Jvm.MethodName) jdk_65_method_121_code (3 : Nat) (Option.some (Jvm.ClassFile.FieldType.array Jvm.ClassFile.FieldType.byte)), Jvm.Cond.code ({ cls := "java/lang/Math", name := "min", desc := "(II)I" } : Jvm.MethodName) jdk_29_method_69_code (2 : Nat) (Option.some Jvm.ClassFile.FieldType.int), Jvm.Cond.code ({ cls := "com/example/upcaster/upcaster/io/BinaryEncoderTruncatePinLaw", name := "kept", desc := "([BIIB)Z" } : Jvm.MethodName) method_3_code (4 : Nat) (Option.some Jvm.ClassFile.FieldType.boolean)]
set_option maxRecDepth 65536 in
theorem codes_eq : words1.filter isCode = codes1 := rfl
theorem w_codes : ∀ c ∈ words1.filter isCode, c.before args0 about1 = true := by
  rw [codes_eq]
  intro c hc
  simp only [codes1, List.mem_cons, List.not_mem_nil, or_false] at hc
  rcases hc with rfl | rfl | rfl | rfl | rfl | rfl | rfl | rfl | rfl | rfl | rfl | rfl | rfl | rfl
  · exact w_c0
  · exact w_c1
  · exact w_c2
  · exact w_c3
  · exact w_c4
  · exact w_c5
  · exact w_c6
  · exact w_c7
  · exact w_c8
  · exact w_c9
  · exact w_c10
  · exact w_c11
  · exact w_c12
  · exact w_c13
set_option maxRecDepth 65536 in
theorem w_t1 : (words1.take 24).all (fun c => isCode c || c.before args0 about1) = true := by decide +kernel
set_option maxRecDepth 65536 in
theorem w_t2 : ((words1.drop 24).take 24).all (fun c => isCode c || c.before args0 about1) = true := by decide +kernel
set_option maxRecDepth 65536 in
theorem w_t3 : ((words1.drop 24).drop 24).all (fun c => isCode c || c.before args0 about1) = true := by decide +kernel
theorem w_tables : (allAtoms (Jvm.Cond.code x code maxLocals ret :: tables_1)).before args0 about1 = true := by
  rw [allAtoms_all]
  show words1.all (fun c => c.before args0 about1) = true
  refine all_split ?_ w_codes
  rw [← List.take_append_drop 24 words1, List.all_append, w_t1, ← List.take_append_drop 24 (words1.drop 24), List.all_append, w_t2, w_t3]
  rfl
set_option maxRecDepth 65536 in
theorem w_case : (Jvm.Cond.and given_1 narrow_1).before args0 about1 = true := by decide +kernel
theorem w_applies : (headSpec (Jvm.Cond.code x code maxLocals ret :: tables_1) room_1).applies x e0.platform about1 = true :=
  (Spec.applies_iff w_frames).mpr ⟨w_running, w_runnable, w_alone, w_named, w_hears, w_ripe, w_room, w_tables⟩
theorem atStart : AtStart classFile x code maxLocals ret World_1 tables_1 room_1 Calls_1 rest_1 Pre_1 launch0 p0 e0 about1 theMethod args0 below0 :=
  ⟨lists_1, trivial, launch0.admits_env _ _ _, launch0.least_env, fairChoices_fair.cas, fairChoices_fair.clock, w_frames, w_args, w_heap, w_applies, trivial, trivial, w_case⟩
end start1
theorem witness_1 : WitnessClaimed_1 := ⟨start1.p0, start1.e0, start1.about1, start1.theMethod, start1.args0, start1.below0, start1.atStart⟩
end Jvm.Pilot.@@N@@
