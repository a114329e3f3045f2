import JvmDerived
import JvmDerived.Pilot.@@N@@Statement
import JvmDerived.Pilot.@@N@@Code
set_option linter.unusedVariables false
set_option linter.unusedSimpArgs false
@@BLOCK:NumsL.lean.txt@@
namespace Jvm.Pilot.@@N@@
open Jvm Jvm.ClassFile Sem Op Lib Jvm.Free Jvm.Stand Jvm.LawKit Jvm.RoadKit Bundle Jvm.Pilot.@@N@@.Jvm.D
abbrev ym0 : MethodName := ⟨"com/example/marks_across_domains/marksacrossdomains/OrganisationId", "rangeProblem", "(JJ)Ljava/lang/String;"⟩
abbrev ym1 : MethodName := ⟨"com/example/marks_across_domains/marksacrossdomains/OrganisationId", "<init>", "(IJ)V"⟩
abbrev ym2 : MethodName := ⟨"java/lang/Number", "<init>", "()V"⟩
abbrev ym3 : MethodName := ⟨"java/lang/Long", "<init>", "(J)V"⟩
abbrev ym4 : MethodName := ⟨"java/lang/Long", "valueOf", "(J)Ljava/lang/Long;"⟩
abbrev ym5 : MethodName := ⟨"com/example/marks_across_domains/marksacrossdomains/OrganisationId", "equals", "(Ljava/lang/Object;)Z"⟩
def Goes (p : Program) (e : Env) (below : List Frame) (s : State) (Q : Option Value → Heap → List Loc → Prop) (kc ks : Nat) (A : State) : Prop :=
  ∃ s₂ o, Steps p.tables e below A s₂ ∧ s₂.status = .running ∧ Ended s₂ below o ∧ ∃ v L, o = .returned v ∧ Q v s₂.heap L ∧ FrameEnd s o s₂ L kc ks
abbrev jv (x : Int64) : Slot := .val (.long x)
def QL (w : Option Value) (n0 : Nat) (v : Option Value) (h : Heap) (L : List Loc) : Prop := v = w ∧ Fr n0 L
theorem own_selp {s : State} {args : Array Value} {y : MethodName} {n : Nat} (hins : (Cond.instantiable y.cls n).before args s = true) (hpriv : (Cond.privateMethod y).before args s = true) (hinst : (Cond.instanceMethod y).before args s = true) (hy : y.cls ≠ "java/lang/invoke/MethodHandle" ∧ y.cls ≠ "java/lang/invoke/VarHandle") : (Cond.selects y.cls y y).before args s = true := by
  obtain ⟨c, k, hc, hk, -, hniab, -, -⟩ := Cond.instantiable_spec hins
  exact selects_self_of_private hc hk (Bool.or_eq_false_iff.mp hniab).1 (Cond.privateMethod_at hpriv) hinst hy
def QP (w : Option Value) (h0 : Heap) (n0 : Nat) (v : Option Value) (h : Heap) (L : List Loc) : Prop := v = w ∧ Fr n0 L ∧ h = h0
section OwnGoes
variable {p : Program} {l : Launch} {e : Env} {R : Room} {s : State} {m : MethodId} {args : Array Value} {below : List Frame} {meth : Method} {c : Code} {T : State} {locs : List Loc} {cells slots kc ks : Nat} {Q : Option Value → Heap → List Loc → Prop}
theorem Goes.st {A B : State} (h : ∀ t, Steps p.tables e below B t → Steps p.tables e below A t) (g : Goes p e below s Q kc ks B) : Goes p e below s Q kc ks A := by
  obtain ⟨s₂, o, h1, r⟩ := g
  exact ⟨s₂, o, h _ h1, r⟩
theorem Goes.cast {g g' : JFrame} (q : g = g') (h : Goes p e below s Q kc ks (T.setTop g')) : Goes p e below s Q kc ks (T.setTop g) := q ▸ h
theorem Goes.retI (X : Stand p l e R s m args below meth c T locs cells slots) (hx : p.tables.exec = Jvm.exec) (hlk : meth.locks = false) (hret : meth.sig.returnType = some .int) {pc : Nat} {Ls : Array Slot} {z : Int32} {rest : List Value} (hd : decode c.code pc = .ok (.ireturn, 1)) (hQ : Q (some (.int z)) T.heap locs) (h1 : cells ≤ kc) (h2 : slots ≤ ks) : Goes p e below s Q kc ks (T.setTop (mkF m pc Ls (.int z :: rest))) := by
  obtain ⟨fs, hr, hrun, hended, hW, hsame⟩ := X.leave (v := some (.int z)) (fun h => by rw [hret] at h; cases h)
  exact ⟨_, _, retOut X hx hret rfl (Or.inl ⟨rfl, Or.inl rfl, _, rfl⟩) hd hr, hrun, hended, _, _, rfl, hQ, ⟨_, rfl⟩, hW, hsame.mono h1 h2⟩
theorem Goes.retJ (X : Stand p l e R s m args below meth c T locs cells slots) (hx : p.tables.exec = Jvm.exec) (hlk : meth.locks = false) (hret : meth.sig.returnType = some .long) {pc : Nat} {Ls : Array Slot} {z : Int64} {rest : List Value} (hd : decode c.code pc = .ok (.lreturn, 1)) (hQ : Q (some (.long z)) T.heap locs) (h1 : cells ≤ kc) (h2 : slots ≤ ks) : Goes p e below s Q kc ks (T.setTop (mkF m pc Ls (.long z :: rest))) := by
  obtain ⟨fs, hr, hrun, hended, hW, hsame⟩ := X.leave (v := some (.long z)) (fun h => by rw [hret] at h; cases h)
  exact ⟨_, _, retOut X hx hret rfl (Or.inr (Or.inl ⟨rfl, rfl, _, rfl⟩)) hd hr, hrun, hended, _, _, rfl, hQ, ⟨_, rfl⟩, hW, hsame.mono h1 h2⟩
theorem Goes.retR (X : Stand p l e R s m args below meth c T locs cells slots) (hx : p.tables.exec = Jvm.exec) (hlk : meth.locks = false) {t : FieldType} (hret : meth.sig.returnType = some t) {w : Value} (ht : t.isReference = true) (hw : w.isRef = true) {pc : Nat} {Ls : Array Slot} {rest : List Value} (hd : decode c.code pc = .ok (.areturn, 1)) (hQ : Q (some w) T.heap locs) (h1 : cells ≤ kc) (h2 : slots ≤ ks) : Goes p e below s Q kc ks (T.setTop (mkF m pc Ls (w :: rest))) := by
  obtain ⟨fs, hr, hrun, hended, hW, hsame⟩ := X.leave (v := some w) (fun h => by rw [hret] at h; cases h)
  have hn : narrow t w = w := by cases t <;> cases w <;> first | rfl | (simp [FieldType.isReference] at ht) | (simp [Value.isRef] at hw)
  exact ⟨_, _, retOut X hx hret hn (Or.inr (Or.inr (Or.inr (Or.inr ⟨rfl, ht, hw⟩)))) hd hr, hrun, hended, _, _, rfl, hQ, ⟨_, rfl⟩, hW, hsame.mono h1 h2⟩
theorem Goes.retB (X : Stand p l e R s m args below meth c T locs cells slots) (hx : p.tables.exec = Jvm.exec) (hlk : meth.locks = false) {t : FieldType} (hret : meth.sig.returnType = some t) (ht : t = .boolean ∨ t = .byte ∨ t = .char ∨ t = .short) {pc : Nat} {Ls : Array Slot} {z : Int32} {rest : List Value} (hd : decode c.code pc = .ok (.ireturn, 1)) (hz : nar t z = z) (hQ : Q (some (.int z)) T.heap locs) (h1 : cells ≤ kc) (h2 : slots ≤ ks) : Goes p e below s Q kc ks (T.setTop (mkF m pc Ls (.int z :: rest))) := by
  obtain ⟨fs, hr, hrun, hended, hW, hsame⟩ := X.leave (v := some (.int z)) (fun h => by rw [hret] at h; cases h)
  exact ⟨_, _, retN X hx hret ht hd (by rw [hz]; exact hr), hrun, hended, _, _, rfl, hQ, ⟨_, rfl⟩, hW, hsame.mono h1 h2⟩
theorem Goes.retV (X : Stand p l e R s m args below meth c T locs cells slots) (hx : p.tables.exec = Jvm.exec) (hlk : meth.locks = false) (hret : meth.sig.returnType = none) {pc : Nat} {Ls : Array Slot} (hd : decode c.code pc = .ok (.return_, 1)) (hQ : Q none T.heap locs) (h1 : cells ≤ kc) (h2 : slots ≤ ks) : Goes p e below s Q kc ks (T.setTop (mkF m pc Ls [])) := by
  obtain ⟨fs, hr, hrun, hended, hW, hsame⟩ := X.leave (v := none) (fun _ => rfl)
  exact ⟨_, _, X.returnOut hx hret hd hr, hrun, hended, _, _, rfl, hQ, ⟨_, rfl⟩, hW, hsame.mono h1 h2⟩
end OwnGoes
theorem tltL {x y : Int64} (h : x < y) : ifCond.holds .lt (lcmpW x y) = true ∧ ifCond.holds .ge (lcmpW x y) = false ∧ ifCond.holds .gt (lcmpW y x) = true ∧ ifCond.holds .le (lcmpW y x) = false :=
  ⟨(if0 _ _).trans (tlt ((lw_lt x y).mpr h)).1, (if0 _ _).trans (tlt ((lw_lt x y).mpr h)).2.1, (if0 _ _).trans (tlt ((lw_gt y x).mpr h)).2.2.1, (if0 _ _).trans (tlt ((lw_gt y x).mpr h)).2.2.2⟩
theorem fltL {x y : Int64} (h : ¬ x < y) : ifCond.holds .lt (lcmpW x y) = false ∧ ifCond.holds .ge (lcmpW x y) = true ∧ ifCond.holds .gt (lcmpW y x) = false ∧ ifCond.holds .le (lcmpW y x) = true :=
  ⟨(if0 _ _).trans (flt fun q => h ((lw_lt x y).mp q)).1, (if0 _ _).trans (flt fun q => h ((lw_lt x y).mp q)).2.1, (if0 _ _).trans (flt fun q => h ((lw_gt y x).mp q)).2.2.1, (if0 _ _).trans (flt fun q => h ((lw_gt y x).mp q)).2.2.2⟩
theorem teqL {x y : Int64} (h : x = y) : ifCond.holds .eq (lcmpW x y) = true ∧ ifCond.holds .ne (lcmpW x y) = false :=
  ⟨(if0 _ _).trans (teq ((lw_eq x y).mpr h)).1, (if0 _ _).trans (teq ((lw_eq x y).mpr h)).2⟩
theorem feqL {x y : Int64} (h : ¬ x = y) : ifCond.holds .eq (lcmpW x y) = false ∧ ifCond.holds .ne (lcmpW x y) = true :=
  ⟨(if0 _ _).trans (feq fun q => h ((lw_eq x y).mp q)).1, (if0 _ _).trans (feq fun q => h ((lw_eq x y).mp q)).2⟩
def own_look {α : Type} (i : Nat) : List (Nat × α) → Option α
  | [] => none
  | (j, v) :: r => if i = j then some v else own_look i r
theorem own_look_mem {α : Type} {i : Nat} {v : α} : ∀ {L : List (Nat × α)}, own_look i L = some v → (i, v) ∈ L
  | [], h => by cases h
  | (j, w) :: r, h => by
    unfold own_look at h
    by_cases q : i = j
    · rw [if_pos q] at h; cases h; subst q; exact List.mem_cons_self
    · rw [if_neg q] at h; exact List.mem_cons_of_mem _ (own_look_mem h)
def own_pstep (ci : List (Nat × Int32)) (cl : List (Nat × Int64)) (i : Instr) (n : Nat) (g : JFrame) : Option JFrame :=
  match i with
  | .iload_n k => if n = 1 then (match g.locals[k.val]? with | some (.val (.int v)) => some { g with pc := g.pc + 1, stack := .int v :: g.stack } | _ => none) else none
  | .iload k => if n = 2 then (match g.locals[k]? with | some (.val (.int v)) => some { g with pc := g.pc + 2, stack := .int v :: g.stack } | _ => none) else none
  | .lload_n k => if n = 1 then (match g.locals[k.val]? with | some (.val (.long v)) => some { g with pc := g.pc + 1, stack := .long v :: g.stack } | _ => none) else none
  | .lload k => if n = 2 then (match g.locals[k]? with | some (.val (.long v)) => some { g with pc := g.pc + 2, stack := .long v :: g.stack } | _ => none) else none
  | .aload_n k => if n = 1 then (match g.locals[k.val]? with | some (.val v) => if v.isRef = true then some { g with pc := g.pc + 1, stack := v :: g.stack } else none | _ => none) else none
  | .aload k => if n = 2 then (match g.locals[k]? with | some (.val v) => if v.isRef = true then some { g with pc := g.pc + 2, stack := v :: g.stack } else none | _ => none) else none
  | .istore_n k => if n = 1 then (match g.stack with | .int x :: rest => (match storeLocals g.locals k.val (.int x) with | some l' => some { g with pc := g.pc + 1, stack := rest, locals := l' } | none => none) | _ => none) else none
  | .istore k => if n = 2 then (match g.stack with | .int x :: rest => (match storeLocals g.locals k (.int x) with | some l' => some { g with pc := g.pc + 2, stack := rest, locals := l' } | none => none) | _ => none) else none
  | .lstore_n k => if n = 1 then (match g.stack with | .long x :: rest => (match storeLocals g.locals k.val (.long x) with | some l' => some { g with pc := g.pc + 1, stack := rest, locals := l' } | none => none) | _ => none) else none
  | .lstore k => if n = 2 then (match g.stack with | .long x :: rest => (match storeLocals g.locals k (.long x) with | some l' => some { g with pc := g.pc + 2, stack := rest, locals := l' } | none => none) | _ => none) else none
  | .astore_n k => if n = 1 then (match g.stack with | x :: rest => (if x.isRef = true then (match storeLocals g.locals k.val x with | some l' => some { g with pc := g.pc + 1, stack := rest, locals := l' } | none => none) else none) | _ => none) else none
  | .astore k => if n = 2 then (match g.stack with | x :: rest => (if x.isRef = true then (match storeLocals g.locals k x with | some l' => some { g with pc := g.pc + 2, stack := rest, locals := l' } | none => none) else none) | _ => none) else none
  | .iconst i => if n = 1 then (some { g with pc := g.pc + 1, stack := .int (Int32.ofInt i) :: g.stack }) else none
  | .bipush i => if n = 2 then (some { g with pc := g.pc + 2, stack := .int (Int8.ofInt i).toInt32 :: g.stack }) else none
  | .sipush i => if n = 3 then (some { g with pc := g.pc + 3, stack := .int (Int16.ofInt i).toInt32 :: g.stack }) else none
  | .lconst k => if n = 1 then (some { g with pc := g.pc + 1, stack := .long (Int64.ofNat k) :: g.stack }) else none
  | .aconst_null => if n = 1 then (some { g with pc := g.pc + 1, stack := .null :: g.stack }) else none
  | .iadd => if n = 1 then (match g.stack with | .int y :: .int x :: rest => some { g with pc := g.pc + 1, stack := .int (x + y) :: rest } | _ => none) else none
  | .ladd => if n = 1 then (match g.stack with | .long y :: .long x :: rest => some { g with pc := g.pc + 1, stack := .long (x + y) :: rest } | _ => none) else none
  | .isub => if n = 1 then (match g.stack with | .int y :: .int x :: rest => some { g with pc := g.pc + 1, stack := .int (x - y) :: rest } | _ => none) else none
  | .lsub => if n = 1 then (match g.stack with | .long y :: .long x :: rest => some { g with pc := g.pc + 1, stack := .long (x - y) :: rest } | _ => none) else none
  | .imul => if n = 1 then (match g.stack with | .int y :: .int x :: rest => some { g with pc := g.pc + 1, stack := .int (x * y) :: rest } | _ => none) else none
  | .lmul => if n = 1 then (match g.stack with | .long y :: .long x :: rest => some { g with pc := g.pc + 1, stack := .long (x * y) :: rest } | _ => none) else none
  | .iand => if n = 1 then (match g.stack with | .int y :: .int x :: rest => some { g with pc := g.pc + 1, stack := .int (x &&& y) :: rest } | _ => none) else none
  | .land => if n = 1 then (match g.stack with | .long y :: .long x :: rest => some { g with pc := g.pc + 1, stack := .long (x &&& y) :: rest } | _ => none) else none
  | .ior => if n = 1 then (match g.stack with | .int y :: .int x :: rest => some { g with pc := g.pc + 1, stack := .int (x ||| y) :: rest } | _ => none) else none
  | .lor => if n = 1 then (match g.stack with | .long y :: .long x :: rest => some { g with pc := g.pc + 1, stack := .long (x ||| y) :: rest } | _ => none) else none
  | .ixor => if n = 1 then (match g.stack with | .int y :: .int x :: rest => some { g with pc := g.pc + 1, stack := .int (x ^^^ y) :: rest } | _ => none) else none
  | .lxor => if n = 1 then (match g.stack with | .long y :: .long x :: rest => some { g with pc := g.pc + 1, stack := .long (x ^^^ y) :: rest } | _ => none) else none
  | .ishl => if n = 1 then (match g.stack with | .int y :: .int x :: rest => some { g with pc := g.pc + 1, stack := .int (x <<< (y &&& 31)) :: rest } | _ => none) else none
  | .ishr => if n = 1 then (match g.stack with | .int y :: .int x :: rest => some { g with pc := g.pc + 1, stack := .int (x >>> (y &&& 31)) :: rest } | _ => none) else none
  | .iushr => if n = 1 then (match g.stack with | .int y :: .int x :: rest => some { g with pc := g.pc + 1, stack := .int ((x.toUInt32 >>> (y &&& 31).toUInt32).toInt32) :: rest } | _ => none) else none
  | .lshl => if n = 1 then (match g.stack with | .int y :: .long x :: rest => some { g with pc := g.pc + 1, stack := .long (x <<< (y &&& 0x3f).toInt64) :: rest } | _ => none) else none
  | .lshr => if n = 1 then (match g.stack with | .int y :: .long x :: rest => some { g with pc := g.pc + 1, stack := .long (x >>> (y &&& 0x3f).toInt64) :: rest } | _ => none) else none
  | .lushr => if n = 1 then (match g.stack with | .int y :: .long x :: rest => some { g with pc := g.pc + 1, stack := .long ((x.toUInt64 >>> (y &&& 0x3f).toInt64.toUInt64).toInt64) :: rest } | _ => none) else none
  | .lcmp => if n = 1 then (match g.stack with | .long y :: .long x :: rest => some { g with pc := g.pc + 1, stack := .int (if x > y then 1 else if x = y then 0 else -1) :: rest } | _ => none) else none
  | .ineg => if n = 1 then (match g.stack with | .int v :: rest => some { g with pc := g.pc + 1, stack := .int (-v) :: rest } | _ => none) else none
  | .lneg => if n = 1 then (match g.stack with | .long v :: rest => some { g with pc := g.pc + 1, stack := .long (-v) :: rest } | _ => none) else none
  | .i2l => if n = 1 then (match g.stack with | .int v :: rest => some { g with pc := g.pc + 1, stack := .long (v.toInt64) :: rest } | _ => none) else none
  | .l2i => if n = 1 then (match g.stack with | .long v :: rest => some { g with pc := g.pc + 1, stack := .int (v.toInt32) :: rest } | _ => none) else none
  | .i2b => if n = 1 then (match g.stack with | .int v :: rest => some { g with pc := g.pc + 1, stack := .int (v.toInt8.toInt32) :: rest } | _ => none) else none
  | .i2c => if n = 1 then (match g.stack with | .int v :: rest => some { g with pc := g.pc + 1, stack := .int (v.toUInt32.toUInt16.toUInt32.toInt32) :: rest } | _ => none) else none
  | .i2s => if n = 1 then (match g.stack with | .int v :: rest => some { g with pc := g.pc + 1, stack := .int (v.toInt16.toInt32) :: rest } | _ => none) else none
  | .iinc k cst => if n = 3 then (match g.locals[k]? with | some (.val (.int x)) => (match storeLocals g.locals k (.int (x + Int32.ofInt cst)) with | some l' => some { g with pc := g.pc + 3, locals := l' } | none => none) | _ => none) else none
  | .dup => if n = 1 then (match g.stack with | x :: rest => (if x.category = 1 then some { g with pc := g.pc + 1, stack := x :: x :: rest } else none) | _ => none) else none
  | .pop => if n = 1 then (match g.stack with | x :: rest => (if x.category = 1 then some { g with pc := g.pc + 1, stack := rest } else none) | _ => none) else none
  | .goto o => if n = 3 then (if 0 ≤ (g.pc : Int) + o then some { g with pc := ((g.pc : Int) + o).toNat } else none) else none
  | .ldc i => if n = 2 then (match own_look i ci with | some v => some { g with pc := g.pc + 2, stack := .int v :: g.stack } | none => none) else none
  | .ldc_w i => if n = 3 then (match own_look i ci with | some v => some { g with pc := g.pc + 3, stack := .int v :: g.stack } | none => none) else none
  | .ldc2_w i => if n = 3 then (match own_look i cl with | some v => some { g with pc := g.pc + 3, stack := .long v :: g.stack } | none => none) else none
  | .idiv => if n = 1 then (match g.stack with | .int y :: .int x :: rest => (if y = 0 then none else some { g with pc := g.pc + 1, stack := .int (x / y) :: rest }) | _ => none) else none
  | .irem => if n = 1 then (match g.stack with | .int y :: .int x :: rest => (if y = 0 then none else some { g with pc := g.pc + 1, stack := .int (x - (x / y) * y) :: rest }) | _ => none) else none
  | .ldiv => if n = 1 then (match g.stack with | .long y :: .long x :: rest => (if y = 0 then none else some { g with pc := g.pc + 1, stack := .long (x / y) :: rest }) | _ => none) else none
  | .lrem => if n = 1 then (match g.stack with | .long y :: .long x :: rest => (if y = 0 then none else some { g with pc := g.pc + 1, stack := .long (x - (x / y) * y) :: rest }) | _ => none) else none
  | _ => none
section OwnRun
variable {p : Program} {l : Launch} {e : Env} {R : Room} {s : State} {m : MethodId} {args : Array Value} {below : List Frame} {meth : Method} {c : Code} {T target : State} {locs : List Loc} {cells slots kc ks : Nat} {own : String} {ci : List (Nat × Int32)} {cl : List (Nat × Int64)} {Q : Option Value → Heap → List Loc → Prop}
set_option maxHeartbeats 4000000 in
theorem own_pstep_ok (X : Stand p l e R s m args below meth c T locs cells slots) (hx : p.tables.exec = Jvm.exec) (hown : s.vm.findClass own = some m.cls) (hci : ∀ i v, (i, v) ∈ ci → (Cond.constant own i v).before args s = true) (hcl : ∀ i v, (i, v) ∈ cl → (Cond.constantLong own i v).before args s = true)
    {g g' : JFrame} (hg : g.method = m) {i : Instr} {n : Nat} (hd : decode c.code g.pc = .ok (i, n)) (hp : own_pstep ci cl i n g = some g') : (∀ target, Steps p.tables e below (T.setTop g') target → Steps p.tables e below (T.setTop g) target) ∧ g'.method = m := by
  cases i
  all_goals first
    | (exact absurd hp (by intro q; cases q))
    | skip
  case iload_n k =>
    by_cases hn : n = 1
    · subst hn
      replace hp : (match g.locals[k.val]? with | some (.val (.int v)) => some { g with pc := g.pc + 1, stack := .int v :: g.stack } | _ => none) = some g' := hp
      split at hp
      · skip
        cases hp
        exact ⟨fun _ hr => XS.iloadN X.here hx hg hd (by assumption) hr, hg⟩
      · cases hp
    · exact absurd hp (by intro q; rw [show own_pstep ci cl (.iload_n k) n g = none from if_neg hn] at q; cases q)
  case iload k =>
    by_cases hn : n = 2
    · subst hn
      replace hp : (match g.locals[k]? with | some (.val (.int v)) => some { g with pc := g.pc + 2, stack := .int v :: g.stack } | _ => none) = some g' := hp
      split at hp
      · skip
        cases hp
        exact ⟨fun _ hr => XS.iload X.here hx hg hd (by assumption) hr, hg⟩
      · cases hp
    · exact absurd hp (by intro q; rw [show own_pstep ci cl (.iload k) n g = none from if_neg hn] at q; cases q)
  case lload_n k =>
    by_cases hn : n = 1
    · subst hn
      replace hp : (match g.locals[k.val]? with | some (.val (.long v)) => some { g with pc := g.pc + 1, stack := .long v :: g.stack } | _ => none) = some g' := hp
      split at hp
      · skip
        cases hp
        exact ⟨fun _ hr => XS.lloadN X.here hx hg hd (by assumption) hr, hg⟩
      · cases hp
    · exact absurd hp (by intro q; rw [show own_pstep ci cl (.lload_n k) n g = none from if_neg hn] at q; cases q)
  case lload k =>
    by_cases hn : n = 2
    · subst hn
      replace hp : (match g.locals[k]? with | some (.val (.long v)) => some { g with pc := g.pc + 2, stack := .long v :: g.stack } | _ => none) = some g' := hp
      split at hp
      · skip
        cases hp
        exact ⟨fun _ hr => XS.lload X.here hx hg hd (by assumption) hr, hg⟩
      · cases hp
    · exact absurd hp (by intro q; rw [show own_pstep ci cl (.lload k) n g = none from if_neg hn] at q; cases q)
  case aload_n k =>
    by_cases hn : n = 1
    · subst hn
      replace hp : (match g.locals[k.val]? with | some (.val v) => if v.isRef = true then some { g with pc := g.pc + 1, stack := v :: g.stack } else none | _ => none) = some g' := hp
      split at hp
      · skip
        split at hp
        · skip
          cases hp
          exact ⟨fun _ hr => XS.aloadN X.here hx hg hd (by assumption) (by assumption) hr, hg⟩
        · cases hp
      · cases hp
    · exact absurd hp (by intro q; rw [show own_pstep ci cl (.aload_n k) n g = none from if_neg hn] at q; cases q)
  case aload k =>
    by_cases hn : n = 2
    · subst hn
      replace hp : (match g.locals[k]? with | some (.val v) => if v.isRef = true then some { g with pc := g.pc + 2, stack := v :: g.stack } else none | _ => none) = some g' := hp
      split at hp
      · skip
        split at hp
        · skip
          cases hp
          exact ⟨fun _ hr => XS.aload X.here hx hg hd (by assumption) (by assumption) hr, hg⟩
        · cases hp
      · cases hp
    · exact absurd hp (by intro q; rw [show own_pstep ci cl (.aload k) n g = none from if_neg hn] at q; cases q)
  case istore_n k =>
    by_cases hn : n = 1
    · subst hn
      replace hp : (match g.stack with | .int x :: rest => (match storeLocals g.locals k.val (.int x) with | some l' => some { g with pc := g.pc + 1, stack := rest, locals := l' } | none => none) | _ => none) = some g' := hp
      split at hp
      · skip
        split at hp
        · skip
          cases hp
          exact ⟨fun _ hr => XS.istoreN X.here hx hg hd (by assumption) (by assumption) hr, hg⟩
        · cases hp
      · cases hp
    · exact absurd hp (by intro q; rw [show own_pstep ci cl (.istore_n k) n g = none from if_neg hn] at q; cases q)
  case istore k =>
    by_cases hn : n = 2
    · subst hn
      replace hp : (match g.stack with | .int x :: rest => (match storeLocals g.locals k (.int x) with | some l' => some { g with pc := g.pc + 2, stack := rest, locals := l' } | none => none) | _ => none) = some g' := hp
      split at hp
      · skip
        split at hp
        · skip
          cases hp
          exact ⟨fun _ hr => XS.istore X.here hx hg hd (by assumption) (by assumption) hr, hg⟩
        · cases hp
      · cases hp
    · exact absurd hp (by intro q; rw [show own_pstep ci cl (.istore k) n g = none from if_neg hn] at q; cases q)
  case lstore_n k =>
    by_cases hn : n = 1
    · subst hn
      replace hp : (match g.stack with | .long x :: rest => (match storeLocals g.locals k.val (.long x) with | some l' => some { g with pc := g.pc + 1, stack := rest, locals := l' } | none => none) | _ => none) = some g' := hp
      split at hp
      · skip
        split at hp
        · skip
          cases hp
          exact ⟨fun _ hr => XS.lstoreN X.here hx hg hd (by assumption) (by assumption) hr, hg⟩
        · cases hp
      · cases hp
    · exact absurd hp (by intro q; rw [show own_pstep ci cl (.lstore_n k) n g = none from if_neg hn] at q; cases q)
  case lstore k =>
    by_cases hn : n = 2
    · subst hn
      replace hp : (match g.stack with | .long x :: rest => (match storeLocals g.locals k (.long x) with | some l' => some { g with pc := g.pc + 2, stack := rest, locals := l' } | none => none) | _ => none) = some g' := hp
      split at hp
      · skip
        split at hp
        · skip
          cases hp
          exact ⟨fun _ hr => XS.lstore X.here hx hg hd (by assumption) (by assumption) hr, hg⟩
        · cases hp
      · cases hp
    · exact absurd hp (by intro q; rw [show own_pstep ci cl (.lstore k) n g = none from if_neg hn] at q; cases q)
  case astore_n k =>
    by_cases hn : n = 1
    · subst hn
      replace hp : (match g.stack with | x :: rest => (if x.isRef = true then (match storeLocals g.locals k.val x with | some l' => some { g with pc := g.pc + 1, stack := rest, locals := l' } | none => none) else none) | _ => none) = some g' := hp
      split at hp
      · skip
        split at hp
        · skip
          split at hp
          · skip
            cases hp
            exact ⟨fun _ hr => XS.astoreN X.here hx hg hd (by assumption) (by assumption) (by assumption) hr, hg⟩
          · cases hp
        · cases hp
      · cases hp
    · exact absurd hp (by intro q; rw [show own_pstep ci cl (.astore_n k) n g = none from if_neg hn] at q; cases q)
  case astore k =>
    by_cases hn : n = 2
    · subst hn
      replace hp : (match g.stack with | x :: rest => (if x.isRef = true then (match storeLocals g.locals k x with | some l' => some { g with pc := g.pc + 2, stack := rest, locals := l' } | none => none) else none) | _ => none) = some g' := hp
      split at hp
      · skip
        split at hp
        · skip
          split at hp
          · skip
            cases hp
            exact ⟨fun _ hr => XS.astore X.here hx hg hd (by assumption) (by assumption) (by assumption) hr, hg⟩
          · cases hp
        · cases hp
      · cases hp
    · exact absurd hp (by intro q; rw [show own_pstep ci cl (.astore k) n g = none from if_neg hn] at q; cases q)
  case iconst i =>
    by_cases hn : n = 1
    · subst hn
      replace hp : (some { g with pc := g.pc + 1, stack := .int (Int32.ofInt i) :: g.stack }) = some g' := hp
      cases hp
      exact ⟨fun _ hr => XS.iconst X.here hx hg hd hr, hg⟩
    · exact absurd hp (by intro q; rw [show own_pstep ci cl (.iconst i) n g = none from if_neg hn] at q; cases q)
  case bipush i =>
    by_cases hn : n = 2
    · subst hn
      replace hp : (some { g with pc := g.pc + 2, stack := .int (Int8.ofInt i).toInt32 :: g.stack }) = some g' := hp
      cases hp
      exact ⟨fun _ hr => XS.bipush X.here hx hg hd hr, hg⟩
    · exact absurd hp (by intro q; rw [show own_pstep ci cl (.bipush i) n g = none from if_neg hn] at q; cases q)
  case sipush i =>
    by_cases hn : n = 3
    · subst hn
      replace hp : (some { g with pc := g.pc + 3, stack := .int (Int16.ofInt i).toInt32 :: g.stack }) = some g' := hp
      cases hp
      exact ⟨fun _ hr => XS.sipush X.here hx hg hd hr, hg⟩
    · exact absurd hp (by intro q; rw [show own_pstep ci cl (.sipush i) n g = none from if_neg hn] at q; cases q)
  case lconst k =>
    by_cases hn : n = 1
    · subst hn
      replace hp : (some { g with pc := g.pc + 1, stack := .long (Int64.ofNat k) :: g.stack }) = some g' := hp
      cases hp
      exact ⟨fun _ hr => XS.lconst X.here hx hg hd hr, hg⟩
    · exact absurd hp (by intro q; rw [show own_pstep ci cl (.lconst k) n g = none from if_neg hn] at q; cases q)
  case aconst_null =>
    by_cases hn : n = 1
    · subst hn
      replace hp : (some { g with pc := g.pc + 1, stack := .null :: g.stack }) = some g' := hp
      cases hp
      exact ⟨fun _ hr => XS.aconstNull X.here hx hg hd hr, hg⟩
    · exact absurd hp (by intro q; rw [show own_pstep ci cl (.aconst_null) n g = none from if_neg hn] at q; cases q)
  case iadd =>
    by_cases hn : n = 1
    · subst hn
      replace hp : (match g.stack with | .int y :: .int x :: rest => some { g with pc := g.pc + 1, stack := .int (x + y) :: rest } | _ => none) = some g' := hp
      split at hp
      · skip
        cases hp
        exact ⟨fun _ hr => XS.iadd X.here hx hg hd (by assumption) hr, hg⟩
      · cases hp
    · exact absurd hp (by intro q; rw [show own_pstep ci cl (.iadd) n g = none from if_neg hn] at q; cases q)
  case ladd =>
    by_cases hn : n = 1
    · subst hn
      replace hp : (match g.stack with | .long y :: .long x :: rest => some { g with pc := g.pc + 1, stack := .long (x + y) :: rest } | _ => none) = some g' := hp
      split at hp
      · skip
        cases hp
        exact ⟨fun _ hr => XS.ladd X.here hx hg hd (by assumption) hr, hg⟩
      · cases hp
    · exact absurd hp (by intro q; rw [show own_pstep ci cl (.ladd) n g = none from if_neg hn] at q; cases q)
  case isub =>
    by_cases hn : n = 1
    · subst hn
      replace hp : (match g.stack with | .int y :: .int x :: rest => some { g with pc := g.pc + 1, stack := .int (x - y) :: rest } | _ => none) = some g' := hp
      split at hp
      · skip
        cases hp
        exact ⟨fun _ hr => XS.isub X.here hx hg hd (by assumption) hr, hg⟩
      · cases hp
    · exact absurd hp (by intro q; rw [show own_pstep ci cl (.isub) n g = none from if_neg hn] at q; cases q)
  case lsub =>
    by_cases hn : n = 1
    · subst hn
      replace hp : (match g.stack with | .long y :: .long x :: rest => some { g with pc := g.pc + 1, stack := .long (x - y) :: rest } | _ => none) = some g' := hp
      split at hp
      · skip
        cases hp
        exact ⟨fun _ hr => XS.lsub X.here hx hg hd (by assumption) hr, hg⟩
      · cases hp
    · exact absurd hp (by intro q; rw [show own_pstep ci cl (.lsub) n g = none from if_neg hn] at q; cases q)
  case imul =>
    by_cases hn : n = 1
    · subst hn
      replace hp : (match g.stack with | .int y :: .int x :: rest => some { g with pc := g.pc + 1, stack := .int (x * y) :: rest } | _ => none) = some g' := hp
      split at hp
      · skip
        cases hp
        exact ⟨fun _ hr => XS.imul X.here hx hg hd (by assumption) hr, hg⟩
      · cases hp
    · exact absurd hp (by intro q; rw [show own_pstep ci cl (.imul) n g = none from if_neg hn] at q; cases q)
  case lmul =>
    by_cases hn : n = 1
    · subst hn
      replace hp : (match g.stack with | .long y :: .long x :: rest => some { g with pc := g.pc + 1, stack := .long (x * y) :: rest } | _ => none) = some g' := hp
      split at hp
      · skip
        cases hp
        exact ⟨fun _ hr => XS.lmul X.here hx hg hd (by assumption) hr, hg⟩
      · cases hp
    · exact absurd hp (by intro q; rw [show own_pstep ci cl (.lmul) n g = none from if_neg hn] at q; cases q)
  case iand =>
    by_cases hn : n = 1
    · subst hn
      replace hp : (match g.stack with | .int y :: .int x :: rest => some { g with pc := g.pc + 1, stack := .int (x &&& y) :: rest } | _ => none) = some g' := hp
      split at hp
      · skip
        cases hp
        exact ⟨fun _ hr => XS.iand X.here hx hg hd (by assumption) hr, hg⟩
      · cases hp
    · exact absurd hp (by intro q; rw [show own_pstep ci cl (.iand) n g = none from if_neg hn] at q; cases q)
  case land =>
    by_cases hn : n = 1
    · subst hn
      replace hp : (match g.stack with | .long y :: .long x :: rest => some { g with pc := g.pc + 1, stack := .long (x &&& y) :: rest } | _ => none) = some g' := hp
      split at hp
      · skip
        cases hp
        exact ⟨fun _ hr => XS.land X.here hx hg hd (by assumption) hr, hg⟩
      · cases hp
    · exact absurd hp (by intro q; rw [show own_pstep ci cl (.land) n g = none from if_neg hn] at q; cases q)
  case ior =>
    by_cases hn : n = 1
    · subst hn
      replace hp : (match g.stack with | .int y :: .int x :: rest => some { g with pc := g.pc + 1, stack := .int (x ||| y) :: rest } | _ => none) = some g' := hp
      split at hp
      · skip
        cases hp
        exact ⟨fun _ hr => XS.ior X.here hx hg hd (by assumption) hr, hg⟩
      · cases hp
    · exact absurd hp (by intro q; rw [show own_pstep ci cl (.ior) n g = none from if_neg hn] at q; cases q)
  case lor =>
    by_cases hn : n = 1
    · subst hn
      replace hp : (match g.stack with | .long y :: .long x :: rest => some { g with pc := g.pc + 1, stack := .long (x ||| y) :: rest } | _ => none) = some g' := hp
      split at hp
      · skip
        cases hp
        exact ⟨fun _ hr => XS.lor X.here hx hg hd (by assumption) hr, hg⟩
      · cases hp
    · exact absurd hp (by intro q; rw [show own_pstep ci cl (.lor) n g = none from if_neg hn] at q; cases q)
  case ixor =>
    by_cases hn : n = 1
    · subst hn
      replace hp : (match g.stack with | .int y :: .int x :: rest => some { g with pc := g.pc + 1, stack := .int (x ^^^ y) :: rest } | _ => none) = some g' := hp
      split at hp
      · skip
        cases hp
        exact ⟨fun _ hr => XS.ixor X.here hx hg hd (by assumption) hr, hg⟩
      · cases hp
    · exact absurd hp (by intro q; rw [show own_pstep ci cl (.ixor) n g = none from if_neg hn] at q; cases q)
  case lxor =>
    by_cases hn : n = 1
    · subst hn
      replace hp : (match g.stack with | .long y :: .long x :: rest => some { g with pc := g.pc + 1, stack := .long (x ^^^ y) :: rest } | _ => none) = some g' := hp
      split at hp
      · skip
        cases hp
        exact ⟨fun _ hr => XS.lxor X.here hx hg hd (by assumption) hr, hg⟩
      · cases hp
    · exact absurd hp (by intro q; rw [show own_pstep ci cl (.lxor) n g = none from if_neg hn] at q; cases q)
  case ishl =>
    by_cases hn : n = 1
    · subst hn
      replace hp : (match g.stack with | .int y :: .int x :: rest => some { g with pc := g.pc + 1, stack := .int (x <<< (y &&& 31)) :: rest } | _ => none) = some g' := hp
      split at hp
      · skip
        cases hp
        exact ⟨fun _ hr => XS.ishl X.here hx hg hd (by assumption) hr, hg⟩
      · cases hp
    · exact absurd hp (by intro q; rw [show own_pstep ci cl (.ishl) n g = none from if_neg hn] at q; cases q)
  case ishr =>
    by_cases hn : n = 1
    · subst hn
      replace hp : (match g.stack with | .int y :: .int x :: rest => some { g with pc := g.pc + 1, stack := .int (x >>> (y &&& 31)) :: rest } | _ => none) = some g' := hp
      split at hp
      · skip
        cases hp
        exact ⟨fun _ hr => XS.ishr X.here hx hg hd (by assumption) hr, hg⟩
      · cases hp
    · exact absurd hp (by intro q; rw [show own_pstep ci cl (.ishr) n g = none from if_neg hn] at q; cases q)
  case iushr =>
    by_cases hn : n = 1
    · subst hn
      replace hp : (match g.stack with | .int y :: .int x :: rest => some { g with pc := g.pc + 1, stack := .int ((x.toUInt32 >>> (y &&& 31).toUInt32).toInt32) :: rest } | _ => none) = some g' := hp
      split at hp
      · skip
        cases hp
        exact ⟨fun _ hr => XS.iushr X.here hx hg hd (by assumption) hr, hg⟩
      · cases hp
    · exact absurd hp (by intro q; rw [show own_pstep ci cl (.iushr) n g = none from if_neg hn] at q; cases q)
  case lshl =>
    by_cases hn : n = 1
    · subst hn
      replace hp : (match g.stack with | .int y :: .long x :: rest => some { g with pc := g.pc + 1, stack := .long (x <<< (y &&& 0x3f).toInt64) :: rest } | _ => none) = some g' := hp
      split at hp
      · skip
        cases hp
        exact ⟨fun _ hr => XS.lshl X.here hx hg hd (by assumption) hr, hg⟩
      · cases hp
    · exact absurd hp (by intro q; rw [show own_pstep ci cl (.lshl) n g = none from if_neg hn] at q; cases q)
  case lshr =>
    by_cases hn : n = 1
    · subst hn
      replace hp : (match g.stack with | .int y :: .long x :: rest => some { g with pc := g.pc + 1, stack := .long (x >>> (y &&& 0x3f).toInt64) :: rest } | _ => none) = some g' := hp
      split at hp
      · skip
        cases hp
        exact ⟨fun _ hr => XS.lshr X.here hx hg hd (by assumption) hr, hg⟩
      · cases hp
    · exact absurd hp (by intro q; rw [show own_pstep ci cl (.lshr) n g = none from if_neg hn] at q; cases q)
  case lushr =>
    by_cases hn : n = 1
    · subst hn
      replace hp : (match g.stack with | .int y :: .long x :: rest => some { g with pc := g.pc + 1, stack := .long ((x.toUInt64 >>> (y &&& 0x3f).toInt64.toUInt64).toInt64) :: rest } | _ => none) = some g' := hp
      split at hp
      · skip
        cases hp
        exact ⟨fun _ hr => XS.lushr X.here hx hg hd (by assumption) hr, hg⟩
      · cases hp
    · exact absurd hp (by intro q; rw [show own_pstep ci cl (.lushr) n g = none from if_neg hn] at q; cases q)
  case lcmp =>
    by_cases hn : n = 1
    · subst hn
      replace hp : (match g.stack with | .long y :: .long x :: rest => some { g with pc := g.pc + 1, stack := .int (if x > y then 1 else if x = y then 0 else -1) :: rest } | _ => none) = some g' := hp
      split at hp
      · skip
        cases hp
        exact ⟨fun _ hr => XS.lcmp X.here hx hg hd (by assumption) hr, hg⟩
      · cases hp
    · exact absurd hp (by intro q; rw [show own_pstep ci cl (.lcmp) n g = none from if_neg hn] at q; cases q)
  case ineg =>
    by_cases hn : n = 1
    · subst hn
      replace hp : (match g.stack with | .int v :: rest => some { g with pc := g.pc + 1, stack := .int (-v) :: rest } | _ => none) = some g' := hp
      split at hp
      · skip
        cases hp
        exact ⟨fun _ hr => XS.ineg X.here hx hg hd (by assumption) hr, hg⟩
      · cases hp
    · exact absurd hp (by intro q; rw [show own_pstep ci cl (.ineg) n g = none from if_neg hn] at q; cases q)
  case lneg =>
    by_cases hn : n = 1
    · subst hn
      replace hp : (match g.stack with | .long v :: rest => some { g with pc := g.pc + 1, stack := .long (-v) :: rest } | _ => none) = some g' := hp
      split at hp
      · skip
        cases hp
        exact ⟨fun _ hr => XS.lneg X.here hx hg hd (by assumption) hr, hg⟩
      · cases hp
    · exact absurd hp (by intro q; rw [show own_pstep ci cl (.lneg) n g = none from if_neg hn] at q; cases q)
  case i2l =>
    by_cases hn : n = 1
    · subst hn
      replace hp : (match g.stack with | .int v :: rest => some { g with pc := g.pc + 1, stack := .long (v.toInt64) :: rest } | _ => none) = some g' := hp
      split at hp
      · skip
        cases hp
        exact ⟨fun _ hr => XS.i2l X.here hx hg hd (by assumption) hr, hg⟩
      · cases hp
    · exact absurd hp (by intro q; rw [show own_pstep ci cl (.i2l) n g = none from if_neg hn] at q; cases q)
  case l2i =>
    by_cases hn : n = 1
    · subst hn
      replace hp : (match g.stack with | .long v :: rest => some { g with pc := g.pc + 1, stack := .int (v.toInt32) :: rest } | _ => none) = some g' := hp
      split at hp
      · skip
        cases hp
        exact ⟨fun _ hr => XS.l2i X.here hx hg hd (by assumption) hr, hg⟩
      · cases hp
    · exact absurd hp (by intro q; rw [show own_pstep ci cl (.l2i) n g = none from if_neg hn] at q; cases q)
  case i2b =>
    by_cases hn : n = 1
    · subst hn
      replace hp : (match g.stack with | .int v :: rest => some { g with pc := g.pc + 1, stack := .int (v.toInt8.toInt32) :: rest } | _ => none) = some g' := hp
      split at hp
      · skip
        cases hp
        exact ⟨fun _ hr => XS.i2b X.here hx hg hd (by assumption) hr, hg⟩
      · cases hp
    · exact absurd hp (by intro q; rw [show own_pstep ci cl (.i2b) n g = none from if_neg hn] at q; cases q)
  case i2c =>
    by_cases hn : n = 1
    · subst hn
      replace hp : (match g.stack with | .int v :: rest => some { g with pc := g.pc + 1, stack := .int (v.toUInt32.toUInt16.toUInt32.toInt32) :: rest } | _ => none) = some g' := hp
      split at hp
      · skip
        cases hp
        exact ⟨fun _ hr => XS.i2c X.here hx hg hd (by assumption) hr, hg⟩
      · cases hp
    · exact absurd hp (by intro q; rw [show own_pstep ci cl (.i2c) n g = none from if_neg hn] at q; cases q)
  case i2s =>
    by_cases hn : n = 1
    · subst hn
      replace hp : (match g.stack with | .int v :: rest => some { g with pc := g.pc + 1, stack := .int (v.toInt16.toInt32) :: rest } | _ => none) = some g' := hp
      split at hp
      · skip
        cases hp
        exact ⟨fun _ hr => XS.i2s X.here hx hg hd (by assumption) hr, hg⟩
      · cases hp
    · exact absurd hp (by intro q; rw [show own_pstep ci cl (.i2s) n g = none from if_neg hn] at q; cases q)
  case iinc k cst =>
    by_cases hn : n = 3
    · subst hn
      replace hp : (match g.locals[k]? with | some (.val (.int x)) => (match storeLocals g.locals k (.int (x + Int32.ofInt cst)) with | some l' => some { g with pc := g.pc + 3, locals := l' } | none => none) | _ => none) = some g' := hp
      split at hp
      · skip
        split at hp
        · skip
          cases hp
          exact ⟨fun _ hr => XS.iinc X.here hx hg hd (by assumption) (by assumption) hr, hg⟩
        · cases hp
      · cases hp
    · exact absurd hp (by intro q; rw [show own_pstep ci cl (.iinc k cst) n g = none from if_neg hn] at q; cases q)
  case dup =>
    by_cases hn : n = 1
    · subst hn
      replace hp : (match g.stack with | x :: rest => (if x.category = 1 then some { g with pc := g.pc + 1, stack := x :: x :: rest } else none) | _ => none) = some g' := hp
      split at hp
      · skip
        split at hp
        · skip
          cases hp
          exact ⟨fun _ hr => XS.dup X.here hx hg hd (by assumption) (by assumption) hr, hg⟩
        · cases hp
      · cases hp
    · exact absurd hp (by intro q; rw [show own_pstep ci cl (.dup) n g = none from if_neg hn] at q; cases q)
  case pop =>
    by_cases hn : n = 1
    · subst hn
      replace hp : (match g.stack with | x :: rest => (if x.category = 1 then some { g with pc := g.pc + 1, stack := rest } else none) | _ => none) = some g' := hp
      split at hp
      · skip
        split at hp
        · skip
          cases hp
          exact ⟨fun _ hr => XS.pop X.here hx hg hd (by assumption) (by assumption) hr, hg⟩
        · cases hp
      · cases hp
    · exact absurd hp (by intro q; rw [show own_pstep ci cl (.pop) n g = none from if_neg hn] at q; cases q)
  case goto o =>
    by_cases hn : n = 3
    · subst hn
      replace hp : (if 0 ≤ (g.pc : Int) + o then some { g with pc := ((g.pc : Int) + o).toNat } else none) = some g' := hp
      split at hp
      · skip
        cases hp
        exact ⟨fun _ hr => XS.goto X.here hx hg rfl hd (by assumption) rfl hr, hg⟩
      · cases hp
    · exact absurd hp (by intro q; rw [show own_pstep ci cl (.goto o) n g = none from if_neg hn] at q; cases q)
  case ldc i =>
    by_cases hn : n = 2
    · subst hn
      replace hp : (match own_look i ci with | some v => some { g with pc := g.pc + 2, stack := .int v :: g.stack } | none => none) = some g' := hp
      split at hp
      · skip
        cases hp
        exact ⟨fun _ hr => X.ldcInt hx hown (hci _ _ (own_look_mem (by assumption))) hg hd _ hr, hg⟩
      · cases hp
    · exact absurd hp (by intro q; rw [show own_pstep ci cl (.ldc i) n g = none from if_neg hn] at q; cases q)
  case ldc_w i =>
    by_cases hn : n = 3
    · subst hn
      replace hp : (match own_look i ci with | some v => some { g with pc := g.pc + 3, stack := .int v :: g.stack } | none => none) = some g' := hp
      split at hp
      · skip
        cases hp
        exact ⟨fun _ hr => X.ldcwInt hx hown (hci _ _ (own_look_mem (by assumption))) hg hd _ hr, hg⟩
      · cases hp
    · exact absurd hp (by intro q; rw [show own_pstep ci cl (.ldc_w i) n g = none from if_neg hn] at q; cases q)
  case ldc2_w i =>
    by_cases hn : n = 3
    · subst hn
      replace hp : (match own_look i cl with | some v => some { g with pc := g.pc + 3, stack := .long v :: g.stack } | none => none) = some g' := hp
      split at hp
      · skip
        cases hp
        exact ⟨fun _ hr => X.ldc2Long hx hown (hcl _ _ (own_look_mem (by assumption))) hg hd _ hr, hg⟩
      · cases hp
    · exact absurd hp (by intro q; rw [show own_pstep ci cl (.ldc2_w i) n g = none from if_neg hn] at q; cases q)
  case idiv =>
    by_cases hn : n = 1
    · subst hn
      replace hp : (match g.stack with | .int y :: .int x :: rest => (if y = 0 then none else some { g with pc := g.pc + 1, stack := .int (x / y) :: rest }) | _ => none) = some g' := hp
      split at hp
      · skip
        split at hp
        · cases hp
        · cases hp; exact ⟨fun _ hr => XS.idiv X.here hx hg hd (by assumption) (by assumption) hr, hg⟩
      · cases hp
    · exact absurd hp (by intro q; rw [show own_pstep ci cl (.idiv) n g = none from if_neg hn] at q; cases q)
  case irem =>
    by_cases hn : n = 1
    · subst hn
      replace hp : (match g.stack with | .int y :: .int x :: rest => (if y = 0 then none else some { g with pc := g.pc + 1, stack := .int (x - (x / y) * y) :: rest }) | _ => none) = some g' := hp
      split at hp
      · skip
        split at hp
        · cases hp
        · cases hp; exact ⟨fun _ hr => XS.irem X.here hx hg hd (by assumption) (by assumption) hr, hg⟩
      · cases hp
    · exact absurd hp (by intro q; rw [show own_pstep ci cl (.irem) n g = none from if_neg hn] at q; cases q)
  case ldiv =>
    by_cases hn : n = 1
    · subst hn
      replace hp : (match g.stack with | .long y :: .long x :: rest => (if y = 0 then none else some { g with pc := g.pc + 1, stack := .long (x / y) :: rest }) | _ => none) = some g' := hp
      split at hp
      · skip
        split at hp
        · cases hp
        · cases hp; exact ⟨fun _ hr => XS.ldiv X.here hx hg hd (by assumption) (by assumption) hr, hg⟩
      · cases hp
    · exact absurd hp (by intro q; rw [show own_pstep ci cl (.ldiv) n g = none from if_neg hn] at q; cases q)
  case lrem =>
    by_cases hn : n = 1
    · subst hn
      replace hp : (match g.stack with | .long y :: .long x :: rest => (if y = 0 then none else some { g with pc := g.pc + 1, stack := .long (x - (x / y) * y) :: rest }) | _ => none) = some g' := hp
      split at hp
      · skip
        split at hp
        · cases hp
        · cases hp; exact ⟨fun _ hr => XS.lrem X.here hx hg hd (by assumption) (by assumption) hr, hg⟩
      · cases hp
    · exact absurd hp (by intro q; rw [show own_pstep ci cl (.lrem) n g = none from if_neg hn] at q; cases q)
def own_decs (code : ByteArray) (L : List (Nat × Instr × Nat)) : Bool := L.all fun q => decide (decode code q.1 = .ok (q.2.1, q.2.2))
def own_prun (ci : List (Nat × Int32)) (cl : List (Nat × Int64)) : List (Nat × Instr × Nat) → JFrame → Option JFrame
  | [], g => some g
  | (pc, i, n) :: r, g => if g.pc = pc then (match own_pstep ci cl i n g with | some g' => own_prun ci cl r g' | none => none) else none
theorem own_prun_ok (X : Stand p l e R s m args below meth c T locs cells slots) (hx : p.tables.exec = Jvm.exec) (hown : s.vm.findClass own = some m.cls) (hci : ∀ i v, (i, v) ∈ ci → (Cond.constant own i v).before args s = true) (hcl : ∀ i v, (i, v) ∈ cl → (Cond.constantLong own i v).before args s = true) {code : ByteArray} (hby : c.code = code) :
    ∀ (L : List (Nat × Instr × Nat)) (g g' : JFrame), g.method = m → own_decs code L = true → own_prun ci cl L g = some g' → Steps p.tables e below (T.setTop g') target → Steps p.tables e below (T.setTop g) target := by
  intro L
  induction L with
  | nil => intro g g' _ _ hp hr; cases hp; exact hr
  | cons q r ih =>
    intro g g' hg hd hp hr
    obtain ⟨pc, i, n⟩ := q
    have hd' : decide (decode code pc = .ok (i, n)) = true ∧ own_decs code r = true := by
      have : (decide (decode code pc = .ok (i, n)) && own_decs code r) = true := hd
      simpa using this
    replace hp : (if g.pc = pc then (match own_pstep ci cl i n g with | some g' => own_prun ci cl r g' | none => none) else none) = some g' := hp
    by_cases hpc : g.pc = pc
    · rw [if_pos hpc] at hp
      cases hs : own_pstep ci cl i n g with
      | none => rw [hs] at hp; cases hp
      | some g1 =>
        rw [hs] at hp
        have q := own_pstep_ok X hx hown hci hcl hg (i := i) (n := n) (by rw [hby, hpc]; exact of_decide_eq_true hd'.1) hs
        exact q.1 _ (ih g1 g' q.2 hd'.2 hp hr)
    · rw [if_neg hpc] at hp; cases hp
theorem Goes.run (X : Stand p l e R s m args below meth c T locs cells slots) (hx : p.tables.exec = Jvm.exec) (hown : s.vm.findClass own = some m.cls) (hci : ∀ i v, (i, v) ∈ ci → (Cond.constant own i v).before args s = true) (hcl : ∀ i v, (i, v) ∈ cl → (Cond.constantLong own i v).before args s = true) {code : ByteArray} (hby : c.code = code)
    {L : List (Nat × Instr × Nat)} (hd : own_decs code L = true) {g g' : JFrame} (hg : g.method = m) (hp : own_prun ci cl L g = some g') (h : Goes p e below s Q kc ks (T.setTop g')) : Goes p e below s Q kc ks (T.setTop g) :=
  Goes.st (fun _ k => own_prun_ok X hx hown hci hcl hby L g g' hg hd hp k) h
theorem own_ci0 {α : Type} {P : Nat → α → Prop} : ∀ i v, (i, v) ∈ ([] : List (Nat × α)) → P i v := fun _ _ q => nomatch q
theorem own_ciS {α : Type} {P : Nat → α → Prop} {j : Nat} {w : α} {L : List (Nat × α)} (h : P j w) (r : ∀ i v, (i, v) ∈ L → P i v) : ∀ i v, (i, v) ∈ (j, w) :: L → P i v := fun i v q => (List.mem_cons.mp q).elim (fun z => by cases z; exact h) (r i v)
end OwnRun
theorem own_rem32 (x y : Int32) : (x - (x / y) * y).toInt = x.toInt.tmod y.toInt := by
  have a := (x % y).toInt_lt; have b := (x % y).le_toInt
  rw [Int32.toInt_mod] at a b
  rw [Int32.toInt_sub, Int32.toInt_mul, Int32.toInt_div, Int.bmod_mul_bmod, Int.sub_bmod_bmod, Int.mul_comm, ← Int.tmod_def]
  exact Jvm.Kit.bmod32 b a
section OwnNums
variable {x y : Int64} {u v : Int32} {a b : Int}
theorem own_r32 (hx : u.toInt = a) (hy : v.toInt = b) (h0 : 0 ≤ a) : (u - (u / v) * v).toInt = a % b := by subst hx hy; rw [own_rem32, Int.tmod_eq_emod_of_nonneg h0]
theorem own_r64 (hx : x.toInt = a) (hy : y.toInt = b) (h0 : 0 ≤ a) : (x - (x / y) * y).toInt = a % b := by subst hx hy; rw [Jvm.Kit.i64_rem, Int.tmod_eq_emod_of_nonneg h0]
theorem own_mul64 (hx : x.toInt = a) (hy : y.toInt = b) (h1 : -2 ^ 63 ≤ a * b) (h2 : a * b < 2 ^ 63) : (x * y).toInt = a * b := by subst hx hy; exact Jvm.Kit.i64_mul h1 h2
theorem own_mul32 (hx : u.toInt = a) (hy : v.toInt = b) (h1 : -2 ^ 31 ≤ a * b) (h2 : a * b < 2 ^ 31) : (u * v).toInt = a * b := by subst hx hy; exact Jvm.Kit.i32_mul h1 h2
theorem own_add64 (hx : x.toInt = a) (hy : y.toInt = b) (h1 : -2 ^ 63 ≤ a + b) (h2 : a + b < 2 ^ 63) : (x + y).toInt = a + b := by subst hx hy; exact Jvm.Kit.i64_add h1 h2
theorem own_add32 (hx : u.toInt = a) (hy : v.toInt = b) (h1 : -2 ^ 31 ≤ a + b) (h2 : a + b < 2 ^ 31) : (u + v).toInt = a + b := by subst hx hy; exact Jvm.Kit.i32_add h1 h2
theorem own_sub64 (hx : x.toInt = a) (hy : y.toInt = b) (h1 : -2 ^ 63 ≤ a - b) (h2 : a - b < 2 ^ 63) : (x - y).toInt = a - b := by subst hx hy; exact Jvm.Kit.i64_sub h1 h2
theorem own_sub32 (hx : u.toInt = a) (hy : v.toInt = b) (h1 : -2 ^ 31 ≤ a - b) (h2 : a - b < 2 ^ 31) : (u - v).toInt = a - b := by subst hx hy; exact Jvm.Kit.i32_sub h1 h2
theorem own_i2l (hx : u.toInt = a) : u.toInt64.toInt = a := by subst hx; exact Jvm.Kit.i64_of_i32 u
theorem own_lt64 (hx : x.toInt = a) (hy : y.toInt = b) : x < y ↔ a < b := by rw [Int64.lt_iff_toInt_lt, hx, hy]
theorem own_lt32 (hx : u.toInt = a) (hy : v.toInt = b) : u < v ↔ a < b := by rw [Int32.lt_iff_toInt_lt, hx, hy]
theorem own_eq64 (hx : x.toInt = a) (hy : y.toInt = b) : x = y ↔ a = b := by rw [← Int64.toInt_inj, hx, hy]
theorem own_eq32 (hx : u.toInt = a) (hy : v.toInt = b) : u = v ↔ a = b := by rw [← Int32.toInt_inj, hx, hy]
theorem own_m32 (u : Int32) (m : Int32) {k : Nat} (hk : k < 32) (hm : m.toBitVec.toNat = 2 ^ k - 1) : ∃ a : Int, (u &&& m).toInt = a ∧ 0 ≤ a ∧ a < 2 ^ k ∧ a = u.toInt % 2 ^ k := by
  refine ⟨_, Jvm.Kit.i32_mask u m hk hm, Int.emod_nonneg _ (Int.ne_of_gt (Int.pow_pos (by decide))), Int.emod_lt_of_pos _ (Int.pow_pos (by decide)), rfl⟩
theorem own_m64 (x : Int64) (m : Int64) {k : Nat} (hk : k < 64) (hm : m.toBitVec.toNat = 2 ^ k - 1) : ∃ a : Int, (x &&& m).toInt = a ∧ 0 ≤ a ∧ a < 2 ^ k ∧ a = x.toInt % 2 ^ k := by
  refine ⟨_, Jvm.Kit.i64_mask x m hk hm, Int.emod_nonneg _ (Int.ne_of_gt (Int.pow_pos (by decide))), Int.emod_lt_of_pos _ (Int.pow_pos (by decide)), rfl⟩
theorem own_nm {P : Int → Prop} {z : Int} (h : P z) : ∃ a, a = z ∧ P a := ⟨z, rfl, h⟩
end OwnNums
theorem own_nat32 {u : Int32} {a : Int} (hu : u.toInt = a) (h0 : 0 ≤ a) {N : Nat} (h1 : a < N) : ∃ n : Nat, n < N ∧ u = Int32.ofNat n ∧ a = (n : Int) := by
  have q := u.toInt_lt
  refine ⟨a.toNat, by omega, ?_, by omega⟩
  apply Int32.toInt_inj.mp
  rw [Int32.toInt_ofNat_of_lt (by omega), hu]; omega
theorem own_bv64 {x : Int64} {a : Int} (hx : x.toInt = a) (h0 : 0 ≤ a) : (x.toBitVec.toNat : Int) = a := by
  have e : x.toInt = x.toBitVec.toInt := rfl
  have hb := x.toBitVec.isLt
  rw [e, BitVec.toInt_eq_toNat_cond] at hx
  split at hx <;> omega
theorem own_bv32 {x : Int32} {a : Int} (hx : x.toInt = a) (h0 : 0 ≤ a) : (x.toBitVec.toNat : Int) = a := by
  have e : x.toInt = x.toBitVec.toInt := rfl
  have hb := x.toBitVec.isLt
  rw [e, BitVec.toInt_eq_toNat_cond] at hx
  split at hx <;> omega
theorem own_shn (y : Int32) : ((y &&& 0x3f).toInt64.toUInt64).toNat < 64 := by
  obtain ⟨a, h1, h2, h3, -⟩ := own_m32 y (0x3f : Int32) (k := 6) (by decide) (by decide)
  have h4 := own_bv64 (own_i2l h1) h2
  have e : ((y &&& 0x3f).toInt64.toUInt64).toNat = (y &&& 0x3f).toInt64.toBitVec.toNat := rfl
  rw [e]
  omega
theorem own_ushr0 {x : Int64} {a : Int} (hx : x.toInt = a) (h0 : 0 ≤ a) (y : Int32) : ∃ b : Int, ((x.toUInt64 >>> (y &&& 0x3f).toInt64.toUInt64).toInt64).toInt = b ∧ 0 ≤ b ∧ b ≤ a := by
  refine ⟨_, Jvm.Kit.i64_lushr (by rw [Jvm.Kit.i64_nonneg, hx]; exact h0) rfl (own_shn y), ?_, ?_⟩
  · rw [hx]; exact Int.ediv_nonneg h0 (Int.le_of_lt (Int.pow_pos (by decide)))
  · rw [hx]; exact Int.ediv_le_self _ h0
theorem own_ushrk {x : Int64} {a : Int} (hx : x.toInt = a) (h0 : 0 ≤ a) {n : UInt64} {k : Nat} (hn : n.toNat = k) (hk : k < 64) {d : Int} (hd : (2 : Int) ^ k = d) : ((x.toUInt64 >>> n).toInt64).toInt = a / d := by
  rw [Jvm.Kit.i64_lushr (by rw [Jvm.Kit.i64_nonneg, hx]; exact h0) hn hk, hx, hd]
theorem own_ofbv32 {x : Int32} (h : x.toBitVec.toNat < 2 ^ 31) : x.toInt = (x.toBitVec.toNat : Int) := by
  have e : x.toInt = x.toBitVec.toInt := rfl
  rw [e, BitVec.toInt_eq_toNat_cond, if_pos (by omega)]
theorem own_xor32 {x y : Int32} {a b : Int} (hx : x.toInt = a) (hy : y.toInt = b) (h0 : 0 ≤ a) (h1 : 0 ≤ b) : ∃ c : Int, (x ^^^ y).toInt = c ∧ 0 ≤ c := by
  have p := own_bv32 hx h0; have q := own_bv32 hy h1
  have r := x.toInt_lt; have s := y.toInt_lt
  have e : (x ^^^ y).toBitVec.toNat = x.toBitVec.toNat ^^^ y.toBitVec.toNat := by simp [Int32.toBitVec_xor, BitVec.toNat_xor]
  have l : (x ^^^ y).toBitVec.toNat < 2 ^ 31 := by rw [e]; exact Nat.xor_lt_two_pow (by omega) (by omega)
  exact ⟨_, own_ofbv32 l, Int.natCast_nonneg _⟩
theorem own_noL {Z : State} {a0 : Array Value} {K : String} {n : Nat} (wi : (Cond.instantiable K n).before a0 Z = true) (w1 : (Cond.superclass "java/lang/Long" "java/lang/Number").before a0 Z = true) (w2 : (Cond.superclass "java/lang/Number" "java/lang/Object").before a0 Z = true) (w3 : (Cond.noSuperclass "java/lang/Object").before a0 Z = true) (n1 : "java/lang/Long" ≠ K) (n2 : "java/lang/Number" ≠ K) (n3 : "java/lang/Object" ≠ K) :
    ∃ c t, Z.vm.findClass "java/lang/Long" = some c ∧ Z.vm.findClass K = some t ∧ Z.vm.assignable c t = false := by
  obtain ⟨t, kt, g1, g2, g3, g4, -, -⟩ := Cond.instantiable_spec wi
  obtain ⟨o, ko, o1, o2, o3, -, -⟩ := Cond.noSuperclass_spec w3
  obtain ⟨cN, hN⟩ := found_sup w2
  obtain ⟨cL, hL⟩ := found_sup w1
  obtain ⟨pN, kN, kpN, a1, a2, a3, a4, a5, -, a7⟩ := Cond.superclass_spec hN w2
  obtain ⟨pL, kL, kpL, b1, b2, b3, b4, b5, -, b7⟩ := Cond.superclass_spec hL w1
  cases o1.symm.trans a1
  cases hN.symm.trans b1
  have e1 := ids_ne hL g1 n1
  have e2 := ids_ne hN g1 n2
  have e3 := ids_ne o1 g1 n3
  have gi : kt.isInterface = false := by
    cases hq : kt.isInterface
    · rfl
    · rw [hq] at g4; cases g4
  have s0 : ∀ fuel, Z.vm.isSubclassAux fuel o t = false := fun fuel => by
    cases fuel with
    | zero => rfl
    | succ f => simp [Vm.isSubclassAux, e3, o2, o3]
  have s1 : ∀ fuel, Z.vm.isSubclassAux fuel cN t = false := fun fuel => by
    cases fuel with
    | zero => rfl
    | succ f => simp [Vm.isSubclassAux, e2, a2, a4, s0]
  have s2 : ∀ fuel, Z.vm.isSubclassAux fuel cL t = false := fun fuel => by
    cases fuel with
    | zero => rfl
    | succ f => simp [Vm.isSubclassAux, e1, b2, b4, s1]
  refine ⟨cL, t, hL, g1, ?_⟩
  show Z.vm.assignableAux (255 + 1) cL t = false
  simp [Vm.assignableAux, e1, b2, g2, b5, g3, gi, Vm.isSubclass, s2]
def OwnC (Z : State) (h : Heap) (u : Addr) (cu : Cell) : Prop := Arr Z h u cu (.object "java/lang/Long") ∧ cu.slots.size = 256 ∧ ∀ i, i < 256 → ∃ a, cu.slots[i]? = some (.ref a) ∧ Exa Z h a "java/lang/Long"
theorem OwnC.ext {Z : State} {h h' : Heap} {u : Addr} {cu : Cell} (F : OwnC Z h u cu) (E : Ext h h') : OwnC Z h' u cu := ⟨F.1.ext E, F.2.1, fun i hi => by obtain ⟨a, q, r⟩ := F.2.2 i hi; exact ⟨a, q, r.ext E⟩⟩
def QLo (Z : State) (h0 : Heap) (n0 : Nat) (v : Option Value) (h : Heap) (L : List Loc) : Prop := ∃ b, v = some (.ref b) ∧ Fr n0 L ∧ Keep h0 h [] ∧ Exa Z h b "java/lang/Long"
theorem own_ix {x : Int64} (h0 : ¬ x < (-128 : Int64)) (h1 : ¬ (127 : Int64) < x) : ¬ ((x.toInt32 + (128 : Int32)) < 0 ∨ 256 ≤ (x.toInt32 + (128 : Int32)).toNatClampNeg) := by
  have a0 : -128 ≤ x.toInt := by rw [Int64.lt_iff_toInt_lt] at h0; have : (-128 : Int64).toInt = -128 := by decide
                                 omega
  have a1 : x.toInt ≤ 127 := by rw [Int64.lt_iff_toInt_lt] at h1; have : (127 : Int64).toInt = 127 := by decide
                                omega
  have q1 : x.toInt32.toInt = x.toInt := by
    rw [Int64.toInt_toInt32]; exact Int.bmod_eq_of_le (by omega) (by omega)
  have q2 : (x.toInt32 + (128 : Int32)).toInt = x.toInt + 128 := own_add32 q1 rfl (by omega) (by omega)
  rw [own_lt32 q2 (show (0 : Int32).toInt = 0 from rfl)]
  have q3 : (x.toInt32 + (128 : Int32)).toNatClampNeg = (x.toInt + 128).toNat := by rw [← q2]; rfl
  rw [q3]
  omega
theorem d1_6 : decode prog_15_method_10_code 6 = .ok (.ifCond .ne 16, 3) := by decide +kernel
theorem d1_25 : decode prog_15_method_10_code 25 = .ok (.ifCond .lt 11, 3) := by decide +kernel
theorem d1_33 : decode prog_15_method_10_code 33 = .ok (.ifCond .le 10, 3) := by decide +kernel
theorem d1_46 : decode prog_15_method_10_code 46 = .ok (.ifCond .lt 11, 3) := by decide +kernel
theorem d1_54 : decode prog_15_method_10_code 54 = .ok (.ifCond .le 7, 3) := by decide +kernel
theorem d1_63 : decode prog_15_method_10_code 63 = .ok (.areturn, 1) := by decide +kernel
theorem pn1 : plainName "com/example/marks_across_domains/marksacrossdomains/OrganisationId" = true := by first | (simp [plainName, overriddenIn]; done) | decide +kernel
theorem ef1 (m : MethodId) (x0 : Int64) (x1 : Int64) : entryFrame m #[(.long x0), (.long x1)] 5 = (mkF m 0 #[jv x0, .second, jv x1, .second, .unset] []) := by first | (simp [entryFrame, mkF, argsToLocals, Value.category]; done) | rfl
set_option maxRecDepth 65536 in
set_option maxHeartbeats 40000000 in
theorem rm1 (l : Launch) (Z : State) (a0 : Array Value) (hw : ∀ d ∈ tables_1, d.before a0 Z = true) (ws : List Jvm.Cond) (x0 : Int64) (x1 : Int64) (h0 : Heap) (n0 : Nat) (Z0 : n0 ≤ h0.size) (hA : ¬ x0 = (0 : Int64)) (hB : ¬ x0 < (1 : Int64)) (hC : ¬ (999 : Int64) < x0) (hD : ¬ x1 < (0 : Int64)) (hE : ¬ (4294967295 : Int64) < x1) :
    MetFree l ym0 (head1 (Jvm.Cond.code ym0 prog_15_method_10_code 5 (some (.object "java/lang/String")) :: ws) ({ frames := 0, cells := 0, slots := 0, locals := 0 } : Room)) (fun a U => a = #[(.long x0), (.long x1)] ∧ Z.Warmed39 U.vm ∧ U.heap = h0) (fun _ _ _ _ _ => True) (fun _ U o U' => ∃ v L, o = .returned v ∧ (QP (some .null) h0 n0) v U'.heap L ∧ FrameEnd U o U' L ({ frames := 0, cells := 0, slots := 0, locals := 0 } : Room).cells ({ frames := 0, cells := 0, slots := 0, locals := 0 } : Room).slots) := by
  refine MetFree.of_bodySF (plainFor_of_name pn1) hisR ?_
  intro p e s m args below meth c s₁ Bd hml0 hP hK
  obtain ⟨rfl, hZ, hh⟩ := hP
  have hx := Bd.exec
  have hby := Bd.bytes
  have hml : c.maxLocals = 5 := hml0
  have hlk : meth.locks = false := BodyLoose.notSynchronized Bd
  have hown : s.vm.findClass "com/example/marks_across_domains/marksacrossdomains/OrganisationId" = some m.cls := findClass_of_methodNamed Bd.named
  have hnm := (name_of_methodNamed Bd.named Bd.method).1
  have w_14 := hw _ (List.mem_of_getElem? (i := 14) rfl)
  have w_15 := hw _ (List.mem_of_getElem? (i := 15) rfl)
  have hci : ∀ i v, (i, v) ∈ ([] : List (Nat × Int32)) → (Jvm.Cond.constant "com/example/marks_across_domains/marksacrossdomains/OrganisationId" i v).before #[(.long x0), (.long x1)] s = true := own_ci0
  have hcl : ∀ i v, (i, v) ∈ ([(50, 999), (61, 4294967295)] : List (Nat × Int64)) → (Jvm.Cond.constantLong "com/example/marks_across_domains/marksacrossdomains/OrganisationId" i v).before #[(.long x0), (.long x1)] s = true := (own_ciS (mvT hZ w_14) (own_ciS (mvT hZ w_15) own_ci0))
  have X0 : Stand p l e ({ frames := 0, cells := 0, slots := 0, locals := 0 } : Room) s m #[(.long x0), (.long x1)] below meth c s₁ [] 0 0 := Stand.of_body Bd
  have e0 : s₁.heap = h0 := by rw [← hh, Bd.state]; rfl
  have N0 := Fr.nil n0
  show Goes p e below s (QP (some .null) h0 n0) ({ frames := 0, cells := 0, slots := 0, locals := 0 } : Room).cells ({ frames := 0, cells := 0, slots := 0, locals := 0 } : Room).slots (s₁.setTop (entryFrame m #[(.long x0), (.long x1)] 5))
  refine Goes.cast (ef1 m x0 x1) ?_
  refine Goes.run X0 hx hown hci hcl hby (L := [(0, .aconst_null, 1), (1, .astore 4, 2), (3, .lload_n 0, 1), (4, .lconst 0, 1), (5, .lcmp, 1)]) (by decide +kernel) rfl (g' := (mkF m 6 #[jv x0, .second, jv x1, .second, .val .null] [(.int (lcmpW x0 (0 : Int64)))])) rfl ?_
  have hc6_1 : ¬ (x0 = (0 : Int64)) := hA
  refine Goes.st (B := s₁.setTop (mkF m 22 #[jv x0, .second, jv x1, .second, .val .null] [])) (fun t k => ?_) ?_
  · refine XS.ifYes X0.here hx rfl (pc0 := 6) (pc' := 22) rfl (hb hby d1_6) rfl (feqL hc6_1).2 (by decide) (by decide) ?_
    exact k
  refine Goes.run X0 hx hown hci hcl hby (L := [(22, .lload_n 0, 1), (23, .lconst 1, 1), (24, .lcmp, 1)]) (by decide +kernel) rfl (g' := (mkF m 25 #[jv x0, .second, jv x1, .second, .val .null] [(.int (lcmpW x0 (1 : Int64)))])) rfl ?_
  have hc25_2 : ¬ (x0 < (1 : Int64)) := hB
  refine Goes.st (B := s₁.setTop (mkF m 28 #[jv x0, .second, jv x1, .second, .val .null] [])) (fun t k => ?_) ?_
  · refine XS.ifNo X0.here hx rfl (hb hby d1_25) rfl (fltL hc25_2).1 ?_
    exact k
  refine Goes.run X0 hx hown hci hcl hby (L := [(28, .lload_n 0, 1), (29, .ldc2_w 50, 3), (32, .lcmp, 1)]) (by decide +kernel) rfl (g' := (mkF m 33 #[jv x0, .second, jv x1, .second, .val .null] [(.int (lcmpW x0 (999 : Int64)))])) rfl ?_
  have hc33_3 : ¬ ((999 : Int64) < x0) := hC
  refine Goes.st (B := s₁.setTop (mkF m 43 #[jv x0, .second, jv x1, .second, .val .null] [])) (fun t k => ?_) ?_
  · refine XS.ifYes X0.here hx rfl (pc0 := 33) (pc' := 43) rfl (hb hby d1_33) rfl (fltL hc33_3).2.2.2 (by decide) (by decide) ?_
    exact k
  refine Goes.run X0 hx hown hci hcl hby (L := [(43, .lload_n 2, 1), (44, .lconst 0, 1), (45, .lcmp, 1)]) (by decide +kernel) rfl (g' := (mkF m 46 #[jv x0, .second, jv x1, .second, .val .null] [(.int (lcmpW x1 (0 : Int64)))])) rfl ?_
  have hc46_4 : ¬ (x1 < (0 : Int64)) := hD
  refine Goes.st (B := s₁.setTop (mkF m 49 #[jv x0, .second, jv x1, .second, .val .null] [])) (fun t k => ?_) ?_
  · refine XS.ifNo X0.here hx rfl (hb hby d1_46) rfl (fltL hc46_4).1 ?_
    exact k
  refine Goes.run X0 hx hown hci hcl hby (L := [(49, .lload_n 2, 1), (50, .ldc2_w 61, 3), (53, .lcmp, 1)]) (by decide +kernel) rfl (g' := (mkF m 54 #[jv x0, .second, jv x1, .second, .val .null] [(.int (lcmpW x1 (4294967295 : Int64)))])) rfl ?_
  have hc54_5 : ¬ ((4294967295 : Int64) < x1) := hE
  refine Goes.st (B := s₁.setTop (mkF m 61 #[jv x0, .second, jv x1, .second, .val .null] [])) (fun t k => ?_) ?_
  · refine XS.ifYes X0.here hx rfl (pc0 := 54) (pc' := 61) rfl (hb hby d1_54) rfl (fltL hc54_5).2.2.2 (by decide) (by decide) ?_
    exact k
  refine Goes.run X0 hx hown hci hcl hby (L := [(61, .aload 4, 2)]) (by decide +kernel) rfl (g' := (mkF m 63 #[jv x0, .second, jv x1, .second, .val .null] [.null])) rfl ?_
  exact Goes.retR X0 hx hlk Bd.returns rfl rfl (hb hby d1_63) ⟨rfl, N0, e0⟩ (by decide) (by decide)
theorem d2_1 : decode prog_15_method_1_code 1 = .ok (.invokespecial 1, 3) := by decide +kernel
theorem d2_7 : decode prog_15_method_1_code 7 = .ok (.invokestatic 7, 3) := by decide +kernel
theorem d2_14 : decode prog_15_method_1_code 14 = .ok (.ifnull 16, 3) := by decide +kernel
theorem d2_32 : decode prog_15_method_1_code 32 = .ok (.putfield 21, 3) := by decide +kernel
theorem d2_37 : decode prog_15_method_1_code 37 = .ok (.putfield 25, 3) := by decide +kernel
theorem d2_40 : decode prog_15_method_1_code 40 = .ok (.return_, 1) := by decide +kernel
theorem pn2 : plainName "com/example/marks_across_domains/marksacrossdomains/OrganisationId" = true := by first | (simp [plainName, overriddenIn]; done) | decide +kernel
theorem pd2_0 : parseMethodDescriptor "(JJ)Ljava/lang/String;" = some ⟨[.long, .long], some (.object "java/lang/String")⟩ := by decide +kernel
theorem ef2 (m : MethodId) (x0 : Addr) (x1 : Int32) (x2 : Int64) : entryFrame m #[(.ref x0), (.int x1), (.long x2)] 5 = (mkF m 0 #[rv x0, iv x1, jv x2, .second, .unset] []) := by first | (simp [entryFrame, mkF, argsToLocals, Value.category]; done) | rfl
def c2_7_1 (x1 : Int32) (x2 : Int64) : Int64 := (x1.toInt64)
def Q2 (Z : State) (x0 : Addr) (x1 : Int32) (x2 : Int64) (h0 : Heap) (n0 : Nat) (v : Option Value) (h : Heap) (L : List Loc) : Prop := v = none ∧ Fr n0 L ∧ Keep h0 h [x0] ∧ Fld Z h x0 "com/example/marks_across_domains/marksacrossdomains/OrganisationId" "country" "I" (.int x1) ∧ Fld Z h x0 "com/example/marks_across_domains/marksacrossdomains/OrganisationId" "number" "J" (.long x2)
set_option maxRecDepth 65536 in
set_option maxHeartbeats 40000000 in
theorem rm2 (l : Launch) (Z : State) (a0 : Array Value) (hw : ∀ d ∈ tables_1, d.before a0 Z = true) (ws : List Jvm.Cond) (x0 : Addr) (x1 : Int32) (x2 : Int64) (h0 : Heap) (n0 : Nat) (Z0 : n0 ≤ h0.size) (E_x0 : Exa Z h0 x0 "com/example/marks_across_domains/marksacrossdomains/OrganisationId") (F_country_x0 : Fld Z h0 x0 "com/example/marks_across_domains/marksacrossdomains/OrganisationId" "country" "I" (.int (0 : Int32))) (F_number_x0 : Fld Z h0 x0 "com/example/marks_across_domains/marksacrossdomains/OrganisationId" "number" "J" (.long (0 : Int64))) (g_x0 : n0 ≤ x0) (hA : ¬ x1.toInt64 = (0 : Int64)) (hB : ¬ x1.toInt64 < (1 : Int64)) (hC : ¬ (999 : Int64) < x1.toInt64) (hD : ¬ x2 < (0 : Int64)) (hE : ¬ (4294967295 : Int64) < x2) :
    MetFree l ym1 (head1 (Jvm.Cond.code ym1 prog_15_method_1_code 5 none :: ws) ({ frames := 1, cells := 0, slots := 0, locals := 16 } : Room)) (fun a U => a = #[(.ref x0), (.int x1), (.long x2)] ∧ Z.Warmed39 U.vm ∧ U.heap = h0) (fun _ _ _ _ _ => True) (fun _ U o U' => ∃ v L, o = .returned v ∧ (Q2 Z x0 x1 x2 h0 n0) v U'.heap L ∧ FrameEnd U o U' L ({ frames := 1, cells := 0, slots := 0, locals := 16 } : Room).cells ({ frames := 1, cells := 0, slots := 0, locals := 16 } : Room).slots) := by
  refine MetFree.of_bodySF (plainFor_of_name pn2) hisR ?_
  intro p e s m args below meth c s₁ Bd hml0 hP hK
  obtain ⟨rfl, hZ, hh⟩ := hP
  have hx := Bd.exec
  have hby := Bd.bytes
  have hml : c.maxLocals = 5 := hml0
  have hlk : meth.locks = false := BodyLoose.notSynchronized Bd
  have hown : s.vm.findClass "com/example/marks_across_domains/marksacrossdomains/OrganisationId" = some m.cls := findClass_of_methodNamed Bd.named
  have hnm := (name_of_methodNamed Bd.named Bd.method).1
  have w_3 := hw _ (List.mem_of_getElem? (i := 3) rfl)
  have w_4 := hw _ (List.mem_of_getElem? (i := 4) rfl)
  have w_8 := hw _ (List.mem_of_getElem? (i := 8) rfl)
  have w_9 := hw _ (List.mem_of_getElem? (i := 9) rfl)
  have w_10 := hw _ (List.mem_of_getElem? (i := 10) rfl)
  have w_11 := hw _ (List.mem_of_getElem? (i := 11) rfl)
  have w_12 := hw _ (List.mem_of_getElem? (i := 12) rfl)
  have w_13 := hw _ (List.mem_of_getElem? (i := 13) rfl)
  have w_14 := hw _ (List.mem_of_getElem? (i := 14) rfl)
  have w_15 := hw _ (List.mem_of_getElem? (i := 15) rfl)
  have w_16 := hw _ (List.mem_of_getElem? (i := 16) rfl)
  have w_17 := hw _ (List.mem_of_getElem? (i := 17) rfl)
  have w_18 := hw _ (List.mem_of_getElem? (i := 18) rfl)
  have w_19 := hw _ (List.mem_of_getElem? (i := 19) rfl)
  have hci : ∀ i v, (i, v) ∈ ([] : List (Nat × Int32)) → (Jvm.Cond.constant "com/example/marks_across_domains/marksacrossdomains/OrganisationId" i v).before #[(.ref x0), (.int x1), (.long x2)] s = true := own_ci0
  have hcl : ∀ i v, (i, v) ∈ ([(50, 999), (61, 4294967295)] : List (Nat × Int64)) → (Jvm.Cond.constantLong "com/example/marks_across_domains/marksacrossdomains/OrganisationId" i v).before #[(.ref x0), (.int x1), (.long x2)] s = true := (own_ciS (mvT hZ w_14) (own_ciS (mvT hZ w_15) own_ci0))
  have X0 : Stand p l e ({ frames := 1, cells := 0, slots := 0, locals := 16 } : Room) s m #[(.ref x0), (.int x1), (.long x2)] below meth c s₁ [] 0 0 := Stand.of_body Bd
  have e0 : s₁.heap = h0 := by rw [← hh, Bd.state]; rfl
  have N0 := Fr.nil n0
  show Goes p e below s (Q2 Z x0 x1 x2 h0 n0) ({ frames := 1, cells := 0, slots := 0, locals := 16 } : Room).cells ({ frames := 1, cells := 0, slots := 0, locals := 16 } : Room).slots (s₁.setTop (entryFrame m #[(.ref x0), (.int x1), (.long x2)] 5))
  refine Goes.cast (ef2 m x0 x1 x2) ?_
  have K0 : Keep h0 h0 [x0] := Keep.refl h0 _
  refine Goes.run X0 hx hown hci hcl hby (L := [(0, .aload_n 0, 1)]) (by decide +kernel) rfl (g' := (mkF m 1 #[rv x0, iv x1, jv x2, .second, .unset] [(.ref x0)])) rfl ?_
  obtain ⟨T1, X1, e1, st1⟩ := initO X0 hx hZ hown w_8 w_9 w_10 e0 (g := (mkF m 1 #[rv x0, iv x1, jv x2, .second, .unset] [(.ref x0)])) rfl (by rw [hml]; rfl) rfl (hb hby d2_1) (by decide) (W := 0) (by show 2 * 0 + _ ≤ _; exact Nat.le_of_eq rfl) (by decide)
  refine Goes.st (B := T1.setTop (mkF m 4 #[rv x0, iv x1, jv x2, .second, .unset] [])) st1 ?_
  refine Goes.run X1 hx hown hci hcl hby (L := [(4, .iload_n 1, 1), (5, .i2l, 1), (6, .lload_n 2, 1)]) (by decide +kernel) rfl (g' := (mkF m 7 #[rv x0, iv x1, jv x2, .second, .unset] [(.long x2), (.long (c2_7_1 x1 x2))])) rfl ?_
  obtain ⟨_, _, ⟨T2, L2, k2, n2⟩, -, X2, ⟨Lc2, hQ2, l2, y2, z2⟩, st2⟩ := Jvm.LawKit.callS X1 hx (y := ym0) hown (mvT hZ w_11) (mvT hZ w_12) (mvT hZ w_4) (mvT hZ w_13) (by decide) (backOf (W := 0) (rm1 l Z a0 hw [] (c2_7_1 x1 x2) x2 h0 n0 Z0 hA hB hC hD hE) hZ w_13 w_4 (by decide) (by decide)) (g := (mkF m 7 #[rv x0, iv x1, jv x2, .second, .unset] [(.long x2), (.long (c2_7_1 x1 x2))])) rfl (by rw [hml]; rfl) (argsL := [(.long (c2_7_1 x1 x2)), (.long x2)]) (rest := []) (lenOf pd2_0 rfl) rfl (by show 2 * 0 + _ ≤ _; exact Nat.le_of_eq rfl) (hb hby d2_7) (fun _ _ => ⟨rfl, e1, (by decide : 0 + 0 ≤ _), (by decide : 0 + 0 ≤ _)⟩)
  dsimp only [Pt.U, Pt.locs, Pt.cells, Pt.slots] at X2 l2 y2 z2 st2 hQ2
  subst l2 y2 z2
  obtain ⟨rfl, N2q, e2⟩ := hQ2
  have N2 := Fr.app N0 N2q
  refine Goes.st (B := T2.setTop (mkF m 10 #[rv x0, iv x1, jv x2, .second, .unset] [.null])) st2 ?_
  refine Goes.run X2 hx hown hci hcl hby (L := [(10, .astore 4, 2), (12, .aload 4, 2)]) (by decide +kernel) rfl (g' := (mkF m 14 #[rv x0, iv x1, jv x2, .second, .val .null] [.null])) rfl ?_
  refine Goes.st (B := T2.setTop (mkF m 30 #[rv x0, iv x1, jv x2, .second, .val .null] [])) (fun t k => ?_) ?_
  · refine XS.ifnullYes X2.here hx rfl (pc0 := 14) (pc' := 30) rfl (hb hby d2_14) rfl (by decide) (by decide) ?_
    exact k
  refine Goes.run X2 hx hown hci hcl hby (L := [(30, .aload_n 0, 1), (31, .iload_n 1, 1)]) (by decide +kernel) rfl (g' := (mkF m 32 #[rv x0, iv x1, jv x2, .second, .val .null] [(.int x1), (.ref x0)])) rfl ?_
  obtain ⟨T3, h3, X3, e3, W3, st3⟩ := putF X2 hx hZ hown (host := "") (Or.inl w_16) Via.refl e2 F_country_x0 E_x0 (Or.inr ⟨w_17, rfl, hnm⟩) w_3 (ty := .int) (by decide) rfl rfl (g := (mkF m 32 #[rv x0, iv x1, jv x2, .second, .val .null] [(.int x1), (.ref x0)])) rfl rfl (hb hby d2_32)
  have E_x0 := E_x0.wr W3
  have F_country_x0 : Fld Z h3 x0 "com/example/marks_across_domains/marksacrossdomains/OrganisationId" "country" "I" (.int x1) := F_country_x0.same W3
  have F_number_x0 := F_number_x0.other W3 (Or.inr (slot_ne (Or.inr w_19) (Or.inr w_17) (by decide) (t := .long) (t' := .int) (by decide) (by decide)))
  have Zn3 : n0 ≤ h3.size := Nat.le_trans Z0 (Keep.of_wr W3).1
  have K3 := K0.wr W3 (Or.inl (List.mem_of_getElem? (i := 0) rfl))
  have N3 := Fr.snoc X3 N2 g_x0
  refine Goes.st (B := T3.setTop (mkF m 35 #[rv x0, iv x1, jv x2, .second, .val .null] [])) st3 ?_
  refine Goes.run X3 hx hown hci hcl hby (L := [(35, .aload_n 0, 1), (36, .lload_n 2, 1)]) (by decide +kernel) rfl (g' := (mkF m 37 #[rv x0, iv x1, jv x2, .second, .val .null] [(.long x2), (.ref x0)])) rfl ?_
  obtain ⟨T4, h4, X4, e4, W4, st4⟩ := putF X3 hx hZ hown (host := "") (Or.inl w_18) Via.refl e3 F_number_x0 E_x0 (Or.inr ⟨w_19, rfl, hnm⟩) w_3 (ty := .long) (by decide) rfl rfl (g := (mkF m 37 #[rv x0, iv x1, jv x2, .second, .val .null] [(.long x2), (.ref x0)])) rfl rfl (hb hby d2_37)
  have E_x0 := E_x0.wr W4
  have F_country_x0 := F_country_x0.other W4 (Or.inr (slot_ne (Or.inr w_17) (Or.inr w_19) (by decide) (t := .int) (t' := .long) (by decide) (by decide)))
  have F_number_x0 : Fld Z h4 x0 "com/example/marks_across_domains/marksacrossdomains/OrganisationId" "number" "J" (.long x2) := F_number_x0.same W4
  have Zn4 : n0 ≤ h4.size := Nat.le_trans Zn3 (Keep.of_wr W4).1
  have K4 := K3.wr W4 (Or.inl (List.mem_of_getElem? (i := 0) rfl))
  have N4 := Fr.snoc X4 N3 g_x0
  refine Goes.st (B := T4.setTop (mkF m 40 #[rv x0, iv x1, jv x2, .second, .val .null] [])) st4 ?_
  refine Goes.retV X4 hx hlk Bd.returns (hb hby d2_40) ?_ (by decide) (by decide)
  show (Q2 Z x0 x1 x2 h0 n0) _ _ _
  rw [e4]
  exact ⟨rfl, N4, K4, F_country_x0, F_number_x0⟩
theorem d3_1 : decode jdk_18_method_1_code 1 = .ok (.invokespecial 1, 3) := by decide +kernel
theorem d3_4 : decode jdk_18_method_1_code 4 = .ok (.return_, 1) := by decide +kernel
theorem pn3 : plainName "java/lang/Number" = true := by first | (simp [plainName, overriddenIn]; done) | decide +kernel
theorem ef3 (m : MethodId) (x0 : Addr) : entryFrame m #[(.ref x0)] 1 = (mkF m 0 #[rv x0] []) := by first | (simp [entryFrame, mkF, argsToLocals, Value.category]; done) | rfl
set_option maxRecDepth 65536 in
set_option maxHeartbeats 40000000 in
theorem rm3 (l : Launch) (Z : State) (a0 : Array Value) (hw : ∀ d ∈ tables_1, d.before a0 Z = true) (ws : List Jvm.Cond) (x0 : Addr) (h0 : Heap) (n0 : Nat) (Z0 : n0 ≤ h0.size) (E_x0 : Exa Z h0 x0 "java/lang/Long") :
    MetFree l ym2 (head1 (Jvm.Cond.code ym2 jdk_18_method_1_code 1 none :: ws) ({ frames := 1, cells := 0, slots := 0, locals := 12 } : Room)) (fun a U => a = #[(.ref x0)] ∧ Z.Warmed39 U.vm ∧ U.heap = h0) (fun _ _ _ _ _ => True) (fun _ U o U' => ∃ v L, o = .returned v ∧ (QP none h0 n0) v U'.heap L ∧ FrameEnd U o U' L ({ frames := 1, cells := 0, slots := 0, locals := 12 } : Room).cells ({ frames := 1, cells := 0, slots := 0, locals := 12 } : Room).slots) := by
  refine MetFree.of_bodySF (plainFor_of_name pn3) hisR ?_
  intro p e s m args below meth c s₁ Bd hml0 hP hK
  obtain ⟨rfl, hZ, hh⟩ := hP
  have hx := Bd.exec
  have hby := Bd.bytes
  have hml : c.maxLocals = 1 := hml0
  have hlk : meth.locks = false := BodyLoose.notSynchronized Bd
  have hown : s.vm.findClass "java/lang/Number" = some m.cls := findClass_of_methodNamed Bd.named
  have hnm := (name_of_methodNamed Bd.named Bd.method).1
  have w_9 := hw _ (List.mem_of_getElem? (i := 9) rfl)
  have w_10 := hw _ (List.mem_of_getElem? (i := 10) rfl)
  have w_50 := hw _ (List.mem_of_getElem? (i := 50) rfl)
  have hci : ∀ i v, (i, v) ∈ ([] : List (Nat × Int32)) → (Jvm.Cond.constant "java/lang/Number" i v).before #[(.ref x0)] s = true := own_ci0
  have hcl : ∀ i v, (i, v) ∈ ([] : List (Nat × Int64)) → (Jvm.Cond.constantLong "java/lang/Number" i v).before #[(.ref x0)] s = true := own_ci0
  have X0 : Stand p l e ({ frames := 1, cells := 0, slots := 0, locals := 12 } : Room) s m #[(.ref x0)] below meth c s₁ [] 0 0 := Stand.of_body Bd
  have e0 : s₁.heap = h0 := by rw [← hh, Bd.state]; rfl
  have N0 := Fr.nil n0
  show Goes p e below s (QP none h0 n0) ({ frames := 1, cells := 0, slots := 0, locals := 12 } : Room).cells ({ frames := 1, cells := 0, slots := 0, locals := 12 } : Room).slots (s₁.setTop (entryFrame m #[(.ref x0)] 1))
  refine Goes.cast (ef3 m x0) ?_
  refine Goes.run X0 hx hown hci hcl hby (L := [(0, .aload_n 0, 1)]) (by decide +kernel) rfl (g' := (mkF m 1 #[rv x0] [(.ref x0)])) rfl ?_
  obtain ⟨T1, X1, e1, st1⟩ := initO X0 hx hZ hown w_50 w_9 w_10 e0 (g := (mkF m 1 #[rv x0] [(.ref x0)])) rfl (by rw [hml]; rfl) rfl (hb hby d3_1) (by decide) (W := 0) (by show 2 * 0 + _ ≤ _; exact Nat.le_of_eq rfl) (by decide)
  refine Goes.st (B := T1.setTop (mkF m 4 #[rv x0] [])) st1 ?_
  exact Goes.retV X1 hx hlk Bd.returns (hb hby d3_4) ⟨rfl, N0, e1⟩ (by decide) (by decide)
theorem d4_1 : decode jdk_35_method_26_code 1 = .ok (.invokespecial 270, 3) := by decide +kernel
theorem d4_6 : decode jdk_35_method_26_code 6 = .ok (.putfield 273, 3) := by decide +kernel
theorem d4_9 : decode jdk_35_method_26_code 9 = .ok (.return_, 1) := by decide +kernel
theorem pn4 : plainName "java/lang/Long" = true := by first | (simp [plainName, overriddenIn]; done) | decide +kernel
theorem pd4_0 : parseMethodDescriptor "()V" = some ⟨[], none⟩ := by decide +kernel
theorem ef4 (m : MethodId) (x0 : Addr) (x1 : Int64) : entryFrame m #[(.ref x0), (.long x1)] 3 = (mkF m 0 #[rv x0, jv x1, .second] []) := by first | (simp [entryFrame, mkF, argsToLocals, Value.category]; done) | rfl
def Q4 (Z : State) (x0 : Addr) (x1 : Int64) (h0 : Heap) (n0 : Nat) (v : Option Value) (h : Heap) (L : List Loc) : Prop := v = none ∧ Fr n0 L ∧ Keep h0 h [x0] ∧ Fld Z h x0 "java/lang/Long" "value" "J" (.long x1)
set_option maxRecDepth 65536 in
set_option maxHeartbeats 40000000 in
theorem rm4 (l : Launch) (Z : State) (a0 : Array Value) (hw : ∀ d ∈ tables_1, d.before a0 Z = true) (ws : List Jvm.Cond) (x0 : Addr) (x1 : Int64) (h0 : Heap) (n0 : Nat) (Z0 : n0 ≤ h0.size) (E_x0 : Exa Z h0 x0 "java/lang/Long") (F_value_x0 : Fld Z h0 x0 "java/lang/Long" "value" "J" (.long (0 : Int64))) (g_x0 : n0 ≤ x0) :
    MetFree l ym3 (head1 (Jvm.Cond.code ym3 jdk_35_method_26_code 3 none :: ws) ({ frames := 2, cells := 0, slots := 0, locals := 24 } : Room)) (fun a U => a = #[(.ref x0), (.long x1)] ∧ Z.Warmed39 U.vm ∧ U.heap = h0) (fun _ _ _ _ _ => True) (fun _ U o U' => ∃ v L, o = .returned v ∧ (Q4 Z x0 x1 h0 n0) v U'.heap L ∧ FrameEnd U o U' L ({ frames := 2, cells := 0, slots := 0, locals := 24 } : Room).cells ({ frames := 2, cells := 0, slots := 0, locals := 24 } : Room).slots) := by
  refine MetFree.of_bodySF (plainFor_of_name pn4) hisR ?_
  intro p e s m args below meth c s₁ Bd hml0 hP hK
  obtain ⟨rfl, hZ, hh⟩ := hP
  have hx := Bd.exec
  have hby := Bd.bytes
  have hml : c.maxLocals = 3 := hml0
  have hlk : meth.locks = false := BodyLoose.notSynchronized Bd
  have hown : s.vm.findClass "java/lang/Long" = some m.cls := findClass_of_methodNamed Bd.named
  have hnm := (name_of_methodNamed Bd.named Bd.method).1
  have w_24 := hw _ (List.mem_of_getElem? (i := 24) rfl)
  have w_25 := hw _ (List.mem_of_getElem? (i := 25) rfl)
  have w_39 := hw _ (List.mem_of_getElem? (i := 39) rfl)
  have w_44 := hw _ (List.mem_of_getElem? (i := 44) rfl)
  have w_45 := hw _ (List.mem_of_getElem? (i := 45) rfl)
  have w_48 := hw _ (List.mem_of_getElem? (i := 48) rfl)
  have w_49 := hw _ (List.mem_of_getElem? (i := 49) rfl)
  have w_51 := hw _ (List.mem_of_getElem? (i := 51) rfl)
  have w_52 := hw _ (List.mem_of_getElem? (i := 52) rfl)
  have hci : ∀ i v, (i, v) ∈ ([] : List (Nat × Int32)) → (Jvm.Cond.constant "java/lang/Long" i v).before #[(.ref x0), (.long x1)] s = true := own_ci0
  have hcl : ∀ i v, (i, v) ∈ ([(230, -128), (232, 127)] : List (Nat × Int64)) → (Jvm.Cond.constantLong "java/lang/Long" i v).before #[(.ref x0), (.long x1)] s = true := (own_ciS (mvT hZ w_24) (own_ciS (mvT hZ w_25) own_ci0))
  have X0 : Stand p l e ({ frames := 2, cells := 0, slots := 0, locals := 24 } : Room) s m #[(.ref x0), (.long x1)] below meth c s₁ [] 0 0 := Stand.of_body Bd
  have e0 : s₁.heap = h0 := by rw [← hh, Bd.state]; rfl
  have N0 := Fr.nil n0
  show Goes p e below s (Q4 Z x0 x1 h0 n0) ({ frames := 2, cells := 0, slots := 0, locals := 24 } : Room).cells ({ frames := 2, cells := 0, slots := 0, locals := 24 } : Room).slots (s₁.setTop (entryFrame m #[(.ref x0), (.long x1)] 3))
  refine Goes.cast (ef4 m x0 x1) ?_
  have K0 : Keep h0 h0 [x0] := Keep.refl h0 _
  refine Goes.run X0 hx hown hci hcl hby (L := [(0, .aload_n 0, 1)]) (by decide +kernel) rfl (g' := (mkF m 1 #[rv x0, jv x1, .second] [(.ref x0)])) rfl ?_
  obtain ⟨_, _, ⟨T1, L1, k1, n1⟩, -, X1, ⟨Lc1, hQ1, l1, y1, z1⟩, st1⟩ := X0.specialBack hx (y := ym2) rfl hown (mvT hZ w_44) (mvT hZ w_45) (mvT hZ w_49) (by decide) (backOf (W := 0) (rm3 l Z a0 hw [] x0 h0 n0 Z0 E_x0) hZ w_49 w_48 (by decide) (by decide)) (g := (mkF m 1 #[rv x0, jv x1, .second] [(.ref x0)])) rfl (by rw [hml]; rfl) (Steps.refl _) (a := x0) (argsL := []) (rest := []) (lenOf pd4_0 rfl) rfl (by show 2 * 0 + _ ≤ _; exact Nat.le_of_eq rfl) (hb hby d4_1) (fun _ _ => ⟨rfl, e0, (by decide : 0 + 0 ≤ _), (by decide : 0 + 0 ≤ _)⟩)
  dsimp only [Pt.U, Pt.locs, Pt.cells, Pt.slots] at X1 l1 y1 z1 st1 hQ1
  subst l1 y1 z1
  obtain ⟨rfl, N1q, e1⟩ := hQ1
  have N1 := Fr.app N0 N1q
  refine Goes.st (B := T1.setTop (mkF m 4 #[rv x0, jv x1, .second] [])) (fun t k => st1.trans k) ?_
  refine Goes.run X1 hx hown hci hcl hby (L := [(4, .aload_n 0, 1), (5, .lload_n 1, 1)]) (by decide +kernel) rfl (g' := (mkF m 6 #[rv x0, jv x1, .second] [(.long x1), (.ref x0)])) rfl ?_
  obtain ⟨T2, h2, X2, e2, W2, st2⟩ := putF X1 hx hZ hown (host := "") (Or.inl w_51) Via.refl e1 F_value_x0 E_x0 (Or.inr ⟨w_52, rfl, hnm⟩) w_39 (ty := .long) (by decide) rfl rfl (g := (mkF m 6 #[rv x0, jv x1, .second] [(.long x1), (.ref x0)])) rfl rfl (hb hby d4_6)
  have E_x0 := E_x0.wr W2
  have F_value_x0 : Fld Z h2 x0 "java/lang/Long" "value" "J" (.long x1) := F_value_x0.same W2
  have Zn2 : n0 ≤ h2.size := Nat.le_trans Z0 (Keep.of_wr W2).1
  have K2 := K0.wr W2 (Or.inl (List.mem_of_getElem? (i := 0) rfl))
  have N2 := Fr.snoc X2 N1 g_x0
  refine Goes.st (B := T2.setTop (mkF m 9 #[rv x0, jv x1, .second] [])) st2 ?_
  refine Goes.retV X2 hx hlk Bd.returns (hb hby d4_9) ?_ (by decide) (by decide)
  show (Q4 Z x0 x1 h0 n0) _ _ _
  rw [e2]
  exact ⟨rfl, N2, K2, F_value_x0⟩
theorem d5_9 : decode jdk_35_method_24_code 9 = .ok (.ifCond .lt 22, 3) := by decide +kernel
theorem d5_17 : decode jdk_35_method_24_code 17 = .ok (.ifCond .gt 14, 3) := by decide +kernel
theorem d5_20 : decode jdk_35_method_24_code 20 = .ok (.getstatic 234, 3) := by decide +kernel
theorem d5_29 : decode jdk_35_method_24_code 29 = .ok (.aaload, 1) := by decide +kernel
theorem d5_30 : decode jdk_35_method_24_code 30 = .ok (.areturn, 1) := by decide +kernel
theorem d5_31 : decode jdk_35_method_24_code 31 = .ok (.new 1, 3) := by decide +kernel
theorem d5_36 : decode jdk_35_method_24_code 36 = .ok (.invokespecial 240, 3) := by decide +kernel
theorem d5_39 : decode jdk_35_method_24_code 39 = .ok (.areturn, 1) := by decide +kernel
theorem pn5 : plainName "java/lang/Long" = true := by first | (simp [plainName, overriddenIn]; done) | decide +kernel
theorem pd5_0 : parseMethodDescriptor "(J)V" = some ⟨[.long], none⟩ := by decide +kernel
theorem ef5 (m : MethodId) (x0 : Int64) : entryFrame m #[(.long x0)] 3 = (mkF m 0 #[jv x0, .second, .unset] []) := by first | (simp [entryFrame, mkF, argsToLocals, Value.category]; done) | rfl
set_option maxRecDepth 65536 in
set_option maxHeartbeats 40000000 in
theorem rm5 (l : Launch) (Z : State) (a0 : Array Value) (hw : ∀ d ∈ tables_1, d.before a0 Z = true) (ws : List Jvm.Cond) (x0 : Int64) (u : Addr) (cu : Cell) (h0 : Heap) (n0 : Nat) (Z0 : n0 ≤ h0.size) (S_cache : Sta Z h0 "java/lang/Long$LongCache" "cache" "[Ljava/lang/Long;" (.ref u)) (hU : OwnC Z h0 u cu) (hP : ¬ x0 < (-128 : Int64)) :
    MetFree l ym4 (head1 (Jvm.Cond.code ym4 jdk_35_method_24_code 3 (some (.object "java/lang/Long")) :: ws) ({ frames := 3, cells := 1, slots := 1, locals := 39 } : Room)) (fun a U => a = #[(.long x0)] ∧ Z.Warmed39 U.vm ∧ U.heap = h0) (fun _ _ _ _ _ => True) (fun _ U o U' => ∃ v L, o = .returned v ∧ (QLo Z h0 n0) v U'.heap L ∧ FrameEnd U o U' L ({ frames := 3, cells := 1, slots := 1, locals := 39 } : Room).cells ({ frames := 3, cells := 1, slots := 1, locals := 39 } : Room).slots) := by
  refine MetFree.of_bodySF (plainFor_of_name pn5) hisR ?_
  intro p e s m args below meth c s₁ Bd hml0 hP hK
  obtain ⟨rfl, hZ, hh⟩ := hP
  have hx := Bd.exec
  have hby := Bd.bytes
  have hml : c.maxLocals = 3 := hml0
  have hlk : meth.locks = false := BodyLoose.notSynchronized Bd
  have hown : s.vm.findClass "java/lang/Long" = some m.cls := findClass_of_methodNamed Bd.named
  have hnm := (name_of_methodNamed Bd.named Bd.method).1
  have w_22 := hw _ (List.mem_of_getElem? (i := 22) rfl)
  have w_24 := hw _ (List.mem_of_getElem? (i := 24) rfl)
  have w_25 := hw _ (List.mem_of_getElem? (i := 25) rfl)
  have w_26 := hw _ (List.mem_of_getElem? (i := 26) rfl)
  have w_38 := hw _ (List.mem_of_getElem? (i := 38) rfl)
  have w_39 := hw _ (List.mem_of_getElem? (i := 39) rfl)
  have w_40 := hw _ (List.mem_of_getElem? (i := 40) rfl)
  have w_41 := hw _ (List.mem_of_getElem? (i := 41) rfl)
  have w_43 := hw _ (List.mem_of_getElem? (i := 43) rfl)
  have w_52 := hw _ (List.mem_of_getElem? (i := 52) rfl)
  have hci : ∀ i v, (i, v) ∈ ([] : List (Nat × Int32)) → (Jvm.Cond.constant "java/lang/Long" i v).before #[(.long x0)] s = true := own_ci0
  have hcl : ∀ i v, (i, v) ∈ ([(230, -128), (232, 127)] : List (Nat × Int64)) → (Jvm.Cond.constantLong "java/lang/Long" i v).before #[(.long x0)] s = true := (own_ciS (mvT hZ w_24) (own_ciS (mvT hZ w_25) own_ci0))
  have X0 : Stand p l e ({ frames := 3, cells := 1, slots := 1, locals := 39 } : Room) s m #[(.long x0)] below meth c s₁ [] 0 0 := Stand.of_body Bd
  have e0 : s₁.heap = h0 := by rw [← hh, Bd.state]; rfl
  have N0 := Fr.nil n0
  show Goes p e below s (QLo Z h0 n0) ({ frames := 3, cells := 1, slots := 1, locals := 39 } : Room).cells ({ frames := 3, cells := 1, slots := 1, locals := 39 } : Room).slots (s₁.setTop (entryFrame m #[(.long x0)] 3))
  refine Goes.cast (ef5 m x0) ?_
  have K0 : Keep h0 h0 [] := Keep.refl h0 _
  refine Goes.run X0 hx hown hci hcl hby (L := [(0, .sipush 128, 3), (3, .istore_n 2, 1), (4, .lload_n 0, 1), (5, .ldc2_w 230, 3), (8, .lcmp, 1)]) (by decide +kernel) rfl (g' := (mkF m 9 #[jv x0, .second, iv (128 : Int32)] [(.int (lcmpW x0 (-128 : Int64)))])) rfl ?_
  have hc9_1 : ¬ (x0 < (-128 : Int64)) := hP
  refine Goes.st (B := s₁.setTop (mkF m 12 #[jv x0, .second, iv (128 : Int32)] [])) (fun t k => ?_) ?_
  · refine XS.ifNo X0.here hx rfl (hb hby d5_9) rfl (fltL hc9_1).1 ?_
    exact k
  refine Goes.run X0 hx hown hci hcl hby (L := [(12, .lload_n 0, 1), (13, .ldc2_w 232, 3), (16, .lcmp, 1)]) (by decide +kernel) rfl (g' := (mkF m 17 #[jv x0, .second, iv (128 : Int32)] [(.int (lcmpW x0 (127 : Int64)))])) rfl ?_
  by_cases hc17_2 : (127 : Int64) < x0
  · skip
    refine Goes.st (B := s₁.setTop (mkF m 31 #[jv x0, .second, iv (128 : Int32)] [])) (fun t k => ?_) ?_
    · refine XS.ifYes X0.here hx rfl (pc0 := 17) (pc' := 31) rfl (hb hby d5_17) rfl (tltL hc17_2).2.2.1 (by decide) (by decide) ?_
      exact k
    obtain ⟨T3, h3, X3, e3, E3, A3, D3, -, st3⟩ := newO X0 hx hZ hown w_38 w_39 w_22 e0 (g := (mkF m 31 #[jv x0, .second, iv (128 : Int32)] [])) rfl (hb hby d5_31) (by decide) (by decide)
    obtain ⟨b3, g3⟩ : ∃ z, z = h0.size := ⟨_, rfl⟩
    rw [← g3] at A3 D3 st3
    have g_b3 : n0 ≤ b3 := Nat.le_trans Z0 (Nat.le_of_eq g3.symm)
    have sz_b3 : h0.size ≤ b3 := Nat.le_trans K0.1 (Nat.le_of_eq g3.symm)
    have S_cache := S_cache.ext E3
    have Zn3 : n0 ≤ h3.size := Nat.le_trans Z0 E3.1
    have K3 := K0.ext E3
    have E_b3 : Exa Z h3 b3 "java/lang/Long" := A3
    have F_value_b3 : Fld Z h3 b3 "java/lang/Long" "value" "J" (.long (0 : Int64)) := D3 (Or.inr w_52) (ty := .long) (by decide)
    refine Goes.st (B := T3.setTop (mkF m 34 #[jv x0, .second, iv (128 : Int32)] [(.ref b3)])) st3 ?_
    refine Goes.run X3 hx hown hci hcl hby (L := [(34, .dup, 1), (35, .lload_n 0, 1)]) (by decide +kernel) rfl (g' := (mkF m 36 #[jv x0, .second, iv (128 : Int32)] [(.long x0), (.ref b3), (.ref b3)])) rfl ?_
    obtain ⟨_, _, ⟨T4, L4, k4, n4⟩, -, X4, ⟨Lc4, hQ4, l4, y4, z4⟩, st4⟩ := X3.specialBack hx (y := ym3) rfl hown (mvT hZ w_40) (mvT hZ w_41) (mvT hZ w_43) (by decide) (backOf (W := 1) (rm4 l Z a0 hw [] b3 x0 h3 n0 Zn3 E_b3 F_value_b3 g_b3) hZ w_43 w_22 (by decide) (by decide)) (g := (mkF m 36 #[jv x0, .second, iv (128 : Int32)] [(.long x0), (.ref b3), (.ref b3)])) rfl (by rw [hml]; rfl) (Steps.refl _) (a := b3) (argsL := [(.long x0)]) (rest := [(.ref b3)]) (lenOf pd5_0 rfl) rfl (by show 2 * 0 + _ ≤ _; exact Nat.le_of_eq rfl) (hb hby d5_36) (fun _ _ => ⟨rfl, e3, (by decide : 1 + 0 ≤ _), (by decide : 1 + 0 ≤ _)⟩)
    dsimp only [Pt.U, Pt.locs, Pt.cells, Pt.slots] at X4 l4 y4 z4 st4 hQ4
    subst l4 y4 z4
    obtain ⟨h4, eh4⟩ : ∃ z, z = T4.heap := ⟨_, rfl⟩
    rw [← eh4] at hQ4
    have e4 : T4.heap = h4 := eh4.symm
    obtain ⟨rfl, N4q, Kq4, o4_0⟩ := hQ4
    have N4 := Fr.app N0 N4q
    have E_b3 := E_b3.keep Kq4
    have F_value_b3 : Fld Z h4 b3 "java/lang/Long" "value" "J" (.long x0) := o4_0
    have Zn4 : n0 ≤ h4.size := Nat.le_trans Zn3 Kq4.1
    have K4 := K3.trans Kq4 ((allS (Or.inr sz_b3) all0))
    refine Goes.st (B := T4.setTop (mkF m 39 #[jv x0, .second, iv (128 : Int32)] [(.ref b3)])) (fun t k => st4.trans k) ?_
    exact Goes.retR X4 hx hlk Bd.returns rfl rfl (hb hby d5_39) (by show QLo Z h0 n0 _ _ _; rw [e4]; exact ⟨b3, rfl, N4, K4, E_b3⟩) (by decide) (by decide)
  · skip
    refine Goes.st (B := s₁.setTop (mkF m 20 #[jv x0, .second, iv (128 : Int32)] [])) (fun t k => ?_) ?_
    · refine XS.ifNo X0.here hx rfl (hb hby d5_17) rfl (fltL hc17_2).2.2.1 ?_
      exact k
    obtain ⟨T5, X5, e5, st5⟩ := getS2 X0 hx hZ hown (host := "") (Or.inl w_26) Via.refl e0 S_cache (g := (mkF m 20 #[jv x0, .second, iv (128 : Int32)] [])) rfl (hb hby d5_20)
    refine Goes.st (B := T5.setTop (mkF m 23 #[jv x0, .second, iv (128 : Int32)] [(.ref u)])) st5 ?_
    refine Goes.run X5 hx hown hci hcl hby (L := [(23, .lload_n 0, 1), (24, .l2i, 1), (25, .sipush 128, 3), (28, .iadd, 1)]) (by decide +kernel) rfl (g' := (mkF m 29 #[jv x0, .second, iv (128 : Int32)] [(.int ((x0.toInt32) + (128 : Int32))), (.ref u)])) rfl ?_
    have ix6 := own_ix hP hc17_2
    obtain ⟨al, ha6, E_al⟩ := hU.2.2 (((x0.toInt32) + (128 : Int32))).toNatClampNeg (Nat.lt_of_not_le fun q => ix6 (Or.inr q))
    refine Goes.st (B := T5.setTop (mkF m 30 #[jv x0, .second, iv (128 : Int32)] [(.ref al)])) (X5.aaload hx (j := ((x0.toInt32) + (128 : Int32))) (v := .ref al) (by rw [e5]; exact hU.1.1) (State.isArrayOf_alike hZ.alike hU.1.2.1) rfl hU.1.2.2 (by rw [hU.2.1]; exact ix6) ha6 (g := (mkF m 29 #[jv x0, .second, iv (128 : Int32)] [(.int ((x0.toInt32) + (128 : Int32))), (.ref u)])) rfl rfl (hb hby d5_29)) ?_
    exact Goes.retR X5 hx hlk Bd.returns rfl rfl (hb hby d5_30) (by show QLo Z h0 n0 _ _ _; rw [e5]; exact ⟨al, rfl, N0, K0, E_al⟩) (by decide) (by decide)
theorem d6_2 : decode prog_15_method_7_code 2 = .ok (.if_acmp .ne 5, 3) := by decide +kernel
theorem d6_8 : decode prog_15_method_7_code 8 = .ok (.instanceof 8, 3) := by decide +kernel
theorem d6_11 : decode prog_15_method_7_code 11 = .ok (.ifCond .ne 5, 3) := by decide +kernel
theorem d6_17 : decode prog_15_method_7_code 17 = .ok (.checkcast 8, 3) := by decide +kernel
theorem d6_22 : decode prog_15_method_7_code 22 = .ok (.getfield 21, 3) := by decide +kernel
theorem d6_26 : decode prog_15_method_7_code 26 = .ok (.getfield 21, 3) := by decide +kernel
theorem d6_29 : decode prog_15_method_7_code 29 = .ok (.if_icmp .ne 19, 3) := by decide +kernel
theorem d6_33 : decode prog_15_method_7_code 33 = .ok (.getfield 25, 3) := by decide +kernel
theorem d6_37 : decode prog_15_method_7_code 37 = .ok (.getfield 25, 3) := by decide +kernel
theorem d6_41 : decode prog_15_method_7_code 41 = .ok (.ifCond .ne 7, 3) := by decide +kernel
theorem d6_49 : decode prog_15_method_7_code 49 = .ok (.ireturn, 1) := by decide +kernel
theorem pn6 : plainName "com/example/marks_across_domains/marksacrossdomains/OrganisationId" = true := by first | (simp [plainName, overriddenIn]; done) | decide +kernel
theorem ef6 (m : MethodId) (x0 : Addr) (x1 : Addr) : entryFrame m #[(.ref x0), (.ref x1)] 3 = (mkF m 0 #[rv x0, rv x1, .unset] []) := by first | (simp [entryFrame, mkF, argsToLocals, Value.category]; done) | rfl
def r6 (a0c : Int32) (a0n : Int64) (a1c : Int32) (a1n : Int64) : Int32 := (if a0c = a1c then (if a0n = a1n then (1 : Int32) else (0 : Int32)) else (0 : Int32))
theorem own_nar6 (a0c : Int32) (a0n : Int64) (a1c : Int32) (a1n : Int64) : nar .boolean (r6 a0c a0n a1c a1n) = r6 a0c a0n a1c a1n := by
  unfold r6
  repeat' split
  all_goals first | rfl | decide
set_option maxRecDepth 65536 in
set_option maxHeartbeats 40000000 in
theorem rm6 (l : Launch) (Z : State) (a0 : Array Value) (hw : ∀ d ∈ tables_1, d.before a0 Z = true) (ws : List Jvm.Cond) (x0 : Addr) (x1 : Addr) (a0c : Int32) (a0n : Int64) (a1c : Int32) (a1n : Int64) (h0 : Heap) (n0 : Nat) (Z0 : n0 ≤ h0.size) (E_x0 : Exa Z h0 x0 "com/example/marks_across_domains/marksacrossdomains/OrganisationId") (F_country_x0 : Fld Z h0 x0 "com/example/marks_across_domains/marksacrossdomains/OrganisationId" "country" "I" (.int a0c)) (F_number_x0 : Fld Z h0 x0 "com/example/marks_across_domains/marksacrossdomains/OrganisationId" "number" "J" (.long a0n)) (E_x1 : Exa Z h0 x1 "com/example/marks_across_domains/marksacrossdomains/OrganisationId") (F_country_x1 : Fld Z h0 x1 "com/example/marks_across_domains/marksacrossdomains/OrganisationId" "country" "I" (.int a1c)) (F_number_x1 : Fld Z h0 x1 "com/example/marks_across_domains/marksacrossdomains/OrganisationId" "number" "J" (.long a1n)) (hne : ¬ x0 = x1) :
    MetFree l ym5 (head1 (Jvm.Cond.code ym5 prog_15_method_7_code 3 (some .boolean) :: ws) ({ frames := 0, cells := 0, slots := 0, locals := 0 } : Room)) (fun a U => a = #[(.ref x0), (.ref x1)] ∧ Z.Warmed39 U.vm ∧ U.heap = h0) (fun _ _ _ _ _ => True) (fun _ U o U' => ∃ v L, o = .returned v ∧ (QP (some (.int (r6 a0c a0n a1c a1n))) h0 n0) v U'.heap L ∧ FrameEnd U o U' L ({ frames := 0, cells := 0, slots := 0, locals := 0 } : Room).cells ({ frames := 0, cells := 0, slots := 0, locals := 0 } : Room).slots) := by
  refine MetFree.of_bodySF (plainFor_of_name pn6) hisR ?_
  intro p e s m args below meth c s₁ Bd hml0 hP hK
  obtain ⟨rfl, hZ, hh⟩ := hP
  have hx := Bd.exec
  have hby := Bd.bytes
  have hml : c.maxLocals = 3 := hml0
  have hlk : meth.locks = false := BodyLoose.notSynchronized Bd
  have hown : s.vm.findClass "com/example/marks_across_domains/marksacrossdomains/OrganisationId" = some m.cls := findClass_of_methodNamed Bd.named
  have hnm := (name_of_methodNamed Bd.named Bd.method).1
  have w_14 := hw _ (List.mem_of_getElem? (i := 14) rfl)
  have w_15 := hw _ (List.mem_of_getElem? (i := 15) rfl)
  have w_16 := hw _ (List.mem_of_getElem? (i := 16) rfl)
  have w_18 := hw _ (List.mem_of_getElem? (i := 18) rfl)
  have w_33 := hw _ (List.mem_of_getElem? (i := 33) rfl)
  have hci : ∀ i v, (i, v) ∈ ([] : List (Nat × Int32)) → (Jvm.Cond.constant "com/example/marks_across_domains/marksacrossdomains/OrganisationId" i v).before #[(.ref x0), (.ref x1)] s = true := own_ci0
  have hcl : ∀ i v, (i, v) ∈ ([(50, 999), (61, 4294967295)] : List (Nat × Int64)) → (Jvm.Cond.constantLong "com/example/marks_across_domains/marksacrossdomains/OrganisationId" i v).before #[(.ref x0), (.ref x1)] s = true := (own_ciS (mvT hZ w_14) (own_ciS (mvT hZ w_15) own_ci0))
  have X0 : Stand p l e ({ frames := 0, cells := 0, slots := 0, locals := 0 } : Room) s m #[(.ref x0), (.ref x1)] below meth c s₁ [] 0 0 := Stand.of_body Bd
  have e0 : s₁.heap = h0 := by rw [← hh, Bd.state]; rfl
  have N0 := Fr.nil n0
  show Goes p e below s (QP (some (.int (r6 a0c a0n a1c a1n))) h0 n0) ({ frames := 0, cells := 0, slots := 0, locals := 0 } : Room).cells ({ frames := 0, cells := 0, slots := 0, locals := 0 } : Room).slots (s₁.setTop (entryFrame m #[(.ref x0), (.ref x1)] 3))
  refine Goes.cast (ef6 m x0 x1) ?_
  refine Goes.run X0 hx hown hci hcl hby (L := [(0, .aload_n 0, 1), (1, .aload_n 1, 1)]) (by decide +kernel) rfl (g' := (mkF m 2 #[rv x0, rv x1, .unset] [(.ref x1), (.ref x0)])) rfl ?_
  have hc2_1 : ¬ (x0 = x1) := hne
  refine Goes.st (B := s₁.setTop (mkF m 7 #[rv x0, rv x1, .unset] [])) (fun t k => ?_) ?_
  · refine Jvm.RoadKit.acmp (g := (mkF m 2 #[rv x0, rv x1, .unset] [(.ref x1), (.ref x0)])) X0 hx rfl rfl rfl (pc0 := 2) (pc' := 7) (same := false) rfl (hb hby d6_2) rfl (decide_eq_false fun q => hc2_1 (Value.ref.inj q)) (by decide) (by decide) ?_
    exact k
  refine Goes.run X0 hx hown hci hcl hby (L := [(7, .aload_n 1, 1)]) (by decide +kernel) rfl (g' := (mkF m 8 #[rv x0, rv x1, .unset] [(.ref x1)])) rfl ?_
  obtain ⟨T2, X2, e2, st2⟩ := instY X0 hx hZ hown w_33 e0 (Ins.self E_x1) (g := (mkF m 8 #[rv x0, rv x1, .unset] [(.ref x1)])) rfl rfl (hb hby d6_8)
  refine Goes.st (B := T2.setTop (mkF m 11 #[rv x0, rv x1, .unset] [(.int (1 : Int32))])) st2 ?_
  have hc11_3 : ¬ ((1 : Int32) = (0 : Int32)) := by decide
  refine Goes.st (B := T2.setTop (mkF m 16 #[rv x0, rv x1, .unset] [])) (fun t k => ?_) ?_
  · refine XS.ifYes X2.here hx rfl (pc0 := 11) (pc' := 16) rfl (hb hby d6_11) rfl ((if0 _ _).trans (feq hc11_3).2) (by decide) (by decide) ?_
    exact k
  refine Goes.run X2 hx hown hci hcl hby (L := [(16, .aload_n 1, 1)]) (by decide +kernel) rfl (g' := (mkF m 17 #[rv x0, rv x1, .unset] [(.ref x1)])) rfl ?_
  obtain ⟨T4, X4, e4, st4⟩ := castY X2 hx hZ hown w_33 e2 (Ins.self E_x1) (g := (mkF m 17 #[rv x0, rv x1, .unset] [(.ref x1)])) rfl rfl (hb hby d6_17)
  refine Goes.st (B := T4.setTop (mkF m 20 #[rv x0, rv x1, .unset] [(.ref x1)])) st4 ?_
  refine Goes.run X4 hx hown hci hcl hby (L := [(20, .astore_n 2, 1), (21, .aload_n 0, 1)]) (by decide +kernel) rfl (g' := (mkF m 22 #[rv x0, rv x1, rv x1] [(.ref x0)])) rfl ?_
  obtain ⟨T5, X5, e5, st5⟩ := getF X4 hx hZ hown (host := "") (Or.inl w_16) Via.refl e4 F_country_x0 (g := (mkF m 22 #[rv x0, rv x1, rv x1] [(.ref x0)])) rfl rfl (hb hby d6_22)
  refine Goes.st (B := T5.setTop (mkF m 25 #[rv x0, rv x1, rv x1] [(.int a0c)])) st5 ?_
  refine Goes.run X5 hx hown hci hcl hby (L := [(25, .aload_n 2, 1)]) (by decide +kernel) rfl (g' := (mkF m 26 #[rv x0, rv x1, rv x1] [(.ref x1), (.int a0c)])) rfl ?_
  obtain ⟨T6, X6, e6, st6⟩ := getF X5 hx hZ hown (host := "") (Or.inl w_16) Via.refl e5 F_country_x1 (g := (mkF m 26 #[rv x0, rv x1, rv x1] [(.ref x1), (.int a0c)])) rfl rfl (hb hby d6_26)
  refine Goes.st (B := T6.setTop (mkF m 29 #[rv x0, rv x1, rv x1] [(.int a1c), (.int a0c)])) st6 ?_
  by_cases hc29_7 : a0c = a1c
  · skip
    refine Goes.st (B := T6.setTop (mkF m 32 #[rv x0, rv x1, rv x1] [])) (fun t k => ?_) ?_
    · refine XS.icmpNo X6.here hx rfl (hb hby d6_29) rfl (teq hc29_7).2 ?_
      exact k
    refine Goes.run X6 hx hown hci hcl hby (L := [(32, .aload_n 0, 1)]) (by decide +kernel) rfl (g' := (mkF m 33 #[rv x0, rv x1, rv x1] [(.ref x0)])) rfl ?_
    obtain ⟨T8, X8, e8, st8⟩ := getF X6 hx hZ hown (host := "") (Or.inl w_18) Via.refl e6 F_number_x0 (g := (mkF m 33 #[rv x0, rv x1, rv x1] [(.ref x0)])) rfl rfl (hb hby d6_33)
    refine Goes.st (B := T8.setTop (mkF m 36 #[rv x0, rv x1, rv x1] [(.long a0n)])) st8 ?_
    refine Goes.run X8 hx hown hci hcl hby (L := [(36, .aload_n 2, 1)]) (by decide +kernel) rfl (g' := (mkF m 37 #[rv x0, rv x1, rv x1] [(.ref x1), (.long a0n)])) rfl ?_
    obtain ⟨T9, X9, e9, st9⟩ := getF X8 hx hZ hown (host := "") (Or.inl w_18) Via.refl e8 F_number_x1 (g := (mkF m 37 #[rv x0, rv x1, rv x1] [(.ref x1), (.long a0n)])) rfl rfl (hb hby d6_37)
    refine Goes.st (B := T9.setTop (mkF m 40 #[rv x0, rv x1, rv x1] [(.long a1n), (.long a0n)])) st9 ?_
    refine Goes.run X9 hx hown hci hcl hby (L := [(40, .lcmp, 1)]) (by decide +kernel) rfl (g' := (mkF m 41 #[rv x0, rv x1, rv x1] [(.int (lcmpW a0n a1n))])) rfl ?_
    by_cases hc41_10 : a0n = a1n
    · skip
      refine Goes.st (B := T9.setTop (mkF m 44 #[rv x0, rv x1, rv x1] [])) (fun t k => ?_) ?_
      · refine XS.ifNo X9.here hx rfl (hb hby d6_41) rfl (teqL hc41_10).2 ?_
        exact k
      refine Goes.run X9 hx hown hci hcl hby (L := [(44, .iconst 1, 1), (45, .goto 4, 3)]) (by decide +kernel) rfl (g' := (mkF m 49 #[rv x0, rv x1, rv x1] [(.int (1 : Int32))])) rfl ?_
      exact Goes.retB X9 hx hlk (t := .boolean) Bd.returns (by simp) (hb hby d6_49) rfl ⟨(congrArg (fun z => some (Value.int z)) (show (r6 a0c a0n a1c a1n) = (1 : Int32) from ((if_pos hc29_7).trans (if_pos hc41_10))).symm), N0, e9⟩ (by decide) (by decide)
    · skip
      refine Goes.st (B := T9.setTop (mkF m 48 #[rv x0, rv x1, rv x1] [])) (fun t k => ?_) ?_
      · refine XS.ifYes X9.here hx rfl (pc0 := 41) (pc' := 48) rfl (hb hby d6_41) rfl (feqL hc41_10).2 (by decide) (by decide) ?_
        exact k
      refine Goes.run X9 hx hown hci hcl hby (L := [(48, .iconst 0, 1)]) (by decide +kernel) rfl (g' := (mkF m 49 #[rv x0, rv x1, rv x1] [(.int (0 : Int32))])) rfl ?_
      exact Goes.retB X9 hx hlk (t := .boolean) Bd.returns (by simp) (hb hby d6_49) rfl ⟨(congrArg (fun z => some (Value.int z)) (show (r6 a0c a0n a1c a1n) = (0 : Int32) from ((if_pos hc29_7).trans (if_neg hc41_10))).symm), N0, e9⟩ (by decide) (by decide)
  · skip
    refine Goes.st (B := T6.setTop (mkF m 48 #[rv x0, rv x1, rv x1] [])) (fun t k => ?_) ?_
    · refine XS.icmpYes X6.here hx rfl (pc0 := 29) (pc' := 48) rfl (hb hby d6_29) rfl (feq hc29_7).2 (by decide) (by decide) ?_
      exact k
    refine Goes.run X6 hx hown hci hcl hby (L := [(48, .iconst 0, 1)]) (by decide +kernel) rfl (g' := (mkF m 49 #[rv x0, rv x1, rv x1] [(.int (0 : Int32))])) rfl ?_
    exact Goes.retB X6 hx hlk (t := .boolean) Bd.returns (by simp) (hb hby d6_49) rfl ⟨(congrArg (fun z => some (Value.int z)) (show (r6 a0c a0n a1c a1n) = (0 : Int32) from (if_neg hc29_7)).symm), N0, e6⟩ (by decide) (by decide)
theorem d6_6 : decode prog_15_method_7_code 6 = .ok (.ireturn, 1) := by decide +kernel
theorem pn7 : plainName "com/example/marks_across_domains/marksacrossdomains/OrganisationId" = true := by first | (simp [plainName, overriddenIn]; done) | decide +kernel
theorem ef7 (m : MethodId) (x0 : Addr) : entryFrame m #[(.ref x0), (.ref x0)] 3 = (mkF m 0 #[rv x0, rv x0, .unset] []) := by first | (simp [entryFrame, mkF, argsToLocals, Value.category]; done) | rfl
def r7  : Int32 := (1 : Int32)
set_option maxRecDepth 65536 in
set_option maxHeartbeats 40000000 in
theorem rm7 (l : Launch) (Z : State) (a0 : Array Value) (hw : ∀ d ∈ tables_1, d.before a0 Z = true) (ws : List Jvm.Cond) (x0 : Addr) (h0 : Heap) (n0 : Nat) (Z0 : n0 ≤ h0.size) (E_x0 : Exa Z h0 x0 "com/example/marks_across_domains/marksacrossdomains/OrganisationId") :
    MetFree l ym5 (head1 (Jvm.Cond.code ym5 prog_15_method_7_code 3 (some .boolean) :: ws) ({ frames := 0, cells := 0, slots := 0, locals := 0 } : Room)) (fun a U => a = #[(.ref x0), (.ref x0)] ∧ Z.Warmed39 U.vm ∧ U.heap = h0) (fun _ _ _ _ _ => True) (fun _ U o U' => ∃ v L, o = .returned v ∧ (QP (some (.int (r7 ))) h0 n0) v U'.heap L ∧ FrameEnd U o U' L ({ frames := 0, cells := 0, slots := 0, locals := 0 } : Room).cells ({ frames := 0, cells := 0, slots := 0, locals := 0 } : Room).slots) := by
  refine MetFree.of_bodySF (plainFor_of_name pn7) hisR ?_
  intro p e s m args below meth c s₁ Bd hml0 hP hK
  obtain ⟨rfl, hZ, hh⟩ := hP
  have hx := Bd.exec
  have hby := Bd.bytes
  have hml : c.maxLocals = 3 := hml0
  have hlk : meth.locks = false := BodyLoose.notSynchronized Bd
  have hown : s.vm.findClass "com/example/marks_across_domains/marksacrossdomains/OrganisationId" = some m.cls := findClass_of_methodNamed Bd.named
  have hnm := (name_of_methodNamed Bd.named Bd.method).1
  have w_14 := hw _ (List.mem_of_getElem? (i := 14) rfl)
  have w_15 := hw _ (List.mem_of_getElem? (i := 15) rfl)
  have hci : ∀ i v, (i, v) ∈ ([] : List (Nat × Int32)) → (Jvm.Cond.constant "com/example/marks_across_domains/marksacrossdomains/OrganisationId" i v).before #[(.ref x0), (.ref x0)] s = true := own_ci0
  have hcl : ∀ i v, (i, v) ∈ ([(50, 999), (61, 4294967295)] : List (Nat × Int64)) → (Jvm.Cond.constantLong "com/example/marks_across_domains/marksacrossdomains/OrganisationId" i v).before #[(.ref x0), (.ref x0)] s = true := (own_ciS (mvT hZ w_14) (own_ciS (mvT hZ w_15) own_ci0))
  have X0 : Stand p l e ({ frames := 0, cells := 0, slots := 0, locals := 0 } : Room) s m #[(.ref x0), (.ref x0)] below meth c s₁ [] 0 0 := Stand.of_body Bd
  have e0 : s₁.heap = h0 := by rw [← hh, Bd.state]; rfl
  have N0 := Fr.nil n0
  show Goes p e below s (QP (some (.int (r7 ))) h0 n0) ({ frames := 0, cells := 0, slots := 0, locals := 0 } : Room).cells ({ frames := 0, cells := 0, slots := 0, locals := 0 } : Room).slots (s₁.setTop (entryFrame m #[(.ref x0), (.ref x0)] 3))
  refine Goes.cast (ef7 m x0) ?_
  refine Goes.run X0 hx hown hci hcl hby (L := [(0, .aload_n 0, 1), (1, .aload_n 1, 1)]) (by decide +kernel) rfl (g' := (mkF m 2 #[rv x0, rv x0, .unset] [(.ref x0), (.ref x0)])) rfl ?_
  have hc2_1 : x0 = x0 := rfl
  refine Goes.st (B := s₁.setTop (mkF m 5 #[rv x0, rv x0, .unset] [])) (fun t k => ?_) ?_
  · refine Jvm.RoadKit.acmp (g := (mkF m 2 #[rv x0, rv x0, .unset] [(.ref x0), (.ref x0)])) X0 hx rfl rfl rfl (pc0 := 2) (pc' := 5) (same := true) rfl (hb hby d6_2) rfl (decide_eq_true (congrArg Value.ref hc2_1)) (by decide) (by decide) ?_
    exact k
  refine Goes.run X0 hx hown hci hcl hby (L := [(5, .iconst 1, 1)]) (by decide +kernel) rfl (g' := (mkF m 6 #[rv x0, rv x0, .unset] [(.int (1 : Int32))])) rfl ?_
  exact Goes.retB X0 hx hlk (t := .boolean) Bd.returns (by simp) (hb hby d6_6) rfl ⟨(congrArg (fun z => some (Value.int z)) (show (r7 ) = (1 : Int32) from rfl).symm), N0, e0⟩ (by decide) (by decide)
theorem d6_15 : decode prog_15_method_7_code 15 = .ok (.ireturn, 1) := by decide +kernel
theorem pn8 : plainName "com/example/marks_across_domains/marksacrossdomains/OrganisationId" = true := by first | (simp [plainName, overriddenIn]; done) | decide +kernel
theorem ef8 (m : MethodId) (x0 : Addr) : entryFrame m #[(.ref x0), .null] 3 = (mkF m 0 #[rv x0, .val .null, .unset] []) := by first | (simp [entryFrame, mkF, argsToLocals, Value.category]; done) | rfl
def r8  : Int32 := (0 : Int32)
set_option maxRecDepth 65536 in
set_option maxHeartbeats 40000000 in
theorem rm8 (l : Launch) (Z : State) (a0 : Array Value) (hw : ∀ d ∈ tables_1, d.before a0 Z = true) (ws : List Jvm.Cond) (x0 : Addr) (h0 : Heap) (n0 : Nat) (Z0 : n0 ≤ h0.size) (E_x0 : Exa Z h0 x0 "com/example/marks_across_domains/marksacrossdomains/OrganisationId") :
    MetFree l ym5 (head1 (Jvm.Cond.code ym5 prog_15_method_7_code 3 (some .boolean) :: ws) ({ frames := 0, cells := 0, slots := 0, locals := 0 } : Room)) (fun a U => a = #[(.ref x0), .null] ∧ Z.Warmed39 U.vm ∧ U.heap = h0) (fun _ _ _ _ _ => True) (fun _ U o U' => ∃ v L, o = .returned v ∧ (QP (some (.int (r8 ))) h0 n0) v U'.heap L ∧ FrameEnd U o U' L ({ frames := 0, cells := 0, slots := 0, locals := 0 } : Room).cells ({ frames := 0, cells := 0, slots := 0, locals := 0 } : Room).slots) := by
  refine MetFree.of_bodySF (plainFor_of_name pn8) hisR ?_
  intro p e s m args below meth c s₁ Bd hml0 hP hK
  obtain ⟨rfl, hZ, hh⟩ := hP
  have hx := Bd.exec
  have hby := Bd.bytes
  have hml : c.maxLocals = 3 := hml0
  have hlk : meth.locks = false := BodyLoose.notSynchronized Bd
  have hown : s.vm.findClass "com/example/marks_across_domains/marksacrossdomains/OrganisationId" = some m.cls := findClass_of_methodNamed Bd.named
  have hnm := (name_of_methodNamed Bd.named Bd.method).1
  have w_14 := hw _ (List.mem_of_getElem? (i := 14) rfl)
  have w_15 := hw _ (List.mem_of_getElem? (i := 15) rfl)
  have hci : ∀ i v, (i, v) ∈ ([] : List (Nat × Int32)) → (Jvm.Cond.constant "com/example/marks_across_domains/marksacrossdomains/OrganisationId" i v).before #[(.ref x0), .null] s = true := own_ci0
  have hcl : ∀ i v, (i, v) ∈ ([(50, 999), (61, 4294967295)] : List (Nat × Int64)) → (Jvm.Cond.constantLong "com/example/marks_across_domains/marksacrossdomains/OrganisationId" i v).before #[(.ref x0), .null] s = true := (own_ciS (mvT hZ w_14) (own_ciS (mvT hZ w_15) own_ci0))
  have X0 : Stand p l e ({ frames := 0, cells := 0, slots := 0, locals := 0 } : Room) s m #[(.ref x0), .null] below meth c s₁ [] 0 0 := Stand.of_body Bd
  have e0 : s₁.heap = h0 := by rw [← hh, Bd.state]; rfl
  have N0 := Fr.nil n0
  show Goes p e below s (QP (some (.int (r8 ))) h0 n0) ({ frames := 0, cells := 0, slots := 0, locals := 0 } : Room).cells ({ frames := 0, cells := 0, slots := 0, locals := 0 } : Room).slots (s₁.setTop (entryFrame m #[(.ref x0), .null] 3))
  refine Goes.cast (ef8 m x0) ?_
  refine Goes.run X0 hx hown hci hcl hby (L := [(0, .aload_n 0, 1), (1, .aload_n 1, 1)]) (by decide +kernel) rfl (g' := (mkF m 2 #[rv x0, .val .null, .unset] [.null, (.ref x0)])) rfl ?_
  refine Goes.st (B := s₁.setTop (mkF m 7 #[rv x0, .val .null, .unset] [])) (fun t k => ?_) ?_
  · refine Jvm.RoadKit.acmp (g := (mkF m 2 #[rv x0, .val .null, .unset] [.null, (.ref x0)])) X0 hx rfl rfl rfl (pc0 := 2) (pc' := 7) (same := false) rfl (hb hby d6_2) rfl (decide_eq_false nofun) (by decide) (by decide) ?_
    exact k
  refine Goes.run X0 hx hown hci hcl hby (L := [(7, .aload_n 1, 1)]) (by decide +kernel) rfl (g' := (mkF m 8 #[rv x0, .val .null, .unset] [.null])) rfl ?_
  refine Goes.st (B := s₁.setTop (mkF m 11 #[rv x0, .val .null, .unset] [(.int (0 : Int32))])) (X0.instanceofNull hx (g := (mkF m 8 #[rv x0, .val .null, .unset] [.null])) rfl rfl (hb hby d6_8)) ?_
  have hc11_2 : (0 : Int32) = (0 : Int32) := rfl
  refine Goes.st (B := s₁.setTop (mkF m 14 #[rv x0, .val .null, .unset] [])) (fun t k => ?_) ?_
  · refine XS.ifNo X0.here hx rfl (hb hby d6_11) rfl ((if0 _ _).trans (teq hc11_2).2) ?_
    exact k
  refine Goes.run X0 hx hown hci hcl hby (L := [(14, .iconst 0, 1)]) (by decide +kernel) rfl (g' := (mkF m 15 #[rv x0, .val .null, .unset] [(.int (0 : Int32))])) rfl ?_
  exact Goes.retB X0 hx hlk (t := .boolean) Bd.returns (by simp) (hb hby d6_15) rfl ⟨(congrArg (fun z => some (Value.int z)) (show (r8 ) = (0 : Int32) from rfl).symm), N0, e0⟩ (by decide) (by decide)
theorem pn9 : plainName "com/example/marks_across_domains/marksacrossdomains/OrganisationId" = true := by first | (simp [plainName, overriddenIn]; done) | decide +kernel
theorem ef9 (m : MethodId) (x0 : Addr) (x1 : Addr) : entryFrame m #[(.ref x0), (.ref x1)] 3 = (mkF m 0 #[rv x0, rv x1, .unset] []) := by first | (simp [entryFrame, mkF, argsToLocals, Value.category]; done) | rfl
def r9  : Int32 := (0 : Int32)
set_option maxRecDepth 65536 in
set_option maxHeartbeats 40000000 in
theorem rm9 (l : Launch) (Z : State) (a0 : Array Value) (hw : ∀ d ∈ tables_1, d.before a0 Z = true) (ws : List Jvm.Cond) (x0 : Addr) (x1 : Addr) (h0 : Heap) (n0 : Nat) (Z0 : n0 ≤ h0.size) (E_x0 : Exa Z h0 x0 "com/example/marks_across_domains/marksacrossdomains/OrganisationId") (E_x1 : Exa Z h0 x1 "java/lang/Long") (hne : ¬ x0 = x1) :
    MetFree l ym5 (head1 (Jvm.Cond.code ym5 prog_15_method_7_code 3 (some .boolean) :: ws) ({ frames := 0, cells := 0, slots := 0, locals := 0 } : Room)) (fun a U => a = #[(.ref x0), (.ref x1)] ∧ Z.Warmed39 U.vm ∧ U.heap = h0) (fun _ _ _ _ _ => True) (fun _ U o U' => ∃ v L, o = .returned v ∧ (QP (some (.int (r9 ))) h0 n0) v U'.heap L ∧ FrameEnd U o U' L ({ frames := 0, cells := 0, slots := 0, locals := 0 } : Room).cells ({ frames := 0, cells := 0, slots := 0, locals := 0 } : Room).slots) := by
  refine MetFree.of_bodySF (plainFor_of_name pn9) hisR ?_
  intro p e s m args below meth c s₁ Bd hml0 hP hK
  obtain ⟨rfl, hZ, hh⟩ := hP
  have hx := Bd.exec
  have hby := Bd.bytes
  have hml : c.maxLocals = 3 := hml0
  have hlk : meth.locks = false := BodyLoose.notSynchronized Bd
  have hown : s.vm.findClass "com/example/marks_across_domains/marksacrossdomains/OrganisationId" = some m.cls := findClass_of_methodNamed Bd.named
  have hnm := (name_of_methodNamed Bd.named Bd.method).1
  have w_3 := hw _ (List.mem_of_getElem? (i := 3) rfl)
  have w_14 := hw _ (List.mem_of_getElem? (i := 14) rfl)
  have w_15 := hw _ (List.mem_of_getElem? (i := 15) rfl)
  have w_33 := hw _ (List.mem_of_getElem? (i := 33) rfl)
  have w_35 := hw _ (List.mem_of_getElem? (i := 35) rfl)
  have w_36 := hw _ (List.mem_of_getElem? (i := 36) rfl)
  have w_37 := hw _ (List.mem_of_getElem? (i := 37) rfl)
  have hci : ∀ i v, (i, v) ∈ ([] : List (Nat × Int32)) → (Jvm.Cond.constant "com/example/marks_across_domains/marksacrossdomains/OrganisationId" i v).before #[(.ref x0), (.ref x1)] s = true := own_ci0
  have hcl : ∀ i v, (i, v) ∈ ([(50, 999), (61, 4294967295)] : List (Nat × Int64)) → (Jvm.Cond.constantLong "com/example/marks_across_domains/marksacrossdomains/OrganisationId" i v).before #[(.ref x0), (.ref x1)] s = true := (own_ciS (mvT hZ w_14) (own_ciS (mvT hZ w_15) own_ci0))
  have X0 : Stand p l e ({ frames := 0, cells := 0, slots := 0, locals := 0 } : Room) s m #[(.ref x0), (.ref x1)] below meth c s₁ [] 0 0 := Stand.of_body Bd
  have e0 : s₁.heap = h0 := by rw [← hh, Bd.state]; rfl
  have N0 := Fr.nil n0
  show Goes p e below s (QP (some (.int (r9 ))) h0 n0) ({ frames := 0, cells := 0, slots := 0, locals := 0 } : Room).cells ({ frames := 0, cells := 0, slots := 0, locals := 0 } : Room).slots (s₁.setTop (entryFrame m #[(.ref x0), (.ref x1)] 3))
  refine Goes.cast (ef9 m x0 x1) ?_
  refine Goes.run X0 hx hown hci hcl hby (L := [(0, .aload_n 0, 1), (1, .aload_n 1, 1)]) (by decide +kernel) rfl (g' := (mkF m 2 #[rv x0, rv x1, .unset] [(.ref x1), (.ref x0)])) rfl ?_
  have hc2_1 : ¬ (x0 = x1) := hne
  refine Goes.st (B := s₁.setTop (mkF m 7 #[rv x0, rv x1, .unset] [])) (fun t k => ?_) ?_
  · refine Jvm.RoadKit.acmp (g := (mkF m 2 #[rv x0, rv x1, .unset] [(.ref x1), (.ref x0)])) X0 hx rfl rfl rfl (pc0 := 2) (pc' := 7) (same := false) rfl (hb hby d6_2) rfl (decide_eq_false fun q => hc2_1 (Value.ref.inj q)) (by decide) (by decide) ?_
    exact k
  refine Goes.run X0 hx hown hci hcl hby (L := [(7, .aload_n 1, 1)]) (by decide +kernel) rfl (g' := (mkF m 8 #[rv x0, rv x1, .unset] [(.ref x1)])) rfl ?_
  obtain ⟨T2, X2, e2, st2⟩ := instNo X0 hx hZ hown w_33 e0 E_x1 (own_noL w_3 w_35 w_36 w_37 (by decide) (by decide) (by decide)) (g := (mkF m 8 #[rv x0, rv x1, .unset] [(.ref x1)])) rfl rfl (hb hby d6_8)
  refine Goes.st (B := T2.setTop (mkF m 11 #[rv x0, rv x1, .unset] [(.int (0 : Int32))])) st2 ?_
  have hc11_3 : (0 : Int32) = (0 : Int32) := rfl
  refine Goes.st (B := T2.setTop (mkF m 14 #[rv x0, rv x1, .unset] [])) (fun t k => ?_) ?_
  · refine XS.ifNo X2.here hx rfl (hb hby d6_11) rfl ((if0 _ _).trans (teq hc11_3).2) ?_
    exact k
  refine Goes.run X2 hx hown hci hcl hby (L := [(14, .iconst 0, 1)]) (by decide +kernel) rfl (g' := (mkF m 15 #[rv x0, rv x1, .unset] [(.int (0 : Int32))])) rfl ?_
  exact Goes.retB X2 hx hlk (t := .boolean) Bd.returns (by simp) (hb hby d6_15) rfl ⟨(congrArg (fun z => some (Value.int z)) (show (r9 ) = (0 : Int32) from rfl).symm), N0, e2⟩ (by decide) (by decide)
theorem pn0 : plainName "com/example/marks_across_domains/marksacrossdomains/OrganisationIdEqualsPinLaw" = true := by first | (simp [plainName, overriddenIn]; done) | decide +kernel
theorem pd0_0 : parseMethodDescriptor "(IJ)V" = some ⟨[.int, .long], none⟩ := by decide +kernel
theorem pd0_1 : parseMethodDescriptor "(J)Ljava/lang/Long;" = some ⟨[.long], some (.object "java/lang/Long")⟩ := by decide +kernel
theorem pd0_2 : parseMethodDescriptor "(Ljava/lang/Object;)Z" = some ⟨[(.object "java/lang/Object")], some .boolean⟩ := by decide +kernel
theorem ef0 (m : MethodId) (x0 : Int32) (x1 : Int64) (x2 : Int32) (x3 : Int64) (x4 : Int32) : entryFrame m #[(.int x0), (.long x1), (.int x2), (.long x3), (.int x4)] maxLocals = (mkF m 0 #[iv x0, jv x1, .second, iv x2, jv x3, .second, iv x4, .unset, .unset, .unset, .unset, .unset, .unset, .unset, .unset, .unset, .unset, .unset, .unset, .unset] []) := by first | (simp [entryFrame, mkF, argsToLocals, Value.category, maxLocals]; done) | rfl
def w0_8l (x0 : Int32) (x1 : Int64) (x2 : Int32) (x3 : Int64) (x4 : Int32) : Int32 := (x0 &&& (2147483647 : Int32))
def w0_10 (x0 : Int32) (x1 : Int64) (x2 : Int32) (x3 : Int64) (x4 : Int32) : Int32 := ((1 : Int32) + ((w0_8l x0 x1 x2 x3 x4) - ((w0_8l x0 x1 x2 x3 x4) / (999 : Int32)) * (999 : Int32)))
def w0_17 (x0 : Int32) (x1 : Int64) (x2 : Int32) (x3 : Int64) (x4 : Int32) : Int64 := (x1 &&& (4294967295 : Int64))
def w0_41l (x0 : Int32) (x1 : Int64) (x2 : Int32) (x3 : Int64) (x4 : Int32) : Int32 := (x2 &&& (2147483647 : Int32))
def w0_43 (x0 : Int32) (x1 : Int64) (x2 : Int32) (x3 : Int64) (x4 : Int32) : Int32 := ((1 : Int32) + ((w0_41l x0 x1 x2 x3 x4) - ((w0_41l x0 x1 x2 x3 x4) / (999 : Int32)) * (999 : Int32)))
def j0_45_10 (x0 : Int32) (x1 : Int64) (x2 : Int32) (x3 : Int64) (x4 : Int32) : Int32 := (if (x4 &&& (1 : Int32)) = (0 : Int32) then (w0_43 x0 x1 x2 x3 x4) else (w0_10 x0 x1 x2 x3 x4))
def w0_65 (x0 : Int32) (x1 : Int64) (x2 : Int32) (x3 : Int64) (x4 : Int32) : Int64 := (x3 &&& (4294967295 : Int64))
def j0_67_11 (x0 : Int32) (x1 : Int64) (x2 : Int32) (x3 : Int64) (x4 : Int32) : Int64 := (if (x4 &&& (2 : Int32)) = (0 : Int32) then (w0_65 x0 x1 x2 x3 x4) else (w0_17 x0 x1 x2 x3 x4))
def j0_87_s0 (x0 : Int32) (x1 : Int64) (x2 : Int32) (x3 : Int64) (x4 : Int32) : Int32 := (if (w0_10 x0 x1 x2 x3 x4) = (j0_45_10 x0 x1 x2 x3 x4) then (if (w0_17 x0 x1 x2 x3 x4) = (j0_67_11 x0 x1 x2 x3 x4) then (1 : Int32) else (0 : Int32)) else (0 : Int32))
def j0_155_s0 (x0 : Int32) (x1 : Int64) (x2 : Int32) (x3 : Int64) (x4 : Int32) : Int32 := (if (r6 (w0_10 x0 x1 x2 x3 x4) (w0_17 x0 x1 x2 x3 x4) (j0_45_10 x0 x1 x2 x3 x4) (j0_67_11 x0 x1 x2 x3 x4)) = (j0_87_s0 x0 x1 x2 x3 x4) then (1 : Int32) else (0 : Int32))
def j0_179_s0 (x0 : Int32) (x1 : Int64) (x2 : Int32) (x3 : Int64) (x4 : Int32) : Int32 := (if (j0_155_s0 x0 x1 x2 x3 x4) = (0 : Int32) then (0 : Int32) else (if (r6 (j0_45_10 x0 x1 x2 x3 x4) (j0_67_11 x0 x1 x2 x3 x4) (w0_10 x0 x1 x2 x3 x4) (w0_17 x0 x1 x2 x3 x4)) = (j0_87_s0 x0 x1 x2 x3 x4) then (1 : Int32) else (0 : Int32)))
def j0_201_s0 (x0 : Int32) (x1 : Int64) (x2 : Int32) (x3 : Int64) (x4 : Int32) : Int32 := (if (j0_179_s0 x0 x1 x2 x3 x4) = (0 : Int32) then (0 : Int32) else (if r7 = (0 : Int32) then (0 : Int32) else (1 : Int32)))
def j0_223_s0 (x0 : Int32) (x1 : Int64) (x2 : Int32) (x3 : Int64) (x4 : Int32) : Int32 := (if (j0_201_s0 x0 x1 x2 x3 x4) = (0 : Int32) then (0 : Int32) else (if (r6 (w0_10 x0 x1 x2 x3 x4) (w0_17 x0 x1 x2 x3 x4) (w0_10 x0 x1 x2 x3 x4) (w0_17 x0 x1 x2 x3 x4)) = (0 : Int32) then (0 : Int32) else (1 : Int32)))
def j0_245_s0 (x0 : Int32) (x1 : Int64) (x2 : Int32) (x3 : Int64) (x4 : Int32) : Int32 := (if (j0_223_s0 x0 x1 x2 x3 x4) = (0 : Int32) then (0 : Int32) else (if r8 = (0 : Int32) then (1 : Int32) else (0 : Int32)))
def j0_267_s0 (x0 : Int32) (x1 : Int64) (x2 : Int32) (x3 : Int64) (x4 : Int32) : Int32 := (if (j0_245_s0 x0 x1 x2 x3 x4) = (0 : Int32) then (0 : Int32) else (if r9 = (0 : Int32) then (1 : Int32) else (0 : Int32)))
def r0 (x0 : Int32) (x1 : Int64) (x2 : Int32) (x3 : Int64) (x4 : Int32) : Int32 := (j0_267_s0 x0 x1 x2 x3 x4)
section
variable (x0 : Int32) (x1 : Int64) (x2 : Int32) (x3 : Int64) (x4 : Int32)
theorem own_c1 (z : Int32) : ∃ a : Int, ((1 : Int32) + ((z &&& (2147483647 : Int32)) - ((z &&& (2147483647 : Int32)) / (999 : Int32)) * (999 : Int32))).toInt = a ∧ 1 ≤ a ∧ a ≤ 999 := by
  obtain ⟨A, m0, a0, a1, -⟩ := own_m32 z (2147483647 : Int32) (k := 31) (by decide) (by decide)
  have e := own_r32 m0 (show (999 : Int32).toInt = 999 by decide) a0
  have e2 := own_add32 (show (1 : Int32).toInt = 1 by decide) e (by omega) (by omega)
  exact ⟨_, e2, by omega, by omega⟩
theorem own_c2 (z : Int64) : ∃ a : Int, (z &&& (4294967295 : Int64)).toInt = a ∧ 0 ≤ a ∧ a ≤ 4294967295 := by
  obtain ⟨A, m0, a0, a1, -⟩ := own_m64 z (4294967295 : Int64) (k := 32) (by decide) (by decide)
  exact ⟨A, m0, a0, by omega⟩
theorem own_bb {u : Int32} {a : Int} (h : u.toInt = a) (h0 : 1 ≤ a) (h1 : a ≤ 999) : ¬ u.toInt64 = (0 : Int64) ∧ ¬ u.toInt64 < (1 : Int64) ∧ ¬ (999 : Int64) < u.toInt64 := by
  have e := own_i2l h
  rw [own_eq64 e (show (0 : Int64).toInt = 0 by decide), own_lt64 e (show (1 : Int64).toInt = 1 by decide), own_lt64 (show (999 : Int64).toInt = 999 by decide) e]
  omega
theorem own_nn {u : Int64} {a : Int} (h : u.toInt = a) (h0 : 0 ≤ a) (h1 : a ≤ 4294967295) : ¬ u < (0 : Int64) ∧ ¬ (4294967295 : Int64) < u := by
  rw [own_lt64 h (show (0 : Int64).toInt = 0 by decide), own_lt64 (show (4294967295 : Int64).toInt = 4294967295 by decide) h]
  omega
theorem own_b1 : ¬ (w0_10 x0 x1 x2 x3 x4).toInt64 = (0 : Int64) ∧ ¬ (w0_10 x0 x1 x2 x3 x4).toInt64 < (1 : Int64) ∧ ¬ (999 : Int64) < (w0_10 x0 x1 x2 x3 x4).toInt64 := by
  obtain ⟨a, h, h0, h1⟩ := own_c1 x0
  exact own_bb (show (w0_10 x0 x1 x2 x3 x4).toInt = a from h) h0 h1
theorem own_b2 : ¬ (j0_45_10 x0 x1 x2 x3 x4).toInt64 = (0 : Int64) ∧ ¬ (j0_45_10 x0 x1 x2 x3 x4).toInt64 < (1 : Int64) ∧ ¬ (999 : Int64) < (j0_45_10 x0 x1 x2 x3 x4).toInt64 := by
  obtain ⟨a, h, h0, h1⟩ := own_c1 x2
  unfold j0_45_10
  split
  · exact own_bb (show (w0_43 x0 x1 x2 x3 x4).toInt = a from h) h0 h1
  · exact own_b1 x0 x1 x2 x3 x4
theorem own_n1 : ¬ (w0_17 x0 x1 x2 x3 x4) < (0 : Int64) ∧ ¬ (4294967295 : Int64) < (w0_17 x0 x1 x2 x3 x4) := by
  obtain ⟨a, h, h0, h1⟩ := own_c2 x1
  exact own_nn (show (w0_17 x0 x1 x2 x3 x4).toInt = a from h) h0 h1
theorem own_n2 : ¬ (j0_67_11 x0 x1 x2 x3 x4) < (0 : Int64) ∧ ¬ (4294967295 : Int64) < (j0_67_11 x0 x1 x2 x3 x4) := by
  obtain ⟨a, h, h0, h1⟩ := own_c2 x3
  unfold j0_67_11
  split
  · exact own_nn (show (w0_65 x0 x1 x2 x3 x4).toInt = a from h) h0 h1
  · exact own_n1 x0 x1 x2 x3 x4
theorem own_n3 : ¬ (w0_17 x0 x1 x2 x3 x4) < (-128 : Int64) := by
  obtain ⟨a, h, h0, h1⟩ := own_c2 x1
  rw [own_lt64 (show (w0_17 x0 x1 x2 x3 x4).toInt = a from h) (show (-128 : Int64).toInt = -128 by decide)]
  omega
theorem own_r6c (a : Int32) (b : Int64) (a' : Int32) (b' : Int64) : r6 a b a' b' = r6 a' b' a b := by
  unfold r6
  by_cases h : a = a' <;> by_cases k : b = b'
  · subst h k; rfl
  · subst h; rw [if_pos rfl, if_pos rfl, if_neg k, if_neg fun q => k q.symm]
  · subst k; rw [if_neg h, if_neg fun q => h q.symm]
  · rw [if_neg h, if_neg fun q => h q.symm]
theorem own_r6s (a : Int32) (b : Int64) : r6 a b a b = 1 := by unfold r6; rw [if_pos rfl, if_pos rfl]
theorem law_true : r0 x0 x1 x2 x3 x4 = 1 := by
  have e : j0_87_s0 x0 x1 x2 x3 x4 = r6 (w0_10 x0 x1 x2 x3 x4) (w0_17 x0 x1 x2 x3 x4) (j0_45_10 x0 x1 x2 x3 x4) (j0_67_11 x0 x1 x2 x3 x4) := rfl
  have n : ¬ (1 : Int32) = 0 := by decide
  have q1 : j0_155_s0 x0 x1 x2 x3 x4 = 1 := if_pos e.symm
  have q2 : j0_179_s0 x0 x1 x2 x3 x4 = 1 := by unfold j0_179_s0; rw [q1, if_neg n]; exact if_pos ((own_r6c _ _ _ _).trans e.symm)
  have q3 : j0_201_s0 x0 x1 x2 x3 x4 = 1 := by unfold j0_201_s0; rw [q2, if_neg n]; exact if_neg n
  have q4 : j0_223_s0 x0 x1 x2 x3 x4 = 1 := by unfold j0_223_s0; rw [q3, if_neg n, own_r6s]; exact if_neg n
  have q5 : j0_245_s0 x0 x1 x2 x3 x4 = 1 := by unfold j0_245_s0; rw [q4, if_neg n]; exact if_pos rfl
  have q6 : j0_267_s0 x0 x1 x2 x3 x4 = 1 := by unfold j0_267_s0; rw [q5, if_neg n]; exact if_pos rfl
  exact q6
theorem own_nar0 : nar .boolean (j0_267_s0 x0 x1 x2 x3 x4) = j0_267_s0 x0 x1 x2 x3 x4 := by
  have h : j0_267_s0 x0 x1 x2 x3 x4 = 1 := law_true x0 x1 x2 x3 x4
  rw [h]; decide
end
theorem own_len {Z : State} {args : Array Value} {t : Term} {a : Addr} {cl : Cell} (ev : t.eval args Z none [] Z = some (.ref a)) (ha : Z.arrayAt? a = some cl) (h : (Term.length t).eval args Z none [] Z = some (.int 256)) : cl.slots.size = 256 := by
  simp only [Term.eval, ev, ha, Option.bind_eq_bind, Option.bind_some, Option.pure_def] at h
  split at h
  · rename_i q
    have r := Value.int.inj (Option.some.inj h)
    have r2 := congrArg Int32.toInt r
    rw [len_toInt q] at r2
    have : (256 : Int32).toInt = 256 := by decide
    omega
  · cases h
theorem own_jj (i : Nat) (hi : i < 256) : ∃ j : Int32, ¬ j < 0 ∧ j.toNatClampNeg = i := by
  have e : (i.toInt32).toInt = i := len_toInt (by omega)
  refine ⟨i.toInt32, ?_, ?_⟩
  · rw [own_lt32 e (show (0 : Int32).toInt = 0 from rfl)]; omega
  · show (i.toInt32).toInt.toNat = i
    rw [e]; rfl
theorem own_cache {s : State} {args : Array Value} {F : Term} (z1 : (Cond.initializedFor "java/lang/Long$LongCache" "cache" "[Ljava/lang/Long;").before args s = true) (z2 : (Cond.arrayOf (.static "java/lang/Long$LongCache" "cache" "[Ljava/lang/Long;") (.object "java/lang/Long")).value args s none s [] = some true) (z4 : (Cond.eq (.length (.static "java/lang/Long$LongCache" "cache" "[Ljava/lang/Long;")) (.int 256)).value args s none s [] = some true)
    (z5 : (Cond.all (.static "java/lang/Long$LongCache" "cache" "[Ljava/lang/Long;") (.and (.exactly (.elem (.static "java/lang/Long$LongCache" "cache" "[Ljava/lang/Long;") (.index 0)) "java/lang/Long") (.eq (.field (.elem (.static "java/lang/Long$LongCache" "cache" "[Ljava/lang/Long;") (.index 0)) "java/lang/Long" "value" "J") F))).value args s none s [] = some true) :
    ∃ u cu, Sta s s.heap "java/lang/Long$LongCache" "cache" "[Ljava/lang/Long;" (.ref u) ∧ OwnC s s.heap u cu := by
  obtain ⟨u, ev⟩ := arr_v z2
  obtain ⟨cu, A⟩ := Arr.start ev z2
  have af := A.fin (Vm.Alike.refl _)
  have hl := own_len ev af (eqv_i (Term.int_eval (256)) z4)
  refine ⟨u, cu, Sta.start ev (Or.inl z1), A, hl, fun i hi => ?_⟩
  obtain ⟨j, nn, rfl⟩ := own_jj i hi
  obtain ⟨u1, u2⟩ := and_e (Cond.all_elim ev af z5 j.toNatClampNeg (by omega))
  obtain ⟨box, eb⟩ := exa_v u1
  exact ⟨box, (elem_f (show Term.eval args s none [j.toNatClampNeg] s (.static "java/lang/Long$LongCache" "cache" "[Ljava/lang/Long;") = some (.ref u) from ev) (idx_at nn) af nn).symm.trans eb, exa_at eb u1⟩
set_option maxRecDepth 65536 in
set_option maxHeartbeats 40000000 in
theorem rm0 (l : Launch) (Z : State) (a0 : Array Value) (hw : ∀ d ∈ tables_1, d.before a0 Z = true) (ws : List Jvm.Cond) (x0 : Int32) (x1 : Int64) (x2 : Int32) (x3 : Int64) (x4 : Int32) (u : Addr) (cu : Cell) (h0 : Heap) (n0 : Nat) (Z0 : n0 ≤ h0.size) (O0 : Old Z n0 h0) (SC : Sta Z Z.heap "java/lang/Long$LongCache" "cache" "[Ljava/lang/Long;" (.ref u)) (UC : OwnC Z Z.heap u cu) :
    MetFree l x (head1 (Jvm.Cond.code x code maxLocals ret :: ws) room_1) (fun a U => a = #[(.int x0), (.long x1), (.int x2), (.long x3), (.int x4)] ∧ Z.Warmed39 U.vm ∧ U.heap = h0) (fun _ _ _ _ _ => True) (fun _ U o U' => ∃ v L, o = .returned v ∧ (QL (some (.int (r0 x0 x1 x2 x3 x4))) n0) v U'.heap L ∧ FrameEnd U o U' L room_1.cells room_1.slots) := by
  refine MetFree.of_bodySF (plainFor_of_name pn0) hisR ?_
  intro p e s m args below meth c s₁ Bd hml0 hP hK
  obtain ⟨rfl, hZ, hh⟩ := hP
  have hx := Bd.exec
  have hby := Bd.bytes
  have hml : c.maxLocals = 20 := hml0
  have hlk : meth.locks = false := BodyLoose.notSynchronized Bd
  have hown : s.vm.findClass "com/example/marks_across_domains/marksacrossdomains/OrganisationIdEqualsPinLaw" = some m.cls := findClass_of_methodNamed Bd.named
  have hnm := (name_of_methodNamed Bd.named Bd.method).1
  have w_0 := hw _ (List.mem_of_getElem? (i := 0) rfl)
  have w_1 := hw _ (List.mem_of_getElem? (i := 1) rfl)
  have w_2 := hw _ (List.mem_of_getElem? (i := 2) rfl)
  have w_3 := hw _ (List.mem_of_getElem? (i := 3) rfl)
  have w_4 := hw _ (List.mem_of_getElem? (i := 4) rfl)
  have w_5 := hw _ (List.mem_of_getElem? (i := 5) rfl)
  have w_6 := hw _ (List.mem_of_getElem? (i := 6) rfl)
  have w_7 := hw _ (List.mem_of_getElem? (i := 7) rfl)
  have w_17 := hw _ (List.mem_of_getElem? (i := 17) rfl)
  have w_19 := hw _ (List.mem_of_getElem? (i := 19) rfl)
  have w_20 := hw _ (List.mem_of_getElem? (i := 20) rfl)
  have w_21 := hw _ (List.mem_of_getElem? (i := 21) rfl)
  have w_22 := hw _ (List.mem_of_getElem? (i := 22) rfl)
  have w_23 := hw _ (List.mem_of_getElem? (i := 23) rfl)
  have w_28 := hw _ (List.mem_of_getElem? (i := 28) rfl)
  have w_29 := hw _ (List.mem_of_getElem? (i := 29) rfl)
  have w_30 := hw _ (List.mem_of_getElem? (i := 30) rfl)
  have w_31 := hw _ (List.mem_of_getElem? (i := 31) rfl)
  have w_32 := hw _ (List.mem_of_getElem? (i := 32) rfl)
  have hci : ∀ i v, (i, v) ∈ ([(7, 2147483647)] : List (Nat × Int32)) → (Jvm.Cond.constant "com/example/marks_across_domains/marksacrossdomains/OrganisationIdEqualsPinLaw" i v).before #[(.int x0), (.long x1), (.int x2), (.long x3), (.int x4)] s = true := (own_ciS (mvT hZ w_0) own_ci0)
  have hcl : ∀ i v, (i, v) ∈ ([(8, 4294967295)] : List (Nat × Int64)) → (Jvm.Cond.constantLong "com/example/marks_across_domains/marksacrossdomains/OrganisationIdEqualsPinLaw" i v).before #[(.int x0), (.long x1), (.int x2), (.long x3), (.int x4)] s = true := (own_ciS (mvT hZ w_1) own_ci0)
  have X0 : Stand p l e room_1 s m #[(.int x0), (.long x1), (.int x2), (.long x3), (.int x4)] below meth c s₁ [] 0 0 := Stand.of_body Bd
  have e0 : s₁.heap = h0 := by rw [← hh, Bd.state]; rfl
  have N0 := Fr.nil n0
  show Goes p e below s (QL (some (.int (r0 x0 x1 x2 x3 x4))) n0) room_1.cells room_1.slots (s₁.setTop (entryFrame m #[(.int x0), (.long x1), (.int x2), (.long x3), (.int x4)] maxLocals))
  refine Goes.cast (ef0 m x0 x1 x2 x3 x4) ?_
  refine Goes.run X0 hx hown hci hcl hby (L := [(0, .iconst 1, 1), (1, .iload_n 0, 1), (2, .ldc 7, 2), (4, .iand, 1), (5, .sipush 999, 3), (8, .irem, 1)]) (by decide +kernel) rfl (g' := (mkF m 9 #[iv x0, jv x1, .second, iv x2, jv x3, .second, iv x4, .unset, .unset, .unset, .unset, .unset, .unset, .unset, .unset, .unset, .unset, .unset, .unset, .unset] [(.int ((w0_8l x0 x1 x2 x3 x4) - ((w0_8l x0 x1 x2 x3 x4) / (999 : Int32)) * (999 : Int32))), (.int (1 : Int32))])) rfl ?_
  refine Goes.run X0 hx hown hci hcl hby (L := [(9, .iadd, 1), (10, .istore 7, 2), (12, .lload_n 1, 1), (13, .ldc2_w 8, 3), (16, .land, 1), (17, .lstore 8, 2)]) (by decide +kernel) rfl (g' := (mkF m 19 #[iv x0, jv x1, .second, iv x2, jv x3, .second, iv x4, iv (w0_10 x0 x1 x2 x3 x4), jv (w0_17 x0 x1 x2 x3 x4), .second, .unset, .unset, .unset, .unset, .unset, .unset, .unset, .unset, .unset, .unset] [])) rfl ?_
  refine Goes.run X0 hx hown hci hcl hby (L := [(19, .iload 6, 2), (21, .iconst 1, 1), (22, .iand, 1)]) (by decide +kernel) rfl (g' := (mkF m 23 #[iv x0, jv x1, .second, iv x2, jv x3, .second, iv x4, iv (w0_10 x0 x1 x2 x3 x4), jv (w0_17 x0 x1 x2 x3 x4), .second, .unset, .unset, .unset, .unset, .unset, .unset, .unset, .unset, .unset, .unset] [(.int (x4 &&& (1 : Int32)))])) rfl ?_
  have jn45_2 : Goes p e below s (QL (some (.int (r0 x0 x1 x2 x3 x4))) n0) room_1.cells room_1.slots (s₁.setTop (mkF m 45 #[iv x0, jv x1, .second, iv x2, jv x3, .second, iv x4, iv (w0_10 x0 x1 x2 x3 x4), jv (w0_17 x0 x1 x2 x3 x4), .second, iv (j0_45_10 x0 x1 x2 x3 x4), .unset, .unset, .unset, .unset, .unset, .unset, .unset, .unset, .unset] [])) := by
    refine Goes.run X0 hx hown hci hcl hby (L := [(45, .iload 6, 2), (47, .iconst 2, 1), (48, .iand, 1)]) (by decide +kernel) rfl (g' := (mkF m 49 #[iv x0, jv x1, .second, iv x2, jv x3, .second, iv x4, iv (w0_10 x0 x1 x2 x3 x4), jv (w0_17 x0 x1 x2 x3 x4), .second, iv (j0_45_10 x0 x1 x2 x3 x4), .unset, .unset, .unset, .unset, .unset, .unset, .unset, .unset, .unset] [(.int (x4 &&& (2 : Int32)))])) rfl ?_
    have jn67_4 : Goes p e below s (QL (some (.int (r0 x0 x1 x2 x3 x4))) n0) room_1.cells room_1.slots (s₁.setTop (mkF m 67 #[iv x0, jv x1, .second, iv x2, jv x3, .second, iv x4, iv (w0_10 x0 x1 x2 x3 x4), jv (w0_17 x0 x1 x2 x3 x4), .second, iv (j0_45_10 x0 x1 x2 x3 x4), jv (j0_67_11 x0 x1 x2 x3 x4), .second, .unset, .unset, .unset, .unset, .unset, .unset, .unset] [])) := by
      refine Goes.run X0 hx hown hci hcl hby (L := [(67, .iload 7, 2), (69, .iload 10, 2)]) (by decide +kernel) rfl (g' := (mkF m 71 #[iv x0, jv x1, .second, iv x2, jv x3, .second, iv x4, iv (w0_10 x0 x1 x2 x3 x4), jv (w0_17 x0 x1 x2 x3 x4), .second, iv (j0_45_10 x0 x1 x2 x3 x4), jv (j0_67_11 x0 x1 x2 x3 x4), .second, .unset, .unset, .unset, .unset, .unset, .unset, .unset] [(.int (j0_45_10 x0 x1 x2 x3 x4)), (.int (w0_10 x0 x1 x2 x3 x4))])) rfl ?_
      have jn87_7 : Goes p e below s (QL (some (.int (r0 x0 x1 x2 x3 x4))) n0) room_1.cells room_1.slots (s₁.setTop (mkF m 87 #[iv x0, jv x1, .second, iv x2, jv x3, .second, iv x4, iv (w0_10 x0 x1 x2 x3 x4), jv (w0_17 x0 x1 x2 x3 x4), .second, iv (j0_45_10 x0 x1 x2 x3 x4), jv (j0_67_11 x0 x1 x2 x3 x4), .second, .unset, .unset, .unset, .unset, .unset, .unset, .unset] [(.int (j0_87_s0 x0 x1 x2 x3 x4))])) := by
        refine Goes.run X0 hx hown hci hcl hby (L := [(87, .istore 13, 2)]) (by decide +kernel) rfl (g' := (mkF m 89 #[iv x0, jv x1, .second, iv x2, jv x3, .second, iv x4, iv (w0_10 x0 x1 x2 x3 x4), jv (w0_17 x0 x1 x2 x3 x4), .second, iv (j0_45_10 x0 x1 x2 x3 x4), jv (j0_67_11 x0 x1 x2 x3 x4), .second, iv (j0_87_s0 x0 x1 x2 x3 x4), .unset, .unset, .unset, .unset, .unset, .unset] [])) rfl ?_
        obtain ⟨T8, h8, X8, e8, E8, A8, D8, -, st8⟩ := newO X0 hx hZ hown w_2 w_3 w_4 e0 (g := (mkF m 89 #[iv x0, jv x1, .second, iv x2, jv x3, .second, iv x4, iv (w0_10 x0 x1 x2 x3 x4), jv (w0_17 x0 x1 x2 x3 x4), .second, iv (j0_45_10 x0 x1 x2 x3 x4), jv (j0_67_11 x0 x1 x2 x3 x4), .second, iv (j0_87_s0 x0 x1 x2 x3 x4), .unset, .unset, .unset, .unset, .unset, .unset] [])) rfl (hb hby at_89) (by decide) (by decide)
        obtain ⟨b8, g8⟩ : ∃ z, z = h0.size := ⟨_, rfl⟩
        rw [← g8] at A8 D8 st8
        have g_b8 : n0 ≤ b8 := Nat.le_trans Z0 (Nat.le_of_eq g8.symm)
        have Zn8 : n0 ≤ h8.size := Nat.le_trans Z0 E8.1
        have O8 := O0.ext E8
        have E_b8 : Exa Z h8 b8 "com/example/marks_across_domains/marksacrossdomains/OrganisationId" := A8
        have F_country_b8 : Fld Z h8 b8 "com/example/marks_across_domains/marksacrossdomains/OrganisationId" "country" "I" (.int (0 : Int32)) := D8 (Or.inr w_17) (ty := .int) (by decide)
        have F_number_b8 : Fld Z h8 b8 "com/example/marks_across_domains/marksacrossdomains/OrganisationId" "number" "J" (.long (0 : Int64)) := D8 (Or.inr w_19) (ty := .long) (by decide)
        refine Goes.st (B := T8.setTop (mkF m 92 #[iv x0, jv x1, .second, iv x2, jv x3, .second, iv x4, iv (w0_10 x0 x1 x2 x3 x4), jv (w0_17 x0 x1 x2 x3 x4), .second, iv (j0_45_10 x0 x1 x2 x3 x4), jv (j0_67_11 x0 x1 x2 x3 x4), .second, iv (j0_87_s0 x0 x1 x2 x3 x4), .unset, .unset, .unset, .unset, .unset, .unset] [(.ref b8)])) st8 ?_
        refine Goes.run X8 hx hown hci hcl hby (L := [(92, .dup, 1), (93, .iload 7, 2), (95, .lload 8, 2)]) (by decide +kernel) rfl (g' := (mkF m 97 #[iv x0, jv x1, .second, iv x2, jv x3, .second, iv x4, iv (w0_10 x0 x1 x2 x3 x4), jv (w0_17 x0 x1 x2 x3 x4), .second, iv (j0_45_10 x0 x1 x2 x3 x4), jv (j0_67_11 x0 x1 x2 x3 x4), .second, iv (j0_87_s0 x0 x1 x2 x3 x4), .unset, .unset, .unset, .unset, .unset, .unset] [(.long (w0_17 x0 x1 x2 x3 x4)), (.int (w0_10 x0 x1 x2 x3 x4)), (.ref b8), (.ref b8)])) rfl ?_
        obtain ⟨_, _, ⟨T9, L9, k9, n9⟩, -, X9, ⟨Lc9, hQ9, l9, y9, z9⟩, st9⟩ := X8.specialBack hx (y := ym1) rfl hown (mvT hZ w_5) (mvT hZ w_6) (mvT hZ w_7) (by decide) (backOf (W := 1) (rm2 l Z a0 hw [] b8 (w0_10 x0 x1 x2 x3 x4) (w0_17 x0 x1 x2 x3 x4) h8 n0 Zn8 E_b8 F_country_b8 F_number_b8 g_b8 (own_b1 x0 x1 x2 x3 x4).1 (own_b1 x0 x1 x2 x3 x4).2.1 (own_b1 x0 x1 x2 x3 x4).2.2 (own_n1 x0 x1 x2 x3 x4).1 (own_n1 x0 x1 x2 x3 x4).2) hZ w_7 w_4 (by decide) (by decide)) (g := (mkF m 97 #[iv x0, jv x1, .second, iv x2, jv x3, .second, iv x4, iv (w0_10 x0 x1 x2 x3 x4), jv (w0_17 x0 x1 x2 x3 x4), .second, iv (j0_45_10 x0 x1 x2 x3 x4), jv (j0_67_11 x0 x1 x2 x3 x4), .second, iv (j0_87_s0 x0 x1 x2 x3 x4), .unset, .unset, .unset, .unset, .unset, .unset] [(.long (w0_17 x0 x1 x2 x3 x4)), (.int (w0_10 x0 x1 x2 x3 x4)), (.ref b8), (.ref b8)])) rfl (by rw [hml]; rfl) (Steps.refl _) (a := b8) (argsL := [(.int (w0_10 x0 x1 x2 x3 x4)), (.long (w0_17 x0 x1 x2 x3 x4))]) (rest := [(.ref b8)]) (lenOf pd0_0 rfl) rfl (by show 2 * 0 + _ ≤ _; exact Nat.le_of_eq rfl) (hb hby at_97) (fun _ _ => ⟨rfl, e8, (by decide : 1 + 0 ≤ _), (by decide : 2 + 0 ≤ _)⟩)
        dsimp only [Pt.U, Pt.locs, Pt.cells, Pt.slots] at X9 l9 y9 z9 st9 hQ9
        subst l9 y9 z9
        obtain ⟨h9, eh9⟩ : ∃ z, z = T9.heap := ⟨_, rfl⟩
        rw [← eh9] at hQ9
        have e9 : T9.heap = h9 := eh9.symm
        obtain ⟨rfl, N9q, Kq9, o9_0, o9_1⟩ := hQ9
        have N9 := Fr.app N0 N9q
        have E_b8 := E_b8.keep Kq9
        have F_country_b8 : Fld Z h9 b8 "com/example/marks_across_domains/marksacrossdomains/OrganisationId" "country" "I" (.int (w0_10 x0 x1 x2 x3 x4)) := o9_0
        have F_number_b8 : Fld Z h9 b8 "com/example/marks_across_domains/marksacrossdomains/OrganisationId" "number" "J" (.long (w0_17 x0 x1 x2 x3 x4)) := o9_1
        have Zn9 : n0 ≤ h9.size := Nat.le_trans Zn8 Kq9.1
        have O9 := O8.keep Kq9 (allS g_b8 all0)
        refine Goes.st (B := T9.setTop (mkF m 100 #[iv x0, jv x1, .second, iv x2, jv x3, .second, iv x4, iv (w0_10 x0 x1 x2 x3 x4), jv (w0_17 x0 x1 x2 x3 x4), .second, iv (j0_45_10 x0 x1 x2 x3 x4), jv (j0_67_11 x0 x1 x2 x3 x4), .second, iv (j0_87_s0 x0 x1 x2 x3 x4), .unset, .unset, .unset, .unset, .unset, .unset] [(.ref b8)])) (fun t k => st9.trans k) ?_
        refine Goes.run X9 hx hown hci hcl hby (L := [(100, .astore 14, 2)]) (by decide +kernel) rfl (g' := (mkF m 102 #[iv x0, jv x1, .second, iv x2, jv x3, .second, iv x4, iv (w0_10 x0 x1 x2 x3 x4), jv (w0_17 x0 x1 x2 x3 x4), .second, iv (j0_45_10 x0 x1 x2 x3 x4), jv (j0_67_11 x0 x1 x2 x3 x4), .second, iv (j0_87_s0 x0 x1 x2 x3 x4), rv b8, .unset, .unset, .unset, .unset, .unset] [])) rfl ?_
        obtain ⟨T10, h10, X10, e10, E10, A10, D10, -, st10⟩ := newO X9 hx hZ hown w_2 w_3 w_4 e9 (g := (mkF m 102 #[iv x0, jv x1, .second, iv x2, jv x3, .second, iv x4, iv (w0_10 x0 x1 x2 x3 x4), jv (w0_17 x0 x1 x2 x3 x4), .second, iv (j0_45_10 x0 x1 x2 x3 x4), jv (j0_67_11 x0 x1 x2 x3 x4), .second, iv (j0_87_s0 x0 x1 x2 x3 x4), rv b8, .unset, .unset, .unset, .unset, .unset] [])) rfl (hb hby at_102) (by decide) (by decide)
        obtain ⟨b10, g10⟩ : ∃ z, z = h9.size := ⟨_, rfl⟩
        rw [← g10] at A10 D10 st10
        have ne_b8_b10 : b8 ≠ b10 := Nat.ne_of_lt (Nat.lt_of_lt_of_le E_b8.lt (Nat.le_of_eq g10.symm))
        have g_b10 : n0 ≤ b10 := Nat.le_trans Zn9 (Nat.le_of_eq g10.symm)
        have E_b8 := E_b8.ext E10
        have F_country_b8 := F_country_b8.ext E10
        have F_number_b8 := F_number_b8.ext E10
        have Zn10 : n0 ≤ h10.size := Nat.le_trans Zn9 E10.1
        have O10 := O9.ext E10
        have E_b10 : Exa Z h10 b10 "com/example/marks_across_domains/marksacrossdomains/OrganisationId" := A10
        have F_country_b10 : Fld Z h10 b10 "com/example/marks_across_domains/marksacrossdomains/OrganisationId" "country" "I" (.int (0 : Int32)) := D10 (Or.inr w_17) (ty := .int) (by decide)
        have F_number_b10 : Fld Z h10 b10 "com/example/marks_across_domains/marksacrossdomains/OrganisationId" "number" "J" (.long (0 : Int64)) := D10 (Or.inr w_19) (ty := .long) (by decide)
        refine Goes.st (B := T10.setTop (mkF m 105 #[iv x0, jv x1, .second, iv x2, jv x3, .second, iv x4, iv (w0_10 x0 x1 x2 x3 x4), jv (w0_17 x0 x1 x2 x3 x4), .second, iv (j0_45_10 x0 x1 x2 x3 x4), jv (j0_67_11 x0 x1 x2 x3 x4), .second, iv (j0_87_s0 x0 x1 x2 x3 x4), rv b8, .unset, .unset, .unset, .unset, .unset] [(.ref b10)])) st10 ?_
        refine Goes.run X10 hx hown hci hcl hby (L := [(105, .dup, 1), (106, .iload 10, 2), (108, .lload 11, 2)]) (by decide +kernel) rfl (g' := (mkF m 110 #[iv x0, jv x1, .second, iv x2, jv x3, .second, iv x4, iv (w0_10 x0 x1 x2 x3 x4), jv (w0_17 x0 x1 x2 x3 x4), .second, iv (j0_45_10 x0 x1 x2 x3 x4), jv (j0_67_11 x0 x1 x2 x3 x4), .second, iv (j0_87_s0 x0 x1 x2 x3 x4), rv b8, .unset, .unset, .unset, .unset, .unset] [(.long (j0_67_11 x0 x1 x2 x3 x4)), (.int (j0_45_10 x0 x1 x2 x3 x4)), (.ref b10), (.ref b10)])) rfl ?_
        obtain ⟨_, _, ⟨T11, L11, k11, n11⟩, -, X11, ⟨Lc11, hQ11, l11, y11, z11⟩, st11⟩ := X10.specialBack hx (y := ym1) rfl hown (mvT hZ w_5) (mvT hZ w_6) (mvT hZ w_7) (by decide) (backOf (W := 1) (rm2 l Z a0 hw [] b10 (j0_45_10 x0 x1 x2 x3 x4) (j0_67_11 x0 x1 x2 x3 x4) h10 n0 Zn10 E_b10 F_country_b10 F_number_b10 g_b10 (own_b2 x0 x1 x2 x3 x4).1 (own_b2 x0 x1 x2 x3 x4).2.1 (own_b2 x0 x1 x2 x3 x4).2.2 (own_n2 x0 x1 x2 x3 x4).1 (own_n2 x0 x1 x2 x3 x4).2) hZ w_7 w_4 (by decide) (by decide)) (g := (mkF m 110 #[iv x0, jv x1, .second, iv x2, jv x3, .second, iv x4, iv (w0_10 x0 x1 x2 x3 x4), jv (w0_17 x0 x1 x2 x3 x4), .second, iv (j0_45_10 x0 x1 x2 x3 x4), jv (j0_67_11 x0 x1 x2 x3 x4), .second, iv (j0_87_s0 x0 x1 x2 x3 x4), rv b8, .unset, .unset, .unset, .unset, .unset] [(.long (j0_67_11 x0 x1 x2 x3 x4)), (.int (j0_45_10 x0 x1 x2 x3 x4)), (.ref b10), (.ref b10)])) rfl (by rw [hml]; rfl) (Steps.refl _) (a := b10) (argsL := [(.int (j0_45_10 x0 x1 x2 x3 x4)), (.long (j0_67_11 x0 x1 x2 x3 x4))]) (rest := [(.ref b10)]) (lenOf pd0_0 rfl) rfl (by show 2 * 0 + _ ≤ _; exact Nat.le_of_eq rfl) (hb hby at_110) (fun _ _ => ⟨rfl, e10, (by decide : 2 + 0 ≤ _), (by decide : 4 + 0 ≤ _)⟩)
        dsimp only [Pt.U, Pt.locs, Pt.cells, Pt.slots] at X11 l11 y11 z11 st11 hQ11
        subst l11 y11 z11
        obtain ⟨h11, eh11⟩ : ∃ z, z = T11.heap := ⟨_, rfl⟩
        rw [← eh11] at hQ11
        have e11 : T11.heap = h11 := eh11.symm
        obtain ⟨rfl, N11q, Kq11, o11_0, o11_1⟩ := hQ11
        have N11 := Fr.app N9 N11q
        have E_b8 := E_b8.keep Kq11
        have F_country_b8 := F_country_b8.keep Kq11 (ninS ne_b8_b10 nin0)
        have F_number_b8 := F_number_b8.keep Kq11 (ninS ne_b8_b10 nin0)
        have E_b10 := E_b10.keep Kq11
        have F_country_b10 : Fld Z h11 b10 "com/example/marks_across_domains/marksacrossdomains/OrganisationId" "country" "I" (.int (j0_45_10 x0 x1 x2 x3 x4)) := o11_0
        have F_number_b10 : Fld Z h11 b10 "com/example/marks_across_domains/marksacrossdomains/OrganisationId" "number" "J" (.long (j0_67_11 x0 x1 x2 x3 x4)) := o11_1
        have Zn11 : n0 ≤ h11.size := Nat.le_trans Zn10 Kq11.1
        have O11 := O10.keep Kq11 (allS g_b10 all0)
        refine Goes.st (B := T11.setTop (mkF m 113 #[iv x0, jv x1, .second, iv x2, jv x3, .second, iv x4, iv (w0_10 x0 x1 x2 x3 x4), jv (w0_17 x0 x1 x2 x3 x4), .second, iv (j0_45_10 x0 x1 x2 x3 x4), jv (j0_67_11 x0 x1 x2 x3 x4), .second, iv (j0_87_s0 x0 x1 x2 x3 x4), rv b8, .unset, .unset, .unset, .unset, .unset] [(.ref b10)])) (fun t k => st11.trans k) ?_
        refine Goes.run X11 hx hown hci hcl hby (L := [(113, .astore 15, 2)]) (by decide +kernel) rfl (g' := (mkF m 115 #[iv x0, jv x1, .second, iv x2, jv x3, .second, iv x4, iv (w0_10 x0 x1 x2 x3 x4), jv (w0_17 x0 x1 x2 x3 x4), .second, iv (j0_45_10 x0 x1 x2 x3 x4), jv (j0_67_11 x0 x1 x2 x3 x4), .second, iv (j0_87_s0 x0 x1 x2 x3 x4), rv b8, rv b10, .unset, .unset, .unset, .unset] [])) rfl ?_
        obtain ⟨T12, h12, X12, e12, E12, A12, D12, -, st12⟩ := newO X11 hx hZ hown w_2 w_3 w_4 e11 (g := (mkF m 115 #[iv x0, jv x1, .second, iv x2, jv x3, .second, iv x4, iv (w0_10 x0 x1 x2 x3 x4), jv (w0_17 x0 x1 x2 x3 x4), .second, iv (j0_45_10 x0 x1 x2 x3 x4), jv (j0_67_11 x0 x1 x2 x3 x4), .second, iv (j0_87_s0 x0 x1 x2 x3 x4), rv b8, rv b10, .unset, .unset, .unset, .unset] [])) rfl (hb hby at_115) (by decide) (by decide)
        obtain ⟨b12, g12⟩ : ∃ z, z = h11.size := ⟨_, rfl⟩
        rw [← g12] at A12 D12 st12
        have ne_b8_b12 : b8 ≠ b12 := Nat.ne_of_lt (Nat.lt_of_lt_of_le E_b8.lt (Nat.le_of_eq g12.symm))
        have ne_b10_b12 : b10 ≠ b12 := Nat.ne_of_lt (Nat.lt_of_lt_of_le E_b10.lt (Nat.le_of_eq g12.symm))
        have g_b12 : n0 ≤ b12 := Nat.le_trans Zn11 (Nat.le_of_eq g12.symm)
        have E_b8 := E_b8.ext E12
        have F_country_b8 := F_country_b8.ext E12
        have F_number_b8 := F_number_b8.ext E12
        have E_b10 := E_b10.ext E12
        have F_country_b10 := F_country_b10.ext E12
        have F_number_b10 := F_number_b10.ext E12
        have Zn12 : n0 ≤ h12.size := Nat.le_trans Zn11 E12.1
        have O12 := O11.ext E12
        have E_b12 : Exa Z h12 b12 "com/example/marks_across_domains/marksacrossdomains/OrganisationId" := A12
        have F_country_b12 : Fld Z h12 b12 "com/example/marks_across_domains/marksacrossdomains/OrganisationId" "country" "I" (.int (0 : Int32)) := D12 (Or.inr w_17) (ty := .int) (by decide)
        have F_number_b12 : Fld Z h12 b12 "com/example/marks_across_domains/marksacrossdomains/OrganisationId" "number" "J" (.long (0 : Int64)) := D12 (Or.inr w_19) (ty := .long) (by decide)
        refine Goes.st (B := T12.setTop (mkF m 118 #[iv x0, jv x1, .second, iv x2, jv x3, .second, iv x4, iv (w0_10 x0 x1 x2 x3 x4), jv (w0_17 x0 x1 x2 x3 x4), .second, iv (j0_45_10 x0 x1 x2 x3 x4), jv (j0_67_11 x0 x1 x2 x3 x4), .second, iv (j0_87_s0 x0 x1 x2 x3 x4), rv b8, rv b10, .unset, .unset, .unset, .unset] [(.ref b12)])) st12 ?_
        refine Goes.run X12 hx hown hci hcl hby (L := [(118, .dup, 1), (119, .iload 7, 2), (121, .lload 8, 2)]) (by decide +kernel) rfl (g' := (mkF m 123 #[iv x0, jv x1, .second, iv x2, jv x3, .second, iv x4, iv (w0_10 x0 x1 x2 x3 x4), jv (w0_17 x0 x1 x2 x3 x4), .second, iv (j0_45_10 x0 x1 x2 x3 x4), jv (j0_67_11 x0 x1 x2 x3 x4), .second, iv (j0_87_s0 x0 x1 x2 x3 x4), rv b8, rv b10, .unset, .unset, .unset, .unset] [(.long (w0_17 x0 x1 x2 x3 x4)), (.int (w0_10 x0 x1 x2 x3 x4)), (.ref b12), (.ref b12)])) rfl ?_
        obtain ⟨_, _, ⟨T13, L13, k13, n13⟩, -, X13, ⟨Lc13, hQ13, l13, y13, z13⟩, st13⟩ := X12.specialBack hx (y := ym1) rfl hown (mvT hZ w_5) (mvT hZ w_6) (mvT hZ w_7) (by decide) (backOf (W := 1) (rm2 l Z a0 hw [] b12 (w0_10 x0 x1 x2 x3 x4) (w0_17 x0 x1 x2 x3 x4) h12 n0 Zn12 E_b12 F_country_b12 F_number_b12 g_b12 (own_b1 x0 x1 x2 x3 x4).1 (own_b1 x0 x1 x2 x3 x4).2.1 (own_b1 x0 x1 x2 x3 x4).2.2 (own_n1 x0 x1 x2 x3 x4).1 (own_n1 x0 x1 x2 x3 x4).2) hZ w_7 w_4 (by decide) (by decide)) (g := (mkF m 123 #[iv x0, jv x1, .second, iv x2, jv x3, .second, iv x4, iv (w0_10 x0 x1 x2 x3 x4), jv (w0_17 x0 x1 x2 x3 x4), .second, iv (j0_45_10 x0 x1 x2 x3 x4), jv (j0_67_11 x0 x1 x2 x3 x4), .second, iv (j0_87_s0 x0 x1 x2 x3 x4), rv b8, rv b10, .unset, .unset, .unset, .unset] [(.long (w0_17 x0 x1 x2 x3 x4)), (.int (w0_10 x0 x1 x2 x3 x4)), (.ref b12), (.ref b12)])) rfl (by rw [hml]; rfl) (Steps.refl _) (a := b12) (argsL := [(.int (w0_10 x0 x1 x2 x3 x4)), (.long (w0_17 x0 x1 x2 x3 x4))]) (rest := [(.ref b12)]) (lenOf pd0_0 rfl) rfl (by show 2 * 0 + _ ≤ _; exact Nat.le_of_eq rfl) (hb hby at_123) (fun _ _ => ⟨rfl, e12, (by decide : 3 + 0 ≤ _), (by decide : 6 + 0 ≤ _)⟩)
        dsimp only [Pt.U, Pt.locs, Pt.cells, Pt.slots] at X13 l13 y13 z13 st13 hQ13
        subst l13 y13 z13
        obtain ⟨h13, eh13⟩ : ∃ z, z = T13.heap := ⟨_, rfl⟩
        rw [← eh13] at hQ13
        have e13 : T13.heap = h13 := eh13.symm
        obtain ⟨rfl, N13q, Kq13, o13_0, o13_1⟩ := hQ13
        have N13 := Fr.app N11 N13q
        have E_b8 := E_b8.keep Kq13
        have F_country_b8 := F_country_b8.keep Kq13 (ninS ne_b8_b12 nin0)
        have F_number_b8 := F_number_b8.keep Kq13 (ninS ne_b8_b12 nin0)
        have E_b10 := E_b10.keep Kq13
        have F_country_b10 := F_country_b10.keep Kq13 (ninS ne_b10_b12 nin0)
        have F_number_b10 := F_number_b10.keep Kq13 (ninS ne_b10_b12 nin0)
        have E_b12 := E_b12.keep Kq13
        have F_country_b12 : Fld Z h13 b12 "com/example/marks_across_domains/marksacrossdomains/OrganisationId" "country" "I" (.int (w0_10 x0 x1 x2 x3 x4)) := o13_0
        have F_number_b12 : Fld Z h13 b12 "com/example/marks_across_domains/marksacrossdomains/OrganisationId" "number" "J" (.long (w0_17 x0 x1 x2 x3 x4)) := o13_1
        have Zn13 : n0 ≤ h13.size := Nat.le_trans Zn12 Kq13.1
        have O13 := O12.keep Kq13 (allS g_b12 all0)
        refine Goes.st (B := T13.setTop (mkF m 126 #[iv x0, jv x1, .second, iv x2, jv x3, .second, iv x4, iv (w0_10 x0 x1 x2 x3 x4), jv (w0_17 x0 x1 x2 x3 x4), .second, iv (j0_45_10 x0 x1 x2 x3 x4), jv (j0_67_11 x0 x1 x2 x3 x4), .second, iv (j0_87_s0 x0 x1 x2 x3 x4), rv b8, rv b10, .unset, .unset, .unset, .unset] [(.ref b12)])) (fun t k => st13.trans k) ?_
        refine Goes.run X13 hx hown hci hcl hby (L := [(126, .astore 16, 2), (128, .aconst_null, 1), (129, .astore 17, 2), (131, .lload 8, 2)]) (by decide +kernel) rfl (g' := (mkF m 133 #[iv x0, jv x1, .second, iv x2, jv x3, .second, iv x4, iv (w0_10 x0 x1 x2 x3 x4), jv (w0_17 x0 x1 x2 x3 x4), .second, iv (j0_45_10 x0 x1 x2 x3 x4), jv (j0_67_11 x0 x1 x2 x3 x4), .second, iv (j0_87_s0 x0 x1 x2 x3 x4), rv b8, rv b10, rv b12, .val .null, .unset, .unset] [(.long (w0_17 x0 x1 x2 x3 x4))])) rfl ?_
        obtain ⟨_, _, ⟨T14, L14, k14, n14⟩, -, X14, ⟨Lc14, hQ14, l14, y14, z14⟩, st14⟩ := Jvm.LawKit.callS X13 hx (y := ym4) hown (mvT hZ w_20) (mvT hZ w_21) (mvT hZ w_22) (mvT hZ w_23) (by decide) (backOf (W := 0) (rm5 l Z a0 hw [] (w0_17 x0 x1 x2 x3 x4) u cu h13 n0 Zn13 (SC.ext O13.2) (UC.ext O13.2) (own_n3 x0 x1 x2 x3 x4)) hZ w_23 w_22 (by decide) (by decide)) (g := (mkF m 133 #[iv x0, jv x1, .second, iv x2, jv x3, .second, iv x4, iv (w0_10 x0 x1 x2 x3 x4), jv (w0_17 x0 x1 x2 x3 x4), .second, iv (j0_45_10 x0 x1 x2 x3 x4), jv (j0_67_11 x0 x1 x2 x3 x4), .second, iv (j0_87_s0 x0 x1 x2 x3 x4), rv b8, rv b10, rv b12, .val .null, .unset, .unset] [(.long (w0_17 x0 x1 x2 x3 x4))])) rfl (by rw [hml]; rfl) (argsL := [(.long (w0_17 x0 x1 x2 x3 x4))]) (rest := []) (lenOf pd0_1 rfl) rfl (by show 2 * 0 + _ ≤ _; exact Nat.le_of_eq rfl) (hb hby at_133) (fun _ _ => ⟨rfl, e13, (by decide : 3 + 1 ≤ _), (by decide : 6 + 1 ≤ _)⟩)
        dsimp only [Pt.U, Pt.locs, Pt.cells, Pt.slots] at X14 l14 y14 z14 st14 hQ14
        subst l14 y14 z14
        obtain ⟨h14, eh14⟩ : ∃ z, z = T14.heap := ⟨_, rfl⟩
        rw [← eh14] at hQ14
        have e14 : T14.heap = h14 := eh14.symm
        obtain ⟨b14, rfl, N14q, Kq14, E_b14⟩ := hQ14
        have N14 := Fr.app N13 N14q
        have E_b8 := E_b8.keep Kq14
        have F_country_b8 := F_country_b8.keep Kq14 nin0
        have F_number_b8 := F_number_b8.keep Kq14 nin0
        have E_b10 := E_b10.keep Kq14
        have F_country_b10 := F_country_b10.keep Kq14 nin0
        have F_number_b10 := F_number_b10.keep Kq14 nin0
        have E_b12 := E_b12.keep Kq14
        have F_country_b12 := F_country_b12.keep Kq14 nin0
        have F_number_b12 := F_number_b12.keep Kq14 nin0
        have Zn14 : n0 ≤ h14.size := Nat.le_trans Zn13 Kq14.1
        have O14 := O13.keep Kq14 all0
        have ne_b8_b14 : b8 ≠ b14 := Exa.ne E_b8 E_b14 (by decide)
        have ne_b10_b14 : b10 ≠ b14 := Exa.ne E_b10 E_b14 (by decide)
        have ne_b12_b14 : b12 ≠ b14 := Exa.ne E_b12 E_b14 (by decide)
        refine Goes.st (B := T14.setTop (mkF m 136 #[iv x0, jv x1, .second, iv x2, jv x3, .second, iv x4, iv (w0_10 x0 x1 x2 x3 x4), jv (w0_17 x0 x1 x2 x3 x4), .second, iv (j0_45_10 x0 x1 x2 x3 x4), jv (j0_67_11 x0 x1 x2 x3 x4), .second, iv (j0_87_s0 x0 x1 x2 x3 x4), rv b8, rv b10, rv b12, .val .null, .unset, .unset] [(.ref b14)])) st14 ?_
        refine Goes.run X14 hx hown hci hcl hby (L := [(136, .astore 18, 2), (138, .aload 14, 2), (140, .aload 15, 2)]) (by decide +kernel) rfl (g' := (mkF m 142 #[iv x0, jv x1, .second, iv x2, jv x3, .second, iv x4, iv (w0_10 x0 x1 x2 x3 x4), jv (w0_17 x0 x1 x2 x3 x4), .second, iv (j0_45_10 x0 x1 x2 x3 x4), jv (j0_67_11 x0 x1 x2 x3 x4), .second, iv (j0_87_s0 x0 x1 x2 x3 x4), rv b8, rv b10, rv b12, .val .null, rv b14, .unset] [(.ref b10), (.ref b8)])) rfl ?_
        obtain ⟨cq15, kq15, q15a, q15b, q15c⟩ := isOf hZ e14 E_b8
        obtain ⟨_, _, ⟨T15, L15, k15, n15⟩, -, X15, ⟨Lc15, hQ15, l15, y15, z15⟩, st15⟩ := X14.virtualBack hx (y := ym5) (z := ym5) hown (mvT hZ w_28) (mvT hZ w_29) (notFace_of_selects (args := #[]) (mvT hZ w_31)) (mvT hZ w_31) (mvT hZ w_30) (by decide) (backOf (W := 0) (rm6 l Z a0 hw [] b8 b10 (w0_10 x0 x1 x2 x3 x4) (w0_17 x0 x1 x2 x3 x4) (j0_45_10 x0 x1 x2 x3 x4) (j0_67_11 x0 x1 x2 x3 x4) h14 n0 Zn14 E_b8 F_country_b8 F_number_b8 E_b10 F_country_b10 F_number_b10 ne_b8_b10) hZ w_32 w_4 (by decide) (by decide)) q15a q15c (g := (mkF m 142 #[iv x0, jv x1, .second, iv x2, jv x3, .second, iv x4, iv (w0_10 x0 x1 x2 x3 x4), jv (w0_17 x0 x1 x2 x3 x4), .second, iv (j0_45_10 x0 x1 x2 x3 x4), jv (j0_67_11 x0 x1 x2 x3 x4), .second, iv (j0_87_s0 x0 x1 x2 x3 x4), rv b8, rv b10, rv b12, .val .null, rv b14, .unset] [(.ref b10), (.ref b8)])) rfl (by rw [hml]; rfl) (Steps.refl _) (argsL := [(.ref b10)]) (rest := []) (lenOf pd0_2 rfl) rfl (by show 2 * 0 + _ ≤ _; exact Nat.le_of_eq rfl) (hb hby at_142) (fun _ _ => ⟨rfl, e14, (by decide : 4 + 0 ≤ _), (by decide : 7 + 0 ≤ _)⟩)
        dsimp only [Pt.U, Pt.locs, Pt.cells, Pt.slots] at X15 l15 y15 z15 st15 hQ15
        subst l15 y15 z15
        obtain ⟨rfl, N15q, e15⟩ := hQ15
        have N15 := Fr.app N14 N15q
        refine Goes.st (B := T15.setTop (mkF m 145 #[iv x0, jv x1, .second, iv x2, jv x3, .second, iv x4, iv (w0_10 x0 x1 x2 x3 x4), jv (w0_17 x0 x1 x2 x3 x4), .second, iv (j0_45_10 x0 x1 x2 x3 x4), jv (j0_67_11 x0 x1 x2 x3 x4), .second, iv (j0_87_s0 x0 x1 x2 x3 x4), rv b8, rv b10, rv b12, .val .null, rv b14, .unset] [(.int (r6 (w0_10 x0 x1 x2 x3 x4) (w0_17 x0 x1 x2 x3 x4) (j0_45_10 x0 x1 x2 x3 x4) (j0_67_11 x0 x1 x2 x3 x4)))])) (fun t k => st15.trans k) ?_
        refine Goes.run X15 hx hown hci hcl hby (L := [(145, .iload 13, 2)]) (by decide +kernel) rfl (g' := (mkF m 147 #[iv x0, jv x1, .second, iv x2, jv x3, .second, iv x4, iv (w0_10 x0 x1 x2 x3 x4), jv (w0_17 x0 x1 x2 x3 x4), .second, iv (j0_45_10 x0 x1 x2 x3 x4), jv (j0_67_11 x0 x1 x2 x3 x4), .second, iv (j0_87_s0 x0 x1 x2 x3 x4), rv b8, rv b10, rv b12, .val .null, rv b14, .unset] [(.int (j0_87_s0 x0 x1 x2 x3 x4)), (.int (r6 (w0_10 x0 x1 x2 x3 x4) (w0_17 x0 x1 x2 x3 x4) (j0_45_10 x0 x1 x2 x3 x4) (j0_67_11 x0 x1 x2 x3 x4)))])) rfl ?_
        have jn155_17 : Goes p e below s (QL (some (.int (r0 x0 x1 x2 x3 x4))) n0) room_1.cells room_1.slots (T15.setTop (mkF m 155 #[iv x0, jv x1, .second, iv x2, jv x3, .second, iv x4, iv (w0_10 x0 x1 x2 x3 x4), jv (w0_17 x0 x1 x2 x3 x4), .second, iv (j0_45_10 x0 x1 x2 x3 x4), jv (j0_67_11 x0 x1 x2 x3 x4), .second, iv (j0_87_s0 x0 x1 x2 x3 x4), rv b8, rv b10, rv b12, .val .null, rv b14, .unset] [(.int (j0_155_s0 x0 x1 x2 x3 x4))])) := by
          refine Goes.run X15 hx hown hci hcl hby (L := [(155, .istore 19, 2), (157, .iload 19, 2)]) (by decide +kernel) rfl (g' := (mkF m 159 #[iv x0, jv x1, .second, iv x2, jv x3, .second, iv x4, iv (w0_10 x0 x1 x2 x3 x4), jv (w0_17 x0 x1 x2 x3 x4), .second, iv (j0_45_10 x0 x1 x2 x3 x4), jv (j0_67_11 x0 x1 x2 x3 x4), .second, iv (j0_87_s0 x0 x1 x2 x3 x4), rv b8, rv b10, rv b12, .val .null, rv b14, iv (j0_155_s0 x0 x1 x2 x3 x4)] [(.int (j0_155_s0 x0 x1 x2 x3 x4))])) rfl ?_
          have jn179_21 : ∀ (T22 : State) (L22 : List Loc) (X22 : Stand p l e room_1 s m #[(.int x0), (.long x1), (.int x2), (.long x3), (.int x4)] below meth c T22 L22 4 7) (e22 : T22.heap = h14) (N22 : Fr n0 L22), Goes p e below s (QL (some (.int (r0 x0 x1 x2 x3 x4))) n0) room_1.cells room_1.slots (T22.setTop (mkF m 179 #[iv x0, jv x1, .second, iv x2, jv x3, .second, iv x4, iv (w0_10 x0 x1 x2 x3 x4), jv (w0_17 x0 x1 x2 x3 x4), .second, iv (j0_45_10 x0 x1 x2 x3 x4), jv (j0_67_11 x0 x1 x2 x3 x4), .second, iv (j0_87_s0 x0 x1 x2 x3 x4), rv b8, rv b10, rv b12, .val .null, rv b14, iv (j0_155_s0 x0 x1 x2 x3 x4)] [(.int (j0_179_s0 x0 x1 x2 x3 x4))])) := by
            intro T22 L22 X22 e22 N22
            refine Goes.run X22 hx hown hci hcl hby (L := [(179, .istore 19, 2), (181, .iload 19, 2)]) (by decide +kernel) rfl (g' := (mkF m 183 #[iv x0, jv x1, .second, iv x2, jv x3, .second, iv x4, iv (w0_10 x0 x1 x2 x3 x4), jv (w0_17 x0 x1 x2 x3 x4), .second, iv (j0_45_10 x0 x1 x2 x3 x4), jv (j0_67_11 x0 x1 x2 x3 x4), .second, iv (j0_87_s0 x0 x1 x2 x3 x4), rv b8, rv b10, rv b12, .val .null, rv b14, iv (j0_179_s0 x0 x1 x2 x3 x4)] [(.int (j0_179_s0 x0 x1 x2 x3 x4))])) rfl ?_
            have jn201_26 : ∀ (T27 : State) (L27 : List Loc) (X27 : Stand p l e room_1 s m #[(.int x0), (.long x1), (.int x2), (.long x3), (.int x4)] below meth c T27 L27 4 7) (e27 : T27.heap = h14) (N27 : Fr n0 L27), Goes p e below s (QL (some (.int (r0 x0 x1 x2 x3 x4))) n0) room_1.cells room_1.slots (T27.setTop (mkF m 201 #[iv x0, jv x1, .second, iv x2, jv x3, .second, iv x4, iv (w0_10 x0 x1 x2 x3 x4), jv (w0_17 x0 x1 x2 x3 x4), .second, iv (j0_45_10 x0 x1 x2 x3 x4), jv (j0_67_11 x0 x1 x2 x3 x4), .second, iv (j0_87_s0 x0 x1 x2 x3 x4), rv b8, rv b10, rv b12, .val .null, rv b14, iv (j0_179_s0 x0 x1 x2 x3 x4)] [(.int (j0_201_s0 x0 x1 x2 x3 x4))])) := by
              intro T27 L27 X27 e27 N27
              refine Goes.run X27 hx hown hci hcl hby (L := [(201, .istore 19, 2), (203, .iload 19, 2)]) (by decide +kernel) rfl (g' := (mkF m 205 #[iv x0, jv x1, .second, iv x2, jv x3, .second, iv x4, iv (w0_10 x0 x1 x2 x3 x4), jv (w0_17 x0 x1 x2 x3 x4), .second, iv (j0_45_10 x0 x1 x2 x3 x4), jv (j0_67_11 x0 x1 x2 x3 x4), .second, iv (j0_87_s0 x0 x1 x2 x3 x4), rv b8, rv b10, rv b12, .val .null, rv b14, iv (j0_201_s0 x0 x1 x2 x3 x4)] [(.int (j0_201_s0 x0 x1 x2 x3 x4))])) rfl ?_
              have jn223_31 : ∀ (T32 : State) (L32 : List Loc) (X32 : Stand p l e room_1 s m #[(.int x0), (.long x1), (.int x2), (.long x3), (.int x4)] below meth c T32 L32 4 7) (e32 : T32.heap = h14) (N32 : Fr n0 L32), Goes p e below s (QL (some (.int (r0 x0 x1 x2 x3 x4))) n0) room_1.cells room_1.slots (T32.setTop (mkF m 223 #[iv x0, jv x1, .second, iv x2, jv x3, .second, iv x4, iv (w0_10 x0 x1 x2 x3 x4), jv (w0_17 x0 x1 x2 x3 x4), .second, iv (j0_45_10 x0 x1 x2 x3 x4), jv (j0_67_11 x0 x1 x2 x3 x4), .second, iv (j0_87_s0 x0 x1 x2 x3 x4), rv b8, rv b10, rv b12, .val .null, rv b14, iv (j0_201_s0 x0 x1 x2 x3 x4)] [(.int (j0_223_s0 x0 x1 x2 x3 x4))])) := by
                intro T32 L32 X32 e32 N32
                refine Goes.run X32 hx hown hci hcl hby (L := [(223, .istore 19, 2), (225, .iload 19, 2)]) (by decide +kernel) rfl (g' := (mkF m 227 #[iv x0, jv x1, .second, iv x2, jv x3, .second, iv x4, iv (w0_10 x0 x1 x2 x3 x4), jv (w0_17 x0 x1 x2 x3 x4), .second, iv (j0_45_10 x0 x1 x2 x3 x4), jv (j0_67_11 x0 x1 x2 x3 x4), .second, iv (j0_87_s0 x0 x1 x2 x3 x4), rv b8, rv b10, rv b12, .val .null, rv b14, iv (j0_223_s0 x0 x1 x2 x3 x4)] [(.int (j0_223_s0 x0 x1 x2 x3 x4))])) rfl ?_
                have jn245_36 : ∀ (T37 : State) (L37 : List Loc) (X37 : Stand p l e room_1 s m #[(.int x0), (.long x1), (.int x2), (.long x3), (.int x4)] below meth c T37 L37 4 7) (e37 : T37.heap = h14) (N37 : Fr n0 L37), Goes p e below s (QL (some (.int (r0 x0 x1 x2 x3 x4))) n0) room_1.cells room_1.slots (T37.setTop (mkF m 245 #[iv x0, jv x1, .second, iv x2, jv x3, .second, iv x4, iv (w0_10 x0 x1 x2 x3 x4), jv (w0_17 x0 x1 x2 x3 x4), .second, iv (j0_45_10 x0 x1 x2 x3 x4), jv (j0_67_11 x0 x1 x2 x3 x4), .second, iv (j0_87_s0 x0 x1 x2 x3 x4), rv b8, rv b10, rv b12, .val .null, rv b14, iv (j0_223_s0 x0 x1 x2 x3 x4)] [(.int (j0_245_s0 x0 x1 x2 x3 x4))])) := by
                  intro T37 L37 X37 e37 N37
                  refine Goes.run X37 hx hown hci hcl hby (L := [(245, .istore 19, 2), (247, .iload 19, 2)]) (by decide +kernel) rfl (g' := (mkF m 249 #[iv x0, jv x1, .second, iv x2, jv x3, .second, iv x4, iv (w0_10 x0 x1 x2 x3 x4), jv (w0_17 x0 x1 x2 x3 x4), .second, iv (j0_45_10 x0 x1 x2 x3 x4), jv (j0_67_11 x0 x1 x2 x3 x4), .second, iv (j0_87_s0 x0 x1 x2 x3 x4), rv b8, rv b10, rv b12, .val .null, rv b14, iv (j0_245_s0 x0 x1 x2 x3 x4)] [(.int (j0_245_s0 x0 x1 x2 x3 x4))])) rfl ?_
                  have jn267_41 : ∀ (T42 : State) (L42 : List Loc) (X42 : Stand p l e room_1 s m #[(.int x0), (.long x1), (.int x2), (.long x3), (.int x4)] below meth c T42 L42 4 7) (e42 : T42.heap = h14) (N42 : Fr n0 L42), Goes p e below s (QL (some (.int (r0 x0 x1 x2 x3 x4))) n0) room_1.cells room_1.slots (T42.setTop (mkF m 267 #[iv x0, jv x1, .second, iv x2, jv x3, .second, iv x4, iv (w0_10 x0 x1 x2 x3 x4), jv (w0_17 x0 x1 x2 x3 x4), .second, iv (j0_45_10 x0 x1 x2 x3 x4), jv (j0_67_11 x0 x1 x2 x3 x4), .second, iv (j0_87_s0 x0 x1 x2 x3 x4), rv b8, rv b10, rv b12, .val .null, rv b14, iv (j0_245_s0 x0 x1 x2 x3 x4)] [(.int (j0_267_s0 x0 x1 x2 x3 x4))])) := by
                    intro T42 L42 X42 e42 N42
                    refine Goes.run X42 hx hown hci hcl hby (L := [(267, .istore 19, 2), (269, .iload 19, 2)]) (by decide +kernel) rfl (g' := (mkF m 271 #[iv x0, jv x1, .second, iv x2, jv x3, .second, iv x4, iv (w0_10 x0 x1 x2 x3 x4), jv (w0_17 x0 x1 x2 x3 x4), .second, iv (j0_45_10 x0 x1 x2 x3 x4), jv (j0_67_11 x0 x1 x2 x3 x4), .second, iv (j0_87_s0 x0 x1 x2 x3 x4), rv b8, rv b10, rv b12, .val .null, rv b14, iv (j0_267_s0 x0 x1 x2 x3 x4)] [(.int (j0_267_s0 x0 x1 x2 x3 x4))])) rfl ?_
                    exact Goes.retB X42 hx hlk (t := .boolean) Bd.returns (by simp) (hb hby at_271) (own_nar0 x0 x1 x2 x3 x4) ⟨(congrArg (fun z => some (Value.int z)) (show (r0 x0 x1 x2 x3 x4) = (j0_267_s0 x0 x1 x2 x3 x4) from rfl).symm), N42⟩ (by decide) (by decide)
                  by_cases hc249_38 : (j0_245_s0 x0 x1 x2 x3 x4) = (0 : Int32)
                  · skip
                    refine Goes.st (B := T37.setTop (mkF m 266 #[iv x0, jv x1, .second, iv x2, jv x3, .second, iv x4, iv (w0_10 x0 x1 x2 x3 x4), jv (w0_17 x0 x1 x2 x3 x4), .second, iv (j0_45_10 x0 x1 x2 x3 x4), jv (j0_67_11 x0 x1 x2 x3 x4), .second, iv (j0_87_s0 x0 x1 x2 x3 x4), rv b8, rv b10, rv b12, .val .null, rv b14, iv (j0_245_s0 x0 x1 x2 x3 x4)] [])) (fun t k => ?_) ?_
                    · refine XS.ifYes X37.here hx rfl (pc0 := 249) (pc' := 266) rfl (hb hby at_249) rfl ((if0 _ _).trans (teq hc249_38).1) (by decide) (by decide) ?_
                      exact k
                    refine Goes.run X37 hx hown hci hcl hby (L := [(266, .iconst 0, 1)]) (by decide +kernel) rfl (g' := (mkF m 267 #[iv x0, jv x1, .second, iv x2, jv x3, .second, iv x4, iv (w0_10 x0 x1 x2 x3 x4), jv (w0_17 x0 x1 x2 x3 x4), .second, iv (j0_45_10 x0 x1 x2 x3 x4), jv (j0_67_11 x0 x1 x2 x3 x4), .second, iv (j0_87_s0 x0 x1 x2 x3 x4), rv b8, rv b10, rv b12, .val .null, rv b14, iv (j0_245_s0 x0 x1 x2 x3 x4)] [(.int (0 : Int32))])) rfl ?_
                    have q := jn267_41 _ _ X37 e37 N37
                    rw [show (j0_267_s0 x0 x1 x2 x3 x4) = (0 : Int32) from (if_pos hc249_38)] at q
                    exact q
                  · skip
                    refine Goes.st (B := T37.setTop (mkF m 252 #[iv x0, jv x1, .second, iv x2, jv x3, .second, iv x4, iv (w0_10 x0 x1 x2 x3 x4), jv (w0_17 x0 x1 x2 x3 x4), .second, iv (j0_45_10 x0 x1 x2 x3 x4), jv (j0_67_11 x0 x1 x2 x3 x4), .second, iv (j0_87_s0 x0 x1 x2 x3 x4), rv b8, rv b10, rv b12, .val .null, rv b14, iv (j0_245_s0 x0 x1 x2 x3 x4)] [])) (fun t k => ?_) ?_
                    · refine XS.ifNo X37.here hx rfl (hb hby at_249) rfl ((if0 _ _).trans (feq hc249_38).1) ?_
                      exact k
                    refine Goes.run X37 hx hown hci hcl hby (L := [(252, .aload 14, 2), (254, .aload 18, 2)]) (by decide +kernel) rfl (g' := (mkF m 256 #[iv x0, jv x1, .second, iv x2, jv x3, .second, iv x4, iv (w0_10 x0 x1 x2 x3 x4), jv (w0_17 x0 x1 x2 x3 x4), .second, iv (j0_45_10 x0 x1 x2 x3 x4), jv (j0_67_11 x0 x1 x2 x3 x4), .second, iv (j0_87_s0 x0 x1 x2 x3 x4), rv b8, rv b10, rv b12, .val .null, rv b14, iv (j0_245_s0 x0 x1 x2 x3 x4)] [(.ref b14), (.ref b8)])) rfl ?_
                    obtain ⟨cq43, kq43, q43a, q43b, q43c⟩ := isOf hZ e37 E_b8
                    obtain ⟨_, _, ⟨T43, L43, k43, n43⟩, -, X43, ⟨Lc43, hQ43, l43, y43, z43⟩, st43⟩ := X37.virtualBack hx (y := ym5) (z := ym5) hown (mvT hZ w_28) (mvT hZ w_29) (notFace_of_selects (args := #[]) (mvT hZ w_31)) (mvT hZ w_31) (mvT hZ w_30) (by decide) (backOf (W := 0) (rm9 l Z a0 hw [] b8 b14 h14 n0 Zn14 E_b8 E_b14 ne_b8_b14) hZ w_32 w_4 (by decide) (by decide)) q43a q43c (g := (mkF m 256 #[iv x0, jv x1, .second, iv x2, jv x3, .second, iv x4, iv (w0_10 x0 x1 x2 x3 x4), jv (w0_17 x0 x1 x2 x3 x4), .second, iv (j0_45_10 x0 x1 x2 x3 x4), jv (j0_67_11 x0 x1 x2 x3 x4), .second, iv (j0_87_s0 x0 x1 x2 x3 x4), rv b8, rv b10, rv b12, .val .null, rv b14, iv (j0_245_s0 x0 x1 x2 x3 x4)] [(.ref b14), (.ref b8)])) rfl (by rw [hml]; rfl) (Steps.refl _) (argsL := [(.ref b14)]) (rest := []) (lenOf pd0_2 rfl) rfl (by show 2 * 0 + _ ≤ _; exact Nat.le_of_eq rfl) (hb hby at_256) (fun _ _ => ⟨rfl, e37, (by decide : 4 + 0 ≤ _), (by decide : 7 + 0 ≤ _)⟩)
                    dsimp only [Pt.U, Pt.locs, Pt.cells, Pt.slots] at X43 l43 y43 z43 st43 hQ43
                    subst l43 y43 z43
                    obtain ⟨rfl, N43q, e43⟩ := hQ43
                    have N43 := Fr.app N37 N43q
                    refine Goes.st (B := T43.setTop (mkF m 259 #[iv x0, jv x1, .second, iv x2, jv x3, .second, iv x4, iv (w0_10 x0 x1 x2 x3 x4), jv (w0_17 x0 x1 x2 x3 x4), .second, iv (j0_45_10 x0 x1 x2 x3 x4), jv (j0_67_11 x0 x1 x2 x3 x4), .second, iv (j0_87_s0 x0 x1 x2 x3 x4), rv b8, rv b10, rv b12, .val .null, rv b14, iv (j0_245_s0 x0 x1 x2 x3 x4)] [(.int r9)])) (fun t k => st43.trans k) ?_
                    by_cases hc259_44 : r9 = (0 : Int32)
                    · skip
                      refine Goes.st (B := T43.setTop (mkF m 262 #[iv x0, jv x1, .second, iv x2, jv x3, .second, iv x4, iv (w0_10 x0 x1 x2 x3 x4), jv (w0_17 x0 x1 x2 x3 x4), .second, iv (j0_45_10 x0 x1 x2 x3 x4), jv (j0_67_11 x0 x1 x2 x3 x4), .second, iv (j0_87_s0 x0 x1 x2 x3 x4), rv b8, rv b10, rv b12, .val .null, rv b14, iv (j0_245_s0 x0 x1 x2 x3 x4)] [])) (fun t k => ?_) ?_
                      · refine XS.ifNo X43.here hx rfl (hb hby at_259) rfl ((if0 _ _).trans (teq hc259_44).2) ?_
                        exact k
                      refine Goes.run X43 hx hown hci hcl hby (L := [(262, .iconst 1, 1), (263, .goto 4, 3)]) (by decide +kernel) rfl (g' := (mkF m 267 #[iv x0, jv x1, .second, iv x2, jv x3, .second, iv x4, iv (w0_10 x0 x1 x2 x3 x4), jv (w0_17 x0 x1 x2 x3 x4), .second, iv (j0_45_10 x0 x1 x2 x3 x4), jv (j0_67_11 x0 x1 x2 x3 x4), .second, iv (j0_87_s0 x0 x1 x2 x3 x4), rv b8, rv b10, rv b12, .val .null, rv b14, iv (j0_245_s0 x0 x1 x2 x3 x4)] [(.int (1 : Int32))])) rfl ?_
                      have q := jn267_41 _ _ X43 e43 N43
                      rw [show (j0_267_s0 x0 x1 x2 x3 x4) = (1 : Int32) from ((if_neg hc249_38).trans (if_pos hc259_44))] at q
                      exact q
                    · skip
                      refine Goes.st (B := T43.setTop (mkF m 266 #[iv x0, jv x1, .second, iv x2, jv x3, .second, iv x4, iv (w0_10 x0 x1 x2 x3 x4), jv (w0_17 x0 x1 x2 x3 x4), .second, iv (j0_45_10 x0 x1 x2 x3 x4), jv (j0_67_11 x0 x1 x2 x3 x4), .second, iv (j0_87_s0 x0 x1 x2 x3 x4), rv b8, rv b10, rv b12, .val .null, rv b14, iv (j0_245_s0 x0 x1 x2 x3 x4)] [])) (fun t k => ?_) ?_
                      · refine XS.ifYes X43.here hx rfl (pc0 := 259) (pc' := 266) rfl (hb hby at_259) rfl ((if0 _ _).trans (feq hc259_44).2) (by decide) (by decide) ?_
                        exact k
                      refine Goes.run X43 hx hown hci hcl hby (L := [(266, .iconst 0, 1)]) (by decide +kernel) rfl (g' := (mkF m 267 #[iv x0, jv x1, .second, iv x2, jv x3, .second, iv x4, iv (w0_10 x0 x1 x2 x3 x4), jv (w0_17 x0 x1 x2 x3 x4), .second, iv (j0_45_10 x0 x1 x2 x3 x4), jv (j0_67_11 x0 x1 x2 x3 x4), .second, iv (j0_87_s0 x0 x1 x2 x3 x4), rv b8, rv b10, rv b12, .val .null, rv b14, iv (j0_245_s0 x0 x1 x2 x3 x4)] [(.int (0 : Int32))])) rfl ?_
                      have q := jn267_41 _ _ X43 e43 N43
                      rw [show (j0_267_s0 x0 x1 x2 x3 x4) = (0 : Int32) from ((if_neg hc249_38).trans (if_neg hc259_44))] at q
                      exact q
                by_cases hc227_33 : (j0_223_s0 x0 x1 x2 x3 x4) = (0 : Int32)
                · skip
                  refine Goes.st (B := T32.setTop (mkF m 244 #[iv x0, jv x1, .second, iv x2, jv x3, .second, iv x4, iv (w0_10 x0 x1 x2 x3 x4), jv (w0_17 x0 x1 x2 x3 x4), .second, iv (j0_45_10 x0 x1 x2 x3 x4), jv (j0_67_11 x0 x1 x2 x3 x4), .second, iv (j0_87_s0 x0 x1 x2 x3 x4), rv b8, rv b10, rv b12, .val .null, rv b14, iv (j0_223_s0 x0 x1 x2 x3 x4)] [])) (fun t k => ?_) ?_
                  · refine XS.ifYes X32.here hx rfl (pc0 := 227) (pc' := 244) rfl (hb hby at_227) rfl ((if0 _ _).trans (teq hc227_33).1) (by decide) (by decide) ?_
                    exact k
                  refine Goes.run X32 hx hown hci hcl hby (L := [(244, .iconst 0, 1)]) (by decide +kernel) rfl (g' := (mkF m 245 #[iv x0, jv x1, .second, iv x2, jv x3, .second, iv x4, iv (w0_10 x0 x1 x2 x3 x4), jv (w0_17 x0 x1 x2 x3 x4), .second, iv (j0_45_10 x0 x1 x2 x3 x4), jv (j0_67_11 x0 x1 x2 x3 x4), .second, iv (j0_87_s0 x0 x1 x2 x3 x4), rv b8, rv b10, rv b12, .val .null, rv b14, iv (j0_223_s0 x0 x1 x2 x3 x4)] [(.int (0 : Int32))])) rfl ?_
                  have q := jn245_36 _ _ X32 e32 N32
                  rw [show (j0_245_s0 x0 x1 x2 x3 x4) = (0 : Int32) from (if_pos hc227_33)] at q
                  exact q
                · skip
                  refine Goes.st (B := T32.setTop (mkF m 230 #[iv x0, jv x1, .second, iv x2, jv x3, .second, iv x4, iv (w0_10 x0 x1 x2 x3 x4), jv (w0_17 x0 x1 x2 x3 x4), .second, iv (j0_45_10 x0 x1 x2 x3 x4), jv (j0_67_11 x0 x1 x2 x3 x4), .second, iv (j0_87_s0 x0 x1 x2 x3 x4), rv b8, rv b10, rv b12, .val .null, rv b14, iv (j0_223_s0 x0 x1 x2 x3 x4)] [])) (fun t k => ?_) ?_
                  · refine XS.ifNo X32.here hx rfl (hb hby at_227) rfl ((if0 _ _).trans (feq hc227_33).1) ?_
                    exact k
                  refine Goes.run X32 hx hown hci hcl hby (L := [(230, .aload 14, 2), (232, .aload 17, 2)]) (by decide +kernel) rfl (g' := (mkF m 234 #[iv x0, jv x1, .second, iv x2, jv x3, .second, iv x4, iv (w0_10 x0 x1 x2 x3 x4), jv (w0_17 x0 x1 x2 x3 x4), .second, iv (j0_45_10 x0 x1 x2 x3 x4), jv (j0_67_11 x0 x1 x2 x3 x4), .second, iv (j0_87_s0 x0 x1 x2 x3 x4), rv b8, rv b10, rv b12, .val .null, rv b14, iv (j0_223_s0 x0 x1 x2 x3 x4)] [.null, (.ref b8)])) rfl ?_
                  obtain ⟨cq45, kq45, q45a, q45b, q45c⟩ := isOf hZ e32 E_b8
                  obtain ⟨_, _, ⟨T45, L45, k45, n45⟩, -, X45, ⟨Lc45, hQ45, l45, y45, z45⟩, st45⟩ := X32.virtualBack hx (y := ym5) (z := ym5) hown (mvT hZ w_28) (mvT hZ w_29) (notFace_of_selects (args := #[]) (mvT hZ w_31)) (mvT hZ w_31) (mvT hZ w_30) (by decide) (backOf (W := 0) (rm8 l Z a0 hw [] b8 h14 n0 Zn14 E_b8) hZ w_32 w_4 (by decide) (by decide)) q45a q45c (g := (mkF m 234 #[iv x0, jv x1, .second, iv x2, jv x3, .second, iv x4, iv (w0_10 x0 x1 x2 x3 x4), jv (w0_17 x0 x1 x2 x3 x4), .second, iv (j0_45_10 x0 x1 x2 x3 x4), jv (j0_67_11 x0 x1 x2 x3 x4), .second, iv (j0_87_s0 x0 x1 x2 x3 x4), rv b8, rv b10, rv b12, .val .null, rv b14, iv (j0_223_s0 x0 x1 x2 x3 x4)] [.null, (.ref b8)])) rfl (by rw [hml]; rfl) (Steps.refl _) (argsL := [.null]) (rest := []) (lenOf pd0_2 rfl) rfl (by show 2 * 0 + _ ≤ _; exact Nat.le_of_eq rfl) (hb hby at_234) (fun _ _ => ⟨rfl, e32, (by decide : 4 + 0 ≤ _), (by decide : 7 + 0 ≤ _)⟩)
                  dsimp only [Pt.U, Pt.locs, Pt.cells, Pt.slots] at X45 l45 y45 z45 st45 hQ45
                  subst l45 y45 z45
                  obtain ⟨rfl, N45q, e45⟩ := hQ45
                  have N45 := Fr.app N32 N45q
                  refine Goes.st (B := T45.setTop (mkF m 237 #[iv x0, jv x1, .second, iv x2, jv x3, .second, iv x4, iv (w0_10 x0 x1 x2 x3 x4), jv (w0_17 x0 x1 x2 x3 x4), .second, iv (j0_45_10 x0 x1 x2 x3 x4), jv (j0_67_11 x0 x1 x2 x3 x4), .second, iv (j0_87_s0 x0 x1 x2 x3 x4), rv b8, rv b10, rv b12, .val .null, rv b14, iv (j0_223_s0 x0 x1 x2 x3 x4)] [(.int r8)])) (fun t k => st45.trans k) ?_
                  by_cases hc237_46 : r8 = (0 : Int32)
                  · skip
                    refine Goes.st (B := T45.setTop (mkF m 240 #[iv x0, jv x1, .second, iv x2, jv x3, .second, iv x4, iv (w0_10 x0 x1 x2 x3 x4), jv (w0_17 x0 x1 x2 x3 x4), .second, iv (j0_45_10 x0 x1 x2 x3 x4), jv (j0_67_11 x0 x1 x2 x3 x4), .second, iv (j0_87_s0 x0 x1 x2 x3 x4), rv b8, rv b10, rv b12, .val .null, rv b14, iv (j0_223_s0 x0 x1 x2 x3 x4)] [])) (fun t k => ?_) ?_
                    · refine XS.ifNo X45.here hx rfl (hb hby at_237) rfl ((if0 _ _).trans (teq hc237_46).2) ?_
                      exact k
                    refine Goes.run X45 hx hown hci hcl hby (L := [(240, .iconst 1, 1), (241, .goto 4, 3)]) (by decide +kernel) rfl (g' := (mkF m 245 #[iv x0, jv x1, .second, iv x2, jv x3, .second, iv x4, iv (w0_10 x0 x1 x2 x3 x4), jv (w0_17 x0 x1 x2 x3 x4), .second, iv (j0_45_10 x0 x1 x2 x3 x4), jv (j0_67_11 x0 x1 x2 x3 x4), .second, iv (j0_87_s0 x0 x1 x2 x3 x4), rv b8, rv b10, rv b12, .val .null, rv b14, iv (j0_223_s0 x0 x1 x2 x3 x4)] [(.int (1 : Int32))])) rfl ?_
                    have q := jn245_36 _ _ X45 e45 N45
                    rw [show (j0_245_s0 x0 x1 x2 x3 x4) = (1 : Int32) from ((if_neg hc227_33).trans (if_pos hc237_46))] at q
                    exact q
                  · skip
                    refine Goes.st (B := T45.setTop (mkF m 244 #[iv x0, jv x1, .second, iv x2, jv x3, .second, iv x4, iv (w0_10 x0 x1 x2 x3 x4), jv (w0_17 x0 x1 x2 x3 x4), .second, iv (j0_45_10 x0 x1 x2 x3 x4), jv (j0_67_11 x0 x1 x2 x3 x4), .second, iv (j0_87_s0 x0 x1 x2 x3 x4), rv b8, rv b10, rv b12, .val .null, rv b14, iv (j0_223_s0 x0 x1 x2 x3 x4)] [])) (fun t k => ?_) ?_
                    · refine XS.ifYes X45.here hx rfl (pc0 := 237) (pc' := 244) rfl (hb hby at_237) rfl ((if0 _ _).trans (feq hc237_46).2) (by decide) (by decide) ?_
                      exact k
                    refine Goes.run X45 hx hown hci hcl hby (L := [(244, .iconst 0, 1)]) (by decide +kernel) rfl (g' := (mkF m 245 #[iv x0, jv x1, .second, iv x2, jv x3, .second, iv x4, iv (w0_10 x0 x1 x2 x3 x4), jv (w0_17 x0 x1 x2 x3 x4), .second, iv (j0_45_10 x0 x1 x2 x3 x4), jv (j0_67_11 x0 x1 x2 x3 x4), .second, iv (j0_87_s0 x0 x1 x2 x3 x4), rv b8, rv b10, rv b12, .val .null, rv b14, iv (j0_223_s0 x0 x1 x2 x3 x4)] [(.int (0 : Int32))])) rfl ?_
                    have q := jn245_36 _ _ X45 e45 N45
                    rw [show (j0_245_s0 x0 x1 x2 x3 x4) = (0 : Int32) from ((if_neg hc227_33).trans (if_neg hc237_46))] at q
                    exact q
              by_cases hc205_28 : (j0_201_s0 x0 x1 x2 x3 x4) = (0 : Int32)
              · skip
                refine Goes.st (B := T27.setTop (mkF m 222 #[iv x0, jv x1, .second, iv x2, jv x3, .second, iv x4, iv (w0_10 x0 x1 x2 x3 x4), jv (w0_17 x0 x1 x2 x3 x4), .second, iv (j0_45_10 x0 x1 x2 x3 x4), jv (j0_67_11 x0 x1 x2 x3 x4), .second, iv (j0_87_s0 x0 x1 x2 x3 x4), rv b8, rv b10, rv b12, .val .null, rv b14, iv (j0_201_s0 x0 x1 x2 x3 x4)] [])) (fun t k => ?_) ?_
                · refine XS.ifYes X27.here hx rfl (pc0 := 205) (pc' := 222) rfl (hb hby at_205) rfl ((if0 _ _).trans (teq hc205_28).1) (by decide) (by decide) ?_
                  exact k
                refine Goes.run X27 hx hown hci hcl hby (L := [(222, .iconst 0, 1)]) (by decide +kernel) rfl (g' := (mkF m 223 #[iv x0, jv x1, .second, iv x2, jv x3, .second, iv x4, iv (w0_10 x0 x1 x2 x3 x4), jv (w0_17 x0 x1 x2 x3 x4), .second, iv (j0_45_10 x0 x1 x2 x3 x4), jv (j0_67_11 x0 x1 x2 x3 x4), .second, iv (j0_87_s0 x0 x1 x2 x3 x4), rv b8, rv b10, rv b12, .val .null, rv b14, iv (j0_201_s0 x0 x1 x2 x3 x4)] [(.int (0 : Int32))])) rfl ?_
                have q := jn223_31 _ _ X27 e27 N27
                rw [show (j0_223_s0 x0 x1 x2 x3 x4) = (0 : Int32) from (if_pos hc205_28)] at q
                exact q
              · skip
                refine Goes.st (B := T27.setTop (mkF m 208 #[iv x0, jv x1, .second, iv x2, jv x3, .second, iv x4, iv (w0_10 x0 x1 x2 x3 x4), jv (w0_17 x0 x1 x2 x3 x4), .second, iv (j0_45_10 x0 x1 x2 x3 x4), jv (j0_67_11 x0 x1 x2 x3 x4), .second, iv (j0_87_s0 x0 x1 x2 x3 x4), rv b8, rv b10, rv b12, .val .null, rv b14, iv (j0_201_s0 x0 x1 x2 x3 x4)] [])) (fun t k => ?_) ?_
                · refine XS.ifNo X27.here hx rfl (hb hby at_205) rfl ((if0 _ _).trans (feq hc205_28).1) ?_
                  exact k
                refine Goes.run X27 hx hown hci hcl hby (L := [(208, .aload 14, 2), (210, .aload 16, 2)]) (by decide +kernel) rfl (g' := (mkF m 212 #[iv x0, jv x1, .second, iv x2, jv x3, .second, iv x4, iv (w0_10 x0 x1 x2 x3 x4), jv (w0_17 x0 x1 x2 x3 x4), .second, iv (j0_45_10 x0 x1 x2 x3 x4), jv (j0_67_11 x0 x1 x2 x3 x4), .second, iv (j0_87_s0 x0 x1 x2 x3 x4), rv b8, rv b10, rv b12, .val .null, rv b14, iv (j0_201_s0 x0 x1 x2 x3 x4)] [(.ref b12), (.ref b8)])) rfl ?_
                obtain ⟨cq47, kq47, q47a, q47b, q47c⟩ := isOf hZ e27 E_b8
                obtain ⟨_, _, ⟨T47, L47, k47, n47⟩, -, X47, ⟨Lc47, hQ47, l47, y47, z47⟩, st47⟩ := X27.virtualBack hx (y := ym5) (z := ym5) hown (mvT hZ w_28) (mvT hZ w_29) (notFace_of_selects (args := #[]) (mvT hZ w_31)) (mvT hZ w_31) (mvT hZ w_30) (by decide) (backOf (W := 0) (rm6 l Z a0 hw [] b8 b12 (w0_10 x0 x1 x2 x3 x4) (w0_17 x0 x1 x2 x3 x4) (w0_10 x0 x1 x2 x3 x4) (w0_17 x0 x1 x2 x3 x4) h14 n0 Zn14 E_b8 F_country_b8 F_number_b8 E_b12 F_country_b12 F_number_b12 ne_b8_b12) hZ w_32 w_4 (by decide) (by decide)) q47a q47c (g := (mkF m 212 #[iv x0, jv x1, .second, iv x2, jv x3, .second, iv x4, iv (w0_10 x0 x1 x2 x3 x4), jv (w0_17 x0 x1 x2 x3 x4), .second, iv (j0_45_10 x0 x1 x2 x3 x4), jv (j0_67_11 x0 x1 x2 x3 x4), .second, iv (j0_87_s0 x0 x1 x2 x3 x4), rv b8, rv b10, rv b12, .val .null, rv b14, iv (j0_201_s0 x0 x1 x2 x3 x4)] [(.ref b12), (.ref b8)])) rfl (by rw [hml]; rfl) (Steps.refl _) (argsL := [(.ref b12)]) (rest := []) (lenOf pd0_2 rfl) rfl (by show 2 * 0 + _ ≤ _; exact Nat.le_of_eq rfl) (hb hby at_212) (fun _ _ => ⟨rfl, e27, (by decide : 4 + 0 ≤ _), (by decide : 7 + 0 ≤ _)⟩)
                dsimp only [Pt.U, Pt.locs, Pt.cells, Pt.slots] at X47 l47 y47 z47 st47 hQ47
                subst l47 y47 z47
                obtain ⟨rfl, N47q, e47⟩ := hQ47
                have N47 := Fr.app N27 N47q
                refine Goes.st (B := T47.setTop (mkF m 215 #[iv x0, jv x1, .second, iv x2, jv x3, .second, iv x4, iv (w0_10 x0 x1 x2 x3 x4), jv (w0_17 x0 x1 x2 x3 x4), .second, iv (j0_45_10 x0 x1 x2 x3 x4), jv (j0_67_11 x0 x1 x2 x3 x4), .second, iv (j0_87_s0 x0 x1 x2 x3 x4), rv b8, rv b10, rv b12, .val .null, rv b14, iv (j0_201_s0 x0 x1 x2 x3 x4)] [(.int (r6 (w0_10 x0 x1 x2 x3 x4) (w0_17 x0 x1 x2 x3 x4) (w0_10 x0 x1 x2 x3 x4) (w0_17 x0 x1 x2 x3 x4)))])) (fun t k => st47.trans k) ?_
                by_cases hc215_48 : (r6 (w0_10 x0 x1 x2 x3 x4) (w0_17 x0 x1 x2 x3 x4) (w0_10 x0 x1 x2 x3 x4) (w0_17 x0 x1 x2 x3 x4)) = (0 : Int32)
                · skip
                  refine Goes.st (B := T47.setTop (mkF m 222 #[iv x0, jv x1, .second, iv x2, jv x3, .second, iv x4, iv (w0_10 x0 x1 x2 x3 x4), jv (w0_17 x0 x1 x2 x3 x4), .second, iv (j0_45_10 x0 x1 x2 x3 x4), jv (j0_67_11 x0 x1 x2 x3 x4), .second, iv (j0_87_s0 x0 x1 x2 x3 x4), rv b8, rv b10, rv b12, .val .null, rv b14, iv (j0_201_s0 x0 x1 x2 x3 x4)] [])) (fun t k => ?_) ?_
                  · refine XS.ifYes X47.here hx rfl (pc0 := 215) (pc' := 222) rfl (hb hby at_215) rfl ((if0 _ _).trans (teq hc215_48).1) (by decide) (by decide) ?_
                    exact k
                  refine Goes.run X47 hx hown hci hcl hby (L := [(222, .iconst 0, 1)]) (by decide +kernel) rfl (g' := (mkF m 223 #[iv x0, jv x1, .second, iv x2, jv x3, .second, iv x4, iv (w0_10 x0 x1 x2 x3 x4), jv (w0_17 x0 x1 x2 x3 x4), .second, iv (j0_45_10 x0 x1 x2 x3 x4), jv (j0_67_11 x0 x1 x2 x3 x4), .second, iv (j0_87_s0 x0 x1 x2 x3 x4), rv b8, rv b10, rv b12, .val .null, rv b14, iv (j0_201_s0 x0 x1 x2 x3 x4)] [(.int (0 : Int32))])) rfl ?_
                  have q := jn223_31 _ _ X47 e47 N47
                  rw [show (j0_223_s0 x0 x1 x2 x3 x4) = (0 : Int32) from ((if_neg hc205_28).trans (if_pos hc215_48))] at q
                  exact q
                · skip
                  refine Goes.st (B := T47.setTop (mkF m 218 #[iv x0, jv x1, .second, iv x2, jv x3, .second, iv x4, iv (w0_10 x0 x1 x2 x3 x4), jv (w0_17 x0 x1 x2 x3 x4), .second, iv (j0_45_10 x0 x1 x2 x3 x4), jv (j0_67_11 x0 x1 x2 x3 x4), .second, iv (j0_87_s0 x0 x1 x2 x3 x4), rv b8, rv b10, rv b12, .val .null, rv b14, iv (j0_201_s0 x0 x1 x2 x3 x4)] [])) (fun t k => ?_) ?_
                  · refine XS.ifNo X47.here hx rfl (hb hby at_215) rfl ((if0 _ _).trans (feq hc215_48).1) ?_
                    exact k
                  refine Goes.run X47 hx hown hci hcl hby (L := [(218, .iconst 1, 1), (219, .goto 4, 3)]) (by decide +kernel) rfl (g' := (mkF m 223 #[iv x0, jv x1, .second, iv x2, jv x3, .second, iv x4, iv (w0_10 x0 x1 x2 x3 x4), jv (w0_17 x0 x1 x2 x3 x4), .second, iv (j0_45_10 x0 x1 x2 x3 x4), jv (j0_67_11 x0 x1 x2 x3 x4), .second, iv (j0_87_s0 x0 x1 x2 x3 x4), rv b8, rv b10, rv b12, .val .null, rv b14, iv (j0_201_s0 x0 x1 x2 x3 x4)] [(.int (1 : Int32))])) rfl ?_
                  have q := jn223_31 _ _ X47 e47 N47
                  rw [show (j0_223_s0 x0 x1 x2 x3 x4) = (1 : Int32) from ((if_neg hc205_28).trans (if_neg hc215_48))] at q
                  exact q
            by_cases hc183_23 : (j0_179_s0 x0 x1 x2 x3 x4) = (0 : Int32)
            · skip
              refine Goes.st (B := T22.setTop (mkF m 200 #[iv x0, jv x1, .second, iv x2, jv x3, .second, iv x4, iv (w0_10 x0 x1 x2 x3 x4), jv (w0_17 x0 x1 x2 x3 x4), .second, iv (j0_45_10 x0 x1 x2 x3 x4), jv (j0_67_11 x0 x1 x2 x3 x4), .second, iv (j0_87_s0 x0 x1 x2 x3 x4), rv b8, rv b10, rv b12, .val .null, rv b14, iv (j0_179_s0 x0 x1 x2 x3 x4)] [])) (fun t k => ?_) ?_
              · refine XS.ifYes X22.here hx rfl (pc0 := 183) (pc' := 200) rfl (hb hby at_183) rfl ((if0 _ _).trans (teq hc183_23).1) (by decide) (by decide) ?_
                exact k
              refine Goes.run X22 hx hown hci hcl hby (L := [(200, .iconst 0, 1)]) (by decide +kernel) rfl (g' := (mkF m 201 #[iv x0, jv x1, .second, iv x2, jv x3, .second, iv x4, iv (w0_10 x0 x1 x2 x3 x4), jv (w0_17 x0 x1 x2 x3 x4), .second, iv (j0_45_10 x0 x1 x2 x3 x4), jv (j0_67_11 x0 x1 x2 x3 x4), .second, iv (j0_87_s0 x0 x1 x2 x3 x4), rv b8, rv b10, rv b12, .val .null, rv b14, iv (j0_179_s0 x0 x1 x2 x3 x4)] [(.int (0 : Int32))])) rfl ?_
              have q := jn201_26 _ _ X22 e22 N22
              rw [show (j0_201_s0 x0 x1 x2 x3 x4) = (0 : Int32) from (if_pos hc183_23)] at q
              exact q
            · skip
              refine Goes.st (B := T22.setTop (mkF m 186 #[iv x0, jv x1, .second, iv x2, jv x3, .second, iv x4, iv (w0_10 x0 x1 x2 x3 x4), jv (w0_17 x0 x1 x2 x3 x4), .second, iv (j0_45_10 x0 x1 x2 x3 x4), jv (j0_67_11 x0 x1 x2 x3 x4), .second, iv (j0_87_s0 x0 x1 x2 x3 x4), rv b8, rv b10, rv b12, .val .null, rv b14, iv (j0_179_s0 x0 x1 x2 x3 x4)] [])) (fun t k => ?_) ?_
              · refine XS.ifNo X22.here hx rfl (hb hby at_183) rfl ((if0 _ _).trans (feq hc183_23).1) ?_
                exact k
              refine Goes.run X22 hx hown hci hcl hby (L := [(186, .aload 14, 2), (188, .aload 14, 2)]) (by decide +kernel) rfl (g' := (mkF m 190 #[iv x0, jv x1, .second, iv x2, jv x3, .second, iv x4, iv (w0_10 x0 x1 x2 x3 x4), jv (w0_17 x0 x1 x2 x3 x4), .second, iv (j0_45_10 x0 x1 x2 x3 x4), jv (j0_67_11 x0 x1 x2 x3 x4), .second, iv (j0_87_s0 x0 x1 x2 x3 x4), rv b8, rv b10, rv b12, .val .null, rv b14, iv (j0_179_s0 x0 x1 x2 x3 x4)] [(.ref b8), (.ref b8)])) rfl ?_
              obtain ⟨cq49, kq49, q49a, q49b, q49c⟩ := isOf hZ e22 E_b8
              obtain ⟨_, _, ⟨T49, L49, k49, n49⟩, -, X49, ⟨Lc49, hQ49, l49, y49, z49⟩, st49⟩ := X22.virtualBack hx (y := ym5) (z := ym5) hown (mvT hZ w_28) (mvT hZ w_29) (notFace_of_selects (args := #[]) (mvT hZ w_31)) (mvT hZ w_31) (mvT hZ w_30) (by decide) (backOf (W := 0) (rm7 l Z a0 hw [] b8 h14 n0 Zn14 E_b8) hZ w_32 w_4 (by decide) (by decide)) q49a q49c (g := (mkF m 190 #[iv x0, jv x1, .second, iv x2, jv x3, .second, iv x4, iv (w0_10 x0 x1 x2 x3 x4), jv (w0_17 x0 x1 x2 x3 x4), .second, iv (j0_45_10 x0 x1 x2 x3 x4), jv (j0_67_11 x0 x1 x2 x3 x4), .second, iv (j0_87_s0 x0 x1 x2 x3 x4), rv b8, rv b10, rv b12, .val .null, rv b14, iv (j0_179_s0 x0 x1 x2 x3 x4)] [(.ref b8), (.ref b8)])) rfl (by rw [hml]; rfl) (Steps.refl _) (argsL := [(.ref b8)]) (rest := []) (lenOf pd0_2 rfl) rfl (by show 2 * 0 + _ ≤ _; exact Nat.le_of_eq rfl) (hb hby at_190) (fun _ _ => ⟨rfl, e22, (by decide : 4 + 0 ≤ _), (by decide : 7 + 0 ≤ _)⟩)
              dsimp only [Pt.U, Pt.locs, Pt.cells, Pt.slots] at X49 l49 y49 z49 st49 hQ49
              subst l49 y49 z49
              obtain ⟨rfl, N49q, e49⟩ := hQ49
              have N49 := Fr.app N22 N49q
              refine Goes.st (B := T49.setTop (mkF m 193 #[iv x0, jv x1, .second, iv x2, jv x3, .second, iv x4, iv (w0_10 x0 x1 x2 x3 x4), jv (w0_17 x0 x1 x2 x3 x4), .second, iv (j0_45_10 x0 x1 x2 x3 x4), jv (j0_67_11 x0 x1 x2 x3 x4), .second, iv (j0_87_s0 x0 x1 x2 x3 x4), rv b8, rv b10, rv b12, .val .null, rv b14, iv (j0_179_s0 x0 x1 x2 x3 x4)] [(.int r7)])) (fun t k => st49.trans k) ?_
              by_cases hc193_50 : r7 = (0 : Int32)
              · skip
                refine Goes.st (B := T49.setTop (mkF m 200 #[iv x0, jv x1, .second, iv x2, jv x3, .second, iv x4, iv (w0_10 x0 x1 x2 x3 x4), jv (w0_17 x0 x1 x2 x3 x4), .second, iv (j0_45_10 x0 x1 x2 x3 x4), jv (j0_67_11 x0 x1 x2 x3 x4), .second, iv (j0_87_s0 x0 x1 x2 x3 x4), rv b8, rv b10, rv b12, .val .null, rv b14, iv (j0_179_s0 x0 x1 x2 x3 x4)] [])) (fun t k => ?_) ?_
                · refine XS.ifYes X49.here hx rfl (pc0 := 193) (pc' := 200) rfl (hb hby at_193) rfl ((if0 _ _).trans (teq hc193_50).1) (by decide) (by decide) ?_
                  exact k
                refine Goes.run X49 hx hown hci hcl hby (L := [(200, .iconst 0, 1)]) (by decide +kernel) rfl (g' := (mkF m 201 #[iv x0, jv x1, .second, iv x2, jv x3, .second, iv x4, iv (w0_10 x0 x1 x2 x3 x4), jv (w0_17 x0 x1 x2 x3 x4), .second, iv (j0_45_10 x0 x1 x2 x3 x4), jv (j0_67_11 x0 x1 x2 x3 x4), .second, iv (j0_87_s0 x0 x1 x2 x3 x4), rv b8, rv b10, rv b12, .val .null, rv b14, iv (j0_179_s0 x0 x1 x2 x3 x4)] [(.int (0 : Int32))])) rfl ?_
                have q := jn201_26 _ _ X49 e49 N49
                rw [show (j0_201_s0 x0 x1 x2 x3 x4) = (0 : Int32) from ((if_neg hc183_23).trans (if_pos hc193_50))] at q
                exact q
              · skip
                refine Goes.st (B := T49.setTop (mkF m 196 #[iv x0, jv x1, .second, iv x2, jv x3, .second, iv x4, iv (w0_10 x0 x1 x2 x3 x4), jv (w0_17 x0 x1 x2 x3 x4), .second, iv (j0_45_10 x0 x1 x2 x3 x4), jv (j0_67_11 x0 x1 x2 x3 x4), .second, iv (j0_87_s0 x0 x1 x2 x3 x4), rv b8, rv b10, rv b12, .val .null, rv b14, iv (j0_179_s0 x0 x1 x2 x3 x4)] [])) (fun t k => ?_) ?_
                · refine XS.ifNo X49.here hx rfl (hb hby at_193) rfl ((if0 _ _).trans (feq hc193_50).1) ?_
                  exact k
                refine Goes.run X49 hx hown hci hcl hby (L := [(196, .iconst 1, 1), (197, .goto 4, 3)]) (by decide +kernel) rfl (g' := (mkF m 201 #[iv x0, jv x1, .second, iv x2, jv x3, .second, iv x4, iv (w0_10 x0 x1 x2 x3 x4), jv (w0_17 x0 x1 x2 x3 x4), .second, iv (j0_45_10 x0 x1 x2 x3 x4), jv (j0_67_11 x0 x1 x2 x3 x4), .second, iv (j0_87_s0 x0 x1 x2 x3 x4), rv b8, rv b10, rv b12, .val .null, rv b14, iv (j0_179_s0 x0 x1 x2 x3 x4)] [(.int (1 : Int32))])) rfl ?_
                have q := jn201_26 _ _ X49 e49 N49
                rw [show (j0_201_s0 x0 x1 x2 x3 x4) = (1 : Int32) from ((if_neg hc183_23).trans (if_neg hc193_50))] at q
                exact q
          by_cases hc159_18 : (j0_155_s0 x0 x1 x2 x3 x4) = (0 : Int32)
          · skip
            refine Goes.st (B := T15.setTop (mkF m 178 #[iv x0, jv x1, .second, iv x2, jv x3, .second, iv x4, iv (w0_10 x0 x1 x2 x3 x4), jv (w0_17 x0 x1 x2 x3 x4), .second, iv (j0_45_10 x0 x1 x2 x3 x4), jv (j0_67_11 x0 x1 x2 x3 x4), .second, iv (j0_87_s0 x0 x1 x2 x3 x4), rv b8, rv b10, rv b12, .val .null, rv b14, iv (j0_155_s0 x0 x1 x2 x3 x4)] [])) (fun t k => ?_) ?_
            · refine XS.ifYes X15.here hx rfl (pc0 := 159) (pc' := 178) rfl (hb hby at_159) rfl ((if0 _ _).trans (teq hc159_18).1) (by decide) (by decide) ?_
              exact k
            refine Goes.run X15 hx hown hci hcl hby (L := [(178, .iconst 0, 1)]) (by decide +kernel) rfl (g' := (mkF m 179 #[iv x0, jv x1, .second, iv x2, jv x3, .second, iv x4, iv (w0_10 x0 x1 x2 x3 x4), jv (w0_17 x0 x1 x2 x3 x4), .second, iv (j0_45_10 x0 x1 x2 x3 x4), jv (j0_67_11 x0 x1 x2 x3 x4), .second, iv (j0_87_s0 x0 x1 x2 x3 x4), rv b8, rv b10, rv b12, .val .null, rv b14, iv (j0_155_s0 x0 x1 x2 x3 x4)] [(.int (0 : Int32))])) rfl ?_
            have q := jn179_21 _ _ X15 e15 N15
            rw [show (j0_179_s0 x0 x1 x2 x3 x4) = (0 : Int32) from (if_pos hc159_18)] at q
            exact q
          · skip
            refine Goes.st (B := T15.setTop (mkF m 162 #[iv x0, jv x1, .second, iv x2, jv x3, .second, iv x4, iv (w0_10 x0 x1 x2 x3 x4), jv (w0_17 x0 x1 x2 x3 x4), .second, iv (j0_45_10 x0 x1 x2 x3 x4), jv (j0_67_11 x0 x1 x2 x3 x4), .second, iv (j0_87_s0 x0 x1 x2 x3 x4), rv b8, rv b10, rv b12, .val .null, rv b14, iv (j0_155_s0 x0 x1 x2 x3 x4)] [])) (fun t k => ?_) ?_
            · refine XS.ifNo X15.here hx rfl (hb hby at_159) rfl ((if0 _ _).trans (feq hc159_18).1) ?_
              exact k
            refine Goes.run X15 hx hown hci hcl hby (L := [(162, .aload 15, 2), (164, .aload 14, 2)]) (by decide +kernel) rfl (g' := (mkF m 166 #[iv x0, jv x1, .second, iv x2, jv x3, .second, iv x4, iv (w0_10 x0 x1 x2 x3 x4), jv (w0_17 x0 x1 x2 x3 x4), .second, iv (j0_45_10 x0 x1 x2 x3 x4), jv (j0_67_11 x0 x1 x2 x3 x4), .second, iv (j0_87_s0 x0 x1 x2 x3 x4), rv b8, rv b10, rv b12, .val .null, rv b14, iv (j0_155_s0 x0 x1 x2 x3 x4)] [(.ref b8), (.ref b10)])) rfl ?_
            obtain ⟨cq51, kq51, q51a, q51b, q51c⟩ := isOf hZ e15 E_b10
            obtain ⟨_, _, ⟨T51, L51, k51, n51⟩, -, X51, ⟨Lc51, hQ51, l51, y51, z51⟩, st51⟩ := X15.virtualBack hx (y := ym5) (z := ym5) hown (mvT hZ w_28) (mvT hZ w_29) (notFace_of_selects (args := #[]) (mvT hZ w_31)) (mvT hZ w_31) (mvT hZ w_30) (by decide) (backOf (W := 0) (rm6 l Z a0 hw [] b10 b8 (j0_45_10 x0 x1 x2 x3 x4) (j0_67_11 x0 x1 x2 x3 x4) (w0_10 x0 x1 x2 x3 x4) (w0_17 x0 x1 x2 x3 x4) h14 n0 Zn14 E_b10 F_country_b10 F_number_b10 E_b8 F_country_b8 F_number_b8 (Ne.symm ne_b8_b10)) hZ w_32 w_4 (by decide) (by decide)) q51a q51c (g := (mkF m 166 #[iv x0, jv x1, .second, iv x2, jv x3, .second, iv x4, iv (w0_10 x0 x1 x2 x3 x4), jv (w0_17 x0 x1 x2 x3 x4), .second, iv (j0_45_10 x0 x1 x2 x3 x4), jv (j0_67_11 x0 x1 x2 x3 x4), .second, iv (j0_87_s0 x0 x1 x2 x3 x4), rv b8, rv b10, rv b12, .val .null, rv b14, iv (j0_155_s0 x0 x1 x2 x3 x4)] [(.ref b8), (.ref b10)])) rfl (by rw [hml]; rfl) (Steps.refl _) (argsL := [(.ref b8)]) (rest := []) (lenOf pd0_2 rfl) rfl (by show 2 * 0 + _ ≤ _; exact Nat.le_of_eq rfl) (hb hby at_166) (fun _ _ => ⟨rfl, e15, (by decide : 4 + 0 ≤ _), (by decide : 7 + 0 ≤ _)⟩)
            dsimp only [Pt.U, Pt.locs, Pt.cells, Pt.slots] at X51 l51 y51 z51 st51 hQ51
            subst l51 y51 z51
            obtain ⟨rfl, N51q, e51⟩ := hQ51
            have N51 := Fr.app N15 N51q
            refine Goes.st (B := T51.setTop (mkF m 169 #[iv x0, jv x1, .second, iv x2, jv x3, .second, iv x4, iv (w0_10 x0 x1 x2 x3 x4), jv (w0_17 x0 x1 x2 x3 x4), .second, iv (j0_45_10 x0 x1 x2 x3 x4), jv (j0_67_11 x0 x1 x2 x3 x4), .second, iv (j0_87_s0 x0 x1 x2 x3 x4), rv b8, rv b10, rv b12, .val .null, rv b14, iv (j0_155_s0 x0 x1 x2 x3 x4)] [(.int (r6 (j0_45_10 x0 x1 x2 x3 x4) (j0_67_11 x0 x1 x2 x3 x4) (w0_10 x0 x1 x2 x3 x4) (w0_17 x0 x1 x2 x3 x4)))])) (fun t k => st51.trans k) ?_
            refine Goes.run X51 hx hown hci hcl hby (L := [(169, .iload 13, 2)]) (by decide +kernel) rfl (g' := (mkF m 171 #[iv x0, jv x1, .second, iv x2, jv x3, .second, iv x4, iv (w0_10 x0 x1 x2 x3 x4), jv (w0_17 x0 x1 x2 x3 x4), .second, iv (j0_45_10 x0 x1 x2 x3 x4), jv (j0_67_11 x0 x1 x2 x3 x4), .second, iv (j0_87_s0 x0 x1 x2 x3 x4), rv b8, rv b10, rv b12, .val .null, rv b14, iv (j0_155_s0 x0 x1 x2 x3 x4)] [(.int (j0_87_s0 x0 x1 x2 x3 x4)), (.int (r6 (j0_45_10 x0 x1 x2 x3 x4) (j0_67_11 x0 x1 x2 x3 x4) (w0_10 x0 x1 x2 x3 x4) (w0_17 x0 x1 x2 x3 x4)))])) rfl ?_
            by_cases hc171_52 : (r6 (j0_45_10 x0 x1 x2 x3 x4) (j0_67_11 x0 x1 x2 x3 x4) (w0_10 x0 x1 x2 x3 x4) (w0_17 x0 x1 x2 x3 x4)) = (j0_87_s0 x0 x1 x2 x3 x4)
            · skip
              refine Goes.st (B := T51.setTop (mkF m 174 #[iv x0, jv x1, .second, iv x2, jv x3, .second, iv x4, iv (w0_10 x0 x1 x2 x3 x4), jv (w0_17 x0 x1 x2 x3 x4), .second, iv (j0_45_10 x0 x1 x2 x3 x4), jv (j0_67_11 x0 x1 x2 x3 x4), .second, iv (j0_87_s0 x0 x1 x2 x3 x4), rv b8, rv b10, rv b12, .val .null, rv b14, iv (j0_155_s0 x0 x1 x2 x3 x4)] [])) (fun t k => ?_) ?_
              · refine XS.icmpNo X51.here hx rfl (hb hby at_171) rfl (teq hc171_52).2 ?_
                exact k
              refine Goes.run X51 hx hown hci hcl hby (L := [(174, .iconst 1, 1), (175, .goto 4, 3)]) (by decide +kernel) rfl (g' := (mkF m 179 #[iv x0, jv x1, .second, iv x2, jv x3, .second, iv x4, iv (w0_10 x0 x1 x2 x3 x4), jv (w0_17 x0 x1 x2 x3 x4), .second, iv (j0_45_10 x0 x1 x2 x3 x4), jv (j0_67_11 x0 x1 x2 x3 x4), .second, iv (j0_87_s0 x0 x1 x2 x3 x4), rv b8, rv b10, rv b12, .val .null, rv b14, iv (j0_155_s0 x0 x1 x2 x3 x4)] [(.int (1 : Int32))])) rfl ?_
              have q := jn179_21 _ _ X51 e51 N51
              rw [show (j0_179_s0 x0 x1 x2 x3 x4) = (1 : Int32) from ((if_neg hc159_18).trans (if_pos hc171_52))] at q
              exact q
            · skip
              refine Goes.st (B := T51.setTop (mkF m 178 #[iv x0, jv x1, .second, iv x2, jv x3, .second, iv x4, iv (w0_10 x0 x1 x2 x3 x4), jv (w0_17 x0 x1 x2 x3 x4), .second, iv (j0_45_10 x0 x1 x2 x3 x4), jv (j0_67_11 x0 x1 x2 x3 x4), .second, iv (j0_87_s0 x0 x1 x2 x3 x4), rv b8, rv b10, rv b12, .val .null, rv b14, iv (j0_155_s0 x0 x1 x2 x3 x4)] [])) (fun t k => ?_) ?_
              · refine XS.icmpYes X51.here hx rfl (pc0 := 171) (pc' := 178) rfl (hb hby at_171) rfl (feq hc171_52).2 (by decide) (by decide) ?_
                exact k
              refine Goes.run X51 hx hown hci hcl hby (L := [(178, .iconst 0, 1)]) (by decide +kernel) rfl (g' := (mkF m 179 #[iv x0, jv x1, .second, iv x2, jv x3, .second, iv x4, iv (w0_10 x0 x1 x2 x3 x4), jv (w0_17 x0 x1 x2 x3 x4), .second, iv (j0_45_10 x0 x1 x2 x3 x4), jv (j0_67_11 x0 x1 x2 x3 x4), .second, iv (j0_87_s0 x0 x1 x2 x3 x4), rv b8, rv b10, rv b12, .val .null, rv b14, iv (j0_155_s0 x0 x1 x2 x3 x4)] [(.int (0 : Int32))])) rfl ?_
              have q := jn179_21 _ _ X51 e51 N51
              rw [show (j0_179_s0 x0 x1 x2 x3 x4) = (0 : Int32) from ((if_neg hc159_18).trans (if_neg hc171_52))] at q
              exact q
        by_cases hc147_16 : (r6 (w0_10 x0 x1 x2 x3 x4) (w0_17 x0 x1 x2 x3 x4) (j0_45_10 x0 x1 x2 x3 x4) (j0_67_11 x0 x1 x2 x3 x4)) = (j0_87_s0 x0 x1 x2 x3 x4)
        · skip
          refine Goes.st (B := T15.setTop (mkF m 150 #[iv x0, jv x1, .second, iv x2, jv x3, .second, iv x4, iv (w0_10 x0 x1 x2 x3 x4), jv (w0_17 x0 x1 x2 x3 x4), .second, iv (j0_45_10 x0 x1 x2 x3 x4), jv (j0_67_11 x0 x1 x2 x3 x4), .second, iv (j0_87_s0 x0 x1 x2 x3 x4), rv b8, rv b10, rv b12, .val .null, rv b14, .unset] [])) (fun t k => ?_) ?_
          · refine XS.icmpNo X15.here hx rfl (hb hby at_147) rfl (teq hc147_16).2 ?_
            exact k
          refine Goes.run X15 hx hown hci hcl hby (L := [(150, .iconst 1, 1), (151, .goto 4, 3)]) (by decide +kernel) rfl (g' := (mkF m 155 #[iv x0, jv x1, .second, iv x2, jv x3, .second, iv x4, iv (w0_10 x0 x1 x2 x3 x4), jv (w0_17 x0 x1 x2 x3 x4), .second, iv (j0_45_10 x0 x1 x2 x3 x4), jv (j0_67_11 x0 x1 x2 x3 x4), .second, iv (j0_87_s0 x0 x1 x2 x3 x4), rv b8, rv b10, rv b12, .val .null, rv b14, .unset] [(.int (1 : Int32))])) rfl ?_
          have q := jn155_17
          rw [show (j0_155_s0 x0 x1 x2 x3 x4) = (1 : Int32) from (if_pos hc147_16)] at q
          exact q
        · skip
          refine Goes.st (B := T15.setTop (mkF m 154 #[iv x0, jv x1, .second, iv x2, jv x3, .second, iv x4, iv (w0_10 x0 x1 x2 x3 x4), jv (w0_17 x0 x1 x2 x3 x4), .second, iv (j0_45_10 x0 x1 x2 x3 x4), jv (j0_67_11 x0 x1 x2 x3 x4), .second, iv (j0_87_s0 x0 x1 x2 x3 x4), rv b8, rv b10, rv b12, .val .null, rv b14, .unset] [])) (fun t k => ?_) ?_
          · refine XS.icmpYes X15.here hx rfl (pc0 := 147) (pc' := 154) rfl (hb hby at_147) rfl (feq hc147_16).2 (by decide) (by decide) ?_
            exact k
          refine Goes.run X15 hx hown hci hcl hby (L := [(154, .iconst 0, 1)]) (by decide +kernel) rfl (g' := (mkF m 155 #[iv x0, jv x1, .second, iv x2, jv x3, .second, iv x4, iv (w0_10 x0 x1 x2 x3 x4), jv (w0_17 x0 x1 x2 x3 x4), .second, iv (j0_45_10 x0 x1 x2 x3 x4), jv (j0_67_11 x0 x1 x2 x3 x4), .second, iv (j0_87_s0 x0 x1 x2 x3 x4), rv b8, rv b10, rv b12, .val .null, rv b14, .unset] [(.int (0 : Int32))])) rfl ?_
          have q := jn155_17
          rw [show (j0_155_s0 x0 x1 x2 x3 x4) = (0 : Int32) from (if_neg hc147_16)] at q
          exact q
      by_cases hc71_5 : (w0_10 x0 x1 x2 x3 x4) = (j0_45_10 x0 x1 x2 x3 x4)
      · skip
        refine Goes.st (B := s₁.setTop (mkF m 74 #[iv x0, jv x1, .second, iv x2, jv x3, .second, iv x4, iv (w0_10 x0 x1 x2 x3 x4), jv (w0_17 x0 x1 x2 x3 x4), .second, iv (j0_45_10 x0 x1 x2 x3 x4), jv (j0_67_11 x0 x1 x2 x3 x4), .second, .unset, .unset, .unset, .unset, .unset, .unset, .unset] [])) (fun t k => ?_) ?_
        · refine XS.icmpNo X0.here hx rfl (hb hby at_71) rfl (teq hc71_5).2 ?_
          exact k
        refine Goes.run X0 hx hown hci hcl hby (L := [(74, .lload 8, 2), (76, .lload 11, 2), (78, .lcmp, 1)]) (by decide +kernel) rfl (g' := (mkF m 79 #[iv x0, jv x1, .second, iv x2, jv x3, .second, iv x4, iv (w0_10 x0 x1 x2 x3 x4), jv (w0_17 x0 x1 x2 x3 x4), .second, iv (j0_45_10 x0 x1 x2 x3 x4), jv (j0_67_11 x0 x1 x2 x3 x4), .second, .unset, .unset, .unset, .unset, .unset, .unset, .unset] [(.int (lcmpW (w0_17 x0 x1 x2 x3 x4) (j0_67_11 x0 x1 x2 x3 x4)))])) rfl ?_
        by_cases hc79_53 : (w0_17 x0 x1 x2 x3 x4) = (j0_67_11 x0 x1 x2 x3 x4)
        · skip
          refine Goes.st (B := s₁.setTop (mkF m 82 #[iv x0, jv x1, .second, iv x2, jv x3, .second, iv x4, iv (w0_10 x0 x1 x2 x3 x4), jv (w0_17 x0 x1 x2 x3 x4), .second, iv (j0_45_10 x0 x1 x2 x3 x4), jv (j0_67_11 x0 x1 x2 x3 x4), .second, .unset, .unset, .unset, .unset, .unset, .unset, .unset] [])) (fun t k => ?_) ?_
          · refine XS.ifNo X0.here hx rfl (hb hby at_79) rfl (teqL hc79_53).2 ?_
            exact k
          refine Goes.run X0 hx hown hci hcl hby (L := [(82, .iconst 1, 1), (83, .goto 4, 3)]) (by decide +kernel) rfl (g' := (mkF m 87 #[iv x0, jv x1, .second, iv x2, jv x3, .second, iv x4, iv (w0_10 x0 x1 x2 x3 x4), jv (w0_17 x0 x1 x2 x3 x4), .second, iv (j0_45_10 x0 x1 x2 x3 x4), jv (j0_67_11 x0 x1 x2 x3 x4), .second, .unset, .unset, .unset, .unset, .unset, .unset, .unset] [(.int (1 : Int32))])) rfl ?_
          have q := jn87_7
          rw [show (j0_87_s0 x0 x1 x2 x3 x4) = (1 : Int32) from ((if_pos hc71_5).trans (if_pos hc79_53))] at q
          exact q
        · skip
          refine Goes.st (B := s₁.setTop (mkF m 86 #[iv x0, jv x1, .second, iv x2, jv x3, .second, iv x4, iv (w0_10 x0 x1 x2 x3 x4), jv (w0_17 x0 x1 x2 x3 x4), .second, iv (j0_45_10 x0 x1 x2 x3 x4), jv (j0_67_11 x0 x1 x2 x3 x4), .second, .unset, .unset, .unset, .unset, .unset, .unset, .unset] [])) (fun t k => ?_) ?_
          · refine XS.ifYes X0.here hx rfl (pc0 := 79) (pc' := 86) rfl (hb hby at_79) rfl (feqL hc79_53).2 (by decide) (by decide) ?_
            exact k
          refine Goes.run X0 hx hown hci hcl hby (L := [(86, .iconst 0, 1)]) (by decide +kernel) rfl (g' := (mkF m 87 #[iv x0, jv x1, .second, iv x2, jv x3, .second, iv x4, iv (w0_10 x0 x1 x2 x3 x4), jv (w0_17 x0 x1 x2 x3 x4), .second, iv (j0_45_10 x0 x1 x2 x3 x4), jv (j0_67_11 x0 x1 x2 x3 x4), .second, .unset, .unset, .unset, .unset, .unset, .unset, .unset] [(.int (0 : Int32))])) rfl ?_
          have q := jn87_7
          rw [show (j0_87_s0 x0 x1 x2 x3 x4) = (0 : Int32) from ((if_pos hc71_5).trans (if_neg hc79_53))] at q
          exact q
      · skip
        refine Goes.st (B := s₁.setTop (mkF m 86 #[iv x0, jv x1, .second, iv x2, jv x3, .second, iv x4, iv (w0_10 x0 x1 x2 x3 x4), jv (w0_17 x0 x1 x2 x3 x4), .second, iv (j0_45_10 x0 x1 x2 x3 x4), jv (j0_67_11 x0 x1 x2 x3 x4), .second, .unset, .unset, .unset, .unset, .unset, .unset, .unset] [])) (fun t k => ?_) ?_
        · refine XS.icmpYes X0.here hx rfl (pc0 := 71) (pc' := 86) rfl (hb hby at_71) rfl (feq hc71_5).2 (by decide) (by decide) ?_
          exact k
        refine Goes.run X0 hx hown hci hcl hby (L := [(86, .iconst 0, 1)]) (by decide +kernel) rfl (g' := (mkF m 87 #[iv x0, jv x1, .second, iv x2, jv x3, .second, iv x4, iv (w0_10 x0 x1 x2 x3 x4), jv (w0_17 x0 x1 x2 x3 x4), .second, iv (j0_45_10 x0 x1 x2 x3 x4), jv (j0_67_11 x0 x1 x2 x3 x4), .second, .unset, .unset, .unset, .unset, .unset, .unset, .unset] [(.int (0 : Int32))])) rfl ?_
        have q := jn87_7
        rw [show (j0_87_s0 x0 x1 x2 x3 x4) = (0 : Int32) from (if_neg hc71_5)] at q
        exact q
    by_cases hc49_3 : (x4 &&& (2 : Int32)) = (0 : Int32)
    · skip
      refine Goes.st (B := s₁.setTop (mkF m 59 #[iv x0, jv x1, .second, iv x2, jv x3, .second, iv x4, iv (w0_10 x0 x1 x2 x3 x4), jv (w0_17 x0 x1 x2 x3 x4), .second, iv (j0_45_10 x0 x1 x2 x3 x4), .unset, .unset, .unset, .unset, .unset, .unset, .unset, .unset, .unset] [])) (fun t k => ?_) ?_
      · refine XS.ifYes X0.here hx rfl (pc0 := 49) (pc' := 59) rfl (hb hby at_49) rfl ((if0 _ _).trans (teq hc49_3).1) (by decide) (by decide) ?_
        exact k
      refine Goes.run X0 hx hown hci hcl hby (L := [(59, .lload 4, 2), (61, .ldc2_w 8, 3), (64, .land, 1), (65, .lstore 11, 2)]) (by decide +kernel) rfl (g' := (mkF m 67 #[iv x0, jv x1, .second, iv x2, jv x3, .second, iv x4, iv (w0_10 x0 x1 x2 x3 x4), jv (w0_17 x0 x1 x2 x3 x4), .second, iv (j0_45_10 x0 x1 x2 x3 x4), jv (w0_65 x0 x1 x2 x3 x4), .second, .unset, .unset, .unset, .unset, .unset, .unset, .unset] [])) rfl ?_
      have q := jn67_4
      rw [show (j0_67_11 x0 x1 x2 x3 x4) = (w0_65 x0 x1 x2 x3 x4) from (if_pos hc49_3)] at q
      exact q
    · skip
      refine Goes.st (B := s₁.setTop (mkF m 52 #[iv x0, jv x1, .second, iv x2, jv x3, .second, iv x4, iv (w0_10 x0 x1 x2 x3 x4), jv (w0_17 x0 x1 x2 x3 x4), .second, iv (j0_45_10 x0 x1 x2 x3 x4), .unset, .unset, .unset, .unset, .unset, .unset, .unset, .unset, .unset] [])) (fun t k => ?_) ?_
      · refine XS.ifNo X0.here hx rfl (hb hby at_49) rfl ((if0 _ _).trans (feq hc49_3).1) ?_
        exact k
      refine Goes.run X0 hx hown hci hcl hby (L := [(52, .lload 8, 2), (54, .lstore 11, 2), (56, .goto 11, 3)]) (by decide +kernel) rfl (g' := (mkF m 67 #[iv x0, jv x1, .second, iv x2, jv x3, .second, iv x4, iv (w0_10 x0 x1 x2 x3 x4), jv (w0_17 x0 x1 x2 x3 x4), .second, iv (j0_45_10 x0 x1 x2 x3 x4), jv (w0_17 x0 x1 x2 x3 x4), .second, .unset, .unset, .unset, .unset, .unset, .unset, .unset] [])) rfl ?_
      have q := jn67_4
      rw [show (j0_67_11 x0 x1 x2 x3 x4) = (w0_17 x0 x1 x2 x3 x4) from (if_neg hc49_3)] at q
      exact q
  by_cases hc23_1 : (x4 &&& (1 : Int32)) = (0 : Int32)
  · skip
    refine Goes.st (B := s₁.setTop (mkF m 33 #[iv x0, jv x1, .second, iv x2, jv x3, .second, iv x4, iv (w0_10 x0 x1 x2 x3 x4), jv (w0_17 x0 x1 x2 x3 x4), .second, .unset, .unset, .unset, .unset, .unset, .unset, .unset, .unset, .unset, .unset] [])) (fun t k => ?_) ?_
    · refine XS.ifYes X0.here hx rfl (pc0 := 23) (pc' := 33) rfl (hb hby at_23) rfl ((if0 _ _).trans (teq hc23_1).1) (by decide) (by decide) ?_
      exact k
    refine Goes.run X0 hx hown hci hcl hby (L := [(33, .iconst 1, 1), (34, .iload_n 3, 1), (35, .ldc 7, 2), (37, .iand, 1), (38, .sipush 999, 3), (41, .irem, 1)]) (by decide +kernel) rfl (g' := (mkF m 42 #[iv x0, jv x1, .second, iv x2, jv x3, .second, iv x4, iv (w0_10 x0 x1 x2 x3 x4), jv (w0_17 x0 x1 x2 x3 x4), .second, .unset, .unset, .unset, .unset, .unset, .unset, .unset, .unset, .unset, .unset] [(.int ((w0_41l x0 x1 x2 x3 x4) - ((w0_41l x0 x1 x2 x3 x4) / (999 : Int32)) * (999 : Int32))), (.int (1 : Int32))])) rfl ?_
    refine Goes.run X0 hx hown hci hcl hby (L := [(42, .iadd, 1), (43, .istore 10, 2)]) (by decide +kernel) rfl (g' := (mkF m 45 #[iv x0, jv x1, .second, iv x2, jv x3, .second, iv x4, iv (w0_10 x0 x1 x2 x3 x4), jv (w0_17 x0 x1 x2 x3 x4), .second, iv (w0_43 x0 x1 x2 x3 x4), .unset, .unset, .unset, .unset, .unset, .unset, .unset, .unset, .unset] [])) rfl ?_
    have q := jn45_2
    rw [show (j0_45_10 x0 x1 x2 x3 x4) = (w0_43 x0 x1 x2 x3 x4) from (if_pos hc23_1)] at q
    exact q
  · skip
    refine Goes.st (B := s₁.setTop (mkF m 26 #[iv x0, jv x1, .second, iv x2, jv x3, .second, iv x4, iv (w0_10 x0 x1 x2 x3 x4), jv (w0_17 x0 x1 x2 x3 x4), .second, .unset, .unset, .unset, .unset, .unset, .unset, .unset, .unset, .unset, .unset] [])) (fun t k => ?_) ?_
    · refine XS.ifNo X0.here hx rfl (hb hby at_23) rfl ((if0 _ _).trans (feq hc23_1).1) ?_
      exact k
    refine Goes.run X0 hx hown hci hcl hby (L := [(26, .iload 7, 2), (28, .istore 10, 2), (30, .goto 15, 3)]) (by decide +kernel) rfl (g' := (mkF m 45 #[iv x0, jv x1, .second, iv x2, jv x3, .second, iv x4, iv (w0_10 x0 x1 x2 x3 x4), jv (w0_17 x0 x1 x2 x3 x4), .second, iv (w0_10 x0 x1 x2 x3 x4), .unset, .unset, .unset, .unset, .unset, .unset, .unset, .unset, .unset] [])) rfl ?_
    have q := jn45_2
    rw [show (j0_45_10 x0 x1 x2 x3 x4) = (w0_10 x0 x1 x2 x3 x4) from (if_neg hc23_1)] at q
    exact q
set_option maxRecDepth 65536 in
set_option maxHeartbeats 40000000 in
theorem comes_1 {Post : Tables → Env → Array Value → State → Outcome → State → Prop} (hpost : ∀ tb e args s v u, (limb_1_1.after args s (.returned v) u = true ∧ limb_1_2.after args s (.returned v) u = true ∧ True) → FrameEnd s (.returned v) u (Jvm.fieldLocs frame_1_writes args s ++ Jvm.arrayLocs frame_1_arrays args s ++ Jvm.staticLocs frame_1_statics s) 16 128 → Post tb e args s (.returned v) u) :
    ArmFor flags0 classFile x code maxLocals ret World_1 tables_1 room_1 Calls_1 rest_1 Pre_1 Post := by
  intro l hfl _ _ p e ha hc hk s m args below hf hA hF happ hP
  obtain ⟨hcalls, hrest, hpre⟩ := hP
  obtain ⟨-, -, -, hnamed, -, -, -, hat⟩ := (Spec.applies_iff hf).mp happ
  obtain ⟨hg, hn⟩ := and_e (Cond.before_iff.mp (show (Jvm.Cond.and given_1 narrow_1).before args s = true from hpre))
  obtain ⟨g0, g0r⟩ := and_e hg
  obtain ⟨g1, g1r⟩ := and_e g0r
  obtain ⟨g2, g2r⟩ := and_e g1r
  obtain ⟨g3, g3r⟩ := and_e g2r
  obtain ⟨g4, g5⟩ := and_e g3r
  obtain ⟨w0, w1, w2, w3, w4, rfl⟩ : ∃ w0 w1 w2 w3 w4 : Value, args = #[w0, w1, w2, w3, w4] := by
    have hs : args.size = 5 := by simpa [Cond.value, given_1] using g0
    obtain ⟨L⟩ := args
    match L, hs with
    | [w0, w1, w2, w3, w4], _ => exact ⟨w0, w1, w2, w3, w4, rfl⟩
  have hw := fun d (hd : d ∈ tables_1) => atoms_spec (ws := Jvm.Cond.code x code maxLocals ret :: tables_1) hat d (List.mem_cons_of_mem _ hd)
  have hfit : Fit s := fun {y c} hc i hi => by
    obtain ⟨ha, rfl⟩ := Array.getElem?_eq_some_iff.mp hc
    have q := List.all_eq_true.mp ((Array.all_eq_true_iff_forall_mem.mp hF) _ (Array.getElem_mem ha)) i (List.mem_range.mpr hi)
    simpa [Array.getElem?_eq_getElem hi] using q
  obtain ⟨i0, ei0⟩ := is_v g1
  obtain rfl : w0 = (.int i0) := Option.some.inj ei0
  obtain ⟨i1, ei1⟩ := isL_v g2
  obtain rfl : w1 = (.long i1) := Option.some.inj ei1
  obtain ⟨i2, ei2⟩ := is_v g3
  obtain rfl : w2 = (.int i2) := Option.some.inj ei2
  obtain ⟨i3, ei3⟩ := isL_v g4
  obtain rfl : w3 = (.long i3) := Option.some.inj ei3
  obtain ⟨i4, ei4⟩ := is_v g5
  obtain rfl : w4 = (.int i4) := Option.some.inj ei4
  obtain ⟨hsets, hown0⟩ := atoms_of _ (rest_1_c_eq ▸ (show rest_1_c.before _ s = true from hrest))
  have hr0 := Cond.before_iff.mp hown0
  have z0 := hsets _ (List.mem_of_getElem? (i := 0) rfl)
  have z1 := hsets _ (List.mem_of_getElem? (i := 1) rfl)
  have z2 := Cond.before_iff.mp (hsets _ (List.mem_of_getElem? (i := 2) rfl))
  have z3 := Cond.before_iff.mp (hsets _ (List.mem_of_getElem? (i := 3) rfl))
  have z4 := Cond.before_iff.mp (hsets _ (List.mem_of_getElem? (i := 4) rfl))
  have z5 := Cond.before_iff.mp (hsets _ (List.mem_of_getElem? (i := 5) rfl))
  obtain ⟨u, cu, SC, UC⟩ := own_cache z1 z2 z4 z5
  obtain ⟨n, o, h1, h2, h3, v, L, rfl, hv, hq⟩ := rm0 l s _ hw tables_1 i0 i1 i2 i3 i4 u cu s.heap s.heap.size (Nat.le_refl _) (Old.start s) SC UC p e ha hc hk s m _ below hf ((Spec.applies_iff_loose hf).mp happ).1 ⟨rfl, State.Warmed39.refl s, rfl⟩ trivial
  have N := hv.2
  have hv1 : v = some (.int 1) := hv.1.trans (congrArg (fun z => some (Value.int z)) (law_true i0 i1 i2 i3 i4))
  subst hv1
  refine ⟨n, _, h1, h2, h3, hpost _ _ _ _ _ _ ⟨Cond.after_iff.mpr rfl, Cond.after_iff.mpr (eq_i res_at (Term.int_eval (1)) rfl), trivial⟩ ⟨hq.1, hq.2.1, (hq.2.2.sift fun y hy => Or.inr (N y hy)).mono (by decide) (by decide)⟩⟩
theorem main_1_1 : Claimed_1_1 := comes_1 fun _ _ _ _ _ _ h hF => ⟨h.1, hF⟩
theorem main_1_2 : Claimed_1_2 := comes_1 fun _ _ _ _ _ _ h hF => ⟨h.2.1, hF⟩
end Jvm.Pilot.@@N@@
namespace Jvm.Pilot.@@N@@
open Jvm Jvm.ClassFile Sem Op Lib Jvm.Free Jvm.Stand Jvm.Pilot.@@N@@.Jvm.D
/-! MADE BY PROGRAM (witnessworld.py) out of the Statement's table words and the real class files: 16 classes; the members and pool entries that the words name. The judged class is class 1, her method 1. -/
namespace start1
open Jvm.ClassFile
def u (s : String) : CpInfo := .utf8 (stringToUtf16 s)
/-- a pool by its gaps: so many unusable entries, then the entry; so many at the end -/
def gap : Nat → List CpInfo → List CpInfo
  | 0, r => r
  | n + 1, r => .unusable :: gap n r
def poolList (es : List (Nat × CpInfo)) (last : Nat) : List CpInfo := es.foldr (fun e r => gap e.1 (e.2 :: r)) (gap last [])
def pool (es : List (Nat × CpInfo)) (last : Nat) : Array CpInfo := ⟨poolList es last⟩
def fileOf (pool : Array CpInfo) (this : Nat) (attrs : Array Attribute := #[]) (ms : Array MethodInfo := #[]) (fl : Nat := 33) (sup : Nat := 0) (ifs : Array Nat := #[]) (fds : Array FieldInfo := #[]) : ClassFile where
  minorVersion := 0
  majorVersion := 65
  constantPool := pool
  accessFlags := fl
  thisClass := this
  superClass := sup
  interfaces := ifs
  fields := fds
  methods := ms
  attributes := attrs
def plain (name : String) (sup : Option ClassId) : Class where
  name := name
  kind := .ordinary
  loader := none
  accessFlags := 33
  super := sup
  interfaces := #[]
  cf := none
  fields := #[]
  methods := #[]
  instanceTypes := #[]
  staticTypes := #[]
  resolved := #[]
  callSites := []
  init := .initialized
  statics := none
  mirror := none

def pool0 : Array CpInfo := pool [(5, u "<init>"), (0, u "()V"), (1, .class_ 10), (1, u "java/lang/Object")] 113

def k0c0 : Code := { maxStack := 0, maxLocals := 1, code := object_method_1_code, exceptionTable := #[], attributes := #[] }
def k0m0 : Method := { name := "<init>", desc := "()V", sig := { parameters := [], returnType := none }, accessFlags := 1, code := some k0c0 }
/-- java/lang/Object -/
def k0 : Class := { plain "java/lang/Object" none with
  accessFlags := 33
  interfaces := #[]
  cf := some (fileOf pool0 8 #[] #[{ accessFlags := 1, nameIndex := 5, descriptorIndex := 6, attributes := #[] }] 33 0 #[] #[])
  fields := #[]
  methods := #[k0m0]
  instanceTypes := #[]
  staticTypes := #[]
  resolved := Array.replicate 124 none
  statics := none }

def pool1 : Array CpInfo := pool [(2, .class_ 4), (1, u "java/lang/Object"), (0, u "<init>"), (0, u "()V"), (0, .integer 2147483647), (0, .long 4294967295), (1, .class_ 11), (0, u "com/example/marks_across_domains/marksacrossdomains/OrganisationId"), (0, .methodref 10 13), (0, .nameAndType 5 14), (0, u "(IJ)V"), (0, .methodref 16 17), (0, .class_ 18), (0, .nameAndType 19 20), (0, u "java/lang/Long"), (0, u "valueOf"), (0, u "(J)Ljava/lang/Long;"), (0, .methodref 10 22), (0, .nameAndType 23 24), (0, u "equals"), (0, u "(Ljava/lang/Object;)Z"), (0, .class_ 26), (0, u "com/example/marks_across_domains/marksacrossdomains/OrganisationIdEqualsPinLaw"), (2, u "law"), (0, u "(IJIJI)Z")] 3

def k1m0 : Method := { name := "<init>", desc := "()V", sig := { parameters := [], returnType := none }, accessFlags := 2, code := none }
def k1c1 : Code := { maxStack := 5, maxLocals := 20, code := code, exceptionTable := #[], attributes := #[] }
def k1m1 : Method := { name := "law", desc := "(IJIJI)Z", sig := { parameters := [.int, .long, .int, .long, .int], returnType := some .boolean }, accessFlags := 9, code := some k1c1 }
/-- com/example/marks_across_domains/marksacrossdomains/OrganisationIdEqualsPinLaw -/
def k1 : Class := { plain "com/example/marks_across_domains/marksacrossdomains/OrganisationIdEqualsPinLaw" (some 0) with
  accessFlags := 49
  interfaces := #[]
  cf := some (fileOf pool1 25 #[] #[{ accessFlags := 2, nameIndex := 5, descriptorIndex := 6, attributes := #[] }, { accessFlags := 9, nameIndex := 29, descriptorIndex := 30, attributes := #[] }] 49 2 #[] #[])
  fields := #[]
  methods := #[k1m0, k1m1]
  instanceTypes := #[]
  staticTypes := #[]
  resolved := Array.replicate 34 none
  statics := none }

def pool2 : Array CpInfo := pool [(1, .class_ 2), (0, u "java/lang/Comparable"), (0, .class_ 4), (0, u "java/lang/Object")] 7

/-- java/lang/Comparable -/
def k2 : Class := { plain "java/lang/Comparable" (some 0) with
  accessFlags := 1537
  interfaces := #[]
  cf := some (fileOf pool2 1 #[] #[] 1537 3 #[] #[])
  fields := #[]
  methods := #[]
  instanceTypes := #[]
  staticTypes := #[]
  resolved := Array.replicate 12 none
  statics := none }

def pool3 : Array CpInfo := pool [(1, .methodref 2 3), (0, .class_ 4), (0, .nameAndType 5 6), (0, u "java/lang/Object"), (0, u "<init>"), (0, u "()V"), (0, .methodref 8 9), (0, .class_ 10), (0, .nameAndType 11 12), (0, u "com/example/marks_across_domains/marksacrossdomains/OrganisationId"), (0, u "rangeProblem"), (0, u "(JJ)Ljava/lang/String;"), (8, .fieldref 8 22), (0, .nameAndType 23 24), (0, u "country"), (0, u "I"), (0, .fieldref 8 26), (0, .nameAndType 27 28), (0, u "number"), (0, u "J"), (21, .long 999), (10, .long 4294967295), (3, u "(IJ)V"), (55, .class_ 122), (0, u "java/lang/Comparable"), (0, u "MAX_COUNTRY"), (2, u "MAX_NUMBER"), (6, u "equals"), (0, u "(Ljava/lang/Object;)Z")] 26

def k3c0 : Code := { maxStack := 4, maxLocals := 5, code := prog_15_method_1_code, exceptionTable := #[], attributes := #[] }
def k3m0 : Method := { name := "<init>", desc := "(IJ)V", sig := { parameters := [.int, .long], returnType := none }, accessFlags := 1, code := some k3c0 }
def k3c1 : Code := { maxStack := 4, maxLocals := 3, code := prog_15_method_7_code, exceptionTable := #[], attributes := #[] }
def k3m1 : Method := { name := "equals", desc := "(Ljava/lang/Object;)Z", sig := { parameters := [(.object "java/lang/Object")], returnType := some .boolean }, accessFlags := 1, code := some k3c1 }
def k3c2 : Code := { maxStack := 4, maxLocals := 5, code := prog_15_method_10_code, exceptionTable := #[], attributes := #[] }
def k3m2 : Method := { name := "rangeProblem", desc := "(JJ)Ljava/lang/String;", sig := { parameters := [.long, .long], returnType := some (.object "java/lang/String") }, accessFlags := 10, code := some k3c2 }
/-- com/example/marks_across_domains/marksacrossdomains/OrganisationId -/
def k3 : Class := { plain "com/example/marks_across_domains/marksacrossdomains/OrganisationId" (some 0) with
  accessFlags := 49
  interfaces := #[2]
  cf := some (fileOf pool3 8 #[] #[{ accessFlags := 1, nameIndex := 5, descriptorIndex := 65, attributes := #[] }, { accessFlags := 1, nameIndex := 133, descriptorIndex := 134, attributes := #[] }, { accessFlags := 10, nameIndex := 11, descriptorIndex := 12, attributes := #[] }] 49 2 #[121] #[{ accessFlags := 25, nameIndex := 123, descriptorIndex := 24, attributes := #[] }, { accessFlags := 25, nameIndex := 126, descriptorIndex := 28, attributes := #[] }, { accessFlags := 18, nameIndex := 23, descriptorIndex := 24, attributes := #[] }, { accessFlags := 18, nameIndex := 27, descriptorIndex := 28, attributes := #[] }])
  fields := #[{ name := "MAX_COUNTRY", type := .int, accessFlags := 25, slot := 0, constantValue := 0 }, { name := "MAX_NUMBER", type := .long, accessFlags := 25, slot := 1, constantValue := 0 }, { name := "country", type := .int, accessFlags := 18, slot := 0, constantValue := 0 }, { name := "number", type := .long, accessFlags := 18, slot := 1, constantValue := 0 }]
  methods := #[k3m0, k3m1, k3m2]
  instanceTypes := #[.int, .long]
  staticTypes := #[.int, .long]
  resolved := Array.replicate 161 none
  statics := none }

def pool4 : Array CpInfo := pool [(1, .class_ 2), (0, u "java/io/Serializable"), (0, .class_ 4), (0, u "java/lang/Object")] 2

/-- java/io/Serializable -/
def k4 : Class := { plain "java/io/Serializable" (some 0) with
  accessFlags := 1537
  interfaces := #[]
  cf := some (fileOf pool4 1 #[] #[] 1537 3 #[] #[])
  fields := #[]
  methods := #[]
  instanceTypes := #[]
  staticTypes := #[]
  resolved := Array.replicate 7 none
  statics := none }

def pool5 : Array CpInfo := pool [(1, .methodref 2 3), (0, .class_ 4), (0, .nameAndType 5 6), (0, u "java/lang/Object"), (0, u "<init>"), (0, u "()V"), (1, .class_ 10), (1, u "java/lang/Number"), (2, .class_ 14), (0, u "java/io/Serializable"), (0, u "serialVersionUID"), (0, u "J")] 20

def k5c0 : Code := { maxStack := 1, maxLocals := 1, code := jdk_18_method_1_code, exceptionTable := #[], attributes := #[] }
def k5m0 : Method := { name := "<init>", desc := "()V", sig := { parameters := [], returnType := none }, accessFlags := 1, code := some k5c0 }
/-- java/lang/Number -/
def k5 : Class := { plain "java/lang/Number" (some 0) with
  accessFlags := 1057
  interfaces := #[4]
  cf := some (fileOf pool5 8 #[] #[{ accessFlags := 1, nameIndex := 5, descriptorIndex := 6, attributes := #[] }] 1057 2 #[13] #[{ accessFlags := 26, nameIndex := 15, descriptorIndex := 16, attributes := #[] }])
  fields := #[{ name := "serialVersionUID", type := .long, accessFlags := 26, slot := 0, constantValue := 0 }]
  methods := #[k5m0]
  instanceTypes := #[]
  staticTypes := #[.long]
  resolved := Array.replicate 37 none
  statics := none }

def pool6 : Array CpInfo := pool [(1, .class_ 2), (0, u "java/lang/constant/Constable"), (0, .class_ 4), (0, u "java/lang/Object")] 6

/-- java/lang/constant/Constable -/
def k6 : Class := { plain "java/lang/constant/Constable" (some 0) with
  accessFlags := 1537
  interfaces := #[]
  cf := some (fileOf pool6 1 #[] #[] 1537 3 #[] #[])
  fields := #[]
  methods := #[]
  instanceTypes := #[]
  staticTypes := #[]
  resolved := Array.replicate 11 none
  statics := none }

def pool7 : Array CpInfo := pool [(1, .class_ 2), (0, u "java/lang/constant/ConstantDesc"), (0, .class_ 4), (0, u "java/lang/Object")] 32

/-- java/lang/constant/ConstantDesc -/
def k7 : Class := { plain "java/lang/constant/ConstantDesc" (some 0) with
  accessFlags := 1537
  interfaces := #[]
  cf := some (fileOf pool7 1 #[] #[] 1537 3 #[] #[])
  fields := #[]
  methods := #[]
  instanceTypes := #[]
  staticTypes := #[]
  resolved := Array.replicate 37 none
  statics := none }

def pool8 : Array CpInfo := pool [(1, .class_ 2), (0, u "java/lang/Long"), (55, .nameAndType 59 60), (0, u "<init>"), (0, u "()V"), (24, u "valueOf"), (143, u "(J)Ljava/lang/Long;"), (0, .long 18446744073709551488), (1, .long 127), (1, .fieldref 235 236), (0, .class_ 237), (0, .nameAndType 238 239), (0, u "java/lang/Long$LongCache"), (0, u "cache"), (0, u "[Ljava/lang/Long;"), (0, .methodref 1 241), (0, .nameAndType 59 242), (0, u "(J)V"), (27, .methodref 271 58), (0, .class_ 272), (0, u "java/lang/Number"), (0, .fieldref 1 274), (0, .nameAndType 275 276), (0, u "value"), (0, u "J"), (84, u "TYPE"), (0, u "Ljava/lang/Class;"), (0, .class_ 364), (0, u "java/lang/Comparable"), (0, .class_ 366), (0, u "java/lang/constant/Constable"), (0, .class_ 368), (0, u "java/lang/constant/ConstantDesc"), (0, u "MIN_VALUE"), (1, u "MAX_VALUE"), (4, u "SIZE"), (0, u "I"), (1, u "BYTES"), (1, u "serialVersionUID")] 142

def k8c0 : Code := { maxStack := 4, maxLocals := 3, code := jdk_35_method_24_code, exceptionTable := #[], attributes := #[] }
def k8m0 : Method := { name := "valueOf", desc := "(J)Ljava/lang/Long;", sig := { parameters := [.long], returnType := some (.object "java/lang/Long") }, accessFlags := 9, code := some k8c0 }
def k8c1 : Code := { maxStack := 3, maxLocals := 3, code := jdk_35_method_26_code, exceptionTable := #[], attributes := #[] }
def k8m1 : Method := { name := "<init>", desc := "(J)V", sig := { parameters := [.long], returnType := none }, accessFlags := 1, code := some k8c1 }
/-- java/lang/Long -/
def k8 : Class := { plain "java/lang/Long" (some 5) with
  accessFlags := 49
  interfaces := #[2, 6, 7]
  cf := some (fileOf pool8 1 #[.nestMembers #[235]] #[{ accessFlags := 9, nameIndex := 85, descriptorIndex := 229, attributes := #[] }, { accessFlags := 1, nameIndex := 59, descriptorIndex := 242, attributes := #[] }] 49 271 #[363, 365, 367] #[{ accessFlags := 25, nameIndex := 369, descriptorIndex := 276, attributes := #[] }, { accessFlags := 25, nameIndex := 371, descriptorIndex := 276, attributes := #[] }, { accessFlags := 25, nameIndex := 361, descriptorIndex := 362, attributes := #[] }, { accessFlags := 18, nameIndex := 275, descriptorIndex := 276, attributes := #[] }, { accessFlags := 25, nameIndex := 376, descriptorIndex := 377, attributes := #[] }, { accessFlags := 25, nameIndex := 379, descriptorIndex := 377, attributes := #[] }, { accessFlags := 26, nameIndex := 381, descriptorIndex := 276, attributes := #[] }])
  fields := #[{ name := "MIN_VALUE", type := .long, accessFlags := 25, slot := 0, constantValue := 0 }, { name := "MAX_VALUE", type := .long, accessFlags := 25, slot := 1, constantValue := 0 }, { name := "TYPE", type := (.object "java/lang/Class"), accessFlags := 25, slot := 2, constantValue := 0 }, { name := "value", type := .long, accessFlags := 18, slot := 0, constantValue := 0 }, { name := "SIZE", type := .int, accessFlags := 25, slot := 3, constantValue := 0 }, { name := "BYTES", type := .int, accessFlags := 25, slot := 4, constantValue := 0 }, { name := "serialVersionUID", type := .long, accessFlags := 26, slot := 5, constantValue := 0 }]
  methods := #[k8m0, k8m1]
  instanceTypes := #[.long]
  staticTypes := #[.long, .long, (.object "java/lang/Class"), .int, .int, .long]
  resolved := Array.replicate 524 none
  statics := none }

def pool9 : Array CpInfo := pool [(2, .class_ 4), (1, u "java/lang/Object"), (0, u "<init>"), (0, u "()V"), (0, .class_ 8), (0, u "java/lang/Long"), (7, .class_ 18), (1, u "java/lang/Long$LongCache"), (0, u "$assertionsDisabled"), (0, u "Z"), (8, u "archivedCache"), (0, u "[Ljava/lang/Long;"), (7, u "cache")] 24

def k9m0 : Method := { name := "<init>", desc := "()V", sig := { parameters := [], returnType := none }, accessFlags := 2, code := none }
/-- java/lang/Long$LongCache -/
def k9 : Class := { plain "java/lang/Long$LongCache" (some 0) with
  accessFlags := 48
  interfaces := #[]
  cf := some (fileOf pool9 16 #[.nestHost 7] #[{ accessFlags := 2, nameIndex := 5, descriptorIndex := 6, attributes := #[] }] 48 2 #[] #[{ accessFlags := 24, nameIndex := 38, descriptorIndex := 30, attributes := #[] }, { accessFlags := 8, nameIndex := 29, descriptorIndex := 30, attributes := #[] }, { accessFlags := 4120, nameIndex := 19, descriptorIndex := 20, attributes := #[] }])
  fields := #[{ name := "cache", type := (.array (.object "java/lang/Long")), accessFlags := 24, slot := 0, constantValue := 0 }, { name := "archivedCache", type := (.array (.object "java/lang/Long")), accessFlags := 8, slot := 1, constantValue := 0 }, { name := "$assertionsDisabled", type := .boolean, accessFlags := 4120, slot := 2, constantValue := 0 }]
  methods := #[k9m0]
  instanceTypes := #[]
  staticTypes := #[(.array (.object "java/lang/Long")), (.array (.object "java/lang/Long")), .boolean]
  resolved := Array.replicate 63 none
  statics := some 0 }

def pool10 : Array CpInfo := pool [(1, u "java/lang/Cloneable"), (0, .class_ 1), (0, u "java/lang/Object"), (0, .class_ 3)] 3

/-- java/lang/Cloneable -/
def k10 : Class := { plain "java/lang/Cloneable" (some 0) with
  accessFlags := 1537
  interfaces := #[]
  cf := some (fileOf pool10 2 #[] #[] 1537 4 #[] #[])
  fields := #[]
  methods := #[]
  instanceTypes := #[]
  staticTypes := #[]
  resolved := Array.replicate 8 none
  statics := none }

/-- the primitive byte -/
def k11 : Class := { plain "byte" none with kind := .primitive 'B', accessFlags := 0x411 }
/-- [B -/
def k12 : Class := { plain "[B" (some 0) with kind := .array 11 .byte, interfaces := #[10, 4], accessFlags := 1041 }

/-- the primitive int -/
def k13 : Class := { plain "int" none with kind := .primitive 'I', accessFlags := 0x411 }
/-- [I -/
def k14 : Class := { plain "[I" (some 0) with kind := .array 13 .int, interfaces := #[10, 4], accessFlags := 1041 }

/-- [Ljava/lang/Long; -/
def k15 : Class := { plain "[Ljava/lang/Long;" (some 0) with kind := .array 8 (.object "java/lang/Long"), interfaces := #[10, 4], accessFlags := 1041 }

def heap : Heap := #[{ cls := 9, slots := #[.ref 1, .null, .int 0], vm := .statics 9 },
  { cls := 15, slots := #[.ref 2, .ref 3, .ref 4, .ref 5, .ref 6, .ref 7, .ref 8, .ref 9, .ref 10, .ref 11, .ref 12, .ref 13, .ref 14, .ref 15, .ref 16, .ref 17, .ref 18, .ref 19, .ref 20, .ref 21, .ref 22, .ref 23, .ref 24, .ref 25, .ref 26, .ref 27, .ref 28, .ref 29, .ref 30, .ref 31, .ref 32, .ref 33, .ref 34, .ref 35, .ref 36, .ref 37, .ref 38, .ref 39, .ref 40, .ref 41, .ref 42, .ref 43, .ref 44, .ref 45, .ref 46, .ref 47, .ref 48, .ref 49, .ref 50, .ref 51, .ref 52, .ref 53, .ref 54, .ref 55, .ref 56, .ref 57, .ref 58, .ref 59, .ref 60, .ref 61, .ref 62, .ref 63, .ref 64, .ref 65, .ref 66, .ref 67, .ref 68, .ref 69, .ref 70, .ref 71, .ref 72, .ref 73, .ref 74, .ref 75, .ref 76, .ref 77, .ref 78, .ref 79, .ref 80, .ref 81, .ref 82, .ref 83, .ref 84, .ref 85, .ref 86, .ref 87, .ref 88, .ref 89, .ref 90, .ref 91, .ref 92, .ref 93, .ref 94, .ref 95, .ref 96, .ref 97, .ref 98, .ref 99, .ref 100, .ref 101, .ref 102, .ref 103, .ref 104, .ref 105, .ref 106, .ref 107, .ref 108, .ref 109, .ref 110, .ref 111, .ref 112, .ref 113, .ref 114, .ref 115, .ref 116, .ref 117, .ref 118, .ref 119, .ref 120, .ref 121, .ref 122, .ref 123, .ref 124, .ref 125, .ref 126, .ref 127, .ref 128, .ref 129, .ref 130, .ref 131, .ref 132, .ref 133, .ref 134, .ref 135, .ref 136, .ref 137, .ref 138, .ref 139, .ref 140, .ref 141, .ref 142, .ref 143, .ref 144, .ref 145, .ref 146, .ref 147, .ref 148, .ref 149, .ref 150, .ref 151, .ref 152, .ref 153, .ref 154, .ref 155, .ref 156, .ref 157, .ref 158, .ref 159, .ref 160, .ref 161, .ref 162, .ref 163, .ref 164, .ref 165, .ref 166, .ref 167, .ref 168, .ref 169, .ref 170, .ref 171, .ref 172, .ref 173, .ref 174, .ref 175, .ref 176, .ref 177, .ref 178, .ref 179, .ref 180, .ref 181, .ref 182, .ref 183, .ref 184, .ref 185, .ref 186, .ref 187, .ref 188, .ref 189, .ref 190, .ref 191, .ref 192, .ref 193, .ref 194, .ref 195, .ref 196, .ref 197, .ref 198, .ref 199, .ref 200, .ref 201, .ref 202, .ref 203, .ref 204, .ref 205, .ref 206, .ref 207, .ref 208, .ref 209, .ref 210, .ref 211, .ref 212, .ref 213, .ref 214, .ref 215, .ref 216, .ref 217, .ref 218, .ref 219, .ref 220, .ref 221, .ref 222, .ref 223, .ref 224, .ref 225, .ref 226, .ref 227, .ref 228, .ref 229, .ref 230, .ref 231, .ref 232, .ref 233, .ref 234, .ref 235, .ref 236, .ref 237, .ref 238, .ref 239, .ref 240, .ref 241, .ref 242, .ref 243, .ref 244, .ref 245, .ref 246, .ref 247, .ref 248, .ref 249, .ref 250, .ref 251, .ref 252, .ref 253, .ref 254, .ref 255, .ref 256, .ref 257], vm := .none },
  { cls := 8, slots := #[.long (-128)], vm := .none },
  { cls := 8, slots := #[.long (-127)], vm := .none },
  { cls := 8, slots := #[.long (-126)], vm := .none },
  { cls := 8, slots := #[.long (-125)], vm := .none },
  { cls := 8, slots := #[.long (-124)], vm := .none },
  { cls := 8, slots := #[.long (-123)], vm := .none },
  { cls := 8, slots := #[.long (-122)], vm := .none },
  { cls := 8, slots := #[.long (-121)], vm := .none },
  { cls := 8, slots := #[.long (-120)], vm := .none },
  { cls := 8, slots := #[.long (-119)], vm := .none },
  { cls := 8, slots := #[.long (-118)], vm := .none },
  { cls := 8, slots := #[.long (-117)], vm := .none },
  { cls := 8, slots := #[.long (-116)], vm := .none },
  { cls := 8, slots := #[.long (-115)], vm := .none },
  { cls := 8, slots := #[.long (-114)], vm := .none },
  { cls := 8, slots := #[.long (-113)], vm := .none },
  { cls := 8, slots := #[.long (-112)], vm := .none },
  { cls := 8, slots := #[.long (-111)], vm := .none },
  { cls := 8, slots := #[.long (-110)], vm := .none },
  { cls := 8, slots := #[.long (-109)], vm := .none },
  { cls := 8, slots := #[.long (-108)], vm := .none },
  { cls := 8, slots := #[.long (-107)], vm := .none },
  { cls := 8, slots := #[.long (-106)], vm := .none },
  { cls := 8, slots := #[.long (-105)], vm := .none },
  { cls := 8, slots := #[.long (-104)], vm := .none },
  { cls := 8, slots := #[.long (-103)], vm := .none },
  { cls := 8, slots := #[.long (-102)], vm := .none },
  { cls := 8, slots := #[.long (-101)], vm := .none },
  { cls := 8, slots := #[.long (-100)], vm := .none },
  { cls := 8, slots := #[.long (-99)], vm := .none },
  { cls := 8, slots := #[.long (-98)], vm := .none },
  { cls := 8, slots := #[.long (-97)], vm := .none },
  { cls := 8, slots := #[.long (-96)], vm := .none },
  { cls := 8, slots := #[.long (-95)], vm := .none },
  { cls := 8, slots := #[.long (-94)], vm := .none },
  { cls := 8, slots := #[.long (-93)], vm := .none },
  { cls := 8, slots := #[.long (-92)], vm := .none },
  { cls := 8, slots := #[.long (-91)], vm := .none },
  { cls := 8, slots := #[.long (-90)], vm := .none },
  { cls := 8, slots := #[.long (-89)], vm := .none },
  { cls := 8, slots := #[.long (-88)], vm := .none },
  { cls := 8, slots := #[.long (-87)], vm := .none },
  { cls := 8, slots := #[.long (-86)], vm := .none },
  { cls := 8, slots := #[.long (-85)], vm := .none },
  { cls := 8, slots := #[.long (-84)], vm := .none },
  { cls := 8, slots := #[.long (-83)], vm := .none },
  { cls := 8, slots := #[.long (-82)], vm := .none },
  { cls := 8, slots := #[.long (-81)], vm := .none },
  { cls := 8, slots := #[.long (-80)], vm := .none },
  { cls := 8, slots := #[.long (-79)], vm := .none },
  { cls := 8, slots := #[.long (-78)], vm := .none },
  { cls := 8, slots := #[.long (-77)], vm := .none },
  { cls := 8, slots := #[.long (-76)], vm := .none },
  { cls := 8, slots := #[.long (-75)], vm := .none },
  { cls := 8, slots := #[.long (-74)], vm := .none },
  { cls := 8, slots := #[.long (-73)], vm := .none },
  { cls := 8, slots := #[.long (-72)], vm := .none },
  { cls := 8, slots := #[.long (-71)], vm := .none },
  { cls := 8, slots := #[.long (-70)], vm := .none },
  { cls := 8, slots := #[.long (-69)], vm := .none },
  { cls := 8, slots := #[.long (-68)], vm := .none },
  { cls := 8, slots := #[.long (-67)], vm := .none },
  { cls := 8, slots := #[.long (-66)], vm := .none },
  { cls := 8, slots := #[.long (-65)], vm := .none },
  { cls := 8, slots := #[.long (-64)], vm := .none },
  { cls := 8, slots := #[.long (-63)], vm := .none },
  { cls := 8, slots := #[.long (-62)], vm := .none },
  { cls := 8, slots := #[.long (-61)], vm := .none },
  { cls := 8, slots := #[.long (-60)], vm := .none },
  { cls := 8, slots := #[.long (-59)], vm := .none },
  { cls := 8, slots := #[.long (-58)], vm := .none },
  { cls := 8, slots := #[.long (-57)], vm := .none },
  { cls := 8, slots := #[.long (-56)], vm := .none },
  { cls := 8, slots := #[.long (-55)], vm := .none },
  { cls := 8, slots := #[.long (-54)], vm := .none },
  { cls := 8, slots := #[.long (-53)], vm := .none },
  { cls := 8, slots := #[.long (-52)], vm := .none },
  { cls := 8, slots := #[.long (-51)], vm := .none },
  { cls := 8, slots := #[.long (-50)], vm := .none },
  { cls := 8, slots := #[.long (-49)], vm := .none },
  { cls := 8, slots := #[.long (-48)], vm := .none },
  { cls := 8, slots := #[.long (-47)], vm := .none },
  { cls := 8, slots := #[.long (-46)], vm := .none },
  { cls := 8, slots := #[.long (-45)], vm := .none },
  { cls := 8, slots := #[.long (-44)], vm := .none },
  { cls := 8, slots := #[.long (-43)], vm := .none },
  { cls := 8, slots := #[.long (-42)], vm := .none },
  { cls := 8, slots := #[.long (-41)], vm := .none },
  { cls := 8, slots := #[.long (-40)], vm := .none },
  { cls := 8, slots := #[.long (-39)], vm := .none },
  { cls := 8, slots := #[.long (-38)], vm := .none },
  { cls := 8, slots := #[.long (-37)], vm := .none },
  { cls := 8, slots := #[.long (-36)], vm := .none },
  { cls := 8, slots := #[.long (-35)], vm := .none },
  { cls := 8, slots := #[.long (-34)], vm := .none },
  { cls := 8, slots := #[.long (-33)], vm := .none },
  { cls := 8, slots := #[.long (-32)], vm := .none },
  { cls := 8, slots := #[.long (-31)], vm := .none },
  { cls := 8, slots := #[.long (-30)], vm := .none },
  { cls := 8, slots := #[.long (-29)], vm := .none },
  { cls := 8, slots := #[.long (-28)], vm := .none },
  { cls := 8, slots := #[.long (-27)], vm := .none },
  { cls := 8, slots := #[.long (-26)], vm := .none },
  { cls := 8, slots := #[.long (-25)], vm := .none },
  { cls := 8, slots := #[.long (-24)], vm := .none },
  { cls := 8, slots := #[.long (-23)], vm := .none },
  { cls := 8, slots := #[.long (-22)], vm := .none },
  { cls := 8, slots := #[.long (-21)], vm := .none },
  { cls := 8, slots := #[.long (-20)], vm := .none },
  { cls := 8, slots := #[.long (-19)], vm := .none },
  { cls := 8, slots := #[.long (-18)], vm := .none },
  { cls := 8, slots := #[.long (-17)], vm := .none },
  { cls := 8, slots := #[.long (-16)], vm := .none },
  { cls := 8, slots := #[.long (-15)], vm := .none },
  { cls := 8, slots := #[.long (-14)], vm := .none },
  { cls := 8, slots := #[.long (-13)], vm := .none },
  { cls := 8, slots := #[.long (-12)], vm := .none },
  { cls := 8, slots := #[.long (-11)], vm := .none },
  { cls := 8, slots := #[.long (-10)], vm := .none },
  { cls := 8, slots := #[.long (-9)], vm := .none },
  { cls := 8, slots := #[.long (-8)], vm := .none },
  { cls := 8, slots := #[.long (-7)], vm := .none },
  { cls := 8, slots := #[.long (-6)], vm := .none },
  { cls := 8, slots := #[.long (-5)], vm := .none },
  { cls := 8, slots := #[.long (-4)], vm := .none },
  { cls := 8, slots := #[.long (-3)], vm := .none },
  { cls := 8, slots := #[.long (-2)], vm := .none },
  { cls := 8, slots := #[.long (-1)], vm := .none },
  { cls := 8, slots := #[.long 0], vm := .none },
  { cls := 8, slots := #[.long 1], vm := .none },
  { cls := 8, slots := #[.long 2], vm := .none },
  { cls := 8, slots := #[.long 3], vm := .none },
  { cls := 8, slots := #[.long 4], vm := .none },
  { cls := 8, slots := #[.long 5], vm := .none },
  { cls := 8, slots := #[.long 6], vm := .none },
  { cls := 8, slots := #[.long 7], vm := .none },
  { cls := 8, slots := #[.long 8], vm := .none },
  { cls := 8, slots := #[.long 9], vm := .none },
  { cls := 8, slots := #[.long 10], vm := .none },
  { cls := 8, slots := #[.long 11], vm := .none },
  { cls := 8, slots := #[.long 12], vm := .none },
  { cls := 8, slots := #[.long 13], vm := .none },
  { cls := 8, slots := #[.long 14], vm := .none },
  { cls := 8, slots := #[.long 15], vm := .none },
  { cls := 8, slots := #[.long 16], vm := .none },
  { cls := 8, slots := #[.long 17], vm := .none },
  { cls := 8, slots := #[.long 18], vm := .none },
  { cls := 8, slots := #[.long 19], vm := .none },
  { cls := 8, slots := #[.long 20], vm := .none },
  { cls := 8, slots := #[.long 21], vm := .none },
  { cls := 8, slots := #[.long 22], vm := .none },
  { cls := 8, slots := #[.long 23], vm := .none },
  { cls := 8, slots := #[.long 24], vm := .none },
  { cls := 8, slots := #[.long 25], vm := .none },
  { cls := 8, slots := #[.long 26], vm := .none },
  { cls := 8, slots := #[.long 27], vm := .none },
  { cls := 8, slots := #[.long 28], vm := .none },
  { cls := 8, slots := #[.long 29], vm := .none },
  { cls := 8, slots := #[.long 30], vm := .none },
  { cls := 8, slots := #[.long 31], vm := .none },
  { cls := 8, slots := #[.long 32], vm := .none },
  { cls := 8, slots := #[.long 33], vm := .none },
  { cls := 8, slots := #[.long 34], vm := .none },
  { cls := 8, slots := #[.long 35], vm := .none },
  { cls := 8, slots := #[.long 36], vm := .none },
  { cls := 8, slots := #[.long 37], vm := .none },
  { cls := 8, slots := #[.long 38], vm := .none },
  { cls := 8, slots := #[.long 39], vm := .none },
  { cls := 8, slots := #[.long 40], vm := .none },
  { cls := 8, slots := #[.long 41], vm := .none },
  { cls := 8, slots := #[.long 42], vm := .none },
  { cls := 8, slots := #[.long 43], vm := .none },
  { cls := 8, slots := #[.long 44], vm := .none },
  { cls := 8, slots := #[.long 45], vm := .none },
  { cls := 8, slots := #[.long 46], vm := .none },
  { cls := 8, slots := #[.long 47], vm := .none },
  { cls := 8, slots := #[.long 48], vm := .none },
  { cls := 8, slots := #[.long 49], vm := .none },
  { cls := 8, slots := #[.long 50], vm := .none },
  { cls := 8, slots := #[.long 51], vm := .none },
  { cls := 8, slots := #[.long 52], vm := .none },
  { cls := 8, slots := #[.long 53], vm := .none },
  { cls := 8, slots := #[.long 54], vm := .none },
  { cls := 8, slots := #[.long 55], vm := .none },
  { cls := 8, slots := #[.long 56], vm := .none },
  { cls := 8, slots := #[.long 57], vm := .none },
  { cls := 8, slots := #[.long 58], vm := .none },
  { cls := 8, slots := #[.long 59], vm := .none },
  { cls := 8, slots := #[.long 60], vm := .none },
  { cls := 8, slots := #[.long 61], vm := .none },
  { cls := 8, slots := #[.long 62], vm := .none },
  { cls := 8, slots := #[.long 63], vm := .none },
  { cls := 8, slots := #[.long 64], vm := .none },
  { cls := 8, slots := #[.long 65], vm := .none },
  { cls := 8, slots := #[.long 66], vm := .none },
  { cls := 8, slots := #[.long 67], vm := .none },
  { cls := 8, slots := #[.long 68], vm := .none },
  { cls := 8, slots := #[.long 69], vm := .none },
  { cls := 8, slots := #[.long 70], vm := .none },
  { cls := 8, slots := #[.long 71], vm := .none },
  { cls := 8, slots := #[.long 72], vm := .none },
  { cls := 8, slots := #[.long 73], vm := .none },
  { cls := 8, slots := #[.long 74], vm := .none },
  { cls := 8, slots := #[.long 75], vm := .none },
  { cls := 8, slots := #[.long 76], vm := .none },
  { cls := 8, slots := #[.long 77], vm := .none },
  { cls := 8, slots := #[.long 78], vm := .none },
  { cls := 8, slots := #[.long 79], vm := .none },
  { cls := 8, slots := #[.long 80], vm := .none },
  { cls := 8, slots := #[.long 81], vm := .none },
  { cls := 8, slots := #[.long 82], vm := .none },
  { cls := 8, slots := #[.long 83], vm := .none },
  { cls := 8, slots := #[.long 84], vm := .none },
  { cls := 8, slots := #[.long 85], vm := .none },
  { cls := 8, slots := #[.long 86], vm := .none },
  { cls := 8, slots := #[.long 87], vm := .none },
  { cls := 8, slots := #[.long 88], vm := .none },
  { cls := 8, slots := #[.long 89], vm := .none },
  { cls := 8, slots := #[.long 90], vm := .none },
  { cls := 8, slots := #[.long 91], vm := .none },
  { cls := 8, slots := #[.long 92], vm := .none },
  { cls := 8, slots := #[.long 93], vm := .none },
  { cls := 8, slots := #[.long 94], vm := .none },
  { cls := 8, slots := #[.long 95], vm := .none },
  { cls := 8, slots := #[.long 96], vm := .none },
  { cls := 8, slots := #[.long 97], vm := .none },
  { cls := 8, slots := #[.long 98], vm := .none },
  { cls := 8, slots := #[.long 99], vm := .none },
  { cls := 8, slots := #[.long 100], vm := .none },
  { cls := 8, slots := #[.long 101], vm := .none },
  { cls := 8, slots := #[.long 102], vm := .none },
  { cls := 8, slots := #[.long 103], vm := .none },
  { cls := 8, slots := #[.long 104], vm := .none },
  { cls := 8, slots := #[.long 105], vm := .none },
  { cls := 8, slots := #[.long 106], vm := .none },
  { cls := 8, slots := #[.long 107], vm := .none },
  { cls := 8, slots := #[.long 108], vm := .none },
  { cls := 8, slots := #[.long 109], vm := .none },
  { cls := 8, slots := #[.long 110], vm := .none },
  { cls := 8, slots := #[.long 111], vm := .none },
  { cls := 8, slots := #[.long 112], vm := .none },
  { cls := 8, slots := #[.long 113], vm := .none },
  { cls := 8, slots := #[.long 114], vm := .none },
  { cls := 8, slots := #[.long 115], vm := .none },
  { cls := 8, slots := #[.long 116], vm := .none },
  { cls := 8, slots := #[.long 117], vm := .none },
  { cls := 8, slots := #[.long 118], vm := .none },
  { cls := 8, slots := #[.long 119], vm := .none },
  { cls := 8, slots := #[.long 120], vm := .none },
  { cls := 8, slots := #[.long 121], vm := .none },
  { cls := 8, slots := #[.long 122], vm := .none },
  { cls := 8, slots := #[.long 123], vm := .none },
  { cls := 8, slots := #[.long 124], vm := .none },
  { cls := 8, slots := #[.long 125], vm := .none },
  { cls := 8, slots := #[.long 126], vm := .none },
  { cls := 8, slots := #[.long 127], vm := .none }]
def classes : Array Class := #[k0, k1, k2, k3, k4, k5, k6, k7, k8, k9, k10, k11, k12, k13, k14, k15]
def interned : List (Array UInt16 × Addr) := []
def slotsUsed : Nat := 515
def theMethod : MethodId := ⟨1, 1⟩
def args0 : Array Value := #[.int 5, .long 7, .int 9, .long 11, .int 3]
def aboutOver (below : List Frame) : State where
  vm := { classes := classes, interned := interned.toArray }
  heap := heap
  slotsUsed := slotsUsed
  threads := #[{ frames := .invoking theMethod args0 :: below }]
def below0 : List Frame := [.native { method := ⟨0, 0⟩, args := #[] }]
def about1 : State := aboutOver below0
def p0 : Program := .bare "" "" ""
def e0 : Env := launch0.env 0 0 0
theorem w_frames : about1.frames = Frame.invoking theMethod args0 :: below0 := rfl
set_option maxRecDepth 65536 in
theorem w_args : argsFit about1.vm theMethod args0 = true := by decide +kernel
set_option maxRecDepth 65536 in
theorem w_heap : heapFits about1 = true := by decide +kernel
set_option maxRecDepth 65536 in
theorem w_runnable : about1.curStatus? = some .runnable := by decide +kernel
set_option maxRecDepth 65536 in
theorem w_alone : about1.alone = true := by decide +kernel
set_option maxRecDepth 65536 in
theorem w_named : about1.methodNamed? x = some theMethod := by decide +kernel
set_option maxRecDepth 65536 in
theorem w_hears : about1.hears theMethod below0 = true := by decide +kernel
set_option maxRecDepth 65536 in
theorem w_ripe : about1.ripe theMethod args0 below0 = true := by decide +kernel
theorem w_running : about1.status = .running := rfl
set_option maxRecDepth 65536 in
theorem w_room : about1.hasRoom e0.platform room_1 = true :=
  launch0.hasRoom_least _ room_1 (by decide +kernel) (by decide +kernel) (by decide +kernel) (by decide +kernel) (by decide +kernel) (by decide +kernel)
theorem allAtoms_all (ts : List Jvm.Cond) (a : Array Jvm.Value) (st : Jvm.State) : (allAtoms ts).before a st = ts.all (fun c => c.before a st) := by
  induction ts with
  | nil => rfl
  | cons c t ih =>
    show (Jvm.Cond.and c (allAtoms t)).before a st = _
    rw [Jvm.Cond.before_and, ih, List.all_cons]
def words1 : List Jvm.Cond := Jvm.Cond.code x code maxLocals ret :: tables_1
/-- a 'code' word, met by the world's own term for the bytes: nothing is compared byte by byte -/
theorem code_word {y : MethodName} {bytes : ByteArray} {mx : Nat} {rt : Option FieldType} {a : Array Value} {s : State} {m : MethodId} {meth : Method} {c : Code} (h1 : s.methodNamed? y = some m) (h2 : s.vm.method? m = some meth) (h3 : meth.code = some c) (h4 : c.code = bytes)
    (h5 : (c.maxLocals == mx && c.exceptionTable.isEmpty && decide (c.maxStack ≤ mostOperands) && decide (meth.sig.returnType = rt) && !meth.locks && decide (parseMethodDescriptor y.desc = some meth.sig)) = true) : (Jvm.Cond.code y bytes mx rt).before a s = true := by
  simp only [Bool.and_eq_true, beq_iff_eq, Bool.not_eq_true', decide_eq_true_eq] at h5
  obtain ⟨⟨⟨⟨⟨g1, g2⟩, g3⟩, g4⟩, g5⟩, g6⟩ := h5
  simp [Cond.before, Cond.holds, Cond.value, h1, h2, h3, h4, g1, g2, g3, g4, g5, g6]
def isCode : Jvm.Cond → Bool
  | .code _ _ _ _ => true
  | _ => false
theorem all_split {L : List Jvm.Cond} {P : Jvm.Cond → Bool} (h1 : L.all (fun c => isCode c || P c) = true) (h2 : ∀ c ∈ L.filter isCode, P c = true) : L.all P = true := by
  refine List.all_eq_true.mpr fun c hc => ?_
  have h := List.all_eq_true.mp h1 c hc
  rcases Bool.eq_false_or_eq_true (isCode c) with hi | hi
  · exact h2 c (List.mem_filter.mpr ⟨hc, hi⟩)
  · simpa [hi] using h
set_option maxRecDepth 65536 in
theorem w_c0 : (Jvm.Cond.code x code maxLocals ret).before args0 about1 = true := code_word (m := ⟨1, 1⟩) (meth := k1m1) (c := k1c1) (by decide +kernel) rfl rfl rfl (by decide +kernel)
set_option maxRecDepth 65536 in
theorem w_c1 : (Jvm.Cond.code ({ cls := "com/example/marks_across_domains/marksacrossdomains/OrganisationId", name := "<init>", desc := "(IJ)V" } : Jvm.MethodName) prog_15_method_1_code (5 : Nat) (Option.none : Option Jvm.ClassFile.FieldType)).before args0 about1 = true := code_word (m := ⟨3, 0⟩) (meth := k3m0) (c := k3c0) (by decide +kernel) rfl rfl rfl (by decide +kernel)
set_option maxRecDepth 65536 in
theorem w_c2 : (Jvm.Cond.code ({ cls := "java/lang/Object", name := "<init>", desc := "()V" } : Jvm.MethodName) object_method_1_code (1 : Nat) (Option.none : Option Jvm.ClassFile.FieldType)).before args0 about1 = true := code_word (m := ⟨0, 0⟩) (meth := k0m0) (c := k0c0) (by decide +kernel) rfl rfl rfl (by decide +kernel)
set_option maxRecDepth 65536 in
theorem w_c3 : (Jvm.Cond.code ({ cls := "com/example/marks_across_domains/marksacrossdomains/OrganisationId", name := "rangeProblem", desc := "(JJ)Ljava/lang/String;" } : Jvm.MethodName) prog_15_method_10_code (5 : Nat) (Option.some (Jvm.ClassFile.FieldType.object "java/lang/String"))).before args0 about1 = true := code_word (m := ⟨3, 2⟩) (meth := k3m2) (c := k3c2) (by decide +kernel) rfl rfl rfl (by decide +kernel)
set_option maxRecDepth 65536 in
theorem w_c4 : (Jvm.Cond.code ({ cls := "java/lang/Long", name := "valueOf", desc := "(J)Ljava/lang/Long;" } : Jvm.MethodName) jdk_35_method_24_code (3 : Nat) (Option.some (Jvm.ClassFile.FieldType.object "java/lang/Long"))).before args0 about1 = true := code_word (m := ⟨8, 0⟩) (meth := k8m0) (c := k8c0) (by decide +kernel) rfl rfl rfl (by decide +kernel)
set_option maxRecDepth 65536 in
theorem w_c5 : (Jvm.Cond.code ({ cls := "com/example/marks_across_domains/marksacrossdomains/OrganisationId", name := "equals", desc := "(Ljava/lang/Object;)Z" } : Jvm.MethodName) prog_15_method_7_code (3 : Nat) (Option.some Jvm.ClassFile.FieldType.boolean)).before args0 about1 = true := code_word (m := ⟨3, 1⟩) (meth := k3m1) (c := k3c1) (by decide +kernel) rfl rfl rfl (by decide +kernel)
set_option maxRecDepth 65536 in
theorem w_c6 : (Jvm.Cond.code ({ cls := "java/lang/Long", name := "<init>", desc := "(J)V" } : Jvm.MethodName) jdk_35_method_26_code (3 : Nat) (Option.none : Option Jvm.ClassFile.FieldType)).before args0 about1 = true := code_word (m := ⟨8, 1⟩) (meth := k8m1) (c := k8c1) (by decide +kernel) rfl rfl rfl (by decide +kernel)
set_option maxRecDepth 65536 in
theorem w_c7 : (Jvm.Cond.code ({ cls := "java/lang/Number", name := "<init>", desc := "()V" } : Jvm.MethodName) jdk_18_method_1_code (1 : Nat) (Option.none : Option Jvm.ClassFile.FieldType)).before args0 about1 = true := code_word (m := ⟨5, 0⟩) (meth := k5m0) (c := k5c0) (by decide +kernel) rfl rfl rfl (by decide +kernel)
def codes1 : List Jvm.Cond := [Jvm.Cond.code x code maxLocals ret, Jvm.Cond.code ({ cls := "com/example/marks_across_domains/marksacrossdomains/OrganisationId", name := "<init>", desc := "(IJ)V" } : Jvm.MethodName) prog_15_method_1_code (5 : Nat) (Option.none : Option Jvm.ClassFile.FieldType), Jvm.Cond.code ({ cls := "java/lang/Object", name := "<init>", desc := "()V" } : Jvm.MethodName) object_method_1_code (1 : Nat) (Option.none : Option Jvm.ClassFile.FieldType), Jvm.Cond.code ({ cls := "com/example/marks_across_domains/marksacrossdomains/OrganisationId", name := "rangeProblem", desc := "(JJ)Ljava/lang/String;" } : Jvm.MethodName) prog_15_method_10_code (5 : Nat) (Option.some (Jvm.ClassFile.FieldType.object "java/lang/String")), Jvm.Cond.code ({ cls := "java/lang/Long", name := "valueOf", desc := "(J)Ljava/lang/Long;" } : Jvm.MethodName) jdk_35_method_24_code (3 : Nat) (Option.some (Jvm.ClassFile.FieldType.object "java/lang/Long")), Jvm.Cond.code ({ cls := "com/example/marks_across_domains/marksacrossdomains/OrganisationId", name := "equals", desc := "(Ljava/lang/Object;)Z" } : Jvm.MethodName) prog_15_method_7_code (3 : Nat) (Option.some Jvm.ClassFile.FieldType.boolean), Jvm.Cond.code ({ cls := "java/lang/Long", name := "<init>", desc := "(J)V" } : Jvm.MethodName) jdk_35_method_26_code (3 : Nat) (Option.none : Option Jvm.ClassFile.FieldType), Jvm.Cond.code ({ cls := "java/lang/Number", name := "<init>", desc := "()V" } : Jvm.MethodName) jdk_18_method_1_code (1 : Nat) (Option.none : Option Jvm.ClassFile.FieldType)]
set_option maxRecDepth 65536 in
theorem codes_eq : words1.filter isCode = codes1 := rfl
theorem w_codes : ∀ c ∈ words1.filter isCode, c.before args0 about1 = true := by
  rw [codes_eq]
  intro c hc
  simp only [codes1, List.mem_cons, List.not_mem_nil, or_false] at hc
  rcases hc with rfl | rfl | rfl | rfl | rfl | rfl | rfl | rfl
  · exact w_c0
  · exact w_c1
  · exact w_c2
  · exact w_c3
  · exact w_c4
  · exact w_c5
  · exact w_c6
  · exact w_c7
set_option maxRecDepth 65536 in
theorem w_t1 : (words1.take 24).all (fun c => isCode c || c.before args0 about1) = true := by decide +kernel
set_option maxRecDepth 65536 in
theorem w_t2 : ((words1.drop 24).take 24).all (fun c => isCode c || c.before args0 about1) = true := by decide +kernel
set_option maxRecDepth 65536 in
theorem w_t3 : ((words1.drop 24).drop 24).all (fun c => isCode c || c.before args0 about1) = true := by decide +kernel
theorem w_tables : (allAtoms (Jvm.Cond.code x code maxLocals ret :: tables_1)).before args0 about1 = true := by
  rw [allAtoms_all]
  show words1.all (fun c => c.before args0 about1) = true
  refine all_split ?_ w_codes
  rw [← List.take_append_drop 24 words1, List.all_append, w_t1, ← List.take_append_drop 24 (words1.drop 24), List.all_append, w_t2, w_t3]
  rfl
set_option maxRecDepth 65536 in
theorem w_rest : rest_1_c.before args0 about1 = true := by decide +kernel
set_option maxRecDepth 65536 in
theorem w_case : (Jvm.Cond.and given_1 narrow_1).before args0 about1 = true := by decide +kernel
theorem w_applies : (headSpec (Jvm.Cond.code x code maxLocals ret :: tables_1) room_1).applies x e0.platform about1 = true :=
  (Spec.applies_iff w_frames).mpr ⟨w_running, w_runnable, w_alone, w_named, w_hears, w_ripe, w_room, w_tables⟩
theorem atStart : AtStart classFile x code maxLocals ret World_1 tables_1 room_1 Calls_1 rest_1 Pre_1 launch0 p0 e0 about1 theMethod args0 below0 :=
  ⟨lists_1, trivial, launch0.admits_env _ _ _, launch0.least_env, fairChoices_fair.cas, fairChoices_fair.clock, w_frames, w_args, w_heap, w_applies, trivial, w_rest, w_case⟩
end start1
theorem witness_1 : WitnessClaimed_1 := ⟨start1.p0, start1.e0, start1.about1, start1.theMethod, start1.args0, start1.below0, start1.atStart⟩
end Jvm.Pilot.@@N@@
