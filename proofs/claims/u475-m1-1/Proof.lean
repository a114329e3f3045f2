import JvmDerived
import JvmDerived.Pilot.@@N@@Statement
import JvmDerived.Pilot.@@N@@Code
set_option linter.unusedVariables false
set_option linter.unusedSimpArgs false
@@BLOCK:NumsL.lean.txt@@
namespace Jvm.Pilot.@@N@@
open Jvm Jvm.ClassFile Sem Op Lib Jvm.Free Jvm.Stand Jvm.LawKit Jvm.RoadKit Bundle Jvm.Pilot.@@N@@.Jvm.D
abbrev ym0 : MethodName := ⟨"com/example/kubera/kubera/DealingRingNextPinLaw", "pick", "(J)J"⟩
abbrev ym1 : MethodName := ⟨"com/example/kubera/kubera/DealingRing", "<init>", "([J)V"⟩
abbrev ym2 : MethodName := ⟨"com/example/kubera/kubera/DealingRing", "next", "()I"⟩
def Goes (p : Program) (e : Env) (below : List Frame) (s : State) (Q : Option Value → Heap → List Loc → Prop) (kc ks : Nat) (A : State) : Prop :=
  ∃ s₂ o, Steps p.tables e below A s₂ ∧ s₂.status = .running ∧ Ended s₂ below o ∧ ∃ v L, o = .returned v ∧ Q v s₂.heap L ∧ FrameEnd s o s₂ L kc ks
abbrev jv (x : Int64) : Slot := .val (.long x)
def QL (w : Option Value) (n0 : Nat) (v : Option Value) (h : Heap) (L : List Loc) : Prop := v = w ∧ Fr n0 L
theorem own_selp {s : State} {args : Array Value} {y : MethodName} {n : Nat} (hins : (Cond.instantiable y.cls n).before args s = true) (hpriv : (Cond.privateMethod y).before args s = true) (hinst : (Cond.instanceMethod y).before args s = true) (hy : y.cls ≠ "java/lang/invoke/MethodHandle" ∧ y.cls ≠ "java/lang/invoke/VarHandle") : (Cond.selects y.cls y y).before args s = true := by
  obtain ⟨c, k, hc, hk, -, hniab, -, -⟩ := Cond.instantiable_spec hins
  exact selects_self_of_private hc hk (Bool.or_eq_false_iff.mp hniab).1 (Cond.privateMethod_at hpriv) hinst hy
def QP (w : Option Value) (h0 : Heap) (n0 : Nat) (v : Option Value) (h : Heap) (L : List Loc) : Prop := v = w ∧ Fr n0 L ∧ h = h0
section OwnGoes
variable {p : Program} {l : Launch} {e : Env} {R : Room} {s : State} {m : MethodId} {args : Array Value} {below : List Frame} {meth : Method} {c : Code} {T : State} {locs : List Loc} {cells slots kc ks : Nat} {Q : Option Value → Heap → List Loc → Prop}
theorem Goes.st {A B : State} (h : ∀ t, Steps p.tables e below B t → Steps p.tables e below A t) (g : Goes p e below s Q kc ks B) : Goes p e below s Q kc ks A := by
  obtain ⟨s₂, o, h1, r⟩ := g
  exact ⟨s₂, o, h _ h1, r⟩
theorem Goes.cast {g g' : JFrame} (q : g = g') (h : Goes p e below s Q kc ks (T.setTop g')) : Goes p e below s Q kc ks (T.setTop g) := q ▸ h
theorem Goes.retI (X : Stand p l e R s m args below meth c T locs cells slots) (hx : p.tables.exec = Jvm.exec) (hlk : meth.locks = false) (hret : meth.sig.returnType = some .int) {pc : Nat} {Ls : Array Slot} {z : Int32} {rest : List Value} (hd : decode c.code pc = .ok (.ireturn, 1)) (hQ : Q (some (.int z)) T.heap locs) (h1 : cells ≤ kc) (h2 : slots ≤ ks) : Goes p e below s Q kc ks (T.setTop (mkF m pc Ls (.int z :: rest))) := by
  obtain ⟨fs, hr, hrun, hended, hW, hsame⟩ := X.leave (v := some (.int z)) (fun h => by rw [hret] at h; cases h)
  exact ⟨_, _, retOut X hx hret rfl (Or.inl ⟨rfl, Or.inl rfl, _, rfl⟩) hd hr, hrun, hended, _, _, rfl, hQ, ⟨_, rfl⟩, hW, hsame.mono h1 h2⟩
theorem Goes.retJ (X : Stand p l e R s m args below meth c T locs cells slots) (hx : p.tables.exec = Jvm.exec) (hlk : meth.locks = false) (hret : meth.sig.returnType = some .long) {pc : Nat} {Ls : Array Slot} {z : Int64} {rest : List Value} (hd : decode c.code pc = .ok (.lreturn, 1)) (hQ : Q (some (.long z)) T.heap locs) (h1 : cells ≤ kc) (h2 : slots ≤ ks) : Goes p e below s Q kc ks (T.setTop (mkF m pc Ls (.long z :: rest))) := by
  obtain ⟨fs, hr, hrun, hended, hW, hsame⟩ := X.leave (v := some (.long z)) (fun h => by rw [hret] at h; cases h)
  exact ⟨_, _, retOut X hx hret rfl (Or.inr (Or.inl ⟨rfl, rfl, _, rfl⟩)) hd hr, hrun, hended, _, _, rfl, hQ, ⟨_, rfl⟩, hW, hsame.mono h1 h2⟩
theorem Goes.retR (X : Stand p l e R s m args below meth c T locs cells slots) (hx : p.tables.exec = Jvm.exec) (hlk : meth.locks = false) {t : FieldType} (hret : meth.sig.returnType = some t) {w : Value} (ht : t.isReference = true) (hw : w.isRef = true) {pc : Nat} {Ls : Array Slot} {rest : List Value} (hd : decode c.code pc = .ok (.areturn, 1)) (hQ : Q (some w) T.heap locs) (h1 : cells ≤ kc) (h2 : slots ≤ ks) : Goes p e below s Q kc ks (T.setTop (mkF m pc Ls (w :: rest))) := by
  obtain ⟨fs, hr, hrun, hended, hW, hsame⟩ := X.leave (v := some w) (fun h => by rw [hret] at h; cases h)
  have hn : narrow t w = w := by cases t <;> cases w <;> first | rfl | (simp [FieldType.isReference] at ht) | (simp [Value.isRef] at hw)
  exact ⟨_, _, retOut X hx hret hn (Or.inr (Or.inr (Or.inr (Or.inr ⟨rfl, ht, hw⟩)))) hd hr, hrun, hended, _, _, rfl, hQ, ⟨_, rfl⟩, hW, hsame.mono h1 h2⟩
theorem Goes.retB (X : Stand p l e R s m args below meth c T locs cells slots) (hx : p.tables.exec = Jvm.exec) (hlk : meth.locks = false) {t : FieldType} (hret : meth.sig.returnType = some t) (ht : t = .boolean ∨ t = .byte ∨ t = .char ∨ t = .short) {pc : Nat} {Ls : Array Slot} {z : Int32} {rest : List Value} (hd : decode c.code pc = .ok (.ireturn, 1)) (hz : nar t z = z) (hQ : Q (some (.int z)) T.heap locs) (h1 : cells ≤ kc) (h2 : slots ≤ ks) : Goes p e below s Q kc ks (T.setTop (mkF m pc Ls (.int z :: rest))) := by
  obtain ⟨fs, hr, hrun, hended, hW, hsame⟩ := X.leave (v := some (.int z)) (fun h => by rw [hret] at h; cases h)
  exact ⟨_, _, retN X hx hret ht hd (by rw [hz]; exact hr), hrun, hended, _, _, rfl, hQ, ⟨_, rfl⟩, hW, hsame.mono h1 h2⟩
theorem Goes.retV (X : Stand p l e R s m args below meth c T locs cells slots) (hx : p.tables.exec = Jvm.exec) (hlk : meth.locks = false) (hret : meth.sig.returnType = none) {pc : Nat} {Ls : Array Slot} (hd : decode c.code pc = .ok (.return_, 1)) (hQ : Q none T.heap locs) (h1 : cells ≤ kc) (h2 : slots ≤ ks) : Goes p e below s Q kc ks (T.setTop (mkF m pc Ls [])) := by
  obtain ⟨fs, hr, hrun, hended, hW, hsame⟩ := X.leave (v := none) (fun _ => rfl)
  exact ⟨_, _, X.returnOut hx hret hd hr, hrun, hended, _, _, rfl, hQ, ⟨_, rfl⟩, hW, hsame.mono h1 h2⟩
end OwnGoes
theorem tltL {x y : Int64} (h : x < y) : ifCond.holds .lt (lcmpW x y) = true ∧ ifCond.holds .ge (lcmpW x y) = false ∧ ifCond.holds .gt (lcmpW y x) = true ∧ ifCond.holds .le (lcmpW y x) = false :=
  ⟨(if0 _ _).trans (tlt ((lw_lt x y).mpr h)).1, (if0 _ _).trans (tlt ((lw_lt x y).mpr h)).2.1, (if0 _ _).trans (tlt ((lw_gt y x).mpr h)).2.2.1, (if0 _ _).trans (tlt ((lw_gt y x).mpr h)).2.2.2⟩
theorem fltL {x y : Int64} (h : ¬ x < y) : ifCond.holds .lt (lcmpW x y) = false ∧ ifCond.holds .ge (lcmpW x y) = true ∧ ifCond.holds .gt (lcmpW y x) = false ∧ ifCond.holds .le (lcmpW y x) = true :=
  ⟨(if0 _ _).trans (flt fun q => h ((lw_lt x y).mp q)).1, (if0 _ _).trans (flt fun q => h ((lw_lt x y).mp q)).2.1, (if0 _ _).trans (flt fun q => h ((lw_gt y x).mp q)).2.2.1, (if0 _ _).trans (flt fun q => h ((lw_gt y x).mp q)).2.2.2⟩
theorem teqL {x y : Int64} (h : x = y) : ifCond.holds .eq (lcmpW x y) = true ∧ ifCond.holds .ne (lcmpW x y) = false :=
  ⟨(if0 _ _).trans (teq ((lw_eq x y).mpr h)).1, (if0 _ _).trans (teq ((lw_eq x y).mpr h)).2⟩
theorem feqL {x y : Int64} (h : ¬ x = y) : ifCond.holds .eq (lcmpW x y) = false ∧ ifCond.holds .ne (lcmpW x y) = true :=
  ⟨(if0 _ _).trans (feq fun q => h ((lw_eq x y).mp q)).1, (if0 _ _).trans (feq fun q => h ((lw_eq x y).mp q)).2⟩
def own_look {α : Type} (i : Nat) : List (Nat × α) → Option α
  | [] => none
  | (j, v) :: r => if i = j then some v else own_look i r
theorem own_look_mem {α : Type} {i : Nat} {v : α} : ∀ {L : List (Nat × α)}, own_look i L = some v → (i, v) ∈ L
  | [], h => by cases h
  | (j, w) :: r, h => by
    unfold own_look at h
    by_cases q : i = j
    · rw [if_pos q] at h; cases h; subst q; exact List.mem_cons_self
    · rw [if_neg q] at h; exact List.mem_cons_of_mem _ (own_look_mem h)
def own_pstep (ci : List (Nat × Int32)) (cl : List (Nat × Int64)) (i : Instr) (n : Nat) (g : JFrame) : Option JFrame :=
  match i with
  | .iload_n k => if n = 1 then (match g.locals[k.val]? with | some (.val (.int v)) => some { g with pc := g.pc + 1, stack := .int v :: g.stack } | _ => none) else none
  | .iload k => if n = 2 then (match g.locals[k]? with | some (.val (.int v)) => some { g with pc := g.pc + 2, stack := .int v :: g.stack } | _ => none) else none
  | .lload_n k => if n = 1 then (match g.locals[k.val]? with | some (.val (.long v)) => some { g with pc := g.pc + 1, stack := .long v :: g.stack } | _ => none) else none
  | .lload k => if n = 2 then (match g.locals[k]? with | some (.val (.long v)) => some { g with pc := g.pc + 2, stack := .long v :: g.stack } | _ => none) else none
  | .aload_n k => if n = 1 then (match g.locals[k.val]? with | some (.val v) => if v.isRef = true then some { g with pc := g.pc + 1, stack := v :: g.stack } else none | _ => none) else none
  | .aload k => if n = 2 then (match g.locals[k]? with | some (.val v) => if v.isRef = true then some { g with pc := g.pc + 2, stack := v :: g.stack } else none | _ => none) else none
  | .istore_n k => if n = 1 then (match g.stack with | .int x :: rest => (match storeLocals g.locals k.val (.int x) with | some l' => some { g with pc := g.pc + 1, stack := rest, locals := l' } | none => none) | _ => none) else none
  | .istore k => if n = 2 then (match g.stack with | .int x :: rest => (match storeLocals g.locals k (.int x) with | some l' => some { g with pc := g.pc + 2, stack := rest, locals := l' } | none => none) | _ => none) else none
  | .lstore_n k => if n = 1 then (match g.stack with | .long x :: rest => (match storeLocals g.locals k.val (.long x) with | some l' => some { g with pc := g.pc + 1, stack := rest, locals := l' } | none => none) | _ => none) else none
  | .lstore k => if n = 2 then (match g.stack with | .long x :: rest => (match storeLocals g.locals k (.long x) with | some l' => some { g with pc := g.pc + 2, stack := rest, locals := l' } | none => none) | _ => none) else none
  | .astore_n k => if n = 1 then (match g.stack with | x :: rest => (if x.isRef = true then (match storeLocals g.locals k.val x with | some l' => some { g with pc := g.pc + 1, stack := rest, locals := l' } | none => none) else none) | _ => none) else none
  | .astore k => if n = 2 then (match g.stack with | x :: rest => (if x.isRef = true then (match storeLocals g.locals k x with | some l' => some { g with pc := g.pc + 2, stack := rest, locals := l' } | none => none) else none) | _ => none) else none
  | .iconst i => if n = 1 then (some { g with pc := g.pc + 1, stack := .int (Int32.ofInt i) :: g.stack }) else none
  | .bipush i => if n = 2 then (some { g with pc := g.pc + 2, stack := .int (Int8.ofInt i).toInt32 :: g.stack }) else none
  | .sipush i => if n = 3 then (some { g with pc := g.pc + 3, stack := .int (Int16.ofInt i).toInt32 :: g.stack }) else none
  | .lconst k => if n = 1 then (some { g with pc := g.pc + 1, stack := .long (Int64.ofNat k) :: g.stack }) else none
  | .aconst_null => if n = 1 then (some { g with pc := g.pc + 1, stack := .null :: g.stack }) else none
  | .iadd => if n = 1 then (match g.stack with | .int y :: .int x :: rest => some { g with pc := g.pc + 1, stack := .int (x + y) :: rest } | _ => none) else none
  | .ladd => if n = 1 then (match g.stack with | .long y :: .long x :: rest => some { g with pc := g.pc + 1, stack := .long (x + y) :: rest } | _ => none) else none
  | .isub => if n = 1 then (match g.stack with | .int y :: .int x :: rest => some { g with pc := g.pc + 1, stack := .int (x - y) :: rest } | _ => none) else none
  | .lsub => if n = 1 then (match g.stack with | .long y :: .long x :: rest => some { g with pc := g.pc + 1, stack := .long (x - y) :: rest } | _ => none) else none
  | .imul => if n = 1 then (match g.stack with | .int y :: .int x :: rest => some { g with pc := g.pc + 1, stack := .int (x * y) :: rest } | _ => none) else none
  | .lmul => if n = 1 then (match g.stack with | .long y :: .long x :: rest => some { g with pc := g.pc + 1, stack := .long (x * y) :: rest } | _ => none) else none
  | .iand => if n = 1 then (match g.stack with | .int y :: .int x :: rest => some { g with pc := g.pc + 1, stack := .int (x &&& y) :: rest } | _ => none) else none
  | .land => if n = 1 then (match g.stack with | .long y :: .long x :: rest => some { g with pc := g.pc + 1, stack := .long (x &&& y) :: rest } | _ => none) else none
  | .ior => if n = 1 then (match g.stack with | .int y :: .int x :: rest => some { g with pc := g.pc + 1, stack := .int (x ||| y) :: rest } | _ => none) else none
  | .lor => if n = 1 then (match g.stack with | .long y :: .long x :: rest => some { g with pc := g.pc + 1, stack := .long (x ||| y) :: rest } | _ => none) else none
  | .ixor => if n = 1 then (match g.stack with | .int y :: .int x :: rest => some { g with pc := g.pc + 1, stack := .int (x ^^^ y) :: rest } | _ => none) else none
  | .lxor => if n = 1 then (match g.stack with | .long y :: .long x :: rest => some { g with pc := g.pc + 1, stack := .long (x ^^^ y) :: rest } | _ => none) else none
  | .ishl => if n = 1 then (match g.stack with | .int y :: .int x :: rest => some { g with pc := g.pc + 1, stack := .int (x <<< (y &&& 31)) :: rest } | _ => none) else none
  | .ishr => if n = 1 then (match g.stack with | .int y :: .int x :: rest => some { g with pc := g.pc + 1, stack := .int (x >>> (y &&& 31)) :: rest } | _ => none) else none
  | .iushr => if n = 1 then (match g.stack with | .int y :: .int x :: rest => some { g with pc := g.pc + 1, stack := .int ((x.toUInt32 >>> (y &&& 31).toUInt32).toInt32) :: rest } | _ => none) else none
  | .lshl => if n = 1 then (match g.stack with | .int y :: .long x :: rest => some { g with pc := g.pc + 1, stack := .long (x <<< (y &&& 0x3f).toInt64) :: rest } | _ => none) else none
  | .lshr => if n = 1 then (match g.stack with | .int y :: .long x :: rest => some { g with pc := g.pc + 1, stack := .long (x >>> (y &&& 0x3f).toInt64) :: rest } | _ => none) else none
  | .lushr => if n = 1 then (match g.stack with | .int y :: .long x :: rest => some { g with pc := g.pc + 1, stack := .long ((x.toUInt64 >>> (y &&& 0x3f).toInt64.toUInt64).toInt64) :: rest } | _ => none) else none
  | .lcmp => if n = 1 then (match g.stack with | .long y :: .long x :: rest => some { g with pc := g.pc + 1, stack := .int (if x > y then 1 else if x = y then 0 else -1) :: rest } | _ => none) else none
  | .ineg => if n = 1 then (match g.stack with | .int v :: rest => some { g with pc := g.pc + 1, stack := .int (-v) :: rest } | _ => none) else none
  | .lneg => if n = 1 then (match g.stack with | .long v :: rest => some { g with pc := g.pc + 1, stack := .long (-v) :: rest } | _ => none) else none
  | .i2l => if n = 1 then (match g.stack with | .int v :: rest => some { g with pc := g.pc + 1, stack := .long (v.toInt64) :: rest } | _ => none) else none
  | .l2i => if n = 1 then (match g.stack with | .long v :: rest => some { g with pc := g.pc + 1, stack := .int (v.toInt32) :: rest } | _ => none) else none
  | .i2b => if n = 1 then (match g.stack with | .int v :: rest => some { g with pc := g.pc + 1, stack := .int (v.toInt8.toInt32) :: rest } | _ => none) else none
  | .i2c => if n = 1 then (match g.stack with | .int v :: rest => some { g with pc := g.pc + 1, stack := .int (v.toUInt32.toUInt16.toUInt32.toInt32) :: rest } | _ => none) else none
  | .i2s => if n = 1 then (match g.stack with | .int v :: rest => some { g with pc := g.pc + 1, stack := .int (v.toInt16.toInt32) :: rest } | _ => none) else none
  | .iinc k cst => if n = 3 then (match g.locals[k]? with | some (.val (.int x)) => (match storeLocals g.locals k (.int (x + Int32.ofInt cst)) with | some l' => some { g with pc := g.pc + 3, locals := l' } | none => none) | _ => none) else none
  | .dup => if n = 1 then (match g.stack with | x :: rest => (if x.category = 1 then some { g with pc := g.pc + 1, stack := x :: x :: rest } else none) | _ => none) else none
  | .pop => if n = 1 then (match g.stack with | x :: rest => (if x.category = 1 then some { g with pc := g.pc + 1, stack := rest } else none) | _ => none) else none
  | .goto o => if n = 3 then (if 0 ≤ (g.pc : Int) + o then some { g with pc := ((g.pc : Int) + o).toNat } else none) else none
  | .ldc i => if n = 2 then (match own_look i ci with | some v => some { g with pc := g.pc + 2, stack := .int v :: g.stack } | none => none) else none
  | .ldc_w i => if n = 3 then (match own_look i ci with | some v => some { g with pc := g.pc + 3, stack := .int v :: g.stack } | none => none) else none
  | .ldc2_w i => if n = 3 then (match own_look i cl with | some v => some { g with pc := g.pc + 3, stack := .long v :: g.stack } | none => none) else none
  | .idiv => if n = 1 then (match g.stack with | .int y :: .int x :: rest => (if y = 0 then none else some { g with pc := g.pc + 1, stack := .int (x / y) :: rest }) | _ => none) else none
  | .irem => if n = 1 then (match g.stack with | .int y :: .int x :: rest => (if y = 0 then none else some { g with pc := g.pc + 1, stack := .int (x - (x / y) * y) :: rest }) | _ => none) else none
  | .ldiv => if n = 1 then (match g.stack with | .long y :: .long x :: rest => (if y = 0 then none else some { g with pc := g.pc + 1, stack := .long (x / y) :: rest }) | _ => none) else none
  | .lrem => if n = 1 then (match g.stack with | .long y :: .long x :: rest => (if y = 0 then none else some { g with pc := g.pc + 1, stack := .long (x - (x / y) * y) :: rest }) | _ => none) else none
  | _ => none
section OwnRun
variable {p : Program} {l : Launch} {e : Env} {R : Room} {s : State} {m : MethodId} {args : Array Value} {below : List Frame} {meth : Method} {c : Code} {T target : State} {locs : List Loc} {cells slots kc ks : Nat} {own : String} {ci : List (Nat × Int32)} {cl : List (Nat × Int64)} {Q : Option Value → Heap → List Loc → Prop}
set_option maxHeartbeats 4000000 in
theorem own_pstep_ok (X : Stand p l e R s m args below meth c T locs cells slots) (hx : p.tables.exec = Jvm.exec) (hown : s.vm.findClass own = some m.cls) (hci : ∀ i v, (i, v) ∈ ci → (Cond.constant own i v).before args s = true) (hcl : ∀ i v, (i, v) ∈ cl → (Cond.constantLong own i v).before args s = true)
    {g g' : JFrame} (hg : g.method = m) {i : Instr} {n : Nat} (hd : decode c.code g.pc = .ok (i, n)) (hp : own_pstep ci cl i n g = some g') : (∀ target, Steps p.tables e below (T.setTop g') target → Steps p.tables e below (T.setTop g) target) ∧ g'.method = m := by
  cases i
  all_goals first
    | (exact absurd hp (by intro q; cases q))
    | skip
  case iload_n k =>
    by_cases hn : n = 1
    · subst hn
      replace hp : (match g.locals[k.val]? with | some (.val (.int v)) => some { g with pc := g.pc + 1, stack := .int v :: g.stack } | _ => none) = some g' := hp
      split at hp
      · skip
        cases hp
        exact ⟨fun _ hr => XS.iloadN X.here hx hg hd (by assumption) hr, hg⟩
      · cases hp
    · exact absurd hp (by intro q; rw [show own_pstep ci cl (.iload_n k) n g = none from if_neg hn] at q; cases q)
  case iload k =>
    by_cases hn : n = 2
    · subst hn
      replace hp : (match g.locals[k]? with | some (.val (.int v)) => some { g with pc := g.pc + 2, stack := .int v :: g.stack } | _ => none) = some g' := hp
      split at hp
      · skip
        cases hp
        exact ⟨fun _ hr => XS.iload X.here hx hg hd (by assumption) hr, hg⟩
      · cases hp
    · exact absurd hp (by intro q; rw [show own_pstep ci cl (.iload k) n g = none from if_neg hn] at q; cases q)
  case lload_n k =>
    by_cases hn : n = 1
    · subst hn
      replace hp : (match g.locals[k.val]? with | some (.val (.long v)) => some { g with pc := g.pc + 1, stack := .long v :: g.stack } | _ => none) = some g' := hp
      split at hp
      · skip
        cases hp
        exact ⟨fun _ hr => XS.lloadN X.here hx hg hd (by assumption) hr, hg⟩
      · cases hp
    · exact absurd hp (by intro q; rw [show own_pstep ci cl (.lload_n k) n g = none from if_neg hn] at q; cases q)
  case lload k =>
    by_cases hn : n = 2
    · subst hn
      replace hp : (match g.locals[k]? with | some (.val (.long v)) => some { g with pc := g.pc + 2, stack := .long v :: g.stack } | _ => none) = some g' := hp
      split at hp
      · skip
        cases hp
        exact ⟨fun _ hr => XS.lload X.here hx hg hd (by assumption) hr, hg⟩
      · cases hp
    · exact absurd hp (by intro q; rw [show own_pstep ci cl (.lload k) n g = none from if_neg hn] at q; cases q)
  case aload_n k =>
    by_cases hn : n = 1
    · subst hn
      replace hp : (match g.locals[k.val]? with | some (.val v) => if v.isRef = true then some { g with pc := g.pc + 1, stack := v :: g.stack } else none | _ => none) = some g' := hp
      split at hp
      · skip
        split at hp
        · skip
          cases hp
          exact ⟨fun _ hr => XS.aloadN X.here hx hg hd (by assumption) (by assumption) hr, hg⟩
        · cases hp
      · cases hp
    · exact absurd hp (by intro q; rw [show own_pstep ci cl (.aload_n k) n g = none from if_neg hn] at q; cases q)
  case aload k =>
    by_cases hn : n = 2
    · subst hn
      replace hp : (match g.locals[k]? with | some (.val v) => if v.isRef = true then some { g with pc := g.pc + 2, stack := v :: g.stack } else none | _ => none) = some g' := hp
      split at hp
      · skip
        split at hp
        · skip
          cases hp
          exact ⟨fun _ hr => XS.aload X.here hx hg hd (by assumption) (by assumption) hr, hg⟩
        · cases hp
      · cases hp
    · exact absurd hp (by intro q; rw [show own_pstep ci cl (.aload k) n g = none from if_neg hn] at q; cases q)
  case istore_n k =>
    by_cases hn : n = 1
    · subst hn
      replace hp : (match g.stack with | .int x :: rest => (match storeLocals g.locals k.val (.int x) with | some l' => some { g with pc := g.pc + 1, stack := rest, locals := l' } | none => none) | _ => none) = some g' := hp
      split at hp
      · skip
        split at hp
        · skip
          cases hp
          exact ⟨fun _ hr => XS.istoreN X.here hx hg hd (by assumption) (by assumption) hr, hg⟩
        · cases hp
      · cases hp
    · exact absurd hp (by intro q; rw [show own_pstep ci cl (.istore_n k) n g = none from if_neg hn] at q; cases q)
  case istore k =>
    by_cases hn : n = 2
    · subst hn
      replace hp : (match g.stack with | .int x :: rest => (match storeLocals g.locals k (.int x) with | some l' => some { g with pc := g.pc + 2, stack := rest, locals := l' } | none => none) | _ => none) = some g' := hp
      split at hp
      · skip
        split at hp
        · skip
          cases hp
          exact ⟨fun _ hr => XS.istore X.here hx hg hd (by assumption) (by assumption) hr, hg⟩
        · cases hp
      · cases hp
    · exact absurd hp (by intro q; rw [show own_pstep ci cl (.istore k) n g = none from if_neg hn] at q; cases q)
  case lstore_n k =>
    by_cases hn : n = 1
    · subst hn
      replace hp : (match g.stack with | .long x :: rest => (match storeLocals g.locals k.val (.long x) with | some l' => some { g with pc := g.pc + 1, stack := rest, locals := l' } | none => none) | _ => none) = some g' := hp
      split at hp
      · skip
        split at hp
        · skip
          cases hp
          exact ⟨fun _ hr => XS.lstoreN X.here hx hg hd (by assumption) (by assumption) hr, hg⟩
        · cases hp
      · cases hp
    · exact absurd hp (by intro q; rw [show own_pstep ci cl (.lstore_n k) n g = none from if_neg hn] at q; cases q)
  case lstore k =>
    by_cases hn : n = 2
    · subst hn
      replace hp : (match g.stack with | .long x :: rest => (match storeLocals g.locals k (.long x) with | some l' => some { g with pc := g.pc + 2, stack := rest, locals := l' } | none => none) | _ => none) = some g' := hp
      split at hp
      · skip
        split at hp
        · skip
          cases hp
          exact ⟨fun _ hr => XS.lstore X.here hx hg hd (by assumption) (by assumption) hr, hg⟩
        · cases hp
      · cases hp
    · exact absurd hp (by intro q; rw [show own_pstep ci cl (.lstore k) n g = none from if_neg hn] at q; cases q)
  case astore_n k =>
    by_cases hn : n = 1
    · subst hn
      replace hp : (match g.stack with | x :: rest => (if x.isRef = true then (match storeLocals g.locals k.val x with | some l' => some { g with pc := g.pc + 1, stack := rest, locals := l' } | none => none) else none) | _ => none) = some g' := hp
      split at hp
      · skip
        split at hp
        · skip
          split at hp
          · skip
            cases hp
            exact ⟨fun _ hr => XS.astoreN X.here hx hg hd (by assumption) (by assumption) (by assumption) hr, hg⟩
          · cases hp
        · cases hp
      · cases hp
    · exact absurd hp (by intro q; rw [show own_pstep ci cl (.astore_n k) n g = none from if_neg hn] at q; cases q)
  case astore k =>
    by_cases hn : n = 2
    · subst hn
      replace hp : (match g.stack with | x :: rest => (if x.isRef = true then (match storeLocals g.locals k x with | some l' => some { g with pc := g.pc + 2, stack := rest, locals := l' } | none => none) else none) | _ => none) = some g' := hp
      split at hp
      · skip
        split at hp
        · skip
          split at hp
          · skip
            cases hp
            exact ⟨fun _ hr => XS.astore X.here hx hg hd (by assumption) (by assumption) (by assumption) hr, hg⟩
          · cases hp
        · cases hp
      · cases hp
    · exact absurd hp (by intro q; rw [show own_pstep ci cl (.astore k) n g = none from if_neg hn] at q; cases q)
  case iconst i =>
    by_cases hn : n = 1
    · subst hn
      replace hp : (some { g with pc := g.pc + 1, stack := .int (Int32.ofInt i) :: g.stack }) = some g' := hp
      cases hp
      exact ⟨fun _ hr => XS.iconst X.here hx hg hd hr, hg⟩
    · exact absurd hp (by intro q; rw [show own_pstep ci cl (.iconst i) n g = none from if_neg hn] at q; cases q)
  case bipush i =>
    by_cases hn : n = 2
    · subst hn
      replace hp : (some { g with pc := g.pc + 2, stack := .int (Int8.ofInt i).toInt32 :: g.stack }) = some g' := hp
      cases hp
      exact ⟨fun _ hr => XS.bipush X.here hx hg hd hr, hg⟩
    · exact absurd hp (by intro q; rw [show own_pstep ci cl (.bipush i) n g = none from if_neg hn] at q; cases q)
  case sipush i =>
    by_cases hn : n = 3
    · subst hn
      replace hp : (some { g with pc := g.pc + 3, stack := .int (Int16.ofInt i).toInt32 :: g.stack }) = some g' := hp
      cases hp
      exact ⟨fun _ hr => XS.sipush X.here hx hg hd hr, hg⟩
    · exact absurd hp (by intro q; rw [show own_pstep ci cl (.sipush i) n g = none from if_neg hn] at q; cases q)
  case lconst k =>
    by_cases hn : n = 1
    · subst hn
      replace hp : (some { g with pc := g.pc + 1, stack := .long (Int64.ofNat k) :: g.stack }) = some g' := hp
      cases hp
      exact ⟨fun _ hr => XS.lconst X.here hx hg hd hr, hg⟩
    · exact absurd hp (by intro q; rw [show own_pstep ci cl (.lconst k) n g = none from if_neg hn] at q; cases q)
  case aconst_null =>
    by_cases hn : n = 1
    · subst hn
      replace hp : (some { g with pc := g.pc + 1, stack := .null :: g.stack }) = some g' := hp
      cases hp
      exact ⟨fun _ hr => XS.aconstNull X.here hx hg hd hr, hg⟩
    · exact absurd hp (by intro q; rw [show own_pstep ci cl (.aconst_null) n g = none from if_neg hn] at q; cases q)
  case iadd =>
    by_cases hn : n = 1
    · subst hn
      replace hp : (match g.stack with | .int y :: .int x :: rest => some { g with pc := g.pc + 1, stack := .int (x + y) :: rest } | _ => none) = some g' := hp
      split at hp
      · skip
        cases hp
        exact ⟨fun _ hr => XS.iadd X.here hx hg hd (by assumption) hr, hg⟩
      · cases hp
    · exact absurd hp (by intro q; rw [show own_pstep ci cl (.iadd) n g = none from if_neg hn] at q; cases q)
  case ladd =>
    by_cases hn : n = 1
    · subst hn
      replace hp : (match g.stack with | .long y :: .long x :: rest => some { g with pc := g.pc + 1, stack := .long (x + y) :: rest } | _ => none) = some g' := hp
      split at hp
      · skip
        cases hp
        exact ⟨fun _ hr => XS.ladd X.here hx hg hd (by assumption) hr, hg⟩
      · cases hp
    · exact absurd hp (by intro q; rw [show own_pstep ci cl (.ladd) n g = none from if_neg hn] at q; cases q)
  case isub =>
    by_cases hn : n = 1
    · subst hn
      replace hp : (match g.stack with | .int y :: .int x :: rest => some { g with pc := g.pc + 1, stack := .int (x - y) :: rest } | _ => none) = some g' := hp
      split at hp
      · skip
        cases hp
        exact ⟨fun _ hr => XS.isub X.here hx hg hd (by assumption) hr, hg⟩
      · cases hp
    · exact absurd hp (by intro q; rw [show own_pstep ci cl (.isub) n g = none from if_neg hn] at q; cases q)
  case lsub =>
    by_cases hn : n = 1
    · subst hn
      replace hp : (match g.stack with | .long y :: .long x :: rest => some { g with pc := g.pc + 1, stack := .long (x - y) :: rest } | _ => none) = some g' := hp
      split at hp
      · skip
        cases hp
        exact ⟨fun _ hr => XS.lsub X.here hx hg hd (by assumption) hr, hg⟩
      · cases hp
    · exact absurd hp (by intro q; rw [show own_pstep ci cl (.lsub) n g = none from if_neg hn] at q; cases q)
  case imul =>
    by_cases hn : n = 1
    · subst hn
      replace hp : (match g.stack with | .int y :: .int x :: rest => some { g with pc := g.pc + 1, stack := .int (x * y) :: rest } | _ => none) = some g' := hp
      split at hp
      · skip
        cases hp
        exact ⟨fun _ hr => XS.imul X.here hx hg hd (by assumption) hr, hg⟩
      · cases hp
    · exact absurd hp (by intro q; rw [show own_pstep ci cl (.imul) n g = none from if_neg hn] at q; cases q)
  case lmul =>
    by_cases hn : n = 1
    · subst hn
      replace hp : (match g.stack with | .long y :: .long x :: rest => some { g with pc := g.pc + 1, stack := .long (x * y) :: rest } | _ => none) = some g' := hp
      split at hp
      · skip
        cases hp
        exact ⟨fun _ hr => XS.lmul X.here hx hg hd (by assumption) hr, hg⟩
      · cases hp
    · exact absurd hp (by intro q; rw [show own_pstep ci cl (.lmul) n g = none from if_neg hn] at q; cases q)
  case iand =>
    by_cases hn : n = 1
    · subst hn
      replace hp : (match g.stack with | .int y :: .int x :: rest => some { g with pc := g.pc + 1, stack := .int (x &&& y) :: rest } | _ => none) = some g' := hp
      split at hp
      · skip
        cases hp
        exact ⟨fun _ hr => XS.iand X.here hx hg hd (by assumption) hr, hg⟩
      · cases hp
    · exact absurd hp (by intro q; rw [show own_pstep ci cl (.iand) n g = none from if_neg hn] at q; cases q)
  case land =>
    by_cases hn : n = 1
    · subst hn
      replace hp : (match g.stack with | .long y :: .long x :: rest => some { g with pc := g.pc + 1, stack := .long (x &&& y) :: rest } | _ => none) = some g' := hp
      split at hp
      · skip
        cases hp
        exact ⟨fun _ hr => XS.land X.here hx hg hd (by assumption) hr, hg⟩
      · cases hp
    · exact absurd hp (by intro q; rw [show own_pstep ci cl (.land) n g = none from if_neg hn] at q; cases q)
  case ior =>
    by_cases hn : n = 1
    · subst hn
      replace hp : (match g.stack with | .int y :: .int x :: rest => some { g with pc := g.pc + 1, stack := .int (x ||| y) :: rest } | _ => none) = some g' := hp
      split at hp
      · skip
        cases hp
        exact ⟨fun _ hr => XS.ior X.here hx hg hd (by assumption) hr, hg⟩
      · cases hp
    · exact absurd hp (by intro q; rw [show own_pstep ci cl (.ior) n g = none from if_neg hn] at q; cases q)
  case lor =>
    by_cases hn : n = 1
    · subst hn
      replace hp : (match g.stack with | .long y :: .long x :: rest => some { g with pc := g.pc + 1, stack := .long (x ||| y) :: rest } | _ => none) = some g' := hp
      split at hp
      · skip
        cases hp
        exact ⟨fun _ hr => XS.lor X.here hx hg hd (by assumption) hr, hg⟩
      · cases hp
    · exact absurd hp (by intro q; rw [show own_pstep ci cl (.lor) n g = none from if_neg hn] at q; cases q)
  case ixor =>
    by_cases hn : n = 1
    · subst hn
      replace hp : (match g.stack with | .int y :: .int x :: rest => some { g with pc := g.pc + 1, stack := .int (x ^^^ y) :: rest } | _ => none) = some g' := hp
      split at hp
      · skip
        cases hp
        exact ⟨fun _ hr => XS.ixor X.here hx hg hd (by assumption) hr, hg⟩
      · cases hp
    · exact absurd hp (by intro q; rw [show own_pstep ci cl (.ixor) n g = none from if_neg hn] at q; cases q)
  case lxor =>
    by_cases hn : n = 1
    · subst hn
      replace hp : (match g.stack with | .long y :: .long x :: rest => some { g with pc := g.pc + 1, stack := .long (x ^^^ y) :: rest } | _ => none) = some g' := hp
      split at hp
      · skip
        cases hp
        exact ⟨fun _ hr => XS.lxor X.here hx hg hd (by assumption) hr, hg⟩
      · cases hp
    · exact absurd hp (by intro q; rw [show own_pstep ci cl (.lxor) n g = none from if_neg hn] at q; cases q)
  case ishl =>
    by_cases hn : n = 1
    · subst hn
      replace hp : (match g.stack with | .int y :: .int x :: rest => some { g with pc := g.pc + 1, stack := .int (x <<< (y &&& 31)) :: rest } | _ => none) = some g' := hp
      split at hp
      · skip
        cases hp
        exact ⟨fun _ hr => XS.ishl X.here hx hg hd (by assumption) hr, hg⟩
      · cases hp
    · exact absurd hp (by intro q; rw [show own_pstep ci cl (.ishl) n g = none from if_neg hn] at q; cases q)
  case ishr =>
    by_cases hn : n = 1
    · subst hn
      replace hp : (match g.stack with | .int y :: .int x :: rest => some { g with pc := g.pc + 1, stack := .int (x >>> (y &&& 31)) :: rest } | _ => none) = some g' := hp
      split at hp
      · skip
        cases hp
        exact ⟨fun _ hr => XS.ishr X.here hx hg hd (by assumption) hr, hg⟩
      · cases hp
    · exact absurd hp (by intro q; rw [show own_pstep ci cl (.ishr) n g = none from if_neg hn] at q; cases q)
  case iushr =>
    by_cases hn : n = 1
    · subst hn
      replace hp : (match g.stack with | .int y :: .int x :: rest => some { g with pc := g.pc + 1, stack := .int ((x.toUInt32 >>> (y &&& 31).toUInt32).toInt32) :: rest } | _ => none) = some g' := hp
      split at hp
      · skip
        cases hp
        exact ⟨fun _ hr => XS.iushr X.here hx hg hd (by assumption) hr, hg⟩
      · cases hp
    · exact absurd hp (by intro q; rw [show own_pstep ci cl (.iushr) n g = none from if_neg hn] at q; cases q)
  case lshl =>
    by_cases hn : n = 1
    · subst hn
      replace hp : (match g.stack with | .int y :: .long x :: rest => some { g with pc := g.pc + 1, stack := .long (x <<< (y &&& 0x3f).toInt64) :: rest } | _ => none) = some g' := hp
      split at hp
      · skip
        cases hp
        exact ⟨fun _ hr => XS.lshl X.here hx hg hd (by assumption) hr, hg⟩
      · cases hp
    · exact absurd hp (by intro q; rw [show own_pstep ci cl (.lshl) n g = none from if_neg hn] at q; cases q)
  case lshr =>
    by_cases hn : n = 1
    · subst hn
      replace hp : (match g.stack with | .int y :: .long x :: rest => some { g with pc := g.pc + 1, stack := .long (x >>> (y &&& 0x3f).toInt64) :: rest } | _ => none) = some g' := hp
      split at hp
      · skip
        cases hp
        exact ⟨fun _ hr => XS.lshr X.here hx hg hd (by assumption) hr, hg⟩
      · cases hp
    · exact absurd hp (by intro q; rw [show own_pstep ci cl (.lshr) n g = none from if_neg hn] at q; cases q)
  case lushr =>
    by_cases hn : n = 1
    · subst hn
      replace hp : (match g.stack with | .int y :: .long x :: rest => some { g with pc := g.pc + 1, stack := .long ((x.toUInt64 >>> (y &&& 0x3f).toInt64.toUInt64).toInt64) :: rest } | _ => none) = some g' := hp
      split at hp
      · skip
        cases hp
        exact ⟨fun _ hr => XS.lushr X.here hx hg hd (by assumption) hr, hg⟩
      · cases hp
    · exact absurd hp (by intro q; rw [show own_pstep ci cl (.lushr) n g = none from if_neg hn] at q; cases q)
  case lcmp =>
    by_cases hn : n = 1
    · subst hn
      replace hp : (match g.stack with | .long y :: .long x :: rest => some { g with pc := g.pc + 1, stack := .int (if x > y then 1 else if x = y then 0 else -1) :: rest } | _ => none) = some g' := hp
      split at hp
      · skip
        cases hp
        exact ⟨fun _ hr => XS.lcmp X.here hx hg hd (by assumption) hr, hg⟩
      · cases hp
    · exact absurd hp (by intro q; rw [show own_pstep ci cl (.lcmp) n g = none from if_neg hn] at q; cases q)
  case ineg =>
    by_cases hn : n = 1
    · subst hn
      replace hp : (match g.stack with | .int v :: rest => some { g with pc := g.pc + 1, stack := .int (-v) :: rest } | _ => none) = some g' := hp
      split at hp
      · skip
        cases hp
        exact ⟨fun _ hr => XS.ineg X.here hx hg hd (by assumption) hr, hg⟩
      · cases hp
    · exact absurd hp (by intro q; rw [show own_pstep ci cl (.ineg) n g = none from if_neg hn] at q; cases q)
  case lneg =>
    by_cases hn : n = 1
    · subst hn
      replace hp : (match g.stack with | .long v :: rest => some { g with pc := g.pc + 1, stack := .long (-v) :: rest } | _ => none) = some g' := hp
      split at hp
      · skip
        cases hp
        exact ⟨fun _ hr => XS.lneg X.here hx hg hd (by assumption) hr, hg⟩
      · cases hp
    · exact absurd hp (by intro q; rw [show own_pstep ci cl (.lneg) n g = none from if_neg hn] at q; cases q)
  case i2l =>
    by_cases hn : n = 1
    · subst hn
      replace hp : (match g.stack with | .int v :: rest => some { g with pc := g.pc + 1, stack := .long (v.toInt64) :: rest } | _ => none) = some g' := hp
      split at hp
      · skip
        cases hp
        exact ⟨fun _ hr => XS.i2l X.here hx hg hd (by assumption) hr, hg⟩
      · cases hp
    · exact absurd hp (by intro q; rw [show own_pstep ci cl (.i2l) n g = none from if_neg hn] at q; cases q)
  case l2i =>
    by_cases hn : n = 1
    · subst hn
      replace hp : (match g.stack with | .long v :: rest => some { g with pc := g.pc + 1, stack := .int (v.toInt32) :: rest } | _ => none) = some g' := hp
      split at hp
      · skip
        cases hp
        exact ⟨fun _ hr => XS.l2i X.here hx hg hd (by assumption) hr, hg⟩
      · cases hp
    · exact absurd hp (by intro q; rw [show own_pstep ci cl (.l2i) n g = none from if_neg hn] at q; cases q)
  case i2b =>
    by_cases hn : n = 1
    · subst hn
      replace hp : (match g.stack with | .int v :: rest => some { g with pc := g.pc + 1, stack := .int (v.toInt8.toInt32) :: rest } | _ => none) = some g' := hp
      split at hp
      · skip
        cases hp
        exact ⟨fun _ hr => XS.i2b X.here hx hg hd (by assumption) hr, hg⟩
      · cases hp
    · exact absurd hp (by intro q; rw [show own_pstep ci cl (.i2b) n g = none from if_neg hn] at q; cases q)
  case i2c =>
    by_cases hn : n = 1
    · subst hn
      replace hp : (match g.stack with | .int v :: rest => some { g with pc := g.pc + 1, stack := .int (v.toUInt32.toUInt16.toUInt32.toInt32) :: rest } | _ => none) = some g' := hp
      split at hp
      · skip
        cases hp
        exact ⟨fun _ hr => XS.i2c X.here hx hg hd (by assumption) hr, hg⟩
      · cases hp
    · exact absurd hp (by intro q; rw [show own_pstep ci cl (.i2c) n g = none from if_neg hn] at q; cases q)
  case i2s =>
    by_cases hn : n = 1
    · subst hn
      replace hp : (match g.stack with | .int v :: rest => some { g with pc := g.pc + 1, stack := .int (v.toInt16.toInt32) :: rest } | _ => none) = some g' := hp
      split at hp
      · skip
        cases hp
        exact ⟨fun _ hr => XS.i2s X.here hx hg hd (by assumption) hr, hg⟩
      · cases hp
    · exact absurd hp (by intro q; rw [show own_pstep ci cl (.i2s) n g = none from if_neg hn] at q; cases q)
  case iinc k cst =>
    by_cases hn : n = 3
    · subst hn
      replace hp : (match g.locals[k]? with | some (.val (.int x)) => (match storeLocals g.locals k (.int (x + Int32.ofInt cst)) with | some l' => some { g with pc := g.pc + 3, locals := l' } | none => none) | _ => none) = some g' := hp
      split at hp
      · skip
        split at hp
        · skip
          cases hp
          exact ⟨fun _ hr => XS.iinc X.here hx hg hd (by assumption) (by assumption) hr, hg⟩
        · cases hp
      · cases hp
    · exact absurd hp (by intro q; rw [show own_pstep ci cl (.iinc k cst) n g = none from if_neg hn] at q; cases q)
  case dup =>
    by_cases hn : n = 1
    · subst hn
      replace hp : (match g.stack with | x :: rest => (if x.category = 1 then some { g with pc := g.pc + 1, stack := x :: x :: rest } else none) | _ => none) = some g' := hp
      split at hp
      · skip
        split at hp
        · skip
          cases hp
          exact ⟨fun _ hr => XS.dup X.here hx hg hd (by assumption) (by assumption) hr, hg⟩
        · cases hp
      · cases hp
    · exact absurd hp (by intro q; rw [show own_pstep ci cl (.dup) n g = none from if_neg hn] at q; cases q)
  case pop =>
    by_cases hn : n = 1
    · subst hn
      replace hp : (match g.stack with | x :: rest => (if x.category = 1 then some { g with pc := g.pc + 1, stack := rest } else none) | _ => none) = some g' := hp
      split at hp
      · skip
        split at hp
        · skip
          cases hp
          exact ⟨fun _ hr => XS.pop X.here hx hg hd (by assumption) (by assumption) hr, hg⟩
        · cases hp
      · cases hp
    · exact absurd hp (by intro q; rw [show own_pstep ci cl (.pop) n g = none from if_neg hn] at q; cases q)
  case goto o =>
    by_cases hn : n = 3
    · subst hn
      replace hp : (if 0 ≤ (g.pc : Int) + o then some { g with pc := ((g.pc : Int) + o).toNat } else none) = some g' := hp
      split at hp
      · skip
        cases hp
        exact ⟨fun _ hr => XS.goto X.here hx hg rfl hd (by assumption) rfl hr, hg⟩
      · cases hp
    · exact absurd hp (by intro q; rw [show own_pstep ci cl (.goto o) n g = none from if_neg hn] at q; cases q)
  case ldc i =>
    by_cases hn : n = 2
    · subst hn
      replace hp : (match own_look i ci with | some v => some { g with pc := g.pc + 2, stack := .int v :: g.stack } | none => none) = some g' := hp
      split at hp
      · skip
        cases hp
        exact ⟨fun _ hr => X.ldcInt hx hown (hci _ _ (own_look_mem (by assumption))) hg hd _ hr, hg⟩
      · cases hp
    · exact absurd hp (by intro q; rw [show own_pstep ci cl (.ldc i) n g = none from if_neg hn] at q; cases q)
  case ldc_w i =>
    by_cases hn : n = 3
    · subst hn
      replace hp : (match own_look i ci with | some v => some { g with pc := g.pc + 3, stack := .int v :: g.stack } | none => none) = some g' := hp
      split at hp
      · skip
        cases hp
        exact ⟨fun _ hr => X.ldcwInt hx hown (hci _ _ (own_look_mem (by assumption))) hg hd _ hr, hg⟩
      · cases hp
    · exact absurd hp (by intro q; rw [show own_pstep ci cl (.ldc_w i) n g = none from if_neg hn] at q; cases q)
  case ldc2_w i =>
    by_cases hn : n = 3
    · subst hn
      replace hp : (match own_look i cl with | some v => some { g with pc := g.pc + 3, stack := .long v :: g.stack } | none => none) = some g' := hp
      split at hp
      · skip
        cases hp
        exact ⟨fun _ hr => X.ldc2Long hx hown (hcl _ _ (own_look_mem (by assumption))) hg hd _ hr, hg⟩
      · cases hp
    · exact absurd hp (by intro q; rw [show own_pstep ci cl (.ldc2_w i) n g = none from if_neg hn] at q; cases q)
  case idiv =>
    by_cases hn : n = 1
    · subst hn
      replace hp : (match g.stack with | .int y :: .int x :: rest => (if y = 0 then none else some { g with pc := g.pc + 1, stack := .int (x / y) :: rest }) | _ => none) = some g' := hp
      split at hp
      · skip
        split at hp
        · cases hp
        · cases hp; exact ⟨fun _ hr => XS.idiv X.here hx hg hd (by assumption) (by assumption) hr, hg⟩
      · cases hp
    · exact absurd hp (by intro q; rw [show own_pstep ci cl (.idiv) n g = none from if_neg hn] at q; cases q)
  case irem =>
    by_cases hn : n = 1
    · subst hn
      replace hp : (match g.stack with | .int y :: .int x :: rest => (if y = 0 then none else some { g with pc := g.pc + 1, stack := .int (x - (x / y) * y) :: rest }) | _ => none) = some g' := hp
      split at hp
      · skip
        split at hp
        · cases hp
        · cases hp; exact ⟨fun _ hr => XS.irem X.here hx hg hd (by assumption) (by assumption) hr, hg⟩
      · cases hp
    · exact absurd hp (by intro q; rw [show own_pstep ci cl (.irem) n g = none from if_neg hn] at q; cases q)
  case ldiv =>
    by_cases hn : n = 1
    · subst hn
      replace hp : (match g.stack with | .long y :: .long x :: rest => (if y = 0 then none else some { g with pc := g.pc + 1, stack := .long (x / y) :: rest }) | _ => none) = some g' := hp
      split at hp
      · skip
        split at hp
        · cases hp
        · cases hp; exact ⟨fun _ hr => XS.ldiv X.here hx hg hd (by assumption) (by assumption) hr, hg⟩
      · cases hp
    · exact absurd hp (by intro q; rw [show own_pstep ci cl (.ldiv) n g = none from if_neg hn] at q; cases q)
  case lrem =>
    by_cases hn : n = 1
    · subst hn
      replace hp : (match g.stack with | .long y :: .long x :: rest => (if y = 0 then none else some { g with pc := g.pc + 1, stack := .long (x - (x / y) * y) :: rest }) | _ => none) = some g' := hp
      split at hp
      · skip
        split at hp
        · cases hp
        · cases hp; exact ⟨fun _ hr => XS.lrem X.here hx hg hd (by assumption) (by assumption) hr, hg⟩
      · cases hp
    · exact absurd hp (by intro q; rw [show own_pstep ci cl (.lrem) n g = none from if_neg hn] at q; cases q)
def own_decs (code : ByteArray) (L : List (Nat × Instr × Nat)) : Bool := L.all fun q => decide (decode code q.1 = .ok (q.2.1, q.2.2))
def own_prun (ci : List (Nat × Int32)) (cl : List (Nat × Int64)) : List (Nat × Instr × Nat) → JFrame → Option JFrame
  | [], g => some g
  | (pc, i, n) :: r, g => if g.pc = pc then (match own_pstep ci cl i n g with | some g' => own_prun ci cl r g' | none => none) else none
theorem own_prun_ok (X : Stand p l e R s m args below meth c T locs cells slots) (hx : p.tables.exec = Jvm.exec) (hown : s.vm.findClass own = some m.cls) (hci : ∀ i v, (i, v) ∈ ci → (Cond.constant own i v).before args s = true) (hcl : ∀ i v, (i, v) ∈ cl → (Cond.constantLong own i v).before args s = true) {code : ByteArray} (hby : c.code = code) :
    ∀ (L : List (Nat × Instr × Nat)) (g g' : JFrame), g.method = m → own_decs code L = true → own_prun ci cl L g = some g' → Steps p.tables e below (T.setTop g') target → Steps p.tables e below (T.setTop g) target := by
  intro L
  induction L with
  | nil => intro g g' _ _ hp hr; cases hp; exact hr
  | cons q r ih =>
    intro g g' hg hd hp hr
    obtain ⟨pc, i, n⟩ := q
    have hd' : decide (decode code pc = .ok (i, n)) = true ∧ own_decs code r = true := by
      have : (decide (decode code pc = .ok (i, n)) && own_decs code r) = true := hd
      simpa using this
    replace hp : (if g.pc = pc then (match own_pstep ci cl i n g with | some g' => own_prun ci cl r g' | none => none) else none) = some g' := hp
    by_cases hpc : g.pc = pc
    · rw [if_pos hpc] at hp
      cases hs : own_pstep ci cl i n g with
      | none => rw [hs] at hp; cases hp
      | some g1 =>
        rw [hs] at hp
        have q := own_pstep_ok X hx hown hci hcl hg (i := i) (n := n) (by rw [hby, hpc]; exact of_decide_eq_true hd'.1) hs
        exact q.1 _ (ih g1 g' q.2 hd'.2 hp hr)
    · rw [if_neg hpc] at hp; cases hp
theorem Goes.run (X : Stand p l e R s m args below meth c T locs cells slots) (hx : p.tables.exec = Jvm.exec) (hown : s.vm.findClass own = some m.cls) (hci : ∀ i v, (i, v) ∈ ci → (Cond.constant own i v).before args s = true) (hcl : ∀ i v, (i, v) ∈ cl → (Cond.constantLong own i v).before args s = true) {code : ByteArray} (hby : c.code = code)
    {L : List (Nat × Instr × Nat)} (hd : own_decs code L = true) {g g' : JFrame} (hg : g.method = m) (hp : own_prun ci cl L g = some g') (h : Goes p e below s Q kc ks (T.setTop g')) : Goes p e below s Q kc ks (T.setTop g) :=
  Goes.st (fun _ k => own_prun_ok X hx hown hci hcl hby L g g' hg hd hp k) h
theorem own_ci0 {α : Type} {P : Nat → α → Prop} : ∀ i v, (i, v) ∈ ([] : List (Nat × α)) → P i v := fun _ _ q => nomatch q
theorem own_ciS {α : Type} {P : Nat → α → Prop} {j : Nat} {w : α} {L : List (Nat × α)} (h : P j w) (r : ∀ i v, (i, v) ∈ L → P i v) : ∀ i v, (i, v) ∈ (j, w) :: L → P i v := fun i v q => (List.mem_cons.mp q).elim (fun z => by cases z; exact h) (r i v)
end OwnRun
theorem own_rem32 (x y : Int32) : (x - (x / y) * y).toInt = x.toInt.tmod y.toInt := by
  have a := (x % y).toInt_lt; have b := (x % y).le_toInt
  rw [Int32.toInt_mod] at a b
  rw [Int32.toInt_sub, Int32.toInt_mul, Int32.toInt_div, Int.bmod_mul_bmod, Int.sub_bmod_bmod, Int.mul_comm, ← Int.tmod_def]
  exact Jvm.Kit.bmod32 b a
section OwnNums
variable {x y : Int64} {u v : Int32} {a b : Int}
theorem own_r32 (hx : u.toInt = a) (hy : v.toInt = b) (h0 : 0 ≤ a) : (u - (u / v) * v).toInt = a % b := by subst hx hy; rw [own_rem32, Int.tmod_eq_emod_of_nonneg h0]
theorem own_r64 (hx : x.toInt = a) (hy : y.toInt = b) (h0 : 0 ≤ a) : (x - (x / y) * y).toInt = a % b := by subst hx hy; rw [Jvm.Kit.i64_rem, Int.tmod_eq_emod_of_nonneg h0]
theorem own_mul64 (hx : x.toInt = a) (hy : y.toInt = b) (h1 : -2 ^ 63 ≤ a * b) (h2 : a * b < 2 ^ 63) : (x * y).toInt = a * b := by subst hx hy; exact Jvm.Kit.i64_mul h1 h2
theorem own_mul32 (hx : u.toInt = a) (hy : v.toInt = b) (h1 : -2 ^ 31 ≤ a * b) (h2 : a * b < 2 ^ 31) : (u * v).toInt = a * b := by subst hx hy; exact Jvm.Kit.i32_mul h1 h2
theorem own_add64 (hx : x.toInt = a) (hy : y.toInt = b) (h1 : -2 ^ 63 ≤ a + b) (h2 : a + b < 2 ^ 63) : (x + y).toInt = a + b := by subst hx hy; exact Jvm.Kit.i64_add h1 h2
theorem own_add32 (hx : u.toInt = a) (hy : v.toInt = b) (h1 : -2 ^ 31 ≤ a + b) (h2 : a + b < 2 ^ 31) : (u + v).toInt = a + b := by subst hx hy; exact Jvm.Kit.i32_add h1 h2
theorem own_sub64 (hx : x.toInt = a) (hy : y.toInt = b) (h1 : -2 ^ 63 ≤ a - b) (h2 : a - b < 2 ^ 63) : (x - y).toInt = a - b := by subst hx hy; exact Jvm.Kit.i64_sub h1 h2
theorem own_sub32 (hx : u.toInt = a) (hy : v.toInt = b) (h1 : -2 ^ 31 ≤ a - b) (h2 : a - b < 2 ^ 31) : (u - v).toInt = a - b := by subst hx hy; exact Jvm.Kit.i32_sub h1 h2
theorem own_i2l (hx : u.toInt = a) : u.toInt64.toInt = a := by subst hx; exact Jvm.Kit.i64_of_i32 u
theorem own_lt64 (hx : x.toInt = a) (hy : y.toInt = b) : x < y ↔ a < b := by rw [Int64.lt_iff_toInt_lt, hx, hy]
theorem own_lt32 (hx : u.toInt = a) (hy : v.toInt = b) : u < v ↔ a < b := by rw [Int32.lt_iff_toInt_lt, hx, hy]
theorem own_eq64 (hx : x.toInt = a) (hy : y.toInt = b) : x = y ↔ a = b := by rw [← Int64.toInt_inj, hx, hy]
theorem own_eq32 (hx : u.toInt = a) (hy : v.toInt = b) : u = v ↔ a = b := by rw [← Int32.toInt_inj, hx, hy]
theorem own_m32 (u : Int32) (m : Int32) {k : Nat} (hk : k < 32) (hm : m.toBitVec.toNat = 2 ^ k - 1) : ∃ a : Int, (u &&& m).toInt = a ∧ 0 ≤ a ∧ a < 2 ^ k ∧ a = u.toInt % 2 ^ k := by
  refine ⟨_, Jvm.Kit.i32_mask u m hk hm, Int.emod_nonneg _ (Int.ne_of_gt (Int.pow_pos (by decide))), Int.emod_lt_of_pos _ (Int.pow_pos (by decide)), rfl⟩
theorem own_m64 (x : Int64) (m : Int64) {k : Nat} (hk : k < 64) (hm : m.toBitVec.toNat = 2 ^ k - 1) : ∃ a : Int, (x &&& m).toInt = a ∧ 0 ≤ a ∧ a < 2 ^ k ∧ a = x.toInt % 2 ^ k := by
  refine ⟨_, Jvm.Kit.i64_mask x m hk hm, Int.emod_nonneg _ (Int.ne_of_gt (Int.pow_pos (by decide))), Int.emod_lt_of_pos _ (Int.pow_pos (by decide)), rfl⟩
theorem own_nm {P : Int → Prop} {z : Int} (h : P z) : ∃ a, a = z ∧ P a := ⟨z, rfl, h⟩
end OwnNums
theorem own_nat32 {u : Int32} {a : Int} (hu : u.toInt = a) (h0 : 0 ≤ a) {N : Nat} (h1 : a < N) : ∃ n : Nat, n < N ∧ u = Int32.ofNat n ∧ a = (n : Int) := by
  have q := u.toInt_lt
  refine ⟨a.toNat, by omega, ?_, by omega⟩
  apply Int32.toInt_inj.mp
  rw [Int32.toInt_ofNat_of_lt (by omega), hu]; omega
theorem own_bv64 {x : Int64} {a : Int} (hx : x.toInt = a) (h0 : 0 ≤ a) : (x.toBitVec.toNat : Int) = a := by
  have e : x.toInt = x.toBitVec.toInt := rfl
  have hb := x.toBitVec.isLt
  rw [e, BitVec.toInt_eq_toNat_cond] at hx
  split at hx <;> omega
theorem own_bv32 {x : Int32} {a : Int} (hx : x.toInt = a) (h0 : 0 ≤ a) : (x.toBitVec.toNat : Int) = a := by
  have e : x.toInt = x.toBitVec.toInt := rfl
  have hb := x.toBitVec.isLt
  rw [e, BitVec.toInt_eq_toNat_cond] at hx
  split at hx <;> omega
theorem own_shn (y : Int32) : ((y &&& 0x3f).toInt64.toUInt64).toNat < 64 := by
  obtain ⟨a, h1, h2, h3, -⟩ := own_m32 y (0x3f : Int32) (k := 6) (by decide) (by decide)
  have h4 := own_bv64 (own_i2l h1) h2
  have e : ((y &&& 0x3f).toInt64.toUInt64).toNat = (y &&& 0x3f).toInt64.toBitVec.toNat := rfl
  rw [e]
  omega
theorem own_ushr0 {x : Int64} {a : Int} (hx : x.toInt = a) (h0 : 0 ≤ a) (y : Int32) : ∃ b : Int, ((x.toUInt64 >>> (y &&& 0x3f).toInt64.toUInt64).toInt64).toInt = b ∧ 0 ≤ b ∧ b ≤ a := by
  refine ⟨_, Jvm.Kit.i64_lushr (by rw [Jvm.Kit.i64_nonneg, hx]; exact h0) rfl (own_shn y), ?_, ?_⟩
  · rw [hx]; exact Int.ediv_nonneg h0 (Int.le_of_lt (Int.pow_pos (by decide)))
  · rw [hx]; exact Int.ediv_le_self _ h0
theorem own_ushrk {x : Int64} {a : Int} (hx : x.toInt = a) (h0 : 0 ≤ a) {n : UInt64} {k : Nat} (hn : n.toNat = k) (hk : k < 64) {d : Int} (hd : (2 : Int) ^ k = d) : ((x.toUInt64 >>> n).toInt64).toInt = a / d := by
  rw [Jvm.Kit.i64_lushr (by rw [Jvm.Kit.i64_nonneg, hx]; exact h0) hn hk, hx, hd]
theorem own_ofbv32 {x : Int32} (h : x.toBitVec.toNat < 2 ^ 31) : x.toInt = (x.toBitVec.toNat : Int) := by
  have e : x.toInt = x.toBitVec.toInt := rfl
  rw [e, BitVec.toInt_eq_toNat_cond, if_pos (by omega)]
theorem own_xor32 {x y : Int32} {a b : Int} (hx : x.toInt = a) (hy : y.toInt = b) (h0 : 0 ≤ a) (h1 : 0 ≤ b) : ∃ c : Int, (x ^^^ y).toInt = c ∧ 0 ≤ c := by
  have p := own_bv32 hx h0; have q := own_bv32 hy h1
  have r := x.toInt_lt; have s := y.toInt_lt
  have e : (x ^^^ y).toBitVec.toNat = x.toBitVec.toNat ^^^ y.toBitVec.toNat := by simp [Int32.toBitVec_xor, BitVec.toNat_xor]
  have l : (x ^^^ y).toBitVec.toNat < 2 ^ 31 := by rw [e]; exact Nat.xor_lt_two_pow (by omega) (by omega)
  exact ⟨_, own_ofbv32 l, Int.natCast_nonneg _⟩
theorem own_la3 {x : Int32} (h : x = 0 ∨ x = 1 ∨ x = 2) (h0 : ¬ x = 0) (h1 : ¬ x = 1) : x = 2 := (h.resolve_left h0).resolve_left h1
theorem own_la2 {x : Int32} (h : x = 0 ∨ x = 1) (h0 : ¬ x = 0) : x = 1 := h.resolve_left h0
theorem d1_7 : decode method_2_code 7 = .ok (.ifCond .eq 7, 3) := by decide +kernel
theorem d1_19 : decode method_2_code 19 = .ok (.lreturn, 1) := by decide +kernel
theorem pn1 : plainName "com/example/kubera/kubera/DealingRingNextPinLaw" = true := by first | (simp [plainName, overriddenIn]; done) | decide +kernel
theorem ef1 (m : MethodId) (x0 : Int64) : entryFrame m #[(.long x0)] 2 = (mkF m 0 #[jv x0, .second] []) := by first | (simp [entryFrame, mkF, argsToLocals, Value.category]; done) | rfl
def r1 (x0 : Int64) : Int64 := (if (x0 &&& (4 : Int64)) = (0 : Int64) then (x0 &&& (3 : Int64)) else x0)
set_option maxRecDepth 65536 in
set_option maxHeartbeats 40000000 in
theorem rm1 (l : Launch) (Z : State) (a0 : Array Value) (hw : ∀ d ∈ tables_1, d.before a0 Z = true) (ws : List Jvm.Cond) (x0 : Int64) (h0 : Heap) (n0 : Nat) (Z0 : n0 ≤ h0.size) :
    MetFree l ym0 (head1 (Jvm.Cond.code ym0 method_2_code 2 (some .long) :: ws) ({ frames := 0, cells := 0, slots := 0, locals := 0 } : Room)) (fun a U => a = #[(.long x0)] ∧ Z.Warmed39 U.vm ∧ U.heap = h0) (fun _ _ _ _ _ => True) (fun _ U o U' => ∃ v L, o = .returned v ∧ (QP (some (.long (r1 x0))) h0 n0) v U'.heap L ∧ FrameEnd U o U' L ({ frames := 0, cells := 0, slots := 0, locals := 0 } : Room).cells ({ frames := 0, cells := 0, slots := 0, locals := 0 } : Room).slots) := by
  refine MetFree.of_bodySF (plainFor_of_name pn1) hisR ?_
  intro p e s m args below meth c s₁ Bd hml0 hP hK
  obtain ⟨rfl, hZ, hh⟩ := hP
  have hx := Bd.exec
  have hby := Bd.bytes
  have hml : c.maxLocals = 2 := hml0
  have hlk : meth.locks = false := BodyLoose.notSynchronized Bd
  have hown : s.vm.findClass "com/example/kubera/kubera/DealingRingNextPinLaw" = some m.cls := findClass_of_methodNamed Bd.named
  have hnm := (name_of_methodNamed Bd.named Bd.method).1
  have w_4 := hw _ (List.mem_of_getElem? (i := 4) rfl)
  have w_5 := hw _ (List.mem_of_getElem? (i := 5) rfl)
  have w_8 := hw _ (List.mem_of_getElem? (i := 8) rfl)
  have hci : ∀ i v, (i, v) ∈ ([] : List (Nat × Int32)) → (Jvm.Cond.constant "com/example/kubera/kubera/DealingRingNextPinLaw" i v).before #[(.long x0)] s = true := own_ci0
  have hcl : ∀ i v, (i, v) ∈ ([(7, 4), (9, 3), (17, 2)] : List (Nat × Int64)) → (Jvm.Cond.constantLong "com/example/kubera/kubera/DealingRingNextPinLaw" i v).before #[(.long x0)] s = true := (own_ciS (mvT hZ w_4) (own_ciS (mvT hZ w_5) (own_ciS (mvT hZ w_8) own_ci0)))
  have X0 : Stand p l e ({ frames := 0, cells := 0, slots := 0, locals := 0 } : Room) s m #[(.long x0)] below meth c s₁ [] 0 0 := Stand.of_body Bd
  have e0 : s₁.heap = h0 := by rw [← hh, Bd.state]; rfl
  have N0 := Fr.nil n0
  show Goes p e below s (QP (some (.long (r1 x0))) h0 n0) ({ frames := 0, cells := 0, slots := 0, locals := 0 } : Room).cells ({ frames := 0, cells := 0, slots := 0, locals := 0 } : Room).slots (s₁.setTop (entryFrame m #[(.long x0)] 2))
  refine Goes.cast (ef1 m x0) ?_
  refine Goes.run X0 hx hown hci hcl hby (L := [(0, .lload_n 0, 1), (1, .ldc2_w 7, 3), (4, .land, 1), (5, .lconst 0, 1), (6, .lcmp, 1)]) (by decide +kernel) rfl (g' := (mkF m 7 #[jv x0, .second] [(.int (lcmpW (x0 &&& (4 : Int64)) (0 : Int64)))])) rfl ?_
  by_cases hc7_1 : (x0 &&& (4 : Int64)) = (0 : Int64)
  · skip
    refine Goes.st (B := s₁.setTop (mkF m 14 #[jv x0, .second] [])) (fun t k => ?_) ?_
    · refine XS.ifYes X0.here hx rfl (pc0 := 7) (pc' := 14) rfl (hb hby d1_7) rfl (teqL hc7_1).1 (by decide) (by decide) ?_
      exact k
    refine Goes.run X0 hx hown hci hcl hby (L := [(14, .lload_n 0, 1), (15, .ldc2_w 9, 3), (18, .land, 1)]) (by decide +kernel) rfl (g' := (mkF m 19 #[jv x0, .second] [(.long (x0 &&& (3 : Int64)))])) rfl ?_
    exact Goes.retJ X0 hx hlk Bd.returns (hb hby d1_19) ⟨(congrArg (fun z => some (Value.long z)) (show (r1 x0) = (x0 &&& (3 : Int64)) from (if_pos hc7_1)).symm), N0, e0⟩ (by decide) (by decide)
  · skip
    refine Goes.st (B := s₁.setTop (mkF m 10 #[jv x0, .second] [])) (fun t k => ?_) ?_
    · refine XS.ifNo X0.here hx rfl (hb hby d1_7) rfl (feqL hc7_1).1 ?_
      exact k
    refine Goes.run X0 hx hown hci hcl hby (L := [(10, .lload_n 0, 1), (11, .goto 8, 3)]) (by decide +kernel) rfl (g' := (mkF m 19 #[jv x0, .second] [(.long x0)])) rfl ?_
    exact Goes.retJ X0 hx hlk Bd.returns (hb hby d1_19) ⟨(congrArg (fun z => some (Value.long z)) (show (r1 x0) = x0 from (if_neg hc7_1)).symm), N0, e0⟩ (by decide) (by decide)
theorem d2_1 : decode prog_4_method_1_code 1 = .ok (.invokespecial 1, 3) := by decide +kernel
theorem d2_6 : decode prog_4_method_1_code 6 = .ok (.invokevirtual 7, 3) := by decide +kernel
theorem d2_9 : decode prog_4_method_1_code 9 = .ok (.checkcast 8, 3) := by decide +kernel
theorem d2_12 : decode prog_4_method_1_code 12 = .ok (.putfield 13, 3) := by decide +kernel
theorem d2_17 : decode prog_4_method_1_code 17 = .ok (.arraylength, 1) := by decide +kernel
theorem d2_18 : decode prog_4_method_1_code 18 = .ok (.newarray .int, 2) := by decide +kernel
theorem d2_20 : decode prog_4_method_1_code 20 = .ok (.putfield 18, 3) := by decide +kernel
theorem d2_27 : decode prog_4_method_1_code 27 = .ok (.arraylength, 1) := by decide +kernel
theorem d2_28 : decode prog_4_method_1_code 28 = .ok (.if_icmp .ge 37, 3) := by decide +kernel
theorem d2_33 : decode prog_4_method_1_code 33 = .ok (.laload, 1) := by decide +kernel
theorem d2_36 : decode prog_4_method_1_code 36 = .ok (.ifCond .le 23, 3) := by decide +kernel
theorem d2_40 : decode prog_4_method_1_code 40 = .ok (.getfield 18, 3) := by decide +kernel
theorem d2_44 : decode prog_4_method_1_code 44 = .ok (.getfield 22, 3) := by decide +kernel
theorem d2_48 : decode prog_4_method_1_code 48 = .ok (.iastore, 1) := by decide +kernel
theorem d2_51 : decode prog_4_method_1_code 51 = .ok (.getfield 22, 3) := by decide +kernel
theorem d2_56 : decode prog_4_method_1_code 56 = .ok (.putfield 22, 3) := by decide +kernel
theorem d2_65 : decode prog_4_method_1_code 65 = .ok (.return_, 1) := by decide +kernel
theorem pn2 : plainName "com/example/kubera/kubera/DealingRing" = true := by first | (simp [plainName, overriddenIn]; done) | decide +kernel
theorem ef2 (m : MethodId) (x0 : Addr) (x1 : Addr) : entryFrame m #[(.ref x0), (.ref x1)] 3 = (mkF m 0 #[rv x0, rv x1, .unset] []) := by first | (simp [entryFrame, mkF, argsToLocals, Value.category]; done) | rfl
def j2_59_size (qA : Int64) (qB : Int64) (qD : Int64) : Int32 := (if (0 : Int64) < qA then (1 : Int32) else (0 : Int32))
def j2_59_e0 (qA : Int64) (qB : Int64) (qD : Int64) : Int32 := (if (0 : Int64) < qB then (if (j2_59_size qA qB qD) = (0 : Int32) then (1 : Int32) else (0 : Int32)) else (0 : Int32))
def j2_59_e1 (qA : Int64) (qB : Int64) (qD : Int64) : Int32 := (if (0 : Int64) < qB then (if (j2_59_size qA qB qD) = (0 : Int32) then (0 : Int32) else (1 : Int32)) else (0 : Int32))
def j2_59_size_a (qA : Int64) (qB : Int64) (qD : Int64) : Int32 := (if (0 : Int64) < qB then (if (j2_59_size qA qB qD) = (0 : Int32) then (1 : Int32) else (2 : Int32)) else (j2_59_size qA qB qD))
def j2_59_e0_a (qA : Int64) (qB : Int64) (qD : Int64) : Int32 := (if (0 : Int64) < qD then (if (j2_59_size_a qA qB qD) = (0 : Int32) then (2 : Int32) else (if (j2_59_size_a qA qB qD) = (1 : Int32) then (j2_59_e0 qA qB qD) else (j2_59_e0 qA qB qD))) else (j2_59_e0 qA qB qD))
def j2_59_e1_a (qA : Int64) (qB : Int64) (qD : Int64) : Int32 := (if (0 : Int64) < qD then (if (j2_59_size_a qA qB qD) = (0 : Int32) then (j2_59_e1 qA qB qD) else (if (j2_59_size_a qA qB qD) = (1 : Int32) then (2 : Int32) else (j2_59_e1 qA qB qD))) else (j2_59_e1 qA qB qD))
def j2_59_e2 (qA : Int64) (qB : Int64) (qD : Int64) : Int32 := (if (0 : Int64) < qD then (if (j2_59_size_a qA qB qD) = (0 : Int32) then (0 : Int32) else (if (j2_59_size_a qA qB qD) = (1 : Int32) then (0 : Int32) else (2 : Int32))) else (0 : Int32))
def j2_59_size_b (qA : Int64) (qB : Int64) (qD : Int64) : Int32 := (if (0 : Int64) < qD then (if (j2_59_size_a qA qB qD) = (0 : Int32) then (1 : Int32) else (if (j2_59_size_a qA qB qD) = (1 : Int32) then (2 : Int32) else (3 : Int32))) else (j2_59_size_a qA qB qD))
def Q2 (Z : State) (x0 : Addr) (x1 : Addr) (kx : ClassId) (qA : Int64) (qB : Int64) (qD : Int64) (h0 : Heap) (n0 : Nat) (v : Option Value) (h : Heap) (L : List Loc) : Prop := ∃ (w r : Addr) (k_w k_r : ClassId), v = none ∧ Fr n0 L ∧ Keep h0 h [x0] ∧ h0.size ≤ w ∧ h0.size ≤ r ∧ w ≠ r ∧ Exa Z h x0 "com/example/kubera/kubera/DealingRing" ∧ Fld Z h x0 "com/example/kubera/kubera/DealingRing" "wanted" "[J" (.ref w) ∧ Fld Z h x0 "com/example/kubera/kubera/DealingRing" "ring" "[I" (.ref r) ∧ Fld Z h x0 "com/example/kubera/kubera/DealingRing" "size" "I" (.int (j2_59_size_b qA qB qD)) ∧ Fld Z h x0 "com/example/kubera/kubera/DealingRing" "place" "I" (.int (0 : Int32)) ∧ Arv Z h w k_w .long (3 : Int32) [(.long qA), (.long qB), (.long qD)] (.long (0 : Int64)) ∧ Arv Z h r k_r .int (3 : Int32) [(.int (j2_59_e0_a qA qB qD)), (.int (j2_59_e1_a qA qB qD)), (.int (j2_59_e2 qA qB qD))] (.int (0 : Int32))
theorem own_sz1 (qA qB qD : Int64) : j2_59_size qA qB qD = 0 ∨ j2_59_size qA qB qD = 1 := by
  unfold j2_59_size
  split
  · exact Or.inr rfl
  · exact Or.inl rfl
theorem own_sz2 (qA qB qD : Int64) : j2_59_size_a qA qB qD = 0 ∨ j2_59_size_a qA qB qD = 1 ∨ j2_59_size_a qA qB qD = 2 := by
  have h := own_sz1 qA qB qD
  unfold j2_59_size_a
  generalize j2_59_size qA qB qD = k at *
  rcases h with rfl | rfl <;> repeat' split
  all_goals first | decide | simp_all
set_option maxRecDepth 65536 in
set_option maxHeartbeats 40000000 in
theorem rm2 (l : Launch) (Z : State) (a0 : Array Value) (hw : ∀ d ∈ tables_1, d.before a0 Z = true) (ws : List Jvm.Cond) (x0 : Addr) (x1 : Addr) (kx : ClassId) (qA : Int64) (qB : Int64) (qD : Int64) (h0 : Heap) (n0 : Nat) (Z0 : n0 ≤ h0.size) (E_x0 : Exa Z h0 x0 "com/example/kubera/kubera/DealingRing") (F_wanted_x0 : Fld Z h0 x0 "com/example/kubera/kubera/DealingRing" "wanted" "[J" .null) (F_ring_x0 : Fld Z h0 x0 "com/example/kubera/kubera/DealingRing" "ring" "[I" .null) (F_size_x0 : Fld Z h0 x0 "com/example/kubera/kubera/DealingRing" "size" "I" (.int (0 : Int32))) (F_place_x0 : Fld Z h0 x0 "com/example/kubera/kubera/DealingRing" "place" "I" (.int (0 : Int32))) (E_x1 : Exa Z h0 x1 "[J") (V_x1 : Arv Z h0 x1 kx .long (3 : Int32) [(.long qA), (.long qB), (.long qD)] (.long (0 : Int64))) (g_x0 : n0 ≤ x0) (nexy : x1 ≠ x0) :
    MetFree l ym1 (head1 (Jvm.Cond.code ym1 prog_4_method_1_code 3 none :: ws) ({ frames := 1, cells := 2, slots := 6, locals := 15 } : Room)) (fun a U => a = #[(.ref x0), (.ref x1)] ∧ Z.Warmed39 U.vm ∧ U.heap = h0) (fun _ _ _ _ _ => True) (fun _ U o U' => ∃ v L, o = .returned v ∧ (Q2 Z x0 x1 kx qA qB qD h0 n0) v U'.heap L ∧ FrameEnd U o U' L ({ frames := 1, cells := 2, slots := 6, locals := 15 } : Room).cells ({ frames := 1, cells := 2, slots := 6, locals := 15 } : Room).slots) := by
  refine MetFree.of_bodySF (plainFor_of_name pn2) hisR ?_
  intro p e s m args below meth c s₁ Bd hml0 hP hK
  obtain ⟨rfl, hZ, hh⟩ := hP
  have hx := Bd.exec
  have hby := Bd.bytes
  have hml : c.maxLocals = 3 := hml0
  have hlk : meth.locks = false := BodyLoose.notSynchronized Bd
  have hown : s.vm.findClass "com/example/kubera/kubera/DealingRing" = some m.cls := findClass_of_methodNamed Bd.named
  have hnm := (name_of_methodNamed Bd.named Bd.method).1
  have w_7 := hw _ (List.mem_of_getElem? (i := 7) rfl)
  have w_10 := hw _ (List.mem_of_getElem? (i := 10) rfl)
  have w_15 := hw _ (List.mem_of_getElem? (i := 15) rfl)
  have w_16 := hw _ (List.mem_of_getElem? (i := 16) rfl)
  have w_17 := hw _ (List.mem_of_getElem? (i := 17) rfl)
  have w_18 := hw _ (List.mem_of_getElem? (i := 18) rfl)
  have w_19 := hw _ (List.mem_of_getElem? (i := 19) rfl)
  have w_21 := hw _ (List.mem_of_getElem? (i := 21) rfl)
  have w_22 := hw _ (List.mem_of_getElem? (i := 22) rfl)
  have w_23 := hw _ (List.mem_of_getElem? (i := 23) rfl)
  have w_24 := hw _ (List.mem_of_getElem? (i := 24) rfl)
  have w_25 := hw _ (List.mem_of_getElem? (i := 25) rfl)
  have w_27 := hw _ (List.mem_of_getElem? (i := 27) rfl)
  have w_28 := hw _ (List.mem_of_getElem? (i := 28) rfl)
  have w_29 := hw _ (List.mem_of_getElem? (i := 29) rfl)
  have w_30 := hw _ (List.mem_of_getElem? (i := 30) rfl)
  have w_31 := hw _ (List.mem_of_getElem? (i := 31) rfl)
  have w_32 := hw _ (List.mem_of_getElem? (i := 32) rfl)
  have w_39 := hw _ (List.mem_of_getElem? (i := 39) rfl)
  have hci : ∀ i v, (i, v) ∈ ([] : List (Nat × Int32)) → (Jvm.Cond.constant "com/example/kubera/kubera/DealingRing" i v).before #[(.ref x0), (.ref x1)] s = true := own_ci0
  have hcl : ∀ i v, (i, v) ∈ ([] : List (Nat × Int64)) → (Jvm.Cond.constantLong "com/example/kubera/kubera/DealingRing" i v).before #[(.ref x0), (.ref x1)] s = true := own_ci0
  have X0 : Stand p l e ({ frames := 1, cells := 2, slots := 6, locals := 15 } : Room) s m #[(.ref x0), (.ref x1)] below meth c s₁ [] 0 0 := Stand.of_body Bd
  have e0 : s₁.heap = h0 := by rw [← hh, Bd.state]; rfl
  have N0 := Fr.nil n0
  show Goes p e below s (Q2 Z x0 x1 kx qA qB qD h0 n0) ({ frames := 1, cells := 2, slots := 6, locals := 15 } : Room).cells ({ frames := 1, cells := 2, slots := 6, locals := 15 } : Room).slots (s₁.setTop (entryFrame m #[(.ref x0), (.ref x1)] 3))
  refine Goes.cast (ef2 m x0 x1) ?_
  have K0 : Keep h0 h0 [x0] := Keep.refl h0 _
  refine Goes.run X0 hx hown hci hcl hby (L := [(0, .aload_n 0, 1)]) (by decide +kernel) rfl (g' := (mkF m 1 #[rv x0, rv x1, .unset] [(.ref x0)])) rfl ?_
  obtain ⟨T1, X1, e1, st1⟩ := initO X0 hx hZ hown w_15 w_16 w_17 e0 (g := (mkF m 1 #[rv x0, rv x1, .unset] [(.ref x0)])) rfl (by rw [hml]; rfl) rfl (hb hby d2_1) (by decide) (W := 0) (by show 2 * 0 + _ ≤ _; exact Nat.le_of_eq rfl) (by decide)
  refine Goes.st (B := T1.setTop (mkF m 4 #[rv x0, rv x1, .unset] [])) st1 ?_
  refine Goes.run X1 hx hown hci hcl hby (L := [(4, .aload_n 0, 1), (5, .aload_n 1, 1)]) (by decide +kernel) rfl (g' := (mkF m 6 #[rv x0, rv x1, .unset] [(.ref x1), (.ref x0)])) rfl ?_
  obtain ⟨T2, h2, X2, e2, E2, A2, B2, st2⟩ := cloneH X1 hx hZ hown w_18 w_19 w_23 w_21 w_22 w_24 e1 V_x1.arh E_x1 (g := (mkF m 6 #[rv x0, rv x1, .unset] [(.ref x1), (.ref x0)])) rfl (by rw [hml]; rfl) rfl (hb hby d2_6) (by decide) (W := 1) (cap := 3) (by show 2 * 0 + _ ≤ _; exact Nat.le_of_eq rfl) (by decide) (by decide) (by decide) (by decide)
  obtain ⟨b2, g2⟩ : ∃ z, z = h0.size := ⟨_, rfl⟩
  rw [← g2] at A2 B2 st2
  have ne_x0_b2 : x0 ≠ b2 := Nat.ne_of_lt (Nat.lt_of_lt_of_le E_x0.lt (Nat.le_of_eq g2.symm))
  have ne_x1_b2 : x1 ≠ b2 := Nat.ne_of_lt (Nat.lt_of_lt_of_le E_x1.lt (Nat.le_of_eq g2.symm))
  have g_b2 : n0 ≤ b2 := Nat.le_trans Z0 (Nat.le_of_eq g2.symm)
  have sz_b2 : h0.size ≤ b2 := Nat.le_trans K0.1 (Nat.le_of_eq g2.symm)
  have E_x0 := E_x0.ext E2
  have F_wanted_x0 := F_wanted_x0.ext E2
  have F_ring_x0 := F_ring_x0.ext E2
  have F_size_x0 := F_size_x0.ext E2
  have F_place_x0 := F_place_x0.ext E2
  have E_x1 := E_x1.ext E2
  have V_x1 := V_x1.ext E2
  have Zn2 : n0 ≤ h2.size := Nat.le_trans Z0 E2.1
  have K2 := K0.ext E2
  have E_b2 : Exa Z h2 b2 "[J" := B2
  have V_b2 : Arv Z h2 b2 kx .long (3 : Int32) [(.long qA), (.long qB), (.long qD)] (.long (0 : Int64)) := A2
  refine Goes.st (B := T2.setTop (mkF m 9 #[rv x0, rv x1, .unset] [(.ref b2), (.ref x0)])) st2 ?_
  obtain ⟨T3, X3, e3, st3⟩ := castY X2 hx hZ hown w_25 e2 (Ins.self E_b2) (g := (mkF m 9 #[rv x0, rv x1, .unset] [(.ref b2), (.ref x0)])) rfl rfl (hb hby d2_9)
  refine Goes.st (B := T3.setTop (mkF m 12 #[rv x0, rv x1, .unset] [(.ref b2), (.ref x0)])) st3 ?_
  obtain ⟨T4, h4, X4, e4, W4, st4⟩ := putF X3 hx hZ hown (host := "") (Or.inl w_27) Via.refl e3 F_wanted_x0 E_x0 (Or.inr ⟨w_28, rfl, hnm⟩) w_10 (ty := (.array .long)) (by decide) rfl rfl (g := (mkF m 12 #[rv x0, rv x1, .unset] [(.ref b2), (.ref x0)])) rfl rfl (hb hby d2_12)
  have E_x0 := E_x0.wr W4
  have F_wanted_x0 : Fld Z h4 x0 "com/example/kubera/kubera/DealingRing" "wanted" "[J" (.ref b2) := F_wanted_x0.same W4
  have F_ring_x0 := F_ring_x0.other W4 (Or.inr (slot_ne (Or.inr w_30) (Or.inr w_28) (by decide) (t := (.array .int)) (t' := (.array .long)) (by decide) (by decide)))
  have F_size_x0 := F_size_x0.other W4 (Or.inr (slot_ne (Or.inl w_32) (Or.inr w_28) (by decide) (t := .int) (t' := (.array .long)) (by decide) (by decide)))
  have F_place_x0 := F_place_x0.other W4 (Or.inr (slot_ne (Or.inl w_39) (Or.inr w_28) (by decide) (t := .int) (t' := (.array .long)) (by decide) (by decide)))
  have E_x1 := E_x1.wr W4
  have V_x1 := V_x1.other W4 nexy
  have E_b2 := E_b2.wr W4
  have V_b2 := V_b2.other W4 (Ne.symm ne_x0_b2)
  have Zn4 : n0 ≤ h4.size := Nat.le_trans Zn2 (Keep.of_wr W4).1
  have K4 := K2.wr W4 (Or.inl (List.mem_of_getElem? (i := 0) rfl))
  have N4 := Fr.snoc X4 N0 g_x0
  refine Goes.st (B := T4.setTop (mkF m 15 #[rv x0, rv x1, .unset] [])) st4 ?_
  refine Goes.run X4 hx hown hci hcl hby (L := [(15, .aload_n 0, 1), (16, .aload_n 1, 1)]) (by decide +kernel) rfl (g' := (mkF m 17 #[rv x0, rv x1, .unset] [(.ref x1), (.ref x0)])) rfl ?_
  obtain ⟨cl5, Ar5, q5, S5, M5, Hs5, G5⟩ := id V_x1
  refine Goes.st (B := T4.setTop (mkF m 18 #[rv x0, rv x1, .unset] [(.int (3 : Int32)), (.ref x0)])) (fun t k => ?_) ?_
  · refine X4.arraylength hx (cell := cl5) (by rw [e4]; exact Ar5.1) (State.isArrayOf_alike hZ.alike Ar5.2.1) (g := (mkF m 17 #[rv x0, rv x1, .unset] [(.ref x1), (.ref x0)])) rfl (rest := [(.ref x0)]) rfl (hb hby d2_17) _ ?_
    rw [len_of S5 M5]
    exact k
  obtain ⟨T6, h6, k6, X6, e6, E6, A6, B6, st6⟩ := newPE X4 hx hZ (aty := .int) w_7 e4 (g := (mkF m 18 #[rv x0, rv x1, .unset] [(.int (3 : Int32)), (.ref x0)])) rfl (hb hby d2_18) rfl (by decide) (cap := 3) (by decide) (by decide) (by decide) (by decide) (ad := "[I") (by decide)
  obtain ⟨b6, g6⟩ : ∃ z, z = h4.size := ⟨_, rfl⟩
  rw [← g6] at A6 B6 st6
  have ne_b2_b6 : b2 ≠ b6 := Nat.ne_of_lt (Nat.lt_of_lt_of_le E_b2.lt (Nat.le_of_eq g6.symm))
  have ne_x0_b6 : x0 ≠ b6 := Nat.ne_of_lt (Nat.lt_of_lt_of_le E_x0.lt (Nat.le_of_eq g6.symm))
  have ne_x1_b6 : x1 ≠ b6 := Nat.ne_of_lt (Nat.lt_of_lt_of_le E_x1.lt (Nat.le_of_eq g6.symm))
  have g_b6 : n0 ≤ b6 := Nat.le_trans Zn4 (Nat.le_of_eq g6.symm)
  have sz_b6 : h0.size ≤ b6 := Nat.le_trans K4.1 (Nat.le_of_eq g6.symm)
  have E_x0 := E_x0.ext E6
  have F_wanted_x0 := F_wanted_x0.ext E6
  have F_ring_x0 := F_ring_x0.ext E6
  have F_size_x0 := F_size_x0.ext E6
  have F_place_x0 := F_place_x0.ext E6
  have E_x1 := E_x1.ext E6
  have V_x1 := V_x1.ext E6
  have E_b2 := E_b2.ext E6
  have V_b2 := V_b2.ext E6
  have Zn6 : n0 ≤ h6.size := Nat.le_trans Zn4 E6.1
  have K6 := K4.ext E6
  have E_b6 : Exa Z h6 b6 "[I" := B6
  have V_b6 : Arv Z h6 b6 k6 .int (3 : Int32) [(.int (0 : Int32)), (.int (0 : Int32)), (.int (0 : Int32))] (.int (0 : Int32)) := (Arv.new A6 (by decide)).pad (pad_rep [] (.int (0 : Int32)) 3)
  refine Goes.st (B := T6.setTop (mkF m 20 #[rv x0, rv x1, .unset] [(.ref b6), (.ref x0)])) st6 ?_
  obtain ⟨T7, h7, X7, e7, W7, st7⟩ := putF X6 hx hZ hown (host := "") (Or.inl w_29) Via.refl e6 F_ring_x0 E_x0 (Or.inr ⟨w_30, rfl, hnm⟩) w_10 (ty := (.array .int)) (by decide) rfl rfl (g := (mkF m 20 #[rv x0, rv x1, .unset] [(.ref b6), (.ref x0)])) rfl rfl (hb hby d2_20)
  have E_x0 := E_x0.wr W7
  have F_wanted_x0 := F_wanted_x0.other W7 (Or.inr (slot_ne (Or.inr w_28) (Or.inr w_30) (by decide) (t := (.array .long)) (t' := (.array .int)) (by decide) (by decide)))
  have F_ring_x0 : Fld Z h7 x0 "com/example/kubera/kubera/DealingRing" "ring" "[I" (.ref b6) := F_ring_x0.same W7
  have F_size_x0 := F_size_x0.other W7 (Or.inr (slot_ne (Or.inl w_32) (Or.inr w_30) (by decide) (t := .int) (t' := (.array .int)) (by decide) (by decide)))
  have F_place_x0 := F_place_x0.other W7 (Or.inr (slot_ne (Or.inl w_39) (Or.inr w_30) (by decide) (t := .int) (t' := (.array .int)) (by decide) (by decide)))
  have E_x1 := E_x1.wr W7
  have V_x1 := V_x1.other W7 nexy
  have E_b2 := E_b2.wr W7
  have V_b2 := V_b2.other W7 (Ne.symm ne_x0_b2)
  have E_b6 := E_b6.wr W7
  have V_b6 := V_b6.other W7 (Ne.symm ne_x0_b6)
  have Zn7 : n0 ≤ h7.size := Nat.le_trans Zn6 (Keep.of_wr W7).1
  have K7 := K6.wr W7 (Or.inl (List.mem_of_getElem? (i := 0) rfl))
  have N7 := Fr.snoc X7 N4 g_x0
  refine Goes.st (B := T7.setTop (mkF m 23 #[rv x0, rv x1, .unset] [])) st7 ?_
  refine Goes.run X7 hx hown hci hcl hby (L := [(23, .iconst 0, 1), (24, .istore_n 2, 1), (25, .iload_n 2, 1), (26, .aload_n 1, 1)]) (by decide +kernel) rfl (g' := (mkF m 27 #[rv x0, rv x1, iv (0 : Int32)] [(.ref x1), (.int (0 : Int32))])) rfl ?_
  obtain ⟨cl8, Ar8, q8, S8, M8, Hs8, G8⟩ := id V_x1
  refine Goes.st (B := T7.setTop (mkF m 28 #[rv x0, rv x1, iv (0 : Int32)] [(.int (3 : Int32)), (.int (0 : Int32))])) (fun t k => ?_) ?_
  · refine X7.arraylength hx (cell := cl8) (by rw [e7]; exact Ar8.1) (State.isArrayOf_alike hZ.alike Ar8.2.1) (g := (mkF m 27 #[rv x0, rv x1, iv (0 : Int32)] [(.ref x1), (.int (0 : Int32))])) rfl (rest := [(.int (0 : Int32))]) rfl (hb hby d2_27) _ ?_
    rw [len_of S8 M8]
    exact k
  have hc28_9 : (0 : Int32) < (3 : Int32) := by decide
  refine Goes.st (B := T7.setTop (mkF m 31 #[rv x0, rv x1, iv (0 : Int32)] [])) (fun t k => ?_) ?_
  · refine XS.icmpNo X7.here hx rfl (hb hby d2_28) rfl (tlt hc28_9).2.1 ?_
    exact k
  refine Goes.run X7 hx hown hci hcl hby (L := [(31, .aload_n 1, 1), (32, .iload_n 2, 1)]) (by decide +kernel) rfl (g' := (mkF m 33 #[rv x0, rv x1, iv (0 : Int32)] [(.int (0 : Int32)), (.ref x1)])) rfl ?_
  obtain ⟨cl10, Ar10, q10, S10, M10, Hs10, G10⟩ := id V_x1
  have hin10 : ¬ ((0 : Int32) < 0 ∨ cl10.slots.size ≤ ((0 : Int32)).toNatClampNeg) := inb_of S10 ⟨(by decide), (by decide)⟩
  have hat10 : cl10.slots[((0 : Int32)).toNatClampNeg]? = some (.long qA) := Hs10.at hin10 rfl
  refine Goes.st (B := T7.setTop (mkF m 34 #[rv x0, rv x1, iv (0 : Int32)] [(.long qA)])) (X7.laload hx (j := (0 : Int32)) (v := (.long qA)) (by rw [e7]; exact Ar10.1) (State.isArrayOf_alike hZ.alike Ar10.2.1) Ar10.2.2 hin10 hat10 (g := (mkF m 33 #[rv x0, rv x1, iv (0 : Int32)] [(.int (0 : Int32)), (.ref x1)])) rfl rfl (hb hby d2_33)) ?_
  refine Goes.run X7 hx hown hci hcl hby (L := [(34, .lconst 0, 1), (35, .lcmp, 1)]) (by decide +kernel) rfl (g' := (mkF m 36 #[rv x0, rv x1, iv (0 : Int32)] [(.int (lcmpW qA (0 : Int64)))])) rfl ?_
  have jn59_18 : ∀ (T17 : State) (L17 : List Loc) (h17 : Heap) (X17 : Stand p l e ({ frames := 1, cells := 2, slots := 6, locals := 15 } : Room) s m #[(.ref x0), (.ref x1)] below meth c T17 L17 2 6) (e17 : T17.heap = h17) (N17 : Fr n0 L17) (Zn17 : n0 ≤ h17.size) (K17 : Keep h0 h17 [x0]) (E_b2 : Exa Z h17 b2 "[J") (V_b2 : Arv Z h17 b2 kx .long (3 : Int32) [(.long qA), (.long qB), (.long qD)] (.long (0 : Int64))) (E_b6 : Exa Z h17 b6 "[I") (V_b6 : Arv Z h17 b6 k6 .int (3 : Int32) [(.int (0 : Int32)), (.int (0 : Int32)), (.int (0 : Int32))] (.int (0 : Int32))) (E_x0 : Exa Z h17 x0 "com/example/kubera/kubera/DealingRing") (F_wanted_x0 : Fld Z h17 x0 "com/example/kubera/kubera/DealingRing" "wanted" "[J" (.ref b2)) (F_ring_x0 : Fld Z h17 x0 "com/example/kubera/kubera/DealingRing" "ring" "[I" (.ref b6)) (F_size_x0 : Fld Z h17 x0 "com/example/kubera/kubera/DealingRing" "size" "I" (.int (j2_59_size qA qB qD))) (F_place_x0 : Fld Z h17 x0 "com/example/kubera/kubera/DealingRing" "place" "I" (.int (0 : Int32))) (E_x1 : Exa Z h17 x1 "[J") (V_x1 : Arv Z h17 x1 kx .long (3 : Int32) [(.long qA), (.long qB), (.long qD)] (.long (0 : Int64))), Goes p e below s (Q2 Z x0 x1 kx qA qB qD h0 n0) ({ frames := 1, cells := 2, slots := 6, locals := 15 } : Room).cells ({ frames := 1, cells := 2, slots := 6, locals := 15 } : Room).slots (T17.setTop (mkF m 59 #[rv x0, rv x1, iv (0 : Int32)] [])) := by
    intro T17 L17 h17 X17 e17 N17 Zn17 K17 E_b2 V_b2 E_b6 V_b6 E_x0 F_wanted_x0 F_ring_x0 F_size_x0 F_place_x0 E_x1 V_x1
    refine Goes.run X17 hx hown hci hcl hby (L := [(59, .iinc 2 1, 3), (62, .goto (-37), 3), (25, .iload_n 2, 1), (26, .aload_n 1, 1)]) (by decide +kernel) rfl (g' := (mkF m 27 #[rv x0, rv x1, iv (1 : Int32)] [(.ref x1), (.int (1 : Int32))])) rfl ?_
    obtain ⟨cl19, Ar19, q19, S19, M19, Hs19, G19⟩ := id V_x1
    refine Goes.st (B := T17.setTop (mkF m 28 #[rv x0, rv x1, iv (1 : Int32)] [(.int (3 : Int32)), (.int (1 : Int32))])) (fun t k => ?_) ?_
    · refine X17.arraylength hx (cell := cl19) (by rw [e17]; exact Ar19.1) (State.isArrayOf_alike hZ.alike Ar19.2.1) (g := (mkF m 27 #[rv x0, rv x1, iv (1 : Int32)] [(.ref x1), (.int (1 : Int32))])) rfl (rest := [(.int (1 : Int32))]) rfl (hb hby d2_27) _ ?_
      rw [len_of S19 M19]
      exact k
    have hc28_20 : (1 : Int32) < (3 : Int32) := by decide
    refine Goes.st (B := T17.setTop (mkF m 31 #[rv x0, rv x1, iv (1 : Int32)] [])) (fun t k => ?_) ?_
    · refine XS.icmpNo X17.here hx rfl (hb hby d2_28) rfl (tlt hc28_20).2.1 ?_
      exact k
    refine Goes.run X17 hx hown hci hcl hby (L := [(31, .aload_n 1, 1), (32, .iload_n 2, 1)]) (by decide +kernel) rfl (g' := (mkF m 33 #[rv x0, rv x1, iv (1 : Int32)] [(.int (1 : Int32)), (.ref x1)])) rfl ?_
    obtain ⟨cl21, Ar21, q21, S21, M21, Hs21, G21⟩ := id V_x1
    have hin21 : ¬ ((1 : Int32) < 0 ∨ cl21.slots.size ≤ ((1 : Int32)).toNatClampNeg) := inb_of S21 ⟨(by decide), (by decide)⟩
    have hat21 : cl21.slots[((1 : Int32)).toNatClampNeg]? = some (.long qB) := Hs21.at hin21 rfl
    refine Goes.st (B := T17.setTop (mkF m 34 #[rv x0, rv x1, iv (1 : Int32)] [(.long qB)])) (X17.laload hx (j := (1 : Int32)) (v := (.long qB)) (by rw [e17]; exact Ar21.1) (State.isArrayOf_alike hZ.alike Ar21.2.1) Ar21.2.2 hin21 hat21 (g := (mkF m 33 #[rv x0, rv x1, iv (1 : Int32)] [(.int (1 : Int32)), (.ref x1)])) rfl rfl (hb hby d2_33)) ?_
    refine Goes.run X17 hx hown hci hcl hby (L := [(34, .lconst 0, 1), (35, .lcmp, 1)]) (by decide +kernel) rfl (g' := (mkF m 36 #[rv x0, rv x1, iv (1 : Int32)] [(.int (lcmpW qB (0 : Int64)))])) rfl ?_
    have jn59_34 : ∀ (T33 : State) (L33 : List Loc) (h33 : Heap) (X33 : Stand p l e ({ frames := 1, cells := 2, slots := 6, locals := 15 } : Room) s m #[(.ref x0), (.ref x1)] below meth c T33 L33 2 6) (e33 : T33.heap = h33) (N33 : Fr n0 L33) (Zn33 : n0 ≤ h33.size) (K33 : Keep h0 h33 [x0]) (E_b2 : Exa Z h33 b2 "[J") (V_b2 : Arv Z h33 b2 kx .long (3 : Int32) [(.long qA), (.long qB), (.long qD)] (.long (0 : Int64))) (E_b6 : Exa Z h33 b6 "[I") (V_b6 : Arv Z h33 b6 k6 .int (3 : Int32) [(.int (j2_59_e0 qA qB qD)), (.int (j2_59_e1 qA qB qD)), (.int (0 : Int32))] (.int (0 : Int32))) (E_x0 : Exa Z h33 x0 "com/example/kubera/kubera/DealingRing") (F_wanted_x0 : Fld Z h33 x0 "com/example/kubera/kubera/DealingRing" "wanted" "[J" (.ref b2)) (F_ring_x0 : Fld Z h33 x0 "com/example/kubera/kubera/DealingRing" "ring" "[I" (.ref b6)) (F_size_x0 : Fld Z h33 x0 "com/example/kubera/kubera/DealingRing" "size" "I" (.int (j2_59_size_a qA qB qD))) (F_place_x0 : Fld Z h33 x0 "com/example/kubera/kubera/DealingRing" "place" "I" (.int (0 : Int32))) (E_x1 : Exa Z h33 x1 "[J") (V_x1 : Arv Z h33 x1 kx .long (3 : Int32) [(.long qA), (.long qB), (.long qD)] (.long (0 : Int64))), Goes p e below s (Q2 Z x0 x1 kx qA qB qD h0 n0) ({ frames := 1, cells := 2, slots := 6, locals := 15 } : Room).cells ({ frames := 1, cells := 2, slots := 6, locals := 15 } : Room).slots (T33.setTop (mkF m 59 #[rv x0, rv x1, iv (1 : Int32)] [])) := by
      intro T33 L33 h33 X33 e33 N33 Zn33 K33 E_b2 V_b2 E_b6 V_b6 E_x0 F_wanted_x0 F_ring_x0 F_size_x0 F_place_x0 E_x1 V_x1
      refine Goes.run X33 hx hown hci hcl hby (L := [(59, .iinc 2 1, 3), (62, .goto (-37), 3), (25, .iload_n 2, 1), (26, .aload_n 1, 1)]) (by decide +kernel) rfl (g' := (mkF m 27 #[rv x0, rv x1, iv (2 : Int32)] [(.ref x1), (.int (2 : Int32))])) rfl ?_
      obtain ⟨cl35, Ar35, q35, S35, M35, Hs35, G35⟩ := id V_x1
      refine Goes.st (B := T33.setTop (mkF m 28 #[rv x0, rv x1, iv (2 : Int32)] [(.int (3 : Int32)), (.int (2 : Int32))])) (fun t k => ?_) ?_
      · refine X33.arraylength hx (cell := cl35) (by rw [e33]; exact Ar35.1) (State.isArrayOf_alike hZ.alike Ar35.2.1) (g := (mkF m 27 #[rv x0, rv x1, iv (2 : Int32)] [(.ref x1), (.int (2 : Int32))])) rfl (rest := [(.int (2 : Int32))]) rfl (hb hby d2_27) _ ?_
        rw [len_of S35 M35]
        exact k
      have hc28_36 : (2 : Int32) < (3 : Int32) := by decide
      refine Goes.st (B := T33.setTop (mkF m 31 #[rv x0, rv x1, iv (2 : Int32)] [])) (fun t k => ?_) ?_
      · refine XS.icmpNo X33.here hx rfl (hb hby d2_28) rfl (tlt hc28_36).2.1 ?_
        exact k
      refine Goes.run X33 hx hown hci hcl hby (L := [(31, .aload_n 1, 1), (32, .iload_n 2, 1)]) (by decide +kernel) rfl (g' := (mkF m 33 #[rv x0, rv x1, iv (2 : Int32)] [(.int (2 : Int32)), (.ref x1)])) rfl ?_
      obtain ⟨cl37, Ar37, q37, S37, M37, Hs37, G37⟩ := id V_x1
      have hin37 : ¬ ((2 : Int32) < 0 ∨ cl37.slots.size ≤ ((2 : Int32)).toNatClampNeg) := inb_of S37 ⟨(by decide), (by decide)⟩
      have hat37 : cl37.slots[((2 : Int32)).toNatClampNeg]? = some (.long qD) := Hs37.at hin37 rfl
      refine Goes.st (B := T33.setTop (mkF m 34 #[rv x0, rv x1, iv (2 : Int32)] [(.long qD)])) (X33.laload hx (j := (2 : Int32)) (v := (.long qD)) (by rw [e33]; exact Ar37.1) (State.isArrayOf_alike hZ.alike Ar37.2.1) Ar37.2.2 hin37 hat37 (g := (mkF m 33 #[rv x0, rv x1, iv (2 : Int32)] [(.int (2 : Int32)), (.ref x1)])) rfl rfl (hb hby d2_33)) ?_
      refine Goes.run X33 hx hown hci hcl hby (L := [(34, .lconst 0, 1), (35, .lcmp, 1)]) (by decide +kernel) rfl (g' := (mkF m 36 #[rv x0, rv x1, iv (2 : Int32)] [(.int (lcmpW qD (0 : Int64)))])) rfl ?_
      have jn59_54 : ∀ (T53 : State) (L53 : List Loc) (h53 : Heap) (X53 : Stand p l e ({ frames := 1, cells := 2, slots := 6, locals := 15 } : Room) s m #[(.ref x0), (.ref x1)] below meth c T53 L53 2 6) (e53 : T53.heap = h53) (N53 : Fr n0 L53) (Zn53 : n0 ≤ h53.size) (K53 : Keep h0 h53 [x0]) (E_b2 : Exa Z h53 b2 "[J") (V_b2 : Arv Z h53 b2 kx .long (3 : Int32) [(.long qA), (.long qB), (.long qD)] (.long (0 : Int64))) (E_b6 : Exa Z h53 b6 "[I") (V_b6 : Arv Z h53 b6 k6 .int (3 : Int32) [(.int (j2_59_e0_a qA qB qD)), (.int (j2_59_e1_a qA qB qD)), (.int (j2_59_e2 qA qB qD))] (.int (0 : Int32))) (E_x0 : Exa Z h53 x0 "com/example/kubera/kubera/DealingRing") (F_wanted_x0 : Fld Z h53 x0 "com/example/kubera/kubera/DealingRing" "wanted" "[J" (.ref b2)) (F_ring_x0 : Fld Z h53 x0 "com/example/kubera/kubera/DealingRing" "ring" "[I" (.ref b6)) (F_size_x0 : Fld Z h53 x0 "com/example/kubera/kubera/DealingRing" "size" "I" (.int (j2_59_size_b qA qB qD))) (F_place_x0 : Fld Z h53 x0 "com/example/kubera/kubera/DealingRing" "place" "I" (.int (0 : Int32))) (E_x1 : Exa Z h53 x1 "[J") (V_x1 : Arv Z h53 x1 kx .long (3 : Int32) [(.long qA), (.long qB), (.long qD)] (.long (0 : Int64))), Goes p e below s (Q2 Z x0 x1 kx qA qB qD h0 n0) ({ frames := 1, cells := 2, slots := 6, locals := 15 } : Room).cells ({ frames := 1, cells := 2, slots := 6, locals := 15 } : Room).slots (T53.setTop (mkF m 59 #[rv x0, rv x1, iv (2 : Int32)] [])) := by
        intro T53 L53 h53 X53 e53 N53 Zn53 K53 E_b2 V_b2 E_b6 V_b6 E_x0 F_wanted_x0 F_ring_x0 F_size_x0 F_place_x0 E_x1 V_x1
        refine Goes.run X53 hx hown hci hcl hby (L := [(59, .iinc 2 1, 3), (62, .goto (-37), 3), (25, .iload_n 2, 1), (26, .aload_n 1, 1)]) (by decide +kernel) rfl (g' := (mkF m 27 #[rv x0, rv x1, iv (3 : Int32)] [(.ref x1), (.int (3 : Int32))])) rfl ?_
        obtain ⟨cl55, Ar55, q55, S55, M55, Hs55, G55⟩ := id V_x1
        refine Goes.st (B := T53.setTop (mkF m 28 #[rv x0, rv x1, iv (3 : Int32)] [(.int (3 : Int32)), (.int (3 : Int32))])) (fun t k => ?_) ?_
        · refine X53.arraylength hx (cell := cl55) (by rw [e53]; exact Ar55.1) (State.isArrayOf_alike hZ.alike Ar55.2.1) (g := (mkF m 27 #[rv x0, rv x1, iv (3 : Int32)] [(.ref x1), (.int (3 : Int32))])) rfl (rest := [(.int (3 : Int32))]) rfl (hb hby d2_27) _ ?_
          rw [len_of S55 M55]
          exact k
        have hc28_56 : ¬ ((3 : Int32) < (3 : Int32)) := Int32.lt_irrefl
        refine Goes.st (B := T53.setTop (mkF m 65 #[rv x0, rv x1, iv (3 : Int32)] [])) (fun t k => ?_) ?_
        · refine XS.icmpYes X53.here hx rfl (pc0 := 28) (pc' := 65) rfl (hb hby d2_28) rfl (flt hc28_56).2.1 (by decide) (by decide) ?_
          exact k
        refine Goes.retV X53 hx hlk Bd.returns (hb hby d2_65) ?_ (by decide) (by decide)
        show (Q2 Z x0 x1 kx qA qB qD h0 n0) _ _ _
        rw [e53]
        exact ⟨b2, b6, kx, k6, rfl, N53, K53, sz_b2, sz_b6, ne_b2_b6, E_x0, F_wanted_x0, F_ring_x0, F_size_x0, F_place_x0, V_b2, V_b6⟩
      by_cases hc36_38 : (0 : Int64) < qD
      · skip
        refine Goes.st (B := T33.setTop (mkF m 39 #[rv x0, rv x1, iv (2 : Int32)] [])) (fun t k => ?_) ?_
        · refine XS.ifNo X33.here hx rfl (hb hby d2_36) rfl (tltL hc36_38).2.2.2 ?_
          exact k
        refine Goes.run X33 hx hown hci hcl hby (L := [(39, .aload_n 0, 1)]) (by decide +kernel) rfl (g' := (mkF m 40 #[rv x0, rv x1, iv (2 : Int32)] [(.ref x0)])) rfl ?_
        obtain ⟨T57, X57, e57, st57⟩ := getF X33 hx hZ hown (host := "") (Or.inl w_29) Via.refl e33 F_ring_x0 (g := (mkF m 40 #[rv x0, rv x1, iv (2 : Int32)] [(.ref x0)])) rfl rfl (hb hby d2_40)
        refine Goes.st (B := T57.setTop (mkF m 43 #[rv x0, rv x1, iv (2 : Int32)] [(.ref b6)])) st57 ?_
        refine Goes.run X57 hx hown hci hcl hby (L := [(43, .aload_n 0, 1)]) (by decide +kernel) rfl (g' := (mkF m 44 #[rv x0, rv x1, iv (2 : Int32)] [(.ref x0), (.ref b6)])) rfl ?_
        obtain ⟨T58, X58, e58, st58⟩ := getF X57 hx hZ hown (host := "") (Or.inl w_31) Via.refl e57 F_size_x0 (g := (mkF m 44 #[rv x0, rv x1, iv (2 : Int32)] [(.ref x0), (.ref b6)])) rfl rfl (hb hby d2_44)
        refine Goes.st (B := T58.setTop (mkF m 47 #[rv x0, rv x1, iv (2 : Int32)] [(.int (j2_59_size_a qA qB qD)), (.ref b6)])) st58 ?_
        refine Goes.run X58 hx hown hci hcl hby (L := [(47, .iload_n 2, 1)]) (by decide +kernel) rfl (g' := (mkF m 48 #[rv x0, rv x1, iv (2 : Int32)] [(.int (2 : Int32)), (.int (j2_59_size_a qA qB qD)), (.ref b6)])) rfl ?_
        by_cases hs48_59 : (j2_59_size_a qA qB qD) = (0 : Int32)
        · skip
          rw [hs48_59] at F_size_x0
          refine Goes.cast (show (mkF m 48 #[rv x0, rv x1, iv (2 : Int32)] [(.int (2 : Int32)), (.int (j2_59_size_a qA qB qD)), (.ref b6)]) = (mkF m 48 #[rv x0, rv x1, iv (2 : Int32)] [(.int (2 : Int32)), (.int (0 : Int32)), (.ref b6)]) by rw [hs48_59]) ?_
          obtain ⟨cl60, Ar60, q60, S60, M60, Hs60, G60⟩ := id V_b6
          have hin60 : ¬ ((0 : Int32) < 0 ∨ cl60.slots.size ≤ ((0 : Int32)).toNatClampNeg) := inb_of S60 ⟨(by decide), (by decide)⟩
          obtain ⟨T60, h60, X60, e60, W60, st60⟩ := stI X58 hx hZ e58 Ar60 (j := (0 : Int32)) hin60 (g := (mkF m 48 #[rv x0, rv x1, iv (2 : Int32)] [(.int (2 : Int32)), (.int (0 : Int32)), (.ref b6)])) rfl rfl (hb hby d2_48)
          have E_b2 := E_b2.wr W60
          have V_b2 := V_b2.other W60 ne_b2_b6
          have E_b6 := E_b6.wr W60
          have E_x0 := E_x0.wr W60
          have F_wanted_x0 := F_wanted_x0.other W60 (Or.inl ne_x0_b6)
          have F_ring_x0 := F_ring_x0.other W60 (Or.inl ne_x0_b6)
          have F_size_x0 := F_size_x0.other W60 (Or.inl ne_x0_b6)
          have F_place_x0 := F_place_x0.other W60 (Or.inl ne_x0_b6)
          have E_x1 := E_x1.wr W60
          have V_x1 := V_x1.other W60 ne_x1_b6
          have Zn60 : n0 ≤ h60.size := Nat.le_trans Zn33 (Keep.of_wr W60).1
          have K60 := K33.wr W60 (Or.inr sz_b6)
          have N60 := Fr.snoc X60 N33 g_b6
          have V_b6 : Arv Z h60 b6 k6 .int (3 : Int32) [(.int (2 : Int32)), (.int (j2_59_e1 qA qB qD)), (.int (0 : Int32))] (.int (0 : Int32)) := Arv.set Ar60 q60 S60 M60 Hs60 G60 rfl W60 0 rfl (Nat.le_of_ble_eq_true rfl)
          refine Goes.st (B := T60.setTop (mkF m 49 #[rv x0, rv x1, iv (2 : Int32)] [])) st60 ?_
          refine Goes.run X60 hx hown hci hcl hby (L := [(49, .aload_n 0, 1), (50, .dup, 1)]) (by decide +kernel) rfl (g' := (mkF m 51 #[rv x0, rv x1, iv (2 : Int32)] [(.ref x0), (.ref x0)])) rfl ?_
          obtain ⟨T61, X61, e61, st61⟩ := getF X60 hx hZ hown (host := "") (Or.inl w_31) Via.refl e60 F_size_x0 (g := (mkF m 51 #[rv x0, rv x1, iv (2 : Int32)] [(.ref x0), (.ref x0)])) rfl rfl (hb hby d2_51)
          refine Goes.st (B := T61.setTop (mkF m 54 #[rv x0, rv x1, iv (2 : Int32)] [(.int (0 : Int32)), (.ref x0)])) st61 ?_
          refine Goes.run X61 hx hown hci hcl hby (L := [(54, .iconst 1, 1), (55, .iadd, 1)]) (by decide +kernel) rfl (g' := (mkF m 56 #[rv x0, rv x1, iv (2 : Int32)] [(.int (1 : Int32)), (.ref x0)])) rfl ?_
          obtain ⟨T62, h62, X62, e62, W62, st62⟩ := putF X61 hx hZ hown (host := "") (Or.inl w_31) Via.refl e61 F_size_x0 E_x0 (Or.inl w_32) w_10 (ty := .int) (by decide) rfl rfl (g := (mkF m 56 #[rv x0, rv x1, iv (2 : Int32)] [(.int (1 : Int32)), (.ref x0)])) rfl rfl (hb hby d2_56)
          have E_b2 := E_b2.wr W62
          have V_b2 := V_b2.other W62 (Ne.symm ne_x0_b2)
          have E_b6 := E_b6.wr W62
          have V_b6 := V_b6.other W62 (Ne.symm ne_x0_b6)
          have E_x0 := E_x0.wr W62
          have F_wanted_x0 := F_wanted_x0.other W62 (Or.inr (slot_ne (Or.inr w_28) (Or.inl w_32) (by decide) (t := (.array .long)) (t' := .int) (by decide) (by decide)))
          have F_ring_x0 := F_ring_x0.other W62 (Or.inr (slot_ne (Or.inr w_30) (Or.inl w_32) (by decide) (t := (.array .int)) (t' := .int) (by decide) (by decide)))
          have F_size_x0 : Fld Z h62 x0 "com/example/kubera/kubera/DealingRing" "size" "I" (.int (1 : Int32)) := F_size_x0.same W62
          have F_place_x0 := F_place_x0.other W62 (Or.inr (slot_ne (Or.inl w_39) (Or.inl w_32) (by decide) (t := .int) (t' := .int) (by decide) (by decide)))
          have E_x1 := E_x1.wr W62
          have V_x1 := V_x1.other W62 nexy
          have Zn62 : n0 ≤ h62.size := Nat.le_trans Zn60 (Keep.of_wr W62).1
          have K62 := K60.wr W62 (Or.inl (List.mem_of_getElem? (i := 0) rfl))
          have N62 := Fr.snoc X62 N60 g_x0
          refine Goes.st (B := T62.setTop (mkF m 59 #[rv x0, rv x1, iv (2 : Int32)] [])) st62 ?_
          have q := jn59_54
          rw [show (j2_59_e0_a qA qB qD) = (2 : Int32) from ((if_pos hc36_38).trans (if_pos hs48_59)), show (j2_59_e1_a qA qB qD) = (j2_59_e1 qA qB qD) from ((if_pos hc36_38).trans (if_pos hs48_59)), show (j2_59_e2 qA qB qD) = (0 : Int32) from ((if_pos hc36_38).trans (if_pos hs48_59)), show (j2_59_size_b qA qB qD) = (1 : Int32) from ((if_pos hc36_38).trans (if_pos hs48_59))] at q
          exact q _ _ _ X62 e62 N62 Zn62 K62 E_b2 V_b2 E_b6 V_b6 E_x0 F_wanted_x0 F_ring_x0 F_size_x0 F_place_x0 E_x1 V_x1
        · skip
          by_cases hs48_63 : (j2_59_size_a qA qB qD) = (1 : Int32)
          · skip
            rw [hs48_63] at F_size_x0
            refine Goes.cast (show (mkF m 48 #[rv x0, rv x1, iv (2 : Int32)] [(.int (2 : Int32)), (.int (j2_59_size_a qA qB qD)), (.ref b6)]) = (mkF m 48 #[rv x0, rv x1, iv (2 : Int32)] [(.int (2 : Int32)), (.int (1 : Int32)), (.ref b6)]) by rw [hs48_63]) ?_
            obtain ⟨cl64, Ar64, q64, S64, M64, Hs64, G64⟩ := id V_b6
            have hin64 : ¬ ((1 : Int32) < 0 ∨ cl64.slots.size ≤ ((1 : Int32)).toNatClampNeg) := inb_of S64 ⟨(by decide), (by decide)⟩
            obtain ⟨T64, h64, X64, e64, W64, st64⟩ := stI X58 hx hZ e58 Ar64 (j := (1 : Int32)) hin64 (g := (mkF m 48 #[rv x0, rv x1, iv (2 : Int32)] [(.int (2 : Int32)), (.int (1 : Int32)), (.ref b6)])) rfl rfl (hb hby d2_48)
            have E_b2 := E_b2.wr W64
            have V_b2 := V_b2.other W64 ne_b2_b6
            have E_b6 := E_b6.wr W64
            have E_x0 := E_x0.wr W64
            have F_wanted_x0 := F_wanted_x0.other W64 (Or.inl ne_x0_b6)
            have F_ring_x0 := F_ring_x0.other W64 (Or.inl ne_x0_b6)
            have F_size_x0 := F_size_x0.other W64 (Or.inl ne_x0_b6)
            have F_place_x0 := F_place_x0.other W64 (Or.inl ne_x0_b6)
            have E_x1 := E_x1.wr W64
            have V_x1 := V_x1.other W64 ne_x1_b6
            have Zn64 : n0 ≤ h64.size := Nat.le_trans Zn33 (Keep.of_wr W64).1
            have K64 := K33.wr W64 (Or.inr sz_b6)
            have N64 := Fr.snoc X64 N33 g_b6
            have V_b6 : Arv Z h64 b6 k6 .int (3 : Int32) [(.int (j2_59_e0 qA qB qD)), (.int (2 : Int32)), (.int (0 : Int32))] (.int (0 : Int32)) := Arv.set Ar64 q64 S64 M64 Hs64 G64 rfl W64 1 rfl (Nat.le_of_ble_eq_true rfl)
            refine Goes.st (B := T64.setTop (mkF m 49 #[rv x0, rv x1, iv (2 : Int32)] [])) st64 ?_
            refine Goes.run X64 hx hown hci hcl hby (L := [(49, .aload_n 0, 1), (50, .dup, 1)]) (by decide +kernel) rfl (g' := (mkF m 51 #[rv x0, rv x1, iv (2 : Int32)] [(.ref x0), (.ref x0)])) rfl ?_
            obtain ⟨T65, X65, e65, st65⟩ := getF X64 hx hZ hown (host := "") (Or.inl w_31) Via.refl e64 F_size_x0 (g := (mkF m 51 #[rv x0, rv x1, iv (2 : Int32)] [(.ref x0), (.ref x0)])) rfl rfl (hb hby d2_51)
            refine Goes.st (B := T65.setTop (mkF m 54 #[rv x0, rv x1, iv (2 : Int32)] [(.int (1 : Int32)), (.ref x0)])) st65 ?_
            refine Goes.run X65 hx hown hci hcl hby (L := [(54, .iconst 1, 1), (55, .iadd, 1)]) (by decide +kernel) rfl (g' := (mkF m 56 #[rv x0, rv x1, iv (2 : Int32)] [(.int (2 : Int32)), (.ref x0)])) rfl ?_
            obtain ⟨T66, h66, X66, e66, W66, st66⟩ := putF X65 hx hZ hown (host := "") (Or.inl w_31) Via.refl e65 F_size_x0 E_x0 (Or.inl w_32) w_10 (ty := .int) (by decide) rfl rfl (g := (mkF m 56 #[rv x0, rv x1, iv (2 : Int32)] [(.int (2 : Int32)), (.ref x0)])) rfl rfl (hb hby d2_56)
            have E_b2 := E_b2.wr W66
            have V_b2 := V_b2.other W66 (Ne.symm ne_x0_b2)
            have E_b6 := E_b6.wr W66
            have V_b6 := V_b6.other W66 (Ne.symm ne_x0_b6)
            have E_x0 := E_x0.wr W66
            have F_wanted_x0 := F_wanted_x0.other W66 (Or.inr (slot_ne (Or.inr w_28) (Or.inl w_32) (by decide) (t := (.array .long)) (t' := .int) (by decide) (by decide)))
            have F_ring_x0 := F_ring_x0.other W66 (Or.inr (slot_ne (Or.inr w_30) (Or.inl w_32) (by decide) (t := (.array .int)) (t' := .int) (by decide) (by decide)))
            have F_size_x0 : Fld Z h66 x0 "com/example/kubera/kubera/DealingRing" "size" "I" (.int (2 : Int32)) := F_size_x0.same W66
            have F_place_x0 := F_place_x0.other W66 (Or.inr (slot_ne (Or.inl w_39) (Or.inl w_32) (by decide) (t := .int) (t' := .int) (by decide) (by decide)))
            have E_x1 := E_x1.wr W66
            have V_x1 := V_x1.other W66 nexy
            have Zn66 : n0 ≤ h66.size := Nat.le_trans Zn64 (Keep.of_wr W66).1
            have K66 := K64.wr W66 (Or.inl (List.mem_of_getElem? (i := 0) rfl))
            have N66 := Fr.snoc X66 N64 g_x0
            refine Goes.st (B := T66.setTop (mkF m 59 #[rv x0, rv x1, iv (2 : Int32)] [])) st66 ?_
            have q := jn59_54
            rw [show (j2_59_e0_a qA qB qD) = (j2_59_e0 qA qB qD) from (((if_pos hc36_38).trans (if_neg hs48_59)).trans (if_pos hs48_63)), show (j2_59_e1_a qA qB qD) = (2 : Int32) from (((if_pos hc36_38).trans (if_neg hs48_59)).trans (if_pos hs48_63)), show (j2_59_e2 qA qB qD) = (0 : Int32) from (((if_pos hc36_38).trans (if_neg hs48_59)).trans (if_pos hs48_63)), show (j2_59_size_b qA qB qD) = (2 : Int32) from (((if_pos hc36_38).trans (if_neg hs48_59)).trans (if_pos hs48_63))] at q
            exact q _ _ _ X66 e66 N66 Zn66 K66 E_b2 V_b2 E_b6 V_b6 E_x0 F_wanted_x0 F_ring_x0 F_size_x0 F_place_x0 E_x1 V_x1
          · skip
            have hs48_67 : (j2_59_size_a qA qB qD) = (2 : Int32) := own_la3 (own_sz2 qA qB qD) hs48_59 hs48_63
            rw [hs48_67] at F_size_x0
            refine Goes.cast (show (mkF m 48 #[rv x0, rv x1, iv (2 : Int32)] [(.int (2 : Int32)), (.int (j2_59_size_a qA qB qD)), (.ref b6)]) = (mkF m 48 #[rv x0, rv x1, iv (2 : Int32)] [(.int (2 : Int32)), (.int (2 : Int32)), (.ref b6)]) by rw [hs48_67]) ?_
            obtain ⟨cl68, Ar68, q68, S68, M68, Hs68, G68⟩ := id V_b6
            have hin68 : ¬ ((2 : Int32) < 0 ∨ cl68.slots.size ≤ ((2 : Int32)).toNatClampNeg) := inb_of S68 ⟨(by decide), (by decide)⟩
            obtain ⟨T68, h68, X68, e68, W68, st68⟩ := stI X58 hx hZ e58 Ar68 (j := (2 : Int32)) hin68 (g := (mkF m 48 #[rv x0, rv x1, iv (2 : Int32)] [(.int (2 : Int32)), (.int (2 : Int32)), (.ref b6)])) rfl rfl (hb hby d2_48)
            have E_b2 := E_b2.wr W68
            have V_b2 := V_b2.other W68 ne_b2_b6
            have E_b6 := E_b6.wr W68
            have E_x0 := E_x0.wr W68
            have F_wanted_x0 := F_wanted_x0.other W68 (Or.inl ne_x0_b6)
            have F_ring_x0 := F_ring_x0.other W68 (Or.inl ne_x0_b6)
            have F_size_x0 := F_size_x0.other W68 (Or.inl ne_x0_b6)
            have F_place_x0 := F_place_x0.other W68 (Or.inl ne_x0_b6)
            have E_x1 := E_x1.wr W68
            have V_x1 := V_x1.other W68 ne_x1_b6
            have Zn68 : n0 ≤ h68.size := Nat.le_trans Zn33 (Keep.of_wr W68).1
            have K68 := K33.wr W68 (Or.inr sz_b6)
            have N68 := Fr.snoc X68 N33 g_b6
            have V_b6 : Arv Z h68 b6 k6 .int (3 : Int32) [(.int (j2_59_e0 qA qB qD)), (.int (j2_59_e1 qA qB qD)), (.int (2 : Int32))] (.int (0 : Int32)) := Arv.set Ar68 q68 S68 M68 Hs68 G68 rfl W68 2 rfl (Nat.le_of_ble_eq_true rfl)
            refine Goes.st (B := T68.setTop (mkF m 49 #[rv x0, rv x1, iv (2 : Int32)] [])) st68 ?_
            refine Goes.run X68 hx hown hci hcl hby (L := [(49, .aload_n 0, 1), (50, .dup, 1)]) (by decide +kernel) rfl (g' := (mkF m 51 #[rv x0, rv x1, iv (2 : Int32)] [(.ref x0), (.ref x0)])) rfl ?_
            obtain ⟨T69, X69, e69, st69⟩ := getF X68 hx hZ hown (host := "") (Or.inl w_31) Via.refl e68 F_size_x0 (g := (mkF m 51 #[rv x0, rv x1, iv (2 : Int32)] [(.ref x0), (.ref x0)])) rfl rfl (hb hby d2_51)
            refine Goes.st (B := T69.setTop (mkF m 54 #[rv x0, rv x1, iv (2 : Int32)] [(.int (2 : Int32)), (.ref x0)])) st69 ?_
            refine Goes.run X69 hx hown hci hcl hby (L := [(54, .iconst 1, 1), (55, .iadd, 1)]) (by decide +kernel) rfl (g' := (mkF m 56 #[rv x0, rv x1, iv (2 : Int32)] [(.int (3 : Int32)), (.ref x0)])) rfl ?_
            obtain ⟨T70, h70, X70, e70, W70, st70⟩ := putF X69 hx hZ hown (host := "") (Or.inl w_31) Via.refl e69 F_size_x0 E_x0 (Or.inl w_32) w_10 (ty := .int) (by decide) rfl rfl (g := (mkF m 56 #[rv x0, rv x1, iv (2 : Int32)] [(.int (3 : Int32)), (.ref x0)])) rfl rfl (hb hby d2_56)
            have E_b2 := E_b2.wr W70
            have V_b2 := V_b2.other W70 (Ne.symm ne_x0_b2)
            have E_b6 := E_b6.wr W70
            have V_b6 := V_b6.other W70 (Ne.symm ne_x0_b6)
            have E_x0 := E_x0.wr W70
            have F_wanted_x0 := F_wanted_x0.other W70 (Or.inr (slot_ne (Or.inr w_28) (Or.inl w_32) (by decide) (t := (.array .long)) (t' := .int) (by decide) (by decide)))
            have F_ring_x0 := F_ring_x0.other W70 (Or.inr (slot_ne (Or.inr w_30) (Or.inl w_32) (by decide) (t := (.array .int)) (t' := .int) (by decide) (by decide)))
            have F_size_x0 : Fld Z h70 x0 "com/example/kubera/kubera/DealingRing" "size" "I" (.int (3 : Int32)) := F_size_x0.same W70
            have F_place_x0 := F_place_x0.other W70 (Or.inr (slot_ne (Or.inl w_39) (Or.inl w_32) (by decide) (t := .int) (t' := .int) (by decide) (by decide)))
            have E_x1 := E_x1.wr W70
            have V_x1 := V_x1.other W70 nexy
            have Zn70 : n0 ≤ h70.size := Nat.le_trans Zn68 (Keep.of_wr W70).1
            have K70 := K68.wr W70 (Or.inl (List.mem_of_getElem? (i := 0) rfl))
            have N70 := Fr.snoc X70 N68 g_x0
            refine Goes.st (B := T70.setTop (mkF m 59 #[rv x0, rv x1, iv (2 : Int32)] [])) st70 ?_
            have q := jn59_54
            rw [show (j2_59_e0_a qA qB qD) = (j2_59_e0 qA qB qD) from (((if_pos hc36_38).trans (if_neg hs48_59)).trans (if_neg hs48_63)), show (j2_59_e1_a qA qB qD) = (j2_59_e1 qA qB qD) from (((if_pos hc36_38).trans (if_neg hs48_59)).trans (if_neg hs48_63)), show (j2_59_e2 qA qB qD) = (2 : Int32) from (((if_pos hc36_38).trans (if_neg hs48_59)).trans (if_neg hs48_63)), show (j2_59_size_b qA qB qD) = (3 : Int32) from (((if_pos hc36_38).trans (if_neg hs48_59)).trans (if_neg hs48_63))] at q
            exact q _ _ _ X70 e70 N70 Zn70 K70 E_b2 V_b2 E_b6 V_b6 E_x0 F_wanted_x0 F_ring_x0 F_size_x0 F_place_x0 E_x1 V_x1
      · skip
        refine Goes.st (B := T33.setTop (mkF m 59 #[rv x0, rv x1, iv (2 : Int32)] [])) (fun t k => ?_) ?_
        · refine XS.ifYes X33.here hx rfl (pc0 := 36) (pc' := 59) rfl (hb hby d2_36) rfl (fltL hc36_38).2.2.2 (by decide) (by decide) ?_
          exact k
        have q := jn59_54
        rw [show (j2_59_e0_a qA qB qD) = (j2_59_e0 qA qB qD) from (if_neg hc36_38), show (j2_59_e1_a qA qB qD) = (j2_59_e1 qA qB qD) from (if_neg hc36_38), show (j2_59_e2 qA qB qD) = (0 : Int32) from (if_neg hc36_38), show (j2_59_size_b qA qB qD) = (j2_59_size_a qA qB qD) from (if_neg hc36_38)] at q
        exact q _ _ _ X33 e33 N33 Zn33 K33 E_b2 V_b2 E_b6 V_b6 E_x0 F_wanted_x0 F_ring_x0 F_size_x0 F_place_x0 E_x1 V_x1
    by_cases hc36_22 : (0 : Int64) < qB
    · skip
      refine Goes.st (B := T17.setTop (mkF m 39 #[rv x0, rv x1, iv (1 : Int32)] [])) (fun t k => ?_) ?_
      · refine XS.ifNo X17.here hx rfl (hb hby d2_36) rfl (tltL hc36_22).2.2.2 ?_
        exact k
      refine Goes.run X17 hx hown hci hcl hby (L := [(39, .aload_n 0, 1)]) (by decide +kernel) rfl (g' := (mkF m 40 #[rv x0, rv x1, iv (1 : Int32)] [(.ref x0)])) rfl ?_
      obtain ⟨T71, X71, e71, st71⟩ := getF X17 hx hZ hown (host := "") (Or.inl w_29) Via.refl e17 F_ring_x0 (g := (mkF m 40 #[rv x0, rv x1, iv (1 : Int32)] [(.ref x0)])) rfl rfl (hb hby d2_40)
      refine Goes.st (B := T71.setTop (mkF m 43 #[rv x0, rv x1, iv (1 : Int32)] [(.ref b6)])) st71 ?_
      refine Goes.run X71 hx hown hci hcl hby (L := [(43, .aload_n 0, 1)]) (by decide +kernel) rfl (g' := (mkF m 44 #[rv x0, rv x1, iv (1 : Int32)] [(.ref x0), (.ref b6)])) rfl ?_
      obtain ⟨T72, X72, e72, st72⟩ := getF X71 hx hZ hown (host := "") (Or.inl w_31) Via.refl e71 F_size_x0 (g := (mkF m 44 #[rv x0, rv x1, iv (1 : Int32)] [(.ref x0), (.ref b6)])) rfl rfl (hb hby d2_44)
      refine Goes.st (B := T72.setTop (mkF m 47 #[rv x0, rv x1, iv (1 : Int32)] [(.int (j2_59_size qA qB qD)), (.ref b6)])) st72 ?_
      refine Goes.run X72 hx hown hci hcl hby (L := [(47, .iload_n 2, 1)]) (by decide +kernel) rfl (g' := (mkF m 48 #[rv x0, rv x1, iv (1 : Int32)] [(.int (1 : Int32)), (.int (j2_59_size qA qB qD)), (.ref b6)])) rfl ?_
      by_cases hs48_73 : (j2_59_size qA qB qD) = (0 : Int32)
      · skip
        rw [hs48_73] at F_size_x0
        refine Goes.cast (show (mkF m 48 #[rv x0, rv x1, iv (1 : Int32)] [(.int (1 : Int32)), (.int (j2_59_size qA qB qD)), (.ref b6)]) = (mkF m 48 #[rv x0, rv x1, iv (1 : Int32)] [(.int (1 : Int32)), (.int (0 : Int32)), (.ref b6)]) by rw [hs48_73]) ?_
        obtain ⟨cl74, Ar74, q74, S74, M74, Hs74, G74⟩ := id V_b6
        have hin74 : ¬ ((0 : Int32) < 0 ∨ cl74.slots.size ≤ ((0 : Int32)).toNatClampNeg) := inb_of S74 ⟨(by decide), (by decide)⟩
        obtain ⟨T74, h74, X74, e74, W74, st74⟩ := stI X72 hx hZ e72 Ar74 (j := (0 : Int32)) hin74 (g := (mkF m 48 #[rv x0, rv x1, iv (1 : Int32)] [(.int (1 : Int32)), (.int (0 : Int32)), (.ref b6)])) rfl rfl (hb hby d2_48)
        have E_b2 := E_b2.wr W74
        have V_b2 := V_b2.other W74 ne_b2_b6
        have E_b6 := E_b6.wr W74
        have E_x0 := E_x0.wr W74
        have F_wanted_x0 := F_wanted_x0.other W74 (Or.inl ne_x0_b6)
        have F_ring_x0 := F_ring_x0.other W74 (Or.inl ne_x0_b6)
        have F_size_x0 := F_size_x0.other W74 (Or.inl ne_x0_b6)
        have F_place_x0 := F_place_x0.other W74 (Or.inl ne_x0_b6)
        have E_x1 := E_x1.wr W74
        have V_x1 := V_x1.other W74 ne_x1_b6
        have Zn74 : n0 ≤ h74.size := Nat.le_trans Zn17 (Keep.of_wr W74).1
        have K74 := K17.wr W74 (Or.inr sz_b6)
        have N74 := Fr.snoc X74 N17 g_b6
        have V_b6 : Arv Z h74 b6 k6 .int (3 : Int32) [(.int (1 : Int32)), (.int (0 : Int32)), (.int (0 : Int32))] (.int (0 : Int32)) := Arv.set Ar74 q74 S74 M74 Hs74 G74 rfl W74 0 rfl (Nat.le_of_ble_eq_true rfl)
        refine Goes.st (B := T74.setTop (mkF m 49 #[rv x0, rv x1, iv (1 : Int32)] [])) st74 ?_
        refine Goes.run X74 hx hown hci hcl hby (L := [(49, .aload_n 0, 1), (50, .dup, 1)]) (by decide +kernel) rfl (g' := (mkF m 51 #[rv x0, rv x1, iv (1 : Int32)] [(.ref x0), (.ref x0)])) rfl ?_
        obtain ⟨T75, X75, e75, st75⟩ := getF X74 hx hZ hown (host := "") (Or.inl w_31) Via.refl e74 F_size_x0 (g := (mkF m 51 #[rv x0, rv x1, iv (1 : Int32)] [(.ref x0), (.ref x0)])) rfl rfl (hb hby d2_51)
        refine Goes.st (B := T75.setTop (mkF m 54 #[rv x0, rv x1, iv (1 : Int32)] [(.int (0 : Int32)), (.ref x0)])) st75 ?_
        refine Goes.run X75 hx hown hci hcl hby (L := [(54, .iconst 1, 1), (55, .iadd, 1)]) (by decide +kernel) rfl (g' := (mkF m 56 #[rv x0, rv x1, iv (1 : Int32)] [(.int (1 : Int32)), (.ref x0)])) rfl ?_
        obtain ⟨T76, h76, X76, e76, W76, st76⟩ := putF X75 hx hZ hown (host := "") (Or.inl w_31) Via.refl e75 F_size_x0 E_x0 (Or.inl w_32) w_10 (ty := .int) (by decide) rfl rfl (g := (mkF m 56 #[rv x0, rv x1, iv (1 : Int32)] [(.int (1 : Int32)), (.ref x0)])) rfl rfl (hb hby d2_56)
        have E_b2 := E_b2.wr W76
        have V_b2 := V_b2.other W76 (Ne.symm ne_x0_b2)
        have E_b6 := E_b6.wr W76
        have V_b6 := V_b6.other W76 (Ne.symm ne_x0_b6)
        have E_x0 := E_x0.wr W76
        have F_wanted_x0 := F_wanted_x0.other W76 (Or.inr (slot_ne (Or.inr w_28) (Or.inl w_32) (by decide) (t := (.array .long)) (t' := .int) (by decide) (by decide)))
        have F_ring_x0 := F_ring_x0.other W76 (Or.inr (slot_ne (Or.inr w_30) (Or.inl w_32) (by decide) (t := (.array .int)) (t' := .int) (by decide) (by decide)))
        have F_size_x0 : Fld Z h76 x0 "com/example/kubera/kubera/DealingRing" "size" "I" (.int (1 : Int32)) := F_size_x0.same W76
        have F_place_x0 := F_place_x0.other W76 (Or.inr (slot_ne (Or.inl w_39) (Or.inl w_32) (by decide) (t := .int) (t' := .int) (by decide) (by decide)))
        have E_x1 := E_x1.wr W76
        have V_x1 := V_x1.other W76 nexy
        have Zn76 : n0 ≤ h76.size := Nat.le_trans Zn74 (Keep.of_wr W76).1
        have K76 := K74.wr W76 (Or.inl (List.mem_of_getElem? (i := 0) rfl))
        have N76 := Fr.snoc X76 N74 g_x0
        refine Goes.st (B := T76.setTop (mkF m 59 #[rv x0, rv x1, iv (1 : Int32)] [])) st76 ?_
        have q := jn59_34
        rw [show (j2_59_e0 qA qB qD) = (1 : Int32) from ((if_pos hc36_22).trans (if_pos hs48_73)), show (j2_59_e1 qA qB qD) = (0 : Int32) from ((if_pos hc36_22).trans (if_pos hs48_73)), show (j2_59_size_a qA qB qD) = (1 : Int32) from ((if_pos hc36_22).trans (if_pos hs48_73))] at q
        exact q _ _ _ X76 e76 N76 Zn76 K76 E_b2 V_b2 E_b6 V_b6 E_x0 F_wanted_x0 F_ring_x0 F_size_x0 F_place_x0 E_x1 V_x1
      · skip
        have hs48_77 : (j2_59_size qA qB qD) = (1 : Int32) := own_la2 (own_sz1 qA qB qD) hs48_73
        rw [hs48_77] at F_size_x0
        refine Goes.cast (show (mkF m 48 #[rv x0, rv x1, iv (1 : Int32)] [(.int (1 : Int32)), (.int (j2_59_size qA qB qD)), (.ref b6)]) = (mkF m 48 #[rv x0, rv x1, iv (1 : Int32)] [(.int (1 : Int32)), (.int (1 : Int32)), (.ref b6)]) by rw [hs48_77]) ?_
        obtain ⟨cl78, Ar78, q78, S78, M78, Hs78, G78⟩ := id V_b6
        have hin78 : ¬ ((1 : Int32) < 0 ∨ cl78.slots.size ≤ ((1 : Int32)).toNatClampNeg) := inb_of S78 ⟨(by decide), (by decide)⟩
        obtain ⟨T78, h78, X78, e78, W78, st78⟩ := stI X72 hx hZ e72 Ar78 (j := (1 : Int32)) hin78 (g := (mkF m 48 #[rv x0, rv x1, iv (1 : Int32)] [(.int (1 : Int32)), (.int (1 : Int32)), (.ref b6)])) rfl rfl (hb hby d2_48)
        have E_b2 := E_b2.wr W78
        have V_b2 := V_b2.other W78 ne_b2_b6
        have E_b6 := E_b6.wr W78
        have E_x0 := E_x0.wr W78
        have F_wanted_x0 := F_wanted_x0.other W78 (Or.inl ne_x0_b6)
        have F_ring_x0 := F_ring_x0.other W78 (Or.inl ne_x0_b6)
        have F_size_x0 := F_size_x0.other W78 (Or.inl ne_x0_b6)
        have F_place_x0 := F_place_x0.other W78 (Or.inl ne_x0_b6)
        have E_x1 := E_x1.wr W78
        have V_x1 := V_x1.other W78 ne_x1_b6
        have Zn78 : n0 ≤ h78.size := Nat.le_trans Zn17 (Keep.of_wr W78).1
        have K78 := K17.wr W78 (Or.inr sz_b6)
        have N78 := Fr.snoc X78 N17 g_b6
        have V_b6 : Arv Z h78 b6 k6 .int (3 : Int32) [(.int (0 : Int32)), (.int (1 : Int32)), (.int (0 : Int32))] (.int (0 : Int32)) := Arv.set Ar78 q78 S78 M78 Hs78 G78 rfl W78 1 rfl (Nat.le_of_ble_eq_true rfl)
        refine Goes.st (B := T78.setTop (mkF m 49 #[rv x0, rv x1, iv (1 : Int32)] [])) st78 ?_
        refine Goes.run X78 hx hown hci hcl hby (L := [(49, .aload_n 0, 1), (50, .dup, 1)]) (by decide +kernel) rfl (g' := (mkF m 51 #[rv x0, rv x1, iv (1 : Int32)] [(.ref x0), (.ref x0)])) rfl ?_
        obtain ⟨T79, X79, e79, st79⟩ := getF X78 hx hZ hown (host := "") (Or.inl w_31) Via.refl e78 F_size_x0 (g := (mkF m 51 #[rv x0, rv x1, iv (1 : Int32)] [(.ref x0), (.ref x0)])) rfl rfl (hb hby d2_51)
        refine Goes.st (B := T79.setTop (mkF m 54 #[rv x0, rv x1, iv (1 : Int32)] [(.int (1 : Int32)), (.ref x0)])) st79 ?_
        refine Goes.run X79 hx hown hci hcl hby (L := [(54, .iconst 1, 1), (55, .iadd, 1)]) (by decide +kernel) rfl (g' := (mkF m 56 #[rv x0, rv x1, iv (1 : Int32)] [(.int (2 : Int32)), (.ref x0)])) rfl ?_
        obtain ⟨T80, h80, X80, e80, W80, st80⟩ := putF X79 hx hZ hown (host := "") (Or.inl w_31) Via.refl e79 F_size_x0 E_x0 (Or.inl w_32) w_10 (ty := .int) (by decide) rfl rfl (g := (mkF m 56 #[rv x0, rv x1, iv (1 : Int32)] [(.int (2 : Int32)), (.ref x0)])) rfl rfl (hb hby d2_56)
        have E_b2 := E_b2.wr W80
        have V_b2 := V_b2.other W80 (Ne.symm ne_x0_b2)
        have E_b6 := E_b6.wr W80
        have V_b6 := V_b6.other W80 (Ne.symm ne_x0_b6)
        have E_x0 := E_x0.wr W80
        have F_wanted_x0 := F_wanted_x0.other W80 (Or.inr (slot_ne (Or.inr w_28) (Or.inl w_32) (by decide) (t := (.array .long)) (t' := .int) (by decide) (by decide)))
        have F_ring_x0 := F_ring_x0.other W80 (Or.inr (slot_ne (Or.inr w_30) (Or.inl w_32) (by decide) (t := (.array .int)) (t' := .int) (by decide) (by decide)))
        have F_size_x0 : Fld Z h80 x0 "com/example/kubera/kubera/DealingRing" "size" "I" (.int (2 : Int32)) := F_size_x0.same W80
        have F_place_x0 := F_place_x0.other W80 (Or.inr (slot_ne (Or.inl w_39) (Or.inl w_32) (by decide) (t := .int) (t' := .int) (by decide) (by decide)))
        have E_x1 := E_x1.wr W80
        have V_x1 := V_x1.other W80 nexy
        have Zn80 : n0 ≤ h80.size := Nat.le_trans Zn78 (Keep.of_wr W80).1
        have K80 := K78.wr W80 (Or.inl (List.mem_of_getElem? (i := 0) rfl))
        have N80 := Fr.snoc X80 N78 g_x0
        refine Goes.st (B := T80.setTop (mkF m 59 #[rv x0, rv x1, iv (1 : Int32)] [])) st80 ?_
        have q := jn59_34
        rw [show (j2_59_e0 qA qB qD) = (0 : Int32) from ((if_pos hc36_22).trans (if_neg hs48_73)), show (j2_59_e1 qA qB qD) = (1 : Int32) from ((if_pos hc36_22).trans (if_neg hs48_73)), show (j2_59_size_a qA qB qD) = (2 : Int32) from ((if_pos hc36_22).trans (if_neg hs48_73))] at q
        exact q _ _ _ X80 e80 N80 Zn80 K80 E_b2 V_b2 E_b6 V_b6 E_x0 F_wanted_x0 F_ring_x0 F_size_x0 F_place_x0 E_x1 V_x1
    · skip
      refine Goes.st (B := T17.setTop (mkF m 59 #[rv x0, rv x1, iv (1 : Int32)] [])) (fun t k => ?_) ?_
      · refine XS.ifYes X17.here hx rfl (pc0 := 36) (pc' := 59) rfl (hb hby d2_36) rfl (fltL hc36_22).2.2.2 (by decide) (by decide) ?_
        exact k
      have q := jn59_34
      rw [show (j2_59_e0 qA qB qD) = (0 : Int32) from (if_neg hc36_22), show (j2_59_e1 qA qB qD) = (0 : Int32) from (if_neg hc36_22), show (j2_59_size_a qA qB qD) = (j2_59_size qA qB qD) from (if_neg hc36_22)] at q
      exact q _ _ _ X17 e17 N17 Zn17 K17 E_b2 V_b2 E_b6 V_b6 E_x0 F_wanted_x0 F_ring_x0 F_size_x0 F_place_x0 E_x1 V_x1
  by_cases hc36_11 : (0 : Int64) < qA
  · skip
    refine Goes.st (B := T7.setTop (mkF m 39 #[rv x0, rv x1, iv (0 : Int32)] [])) (fun t k => ?_) ?_
    · refine XS.ifNo X7.here hx rfl (hb hby d2_36) rfl (tltL hc36_11).2.2.2 ?_
      exact k
    refine Goes.run X7 hx hown hci hcl hby (L := [(39, .aload_n 0, 1)]) (by decide +kernel) rfl (g' := (mkF m 40 #[rv x0, rv x1, iv (0 : Int32)] [(.ref x0)])) rfl ?_
    obtain ⟨T81, X81, e81, st81⟩ := getF X7 hx hZ hown (host := "") (Or.inl w_29) Via.refl e7 F_ring_x0 (g := (mkF m 40 #[rv x0, rv x1, iv (0 : Int32)] [(.ref x0)])) rfl rfl (hb hby d2_40)
    refine Goes.st (B := T81.setTop (mkF m 43 #[rv x0, rv x1, iv (0 : Int32)] [(.ref b6)])) st81 ?_
    refine Goes.run X81 hx hown hci hcl hby (L := [(43, .aload_n 0, 1)]) (by decide +kernel) rfl (g' := (mkF m 44 #[rv x0, rv x1, iv (0 : Int32)] [(.ref x0), (.ref b6)])) rfl ?_
    obtain ⟨T82, X82, e82, st82⟩ := getF X81 hx hZ hown (host := "") (Or.inl w_31) Via.refl e81 F_size_x0 (g := (mkF m 44 #[rv x0, rv x1, iv (0 : Int32)] [(.ref x0), (.ref b6)])) rfl rfl (hb hby d2_44)
    refine Goes.st (B := T82.setTop (mkF m 47 #[rv x0, rv x1, iv (0 : Int32)] [(.int (0 : Int32)), (.ref b6)])) st82 ?_
    refine Goes.run X82 hx hown hci hcl hby (L := [(47, .iload_n 2, 1)]) (by decide +kernel) rfl (g' := (mkF m 48 #[rv x0, rv x1, iv (0 : Int32)] [(.int (0 : Int32)), (.int (0 : Int32)), (.ref b6)])) rfl ?_
    obtain ⟨cl83, Ar83, q83, S83, M83, Hs83, G83⟩ := id V_b6
    have hin83 : ¬ ((0 : Int32) < 0 ∨ cl83.slots.size ≤ ((0 : Int32)).toNatClampNeg) := inb_of S83 ⟨(by decide), (by decide)⟩
    obtain ⟨T83, h83, X83, e83, W83, st83⟩ := stI X82 hx hZ e82 Ar83 (j := (0 : Int32)) hin83 (g := (mkF m 48 #[rv x0, rv x1, iv (0 : Int32)] [(.int (0 : Int32)), (.int (0 : Int32)), (.ref b6)])) rfl rfl (hb hby d2_48)
    have E_x0 := E_x0.wr W83
    have F_wanted_x0 := F_wanted_x0.other W83 (Or.inl ne_x0_b6)
    have F_ring_x0 := F_ring_x0.other W83 (Or.inl ne_x0_b6)
    have F_size_x0 := F_size_x0.other W83 (Or.inl ne_x0_b6)
    have F_place_x0 := F_place_x0.other W83 (Or.inl ne_x0_b6)
    have E_x1 := E_x1.wr W83
    have V_x1 := V_x1.other W83 ne_x1_b6
    have E_b2 := E_b2.wr W83
    have V_b2 := V_b2.other W83 ne_b2_b6
    have E_b6 := E_b6.wr W83
    have Zn83 : n0 ≤ h83.size := Nat.le_trans Zn7 (Keep.of_wr W83).1
    have K83 := K7.wr W83 (Or.inr sz_b6)
    have N83 := Fr.snoc X83 N7 g_b6
    have V_b6 : Arv Z h83 b6 k6 .int (3 : Int32) [(.int (0 : Int32)), (.int (0 : Int32)), (.int (0 : Int32))] (.int (0 : Int32)) := Arv.set Ar83 q83 S83 M83 Hs83 G83 rfl W83 0 rfl (Nat.le_of_ble_eq_true rfl)
    refine Goes.st (B := T83.setTop (mkF m 49 #[rv x0, rv x1, iv (0 : Int32)] [])) st83 ?_
    refine Goes.run X83 hx hown hci hcl hby (L := [(49, .aload_n 0, 1), (50, .dup, 1)]) (by decide +kernel) rfl (g' := (mkF m 51 #[rv x0, rv x1, iv (0 : Int32)] [(.ref x0), (.ref x0)])) rfl ?_
    obtain ⟨T84, X84, e84, st84⟩ := getF X83 hx hZ hown (host := "") (Or.inl w_31) Via.refl e83 F_size_x0 (g := (mkF m 51 #[rv x0, rv x1, iv (0 : Int32)] [(.ref x0), (.ref x0)])) rfl rfl (hb hby d2_51)
    refine Goes.st (B := T84.setTop (mkF m 54 #[rv x0, rv x1, iv (0 : Int32)] [(.int (0 : Int32)), (.ref x0)])) st84 ?_
    refine Goes.run X84 hx hown hci hcl hby (L := [(54, .iconst 1, 1), (55, .iadd, 1)]) (by decide +kernel) rfl (g' := (mkF m 56 #[rv x0, rv x1, iv (0 : Int32)] [(.int (1 : Int32)), (.ref x0)])) rfl ?_
    obtain ⟨T85, h85, X85, e85, W85, st85⟩ := putF X84 hx hZ hown (host := "") (Or.inl w_31) Via.refl e84 F_size_x0 E_x0 (Or.inl w_32) w_10 (ty := .int) (by decide) rfl rfl (g := (mkF m 56 #[rv x0, rv x1, iv (0 : Int32)] [(.int (1 : Int32)), (.ref x0)])) rfl rfl (hb hby d2_56)
    have E_x0 := E_x0.wr W85
    have F_wanted_x0 := F_wanted_x0.other W85 (Or.inr (slot_ne (Or.inr w_28) (Or.inl w_32) (by decide) (t := (.array .long)) (t' := .int) (by decide) (by decide)))
    have F_ring_x0 := F_ring_x0.other W85 (Or.inr (slot_ne (Or.inr w_30) (Or.inl w_32) (by decide) (t := (.array .int)) (t' := .int) (by decide) (by decide)))
    have F_size_x0 : Fld Z h85 x0 "com/example/kubera/kubera/DealingRing" "size" "I" (.int (1 : Int32)) := F_size_x0.same W85
    have F_place_x0 := F_place_x0.other W85 (Or.inr (slot_ne (Or.inl w_39) (Or.inl w_32) (by decide) (t := .int) (t' := .int) (by decide) (by decide)))
    have E_x1 := E_x1.wr W85
    have V_x1 := V_x1.other W85 nexy
    have E_b2 := E_b2.wr W85
    have V_b2 := V_b2.other W85 (Ne.symm ne_x0_b2)
    have E_b6 := E_b6.wr W85
    have V_b6 := V_b6.other W85 (Ne.symm ne_x0_b6)
    have Zn85 : n0 ≤ h85.size := Nat.le_trans Zn83 (Keep.of_wr W85).1
    have K85 := K83.wr W85 (Or.inl (List.mem_of_getElem? (i := 0) rfl))
    have N85 := Fr.snoc X85 N83 g_x0
    refine Goes.st (B := T85.setTop (mkF m 59 #[rv x0, rv x1, iv (0 : Int32)] [])) st85 ?_
    have q := jn59_18
    rw [show (j2_59_size qA qB qD) = (1 : Int32) from (if_pos hc36_11)] at q
    exact q _ _ _ X85 e85 N85 Zn85 K85 E_b2 V_b2 E_b6 V_b6 E_x0 F_wanted_x0 F_ring_x0 F_size_x0 F_place_x0 E_x1 V_x1
  · skip
    refine Goes.st (B := T7.setTop (mkF m 59 #[rv x0, rv x1, iv (0 : Int32)] [])) (fun t k => ?_) ?_
    · refine XS.ifYes X7.here hx rfl (pc0 := 36) (pc' := 59) rfl (hb hby d2_36) rfl (fltL hc36_11).2.2.2 (by decide) (by decide) ?_
      exact k
    have q := jn59_18
    rw [show (j2_59_size qA qB qD) = (0 : Int32) from (if_neg hc36_11)] at q
    exact q _ _ _ X7 e7 N7 Zn7 K7 E_b2 V_b2 E_b6 V_b6 E_x0 F_wanted_x0 F_ring_x0 F_size_x0 F_place_x0 E_x1 V_x1
theorem d3_1 : decode prog_4_method_2_code 1 = .ok (.getfield 18, 3) := by decide +kernel
theorem d3_5 : decode prog_4_method_2_code 5 = .ok (.getfield 26, 3) := by decide +kernel
theorem d3_8 : decode prog_4_method_2_code 8 = .ok (.iaload, 1) := by decide +kernel
theorem d3_11 : decode prog_4_method_2_code 11 = .ok (.getfield 13, 3) := by decide +kernel
theorem d3_15 : decode prog_4_method_2_code 15 = .ok (.dup2, 1) := by decide +kernel
theorem d3_16 : decode prog_4_method_2_code 16 = .ok (.laload, 1) := by decide +kernel
theorem d3_19 : decode prog_4_method_2_code 19 = .ok (.lastore, 1) := by decide +kernel
theorem d3_22 : decode prog_4_method_2_code 22 = .ok (.getfield 26, 3) := by decide +kernel
theorem d3_27 : decode prog_4_method_2_code 27 = .ok (.putfield 26, 3) := by decide +kernel
theorem d3_31 : decode prog_4_method_2_code 31 = .ok (.getfield 26, 3) := by decide +kernel
theorem d3_35 : decode prog_4_method_2_code 35 = .ok (.getfield 22, 3) := by decide +kernel
theorem d3_38 : decode prog_4_method_2_code 38 = .ok (.if_icmp .ne 62, 3) := by decide +kernel
theorem d3_47 : decode prog_4_method_2_code 47 = .ok (.getfield 22, 3) := by decide +kernel
theorem d3_50 : decode prog_4_method_2_code 50 = .ok (.if_icmp .ge 40, 3) := by decide +kernel
theorem d3_54 : decode prog_4_method_2_code 54 = .ok (.getfield 13, 3) := by decide +kernel
theorem d3_58 : decode prog_4_method_2_code 58 = .ok (.getfield 18, 3) := by decide +kernel
theorem d3_62 : decode prog_4_method_2_code 62 = .ok (.iaload, 1) := by decide +kernel
theorem d3_63 : decode prog_4_method_2_code 63 = .ok (.laload, 1) := by decide +kernel
theorem d3_66 : decode prog_4_method_2_code 66 = .ok (.ifCond .le 18, 3) := by decide +kernel
theorem d3_70 : decode prog_4_method_2_code 70 = .ok (.getfield 18, 3) := by decide +kernel
theorem d3_75 : decode prog_4_method_2_code 75 = .ok (.getfield 18, 3) := by decide +kernel
theorem d3_79 : decode prog_4_method_2_code 79 = .ok (.iaload, 1) := by decide +kernel
theorem d3_80 : decode prog_4_method_2_code 80 = .ok (.iastore, 1) := by decide +kernel
theorem d3_92 : decode prog_4_method_2_code 92 = .ok (.putfield 22, 3) := by decide +kernel
theorem d3_97 : decode prog_4_method_2_code 97 = .ok (.putfield 26, 3) := by decide +kernel
theorem d3_101 : decode prog_4_method_2_code 101 = .ok (.ireturn, 1) := by decide +kernel
theorem pn3 : plainName "com/example/kubera/kubera/DealingRing" = true := by first | (simp [plainName, overriddenIn]; done) | decide +kernel
theorem ef3 (m : MethodId) (x0 : Addr) : entryFrame m #[(.ref x0)] 4 = (mkF m 0 #[rv x0, .unset, .unset, .unset] []) := by first | (simp [entryFrame, mkF, argsToLocals, Value.category]; done) | rfl
def j3_20_1 (qA : Int64) (qB : Int64) (qD : Int64) (qr0 : Int32) (qr1 : Int32) (qr2 : Int32) (qs : Int32) (qp : Int32) : Int32 := (if qp = (0 : Int32) then (if qr0 = (0 : Int32) then (0 : Int32) else (if qr0 = (1 : Int32) then (1 : Int32) else (2 : Int32))) else (if qp = (1 : Int32) then (if qr1 = (0 : Int32) then (0 : Int32) else (if qr1 = (1 : Int32) then (1 : Int32) else (2 : Int32))) else (if qr2 = (0 : Int32) then (0 : Int32) else (if qr2 = (1 : Int32) then (1 : Int32) else (2 : Int32)))))
def j3_20_e0 (qA : Int64) (qB : Int64) (qD : Int64) (qr0 : Int32) (qr1 : Int32) (qr2 : Int32) (qs : Int32) (qp : Int32) : Int32 := (if qp = (0 : Int32) then (if qr0 = (0 : Int32) then (0 : Int32) else (if qr0 = (1 : Int32) then (1 : Int32) else (2 : Int32))) else (if qp = (1 : Int32) then (if qr1 = (0 : Int32) then qr0 else (if qr1 = (1 : Int32) then qr0 else qr0)) else (if qr2 = (0 : Int32) then qr0 else (if qr2 = (1 : Int32) then qr0 else qr0))))
def j3_20_e1 (qA : Int64) (qB : Int64) (qD : Int64) (qr0 : Int32) (qr1 : Int32) (qr2 : Int32) (qs : Int32) (qp : Int32) : Int32 := (if qp = (0 : Int32) then (if qr0 = (0 : Int32) then qr1 else (if qr0 = (1 : Int32) then qr1 else qr1)) else (if qp = (1 : Int32) then (if qr1 = (0 : Int32) then (0 : Int32) else (if qr1 = (1 : Int32) then (1 : Int32) else (2 : Int32))) else (if qr2 = (0 : Int32) then qr1 else (if qr2 = (1 : Int32) then qr1 else qr1))))
def j3_20_e2 (qA : Int64) (qB : Int64) (qD : Int64) (qr0 : Int32) (qr1 : Int32) (qr2 : Int32) (qs : Int32) (qp : Int32) : Int32 := (if qp = (0 : Int32) then (if qr0 = (0 : Int32) then qr2 else (if qr0 = (1 : Int32) then qr2 else qr2)) else (if qp = (1 : Int32) then (if qr1 = (0 : Int32) then qr2 else (if qr1 = (1 : Int32) then qr2 else qr2)) else (if qr2 = (0 : Int32) then (0 : Int32) else (if qr2 = (1 : Int32) then (1 : Int32) else (2 : Int32)))))
def j3_20_e0_a (qA : Int64) (qB : Int64) (qD : Int64) (qr0 : Int32) (qr1 : Int32) (qr2 : Int32) (qs : Int32) (qp : Int32) : Int64 := (if qp = (0 : Int32) then (if qr0 = (0 : Int32) then (qA - (1 : Int64)) else (if qr0 = (1 : Int32) then qA else qA)) else (if qp = (1 : Int32) then (if qr1 = (0 : Int32) then (qA - (1 : Int64)) else (if qr1 = (1 : Int32) then qA else qA)) else (if qr2 = (0 : Int32) then (qA - (1 : Int64)) else (if qr2 = (1 : Int32) then qA else qA))))
def j3_20_e1_a (qA : Int64) (qB : Int64) (qD : Int64) (qr0 : Int32) (qr1 : Int32) (qr2 : Int32) (qs : Int32) (qp : Int32) : Int64 := (if qp = (0 : Int32) then (if qr0 = (0 : Int32) then qB else (if qr0 = (1 : Int32) then (qB - (1 : Int64)) else qB)) else (if qp = (1 : Int32) then (if qr1 = (0 : Int32) then qB else (if qr1 = (1 : Int32) then (qB - (1 : Int64)) else qB)) else (if qr2 = (0 : Int32) then qB else (if qr2 = (1 : Int32) then (qB - (1 : Int64)) else qB))))
def j3_20_e2_a (qA : Int64) (qB : Int64) (qD : Int64) (qr0 : Int32) (qr1 : Int32) (qr2 : Int32) (qs : Int32) (qp : Int32) : Int64 := (if qp = (0 : Int32) then (if qr0 = (0 : Int32) then qD else (if qr0 = (1 : Int32) then qD else (qD - (1 : Int64)))) else (if qp = (1 : Int32) then (if qr1 = (0 : Int32) then qD else (if qr1 = (1 : Int32) then qD else (qD - (1 : Int64)))) else (if qr2 = (0 : Int32) then qD else (if qr2 = (1 : Int32) then qD else (qD - (1 : Int64))))))
def j3_20_place (qA : Int64) (qB : Int64) (qD : Int64) (qr0 : Int32) (qr1 : Int32) (qr2 : Int32) (qs : Int32) (qp : Int32) : Int32 := (if qp = (0 : Int32) then (if qr0 = (0 : Int32) then (0 : Int32) else (if qr0 = (1 : Int32) then (0 : Int32) else (0 : Int32))) else (if qp = (1 : Int32) then (if qr1 = (0 : Int32) then (1 : Int32) else (if qr1 = (1 : Int32) then (1 : Int32) else (1 : Int32))) else (if qr2 = (0 : Int32) then (2 : Int32) else (if qr2 = (1 : Int32) then (2 : Int32) else (2 : Int32)))))
def j3_84_2 (qA : Int64) (qB : Int64) (qD : Int64) (qr0 : Int32) (qr1 : Int32) (qr2 : Int32) (qs : Int32) (qp : Int32) : Int32 := (if (j3_20_e0 qA qB qD qr0 qr1 qr2 qs qp) = (0 : Int32) then (if (0 : Int64) < (j3_20_e0_a qA qB qD qr0 qr1 qr2 qs qp) then (1 : Int32) else (0 : Int32)) else (if (j3_20_e0 qA qB qD qr0 qr1 qr2 qs qp) = (1 : Int32) then (if (0 : Int64) < (j3_20_e1_a qA qB qD qr0 qr1 qr2 qs qp) then (1 : Int32) else (0 : Int32)) else (if (0 : Int64) < (j3_20_e2_a qA qB qD qr0 qr1 qr2 qs qp) then (1 : Int32) else (0 : Int32))))
def j3_84_e0 (qA : Int64) (qB : Int64) (qD : Int64) (qr0 : Int32) (qr1 : Int32) (qr2 : Int32) (qs : Int32) (qp : Int32) : Int32 := (if (j3_20_e0 qA qB qD qr0 qr1 qr2 qs qp) = (0 : Int32) then (if (0 : Int64) < (j3_20_e0_a qA qB qD qr0 qr1 qr2 qs qp) then (0 : Int32) else (0 : Int32)) else (if (j3_20_e0 qA qB qD qr0 qr1 qr2 qs qp) = (1 : Int32) then (if (0 : Int64) < (j3_20_e1_a qA qB qD qr0 qr1 qr2 qs qp) then (1 : Int32) else (1 : Int32)) else (if (0 : Int64) < (j3_20_e2_a qA qB qD qr0 qr1 qr2 qs qp) then (2 : Int32) else (2 : Int32))))
def j3_84_2_a (qA : Int64) (qB : Int64) (qD : Int64) (qr0 : Int32) (qr1 : Int32) (qr2 : Int32) (qs : Int32) (qp : Int32) : Int32 := (if (j3_20_e1 qA qB qD qr0 qr1 qr2 qs qp) = (0 : Int32) then (if (0 : Int64) < (j3_20_e0_a qA qB qD qr0 qr1 qr2 qs qp) then (if (j3_84_2 qA qB qD qr0 qr1 qr2 qs qp) = (0 : Int32) then (1 : Int32) else (2 : Int32)) else (j3_84_2 qA qB qD qr0 qr1 qr2 qs qp)) else (if (j3_20_e1 qA qB qD qr0 qr1 qr2 qs qp) = (1 : Int32) then (if (0 : Int64) < (j3_20_e1_a qA qB qD qr0 qr1 qr2 qs qp) then (if (j3_84_2 qA qB qD qr0 qr1 qr2 qs qp) = (0 : Int32) then (1 : Int32) else (2 : Int32)) else (j3_84_2 qA qB qD qr0 qr1 qr2 qs qp)) else (if (0 : Int64) < (j3_20_e2_a qA qB qD qr0 qr1 qr2 qs qp) then (if (j3_84_2 qA qB qD qr0 qr1 qr2 qs qp) = (0 : Int32) then (1 : Int32) else (2 : Int32)) else (j3_84_2 qA qB qD qr0 qr1 qr2 qs qp))))
def j3_84_e0_a (qA : Int64) (qB : Int64) (qD : Int64) (qr0 : Int32) (qr1 : Int32) (qr2 : Int32) (qs : Int32) (qp : Int32) : Int32 := (if (j3_20_e1 qA qB qD qr0 qr1 qr2 qs qp) = (0 : Int32) then (if (0 : Int64) < (j3_20_e0_a qA qB qD qr0 qr1 qr2 qs qp) then (if (j3_84_2 qA qB qD qr0 qr1 qr2 qs qp) = (0 : Int32) then (0 : Int32) else (j3_84_e0 qA qB qD qr0 qr1 qr2 qs qp)) else (j3_84_e0 qA qB qD qr0 qr1 qr2 qs qp)) else (if (j3_20_e1 qA qB qD qr0 qr1 qr2 qs qp) = (1 : Int32) then (if (0 : Int64) < (j3_20_e1_a qA qB qD qr0 qr1 qr2 qs qp) then (if (j3_84_2 qA qB qD qr0 qr1 qr2 qs qp) = (0 : Int32) then (1 : Int32) else (j3_84_e0 qA qB qD qr0 qr1 qr2 qs qp)) else (j3_84_e0 qA qB qD qr0 qr1 qr2 qs qp)) else (if (0 : Int64) < (j3_20_e2_a qA qB qD qr0 qr1 qr2 qs qp) then (if (j3_84_2 qA qB qD qr0 qr1 qr2 qs qp) = (0 : Int32) then (2 : Int32) else (j3_84_e0 qA qB qD qr0 qr1 qr2 qs qp)) else (j3_84_e0 qA qB qD qr0 qr1 qr2 qs qp))))
def j3_84_e1 (qA : Int64) (qB : Int64) (qD : Int64) (qr0 : Int32) (qr1 : Int32) (qr2 : Int32) (qs : Int32) (qp : Int32) : Int32 := (if (j3_20_e1 qA qB qD qr0 qr1 qr2 qs qp) = (0 : Int32) then (if (0 : Int64) < (j3_20_e0_a qA qB qD qr0 qr1 qr2 qs qp) then (if (j3_84_2 qA qB qD qr0 qr1 qr2 qs qp) = (0 : Int32) then (0 : Int32) else (0 : Int32)) else (0 : Int32)) else (if (j3_20_e1 qA qB qD qr0 qr1 qr2 qs qp) = (1 : Int32) then (if (0 : Int64) < (j3_20_e1_a qA qB qD qr0 qr1 qr2 qs qp) then (if (j3_84_2 qA qB qD qr0 qr1 qr2 qs qp) = (0 : Int32) then (1 : Int32) else (1 : Int32)) else (1 : Int32)) else (if (0 : Int64) < (j3_20_e2_a qA qB qD qr0 qr1 qr2 qs qp) then (if (j3_84_2 qA qB qD qr0 qr1 qr2 qs qp) = (0 : Int32) then (2 : Int32) else (2 : Int32)) else (2 : Int32))))
def j3_84_2_b (qA : Int64) (qB : Int64) (qD : Int64) (qr0 : Int32) (qr1 : Int32) (qr2 : Int32) (qs : Int32) (qp : Int32) : Int32 := (if (j3_20_e2 qA qB qD qr0 qr1 qr2 qs qp) = (0 : Int32) then (if (0 : Int64) < (j3_20_e0_a qA qB qD qr0 qr1 qr2 qs qp) then (if (j3_84_2_a qA qB qD qr0 qr1 qr2 qs qp) = (0 : Int32) then (1 : Int32) else (if (j3_84_2_a qA qB qD qr0 qr1 qr2 qs qp) = (1 : Int32) then (2 : Int32) else (3 : Int32))) else (j3_84_2_a qA qB qD qr0 qr1 qr2 qs qp)) else (if (j3_20_e2 qA qB qD qr0 qr1 qr2 qs qp) = (1 : Int32) then (if (0 : Int64) < (j3_20_e1_a qA qB qD qr0 qr1 qr2 qs qp) then (if (j3_84_2_a qA qB qD qr0 qr1 qr2 qs qp) = (0 : Int32) then (1 : Int32) else (if (j3_84_2_a qA qB qD qr0 qr1 qr2 qs qp) = (1 : Int32) then (2 : Int32) else (3 : Int32))) else (j3_84_2_a qA qB qD qr0 qr1 qr2 qs qp)) else (if (0 : Int64) < (j3_20_e2_a qA qB qD qr0 qr1 qr2 qs qp) then (if (j3_84_2_a qA qB qD qr0 qr1 qr2 qs qp) = (0 : Int32) then (1 : Int32) else (if (j3_84_2_a qA qB qD qr0 qr1 qr2 qs qp) = (1 : Int32) then (2 : Int32) else (3 : Int32))) else (j3_84_2_a qA qB qD qr0 qr1 qr2 qs qp))))
def j3_84_e0_b (qA : Int64) (qB : Int64) (qD : Int64) (qr0 : Int32) (qr1 : Int32) (qr2 : Int32) (qs : Int32) (qp : Int32) : Int32 := (if (j3_20_e2 qA qB qD qr0 qr1 qr2 qs qp) = (0 : Int32) then (if (0 : Int64) < (j3_20_e0_a qA qB qD qr0 qr1 qr2 qs qp) then (if (j3_84_2_a qA qB qD qr0 qr1 qr2 qs qp) = (0 : Int32) then (0 : Int32) else (if (j3_84_2_a qA qB qD qr0 qr1 qr2 qs qp) = (1 : Int32) then (j3_84_e0_a qA qB qD qr0 qr1 qr2 qs qp) else (j3_84_e0_a qA qB qD qr0 qr1 qr2 qs qp))) else (j3_84_e0_a qA qB qD qr0 qr1 qr2 qs qp)) else (if (j3_20_e2 qA qB qD qr0 qr1 qr2 qs qp) = (1 : Int32) then (if (0 : Int64) < (j3_20_e1_a qA qB qD qr0 qr1 qr2 qs qp) then (if (j3_84_2_a qA qB qD qr0 qr1 qr2 qs qp) = (0 : Int32) then (1 : Int32) else (if (j3_84_2_a qA qB qD qr0 qr1 qr2 qs qp) = (1 : Int32) then (j3_84_e0_a qA qB qD qr0 qr1 qr2 qs qp) else (j3_84_e0_a qA qB qD qr0 qr1 qr2 qs qp))) else (j3_84_e0_a qA qB qD qr0 qr1 qr2 qs qp)) else (if (0 : Int64) < (j3_20_e2_a qA qB qD qr0 qr1 qr2 qs qp) then (if (j3_84_2_a qA qB qD qr0 qr1 qr2 qs qp) = (0 : Int32) then (2 : Int32) else (if (j3_84_2_a qA qB qD qr0 qr1 qr2 qs qp) = (1 : Int32) then (j3_84_e0_a qA qB qD qr0 qr1 qr2 qs qp) else (j3_84_e0_a qA qB qD qr0 qr1 qr2 qs qp))) else (j3_84_e0_a qA qB qD qr0 qr1 qr2 qs qp))))
def j3_84_e1_a (qA : Int64) (qB : Int64) (qD : Int64) (qr0 : Int32) (qr1 : Int32) (qr2 : Int32) (qs : Int32) (qp : Int32) : Int32 := (if (j3_20_e2 qA qB qD qr0 qr1 qr2 qs qp) = (0 : Int32) then (if (0 : Int64) < (j3_20_e0_a qA qB qD qr0 qr1 qr2 qs qp) then (if (j3_84_2_a qA qB qD qr0 qr1 qr2 qs qp) = (0 : Int32) then (j3_84_e1 qA qB qD qr0 qr1 qr2 qs qp) else (if (j3_84_2_a qA qB qD qr0 qr1 qr2 qs qp) = (1 : Int32) then (0 : Int32) else (j3_84_e1 qA qB qD qr0 qr1 qr2 qs qp))) else (j3_84_e1 qA qB qD qr0 qr1 qr2 qs qp)) else (if (j3_20_e2 qA qB qD qr0 qr1 qr2 qs qp) = (1 : Int32) then (if (0 : Int64) < (j3_20_e1_a qA qB qD qr0 qr1 qr2 qs qp) then (if (j3_84_2_a qA qB qD qr0 qr1 qr2 qs qp) = (0 : Int32) then (j3_84_e1 qA qB qD qr0 qr1 qr2 qs qp) else (if (j3_84_2_a qA qB qD qr0 qr1 qr2 qs qp) = (1 : Int32) then (1 : Int32) else (j3_84_e1 qA qB qD qr0 qr1 qr2 qs qp))) else (j3_84_e1 qA qB qD qr0 qr1 qr2 qs qp)) else (if (0 : Int64) < (j3_20_e2_a qA qB qD qr0 qr1 qr2 qs qp) then (if (j3_84_2_a qA qB qD qr0 qr1 qr2 qs qp) = (0 : Int32) then (j3_84_e1 qA qB qD qr0 qr1 qr2 qs qp) else (if (j3_84_2_a qA qB qD qr0 qr1 qr2 qs qp) = (1 : Int32) then (2 : Int32) else (j3_84_e1 qA qB qD qr0 qr1 qr2 qs qp))) else (j3_84_e1 qA qB qD qr0 qr1 qr2 qs qp))))
def j3_84_e2 (qA : Int64) (qB : Int64) (qD : Int64) (qr0 : Int32) (qr1 : Int32) (qr2 : Int32) (qs : Int32) (qp : Int32) : Int32 := (if (j3_20_e2 qA qB qD qr0 qr1 qr2 qs qp) = (0 : Int32) then (if (0 : Int64) < (j3_20_e0_a qA qB qD qr0 qr1 qr2 qs qp) then (if (j3_84_2_a qA qB qD qr0 qr1 qr2 qs qp) = (0 : Int32) then (0 : Int32) else (if (j3_84_2_a qA qB qD qr0 qr1 qr2 qs qp) = (1 : Int32) then (0 : Int32) else (0 : Int32))) else (0 : Int32)) else (if (j3_20_e2 qA qB qD qr0 qr1 qr2 qs qp) = (1 : Int32) then (if (0 : Int64) < (j3_20_e1_a qA qB qD qr0 qr1 qr2 qs qp) then (if (j3_84_2_a qA qB qD qr0 qr1 qr2 qs qp) = (0 : Int32) then (1 : Int32) else (if (j3_84_2_a qA qB qD qr0 qr1 qr2 qs qp) = (1 : Int32) then (1 : Int32) else (1 : Int32))) else (1 : Int32)) else (if (0 : Int64) < (j3_20_e2_a qA qB qD qr0 qr1 qr2 qs qp) then (if (j3_84_2_a qA qB qD qr0 qr1 qr2 qs qp) = (0 : Int32) then (2 : Int32) else (if (j3_84_2_a qA qB qD qr0 qr1 qr2 qs qp) = (1 : Int32) then (2 : Int32) else (2 : Int32))) else (2 : Int32))))
def j3_90_2 (qA : Int64) (qB : Int64) (qD : Int64) (qr0 : Int32) (qr1 : Int32) (qr2 : Int32) (qs : Int32) (qp : Int32) : Int32 := (if (0 : Int32) < qs then (if (1 : Int32) < qs then (if (2 : Int32) < qs then (j3_84_2_b qA qB qD qr0 qr1 qr2 qs qp) else (j3_84_2_a qA qB qD qr0 qr1 qr2 qs qp)) else (j3_84_2 qA qB qD qr0 qr1 qr2 qs qp)) else (0 : Int32))
def j3_90_3 (qA : Int64) (qB : Int64) (qD : Int64) (qr0 : Int32) (qr1 : Int32) (qr2 : Int32) (qs : Int32) (qp : Int32) : Int32 := (if (0 : Int32) < qs then (if (1 : Int32) < qs then (if (2 : Int32) < qs then (3 : Int32) else (2 : Int32)) else (1 : Int32)) else (0 : Int32))
def j3_90_e0 (qA : Int64) (qB : Int64) (qD : Int64) (qr0 : Int32) (qr1 : Int32) (qr2 : Int32) (qs : Int32) (qp : Int32) : Int32 := (if (0 : Int32) < qs then (if (1 : Int32) < qs then (if (2 : Int32) < qs then (j3_84_e0_b qA qB qD qr0 qr1 qr2 qs qp) else (j3_84_e0_a qA qB qD qr0 qr1 qr2 qs qp)) else (j3_84_e0 qA qB qD qr0 qr1 qr2 qs qp)) else (j3_20_e0 qA qB qD qr0 qr1 qr2 qs qp))
def j3_90_e1 (qA : Int64) (qB : Int64) (qD : Int64) (qr0 : Int32) (qr1 : Int32) (qr2 : Int32) (qs : Int32) (qp : Int32) : Int32 := (if (0 : Int32) < qs then (if (1 : Int32) < qs then (if (2 : Int32) < qs then (j3_84_e1_a qA qB qD qr0 qr1 qr2 qs qp) else (j3_84_e1 qA qB qD qr0 qr1 qr2 qs qp)) else (j3_20_e1 qA qB qD qr0 qr1 qr2 qs qp)) else (j3_20_e1 qA qB qD qr0 qr1 qr2 qs qp))
def j3_90_e2 (qA : Int64) (qB : Int64) (qD : Int64) (qr0 : Int32) (qr1 : Int32) (qr2 : Int32) (qs : Int32) (qp : Int32) : Int32 := (if (0 : Int32) < qs then (if (1 : Int32) < qs then (if (2 : Int32) < qs then (j3_84_e2 qA qB qD qr0 qr1 qr2 qs qp) else (j3_20_e2 qA qB qD qr0 qr1 qr2 qs qp)) else (j3_20_e2 qA qB qD qr0 qr1 qr2 qs qp)) else (j3_20_e2 qA qB qD qr0 qr1 qr2 qs qp))
def j3_100_2 (qA : Int64) (qB : Int64) (qD : Int64) (qr0 : Int32) (qr1 : Int32) (qr2 : Int32) (qs : Int32) (qp : Int32) : Slot := (if ((j3_20_place qA qB qD qr0 qr1 qr2 qs qp) + (1 : Int32)) = qs then (iv (j3_90_2 qA qB qD qr0 qr1 qr2 qs qp)) else (Slot.unset))
def j3_100_3 (qA : Int64) (qB : Int64) (qD : Int64) (qr0 : Int32) (qr1 : Int32) (qr2 : Int32) (qs : Int32) (qp : Int32) : Slot := (if ((j3_20_place qA qB qD qr0 qr1 qr2 qs qp) + (1 : Int32)) = qs then (iv (j3_90_3 qA qB qD qr0 qr1 qr2 qs qp)) else (Slot.unset))
def j3_100_e0 (qA : Int64) (qB : Int64) (qD : Int64) (qr0 : Int32) (qr1 : Int32) (qr2 : Int32) (qs : Int32) (qp : Int32) : Int32 := (if ((j3_20_place qA qB qD qr0 qr1 qr2 qs qp) + (1 : Int32)) = qs then (j3_90_e0 qA qB qD qr0 qr1 qr2 qs qp) else (j3_20_e0 qA qB qD qr0 qr1 qr2 qs qp))
def j3_100_e1 (qA : Int64) (qB : Int64) (qD : Int64) (qr0 : Int32) (qr1 : Int32) (qr2 : Int32) (qs : Int32) (qp : Int32) : Int32 := (if ((j3_20_place qA qB qD qr0 qr1 qr2 qs qp) + (1 : Int32)) = qs then (j3_90_e1 qA qB qD qr0 qr1 qr2 qs qp) else (j3_20_e1 qA qB qD qr0 qr1 qr2 qs qp))
def j3_100_e2 (qA : Int64) (qB : Int64) (qD : Int64) (qr0 : Int32) (qr1 : Int32) (qr2 : Int32) (qs : Int32) (qp : Int32) : Int32 := (if ((j3_20_place qA qB qD qr0 qr1 qr2 qs qp) + (1 : Int32)) = qs then (j3_90_e2 qA qB qD qr0 qr1 qr2 qs qp) else (j3_20_e2 qA qB qD qr0 qr1 qr2 qs qp))
def j3_100_size (qA : Int64) (qB : Int64) (qD : Int64) (qr0 : Int32) (qr1 : Int32) (qr2 : Int32) (qs : Int32) (qp : Int32) : Int32 := (if ((j3_20_place qA qB qD qr0 qr1 qr2 qs qp) + (1 : Int32)) = qs then (j3_90_2 qA qB qD qr0 qr1 qr2 qs qp) else qs)
def j3_100_place (qA : Int64) (qB : Int64) (qD : Int64) (qr0 : Int32) (qr1 : Int32) (qr2 : Int32) (qs : Int32) (qp : Int32) : Int32 := (if ((j3_20_place qA qB qD qr0 qr1 qr2 qs qp) + (1 : Int32)) = qs then (0 : Int32) else ((j3_20_place qA qB qD qr0 qr1 qr2 qs qp) + (1 : Int32)))
def Q3 (Z : State) (x0 : Addr) (w : Addr) (r : Addr) (kw : ClassId) (kr : ClassId) (qA : Int64) (qB : Int64) (qD : Int64) (qr0 : Int32) (qr1 : Int32) (qr2 : Int32) (qs : Int32) (qp : Int32) (h0 : Heap) (n0 : Nat) (v : Option Value) (h : Heap) (L : List Loc) : Prop := v = some (.int (j3_20_1 qA qB qD qr0 qr1 qr2 qs qp)) ∧ Fr n0 L ∧ Keep h0 h [x0, w, r] ∧ Fld Z h x0 "com/example/kubera/kubera/DealingRing" "wanted" "[J" (.ref w) ∧ Fld Z h x0 "com/example/kubera/kubera/DealingRing" "ring" "[I" (.ref r) ∧ Fld Z h x0 "com/example/kubera/kubera/DealingRing" "size" "I" (.int (j3_100_size qA qB qD qr0 qr1 qr2 qs qp)) ∧ Fld Z h x0 "com/example/kubera/kubera/DealingRing" "place" "I" (.int (j3_100_place qA qB qD qr0 qr1 qr2 qs qp)) ∧ Arv Z h w kw .long (3 : Int32) [(.long (j3_20_e0_a qA qB qD qr0 qr1 qr2 qs qp)), (.long (j3_20_e1_a qA qB qD qr0 qr1 qr2 qs qp)), (.long (j3_20_e2_a qA qB qD qr0 qr1 qr2 qs qp))] (.long (0 : Int64)) ∧ Arv Z h r kr .int (3 : Int32) [(.int (j3_100_e0 qA qB qD qr0 qr1 qr2 qs qp)), (.int (j3_100_e1 qA qB qD qr0 qr1 qr2 qs qp)), (.int (j3_100_e2 qA qB qD qr0 qr1 qr2 qs qp))] (.int (0 : Int32))
theorem own_rr0 (qA qB qD : Int64) (qr0 qr1 qr2 qs qp : Int32) (hR0 : qr0 = 0 ∨ qr0 = 1 ∨ qr0 = 2) (hR1 : qr1 = 0 ∨ qr1 = 1 ∨ qr1 = 2) (hR2 : qr2 = 0 ∨ qr2 = 1 ∨ qr2 = 2) : j3_20_e0 qA qB qD qr0 qr1 qr2 qs qp = 0 ∨ j3_20_e0 qA qB qD qr0 qr1 qr2 qs qp = 1 ∨ j3_20_e0 qA qB qD qr0 qr1 qr2 qs qp = 2 := by
  unfold j3_20_e0
  repeat' split
  all_goals first | decide | assumption
theorem own_rr1 (qA qB qD : Int64) (qr0 qr1 qr2 qs qp : Int32) (hR0 : qr0 = 0 ∨ qr0 = 1 ∨ qr0 = 2) (hR1 : qr1 = 0 ∨ qr1 = 1 ∨ qr1 = 2) (hR2 : qr2 = 0 ∨ qr2 = 1 ∨ qr2 = 2) : j3_20_e1 qA qB qD qr0 qr1 qr2 qs qp = 0 ∨ j3_20_e1 qA qB qD qr0 qr1 qr2 qs qp = 1 ∨ j3_20_e1 qA qB qD qr0 qr1 qr2 qs qp = 2 := by
  unfold j3_20_e1
  repeat' split
  all_goals first | decide | assumption
theorem own_rr2 (qA qB qD : Int64) (qr0 qr1 qr2 qs qp : Int32) (hR0 : qr0 = 0 ∨ qr0 = 1 ∨ qr0 = 2) (hR1 : qr1 = 0 ∨ qr1 = 1 ∨ qr1 = 2) (hR2 : qr2 = 0 ∨ qr2 = 1 ∨ qr2 = 2) : j3_20_e2 qA qB qD qr0 qr1 qr2 qs qp = 0 ∨ j3_20_e2 qA qB qD qr0 qr1 qr2 qs qp = 1 ∨ j3_20_e2 qA qB qD qr0 qr1 qr2 qs qp = 2 := by
  unfold j3_20_e2
  repeat' split
  all_goals first | decide | assumption
theorem own_k1 (qA qB qD : Int64) (qr0 qr1 qr2 qs qp : Int32) : j3_84_2 qA qB qD qr0 qr1 qr2 qs qp = 0 ∨ j3_84_2 qA qB qD qr0 qr1 qr2 qs qp = 1 := by
  unfold j3_84_2
  repeat' split
  all_goals decide
theorem own_k2 (qA qB qD : Int64) (qr0 qr1 qr2 qs qp : Int32) : j3_84_2_a qA qB qD qr0 qr1 qr2 qs qp = 0 ∨ j3_84_2_a qA qB qD qr0 qr1 qr2 qs qp = 1 ∨ j3_84_2_a qA qB qD qr0 qr1 qr2 qs qp = 2 := by
  have h := own_k1 qA qB qD qr0 qr1 qr2 qs qp
  unfold j3_84_2_a
  generalize j3_84_2 qA qB qD qr0 qr1 qr2 qs qp = k at *
  rcases h with rfl | rfl <;> repeat' split
  all_goals first | decide | simp_all
set_option maxRecDepth 65536 in
set_option maxHeartbeats 40000000 in
theorem rm3 (l : Launch) (Z : State) (a0 : Array Value) (hw : ∀ d ∈ tables_1, d.before a0 Z = true) (ws : List Jvm.Cond) (x0 : Addr) (w : Addr) (r : Addr) (kw : ClassId) (kr : ClassId) (qA : Int64) (qB : Int64) (qD : Int64) (qr0 : Int32) (qr1 : Int32) (qr2 : Int32) (qs : Int32) (qp : Int32) (h0 : Heap) (n0 : Nat) (Z0 : n0 ≤ h0.size) (E_x0 : Exa Z h0 x0 "com/example/kubera/kubera/DealingRing") (F_wanted_x0 : Fld Z h0 x0 "com/example/kubera/kubera/DealingRing" "wanted" "[J" (.ref w)) (F_ring_x0 : Fld Z h0 x0 "com/example/kubera/kubera/DealingRing" "ring" "[I" (.ref r)) (F_size_x0 : Fld Z h0 x0 "com/example/kubera/kubera/DealingRing" "size" "I" (.int qs)) (F_place_x0 : Fld Z h0 x0 "com/example/kubera/kubera/DealingRing" "place" "I" (.int qp)) (V_w : Arv Z h0 w kw .long (3 : Int32) [(.long qA), (.long qB), (.long qD)] (.long (0 : Int64))) (V_r : Arv Z h0 r kr .int (3 : Int32) [(.int qr0), (.int qr1), (.int qr2)] (.int (0 : Int32))) (g_x0 : n0 ≤ x0) (g_w : n0 ≤ w) (g_r : n0 ≤ r) (nxw : x0 ≠ w) (nxr : x0 ≠ r) (nwr : w ≠ r) (hP : qp = 0 ∨ qp = 1 ∨ qp = 2) (hR0 : qr0 = 0 ∨ qr0 = 1 ∨ qr0 = 2) (hR1 : qr1 = 0 ∨ qr1 = 1 ∨ qr1 = 2) (hR2 : qr2 = 0 ∨ qr2 = 1 ∨ qr2 = 2) (hS : ¬ (3 : Int32) < qs) :
    MetFree l ym2 (head1 (Jvm.Cond.code ym2 prog_4_method_2_code 4 (some .int) :: ws) ({ frames := 0, cells := 0, slots := 0, locals := 0 } : Room)) (fun a U => a = #[(.ref x0)] ∧ Z.Warmed39 U.vm ∧ U.heap = h0) (fun _ _ _ _ _ => True) (fun _ U o U' => ∃ v L, o = .returned v ∧ (Q3 Z x0 w r kw kr qA qB qD qr0 qr1 qr2 qs qp h0 n0) v U'.heap L ∧ FrameEnd U o U' L ({ frames := 0, cells := 0, slots := 0, locals := 0 } : Room).cells ({ frames := 0, cells := 0, slots := 0, locals := 0 } : Room).slots) := by
  refine MetFree.of_bodySF (plainFor_of_name pn3) hisR ?_
  intro p e s m args below meth c s₁ Bd hml0 hP hK
  obtain ⟨rfl, hZ, hh⟩ := hP
  have hx := Bd.exec
  have hby := Bd.bytes
  have hml : c.maxLocals = 4 := hml0
  have hlk : meth.locks = false := BodyLoose.notSynchronized Bd
  have hown : s.vm.findClass "com/example/kubera/kubera/DealingRing" = some m.cls := findClass_of_methodNamed Bd.named
  have hnm := (name_of_methodNamed Bd.named Bd.method).1
  have w_10 := hw _ (List.mem_of_getElem? (i := 10) rfl)
  have w_27 := hw _ (List.mem_of_getElem? (i := 27) rfl)
  have w_28 := hw _ (List.mem_of_getElem? (i := 28) rfl)
  have w_29 := hw _ (List.mem_of_getElem? (i := 29) rfl)
  have w_30 := hw _ (List.mem_of_getElem? (i := 30) rfl)
  have w_31 := hw _ (List.mem_of_getElem? (i := 31) rfl)
  have w_32 := hw _ (List.mem_of_getElem? (i := 32) rfl)
  have w_38 := hw _ (List.mem_of_getElem? (i := 38) rfl)
  have w_39 := hw _ (List.mem_of_getElem? (i := 39) rfl)
  have hci : ∀ i v, (i, v) ∈ ([] : List (Nat × Int32)) → (Jvm.Cond.constant "com/example/kubera/kubera/DealingRing" i v).before #[(.ref x0)] s = true := own_ci0
  have hcl : ∀ i v, (i, v) ∈ ([] : List (Nat × Int64)) → (Jvm.Cond.constantLong "com/example/kubera/kubera/DealingRing" i v).before #[(.ref x0)] s = true := own_ci0
  have X0 : Stand p l e ({ frames := 0, cells := 0, slots := 0, locals := 0 } : Room) s m #[(.ref x0)] below meth c s₁ [] 0 0 := Stand.of_body Bd
  have e0 : s₁.heap = h0 := by rw [← hh, Bd.state]; rfl
  have N0 := Fr.nil n0
  show Goes p e below s (Q3 Z x0 w r kw kr qA qB qD qr0 qr1 qr2 qs qp h0 n0) ({ frames := 0, cells := 0, slots := 0, locals := 0 } : Room).cells ({ frames := 0, cells := 0, slots := 0, locals := 0 } : Room).slots (s₁.setTop (entryFrame m #[(.ref x0)] 4))
  refine Goes.cast (ef3 m x0) ?_
  have K0 : Keep h0 h0 [x0, w, r] := Keep.refl h0 _
  refine Goes.run X0 hx hown hci hcl hby (L := [(0, .aload_n 0, 1)]) (by decide +kernel) rfl (g' := (mkF m 1 #[rv x0, .unset, .unset, .unset] [(.ref x0)])) rfl ?_
  obtain ⟨T1, X1, e1, st1⟩ := getF X0 hx hZ hown (host := "") (Or.inl w_29) Via.refl e0 F_ring_x0 (g := (mkF m 1 #[rv x0, .unset, .unset, .unset] [(.ref x0)])) rfl rfl (hb hby d3_1)
  refine Goes.st (B := T1.setTop (mkF m 4 #[rv x0, .unset, .unset, .unset] [(.ref r)])) st1 ?_
  refine Goes.run X1 hx hown hci hcl hby (L := [(4, .aload_n 0, 1)]) (by decide +kernel) rfl (g' := (mkF m 5 #[rv x0, .unset, .unset, .unset] [(.ref x0), (.ref r)])) rfl ?_
  obtain ⟨T2, X2, e2, st2⟩ := getF X1 hx hZ hown (host := "") (Or.inl w_38) Via.refl e1 F_place_x0 (g := (mkF m 5 #[rv x0, .unset, .unset, .unset] [(.ref x0), (.ref r)])) rfl rfl (hb hby d3_5)
  refine Goes.st (B := T2.setTop (mkF m 8 #[rv x0, .unset, .unset, .unset] [(.int qp), (.ref r)])) st2 ?_
  have jn20_40 : ∀ (T39 : State) (L39 : List Loc) (h39 : Heap) (X39 : Stand p l e ({ frames := 0, cells := 0, slots := 0, locals := 0 } : Room) s m #[(.ref x0)] below meth c T39 L39 0 0) (e39 : T39.heap = h39) (N39 : Fr n0 L39) (Zn39 : n0 ≤ h39.size) (K39 : Keep h0 h39 [x0, w, r]) (V_r : Arv Z h39 r kr .int (3 : Int32) [(.int (j3_20_e0 qA qB qD qr0 qr1 qr2 qs qp)), (.int (j3_20_e1 qA qB qD qr0 qr1 qr2 qs qp)), (.int (j3_20_e2 qA qB qD qr0 qr1 qr2 qs qp))] (.int (0 : Int32))) (V_w : Arv Z h39 w kw .long (3 : Int32) [(.long (j3_20_e0_a qA qB qD qr0 qr1 qr2 qs qp)), (.long (j3_20_e1_a qA qB qD qr0 qr1 qr2 qs qp)), (.long (j3_20_e2_a qA qB qD qr0 qr1 qr2 qs qp))] (.long (0 : Int64))) (E_x0 : Exa Z h39 x0 "com/example/kubera/kubera/DealingRing") (F_wanted_x0 : Fld Z h39 x0 "com/example/kubera/kubera/DealingRing" "wanted" "[J" (.ref w)) (F_ring_x0 : Fld Z h39 x0 "com/example/kubera/kubera/DealingRing" "ring" "[I" (.ref r)) (F_size_x0 : Fld Z h39 x0 "com/example/kubera/kubera/DealingRing" "size" "I" (.int qs)) (F_place_x0 : Fld Z h39 x0 "com/example/kubera/kubera/DealingRing" "place" "I" (.int (j3_20_place qA qB qD qr0 qr1 qr2 qs qp))), Goes p e below s (Q3 Z x0 w r kw kr qA qB qD qr0 qr1 qr2 qs qp h0 n0) ({ frames := 0, cells := 0, slots := 0, locals := 0 } : Room).cells ({ frames := 0, cells := 0, slots := 0, locals := 0 } : Room).slots (T39.setTop (mkF m 20 #[rv x0, iv (j3_20_1 qA qB qD qr0 qr1 qr2 qs qp), .unset, .unset] [])) := by
    intro T39 L39 h39 X39 e39 N39 Zn39 K39 V_r V_w E_x0 F_wanted_x0 F_ring_x0 F_size_x0 F_place_x0
    refine Goes.run X39 hx hown hci hcl hby (L := [(20, .aload_n 0, 1), (21, .dup, 1)]) (by decide +kernel) rfl (g' := (mkF m 22 #[rv x0, iv (j3_20_1 qA qB qD qr0 qr1 qr2 qs qp), .unset, .unset] [(.ref x0), (.ref x0)])) rfl ?_
    obtain ⟨T41, X41, e41, st41⟩ := getF X39 hx hZ hown (host := "") (Or.inl w_38) Via.refl e39 F_place_x0 (g := (mkF m 22 #[rv x0, iv (j3_20_1 qA qB qD qr0 qr1 qr2 qs qp), .unset, .unset] [(.ref x0), (.ref x0)])) rfl rfl (hb hby d3_22)
    refine Goes.st (B := T41.setTop (mkF m 25 #[rv x0, iv (j3_20_1 qA qB qD qr0 qr1 qr2 qs qp), .unset, .unset] [(.int (j3_20_place qA qB qD qr0 qr1 qr2 qs qp)), (.ref x0)])) st41 ?_
    refine Goes.run X41 hx hown hci hcl hby (L := [(25, .iconst 1, 1), (26, .iadd, 1)]) (by decide +kernel) rfl (g' := (mkF m 27 #[rv x0, iv (j3_20_1 qA qB qD qr0 qr1 qr2 qs qp), .unset, .unset] [(.int ((j3_20_place qA qB qD qr0 qr1 qr2 qs qp) + (1 : Int32))), (.ref x0)])) rfl ?_
    obtain ⟨T42, h42, X42, e42, W42, st42⟩ := putF X41 hx hZ hown (host := "") (Or.inl w_38) Via.refl e41 F_place_x0 E_x0 (Or.inl w_39) w_10 (ty := .int) (by decide) rfl rfl (g := (mkF m 27 #[rv x0, iv (j3_20_1 qA qB qD qr0 qr1 qr2 qs qp), .unset, .unset] [(.int ((j3_20_place qA qB qD qr0 qr1 qr2 qs qp) + (1 : Int32))), (.ref x0)])) rfl rfl (hb hby d3_27)
    have V_r := V_r.other W42 (Ne.symm nxr)
    have V_w := V_w.other W42 (Ne.symm nxw)
    have E_x0 := E_x0.wr W42
    have F_wanted_x0 := F_wanted_x0.other W42 (Or.inr (slot_ne (Or.inr w_28) (Or.inl w_39) (by decide) (t := (.array .long)) (t' := .int) (by decide) (by decide)))
    have F_ring_x0 := F_ring_x0.other W42 (Or.inr (slot_ne (Or.inr w_30) (Or.inl w_39) (by decide) (t := (.array .int)) (t' := .int) (by decide) (by decide)))
    have F_size_x0 := F_size_x0.other W42 (Or.inr (slot_ne (Or.inl w_32) (Or.inl w_39) (by decide) (t := .int) (t' := .int) (by decide) (by decide)))
    have F_place_x0 : Fld Z h42 x0 "com/example/kubera/kubera/DealingRing" "place" "I" (.int ((j3_20_place qA qB qD qr0 qr1 qr2 qs qp) + (1 : Int32))) := F_place_x0.same W42
    have Zn42 : n0 ≤ h42.size := Nat.le_trans Zn39 (Keep.of_wr W42).1
    have K42 := K39.wr W42 (Or.inl (List.mem_of_getElem? (i := 0) rfl))
    have N42 := Fr.snoc X42 N39 g_x0
    refine Goes.st (B := T42.setTop (mkF m 30 #[rv x0, iv (j3_20_1 qA qB qD qr0 qr1 qr2 qs qp), .unset, .unset] [])) st42 ?_
    refine Goes.run X42 hx hown hci hcl hby (L := [(30, .aload_n 0, 1)]) (by decide +kernel) rfl (g' := (mkF m 31 #[rv x0, iv (j3_20_1 qA qB qD qr0 qr1 qr2 qs qp), .unset, .unset] [(.ref x0)])) rfl ?_
    obtain ⟨T43, X43, e43, st43⟩ := getF X42 hx hZ hown (host := "") (Or.inl w_38) Via.refl e42 F_place_x0 (g := (mkF m 31 #[rv x0, iv (j3_20_1 qA qB qD qr0 qr1 qr2 qs qp), .unset, .unset] [(.ref x0)])) rfl rfl (hb hby d3_31)
    refine Goes.st (B := T43.setTop (mkF m 34 #[rv x0, iv (j3_20_1 qA qB qD qr0 qr1 qr2 qs qp), .unset, .unset] [(.int ((j3_20_place qA qB qD qr0 qr1 qr2 qs qp) + (1 : Int32)))])) st43 ?_
    refine Goes.run X43 hx hown hci hcl hby (L := [(34, .aload_n 0, 1)]) (by decide +kernel) rfl (g' := (mkF m 35 #[rv x0, iv (j3_20_1 qA qB qD qr0 qr1 qr2 qs qp), .unset, .unset] [(.ref x0), (.int ((j3_20_place qA qB qD qr0 qr1 qr2 qs qp) + (1 : Int32)))])) rfl ?_
    obtain ⟨T44, X44, e44, st44⟩ := getF X43 hx hZ hown (host := "") (Or.inl w_31) Via.refl e43 F_size_x0 (g := (mkF m 35 #[rv x0, iv (j3_20_1 qA qB qD qr0 qr1 qr2 qs qp), .unset, .unset] [(.ref x0), (.int ((j3_20_place qA qB qD qr0 qr1 qr2 qs qp) + (1 : Int32)))])) rfl rfl (hb hby d3_35)
    refine Goes.st (B := T44.setTop (mkF m 38 #[rv x0, iv (j3_20_1 qA qB qD qr0 qr1 qr2 qs qp), .unset, .unset] [(.int qs), (.int ((j3_20_place qA qB qD qr0 qr1 qr2 qs qp) + (1 : Int32)))])) st44 ?_
    have jn100_443 : ∀ (T442 : State) (L442 : List Loc) (h442 : Heap) (X442 : Stand p l e ({ frames := 0, cells := 0, slots := 0, locals := 0 } : Room) s m #[(.ref x0)] below meth c T442 L442 0 0) (e442 : T442.heap = h442) (N442 : Fr n0 L442) (Zn442 : n0 ≤ h442.size) (K442 : Keep h0 h442 [x0, w, r]) (V_r : Arv Z h442 r kr .int (3 : Int32) [(.int (j3_100_e0 qA qB qD qr0 qr1 qr2 qs qp)), (.int (j3_100_e1 qA qB qD qr0 qr1 qr2 qs qp)), (.int (j3_100_e2 qA qB qD qr0 qr1 qr2 qs qp))] (.int (0 : Int32))) (V_w : Arv Z h442 w kw .long (3 : Int32) [(.long (j3_20_e0_a qA qB qD qr0 qr1 qr2 qs qp)), (.long (j3_20_e1_a qA qB qD qr0 qr1 qr2 qs qp)), (.long (j3_20_e2_a qA qB qD qr0 qr1 qr2 qs qp))] (.long (0 : Int64))) (E_x0 : Exa Z h442 x0 "com/example/kubera/kubera/DealingRing") (F_wanted_x0 : Fld Z h442 x0 "com/example/kubera/kubera/DealingRing" "wanted" "[J" (.ref w)) (F_ring_x0 : Fld Z h442 x0 "com/example/kubera/kubera/DealingRing" "ring" "[I" (.ref r)) (F_size_x0 : Fld Z h442 x0 "com/example/kubera/kubera/DealingRing" "size" "I" (.int (j3_100_size qA qB qD qr0 qr1 qr2 qs qp))) (F_place_x0 : Fld Z h442 x0 "com/example/kubera/kubera/DealingRing" "place" "I" (.int (j3_100_place qA qB qD qr0 qr1 qr2 qs qp))), Goes p e below s (Q3 Z x0 w r kw kr qA qB qD qr0 qr1 qr2 qs qp h0 n0) ({ frames := 0, cells := 0, slots := 0, locals := 0 } : Room).cells ({ frames := 0, cells := 0, slots := 0, locals := 0 } : Room).slots (T442.setTop (mkF m 100 #[rv x0, iv (j3_20_1 qA qB qD qr0 qr1 qr2 qs qp), (j3_100_2 qA qB qD qr0 qr1 qr2 qs qp), (j3_100_3 qA qB qD qr0 qr1 qr2 qs qp)] [])) := by
      intro T442 L442 h442 X442 e442 N442 Zn442 K442 V_r V_w E_x0 F_wanted_x0 F_ring_x0 F_size_x0 F_place_x0
      refine Goes.run X442 hx hown hci hcl hby (L := [(100, .iload_n 1, 1)]) (by decide +kernel) rfl (g' := (mkF m 101 #[rv x0, iv (j3_20_1 qA qB qD qr0 qr1 qr2 qs qp), (j3_100_2 qA qB qD qr0 qr1 qr2 qs qp), (j3_100_3 qA qB qD qr0 qr1 qr2 qs qp)] [(.int (j3_20_1 qA qB qD qr0 qr1 qr2 qs qp))])) rfl ?_
      refine Goes.retI X442 hx hlk Bd.returns (hb hby d3_101) ?_ (by decide) (by decide)
      show (Q3 Z x0 w r kw kr qA qB qD qr0 qr1 qr2 qs qp h0 n0) _ _ _
      rw [e442]
      exact ⟨rfl, N442, K442, F_wanted_x0, F_ring_x0, F_size_x0, F_place_x0, V_w, V_r⟩
    by_cases hc38_45 : ((j3_20_place qA qB qD qr0 qr1 qr2 qs qp) + (1 : Int32)) = qs
    · skip
      refine Goes.st (B := T44.setTop (mkF m 41 #[rv x0, iv (j3_20_1 qA qB qD qr0 qr1 qr2 qs qp), .unset, .unset] [])) (fun t k => ?_) ?_
      · refine XS.icmpNo X44.here hx rfl (hb hby d3_38) rfl (teq hc38_45).2 ?_
        exact k
      refine Goes.run X44 hx hown hci hcl hby (L := [(41, .iconst 0, 1), (42, .istore_n 2, 1), (43, .iconst 0, 1), (44, .istore_n 3, 1), (45, .iload_n 3, 1), (46, .aload_n 0, 1)]) (by decide +kernel) rfl (g' := (mkF m 47 #[rv x0, iv (j3_20_1 qA qB qD qr0 qr1 qr2 qs qp), iv (0 : Int32), iv (0 : Int32)] [(.ref x0), (.int (0 : Int32))])) rfl ?_
      obtain ⟨T444, X444, e444, st444⟩ := getF X44 hx hZ hown (host := "") (Or.inl w_31) Via.refl e44 F_size_x0 (g := (mkF m 47 #[rv x0, iv (j3_20_1 qA qB qD qr0 qr1 qr2 qs qp), iv (0 : Int32), iv (0 : Int32)] [(.ref x0), (.int (0 : Int32))])) rfl rfl (hb hby d3_47)
      refine Goes.st (B := T444.setTop (mkF m 50 #[rv x0, iv (j3_20_1 qA qB qD qr0 qr1 qr2 qs qp), iv (0 : Int32), iv (0 : Int32)] [(.int qs), (.int (0 : Int32))])) st444 ?_
      have jn90_642 : ∀ (T641 : State) (L641 : List Loc) (h641 : Heap) (X641 : Stand p l e ({ frames := 0, cells := 0, slots := 0, locals := 0 } : Room) s m #[(.ref x0)] below meth c T641 L641 0 0) (e641 : T641.heap = h641) (N641 : Fr n0 L641) (Zn641 : n0 ≤ h641.size) (K641 : Keep h0 h641 [x0, w, r]) (V_r : Arv Z h641 r kr .int (3 : Int32) [(.int (j3_90_e0 qA qB qD qr0 qr1 qr2 qs qp)), (.int (j3_90_e1 qA qB qD qr0 qr1 qr2 qs qp)), (.int (j3_90_e2 qA qB qD qr0 qr1 qr2 qs qp))] (.int (0 : Int32))) (V_w : Arv Z h641 w kw .long (3 : Int32) [(.long (j3_20_e0_a qA qB qD qr0 qr1 qr2 qs qp)), (.long (j3_20_e1_a qA qB qD qr0 qr1 qr2 qs qp)), (.long (j3_20_e2_a qA qB qD qr0 qr1 qr2 qs qp))] (.long (0 : Int64))) (E_x0 : Exa Z h641 x0 "com/example/kubera/kubera/DealingRing") (F_wanted_x0 : Fld Z h641 x0 "com/example/kubera/kubera/DealingRing" "wanted" "[J" (.ref w)) (F_ring_x0 : Fld Z h641 x0 "com/example/kubera/kubera/DealingRing" "ring" "[I" (.ref r)) (F_size_x0 : Fld Z h641 x0 "com/example/kubera/kubera/DealingRing" "size" "I" (.int qs)) (F_place_x0 : Fld Z h641 x0 "com/example/kubera/kubera/DealingRing" "place" "I" (.int ((j3_20_place qA qB qD qr0 qr1 qr2 qs qp) + (1 : Int32)))), Goes p e below s (Q3 Z x0 w r kw kr qA qB qD qr0 qr1 qr2 qs qp h0 n0) ({ frames := 0, cells := 0, slots := 0, locals := 0 } : Room).cells ({ frames := 0, cells := 0, slots := 0, locals := 0 } : Room).slots (T641.setTop (mkF m 90 #[rv x0, iv (j3_20_1 qA qB qD qr0 qr1 qr2 qs qp), iv (j3_90_2 qA qB qD qr0 qr1 qr2 qs qp), iv (j3_90_3 qA qB qD qr0 qr1 qr2 qs qp)] [])) := by
        intro T641 L641 h641 X641 e641 N641 Zn641 K641 V_r V_w E_x0 F_wanted_x0 F_ring_x0 F_size_x0 F_place_x0
        refine Goes.run X641 hx hown hci hcl hby (L := [(90, .aload_n 0, 1), (91, .iload_n 2, 1)]) (by decide +kernel) rfl (g' := (mkF m 92 #[rv x0, iv (j3_20_1 qA qB qD qr0 qr1 qr2 qs qp), iv (j3_90_2 qA qB qD qr0 qr1 qr2 qs qp), iv (j3_90_3 qA qB qD qr0 qr1 qr2 qs qp)] [(.int (j3_90_2 qA qB qD qr0 qr1 qr2 qs qp)), (.ref x0)])) rfl ?_
        obtain ⟨T643, h643, X643, e643, W643, st643⟩ := putF X641 hx hZ hown (host := "") (Or.inl w_31) Via.refl e641 F_size_x0 E_x0 (Or.inl w_32) w_10 (ty := .int) (by decide) rfl rfl (g := (mkF m 92 #[rv x0, iv (j3_20_1 qA qB qD qr0 qr1 qr2 qs qp), iv (j3_90_2 qA qB qD qr0 qr1 qr2 qs qp), iv (j3_90_3 qA qB qD qr0 qr1 qr2 qs qp)] [(.int (j3_90_2 qA qB qD qr0 qr1 qr2 qs qp)), (.ref x0)])) rfl rfl (hb hby d3_92)
        have V_r := V_r.other W643 (Ne.symm nxr)
        have V_w := V_w.other W643 (Ne.symm nxw)
        have E_x0 := E_x0.wr W643
        have F_wanted_x0 := F_wanted_x0.other W643 (Or.inr (slot_ne (Or.inr w_28) (Or.inl w_32) (by decide) (t := (.array .long)) (t' := .int) (by decide) (by decide)))
        have F_ring_x0 := F_ring_x0.other W643 (Or.inr (slot_ne (Or.inr w_30) (Or.inl w_32) (by decide) (t := (.array .int)) (t' := .int) (by decide) (by decide)))
        have F_size_x0 : Fld Z h643 x0 "com/example/kubera/kubera/DealingRing" "size" "I" (.int (j3_90_2 qA qB qD qr0 qr1 qr2 qs qp)) := F_size_x0.same W643
        have F_place_x0 := F_place_x0.other W643 (Or.inr (slot_ne (Or.inl w_39) (Or.inl w_32) (by decide) (t := .int) (t' := .int) (by decide) (by decide)))
        have Zn643 : n0 ≤ h643.size := Nat.le_trans Zn641 (Keep.of_wr W643).1
        have K643 := K641.wr W643 (Or.inl (List.mem_of_getElem? (i := 0) rfl))
        have N643 := Fr.snoc X643 N641 g_x0
        refine Goes.st (B := T643.setTop (mkF m 95 #[rv x0, iv (j3_20_1 qA qB qD qr0 qr1 qr2 qs qp), iv (j3_90_2 qA qB qD qr0 qr1 qr2 qs qp), iv (j3_90_3 qA qB qD qr0 qr1 qr2 qs qp)] [])) st643 ?_
        refine Goes.run X643 hx hown hci hcl hby (L := [(95, .aload_n 0, 1), (96, .iconst 0, 1)]) (by decide +kernel) rfl (g' := (mkF m 97 #[rv x0, iv (j3_20_1 qA qB qD qr0 qr1 qr2 qs qp), iv (j3_90_2 qA qB qD qr0 qr1 qr2 qs qp), iv (j3_90_3 qA qB qD qr0 qr1 qr2 qs qp)] [(.int (0 : Int32)), (.ref x0)])) rfl ?_
        obtain ⟨T644, h644, X644, e644, W644, st644⟩ := putF X643 hx hZ hown (host := "") (Or.inl w_38) Via.refl e643 F_place_x0 E_x0 (Or.inl w_39) w_10 (ty := .int) (by decide) rfl rfl (g := (mkF m 97 #[rv x0, iv (j3_20_1 qA qB qD qr0 qr1 qr2 qs qp), iv (j3_90_2 qA qB qD qr0 qr1 qr2 qs qp), iv (j3_90_3 qA qB qD qr0 qr1 qr2 qs qp)] [(.int (0 : Int32)), (.ref x0)])) rfl rfl (hb hby d3_97)
        have V_r := V_r.other W644 (Ne.symm nxr)
        have V_w := V_w.other W644 (Ne.symm nxw)
        have E_x0 := E_x0.wr W644
        have F_wanted_x0 := F_wanted_x0.other W644 (Or.inr (slot_ne (Or.inr w_28) (Or.inl w_39) (by decide) (t := (.array .long)) (t' := .int) (by decide) (by decide)))
        have F_ring_x0 := F_ring_x0.other W644 (Or.inr (slot_ne (Or.inr w_30) (Or.inl w_39) (by decide) (t := (.array .int)) (t' := .int) (by decide) (by decide)))
        have F_size_x0 := F_size_x0.other W644 (Or.inr (slot_ne (Or.inl w_32) (Or.inl w_39) (by decide) (t := .int) (t' := .int) (by decide) (by decide)))
        have F_place_x0 : Fld Z h644 x0 "com/example/kubera/kubera/DealingRing" "place" "I" (.int (0 : Int32)) := F_place_x0.same W644
        have Zn644 : n0 ≤ h644.size := Nat.le_trans Zn643 (Keep.of_wr W644).1
        have K644 := K643.wr W644 (Or.inl (List.mem_of_getElem? (i := 0) rfl))
        have N644 := Fr.snoc X644 N643 g_x0
        refine Goes.st (B := T644.setTop (mkF m 100 #[rv x0, iv (j3_20_1 qA qB qD qr0 qr1 qr2 qs qp), iv (j3_90_2 qA qB qD qr0 qr1 qr2 qs qp), iv (j3_90_3 qA qB qD qr0 qr1 qr2 qs qp)] [])) st644 ?_
        have q := jn100_443
        rw [show (j3_100_2 qA qB qD qr0 qr1 qr2 qs qp) = (iv (j3_90_2 qA qB qD qr0 qr1 qr2 qs qp)) from (if_pos hc38_45), show (j3_100_3 qA qB qD qr0 qr1 qr2 qs qp) = (iv (j3_90_3 qA qB qD qr0 qr1 qr2 qs qp)) from (if_pos hc38_45), show (j3_100_e0 qA qB qD qr0 qr1 qr2 qs qp) = (j3_90_e0 qA qB qD qr0 qr1 qr2 qs qp) from (if_pos hc38_45), show (j3_100_e1 qA qB qD qr0 qr1 qr2 qs qp) = (j3_90_e1 qA qB qD qr0 qr1 qr2 qs qp) from (if_pos hc38_45), show (j3_100_e2 qA qB qD qr0 qr1 qr2 qs qp) = (j3_90_e2 qA qB qD qr0 qr1 qr2 qs qp) from (if_pos hc38_45), show (j3_100_size qA qB qD qr0 qr1 qr2 qs qp) = (j3_90_2 qA qB qD qr0 qr1 qr2 qs qp) from (if_pos hc38_45), show (j3_100_place qA qB qD qr0 qr1 qr2 qs qp) = (0 : Int32) from (if_pos hc38_45)] at q
        exact q _ _ _ X644 e644 N644 Zn644 K644 V_r V_w E_x0 F_wanted_x0 F_ring_x0 F_size_x0 F_place_x0
      by_cases hc50_445 : (0 : Int32) < qs
      · skip
        refine Goes.st (B := T444.setTop (mkF m 53 #[rv x0, iv (j3_20_1 qA qB qD qr0 qr1 qr2 qs qp), iv (0 : Int32), iv (0 : Int32)] [])) (fun t k => ?_) ?_
        · refine XS.icmpNo X444.here hx rfl (hb hby d3_50) rfl (tlt hc50_445).2.1 ?_
          exact k
        refine Goes.run X444 hx hown hci hcl hby (L := [(53, .aload_n 0, 1)]) (by decide +kernel) rfl (g' := (mkF m 54 #[rv x0, iv (j3_20_1 qA qB qD qr0 qr1 qr2 qs qp), iv (0 : Int32), iv (0 : Int32)] [(.ref x0)])) rfl ?_
        obtain ⟨T645, X645, e645, st645⟩ := getF X444 hx hZ hown (host := "") (Or.inl w_27) Via.refl e444 F_wanted_x0 (g := (mkF m 54 #[rv x0, iv (j3_20_1 qA qB qD qr0 qr1 qr2 qs qp), iv (0 : Int32), iv (0 : Int32)] [(.ref x0)])) rfl rfl (hb hby d3_54)
        refine Goes.st (B := T645.setTop (mkF m 57 #[rv x0, iv (j3_20_1 qA qB qD qr0 qr1 qr2 qs qp), iv (0 : Int32), iv (0 : Int32)] [(.ref w)])) st645 ?_
        refine Goes.run X645 hx hown hci hcl hby (L := [(57, .aload_n 0, 1)]) (by decide +kernel) rfl (g' := (mkF m 58 #[rv x0, iv (j3_20_1 qA qB qD qr0 qr1 qr2 qs qp), iv (0 : Int32), iv (0 : Int32)] [(.ref x0), (.ref w)])) rfl ?_
        obtain ⟨T646, X646, e646, st646⟩ := getF X645 hx hZ hown (host := "") (Or.inl w_29) Via.refl e645 F_ring_x0 (g := (mkF m 58 #[rv x0, iv (j3_20_1 qA qB qD qr0 qr1 qr2 qs qp), iv (0 : Int32), iv (0 : Int32)] [(.ref x0), (.ref w)])) rfl rfl (hb hby d3_58)
        refine Goes.st (B := T646.setTop (mkF m 61 #[rv x0, iv (j3_20_1 qA qB qD qr0 qr1 qr2 qs qp), iv (0 : Int32), iv (0 : Int32)] [(.ref r), (.ref w)])) st646 ?_
        refine Goes.run X646 hx hown hci hcl hby (L := [(61, .iload_n 3, 1)]) (by decide +kernel) rfl (g' := (mkF m 62 #[rv x0, iv (j3_20_1 qA qB qD qr0 qr1 qr2 qs qp), iv (0 : Int32), iv (0 : Int32)] [(.int (0 : Int32)), (.ref r), (.ref w)])) rfl ?_
        obtain ⟨cl647, Ar647, q647, S647, M647, Hs647, G647⟩ := id V_r
        have hin647 : ¬ ((0 : Int32) < 0 ∨ cl647.slots.size ≤ ((0 : Int32)).toNatClampNeg) := inb_of S647 ⟨(by decide), (by decide)⟩
        have hat647 : cl647.slots[((0 : Int32)).toNatClampNeg]? = some (.int (j3_20_e0 qA qB qD qr0 qr1 qr2 qs qp)) := Hs647.at hin647 rfl
        refine Goes.st (B := T646.setTop (mkF m 63 #[rv x0, iv (j3_20_1 qA qB qD qr0 qr1 qr2 qs qp), iv (0 : Int32), iv (0 : Int32)] [(.int (j3_20_e0 qA qB qD qr0 qr1 qr2 qs qp)), (.ref w)])) (X646.iaload hx (j := (0 : Int32)) (v := (.int (j3_20_e0 qA qB qD qr0 qr1 qr2 qs qp))) (by rw [e646]; exact Ar647.1) (State.isArrayOf_alike hZ.alike Ar647.2.1) Ar647.2.2 hin647 hat647 (g := (mkF m 62 #[rv x0, iv (j3_20_1 qA qB qD qr0 qr1 qr2 qs qp), iv (0 : Int32), iv (0 : Int32)] [(.int (0 : Int32)), (.ref r), (.ref w)])) rfl rfl (hb hby d3_62)) ?_
        have jn84_670 : ∀ (T669 : State) (L669 : List Loc) (h669 : Heap) (X669 : Stand p l e ({ frames := 0, cells := 0, slots := 0, locals := 0 } : Room) s m #[(.ref x0)] below meth c T669 L669 0 0) (e669 : T669.heap = h669) (N669 : Fr n0 L669) (Zn669 : n0 ≤ h669.size) (K669 : Keep h0 h669 [x0, w, r]) (V_r : Arv Z h669 r kr .int (3 : Int32) [(.int (j3_84_e0 qA qB qD qr0 qr1 qr2 qs qp)), (.int (j3_20_e1 qA qB qD qr0 qr1 qr2 qs qp)), (.int (j3_20_e2 qA qB qD qr0 qr1 qr2 qs qp))] (.int (0 : Int32))) (V_w : Arv Z h669 w kw .long (3 : Int32) [(.long (j3_20_e0_a qA qB qD qr0 qr1 qr2 qs qp)), (.long (j3_20_e1_a qA qB qD qr0 qr1 qr2 qs qp)), (.long (j3_20_e2_a qA qB qD qr0 qr1 qr2 qs qp))] (.long (0 : Int64))) (E_x0 : Exa Z h669 x0 "com/example/kubera/kubera/DealingRing") (F_wanted_x0 : Fld Z h669 x0 "com/example/kubera/kubera/DealingRing" "wanted" "[J" (.ref w)) (F_ring_x0 : Fld Z h669 x0 "com/example/kubera/kubera/DealingRing" "ring" "[I" (.ref r)) (F_size_x0 : Fld Z h669 x0 "com/example/kubera/kubera/DealingRing" "size" "I" (.int qs)) (F_place_x0 : Fld Z h669 x0 "com/example/kubera/kubera/DealingRing" "place" "I" (.int ((j3_20_place qA qB qD qr0 qr1 qr2 qs qp) + (1 : Int32)))), Goes p e below s (Q3 Z x0 w r kw kr qA qB qD qr0 qr1 qr2 qs qp h0 n0) ({ frames := 0, cells := 0, slots := 0, locals := 0 } : Room).cells ({ frames := 0, cells := 0, slots := 0, locals := 0 } : Room).slots (T669.setTop (mkF m 84 #[rv x0, iv (j3_20_1 qA qB qD qr0 qr1 qr2 qs qp), iv (j3_84_2 qA qB qD qr0 qr1 qr2 qs qp), iv (0 : Int32)] [])) := by
          intro T669 L669 h669 X669 e669 N669 Zn669 K669 V_r V_w E_x0 F_wanted_x0 F_ring_x0 F_size_x0 F_place_x0
          refine Goes.run X669 hx hown hci hcl hby (L := [(84, .iinc 3 1, 3), (87, .goto (-42), 3), (45, .iload_n 3, 1), (46, .aload_n 0, 1)]) (by decide +kernel) rfl (g' := (mkF m 47 #[rv x0, iv (j3_20_1 qA qB qD qr0 qr1 qr2 qs qp), iv (j3_84_2 qA qB qD qr0 qr1 qr2 qs qp), iv (1 : Int32)] [(.ref x0), (.int (1 : Int32))])) rfl ?_
          obtain ⟨T671, X671, e671, st671⟩ := getF X669 hx hZ hown (host := "") (Or.inl w_31) Via.refl e669 F_size_x0 (g := (mkF m 47 #[rv x0, iv (j3_20_1 qA qB qD qr0 qr1 qr2 qs qp), iv (j3_84_2 qA qB qD qr0 qr1 qr2 qs qp), iv (1 : Int32)] [(.ref x0), (.int (1 : Int32))])) rfl rfl (hb hby d3_47)
          refine Goes.st (B := T671.setTop (mkF m 50 #[rv x0, iv (j3_20_1 qA qB qD qr0 qr1 qr2 qs qp), iv (j3_84_2 qA qB qD qr0 qr1 qr2 qs qp), iv (1 : Int32)] [(.int qs), (.int (1 : Int32))])) st671 ?_
          by_cases hc50_672 : (1 : Int32) < qs
          · skip
            refine Goes.st (B := T671.setTop (mkF m 53 #[rv x0, iv (j3_20_1 qA qB qD qr0 qr1 qr2 qs qp), iv (j3_84_2 qA qB qD qr0 qr1 qr2 qs qp), iv (1 : Int32)] [])) (fun t k => ?_) ?_
            · refine XS.icmpNo X671.here hx rfl (hb hby d3_50) rfl (tlt hc50_672).2.1 ?_
              exact k
            refine Goes.run X671 hx hown hci hcl hby (L := [(53, .aload_n 0, 1)]) (by decide +kernel) rfl (g' := (mkF m 54 #[rv x0, iv (j3_20_1 qA qB qD qr0 qr1 qr2 qs qp), iv (j3_84_2 qA qB qD qr0 qr1 qr2 qs qp), iv (1 : Int32)] [(.ref x0)])) rfl ?_
            obtain ⟨T673, X673, e673, st673⟩ := getF X671 hx hZ hown (host := "") (Or.inl w_27) Via.refl e671 F_wanted_x0 (g := (mkF m 54 #[rv x0, iv (j3_20_1 qA qB qD qr0 qr1 qr2 qs qp), iv (j3_84_2 qA qB qD qr0 qr1 qr2 qs qp), iv (1 : Int32)] [(.ref x0)])) rfl rfl (hb hby d3_54)
            refine Goes.st (B := T673.setTop (mkF m 57 #[rv x0, iv (j3_20_1 qA qB qD qr0 qr1 qr2 qs qp), iv (j3_84_2 qA qB qD qr0 qr1 qr2 qs qp), iv (1 : Int32)] [(.ref w)])) st673 ?_
            refine Goes.run X673 hx hown hci hcl hby (L := [(57, .aload_n 0, 1)]) (by decide +kernel) rfl (g' := (mkF m 58 #[rv x0, iv (j3_20_1 qA qB qD qr0 qr1 qr2 qs qp), iv (j3_84_2 qA qB qD qr0 qr1 qr2 qs qp), iv (1 : Int32)] [(.ref x0), (.ref w)])) rfl ?_
            obtain ⟨T674, X674, e674, st674⟩ := getF X673 hx hZ hown (host := "") (Or.inl w_29) Via.refl e673 F_ring_x0 (g := (mkF m 58 #[rv x0, iv (j3_20_1 qA qB qD qr0 qr1 qr2 qs qp), iv (j3_84_2 qA qB qD qr0 qr1 qr2 qs qp), iv (1 : Int32)] [(.ref x0), (.ref w)])) rfl rfl (hb hby d3_58)
            refine Goes.st (B := T674.setTop (mkF m 61 #[rv x0, iv (j3_20_1 qA qB qD qr0 qr1 qr2 qs qp), iv (j3_84_2 qA qB qD qr0 qr1 qr2 qs qp), iv (1 : Int32)] [(.ref r), (.ref w)])) st674 ?_
            refine Goes.run X674 hx hown hci hcl hby (L := [(61, .iload_n 3, 1)]) (by decide +kernel) rfl (g' := (mkF m 62 #[rv x0, iv (j3_20_1 qA qB qD qr0 qr1 qr2 qs qp), iv (j3_84_2 qA qB qD qr0 qr1 qr2 qs qp), iv (1 : Int32)] [(.int (1 : Int32)), (.ref r), (.ref w)])) rfl ?_
            obtain ⟨cl675, Ar675, q675, S675, M675, Hs675, G675⟩ := id V_r
            have hin675 : ¬ ((1 : Int32) < 0 ∨ cl675.slots.size ≤ ((1 : Int32)).toNatClampNeg) := inb_of S675 ⟨(by decide), (by decide)⟩
            have hat675 : cl675.slots[((1 : Int32)).toNatClampNeg]? = some (.int (j3_20_e1 qA qB qD qr0 qr1 qr2 qs qp)) := Hs675.at hin675 rfl
            refine Goes.st (B := T674.setTop (mkF m 63 #[rv x0, iv (j3_20_1 qA qB qD qr0 qr1 qr2 qs qp), iv (j3_84_2 qA qB qD qr0 qr1 qr2 qs qp), iv (1 : Int32)] [(.int (j3_20_e1 qA qB qD qr0 qr1 qr2 qs qp)), (.ref w)])) (X674.iaload hx (j := (1 : Int32)) (v := (.int (j3_20_e1 qA qB qD qr0 qr1 qr2 qs qp))) (by rw [e674]; exact Ar675.1) (State.isArrayOf_alike hZ.alike Ar675.2.1) Ar675.2.2 hin675 hat675 (g := (mkF m 62 #[rv x0, iv (j3_20_1 qA qB qD qr0 qr1 qr2 qs qp), iv (j3_84_2 qA qB qD qr0 qr1 qr2 qs qp), iv (1 : Int32)] [(.int (1 : Int32)), (.ref r), (.ref w)])) rfl rfl (hb hby d3_62)) ?_
            have jn84_707 : ∀ (T706 : State) (L706 : List Loc) (h706 : Heap) (X706 : Stand p l e ({ frames := 0, cells := 0, slots := 0, locals := 0 } : Room) s m #[(.ref x0)] below meth c T706 L706 0 0) (e706 : T706.heap = h706) (N706 : Fr n0 L706) (Zn706 : n0 ≤ h706.size) (K706 : Keep h0 h706 [x0, w, r]) (V_r : Arv Z h706 r kr .int (3 : Int32) [(.int (j3_84_e0_a qA qB qD qr0 qr1 qr2 qs qp)), (.int (j3_84_e1 qA qB qD qr0 qr1 qr2 qs qp)), (.int (j3_20_e2 qA qB qD qr0 qr1 qr2 qs qp))] (.int (0 : Int32))) (V_w : Arv Z h706 w kw .long (3 : Int32) [(.long (j3_20_e0_a qA qB qD qr0 qr1 qr2 qs qp)), (.long (j3_20_e1_a qA qB qD qr0 qr1 qr2 qs qp)), (.long (j3_20_e2_a qA qB qD qr0 qr1 qr2 qs qp))] (.long (0 : Int64))) (E_x0 : Exa Z h706 x0 "com/example/kubera/kubera/DealingRing") (F_wanted_x0 : Fld Z h706 x0 "com/example/kubera/kubera/DealingRing" "wanted" "[J" (.ref w)) (F_ring_x0 : Fld Z h706 x0 "com/example/kubera/kubera/DealingRing" "ring" "[I" (.ref r)) (F_size_x0 : Fld Z h706 x0 "com/example/kubera/kubera/DealingRing" "size" "I" (.int qs)) (F_place_x0 : Fld Z h706 x0 "com/example/kubera/kubera/DealingRing" "place" "I" (.int ((j3_20_place qA qB qD qr0 qr1 qr2 qs qp) + (1 : Int32)))), Goes p e below s (Q3 Z x0 w r kw kr qA qB qD qr0 qr1 qr2 qs qp h0 n0) ({ frames := 0, cells := 0, slots := 0, locals := 0 } : Room).cells ({ frames := 0, cells := 0, slots := 0, locals := 0 } : Room).slots (T706.setTop (mkF m 84 #[rv x0, iv (j3_20_1 qA qB qD qr0 qr1 qr2 qs qp), iv (j3_84_2_a qA qB qD qr0 qr1 qr2 qs qp), iv (1 : Int32)] [])) := by
              intro T706 L706 h706 X706 e706 N706 Zn706 K706 V_r V_w E_x0 F_wanted_x0 F_ring_x0 F_size_x0 F_place_x0
              refine Goes.run X706 hx hown hci hcl hby (L := [(84, .iinc 3 1, 3), (87, .goto (-42), 3), (45, .iload_n 3, 1), (46, .aload_n 0, 1)]) (by decide +kernel) rfl (g' := (mkF m 47 #[rv x0, iv (j3_20_1 qA qB qD qr0 qr1 qr2 qs qp), iv (j3_84_2_a qA qB qD qr0 qr1 qr2 qs qp), iv (2 : Int32)] [(.ref x0), (.int (2 : Int32))])) rfl ?_
              obtain ⟨T708, X708, e708, st708⟩ := getF X706 hx hZ hown (host := "") (Or.inl w_31) Via.refl e706 F_size_x0 (g := (mkF m 47 #[rv x0, iv (j3_20_1 qA qB qD qr0 qr1 qr2 qs qp), iv (j3_84_2_a qA qB qD qr0 qr1 qr2 qs qp), iv (2 : Int32)] [(.ref x0), (.int (2 : Int32))])) rfl rfl (hb hby d3_47)
              refine Goes.st (B := T708.setTop (mkF m 50 #[rv x0, iv (j3_20_1 qA qB qD qr0 qr1 qr2 qs qp), iv (j3_84_2_a qA qB qD qr0 qr1 qr2 qs qp), iv (2 : Int32)] [(.int qs), (.int (2 : Int32))])) st708 ?_
              by_cases hc50_709 : (2 : Int32) < qs
              · skip
                refine Goes.st (B := T708.setTop (mkF m 53 #[rv x0, iv (j3_20_1 qA qB qD qr0 qr1 qr2 qs qp), iv (j3_84_2_a qA qB qD qr0 qr1 qr2 qs qp), iv (2 : Int32)] [])) (fun t k => ?_) ?_
                · refine XS.icmpNo X708.here hx rfl (hb hby d3_50) rfl (tlt hc50_709).2.1 ?_
                  exact k
                refine Goes.run X708 hx hown hci hcl hby (L := [(53, .aload_n 0, 1)]) (by decide +kernel) rfl (g' := (mkF m 54 #[rv x0, iv (j3_20_1 qA qB qD qr0 qr1 qr2 qs qp), iv (j3_84_2_a qA qB qD qr0 qr1 qr2 qs qp), iv (2 : Int32)] [(.ref x0)])) rfl ?_
                obtain ⟨T710, X710, e710, st710⟩ := getF X708 hx hZ hown (host := "") (Or.inl w_27) Via.refl e708 F_wanted_x0 (g := (mkF m 54 #[rv x0, iv (j3_20_1 qA qB qD qr0 qr1 qr2 qs qp), iv (j3_84_2_a qA qB qD qr0 qr1 qr2 qs qp), iv (2 : Int32)] [(.ref x0)])) rfl rfl (hb hby d3_54)
                refine Goes.st (B := T710.setTop (mkF m 57 #[rv x0, iv (j3_20_1 qA qB qD qr0 qr1 qr2 qs qp), iv (j3_84_2_a qA qB qD qr0 qr1 qr2 qs qp), iv (2 : Int32)] [(.ref w)])) st710 ?_
                refine Goes.run X710 hx hown hci hcl hby (L := [(57, .aload_n 0, 1)]) (by decide +kernel) rfl (g' := (mkF m 58 #[rv x0, iv (j3_20_1 qA qB qD qr0 qr1 qr2 qs qp), iv (j3_84_2_a qA qB qD qr0 qr1 qr2 qs qp), iv (2 : Int32)] [(.ref x0), (.ref w)])) rfl ?_
                obtain ⟨T711, X711, e711, st711⟩ := getF X710 hx hZ hown (host := "") (Or.inl w_29) Via.refl e710 F_ring_x0 (g := (mkF m 58 #[rv x0, iv (j3_20_1 qA qB qD qr0 qr1 qr2 qs qp), iv (j3_84_2_a qA qB qD qr0 qr1 qr2 qs qp), iv (2 : Int32)] [(.ref x0), (.ref w)])) rfl rfl (hb hby d3_58)
                refine Goes.st (B := T711.setTop (mkF m 61 #[rv x0, iv (j3_20_1 qA qB qD qr0 qr1 qr2 qs qp), iv (j3_84_2_a qA qB qD qr0 qr1 qr2 qs qp), iv (2 : Int32)] [(.ref r), (.ref w)])) st711 ?_
                refine Goes.run X711 hx hown hci hcl hby (L := [(61, .iload_n 3, 1)]) (by decide +kernel) rfl (g' := (mkF m 62 #[rv x0, iv (j3_20_1 qA qB qD qr0 qr1 qr2 qs qp), iv (j3_84_2_a qA qB qD qr0 qr1 qr2 qs qp), iv (2 : Int32)] [(.int (2 : Int32)), (.ref r), (.ref w)])) rfl ?_
                obtain ⟨cl712, Ar712, q712, S712, M712, Hs712, G712⟩ := id V_r
                have hin712 : ¬ ((2 : Int32) < 0 ∨ cl712.slots.size ≤ ((2 : Int32)).toNatClampNeg) := inb_of S712 ⟨(by decide), (by decide)⟩
                have hat712 : cl712.slots[((2 : Int32)).toNatClampNeg]? = some (.int (j3_20_e2 qA qB qD qr0 qr1 qr2 qs qp)) := Hs712.at hin712 rfl
                refine Goes.st (B := T711.setTop (mkF m 63 #[rv x0, iv (j3_20_1 qA qB qD qr0 qr1 qr2 qs qp), iv (j3_84_2_a qA qB qD qr0 qr1 qr2 qs qp), iv (2 : Int32)] [(.int (j3_20_e2 qA qB qD qr0 qr1 qr2 qs qp)), (.ref w)])) (X711.iaload hx (j := (2 : Int32)) (v := (.int (j3_20_e2 qA qB qD qr0 qr1 qr2 qs qp))) (by rw [e711]; exact Ar712.1) (State.isArrayOf_alike hZ.alike Ar712.2.1) Ar712.2.2 hin712 hat712 (g := (mkF m 62 #[rv x0, iv (j3_20_1 qA qB qD qr0 qr1 qr2 qs qp), iv (j3_84_2_a qA qB qD qr0 qr1 qr2 qs qp), iv (2 : Int32)] [(.int (2 : Int32)), (.ref r), (.ref w)])) rfl rfl (hb hby d3_62)) ?_
                have jn84_750 : ∀ (T749 : State) (L749 : List Loc) (h749 : Heap) (X749 : Stand p l e ({ frames := 0, cells := 0, slots := 0, locals := 0 } : Room) s m #[(.ref x0)] below meth c T749 L749 0 0) (e749 : T749.heap = h749) (N749 : Fr n0 L749) (Zn749 : n0 ≤ h749.size) (K749 : Keep h0 h749 [x0, w, r]) (V_r : Arv Z h749 r kr .int (3 : Int32) [(.int (j3_84_e0_b qA qB qD qr0 qr1 qr2 qs qp)), (.int (j3_84_e1_a qA qB qD qr0 qr1 qr2 qs qp)), (.int (j3_84_e2 qA qB qD qr0 qr1 qr2 qs qp))] (.int (0 : Int32))) (V_w : Arv Z h749 w kw .long (3 : Int32) [(.long (j3_20_e0_a qA qB qD qr0 qr1 qr2 qs qp)), (.long (j3_20_e1_a qA qB qD qr0 qr1 qr2 qs qp)), (.long (j3_20_e2_a qA qB qD qr0 qr1 qr2 qs qp))] (.long (0 : Int64))) (E_x0 : Exa Z h749 x0 "com/example/kubera/kubera/DealingRing") (F_wanted_x0 : Fld Z h749 x0 "com/example/kubera/kubera/DealingRing" "wanted" "[J" (.ref w)) (F_ring_x0 : Fld Z h749 x0 "com/example/kubera/kubera/DealingRing" "ring" "[I" (.ref r)) (F_size_x0 : Fld Z h749 x0 "com/example/kubera/kubera/DealingRing" "size" "I" (.int qs)) (F_place_x0 : Fld Z h749 x0 "com/example/kubera/kubera/DealingRing" "place" "I" (.int ((j3_20_place qA qB qD qr0 qr1 qr2 qs qp) + (1 : Int32)))), Goes p e below s (Q3 Z x0 w r kw kr qA qB qD qr0 qr1 qr2 qs qp h0 n0) ({ frames := 0, cells := 0, slots := 0, locals := 0 } : Room).cells ({ frames := 0, cells := 0, slots := 0, locals := 0 } : Room).slots (T749.setTop (mkF m 84 #[rv x0, iv (j3_20_1 qA qB qD qr0 qr1 qr2 qs qp), iv (j3_84_2_b qA qB qD qr0 qr1 qr2 qs qp), iv (2 : Int32)] [])) := by
                  intro T749 L749 h749 X749 e749 N749 Zn749 K749 V_r V_w E_x0 F_wanted_x0 F_ring_x0 F_size_x0 F_place_x0
                  refine Goes.run X749 hx hown hci hcl hby (L := [(84, .iinc 3 1, 3), (87, .goto (-42), 3), (45, .iload_n 3, 1), (46, .aload_n 0, 1)]) (by decide +kernel) rfl (g' := (mkF m 47 #[rv x0, iv (j3_20_1 qA qB qD qr0 qr1 qr2 qs qp), iv (j3_84_2_b qA qB qD qr0 qr1 qr2 qs qp), iv (3 : Int32)] [(.ref x0), (.int (3 : Int32))])) rfl ?_
                  obtain ⟨T751, X751, e751, st751⟩ := getF X749 hx hZ hown (host := "") (Or.inl w_31) Via.refl e749 F_size_x0 (g := (mkF m 47 #[rv x0, iv (j3_20_1 qA qB qD qr0 qr1 qr2 qs qp), iv (j3_84_2_b qA qB qD qr0 qr1 qr2 qs qp), iv (3 : Int32)] [(.ref x0), (.int (3 : Int32))])) rfl rfl (hb hby d3_47)
                  refine Goes.st (B := T751.setTop (mkF m 50 #[rv x0, iv (j3_20_1 qA qB qD qr0 qr1 qr2 qs qp), iv (j3_84_2_b qA qB qD qr0 qr1 qr2 qs qp), iv (3 : Int32)] [(.int qs), (.int (3 : Int32))])) st751 ?_
                  have hc50_752 : ¬ ((3 : Int32) < qs) := hS
                  refine Goes.st (B := T751.setTop (mkF m 90 #[rv x0, iv (j3_20_1 qA qB qD qr0 qr1 qr2 qs qp), iv (j3_84_2_b qA qB qD qr0 qr1 qr2 qs qp), iv (3 : Int32)] [])) (fun t k => ?_) ?_
                  · refine XS.icmpYes X751.here hx rfl (pc0 := 50) (pc' := 90) rfl (hb hby d3_50) rfl (flt hc50_752).2.1 (by decide) (by decide) ?_
                    exact k
                  have q := jn90_642
                  rw [show (j3_90_2 qA qB qD qr0 qr1 qr2 qs qp) = (j3_84_2_b qA qB qD qr0 qr1 qr2 qs qp) from (((if_pos hc50_445).trans (if_pos hc50_672)).trans (if_pos hc50_709)), show (j3_90_3 qA qB qD qr0 qr1 qr2 qs qp) = (3 : Int32) from (((if_pos hc50_445).trans (if_pos hc50_672)).trans (if_pos hc50_709)), show (j3_90_e0 qA qB qD qr0 qr1 qr2 qs qp) = (j3_84_e0_b qA qB qD qr0 qr1 qr2 qs qp) from (((if_pos hc50_445).trans (if_pos hc50_672)).trans (if_pos hc50_709)), show (j3_90_e1 qA qB qD qr0 qr1 qr2 qs qp) = (j3_84_e1_a qA qB qD qr0 qr1 qr2 qs qp) from (((if_pos hc50_445).trans (if_pos hc50_672)).trans (if_pos hc50_709)), show (j3_90_e2 qA qB qD qr0 qr1 qr2 qs qp) = (j3_84_e2 qA qB qD qr0 qr1 qr2 qs qp) from (((if_pos hc50_445).trans (if_pos hc50_672)).trans (if_pos hc50_709))] at q
                  exact q _ _ _ X751 e751 N749 Zn749 K749 V_r V_w E_x0 F_wanted_x0 F_ring_x0 F_size_x0 F_place_x0
                by_cases hs63_753 : (j3_20_e2 qA qB qD qr0 qr1 qr2 qs qp) = (0 : Int32)
                · skip
                  rw [hs63_753] at V_r
                  refine Goes.cast (show (mkF m 63 #[rv x0, iv (j3_20_1 qA qB qD qr0 qr1 qr2 qs qp), iv (j3_84_2_a qA qB qD qr0 qr1 qr2 qs qp), iv (2 : Int32)] [(.int (j3_20_e2 qA qB qD qr0 qr1 qr2 qs qp)), (.ref w)]) = (mkF m 63 #[rv x0, iv (j3_20_1 qA qB qD qr0 qr1 qr2 qs qp), iv (j3_84_2_a qA qB qD qr0 qr1 qr2 qs qp), iv (2 : Int32)] [(.int (0 : Int32)), (.ref w)]) by rw [hs63_753]) ?_
                  obtain ⟨cl754, Ar754, q754, S754, M754, Hs754, G754⟩ := id V_w
                  have hin754 : ¬ ((0 : Int32) < 0 ∨ cl754.slots.size ≤ ((0 : Int32)).toNatClampNeg) := inb_of S754 ⟨(by decide), (by decide)⟩
                  have hat754 : cl754.slots[((0 : Int32)).toNatClampNeg]? = some (.long (j3_20_e0_a qA qB qD qr0 qr1 qr2 qs qp)) := Hs754.at hin754 rfl
                  refine Goes.st (B := T711.setTop (mkF m 64 #[rv x0, iv (j3_20_1 qA qB qD qr0 qr1 qr2 qs qp), iv (j3_84_2_a qA qB qD qr0 qr1 qr2 qs qp), iv (2 : Int32)] [(.long (j3_20_e0_a qA qB qD qr0 qr1 qr2 qs qp))])) (X711.laload hx (j := (0 : Int32)) (v := (.long (j3_20_e0_a qA qB qD qr0 qr1 qr2 qs qp))) (by rw [e711]; exact Ar754.1) (State.isArrayOf_alike hZ.alike Ar754.2.1) Ar754.2.2 hin754 hat754 (g := (mkF m 63 #[rv x0, iv (j3_20_1 qA qB qD qr0 qr1 qr2 qs qp), iv (j3_84_2_a qA qB qD qr0 qr1 qr2 qs qp), iv (2 : Int32)] [(.int (0 : Int32)), (.ref w)])) rfl rfl (hb hby d3_63)) ?_
                  refine Goes.run X711 hx hown hci hcl hby (L := [(64, .lconst 0, 1), (65, .lcmp, 1)]) (by decide +kernel) rfl (g' := (mkF m 66 #[rv x0, iv (j3_20_1 qA qB qD qr0 qr1 qr2 qs qp), iv (j3_84_2_a qA qB qD qr0 qr1 qr2 qs qp), iv (2 : Int32)] [(.int (lcmpW (j3_20_e0_a qA qB qD qr0 qr1 qr2 qs qp) (0 : Int64)))])) rfl ?_
                  by_cases hc66_755 : (0 : Int64) < (j3_20_e0_a qA qB qD qr0 qr1 qr2 qs qp)
                  · skip
                    refine Goes.st (B := T711.setTop (mkF m 69 #[rv x0, iv (j3_20_1 qA qB qD qr0 qr1 qr2 qs qp), iv (j3_84_2_a qA qB qD qr0 qr1 qr2 qs qp), iv (2 : Int32)] [])) (fun t k => ?_) ?_
                    · refine XS.ifNo X711.here hx rfl (hb hby d3_66) rfl (tltL hc66_755).2.2.2 ?_
                      exact k
                    refine Goes.run X711 hx hown hci hcl hby (L := [(69, .aload_n 0, 1)]) (by decide +kernel) rfl (g' := (mkF m 70 #[rv x0, iv (j3_20_1 qA qB qD qr0 qr1 qr2 qs qp), iv (j3_84_2_a qA qB qD qr0 qr1 qr2 qs qp), iv (2 : Int32)] [(.ref x0)])) rfl ?_
                    obtain ⟨T756, X756, e756, st756⟩ := getF X711 hx hZ hown (host := "") (Or.inl w_29) Via.refl e711 F_ring_x0 (g := (mkF m 70 #[rv x0, iv (j3_20_1 qA qB qD qr0 qr1 qr2 qs qp), iv (j3_84_2_a qA qB qD qr0 qr1 qr2 qs qp), iv (2 : Int32)] [(.ref x0)])) rfl rfl (hb hby d3_70)
                    refine Goes.st (B := T756.setTop (mkF m 73 #[rv x0, iv (j3_20_1 qA qB qD qr0 qr1 qr2 qs qp), iv (j3_84_2_a qA qB qD qr0 qr1 qr2 qs qp), iv (2 : Int32)] [(.ref r)])) st756 ?_
                    refine Goes.run X756 hx hown hci hcl hby (L := [(73, .iload_n 2, 1), (74, .aload_n 0, 1)]) (by decide +kernel) rfl (g' := (mkF m 75 #[rv x0, iv (j3_20_1 qA qB qD qr0 qr1 qr2 qs qp), iv (j3_84_2_a qA qB qD qr0 qr1 qr2 qs qp), iv (2 : Int32)] [(.ref x0), (.int (j3_84_2_a qA qB qD qr0 qr1 qr2 qs qp)), (.ref r)])) rfl ?_
                    obtain ⟨T757, X757, e757, st757⟩ := getF X756 hx hZ hown (host := "") (Or.inl w_29) Via.refl e756 F_ring_x0 (g := (mkF m 75 #[rv x0, iv (j3_20_1 qA qB qD qr0 qr1 qr2 qs qp), iv (j3_84_2_a qA qB qD qr0 qr1 qr2 qs qp), iv (2 : Int32)] [(.ref x0), (.int (j3_84_2_a qA qB qD qr0 qr1 qr2 qs qp)), (.ref r)])) rfl rfl (hb hby d3_75)
                    refine Goes.st (B := T757.setTop (mkF m 78 #[rv x0, iv (j3_20_1 qA qB qD qr0 qr1 qr2 qs qp), iv (j3_84_2_a qA qB qD qr0 qr1 qr2 qs qp), iv (2 : Int32)] [(.ref r), (.int (j3_84_2_a qA qB qD qr0 qr1 qr2 qs qp)), (.ref r)])) st757 ?_
                    refine Goes.run X757 hx hown hci hcl hby (L := [(78, .iload_n 3, 1)]) (by decide +kernel) rfl (g' := (mkF m 79 #[rv x0, iv (j3_20_1 qA qB qD qr0 qr1 qr2 qs qp), iv (j3_84_2_a qA qB qD qr0 qr1 qr2 qs qp), iv (2 : Int32)] [(.int (2 : Int32)), (.ref r), (.int (j3_84_2_a qA qB qD qr0 qr1 qr2 qs qp)), (.ref r)])) rfl ?_
                    obtain ⟨cl758, Ar758, q758, S758, M758, Hs758, G758⟩ := id V_r
                    have hin758 : ¬ ((2 : Int32) < 0 ∨ cl758.slots.size ≤ ((2 : Int32)).toNatClampNeg) := inb_of S758 ⟨(by decide), (by decide)⟩
                    have hat758 : cl758.slots[((2 : Int32)).toNatClampNeg]? = some (.int (0 : Int32)) := Hs758.at hin758 rfl
                    refine Goes.st (B := T757.setTop (mkF m 80 #[rv x0, iv (j3_20_1 qA qB qD qr0 qr1 qr2 qs qp), iv (j3_84_2_a qA qB qD qr0 qr1 qr2 qs qp), iv (2 : Int32)] [(.int (0 : Int32)), (.int (j3_84_2_a qA qB qD qr0 qr1 qr2 qs qp)), (.ref r)])) (X757.iaload hx (j := (2 : Int32)) (v := (.int (0 : Int32))) (by rw [e757]; exact Ar758.1) (State.isArrayOf_alike hZ.alike Ar758.2.1) Ar758.2.2 hin758 hat758 (g := (mkF m 79 #[rv x0, iv (j3_20_1 qA qB qD qr0 qr1 qr2 qs qp), iv (j3_84_2_a qA qB qD qr0 qr1 qr2 qs qp), iv (2 : Int32)] [(.int (2 : Int32)), (.ref r), (.int (j3_84_2_a qA qB qD qr0 qr1 qr2 qs qp)), (.ref r)])) rfl rfl (hb hby d3_79)) ?_
                    by_cases hs80_759 : (j3_84_2_a qA qB qD qr0 qr1 qr2 qs qp) = (0 : Int32)
                    · skip
                      refine Goes.cast (show (mkF m 80 #[rv x0, iv (j3_20_1 qA qB qD qr0 qr1 qr2 qs qp), iv (j3_84_2_a qA qB qD qr0 qr1 qr2 qs qp), iv (2 : Int32)] [(.int (0 : Int32)), (.int (j3_84_2_a qA qB qD qr0 qr1 qr2 qs qp)), (.ref r)]) = (mkF m 80 #[rv x0, iv (j3_20_1 qA qB qD qr0 qr1 qr2 qs qp), iv (0 : Int32), iv (2 : Int32)] [(.int (0 : Int32)), (.int (0 : Int32)), (.ref r)]) by rw [hs80_759]) ?_
                      obtain ⟨cl760, Ar760, q760, S760, M760, Hs760, G760⟩ := id V_r
                      have hin760 : ¬ ((0 : Int32) < 0 ∨ cl760.slots.size ≤ ((0 : Int32)).toNatClampNeg) := inb_of S760 ⟨(by decide), (by decide)⟩
                      obtain ⟨T760, h760, X760, e760, W760, st760⟩ := stI X757 hx hZ e757 Ar760 (j := (0 : Int32)) hin760 (g := (mkF m 80 #[rv x0, iv (j3_20_1 qA qB qD qr0 qr1 qr2 qs qp), iv (0 : Int32), iv (2 : Int32)] [(.int (0 : Int32)), (.int (0 : Int32)), (.ref r)])) rfl rfl (hb hby d3_80)
                      have V_w := V_w.other W760 nwr
                      have E_x0 := E_x0.wr W760
                      have F_wanted_x0 := F_wanted_x0.other W760 (Or.inl nxr)
                      have F_ring_x0 := F_ring_x0.other W760 (Or.inl nxr)
                      have F_size_x0 := F_size_x0.other W760 (Or.inl nxr)
                      have F_place_x0 := F_place_x0.other W760 (Or.inl nxr)
                      have Zn760 : n0 ≤ h760.size := Nat.le_trans Zn706 (Keep.of_wr W760).1
                      have K760 := K706.wr W760 (Or.inl (List.mem_of_getElem? (i := 2) rfl))
                      have N760 := Fr.snoc X760 N706 g_r
                      have V_r : Arv Z h760 r kr .int (3 : Int32) [(.int (0 : Int32)), (.int (j3_84_e1 qA qB qD qr0 qr1 qr2 qs qp)), (.int (0 : Int32))] (.int (0 : Int32)) := Arv.set Ar760 q760 S760 M760 Hs760 G760 rfl W760 0 rfl (Nat.le_of_ble_eq_true rfl)
                      refine Goes.st (B := T760.setTop (mkF m 81 #[rv x0, iv (j3_20_1 qA qB qD qr0 qr1 qr2 qs qp), iv (0 : Int32), iv (2 : Int32)] [])) st760 ?_
                      refine Goes.run X760 hx hown hci hcl hby (L := [(81, .iinc 2 1, 3)]) (by decide +kernel) rfl (g' := (mkF m 84 #[rv x0, iv (j3_20_1 qA qB qD qr0 qr1 qr2 qs qp), iv (1 : Int32), iv (2 : Int32)] [])) rfl ?_
                      have q := jn84_750
                      rw [show (j3_84_2_b qA qB qD qr0 qr1 qr2 qs qp) = (1 : Int32) from (((if_pos hs63_753).trans (if_pos hc66_755)).trans (if_pos hs80_759)), show (j3_84_e0_b qA qB qD qr0 qr1 qr2 qs qp) = (0 : Int32) from (((if_pos hs63_753).trans (if_pos hc66_755)).trans (if_pos hs80_759)), show (j3_84_e1_a qA qB qD qr0 qr1 qr2 qs qp) = (j3_84_e1 qA qB qD qr0 qr1 qr2 qs qp) from (((if_pos hs63_753).trans (if_pos hc66_755)).trans (if_pos hs80_759)), show (j3_84_e2 qA qB qD qr0 qr1 qr2 qs qp) = (0 : Int32) from (((if_pos hs63_753).trans (if_pos hc66_755)).trans (if_pos hs80_759))] at q
                      exact q _ _ _ X760 e760 N760 Zn760 K760 V_r V_w E_x0 F_wanted_x0 F_ring_x0 F_size_x0 F_place_x0
                    · skip
                      by_cases hs80_761 : (j3_84_2_a qA qB qD qr0 qr1 qr2 qs qp) = (1 : Int32)
                      · skip
                        refine Goes.cast (show (mkF m 80 #[rv x0, iv (j3_20_1 qA qB qD qr0 qr1 qr2 qs qp), iv (j3_84_2_a qA qB qD qr0 qr1 qr2 qs qp), iv (2 : Int32)] [(.int (0 : Int32)), (.int (j3_84_2_a qA qB qD qr0 qr1 qr2 qs qp)), (.ref r)]) = (mkF m 80 #[rv x0, iv (j3_20_1 qA qB qD qr0 qr1 qr2 qs qp), iv (1 : Int32), iv (2 : Int32)] [(.int (0 : Int32)), (.int (1 : Int32)), (.ref r)]) by rw [hs80_761]) ?_
                        obtain ⟨cl762, Ar762, q762, S762, M762, Hs762, G762⟩ := id V_r
                        have hin762 : ¬ ((1 : Int32) < 0 ∨ cl762.slots.size ≤ ((1 : Int32)).toNatClampNeg) := inb_of S762 ⟨(by decide), (by decide)⟩
                        obtain ⟨T762, h762, X762, e762, W762, st762⟩ := stI X757 hx hZ e757 Ar762 (j := (1 : Int32)) hin762 (g := (mkF m 80 #[rv x0, iv (j3_20_1 qA qB qD qr0 qr1 qr2 qs qp), iv (1 : Int32), iv (2 : Int32)] [(.int (0 : Int32)), (.int (1 : Int32)), (.ref r)])) rfl rfl (hb hby d3_80)
                        have V_w := V_w.other W762 nwr
                        have E_x0 := E_x0.wr W762
                        have F_wanted_x0 := F_wanted_x0.other W762 (Or.inl nxr)
                        have F_ring_x0 := F_ring_x0.other W762 (Or.inl nxr)
                        have F_size_x0 := F_size_x0.other W762 (Or.inl nxr)
                        have F_place_x0 := F_place_x0.other W762 (Or.inl nxr)
                        have Zn762 : n0 ≤ h762.size := Nat.le_trans Zn706 (Keep.of_wr W762).1
                        have K762 := K706.wr W762 (Or.inl (List.mem_of_getElem? (i := 2) rfl))
                        have N762 := Fr.snoc X762 N706 g_r
                        have V_r : Arv Z h762 r kr .int (3 : Int32) [(.int (j3_84_e0_a qA qB qD qr0 qr1 qr2 qs qp)), (.int (0 : Int32)), (.int (0 : Int32))] (.int (0 : Int32)) := Arv.set Ar762 q762 S762 M762 Hs762 G762 rfl W762 1 rfl (Nat.le_of_ble_eq_true rfl)
                        refine Goes.st (B := T762.setTop (mkF m 81 #[rv x0, iv (j3_20_1 qA qB qD qr0 qr1 qr2 qs qp), iv (1 : Int32), iv (2 : Int32)] [])) st762 ?_
                        refine Goes.run X762 hx hown hci hcl hby (L := [(81, .iinc 2 1, 3)]) (by decide +kernel) rfl (g' := (mkF m 84 #[rv x0, iv (j3_20_1 qA qB qD qr0 qr1 qr2 qs qp), iv (2 : Int32), iv (2 : Int32)] [])) rfl ?_
                        have q := jn84_750
                        rw [show (j3_84_2_b qA qB qD qr0 qr1 qr2 qs qp) = (2 : Int32) from ((((if_pos hs63_753).trans (if_pos hc66_755)).trans (if_neg hs80_759)).trans (if_pos hs80_761)), show (j3_84_e0_b qA qB qD qr0 qr1 qr2 qs qp) = (j3_84_e0_a qA qB qD qr0 qr1 qr2 qs qp) from ((((if_pos hs63_753).trans (if_pos hc66_755)).trans (if_neg hs80_759)).trans (if_pos hs80_761)), show (j3_84_e1_a qA qB qD qr0 qr1 qr2 qs qp) = (0 : Int32) from ((((if_pos hs63_753).trans (if_pos hc66_755)).trans (if_neg hs80_759)).trans (if_pos hs80_761)), show (j3_84_e2 qA qB qD qr0 qr1 qr2 qs qp) = (0 : Int32) from ((((if_pos hs63_753).trans (if_pos hc66_755)).trans (if_neg hs80_759)).trans (if_pos hs80_761))] at q
                        exact q _ _ _ X762 e762 N762 Zn762 K762 V_r V_w E_x0 F_wanted_x0 F_ring_x0 F_size_x0 F_place_x0
                      · skip
                        have hs80_763 : (j3_84_2_a qA qB qD qr0 qr1 qr2 qs qp) = (2 : Int32) := own_la3 (own_k2 qA qB qD qr0 qr1 qr2 qs qp) hs80_759 hs80_761
                        refine Goes.cast (show (mkF m 80 #[rv x0, iv (j3_20_1 qA qB qD qr0 qr1 qr2 qs qp), iv (j3_84_2_a qA qB qD qr0 qr1 qr2 qs qp), iv (2 : Int32)] [(.int (0 : Int32)), (.int (j3_84_2_a qA qB qD qr0 qr1 qr2 qs qp)), (.ref r)]) = (mkF m 80 #[rv x0, iv (j3_20_1 qA qB qD qr0 qr1 qr2 qs qp), iv (2 : Int32), iv (2 : Int32)] [(.int (0 : Int32)), (.int (2 : Int32)), (.ref r)]) by rw [hs80_763]) ?_
                        obtain ⟨cl764, Ar764, q764, S764, M764, Hs764, G764⟩ := id V_r
                        have hin764 : ¬ ((2 : Int32) < 0 ∨ cl764.slots.size ≤ ((2 : Int32)).toNatClampNeg) := inb_of S764 ⟨(by decide), (by decide)⟩
                        obtain ⟨T764, h764, X764, e764, W764, st764⟩ := stI X757 hx hZ e757 Ar764 (j := (2 : Int32)) hin764 (g := (mkF m 80 #[rv x0, iv (j3_20_1 qA qB qD qr0 qr1 qr2 qs qp), iv (2 : Int32), iv (2 : Int32)] [(.int (0 : Int32)), (.int (2 : Int32)), (.ref r)])) rfl rfl (hb hby d3_80)
                        have V_w := V_w.other W764 nwr
                        have E_x0 := E_x0.wr W764
                        have F_wanted_x0 := F_wanted_x0.other W764 (Or.inl nxr)
                        have F_ring_x0 := F_ring_x0.other W764 (Or.inl nxr)
                        have F_size_x0 := F_size_x0.other W764 (Or.inl nxr)
                        have F_place_x0 := F_place_x0.other W764 (Or.inl nxr)
                        have Zn764 : n0 ≤ h764.size := Nat.le_trans Zn706 (Keep.of_wr W764).1
                        have K764 := K706.wr W764 (Or.inl (List.mem_of_getElem? (i := 2) rfl))
                        have N764 := Fr.snoc X764 N706 g_r
                        have V_r : Arv Z h764 r kr .int (3 : Int32) [(.int (j3_84_e0_a qA qB qD qr0 qr1 qr2 qs qp)), (.int (j3_84_e1 qA qB qD qr0 qr1 qr2 qs qp)), (.int (0 : Int32))] (.int (0 : Int32)) := Arv.set Ar764 q764 S764 M764 Hs764 G764 rfl W764 2 rfl (Nat.le_of_ble_eq_true rfl)
                        refine Goes.st (B := T764.setTop (mkF m 81 #[rv x0, iv (j3_20_1 qA qB qD qr0 qr1 qr2 qs qp), iv (2 : Int32), iv (2 : Int32)] [])) st764 ?_
                        refine Goes.run X764 hx hown hci hcl hby (L := [(81, .iinc 2 1, 3)]) (by decide +kernel) rfl (g' := (mkF m 84 #[rv x0, iv (j3_20_1 qA qB qD qr0 qr1 qr2 qs qp), iv (3 : Int32), iv (2 : Int32)] [])) rfl ?_
                        have q := jn84_750
                        rw [show (j3_84_2_b qA qB qD qr0 qr1 qr2 qs qp) = (3 : Int32) from ((((if_pos hs63_753).trans (if_pos hc66_755)).trans (if_neg hs80_759)).trans (if_neg hs80_761)), show (j3_84_e0_b qA qB qD qr0 qr1 qr2 qs qp) = (j3_84_e0_a qA qB qD qr0 qr1 qr2 qs qp) from ((((if_pos hs63_753).trans (if_pos hc66_755)).trans (if_neg hs80_759)).trans (if_neg hs80_761)), show (j3_84_e1_a qA qB qD qr0 qr1 qr2 qs qp) = (j3_84_e1 qA qB qD qr0 qr1 qr2 qs qp) from ((((if_pos hs63_753).trans (if_pos hc66_755)).trans (if_neg hs80_759)).trans (if_neg hs80_761)), show (j3_84_e2 qA qB qD qr0 qr1 qr2 qs qp) = (0 : Int32) from ((((if_pos hs63_753).trans (if_pos hc66_755)).trans (if_neg hs80_759)).trans (if_neg hs80_761))] at q
                        exact q _ _ _ X764 e764 N764 Zn764 K764 V_r V_w E_x0 F_wanted_x0 F_ring_x0 F_size_x0 F_place_x0
                  · skip
                    refine Goes.st (B := T711.setTop (mkF m 84 #[rv x0, iv (j3_20_1 qA qB qD qr0 qr1 qr2 qs qp), iv (j3_84_2_a qA qB qD qr0 qr1 qr2 qs qp), iv (2 : Int32)] [])) (fun t k => ?_) ?_
                    · refine XS.ifYes X711.here hx rfl (pc0 := 66) (pc' := 84) rfl (hb hby d3_66) rfl (fltL hc66_755).2.2.2 (by decide) (by decide) ?_
                      exact k
                    have q := jn84_750
                    rw [show (j3_84_2_b qA qB qD qr0 qr1 qr2 qs qp) = (j3_84_2_a qA qB qD qr0 qr1 qr2 qs qp) from ((if_pos hs63_753).trans (if_neg hc66_755)), show (j3_84_e0_b qA qB qD qr0 qr1 qr2 qs qp) = (j3_84_e0_a qA qB qD qr0 qr1 qr2 qs qp) from ((if_pos hs63_753).trans (if_neg hc66_755)), show (j3_84_e1_a qA qB qD qr0 qr1 qr2 qs qp) = (j3_84_e1 qA qB qD qr0 qr1 qr2 qs qp) from ((if_pos hs63_753).trans (if_neg hc66_755)), show (j3_84_e2 qA qB qD qr0 qr1 qr2 qs qp) = (0 : Int32) from ((if_pos hs63_753).trans (if_neg hc66_755))] at q
                    exact q _ _ _ X711 e711 N706 Zn706 K706 V_r V_w E_x0 F_wanted_x0 F_ring_x0 F_size_x0 F_place_x0
                · skip
                  by_cases hs63_765 : (j3_20_e2 qA qB qD qr0 qr1 qr2 qs qp) = (1 : Int32)
                  · skip
                    rw [hs63_765] at V_r
                    refine Goes.cast (show (mkF m 63 #[rv x0, iv (j3_20_1 qA qB qD qr0 qr1 qr2 qs qp), iv (j3_84_2_a qA qB qD qr0 qr1 qr2 qs qp), iv (2 : Int32)] [(.int (j3_20_e2 qA qB qD qr0 qr1 qr2 qs qp)), (.ref w)]) = (mkF m 63 #[rv x0, iv (j3_20_1 qA qB qD qr0 qr1 qr2 qs qp), iv (j3_84_2_a qA qB qD qr0 qr1 qr2 qs qp), iv (2 : Int32)] [(.int (1 : Int32)), (.ref w)]) by rw [hs63_765]) ?_
                    obtain ⟨cl766, Ar766, q766, S766, M766, Hs766, G766⟩ := id V_w
                    have hin766 : ¬ ((1 : Int32) < 0 ∨ cl766.slots.size ≤ ((1 : Int32)).toNatClampNeg) := inb_of S766 ⟨(by decide), (by decide)⟩
                    have hat766 : cl766.slots[((1 : Int32)).toNatClampNeg]? = some (.long (j3_20_e1_a qA qB qD qr0 qr1 qr2 qs qp)) := Hs766.at hin766 rfl
                    refine Goes.st (B := T711.setTop (mkF m 64 #[rv x0, iv (j3_20_1 qA qB qD qr0 qr1 qr2 qs qp), iv (j3_84_2_a qA qB qD qr0 qr1 qr2 qs qp), iv (2 : Int32)] [(.long (j3_20_e1_a qA qB qD qr0 qr1 qr2 qs qp))])) (X711.laload hx (j := (1 : Int32)) (v := (.long (j3_20_e1_a qA qB qD qr0 qr1 qr2 qs qp))) (by rw [e711]; exact Ar766.1) (State.isArrayOf_alike hZ.alike Ar766.2.1) Ar766.2.2 hin766 hat766 (g := (mkF m 63 #[rv x0, iv (j3_20_1 qA qB qD qr0 qr1 qr2 qs qp), iv (j3_84_2_a qA qB qD qr0 qr1 qr2 qs qp), iv (2 : Int32)] [(.int (1 : Int32)), (.ref w)])) rfl rfl (hb hby d3_63)) ?_
                    refine Goes.run X711 hx hown hci hcl hby (L := [(64, .lconst 0, 1), (65, .lcmp, 1)]) (by decide +kernel) rfl (g' := (mkF m 66 #[rv x0, iv (j3_20_1 qA qB qD qr0 qr1 qr2 qs qp), iv (j3_84_2_a qA qB qD qr0 qr1 qr2 qs qp), iv (2 : Int32)] [(.int (lcmpW (j3_20_e1_a qA qB qD qr0 qr1 qr2 qs qp) (0 : Int64)))])) rfl ?_
                    by_cases hc66_767 : (0 : Int64) < (j3_20_e1_a qA qB qD qr0 qr1 qr2 qs qp)
                    · skip
                      refine Goes.st (B := T711.setTop (mkF m 69 #[rv x0, iv (j3_20_1 qA qB qD qr0 qr1 qr2 qs qp), iv (j3_84_2_a qA qB qD qr0 qr1 qr2 qs qp), iv (2 : Int32)] [])) (fun t k => ?_) ?_
                      · refine XS.ifNo X711.here hx rfl (hb hby d3_66) rfl (tltL hc66_767).2.2.2 ?_
                        exact k
                      refine Goes.run X711 hx hown hci hcl hby (L := [(69, .aload_n 0, 1)]) (by decide +kernel) rfl (g' := (mkF m 70 #[rv x0, iv (j3_20_1 qA qB qD qr0 qr1 qr2 qs qp), iv (j3_84_2_a qA qB qD qr0 qr1 qr2 qs qp), iv (2 : Int32)] [(.ref x0)])) rfl ?_
                      obtain ⟨T768, X768, e768, st768⟩ := getF X711 hx hZ hown (host := "") (Or.inl w_29) Via.refl e711 F_ring_x0 (g := (mkF m 70 #[rv x0, iv (j3_20_1 qA qB qD qr0 qr1 qr2 qs qp), iv (j3_84_2_a qA qB qD qr0 qr1 qr2 qs qp), iv (2 : Int32)] [(.ref x0)])) rfl rfl (hb hby d3_70)
                      refine Goes.st (B := T768.setTop (mkF m 73 #[rv x0, iv (j3_20_1 qA qB qD qr0 qr1 qr2 qs qp), iv (j3_84_2_a qA qB qD qr0 qr1 qr2 qs qp), iv (2 : Int32)] [(.ref r)])) st768 ?_
                      refine Goes.run X768 hx hown hci hcl hby (L := [(73, .iload_n 2, 1), (74, .aload_n 0, 1)]) (by decide +kernel) rfl (g' := (mkF m 75 #[rv x0, iv (j3_20_1 qA qB qD qr0 qr1 qr2 qs qp), iv (j3_84_2_a qA qB qD qr0 qr1 qr2 qs qp), iv (2 : Int32)] [(.ref x0), (.int (j3_84_2_a qA qB qD qr0 qr1 qr2 qs qp)), (.ref r)])) rfl ?_
                      obtain ⟨T769, X769, e769, st769⟩ := getF X768 hx hZ hown (host := "") (Or.inl w_29) Via.refl e768 F_ring_x0 (g := (mkF m 75 #[rv x0, iv (j3_20_1 qA qB qD qr0 qr1 qr2 qs qp), iv (j3_84_2_a qA qB qD qr0 qr1 qr2 qs qp), iv (2 : Int32)] [(.ref x0), (.int (j3_84_2_a qA qB qD qr0 qr1 qr2 qs qp)), (.ref r)])) rfl rfl (hb hby d3_75)
                      refine Goes.st (B := T769.setTop (mkF m 78 #[rv x0, iv (j3_20_1 qA qB qD qr0 qr1 qr2 qs qp), iv (j3_84_2_a qA qB qD qr0 qr1 qr2 qs qp), iv (2 : Int32)] [(.ref r), (.int (j3_84_2_a qA qB qD qr0 qr1 qr2 qs qp)), (.ref r)])) st769 ?_
                      refine Goes.run X769 hx hown hci hcl hby (L := [(78, .iload_n 3, 1)]) (by decide +kernel) rfl (g' := (mkF m 79 #[rv x0, iv (j3_20_1 qA qB qD qr0 qr1 qr2 qs qp), iv (j3_84_2_a qA qB qD qr0 qr1 qr2 qs qp), iv (2 : Int32)] [(.int (2 : Int32)), (.ref r), (.int (j3_84_2_a qA qB qD qr0 qr1 qr2 qs qp)), (.ref r)])) rfl ?_
                      obtain ⟨cl770, Ar770, q770, S770, M770, Hs770, G770⟩ := id V_r
                      have hin770 : ¬ ((2 : Int32) < 0 ∨ cl770.slots.size ≤ ((2 : Int32)).toNatClampNeg) := inb_of S770 ⟨(by decide), (by decide)⟩
                      have hat770 : cl770.slots[((2 : Int32)).toNatClampNeg]? = some (.int (1 : Int32)) := Hs770.at hin770 rfl
                      refine Goes.st (B := T769.setTop (mkF m 80 #[rv x0, iv (j3_20_1 qA qB qD qr0 qr1 qr2 qs qp), iv (j3_84_2_a qA qB qD qr0 qr1 qr2 qs qp), iv (2 : Int32)] [(.int (1 : Int32)), (.int (j3_84_2_a qA qB qD qr0 qr1 qr2 qs qp)), (.ref r)])) (X769.iaload hx (j := (2 : Int32)) (v := (.int (1 : Int32))) (by rw [e769]; exact Ar770.1) (State.isArrayOf_alike hZ.alike Ar770.2.1) Ar770.2.2 hin770 hat770 (g := (mkF m 79 #[rv x0, iv (j3_20_1 qA qB qD qr0 qr1 qr2 qs qp), iv (j3_84_2_a qA qB qD qr0 qr1 qr2 qs qp), iv (2 : Int32)] [(.int (2 : Int32)), (.ref r), (.int (j3_84_2_a qA qB qD qr0 qr1 qr2 qs qp)), (.ref r)])) rfl rfl (hb hby d3_79)) ?_
                      by_cases hs80_771 : (j3_84_2_a qA qB qD qr0 qr1 qr2 qs qp) = (0 : Int32)
                      · skip
                        refine Goes.cast (show (mkF m 80 #[rv x0, iv (j3_20_1 qA qB qD qr0 qr1 qr2 qs qp), iv (j3_84_2_a qA qB qD qr0 qr1 qr2 qs qp), iv (2 : Int32)] [(.int (1 : Int32)), (.int (j3_84_2_a qA qB qD qr0 qr1 qr2 qs qp)), (.ref r)]) = (mkF m 80 #[rv x0, iv (j3_20_1 qA qB qD qr0 qr1 qr2 qs qp), iv (0 : Int32), iv (2 : Int32)] [(.int (1 : Int32)), (.int (0 : Int32)), (.ref r)]) by rw [hs80_771]) ?_
                        obtain ⟨cl772, Ar772, q772, S772, M772, Hs772, G772⟩ := id V_r
                        have hin772 : ¬ ((0 : Int32) < 0 ∨ cl772.slots.size ≤ ((0 : Int32)).toNatClampNeg) := inb_of S772 ⟨(by decide), (by decide)⟩
                        obtain ⟨T772, h772, X772, e772, W772, st772⟩ := stI X769 hx hZ e769 Ar772 (j := (0 : Int32)) hin772 (g := (mkF m 80 #[rv x0, iv (j3_20_1 qA qB qD qr0 qr1 qr2 qs qp), iv (0 : Int32), iv (2 : Int32)] [(.int (1 : Int32)), (.int (0 : Int32)), (.ref r)])) rfl rfl (hb hby d3_80)
                        have V_w := V_w.other W772 nwr
                        have E_x0 := E_x0.wr W772
                        have F_wanted_x0 := F_wanted_x0.other W772 (Or.inl nxr)
                        have F_ring_x0 := F_ring_x0.other W772 (Or.inl nxr)
                        have F_size_x0 := F_size_x0.other W772 (Or.inl nxr)
                        have F_place_x0 := F_place_x0.other W772 (Or.inl nxr)
                        have Zn772 : n0 ≤ h772.size := Nat.le_trans Zn706 (Keep.of_wr W772).1
                        have K772 := K706.wr W772 (Or.inl (List.mem_of_getElem? (i := 2) rfl))
                        have N772 := Fr.snoc X772 N706 g_r
                        have V_r : Arv Z h772 r kr .int (3 : Int32) [(.int (1 : Int32)), (.int (j3_84_e1 qA qB qD qr0 qr1 qr2 qs qp)), (.int (1 : Int32))] (.int (0 : Int32)) := Arv.set Ar772 q772 S772 M772 Hs772 G772 rfl W772 0 rfl (Nat.le_of_ble_eq_true rfl)
                        refine Goes.st (B := T772.setTop (mkF m 81 #[rv x0, iv (j3_20_1 qA qB qD qr0 qr1 qr2 qs qp), iv (0 : Int32), iv (2 : Int32)] [])) st772 ?_
                        refine Goes.run X772 hx hown hci hcl hby (L := [(81, .iinc 2 1, 3)]) (by decide +kernel) rfl (g' := (mkF m 84 #[rv x0, iv (j3_20_1 qA qB qD qr0 qr1 qr2 qs qp), iv (1 : Int32), iv (2 : Int32)] [])) rfl ?_
                        have q := jn84_750
                        rw [show (j3_84_2_b qA qB qD qr0 qr1 qr2 qs qp) = (1 : Int32) from ((((if_neg hs63_753).trans (if_pos hs63_765)).trans (if_pos hc66_767)).trans (if_pos hs80_771)), show (j3_84_e0_b qA qB qD qr0 qr1 qr2 qs qp) = (1 : Int32) from ((((if_neg hs63_753).trans (if_pos hs63_765)).trans (if_pos hc66_767)).trans (if_pos hs80_771)), show (j3_84_e1_a qA qB qD qr0 qr1 qr2 qs qp) = (j3_84_e1 qA qB qD qr0 qr1 qr2 qs qp) from ((((if_neg hs63_753).trans (if_pos hs63_765)).trans (if_pos hc66_767)).trans (if_pos hs80_771)), show (j3_84_e2 qA qB qD qr0 qr1 qr2 qs qp) = (1 : Int32) from ((((if_neg hs63_753).trans (if_pos hs63_765)).trans (if_pos hc66_767)).trans (if_pos hs80_771))] at q
                        exact q _ _ _ X772 e772 N772 Zn772 K772 V_r V_w E_x0 F_wanted_x0 F_ring_x0 F_size_x0 F_place_x0
                      · skip
                        by_cases hs80_773 : (j3_84_2_a qA qB qD qr0 qr1 qr2 qs qp) = (1 : Int32)
                        · skip
                          refine Goes.cast (show (mkF m 80 #[rv x0, iv (j3_20_1 qA qB qD qr0 qr1 qr2 qs qp), iv (j3_84_2_a qA qB qD qr0 qr1 qr2 qs qp), iv (2 : Int32)] [(.int (1 : Int32)), (.int (j3_84_2_a qA qB qD qr0 qr1 qr2 qs qp)), (.ref r)]) = (mkF m 80 #[rv x0, iv (j3_20_1 qA qB qD qr0 qr1 qr2 qs qp), iv (1 : Int32), iv (2 : Int32)] [(.int (1 : Int32)), (.int (1 : Int32)), (.ref r)]) by rw [hs80_773]) ?_
                          obtain ⟨cl774, Ar774, q774, S774, M774, Hs774, G774⟩ := id V_r
                          have hin774 : ¬ ((1 : Int32) < 0 ∨ cl774.slots.size ≤ ((1 : Int32)).toNatClampNeg) := inb_of S774 ⟨(by decide), (by decide)⟩
                          obtain ⟨T774, h774, X774, e774, W774, st774⟩ := stI X769 hx hZ e769 Ar774 (j := (1 : Int32)) hin774 (g := (mkF m 80 #[rv x0, iv (j3_20_1 qA qB qD qr0 qr1 qr2 qs qp), iv (1 : Int32), iv (2 : Int32)] [(.int (1 : Int32)), (.int (1 : Int32)), (.ref r)])) rfl rfl (hb hby d3_80)
                          have V_w := V_w.other W774 nwr
                          have E_x0 := E_x0.wr W774
                          have F_wanted_x0 := F_wanted_x0.other W774 (Or.inl nxr)
                          have F_ring_x0 := F_ring_x0.other W774 (Or.inl nxr)
                          have F_size_x0 := F_size_x0.other W774 (Or.inl nxr)
                          have F_place_x0 := F_place_x0.other W774 (Or.inl nxr)
                          have Zn774 : n0 ≤ h774.size := Nat.le_trans Zn706 (Keep.of_wr W774).1
                          have K774 := K706.wr W774 (Or.inl (List.mem_of_getElem? (i := 2) rfl))
                          have N774 := Fr.snoc X774 N706 g_r
                          have V_r : Arv Z h774 r kr .int (3 : Int32) [(.int (j3_84_e0_a qA qB qD qr0 qr1 qr2 qs qp)), (.int (1 : Int32)), (.int (1 : Int32))] (.int (0 : Int32)) := Arv.set Ar774 q774 S774 M774 Hs774 G774 rfl W774 1 rfl (Nat.le_of_ble_eq_true rfl)
                          refine Goes.st (B := T774.setTop (mkF m 81 #[rv x0, iv (j3_20_1 qA qB qD qr0 qr1 qr2 qs qp), iv (1 : Int32), iv (2 : Int32)] [])) st774 ?_
                          refine Goes.run X774 hx hown hci hcl hby (L := [(81, .iinc 2 1, 3)]) (by decide +kernel) rfl (g' := (mkF m 84 #[rv x0, iv (j3_20_1 qA qB qD qr0 qr1 qr2 qs qp), iv (2 : Int32), iv (2 : Int32)] [])) rfl ?_
                          have q := jn84_750
                          rw [show (j3_84_2_b qA qB qD qr0 qr1 qr2 qs qp) = (2 : Int32) from (((((if_neg hs63_753).trans (if_pos hs63_765)).trans (if_pos hc66_767)).trans (if_neg hs80_771)).trans (if_pos hs80_773)), show (j3_84_e0_b qA qB qD qr0 qr1 qr2 qs qp) = (j3_84_e0_a qA qB qD qr0 qr1 qr2 qs qp) from (((((if_neg hs63_753).trans (if_pos hs63_765)).trans (if_pos hc66_767)).trans (if_neg hs80_771)).trans (if_pos hs80_773)), show (j3_84_e1_a qA qB qD qr0 qr1 qr2 qs qp) = (1 : Int32) from (((((if_neg hs63_753).trans (if_pos hs63_765)).trans (if_pos hc66_767)).trans (if_neg hs80_771)).trans (if_pos hs80_773)), show (j3_84_e2 qA qB qD qr0 qr1 qr2 qs qp) = (1 : Int32) from (((((if_neg hs63_753).trans (if_pos hs63_765)).trans (if_pos hc66_767)).trans (if_neg hs80_771)).trans (if_pos hs80_773))] at q
                          exact q _ _ _ X774 e774 N774 Zn774 K774 V_r V_w E_x0 F_wanted_x0 F_ring_x0 F_size_x0 F_place_x0
                        · skip
                          have hs80_775 : (j3_84_2_a qA qB qD qr0 qr1 qr2 qs qp) = (2 : Int32) := own_la3 (own_k2 qA qB qD qr0 qr1 qr2 qs qp) hs80_771 hs80_773
                          refine Goes.cast (show (mkF m 80 #[rv x0, iv (j3_20_1 qA qB qD qr0 qr1 qr2 qs qp), iv (j3_84_2_a qA qB qD qr0 qr1 qr2 qs qp), iv (2 : Int32)] [(.int (1 : Int32)), (.int (j3_84_2_a qA qB qD qr0 qr1 qr2 qs qp)), (.ref r)]) = (mkF m 80 #[rv x0, iv (j3_20_1 qA qB qD qr0 qr1 qr2 qs qp), iv (2 : Int32), iv (2 : Int32)] [(.int (1 : Int32)), (.int (2 : Int32)), (.ref r)]) by rw [hs80_775]) ?_
                          obtain ⟨cl776, Ar776, q776, S776, M776, Hs776, G776⟩ := id V_r
                          have hin776 : ¬ ((2 : Int32) < 0 ∨ cl776.slots.size ≤ ((2 : Int32)).toNatClampNeg) := inb_of S776 ⟨(by decide), (by decide)⟩
                          obtain ⟨T776, h776, X776, e776, W776, st776⟩ := stI X769 hx hZ e769 Ar776 (j := (2 : Int32)) hin776 (g := (mkF m 80 #[rv x0, iv (j3_20_1 qA qB qD qr0 qr1 qr2 qs qp), iv (2 : Int32), iv (2 : Int32)] [(.int (1 : Int32)), (.int (2 : Int32)), (.ref r)])) rfl rfl (hb hby d3_80)
                          have V_w := V_w.other W776 nwr
                          have E_x0 := E_x0.wr W776
                          have F_wanted_x0 := F_wanted_x0.other W776 (Or.inl nxr)
                          have F_ring_x0 := F_ring_x0.other W776 (Or.inl nxr)
                          have F_size_x0 := F_size_x0.other W776 (Or.inl nxr)
                          have F_place_x0 := F_place_x0.other W776 (Or.inl nxr)
                          have Zn776 : n0 ≤ h776.size := Nat.le_trans Zn706 (Keep.of_wr W776).1
                          have K776 := K706.wr W776 (Or.inl (List.mem_of_getElem? (i := 2) rfl))
                          have N776 := Fr.snoc X776 N706 g_r
                          have V_r : Arv Z h776 r kr .int (3 : Int32) [(.int (j3_84_e0_a qA qB qD qr0 qr1 qr2 qs qp)), (.int (j3_84_e1 qA qB qD qr0 qr1 qr2 qs qp)), (.int (1 : Int32))] (.int (0 : Int32)) := Arv.set Ar776 q776 S776 M776 Hs776 G776 rfl W776 2 rfl (Nat.le_of_ble_eq_true rfl)
                          refine Goes.st (B := T776.setTop (mkF m 81 #[rv x0, iv (j3_20_1 qA qB qD qr0 qr1 qr2 qs qp), iv (2 : Int32), iv (2 : Int32)] [])) st776 ?_
                          refine Goes.run X776 hx hown hci hcl hby (L := [(81, .iinc 2 1, 3)]) (by decide +kernel) rfl (g' := (mkF m 84 #[rv x0, iv (j3_20_1 qA qB qD qr0 qr1 qr2 qs qp), iv (3 : Int32), iv (2 : Int32)] [])) rfl ?_
                          have q := jn84_750
                          rw [show (j3_84_2_b qA qB qD qr0 qr1 qr2 qs qp) = (3 : Int32) from (((((if_neg hs63_753).trans (if_pos hs63_765)).trans (if_pos hc66_767)).trans (if_neg hs80_771)).trans (if_neg hs80_773)), show (j3_84_e0_b qA qB qD qr0 qr1 qr2 qs qp) = (j3_84_e0_a qA qB qD qr0 qr1 qr2 qs qp) from (((((if_neg hs63_753).trans (if_pos hs63_765)).trans (if_pos hc66_767)).trans (if_neg hs80_771)).trans (if_neg hs80_773)), show (j3_84_e1_a qA qB qD qr0 qr1 qr2 qs qp) = (j3_84_e1 qA qB qD qr0 qr1 qr2 qs qp) from (((((if_neg hs63_753).trans (if_pos hs63_765)).trans (if_pos hc66_767)).trans (if_neg hs80_771)).trans (if_neg hs80_773)), show (j3_84_e2 qA qB qD qr0 qr1 qr2 qs qp) = (1 : Int32) from (((((if_neg hs63_753).trans (if_pos hs63_765)).trans (if_pos hc66_767)).trans (if_neg hs80_771)).trans (if_neg hs80_773))] at q
                          exact q _ _ _ X776 e776 N776 Zn776 K776 V_r V_w E_x0 F_wanted_x0 F_ring_x0 F_size_x0 F_place_x0
                    · skip
                      refine Goes.st (B := T711.setTop (mkF m 84 #[rv x0, iv (j3_20_1 qA qB qD qr0 qr1 qr2 qs qp), iv (j3_84_2_a qA qB qD qr0 qr1 qr2 qs qp), iv (2 : Int32)] [])) (fun t k => ?_) ?_
                      · refine XS.ifYes X711.here hx rfl (pc0 := 66) (pc' := 84) rfl (hb hby d3_66) rfl (fltL hc66_767).2.2.2 (by decide) (by decide) ?_
                        exact k
                      have q := jn84_750
                      rw [show (j3_84_2_b qA qB qD qr0 qr1 qr2 qs qp) = (j3_84_2_a qA qB qD qr0 qr1 qr2 qs qp) from (((if_neg hs63_753).trans (if_pos hs63_765)).trans (if_neg hc66_767)), show (j3_84_e0_b qA qB qD qr0 qr1 qr2 qs qp) = (j3_84_e0_a qA qB qD qr0 qr1 qr2 qs qp) from (((if_neg hs63_753).trans (if_pos hs63_765)).trans (if_neg hc66_767)), show (j3_84_e1_a qA qB qD qr0 qr1 qr2 qs qp) = (j3_84_e1 qA qB qD qr0 qr1 qr2 qs qp) from (((if_neg hs63_753).trans (if_pos hs63_765)).trans (if_neg hc66_767)), show (j3_84_e2 qA qB qD qr0 qr1 qr2 qs qp) = (1 : Int32) from (((if_neg hs63_753).trans (if_pos hs63_765)).trans (if_neg hc66_767))] at q
                      exact q _ _ _ X711 e711 N706 Zn706 K706 V_r V_w E_x0 F_wanted_x0 F_ring_x0 F_size_x0 F_place_x0
                  · skip
                    have hs63_777 : (j3_20_e2 qA qB qD qr0 qr1 qr2 qs qp) = (2 : Int32) := own_la3 (own_rr2 qA qB qD qr0 qr1 qr2 qs qp hR0 hR1 hR2) hs63_753 hs63_765
                    rw [hs63_777] at V_r
                    refine Goes.cast (show (mkF m 63 #[rv x0, iv (j3_20_1 qA qB qD qr0 qr1 qr2 qs qp), iv (j3_84_2_a qA qB qD qr0 qr1 qr2 qs qp), iv (2 : Int32)] [(.int (j3_20_e2 qA qB qD qr0 qr1 qr2 qs qp)), (.ref w)]) = (mkF m 63 #[rv x0, iv (j3_20_1 qA qB qD qr0 qr1 qr2 qs qp), iv (j3_84_2_a qA qB qD qr0 qr1 qr2 qs qp), iv (2 : Int32)] [(.int (2 : Int32)), (.ref w)]) by rw [hs63_777]) ?_
                    obtain ⟨cl778, Ar778, q778, S778, M778, Hs778, G778⟩ := id V_w
                    have hin778 : ¬ ((2 : Int32) < 0 ∨ cl778.slots.size ≤ ((2 : Int32)).toNatClampNeg) := inb_of S778 ⟨(by decide), (by decide)⟩
                    have hat778 : cl778.slots[((2 : Int32)).toNatClampNeg]? = some (.long (j3_20_e2_a qA qB qD qr0 qr1 qr2 qs qp)) := Hs778.at hin778 rfl
                    refine Goes.st (B := T711.setTop (mkF m 64 #[rv x0, iv (j3_20_1 qA qB qD qr0 qr1 qr2 qs qp), iv (j3_84_2_a qA qB qD qr0 qr1 qr2 qs qp), iv (2 : Int32)] [(.long (j3_20_e2_a qA qB qD qr0 qr1 qr2 qs qp))])) (X711.laload hx (j := (2 : Int32)) (v := (.long (j3_20_e2_a qA qB qD qr0 qr1 qr2 qs qp))) (by rw [e711]; exact Ar778.1) (State.isArrayOf_alike hZ.alike Ar778.2.1) Ar778.2.2 hin778 hat778 (g := (mkF m 63 #[rv x0, iv (j3_20_1 qA qB qD qr0 qr1 qr2 qs qp), iv (j3_84_2_a qA qB qD qr0 qr1 qr2 qs qp), iv (2 : Int32)] [(.int (2 : Int32)), (.ref w)])) rfl rfl (hb hby d3_63)) ?_
                    refine Goes.run X711 hx hown hci hcl hby (L := [(64, .lconst 0, 1), (65, .lcmp, 1)]) (by decide +kernel) rfl (g' := (mkF m 66 #[rv x0, iv (j3_20_1 qA qB qD qr0 qr1 qr2 qs qp), iv (j3_84_2_a qA qB qD qr0 qr1 qr2 qs qp), iv (2 : Int32)] [(.int (lcmpW (j3_20_e2_a qA qB qD qr0 qr1 qr2 qs qp) (0 : Int64)))])) rfl ?_
                    by_cases hc66_779 : (0 : Int64) < (j3_20_e2_a qA qB qD qr0 qr1 qr2 qs qp)
                    · skip
                      refine Goes.st (B := T711.setTop (mkF m 69 #[rv x0, iv (j3_20_1 qA qB qD qr0 qr1 qr2 qs qp), iv (j3_84_2_a qA qB qD qr0 qr1 qr2 qs qp), iv (2 : Int32)] [])) (fun t k => ?_) ?_
                      · refine XS.ifNo X711.here hx rfl (hb hby d3_66) rfl (tltL hc66_779).2.2.2 ?_
                        exact k
                      refine Goes.run X711 hx hown hci hcl hby (L := [(69, .aload_n 0, 1)]) (by decide +kernel) rfl (g' := (mkF m 70 #[rv x0, iv (j3_20_1 qA qB qD qr0 qr1 qr2 qs qp), iv (j3_84_2_a qA qB qD qr0 qr1 qr2 qs qp), iv (2 : Int32)] [(.ref x0)])) rfl ?_
                      obtain ⟨T780, X780, e780, st780⟩ := getF X711 hx hZ hown (host := "") (Or.inl w_29) Via.refl e711 F_ring_x0 (g := (mkF m 70 #[rv x0, iv (j3_20_1 qA qB qD qr0 qr1 qr2 qs qp), iv (j3_84_2_a qA qB qD qr0 qr1 qr2 qs qp), iv (2 : Int32)] [(.ref x0)])) rfl rfl (hb hby d3_70)
                      refine Goes.st (B := T780.setTop (mkF m 73 #[rv x0, iv (j3_20_1 qA qB qD qr0 qr1 qr2 qs qp), iv (j3_84_2_a qA qB qD qr0 qr1 qr2 qs qp), iv (2 : Int32)] [(.ref r)])) st780 ?_
                      refine Goes.run X780 hx hown hci hcl hby (L := [(73, .iload_n 2, 1), (74, .aload_n 0, 1)]) (by decide +kernel) rfl (g' := (mkF m 75 #[rv x0, iv (j3_20_1 qA qB qD qr0 qr1 qr2 qs qp), iv (j3_84_2_a qA qB qD qr0 qr1 qr2 qs qp), iv (2 : Int32)] [(.ref x0), (.int (j3_84_2_a qA qB qD qr0 qr1 qr2 qs qp)), (.ref r)])) rfl ?_
                      obtain ⟨T781, X781, e781, st781⟩ := getF X780 hx hZ hown (host := "") (Or.inl w_29) Via.refl e780 F_ring_x0 (g := (mkF m 75 #[rv x0, iv (j3_20_1 qA qB qD qr0 qr1 qr2 qs qp), iv (j3_84_2_a qA qB qD qr0 qr1 qr2 qs qp), iv (2 : Int32)] [(.ref x0), (.int (j3_84_2_a qA qB qD qr0 qr1 qr2 qs qp)), (.ref r)])) rfl rfl (hb hby d3_75)
                      refine Goes.st (B := T781.setTop (mkF m 78 #[rv x0, iv (j3_20_1 qA qB qD qr0 qr1 qr2 qs qp), iv (j3_84_2_a qA qB qD qr0 qr1 qr2 qs qp), iv (2 : Int32)] [(.ref r), (.int (j3_84_2_a qA qB qD qr0 qr1 qr2 qs qp)), (.ref r)])) st781 ?_
                      refine Goes.run X781 hx hown hci hcl hby (L := [(78, .iload_n 3, 1)]) (by decide +kernel) rfl (g' := (mkF m 79 #[rv x0, iv (j3_20_1 qA qB qD qr0 qr1 qr2 qs qp), iv (j3_84_2_a qA qB qD qr0 qr1 qr2 qs qp), iv (2 : Int32)] [(.int (2 : Int32)), (.ref r), (.int (j3_84_2_a qA qB qD qr0 qr1 qr2 qs qp)), (.ref r)])) rfl ?_
                      obtain ⟨cl782, Ar782, q782, S782, M782, Hs782, G782⟩ := id V_r
                      have hin782 : ¬ ((2 : Int32) < 0 ∨ cl782.slots.size ≤ ((2 : Int32)).toNatClampNeg) := inb_of S782 ⟨(by decide), (by decide)⟩
                      have hat782 : cl782.slots[((2 : Int32)).toNatClampNeg]? = some (.int (2 : Int32)) := Hs782.at hin782 rfl
                      refine Goes.st (B := T781.setTop (mkF m 80 #[rv x0, iv (j3_20_1 qA qB qD qr0 qr1 qr2 qs qp), iv (j3_84_2_a qA qB qD qr0 qr1 qr2 qs qp), iv (2 : Int32)] [(.int (2 : Int32)), (.int (j3_84_2_a qA qB qD qr0 qr1 qr2 qs qp)), (.ref r)])) (X781.iaload hx (j := (2 : Int32)) (v := (.int (2 : Int32))) (by rw [e781]; exact Ar782.1) (State.isArrayOf_alike hZ.alike Ar782.2.1) Ar782.2.2 hin782 hat782 (g := (mkF m 79 #[rv x0, iv (j3_20_1 qA qB qD qr0 qr1 qr2 qs qp), iv (j3_84_2_a qA qB qD qr0 qr1 qr2 qs qp), iv (2 : Int32)] [(.int (2 : Int32)), (.ref r), (.int (j3_84_2_a qA qB qD qr0 qr1 qr2 qs qp)), (.ref r)])) rfl rfl (hb hby d3_79)) ?_
                      by_cases hs80_783 : (j3_84_2_a qA qB qD qr0 qr1 qr2 qs qp) = (0 : Int32)
                      · skip
                        refine Goes.cast (show (mkF m 80 #[rv x0, iv (j3_20_1 qA qB qD qr0 qr1 qr2 qs qp), iv (j3_84_2_a qA qB qD qr0 qr1 qr2 qs qp), iv (2 : Int32)] [(.int (2 : Int32)), (.int (j3_84_2_a qA qB qD qr0 qr1 qr2 qs qp)), (.ref r)]) = (mkF m 80 #[rv x0, iv (j3_20_1 qA qB qD qr0 qr1 qr2 qs qp), iv (0 : Int32), iv (2 : Int32)] [(.int (2 : Int32)), (.int (0 : Int32)), (.ref r)]) by rw [hs80_783]) ?_
                        obtain ⟨cl784, Ar784, q784, S784, M784, Hs784, G784⟩ := id V_r
                        have hin784 : ¬ ((0 : Int32) < 0 ∨ cl784.slots.size ≤ ((0 : Int32)).toNatClampNeg) := inb_of S784 ⟨(by decide), (by decide)⟩
                        obtain ⟨T784, h784, X784, e784, W784, st784⟩ := stI X781 hx hZ e781 Ar784 (j := (0 : Int32)) hin784 (g := (mkF m 80 #[rv x0, iv (j3_20_1 qA qB qD qr0 qr1 qr2 qs qp), iv (0 : Int32), iv (2 : Int32)] [(.int (2 : Int32)), (.int (0 : Int32)), (.ref r)])) rfl rfl (hb hby d3_80)
                        have V_w := V_w.other W784 nwr
                        have E_x0 := E_x0.wr W784
                        have F_wanted_x0 := F_wanted_x0.other W784 (Or.inl nxr)
                        have F_ring_x0 := F_ring_x0.other W784 (Or.inl nxr)
                        have F_size_x0 := F_size_x0.other W784 (Or.inl nxr)
                        have F_place_x0 := F_place_x0.other W784 (Or.inl nxr)
                        have Zn784 : n0 ≤ h784.size := Nat.le_trans Zn706 (Keep.of_wr W784).1
                        have K784 := K706.wr W784 (Or.inl (List.mem_of_getElem? (i := 2) rfl))
                        have N784 := Fr.snoc X784 N706 g_r
                        have V_r : Arv Z h784 r kr .int (3 : Int32) [(.int (2 : Int32)), (.int (j3_84_e1 qA qB qD qr0 qr1 qr2 qs qp)), (.int (2 : Int32))] (.int (0 : Int32)) := Arv.set Ar784 q784 S784 M784 Hs784 G784 rfl W784 0 rfl (Nat.le_of_ble_eq_true rfl)
                        refine Goes.st (B := T784.setTop (mkF m 81 #[rv x0, iv (j3_20_1 qA qB qD qr0 qr1 qr2 qs qp), iv (0 : Int32), iv (2 : Int32)] [])) st784 ?_
                        refine Goes.run X784 hx hown hci hcl hby (L := [(81, .iinc 2 1, 3)]) (by decide +kernel) rfl (g' := (mkF m 84 #[rv x0, iv (j3_20_1 qA qB qD qr0 qr1 qr2 qs qp), iv (1 : Int32), iv (2 : Int32)] [])) rfl ?_
                        have q := jn84_750
                        rw [show (j3_84_2_b qA qB qD qr0 qr1 qr2 qs qp) = (1 : Int32) from ((((if_neg hs63_753).trans (if_neg hs63_765)).trans (if_pos hc66_779)).trans (if_pos hs80_783)), show (j3_84_e0_b qA qB qD qr0 qr1 qr2 qs qp) = (2 : Int32) from ((((if_neg hs63_753).trans (if_neg hs63_765)).trans (if_pos hc66_779)).trans (if_pos hs80_783)), show (j3_84_e1_a qA qB qD qr0 qr1 qr2 qs qp) = (j3_84_e1 qA qB qD qr0 qr1 qr2 qs qp) from ((((if_neg hs63_753).trans (if_neg hs63_765)).trans (if_pos hc66_779)).trans (if_pos hs80_783)), show (j3_84_e2 qA qB qD qr0 qr1 qr2 qs qp) = (2 : Int32) from ((((if_neg hs63_753).trans (if_neg hs63_765)).trans (if_pos hc66_779)).trans (if_pos hs80_783))] at q
                        exact q _ _ _ X784 e784 N784 Zn784 K784 V_r V_w E_x0 F_wanted_x0 F_ring_x0 F_size_x0 F_place_x0
                      · skip
                        by_cases hs80_785 : (j3_84_2_a qA qB qD qr0 qr1 qr2 qs qp) = (1 : Int32)
                        · skip
                          refine Goes.cast (show (mkF m 80 #[rv x0, iv (j3_20_1 qA qB qD qr0 qr1 qr2 qs qp), iv (j3_84_2_a qA qB qD qr0 qr1 qr2 qs qp), iv (2 : Int32)] [(.int (2 : Int32)), (.int (j3_84_2_a qA qB qD qr0 qr1 qr2 qs qp)), (.ref r)]) = (mkF m 80 #[rv x0, iv (j3_20_1 qA qB qD qr0 qr1 qr2 qs qp), iv (1 : Int32), iv (2 : Int32)] [(.int (2 : Int32)), (.int (1 : Int32)), (.ref r)]) by rw [hs80_785]) ?_
                          obtain ⟨cl786, Ar786, q786, S786, M786, Hs786, G786⟩ := id V_r
                          have hin786 : ¬ ((1 : Int32) < 0 ∨ cl786.slots.size ≤ ((1 : Int32)).toNatClampNeg) := inb_of S786 ⟨(by decide), (by decide)⟩
                          obtain ⟨T786, h786, X786, e786, W786, st786⟩ := stI X781 hx hZ e781 Ar786 (j := (1 : Int32)) hin786 (g := (mkF m 80 #[rv x0, iv (j3_20_1 qA qB qD qr0 qr1 qr2 qs qp), iv (1 : Int32), iv (2 : Int32)] [(.int (2 : Int32)), (.int (1 : Int32)), (.ref r)])) rfl rfl (hb hby d3_80)
                          have V_w := V_w.other W786 nwr
                          have E_x0 := E_x0.wr W786
                          have F_wanted_x0 := F_wanted_x0.other W786 (Or.inl nxr)
                          have F_ring_x0 := F_ring_x0.other W786 (Or.inl nxr)
                          have F_size_x0 := F_size_x0.other W786 (Or.inl nxr)
                          have F_place_x0 := F_place_x0.other W786 (Or.inl nxr)
                          have Zn786 : n0 ≤ h786.size := Nat.le_trans Zn706 (Keep.of_wr W786).1
                          have K786 := K706.wr W786 (Or.inl (List.mem_of_getElem? (i := 2) rfl))
                          have N786 := Fr.snoc X786 N706 g_r
                          have V_r : Arv Z h786 r kr .int (3 : Int32) [(.int (j3_84_e0_a qA qB qD qr0 qr1 qr2 qs qp)), (.int (2 : Int32)), (.int (2 : Int32))] (.int (0 : Int32)) := Arv.set Ar786 q786 S786 M786 Hs786 G786 rfl W786 1 rfl (Nat.le_of_ble_eq_true rfl)
                          refine Goes.st (B := T786.setTop (mkF m 81 #[rv x0, iv (j3_20_1 qA qB qD qr0 qr1 qr2 qs qp), iv (1 : Int32), iv (2 : Int32)] [])) st786 ?_
                          refine Goes.run X786 hx hown hci hcl hby (L := [(81, .iinc 2 1, 3)]) (by decide +kernel) rfl (g' := (mkF m 84 #[rv x0, iv (j3_20_1 qA qB qD qr0 qr1 qr2 qs qp), iv (2 : Int32), iv (2 : Int32)] [])) rfl ?_
                          have q := jn84_750
                          rw [show (j3_84_2_b qA qB qD qr0 qr1 qr2 qs qp) = (2 : Int32) from (((((if_neg hs63_753).trans (if_neg hs63_765)).trans (if_pos hc66_779)).trans (if_neg hs80_783)).trans (if_pos hs80_785)), show (j3_84_e0_b qA qB qD qr0 qr1 qr2 qs qp) = (j3_84_e0_a qA qB qD qr0 qr1 qr2 qs qp) from (((((if_neg hs63_753).trans (if_neg hs63_765)).trans (if_pos hc66_779)).trans (if_neg hs80_783)).trans (if_pos hs80_785)), show (j3_84_e1_a qA qB qD qr0 qr1 qr2 qs qp) = (2 : Int32) from (((((if_neg hs63_753).trans (if_neg hs63_765)).trans (if_pos hc66_779)).trans (if_neg hs80_783)).trans (if_pos hs80_785)), show (j3_84_e2 qA qB qD qr0 qr1 qr2 qs qp) = (2 : Int32) from (((((if_neg hs63_753).trans (if_neg hs63_765)).trans (if_pos hc66_779)).trans (if_neg hs80_783)).trans (if_pos hs80_785))] at q
                          exact q _ _ _ X786 e786 N786 Zn786 K786 V_r V_w E_x0 F_wanted_x0 F_ring_x0 F_size_x0 F_place_x0
                        · skip
                          have hs80_787 : (j3_84_2_a qA qB qD qr0 qr1 qr2 qs qp) = (2 : Int32) := own_la3 (own_k2 qA qB qD qr0 qr1 qr2 qs qp) hs80_783 hs80_785
                          refine Goes.cast (show (mkF m 80 #[rv x0, iv (j3_20_1 qA qB qD qr0 qr1 qr2 qs qp), iv (j3_84_2_a qA qB qD qr0 qr1 qr2 qs qp), iv (2 : Int32)] [(.int (2 : Int32)), (.int (j3_84_2_a qA qB qD qr0 qr1 qr2 qs qp)), (.ref r)]) = (mkF m 80 #[rv x0, iv (j3_20_1 qA qB qD qr0 qr1 qr2 qs qp), iv (2 : Int32), iv (2 : Int32)] [(.int (2 : Int32)), (.int (2 : Int32)), (.ref r)]) by rw [hs80_787]) ?_
                          obtain ⟨cl788, Ar788, q788, S788, M788, Hs788, G788⟩ := id V_r
                          have hin788 : ¬ ((2 : Int32) < 0 ∨ cl788.slots.size ≤ ((2 : Int32)).toNatClampNeg) := inb_of S788 ⟨(by decide), (by decide)⟩
                          obtain ⟨T788, h788, X788, e788, W788, st788⟩ := stI X781 hx hZ e781 Ar788 (j := (2 : Int32)) hin788 (g := (mkF m 80 #[rv x0, iv (j3_20_1 qA qB qD qr0 qr1 qr2 qs qp), iv (2 : Int32), iv (2 : Int32)] [(.int (2 : Int32)), (.int (2 : Int32)), (.ref r)])) rfl rfl (hb hby d3_80)
                          have V_w := V_w.other W788 nwr
                          have E_x0 := E_x0.wr W788
                          have F_wanted_x0 := F_wanted_x0.other W788 (Or.inl nxr)
                          have F_ring_x0 := F_ring_x0.other W788 (Or.inl nxr)
                          have F_size_x0 := F_size_x0.other W788 (Or.inl nxr)
                          have F_place_x0 := F_place_x0.other W788 (Or.inl nxr)
                          have Zn788 : n0 ≤ h788.size := Nat.le_trans Zn706 (Keep.of_wr W788).1
                          have K788 := K706.wr W788 (Or.inl (List.mem_of_getElem? (i := 2) rfl))
                          have N788 := Fr.snoc X788 N706 g_r
                          have V_r : Arv Z h788 r kr .int (3 : Int32) [(.int (j3_84_e0_a qA qB qD qr0 qr1 qr2 qs qp)), (.int (j3_84_e1 qA qB qD qr0 qr1 qr2 qs qp)), (.int (2 : Int32))] (.int (0 : Int32)) := Arv.set Ar788 q788 S788 M788 Hs788 G788 rfl W788 2 rfl (Nat.le_of_ble_eq_true rfl)
                          refine Goes.st (B := T788.setTop (mkF m 81 #[rv x0, iv (j3_20_1 qA qB qD qr0 qr1 qr2 qs qp), iv (2 : Int32), iv (2 : Int32)] [])) st788 ?_
                          refine Goes.run X788 hx hown hci hcl hby (L := [(81, .iinc 2 1, 3)]) (by decide +kernel) rfl (g' := (mkF m 84 #[rv x0, iv (j3_20_1 qA qB qD qr0 qr1 qr2 qs qp), iv (3 : Int32), iv (2 : Int32)] [])) rfl ?_
                          have q := jn84_750
                          rw [show (j3_84_2_b qA qB qD qr0 qr1 qr2 qs qp) = (3 : Int32) from (((((if_neg hs63_753).trans (if_neg hs63_765)).trans (if_pos hc66_779)).trans (if_neg hs80_783)).trans (if_neg hs80_785)), show (j3_84_e0_b qA qB qD qr0 qr1 qr2 qs qp) = (j3_84_e0_a qA qB qD qr0 qr1 qr2 qs qp) from (((((if_neg hs63_753).trans (if_neg hs63_765)).trans (if_pos hc66_779)).trans (if_neg hs80_783)).trans (if_neg hs80_785)), show (j3_84_e1_a qA qB qD qr0 qr1 qr2 qs qp) = (j3_84_e1 qA qB qD qr0 qr1 qr2 qs qp) from (((((if_neg hs63_753).trans (if_neg hs63_765)).trans (if_pos hc66_779)).trans (if_neg hs80_783)).trans (if_neg hs80_785)), show (j3_84_e2 qA qB qD qr0 qr1 qr2 qs qp) = (2 : Int32) from (((((if_neg hs63_753).trans (if_neg hs63_765)).trans (if_pos hc66_779)).trans (if_neg hs80_783)).trans (if_neg hs80_785))] at q
                          exact q _ _ _ X788 e788 N788 Zn788 K788 V_r V_w E_x0 F_wanted_x0 F_ring_x0 F_size_x0 F_place_x0
                    · skip
                      refine Goes.st (B := T711.setTop (mkF m 84 #[rv x0, iv (j3_20_1 qA qB qD qr0 qr1 qr2 qs qp), iv (j3_84_2_a qA qB qD qr0 qr1 qr2 qs qp), iv (2 : Int32)] [])) (fun t k => ?_) ?_
                      · refine XS.ifYes X711.here hx rfl (pc0 := 66) (pc' := 84) rfl (hb hby d3_66) rfl (fltL hc66_779).2.2.2 (by decide) (by decide) ?_
                        exact k
                      have q := jn84_750
                      rw [show (j3_84_2_b qA qB qD qr0 qr1 qr2 qs qp) = (j3_84_2_a qA qB qD qr0 qr1 qr2 qs qp) from (((if_neg hs63_753).trans (if_neg hs63_765)).trans (if_neg hc66_779)), show (j3_84_e0_b qA qB qD qr0 qr1 qr2 qs qp) = (j3_84_e0_a qA qB qD qr0 qr1 qr2 qs qp) from (((if_neg hs63_753).trans (if_neg hs63_765)).trans (if_neg hc66_779)), show (j3_84_e1_a qA qB qD qr0 qr1 qr2 qs qp) = (j3_84_e1 qA qB qD qr0 qr1 qr2 qs qp) from (((if_neg hs63_753).trans (if_neg hs63_765)).trans (if_neg hc66_779)), show (j3_84_e2 qA qB qD qr0 qr1 qr2 qs qp) = (2 : Int32) from (((if_neg hs63_753).trans (if_neg hs63_765)).trans (if_neg hc66_779))] at q
                      exact q _ _ _ X711 e711 N706 Zn706 K706 V_r V_w E_x0 F_wanted_x0 F_ring_x0 F_size_x0 F_place_x0
              · skip
                refine Goes.st (B := T708.setTop (mkF m 90 #[rv x0, iv (j3_20_1 qA qB qD qr0 qr1 qr2 qs qp), iv (j3_84_2_a qA qB qD qr0 qr1 qr2 qs qp), iv (2 : Int32)] [])) (fun t k => ?_) ?_
                · refine XS.icmpYes X708.here hx rfl (pc0 := 50) (pc' := 90) rfl (hb hby d3_50) rfl (flt hc50_709).2.1 (by decide) (by decide) ?_
                  exact k
                have q := jn90_642
                rw [show (j3_90_2 qA qB qD qr0 qr1 qr2 qs qp) = (j3_84_2_a qA qB qD qr0 qr1 qr2 qs qp) from (((if_pos hc50_445).trans (if_pos hc50_672)).trans (if_neg hc50_709)), show (j3_90_3 qA qB qD qr0 qr1 qr2 qs qp) = (2 : Int32) from (((if_pos hc50_445).trans (if_pos hc50_672)).trans (if_neg hc50_709)), show (j3_90_e0 qA qB qD qr0 qr1 qr2 qs qp) = (j3_84_e0_a qA qB qD qr0 qr1 qr2 qs qp) from (((if_pos hc50_445).trans (if_pos hc50_672)).trans (if_neg hc50_709)), show (j3_90_e1 qA qB qD qr0 qr1 qr2 qs qp) = (j3_84_e1 qA qB qD qr0 qr1 qr2 qs qp) from (((if_pos hc50_445).trans (if_pos hc50_672)).trans (if_neg hc50_709)), show (j3_90_e2 qA qB qD qr0 qr1 qr2 qs qp) = (j3_20_e2 qA qB qD qr0 qr1 qr2 qs qp) from (((if_pos hc50_445).trans (if_pos hc50_672)).trans (if_neg hc50_709))] at q
                exact q _ _ _ X708 e708 N706 Zn706 K706 V_r V_w E_x0 F_wanted_x0 F_ring_x0 F_size_x0 F_place_x0
            by_cases hs63_789 : (j3_20_e1 qA qB qD qr0 qr1 qr2 qs qp) = (0 : Int32)
            · skip
              rw [hs63_789] at V_r
              refine Goes.cast (show (mkF m 63 #[rv x0, iv (j3_20_1 qA qB qD qr0 qr1 qr2 qs qp), iv (j3_84_2 qA qB qD qr0 qr1 qr2 qs qp), iv (1 : Int32)] [(.int (j3_20_e1 qA qB qD qr0 qr1 qr2 qs qp)), (.ref w)]) = (mkF m 63 #[rv x0, iv (j3_20_1 qA qB qD qr0 qr1 qr2 qs qp), iv (j3_84_2 qA qB qD qr0 qr1 qr2 qs qp), iv (1 : Int32)] [(.int (0 : Int32)), (.ref w)]) by rw [hs63_789]) ?_
              obtain ⟨cl790, Ar790, q790, S790, M790, Hs790, G790⟩ := id V_w
              have hin790 : ¬ ((0 : Int32) < 0 ∨ cl790.slots.size ≤ ((0 : Int32)).toNatClampNeg) := inb_of S790 ⟨(by decide), (by decide)⟩
              have hat790 : cl790.slots[((0 : Int32)).toNatClampNeg]? = some (.long (j3_20_e0_a qA qB qD qr0 qr1 qr2 qs qp)) := Hs790.at hin790 rfl
              refine Goes.st (B := T674.setTop (mkF m 64 #[rv x0, iv (j3_20_1 qA qB qD qr0 qr1 qr2 qs qp), iv (j3_84_2 qA qB qD qr0 qr1 qr2 qs qp), iv (1 : Int32)] [(.long (j3_20_e0_a qA qB qD qr0 qr1 qr2 qs qp))])) (X674.laload hx (j := (0 : Int32)) (v := (.long (j3_20_e0_a qA qB qD qr0 qr1 qr2 qs qp))) (by rw [e674]; exact Ar790.1) (State.isArrayOf_alike hZ.alike Ar790.2.1) Ar790.2.2 hin790 hat790 (g := (mkF m 63 #[rv x0, iv (j3_20_1 qA qB qD qr0 qr1 qr2 qs qp), iv (j3_84_2 qA qB qD qr0 qr1 qr2 qs qp), iv (1 : Int32)] [(.int (0 : Int32)), (.ref w)])) rfl rfl (hb hby d3_63)) ?_
              refine Goes.run X674 hx hown hci hcl hby (L := [(64, .lconst 0, 1), (65, .lcmp, 1)]) (by decide +kernel) rfl (g' := (mkF m 66 #[rv x0, iv (j3_20_1 qA qB qD qr0 qr1 qr2 qs qp), iv (j3_84_2 qA qB qD qr0 qr1 qr2 qs qp), iv (1 : Int32)] [(.int (lcmpW (j3_20_e0_a qA qB qD qr0 qr1 qr2 qs qp) (0 : Int64)))])) rfl ?_
              by_cases hc66_791 : (0 : Int64) < (j3_20_e0_a qA qB qD qr0 qr1 qr2 qs qp)
              · skip
                refine Goes.st (B := T674.setTop (mkF m 69 #[rv x0, iv (j3_20_1 qA qB qD qr0 qr1 qr2 qs qp), iv (j3_84_2 qA qB qD qr0 qr1 qr2 qs qp), iv (1 : Int32)] [])) (fun t k => ?_) ?_
                · refine XS.ifNo X674.here hx rfl (hb hby d3_66) rfl (tltL hc66_791).2.2.2 ?_
                  exact k
                refine Goes.run X674 hx hown hci hcl hby (L := [(69, .aload_n 0, 1)]) (by decide +kernel) rfl (g' := (mkF m 70 #[rv x0, iv (j3_20_1 qA qB qD qr0 qr1 qr2 qs qp), iv (j3_84_2 qA qB qD qr0 qr1 qr2 qs qp), iv (1 : Int32)] [(.ref x0)])) rfl ?_
                obtain ⟨T792, X792, e792, st792⟩ := getF X674 hx hZ hown (host := "") (Or.inl w_29) Via.refl e674 F_ring_x0 (g := (mkF m 70 #[rv x0, iv (j3_20_1 qA qB qD qr0 qr1 qr2 qs qp), iv (j3_84_2 qA qB qD qr0 qr1 qr2 qs qp), iv (1 : Int32)] [(.ref x0)])) rfl rfl (hb hby d3_70)
                refine Goes.st (B := T792.setTop (mkF m 73 #[rv x0, iv (j3_20_1 qA qB qD qr0 qr1 qr2 qs qp), iv (j3_84_2 qA qB qD qr0 qr1 qr2 qs qp), iv (1 : Int32)] [(.ref r)])) st792 ?_
                refine Goes.run X792 hx hown hci hcl hby (L := [(73, .iload_n 2, 1), (74, .aload_n 0, 1)]) (by decide +kernel) rfl (g' := (mkF m 75 #[rv x0, iv (j3_20_1 qA qB qD qr0 qr1 qr2 qs qp), iv (j3_84_2 qA qB qD qr0 qr1 qr2 qs qp), iv (1 : Int32)] [(.ref x0), (.int (j3_84_2 qA qB qD qr0 qr1 qr2 qs qp)), (.ref r)])) rfl ?_
                obtain ⟨T793, X793, e793, st793⟩ := getF X792 hx hZ hown (host := "") (Or.inl w_29) Via.refl e792 F_ring_x0 (g := (mkF m 75 #[rv x0, iv (j3_20_1 qA qB qD qr0 qr1 qr2 qs qp), iv (j3_84_2 qA qB qD qr0 qr1 qr2 qs qp), iv (1 : Int32)] [(.ref x0), (.int (j3_84_2 qA qB qD qr0 qr1 qr2 qs qp)), (.ref r)])) rfl rfl (hb hby d3_75)
                refine Goes.st (B := T793.setTop (mkF m 78 #[rv x0, iv (j3_20_1 qA qB qD qr0 qr1 qr2 qs qp), iv (j3_84_2 qA qB qD qr0 qr1 qr2 qs qp), iv (1 : Int32)] [(.ref r), (.int (j3_84_2 qA qB qD qr0 qr1 qr2 qs qp)), (.ref r)])) st793 ?_
                refine Goes.run X793 hx hown hci hcl hby (L := [(78, .iload_n 3, 1)]) (by decide +kernel) rfl (g' := (mkF m 79 #[rv x0, iv (j3_20_1 qA qB qD qr0 qr1 qr2 qs qp), iv (j3_84_2 qA qB qD qr0 qr1 qr2 qs qp), iv (1 : Int32)] [(.int (1 : Int32)), (.ref r), (.int (j3_84_2 qA qB qD qr0 qr1 qr2 qs qp)), (.ref r)])) rfl ?_
                obtain ⟨cl794, Ar794, q794, S794, M794, Hs794, G794⟩ := id V_r
                have hin794 : ¬ ((1 : Int32) < 0 ∨ cl794.slots.size ≤ ((1 : Int32)).toNatClampNeg) := inb_of S794 ⟨(by decide), (by decide)⟩
                have hat794 : cl794.slots[((1 : Int32)).toNatClampNeg]? = some (.int (0 : Int32)) := Hs794.at hin794 rfl
                refine Goes.st (B := T793.setTop (mkF m 80 #[rv x0, iv (j3_20_1 qA qB qD qr0 qr1 qr2 qs qp), iv (j3_84_2 qA qB qD qr0 qr1 qr2 qs qp), iv (1 : Int32)] [(.int (0 : Int32)), (.int (j3_84_2 qA qB qD qr0 qr1 qr2 qs qp)), (.ref r)])) (X793.iaload hx (j := (1 : Int32)) (v := (.int (0 : Int32))) (by rw [e793]; exact Ar794.1) (State.isArrayOf_alike hZ.alike Ar794.2.1) Ar794.2.2 hin794 hat794 (g := (mkF m 79 #[rv x0, iv (j3_20_1 qA qB qD qr0 qr1 qr2 qs qp), iv (j3_84_2 qA qB qD qr0 qr1 qr2 qs qp), iv (1 : Int32)] [(.int (1 : Int32)), (.ref r), (.int (j3_84_2 qA qB qD qr0 qr1 qr2 qs qp)), (.ref r)])) rfl rfl (hb hby d3_79)) ?_
                by_cases hs80_795 : (j3_84_2 qA qB qD qr0 qr1 qr2 qs qp) = (0 : Int32)
                · skip
                  refine Goes.cast (show (mkF m 80 #[rv x0, iv (j3_20_1 qA qB qD qr0 qr1 qr2 qs qp), iv (j3_84_2 qA qB qD qr0 qr1 qr2 qs qp), iv (1 : Int32)] [(.int (0 : Int32)), (.int (j3_84_2 qA qB qD qr0 qr1 qr2 qs qp)), (.ref r)]) = (mkF m 80 #[rv x0, iv (j3_20_1 qA qB qD qr0 qr1 qr2 qs qp), iv (0 : Int32), iv (1 : Int32)] [(.int (0 : Int32)), (.int (0 : Int32)), (.ref r)]) by rw [hs80_795]) ?_
                  obtain ⟨cl796, Ar796, q796, S796, M796, Hs796, G796⟩ := id V_r
                  have hin796 : ¬ ((0 : Int32) < 0 ∨ cl796.slots.size ≤ ((0 : Int32)).toNatClampNeg) := inb_of S796 ⟨(by decide), (by decide)⟩
                  obtain ⟨T796, h796, X796, e796, W796, st796⟩ := stI X793 hx hZ e793 Ar796 (j := (0 : Int32)) hin796 (g := (mkF m 80 #[rv x0, iv (j3_20_1 qA qB qD qr0 qr1 qr2 qs qp), iv (0 : Int32), iv (1 : Int32)] [(.int (0 : Int32)), (.int (0 : Int32)), (.ref r)])) rfl rfl (hb hby d3_80)
                  have V_w := V_w.other W796 nwr
                  have E_x0 := E_x0.wr W796
                  have F_wanted_x0 := F_wanted_x0.other W796 (Or.inl nxr)
                  have F_ring_x0 := F_ring_x0.other W796 (Or.inl nxr)
                  have F_size_x0 := F_size_x0.other W796 (Or.inl nxr)
                  have F_place_x0 := F_place_x0.other W796 (Or.inl nxr)
                  have Zn796 : n0 ≤ h796.size := Nat.le_trans Zn669 (Keep.of_wr W796).1
                  have K796 := K669.wr W796 (Or.inl (List.mem_of_getElem? (i := 2) rfl))
                  have N796 := Fr.snoc X796 N669 g_r
                  have V_r : Arv Z h796 r kr .int (3 : Int32) [(.int (0 : Int32)), (.int (0 : Int32)), (.int (j3_20_e2 qA qB qD qr0 qr1 qr2 qs qp))] (.int (0 : Int32)) := Arv.set Ar796 q796 S796 M796 Hs796 G796 rfl W796 0 rfl (Nat.le_of_ble_eq_true rfl)
                  refine Goes.st (B := T796.setTop (mkF m 81 #[rv x0, iv (j3_20_1 qA qB qD qr0 qr1 qr2 qs qp), iv (0 : Int32), iv (1 : Int32)] [])) st796 ?_
                  refine Goes.run X796 hx hown hci hcl hby (L := [(81, .iinc 2 1, 3)]) (by decide +kernel) rfl (g' := (mkF m 84 #[rv x0, iv (j3_20_1 qA qB qD qr0 qr1 qr2 qs qp), iv (1 : Int32), iv (1 : Int32)] [])) rfl ?_
                  have q := jn84_707
                  rw [show (j3_84_2_a qA qB qD qr0 qr1 qr2 qs qp) = (1 : Int32) from (((if_pos hs63_789).trans (if_pos hc66_791)).trans (if_pos hs80_795)), show (j3_84_e0_a qA qB qD qr0 qr1 qr2 qs qp) = (0 : Int32) from (((if_pos hs63_789).trans (if_pos hc66_791)).trans (if_pos hs80_795)), show (j3_84_e1 qA qB qD qr0 qr1 qr2 qs qp) = (0 : Int32) from (((if_pos hs63_789).trans (if_pos hc66_791)).trans (if_pos hs80_795))] at q
                  exact q _ _ _ X796 e796 N796 Zn796 K796 V_r V_w E_x0 F_wanted_x0 F_ring_x0 F_size_x0 F_place_x0
                · skip
                  have hs80_797 : (j3_84_2 qA qB qD qr0 qr1 qr2 qs qp) = (1 : Int32) := own_la2 (own_k1 qA qB qD qr0 qr1 qr2 qs qp) hs80_795
                  refine Goes.cast (show (mkF m 80 #[rv x0, iv (j3_20_1 qA qB qD qr0 qr1 qr2 qs qp), iv (j3_84_2 qA qB qD qr0 qr1 qr2 qs qp), iv (1 : Int32)] [(.int (0 : Int32)), (.int (j3_84_2 qA qB qD qr0 qr1 qr2 qs qp)), (.ref r)]) = (mkF m 80 #[rv x0, iv (j3_20_1 qA qB qD qr0 qr1 qr2 qs qp), iv (1 : Int32), iv (1 : Int32)] [(.int (0 : Int32)), (.int (1 : Int32)), (.ref r)]) by rw [hs80_797]) ?_
                  obtain ⟨cl798, Ar798, q798, S798, M798, Hs798, G798⟩ := id V_r
                  have hin798 : ¬ ((1 : Int32) < 0 ∨ cl798.slots.size ≤ ((1 : Int32)).toNatClampNeg) := inb_of S798 ⟨(by decide), (by decide)⟩
                  obtain ⟨T798, h798, X798, e798, W798, st798⟩ := stI X793 hx hZ e793 Ar798 (j := (1 : Int32)) hin798 (g := (mkF m 80 #[rv x0, iv (j3_20_1 qA qB qD qr0 qr1 qr2 qs qp), iv (1 : Int32), iv (1 : Int32)] [(.int (0 : Int32)), (.int (1 : Int32)), (.ref r)])) rfl rfl (hb hby d3_80)
                  have V_w := V_w.other W798 nwr
                  have E_x0 := E_x0.wr W798
                  have F_wanted_x0 := F_wanted_x0.other W798 (Or.inl nxr)
                  have F_ring_x0 := F_ring_x0.other W798 (Or.inl nxr)
                  have F_size_x0 := F_size_x0.other W798 (Or.inl nxr)
                  have F_place_x0 := F_place_x0.other W798 (Or.inl nxr)
                  have Zn798 : n0 ≤ h798.size := Nat.le_trans Zn669 (Keep.of_wr W798).1
                  have K798 := K669.wr W798 (Or.inl (List.mem_of_getElem? (i := 2) rfl))
                  have N798 := Fr.snoc X798 N669 g_r
                  have V_r : Arv Z h798 r kr .int (3 : Int32) [(.int (j3_84_e0 qA qB qD qr0 qr1 qr2 qs qp)), (.int (0 : Int32)), (.int (j3_20_e2 qA qB qD qr0 qr1 qr2 qs qp))] (.int (0 : Int32)) := Arv.set Ar798 q798 S798 M798 Hs798 G798 rfl W798 1 rfl (Nat.le_of_ble_eq_true rfl)
                  refine Goes.st (B := T798.setTop (mkF m 81 #[rv x0, iv (j3_20_1 qA qB qD qr0 qr1 qr2 qs qp), iv (1 : Int32), iv (1 : Int32)] [])) st798 ?_
                  refine Goes.run X798 hx hown hci hcl hby (L := [(81, .iinc 2 1, 3)]) (by decide +kernel) rfl (g' := (mkF m 84 #[rv x0, iv (j3_20_1 qA qB qD qr0 qr1 qr2 qs qp), iv (2 : Int32), iv (1 : Int32)] [])) rfl ?_
                  have q := jn84_707
                  rw [show (j3_84_2_a qA qB qD qr0 qr1 qr2 qs qp) = (2 : Int32) from (((if_pos hs63_789).trans (if_pos hc66_791)).trans (if_neg hs80_795)), show (j3_84_e0_a qA qB qD qr0 qr1 qr2 qs qp) = (j3_84_e0 qA qB qD qr0 qr1 qr2 qs qp) from (((if_pos hs63_789).trans (if_pos hc66_791)).trans (if_neg hs80_795)), show (j3_84_e1 qA qB qD qr0 qr1 qr2 qs qp) = (0 : Int32) from (((if_pos hs63_789).trans (if_pos hc66_791)).trans (if_neg hs80_795))] at q
                  exact q _ _ _ X798 e798 N798 Zn798 K798 V_r V_w E_x0 F_wanted_x0 F_ring_x0 F_size_x0 F_place_x0
              · skip
                refine Goes.st (B := T674.setTop (mkF m 84 #[rv x0, iv (j3_20_1 qA qB qD qr0 qr1 qr2 qs qp), iv (j3_84_2 qA qB qD qr0 qr1 qr2 qs qp), iv (1 : Int32)] [])) (fun t k => ?_) ?_
                · refine XS.ifYes X674.here hx rfl (pc0 := 66) (pc' := 84) rfl (hb hby d3_66) rfl (fltL hc66_791).2.2.2 (by decide) (by decide) ?_
                  exact k
                have q := jn84_707
                rw [show (j3_84_2_a qA qB qD qr0 qr1 qr2 qs qp) = (j3_84_2 qA qB qD qr0 qr1 qr2 qs qp) from ((if_pos hs63_789).trans (if_neg hc66_791)), show (j3_84_e0_a qA qB qD qr0 qr1 qr2 qs qp) = (j3_84_e0 qA qB qD qr0 qr1 qr2 qs qp) from ((if_pos hs63_789).trans (if_neg hc66_791)), show (j3_84_e1 qA qB qD qr0 qr1 qr2 qs qp) = (0 : Int32) from ((if_pos hs63_789).trans (if_neg hc66_791))] at q
                exact q _ _ _ X674 e674 N669 Zn669 K669 V_r V_w E_x0 F_wanted_x0 F_ring_x0 F_size_x0 F_place_x0
            · skip
              by_cases hs63_799 : (j3_20_e1 qA qB qD qr0 qr1 qr2 qs qp) = (1 : Int32)
              · skip
                rw [hs63_799] at V_r
                refine Goes.cast (show (mkF m 63 #[rv x0, iv (j3_20_1 qA qB qD qr0 qr1 qr2 qs qp), iv (j3_84_2 qA qB qD qr0 qr1 qr2 qs qp), iv (1 : Int32)] [(.int (j3_20_e1 qA qB qD qr0 qr1 qr2 qs qp)), (.ref w)]) = (mkF m 63 #[rv x0, iv (j3_20_1 qA qB qD qr0 qr1 qr2 qs qp), iv (j3_84_2 qA qB qD qr0 qr1 qr2 qs qp), iv (1 : Int32)] [(.int (1 : Int32)), (.ref w)]) by rw [hs63_799]) ?_
                obtain ⟨cl800, Ar800, q800, S800, M800, Hs800, G800⟩ := id V_w
                have hin800 : ¬ ((1 : Int32) < 0 ∨ cl800.slots.size ≤ ((1 : Int32)).toNatClampNeg) := inb_of S800 ⟨(by decide), (by decide)⟩
                have hat800 : cl800.slots[((1 : Int32)).toNatClampNeg]? = some (.long (j3_20_e1_a qA qB qD qr0 qr1 qr2 qs qp)) := Hs800.at hin800 rfl
                refine Goes.st (B := T674.setTop (mkF m 64 #[rv x0, iv (j3_20_1 qA qB qD qr0 qr1 qr2 qs qp), iv (j3_84_2 qA qB qD qr0 qr1 qr2 qs qp), iv (1 : Int32)] [(.long (j3_20_e1_a qA qB qD qr0 qr1 qr2 qs qp))])) (X674.laload hx (j := (1 : Int32)) (v := (.long (j3_20_e1_a qA qB qD qr0 qr1 qr2 qs qp))) (by rw [e674]; exact Ar800.1) (State.isArrayOf_alike hZ.alike Ar800.2.1) Ar800.2.2 hin800 hat800 (g := (mkF m 63 #[rv x0, iv (j3_20_1 qA qB qD qr0 qr1 qr2 qs qp), iv (j3_84_2 qA qB qD qr0 qr1 qr2 qs qp), iv (1 : Int32)] [(.int (1 : Int32)), (.ref w)])) rfl rfl (hb hby d3_63)) ?_
                refine Goes.run X674 hx hown hci hcl hby (L := [(64, .lconst 0, 1), (65, .lcmp, 1)]) (by decide +kernel) rfl (g' := (mkF m 66 #[rv x0, iv (j3_20_1 qA qB qD qr0 qr1 qr2 qs qp), iv (j3_84_2 qA qB qD qr0 qr1 qr2 qs qp), iv (1 : Int32)] [(.int (lcmpW (j3_20_e1_a qA qB qD qr0 qr1 qr2 qs qp) (0 : Int64)))])) rfl ?_
                by_cases hc66_801 : (0 : Int64) < (j3_20_e1_a qA qB qD qr0 qr1 qr2 qs qp)
                · skip
                  refine Goes.st (B := T674.setTop (mkF m 69 #[rv x0, iv (j3_20_1 qA qB qD qr0 qr1 qr2 qs qp), iv (j3_84_2 qA qB qD qr0 qr1 qr2 qs qp), iv (1 : Int32)] [])) (fun t k => ?_) ?_
                  · refine XS.ifNo X674.here hx rfl (hb hby d3_66) rfl (tltL hc66_801).2.2.2 ?_
                    exact k
                  refine Goes.run X674 hx hown hci hcl hby (L := [(69, .aload_n 0, 1)]) (by decide +kernel) rfl (g' := (mkF m 70 #[rv x0, iv (j3_20_1 qA qB qD qr0 qr1 qr2 qs qp), iv (j3_84_2 qA qB qD qr0 qr1 qr2 qs qp), iv (1 : Int32)] [(.ref x0)])) rfl ?_
                  obtain ⟨T802, X802, e802, st802⟩ := getF X674 hx hZ hown (host := "") (Or.inl w_29) Via.refl e674 F_ring_x0 (g := (mkF m 70 #[rv x0, iv (j3_20_1 qA qB qD qr0 qr1 qr2 qs qp), iv (j3_84_2 qA qB qD qr0 qr1 qr2 qs qp), iv (1 : Int32)] [(.ref x0)])) rfl rfl (hb hby d3_70)
                  refine Goes.st (B := T802.setTop (mkF m 73 #[rv x0, iv (j3_20_1 qA qB qD qr0 qr1 qr2 qs qp), iv (j3_84_2 qA qB qD qr0 qr1 qr2 qs qp), iv (1 : Int32)] [(.ref r)])) st802 ?_
                  refine Goes.run X802 hx hown hci hcl hby (L := [(73, .iload_n 2, 1), (74, .aload_n 0, 1)]) (by decide +kernel) rfl (g' := (mkF m 75 #[rv x0, iv (j3_20_1 qA qB qD qr0 qr1 qr2 qs qp), iv (j3_84_2 qA qB qD qr0 qr1 qr2 qs qp), iv (1 : Int32)] [(.ref x0), (.int (j3_84_2 qA qB qD qr0 qr1 qr2 qs qp)), (.ref r)])) rfl ?_
                  obtain ⟨T803, X803, e803, st803⟩ := getF X802 hx hZ hown (host := "") (Or.inl w_29) Via.refl e802 F_ring_x0 (g := (mkF m 75 #[rv x0, iv (j3_20_1 qA qB qD qr0 qr1 qr2 qs qp), iv (j3_84_2 qA qB qD qr0 qr1 qr2 qs qp), iv (1 : Int32)] [(.ref x0), (.int (j3_84_2 qA qB qD qr0 qr1 qr2 qs qp)), (.ref r)])) rfl rfl (hb hby d3_75)
                  refine Goes.st (B := T803.setTop (mkF m 78 #[rv x0, iv (j3_20_1 qA qB qD qr0 qr1 qr2 qs qp), iv (j3_84_2 qA qB qD qr0 qr1 qr2 qs qp), iv (1 : Int32)] [(.ref r), (.int (j3_84_2 qA qB qD qr0 qr1 qr2 qs qp)), (.ref r)])) st803 ?_
                  refine Goes.run X803 hx hown hci hcl hby (L := [(78, .iload_n 3, 1)]) (by decide +kernel) rfl (g' := (mkF m 79 #[rv x0, iv (j3_20_1 qA qB qD qr0 qr1 qr2 qs qp), iv (j3_84_2 qA qB qD qr0 qr1 qr2 qs qp), iv (1 : Int32)] [(.int (1 : Int32)), (.ref r), (.int (j3_84_2 qA qB qD qr0 qr1 qr2 qs qp)), (.ref r)])) rfl ?_
                  obtain ⟨cl804, Ar804, q804, S804, M804, Hs804, G804⟩ := id V_r
                  have hin804 : ¬ ((1 : Int32) < 0 ∨ cl804.slots.size ≤ ((1 : Int32)).toNatClampNeg) := inb_of S804 ⟨(by decide), (by decide)⟩
                  have hat804 : cl804.slots[((1 : Int32)).toNatClampNeg]? = some (.int (1 : Int32)) := Hs804.at hin804 rfl
                  refine Goes.st (B := T803.setTop (mkF m 80 #[rv x0, iv (j3_20_1 qA qB qD qr0 qr1 qr2 qs qp), iv (j3_84_2 qA qB qD qr0 qr1 qr2 qs qp), iv (1 : Int32)] [(.int (1 : Int32)), (.int (j3_84_2 qA qB qD qr0 qr1 qr2 qs qp)), (.ref r)])) (X803.iaload hx (j := (1 : Int32)) (v := (.int (1 : Int32))) (by rw [e803]; exact Ar804.1) (State.isArrayOf_alike hZ.alike Ar804.2.1) Ar804.2.2 hin804 hat804 (g := (mkF m 79 #[rv x0, iv (j3_20_1 qA qB qD qr0 qr1 qr2 qs qp), iv (j3_84_2 qA qB qD qr0 qr1 qr2 qs qp), iv (1 : Int32)] [(.int (1 : Int32)), (.ref r), (.int (j3_84_2 qA qB qD qr0 qr1 qr2 qs qp)), (.ref r)])) rfl rfl (hb hby d3_79)) ?_
                  by_cases hs80_805 : (j3_84_2 qA qB qD qr0 qr1 qr2 qs qp) = (0 : Int32)
                  · skip
                    refine Goes.cast (show (mkF m 80 #[rv x0, iv (j3_20_1 qA qB qD qr0 qr1 qr2 qs qp), iv (j3_84_2 qA qB qD qr0 qr1 qr2 qs qp), iv (1 : Int32)] [(.int (1 : Int32)), (.int (j3_84_2 qA qB qD qr0 qr1 qr2 qs qp)), (.ref r)]) = (mkF m 80 #[rv x0, iv (j3_20_1 qA qB qD qr0 qr1 qr2 qs qp), iv (0 : Int32), iv (1 : Int32)] [(.int (1 : Int32)), (.int (0 : Int32)), (.ref r)]) by rw [hs80_805]) ?_
                    obtain ⟨cl806, Ar806, q806, S806, M806, Hs806, G806⟩ := id V_r
                    have hin806 : ¬ ((0 : Int32) < 0 ∨ cl806.slots.size ≤ ((0 : Int32)).toNatClampNeg) := inb_of S806 ⟨(by decide), (by decide)⟩
                    obtain ⟨T806, h806, X806, e806, W806, st806⟩ := stI X803 hx hZ e803 Ar806 (j := (0 : Int32)) hin806 (g := (mkF m 80 #[rv x0, iv (j3_20_1 qA qB qD qr0 qr1 qr2 qs qp), iv (0 : Int32), iv (1 : Int32)] [(.int (1 : Int32)), (.int (0 : Int32)), (.ref r)])) rfl rfl (hb hby d3_80)
                    have V_w := V_w.other W806 nwr
                    have E_x0 := E_x0.wr W806
                    have F_wanted_x0 := F_wanted_x0.other W806 (Or.inl nxr)
                    have F_ring_x0 := F_ring_x0.other W806 (Or.inl nxr)
                    have F_size_x0 := F_size_x0.other W806 (Or.inl nxr)
                    have F_place_x0 := F_place_x0.other W806 (Or.inl nxr)
                    have Zn806 : n0 ≤ h806.size := Nat.le_trans Zn669 (Keep.of_wr W806).1
                    have K806 := K669.wr W806 (Or.inl (List.mem_of_getElem? (i := 2) rfl))
                    have N806 := Fr.snoc X806 N669 g_r
                    have V_r : Arv Z h806 r kr .int (3 : Int32) [(.int (1 : Int32)), (.int (1 : Int32)), (.int (j3_20_e2 qA qB qD qr0 qr1 qr2 qs qp))] (.int (0 : Int32)) := Arv.set Ar806 q806 S806 M806 Hs806 G806 rfl W806 0 rfl (Nat.le_of_ble_eq_true rfl)
                    refine Goes.st (B := T806.setTop (mkF m 81 #[rv x0, iv (j3_20_1 qA qB qD qr0 qr1 qr2 qs qp), iv (0 : Int32), iv (1 : Int32)] [])) st806 ?_
                    refine Goes.run X806 hx hown hci hcl hby (L := [(81, .iinc 2 1, 3)]) (by decide +kernel) rfl (g' := (mkF m 84 #[rv x0, iv (j3_20_1 qA qB qD qr0 qr1 qr2 qs qp), iv (1 : Int32), iv (1 : Int32)] [])) rfl ?_
                    have q := jn84_707
                    rw [show (j3_84_2_a qA qB qD qr0 qr1 qr2 qs qp) = (1 : Int32) from ((((if_neg hs63_789).trans (if_pos hs63_799)).trans (if_pos hc66_801)).trans (if_pos hs80_805)), show (j3_84_e0_a qA qB qD qr0 qr1 qr2 qs qp) = (1 : Int32) from ((((if_neg hs63_789).trans (if_pos hs63_799)).trans (if_pos hc66_801)).trans (if_pos hs80_805)), show (j3_84_e1 qA qB qD qr0 qr1 qr2 qs qp) = (1 : Int32) from ((((if_neg hs63_789).trans (if_pos hs63_799)).trans (if_pos hc66_801)).trans (if_pos hs80_805))] at q
                    exact q _ _ _ X806 e806 N806 Zn806 K806 V_r V_w E_x0 F_wanted_x0 F_ring_x0 F_size_x0 F_place_x0
                  · skip
                    have hs80_807 : (j3_84_2 qA qB qD qr0 qr1 qr2 qs qp) = (1 : Int32) := own_la2 (own_k1 qA qB qD qr0 qr1 qr2 qs qp) hs80_805
                    refine Goes.cast (show (mkF m 80 #[rv x0, iv (j3_20_1 qA qB qD qr0 qr1 qr2 qs qp), iv (j3_84_2 qA qB qD qr0 qr1 qr2 qs qp), iv (1 : Int32)] [(.int (1 : Int32)), (.int (j3_84_2 qA qB qD qr0 qr1 qr2 qs qp)), (.ref r)]) = (mkF m 80 #[rv x0, iv (j3_20_1 qA qB qD qr0 qr1 qr2 qs qp), iv (1 : Int32), iv (1 : Int32)] [(.int (1 : Int32)), (.int (1 : Int32)), (.ref r)]) by rw [hs80_807]) ?_
                    obtain ⟨cl808, Ar808, q808, S808, M808, Hs808, G808⟩ := id V_r
                    have hin808 : ¬ ((1 : Int32) < 0 ∨ cl808.slots.size ≤ ((1 : Int32)).toNatClampNeg) := inb_of S808 ⟨(by decide), (by decide)⟩
                    obtain ⟨T808, h808, X808, e808, W808, st808⟩ := stI X803 hx hZ e803 Ar808 (j := (1 : Int32)) hin808 (g := (mkF m 80 #[rv x0, iv (j3_20_1 qA qB qD qr0 qr1 qr2 qs qp), iv (1 : Int32), iv (1 : Int32)] [(.int (1 : Int32)), (.int (1 : Int32)), (.ref r)])) rfl rfl (hb hby d3_80)
                    have V_w := V_w.other W808 nwr
                    have E_x0 := E_x0.wr W808
                    have F_wanted_x0 := F_wanted_x0.other W808 (Or.inl nxr)
                    have F_ring_x0 := F_ring_x0.other W808 (Or.inl nxr)
                    have F_size_x0 := F_size_x0.other W808 (Or.inl nxr)
                    have F_place_x0 := F_place_x0.other W808 (Or.inl nxr)
                    have Zn808 : n0 ≤ h808.size := Nat.le_trans Zn669 (Keep.of_wr W808).1
                    have K808 := K669.wr W808 (Or.inl (List.mem_of_getElem? (i := 2) rfl))
                    have N808 := Fr.snoc X808 N669 g_r
                    have V_r : Arv Z h808 r kr .int (3 : Int32) [(.int (j3_84_e0 qA qB qD qr0 qr1 qr2 qs qp)), (.int (1 : Int32)), (.int (j3_20_e2 qA qB qD qr0 qr1 qr2 qs qp))] (.int (0 : Int32)) := Arv.set Ar808 q808 S808 M808 Hs808 G808 rfl W808 1 rfl (Nat.le_of_ble_eq_true rfl)
                    refine Goes.st (B := T808.setTop (mkF m 81 #[rv x0, iv (j3_20_1 qA qB qD qr0 qr1 qr2 qs qp), iv (1 : Int32), iv (1 : Int32)] [])) st808 ?_
                    refine Goes.run X808 hx hown hci hcl hby (L := [(81, .iinc 2 1, 3)]) (by decide +kernel) rfl (g' := (mkF m 84 #[rv x0, iv (j3_20_1 qA qB qD qr0 qr1 qr2 qs qp), iv (2 : Int32), iv (1 : Int32)] [])) rfl ?_
                    have q := jn84_707
                    rw [show (j3_84_2_a qA qB qD qr0 qr1 qr2 qs qp) = (2 : Int32) from ((((if_neg hs63_789).trans (if_pos hs63_799)).trans (if_pos hc66_801)).trans (if_neg hs80_805)), show (j3_84_e0_a qA qB qD qr0 qr1 qr2 qs qp) = (j3_84_e0 qA qB qD qr0 qr1 qr2 qs qp) from ((((if_neg hs63_789).trans (if_pos hs63_799)).trans (if_pos hc66_801)).trans (if_neg hs80_805)), show (j3_84_e1 qA qB qD qr0 qr1 qr2 qs qp) = (1 : Int32) from ((((if_neg hs63_789).trans (if_pos hs63_799)).trans (if_pos hc66_801)).trans (if_neg hs80_805))] at q
                    exact q _ _ _ X808 e808 N808 Zn808 K808 V_r V_w E_x0 F_wanted_x0 F_ring_x0 F_size_x0 F_place_x0
                · skip
                  refine Goes.st (B := T674.setTop (mkF m 84 #[rv x0, iv (j3_20_1 qA qB qD qr0 qr1 qr2 qs qp), iv (j3_84_2 qA qB qD qr0 qr1 qr2 qs qp), iv (1 : Int32)] [])) (fun t k => ?_) ?_
                  · refine XS.ifYes X674.here hx rfl (pc0 := 66) (pc' := 84) rfl (hb hby d3_66) rfl (fltL hc66_801).2.2.2 (by decide) (by decide) ?_
                    exact k
                  have q := jn84_707
                  rw [show (j3_84_2_a qA qB qD qr0 qr1 qr2 qs qp) = (j3_84_2 qA qB qD qr0 qr1 qr2 qs qp) from (((if_neg hs63_789).trans (if_pos hs63_799)).trans (if_neg hc66_801)), show (j3_84_e0_a qA qB qD qr0 qr1 qr2 qs qp) = (j3_84_e0 qA qB qD qr0 qr1 qr2 qs qp) from (((if_neg hs63_789).trans (if_pos hs63_799)).trans (if_neg hc66_801)), show (j3_84_e1 qA qB qD qr0 qr1 qr2 qs qp) = (1 : Int32) from (((if_neg hs63_789).trans (if_pos hs63_799)).trans (if_neg hc66_801))] at q
                  exact q _ _ _ X674 e674 N669 Zn669 K669 V_r V_w E_x0 F_wanted_x0 F_ring_x0 F_size_x0 F_place_x0
              · skip
                have hs63_809 : (j3_20_e1 qA qB qD qr0 qr1 qr2 qs qp) = (2 : Int32) := own_la3 (own_rr1 qA qB qD qr0 qr1 qr2 qs qp hR0 hR1 hR2) hs63_789 hs63_799
                rw [hs63_809] at V_r
                refine Goes.cast (show (mkF m 63 #[rv x0, iv (j3_20_1 qA qB qD qr0 qr1 qr2 qs qp), iv (j3_84_2 qA qB qD qr0 qr1 qr2 qs qp), iv (1 : Int32)] [(.int (j3_20_e1 qA qB qD qr0 qr1 qr2 qs qp)), (.ref w)]) = (mkF m 63 #[rv x0, iv (j3_20_1 qA qB qD qr0 qr1 qr2 qs qp), iv (j3_84_2 qA qB qD qr0 qr1 qr2 qs qp), iv (1 : Int32)] [(.int (2 : Int32)), (.ref w)]) by rw [hs63_809]) ?_
                obtain ⟨cl810, Ar810, q810, S810, M810, Hs810, G810⟩ := id V_w
                have hin810 : ¬ ((2 : Int32) < 0 ∨ cl810.slots.size ≤ ((2 : Int32)).toNatClampNeg) := inb_of S810 ⟨(by decide), (by decide)⟩
                have hat810 : cl810.slots[((2 : Int32)).toNatClampNeg]? = some (.long (j3_20_e2_a qA qB qD qr0 qr1 qr2 qs qp)) := Hs810.at hin810 rfl
                refine Goes.st (B := T674.setTop (mkF m 64 #[rv x0, iv (j3_20_1 qA qB qD qr0 qr1 qr2 qs qp), iv (j3_84_2 qA qB qD qr0 qr1 qr2 qs qp), iv (1 : Int32)] [(.long (j3_20_e2_a qA qB qD qr0 qr1 qr2 qs qp))])) (X674.laload hx (j := (2 : Int32)) (v := (.long (j3_20_e2_a qA qB qD qr0 qr1 qr2 qs qp))) (by rw [e674]; exact Ar810.1) (State.isArrayOf_alike hZ.alike Ar810.2.1) Ar810.2.2 hin810 hat810 (g := (mkF m 63 #[rv x0, iv (j3_20_1 qA qB qD qr0 qr1 qr2 qs qp), iv (j3_84_2 qA qB qD qr0 qr1 qr2 qs qp), iv (1 : Int32)] [(.int (2 : Int32)), (.ref w)])) rfl rfl (hb hby d3_63)) ?_
                refine Goes.run X674 hx hown hci hcl hby (L := [(64, .lconst 0, 1), (65, .lcmp, 1)]) (by decide +kernel) rfl (g' := (mkF m 66 #[rv x0, iv (j3_20_1 qA qB qD qr0 qr1 qr2 qs qp), iv (j3_84_2 qA qB qD qr0 qr1 qr2 qs qp), iv (1 : Int32)] [(.int (lcmpW (j3_20_e2_a qA qB qD qr0 qr1 qr2 qs qp) (0 : Int64)))])) rfl ?_
                by_cases hc66_811 : (0 : Int64) < (j3_20_e2_a qA qB qD qr0 qr1 qr2 qs qp)
                · skip
                  refine Goes.st (B := T674.setTop (mkF m 69 #[rv x0, iv (j3_20_1 qA qB qD qr0 qr1 qr2 qs qp), iv (j3_84_2 qA qB qD qr0 qr1 qr2 qs qp), iv (1 : Int32)] [])) (fun t k => ?_) ?_
                  · refine XS.ifNo X674.here hx rfl (hb hby d3_66) rfl (tltL hc66_811).2.2.2 ?_
                    exact k
                  refine Goes.run X674 hx hown hci hcl hby (L := [(69, .aload_n 0, 1)]) (by decide +kernel) rfl (g' := (mkF m 70 #[rv x0, iv (j3_20_1 qA qB qD qr0 qr1 qr2 qs qp), iv (j3_84_2 qA qB qD qr0 qr1 qr2 qs qp), iv (1 : Int32)] [(.ref x0)])) rfl ?_
                  obtain ⟨T812, X812, e812, st812⟩ := getF X674 hx hZ hown (host := "") (Or.inl w_29) Via.refl e674 F_ring_x0 (g := (mkF m 70 #[rv x0, iv (j3_20_1 qA qB qD qr0 qr1 qr2 qs qp), iv (j3_84_2 qA qB qD qr0 qr1 qr2 qs qp), iv (1 : Int32)] [(.ref x0)])) rfl rfl (hb hby d3_70)
                  refine Goes.st (B := T812.setTop (mkF m 73 #[rv x0, iv (j3_20_1 qA qB qD qr0 qr1 qr2 qs qp), iv (j3_84_2 qA qB qD qr0 qr1 qr2 qs qp), iv (1 : Int32)] [(.ref r)])) st812 ?_
                  refine Goes.run X812 hx hown hci hcl hby (L := [(73, .iload_n 2, 1), (74, .aload_n 0, 1)]) (by decide +kernel) rfl (g' := (mkF m 75 #[rv x0, iv (j3_20_1 qA qB qD qr0 qr1 qr2 qs qp), iv (j3_84_2 qA qB qD qr0 qr1 qr2 qs qp), iv (1 : Int32)] [(.ref x0), (.int (j3_84_2 qA qB qD qr0 qr1 qr2 qs qp)), (.ref r)])) rfl ?_
                  obtain ⟨T813, X813, e813, st813⟩ := getF X812 hx hZ hown (host := "") (Or.inl w_29) Via.refl e812 F_ring_x0 (g := (mkF m 75 #[rv x0, iv (j3_20_1 qA qB qD qr0 qr1 qr2 qs qp), iv (j3_84_2 qA qB qD qr0 qr1 qr2 qs qp), iv (1 : Int32)] [(.ref x0), (.int (j3_84_2 qA qB qD qr0 qr1 qr2 qs qp)), (.ref r)])) rfl rfl (hb hby d3_75)
                  refine Goes.st (B := T813.setTop (mkF m 78 #[rv x0, iv (j3_20_1 qA qB qD qr0 qr1 qr2 qs qp), iv (j3_84_2 qA qB qD qr0 qr1 qr2 qs qp), iv (1 : Int32)] [(.ref r), (.int (j3_84_2 qA qB qD qr0 qr1 qr2 qs qp)), (.ref r)])) st813 ?_
                  refine Goes.run X813 hx hown hci hcl hby (L := [(78, .iload_n 3, 1)]) (by decide +kernel) rfl (g' := (mkF m 79 #[rv x0, iv (j3_20_1 qA qB qD qr0 qr1 qr2 qs qp), iv (j3_84_2 qA qB qD qr0 qr1 qr2 qs qp), iv (1 : Int32)] [(.int (1 : Int32)), (.ref r), (.int (j3_84_2 qA qB qD qr0 qr1 qr2 qs qp)), (.ref r)])) rfl ?_
                  obtain ⟨cl814, Ar814, q814, S814, M814, Hs814, G814⟩ := id V_r
                  have hin814 : ¬ ((1 : Int32) < 0 ∨ cl814.slots.size ≤ ((1 : Int32)).toNatClampNeg) := inb_of S814 ⟨(by decide), (by decide)⟩
                  have hat814 : cl814.slots[((1 : Int32)).toNatClampNeg]? = some (.int (2 : Int32)) := Hs814.at hin814 rfl
                  refine Goes.st (B := T813.setTop (mkF m 80 #[rv x0, iv (j3_20_1 qA qB qD qr0 qr1 qr2 qs qp), iv (j3_84_2 qA qB qD qr0 qr1 qr2 qs qp), iv (1 : Int32)] [(.int (2 : Int32)), (.int (j3_84_2 qA qB qD qr0 qr1 qr2 qs qp)), (.ref r)])) (X813.iaload hx (j := (1 : Int32)) (v := (.int (2 : Int32))) (by rw [e813]; exact Ar814.1) (State.isArrayOf_alike hZ.alike Ar814.2.1) Ar814.2.2 hin814 hat814 (g := (mkF m 79 #[rv x0, iv (j3_20_1 qA qB qD qr0 qr1 qr2 qs qp), iv (j3_84_2 qA qB qD qr0 qr1 qr2 qs qp), iv (1 : Int32)] [(.int (1 : Int32)), (.ref r), (.int (j3_84_2 qA qB qD qr0 qr1 qr2 qs qp)), (.ref r)])) rfl rfl (hb hby d3_79)) ?_
                  by_cases hs80_815 : (j3_84_2 qA qB qD qr0 qr1 qr2 qs qp) = (0 : Int32)
                  · skip
                    refine Goes.cast (show (mkF m 80 #[rv x0, iv (j3_20_1 qA qB qD qr0 qr1 qr2 qs qp), iv (j3_84_2 qA qB qD qr0 qr1 qr2 qs qp), iv (1 : Int32)] [(.int (2 : Int32)), (.int (j3_84_2 qA qB qD qr0 qr1 qr2 qs qp)), (.ref r)]) = (mkF m 80 #[rv x0, iv (j3_20_1 qA qB qD qr0 qr1 qr2 qs qp), iv (0 : Int32), iv (1 : Int32)] [(.int (2 : Int32)), (.int (0 : Int32)), (.ref r)]) by rw [hs80_815]) ?_
                    obtain ⟨cl816, Ar816, q816, S816, M816, Hs816, G816⟩ := id V_r
                    have hin816 : ¬ ((0 : Int32) < 0 ∨ cl816.slots.size ≤ ((0 : Int32)).toNatClampNeg) := inb_of S816 ⟨(by decide), (by decide)⟩
                    obtain ⟨T816, h816, X816, e816, W816, st816⟩ := stI X813 hx hZ e813 Ar816 (j := (0 : Int32)) hin816 (g := (mkF m 80 #[rv x0, iv (j3_20_1 qA qB qD qr0 qr1 qr2 qs qp), iv (0 : Int32), iv (1 : Int32)] [(.int (2 : Int32)), (.int (0 : Int32)), (.ref r)])) rfl rfl (hb hby d3_80)
                    have V_w := V_w.other W816 nwr
                    have E_x0 := E_x0.wr W816
                    have F_wanted_x0 := F_wanted_x0.other W816 (Or.inl nxr)
                    have F_ring_x0 := F_ring_x0.other W816 (Or.inl nxr)
                    have F_size_x0 := F_size_x0.other W816 (Or.inl nxr)
                    have F_place_x0 := F_place_x0.other W816 (Or.inl nxr)
                    have Zn816 : n0 ≤ h816.size := Nat.le_trans Zn669 (Keep.of_wr W816).1
                    have K816 := K669.wr W816 (Or.inl (List.mem_of_getElem? (i := 2) rfl))
                    have N816 := Fr.snoc X816 N669 g_r
                    have V_r : Arv Z h816 r kr .int (3 : Int32) [(.int (2 : Int32)), (.int (2 : Int32)), (.int (j3_20_e2 qA qB qD qr0 qr1 qr2 qs qp))] (.int (0 : Int32)) := Arv.set Ar816 q816 S816 M816 Hs816 G816 rfl W816 0 rfl (Nat.le_of_ble_eq_true rfl)
                    refine Goes.st (B := T816.setTop (mkF m 81 #[rv x0, iv (j3_20_1 qA qB qD qr0 qr1 qr2 qs qp), iv (0 : Int32), iv (1 : Int32)] [])) st816 ?_
                    refine Goes.run X816 hx hown hci hcl hby (L := [(81, .iinc 2 1, 3)]) (by decide +kernel) rfl (g' := (mkF m 84 #[rv x0, iv (j3_20_1 qA qB qD qr0 qr1 qr2 qs qp), iv (1 : Int32), iv (1 : Int32)] [])) rfl ?_
                    have q := jn84_707
                    rw [show (j3_84_2_a qA qB qD qr0 qr1 qr2 qs qp) = (1 : Int32) from ((((if_neg hs63_789).trans (if_neg hs63_799)).trans (if_pos hc66_811)).trans (if_pos hs80_815)), show (j3_84_e0_a qA qB qD qr0 qr1 qr2 qs qp) = (2 : Int32) from ((((if_neg hs63_789).trans (if_neg hs63_799)).trans (if_pos hc66_811)).trans (if_pos hs80_815)), show (j3_84_e1 qA qB qD qr0 qr1 qr2 qs qp) = (2 : Int32) from ((((if_neg hs63_789).trans (if_neg hs63_799)).trans (if_pos hc66_811)).trans (if_pos hs80_815))] at q
                    exact q _ _ _ X816 e816 N816 Zn816 K816 V_r V_w E_x0 F_wanted_x0 F_ring_x0 F_size_x0 F_place_x0
                  · skip
                    have hs80_817 : (j3_84_2 qA qB qD qr0 qr1 qr2 qs qp) = (1 : Int32) := own_la2 (own_k1 qA qB qD qr0 qr1 qr2 qs qp) hs80_815
                    refine Goes.cast (show (mkF m 80 #[rv x0, iv (j3_20_1 qA qB qD qr0 qr1 qr2 qs qp), iv (j3_84_2 qA qB qD qr0 qr1 qr2 qs qp), iv (1 : Int32)] [(.int (2 : Int32)), (.int (j3_84_2 qA qB qD qr0 qr1 qr2 qs qp)), (.ref r)]) = (mkF m 80 #[rv x0, iv (j3_20_1 qA qB qD qr0 qr1 qr2 qs qp), iv (1 : Int32), iv (1 : Int32)] [(.int (2 : Int32)), (.int (1 : Int32)), (.ref r)]) by rw [hs80_817]) ?_
                    obtain ⟨cl818, Ar818, q818, S818, M818, Hs818, G818⟩ := id V_r
                    have hin818 : ¬ ((1 : Int32) < 0 ∨ cl818.slots.size ≤ ((1 : Int32)).toNatClampNeg) := inb_of S818 ⟨(by decide), (by decide)⟩
                    obtain ⟨T818, h818, X818, e818, W818, st818⟩ := stI X813 hx hZ e813 Ar818 (j := (1 : Int32)) hin818 (g := (mkF m 80 #[rv x0, iv (j3_20_1 qA qB qD qr0 qr1 qr2 qs qp), iv (1 : Int32), iv (1 : Int32)] [(.int (2 : Int32)), (.int (1 : Int32)), (.ref r)])) rfl rfl (hb hby d3_80)
                    have V_w := V_w.other W818 nwr
                    have E_x0 := E_x0.wr W818
                    have F_wanted_x0 := F_wanted_x0.other W818 (Or.inl nxr)
                    have F_ring_x0 := F_ring_x0.other W818 (Or.inl nxr)
                    have F_size_x0 := F_size_x0.other W818 (Or.inl nxr)
                    have F_place_x0 := F_place_x0.other W818 (Or.inl nxr)
                    have Zn818 : n0 ≤ h818.size := Nat.le_trans Zn669 (Keep.of_wr W818).1
                    have K818 := K669.wr W818 (Or.inl (List.mem_of_getElem? (i := 2) rfl))
                    have N818 := Fr.snoc X818 N669 g_r
                    have V_r : Arv Z h818 r kr .int (3 : Int32) [(.int (j3_84_e0 qA qB qD qr0 qr1 qr2 qs qp)), (.int (2 : Int32)), (.int (j3_20_e2 qA qB qD qr0 qr1 qr2 qs qp))] (.int (0 : Int32)) := Arv.set Ar818 q818 S818 M818 Hs818 G818 rfl W818 1 rfl (Nat.le_of_ble_eq_true rfl)
                    refine Goes.st (B := T818.setTop (mkF m 81 #[rv x0, iv (j3_20_1 qA qB qD qr0 qr1 qr2 qs qp), iv (1 : Int32), iv (1 : Int32)] [])) st818 ?_
                    refine Goes.run X818 hx hown hci hcl hby (L := [(81, .iinc 2 1, 3)]) (by decide +kernel) rfl (g' := (mkF m 84 #[rv x0, iv (j3_20_1 qA qB qD qr0 qr1 qr2 qs qp), iv (2 : Int32), iv (1 : Int32)] [])) rfl ?_
                    have q := jn84_707
                    rw [show (j3_84_2_a qA qB qD qr0 qr1 qr2 qs qp) = (2 : Int32) from ((((if_neg hs63_789).trans (if_neg hs63_799)).trans (if_pos hc66_811)).trans (if_neg hs80_815)), show (j3_84_e0_a qA qB qD qr0 qr1 qr2 qs qp) = (j3_84_e0 qA qB qD qr0 qr1 qr2 qs qp) from ((((if_neg hs63_789).trans (if_neg hs63_799)).trans (if_pos hc66_811)).trans (if_neg hs80_815)), show (j3_84_e1 qA qB qD qr0 qr1 qr2 qs qp) = (2 : Int32) from ((((if_neg hs63_789).trans (if_neg hs63_799)).trans (if_pos hc66_811)).trans (if_neg hs80_815))] at q
                    exact q _ _ _ X818 e818 N818 Zn818 K818 V_r V_w E_x0 F_wanted_x0 F_ring_x0 F_size_x0 F_place_x0
                · skip
                  refine Goes.st (B := T674.setTop (mkF m 84 #[rv x0, iv (j3_20_1 qA qB qD qr0 qr1 qr2 qs qp), iv (j3_84_2 qA qB qD qr0 qr1 qr2 qs qp), iv (1 : Int32)] [])) (fun t k => ?_) ?_
                  · refine XS.ifYes X674.here hx rfl (pc0 := 66) (pc' := 84) rfl (hb hby d3_66) rfl (fltL hc66_811).2.2.2 (by decide) (by decide) ?_
                    exact k
                  have q := jn84_707
                  rw [show (j3_84_2_a qA qB qD qr0 qr1 qr2 qs qp) = (j3_84_2 qA qB qD qr0 qr1 qr2 qs qp) from (((if_neg hs63_789).trans (if_neg hs63_799)).trans (if_neg hc66_811)), show (j3_84_e0_a qA qB qD qr0 qr1 qr2 qs qp) = (j3_84_e0 qA qB qD qr0 qr1 qr2 qs qp) from (((if_neg hs63_789).trans (if_neg hs63_799)).trans (if_neg hc66_811)), show (j3_84_e1 qA qB qD qr0 qr1 qr2 qs qp) = (2 : Int32) from (((if_neg hs63_789).trans (if_neg hs63_799)).trans (if_neg hc66_811))] at q
                  exact q _ _ _ X674 e674 N669 Zn669 K669 V_r V_w E_x0 F_wanted_x0 F_ring_x0 F_size_x0 F_place_x0
          · skip
            refine Goes.st (B := T671.setTop (mkF m 90 #[rv x0, iv (j3_20_1 qA qB qD qr0 qr1 qr2 qs qp), iv (j3_84_2 qA qB qD qr0 qr1 qr2 qs qp), iv (1 : Int32)] [])) (fun t k => ?_) ?_
            · refine XS.icmpYes X671.here hx rfl (pc0 := 50) (pc' := 90) rfl (hb hby d3_50) rfl (flt hc50_672).2.1 (by decide) (by decide) ?_
              exact k
            have q := jn90_642
            rw [show (j3_90_2 qA qB qD qr0 qr1 qr2 qs qp) = (j3_84_2 qA qB qD qr0 qr1 qr2 qs qp) from ((if_pos hc50_445).trans (if_neg hc50_672)), show (j3_90_3 qA qB qD qr0 qr1 qr2 qs qp) = (1 : Int32) from ((if_pos hc50_445).trans (if_neg hc50_672)), show (j3_90_e0 qA qB qD qr0 qr1 qr2 qs qp) = (j3_84_e0 qA qB qD qr0 qr1 qr2 qs qp) from ((if_pos hc50_445).trans (if_neg hc50_672)), show (j3_90_e1 qA qB qD qr0 qr1 qr2 qs qp) = (j3_20_e1 qA qB qD qr0 qr1 qr2 qs qp) from ((if_pos hc50_445).trans (if_neg hc50_672)), show (j3_90_e2 qA qB qD qr0 qr1 qr2 qs qp) = (j3_20_e2 qA qB qD qr0 qr1 qr2 qs qp) from ((if_pos hc50_445).trans (if_neg hc50_672))] at q
            exact q _ _ _ X671 e671 N669 Zn669 K669 V_r V_w E_x0 F_wanted_x0 F_ring_x0 F_size_x0 F_place_x0
        by_cases hs63_819 : (j3_20_e0 qA qB qD qr0 qr1 qr2 qs qp) = (0 : Int32)
        · skip
          rw [hs63_819] at V_r
          refine Goes.cast (show (mkF m 63 #[rv x0, iv (j3_20_1 qA qB qD qr0 qr1 qr2 qs qp), iv (0 : Int32), iv (0 : Int32)] [(.int (j3_20_e0 qA qB qD qr0 qr1 qr2 qs qp)), (.ref w)]) = (mkF m 63 #[rv x0, iv (j3_20_1 qA qB qD qr0 qr1 qr2 qs qp), iv (0 : Int32), iv (0 : Int32)] [(.int (0 : Int32)), (.ref w)]) by rw [hs63_819]) ?_
          obtain ⟨cl820, Ar820, q820, S820, M820, Hs820, G820⟩ := id V_w
          have hin820 : ¬ ((0 : Int32) < 0 ∨ cl820.slots.size ≤ ((0 : Int32)).toNatClampNeg) := inb_of S820 ⟨(by decide), (by decide)⟩
          have hat820 : cl820.slots[((0 : Int32)).toNatClampNeg]? = some (.long (j3_20_e0_a qA qB qD qr0 qr1 qr2 qs qp)) := Hs820.at hin820 rfl
          refine Goes.st (B := T646.setTop (mkF m 64 #[rv x0, iv (j3_20_1 qA qB qD qr0 qr1 qr2 qs qp), iv (0 : Int32), iv (0 : Int32)] [(.long (j3_20_e0_a qA qB qD qr0 qr1 qr2 qs qp))])) (X646.laload hx (j := (0 : Int32)) (v := (.long (j3_20_e0_a qA qB qD qr0 qr1 qr2 qs qp))) (by rw [e646]; exact Ar820.1) (State.isArrayOf_alike hZ.alike Ar820.2.1) Ar820.2.2 hin820 hat820 (g := (mkF m 63 #[rv x0, iv (j3_20_1 qA qB qD qr0 qr1 qr2 qs qp), iv (0 : Int32), iv (0 : Int32)] [(.int (0 : Int32)), (.ref w)])) rfl rfl (hb hby d3_63)) ?_
          refine Goes.run X646 hx hown hci hcl hby (L := [(64, .lconst 0, 1), (65, .lcmp, 1)]) (by decide +kernel) rfl (g' := (mkF m 66 #[rv x0, iv (j3_20_1 qA qB qD qr0 qr1 qr2 qs qp), iv (0 : Int32), iv (0 : Int32)] [(.int (lcmpW (j3_20_e0_a qA qB qD qr0 qr1 qr2 qs qp) (0 : Int64)))])) rfl ?_
          by_cases hc66_821 : (0 : Int64) < (j3_20_e0_a qA qB qD qr0 qr1 qr2 qs qp)
          · skip
            refine Goes.st (B := T646.setTop (mkF m 69 #[rv x0, iv (j3_20_1 qA qB qD qr0 qr1 qr2 qs qp), iv (0 : Int32), iv (0 : Int32)] [])) (fun t k => ?_) ?_
            · refine XS.ifNo X646.here hx rfl (hb hby d3_66) rfl (tltL hc66_821).2.2.2 ?_
              exact k
            refine Goes.run X646 hx hown hci hcl hby (L := [(69, .aload_n 0, 1)]) (by decide +kernel) rfl (g' := (mkF m 70 #[rv x0, iv (j3_20_1 qA qB qD qr0 qr1 qr2 qs qp), iv (0 : Int32), iv (0 : Int32)] [(.ref x0)])) rfl ?_
            obtain ⟨T822, X822, e822, st822⟩ := getF X646 hx hZ hown (host := "") (Or.inl w_29) Via.refl e646 F_ring_x0 (g := (mkF m 70 #[rv x0, iv (j3_20_1 qA qB qD qr0 qr1 qr2 qs qp), iv (0 : Int32), iv (0 : Int32)] [(.ref x0)])) rfl rfl (hb hby d3_70)
            refine Goes.st (B := T822.setTop (mkF m 73 #[rv x0, iv (j3_20_1 qA qB qD qr0 qr1 qr2 qs qp), iv (0 : Int32), iv (0 : Int32)] [(.ref r)])) st822 ?_
            refine Goes.run X822 hx hown hci hcl hby (L := [(73, .iload_n 2, 1), (74, .aload_n 0, 1)]) (by decide +kernel) rfl (g' := (mkF m 75 #[rv x0, iv (j3_20_1 qA qB qD qr0 qr1 qr2 qs qp), iv (0 : Int32), iv (0 : Int32)] [(.ref x0), (.int (0 : Int32)), (.ref r)])) rfl ?_
            obtain ⟨T823, X823, e823, st823⟩ := getF X822 hx hZ hown (host := "") (Or.inl w_29) Via.refl e822 F_ring_x0 (g := (mkF m 75 #[rv x0, iv (j3_20_1 qA qB qD qr0 qr1 qr2 qs qp), iv (0 : Int32), iv (0 : Int32)] [(.ref x0), (.int (0 : Int32)), (.ref r)])) rfl rfl (hb hby d3_75)
            refine Goes.st (B := T823.setTop (mkF m 78 #[rv x0, iv (j3_20_1 qA qB qD qr0 qr1 qr2 qs qp), iv (0 : Int32), iv (0 : Int32)] [(.ref r), (.int (0 : Int32)), (.ref r)])) st823 ?_
            refine Goes.run X823 hx hown hci hcl hby (L := [(78, .iload_n 3, 1)]) (by decide +kernel) rfl (g' := (mkF m 79 #[rv x0, iv (j3_20_1 qA qB qD qr0 qr1 qr2 qs qp), iv (0 : Int32), iv (0 : Int32)] [(.int (0 : Int32)), (.ref r), (.int (0 : Int32)), (.ref r)])) rfl ?_
            obtain ⟨cl824, Ar824, q824, S824, M824, Hs824, G824⟩ := id V_r
            have hin824 : ¬ ((0 : Int32) < 0 ∨ cl824.slots.size ≤ ((0 : Int32)).toNatClampNeg) := inb_of S824 ⟨(by decide), (by decide)⟩
            have hat824 : cl824.slots[((0 : Int32)).toNatClampNeg]? = some (.int (0 : Int32)) := Hs824.at hin824 rfl
            refine Goes.st (B := T823.setTop (mkF m 80 #[rv x0, iv (j3_20_1 qA qB qD qr0 qr1 qr2 qs qp), iv (0 : Int32), iv (0 : Int32)] [(.int (0 : Int32)), (.int (0 : Int32)), (.ref r)])) (X823.iaload hx (j := (0 : Int32)) (v := (.int (0 : Int32))) (by rw [e823]; exact Ar824.1) (State.isArrayOf_alike hZ.alike Ar824.2.1) Ar824.2.2 hin824 hat824 (g := (mkF m 79 #[rv x0, iv (j3_20_1 qA qB qD qr0 qr1 qr2 qs qp), iv (0 : Int32), iv (0 : Int32)] [(.int (0 : Int32)), (.ref r), (.int (0 : Int32)), (.ref r)])) rfl rfl (hb hby d3_79)) ?_
            obtain ⟨cl825, Ar825, q825, S825, M825, Hs825, G825⟩ := id V_r
            have hin825 : ¬ ((0 : Int32) < 0 ∨ cl825.slots.size ≤ ((0 : Int32)).toNatClampNeg) := inb_of S825 ⟨(by decide), (by decide)⟩
            obtain ⟨T825, h825, X825, e825, W825, st825⟩ := stI X823 hx hZ e823 Ar825 (j := (0 : Int32)) hin825 (g := (mkF m 80 #[rv x0, iv (j3_20_1 qA qB qD qr0 qr1 qr2 qs qp), iv (0 : Int32), iv (0 : Int32)] [(.int (0 : Int32)), (.int (0 : Int32)), (.ref r)])) rfl rfl (hb hby d3_80)
            have V_w := V_w.other W825 nwr
            have E_x0 := E_x0.wr W825
            have F_wanted_x0 := F_wanted_x0.other W825 (Or.inl nxr)
            have F_ring_x0 := F_ring_x0.other W825 (Or.inl nxr)
            have F_size_x0 := F_size_x0.other W825 (Or.inl nxr)
            have F_place_x0 := F_place_x0.other W825 (Or.inl nxr)
            have Zn825 : n0 ≤ h825.size := Nat.le_trans Zn42 (Keep.of_wr W825).1
            have K825 := K42.wr W825 (Or.inl (List.mem_of_getElem? (i := 2) rfl))
            have N825 := Fr.snoc X825 N42 g_r
            have V_r : Arv Z h825 r kr .int (3 : Int32) [(.int (0 : Int32)), (.int (j3_20_e1 qA qB qD qr0 qr1 qr2 qs qp)), (.int (j3_20_e2 qA qB qD qr0 qr1 qr2 qs qp))] (.int (0 : Int32)) := Arv.set Ar825 q825 S825 M825 Hs825 G825 rfl W825 0 rfl (Nat.le_of_ble_eq_true rfl)
            refine Goes.st (B := T825.setTop (mkF m 81 #[rv x0, iv (j3_20_1 qA qB qD qr0 qr1 qr2 qs qp), iv (0 : Int32), iv (0 : Int32)] [])) st825 ?_
            refine Goes.run X825 hx hown hci hcl hby (L := [(81, .iinc 2 1, 3)]) (by decide +kernel) rfl (g' := (mkF m 84 #[rv x0, iv (j3_20_1 qA qB qD qr0 qr1 qr2 qs qp), iv (1 : Int32), iv (0 : Int32)] [])) rfl ?_
            have q := jn84_670
            rw [show (j3_84_2 qA qB qD qr0 qr1 qr2 qs qp) = (1 : Int32) from ((if_pos hs63_819).trans (if_pos hc66_821)), show (j3_84_e0 qA qB qD qr0 qr1 qr2 qs qp) = (0 : Int32) from ((if_pos hs63_819).trans (if_pos hc66_821))] at q
            exact q _ _ _ X825 e825 N825 Zn825 K825 V_r V_w E_x0 F_wanted_x0 F_ring_x0 F_size_x0 F_place_x0
          · skip
            refine Goes.st (B := T646.setTop (mkF m 84 #[rv x0, iv (j3_20_1 qA qB qD qr0 qr1 qr2 qs qp), iv (0 : Int32), iv (0 : Int32)] [])) (fun t k => ?_) ?_
            · refine XS.ifYes X646.here hx rfl (pc0 := 66) (pc' := 84) rfl (hb hby d3_66) rfl (fltL hc66_821).2.2.2 (by decide) (by decide) ?_
              exact k
            have q := jn84_670
            rw [show (j3_84_2 qA qB qD qr0 qr1 qr2 qs qp) = (0 : Int32) from ((if_pos hs63_819).trans (if_neg hc66_821)), show (j3_84_e0 qA qB qD qr0 qr1 qr2 qs qp) = (0 : Int32) from ((if_pos hs63_819).trans (if_neg hc66_821))] at q
            exact q _ _ _ X646 e646 N42 Zn42 K42 V_r V_w E_x0 F_wanted_x0 F_ring_x0 F_size_x0 F_place_x0
        · skip
          by_cases hs63_826 : (j3_20_e0 qA qB qD qr0 qr1 qr2 qs qp) = (1 : Int32)
          · skip
            rw [hs63_826] at V_r
            refine Goes.cast (show (mkF m 63 #[rv x0, iv (j3_20_1 qA qB qD qr0 qr1 qr2 qs qp), iv (0 : Int32), iv (0 : Int32)] [(.int (j3_20_e0 qA qB qD qr0 qr1 qr2 qs qp)), (.ref w)]) = (mkF m 63 #[rv x0, iv (j3_20_1 qA qB qD qr0 qr1 qr2 qs qp), iv (0 : Int32), iv (0 : Int32)] [(.int (1 : Int32)), (.ref w)]) by rw [hs63_826]) ?_
            obtain ⟨cl827, Ar827, q827, S827, M827, Hs827, G827⟩ := id V_w
            have hin827 : ¬ ((1 : Int32) < 0 ∨ cl827.slots.size ≤ ((1 : Int32)).toNatClampNeg) := inb_of S827 ⟨(by decide), (by decide)⟩
            have hat827 : cl827.slots[((1 : Int32)).toNatClampNeg]? = some (.long (j3_20_e1_a qA qB qD qr0 qr1 qr2 qs qp)) := Hs827.at hin827 rfl
            refine Goes.st (B := T646.setTop (mkF m 64 #[rv x0, iv (j3_20_1 qA qB qD qr0 qr1 qr2 qs qp), iv (0 : Int32), iv (0 : Int32)] [(.long (j3_20_e1_a qA qB qD qr0 qr1 qr2 qs qp))])) (X646.laload hx (j := (1 : Int32)) (v := (.long (j3_20_e1_a qA qB qD qr0 qr1 qr2 qs qp))) (by rw [e646]; exact Ar827.1) (State.isArrayOf_alike hZ.alike Ar827.2.1) Ar827.2.2 hin827 hat827 (g := (mkF m 63 #[rv x0, iv (j3_20_1 qA qB qD qr0 qr1 qr2 qs qp), iv (0 : Int32), iv (0 : Int32)] [(.int (1 : Int32)), (.ref w)])) rfl rfl (hb hby d3_63)) ?_
            refine Goes.run X646 hx hown hci hcl hby (L := [(64, .lconst 0, 1), (65, .lcmp, 1)]) (by decide +kernel) rfl (g' := (mkF m 66 #[rv x0, iv (j3_20_1 qA qB qD qr0 qr1 qr2 qs qp), iv (0 : Int32), iv (0 : Int32)] [(.int (lcmpW (j3_20_e1_a qA qB qD qr0 qr1 qr2 qs qp) (0 : Int64)))])) rfl ?_
            by_cases hc66_828 : (0 : Int64) < (j3_20_e1_a qA qB qD qr0 qr1 qr2 qs qp)
            · skip
              refine Goes.st (B := T646.setTop (mkF m 69 #[rv x0, iv (j3_20_1 qA qB qD qr0 qr1 qr2 qs qp), iv (0 : Int32), iv (0 : Int32)] [])) (fun t k => ?_) ?_
              · refine XS.ifNo X646.here hx rfl (hb hby d3_66) rfl (tltL hc66_828).2.2.2 ?_
                exact k
              refine Goes.run X646 hx hown hci hcl hby (L := [(69, .aload_n 0, 1)]) (by decide +kernel) rfl (g' := (mkF m 70 #[rv x0, iv (j3_20_1 qA qB qD qr0 qr1 qr2 qs qp), iv (0 : Int32), iv (0 : Int32)] [(.ref x0)])) rfl ?_
              obtain ⟨T829, X829, e829, st829⟩ := getF X646 hx hZ hown (host := "") (Or.inl w_29) Via.refl e646 F_ring_x0 (g := (mkF m 70 #[rv x0, iv (j3_20_1 qA qB qD qr0 qr1 qr2 qs qp), iv (0 : Int32), iv (0 : Int32)] [(.ref x0)])) rfl rfl (hb hby d3_70)
              refine Goes.st (B := T829.setTop (mkF m 73 #[rv x0, iv (j3_20_1 qA qB qD qr0 qr1 qr2 qs qp), iv (0 : Int32), iv (0 : Int32)] [(.ref r)])) st829 ?_
              refine Goes.run X829 hx hown hci hcl hby (L := [(73, .iload_n 2, 1), (74, .aload_n 0, 1)]) (by decide +kernel) rfl (g' := (mkF m 75 #[rv x0, iv (j3_20_1 qA qB qD qr0 qr1 qr2 qs qp), iv (0 : Int32), iv (0 : Int32)] [(.ref x0), (.int (0 : Int32)), (.ref r)])) rfl ?_
              obtain ⟨T830, X830, e830, st830⟩ := getF X829 hx hZ hown (host := "") (Or.inl w_29) Via.refl e829 F_ring_x0 (g := (mkF m 75 #[rv x0, iv (j3_20_1 qA qB qD qr0 qr1 qr2 qs qp), iv (0 : Int32), iv (0 : Int32)] [(.ref x0), (.int (0 : Int32)), (.ref r)])) rfl rfl (hb hby d3_75)
              refine Goes.st (B := T830.setTop (mkF m 78 #[rv x0, iv (j3_20_1 qA qB qD qr0 qr1 qr2 qs qp), iv (0 : Int32), iv (0 : Int32)] [(.ref r), (.int (0 : Int32)), (.ref r)])) st830 ?_
              refine Goes.run X830 hx hown hci hcl hby (L := [(78, .iload_n 3, 1)]) (by decide +kernel) rfl (g' := (mkF m 79 #[rv x0, iv (j3_20_1 qA qB qD qr0 qr1 qr2 qs qp), iv (0 : Int32), iv (0 : Int32)] [(.int (0 : Int32)), (.ref r), (.int (0 : Int32)), (.ref r)])) rfl ?_
              obtain ⟨cl831, Ar831, q831, S831, M831, Hs831, G831⟩ := id V_r
              have hin831 : ¬ ((0 : Int32) < 0 ∨ cl831.slots.size ≤ ((0 : Int32)).toNatClampNeg) := inb_of S831 ⟨(by decide), (by decide)⟩
              have hat831 : cl831.slots[((0 : Int32)).toNatClampNeg]? = some (.int (1 : Int32)) := Hs831.at hin831 rfl
              refine Goes.st (B := T830.setTop (mkF m 80 #[rv x0, iv (j3_20_1 qA qB qD qr0 qr1 qr2 qs qp), iv (0 : Int32), iv (0 : Int32)] [(.int (1 : Int32)), (.int (0 : Int32)), (.ref r)])) (X830.iaload hx (j := (0 : Int32)) (v := (.int (1 : Int32))) (by rw [e830]; exact Ar831.1) (State.isArrayOf_alike hZ.alike Ar831.2.1) Ar831.2.2 hin831 hat831 (g := (mkF m 79 #[rv x0, iv (j3_20_1 qA qB qD qr0 qr1 qr2 qs qp), iv (0 : Int32), iv (0 : Int32)] [(.int (0 : Int32)), (.ref r), (.int (0 : Int32)), (.ref r)])) rfl rfl (hb hby d3_79)) ?_
              obtain ⟨cl832, Ar832, q832, S832, M832, Hs832, G832⟩ := id V_r
              have hin832 : ¬ ((0 : Int32) < 0 ∨ cl832.slots.size ≤ ((0 : Int32)).toNatClampNeg) := inb_of S832 ⟨(by decide), (by decide)⟩
              obtain ⟨T832, h832, X832, e832, W832, st832⟩ := stI X830 hx hZ e830 Ar832 (j := (0 : Int32)) hin832 (g := (mkF m 80 #[rv x0, iv (j3_20_1 qA qB qD qr0 qr1 qr2 qs qp), iv (0 : Int32), iv (0 : Int32)] [(.int (1 : Int32)), (.int (0 : Int32)), (.ref r)])) rfl rfl (hb hby d3_80)
              have V_w := V_w.other W832 nwr
              have E_x0 := E_x0.wr W832
              have F_wanted_x0 := F_wanted_x0.other W832 (Or.inl nxr)
              have F_ring_x0 := F_ring_x0.other W832 (Or.inl nxr)
              have F_size_x0 := F_size_x0.other W832 (Or.inl nxr)
              have F_place_x0 := F_place_x0.other W832 (Or.inl nxr)
              have Zn832 : n0 ≤ h832.size := Nat.le_trans Zn42 (Keep.of_wr W832).1
              have K832 := K42.wr W832 (Or.inl (List.mem_of_getElem? (i := 2) rfl))
              have N832 := Fr.snoc X832 N42 g_r
              have V_r : Arv Z h832 r kr .int (3 : Int32) [(.int (1 : Int32)), (.int (j3_20_e1 qA qB qD qr0 qr1 qr2 qs qp)), (.int (j3_20_e2 qA qB qD qr0 qr1 qr2 qs qp))] (.int (0 : Int32)) := Arv.set Ar832 q832 S832 M832 Hs832 G832 rfl W832 0 rfl (Nat.le_of_ble_eq_true rfl)
              refine Goes.st (B := T832.setTop (mkF m 81 #[rv x0, iv (j3_20_1 qA qB qD qr0 qr1 qr2 qs qp), iv (0 : Int32), iv (0 : Int32)] [])) st832 ?_
              refine Goes.run X832 hx hown hci hcl hby (L := [(81, .iinc 2 1, 3)]) (by decide +kernel) rfl (g' := (mkF m 84 #[rv x0, iv (j3_20_1 qA qB qD qr0 qr1 qr2 qs qp), iv (1 : Int32), iv (0 : Int32)] [])) rfl ?_
              have q := jn84_670
              rw [show (j3_84_2 qA qB qD qr0 qr1 qr2 qs qp) = (1 : Int32) from (((if_neg hs63_819).trans (if_pos hs63_826)).trans (if_pos hc66_828)), show (j3_84_e0 qA qB qD qr0 qr1 qr2 qs qp) = (1 : Int32) from (((if_neg hs63_819).trans (if_pos hs63_826)).trans (if_pos hc66_828))] at q
              exact q _ _ _ X832 e832 N832 Zn832 K832 V_r V_w E_x0 F_wanted_x0 F_ring_x0 F_size_x0 F_place_x0
            · skip
              refine Goes.st (B := T646.setTop (mkF m 84 #[rv x0, iv (j3_20_1 qA qB qD qr0 qr1 qr2 qs qp), iv (0 : Int32), iv (0 : Int32)] [])) (fun t k => ?_) ?_
              · refine XS.ifYes X646.here hx rfl (pc0 := 66) (pc' := 84) rfl (hb hby d3_66) rfl (fltL hc66_828).2.2.2 (by decide) (by decide) ?_
                exact k
              have q := jn84_670
              rw [show (j3_84_2 qA qB qD qr0 qr1 qr2 qs qp) = (0 : Int32) from (((if_neg hs63_819).trans (if_pos hs63_826)).trans (if_neg hc66_828)), show (j3_84_e0 qA qB qD qr0 qr1 qr2 qs qp) = (1 : Int32) from (((if_neg hs63_819).trans (if_pos hs63_826)).trans (if_neg hc66_828))] at q
              exact q _ _ _ X646 e646 N42 Zn42 K42 V_r V_w E_x0 F_wanted_x0 F_ring_x0 F_size_x0 F_place_x0
          · skip
            have hs63_833 : (j3_20_e0 qA qB qD qr0 qr1 qr2 qs qp) = (2 : Int32) := own_la3 (own_rr0 qA qB qD qr0 qr1 qr2 qs qp hR0 hR1 hR2) hs63_819 hs63_826
            rw [hs63_833] at V_r
            refine Goes.cast (show (mkF m 63 #[rv x0, iv (j3_20_1 qA qB qD qr0 qr1 qr2 qs qp), iv (0 : Int32), iv (0 : Int32)] [(.int (j3_20_e0 qA qB qD qr0 qr1 qr2 qs qp)), (.ref w)]) = (mkF m 63 #[rv x0, iv (j3_20_1 qA qB qD qr0 qr1 qr2 qs qp), iv (0 : Int32), iv (0 : Int32)] [(.int (2 : Int32)), (.ref w)]) by rw [hs63_833]) ?_
            obtain ⟨cl834, Ar834, q834, S834, M834, Hs834, G834⟩ := id V_w
            have hin834 : ¬ ((2 : Int32) < 0 ∨ cl834.slots.size ≤ ((2 : Int32)).toNatClampNeg) := inb_of S834 ⟨(by decide), (by decide)⟩
            have hat834 : cl834.slots[((2 : Int32)).toNatClampNeg]? = some (.long (j3_20_e2_a qA qB qD qr0 qr1 qr2 qs qp)) := Hs834.at hin834 rfl
            refine Goes.st (B := T646.setTop (mkF m 64 #[rv x0, iv (j3_20_1 qA qB qD qr0 qr1 qr2 qs qp), iv (0 : Int32), iv (0 : Int32)] [(.long (j3_20_e2_a qA qB qD qr0 qr1 qr2 qs qp))])) (X646.laload hx (j := (2 : Int32)) (v := (.long (j3_20_e2_a qA qB qD qr0 qr1 qr2 qs qp))) (by rw [e646]; exact Ar834.1) (State.isArrayOf_alike hZ.alike Ar834.2.1) Ar834.2.2 hin834 hat834 (g := (mkF m 63 #[rv x0, iv (j3_20_1 qA qB qD qr0 qr1 qr2 qs qp), iv (0 : Int32), iv (0 : Int32)] [(.int (2 : Int32)), (.ref w)])) rfl rfl (hb hby d3_63)) ?_
            refine Goes.run X646 hx hown hci hcl hby (L := [(64, .lconst 0, 1), (65, .lcmp, 1)]) (by decide +kernel) rfl (g' := (mkF m 66 #[rv x0, iv (j3_20_1 qA qB qD qr0 qr1 qr2 qs qp), iv (0 : Int32), iv (0 : Int32)] [(.int (lcmpW (j3_20_e2_a qA qB qD qr0 qr1 qr2 qs qp) (0 : Int64)))])) rfl ?_
            by_cases hc66_835 : (0 : Int64) < (j3_20_e2_a qA qB qD qr0 qr1 qr2 qs qp)
            · skip
              refine Goes.st (B := T646.setTop (mkF m 69 #[rv x0, iv (j3_20_1 qA qB qD qr0 qr1 qr2 qs qp), iv (0 : Int32), iv (0 : Int32)] [])) (fun t k => ?_) ?_
              · refine XS.ifNo X646.here hx rfl (hb hby d3_66) rfl (tltL hc66_835).2.2.2 ?_
                exact k
              refine Goes.run X646 hx hown hci hcl hby (L := [(69, .aload_n 0, 1)]) (by decide +kernel) rfl (g' := (mkF m 70 #[rv x0, iv (j3_20_1 qA qB qD qr0 qr1 qr2 qs qp), iv (0 : Int32), iv (0 : Int32)] [(.ref x0)])) rfl ?_
              obtain ⟨T836, X836, e836, st836⟩ := getF X646 hx hZ hown (host := "") (Or.inl w_29) Via.refl e646 F_ring_x0 (g := (mkF m 70 #[rv x0, iv (j3_20_1 qA qB qD qr0 qr1 qr2 qs qp), iv (0 : Int32), iv (0 : Int32)] [(.ref x0)])) rfl rfl (hb hby d3_70)
              refine Goes.st (B := T836.setTop (mkF m 73 #[rv x0, iv (j3_20_1 qA qB qD qr0 qr1 qr2 qs qp), iv (0 : Int32), iv (0 : Int32)] [(.ref r)])) st836 ?_
              refine Goes.run X836 hx hown hci hcl hby (L := [(73, .iload_n 2, 1), (74, .aload_n 0, 1)]) (by decide +kernel) rfl (g' := (mkF m 75 #[rv x0, iv (j3_20_1 qA qB qD qr0 qr1 qr2 qs qp), iv (0 : Int32), iv (0 : Int32)] [(.ref x0), (.int (0 : Int32)), (.ref r)])) rfl ?_
              obtain ⟨T837, X837, e837, st837⟩ := getF X836 hx hZ hown (host := "") (Or.inl w_29) Via.refl e836 F_ring_x0 (g := (mkF m 75 #[rv x0, iv (j3_20_1 qA qB qD qr0 qr1 qr2 qs qp), iv (0 : Int32), iv (0 : Int32)] [(.ref x0), (.int (0 : Int32)), (.ref r)])) rfl rfl (hb hby d3_75)
              refine Goes.st (B := T837.setTop (mkF m 78 #[rv x0, iv (j3_20_1 qA qB qD qr0 qr1 qr2 qs qp), iv (0 : Int32), iv (0 : Int32)] [(.ref r), (.int (0 : Int32)), (.ref r)])) st837 ?_
              refine Goes.run X837 hx hown hci hcl hby (L := [(78, .iload_n 3, 1)]) (by decide +kernel) rfl (g' := (mkF m 79 #[rv x0, iv (j3_20_1 qA qB qD qr0 qr1 qr2 qs qp), iv (0 : Int32), iv (0 : Int32)] [(.int (0 : Int32)), (.ref r), (.int (0 : Int32)), (.ref r)])) rfl ?_
              obtain ⟨cl838, Ar838, q838, S838, M838, Hs838, G838⟩ := id V_r
              have hin838 : ¬ ((0 : Int32) < 0 ∨ cl838.slots.size ≤ ((0 : Int32)).toNatClampNeg) := inb_of S838 ⟨(by decide), (by decide)⟩
              have hat838 : cl838.slots[((0 : Int32)).toNatClampNeg]? = some (.int (2 : Int32)) := Hs838.at hin838 rfl
              refine Goes.st (B := T837.setTop (mkF m 80 #[rv x0, iv (j3_20_1 qA qB qD qr0 qr1 qr2 qs qp), iv (0 : Int32), iv (0 : Int32)] [(.int (2 : Int32)), (.int (0 : Int32)), (.ref r)])) (X837.iaload hx (j := (0 : Int32)) (v := (.int (2 : Int32))) (by rw [e837]; exact Ar838.1) (State.isArrayOf_alike hZ.alike Ar838.2.1) Ar838.2.2 hin838 hat838 (g := (mkF m 79 #[rv x0, iv (j3_20_1 qA qB qD qr0 qr1 qr2 qs qp), iv (0 : Int32), iv (0 : Int32)] [(.int (0 : Int32)), (.ref r), (.int (0 : Int32)), (.ref r)])) rfl rfl (hb hby d3_79)) ?_
              obtain ⟨cl839, Ar839, q839, S839, M839, Hs839, G839⟩ := id V_r
              have hin839 : ¬ ((0 : Int32) < 0 ∨ cl839.slots.size ≤ ((0 : Int32)).toNatClampNeg) := inb_of S839 ⟨(by decide), (by decide)⟩
              obtain ⟨T839, h839, X839, e839, W839, st839⟩ := stI X837 hx hZ e837 Ar839 (j := (0 : Int32)) hin839 (g := (mkF m 80 #[rv x0, iv (j3_20_1 qA qB qD qr0 qr1 qr2 qs qp), iv (0 : Int32), iv (0 : Int32)] [(.int (2 : Int32)), (.int (0 : Int32)), (.ref r)])) rfl rfl (hb hby d3_80)
              have V_w := V_w.other W839 nwr
              have E_x0 := E_x0.wr W839
              have F_wanted_x0 := F_wanted_x0.other W839 (Or.inl nxr)
              have F_ring_x0 := F_ring_x0.other W839 (Or.inl nxr)
              have F_size_x0 := F_size_x0.other W839 (Or.inl nxr)
              have F_place_x0 := F_place_x0.other W839 (Or.inl nxr)
              have Zn839 : n0 ≤ h839.size := Nat.le_trans Zn42 (Keep.of_wr W839).1
              have K839 := K42.wr W839 (Or.inl (List.mem_of_getElem? (i := 2) rfl))
              have N839 := Fr.snoc X839 N42 g_r
              have V_r : Arv Z h839 r kr .int (3 : Int32) [(.int (2 : Int32)), (.int (j3_20_e1 qA qB qD qr0 qr1 qr2 qs qp)), (.int (j3_20_e2 qA qB qD qr0 qr1 qr2 qs qp))] (.int (0 : Int32)) := Arv.set Ar839 q839 S839 M839 Hs839 G839 rfl W839 0 rfl (Nat.le_of_ble_eq_true rfl)
              refine Goes.st (B := T839.setTop (mkF m 81 #[rv x0, iv (j3_20_1 qA qB qD qr0 qr1 qr2 qs qp), iv (0 : Int32), iv (0 : Int32)] [])) st839 ?_
              refine Goes.run X839 hx hown hci hcl hby (L := [(81, .iinc 2 1, 3)]) (by decide +kernel) rfl (g' := (mkF m 84 #[rv x0, iv (j3_20_1 qA qB qD qr0 qr1 qr2 qs qp), iv (1 : Int32), iv (0 : Int32)] [])) rfl ?_
              have q := jn84_670
              rw [show (j3_84_2 qA qB qD qr0 qr1 qr2 qs qp) = (1 : Int32) from (((if_neg hs63_819).trans (if_neg hs63_826)).trans (if_pos hc66_835)), show (j3_84_e0 qA qB qD qr0 qr1 qr2 qs qp) = (2 : Int32) from (((if_neg hs63_819).trans (if_neg hs63_826)).trans (if_pos hc66_835))] at q
              exact q _ _ _ X839 e839 N839 Zn839 K839 V_r V_w E_x0 F_wanted_x0 F_ring_x0 F_size_x0 F_place_x0
            · skip
              refine Goes.st (B := T646.setTop (mkF m 84 #[rv x0, iv (j3_20_1 qA qB qD qr0 qr1 qr2 qs qp), iv (0 : Int32), iv (0 : Int32)] [])) (fun t k => ?_) ?_
              · refine XS.ifYes X646.here hx rfl (pc0 := 66) (pc' := 84) rfl (hb hby d3_66) rfl (fltL hc66_835).2.2.2 (by decide) (by decide) ?_
                exact k
              have q := jn84_670
              rw [show (j3_84_2 qA qB qD qr0 qr1 qr2 qs qp) = (0 : Int32) from (((if_neg hs63_819).trans (if_neg hs63_826)).trans (if_neg hc66_835)), show (j3_84_e0 qA qB qD qr0 qr1 qr2 qs qp) = (2 : Int32) from (((if_neg hs63_819).trans (if_neg hs63_826)).trans (if_neg hc66_835))] at q
              exact q _ _ _ X646 e646 N42 Zn42 K42 V_r V_w E_x0 F_wanted_x0 F_ring_x0 F_size_x0 F_place_x0
      · skip
        refine Goes.st (B := T444.setTop (mkF m 90 #[rv x0, iv (j3_20_1 qA qB qD qr0 qr1 qr2 qs qp), iv (0 : Int32), iv (0 : Int32)] [])) (fun t k => ?_) ?_
        · refine XS.icmpYes X444.here hx rfl (pc0 := 50) (pc' := 90) rfl (hb hby d3_50) rfl (flt hc50_445).2.1 (by decide) (by decide) ?_
          exact k
        have q := jn90_642
        rw [show (j3_90_2 qA qB qD qr0 qr1 qr2 qs qp) = (0 : Int32) from (if_neg hc50_445), show (j3_90_3 qA qB qD qr0 qr1 qr2 qs qp) = (0 : Int32) from (if_neg hc50_445), show (j3_90_e0 qA qB qD qr0 qr1 qr2 qs qp) = (j3_20_e0 qA qB qD qr0 qr1 qr2 qs qp) from (if_neg hc50_445), show (j3_90_e1 qA qB qD qr0 qr1 qr2 qs qp) = (j3_20_e1 qA qB qD qr0 qr1 qr2 qs qp) from (if_neg hc50_445), show (j3_90_e2 qA qB qD qr0 qr1 qr2 qs qp) = (j3_20_e2 qA qB qD qr0 qr1 qr2 qs qp) from (if_neg hc50_445)] at q
        exact q _ _ _ X444 e444 N42 Zn42 K42 V_r V_w E_x0 F_wanted_x0 F_ring_x0 F_size_x0 F_place_x0
    · skip
      refine Goes.st (B := T44.setTop (mkF m 100 #[rv x0, iv (j3_20_1 qA qB qD qr0 qr1 qr2 qs qp), .unset, .unset] [])) (fun t k => ?_) ?_
      · refine XS.icmpYes X44.here hx rfl (pc0 := 38) (pc' := 100) rfl (hb hby d3_38) rfl (feq hc38_45).2 (by decide) (by decide) ?_
        exact k
      have q := jn100_443
      rw [show (j3_100_2 qA qB qD qr0 qr1 qr2 qs qp) = (Slot.unset) from (if_neg hc38_45), show (j3_100_3 qA qB qD qr0 qr1 qr2 qs qp) = (Slot.unset) from (if_neg hc38_45), show (j3_100_e0 qA qB qD qr0 qr1 qr2 qs qp) = (j3_20_e0 qA qB qD qr0 qr1 qr2 qs qp) from (if_neg hc38_45), show (j3_100_e1 qA qB qD qr0 qr1 qr2 qs qp) = (j3_20_e1 qA qB qD qr0 qr1 qr2 qs qp) from (if_neg hc38_45), show (j3_100_e2 qA qB qD qr0 qr1 qr2 qs qp) = (j3_20_e2 qA qB qD qr0 qr1 qr2 qs qp) from (if_neg hc38_45), show (j3_100_size qA qB qD qr0 qr1 qr2 qs qp) = qs from (if_neg hc38_45), show (j3_100_place qA qB qD qr0 qr1 qr2 qs qp) = ((j3_20_place qA qB qD qr0 qr1 qr2 qs qp) + (1 : Int32)) from (if_neg hc38_45)] at q
      exact q _ _ _ X44 e44 N42 Zn42 K42 V_r V_w E_x0 F_wanted_x0 F_ring_x0 F_size_x0 F_place_x0
  by_cases hs8_840 : qp = (0 : Int32)
  · skip
    rw [hs8_840] at F_place_x0
    refine Goes.cast (show (mkF m 8 #[rv x0, .unset, .unset, .unset] [(.int qp), (.ref r)]) = (mkF m 8 #[rv x0, .unset, .unset, .unset] [(.int (0 : Int32)), (.ref r)]) by rw [hs8_840]) ?_
    obtain ⟨cl841, Ar841, q841, S841, M841, Hs841, G841⟩ := id V_r
    have hin841 : ¬ ((0 : Int32) < 0 ∨ cl841.slots.size ≤ ((0 : Int32)).toNatClampNeg) := inb_of S841 ⟨(by decide), (by decide)⟩
    have hat841 : cl841.slots[((0 : Int32)).toNatClampNeg]? = some (.int qr0) := Hs841.at hin841 rfl
    refine Goes.st (B := T2.setTop (mkF m 9 #[rv x0, .unset, .unset, .unset] [(.int qr0)])) (X2.iaload hx (j := (0 : Int32)) (v := (.int qr0)) (by rw [e2]; exact Ar841.1) (State.isArrayOf_alike hZ.alike Ar841.2.1) Ar841.2.2 hin841 hat841 (g := (mkF m 8 #[rv x0, .unset, .unset, .unset] [(.int (0 : Int32)), (.ref r)])) rfl rfl (hb hby d3_8)) ?_
    refine Goes.run X2 hx hown hci hcl hby (L := [(9, .istore_n 1, 1), (10, .aload_n 0, 1)]) (by decide +kernel) rfl (g' := (mkF m 11 #[rv x0, iv qr0, .unset, .unset] [(.ref x0)])) rfl ?_
    obtain ⟨T842, X842, e842, st842⟩ := getF X2 hx hZ hown (host := "") (Or.inl w_27) Via.refl e2 F_wanted_x0 (g := (mkF m 11 #[rv x0, iv qr0, .unset, .unset] [(.ref x0)])) rfl rfl (hb hby d3_11)
    refine Goes.st (B := T842.setTop (mkF m 14 #[rv x0, iv qr0, .unset, .unset] [(.ref w)])) st842 ?_
    refine Goes.run X842 hx hown hci hcl hby (L := [(14, .iload_n 1, 1)]) (by decide +kernel) rfl (g' := (mkF m 15 #[rv x0, iv qr0, .unset, .unset] [(.int qr0), (.ref w)])) rfl ?_
    by_cases hs15_843 : qr0 = (0 : Int32)
    · skip
      rw [hs15_843] at V_r
      refine Goes.cast (show (mkF m 15 #[rv x0, iv qr0, .unset, .unset] [(.int qr0), (.ref w)]) = (mkF m 15 #[rv x0, iv (0 : Int32), .unset, .unset] [(.int (0 : Int32)), (.ref w)]) by rw [hs15_843]) ?_
      refine Goes.st (B := T842.setTop (mkF m 16 #[rv x0, iv (0 : Int32), .unset, .unset] [(.int (0 : Int32)), (.ref w), (.int (0 : Int32)), (.ref w)])) (fun t k => ?_) ?_
      · refine Jvm.Free.XT.dup2 X842.here hx rfl (hb hby d3_15) rfl rfl rfl ?_
        exact k
      obtain ⟨cl844, Ar844, q844, S844, M844, Hs844, G844⟩ := id V_w
      have hin844 : ¬ ((0 : Int32) < 0 ∨ cl844.slots.size ≤ ((0 : Int32)).toNatClampNeg) := inb_of S844 ⟨(by decide), (by decide)⟩
      have hat844 : cl844.slots[((0 : Int32)).toNatClampNeg]? = some (.long qA) := Hs844.at hin844 rfl
      refine Goes.st (B := T842.setTop (mkF m 17 #[rv x0, iv (0 : Int32), .unset, .unset] [(.long qA), (.int (0 : Int32)), (.ref w)])) (X842.laload hx (j := (0 : Int32)) (v := (.long qA)) (by rw [e842]; exact Ar844.1) (State.isArrayOf_alike hZ.alike Ar844.2.1) Ar844.2.2 hin844 hat844 (g := (mkF m 16 #[rv x0, iv (0 : Int32), .unset, .unset] [(.int (0 : Int32)), (.ref w), (.int (0 : Int32)), (.ref w)])) rfl rfl (hb hby d3_16)) ?_
      refine Goes.run X842 hx hown hci hcl hby (L := [(17, .lconst 1, 1), (18, .lsub, 1)]) (by decide +kernel) rfl (g' := (mkF m 19 #[rv x0, iv (0 : Int32), .unset, .unset] [(.long (qA - (1 : Int64))), (.int (0 : Int32)), (.ref w)])) rfl ?_
      obtain ⟨cl845, Ar845, q845, S845, M845, Hs845, G845⟩ := id V_w
      have hin845 : ¬ ((0 : Int32) < 0 ∨ cl845.slots.size ≤ ((0 : Int32)).toNatClampNeg) := inb_of S845 ⟨(by decide), (by decide)⟩
      obtain ⟨T845, h845, X845, e845, W845, st845⟩ := stJ X842 hx hZ e842 Ar845 (j := (0 : Int32)) hin845 (g := (mkF m 19 #[rv x0, iv (0 : Int32), .unset, .unset] [(.long (qA - (1 : Int64))), (.int (0 : Int32)), (.ref w)])) rfl rfl (hb hby d3_19)
      have E_x0 := E_x0.wr W845
      have F_wanted_x0 := F_wanted_x0.other W845 (Or.inl nxw)
      have F_ring_x0 := F_ring_x0.other W845 (Or.inl nxw)
      have F_size_x0 := F_size_x0.other W845 (Or.inl nxw)
      have F_place_x0 := F_place_x0.other W845 (Or.inl nxw)
      have V_r := V_r.other W845 (Ne.symm nwr)
      have Zn845 : n0 ≤ h845.size := Nat.le_trans Z0 (Keep.of_wr W845).1
      have K845 := K0.wr W845 (Or.inl (List.mem_of_getElem? (i := 1) rfl))
      have N845 := Fr.snoc X845 N0 g_w
      have V_w : Arv Z h845 w kw .long (3 : Int32) [(.long (qA - (1 : Int64))), (.long qB), (.long qD)] (.long (0 : Int64)) := Arv.set Ar845 q845 S845 M845 Hs845 G845 rfl W845 0 rfl (Nat.le_of_ble_eq_true rfl)
      refine Goes.st (B := T845.setTop (mkF m 20 #[rv x0, iv (0 : Int32), .unset, .unset] [])) st845 ?_
      have q := jn20_40
      rw [show (j3_20_1 qA qB qD qr0 qr1 qr2 qs qp) = (0 : Int32) from ((if_pos hs8_840).trans (if_pos hs15_843)), show (j3_20_e0 qA qB qD qr0 qr1 qr2 qs qp) = (0 : Int32) from ((if_pos hs8_840).trans (if_pos hs15_843)), show (j3_20_e1 qA qB qD qr0 qr1 qr2 qs qp) = qr1 from ((if_pos hs8_840).trans (if_pos hs15_843)), show (j3_20_e2 qA qB qD qr0 qr1 qr2 qs qp) = qr2 from ((if_pos hs8_840).trans (if_pos hs15_843)), show (j3_20_e0_a qA qB qD qr0 qr1 qr2 qs qp) = (qA - (1 : Int64)) from ((if_pos hs8_840).trans (if_pos hs15_843)), show (j3_20_e1_a qA qB qD qr0 qr1 qr2 qs qp) = qB from ((if_pos hs8_840).trans (if_pos hs15_843)), show (j3_20_e2_a qA qB qD qr0 qr1 qr2 qs qp) = qD from ((if_pos hs8_840).trans (if_pos hs15_843)), show (j3_20_place qA qB qD qr0 qr1 qr2 qs qp) = (0 : Int32) from ((if_pos hs8_840).trans (if_pos hs15_843))] at q
      exact q _ _ _ X845 e845 N845 Zn845 K845 V_r V_w E_x0 F_wanted_x0 F_ring_x0 F_size_x0 F_place_x0
    · skip
      by_cases hs15_846 : qr0 = (1 : Int32)
      · skip
        rw [hs15_846] at V_r
        refine Goes.cast (show (mkF m 15 #[rv x0, iv qr0, .unset, .unset] [(.int qr0), (.ref w)]) = (mkF m 15 #[rv x0, iv (1 : Int32), .unset, .unset] [(.int (1 : Int32)), (.ref w)]) by rw [hs15_846]) ?_
        refine Goes.st (B := T842.setTop (mkF m 16 #[rv x0, iv (1 : Int32), .unset, .unset] [(.int (1 : Int32)), (.ref w), (.int (1 : Int32)), (.ref w)])) (fun t k => ?_) ?_
        · refine Jvm.Free.XT.dup2 X842.here hx rfl (hb hby d3_15) rfl rfl rfl ?_
          exact k
        obtain ⟨cl847, Ar847, q847, S847, M847, Hs847, G847⟩ := id V_w
        have hin847 : ¬ ((1 : Int32) < 0 ∨ cl847.slots.size ≤ ((1 : Int32)).toNatClampNeg) := inb_of S847 ⟨(by decide), (by decide)⟩
        have hat847 : cl847.slots[((1 : Int32)).toNatClampNeg]? = some (.long qB) := Hs847.at hin847 rfl
        refine Goes.st (B := T842.setTop (mkF m 17 #[rv x0, iv (1 : Int32), .unset, .unset] [(.long qB), (.int (1 : Int32)), (.ref w)])) (X842.laload hx (j := (1 : Int32)) (v := (.long qB)) (by rw [e842]; exact Ar847.1) (State.isArrayOf_alike hZ.alike Ar847.2.1) Ar847.2.2 hin847 hat847 (g := (mkF m 16 #[rv x0, iv (1 : Int32), .unset, .unset] [(.int (1 : Int32)), (.ref w), (.int (1 : Int32)), (.ref w)])) rfl rfl (hb hby d3_16)) ?_
        refine Goes.run X842 hx hown hci hcl hby (L := [(17, .lconst 1, 1), (18, .lsub, 1)]) (by decide +kernel) rfl (g' := (mkF m 19 #[rv x0, iv (1 : Int32), .unset, .unset] [(.long (qB - (1 : Int64))), (.int (1 : Int32)), (.ref w)])) rfl ?_
        obtain ⟨cl848, Ar848, q848, S848, M848, Hs848, G848⟩ := id V_w
        have hin848 : ¬ ((1 : Int32) < 0 ∨ cl848.slots.size ≤ ((1 : Int32)).toNatClampNeg) := inb_of S848 ⟨(by decide), (by decide)⟩
        obtain ⟨T848, h848, X848, e848, W848, st848⟩ := stJ X842 hx hZ e842 Ar848 (j := (1 : Int32)) hin848 (g := (mkF m 19 #[rv x0, iv (1 : Int32), .unset, .unset] [(.long (qB - (1 : Int64))), (.int (1 : Int32)), (.ref w)])) rfl rfl (hb hby d3_19)
        have E_x0 := E_x0.wr W848
        have F_wanted_x0 := F_wanted_x0.other W848 (Or.inl nxw)
        have F_ring_x0 := F_ring_x0.other W848 (Or.inl nxw)
        have F_size_x0 := F_size_x0.other W848 (Or.inl nxw)
        have F_place_x0 := F_place_x0.other W848 (Or.inl nxw)
        have V_r := V_r.other W848 (Ne.symm nwr)
        have Zn848 : n0 ≤ h848.size := Nat.le_trans Z0 (Keep.of_wr W848).1
        have K848 := K0.wr W848 (Or.inl (List.mem_of_getElem? (i := 1) rfl))
        have N848 := Fr.snoc X848 N0 g_w
        have V_w : Arv Z h848 w kw .long (3 : Int32) [(.long qA), (.long (qB - (1 : Int64))), (.long qD)] (.long (0 : Int64)) := Arv.set Ar848 q848 S848 M848 Hs848 G848 rfl W848 1 rfl (Nat.le_of_ble_eq_true rfl)
        refine Goes.st (B := T848.setTop (mkF m 20 #[rv x0, iv (1 : Int32), .unset, .unset] [])) st848 ?_
        have q := jn20_40
        rw [show (j3_20_1 qA qB qD qr0 qr1 qr2 qs qp) = (1 : Int32) from (((if_pos hs8_840).trans (if_neg hs15_843)).trans (if_pos hs15_846)), show (j3_20_e0 qA qB qD qr0 qr1 qr2 qs qp) = (1 : Int32) from (((if_pos hs8_840).trans (if_neg hs15_843)).trans (if_pos hs15_846)), show (j3_20_e1 qA qB qD qr0 qr1 qr2 qs qp) = qr1 from (((if_pos hs8_840).trans (if_neg hs15_843)).trans (if_pos hs15_846)), show (j3_20_e2 qA qB qD qr0 qr1 qr2 qs qp) = qr2 from (((if_pos hs8_840).trans (if_neg hs15_843)).trans (if_pos hs15_846)), show (j3_20_e0_a qA qB qD qr0 qr1 qr2 qs qp) = qA from (((if_pos hs8_840).trans (if_neg hs15_843)).trans (if_pos hs15_846)), show (j3_20_e1_a qA qB qD qr0 qr1 qr2 qs qp) = (qB - (1 : Int64)) from (((if_pos hs8_840).trans (if_neg hs15_843)).trans (if_pos hs15_846)), show (j3_20_e2_a qA qB qD qr0 qr1 qr2 qs qp) = qD from (((if_pos hs8_840).trans (if_neg hs15_843)).trans (if_pos hs15_846)), show (j3_20_place qA qB qD qr0 qr1 qr2 qs qp) = (0 : Int32) from (((if_pos hs8_840).trans (if_neg hs15_843)).trans (if_pos hs15_846))] at q
        exact q _ _ _ X848 e848 N848 Zn848 K848 V_r V_w E_x0 F_wanted_x0 F_ring_x0 F_size_x0 F_place_x0
      · skip
        have hs15_849 : qr0 = (2 : Int32) := own_la3 hR0 hs15_843 hs15_846
        rw [hs15_849] at V_r
        refine Goes.cast (show (mkF m 15 #[rv x0, iv qr0, .unset, .unset] [(.int qr0), (.ref w)]) = (mkF m 15 #[rv x0, iv (2 : Int32), .unset, .unset] [(.int (2 : Int32)), (.ref w)]) by rw [hs15_849]) ?_
        refine Goes.st (B := T842.setTop (mkF m 16 #[rv x0, iv (2 : Int32), .unset, .unset] [(.int (2 : Int32)), (.ref w), (.int (2 : Int32)), (.ref w)])) (fun t k => ?_) ?_
        · refine Jvm.Free.XT.dup2 X842.here hx rfl (hb hby d3_15) rfl rfl rfl ?_
          exact k
        obtain ⟨cl850, Ar850, q850, S850, M850, Hs850, G850⟩ := id V_w
        have hin850 : ¬ ((2 : Int32) < 0 ∨ cl850.slots.size ≤ ((2 : Int32)).toNatClampNeg) := inb_of S850 ⟨(by decide), (by decide)⟩
        have hat850 : cl850.slots[((2 : Int32)).toNatClampNeg]? = some (.long qD) := Hs850.at hin850 rfl
        refine Goes.st (B := T842.setTop (mkF m 17 #[rv x0, iv (2 : Int32), .unset, .unset] [(.long qD), (.int (2 : Int32)), (.ref w)])) (X842.laload hx (j := (2 : Int32)) (v := (.long qD)) (by rw [e842]; exact Ar850.1) (State.isArrayOf_alike hZ.alike Ar850.2.1) Ar850.2.2 hin850 hat850 (g := (mkF m 16 #[rv x0, iv (2 : Int32), .unset, .unset] [(.int (2 : Int32)), (.ref w), (.int (2 : Int32)), (.ref w)])) rfl rfl (hb hby d3_16)) ?_
        refine Goes.run X842 hx hown hci hcl hby (L := [(17, .lconst 1, 1), (18, .lsub, 1)]) (by decide +kernel) rfl (g' := (mkF m 19 #[rv x0, iv (2 : Int32), .unset, .unset] [(.long (qD - (1 : Int64))), (.int (2 : Int32)), (.ref w)])) rfl ?_
        obtain ⟨cl851, Ar851, q851, S851, M851, Hs851, G851⟩ := id V_w
        have hin851 : ¬ ((2 : Int32) < 0 ∨ cl851.slots.size ≤ ((2 : Int32)).toNatClampNeg) := inb_of S851 ⟨(by decide), (by decide)⟩
        obtain ⟨T851, h851, X851, e851, W851, st851⟩ := stJ X842 hx hZ e842 Ar851 (j := (2 : Int32)) hin851 (g := (mkF m 19 #[rv x0, iv (2 : Int32), .unset, .unset] [(.long (qD - (1 : Int64))), (.int (2 : Int32)), (.ref w)])) rfl rfl (hb hby d3_19)
        have E_x0 := E_x0.wr W851
        have F_wanted_x0 := F_wanted_x0.other W851 (Or.inl nxw)
        have F_ring_x0 := F_ring_x0.other W851 (Or.inl nxw)
        have F_size_x0 := F_size_x0.other W851 (Or.inl nxw)
        have F_place_x0 := F_place_x0.other W851 (Or.inl nxw)
        have V_r := V_r.other W851 (Ne.symm nwr)
        have Zn851 : n0 ≤ h851.size := Nat.le_trans Z0 (Keep.of_wr W851).1
        have K851 := K0.wr W851 (Or.inl (List.mem_of_getElem? (i := 1) rfl))
        have N851 := Fr.snoc X851 N0 g_w
        have V_w : Arv Z h851 w kw .long (3 : Int32) [(.long qA), (.long qB), (.long (qD - (1 : Int64)))] (.long (0 : Int64)) := Arv.set Ar851 q851 S851 M851 Hs851 G851 rfl W851 2 rfl (Nat.le_of_ble_eq_true rfl)
        refine Goes.st (B := T851.setTop (mkF m 20 #[rv x0, iv (2 : Int32), .unset, .unset] [])) st851 ?_
        have q := jn20_40
        rw [show (j3_20_1 qA qB qD qr0 qr1 qr2 qs qp) = (2 : Int32) from (((if_pos hs8_840).trans (if_neg hs15_843)).trans (if_neg hs15_846)), show (j3_20_e0 qA qB qD qr0 qr1 qr2 qs qp) = (2 : Int32) from (((if_pos hs8_840).trans (if_neg hs15_843)).trans (if_neg hs15_846)), show (j3_20_e1 qA qB qD qr0 qr1 qr2 qs qp) = qr1 from (((if_pos hs8_840).trans (if_neg hs15_843)).trans (if_neg hs15_846)), show (j3_20_e2 qA qB qD qr0 qr1 qr2 qs qp) = qr2 from (((if_pos hs8_840).trans (if_neg hs15_843)).trans (if_neg hs15_846)), show (j3_20_e0_a qA qB qD qr0 qr1 qr2 qs qp) = qA from (((if_pos hs8_840).trans (if_neg hs15_843)).trans (if_neg hs15_846)), show (j3_20_e1_a qA qB qD qr0 qr1 qr2 qs qp) = qB from (((if_pos hs8_840).trans (if_neg hs15_843)).trans (if_neg hs15_846)), show (j3_20_e2_a qA qB qD qr0 qr1 qr2 qs qp) = (qD - (1 : Int64)) from (((if_pos hs8_840).trans (if_neg hs15_843)).trans (if_neg hs15_846)), show (j3_20_place qA qB qD qr0 qr1 qr2 qs qp) = (0 : Int32) from (((if_pos hs8_840).trans (if_neg hs15_843)).trans (if_neg hs15_846))] at q
        exact q _ _ _ X851 e851 N851 Zn851 K851 V_r V_w E_x0 F_wanted_x0 F_ring_x0 F_size_x0 F_place_x0
  · skip
    by_cases hs8_852 : qp = (1 : Int32)
    · skip
      rw [hs8_852] at F_place_x0
      refine Goes.cast (show (mkF m 8 #[rv x0, .unset, .unset, .unset] [(.int qp), (.ref r)]) = (mkF m 8 #[rv x0, .unset, .unset, .unset] [(.int (1 : Int32)), (.ref r)]) by rw [hs8_852]) ?_
      obtain ⟨cl853, Ar853, q853, S853, M853, Hs853, G853⟩ := id V_r
      have hin853 : ¬ ((1 : Int32) < 0 ∨ cl853.slots.size ≤ ((1 : Int32)).toNatClampNeg) := inb_of S853 ⟨(by decide), (by decide)⟩
      have hat853 : cl853.slots[((1 : Int32)).toNatClampNeg]? = some (.int qr1) := Hs853.at hin853 rfl
      refine Goes.st (B := T2.setTop (mkF m 9 #[rv x0, .unset, .unset, .unset] [(.int qr1)])) (X2.iaload hx (j := (1 : Int32)) (v := (.int qr1)) (by rw [e2]; exact Ar853.1) (State.isArrayOf_alike hZ.alike Ar853.2.1) Ar853.2.2 hin853 hat853 (g := (mkF m 8 #[rv x0, .unset, .unset, .unset] [(.int (1 : Int32)), (.ref r)])) rfl rfl (hb hby d3_8)) ?_
      refine Goes.run X2 hx hown hci hcl hby (L := [(9, .istore_n 1, 1), (10, .aload_n 0, 1)]) (by decide +kernel) rfl (g' := (mkF m 11 #[rv x0, iv qr1, .unset, .unset] [(.ref x0)])) rfl ?_
      obtain ⟨T854, X854, e854, st854⟩ := getF X2 hx hZ hown (host := "") (Or.inl w_27) Via.refl e2 F_wanted_x0 (g := (mkF m 11 #[rv x0, iv qr1, .unset, .unset] [(.ref x0)])) rfl rfl (hb hby d3_11)
      refine Goes.st (B := T854.setTop (mkF m 14 #[rv x0, iv qr1, .unset, .unset] [(.ref w)])) st854 ?_
      refine Goes.run X854 hx hown hci hcl hby (L := [(14, .iload_n 1, 1)]) (by decide +kernel) rfl (g' := (mkF m 15 #[rv x0, iv qr1, .unset, .unset] [(.int qr1), (.ref w)])) rfl ?_
      by_cases hs15_855 : qr1 = (0 : Int32)
      · skip
        rw [hs15_855] at V_r
        refine Goes.cast (show (mkF m 15 #[rv x0, iv qr1, .unset, .unset] [(.int qr1), (.ref w)]) = (mkF m 15 #[rv x0, iv (0 : Int32), .unset, .unset] [(.int (0 : Int32)), (.ref w)]) by rw [hs15_855]) ?_
        refine Goes.st (B := T854.setTop (mkF m 16 #[rv x0, iv (0 : Int32), .unset, .unset] [(.int (0 : Int32)), (.ref w), (.int (0 : Int32)), (.ref w)])) (fun t k => ?_) ?_
        · refine Jvm.Free.XT.dup2 X854.here hx rfl (hb hby d3_15) rfl rfl rfl ?_
          exact k
        obtain ⟨cl856, Ar856, q856, S856, M856, Hs856, G856⟩ := id V_w
        have hin856 : ¬ ((0 : Int32) < 0 ∨ cl856.slots.size ≤ ((0 : Int32)).toNatClampNeg) := inb_of S856 ⟨(by decide), (by decide)⟩
        have hat856 : cl856.slots[((0 : Int32)).toNatClampNeg]? = some (.long qA) := Hs856.at hin856 rfl
        refine Goes.st (B := T854.setTop (mkF m 17 #[rv x0, iv (0 : Int32), .unset, .unset] [(.long qA), (.int (0 : Int32)), (.ref w)])) (X854.laload hx (j := (0 : Int32)) (v := (.long qA)) (by rw [e854]; exact Ar856.1) (State.isArrayOf_alike hZ.alike Ar856.2.1) Ar856.2.2 hin856 hat856 (g := (mkF m 16 #[rv x0, iv (0 : Int32), .unset, .unset] [(.int (0 : Int32)), (.ref w), (.int (0 : Int32)), (.ref w)])) rfl rfl (hb hby d3_16)) ?_
        refine Goes.run X854 hx hown hci hcl hby (L := [(17, .lconst 1, 1), (18, .lsub, 1)]) (by decide +kernel) rfl (g' := (mkF m 19 #[rv x0, iv (0 : Int32), .unset, .unset] [(.long (qA - (1 : Int64))), (.int (0 : Int32)), (.ref w)])) rfl ?_
        obtain ⟨cl857, Ar857, q857, S857, M857, Hs857, G857⟩ := id V_w
        have hin857 : ¬ ((0 : Int32) < 0 ∨ cl857.slots.size ≤ ((0 : Int32)).toNatClampNeg) := inb_of S857 ⟨(by decide), (by decide)⟩
        obtain ⟨T857, h857, X857, e857, W857, st857⟩ := stJ X854 hx hZ e854 Ar857 (j := (0 : Int32)) hin857 (g := (mkF m 19 #[rv x0, iv (0 : Int32), .unset, .unset] [(.long (qA - (1 : Int64))), (.int (0 : Int32)), (.ref w)])) rfl rfl (hb hby d3_19)
        have E_x0 := E_x0.wr W857
        have F_wanted_x0 := F_wanted_x0.other W857 (Or.inl nxw)
        have F_ring_x0 := F_ring_x0.other W857 (Or.inl nxw)
        have F_size_x0 := F_size_x0.other W857 (Or.inl nxw)
        have F_place_x0 := F_place_x0.other W857 (Or.inl nxw)
        have V_r := V_r.other W857 (Ne.symm nwr)
        have Zn857 : n0 ≤ h857.size := Nat.le_trans Z0 (Keep.of_wr W857).1
        have K857 := K0.wr W857 (Or.inl (List.mem_of_getElem? (i := 1) rfl))
        have N857 := Fr.snoc X857 N0 g_w
        have V_w : Arv Z h857 w kw .long (3 : Int32) [(.long (qA - (1 : Int64))), (.long qB), (.long qD)] (.long (0 : Int64)) := Arv.set Ar857 q857 S857 M857 Hs857 G857 rfl W857 0 rfl (Nat.le_of_ble_eq_true rfl)
        refine Goes.st (B := T857.setTop (mkF m 20 #[rv x0, iv (0 : Int32), .unset, .unset] [])) st857 ?_
        have q := jn20_40
        rw [show (j3_20_1 qA qB qD qr0 qr1 qr2 qs qp) = (0 : Int32) from (((if_neg hs8_840).trans (if_pos hs8_852)).trans (if_pos hs15_855)), show (j3_20_e0 qA qB qD qr0 qr1 qr2 qs qp) = qr0 from (((if_neg hs8_840).trans (if_pos hs8_852)).trans (if_pos hs15_855)), show (j3_20_e1 qA qB qD qr0 qr1 qr2 qs qp) = (0 : Int32) from (((if_neg hs8_840).trans (if_pos hs8_852)).trans (if_pos hs15_855)), show (j3_20_e2 qA qB qD qr0 qr1 qr2 qs qp) = qr2 from (((if_neg hs8_840).trans (if_pos hs8_852)).trans (if_pos hs15_855)), show (j3_20_e0_a qA qB qD qr0 qr1 qr2 qs qp) = (qA - (1 : Int64)) from (((if_neg hs8_840).trans (if_pos hs8_852)).trans (if_pos hs15_855)), show (j3_20_e1_a qA qB qD qr0 qr1 qr2 qs qp) = qB from (((if_neg hs8_840).trans (if_pos hs8_852)).trans (if_pos hs15_855)), show (j3_20_e2_a qA qB qD qr0 qr1 qr2 qs qp) = qD from (((if_neg hs8_840).trans (if_pos hs8_852)).trans (if_pos hs15_855)), show (j3_20_place qA qB qD qr0 qr1 qr2 qs qp) = (1 : Int32) from (((if_neg hs8_840).trans (if_pos hs8_852)).trans (if_pos hs15_855))] at q
        exact q _ _ _ X857 e857 N857 Zn857 K857 V_r V_w E_x0 F_wanted_x0 F_ring_x0 F_size_x0 F_place_x0
      · skip
        by_cases hs15_858 : qr1 = (1 : Int32)
        · skip
          rw [hs15_858] at V_r
          refine Goes.cast (show (mkF m 15 #[rv x0, iv qr1, .unset, .unset] [(.int qr1), (.ref w)]) = (mkF m 15 #[rv x0, iv (1 : Int32), .unset, .unset] [(.int (1 : Int32)), (.ref w)]) by rw [hs15_858]) ?_
          refine Goes.st (B := T854.setTop (mkF m 16 #[rv x0, iv (1 : Int32), .unset, .unset] [(.int (1 : Int32)), (.ref w), (.int (1 : Int32)), (.ref w)])) (fun t k => ?_) ?_
          · refine Jvm.Free.XT.dup2 X854.here hx rfl (hb hby d3_15) rfl rfl rfl ?_
            exact k
          obtain ⟨cl859, Ar859, q859, S859, M859, Hs859, G859⟩ := id V_w
          have hin859 : ¬ ((1 : Int32) < 0 ∨ cl859.slots.size ≤ ((1 : Int32)).toNatClampNeg) := inb_of S859 ⟨(by decide), (by decide)⟩
          have hat859 : cl859.slots[((1 : Int32)).toNatClampNeg]? = some (.long qB) := Hs859.at hin859 rfl
          refine Goes.st (B := T854.setTop (mkF m 17 #[rv x0, iv (1 : Int32), .unset, .unset] [(.long qB), (.int (1 : Int32)), (.ref w)])) (X854.laload hx (j := (1 : Int32)) (v := (.long qB)) (by rw [e854]; exact Ar859.1) (State.isArrayOf_alike hZ.alike Ar859.2.1) Ar859.2.2 hin859 hat859 (g := (mkF m 16 #[rv x0, iv (1 : Int32), .unset, .unset] [(.int (1 : Int32)), (.ref w), (.int (1 : Int32)), (.ref w)])) rfl rfl (hb hby d3_16)) ?_
          refine Goes.run X854 hx hown hci hcl hby (L := [(17, .lconst 1, 1), (18, .lsub, 1)]) (by decide +kernel) rfl (g' := (mkF m 19 #[rv x0, iv (1 : Int32), .unset, .unset] [(.long (qB - (1 : Int64))), (.int (1 : Int32)), (.ref w)])) rfl ?_
          obtain ⟨cl860, Ar860, q860, S860, M860, Hs860, G860⟩ := id V_w
          have hin860 : ¬ ((1 : Int32) < 0 ∨ cl860.slots.size ≤ ((1 : Int32)).toNatClampNeg) := inb_of S860 ⟨(by decide), (by decide)⟩
          obtain ⟨T860, h860, X860, e860, W860, st860⟩ := stJ X854 hx hZ e854 Ar860 (j := (1 : Int32)) hin860 (g := (mkF m 19 #[rv x0, iv (1 : Int32), .unset, .unset] [(.long (qB - (1 : Int64))), (.int (1 : Int32)), (.ref w)])) rfl rfl (hb hby d3_19)
          have E_x0 := E_x0.wr W860
          have F_wanted_x0 := F_wanted_x0.other W860 (Or.inl nxw)
          have F_ring_x0 := F_ring_x0.other W860 (Or.inl nxw)
          have F_size_x0 := F_size_x0.other W860 (Or.inl nxw)
          have F_place_x0 := F_place_x0.other W860 (Or.inl nxw)
          have V_r := V_r.other W860 (Ne.symm nwr)
          have Zn860 : n0 ≤ h860.size := Nat.le_trans Z0 (Keep.of_wr W860).1
          have K860 := K0.wr W860 (Or.inl (List.mem_of_getElem? (i := 1) rfl))
          have N860 := Fr.snoc X860 N0 g_w
          have V_w : Arv Z h860 w kw .long (3 : Int32) [(.long qA), (.long (qB - (1 : Int64))), (.long qD)] (.long (0 : Int64)) := Arv.set Ar860 q860 S860 M860 Hs860 G860 rfl W860 1 rfl (Nat.le_of_ble_eq_true rfl)
          refine Goes.st (B := T860.setTop (mkF m 20 #[rv x0, iv (1 : Int32), .unset, .unset] [])) st860 ?_
          have q := jn20_40
          rw [show (j3_20_1 qA qB qD qr0 qr1 qr2 qs qp) = (1 : Int32) from ((((if_neg hs8_840).trans (if_pos hs8_852)).trans (if_neg hs15_855)).trans (if_pos hs15_858)), show (j3_20_e0 qA qB qD qr0 qr1 qr2 qs qp) = qr0 from ((((if_neg hs8_840).trans (if_pos hs8_852)).trans (if_neg hs15_855)).trans (if_pos hs15_858)), show (j3_20_e1 qA qB qD qr0 qr1 qr2 qs qp) = (1 : Int32) from ((((if_neg hs8_840).trans (if_pos hs8_852)).trans (if_neg hs15_855)).trans (if_pos hs15_858)), show (j3_20_e2 qA qB qD qr0 qr1 qr2 qs qp) = qr2 from ((((if_neg hs8_840).trans (if_pos hs8_852)).trans (if_neg hs15_855)).trans (if_pos hs15_858)), show (j3_20_e0_a qA qB qD qr0 qr1 qr2 qs qp) = qA from ((((if_neg hs8_840).trans (if_pos hs8_852)).trans (if_neg hs15_855)).trans (if_pos hs15_858)), show (j3_20_e1_a qA qB qD qr0 qr1 qr2 qs qp) = (qB - (1 : Int64)) from ((((if_neg hs8_840).trans (if_pos hs8_852)).trans (if_neg hs15_855)).trans (if_pos hs15_858)), show (j3_20_e2_a qA qB qD qr0 qr1 qr2 qs qp) = qD from ((((if_neg hs8_840).trans (if_pos hs8_852)).trans (if_neg hs15_855)).trans (if_pos hs15_858)), show (j3_20_place qA qB qD qr0 qr1 qr2 qs qp) = (1 : Int32) from ((((if_neg hs8_840).trans (if_pos hs8_852)).trans (if_neg hs15_855)).trans (if_pos hs15_858))] at q
          exact q _ _ _ X860 e860 N860 Zn860 K860 V_r V_w E_x0 F_wanted_x0 F_ring_x0 F_size_x0 F_place_x0
        · skip
          have hs15_861 : qr1 = (2 : Int32) := own_la3 hR1 hs15_855 hs15_858
          rw [hs15_861] at V_r
          refine Goes.cast (show (mkF m 15 #[rv x0, iv qr1, .unset, .unset] [(.int qr1), (.ref w)]) = (mkF m 15 #[rv x0, iv (2 : Int32), .unset, .unset] [(.int (2 : Int32)), (.ref w)]) by rw [hs15_861]) ?_
          refine Goes.st (B := T854.setTop (mkF m 16 #[rv x0, iv (2 : Int32), .unset, .unset] [(.int (2 : Int32)), (.ref w), (.int (2 : Int32)), (.ref w)])) (fun t k => ?_) ?_
          · refine Jvm.Free.XT.dup2 X854.here hx rfl (hb hby d3_15) rfl rfl rfl ?_
            exact k
          obtain ⟨cl862, Ar862, q862, S862, M862, Hs862, G862⟩ := id V_w
          have hin862 : ¬ ((2 : Int32) < 0 ∨ cl862.slots.size ≤ ((2 : Int32)).toNatClampNeg) := inb_of S862 ⟨(by decide), (by decide)⟩
          have hat862 : cl862.slots[((2 : Int32)).toNatClampNeg]? = some (.long qD) := Hs862.at hin862 rfl
          refine Goes.st (B := T854.setTop (mkF m 17 #[rv x0, iv (2 : Int32), .unset, .unset] [(.long qD), (.int (2 : Int32)), (.ref w)])) (X854.laload hx (j := (2 : Int32)) (v := (.long qD)) (by rw [e854]; exact Ar862.1) (State.isArrayOf_alike hZ.alike Ar862.2.1) Ar862.2.2 hin862 hat862 (g := (mkF m 16 #[rv x0, iv (2 : Int32), .unset, .unset] [(.int (2 : Int32)), (.ref w), (.int (2 : Int32)), (.ref w)])) rfl rfl (hb hby d3_16)) ?_
          refine Goes.run X854 hx hown hci hcl hby (L := [(17, .lconst 1, 1), (18, .lsub, 1)]) (by decide +kernel) rfl (g' := (mkF m 19 #[rv x0, iv (2 : Int32), .unset, .unset] [(.long (qD - (1 : Int64))), (.int (2 : Int32)), (.ref w)])) rfl ?_
          obtain ⟨cl863, Ar863, q863, S863, M863, Hs863, G863⟩ := id V_w
          have hin863 : ¬ ((2 : Int32) < 0 ∨ cl863.slots.size ≤ ((2 : Int32)).toNatClampNeg) := inb_of S863 ⟨(by decide), (by decide)⟩
          obtain ⟨T863, h863, X863, e863, W863, st863⟩ := stJ X854 hx hZ e854 Ar863 (j := (2 : Int32)) hin863 (g := (mkF m 19 #[rv x0, iv (2 : Int32), .unset, .unset] [(.long (qD - (1 : Int64))), (.int (2 : Int32)), (.ref w)])) rfl rfl (hb hby d3_19)
          have E_x0 := E_x0.wr W863
          have F_wanted_x0 := F_wanted_x0.other W863 (Or.inl nxw)
          have F_ring_x0 := F_ring_x0.other W863 (Or.inl nxw)
          have F_size_x0 := F_size_x0.other W863 (Or.inl nxw)
          have F_place_x0 := F_place_x0.other W863 (Or.inl nxw)
          have V_r := V_r.other W863 (Ne.symm nwr)
          have Zn863 : n0 ≤ h863.size := Nat.le_trans Z0 (Keep.of_wr W863).1
          have K863 := K0.wr W863 (Or.inl (List.mem_of_getElem? (i := 1) rfl))
          have N863 := Fr.snoc X863 N0 g_w
          have V_w : Arv Z h863 w kw .long (3 : Int32) [(.long qA), (.long qB), (.long (qD - (1 : Int64)))] (.long (0 : Int64)) := Arv.set Ar863 q863 S863 M863 Hs863 G863 rfl W863 2 rfl (Nat.le_of_ble_eq_true rfl)
          refine Goes.st (B := T863.setTop (mkF m 20 #[rv x0, iv (2 : Int32), .unset, .unset] [])) st863 ?_
          have q := jn20_40
          rw [show (j3_20_1 qA qB qD qr0 qr1 qr2 qs qp) = (2 : Int32) from ((((if_neg hs8_840).trans (if_pos hs8_852)).trans (if_neg hs15_855)).trans (if_neg hs15_858)), show (j3_20_e0 qA qB qD qr0 qr1 qr2 qs qp) = qr0 from ((((if_neg hs8_840).trans (if_pos hs8_852)).trans (if_neg hs15_855)).trans (if_neg hs15_858)), show (j3_20_e1 qA qB qD qr0 qr1 qr2 qs qp) = (2 : Int32) from ((((if_neg hs8_840).trans (if_pos hs8_852)).trans (if_neg hs15_855)).trans (if_neg hs15_858)), show (j3_20_e2 qA qB qD qr0 qr1 qr2 qs qp) = qr2 from ((((if_neg hs8_840).trans (if_pos hs8_852)).trans (if_neg hs15_855)).trans (if_neg hs15_858)), show (j3_20_e0_a qA qB qD qr0 qr1 qr2 qs qp) = qA from ((((if_neg hs8_840).trans (if_pos hs8_852)).trans (if_neg hs15_855)).trans (if_neg hs15_858)), show (j3_20_e1_a qA qB qD qr0 qr1 qr2 qs qp) = qB from ((((if_neg hs8_840).trans (if_pos hs8_852)).trans (if_neg hs15_855)).trans (if_neg hs15_858)), show (j3_20_e2_a qA qB qD qr0 qr1 qr2 qs qp) = (qD - (1 : Int64)) from ((((if_neg hs8_840).trans (if_pos hs8_852)).trans (if_neg hs15_855)).trans (if_neg hs15_858)), show (j3_20_place qA qB qD qr0 qr1 qr2 qs qp) = (1 : Int32) from ((((if_neg hs8_840).trans (if_pos hs8_852)).trans (if_neg hs15_855)).trans (if_neg hs15_858))] at q
          exact q _ _ _ X863 e863 N863 Zn863 K863 V_r V_w E_x0 F_wanted_x0 F_ring_x0 F_size_x0 F_place_x0
    · skip
      have hs8_864 : qp = (2 : Int32) := own_la3 hP hs8_840 hs8_852
      rw [hs8_864] at F_place_x0
      refine Goes.cast (show (mkF m 8 #[rv x0, .unset, .unset, .unset] [(.int qp), (.ref r)]) = (mkF m 8 #[rv x0, .unset, .unset, .unset] [(.int (2 : Int32)), (.ref r)]) by rw [hs8_864]) ?_
      obtain ⟨cl865, Ar865, q865, S865, M865, Hs865, G865⟩ := id V_r
      have hin865 : ¬ ((2 : Int32) < 0 ∨ cl865.slots.size ≤ ((2 : Int32)).toNatClampNeg) := inb_of S865 ⟨(by decide), (by decide)⟩
      have hat865 : cl865.slots[((2 : Int32)).toNatClampNeg]? = some (.int qr2) := Hs865.at hin865 rfl
      refine Goes.st (B := T2.setTop (mkF m 9 #[rv x0, .unset, .unset, .unset] [(.int qr2)])) (X2.iaload hx (j := (2 : Int32)) (v := (.int qr2)) (by rw [e2]; exact Ar865.1) (State.isArrayOf_alike hZ.alike Ar865.2.1) Ar865.2.2 hin865 hat865 (g := (mkF m 8 #[rv x0, .unset, .unset, .unset] [(.int (2 : Int32)), (.ref r)])) rfl rfl (hb hby d3_8)) ?_
      refine Goes.run X2 hx hown hci hcl hby (L := [(9, .istore_n 1, 1), (10, .aload_n 0, 1)]) (by decide +kernel) rfl (g' := (mkF m 11 #[rv x0, iv qr2, .unset, .unset] [(.ref x0)])) rfl ?_
      obtain ⟨T866, X866, e866, st866⟩ := getF X2 hx hZ hown (host := "") (Or.inl w_27) Via.refl e2 F_wanted_x0 (g := (mkF m 11 #[rv x0, iv qr2, .unset, .unset] [(.ref x0)])) rfl rfl (hb hby d3_11)
      refine Goes.st (B := T866.setTop (mkF m 14 #[rv x0, iv qr2, .unset, .unset] [(.ref w)])) st866 ?_
      refine Goes.run X866 hx hown hci hcl hby (L := [(14, .iload_n 1, 1)]) (by decide +kernel) rfl (g' := (mkF m 15 #[rv x0, iv qr2, .unset, .unset] [(.int qr2), (.ref w)])) rfl ?_
      by_cases hs15_867 : qr2 = (0 : Int32)
      · skip
        rw [hs15_867] at V_r
        refine Goes.cast (show (mkF m 15 #[rv x0, iv qr2, .unset, .unset] [(.int qr2), (.ref w)]) = (mkF m 15 #[rv x0, iv (0 : Int32), .unset, .unset] [(.int (0 : Int32)), (.ref w)]) by rw [hs15_867]) ?_
        refine Goes.st (B := T866.setTop (mkF m 16 #[rv x0, iv (0 : Int32), .unset, .unset] [(.int (0 : Int32)), (.ref w), (.int (0 : Int32)), (.ref w)])) (fun t k => ?_) ?_
        · refine Jvm.Free.XT.dup2 X866.here hx rfl (hb hby d3_15) rfl rfl rfl ?_
          exact k
        obtain ⟨cl868, Ar868, q868, S868, M868, Hs868, G868⟩ := id V_w
        have hin868 : ¬ ((0 : Int32) < 0 ∨ cl868.slots.size ≤ ((0 : Int32)).toNatClampNeg) := inb_of S868 ⟨(by decide), (by decide)⟩
        have hat868 : cl868.slots[((0 : Int32)).toNatClampNeg]? = some (.long qA) := Hs868.at hin868 rfl
        refine Goes.st (B := T866.setTop (mkF m 17 #[rv x0, iv (0 : Int32), .unset, .unset] [(.long qA), (.int (0 : Int32)), (.ref w)])) (X866.laload hx (j := (0 : Int32)) (v := (.long qA)) (by rw [e866]; exact Ar868.1) (State.isArrayOf_alike hZ.alike Ar868.2.1) Ar868.2.2 hin868 hat868 (g := (mkF m 16 #[rv x0, iv (0 : Int32), .unset, .unset] [(.int (0 : Int32)), (.ref w), (.int (0 : Int32)), (.ref w)])) rfl rfl (hb hby d3_16)) ?_
        refine Goes.run X866 hx hown hci hcl hby (L := [(17, .lconst 1, 1), (18, .lsub, 1)]) (by decide +kernel) rfl (g' := (mkF m 19 #[rv x0, iv (0 : Int32), .unset, .unset] [(.long (qA - (1 : Int64))), (.int (0 : Int32)), (.ref w)])) rfl ?_
        obtain ⟨cl869, Ar869, q869, S869, M869, Hs869, G869⟩ := id V_w
        have hin869 : ¬ ((0 : Int32) < 0 ∨ cl869.slots.size ≤ ((0 : Int32)).toNatClampNeg) := inb_of S869 ⟨(by decide), (by decide)⟩
        obtain ⟨T869, h869, X869, e869, W869, st869⟩ := stJ X866 hx hZ e866 Ar869 (j := (0 : Int32)) hin869 (g := (mkF m 19 #[rv x0, iv (0 : Int32), .unset, .unset] [(.long (qA - (1 : Int64))), (.int (0 : Int32)), (.ref w)])) rfl rfl (hb hby d3_19)
        have E_x0 := E_x0.wr W869
        have F_wanted_x0 := F_wanted_x0.other W869 (Or.inl nxw)
        have F_ring_x0 := F_ring_x0.other W869 (Or.inl nxw)
        have F_size_x0 := F_size_x0.other W869 (Or.inl nxw)
        have F_place_x0 := F_place_x0.other W869 (Or.inl nxw)
        have V_r := V_r.other W869 (Ne.symm nwr)
        have Zn869 : n0 ≤ h869.size := Nat.le_trans Z0 (Keep.of_wr W869).1
        have K869 := K0.wr W869 (Or.inl (List.mem_of_getElem? (i := 1) rfl))
        have N869 := Fr.snoc X869 N0 g_w
        have V_w : Arv Z h869 w kw .long (3 : Int32) [(.long (qA - (1 : Int64))), (.long qB), (.long qD)] (.long (0 : Int64)) := Arv.set Ar869 q869 S869 M869 Hs869 G869 rfl W869 0 rfl (Nat.le_of_ble_eq_true rfl)
        refine Goes.st (B := T869.setTop (mkF m 20 #[rv x0, iv (0 : Int32), .unset, .unset] [])) st869 ?_
        have q := jn20_40
        rw [show (j3_20_1 qA qB qD qr0 qr1 qr2 qs qp) = (0 : Int32) from (((if_neg hs8_840).trans (if_neg hs8_852)).trans (if_pos hs15_867)), show (j3_20_e0 qA qB qD qr0 qr1 qr2 qs qp) = qr0 from (((if_neg hs8_840).trans (if_neg hs8_852)).trans (if_pos hs15_867)), show (j3_20_e1 qA qB qD qr0 qr1 qr2 qs qp) = qr1 from (((if_neg hs8_840).trans (if_neg hs8_852)).trans (if_pos hs15_867)), show (j3_20_e2 qA qB qD qr0 qr1 qr2 qs qp) = (0 : Int32) from (((if_neg hs8_840).trans (if_neg hs8_852)).trans (if_pos hs15_867)), show (j3_20_e0_a qA qB qD qr0 qr1 qr2 qs qp) = (qA - (1 : Int64)) from (((if_neg hs8_840).trans (if_neg hs8_852)).trans (if_pos hs15_867)), show (j3_20_e1_a qA qB qD qr0 qr1 qr2 qs qp) = qB from (((if_neg hs8_840).trans (if_neg hs8_852)).trans (if_pos hs15_867)), show (j3_20_e2_a qA qB qD qr0 qr1 qr2 qs qp) = qD from (((if_neg hs8_840).trans (if_neg hs8_852)).trans (if_pos hs15_867)), show (j3_20_place qA qB qD qr0 qr1 qr2 qs qp) = (2 : Int32) from (((if_neg hs8_840).trans (if_neg hs8_852)).trans (if_pos hs15_867))] at q
        exact q _ _ _ X869 e869 N869 Zn869 K869 V_r V_w E_x0 F_wanted_x0 F_ring_x0 F_size_x0 F_place_x0
      · skip
        by_cases hs15_870 : qr2 = (1 : Int32)
        · skip
          rw [hs15_870] at V_r
          refine Goes.cast (show (mkF m 15 #[rv x0, iv qr2, .unset, .unset] [(.int qr2), (.ref w)]) = (mkF m 15 #[rv x0, iv (1 : Int32), .unset, .unset] [(.int (1 : Int32)), (.ref w)]) by rw [hs15_870]) ?_
          refine Goes.st (B := T866.setTop (mkF m 16 #[rv x0, iv (1 : Int32), .unset, .unset] [(.int (1 : Int32)), (.ref w), (.int (1 : Int32)), (.ref w)])) (fun t k => ?_) ?_
          · refine Jvm.Free.XT.dup2 X866.here hx rfl (hb hby d3_15) rfl rfl rfl ?_
            exact k
          obtain ⟨cl871, Ar871, q871, S871, M871, Hs871, G871⟩ := id V_w
          have hin871 : ¬ ((1 : Int32) < 0 ∨ cl871.slots.size ≤ ((1 : Int32)).toNatClampNeg) := inb_of S871 ⟨(by decide), (by decide)⟩
          have hat871 : cl871.slots[((1 : Int32)).toNatClampNeg]? = some (.long qB) := Hs871.at hin871 rfl
          refine Goes.st (B := T866.setTop (mkF m 17 #[rv x0, iv (1 : Int32), .unset, .unset] [(.long qB), (.int (1 : Int32)), (.ref w)])) (X866.laload hx (j := (1 : Int32)) (v := (.long qB)) (by rw [e866]; exact Ar871.1) (State.isArrayOf_alike hZ.alike Ar871.2.1) Ar871.2.2 hin871 hat871 (g := (mkF m 16 #[rv x0, iv (1 : Int32), .unset, .unset] [(.int (1 : Int32)), (.ref w), (.int (1 : Int32)), (.ref w)])) rfl rfl (hb hby d3_16)) ?_
          refine Goes.run X866 hx hown hci hcl hby (L := [(17, .lconst 1, 1), (18, .lsub, 1)]) (by decide +kernel) rfl (g' := (mkF m 19 #[rv x0, iv (1 : Int32), .unset, .unset] [(.long (qB - (1 : Int64))), (.int (1 : Int32)), (.ref w)])) rfl ?_
          obtain ⟨cl872, Ar872, q872, S872, M872, Hs872, G872⟩ := id V_w
          have hin872 : ¬ ((1 : Int32) < 0 ∨ cl872.slots.size ≤ ((1 : Int32)).toNatClampNeg) := inb_of S872 ⟨(by decide), (by decide)⟩
          obtain ⟨T872, h872, X872, e872, W872, st872⟩ := stJ X866 hx hZ e866 Ar872 (j := (1 : Int32)) hin872 (g := (mkF m 19 #[rv x0, iv (1 : Int32), .unset, .unset] [(.long (qB - (1 : Int64))), (.int (1 : Int32)), (.ref w)])) rfl rfl (hb hby d3_19)
          have E_x0 := E_x0.wr W872
          have F_wanted_x0 := F_wanted_x0.other W872 (Or.inl nxw)
          have F_ring_x0 := F_ring_x0.other W872 (Or.inl nxw)
          have F_size_x0 := F_size_x0.other W872 (Or.inl nxw)
          have F_place_x0 := F_place_x0.other W872 (Or.inl nxw)
          have V_r := V_r.other W872 (Ne.symm nwr)
          have Zn872 : n0 ≤ h872.size := Nat.le_trans Z0 (Keep.of_wr W872).1
          have K872 := K0.wr W872 (Or.inl (List.mem_of_getElem? (i := 1) rfl))
          have N872 := Fr.snoc X872 N0 g_w
          have V_w : Arv Z h872 w kw .long (3 : Int32) [(.long qA), (.long (qB - (1 : Int64))), (.long qD)] (.long (0 : Int64)) := Arv.set Ar872 q872 S872 M872 Hs872 G872 rfl W872 1 rfl (Nat.le_of_ble_eq_true rfl)
          refine Goes.st (B := T872.setTop (mkF m 20 #[rv x0, iv (1 : Int32), .unset, .unset] [])) st872 ?_
          have q := jn20_40
          rw [show (j3_20_1 qA qB qD qr0 qr1 qr2 qs qp) = (1 : Int32) from ((((if_neg hs8_840).trans (if_neg hs8_852)).trans (if_neg hs15_867)).trans (if_pos hs15_870)), show (j3_20_e0 qA qB qD qr0 qr1 qr2 qs qp) = qr0 from ((((if_neg hs8_840).trans (if_neg hs8_852)).trans (if_neg hs15_867)).trans (if_pos hs15_870)), show (j3_20_e1 qA qB qD qr0 qr1 qr2 qs qp) = qr1 from ((((if_neg hs8_840).trans (if_neg hs8_852)).trans (if_neg hs15_867)).trans (if_pos hs15_870)), show (j3_20_e2 qA qB qD qr0 qr1 qr2 qs qp) = (1 : Int32) from ((((if_neg hs8_840).trans (if_neg hs8_852)).trans (if_neg hs15_867)).trans (if_pos hs15_870)), show (j3_20_e0_a qA qB qD qr0 qr1 qr2 qs qp) = qA from ((((if_neg hs8_840).trans (if_neg hs8_852)).trans (if_neg hs15_867)).trans (if_pos hs15_870)), show (j3_20_e1_a qA qB qD qr0 qr1 qr2 qs qp) = (qB - (1 : Int64)) from ((((if_neg hs8_840).trans (if_neg hs8_852)).trans (if_neg hs15_867)).trans (if_pos hs15_870)), show (j3_20_e2_a qA qB qD qr0 qr1 qr2 qs qp) = qD from ((((if_neg hs8_840).trans (if_neg hs8_852)).trans (if_neg hs15_867)).trans (if_pos hs15_870)), show (j3_20_place qA qB qD qr0 qr1 qr2 qs qp) = (2 : Int32) from ((((if_neg hs8_840).trans (if_neg hs8_852)).trans (if_neg hs15_867)).trans (if_pos hs15_870))] at q
          exact q _ _ _ X872 e872 N872 Zn872 K872 V_r V_w E_x0 F_wanted_x0 F_ring_x0 F_size_x0 F_place_x0
        · skip
          have hs15_873 : qr2 = (2 : Int32) := own_la3 hR2 hs15_867 hs15_870
          rw [hs15_873] at V_r
          refine Goes.cast (show (mkF m 15 #[rv x0, iv qr2, .unset, .unset] [(.int qr2), (.ref w)]) = (mkF m 15 #[rv x0, iv (2 : Int32), .unset, .unset] [(.int (2 : Int32)), (.ref w)]) by rw [hs15_873]) ?_
          refine Goes.st (B := T866.setTop (mkF m 16 #[rv x0, iv (2 : Int32), .unset, .unset] [(.int (2 : Int32)), (.ref w), (.int (2 : Int32)), (.ref w)])) (fun t k => ?_) ?_
          · refine Jvm.Free.XT.dup2 X866.here hx rfl (hb hby d3_15) rfl rfl rfl ?_
            exact k
          obtain ⟨cl874, Ar874, q874, S874, M874, Hs874, G874⟩ := id V_w
          have hin874 : ¬ ((2 : Int32) < 0 ∨ cl874.slots.size ≤ ((2 : Int32)).toNatClampNeg) := inb_of S874 ⟨(by decide), (by decide)⟩
          have hat874 : cl874.slots[((2 : Int32)).toNatClampNeg]? = some (.long qD) := Hs874.at hin874 rfl
          refine Goes.st (B := T866.setTop (mkF m 17 #[rv x0, iv (2 : Int32), .unset, .unset] [(.long qD), (.int (2 : Int32)), (.ref w)])) (X866.laload hx (j := (2 : Int32)) (v := (.long qD)) (by rw [e866]; exact Ar874.1) (State.isArrayOf_alike hZ.alike Ar874.2.1) Ar874.2.2 hin874 hat874 (g := (mkF m 16 #[rv x0, iv (2 : Int32), .unset, .unset] [(.int (2 : Int32)), (.ref w), (.int (2 : Int32)), (.ref w)])) rfl rfl (hb hby d3_16)) ?_
          refine Goes.run X866 hx hown hci hcl hby (L := [(17, .lconst 1, 1), (18, .lsub, 1)]) (by decide +kernel) rfl (g' := (mkF m 19 #[rv x0, iv (2 : Int32), .unset, .unset] [(.long (qD - (1 : Int64))), (.int (2 : Int32)), (.ref w)])) rfl ?_
          obtain ⟨cl875, Ar875, q875, S875, M875, Hs875, G875⟩ := id V_w
          have hin875 : ¬ ((2 : Int32) < 0 ∨ cl875.slots.size ≤ ((2 : Int32)).toNatClampNeg) := inb_of S875 ⟨(by decide), (by decide)⟩
          obtain ⟨T875, h875, X875, e875, W875, st875⟩ := stJ X866 hx hZ e866 Ar875 (j := (2 : Int32)) hin875 (g := (mkF m 19 #[rv x0, iv (2 : Int32), .unset, .unset] [(.long (qD - (1 : Int64))), (.int (2 : Int32)), (.ref w)])) rfl rfl (hb hby d3_19)
          have E_x0 := E_x0.wr W875
          have F_wanted_x0 := F_wanted_x0.other W875 (Or.inl nxw)
          have F_ring_x0 := F_ring_x0.other W875 (Or.inl nxw)
          have F_size_x0 := F_size_x0.other W875 (Or.inl nxw)
          have F_place_x0 := F_place_x0.other W875 (Or.inl nxw)
          have V_r := V_r.other W875 (Ne.symm nwr)
          have Zn875 : n0 ≤ h875.size := Nat.le_trans Z0 (Keep.of_wr W875).1
          have K875 := K0.wr W875 (Or.inl (List.mem_of_getElem? (i := 1) rfl))
          have N875 := Fr.snoc X875 N0 g_w
          have V_w : Arv Z h875 w kw .long (3 : Int32) [(.long qA), (.long qB), (.long (qD - (1 : Int64)))] (.long (0 : Int64)) := Arv.set Ar875 q875 S875 M875 Hs875 G875 rfl W875 2 rfl (Nat.le_of_ble_eq_true rfl)
          refine Goes.st (B := T875.setTop (mkF m 20 #[rv x0, iv (2 : Int32), .unset, .unset] [])) st875 ?_
          have q := jn20_40
          rw [show (j3_20_1 qA qB qD qr0 qr1 qr2 qs qp) = (2 : Int32) from ((((if_neg hs8_840).trans (if_neg hs8_852)).trans (if_neg hs15_867)).trans (if_neg hs15_870)), show (j3_20_e0 qA qB qD qr0 qr1 qr2 qs qp) = qr0 from ((((if_neg hs8_840).trans (if_neg hs8_852)).trans (if_neg hs15_867)).trans (if_neg hs15_870)), show (j3_20_e1 qA qB qD qr0 qr1 qr2 qs qp) = qr1 from ((((if_neg hs8_840).trans (if_neg hs8_852)).trans (if_neg hs15_867)).trans (if_neg hs15_870)), show (j3_20_e2 qA qB qD qr0 qr1 qr2 qs qp) = (2 : Int32) from ((((if_neg hs8_840).trans (if_neg hs8_852)).trans (if_neg hs15_867)).trans (if_neg hs15_870)), show (j3_20_e0_a qA qB qD qr0 qr1 qr2 qs qp) = qA from ((((if_neg hs8_840).trans (if_neg hs8_852)).trans (if_neg hs15_867)).trans (if_neg hs15_870)), show (j3_20_e1_a qA qB qD qr0 qr1 qr2 qs qp) = qB from ((((if_neg hs8_840).trans (if_neg hs8_852)).trans (if_neg hs15_867)).trans (if_neg hs15_870)), show (j3_20_e2_a qA qB qD qr0 qr1 qr2 qs qp) = (qD - (1 : Int64)) from ((((if_neg hs8_840).trans (if_neg hs8_852)).trans (if_neg hs15_867)).trans (if_neg hs15_870)), show (j3_20_place qA qB qD qr0 qr1 qr2 qs qp) = (2 : Int32) from ((((if_neg hs8_840).trans (if_neg hs8_852)).trans (if_neg hs15_867)).trans (if_neg hs15_870))] at q
          exact q _ _ _ X875 e875 N875 Zn875 K875 V_r V_w E_x0 F_wanted_x0 F_ring_x0 F_size_x0 F_place_x0
theorem pn0 : plainName "com/example/kubera/kubera/DealingRingNextPinLaw" = true := by first | (simp [plainName, overriddenIn]; done) | decide +kernel
theorem pd0_0 : parseMethodDescriptor "(J)J" = some ⟨[.long], some .long⟩ := by decide +kernel
theorem pd0_1 : parseMethodDescriptor "([J)V" = some ⟨[(.array .long)], none⟩ := by decide +kernel
theorem pd0_2 : parseMethodDescriptor "()I" = some ⟨[], some .int⟩ := by decide +kernel
theorem ef0 (m : MethodId) (x0 : Int64) (x1 : Int64) (x2 : Int64) : entryFrame m #[(.long x0), (.long x1), (.long x2)] maxLocals = (mkF m 0 #[jv x0, .second, jv x1, .second, jv x2, .second, .unset, .unset, .unset, .unset, .unset, .unset, .unset, .unset, .unset, .unset, .unset] []) := by first | (simp [entryFrame, mkF, argsToLocals, Value.category, maxLocals]; done) | rfl
def w0_4 (x0 : Int64) (x1 : Int64) (x2 : Int64) : Int64 := (r1 x0)
def w0_10 (x0 : Int64) (x1 : Int64) (x2 : Int64) : Int64 := (r1 x1)
def w0_17 (x0 : Int64) (x1 : Int64) (x2 : Int64) : Int64 := (r1 x2)
def j0_64_14 (x0 : Int64) (x1 : Int64) (x2 : Int64) : Int32 := (if (w0_4 x0 x1 x2) < (1 : Int64) then (0 : Int32) else (1 : Int32))
def w0_77 (x0 : Int64) (x1 : Int64) (x2 : Int64) : Int32 := ((j0_64_14 x0 x1 x2) + (1 : Int32))
def j0_80_14 (x0 : Int64) (x1 : Int64) (x2 : Int64) : Int32 := (if (w0_10 x0 x1 x2) < (1 : Int64) then (j0_64_14 x0 x1 x2) else (w0_77 x0 x1 x2))
def j0_80_e0 (x0 : Int64) (x1 : Int64) (x2 : Int64) : Int32 := (if (w0_10 x0 x1 x2) < (1 : Int64) then (0 : Int32) else (if (j0_64_14 x0 x1 x2) = (0 : Int32) then (1 : Int32) else (0 : Int32)))
def j0_80_e1 (x0 : Int64) (x1 : Int64) (x2 : Int64) : Int32 := (if (w0_10 x0 x1 x2) < (1 : Int64) then (0 : Int32) else (if (j0_64_14 x0 x1 x2) = (1 : Int32) then (1 : Int32) else (0 : Int32)))
def w0_93 (x0 : Int64) (x1 : Int64) (x2 : Int64) : Int32 := ((j0_80_14 x0 x1 x2) + (1 : Int32))
def j0_96_14 (x0 : Int64) (x1 : Int64) (x2 : Int64) : Int32 := (if (w0_17 x0 x1 x2) < (1 : Int64) then (j0_80_14 x0 x1 x2) else (w0_93 x0 x1 x2))
def j0_96_e0 (x0 : Int64) (x1 : Int64) (x2 : Int64) : Int32 := (if (w0_17 x0 x1 x2) < (1 : Int64) then (j0_80_e0 x0 x1 x2) else (if (j0_80_14 x0 x1 x2) = (0 : Int32) then (2 : Int32) else (j0_80_e0 x0 x1 x2)))
def j0_96_e1 (x0 : Int64) (x1 : Int64) (x2 : Int64) : Int32 := (if (w0_17 x0 x1 x2) < (1 : Int64) then (j0_80_e1 x0 x1 x2) else (if (j0_80_14 x0 x1 x2) = (1 : Int32) then (2 : Int32) else (j0_80_e1 x0 x1 x2)))
def j0_96_e2 (x0 : Int64) (x1 : Int64) (x2 : Int64) : Int32 := (if (w0_17 x0 x1 x2) < (1 : Int64) then (0 : Int32) else (if (j0_80_14 x0 x1 x2) = (2 : Int32) then (2 : Int32) else (0 : Int32)))
def w0_111 (x0 : Int64) (x1 : Int64) (x2 : Int64) : Int32 := ((j0_96_14 x0 x1 x2) + (1 : Int32))
def j0_114_14 (x0 : Int64) (x1 : Int64) (x2 : Int64) : Int32 := (if (w0_4 x0 x1 x2) < (2 : Int64) then (j0_96_14 x0 x1 x2) else (w0_111 x0 x1 x2))
def j0_114_e0 (x0 : Int64) (x1 : Int64) (x2 : Int64) : Int32 := (if (w0_4 x0 x1 x2) < (2 : Int64) then (j0_96_e0 x0 x1 x2) else (if (j0_96_14 x0 x1 x2) = (0 : Int32) then (0 : Int32) else (j0_96_e0 x0 x1 x2)))
def j0_114_e1 (x0 : Int64) (x1 : Int64) (x2 : Int64) : Int32 := (if (w0_4 x0 x1 x2) < (2 : Int64) then (j0_96_e1 x0 x1 x2) else (if (j0_96_14 x0 x1 x2) = (1 : Int32) then (0 : Int32) else (j0_96_e1 x0 x1 x2)))
def j0_114_e2 (x0 : Int64) (x1 : Int64) (x2 : Int64) : Int32 := (if (w0_4 x0 x1 x2) < (2 : Int64) then (j0_96_e2 x0 x1 x2) else (if (j0_96_14 x0 x1 x2) = (2 : Int32) then (0 : Int32) else (j0_96_e2 x0 x1 x2)))
def j0_114_e3 (x0 : Int64) (x1 : Int64) (x2 : Int64) : Int32 := (if (w0_4 x0 x1 x2) < (2 : Int64) then (0 : Int32) else (if (j0_96_14 x0 x1 x2) = (3 : Int32) then (0 : Int32) else (0 : Int32)))
def w0_129 (x0 : Int64) (x1 : Int64) (x2 : Int64) : Int32 := ((j0_114_14 x0 x1 x2) + (1 : Int32))
def j0_132_14 (x0 : Int64) (x1 : Int64) (x2 : Int64) : Int32 := (if (w0_10 x0 x1 x2) < (2 : Int64) then (j0_114_14 x0 x1 x2) else (w0_129 x0 x1 x2))
def j0_132_e0 (x0 : Int64) (x1 : Int64) (x2 : Int64) : Int32 := (if (w0_10 x0 x1 x2) < (2 : Int64) then (j0_114_e0 x0 x1 x2) else (if (j0_114_14 x0 x1 x2) = (0 : Int32) then (1 : Int32) else (j0_114_e0 x0 x1 x2)))
def j0_132_e1 (x0 : Int64) (x1 : Int64) (x2 : Int64) : Int32 := (if (w0_10 x0 x1 x2) < (2 : Int64) then (j0_114_e1 x0 x1 x2) else (if (j0_114_14 x0 x1 x2) = (1 : Int32) then (1 : Int32) else (j0_114_e1 x0 x1 x2)))
def j0_132_e2 (x0 : Int64) (x1 : Int64) (x2 : Int64) : Int32 := (if (w0_10 x0 x1 x2) < (2 : Int64) then (j0_114_e2 x0 x1 x2) else (if (j0_114_14 x0 x1 x2) = (2 : Int32) then (1 : Int32) else (j0_114_e2 x0 x1 x2)))
def j0_132_e3 (x0 : Int64) (x1 : Int64) (x2 : Int64) : Int32 := (if (w0_10 x0 x1 x2) < (2 : Int64) then (j0_114_e3 x0 x1 x2) else (if (j0_114_14 x0 x1 x2) = (3 : Int32) then (1 : Int32) else (j0_114_e3 x0 x1 x2)))
def j0_132_e4 (x0 : Int64) (x1 : Int64) (x2 : Int64) : Int32 := (if (w0_10 x0 x1 x2) < (2 : Int64) then (0 : Int32) else (if (j0_114_14 x0 x1 x2) = (4 : Int32) then (1 : Int32) else (0 : Int32)))
def w0_147 (x0 : Int64) (x1 : Int64) (x2 : Int64) : Int32 := ((j0_132_14 x0 x1 x2) + (1 : Int32))
def j0_150_14 (x0 : Int64) (x1 : Int64) (x2 : Int64) : Int32 := (if (w0_17 x0 x1 x2) < (2 : Int64) then (j0_132_14 x0 x1 x2) else (w0_147 x0 x1 x2))
def j0_150_e0 (x0 : Int64) (x1 : Int64) (x2 : Int64) : Int32 := (if (w0_17 x0 x1 x2) < (2 : Int64) then (j0_132_e0 x0 x1 x2) else (if (j0_132_14 x0 x1 x2) = (0 : Int32) then (2 : Int32) else (j0_132_e0 x0 x1 x2)))
def j0_150_e1 (x0 : Int64) (x1 : Int64) (x2 : Int64) : Int32 := (if (w0_17 x0 x1 x2) < (2 : Int64) then (j0_132_e1 x0 x1 x2) else (if (j0_132_14 x0 x1 x2) = (1 : Int32) then (2 : Int32) else (j0_132_e1 x0 x1 x2)))
def j0_150_e2 (x0 : Int64) (x1 : Int64) (x2 : Int64) : Int32 := (if (w0_17 x0 x1 x2) < (2 : Int64) then (j0_132_e2 x0 x1 x2) else (if (j0_132_14 x0 x1 x2) = (2 : Int32) then (2 : Int32) else (j0_132_e2 x0 x1 x2)))
def j0_150_e3 (x0 : Int64) (x1 : Int64) (x2 : Int64) : Int32 := (if (w0_17 x0 x1 x2) < (2 : Int64) then (j0_132_e3 x0 x1 x2) else (if (j0_132_14 x0 x1 x2) = (3 : Int32) then (2 : Int32) else (j0_132_e3 x0 x1 x2)))
def j0_150_e4 (x0 : Int64) (x1 : Int64) (x2 : Int64) : Int32 := (if (w0_17 x0 x1 x2) < (2 : Int64) then (j0_132_e4 x0 x1 x2) else (if (j0_132_14 x0 x1 x2) = (4 : Int32) then (2 : Int32) else (j0_132_e4 x0 x1 x2)))
def j0_150_e5 (x0 : Int64) (x1 : Int64) (x2 : Int64) : Int32 := (if (w0_17 x0 x1 x2) < (2 : Int64) then (0 : Int32) else (if (j0_132_14 x0 x1 x2) = (5 : Int32) then (2 : Int32) else (0 : Int32)))
def w0_165 (x0 : Int64) (x1 : Int64) (x2 : Int64) : Int32 := ((j0_150_14 x0 x1 x2) + (1 : Int32))
def j0_168_14 (x0 : Int64) (x1 : Int64) (x2 : Int64) : Int32 := (if (w0_4 x0 x1 x2) < (3 : Int64) then (j0_150_14 x0 x1 x2) else (w0_165 x0 x1 x2))
def j0_168_e0 (x0 : Int64) (x1 : Int64) (x2 : Int64) : Int32 := (if (w0_4 x0 x1 x2) < (3 : Int64) then (j0_150_e0 x0 x1 x2) else (if (j0_150_14 x0 x1 x2) = (0 : Int32) then (0 : Int32) else (j0_150_e0 x0 x1 x2)))
def j0_168_e1 (x0 : Int64) (x1 : Int64) (x2 : Int64) : Int32 := (if (w0_4 x0 x1 x2) < (3 : Int64) then (j0_150_e1 x0 x1 x2) else (if (j0_150_14 x0 x1 x2) = (1 : Int32) then (0 : Int32) else (j0_150_e1 x0 x1 x2)))
def j0_168_e2 (x0 : Int64) (x1 : Int64) (x2 : Int64) : Int32 := (if (w0_4 x0 x1 x2) < (3 : Int64) then (j0_150_e2 x0 x1 x2) else (if (j0_150_14 x0 x1 x2) = (2 : Int32) then (0 : Int32) else (j0_150_e2 x0 x1 x2)))
def j0_168_e3 (x0 : Int64) (x1 : Int64) (x2 : Int64) : Int32 := (if (w0_4 x0 x1 x2) < (3 : Int64) then (j0_150_e3 x0 x1 x2) else (if (j0_150_14 x0 x1 x2) = (3 : Int32) then (0 : Int32) else (j0_150_e3 x0 x1 x2)))
def j0_168_e4 (x0 : Int64) (x1 : Int64) (x2 : Int64) : Int32 := (if (w0_4 x0 x1 x2) < (3 : Int64) then (j0_150_e4 x0 x1 x2) else (if (j0_150_14 x0 x1 x2) = (4 : Int32) then (0 : Int32) else (j0_150_e4 x0 x1 x2)))
def j0_168_e5 (x0 : Int64) (x1 : Int64) (x2 : Int64) : Int32 := (if (w0_4 x0 x1 x2) < (3 : Int64) then (j0_150_e5 x0 x1 x2) else (if (j0_150_14 x0 x1 x2) = (5 : Int32) then (0 : Int32) else (j0_150_e5 x0 x1 x2)))
def j0_168_e6 (x0 : Int64) (x1 : Int64) (x2 : Int64) : Int32 := (if (w0_4 x0 x1 x2) < (3 : Int64) then (0 : Int32) else (if (j0_150_14 x0 x1 x2) = (6 : Int32) then (0 : Int32) else (0 : Int32)))
def w0_183 (x0 : Int64) (x1 : Int64) (x2 : Int64) : Int32 := ((j0_168_14 x0 x1 x2) + (1 : Int32))
def j0_186_14 (x0 : Int64) (x1 : Int64) (x2 : Int64) : Int32 := (if (w0_10 x0 x1 x2) < (3 : Int64) then (j0_168_14 x0 x1 x2) else (w0_183 x0 x1 x2))
def j0_186_e0 (x0 : Int64) (x1 : Int64) (x2 : Int64) : Int32 := (if (w0_10 x0 x1 x2) < (3 : Int64) then (j0_168_e0 x0 x1 x2) else (if (j0_168_14 x0 x1 x2) = (0 : Int32) then (1 : Int32) else (j0_168_e0 x0 x1 x2)))
def j0_186_e1 (x0 : Int64) (x1 : Int64) (x2 : Int64) : Int32 := (if (w0_10 x0 x1 x2) < (3 : Int64) then (j0_168_e1 x0 x1 x2) else (if (j0_168_14 x0 x1 x2) = (1 : Int32) then (1 : Int32) else (j0_168_e1 x0 x1 x2)))
def j0_186_e2 (x0 : Int64) (x1 : Int64) (x2 : Int64) : Int32 := (if (w0_10 x0 x1 x2) < (3 : Int64) then (j0_168_e2 x0 x1 x2) else (if (j0_168_14 x0 x1 x2) = (2 : Int32) then (1 : Int32) else (j0_168_e2 x0 x1 x2)))
def j0_186_e3 (x0 : Int64) (x1 : Int64) (x2 : Int64) : Int32 := (if (w0_10 x0 x1 x2) < (3 : Int64) then (j0_168_e3 x0 x1 x2) else (if (j0_168_14 x0 x1 x2) = (3 : Int32) then (1 : Int32) else (j0_168_e3 x0 x1 x2)))
def j0_186_e4 (x0 : Int64) (x1 : Int64) (x2 : Int64) : Int32 := (if (w0_10 x0 x1 x2) < (3 : Int64) then (j0_168_e4 x0 x1 x2) else (if (j0_168_14 x0 x1 x2) = (4 : Int32) then (1 : Int32) else (j0_168_e4 x0 x1 x2)))
def j0_186_e5 (x0 : Int64) (x1 : Int64) (x2 : Int64) : Int32 := (if (w0_10 x0 x1 x2) < (3 : Int64) then (j0_168_e5 x0 x1 x2) else (if (j0_168_14 x0 x1 x2) = (5 : Int32) then (1 : Int32) else (j0_168_e5 x0 x1 x2)))
def j0_186_e6 (x0 : Int64) (x1 : Int64) (x2 : Int64) : Int32 := (if (w0_10 x0 x1 x2) < (3 : Int64) then (j0_168_e6 x0 x1 x2) else (if (j0_168_14 x0 x1 x2) = (6 : Int32) then (1 : Int32) else (j0_168_e6 x0 x1 x2)))
def j0_186_e7 (x0 : Int64) (x1 : Int64) (x2 : Int64) : Int32 := (if (w0_10 x0 x1 x2) < (3 : Int64) then (0 : Int32) else (if (j0_168_14 x0 x1 x2) = (7 : Int32) then (1 : Int32) else (0 : Int32)))
def w0_201 (x0 : Int64) (x1 : Int64) (x2 : Int64) : Int32 := ((j0_186_14 x0 x1 x2) + (1 : Int32))
def j0_204_14 (x0 : Int64) (x1 : Int64) (x2 : Int64) : Int32 := (if (w0_17 x0 x1 x2) < (3 : Int64) then (j0_186_14 x0 x1 x2) else (w0_201 x0 x1 x2))
def j0_204_e0 (x0 : Int64) (x1 : Int64) (x2 : Int64) : Int32 := (if (w0_17 x0 x1 x2) < (3 : Int64) then (j0_186_e0 x0 x1 x2) else (if (j0_186_14 x0 x1 x2) = (0 : Int32) then (2 : Int32) else (j0_186_e0 x0 x1 x2)))
def j0_204_e1 (x0 : Int64) (x1 : Int64) (x2 : Int64) : Int32 := (if (w0_17 x0 x1 x2) < (3 : Int64) then (j0_186_e1 x0 x1 x2) else (if (j0_186_14 x0 x1 x2) = (1 : Int32) then (2 : Int32) else (j0_186_e1 x0 x1 x2)))
def j0_204_e2 (x0 : Int64) (x1 : Int64) (x2 : Int64) : Int32 := (if (w0_17 x0 x1 x2) < (3 : Int64) then (j0_186_e2 x0 x1 x2) else (if (j0_186_14 x0 x1 x2) = (2 : Int32) then (2 : Int32) else (j0_186_e2 x0 x1 x2)))
def j0_204_e3 (x0 : Int64) (x1 : Int64) (x2 : Int64) : Int32 := (if (w0_17 x0 x1 x2) < (3 : Int64) then (j0_186_e3 x0 x1 x2) else (if (j0_186_14 x0 x1 x2) = (3 : Int32) then (2 : Int32) else (j0_186_e3 x0 x1 x2)))
def j0_204_e4 (x0 : Int64) (x1 : Int64) (x2 : Int64) : Int32 := (if (w0_17 x0 x1 x2) < (3 : Int64) then (j0_186_e4 x0 x1 x2) else (if (j0_186_14 x0 x1 x2) = (4 : Int32) then (2 : Int32) else (j0_186_e4 x0 x1 x2)))
def j0_204_e5 (x0 : Int64) (x1 : Int64) (x2 : Int64) : Int32 := (if (w0_17 x0 x1 x2) < (3 : Int64) then (j0_186_e5 x0 x1 x2) else (if (j0_186_14 x0 x1 x2) = (5 : Int32) then (2 : Int32) else (j0_186_e5 x0 x1 x2)))
def j0_204_e6 (x0 : Int64) (x1 : Int64) (x2 : Int64) : Int32 := (if (w0_17 x0 x1 x2) < (3 : Int64) then (j0_186_e6 x0 x1 x2) else (if (j0_186_14 x0 x1 x2) = (6 : Int32) then (2 : Int32) else (j0_186_e6 x0 x1 x2)))
def j0_204_e7 (x0 : Int64) (x1 : Int64) (x2 : Int64) : Int32 := (if (w0_17 x0 x1 x2) < (3 : Int64) then (j0_186_e7 x0 x1 x2) else (if (j0_186_14 x0 x1 x2) = (7 : Int32) then (2 : Int32) else (j0_186_e7 x0 x1 x2)))
def j0_204_e8 (x0 : Int64) (x1 : Int64) (x2 : Int64) : Int32 := (if (w0_17 x0 x1 x2) < (3 : Int64) then (0 : Int32) else (if (j0_186_14 x0 x1 x2) = (8 : Int32) then (2 : Int32) else (0 : Int32)))
def o0_210_3 (x0 : Int64) (x1 : Int64) (x2 : Int64) : Int32 := (j2_59_size_b (w0_4 x0 x1 x2) (w0_10 x0 x1 x2) (w0_17 x0 x1 x2))
def o0_210_6_0 (x0 : Int64) (x1 : Int64) (x2 : Int64) : Int32 := (j2_59_e0_a (w0_4 x0 x1 x2) (w0_10 x0 x1 x2) (w0_17 x0 x1 x2))
def o0_210_6_1 (x0 : Int64) (x1 : Int64) (x2 : Int64) : Int32 := (j2_59_e1_a (w0_4 x0 x1 x2) (w0_10 x0 x1 x2) (w0_17 x0 x1 x2))
def o0_210_6_2 (x0 : Int64) (x1 : Int64) (x2 : Int64) : Int32 := (j2_59_e2 (w0_4 x0 x1 x2) (w0_10 x0 x1 x2) (w0_17 x0 x1 x2))
def o0_230_2 (x0 : Int64) (x1 : Int64) (x2 : Int64) : Int32 := (j3_100_size (w0_4 x0 x1 x2) (w0_10 x0 x1 x2) (w0_17 x0 x1 x2) (o0_210_6_0 x0 x1 x2) (o0_210_6_1 x0 x1 x2) (o0_210_6_2 x0 x1 x2) (o0_210_3 x0 x1 x2) (0 : Int32))
def o0_230_3 (x0 : Int64) (x1 : Int64) (x2 : Int64) : Int32 := (j3_100_place (w0_4 x0 x1 x2) (w0_10 x0 x1 x2) (w0_17 x0 x1 x2) (o0_210_6_0 x0 x1 x2) (o0_210_6_1 x0 x1 x2) (o0_210_6_2 x0 x1 x2) (o0_210_3 x0 x1 x2) (0 : Int32))
def o0_230_4_0 (x0 : Int64) (x1 : Int64) (x2 : Int64) : Int64 := (j3_20_e0_a (w0_4 x0 x1 x2) (w0_10 x0 x1 x2) (w0_17 x0 x1 x2) (o0_210_6_0 x0 x1 x2) (o0_210_6_1 x0 x1 x2) (o0_210_6_2 x0 x1 x2) (o0_210_3 x0 x1 x2) (0 : Int32))
def o0_230_4_1 (x0 : Int64) (x1 : Int64) (x2 : Int64) : Int64 := (j3_20_e1_a (w0_4 x0 x1 x2) (w0_10 x0 x1 x2) (w0_17 x0 x1 x2) (o0_210_6_0 x0 x1 x2) (o0_210_6_1 x0 x1 x2) (o0_210_6_2 x0 x1 x2) (o0_210_3 x0 x1 x2) (0 : Int32))
def o0_230_4_2 (x0 : Int64) (x1 : Int64) (x2 : Int64) : Int64 := (j3_20_e2_a (w0_4 x0 x1 x2) (w0_10 x0 x1 x2) (w0_17 x0 x1 x2) (o0_210_6_0 x0 x1 x2) (o0_210_6_1 x0 x1 x2) (o0_210_6_2 x0 x1 x2) (o0_210_3 x0 x1 x2) (0 : Int32))
def o0_230_5_0 (x0 : Int64) (x1 : Int64) (x2 : Int64) : Int32 := (j3_100_e0 (w0_4 x0 x1 x2) (w0_10 x0 x1 x2) (w0_17 x0 x1 x2) (o0_210_6_0 x0 x1 x2) (o0_210_6_1 x0 x1 x2) (o0_210_6_2 x0 x1 x2) (o0_210_3 x0 x1 x2) (0 : Int32))
def o0_230_5_1 (x0 : Int64) (x1 : Int64) (x2 : Int64) : Int32 := (j3_100_e1 (w0_4 x0 x1 x2) (w0_10 x0 x1 x2) (w0_17 x0 x1 x2) (o0_210_6_0 x0 x1 x2) (o0_210_6_1 x0 x1 x2) (o0_210_6_2 x0 x1 x2) (o0_210_3 x0 x1 x2) (0 : Int32))
def o0_230_5_2 (x0 : Int64) (x1 : Int64) (x2 : Int64) : Int32 := (j3_100_e2 (w0_4 x0 x1 x2) (w0_10 x0 x1 x2) (w0_17 x0 x1 x2) (o0_210_6_0 x0 x1 x2) (o0_210_6_1 x0 x1 x2) (o0_210_6_2 x0 x1 x2) (o0_210_3 x0 x1 x2) (0 : Int32))
def v0_230 (x0 : Int64) (x1 : Int64) (x2 : Int64) : Int32 := (j3_20_1 (w0_4 x0 x1 x2) (w0_10 x0 x1 x2) (w0_17 x0 x1 x2) (o0_210_6_0 x0 x1 x2) (o0_210_6_1 x0 x1 x2) (o0_210_6_2 x0 x1 x2) (o0_210_3 x0 x1 x2) (0 : Int32))
def j0_245_s0 (x0 : Int64) (x1 : Int64) (x2 : Int64) : Int32 := (if (v0_230 x0 x1 x2) = (j0_204_e0 x0 x1 x2) then (1 : Int32) else (0 : Int32))
def j0_247_16 (x0 : Int64) (x1 : Int64) (x2 : Int64) : Int32 := (if (0 : Int32) < (j0_204_14 x0 x1 x2) then (j0_245_s0 x0 x1 x2) else (1 : Int32))
def j0_247_size (x0 : Int64) (x1 : Int64) (x2 : Int64) : Int32 := (if (0 : Int32) < (j0_204_14 x0 x1 x2) then (o0_230_2 x0 x1 x2) else (o0_210_3 x0 x1 x2))
def j0_247_place (x0 : Int64) (x1 : Int64) (x2 : Int64) : Int32 := (if (0 : Int32) < (j0_204_14 x0 x1 x2) then (o0_230_3 x0 x1 x2) else (0 : Int32))
def j0_247_e0 (x0 : Int64) (x1 : Int64) (x2 : Int64) : Int32 := (if (0 : Int32) < (j0_204_14 x0 x1 x2) then (o0_230_5_0 x0 x1 x2) else (o0_210_6_0 x0 x1 x2))
def j0_247_e1 (x0 : Int64) (x1 : Int64) (x2 : Int64) : Int32 := (if (0 : Int32) < (j0_204_14 x0 x1 x2) then (o0_230_5_1 x0 x1 x2) else (o0_210_6_1 x0 x1 x2))
def j0_247_e2 (x0 : Int64) (x1 : Int64) (x2 : Int64) : Int32 := (if (0 : Int32) < (j0_204_14 x0 x1 x2) then (o0_230_5_2 x0 x1 x2) else (o0_210_6_2 x0 x1 x2))
def j0_247_e0_a (x0 : Int64) (x1 : Int64) (x2 : Int64) : Int64 := (if (0 : Int32) < (j0_204_14 x0 x1 x2) then (o0_230_4_0 x0 x1 x2) else (w0_4 x0 x1 x2))
def j0_247_e1_a (x0 : Int64) (x1 : Int64) (x2 : Int64) : Int64 := (if (0 : Int32) < (j0_204_14 x0 x1 x2) then (o0_230_4_1 x0 x1 x2) else (w0_10 x0 x1 x2))
def j0_247_e2_a (x0 : Int64) (x1 : Int64) (x2 : Int64) : Int64 := (if (0 : Int32) < (j0_204_14 x0 x1 x2) then (o0_230_4_2 x0 x1 x2) else (w0_17 x0 x1 x2))
def o0_260_2 (x0 : Int64) (x1 : Int64) (x2 : Int64) : Int32 := (j3_100_size (j0_247_e0_a x0 x1 x2) (j0_247_e1_a x0 x1 x2) (j0_247_e2_a x0 x1 x2) (j0_247_e0 x0 x1 x2) (j0_247_e1 x0 x1 x2) (j0_247_e2 x0 x1 x2) (j0_247_size x0 x1 x2) (j0_247_place x0 x1 x2))
def o0_260_3 (x0 : Int64) (x1 : Int64) (x2 : Int64) : Int32 := (j3_100_place (j0_247_e0_a x0 x1 x2) (j0_247_e1_a x0 x1 x2) (j0_247_e2_a x0 x1 x2) (j0_247_e0 x0 x1 x2) (j0_247_e1 x0 x1 x2) (j0_247_e2 x0 x1 x2) (j0_247_size x0 x1 x2) (j0_247_place x0 x1 x2))
def o0_260_4_0 (x0 : Int64) (x1 : Int64) (x2 : Int64) : Int64 := (j3_20_e0_a (j0_247_e0_a x0 x1 x2) (j0_247_e1_a x0 x1 x2) (j0_247_e2_a x0 x1 x2) (j0_247_e0 x0 x1 x2) (j0_247_e1 x0 x1 x2) (j0_247_e2 x0 x1 x2) (j0_247_size x0 x1 x2) (j0_247_place x0 x1 x2))
def o0_260_4_1 (x0 : Int64) (x1 : Int64) (x2 : Int64) : Int64 := (j3_20_e1_a (j0_247_e0_a x0 x1 x2) (j0_247_e1_a x0 x1 x2) (j0_247_e2_a x0 x1 x2) (j0_247_e0 x0 x1 x2) (j0_247_e1 x0 x1 x2) (j0_247_e2 x0 x1 x2) (j0_247_size x0 x1 x2) (j0_247_place x0 x1 x2))
def o0_260_4_2 (x0 : Int64) (x1 : Int64) (x2 : Int64) : Int64 := (j3_20_e2_a (j0_247_e0_a x0 x1 x2) (j0_247_e1_a x0 x1 x2) (j0_247_e2_a x0 x1 x2) (j0_247_e0 x0 x1 x2) (j0_247_e1 x0 x1 x2) (j0_247_e2 x0 x1 x2) (j0_247_size x0 x1 x2) (j0_247_place x0 x1 x2))
def o0_260_5_0 (x0 : Int64) (x1 : Int64) (x2 : Int64) : Int32 := (j3_100_e0 (j0_247_e0_a x0 x1 x2) (j0_247_e1_a x0 x1 x2) (j0_247_e2_a x0 x1 x2) (j0_247_e0 x0 x1 x2) (j0_247_e1 x0 x1 x2) (j0_247_e2 x0 x1 x2) (j0_247_size x0 x1 x2) (j0_247_place x0 x1 x2))
def o0_260_5_1 (x0 : Int64) (x1 : Int64) (x2 : Int64) : Int32 := (j3_100_e1 (j0_247_e0_a x0 x1 x2) (j0_247_e1_a x0 x1 x2) (j0_247_e2_a x0 x1 x2) (j0_247_e0 x0 x1 x2) (j0_247_e1 x0 x1 x2) (j0_247_e2 x0 x1 x2) (j0_247_size x0 x1 x2) (j0_247_place x0 x1 x2))
def o0_260_5_2 (x0 : Int64) (x1 : Int64) (x2 : Int64) : Int32 := (j3_100_e2 (j0_247_e0_a x0 x1 x2) (j0_247_e1_a x0 x1 x2) (j0_247_e2_a x0 x1 x2) (j0_247_e0 x0 x1 x2) (j0_247_e1 x0 x1 x2) (j0_247_e2 x0 x1 x2) (j0_247_size x0 x1 x2) (j0_247_place x0 x1 x2))
def v0_260 (x0 : Int64) (x1 : Int64) (x2 : Int64) : Int32 := (j3_20_1 (j0_247_e0_a x0 x1 x2) (j0_247_e1_a x0 x1 x2) (j0_247_e2_a x0 x1 x2) (j0_247_e0 x0 x1 x2) (j0_247_e1 x0 x1 x2) (j0_247_e2 x0 x1 x2) (j0_247_size x0 x1 x2) (j0_247_place x0 x1 x2))
def j0_275_s0 (x0 : Int64) (x1 : Int64) (x2 : Int64) : Int32 := (if (v0_260 x0 x1 x2) = (j0_204_e1 x0 x1 x2) then (1 : Int32) else (0 : Int32))
def j0_277_16 (x0 : Int64) (x1 : Int64) (x2 : Int64) : Int32 := (if (j0_247_16 x0 x1 x2) = (0 : Int32) then (j0_247_16 x0 x1 x2) else (if (1 : Int32) < (j0_204_14 x0 x1 x2) then (j0_275_s0 x0 x1 x2) else (j0_247_16 x0 x1 x2)))
def j0_277_size (x0 : Int64) (x1 : Int64) (x2 : Int64) : Int32 := (if (j0_247_16 x0 x1 x2) = (0 : Int32) then (j0_247_size x0 x1 x2) else (if (1 : Int32) < (j0_204_14 x0 x1 x2) then (o0_260_2 x0 x1 x2) else (j0_247_size x0 x1 x2)))
def j0_277_place (x0 : Int64) (x1 : Int64) (x2 : Int64) : Int32 := (if (j0_247_16 x0 x1 x2) = (0 : Int32) then (j0_247_place x0 x1 x2) else (if (1 : Int32) < (j0_204_14 x0 x1 x2) then (o0_260_3 x0 x1 x2) else (j0_247_place x0 x1 x2)))
def j0_277_e0 (x0 : Int64) (x1 : Int64) (x2 : Int64) : Int32 := (if (j0_247_16 x0 x1 x2) = (0 : Int32) then (j0_247_e0 x0 x1 x2) else (if (1 : Int32) < (j0_204_14 x0 x1 x2) then (o0_260_5_0 x0 x1 x2) else (j0_247_e0 x0 x1 x2)))
def j0_277_e1 (x0 : Int64) (x1 : Int64) (x2 : Int64) : Int32 := (if (j0_247_16 x0 x1 x2) = (0 : Int32) then (j0_247_e1 x0 x1 x2) else (if (1 : Int32) < (j0_204_14 x0 x1 x2) then (o0_260_5_1 x0 x1 x2) else (j0_247_e1 x0 x1 x2)))
def j0_277_e2 (x0 : Int64) (x1 : Int64) (x2 : Int64) : Int32 := (if (j0_247_16 x0 x1 x2) = (0 : Int32) then (j0_247_e2 x0 x1 x2) else (if (1 : Int32) < (j0_204_14 x0 x1 x2) then (o0_260_5_2 x0 x1 x2) else (j0_247_e2 x0 x1 x2)))
def j0_277_e0_a (x0 : Int64) (x1 : Int64) (x2 : Int64) : Int64 := (if (j0_247_16 x0 x1 x2) = (0 : Int32) then (j0_247_e0_a x0 x1 x2) else (if (1 : Int32) < (j0_204_14 x0 x1 x2) then (o0_260_4_0 x0 x1 x2) else (j0_247_e0_a x0 x1 x2)))
def j0_277_e1_a (x0 : Int64) (x1 : Int64) (x2 : Int64) : Int64 := (if (j0_247_16 x0 x1 x2) = (0 : Int32) then (j0_247_e1_a x0 x1 x2) else (if (1 : Int32) < (j0_204_14 x0 x1 x2) then (o0_260_4_1 x0 x1 x2) else (j0_247_e1_a x0 x1 x2)))
def j0_277_e2_a (x0 : Int64) (x1 : Int64) (x2 : Int64) : Int64 := (if (j0_247_16 x0 x1 x2) = (0 : Int32) then (j0_247_e2_a x0 x1 x2) else (if (1 : Int32) < (j0_204_14 x0 x1 x2) then (o0_260_4_2 x0 x1 x2) else (j0_247_e2_a x0 x1 x2)))
def o0_290_2 (x0 : Int64) (x1 : Int64) (x2 : Int64) : Int32 := (j3_100_size (j0_277_e0_a x0 x1 x2) (j0_277_e1_a x0 x1 x2) (j0_277_e2_a x0 x1 x2) (j0_277_e0 x0 x1 x2) (j0_277_e1 x0 x1 x2) (j0_277_e2 x0 x1 x2) (j0_277_size x0 x1 x2) (j0_277_place x0 x1 x2))
def o0_290_3 (x0 : Int64) (x1 : Int64) (x2 : Int64) : Int32 := (j3_100_place (j0_277_e0_a x0 x1 x2) (j0_277_e1_a x0 x1 x2) (j0_277_e2_a x0 x1 x2) (j0_277_e0 x0 x1 x2) (j0_277_e1 x0 x1 x2) (j0_277_e2 x0 x1 x2) (j0_277_size x0 x1 x2) (j0_277_place x0 x1 x2))
def o0_290_4_0 (x0 : Int64) (x1 : Int64) (x2 : Int64) : Int64 := (j3_20_e0_a (j0_277_e0_a x0 x1 x2) (j0_277_e1_a x0 x1 x2) (j0_277_e2_a x0 x1 x2) (j0_277_e0 x0 x1 x2) (j0_277_e1 x0 x1 x2) (j0_277_e2 x0 x1 x2) (j0_277_size x0 x1 x2) (j0_277_place x0 x1 x2))
def o0_290_4_1 (x0 : Int64) (x1 : Int64) (x2 : Int64) : Int64 := (j3_20_e1_a (j0_277_e0_a x0 x1 x2) (j0_277_e1_a x0 x1 x2) (j0_277_e2_a x0 x1 x2) (j0_277_e0 x0 x1 x2) (j0_277_e1 x0 x1 x2) (j0_277_e2 x0 x1 x2) (j0_277_size x0 x1 x2) (j0_277_place x0 x1 x2))
def o0_290_4_2 (x0 : Int64) (x1 : Int64) (x2 : Int64) : Int64 := (j3_20_e2_a (j0_277_e0_a x0 x1 x2) (j0_277_e1_a x0 x1 x2) (j0_277_e2_a x0 x1 x2) (j0_277_e0 x0 x1 x2) (j0_277_e1 x0 x1 x2) (j0_277_e2 x0 x1 x2) (j0_277_size x0 x1 x2) (j0_277_place x0 x1 x2))
def o0_290_5_0 (x0 : Int64) (x1 : Int64) (x2 : Int64) : Int32 := (j3_100_e0 (j0_277_e0_a x0 x1 x2) (j0_277_e1_a x0 x1 x2) (j0_277_e2_a x0 x1 x2) (j0_277_e0 x0 x1 x2) (j0_277_e1 x0 x1 x2) (j0_277_e2 x0 x1 x2) (j0_277_size x0 x1 x2) (j0_277_place x0 x1 x2))
def o0_290_5_1 (x0 : Int64) (x1 : Int64) (x2 : Int64) : Int32 := (j3_100_e1 (j0_277_e0_a x0 x1 x2) (j0_277_e1_a x0 x1 x2) (j0_277_e2_a x0 x1 x2) (j0_277_e0 x0 x1 x2) (j0_277_e1 x0 x1 x2) (j0_277_e2 x0 x1 x2) (j0_277_size x0 x1 x2) (j0_277_place x0 x1 x2))
def o0_290_5_2 (x0 : Int64) (x1 : Int64) (x2 : Int64) : Int32 := (j3_100_e2 (j0_277_e0_a x0 x1 x2) (j0_277_e1_a x0 x1 x2) (j0_277_e2_a x0 x1 x2) (j0_277_e0 x0 x1 x2) (j0_277_e1 x0 x1 x2) (j0_277_e2 x0 x1 x2) (j0_277_size x0 x1 x2) (j0_277_place x0 x1 x2))
def v0_290 (x0 : Int64) (x1 : Int64) (x2 : Int64) : Int32 := (j3_20_1 (j0_277_e0_a x0 x1 x2) (j0_277_e1_a x0 x1 x2) (j0_277_e2_a x0 x1 x2) (j0_277_e0 x0 x1 x2) (j0_277_e1 x0 x1 x2) (j0_277_e2 x0 x1 x2) (j0_277_size x0 x1 x2) (j0_277_place x0 x1 x2))
def j0_305_s0 (x0 : Int64) (x1 : Int64) (x2 : Int64) : Int32 := (if (v0_290 x0 x1 x2) = (j0_204_e2 x0 x1 x2) then (1 : Int32) else (0 : Int32))
def j0_307_16 (x0 : Int64) (x1 : Int64) (x2 : Int64) : Int32 := (if (j0_277_16 x0 x1 x2) = (0 : Int32) then (j0_277_16 x0 x1 x2) else (if (2 : Int32) < (j0_204_14 x0 x1 x2) then (j0_305_s0 x0 x1 x2) else (j0_277_16 x0 x1 x2)))
def j0_307_size (x0 : Int64) (x1 : Int64) (x2 : Int64) : Int32 := (if (j0_277_16 x0 x1 x2) = (0 : Int32) then (j0_277_size x0 x1 x2) else (if (2 : Int32) < (j0_204_14 x0 x1 x2) then (o0_290_2 x0 x1 x2) else (j0_277_size x0 x1 x2)))
def j0_307_place (x0 : Int64) (x1 : Int64) (x2 : Int64) : Int32 := (if (j0_277_16 x0 x1 x2) = (0 : Int32) then (j0_277_place x0 x1 x2) else (if (2 : Int32) < (j0_204_14 x0 x1 x2) then (o0_290_3 x0 x1 x2) else (j0_277_place x0 x1 x2)))
def j0_307_e0 (x0 : Int64) (x1 : Int64) (x2 : Int64) : Int32 := (if (j0_277_16 x0 x1 x2) = (0 : Int32) then (j0_277_e0 x0 x1 x2) else (if (2 : Int32) < (j0_204_14 x0 x1 x2) then (o0_290_5_0 x0 x1 x2) else (j0_277_e0 x0 x1 x2)))
def j0_307_e1 (x0 : Int64) (x1 : Int64) (x2 : Int64) : Int32 := (if (j0_277_16 x0 x1 x2) = (0 : Int32) then (j0_277_e1 x0 x1 x2) else (if (2 : Int32) < (j0_204_14 x0 x1 x2) then (o0_290_5_1 x0 x1 x2) else (j0_277_e1 x0 x1 x2)))
def j0_307_e2 (x0 : Int64) (x1 : Int64) (x2 : Int64) : Int32 := (if (j0_277_16 x0 x1 x2) = (0 : Int32) then (j0_277_e2 x0 x1 x2) else (if (2 : Int32) < (j0_204_14 x0 x1 x2) then (o0_290_5_2 x0 x1 x2) else (j0_277_e2 x0 x1 x2)))
def j0_307_e0_a (x0 : Int64) (x1 : Int64) (x2 : Int64) : Int64 := (if (j0_277_16 x0 x1 x2) = (0 : Int32) then (j0_277_e0_a x0 x1 x2) else (if (2 : Int32) < (j0_204_14 x0 x1 x2) then (o0_290_4_0 x0 x1 x2) else (j0_277_e0_a x0 x1 x2)))
def j0_307_e1_a (x0 : Int64) (x1 : Int64) (x2 : Int64) : Int64 := (if (j0_277_16 x0 x1 x2) = (0 : Int32) then (j0_277_e1_a x0 x1 x2) else (if (2 : Int32) < (j0_204_14 x0 x1 x2) then (o0_290_4_1 x0 x1 x2) else (j0_277_e1_a x0 x1 x2)))
def j0_307_e2_a (x0 : Int64) (x1 : Int64) (x2 : Int64) : Int64 := (if (j0_277_16 x0 x1 x2) = (0 : Int32) then (j0_277_e2_a x0 x1 x2) else (if (2 : Int32) < (j0_204_14 x0 x1 x2) then (o0_290_4_2 x0 x1 x2) else (j0_277_e2_a x0 x1 x2)))
def o0_320_2 (x0 : Int64) (x1 : Int64) (x2 : Int64) : Int32 := (j3_100_size (j0_307_e0_a x0 x1 x2) (j0_307_e1_a x0 x1 x2) (j0_307_e2_a x0 x1 x2) (j0_307_e0 x0 x1 x2) (j0_307_e1 x0 x1 x2) (j0_307_e2 x0 x1 x2) (j0_307_size x0 x1 x2) (j0_307_place x0 x1 x2))
def o0_320_3 (x0 : Int64) (x1 : Int64) (x2 : Int64) : Int32 := (j3_100_place (j0_307_e0_a x0 x1 x2) (j0_307_e1_a x0 x1 x2) (j0_307_e2_a x0 x1 x2) (j0_307_e0 x0 x1 x2) (j0_307_e1 x0 x1 x2) (j0_307_e2 x0 x1 x2) (j0_307_size x0 x1 x2) (j0_307_place x0 x1 x2))
def o0_320_4_0 (x0 : Int64) (x1 : Int64) (x2 : Int64) : Int64 := (j3_20_e0_a (j0_307_e0_a x0 x1 x2) (j0_307_e1_a x0 x1 x2) (j0_307_e2_a x0 x1 x2) (j0_307_e0 x0 x1 x2) (j0_307_e1 x0 x1 x2) (j0_307_e2 x0 x1 x2) (j0_307_size x0 x1 x2) (j0_307_place x0 x1 x2))
def o0_320_4_1 (x0 : Int64) (x1 : Int64) (x2 : Int64) : Int64 := (j3_20_e1_a (j0_307_e0_a x0 x1 x2) (j0_307_e1_a x0 x1 x2) (j0_307_e2_a x0 x1 x2) (j0_307_e0 x0 x1 x2) (j0_307_e1 x0 x1 x2) (j0_307_e2 x0 x1 x2) (j0_307_size x0 x1 x2) (j0_307_place x0 x1 x2))
def o0_320_4_2 (x0 : Int64) (x1 : Int64) (x2 : Int64) : Int64 := (j3_20_e2_a (j0_307_e0_a x0 x1 x2) (j0_307_e1_a x0 x1 x2) (j0_307_e2_a x0 x1 x2) (j0_307_e0 x0 x1 x2) (j0_307_e1 x0 x1 x2) (j0_307_e2 x0 x1 x2) (j0_307_size x0 x1 x2) (j0_307_place x0 x1 x2))
def o0_320_5_0 (x0 : Int64) (x1 : Int64) (x2 : Int64) : Int32 := (j3_100_e0 (j0_307_e0_a x0 x1 x2) (j0_307_e1_a x0 x1 x2) (j0_307_e2_a x0 x1 x2) (j0_307_e0 x0 x1 x2) (j0_307_e1 x0 x1 x2) (j0_307_e2 x0 x1 x2) (j0_307_size x0 x1 x2) (j0_307_place x0 x1 x2))
def o0_320_5_1 (x0 : Int64) (x1 : Int64) (x2 : Int64) : Int32 := (j3_100_e1 (j0_307_e0_a x0 x1 x2) (j0_307_e1_a x0 x1 x2) (j0_307_e2_a x0 x1 x2) (j0_307_e0 x0 x1 x2) (j0_307_e1 x0 x1 x2) (j0_307_e2 x0 x1 x2) (j0_307_size x0 x1 x2) (j0_307_place x0 x1 x2))
def o0_320_5_2 (x0 : Int64) (x1 : Int64) (x2 : Int64) : Int32 := (j3_100_e2 (j0_307_e0_a x0 x1 x2) (j0_307_e1_a x0 x1 x2) (j0_307_e2_a x0 x1 x2) (j0_307_e0 x0 x1 x2) (j0_307_e1 x0 x1 x2) (j0_307_e2 x0 x1 x2) (j0_307_size x0 x1 x2) (j0_307_place x0 x1 x2))
def v0_320 (x0 : Int64) (x1 : Int64) (x2 : Int64) : Int32 := (j3_20_1 (j0_307_e0_a x0 x1 x2) (j0_307_e1_a x0 x1 x2) (j0_307_e2_a x0 x1 x2) (j0_307_e0 x0 x1 x2) (j0_307_e1 x0 x1 x2) (j0_307_e2 x0 x1 x2) (j0_307_size x0 x1 x2) (j0_307_place x0 x1 x2))
def j0_335_s0 (x0 : Int64) (x1 : Int64) (x2 : Int64) : Int32 := (if (v0_320 x0 x1 x2) = (j0_204_e3 x0 x1 x2) then (1 : Int32) else (0 : Int32))
def j0_337_16 (x0 : Int64) (x1 : Int64) (x2 : Int64) : Int32 := (if (j0_307_16 x0 x1 x2) = (0 : Int32) then (j0_307_16 x0 x1 x2) else (if (3 : Int32) < (j0_204_14 x0 x1 x2) then (j0_335_s0 x0 x1 x2) else (j0_307_16 x0 x1 x2)))
def j0_337_size (x0 : Int64) (x1 : Int64) (x2 : Int64) : Int32 := (if (j0_307_16 x0 x1 x2) = (0 : Int32) then (j0_307_size x0 x1 x2) else (if (3 : Int32) < (j0_204_14 x0 x1 x2) then (o0_320_2 x0 x1 x2) else (j0_307_size x0 x1 x2)))
def j0_337_place (x0 : Int64) (x1 : Int64) (x2 : Int64) : Int32 := (if (j0_307_16 x0 x1 x2) = (0 : Int32) then (j0_307_place x0 x1 x2) else (if (3 : Int32) < (j0_204_14 x0 x1 x2) then (o0_320_3 x0 x1 x2) else (j0_307_place x0 x1 x2)))
def j0_337_e0 (x0 : Int64) (x1 : Int64) (x2 : Int64) : Int32 := (if (j0_307_16 x0 x1 x2) = (0 : Int32) then (j0_307_e0 x0 x1 x2) else (if (3 : Int32) < (j0_204_14 x0 x1 x2) then (o0_320_5_0 x0 x1 x2) else (j0_307_e0 x0 x1 x2)))
def j0_337_e1 (x0 : Int64) (x1 : Int64) (x2 : Int64) : Int32 := (if (j0_307_16 x0 x1 x2) = (0 : Int32) then (j0_307_e1 x0 x1 x2) else (if (3 : Int32) < (j0_204_14 x0 x1 x2) then (o0_320_5_1 x0 x1 x2) else (j0_307_e1 x0 x1 x2)))
def j0_337_e2 (x0 : Int64) (x1 : Int64) (x2 : Int64) : Int32 := (if (j0_307_16 x0 x1 x2) = (0 : Int32) then (j0_307_e2 x0 x1 x2) else (if (3 : Int32) < (j0_204_14 x0 x1 x2) then (o0_320_5_2 x0 x1 x2) else (j0_307_e2 x0 x1 x2)))
def j0_337_e0_a (x0 : Int64) (x1 : Int64) (x2 : Int64) : Int64 := (if (j0_307_16 x0 x1 x2) = (0 : Int32) then (j0_307_e0_a x0 x1 x2) else (if (3 : Int32) < (j0_204_14 x0 x1 x2) then (o0_320_4_0 x0 x1 x2) else (j0_307_e0_a x0 x1 x2)))
def j0_337_e1_a (x0 : Int64) (x1 : Int64) (x2 : Int64) : Int64 := (if (j0_307_16 x0 x1 x2) = (0 : Int32) then (j0_307_e1_a x0 x1 x2) else (if (3 : Int32) < (j0_204_14 x0 x1 x2) then (o0_320_4_1 x0 x1 x2) else (j0_307_e1_a x0 x1 x2)))
def j0_337_e2_a (x0 : Int64) (x1 : Int64) (x2 : Int64) : Int64 := (if (j0_307_16 x0 x1 x2) = (0 : Int32) then (j0_307_e2_a x0 x1 x2) else (if (3 : Int32) < (j0_204_14 x0 x1 x2) then (o0_320_4_2 x0 x1 x2) else (j0_307_e2_a x0 x1 x2)))
def o0_350_2 (x0 : Int64) (x1 : Int64) (x2 : Int64) : Int32 := (j3_100_size (j0_337_e0_a x0 x1 x2) (j0_337_e1_a x0 x1 x2) (j0_337_e2_a x0 x1 x2) (j0_337_e0 x0 x1 x2) (j0_337_e1 x0 x1 x2) (j0_337_e2 x0 x1 x2) (j0_337_size x0 x1 x2) (j0_337_place x0 x1 x2))
def o0_350_3 (x0 : Int64) (x1 : Int64) (x2 : Int64) : Int32 := (j3_100_place (j0_337_e0_a x0 x1 x2) (j0_337_e1_a x0 x1 x2) (j0_337_e2_a x0 x1 x2) (j0_337_e0 x0 x1 x2) (j0_337_e1 x0 x1 x2) (j0_337_e2 x0 x1 x2) (j0_337_size x0 x1 x2) (j0_337_place x0 x1 x2))
def o0_350_4_0 (x0 : Int64) (x1 : Int64) (x2 : Int64) : Int64 := (j3_20_e0_a (j0_337_e0_a x0 x1 x2) (j0_337_e1_a x0 x1 x2) (j0_337_e2_a x0 x1 x2) (j0_337_e0 x0 x1 x2) (j0_337_e1 x0 x1 x2) (j0_337_e2 x0 x1 x2) (j0_337_size x0 x1 x2) (j0_337_place x0 x1 x2))
def o0_350_4_1 (x0 : Int64) (x1 : Int64) (x2 : Int64) : Int64 := (j3_20_e1_a (j0_337_e0_a x0 x1 x2) (j0_337_e1_a x0 x1 x2) (j0_337_e2_a x0 x1 x2) (j0_337_e0 x0 x1 x2) (j0_337_e1 x0 x1 x2) (j0_337_e2 x0 x1 x2) (j0_337_size x0 x1 x2) (j0_337_place x0 x1 x2))
def o0_350_4_2 (x0 : Int64) (x1 : Int64) (x2 : Int64) : Int64 := (j3_20_e2_a (j0_337_e0_a x0 x1 x2) (j0_337_e1_a x0 x1 x2) (j0_337_e2_a x0 x1 x2) (j0_337_e0 x0 x1 x2) (j0_337_e1 x0 x1 x2) (j0_337_e2 x0 x1 x2) (j0_337_size x0 x1 x2) (j0_337_place x0 x1 x2))
def o0_350_5_0 (x0 : Int64) (x1 : Int64) (x2 : Int64) : Int32 := (j3_100_e0 (j0_337_e0_a x0 x1 x2) (j0_337_e1_a x0 x1 x2) (j0_337_e2_a x0 x1 x2) (j0_337_e0 x0 x1 x2) (j0_337_e1 x0 x1 x2) (j0_337_e2 x0 x1 x2) (j0_337_size x0 x1 x2) (j0_337_place x0 x1 x2))
def o0_350_5_1 (x0 : Int64) (x1 : Int64) (x2 : Int64) : Int32 := (j3_100_e1 (j0_337_e0_a x0 x1 x2) (j0_337_e1_a x0 x1 x2) (j0_337_e2_a x0 x1 x2) (j0_337_e0 x0 x1 x2) (j0_337_e1 x0 x1 x2) (j0_337_e2 x0 x1 x2) (j0_337_size x0 x1 x2) (j0_337_place x0 x1 x2))
def o0_350_5_2 (x0 : Int64) (x1 : Int64) (x2 : Int64) : Int32 := (j3_100_e2 (j0_337_e0_a x0 x1 x2) (j0_337_e1_a x0 x1 x2) (j0_337_e2_a x0 x1 x2) (j0_337_e0 x0 x1 x2) (j0_337_e1 x0 x1 x2) (j0_337_e2 x0 x1 x2) (j0_337_size x0 x1 x2) (j0_337_place x0 x1 x2))
def v0_350 (x0 : Int64) (x1 : Int64) (x2 : Int64) : Int32 := (j3_20_1 (j0_337_e0_a x0 x1 x2) (j0_337_e1_a x0 x1 x2) (j0_337_e2_a x0 x1 x2) (j0_337_e0 x0 x1 x2) (j0_337_e1 x0 x1 x2) (j0_337_e2 x0 x1 x2) (j0_337_size x0 x1 x2) (j0_337_place x0 x1 x2))
def j0_365_s0 (x0 : Int64) (x1 : Int64) (x2 : Int64) : Int32 := (if (v0_350 x0 x1 x2) = (j0_204_e4 x0 x1 x2) then (1 : Int32) else (0 : Int32))
def j0_367_16 (x0 : Int64) (x1 : Int64) (x2 : Int64) : Int32 := (if (j0_337_16 x0 x1 x2) = (0 : Int32) then (j0_337_16 x0 x1 x2) else (if (4 : Int32) < (j0_204_14 x0 x1 x2) then (j0_365_s0 x0 x1 x2) else (j0_337_16 x0 x1 x2)))
def j0_367_size (x0 : Int64) (x1 : Int64) (x2 : Int64) : Int32 := (if (j0_337_16 x0 x1 x2) = (0 : Int32) then (j0_337_size x0 x1 x2) else (if (4 : Int32) < (j0_204_14 x0 x1 x2) then (o0_350_2 x0 x1 x2) else (j0_337_size x0 x1 x2)))
def j0_367_place (x0 : Int64) (x1 : Int64) (x2 : Int64) : Int32 := (if (j0_337_16 x0 x1 x2) = (0 : Int32) then (j0_337_place x0 x1 x2) else (if (4 : Int32) < (j0_204_14 x0 x1 x2) then (o0_350_3 x0 x1 x2) else (j0_337_place x0 x1 x2)))
def j0_367_e0 (x0 : Int64) (x1 : Int64) (x2 : Int64) : Int32 := (if (j0_337_16 x0 x1 x2) = (0 : Int32) then (j0_337_e0 x0 x1 x2) else (if (4 : Int32) < (j0_204_14 x0 x1 x2) then (o0_350_5_0 x0 x1 x2) else (j0_337_e0 x0 x1 x2)))
def j0_367_e1 (x0 : Int64) (x1 : Int64) (x2 : Int64) : Int32 := (if (j0_337_16 x0 x1 x2) = (0 : Int32) then (j0_337_e1 x0 x1 x2) else (if (4 : Int32) < (j0_204_14 x0 x1 x2) then (o0_350_5_1 x0 x1 x2) else (j0_337_e1 x0 x1 x2)))
def j0_367_e2 (x0 : Int64) (x1 : Int64) (x2 : Int64) : Int32 := (if (j0_337_16 x0 x1 x2) = (0 : Int32) then (j0_337_e2 x0 x1 x2) else (if (4 : Int32) < (j0_204_14 x0 x1 x2) then (o0_350_5_2 x0 x1 x2) else (j0_337_e2 x0 x1 x2)))
def j0_367_e0_a (x0 : Int64) (x1 : Int64) (x2 : Int64) : Int64 := (if (j0_337_16 x0 x1 x2) = (0 : Int32) then (j0_337_e0_a x0 x1 x2) else (if (4 : Int32) < (j0_204_14 x0 x1 x2) then (o0_350_4_0 x0 x1 x2) else (j0_337_e0_a x0 x1 x2)))
def j0_367_e1_a (x0 : Int64) (x1 : Int64) (x2 : Int64) : Int64 := (if (j0_337_16 x0 x1 x2) = (0 : Int32) then (j0_337_e1_a x0 x1 x2) else (if (4 : Int32) < (j0_204_14 x0 x1 x2) then (o0_350_4_1 x0 x1 x2) else (j0_337_e1_a x0 x1 x2)))
def j0_367_e2_a (x0 : Int64) (x1 : Int64) (x2 : Int64) : Int64 := (if (j0_337_16 x0 x1 x2) = (0 : Int32) then (j0_337_e2_a x0 x1 x2) else (if (4 : Int32) < (j0_204_14 x0 x1 x2) then (o0_350_4_2 x0 x1 x2) else (j0_337_e2_a x0 x1 x2)))
def o0_380_2 (x0 : Int64) (x1 : Int64) (x2 : Int64) : Int32 := (j3_100_size (j0_367_e0_a x0 x1 x2) (j0_367_e1_a x0 x1 x2) (j0_367_e2_a x0 x1 x2) (j0_367_e0 x0 x1 x2) (j0_367_e1 x0 x1 x2) (j0_367_e2 x0 x1 x2) (j0_367_size x0 x1 x2) (j0_367_place x0 x1 x2))
def o0_380_3 (x0 : Int64) (x1 : Int64) (x2 : Int64) : Int32 := (j3_100_place (j0_367_e0_a x0 x1 x2) (j0_367_e1_a x0 x1 x2) (j0_367_e2_a x0 x1 x2) (j0_367_e0 x0 x1 x2) (j0_367_e1 x0 x1 x2) (j0_367_e2 x0 x1 x2) (j0_367_size x0 x1 x2) (j0_367_place x0 x1 x2))
def o0_380_4_0 (x0 : Int64) (x1 : Int64) (x2 : Int64) : Int64 := (j3_20_e0_a (j0_367_e0_a x0 x1 x2) (j0_367_e1_a x0 x1 x2) (j0_367_e2_a x0 x1 x2) (j0_367_e0 x0 x1 x2) (j0_367_e1 x0 x1 x2) (j0_367_e2 x0 x1 x2) (j0_367_size x0 x1 x2) (j0_367_place x0 x1 x2))
def o0_380_4_1 (x0 : Int64) (x1 : Int64) (x2 : Int64) : Int64 := (j3_20_e1_a (j0_367_e0_a x0 x1 x2) (j0_367_e1_a x0 x1 x2) (j0_367_e2_a x0 x1 x2) (j0_367_e0 x0 x1 x2) (j0_367_e1 x0 x1 x2) (j0_367_e2 x0 x1 x2) (j0_367_size x0 x1 x2) (j0_367_place x0 x1 x2))
def o0_380_4_2 (x0 : Int64) (x1 : Int64) (x2 : Int64) : Int64 := (j3_20_e2_a (j0_367_e0_a x0 x1 x2) (j0_367_e1_a x0 x1 x2) (j0_367_e2_a x0 x1 x2) (j0_367_e0 x0 x1 x2) (j0_367_e1 x0 x1 x2) (j0_367_e2 x0 x1 x2) (j0_367_size x0 x1 x2) (j0_367_place x0 x1 x2))
def o0_380_5_0 (x0 : Int64) (x1 : Int64) (x2 : Int64) : Int32 := (j3_100_e0 (j0_367_e0_a x0 x1 x2) (j0_367_e1_a x0 x1 x2) (j0_367_e2_a x0 x1 x2) (j0_367_e0 x0 x1 x2) (j0_367_e1 x0 x1 x2) (j0_367_e2 x0 x1 x2) (j0_367_size x0 x1 x2) (j0_367_place x0 x1 x2))
def o0_380_5_1 (x0 : Int64) (x1 : Int64) (x2 : Int64) : Int32 := (j3_100_e1 (j0_367_e0_a x0 x1 x2) (j0_367_e1_a x0 x1 x2) (j0_367_e2_a x0 x1 x2) (j0_367_e0 x0 x1 x2) (j0_367_e1 x0 x1 x2) (j0_367_e2 x0 x1 x2) (j0_367_size x0 x1 x2) (j0_367_place x0 x1 x2))
def o0_380_5_2 (x0 : Int64) (x1 : Int64) (x2 : Int64) : Int32 := (j3_100_e2 (j0_367_e0_a x0 x1 x2) (j0_367_e1_a x0 x1 x2) (j0_367_e2_a x0 x1 x2) (j0_367_e0 x0 x1 x2) (j0_367_e1 x0 x1 x2) (j0_367_e2 x0 x1 x2) (j0_367_size x0 x1 x2) (j0_367_place x0 x1 x2))
def v0_380 (x0 : Int64) (x1 : Int64) (x2 : Int64) : Int32 := (j3_20_1 (j0_367_e0_a x0 x1 x2) (j0_367_e1_a x0 x1 x2) (j0_367_e2_a x0 x1 x2) (j0_367_e0 x0 x1 x2) (j0_367_e1 x0 x1 x2) (j0_367_e2 x0 x1 x2) (j0_367_size x0 x1 x2) (j0_367_place x0 x1 x2))
def j0_395_s0 (x0 : Int64) (x1 : Int64) (x2 : Int64) : Int32 := (if (v0_380 x0 x1 x2) = (j0_204_e5 x0 x1 x2) then (1 : Int32) else (0 : Int32))
def j0_397_16 (x0 : Int64) (x1 : Int64) (x2 : Int64) : Int32 := (if (j0_367_16 x0 x1 x2) = (0 : Int32) then (j0_367_16 x0 x1 x2) else (if (5 : Int32) < (j0_204_14 x0 x1 x2) then (j0_395_s0 x0 x1 x2) else (j0_367_16 x0 x1 x2)))
def j0_397_size (x0 : Int64) (x1 : Int64) (x2 : Int64) : Int32 := (if (j0_367_16 x0 x1 x2) = (0 : Int32) then (j0_367_size x0 x1 x2) else (if (5 : Int32) < (j0_204_14 x0 x1 x2) then (o0_380_2 x0 x1 x2) else (j0_367_size x0 x1 x2)))
def j0_397_place (x0 : Int64) (x1 : Int64) (x2 : Int64) : Int32 := (if (j0_367_16 x0 x1 x2) = (0 : Int32) then (j0_367_place x0 x1 x2) else (if (5 : Int32) < (j0_204_14 x0 x1 x2) then (o0_380_3 x0 x1 x2) else (j0_367_place x0 x1 x2)))
def j0_397_e0 (x0 : Int64) (x1 : Int64) (x2 : Int64) : Int32 := (if (j0_367_16 x0 x1 x2) = (0 : Int32) then (j0_367_e0 x0 x1 x2) else (if (5 : Int32) < (j0_204_14 x0 x1 x2) then (o0_380_5_0 x0 x1 x2) else (j0_367_e0 x0 x1 x2)))
def j0_397_e1 (x0 : Int64) (x1 : Int64) (x2 : Int64) : Int32 := (if (j0_367_16 x0 x1 x2) = (0 : Int32) then (j0_367_e1 x0 x1 x2) else (if (5 : Int32) < (j0_204_14 x0 x1 x2) then (o0_380_5_1 x0 x1 x2) else (j0_367_e1 x0 x1 x2)))
def j0_397_e2 (x0 : Int64) (x1 : Int64) (x2 : Int64) : Int32 := (if (j0_367_16 x0 x1 x2) = (0 : Int32) then (j0_367_e2 x0 x1 x2) else (if (5 : Int32) < (j0_204_14 x0 x1 x2) then (o0_380_5_2 x0 x1 x2) else (j0_367_e2 x0 x1 x2)))
def j0_397_e0_a (x0 : Int64) (x1 : Int64) (x2 : Int64) : Int64 := (if (j0_367_16 x0 x1 x2) = (0 : Int32) then (j0_367_e0_a x0 x1 x2) else (if (5 : Int32) < (j0_204_14 x0 x1 x2) then (o0_380_4_0 x0 x1 x2) else (j0_367_e0_a x0 x1 x2)))
def j0_397_e1_a (x0 : Int64) (x1 : Int64) (x2 : Int64) : Int64 := (if (j0_367_16 x0 x1 x2) = (0 : Int32) then (j0_367_e1_a x0 x1 x2) else (if (5 : Int32) < (j0_204_14 x0 x1 x2) then (o0_380_4_1 x0 x1 x2) else (j0_367_e1_a x0 x1 x2)))
def j0_397_e2_a (x0 : Int64) (x1 : Int64) (x2 : Int64) : Int64 := (if (j0_367_16 x0 x1 x2) = (0 : Int32) then (j0_367_e2_a x0 x1 x2) else (if (5 : Int32) < (j0_204_14 x0 x1 x2) then (o0_380_4_2 x0 x1 x2) else (j0_367_e2_a x0 x1 x2)))
def o0_411_2 (x0 : Int64) (x1 : Int64) (x2 : Int64) : Int32 := (j3_100_size (j0_397_e0_a x0 x1 x2) (j0_397_e1_a x0 x1 x2) (j0_397_e2_a x0 x1 x2) (j0_397_e0 x0 x1 x2) (j0_397_e1 x0 x1 x2) (j0_397_e2 x0 x1 x2) (j0_397_size x0 x1 x2) (j0_397_place x0 x1 x2))
def o0_411_3 (x0 : Int64) (x1 : Int64) (x2 : Int64) : Int32 := (j3_100_place (j0_397_e0_a x0 x1 x2) (j0_397_e1_a x0 x1 x2) (j0_397_e2_a x0 x1 x2) (j0_397_e0 x0 x1 x2) (j0_397_e1 x0 x1 x2) (j0_397_e2 x0 x1 x2) (j0_397_size x0 x1 x2) (j0_397_place x0 x1 x2))
def o0_411_4_0 (x0 : Int64) (x1 : Int64) (x2 : Int64) : Int64 := (j3_20_e0_a (j0_397_e0_a x0 x1 x2) (j0_397_e1_a x0 x1 x2) (j0_397_e2_a x0 x1 x2) (j0_397_e0 x0 x1 x2) (j0_397_e1 x0 x1 x2) (j0_397_e2 x0 x1 x2) (j0_397_size x0 x1 x2) (j0_397_place x0 x1 x2))
def o0_411_4_1 (x0 : Int64) (x1 : Int64) (x2 : Int64) : Int64 := (j3_20_e1_a (j0_397_e0_a x0 x1 x2) (j0_397_e1_a x0 x1 x2) (j0_397_e2_a x0 x1 x2) (j0_397_e0 x0 x1 x2) (j0_397_e1 x0 x1 x2) (j0_397_e2 x0 x1 x2) (j0_397_size x0 x1 x2) (j0_397_place x0 x1 x2))
def o0_411_4_2 (x0 : Int64) (x1 : Int64) (x2 : Int64) : Int64 := (j3_20_e2_a (j0_397_e0_a x0 x1 x2) (j0_397_e1_a x0 x1 x2) (j0_397_e2_a x0 x1 x2) (j0_397_e0 x0 x1 x2) (j0_397_e1 x0 x1 x2) (j0_397_e2 x0 x1 x2) (j0_397_size x0 x1 x2) (j0_397_place x0 x1 x2))
def o0_411_5_0 (x0 : Int64) (x1 : Int64) (x2 : Int64) : Int32 := (j3_100_e0 (j0_397_e0_a x0 x1 x2) (j0_397_e1_a x0 x1 x2) (j0_397_e2_a x0 x1 x2) (j0_397_e0 x0 x1 x2) (j0_397_e1 x0 x1 x2) (j0_397_e2 x0 x1 x2) (j0_397_size x0 x1 x2) (j0_397_place x0 x1 x2))
def o0_411_5_1 (x0 : Int64) (x1 : Int64) (x2 : Int64) : Int32 := (j3_100_e1 (j0_397_e0_a x0 x1 x2) (j0_397_e1_a x0 x1 x2) (j0_397_e2_a x0 x1 x2) (j0_397_e0 x0 x1 x2) (j0_397_e1 x0 x1 x2) (j0_397_e2 x0 x1 x2) (j0_397_size x0 x1 x2) (j0_397_place x0 x1 x2))
def o0_411_5_2 (x0 : Int64) (x1 : Int64) (x2 : Int64) : Int32 := (j3_100_e2 (j0_397_e0_a x0 x1 x2) (j0_397_e1_a x0 x1 x2) (j0_397_e2_a x0 x1 x2) (j0_397_e0 x0 x1 x2) (j0_397_e1 x0 x1 x2) (j0_397_e2 x0 x1 x2) (j0_397_size x0 x1 x2) (j0_397_place x0 x1 x2))
def v0_411 (x0 : Int64) (x1 : Int64) (x2 : Int64) : Int32 := (j3_20_1 (j0_397_e0_a x0 x1 x2) (j0_397_e1_a x0 x1 x2) (j0_397_e2_a x0 x1 x2) (j0_397_e0 x0 x1 x2) (j0_397_e1 x0 x1 x2) (j0_397_e2 x0 x1 x2) (j0_397_size x0 x1 x2) (j0_397_place x0 x1 x2))
def j0_427_s0 (x0 : Int64) (x1 : Int64) (x2 : Int64) : Int32 := (if (v0_411 x0 x1 x2) = (j0_204_e6 x0 x1 x2) then (1 : Int32) else (0 : Int32))
def j0_429_16 (x0 : Int64) (x1 : Int64) (x2 : Int64) : Int32 := (if (j0_397_16 x0 x1 x2) = (0 : Int32) then (j0_397_16 x0 x1 x2) else (if (6 : Int32) < (j0_204_14 x0 x1 x2) then (j0_427_s0 x0 x1 x2) else (j0_397_16 x0 x1 x2)))
def j0_429_size (x0 : Int64) (x1 : Int64) (x2 : Int64) : Int32 := (if (j0_397_16 x0 x1 x2) = (0 : Int32) then (j0_397_size x0 x1 x2) else (if (6 : Int32) < (j0_204_14 x0 x1 x2) then (o0_411_2 x0 x1 x2) else (j0_397_size x0 x1 x2)))
def j0_429_place (x0 : Int64) (x1 : Int64) (x2 : Int64) : Int32 := (if (j0_397_16 x0 x1 x2) = (0 : Int32) then (j0_397_place x0 x1 x2) else (if (6 : Int32) < (j0_204_14 x0 x1 x2) then (o0_411_3 x0 x1 x2) else (j0_397_place x0 x1 x2)))
def j0_429_e0 (x0 : Int64) (x1 : Int64) (x2 : Int64) : Int32 := (if (j0_397_16 x0 x1 x2) = (0 : Int32) then (j0_397_e0 x0 x1 x2) else (if (6 : Int32) < (j0_204_14 x0 x1 x2) then (o0_411_5_0 x0 x1 x2) else (j0_397_e0 x0 x1 x2)))
def j0_429_e1 (x0 : Int64) (x1 : Int64) (x2 : Int64) : Int32 := (if (j0_397_16 x0 x1 x2) = (0 : Int32) then (j0_397_e1 x0 x1 x2) else (if (6 : Int32) < (j0_204_14 x0 x1 x2) then (o0_411_5_1 x0 x1 x2) else (j0_397_e1 x0 x1 x2)))
def j0_429_e2 (x0 : Int64) (x1 : Int64) (x2 : Int64) : Int32 := (if (j0_397_16 x0 x1 x2) = (0 : Int32) then (j0_397_e2 x0 x1 x2) else (if (6 : Int32) < (j0_204_14 x0 x1 x2) then (o0_411_5_2 x0 x1 x2) else (j0_397_e2 x0 x1 x2)))
def j0_429_e0_a (x0 : Int64) (x1 : Int64) (x2 : Int64) : Int64 := (if (j0_397_16 x0 x1 x2) = (0 : Int32) then (j0_397_e0_a x0 x1 x2) else (if (6 : Int32) < (j0_204_14 x0 x1 x2) then (o0_411_4_0 x0 x1 x2) else (j0_397_e0_a x0 x1 x2)))
def j0_429_e1_a (x0 : Int64) (x1 : Int64) (x2 : Int64) : Int64 := (if (j0_397_16 x0 x1 x2) = (0 : Int32) then (j0_397_e1_a x0 x1 x2) else (if (6 : Int32) < (j0_204_14 x0 x1 x2) then (o0_411_4_1 x0 x1 x2) else (j0_397_e1_a x0 x1 x2)))
def j0_429_e2_a (x0 : Int64) (x1 : Int64) (x2 : Int64) : Int64 := (if (j0_397_16 x0 x1 x2) = (0 : Int32) then (j0_397_e2_a x0 x1 x2) else (if (6 : Int32) < (j0_204_14 x0 x1 x2) then (o0_411_4_2 x0 x1 x2) else (j0_397_e2_a x0 x1 x2)))
def o0_443_2 (x0 : Int64) (x1 : Int64) (x2 : Int64) : Int32 := (j3_100_size (j0_429_e0_a x0 x1 x2) (j0_429_e1_a x0 x1 x2) (j0_429_e2_a x0 x1 x2) (j0_429_e0 x0 x1 x2) (j0_429_e1 x0 x1 x2) (j0_429_e2 x0 x1 x2) (j0_429_size x0 x1 x2) (j0_429_place x0 x1 x2))
def o0_443_3 (x0 : Int64) (x1 : Int64) (x2 : Int64) : Int32 := (j3_100_place (j0_429_e0_a x0 x1 x2) (j0_429_e1_a x0 x1 x2) (j0_429_e2_a x0 x1 x2) (j0_429_e0 x0 x1 x2) (j0_429_e1 x0 x1 x2) (j0_429_e2 x0 x1 x2) (j0_429_size x0 x1 x2) (j0_429_place x0 x1 x2))
def o0_443_4_0 (x0 : Int64) (x1 : Int64) (x2 : Int64) : Int64 := (j3_20_e0_a (j0_429_e0_a x0 x1 x2) (j0_429_e1_a x0 x1 x2) (j0_429_e2_a x0 x1 x2) (j0_429_e0 x0 x1 x2) (j0_429_e1 x0 x1 x2) (j0_429_e2 x0 x1 x2) (j0_429_size x0 x1 x2) (j0_429_place x0 x1 x2))
def o0_443_4_1 (x0 : Int64) (x1 : Int64) (x2 : Int64) : Int64 := (j3_20_e1_a (j0_429_e0_a x0 x1 x2) (j0_429_e1_a x0 x1 x2) (j0_429_e2_a x0 x1 x2) (j0_429_e0 x0 x1 x2) (j0_429_e1 x0 x1 x2) (j0_429_e2 x0 x1 x2) (j0_429_size x0 x1 x2) (j0_429_place x0 x1 x2))
def o0_443_4_2 (x0 : Int64) (x1 : Int64) (x2 : Int64) : Int64 := (j3_20_e2_a (j0_429_e0_a x0 x1 x2) (j0_429_e1_a x0 x1 x2) (j0_429_e2_a x0 x1 x2) (j0_429_e0 x0 x1 x2) (j0_429_e1 x0 x1 x2) (j0_429_e2 x0 x1 x2) (j0_429_size x0 x1 x2) (j0_429_place x0 x1 x2))
def o0_443_5_0 (x0 : Int64) (x1 : Int64) (x2 : Int64) : Int32 := (j3_100_e0 (j0_429_e0_a x0 x1 x2) (j0_429_e1_a x0 x1 x2) (j0_429_e2_a x0 x1 x2) (j0_429_e0 x0 x1 x2) (j0_429_e1 x0 x1 x2) (j0_429_e2 x0 x1 x2) (j0_429_size x0 x1 x2) (j0_429_place x0 x1 x2))
def o0_443_5_1 (x0 : Int64) (x1 : Int64) (x2 : Int64) : Int32 := (j3_100_e1 (j0_429_e0_a x0 x1 x2) (j0_429_e1_a x0 x1 x2) (j0_429_e2_a x0 x1 x2) (j0_429_e0 x0 x1 x2) (j0_429_e1 x0 x1 x2) (j0_429_e2 x0 x1 x2) (j0_429_size x0 x1 x2) (j0_429_place x0 x1 x2))
def o0_443_5_2 (x0 : Int64) (x1 : Int64) (x2 : Int64) : Int32 := (j3_100_e2 (j0_429_e0_a x0 x1 x2) (j0_429_e1_a x0 x1 x2) (j0_429_e2_a x0 x1 x2) (j0_429_e0 x0 x1 x2) (j0_429_e1 x0 x1 x2) (j0_429_e2 x0 x1 x2) (j0_429_size x0 x1 x2) (j0_429_place x0 x1 x2))
def v0_443 (x0 : Int64) (x1 : Int64) (x2 : Int64) : Int32 := (j3_20_1 (j0_429_e0_a x0 x1 x2) (j0_429_e1_a x0 x1 x2) (j0_429_e2_a x0 x1 x2) (j0_429_e0 x0 x1 x2) (j0_429_e1 x0 x1 x2) (j0_429_e2 x0 x1 x2) (j0_429_size x0 x1 x2) (j0_429_place x0 x1 x2))
def j0_459_s0 (x0 : Int64) (x1 : Int64) (x2 : Int64) : Int32 := (if (v0_443 x0 x1 x2) = (j0_204_e7 x0 x1 x2) then (1 : Int32) else (0 : Int32))
def j0_461_16 (x0 : Int64) (x1 : Int64) (x2 : Int64) : Int32 := (if (j0_429_16 x0 x1 x2) = (0 : Int32) then (j0_429_16 x0 x1 x2) else (if (7 : Int32) < (j0_204_14 x0 x1 x2) then (j0_459_s0 x0 x1 x2) else (j0_429_16 x0 x1 x2)))
def j0_461_size (x0 : Int64) (x1 : Int64) (x2 : Int64) : Int32 := (if (j0_429_16 x0 x1 x2) = (0 : Int32) then (j0_429_size x0 x1 x2) else (if (7 : Int32) < (j0_204_14 x0 x1 x2) then (o0_443_2 x0 x1 x2) else (j0_429_size x0 x1 x2)))
def j0_461_place (x0 : Int64) (x1 : Int64) (x2 : Int64) : Int32 := (if (j0_429_16 x0 x1 x2) = (0 : Int32) then (j0_429_place x0 x1 x2) else (if (7 : Int32) < (j0_204_14 x0 x1 x2) then (o0_443_3 x0 x1 x2) else (j0_429_place x0 x1 x2)))
def j0_461_e0 (x0 : Int64) (x1 : Int64) (x2 : Int64) : Int32 := (if (j0_429_16 x0 x1 x2) = (0 : Int32) then (j0_429_e0 x0 x1 x2) else (if (7 : Int32) < (j0_204_14 x0 x1 x2) then (o0_443_5_0 x0 x1 x2) else (j0_429_e0 x0 x1 x2)))
def j0_461_e1 (x0 : Int64) (x1 : Int64) (x2 : Int64) : Int32 := (if (j0_429_16 x0 x1 x2) = (0 : Int32) then (j0_429_e1 x0 x1 x2) else (if (7 : Int32) < (j0_204_14 x0 x1 x2) then (o0_443_5_1 x0 x1 x2) else (j0_429_e1 x0 x1 x2)))
def j0_461_e2 (x0 : Int64) (x1 : Int64) (x2 : Int64) : Int32 := (if (j0_429_16 x0 x1 x2) = (0 : Int32) then (j0_429_e2 x0 x1 x2) else (if (7 : Int32) < (j0_204_14 x0 x1 x2) then (o0_443_5_2 x0 x1 x2) else (j0_429_e2 x0 x1 x2)))
def j0_461_e0_a (x0 : Int64) (x1 : Int64) (x2 : Int64) : Int64 := (if (j0_429_16 x0 x1 x2) = (0 : Int32) then (j0_429_e0_a x0 x1 x2) else (if (7 : Int32) < (j0_204_14 x0 x1 x2) then (o0_443_4_0 x0 x1 x2) else (j0_429_e0_a x0 x1 x2)))
def j0_461_e1_a (x0 : Int64) (x1 : Int64) (x2 : Int64) : Int64 := (if (j0_429_16 x0 x1 x2) = (0 : Int32) then (j0_429_e1_a x0 x1 x2) else (if (7 : Int32) < (j0_204_14 x0 x1 x2) then (o0_443_4_1 x0 x1 x2) else (j0_429_e1_a x0 x1 x2)))
def j0_461_e2_a (x0 : Int64) (x1 : Int64) (x2 : Int64) : Int64 := (if (j0_429_16 x0 x1 x2) = (0 : Int32) then (j0_429_e2_a x0 x1 x2) else (if (7 : Int32) < (j0_204_14 x0 x1 x2) then (o0_443_4_2 x0 x1 x2) else (j0_429_e2_a x0 x1 x2)))
def o0_475_2 (x0 : Int64) (x1 : Int64) (x2 : Int64) : Int32 := (j3_100_size (j0_461_e0_a x0 x1 x2) (j0_461_e1_a x0 x1 x2) (j0_461_e2_a x0 x1 x2) (j0_461_e0 x0 x1 x2) (j0_461_e1 x0 x1 x2) (j0_461_e2 x0 x1 x2) (j0_461_size x0 x1 x2) (j0_461_place x0 x1 x2))
def o0_475_3 (x0 : Int64) (x1 : Int64) (x2 : Int64) : Int32 := (j3_100_place (j0_461_e0_a x0 x1 x2) (j0_461_e1_a x0 x1 x2) (j0_461_e2_a x0 x1 x2) (j0_461_e0 x0 x1 x2) (j0_461_e1 x0 x1 x2) (j0_461_e2 x0 x1 x2) (j0_461_size x0 x1 x2) (j0_461_place x0 x1 x2))
def o0_475_4_0 (x0 : Int64) (x1 : Int64) (x2 : Int64) : Int64 := (j3_20_e0_a (j0_461_e0_a x0 x1 x2) (j0_461_e1_a x0 x1 x2) (j0_461_e2_a x0 x1 x2) (j0_461_e0 x0 x1 x2) (j0_461_e1 x0 x1 x2) (j0_461_e2 x0 x1 x2) (j0_461_size x0 x1 x2) (j0_461_place x0 x1 x2))
def o0_475_4_1 (x0 : Int64) (x1 : Int64) (x2 : Int64) : Int64 := (j3_20_e1_a (j0_461_e0_a x0 x1 x2) (j0_461_e1_a x0 x1 x2) (j0_461_e2_a x0 x1 x2) (j0_461_e0 x0 x1 x2) (j0_461_e1 x0 x1 x2) (j0_461_e2 x0 x1 x2) (j0_461_size x0 x1 x2) (j0_461_place x0 x1 x2))
def o0_475_4_2 (x0 : Int64) (x1 : Int64) (x2 : Int64) : Int64 := (j3_20_e2_a (j0_461_e0_a x0 x1 x2) (j0_461_e1_a x0 x1 x2) (j0_461_e2_a x0 x1 x2) (j0_461_e0 x0 x1 x2) (j0_461_e1 x0 x1 x2) (j0_461_e2 x0 x1 x2) (j0_461_size x0 x1 x2) (j0_461_place x0 x1 x2))
def o0_475_5_0 (x0 : Int64) (x1 : Int64) (x2 : Int64) : Int32 := (j3_100_e0 (j0_461_e0_a x0 x1 x2) (j0_461_e1_a x0 x1 x2) (j0_461_e2_a x0 x1 x2) (j0_461_e0 x0 x1 x2) (j0_461_e1 x0 x1 x2) (j0_461_e2 x0 x1 x2) (j0_461_size x0 x1 x2) (j0_461_place x0 x1 x2))
def o0_475_5_1 (x0 : Int64) (x1 : Int64) (x2 : Int64) : Int32 := (j3_100_e1 (j0_461_e0_a x0 x1 x2) (j0_461_e1_a x0 x1 x2) (j0_461_e2_a x0 x1 x2) (j0_461_e0 x0 x1 x2) (j0_461_e1 x0 x1 x2) (j0_461_e2 x0 x1 x2) (j0_461_size x0 x1 x2) (j0_461_place x0 x1 x2))
def o0_475_5_2 (x0 : Int64) (x1 : Int64) (x2 : Int64) : Int32 := (j3_100_e2 (j0_461_e0_a x0 x1 x2) (j0_461_e1_a x0 x1 x2) (j0_461_e2_a x0 x1 x2) (j0_461_e0 x0 x1 x2) (j0_461_e1 x0 x1 x2) (j0_461_e2 x0 x1 x2) (j0_461_size x0 x1 x2) (j0_461_place x0 x1 x2))
def v0_475 (x0 : Int64) (x1 : Int64) (x2 : Int64) : Int32 := (j3_20_1 (j0_461_e0_a x0 x1 x2) (j0_461_e1_a x0 x1 x2) (j0_461_e2_a x0 x1 x2) (j0_461_e0 x0 x1 x2) (j0_461_e1 x0 x1 x2) (j0_461_e2 x0 x1 x2) (j0_461_size x0 x1 x2) (j0_461_place x0 x1 x2))
def j0_491_s0 (x0 : Int64) (x1 : Int64) (x2 : Int64) : Int32 := (if (v0_475 x0 x1 x2) = (j0_204_e8 x0 x1 x2) then (1 : Int32) else (0 : Int32))
def j0_493_16 (x0 : Int64) (x1 : Int64) (x2 : Int64) : Int32 := (if (j0_461_16 x0 x1 x2) = (0 : Int32) then (j0_461_16 x0 x1 x2) else (if (8 : Int32) < (j0_204_14 x0 x1 x2) then (j0_491_s0 x0 x1 x2) else (j0_461_16 x0 x1 x2)))
def j0_493_size (x0 : Int64) (x1 : Int64) (x2 : Int64) : Int32 := (if (j0_461_16 x0 x1 x2) = (0 : Int32) then (j0_461_size x0 x1 x2) else (if (8 : Int32) < (j0_204_14 x0 x1 x2) then (o0_475_2 x0 x1 x2) else (j0_461_size x0 x1 x2)))
def j0_493_place (x0 : Int64) (x1 : Int64) (x2 : Int64) : Int32 := (if (j0_461_16 x0 x1 x2) = (0 : Int32) then (j0_461_place x0 x1 x2) else (if (8 : Int32) < (j0_204_14 x0 x1 x2) then (o0_475_3 x0 x1 x2) else (j0_461_place x0 x1 x2)))
def j0_493_e0 (x0 : Int64) (x1 : Int64) (x2 : Int64) : Int32 := (if (j0_461_16 x0 x1 x2) = (0 : Int32) then (j0_461_e0 x0 x1 x2) else (if (8 : Int32) < (j0_204_14 x0 x1 x2) then (o0_475_5_0 x0 x1 x2) else (j0_461_e0 x0 x1 x2)))
def j0_493_e1 (x0 : Int64) (x1 : Int64) (x2 : Int64) : Int32 := (if (j0_461_16 x0 x1 x2) = (0 : Int32) then (j0_461_e1 x0 x1 x2) else (if (8 : Int32) < (j0_204_14 x0 x1 x2) then (o0_475_5_1 x0 x1 x2) else (j0_461_e1 x0 x1 x2)))
def j0_493_e2 (x0 : Int64) (x1 : Int64) (x2 : Int64) : Int32 := (if (j0_461_16 x0 x1 x2) = (0 : Int32) then (j0_461_e2 x0 x1 x2) else (if (8 : Int32) < (j0_204_14 x0 x1 x2) then (o0_475_5_2 x0 x1 x2) else (j0_461_e2 x0 x1 x2)))
def j0_493_e0_a (x0 : Int64) (x1 : Int64) (x2 : Int64) : Int64 := (if (j0_461_16 x0 x1 x2) = (0 : Int32) then (j0_461_e0_a x0 x1 x2) else (if (8 : Int32) < (j0_204_14 x0 x1 x2) then (o0_475_4_0 x0 x1 x2) else (j0_461_e0_a x0 x1 x2)))
def j0_493_e1_a (x0 : Int64) (x1 : Int64) (x2 : Int64) : Int64 := (if (j0_461_16 x0 x1 x2) = (0 : Int32) then (j0_461_e1_a x0 x1 x2) else (if (8 : Int32) < (j0_204_14 x0 x1 x2) then (o0_475_4_1 x0 x1 x2) else (j0_461_e1_a x0 x1 x2)))
def j0_493_e2_a (x0 : Int64) (x1 : Int64) (x2 : Int64) : Int64 := (if (j0_461_16 x0 x1 x2) = (0 : Int32) then (j0_461_e2_a x0 x1 x2) else (if (8 : Int32) < (j0_204_14 x0 x1 x2) then (o0_475_4_2 x0 x1 x2) else (j0_461_e2_a x0 x1 x2)))
def r0 (x0 : Int64) (x1 : Int64) (x2 : Int64) : Int32 := (if (j0_493_16 x0 x1 x2) = (0 : Int32) then (0 : Int32) else (1 : Int32))
section
variable (x0 x1 x2 : Int64)
theorem own_cl (a : Int64) : (a < 1 ∧ a < 2 ∧ a < 3 ∧ ¬ 0 < a) ∨ (¬ a < 1 ∧ a < 2 ∧ a < 3 ∧ 0 < a ∧ ¬ 0 < a - 1) ∨ (¬ a < 1 ∧ ¬ a < 2 ∧ a < 3 ∧ 0 < a ∧ 0 < a - 1 ∧ ¬ 0 < a - 1 - 1) ∨ (¬ a < 1 ∧ ¬ a < 2 ∧ ¬ a < 3 ∧ 0 < a ∧ 0 < a - 1 ∧ 0 < a - 1 - 1) := by
  have l : -2 ^ 63 ≤ a.toInt := Int64.le_toInt a
  have u : a.toInt < 2 ^ 63 := Int64.toInt_lt a
  obtain ⟨A, e⟩ : ∃ A : Int, a.toInt = A := ⟨_, rfl⟩
  rw [e] at l u
  have z0 : (0 : Int64).toInt = 0 := by decide
  have z1 : (1 : Int64).toInt = 1 := by decide
  have z2 : (2 : Int64).toInt = 2 := by decide
  have z3 : (3 : Int64).toInt = 3 := by decide
  rw [own_lt64 e z1, own_lt64 e z2, own_lt64 e z3, own_lt64 z0 e]
  by_cases h : A < 1
  · omega
  · have d1 := own_sub64 e z1 (by omega) (by omega)
    have d2 := own_sub64 d1 z1 (by omega) (by omega)
    rw [own_lt64 z0 d1, own_lt64 z0 d2]
    omega
theorem own_nb1 : j0_64_14 x0 x1 x2 = 0 ∨ j0_64_14 x0 x1 x2 = 1 := by
  unfold j0_64_14
  split
  · exact Or.inl rfl
  · exact Or.inr rfl
theorem own_nb2 : j0_80_14 x0 x1 x2 = 0 ∨ j0_80_14 x0 x1 x2 = 1 ∨ j0_80_14 x0 x1 x2 = 2 := by
  have h := own_nb1 x0 x1 x2
  unfold j0_80_14 w0_77
  generalize j0_64_14 x0 x1 x2 = v at h ⊢
  split
  · rcases h with rfl | rfl <;> simp
  · rcases h with rfl | rfl <;> decide
theorem own_nb3 : j0_96_14 x0 x1 x2 = 0 ∨ j0_96_14 x0 x1 x2 = 1 ∨ j0_96_14 x0 x1 x2 = 2 ∨ j0_96_14 x0 x1 x2 = 3 := by
  have h := own_nb2 x0 x1 x2
  unfold j0_96_14 w0_93
  generalize j0_80_14 x0 x1 x2 = v at h ⊢
  split
  · rcases h with rfl | rfl | rfl <;> simp
  · rcases h with rfl | rfl | rfl <;> decide
theorem own_nb4 : j0_114_14 x0 x1 x2 = 0 ∨ j0_114_14 x0 x1 x2 = 1 ∨ j0_114_14 x0 x1 x2 = 2 ∨ j0_114_14 x0 x1 x2 = 3 ∨ j0_114_14 x0 x1 x2 = 4 := by
  have h := own_nb3 x0 x1 x2
  unfold j0_114_14 w0_111
  generalize j0_96_14 x0 x1 x2 = v at h ⊢
  split
  · rcases h with rfl | rfl | rfl | rfl <;> simp
  · rcases h with rfl | rfl | rfl | rfl <;> decide
theorem own_nb5 : j0_132_14 x0 x1 x2 = 0 ∨ j0_132_14 x0 x1 x2 = 1 ∨ j0_132_14 x0 x1 x2 = 2 ∨ j0_132_14 x0 x1 x2 = 3 ∨ j0_132_14 x0 x1 x2 = 4 ∨ j0_132_14 x0 x1 x2 = 5 := by
  have h := own_nb4 x0 x1 x2
  unfold j0_132_14 w0_129
  generalize j0_114_14 x0 x1 x2 = v at h ⊢
  split
  · rcases h with rfl | rfl | rfl | rfl | rfl <;> simp
  · rcases h with rfl | rfl | rfl | rfl | rfl <;> decide
theorem own_nb6 : j0_150_14 x0 x1 x2 = 0 ∨ j0_150_14 x0 x1 x2 = 1 ∨ j0_150_14 x0 x1 x2 = 2 ∨ j0_150_14 x0 x1 x2 = 3 ∨ j0_150_14 x0 x1 x2 = 4 ∨ j0_150_14 x0 x1 x2 = 5 ∨ j0_150_14 x0 x1 x2 = 6 := by
  have h := own_nb5 x0 x1 x2
  unfold j0_150_14 w0_147
  generalize j0_132_14 x0 x1 x2 = v at h ⊢
  split
  · rcases h with rfl | rfl | rfl | rfl | rfl | rfl <;> simp
  · rcases h with rfl | rfl | rfl | rfl | rfl | rfl <;> decide
theorem own_nb7 : j0_168_14 x0 x1 x2 = 0 ∨ j0_168_14 x0 x1 x2 = 1 ∨ j0_168_14 x0 x1 x2 = 2 ∨ j0_168_14 x0 x1 x2 = 3 ∨ j0_168_14 x0 x1 x2 = 4 ∨ j0_168_14 x0 x1 x2 = 5 ∨ j0_168_14 x0 x1 x2 = 6 ∨ j0_168_14 x0 x1 x2 = 7 := by
  have h := own_nb6 x0 x1 x2
  unfold j0_168_14 w0_165
  generalize j0_150_14 x0 x1 x2 = v at h ⊢
  split
  · rcases h with rfl | rfl | rfl | rfl | rfl | rfl | rfl <;> simp
  · rcases h with rfl | rfl | rfl | rfl | rfl | rfl | rfl <;> decide
theorem own_nb8 : j0_186_14 x0 x1 x2 = 0 ∨ j0_186_14 x0 x1 x2 = 1 ∨ j0_186_14 x0 x1 x2 = 2 ∨ j0_186_14 x0 x1 x2 = 3 ∨ j0_186_14 x0 x1 x2 = 4 ∨ j0_186_14 x0 x1 x2 = 5 ∨ j0_186_14 x0 x1 x2 = 6 ∨ j0_186_14 x0 x1 x2 = 7 ∨ j0_186_14 x0 x1 x2 = 8 := by
  have h := own_nb7 x0 x1 x2
  unfold j0_186_14 w0_183
  generalize j0_168_14 x0 x1 x2 = v at h ⊢
  split
  · rcases h with rfl | rfl | rfl | rfl | rfl | rfl | rfl | rfl <;> simp
  · rcases h with rfl | rfl | rfl | rfl | rfl | rfl | rfl | rfl <;> decide
def OwnE0 (N l0 l1 l2 l3 l4 l5 l6 l7 l8 : Int32) : Prop := j0_64_14 x0 x1 x2 = N ∧ (0 : Int32) = l0 ∧ (0 : Int32) = l1 ∧ (0 : Int32) = l2 ∧ (0 : Int32) = l3 ∧ (0 : Int32) = l4 ∧ (0 : Int32) = l5 ∧ (0 : Int32) = l6 ∧ (0 : Int32) = l7 ∧ (0 : Int32) = l8
def OwnE1 (N l0 l1 l2 l3 l4 l5 l6 l7 l8 : Int32) : Prop := j0_80_14 x0 x1 x2 = N ∧ j0_80_e0 x0 x1 x2 = l0 ∧ j0_80_e1 x0 x1 x2 = l1 ∧ (0 : Int32) = l2 ∧ (0 : Int32) = l3 ∧ (0 : Int32) = l4 ∧ (0 : Int32) = l5 ∧ (0 : Int32) = l6 ∧ (0 : Int32) = l7 ∧ (0 : Int32) = l8
def OwnE2 (N l0 l1 l2 l3 l4 l5 l6 l7 l8 : Int32) : Prop := j0_96_14 x0 x1 x2 = N ∧ j0_96_e0 x0 x1 x2 = l0 ∧ j0_96_e1 x0 x1 x2 = l1 ∧ j0_96_e2 x0 x1 x2 = l2 ∧ (0 : Int32) = l3 ∧ (0 : Int32) = l4 ∧ (0 : Int32) = l5 ∧ (0 : Int32) = l6 ∧ (0 : Int32) = l7 ∧ (0 : Int32) = l8
def OwnE3 (N l0 l1 l2 l3 l4 l5 l6 l7 l8 : Int32) : Prop := j0_114_14 x0 x1 x2 = N ∧ j0_114_e0 x0 x1 x2 = l0 ∧ j0_114_e1 x0 x1 x2 = l1 ∧ j0_114_e2 x0 x1 x2 = l2 ∧ j0_114_e3 x0 x1 x2 = l3 ∧ (0 : Int32) = l4 ∧ (0 : Int32) = l5 ∧ (0 : Int32) = l6 ∧ (0 : Int32) = l7 ∧ (0 : Int32) = l8
def OwnE4 (N l0 l1 l2 l3 l4 l5 l6 l7 l8 : Int32) : Prop := j0_132_14 x0 x1 x2 = N ∧ j0_132_e0 x0 x1 x2 = l0 ∧ j0_132_e1 x0 x1 x2 = l1 ∧ j0_132_e2 x0 x1 x2 = l2 ∧ j0_132_e3 x0 x1 x2 = l3 ∧ j0_132_e4 x0 x1 x2 = l4 ∧ (0 : Int32) = l5 ∧ (0 : Int32) = l6 ∧ (0 : Int32) = l7 ∧ (0 : Int32) = l8
def OwnE5 (N l0 l1 l2 l3 l4 l5 l6 l7 l8 : Int32) : Prop := j0_150_14 x0 x1 x2 = N ∧ j0_150_e0 x0 x1 x2 = l0 ∧ j0_150_e1 x0 x1 x2 = l1 ∧ j0_150_e2 x0 x1 x2 = l2 ∧ j0_150_e3 x0 x1 x2 = l3 ∧ j0_150_e4 x0 x1 x2 = l4 ∧ j0_150_e5 x0 x1 x2 = l5 ∧ (0 : Int32) = l6 ∧ (0 : Int32) = l7 ∧ (0 : Int32) = l8
def OwnE6 (N l0 l1 l2 l3 l4 l5 l6 l7 l8 : Int32) : Prop := j0_168_14 x0 x1 x2 = N ∧ j0_168_e0 x0 x1 x2 = l0 ∧ j0_168_e1 x0 x1 x2 = l1 ∧ j0_168_e2 x0 x1 x2 = l2 ∧ j0_168_e3 x0 x1 x2 = l3 ∧ j0_168_e4 x0 x1 x2 = l4 ∧ j0_168_e5 x0 x1 x2 = l5 ∧ j0_168_e6 x0 x1 x2 = l6 ∧ (0 : Int32) = l7 ∧ (0 : Int32) = l8
def OwnE7 (N l0 l1 l2 l3 l4 l5 l6 l7 l8 : Int32) : Prop := j0_186_14 x0 x1 x2 = N ∧ j0_186_e0 x0 x1 x2 = l0 ∧ j0_186_e1 x0 x1 x2 = l1 ∧ j0_186_e2 x0 x1 x2 = l2 ∧ j0_186_e3 x0 x1 x2 = l3 ∧ j0_186_e4 x0 x1 x2 = l4 ∧ j0_186_e5 x0 x1 x2 = l5 ∧ j0_186_e6 x0 x1 x2 = l6 ∧ j0_186_e7 x0 x1 x2 = l7 ∧ (0 : Int32) = l8
def OwnE8 (N l0 l1 l2 l3 l4 l5 l6 l7 l8 : Int32) : Prop := j0_204_14 x0 x1 x2 = N ∧ j0_204_e0 x0 x1 x2 = l0 ∧ j0_204_e1 x0 x1 x2 = l1 ∧ j0_204_e2 x0 x1 x2 = l2 ∧ j0_204_e3 x0 x1 x2 = l3 ∧ j0_204_e4 x0 x1 x2 = l4 ∧ j0_204_e5 x0 x1 x2 = l5 ∧ j0_204_e6 x0 x1 x2 = l6 ∧ j0_204_e7 x0 x1 x2 = l7 ∧ j0_204_e8 x0 x1 x2 = l8
theorem own_sk0 (h : w0_4 x0 x1 x2 < 1) : OwnE0 x0 x1 x2 0 0 0 0 0 0 0 0 0 0 := ⟨if_pos h, rfl, rfl, rfl, rfl, rfl, rfl, rfl, rfl, rfl⟩
theorem own_tk0 (h : ¬ w0_4 x0 x1 x2 < 1) : OwnE0 x0 x1 x2 1 0 0 0 0 0 0 0 0 0 := ⟨if_neg h, rfl, rfl, rfl, rfl, rfl, rfl, rfl, rfl, rfl⟩
theorem own_sk1 {N l0 l1 l2 l3 l4 l5 l6 l7 l8 : Int32} (h : w0_10 x0 x1 x2 < 1) (q : OwnE0 x0 x1 x2 N l0 l1 l2 l3 l4 l5 l6 l7 l8) : OwnE1 x0 x1 x2 N l0 l1 l2 l3 l4 l5 l6 l7 l8 := by
  refine ⟨?_, ?_, ?_, ?_, ?_, ?_, ?_, ?_, ?_, ?_⟩
  · rw [j0_80_14, if_pos h]; exact q.1
  · rw [j0_80_e0, if_pos h]; exact q.2.1
  · rw [j0_80_e1, if_pos h]; exact q.2.2.1
  · exact q.2.2.2.1
  · exact q.2.2.2.2.1
  · exact q.2.2.2.2.2.1
  · exact q.2.2.2.2.2.2.1
  · exact q.2.2.2.2.2.2.2.1
  · exact q.2.2.2.2.2.2.2.2.1
  · exact q.2.2.2.2.2.2.2.2.2
theorem own_tk1_0 {l0 l1 l2 l3 l4 l5 l6 l7 l8 : Int32} (h : ¬ w0_10 x0 x1 x2 < 1) (q : OwnE0 x0 x1 x2 0 l0 l1 l2 l3 l4 l5 l6 l7 l8) : OwnE1 x0 x1 x2 1 1 l1 l2 l3 l4 l5 l6 l7 l8 := by
  refine ⟨?_, ?_, ?_, ?_, ?_, ?_, ?_, ?_, ?_, ?_⟩
  · rw [j0_80_14, if_neg h, w0_77, q.1]; decide
  · rw [j0_80_e0, if_neg h, q.1]; exact if_pos rfl
  · rw [j0_80_e1, if_neg h, q.1, if_neg (by decide)]; exact q.2.2.1
  · exact q.2.2.2.1
  · exact q.2.2.2.2.1
  · exact q.2.2.2.2.2.1
  · exact q.2.2.2.2.2.2.1
  · exact q.2.2.2.2.2.2.2.1
  · exact q.2.2.2.2.2.2.2.2.1
  · exact q.2.2.2.2.2.2.2.2.2
theorem own_tk1_1 {l0 l1 l2 l3 l4 l5 l6 l7 l8 : Int32} (h : ¬ w0_10 x0 x1 x2 < 1) (q : OwnE0 x0 x1 x2 1 l0 l1 l2 l3 l4 l5 l6 l7 l8) : OwnE1 x0 x1 x2 2 l0 1 l2 l3 l4 l5 l6 l7 l8 := by
  refine ⟨?_, ?_, ?_, ?_, ?_, ?_, ?_, ?_, ?_, ?_⟩
  · rw [j0_80_14, if_neg h, w0_77, q.1]; decide
  · rw [j0_80_e0, if_neg h, q.1, if_neg (by decide)]; exact q.2.1
  · rw [j0_80_e1, if_neg h, q.1]; exact if_pos rfl
  · exact q.2.2.2.1
  · exact q.2.2.2.2.1
  · exact q.2.2.2.2.2.1
  · exact q.2.2.2.2.2.2.1
  · exact q.2.2.2.2.2.2.2.1
  · exact q.2.2.2.2.2.2.2.2.1
  · exact q.2.2.2.2.2.2.2.2.2
theorem own_sk2 {N l0 l1 l2 l3 l4 l5 l6 l7 l8 : Int32} (h : w0_17 x0 x1 x2 < 1) (q : OwnE1 x0 x1 x2 N l0 l1 l2 l3 l4 l5 l6 l7 l8) : OwnE2 x0 x1 x2 N l0 l1 l2 l3 l4 l5 l6 l7 l8 := by
  refine ⟨?_, ?_, ?_, ?_, ?_, ?_, ?_, ?_, ?_, ?_⟩
  · rw [j0_96_14, if_pos h]; exact q.1
  · rw [j0_96_e0, if_pos h]; exact q.2.1
  · rw [j0_96_e1, if_pos h]; exact q.2.2.1
  · rw [j0_96_e2, if_pos h]; exact q.2.2.2.1
  · exact q.2.2.2.2.1
  · exact q.2.2.2.2.2.1
  · exact q.2.2.2.2.2.2.1
  · exact q.2.2.2.2.2.2.2.1
  · exact q.2.2.2.2.2.2.2.2.1
  · exact q.2.2.2.2.2.2.2.2.2
theorem own_tk2_0 {l0 l1 l2 l3 l4 l5 l6 l7 l8 : Int32} (h : ¬ w0_17 x0 x1 x2 < 1) (q : OwnE1 x0 x1 x2 0 l0 l1 l2 l3 l4 l5 l6 l7 l8) : OwnE2 x0 x1 x2 1 2 l1 l2 l3 l4 l5 l6 l7 l8 := by
  refine ⟨?_, ?_, ?_, ?_, ?_, ?_, ?_, ?_, ?_, ?_⟩
  · rw [j0_96_14, if_neg h, w0_93, q.1]; decide
  · rw [j0_96_e0, if_neg h, q.1]; exact if_pos rfl
  · rw [j0_96_e1, if_neg h, q.1, if_neg (by decide)]; exact q.2.2.1
  · rw [j0_96_e2, if_neg h, q.1, if_neg (by decide)]; exact q.2.2.2.1
  · exact q.2.2.2.2.1
  · exact q.2.2.2.2.2.1
  · exact q.2.2.2.2.2.2.1
  · exact q.2.2.2.2.2.2.2.1
  · exact q.2.2.2.2.2.2.2.2.1
  · exact q.2.2.2.2.2.2.2.2.2
theorem own_tk2_1 {l0 l1 l2 l3 l4 l5 l6 l7 l8 : Int32} (h : ¬ w0_17 x0 x1 x2 < 1) (q : OwnE1 x0 x1 x2 1 l0 l1 l2 l3 l4 l5 l6 l7 l8) : OwnE2 x0 x1 x2 2 l0 2 l2 l3 l4 l5 l6 l7 l8 := by
  refine ⟨?_, ?_, ?_, ?_, ?_, ?_, ?_, ?_, ?_, ?_⟩
  · rw [j0_96_14, if_neg h, w0_93, q.1]; decide
  · rw [j0_96_e0, if_neg h, q.1, if_neg (by decide)]; exact q.2.1
  · rw [j0_96_e1, if_neg h, q.1]; exact if_pos rfl
  · rw [j0_96_e2, if_neg h, q.1, if_neg (by decide)]; exact q.2.2.2.1
  · exact q.2.2.2.2.1
  · exact q.2.2.2.2.2.1
  · exact q.2.2.2.2.2.2.1
  · exact q.2.2.2.2.2.2.2.1
  · exact q.2.2.2.2.2.2.2.2.1
  · exact q.2.2.2.2.2.2.2.2.2
theorem own_tk2_2 {l0 l1 l2 l3 l4 l5 l6 l7 l8 : Int32} (h : ¬ w0_17 x0 x1 x2 < 1) (q : OwnE1 x0 x1 x2 2 l0 l1 l2 l3 l4 l5 l6 l7 l8) : OwnE2 x0 x1 x2 3 l0 l1 2 l3 l4 l5 l6 l7 l8 := by
  refine ⟨?_, ?_, ?_, ?_, ?_, ?_, ?_, ?_, ?_, ?_⟩
  · rw [j0_96_14, if_neg h, w0_93, q.1]; decide
  · rw [j0_96_e0, if_neg h, q.1, if_neg (by decide)]; exact q.2.1
  · rw [j0_96_e1, if_neg h, q.1, if_neg (by decide)]; exact q.2.2.1
  · rw [j0_96_e2, if_neg h, q.1]; exact if_pos rfl
  · exact q.2.2.2.2.1
  · exact q.2.2.2.2.2.1
  · exact q.2.2.2.2.2.2.1
  · exact q.2.2.2.2.2.2.2.1
  · exact q.2.2.2.2.2.2.2.2.1
  · exact q.2.2.2.2.2.2.2.2.2
theorem own_sk3 {N l0 l1 l2 l3 l4 l5 l6 l7 l8 : Int32} (h : w0_4 x0 x1 x2 < 2) (q : OwnE2 x0 x1 x2 N l0 l1 l2 l3 l4 l5 l6 l7 l8) : OwnE3 x0 x1 x2 N l0 l1 l2 l3 l4 l5 l6 l7 l8 := by
  refine ⟨?_, ?_, ?_, ?_, ?_, ?_, ?_, ?_, ?_, ?_⟩
  · rw [j0_114_14, if_pos h]; exact q.1
  · rw [j0_114_e0, if_pos h]; exact q.2.1
  · rw [j0_114_e1, if_pos h]; exact q.2.2.1
  · rw [j0_114_e2, if_pos h]; exact q.2.2.2.1
  · rw [j0_114_e3, if_pos h]; exact q.2.2.2.2.1
  · exact q.2.2.2.2.2.1
  · exact q.2.2.2.2.2.2.1
  · exact q.2.2.2.2.2.2.2.1
  · exact q.2.2.2.2.2.2.2.2.1
  · exact q.2.2.2.2.2.2.2.2.2
theorem own_tk3_0 {l0 l1 l2 l3 l4 l5 l6 l7 l8 : Int32} (h : ¬ w0_4 x0 x1 x2 < 2) (q : OwnE2 x0 x1 x2 0 l0 l1 l2 l3 l4 l5 l6 l7 l8) : OwnE3 x0 x1 x2 1 0 l1 l2 l3 l4 l5 l6 l7 l8 := by
  refine ⟨?_, ?_, ?_, ?_, ?_, ?_, ?_, ?_, ?_, ?_⟩
  · rw [j0_114_14, if_neg h, w0_111, q.1]; decide
  · rw [j0_114_e0, if_neg h, q.1]; exact if_pos rfl
  · rw [j0_114_e1, if_neg h, q.1, if_neg (by decide)]; exact q.2.2.1
  · rw [j0_114_e2, if_neg h, q.1, if_neg (by decide)]; exact q.2.2.2.1
  · rw [j0_114_e3, if_neg h, q.1, if_neg (by decide)]; exact q.2.2.2.2.1
  · exact q.2.2.2.2.2.1
  · exact q.2.2.2.2.2.2.1
  · exact q.2.2.2.2.2.2.2.1
  · exact q.2.2.2.2.2.2.2.2.1
  · exact q.2.2.2.2.2.2.2.2.2
theorem own_tk3_1 {l0 l1 l2 l3 l4 l5 l6 l7 l8 : Int32} (h : ¬ w0_4 x0 x1 x2 < 2) (q : OwnE2 x0 x1 x2 1 l0 l1 l2 l3 l4 l5 l6 l7 l8) : OwnE3 x0 x1 x2 2 l0 0 l2 l3 l4 l5 l6 l7 l8 := by
  refine ⟨?_, ?_, ?_, ?_, ?_, ?_, ?_, ?_, ?_, ?_⟩
  · rw [j0_114_14, if_neg h, w0_111, q.1]; decide
  · rw [j0_114_e0, if_neg h, q.1, if_neg (by decide)]; exact q.2.1
  · rw [j0_114_e1, if_neg h, q.1]; exact if_pos rfl
  · rw [j0_114_e2, if_neg h, q.1, if_neg (by decide)]; exact q.2.2.2.1
  · rw [j0_114_e3, if_neg h, q.1, if_neg (by decide)]; exact q.2.2.2.2.1
  · exact q.2.2.2.2.2.1
  · exact q.2.2.2.2.2.2.1
  · exact q.2.2.2.2.2.2.2.1
  · exact q.2.2.2.2.2.2.2.2.1
  · exact q.2.2.2.2.2.2.2.2.2
theorem own_tk3_2 {l0 l1 l2 l3 l4 l5 l6 l7 l8 : Int32} (h : ¬ w0_4 x0 x1 x2 < 2) (q : OwnE2 x0 x1 x2 2 l0 l1 l2 l3 l4 l5 l6 l7 l8) : OwnE3 x0 x1 x2 3 l0 l1 0 l3 l4 l5 l6 l7 l8 := by
  refine ⟨?_, ?_, ?_, ?_, ?_, ?_, ?_, ?_, ?_, ?_⟩
  · rw [j0_114_14, if_neg h, w0_111, q.1]; decide
  · rw [j0_114_e0, if_neg h, q.1, if_neg (by decide)]; exact q.2.1
  · rw [j0_114_e1, if_neg h, q.1, if_neg (by decide)]; exact q.2.2.1
  · rw [j0_114_e2, if_neg h, q.1]; exact if_pos rfl
  · rw [j0_114_e3, if_neg h, q.1, if_neg (by decide)]; exact q.2.2.2.2.1
  · exact q.2.2.2.2.2.1
  · exact q.2.2.2.2.2.2.1
  · exact q.2.2.2.2.2.2.2.1
  · exact q.2.2.2.2.2.2.2.2.1
  · exact q.2.2.2.2.2.2.2.2.2
theorem own_tk3_3 {l0 l1 l2 l3 l4 l5 l6 l7 l8 : Int32} (h : ¬ w0_4 x0 x1 x2 < 2) (q : OwnE2 x0 x1 x2 3 l0 l1 l2 l3 l4 l5 l6 l7 l8) : OwnE3 x0 x1 x2 4 l0 l1 l2 0 l4 l5 l6 l7 l8 := by
  refine ⟨?_, ?_, ?_, ?_, ?_, ?_, ?_, ?_, ?_, ?_⟩
  · rw [j0_114_14, if_neg h, w0_111, q.1]; decide
  · rw [j0_114_e0, if_neg h, q.1, if_neg (by decide)]; exact q.2.1
  · rw [j0_114_e1, if_neg h, q.1, if_neg (by decide)]; exact q.2.2.1
  · rw [j0_114_e2, if_neg h, q.1, if_neg (by decide)]; exact q.2.2.2.1
  · rw [j0_114_e3, if_neg h, q.1]; exact if_pos rfl
  · exact q.2.2.2.2.2.1
  · exact q.2.2.2.2.2.2.1
  · exact q.2.2.2.2.2.2.2.1
  · exact q.2.2.2.2.2.2.2.2.1
  · exact q.2.2.2.2.2.2.2.2.2
theorem own_sk4 {N l0 l1 l2 l3 l4 l5 l6 l7 l8 : Int32} (h : w0_10 x0 x1 x2 < 2) (q : OwnE3 x0 x1 x2 N l0 l1 l2 l3 l4 l5 l6 l7 l8) : OwnE4 x0 x1 x2 N l0 l1 l2 l3 l4 l5 l6 l7 l8 := by
  refine ⟨?_, ?_, ?_, ?_, ?_, ?_, ?_, ?_, ?_, ?_⟩
  · rw [j0_132_14, if_pos h]; exact q.1
  · rw [j0_132_e0, if_pos h]; exact q.2.1
  · rw [j0_132_e1, if_pos h]; exact q.2.2.1
  · rw [j0_132_e2, if_pos h]; exact q.2.2.2.1
  · rw [j0_132_e3, if_pos h]; exact q.2.2.2.2.1
  · rw [j0_132_e4, if_pos h]; exact q.2.2.2.2.2.1
  · exact q.2.2.2.2.2.2.1
  · exact q.2.2.2.2.2.2.2.1
  · exact q.2.2.2.2.2.2.2.2.1
  · exact q.2.2.2.2.2.2.2.2.2
theorem own_tk4_0 {l0 l1 l2 l3 l4 l5 l6 l7 l8 : Int32} (h : ¬ w0_10 x0 x1 x2 < 2) (q : OwnE3 x0 x1 x2 0 l0 l1 l2 l3 l4 l5 l6 l7 l8) : OwnE4 x0 x1 x2 1 1 l1 l2 l3 l4 l5 l6 l7 l8 := by
  refine ⟨?_, ?_, ?_, ?_, ?_, ?_, ?_, ?_, ?_, ?_⟩
  · rw [j0_132_14, if_neg h, w0_129, q.1]; decide
  · rw [j0_132_e0, if_neg h, q.1]; exact if_pos rfl
  · rw [j0_132_e1, if_neg h, q.1, if_neg (by decide)]; exact q.2.2.1
  · rw [j0_132_e2, if_neg h, q.1, if_neg (by decide)]; exact q.2.2.2.1
  · rw [j0_132_e3, if_neg h, q.1, if_neg (by decide)]; exact q.2.2.2.2.1
  · rw [j0_132_e4, if_neg h, q.1, if_neg (by decide)]; exact q.2.2.2.2.2.1
  · exact q.2.2.2.2.2.2.1
  · exact q.2.2.2.2.2.2.2.1
  · exact q.2.2.2.2.2.2.2.2.1
  · exact q.2.2.2.2.2.2.2.2.2
theorem own_tk4_1 {l0 l1 l2 l3 l4 l5 l6 l7 l8 : Int32} (h : ¬ w0_10 x0 x1 x2 < 2) (q : OwnE3 x0 x1 x2 1 l0 l1 l2 l3 l4 l5 l6 l7 l8) : OwnE4 x0 x1 x2 2 l0 1 l2 l3 l4 l5 l6 l7 l8 := by
  refine ⟨?_, ?_, ?_, ?_, ?_, ?_, ?_, ?_, ?_, ?_⟩
  · rw [j0_132_14, if_neg h, w0_129, q.1]; decide
  · rw [j0_132_e0, if_neg h, q.1, if_neg (by decide)]; exact q.2.1
  · rw [j0_132_e1, if_neg h, q.1]; exact if_pos rfl
  · rw [j0_132_e2, if_neg h, q.1, if_neg (by decide)]; exact q.2.2.2.1
  · rw [j0_132_e3, if_neg h, q.1, if_neg (by decide)]; exact q.2.2.2.2.1
  · rw [j0_132_e4, if_neg h, q.1, if_neg (by decide)]; exact q.2.2.2.2.2.1
  · exact q.2.2.2.2.2.2.1
  · exact q.2.2.2.2.2.2.2.1
  · exact q.2.2.2.2.2.2.2.2.1
  · exact q.2.2.2.2.2.2.2.2.2
theorem own_tk4_2 {l0 l1 l2 l3 l4 l5 l6 l7 l8 : Int32} (h : ¬ w0_10 x0 x1 x2 < 2) (q : OwnE3 x0 x1 x2 2 l0 l1 l2 l3 l4 l5 l6 l7 l8) : OwnE4 x0 x1 x2 3 l0 l1 1 l3 l4 l5 l6 l7 l8 := by
  refine ⟨?_, ?_, ?_, ?_, ?_, ?_, ?_, ?_, ?_, ?_⟩
  · rw [j0_132_14, if_neg h, w0_129, q.1]; decide
  · rw [j0_132_e0, if_neg h, q.1, if_neg (by decide)]; exact q.2.1
  · rw [j0_132_e1, if_neg h, q.1, if_neg (by decide)]; exact q.2.2.1
  · rw [j0_132_e2, if_neg h, q.1]; exact if_pos rfl
  · rw [j0_132_e3, if_neg h, q.1, if_neg (by decide)]; exact q.2.2.2.2.1
  · rw [j0_132_e4, if_neg h, q.1, if_neg (by decide)]; exact q.2.2.2.2.2.1
  · exact q.2.2.2.2.2.2.1
  · exact q.2.2.2.2.2.2.2.1
  · exact q.2.2.2.2.2.2.2.2.1
  · exact q.2.2.2.2.2.2.2.2.2
theorem own_tk4_3 {l0 l1 l2 l3 l4 l5 l6 l7 l8 : Int32} (h : ¬ w0_10 x0 x1 x2 < 2) (q : OwnE3 x0 x1 x2 3 l0 l1 l2 l3 l4 l5 l6 l7 l8) : OwnE4 x0 x1 x2 4 l0 l1 l2 1 l4 l5 l6 l7 l8 := by
  refine ⟨?_, ?_, ?_, ?_, ?_, ?_, ?_, ?_, ?_, ?_⟩
  · rw [j0_132_14, if_neg h, w0_129, q.1]; decide
  · rw [j0_132_e0, if_neg h, q.1, if_neg (by decide)]; exact q.2.1
  · rw [j0_132_e1, if_neg h, q.1, if_neg (by decide)]; exact q.2.2.1
  · rw [j0_132_e2, if_neg h, q.1, if_neg (by decide)]; exact q.2.2.2.1
  · rw [j0_132_e3, if_neg h, q.1]; exact if_pos rfl
  · rw [j0_132_e4, if_neg h, q.1, if_neg (by decide)]; exact q.2.2.2.2.2.1
  · exact q.2.2.2.2.2.2.1
  · exact q.2.2.2.2.2.2.2.1
  · exact q.2.2.2.2.2.2.2.2.1
  · exact q.2.2.2.2.2.2.2.2.2
theorem own_tk4_4 {l0 l1 l2 l3 l4 l5 l6 l7 l8 : Int32} (h : ¬ w0_10 x0 x1 x2 < 2) (q : OwnE3 x0 x1 x2 4 l0 l1 l2 l3 l4 l5 l6 l7 l8) : OwnE4 x0 x1 x2 5 l0 l1 l2 l3 1 l5 l6 l7 l8 := by
  refine ⟨?_, ?_, ?_, ?_, ?_, ?_, ?_, ?_, ?_, ?_⟩
  · rw [j0_132_14, if_neg h, w0_129, q.1]; decide
  · rw [j0_132_e0, if_neg h, q.1, if_neg (by decide)]; exact q.2.1
  · rw [j0_132_e1, if_neg h, q.1, if_neg (by decide)]; exact q.2.2.1
  · rw [j0_132_e2, if_neg h, q.1, if_neg (by decide)]; exact q.2.2.2.1
  · rw [j0_132_e3, if_neg h, q.1, if_neg (by decide)]; exact q.2.2.2.2.1
  · rw [j0_132_e4, if_neg h, q.1]; exact if_pos rfl
  · exact q.2.2.2.2.2.2.1
  · exact q.2.2.2.2.2.2.2.1
  · exact q.2.2.2.2.2.2.2.2.1
  · exact q.2.2.2.2.2.2.2.2.2
theorem own_sk5 {N l0 l1 l2 l3 l4 l5 l6 l7 l8 : Int32} (h : w0_17 x0 x1 x2 < 2) (q : OwnE4 x0 x1 x2 N l0 l1 l2 l3 l4 l5 l6 l7 l8) : OwnE5 x0 x1 x2 N l0 l1 l2 l3 l4 l5 l6 l7 l8 := by
  refine ⟨?_, ?_, ?_, ?_, ?_, ?_, ?_, ?_, ?_, ?_⟩
  · rw [j0_150_14, if_pos h]; exact q.1
  · rw [j0_150_e0, if_pos h]; exact q.2.1
  · rw [j0_150_e1, if_pos h]; exact q.2.2.1
  · rw [j0_150_e2, if_pos h]; exact q.2.2.2.1
  · rw [j0_150_e3, if_pos h]; exact q.2.2.2.2.1
  · rw [j0_150_e4, if_pos h]; exact q.2.2.2.2.2.1
  · rw [j0_150_e5, if_pos h]; exact q.2.2.2.2.2.2.1
  · exact q.2.2.2.2.2.2.2.1
  · exact q.2.2.2.2.2.2.2.2.1
  · exact q.2.2.2.2.2.2.2.2.2
theorem own_tk5_0 {l0 l1 l2 l3 l4 l5 l6 l7 l8 : Int32} (h : ¬ w0_17 x0 x1 x2 < 2) (q : OwnE4 x0 x1 x2 0 l0 l1 l2 l3 l4 l5 l6 l7 l8) : OwnE5 x0 x1 x2 1 2 l1 l2 l3 l4 l5 l6 l7 l8 := by
  refine ⟨?_, ?_, ?_, ?_, ?_, ?_, ?_, ?_, ?_, ?_⟩
  · rw [j0_150_14, if_neg h, w0_147, q.1]; decide
  · rw [j0_150_e0, if_neg h, q.1]; exact if_pos rfl
  · rw [j0_150_e1, if_neg h, q.1, if_neg (by decide)]; exact q.2.2.1
  · rw [j0_150_e2, if_neg h, q.1, if_neg (by decide)]; exact q.2.2.2.1
  · rw [j0_150_e3, if_neg h, q.1, if_neg (by decide)]; exact q.2.2.2.2.1
  · rw [j0_150_e4, if_neg h, q.1, if_neg (by decide)]; exact q.2.2.2.2.2.1
  · rw [j0_150_e5, if_neg h, q.1, if_neg (by decide)]; exact q.2.2.2.2.2.2.1
  · exact q.2.2.2.2.2.2.2.1
  · exact q.2.2.2.2.2.2.2.2.1
  · exact q.2.2.2.2.2.2.2.2.2
theorem own_tk5_1 {l0 l1 l2 l3 l4 l5 l6 l7 l8 : Int32} (h : ¬ w0_17 x0 x1 x2 < 2) (q : OwnE4 x0 x1 x2 1 l0 l1 l2 l3 l4 l5 l6 l7 l8) : OwnE5 x0 x1 x2 2 l0 2 l2 l3 l4 l5 l6 l7 l8 := by
  refine ⟨?_, ?_, ?_, ?_, ?_, ?_, ?_, ?_, ?_, ?_⟩
  · rw [j0_150_14, if_neg h, w0_147, q.1]; decide
  · rw [j0_150_e0, if_neg h, q.1, if_neg (by decide)]; exact q.2.1
  · rw [j0_150_e1, if_neg h, q.1]; exact if_pos rfl
  · rw [j0_150_e2, if_neg h, q.1, if_neg (by decide)]; exact q.2.2.2.1
  · rw [j0_150_e3, if_neg h, q.1, if_neg (by decide)]; exact q.2.2.2.2.1
  · rw [j0_150_e4, if_neg h, q.1, if_neg (by decide)]; exact q.2.2.2.2.2.1
  · rw [j0_150_e5, if_neg h, q.1, if_neg (by decide)]; exact q.2.2.2.2.2.2.1
  · exact q.2.2.2.2.2.2.2.1
  · exact q.2.2.2.2.2.2.2.2.1
  · exact q.2.2.2.2.2.2.2.2.2
theorem own_tk5_2 {l0 l1 l2 l3 l4 l5 l6 l7 l8 : Int32} (h : ¬ w0_17 x0 x1 x2 < 2) (q : OwnE4 x0 x1 x2 2 l0 l1 l2 l3 l4 l5 l6 l7 l8) : OwnE5 x0 x1 x2 3 l0 l1 2 l3 l4 l5 l6 l7 l8 := by
  refine ⟨?_, ?_, ?_, ?_, ?_, ?_, ?_, ?_, ?_, ?_⟩
  · rw [j0_150_14, if_neg h, w0_147, q.1]; decide
  · rw [j0_150_e0, if_neg h, q.1, if_neg (by decide)]; exact q.2.1
  · rw [j0_150_e1, if_neg h, q.1, if_neg (by decide)]; exact q.2.2.1
  · rw [j0_150_e2, if_neg h, q.1]; exact if_pos rfl
  · rw [j0_150_e3, if_neg h, q.1, if_neg (by decide)]; exact q.2.2.2.2.1
  · rw [j0_150_e4, if_neg h, q.1, if_neg (by decide)]; exact q.2.2.2.2.2.1
  · rw [j0_150_e5, if_neg h, q.1, if_neg (by decide)]; exact q.2.2.2.2.2.2.1
  · exact q.2.2.2.2.2.2.2.1
  · exact q.2.2.2.2.2.2.2.2.1
  · exact q.2.2.2.2.2.2.2.2.2
theorem own_tk5_3 {l0 l1 l2 l3 l4 l5 l6 l7 l8 : Int32} (h : ¬ w0_17 x0 x1 x2 < 2) (q : OwnE4 x0 x1 x2 3 l0 l1 l2 l3 l4 l5 l6 l7 l8) : OwnE5 x0 x1 x2 4 l0 l1 l2 2 l4 l5 l6 l7 l8 := by
  refine ⟨?_, ?_, ?_, ?_, ?_, ?_, ?_, ?_, ?_, ?_⟩
  · rw [j0_150_14, if_neg h, w0_147, q.1]; decide
  · rw [j0_150_e0, if_neg h, q.1, if_neg (by decide)]; exact q.2.1
  · rw [j0_150_e1, if_neg h, q.1, if_neg (by decide)]; exact q.2.2.1
  · rw [j0_150_e2, if_neg h, q.1, if_neg (by decide)]; exact q.2.2.2.1
  · rw [j0_150_e3, if_neg h, q.1]; exact if_pos rfl
  · rw [j0_150_e4, if_neg h, q.1, if_neg (by decide)]; exact q.2.2.2.2.2.1
  · rw [j0_150_e5, if_neg h, q.1, if_neg (by decide)]; exact q.2.2.2.2.2.2.1
  · exact q.2.2.2.2.2.2.2.1
  · exact q.2.2.2.2.2.2.2.2.1
  · exact q.2.2.2.2.2.2.2.2.2
theorem own_tk5_4 {l0 l1 l2 l3 l4 l5 l6 l7 l8 : Int32} (h : ¬ w0_17 x0 x1 x2 < 2) (q : OwnE4 x0 x1 x2 4 l0 l1 l2 l3 l4 l5 l6 l7 l8) : OwnE5 x0 x1 x2 5 l0 l1 l2 l3 2 l5 l6 l7 l8 := by
  refine ⟨?_, ?_, ?_, ?_, ?_, ?_, ?_, ?_, ?_, ?_⟩
  · rw [j0_150_14, if_neg h, w0_147, q.1]; decide
  · rw [j0_150_e0, if_neg h, q.1, if_neg (by decide)]; exact q.2.1
  · rw [j0_150_e1, if_neg h, q.1, if_neg (by decide)]; exact q.2.2.1
  · rw [j0_150_e2, if_neg h, q.1, if_neg (by decide)]; exact q.2.2.2.1
  · rw [j0_150_e3, if_neg h, q.1, if_neg (by decide)]; exact q.2.2.2.2.1
  · rw [j0_150_e4, if_neg h, q.1]; exact if_pos rfl
  · rw [j0_150_e5, if_neg h, q.1, if_neg (by decide)]; exact q.2.2.2.2.2.2.1
  · exact q.2.2.2.2.2.2.2.1
  · exact q.2.2.2.2.2.2.2.2.1
  · exact q.2.2.2.2.2.2.2.2.2
theorem own_tk5_5 {l0 l1 l2 l3 l4 l5 l6 l7 l8 : Int32} (h : ¬ w0_17 x0 x1 x2 < 2) (q : OwnE4 x0 x1 x2 5 l0 l1 l2 l3 l4 l5 l6 l7 l8) : OwnE5 x0 x1 x2 6 l0 l1 l2 l3 l4 2 l6 l7 l8 := by
  refine ⟨?_, ?_, ?_, ?_, ?_, ?_, ?_, ?_, ?_, ?_⟩
  · rw [j0_150_14, if_neg h, w0_147, q.1]; decide
  · rw [j0_150_e0, if_neg h, q.1, if_neg (by decide)]; exact q.2.1
  · rw [j0_150_e1, if_neg h, q.1, if_neg (by decide)]; exact q.2.2.1
  · rw [j0_150_e2, if_neg h, q.1, if_neg (by decide)]; exact q.2.2.2.1
  · rw [j0_150_e3, if_neg h, q.1, if_neg (by decide)]; exact q.2.2.2.2.1
  · rw [j0_150_e4, if_neg h, q.1, if_neg (by decide)]; exact q.2.2.2.2.2.1
  · rw [j0_150_e5, if_neg h, q.1]; exact if_pos rfl
  · exact q.2.2.2.2.2.2.2.1
  · exact q.2.2.2.2.2.2.2.2.1
  · exact q.2.2.2.2.2.2.2.2.2
theorem own_sk6 {N l0 l1 l2 l3 l4 l5 l6 l7 l8 : Int32} (h : w0_4 x0 x1 x2 < 3) (q : OwnE5 x0 x1 x2 N l0 l1 l2 l3 l4 l5 l6 l7 l8) : OwnE6 x0 x1 x2 N l0 l1 l2 l3 l4 l5 l6 l7 l8 := by
  refine ⟨?_, ?_, ?_, ?_, ?_, ?_, ?_, ?_, ?_, ?_⟩
  · rw [j0_168_14, if_pos h]; exact q.1
  · rw [j0_168_e0, if_pos h]; exact q.2.1
  · rw [j0_168_e1, if_pos h]; exact q.2.2.1
  · rw [j0_168_e2, if_pos h]; exact q.2.2.2.1
  · rw [j0_168_e3, if_pos h]; exact q.2.2.2.2.1
  · rw [j0_168_e4, if_pos h]; exact q.2.2.2.2.2.1
  · rw [j0_168_e5, if_pos h]; exact q.2.2.2.2.2.2.1
  · rw [j0_168_e6, if_pos h]; exact q.2.2.2.2.2.2.2.1
  · exact q.2.2.2.2.2.2.2.2.1
  · exact q.2.2.2.2.2.2.2.2.2
theorem own_tk6_0 {l0 l1 l2 l3 l4 l5 l6 l7 l8 : Int32} (h : ¬ w0_4 x0 x1 x2 < 3) (q : OwnE5 x0 x1 x2 0 l0 l1 l2 l3 l4 l5 l6 l7 l8) : OwnE6 x0 x1 x2 1 0 l1 l2 l3 l4 l5 l6 l7 l8 := by
  refine ⟨?_, ?_, ?_, ?_, ?_, ?_, ?_, ?_, ?_, ?_⟩
  · rw [j0_168_14, if_neg h, w0_165, q.1]; decide
  · rw [j0_168_e0, if_neg h, q.1]; exact if_pos rfl
  · rw [j0_168_e1, if_neg h, q.1, if_neg (by decide)]; exact q.2.2.1
  · rw [j0_168_e2, if_neg h, q.1, if_neg (by decide)]; exact q.2.2.2.1
  · rw [j0_168_e3, if_neg h, q.1, if_neg (by decide)]; exact q.2.2.2.2.1
  · rw [j0_168_e4, if_neg h, q.1, if_neg (by decide)]; exact q.2.2.2.2.2.1
  · rw [j0_168_e5, if_neg h, q.1, if_neg (by decide)]; exact q.2.2.2.2.2.2.1
  · rw [j0_168_e6, if_neg h, q.1, if_neg (by decide)]; exact q.2.2.2.2.2.2.2.1
  · exact q.2.2.2.2.2.2.2.2.1
  · exact q.2.2.2.2.2.2.2.2.2
theorem own_tk6_1 {l0 l1 l2 l3 l4 l5 l6 l7 l8 : Int32} (h : ¬ w0_4 x0 x1 x2 < 3) (q : OwnE5 x0 x1 x2 1 l0 l1 l2 l3 l4 l5 l6 l7 l8) : OwnE6 x0 x1 x2 2 l0 0 l2 l3 l4 l5 l6 l7 l8 := by
  refine ⟨?_, ?_, ?_, ?_, ?_, ?_, ?_, ?_, ?_, ?_⟩
  · rw [j0_168_14, if_neg h, w0_165, q.1]; decide
  · rw [j0_168_e0, if_neg h, q.1, if_neg (by decide)]; exact q.2.1
  · rw [j0_168_e1, if_neg h, q.1]; exact if_pos rfl
  · rw [j0_168_e2, if_neg h, q.1, if_neg (by decide)]; exact q.2.2.2.1
  · rw [j0_168_e3, if_neg h, q.1, if_neg (by decide)]; exact q.2.2.2.2.1
  · rw [j0_168_e4, if_neg h, q.1, if_neg (by decide)]; exact q.2.2.2.2.2.1
  · rw [j0_168_e5, if_neg h, q.1, if_neg (by decide)]; exact q.2.2.2.2.2.2.1
  · rw [j0_168_e6, if_neg h, q.1, if_neg (by decide)]; exact q.2.2.2.2.2.2.2.1
  · exact q.2.2.2.2.2.2.2.2.1
  · exact q.2.2.2.2.2.2.2.2.2
theorem own_tk6_2 {l0 l1 l2 l3 l4 l5 l6 l7 l8 : Int32} (h : ¬ w0_4 x0 x1 x2 < 3) (q : OwnE5 x0 x1 x2 2 l0 l1 l2 l3 l4 l5 l6 l7 l8) : OwnE6 x0 x1 x2 3 l0 l1 0 l3 l4 l5 l6 l7 l8 := by
  refine ⟨?_, ?_, ?_, ?_, ?_, ?_, ?_, ?_, ?_, ?_⟩
  · rw [j0_168_14, if_neg h, w0_165, q.1]; decide
  · rw [j0_168_e0, if_neg h, q.1, if_neg (by decide)]; exact q.2.1
  · rw [j0_168_e1, if_neg h, q.1, if_neg (by decide)]; exact q.2.2.1
  · rw [j0_168_e2, if_neg h, q.1]; exact if_pos rfl
  · rw [j0_168_e3, if_neg h, q.1, if_neg (by decide)]; exact q.2.2.2.2.1
  · rw [j0_168_e4, if_neg h, q.1, if_neg (by decide)]; exact q.2.2.2.2.2.1
  · rw [j0_168_e5, if_neg h, q.1, if_neg (by decide)]; exact q.2.2.2.2.2.2.1
  · rw [j0_168_e6, if_neg h, q.1, if_neg (by decide)]; exact q.2.2.2.2.2.2.2.1
  · exact q.2.2.2.2.2.2.2.2.1
  · exact q.2.2.2.2.2.2.2.2.2
theorem own_tk6_3 {l0 l1 l2 l3 l4 l5 l6 l7 l8 : Int32} (h : ¬ w0_4 x0 x1 x2 < 3) (q : OwnE5 x0 x1 x2 3 l0 l1 l2 l3 l4 l5 l6 l7 l8) : OwnE6 x0 x1 x2 4 l0 l1 l2 0 l4 l5 l6 l7 l8 := by
  refine ⟨?_, ?_, ?_, ?_, ?_, ?_, ?_, ?_, ?_, ?_⟩
  · rw [j0_168_14, if_neg h, w0_165, q.1]; decide
  · rw [j0_168_e0, if_neg h, q.1, if_neg (by decide)]; exact q.2.1
  · rw [j0_168_e1, if_neg h, q.1, if_neg (by decide)]; exact q.2.2.1
  · rw [j0_168_e2, if_neg h, q.1, if_neg (by decide)]; exact q.2.2.2.1
  · rw [j0_168_e3, if_neg h, q.1]; exact if_pos rfl
  · rw [j0_168_e4, if_neg h, q.1, if_neg (by decide)]; exact q.2.2.2.2.2.1
  · rw [j0_168_e5, if_neg h, q.1, if_neg (by decide)]; exact q.2.2.2.2.2.2.1
  · rw [j0_168_e6, if_neg h, q.1, if_neg (by decide)]; exact q.2.2.2.2.2.2.2.1
  · exact q.2.2.2.2.2.2.2.2.1
  · exact q.2.2.2.2.2.2.2.2.2
theorem own_tk6_4 {l0 l1 l2 l3 l4 l5 l6 l7 l8 : Int32} (h : ¬ w0_4 x0 x1 x2 < 3) (q : OwnE5 x0 x1 x2 4 l0 l1 l2 l3 l4 l5 l6 l7 l8) : OwnE6 x0 x1 x2 5 l0 l1 l2 l3 0 l5 l6 l7 l8 := by
  refine ⟨?_, ?_, ?_, ?_, ?_, ?_, ?_, ?_, ?_, ?_⟩
  · rw [j0_168_14, if_neg h, w0_165, q.1]; decide
  · rw [j0_168_e0, if_neg h, q.1, if_neg (by decide)]; exact q.2.1
  · rw [j0_168_e1, if_neg h, q.1, if_neg (by decide)]; exact q.2.2.1
  · rw [j0_168_e2, if_neg h, q.1, if_neg (by decide)]; exact q.2.2.2.1
  · rw [j0_168_e3, if_neg h, q.1, if_neg (by decide)]; exact q.2.2.2.2.1
  · rw [j0_168_e4, if_neg h, q.1]; exact if_pos rfl
  · rw [j0_168_e5, if_neg h, q.1, if_neg (by decide)]; exact q.2.2.2.2.2.2.1
  · rw [j0_168_e6, if_neg h, q.1, if_neg (by decide)]; exact q.2.2.2.2.2.2.2.1
  · exact q.2.2.2.2.2.2.2.2.1
  · exact q.2.2.2.2.2.2.2.2.2
theorem own_tk6_5 {l0 l1 l2 l3 l4 l5 l6 l7 l8 : Int32} (h : ¬ w0_4 x0 x1 x2 < 3) (q : OwnE5 x0 x1 x2 5 l0 l1 l2 l3 l4 l5 l6 l7 l8) : OwnE6 x0 x1 x2 6 l0 l1 l2 l3 l4 0 l6 l7 l8 := by
  refine ⟨?_, ?_, ?_, ?_, ?_, ?_, ?_, ?_, ?_, ?_⟩
  · rw [j0_168_14, if_neg h, w0_165, q.1]; decide
  · rw [j0_168_e0, if_neg h, q.1, if_neg (by decide)]; exact q.2.1
  · rw [j0_168_e1, if_neg h, q.1, if_neg (by decide)]; exact q.2.2.1
  · rw [j0_168_e2, if_neg h, q.1, if_neg (by decide)]; exact q.2.2.2.1
  · rw [j0_168_e3, if_neg h, q.1, if_neg (by decide)]; exact q.2.2.2.2.1
  · rw [j0_168_e4, if_neg h, q.1, if_neg (by decide)]; exact q.2.2.2.2.2.1
  · rw [j0_168_e5, if_neg h, q.1]; exact if_pos rfl
  · rw [j0_168_e6, if_neg h, q.1, if_neg (by decide)]; exact q.2.2.2.2.2.2.2.1
  · exact q.2.2.2.2.2.2.2.2.1
  · exact q.2.2.2.2.2.2.2.2.2
theorem own_tk6_6 {l0 l1 l2 l3 l4 l5 l6 l7 l8 : Int32} (h : ¬ w0_4 x0 x1 x2 < 3) (q : OwnE5 x0 x1 x2 6 l0 l1 l2 l3 l4 l5 l6 l7 l8) : OwnE6 x0 x1 x2 7 l0 l1 l2 l3 l4 l5 0 l7 l8 := by
  refine ⟨?_, ?_, ?_, ?_, ?_, ?_, ?_, ?_, ?_, ?_⟩
  · rw [j0_168_14, if_neg h, w0_165, q.1]; decide
  · rw [j0_168_e0, if_neg h, q.1, if_neg (by decide)]; exact q.2.1
  · rw [j0_168_e1, if_neg h, q.1, if_neg (by decide)]; exact q.2.2.1
  · rw [j0_168_e2, if_neg h, q.1, if_neg (by decide)]; exact q.2.2.2.1
  · rw [j0_168_e3, if_neg h, q.1, if_neg (by decide)]; exact q.2.2.2.2.1
  · rw [j0_168_e4, if_neg h, q.1, if_neg (by decide)]; exact q.2.2.2.2.2.1
  · rw [j0_168_e5, if_neg h, q.1, if_neg (by decide)]; exact q.2.2.2.2.2.2.1
  · rw [j0_168_e6, if_neg h, q.1]; exact if_pos rfl
  · exact q.2.2.2.2.2.2.2.2.1
  · exact q.2.2.2.2.2.2.2.2.2
theorem own_sk7 {N l0 l1 l2 l3 l4 l5 l6 l7 l8 : Int32} (h : w0_10 x0 x1 x2 < 3) (q : OwnE6 x0 x1 x2 N l0 l1 l2 l3 l4 l5 l6 l7 l8) : OwnE7 x0 x1 x2 N l0 l1 l2 l3 l4 l5 l6 l7 l8 := by
  refine ⟨?_, ?_, ?_, ?_, ?_, ?_, ?_, ?_, ?_, ?_⟩
  · rw [j0_186_14, if_pos h]; exact q.1
  · rw [j0_186_e0, if_pos h]; exact q.2.1
  · rw [j0_186_e1, if_pos h]; exact q.2.2.1
  · rw [j0_186_e2, if_pos h]; exact q.2.2.2.1
  · rw [j0_186_e3, if_pos h]; exact q.2.2.2.2.1
  · rw [j0_186_e4, if_pos h]; exact q.2.2.2.2.2.1
  · rw [j0_186_e5, if_pos h]; exact q.2.2.2.2.2.2.1
  · rw [j0_186_e6, if_pos h]; exact q.2.2.2.2.2.2.2.1
  · rw [j0_186_e7, if_pos h]; exact q.2.2.2.2.2.2.2.2.1
  · exact q.2.2.2.2.2.2.2.2.2
theorem own_tk7_0 {l0 l1 l2 l3 l4 l5 l6 l7 l8 : Int32} (h : ¬ w0_10 x0 x1 x2 < 3) (q : OwnE6 x0 x1 x2 0 l0 l1 l2 l3 l4 l5 l6 l7 l8) : OwnE7 x0 x1 x2 1 1 l1 l2 l3 l4 l5 l6 l7 l8 := by
  refine ⟨?_, ?_, ?_, ?_, ?_, ?_, ?_, ?_, ?_, ?_⟩
  · rw [j0_186_14, if_neg h, w0_183, q.1]; decide
  · rw [j0_186_e0, if_neg h, q.1]; exact if_pos rfl
  · rw [j0_186_e1, if_neg h, q.1, if_neg (by decide)]; exact q.2.2.1
  · rw [j0_186_e2, if_neg h, q.1, if_neg (by decide)]; exact q.2.2.2.1
  · rw [j0_186_e3, if_neg h, q.1, if_neg (by decide)]; exact q.2.2.2.2.1
  · rw [j0_186_e4, if_neg h, q.1, if_neg (by decide)]; exact q.2.2.2.2.2.1
  · rw [j0_186_e5, if_neg h, q.1, if_neg (by decide)]; exact q.2.2.2.2.2.2.1
  · rw [j0_186_e6, if_neg h, q.1, if_neg (by decide)]; exact q.2.2.2.2.2.2.2.1
  · rw [j0_186_e7, if_neg h, q.1, if_neg (by decide)]; exact q.2.2.2.2.2.2.2.2.1
  · exact q.2.2.2.2.2.2.2.2.2
theorem own_tk7_1 {l0 l1 l2 l3 l4 l5 l6 l7 l8 : Int32} (h : ¬ w0_10 x0 x1 x2 < 3) (q : OwnE6 x0 x1 x2 1 l0 l1 l2 l3 l4 l5 l6 l7 l8) : OwnE7 x0 x1 x2 2 l0 1 l2 l3 l4 l5 l6 l7 l8 := by
  refine ⟨?_, ?_, ?_, ?_, ?_, ?_, ?_, ?_, ?_, ?_⟩
  · rw [j0_186_14, if_neg h, w0_183, q.1]; decide
  · rw [j0_186_e0, if_neg h, q.1, if_neg (by decide)]; exact q.2.1
  · rw [j0_186_e1, if_neg h, q.1]; exact if_pos rfl
  · rw [j0_186_e2, if_neg h, q.1, if_neg (by decide)]; exact q.2.2.2.1
  · rw [j0_186_e3, if_neg h, q.1, if_neg (by decide)]; exact q.2.2.2.2.1
  · rw [j0_186_e4, if_neg h, q.1, if_neg (by decide)]; exact q.2.2.2.2.2.1
  · rw [j0_186_e5, if_neg h, q.1, if_neg (by decide)]; exact q.2.2.2.2.2.2.1
  · rw [j0_186_e6, if_neg h, q.1, if_neg (by decide)]; exact q.2.2.2.2.2.2.2.1
  · rw [j0_186_e7, if_neg h, q.1, if_neg (by decide)]; exact q.2.2.2.2.2.2.2.2.1
  · exact q.2.2.2.2.2.2.2.2.2
theorem own_tk7_2 {l0 l1 l2 l3 l4 l5 l6 l7 l8 : Int32} (h : ¬ w0_10 x0 x1 x2 < 3) (q : OwnE6 x0 x1 x2 2 l0 l1 l2 l3 l4 l5 l6 l7 l8) : OwnE7 x0 x1 x2 3 l0 l1 1 l3 l4 l5 l6 l7 l8 := by
  refine ⟨?_, ?_, ?_, ?_, ?_, ?_, ?_, ?_, ?_, ?_⟩
  · rw [j0_186_14, if_neg h, w0_183, q.1]; decide
  · rw [j0_186_e0, if_neg h, q.1, if_neg (by decide)]; exact q.2.1
  · rw [j0_186_e1, if_neg h, q.1, if_neg (by decide)]; exact q.2.2.1
  · rw [j0_186_e2, if_neg h, q.1]; exact if_pos rfl
  · rw [j0_186_e3, if_neg h, q.1, if_neg (by decide)]; exact q.2.2.2.2.1
  · rw [j0_186_e4, if_neg h, q.1, if_neg (by decide)]; exact q.2.2.2.2.2.1
  · rw [j0_186_e5, if_neg h, q.1, if_neg (by decide)]; exact q.2.2.2.2.2.2.1
  · rw [j0_186_e6, if_neg h, q.1, if_neg (by decide)]; exact q.2.2.2.2.2.2.2.1
  · rw [j0_186_e7, if_neg h, q.1, if_neg (by decide)]; exact q.2.2.2.2.2.2.2.2.1
  · exact q.2.2.2.2.2.2.2.2.2
theorem own_tk7_3 {l0 l1 l2 l3 l4 l5 l6 l7 l8 : Int32} (h : ¬ w0_10 x0 x1 x2 < 3) (q : OwnE6 x0 x1 x2 3 l0 l1 l2 l3 l4 l5 l6 l7 l8) : OwnE7 x0 x1 x2 4 l0 l1 l2 1 l4 l5 l6 l7 l8 := by
  refine ⟨?_, ?_, ?_, ?_, ?_, ?_, ?_, ?_, ?_, ?_⟩
  · rw [j0_186_14, if_neg h, w0_183, q.1]; decide
  · rw [j0_186_e0, if_neg h, q.1, if_neg (by decide)]; exact q.2.1
  · rw [j0_186_e1, if_neg h, q.1, if_neg (by decide)]; exact q.2.2.1
  · rw [j0_186_e2, if_neg h, q.1, if_neg (by decide)]; exact q.2.2.2.1
  · rw [j0_186_e3, if_neg h, q.1]; exact if_pos rfl
  · rw [j0_186_e4, if_neg h, q.1, if_neg (by decide)]; exact q.2.2.2.2.2.1
  · rw [j0_186_e5, if_neg h, q.1, if_neg (by decide)]; exact q.2.2.2.2.2.2.1
  · rw [j0_186_e6, if_neg h, q.1, if_neg (by decide)]; exact q.2.2.2.2.2.2.2.1
  · rw [j0_186_e7, if_neg h, q.1, if_neg (by decide)]; exact q.2.2.2.2.2.2.2.2.1
  · exact q.2.2.2.2.2.2.2.2.2
theorem own_tk7_4 {l0 l1 l2 l3 l4 l5 l6 l7 l8 : Int32} (h : ¬ w0_10 x0 x1 x2 < 3) (q : OwnE6 x0 x1 x2 4 l0 l1 l2 l3 l4 l5 l6 l7 l8) : OwnE7 x0 x1 x2 5 l0 l1 l2 l3 1 l5 l6 l7 l8 := by
  refine ⟨?_, ?_, ?_, ?_, ?_, ?_, ?_, ?_, ?_, ?_⟩
  · rw [j0_186_14, if_neg h, w0_183, q.1]; decide
  · rw [j0_186_e0, if_neg h, q.1, if_neg (by decide)]; exact q.2.1
  · rw [j0_186_e1, if_neg h, q.1, if_neg (by decide)]; exact q.2.2.1
  · rw [j0_186_e2, if_neg h, q.1, if_neg (by decide)]; exact q.2.2.2.1
  · rw [j0_186_e3, if_neg h, q.1, if_neg (by decide)]; exact q.2.2.2.2.1
  · rw [j0_186_e4, if_neg h, q.1]; exact if_pos rfl
  · rw [j0_186_e5, if_neg h, q.1, if_neg (by decide)]; exact q.2.2.2.2.2.2.1
  · rw [j0_186_e6, if_neg h, q.1, if_neg (by decide)]; exact q.2.2.2.2.2.2.2.1
  · rw [j0_186_e7, if_neg h, q.1, if_neg (by decide)]; exact q.2.2.2.2.2.2.2.2.1
  · exact q.2.2.2.2.2.2.2.2.2
theorem own_tk7_5 {l0 l1 l2 l3 l4 l5 l6 l7 l8 : Int32} (h : ¬ w0_10 x0 x1 x2 < 3) (q : OwnE6 x0 x1 x2 5 l0 l1 l2 l3 l4 l5 l6 l7 l8) : OwnE7 x0 x1 x2 6 l0 l1 l2 l3 l4 1 l6 l7 l8 := by
  refine ⟨?_, ?_, ?_, ?_, ?_, ?_, ?_, ?_, ?_, ?_⟩
  · rw [j0_186_14, if_neg h, w0_183, q.1]; decide
  · rw [j0_186_e0, if_neg h, q.1, if_neg (by decide)]; exact q.2.1
  · rw [j0_186_e1, if_neg h, q.1, if_neg (by decide)]; exact q.2.2.1
  · rw [j0_186_e2, if_neg h, q.1, if_neg (by decide)]; exact q.2.2.2.1
  · rw [j0_186_e3, if_neg h, q.1, if_neg (by decide)]; exact q.2.2.2.2.1
  · rw [j0_186_e4, if_neg h, q.1, if_neg (by decide)]; exact q.2.2.2.2.2.1
  · rw [j0_186_e5, if_neg h, q.1]; exact if_pos rfl
  · rw [j0_186_e6, if_neg h, q.1, if_neg (by decide)]; exact q.2.2.2.2.2.2.2.1
  · rw [j0_186_e7, if_neg h, q.1, if_neg (by decide)]; exact q.2.2.2.2.2.2.2.2.1
  · exact q.2.2.2.2.2.2.2.2.2
theorem own_tk7_6 {l0 l1 l2 l3 l4 l5 l6 l7 l8 : Int32} (h : ¬ w0_10 x0 x1 x2 < 3) (q : OwnE6 x0 x1 x2 6 l0 l1 l2 l3 l4 l5 l6 l7 l8) : OwnE7 x0 x1 x2 7 l0 l1 l2 l3 l4 l5 1 l7 l8 := by
  refine ⟨?_, ?_, ?_, ?_, ?_, ?_, ?_, ?_, ?_, ?_⟩
  · rw [j0_186_14, if_neg h, w0_183, q.1]; decide
  · rw [j0_186_e0, if_neg h, q.1, if_neg (by decide)]; exact q.2.1
  · rw [j0_186_e1, if_neg h, q.1, if_neg (by decide)]; exact q.2.2.1
  · rw [j0_186_e2, if_neg h, q.1, if_neg (by decide)]; exact q.2.2.2.1
  · rw [j0_186_e3, if_neg h, q.1, if_neg (by decide)]; exact q.2.2.2.2.1
  · rw [j0_186_e4, if_neg h, q.1, if_neg (by decide)]; exact q.2.2.2.2.2.1
  · rw [j0_186_e5, if_neg h, q.1, if_neg (by decide)]; exact q.2.2.2.2.2.2.1
  · rw [j0_186_e6, if_neg h, q.1]; exact if_pos rfl
  · rw [j0_186_e7, if_neg h, q.1, if_neg (by decide)]; exact q.2.2.2.2.2.2.2.2.1
  · exact q.2.2.2.2.2.2.2.2.2
theorem own_tk7_7 {l0 l1 l2 l3 l4 l5 l6 l7 l8 : Int32} (h : ¬ w0_10 x0 x1 x2 < 3) (q : OwnE6 x0 x1 x2 7 l0 l1 l2 l3 l4 l5 l6 l7 l8) : OwnE7 x0 x1 x2 8 l0 l1 l2 l3 l4 l5 l6 1 l8 := by
  refine ⟨?_, ?_, ?_, ?_, ?_, ?_, ?_, ?_, ?_, ?_⟩
  · rw [j0_186_14, if_neg h, w0_183, q.1]; decide
  · rw [j0_186_e0, if_neg h, q.1, if_neg (by decide)]; exact q.2.1
  · rw [j0_186_e1, if_neg h, q.1, if_neg (by decide)]; exact q.2.2.1
  · rw [j0_186_e2, if_neg h, q.1, if_neg (by decide)]; exact q.2.2.2.1
  · rw [j0_186_e3, if_neg h, q.1, if_neg (by decide)]; exact q.2.2.2.2.1
  · rw [j0_186_e4, if_neg h, q.1, if_neg (by decide)]; exact q.2.2.2.2.2.1
  · rw [j0_186_e5, if_neg h, q.1, if_neg (by decide)]; exact q.2.2.2.2.2.2.1
  · rw [j0_186_e6, if_neg h, q.1, if_neg (by decide)]; exact q.2.2.2.2.2.2.2.1
  · rw [j0_186_e7, if_neg h, q.1]; exact if_pos rfl
  · exact q.2.2.2.2.2.2.2.2.2
theorem own_sk8 {N l0 l1 l2 l3 l4 l5 l6 l7 l8 : Int32} (h : w0_17 x0 x1 x2 < 3) (q : OwnE7 x0 x1 x2 N l0 l1 l2 l3 l4 l5 l6 l7 l8) : OwnE8 x0 x1 x2 N l0 l1 l2 l3 l4 l5 l6 l7 l8 := by
  refine ⟨?_, ?_, ?_, ?_, ?_, ?_, ?_, ?_, ?_, ?_⟩
  · rw [j0_204_14, if_pos h]; exact q.1
  · rw [j0_204_e0, if_pos h]; exact q.2.1
  · rw [j0_204_e1, if_pos h]; exact q.2.2.1
  · rw [j0_204_e2, if_pos h]; exact q.2.2.2.1
  · rw [j0_204_e3, if_pos h]; exact q.2.2.2.2.1
  · rw [j0_204_e4, if_pos h]; exact q.2.2.2.2.2.1
  · rw [j0_204_e5, if_pos h]; exact q.2.2.2.2.2.2.1
  · rw [j0_204_e6, if_pos h]; exact q.2.2.2.2.2.2.2.1
  · rw [j0_204_e7, if_pos h]; exact q.2.2.2.2.2.2.2.2.1
  · rw [j0_204_e8, if_pos h]; exact q.2.2.2.2.2.2.2.2.2
theorem own_tk8_0 {l0 l1 l2 l3 l4 l5 l6 l7 l8 : Int32} (h : ¬ w0_17 x0 x1 x2 < 3) (q : OwnE7 x0 x1 x2 0 l0 l1 l2 l3 l4 l5 l6 l7 l8) : OwnE8 x0 x1 x2 1 2 l1 l2 l3 l4 l5 l6 l7 l8 := by
  refine ⟨?_, ?_, ?_, ?_, ?_, ?_, ?_, ?_, ?_, ?_⟩
  · rw [j0_204_14, if_neg h, w0_201, q.1]; decide
  · rw [j0_204_e0, if_neg h, q.1]; exact if_pos rfl
  · rw [j0_204_e1, if_neg h, q.1, if_neg (by decide)]; exact q.2.2.1
  · rw [j0_204_e2, if_neg h, q.1, if_neg (by decide)]; exact q.2.2.2.1
  · rw [j0_204_e3, if_neg h, q.1, if_neg (by decide)]; exact q.2.2.2.2.1
  · rw [j0_204_e4, if_neg h, q.1, if_neg (by decide)]; exact q.2.2.2.2.2.1
  · rw [j0_204_e5, if_neg h, q.1, if_neg (by decide)]; exact q.2.2.2.2.2.2.1
  · rw [j0_204_e6, if_neg h, q.1, if_neg (by decide)]; exact q.2.2.2.2.2.2.2.1
  · rw [j0_204_e7, if_neg h, q.1, if_neg (by decide)]; exact q.2.2.2.2.2.2.2.2.1
  · rw [j0_204_e8, if_neg h, q.1, if_neg (by decide)]; exact q.2.2.2.2.2.2.2.2.2
theorem own_tk8_1 {l0 l1 l2 l3 l4 l5 l6 l7 l8 : Int32} (h : ¬ w0_17 x0 x1 x2 < 3) (q : OwnE7 x0 x1 x2 1 l0 l1 l2 l3 l4 l5 l6 l7 l8) : OwnE8 x0 x1 x2 2 l0 2 l2 l3 l4 l5 l6 l7 l8 := by
  refine ⟨?_, ?_, ?_, ?_, ?_, ?_, ?_, ?_, ?_, ?_⟩
  · rw [j0_204_14, if_neg h, w0_201, q.1]; decide
  · rw [j0_204_e0, if_neg h, q.1, if_neg (by decide)]; exact q.2.1
  · rw [j0_204_e1, if_neg h, q.1]; exact if_pos rfl
  · rw [j0_204_e2, if_neg h, q.1, if_neg (by decide)]; exact q.2.2.2.1
  · rw [j0_204_e3, if_neg h, q.1, if_neg (by decide)]; exact q.2.2.2.2.1
  · rw [j0_204_e4, if_neg h, q.1, if_neg (by decide)]; exact q.2.2.2.2.2.1
  · rw [j0_204_e5, if_neg h, q.1, if_neg (by decide)]; exact q.2.2.2.2.2.2.1
  · rw [j0_204_e6, if_neg h, q.1, if_neg (by decide)]; exact q.2.2.2.2.2.2.2.1
  · rw [j0_204_e7, if_neg h, q.1, if_neg (by decide)]; exact q.2.2.2.2.2.2.2.2.1
  · rw [j0_204_e8, if_neg h, q.1, if_neg (by decide)]; exact q.2.2.2.2.2.2.2.2.2
theorem own_tk8_2 {l0 l1 l2 l3 l4 l5 l6 l7 l8 : Int32} (h : ¬ w0_17 x0 x1 x2 < 3) (q : OwnE7 x0 x1 x2 2 l0 l1 l2 l3 l4 l5 l6 l7 l8) : OwnE8 x0 x1 x2 3 l0 l1 2 l3 l4 l5 l6 l7 l8 := by
  refine ⟨?_, ?_, ?_, ?_, ?_, ?_, ?_, ?_, ?_, ?_⟩
  · rw [j0_204_14, if_neg h, w0_201, q.1]; decide
  · rw [j0_204_e0, if_neg h, q.1, if_neg (by decide)]; exact q.2.1
  · rw [j0_204_e1, if_neg h, q.1, if_neg (by decide)]; exact q.2.2.1
  · rw [j0_204_e2, if_neg h, q.1]; exact if_pos rfl
  · rw [j0_204_e3, if_neg h, q.1, if_neg (by decide)]; exact q.2.2.2.2.1
  · rw [j0_204_e4, if_neg h, q.1, if_neg (by decide)]; exact q.2.2.2.2.2.1
  · rw [j0_204_e5, if_neg h, q.1, if_neg (by decide)]; exact q.2.2.2.2.2.2.1
  · rw [j0_204_e6, if_neg h, q.1, if_neg (by decide)]; exact q.2.2.2.2.2.2.2.1
  · rw [j0_204_e7, if_neg h, q.1, if_neg (by decide)]; exact q.2.2.2.2.2.2.2.2.1
  · rw [j0_204_e8, if_neg h, q.1, if_neg (by decide)]; exact q.2.2.2.2.2.2.2.2.2
theorem own_tk8_3 {l0 l1 l2 l3 l4 l5 l6 l7 l8 : Int32} (h : ¬ w0_17 x0 x1 x2 < 3) (q : OwnE7 x0 x1 x2 3 l0 l1 l2 l3 l4 l5 l6 l7 l8) : OwnE8 x0 x1 x2 4 l0 l1 l2 2 l4 l5 l6 l7 l8 := by
  refine ⟨?_, ?_, ?_, ?_, ?_, ?_, ?_, ?_, ?_, ?_⟩
  · rw [j0_204_14, if_neg h, w0_201, q.1]; decide
  · rw [j0_204_e0, if_neg h, q.1, if_neg (by decide)]; exact q.2.1
  · rw [j0_204_e1, if_neg h, q.1, if_neg (by decide)]; exact q.2.2.1
  · rw [j0_204_e2, if_neg h, q.1, if_neg (by decide)]; exact q.2.2.2.1
  · rw [j0_204_e3, if_neg h, q.1]; exact if_pos rfl
  · rw [j0_204_e4, if_neg h, q.1, if_neg (by decide)]; exact q.2.2.2.2.2.1
  · rw [j0_204_e5, if_neg h, q.1, if_neg (by decide)]; exact q.2.2.2.2.2.2.1
  · rw [j0_204_e6, if_neg h, q.1, if_neg (by decide)]; exact q.2.2.2.2.2.2.2.1
  · rw [j0_204_e7, if_neg h, q.1, if_neg (by decide)]; exact q.2.2.2.2.2.2.2.2.1
  · rw [j0_204_e8, if_neg h, q.1, if_neg (by decide)]; exact q.2.2.2.2.2.2.2.2.2
theorem own_tk8_4 {l0 l1 l2 l3 l4 l5 l6 l7 l8 : Int32} (h : ¬ w0_17 x0 x1 x2 < 3) (q : OwnE7 x0 x1 x2 4 l0 l1 l2 l3 l4 l5 l6 l7 l8) : OwnE8 x0 x1 x2 5 l0 l1 l2 l3 2 l5 l6 l7 l8 := by
  refine ⟨?_, ?_, ?_, ?_, ?_, ?_, ?_, ?_, ?_, ?_⟩
  · rw [j0_204_14, if_neg h, w0_201, q.1]; decide
  · rw [j0_204_e0, if_neg h, q.1, if_neg (by decide)]; exact q.2.1
  · rw [j0_204_e1, if_neg h, q.1, if_neg (by decide)]; exact q.2.2.1
  · rw [j0_204_e2, if_neg h, q.1, if_neg (by decide)]; exact q.2.2.2.1
  · rw [j0_204_e3, if_neg h, q.1, if_neg (by decide)]; exact q.2.2.2.2.1
  · rw [j0_204_e4, if_neg h, q.1]; exact if_pos rfl
  · rw [j0_204_e5, if_neg h, q.1, if_neg (by decide)]; exact q.2.2.2.2.2.2.1
  · rw [j0_204_e6, if_neg h, q.1, if_neg (by decide)]; exact q.2.2.2.2.2.2.2.1
  · rw [j0_204_e7, if_neg h, q.1, if_neg (by decide)]; exact q.2.2.2.2.2.2.2.2.1
  · rw [j0_204_e8, if_neg h, q.1, if_neg (by decide)]; exact q.2.2.2.2.2.2.2.2.2
theorem own_tk8_5 {l0 l1 l2 l3 l4 l5 l6 l7 l8 : Int32} (h : ¬ w0_17 x0 x1 x2 < 3) (q : OwnE7 x0 x1 x2 5 l0 l1 l2 l3 l4 l5 l6 l7 l8) : OwnE8 x0 x1 x2 6 l0 l1 l2 l3 l4 2 l6 l7 l8 := by
  refine ⟨?_, ?_, ?_, ?_, ?_, ?_, ?_, ?_, ?_, ?_⟩
  · rw [j0_204_14, if_neg h, w0_201, q.1]; decide
  · rw [j0_204_e0, if_neg h, q.1, if_neg (by decide)]; exact q.2.1
  · rw [j0_204_e1, if_neg h, q.1, if_neg (by decide)]; exact q.2.2.1
  · rw [j0_204_e2, if_neg h, q.1, if_neg (by decide)]; exact q.2.2.2.1
  · rw [j0_204_e3, if_neg h, q.1, if_neg (by decide)]; exact q.2.2.2.2.1
  · rw [j0_204_e4, if_neg h, q.1, if_neg (by decide)]; exact q.2.2.2.2.2.1
  · rw [j0_204_e5, if_neg h, q.1]; exact if_pos rfl
  · rw [j0_204_e6, if_neg h, q.1, if_neg (by decide)]; exact q.2.2.2.2.2.2.2.1
  · rw [j0_204_e7, if_neg h, q.1, if_neg (by decide)]; exact q.2.2.2.2.2.2.2.2.1
  · rw [j0_204_e8, if_neg h, q.1, if_neg (by decide)]; exact q.2.2.2.2.2.2.2.2.2
theorem own_tk8_6 {l0 l1 l2 l3 l4 l5 l6 l7 l8 : Int32} (h : ¬ w0_17 x0 x1 x2 < 3) (q : OwnE7 x0 x1 x2 6 l0 l1 l2 l3 l4 l5 l6 l7 l8) : OwnE8 x0 x1 x2 7 l0 l1 l2 l3 l4 l5 2 l7 l8 := by
  refine ⟨?_, ?_, ?_, ?_, ?_, ?_, ?_, ?_, ?_, ?_⟩
  · rw [j0_204_14, if_neg h, w0_201, q.1]; decide
  · rw [j0_204_e0, if_neg h, q.1, if_neg (by decide)]; exact q.2.1
  · rw [j0_204_e1, if_neg h, q.1, if_neg (by decide)]; exact q.2.2.1
  · rw [j0_204_e2, if_neg h, q.1, if_neg (by decide)]; exact q.2.2.2.1
  · rw [j0_204_e3, if_neg h, q.1, if_neg (by decide)]; exact q.2.2.2.2.1
  · rw [j0_204_e4, if_neg h, q.1, if_neg (by decide)]; exact q.2.2.2.2.2.1
  · rw [j0_204_e5, if_neg h, q.1, if_neg (by decide)]; exact q.2.2.2.2.2.2.1
  · rw [j0_204_e6, if_neg h, q.1]; exact if_pos rfl
  · rw [j0_204_e7, if_neg h, q.1, if_neg (by decide)]; exact q.2.2.2.2.2.2.2.2.1
  · rw [j0_204_e8, if_neg h, q.1, if_neg (by decide)]; exact q.2.2.2.2.2.2.2.2.2
theorem own_tk8_7 {l0 l1 l2 l3 l4 l5 l6 l7 l8 : Int32} (h : ¬ w0_17 x0 x1 x2 < 3) (q : OwnE7 x0 x1 x2 7 l0 l1 l2 l3 l4 l5 l6 l7 l8) : OwnE8 x0 x1 x2 8 l0 l1 l2 l3 l4 l5 l6 2 l8 := by
  refine ⟨?_, ?_, ?_, ?_, ?_, ?_, ?_, ?_, ?_, ?_⟩
  · rw [j0_204_14, if_neg h, w0_201, q.1]; decide
  · rw [j0_204_e0, if_neg h, q.1, if_neg (by decide)]; exact q.2.1
  · rw [j0_204_e1, if_neg h, q.1, if_neg (by decide)]; exact q.2.2.1
  · rw [j0_204_e2, if_neg h, q.1, if_neg (by decide)]; exact q.2.2.2.1
  · rw [j0_204_e3, if_neg h, q.1, if_neg (by decide)]; exact q.2.2.2.2.1
  · rw [j0_204_e4, if_neg h, q.1, if_neg (by decide)]; exact q.2.2.2.2.2.1
  · rw [j0_204_e5, if_neg h, q.1, if_neg (by decide)]; exact q.2.2.2.2.2.2.1
  · rw [j0_204_e6, if_neg h, q.1, if_neg (by decide)]; exact q.2.2.2.2.2.2.2.1
  · rw [j0_204_e7, if_neg h, q.1]; exact if_pos rfl
  · rw [j0_204_e8, if_neg h, q.1, if_neg (by decide)]; exact q.2.2.2.2.2.2.2.2.2
theorem own_tk8_8 {l0 l1 l2 l3 l4 l5 l6 l7 l8 : Int32} (h : ¬ w0_17 x0 x1 x2 < 3) (q : OwnE7 x0 x1 x2 8 l0 l1 l2 l3 l4 l5 l6 l7 l8) : OwnE8 x0 x1 x2 9 l0 l1 l2 l3 l4 l5 l6 l7 2 := by
  refine ⟨?_, ?_, ?_, ?_, ?_, ?_, ?_, ?_, ?_, ?_⟩
  · rw [j0_204_14, if_neg h, w0_201, q.1]; decide
  · rw [j0_204_e0, if_neg h, q.1, if_neg (by decide)]; exact q.2.1
  · rw [j0_204_e1, if_neg h, q.1, if_neg (by decide)]; exact q.2.2.1
  · rw [j0_204_e2, if_neg h, q.1, if_neg (by decide)]; exact q.2.2.2.1
  · rw [j0_204_e3, if_neg h, q.1, if_neg (by decide)]; exact q.2.2.2.2.1
  · rw [j0_204_e4, if_neg h, q.1, if_neg (by decide)]; exact q.2.2.2.2.2.1
  · rw [j0_204_e5, if_neg h, q.1, if_neg (by decide)]; exact q.2.2.2.2.2.2.1
  · rw [j0_204_e6, if_neg h, q.1, if_neg (by decide)]; exact q.2.2.2.2.2.2.2.1
  · rw [j0_204_e7, if_neg h, q.1, if_neg (by decide)]; exact q.2.2.2.2.2.2.2.2.1
  · rw [j0_204_e8, if_neg h, q.1]; exact if_pos rfl
end
def NX (A B D : Int64) (r0 r1 r2 s p : Int32) (A' B' D' : Int64) (r0' r1' r2' s' p' v : Int32) : Prop := j3_20_e0_a A B D r0 r1 r2 s p = A' ∧ j3_20_e1_a A B D r0 r1 r2 s p = B' ∧ j3_20_e2_a A B D r0 r1 r2 s p = D' ∧ j3_100_e0 A B D r0 r1 r2 s p = r0' ∧ j3_100_e1 A B D r0 r1 r2 s p = r1' ∧ j3_100_e2 A B D r0 r1 r2 s p = r2' ∧ j3_100_size A B D r0 r1 r2 s p = s' ∧ j3_100_place A B D r0 r1 r2 s p = p' ∧ j3_20_1 A B D r0 r1 r2 s p = v
theorem own_x0_0_y (A B D : Int64) (v1 v2 : Int32) (t0 : 0 < (A - 1)) : NX A B D 0 v1 v2 1 0 (A - 1) B D 0 v1 v2 1 0 0 := by
  have e0 : j3_20_e0_a A B D 0 v1 v2 1 0 = (A - 1) := rfl
  have e1 : j3_20_e1_a A B D 0 v1 v2 1 0 = B := rfl
  have e2 : j3_20_e2_a A B D 0 v1 v2 1 0 = D := rfl
  have u0 : j3_20_e0 A B D 0 v1 v2 1 0 = 0 := rfl
  have u1 : j3_20_e1 A B D 0 v1 v2 1 0 = v1 := rfl
  have u2 : j3_20_e2 A B D 0 v1 v2 1 0 = v2 := rfl
  have u3 : j3_20_place A B D 0 v1 v2 1 0 + 1 = 1 := rfl
  refine ⟨e0, e1, e2, ?_, ?_, ?_, ?_, ?_, rfl⟩ <;> simp only [j3_100_e0, j3_100_e1, j3_100_e2, j3_100_size, j3_100_place, u3, if_true, j3_90_e0, j3_90_e1, j3_90_e2, j3_90_2, j3_84_2, j3_84_2_a, j3_84_2_b, j3_84_e0, j3_84_e0_a, j3_84_e0_b, j3_84_e1, j3_84_e1_a, j3_84_e2, u0, u1, u2, e0, e1, e2, t0] <;> rfl
theorem own_x0_0_n (A B D : Int64) (v1 v2 : Int32) (t0 : ¬ 0 < (A - 1)) : NX A B D 0 v1 v2 1 0 (A - 1) B D 0 v1 v2 0 0 0 := by
  have e0 : j3_20_e0_a A B D 0 v1 v2 1 0 = (A - 1) := rfl
  have e1 : j3_20_e1_a A B D 0 v1 v2 1 0 = B := rfl
  have e2 : j3_20_e2_a A B D 0 v1 v2 1 0 = D := rfl
  have u0 : j3_20_e0 A B D 0 v1 v2 1 0 = 0 := rfl
  have u1 : j3_20_e1 A B D 0 v1 v2 1 0 = v1 := rfl
  have u2 : j3_20_e2 A B D 0 v1 v2 1 0 = v2 := rfl
  have u3 : j3_20_place A B D 0 v1 v2 1 0 + 1 = 1 := rfl
  refine ⟨e0, e1, e2, ?_, ?_, ?_, ?_, ?_, rfl⟩ <;> simp only [j3_100_e0, j3_100_e1, j3_100_e2, j3_100_size, j3_100_place, u3, if_true, j3_90_e0, j3_90_e1, j3_90_e2, j3_90_2, j3_84_2, j3_84_2_a, j3_84_2_b, j3_84_e0, j3_84_e0_a, j3_84_e0_b, j3_84_e1, j3_84_e1_a, j3_84_e2, u0, u1, u2, e0, e1, e2, t0] <;> rfl
theorem own_x1_0_y (A B D : Int64) (v1 v2 : Int32) (t0 : 0 < (B - 1)) : NX A B D 1 v1 v2 1 0 A (B - 1) D 1 v1 v2 1 0 1 := by
  have e0 : j3_20_e0_a A B D 1 v1 v2 1 0 = A := rfl
  have e1 : j3_20_e1_a A B D 1 v1 v2 1 0 = (B - 1) := rfl
  have e2 : j3_20_e2_a A B D 1 v1 v2 1 0 = D := rfl
  have u0 : j3_20_e0 A B D 1 v1 v2 1 0 = 1 := rfl
  have u1 : j3_20_e1 A B D 1 v1 v2 1 0 = v1 := rfl
  have u2 : j3_20_e2 A B D 1 v1 v2 1 0 = v2 := rfl
  have u3 : j3_20_place A B D 1 v1 v2 1 0 + 1 = 1 := rfl
  refine ⟨e0, e1, e2, ?_, ?_, ?_, ?_, ?_, rfl⟩ <;> simp only [j3_100_e0, j3_100_e1, j3_100_e2, j3_100_size, j3_100_place, u3, if_true, j3_90_e0, j3_90_e1, j3_90_e2, j3_90_2, j3_84_2, j3_84_2_a, j3_84_2_b, j3_84_e0, j3_84_e0_a, j3_84_e0_b, j3_84_e1, j3_84_e1_a, j3_84_e2, u0, u1, u2, e0, e1, e2, t0] <;> rfl
theorem own_x1_0_n (A B D : Int64) (v1 v2 : Int32) (t0 : ¬ 0 < (B - 1)) : NX A B D 1 v1 v2 1 0 A (B - 1) D 1 v1 v2 0 0 1 := by
  have e0 : j3_20_e0_a A B D 1 v1 v2 1 0 = A := rfl
  have e1 : j3_20_e1_a A B D 1 v1 v2 1 0 = (B - 1) := rfl
  have e2 : j3_20_e2_a A B D 1 v1 v2 1 0 = D := rfl
  have u0 : j3_20_e0 A B D 1 v1 v2 1 0 = 1 := rfl
  have u1 : j3_20_e1 A B D 1 v1 v2 1 0 = v1 := rfl
  have u2 : j3_20_e2 A B D 1 v1 v2 1 0 = v2 := rfl
  have u3 : j3_20_place A B D 1 v1 v2 1 0 + 1 = 1 := rfl
  refine ⟨e0, e1, e2, ?_, ?_, ?_, ?_, ?_, rfl⟩ <;> simp only [j3_100_e0, j3_100_e1, j3_100_e2, j3_100_size, j3_100_place, u3, if_true, j3_90_e0, j3_90_e1, j3_90_e2, j3_90_2, j3_84_2, j3_84_2_a, j3_84_2_b, j3_84_e0, j3_84_e0_a, j3_84_e0_b, j3_84_e1, j3_84_e1_a, j3_84_e2, u0, u1, u2, e0, e1, e2, t0] <;> rfl
theorem own_x2_0_y (A B D : Int64) (v1 v2 : Int32) (t0 : 0 < (D - 1)) : NX A B D 2 v1 v2 1 0 A B (D - 1) 2 v1 v2 1 0 2 := by
  have e0 : j3_20_e0_a A B D 2 v1 v2 1 0 = A := rfl
  have e1 : j3_20_e1_a A B D 2 v1 v2 1 0 = B := rfl
  have e2 : j3_20_e2_a A B D 2 v1 v2 1 0 = (D - 1) := rfl
  have u0 : j3_20_e0 A B D 2 v1 v2 1 0 = 2 := rfl
  have u1 : j3_20_e1 A B D 2 v1 v2 1 0 = v1 := rfl
  have u2 : j3_20_e2 A B D 2 v1 v2 1 0 = v2 := rfl
  have u3 : j3_20_place A B D 2 v1 v2 1 0 + 1 = 1 := rfl
  refine ⟨e0, e1, e2, ?_, ?_, ?_, ?_, ?_, rfl⟩ <;> simp only [j3_100_e0, j3_100_e1, j3_100_e2, j3_100_size, j3_100_place, u3, if_true, j3_90_e0, j3_90_e1, j3_90_e2, j3_90_2, j3_84_2, j3_84_2_a, j3_84_2_b, j3_84_e0, j3_84_e0_a, j3_84_e0_b, j3_84_e1, j3_84_e1_a, j3_84_e2, u0, u1, u2, e0, e1, e2, t0] <;> rfl
theorem own_x2_0_n (A B D : Int64) (v1 v2 : Int32) (t0 : ¬ 0 < (D - 1)) : NX A B D 2 v1 v2 1 0 A B (D - 1) 2 v1 v2 0 0 2 := by
  have e0 : j3_20_e0_a A B D 2 v1 v2 1 0 = A := rfl
  have e1 : j3_20_e1_a A B D 2 v1 v2 1 0 = B := rfl
  have e2 : j3_20_e2_a A B D 2 v1 v2 1 0 = (D - 1) := rfl
  have u0 : j3_20_e0 A B D 2 v1 v2 1 0 = 2 := rfl
  have u1 : j3_20_e1 A B D 2 v1 v2 1 0 = v1 := rfl
  have u2 : j3_20_e2 A B D 2 v1 v2 1 0 = v2 := rfl
  have u3 : j3_20_place A B D 2 v1 v2 1 0 + 1 = 1 := rfl
  refine ⟨e0, e1, e2, ?_, ?_, ?_, ?_, ?_, rfl⟩ <;> simp only [j3_100_e0, j3_100_e1, j3_100_e2, j3_100_size, j3_100_place, u3, if_true, j3_90_e0, j3_90_e1, j3_90_e2, j3_90_2, j3_84_2, j3_84_2_a, j3_84_2_b, j3_84_e0, j3_84_e0_a, j3_84_e0_b, j3_84_e1, j3_84_e1_a, j3_84_e2, u0, u1, u2, e0, e1, e2, t0] <;> rfl
theorem own_x01_0_c (A B D : Int64) (v2 : Int32)  : NX A B D 0 1 v2 2 0 (A - 1) B D 0 1 v2 2 1 0 := ⟨rfl, rfl, rfl, rfl, rfl, rfl, rfl, rfl, rfl⟩
theorem own_x01_1_yy (A B D : Int64) (v2 : Int32) (t0 : 0 < A) (t1 : 0 < (B - 1)) : NX A B D 0 1 v2 2 1 A (B - 1) D 0 1 v2 2 0 1 := by
  have e0 : j3_20_e0_a A B D 0 1 v2 2 1 = A := rfl
  have e1 : j3_20_e1_a A B D 0 1 v2 2 1 = (B - 1) := rfl
  have e2 : j3_20_e2_a A B D 0 1 v2 2 1 = D := rfl
  have u0 : j3_20_e0 A B D 0 1 v2 2 1 = 0 := rfl
  have u1 : j3_20_e1 A B D 0 1 v2 2 1 = 1 := rfl
  have u2 : j3_20_e2 A B D 0 1 v2 2 1 = v2 := rfl
  have u3 : j3_20_place A B D 0 1 v2 2 1 + 1 = 2 := rfl
  refine ⟨e0, e1, e2, ?_, ?_, ?_, ?_, ?_, rfl⟩ <;> simp only [j3_100_e0, j3_100_e1, j3_100_e2, j3_100_size, j3_100_place, u3, if_true, j3_90_e0, j3_90_e1, j3_90_e2, j3_90_2, j3_84_2, j3_84_2_a, j3_84_2_b, j3_84_e0, j3_84_e0_a, j3_84_e0_b, j3_84_e1, j3_84_e1_a, j3_84_e2, u0, u1, u2, e0, e1, e2, t0, t1] <;> rfl
theorem own_x01_1_yn (A B D : Int64) (v2 : Int32) (t0 : 0 < A) (t1 : ¬ 0 < (B - 1)) : NX A B D 0 1 v2 2 1 A (B - 1) D 0 1 v2 1 0 1 := by
  have e0 : j3_20_e0_a A B D 0 1 v2 2 1 = A := rfl
  have e1 : j3_20_e1_a A B D 0 1 v2 2 1 = (B - 1) := rfl
  have e2 : j3_20_e2_a A B D 0 1 v2 2 1 = D := rfl
  have u0 : j3_20_e0 A B D 0 1 v2 2 1 = 0 := rfl
  have u1 : j3_20_e1 A B D 0 1 v2 2 1 = 1 := rfl
  have u2 : j3_20_e2 A B D 0 1 v2 2 1 = v2 := rfl
  have u3 : j3_20_place A B D 0 1 v2 2 1 + 1 = 2 := rfl
  refine ⟨e0, e1, e2, ?_, ?_, ?_, ?_, ?_, rfl⟩ <;> simp only [j3_100_e0, j3_100_e1, j3_100_e2, j3_100_size, j3_100_place, u3, if_true, j3_90_e0, j3_90_e1, j3_90_e2, j3_90_2, j3_84_2, j3_84_2_a, j3_84_2_b, j3_84_e0, j3_84_e0_a, j3_84_e0_b, j3_84_e1, j3_84_e1_a, j3_84_e2, u0, u1, u2, e0, e1, e2, t0, t1] <;> rfl
theorem own_x01_1_ny (A B D : Int64) (v2 : Int32) (t0 : ¬ 0 < A) (t1 : 0 < (B - 1)) : NX A B D 0 1 v2 2 1 A (B - 1) D 1 1 v2 1 0 1 := by
  have e0 : j3_20_e0_a A B D 0 1 v2 2 1 = A := rfl
  have e1 : j3_20_e1_a A B D 0 1 v2 2 1 = (B - 1) := rfl
  have e2 : j3_20_e2_a A B D 0 1 v2 2 1 = D := rfl
  have u0 : j3_20_e0 A B D 0 1 v2 2 1 = 0 := rfl
  have u1 : j3_20_e1 A B D 0 1 v2 2 1 = 1 := rfl
  have u2 : j3_20_e2 A B D 0 1 v2 2 1 = v2 := rfl
  have u3 : j3_20_place A B D 0 1 v2 2 1 + 1 = 2 := rfl
  refine ⟨e0, e1, e2, ?_, ?_, ?_, ?_, ?_, rfl⟩ <;> simp only [j3_100_e0, j3_100_e1, j3_100_e2, j3_100_size, j3_100_place, u3, if_true, j3_90_e0, j3_90_e1, j3_90_e2, j3_90_2, j3_84_2, j3_84_2_a, j3_84_2_b, j3_84_e0, j3_84_e0_a, j3_84_e0_b, j3_84_e1, j3_84_e1_a, j3_84_e2, u0, u1, u2, e0, e1, e2, t0, t1] <;> rfl
theorem own_x01_1_nn (A B D : Int64) (v2 : Int32) (t0 : ¬ 0 < A) (t1 : ¬ 0 < (B - 1)) : NX A B D 0 1 v2 2 1 A (B - 1) D 0 1 v2 0 0 1 := by
  have e0 : j3_20_e0_a A B D 0 1 v2 2 1 = A := rfl
  have e1 : j3_20_e1_a A B D 0 1 v2 2 1 = (B - 1) := rfl
  have e2 : j3_20_e2_a A B D 0 1 v2 2 1 = D := rfl
  have u0 : j3_20_e0 A B D 0 1 v2 2 1 = 0 := rfl
  have u1 : j3_20_e1 A B D 0 1 v2 2 1 = 1 := rfl
  have u2 : j3_20_e2 A B D 0 1 v2 2 1 = v2 := rfl
  have u3 : j3_20_place A B D 0 1 v2 2 1 + 1 = 2 := rfl
  refine ⟨e0, e1, e2, ?_, ?_, ?_, ?_, ?_, rfl⟩ <;> simp only [j3_100_e0, j3_100_e1, j3_100_e2, j3_100_size, j3_100_place, u3, if_true, j3_90_e0, j3_90_e1, j3_90_e2, j3_90_2, j3_84_2, j3_84_2_a, j3_84_2_b, j3_84_e0, j3_84_e0_a, j3_84_e0_b, j3_84_e1, j3_84_e1_a, j3_84_e2, u0, u1, u2, e0, e1, e2, t0, t1] <;> rfl
theorem own_x02_0_c (A B D : Int64) (v2 : Int32)  : NX A B D 0 2 v2 2 0 (A - 1) B D 0 2 v2 2 1 0 := ⟨rfl, rfl, rfl, rfl, rfl, rfl, rfl, rfl, rfl⟩
theorem own_x02_1_yy (A B D : Int64) (v2 : Int32) (t0 : 0 < A) (t1 : 0 < (D - 1)) : NX A B D 0 2 v2 2 1 A B (D - 1) 0 2 v2 2 0 2 := by
  have e0 : j3_20_e0_a A B D 0 2 v2 2 1 = A := rfl
  have e1 : j3_20_e1_a A B D 0 2 v2 2 1 = B := rfl
  have e2 : j3_20_e2_a A B D 0 2 v2 2 1 = (D - 1) := rfl
  have u0 : j3_20_e0 A B D 0 2 v2 2 1 = 0 := rfl
  have u1 : j3_20_e1 A B D 0 2 v2 2 1 = 2 := rfl
  have u2 : j3_20_e2 A B D 0 2 v2 2 1 = v2 := rfl
  have u3 : j3_20_place A B D 0 2 v2 2 1 + 1 = 2 := rfl
  refine ⟨e0, e1, e2, ?_, ?_, ?_, ?_, ?_, rfl⟩ <;> simp only [j3_100_e0, j3_100_e1, j3_100_e2, j3_100_size, j3_100_place, u3, if_true, j3_90_e0, j3_90_e1, j3_90_e2, j3_90_2, j3_84_2, j3_84_2_a, j3_84_2_b, j3_84_e0, j3_84_e0_a, j3_84_e0_b, j3_84_e1, j3_84_e1_a, j3_84_e2, u0, u1, u2, e0, e1, e2, t0, t1] <;> rfl
theorem own_x02_1_yn (A B D : Int64) (v2 : Int32) (t0 : 0 < A) (t1 : ¬ 0 < (D - 1)) : NX A B D 0 2 v2 2 1 A B (D - 1) 0 2 v2 1 0 2 := by
  have e0 : j3_20_e0_a A B D 0 2 v2 2 1 = A := rfl
  have e1 : j3_20_e1_a A B D 0 2 v2 2 1 = B := rfl
  have e2 : j3_20_e2_a A B D 0 2 v2 2 1 = (D - 1) := rfl
  have u0 : j3_20_e0 A B D 0 2 v2 2 1 = 0 := rfl
  have u1 : j3_20_e1 A B D 0 2 v2 2 1 = 2 := rfl
  have u2 : j3_20_e2 A B D 0 2 v2 2 1 = v2 := rfl
  have u3 : j3_20_place A B D 0 2 v2 2 1 + 1 = 2 := rfl
  refine ⟨e0, e1, e2, ?_, ?_, ?_, ?_, ?_, rfl⟩ <;> simp only [j3_100_e0, j3_100_e1, j3_100_e2, j3_100_size, j3_100_place, u3, if_true, j3_90_e0, j3_90_e1, j3_90_e2, j3_90_2, j3_84_2, j3_84_2_a, j3_84_2_b, j3_84_e0, j3_84_e0_a, j3_84_e0_b, j3_84_e1, j3_84_e1_a, j3_84_e2, u0, u1, u2, e0, e1, e2, t0, t1] <;> rfl
theorem own_x02_1_ny (A B D : Int64) (v2 : Int32) (t0 : ¬ 0 < A) (t1 : 0 < (D - 1)) : NX A B D 0 2 v2 2 1 A B (D - 1) 2 2 v2 1 0 2 := by
  have e0 : j3_20_e0_a A B D 0 2 v2 2 1 = A := rfl
  have e1 : j3_20_e1_a A B D 0 2 v2 2 1 = B := rfl
  have e2 : j3_20_e2_a A B D 0 2 v2 2 1 = (D - 1) := rfl
  have u0 : j3_20_e0 A B D 0 2 v2 2 1 = 0 := rfl
  have u1 : j3_20_e1 A B D 0 2 v2 2 1 = 2 := rfl
  have u2 : j3_20_e2 A B D 0 2 v2 2 1 = v2 := rfl
  have u3 : j3_20_place A B D 0 2 v2 2 1 + 1 = 2 := rfl
  refine ⟨e0, e1, e2, ?_, ?_, ?_, ?_, ?_, rfl⟩ <;> simp only [j3_100_e0, j3_100_e1, j3_100_e2, j3_100_size, j3_100_place, u3, if_true, j3_90_e0, j3_90_e1, j3_90_e2, j3_90_2, j3_84_2, j3_84_2_a, j3_84_2_b, j3_84_e0, j3_84_e0_a, j3_84_e0_b, j3_84_e1, j3_84_e1_a, j3_84_e2, u0, u1, u2, e0, e1, e2, t0, t1] <;> rfl
theorem own_x02_1_nn (A B D : Int64) (v2 : Int32) (t0 : ¬ 0 < A) (t1 : ¬ 0 < (D - 1)) : NX A B D 0 2 v2 2 1 A B (D - 1) 0 2 v2 0 0 2 := by
  have e0 : j3_20_e0_a A B D 0 2 v2 2 1 = A := rfl
  have e1 : j3_20_e1_a A B D 0 2 v2 2 1 = B := rfl
  have e2 : j3_20_e2_a A B D 0 2 v2 2 1 = (D - 1) := rfl
  have u0 : j3_20_e0 A B D 0 2 v2 2 1 = 0 := rfl
  have u1 : j3_20_e1 A B D 0 2 v2 2 1 = 2 := rfl
  have u2 : j3_20_e2 A B D 0 2 v2 2 1 = v2 := rfl
  have u3 : j3_20_place A B D 0 2 v2 2 1 + 1 = 2 := rfl
  refine ⟨e0, e1, e2, ?_, ?_, ?_, ?_, ?_, rfl⟩ <;> simp only [j3_100_e0, j3_100_e1, j3_100_e2, j3_100_size, j3_100_place, u3, if_true, j3_90_e0, j3_90_e1, j3_90_e2, j3_90_2, j3_84_2, j3_84_2_a, j3_84_2_b, j3_84_e0, j3_84_e0_a, j3_84_e0_b, j3_84_e1, j3_84_e1_a, j3_84_e2, u0, u1, u2, e0, e1, e2, t0, t1] <;> rfl
theorem own_x12_0_c (A B D : Int64) (v2 : Int32)  : NX A B D 1 2 v2 2 0 A (B - 1) D 1 2 v2 2 1 1 := ⟨rfl, rfl, rfl, rfl, rfl, rfl, rfl, rfl, rfl⟩
theorem own_x12_1_yy (A B D : Int64) (v2 : Int32) (t0 : 0 < B) (t1 : 0 < (D - 1)) : NX A B D 1 2 v2 2 1 A B (D - 1) 1 2 v2 2 0 2 := by
  have e0 : j3_20_e0_a A B D 1 2 v2 2 1 = A := rfl
  have e1 : j3_20_e1_a A B D 1 2 v2 2 1 = B := rfl
  have e2 : j3_20_e2_a A B D 1 2 v2 2 1 = (D - 1) := rfl
  have u0 : j3_20_e0 A B D 1 2 v2 2 1 = 1 := rfl
  have u1 : j3_20_e1 A B D 1 2 v2 2 1 = 2 := rfl
  have u2 : j3_20_e2 A B D 1 2 v2 2 1 = v2 := rfl
  have u3 : j3_20_place A B D 1 2 v2 2 1 + 1 = 2 := rfl
  refine ⟨e0, e1, e2, ?_, ?_, ?_, ?_, ?_, rfl⟩ <;> simp only [j3_100_e0, j3_100_e1, j3_100_e2, j3_100_size, j3_100_place, u3, if_true, j3_90_e0, j3_90_e1, j3_90_e2, j3_90_2, j3_84_2, j3_84_2_a, j3_84_2_b, j3_84_e0, j3_84_e0_a, j3_84_e0_b, j3_84_e1, j3_84_e1_a, j3_84_e2, u0, u1, u2, e0, e1, e2, t0, t1] <;> rfl
theorem own_x12_1_yn (A B D : Int64) (v2 : Int32) (t0 : 0 < B) (t1 : ¬ 0 < (D - 1)) : NX A B D 1 2 v2 2 1 A B (D - 1) 1 2 v2 1 0 2 := by
  have e0 : j3_20_e0_a A B D 1 2 v2 2 1 = A := rfl
  have e1 : j3_20_e1_a A B D 1 2 v2 2 1 = B := rfl
  have e2 : j3_20_e2_a A B D 1 2 v2 2 1 = (D - 1) := rfl
  have u0 : j3_20_e0 A B D 1 2 v2 2 1 = 1 := rfl
  have u1 : j3_20_e1 A B D 1 2 v2 2 1 = 2 := rfl
  have u2 : j3_20_e2 A B D 1 2 v2 2 1 = v2 := rfl
  have u3 : j3_20_place A B D 1 2 v2 2 1 + 1 = 2 := rfl
  refine ⟨e0, e1, e2, ?_, ?_, ?_, ?_, ?_, rfl⟩ <;> simp only [j3_100_e0, j3_100_e1, j3_100_e2, j3_100_size, j3_100_place, u3, if_true, j3_90_e0, j3_90_e1, j3_90_e2, j3_90_2, j3_84_2, j3_84_2_a, j3_84_2_b, j3_84_e0, j3_84_e0_a, j3_84_e0_b, j3_84_e1, j3_84_e1_a, j3_84_e2, u0, u1, u2, e0, e1, e2, t0, t1] <;> rfl
theorem own_x12_1_ny (A B D : Int64) (v2 : Int32) (t0 : ¬ 0 < B) (t1 : 0 < (D - 1)) : NX A B D 1 2 v2 2 1 A B (D - 1) 2 2 v2 1 0 2 := by
  have e0 : j3_20_e0_a A B D 1 2 v2 2 1 = A := rfl
  have e1 : j3_20_e1_a A B D 1 2 v2 2 1 = B := rfl
  have e2 : j3_20_e2_a A B D 1 2 v2 2 1 = (D - 1) := rfl
  have u0 : j3_20_e0 A B D 1 2 v2 2 1 = 1 := rfl
  have u1 : j3_20_e1 A B D 1 2 v2 2 1 = 2 := rfl
  have u2 : j3_20_e2 A B D 1 2 v2 2 1 = v2 := rfl
  have u3 : j3_20_place A B D 1 2 v2 2 1 + 1 = 2 := rfl
  refine ⟨e0, e1, e2, ?_, ?_, ?_, ?_, ?_, rfl⟩ <;> simp only [j3_100_e0, j3_100_e1, j3_100_e2, j3_100_size, j3_100_place, u3, if_true, j3_90_e0, j3_90_e1, j3_90_e2, j3_90_2, j3_84_2, j3_84_2_a, j3_84_2_b, j3_84_e0, j3_84_e0_a, j3_84_e0_b, j3_84_e1, j3_84_e1_a, j3_84_e2, u0, u1, u2, e0, e1, e2, t0, t1] <;> rfl
theorem own_x12_1_nn (A B D : Int64) (v2 : Int32) (t0 : ¬ 0 < B) (t1 : ¬ 0 < (D - 1)) : NX A B D 1 2 v2 2 1 A B (D - 1) 1 2 v2 0 0 2 := by
  have e0 : j3_20_e0_a A B D 1 2 v2 2 1 = A := rfl
  have e1 : j3_20_e1_a A B D 1 2 v2 2 1 = B := rfl
  have e2 : j3_20_e2_a A B D 1 2 v2 2 1 = (D - 1) := rfl
  have u0 : j3_20_e0 A B D 1 2 v2 2 1 = 1 := rfl
  have u1 : j3_20_e1 A B D 1 2 v2 2 1 = 2 := rfl
  have u2 : j3_20_e2 A B D 1 2 v2 2 1 = v2 := rfl
  have u3 : j3_20_place A B D 1 2 v2 2 1 + 1 = 2 := rfl
  refine ⟨e0, e1, e2, ?_, ?_, ?_, ?_, ?_, rfl⟩ <;> simp only [j3_100_e0, j3_100_e1, j3_100_e2, j3_100_size, j3_100_place, u3, if_true, j3_90_e0, j3_90_e1, j3_90_e2, j3_90_2, j3_84_2, j3_84_2_a, j3_84_2_b, j3_84_e0, j3_84_e0_a, j3_84_e0_b, j3_84_e1, j3_84_e1_a, j3_84_e2, u0, u1, u2, e0, e1, e2, t0, t1] <;> rfl
theorem own_x012_0_c (A B D : Int64)  : NX A B D 0 1 2 3 0 (A - 1) B D 0 1 2 3 1 0 := ⟨rfl, rfl, rfl, rfl, rfl, rfl, rfl, rfl, rfl⟩
theorem own_x012_1_c (A B D : Int64)  : NX A B D 0 1 2 3 1 A (B - 1) D 0 1 2 3 2 1 := ⟨rfl, rfl, rfl, rfl, rfl, rfl, rfl, rfl, rfl⟩
theorem own_x012_2_yyy (A B D : Int64) (t0 : 0 < A) (t1 : 0 < B) (t2 : 0 < (D - 1)) : NX A B D 0 1 2 3 2 A B (D - 1) 0 1 2 3 0 2 := by
  have e0 : j3_20_e0_a A B D 0 1 2 3 2 = A := rfl
  have e1 : j3_20_e1_a A B D 0 1 2 3 2 = B := rfl
  have e2 : j3_20_e2_a A B D 0 1 2 3 2 = (D - 1) := rfl
  have u0 : j3_20_e0 A B D 0 1 2 3 2 = 0 := rfl
  have u1 : j3_20_e1 A B D 0 1 2 3 2 = 1 := rfl
  have u2 : j3_20_e2 A B D 0 1 2 3 2 = 2 := rfl
  have u3 : j3_20_place A B D 0 1 2 3 2 + 1 = 3 := rfl
  refine ⟨e0, e1, e2, ?_, ?_, ?_, ?_, ?_, rfl⟩ <;> simp only [j3_100_e0, j3_100_e1, j3_100_e2, j3_100_size, j3_100_place, u3, if_true, j3_90_e0, j3_90_e1, j3_90_e2, j3_90_2, j3_84_2, j3_84_2_a, j3_84_2_b, j3_84_e0, j3_84_e0_a, j3_84_e0_b, j3_84_e1, j3_84_e1_a, j3_84_e2, u0, u1, u2, e0, e1, e2, t0, t1, t2] <;> rfl
theorem own_x012_2_yyn (A B D : Int64) (t0 : 0 < A) (t1 : 0 < B) (t2 : ¬ 0 < (D - 1)) : NX A B D 0 1 2 3 2 A B (D - 1) 0 1 2 2 0 2 := by
  have e0 : j3_20_e0_a A B D 0 1 2 3 2 = A := rfl
  have e1 : j3_20_e1_a A B D 0 1 2 3 2 = B := rfl
  have e2 : j3_20_e2_a A B D 0 1 2 3 2 = (D - 1) := rfl
  have u0 : j3_20_e0 A B D 0 1 2 3 2 = 0 := rfl
  have u1 : j3_20_e1 A B D 0 1 2 3 2 = 1 := rfl
  have u2 : j3_20_e2 A B D 0 1 2 3 2 = 2 := rfl
  have u3 : j3_20_place A B D 0 1 2 3 2 + 1 = 3 := rfl
  refine ⟨e0, e1, e2, ?_, ?_, ?_, ?_, ?_, rfl⟩ <;> simp only [j3_100_e0, j3_100_e1, j3_100_e2, j3_100_size, j3_100_place, u3, if_true, j3_90_e0, j3_90_e1, j3_90_e2, j3_90_2, j3_84_2, j3_84_2_a, j3_84_2_b, j3_84_e0, j3_84_e0_a, j3_84_e0_b, j3_84_e1, j3_84_e1_a, j3_84_e2, u0, u1, u2, e0, e1, e2, t0, t1, t2] <;> rfl
theorem own_x012_2_yny (A B D : Int64) (t0 : 0 < A) (t1 : ¬ 0 < B) (t2 : 0 < (D - 1)) : NX A B D 0 1 2 3 2 A B (D - 1) 0 2 2 2 0 2 := by
  have e0 : j3_20_e0_a A B D 0 1 2 3 2 = A := rfl
  have e1 : j3_20_e1_a A B D 0 1 2 3 2 = B := rfl
  have e2 : j3_20_e2_a A B D 0 1 2 3 2 = (D - 1) := rfl
  have u0 : j3_20_e0 A B D 0 1 2 3 2 = 0 := rfl
  have u1 : j3_20_e1 A B D 0 1 2 3 2 = 1 := rfl
  have u2 : j3_20_e2 A B D 0 1 2 3 2 = 2 := rfl
  have u3 : j3_20_place A B D 0 1 2 3 2 + 1 = 3 := rfl
  refine ⟨e0, e1, e2, ?_, ?_, ?_, ?_, ?_, rfl⟩ <;> simp only [j3_100_e0, j3_100_e1, j3_100_e2, j3_100_size, j3_100_place, u3, if_true, j3_90_e0, j3_90_e1, j3_90_e2, j3_90_2, j3_84_2, j3_84_2_a, j3_84_2_b, j3_84_e0, j3_84_e0_a, j3_84_e0_b, j3_84_e1, j3_84_e1_a, j3_84_e2, u0, u1, u2, e0, e1, e2, t0, t1, t2] <;> rfl
theorem own_x012_2_ynn (A B D : Int64) (t0 : 0 < A) (t1 : ¬ 0 < B) (t2 : ¬ 0 < (D - 1)) : NX A B D 0 1 2 3 2 A B (D - 1) 0 1 2 1 0 2 := by
  have e0 : j3_20_e0_a A B D 0 1 2 3 2 = A := rfl
  have e1 : j3_20_e1_a A B D 0 1 2 3 2 = B := rfl
  have e2 : j3_20_e2_a A B D 0 1 2 3 2 = (D - 1) := rfl
  have u0 : j3_20_e0 A B D 0 1 2 3 2 = 0 := rfl
  have u1 : j3_20_e1 A B D 0 1 2 3 2 = 1 := rfl
  have u2 : j3_20_e2 A B D 0 1 2 3 2 = 2 := rfl
  have u3 : j3_20_place A B D 0 1 2 3 2 + 1 = 3 := rfl
  refine ⟨e0, e1, e2, ?_, ?_, ?_, ?_, ?_, rfl⟩ <;> simp only [j3_100_e0, j3_100_e1, j3_100_e2, j3_100_size, j3_100_place, u3, if_true, j3_90_e0, j3_90_e1, j3_90_e2, j3_90_2, j3_84_2, j3_84_2_a, j3_84_2_b, j3_84_e0, j3_84_e0_a, j3_84_e0_b, j3_84_e1, j3_84_e1_a, j3_84_e2, u0, u1, u2, e0, e1, e2, t0, t1, t2] <;> rfl
theorem own_x012_2_nyy (A B D : Int64) (t0 : ¬ 0 < A) (t1 : 0 < B) (t2 : 0 < (D - 1)) : NX A B D 0 1 2 3 2 A B (D - 1) 1 2 2 2 0 2 := by
  have e0 : j3_20_e0_a A B D 0 1 2 3 2 = A := rfl
  have e1 : j3_20_e1_a A B D 0 1 2 3 2 = B := rfl
  have e2 : j3_20_e2_a A B D 0 1 2 3 2 = (D - 1) := rfl
  have u0 : j3_20_e0 A B D 0 1 2 3 2 = 0 := rfl
  have u1 : j3_20_e1 A B D 0 1 2 3 2 = 1 := rfl
  have u2 : j3_20_e2 A B D 0 1 2 3 2 = 2 := rfl
  have u3 : j3_20_place A B D 0 1 2 3 2 + 1 = 3 := rfl
  refine ⟨e0, e1, e2, ?_, ?_, ?_, ?_, ?_, rfl⟩ <;> simp only [j3_100_e0, j3_100_e1, j3_100_e2, j3_100_size, j3_100_place, u3, if_true, j3_90_e0, j3_90_e1, j3_90_e2, j3_90_2, j3_84_2, j3_84_2_a, j3_84_2_b, j3_84_e0, j3_84_e0_a, j3_84_e0_b, j3_84_e1, j3_84_e1_a, j3_84_e2, u0, u1, u2, e0, e1, e2, t0, t1, t2] <;> rfl
theorem own_x012_2_nyn (A B D : Int64) (t0 : ¬ 0 < A) (t1 : 0 < B) (t2 : ¬ 0 < (D - 1)) : NX A B D 0 1 2 3 2 A B (D - 1) 1 1 2 1 0 2 := by
  have e0 : j3_20_e0_a A B D 0 1 2 3 2 = A := rfl
  have e1 : j3_20_e1_a A B D 0 1 2 3 2 = B := rfl
  have e2 : j3_20_e2_a A B D 0 1 2 3 2 = (D - 1) := rfl
  have u0 : j3_20_e0 A B D 0 1 2 3 2 = 0 := rfl
  have u1 : j3_20_e1 A B D 0 1 2 3 2 = 1 := rfl
  have u2 : j3_20_e2 A B D 0 1 2 3 2 = 2 := rfl
  have u3 : j3_20_place A B D 0 1 2 3 2 + 1 = 3 := rfl
  refine ⟨e0, e1, e2, ?_, ?_, ?_, ?_, ?_, rfl⟩ <;> simp only [j3_100_e0, j3_100_e1, j3_100_e2, j3_100_size, j3_100_place, u3, if_true, j3_90_e0, j3_90_e1, j3_90_e2, j3_90_2, j3_84_2, j3_84_2_a, j3_84_2_b, j3_84_e0, j3_84_e0_a, j3_84_e0_b, j3_84_e1, j3_84_e1_a, j3_84_e2, u0, u1, u2, e0, e1, e2, t0, t1, t2] <;> rfl
theorem own_x012_2_nny (A B D : Int64) (t0 : ¬ 0 < A) (t1 : ¬ 0 < B) (t2 : 0 < (D - 1)) : NX A B D 0 1 2 3 2 A B (D - 1) 2 1 2 1 0 2 := by
  have e0 : j3_20_e0_a A B D 0 1 2 3 2 = A := rfl
  have e1 : j3_20_e1_a A B D 0 1 2 3 2 = B := rfl
  have e2 : j3_20_e2_a A B D 0 1 2 3 2 = (D - 1) := rfl
  have u0 : j3_20_e0 A B D 0 1 2 3 2 = 0 := rfl
  have u1 : j3_20_e1 A B D 0 1 2 3 2 = 1 := rfl
  have u2 : j3_20_e2 A B D 0 1 2 3 2 = 2 := rfl
  have u3 : j3_20_place A B D 0 1 2 3 2 + 1 = 3 := rfl
  refine ⟨e0, e1, e2, ?_, ?_, ?_, ?_, ?_, rfl⟩ <;> simp only [j3_100_e0, j3_100_e1, j3_100_e2, j3_100_size, j3_100_place, u3, if_true, j3_90_e0, j3_90_e1, j3_90_e2, j3_90_2, j3_84_2, j3_84_2_a, j3_84_2_b, j3_84_e0, j3_84_e0_a, j3_84_e0_b, j3_84_e1, j3_84_e1_a, j3_84_e2, u0, u1, u2, e0, e1, e2, t0, t1, t2] <;> rfl
theorem own_x012_2_nnn (A B D : Int64) (t0 : ¬ 0 < A) (t1 : ¬ 0 < B) (t2 : ¬ 0 < (D - 1)) : NX A B D 0 1 2 3 2 A B (D - 1) 0 1 2 0 0 2 := by
  have e0 : j3_20_e0_a A B D 0 1 2 3 2 = A := rfl
  have e1 : j3_20_e1_a A B D 0 1 2 3 2 = B := rfl
  have e2 : j3_20_e2_a A B D 0 1 2 3 2 = (D - 1) := rfl
  have u0 : j3_20_e0 A B D 0 1 2 3 2 = 0 := rfl
  have u1 : j3_20_e1 A B D 0 1 2 3 2 = 1 := rfl
  have u2 : j3_20_e2 A B D 0 1 2 3 2 = 2 := rfl
  have u3 : j3_20_place A B D 0 1 2 3 2 + 1 = 3 := rfl
  refine ⟨e0, e1, e2, ?_, ?_, ?_, ?_, ?_, rfl⟩ <;> simp only [j3_100_e0, j3_100_e1, j3_100_e2, j3_100_size, j3_100_place, u3, if_true, j3_90_e0, j3_90_e1, j3_90_e2, j3_90_2, j3_84_2, j3_84_2_a, j3_84_2_b, j3_84_e0, j3_84_e0_a, j3_84_e0_b, j3_84_e1, j3_84_e1_a, j3_84_e2, u0, u1, u2, e0, e1, e2, t0, t1, t2] <;> rfl
theorem own_iyyy (A B D : Int64) (tA : 0 < A) (tB : 0 < B) (tD : 0 < D) : j2_59_e0_a A B D = 0 ∧ j2_59_e1_a A B D = 1 ∧ j2_59_e2 A B D = 2 ∧ j2_59_size_b A B D = 3 := by
  have k1 : j2_59_size A B D = 1 := if_pos tA
  have k2 : j2_59_size_a A B D = 2 := by
    rw [j2_59_size_a, k1, if_pos tB]; rfl
  have k3 : j2_59_e0 A B D = 0 := by
    rw [j2_59_e0, k1, if_pos tB]; rfl
  have k4 : j2_59_e1 A B D = 1 := by
    rw [j2_59_e1, k1, if_pos tB]; rfl
  refine ⟨?_, ?_, ?_, ?_⟩ <;> simp only [j2_59_e0_a, j2_59_e1_a, j2_59_e2, j2_59_size_b, k2, k3, k4, if_pos tD] <;> rfl
theorem own_iyyn (A B D : Int64) (tA : 0 < A) (tB : 0 < B) (tD : ¬ 0 < D) : j2_59_e0_a A B D = 0 ∧ j2_59_e1_a A B D = 1 ∧ j2_59_e2 A B D = 0 ∧ j2_59_size_b A B D = 2 := by
  have k1 : j2_59_size A B D = 1 := if_pos tA
  have k2 : j2_59_size_a A B D = 2 := by
    rw [j2_59_size_a, k1, if_pos tB]; rfl
  have k3 : j2_59_e0 A B D = 0 := by
    rw [j2_59_e0, k1, if_pos tB]; rfl
  have k4 : j2_59_e1 A B D = 1 := by
    rw [j2_59_e1, k1, if_pos tB]; rfl
  refine ⟨?_, ?_, ?_, ?_⟩ <;> simp only [j2_59_e0_a, j2_59_e1_a, j2_59_e2, j2_59_size_b, k2, k3, k4, if_neg tD] <;> rfl
theorem own_iyny (A B D : Int64) (tA : 0 < A) (tB : ¬ 0 < B) (tD : 0 < D) : j2_59_e0_a A B D = 0 ∧ j2_59_e1_a A B D = 2 ∧ j2_59_e2 A B D = 0 ∧ j2_59_size_b A B D = 2 := by
  have k1 : j2_59_size A B D = 1 := if_pos tA
  have k2 : j2_59_size_a A B D = 1 := by
    rw [j2_59_size_a, k1, if_neg tB]
  have k3 : j2_59_e0 A B D = 0 := by
    rw [j2_59_e0, k1, if_neg tB]
  have k4 : j2_59_e1 A B D = 0 := by
    rw [j2_59_e1, k1, if_neg tB]
  refine ⟨?_, ?_, ?_, ?_⟩ <;> simp only [j2_59_e0_a, j2_59_e1_a, j2_59_e2, j2_59_size_b, k2, k3, k4, if_pos tD] <;> rfl
theorem own_iynn (A B D : Int64) (tA : 0 < A) (tB : ¬ 0 < B) (tD : ¬ 0 < D) : j2_59_e0_a A B D = 0 ∧ j2_59_e1_a A B D = 0 ∧ j2_59_e2 A B D = 0 ∧ j2_59_size_b A B D = 1 := by
  have k1 : j2_59_size A B D = 1 := if_pos tA
  have k2 : j2_59_size_a A B D = 1 := by
    rw [j2_59_size_a, k1, if_neg tB]
  have k3 : j2_59_e0 A B D = 0 := by
    rw [j2_59_e0, k1, if_neg tB]
  have k4 : j2_59_e1 A B D = 0 := by
    rw [j2_59_e1, k1, if_neg tB]
  refine ⟨?_, ?_, ?_, ?_⟩ <;> simp only [j2_59_e0_a, j2_59_e1_a, j2_59_e2, j2_59_size_b, k2, k3, k4, if_neg tD] <;> rfl
theorem own_inyy (A B D : Int64) (tA : ¬ 0 < A) (tB : 0 < B) (tD : 0 < D) : j2_59_e0_a A B D = 1 ∧ j2_59_e1_a A B D = 2 ∧ j2_59_e2 A B D = 0 ∧ j2_59_size_b A B D = 2 := by
  have k1 : j2_59_size A B D = 0 := if_neg tA
  have k2 : j2_59_size_a A B D = 1 := by
    rw [j2_59_size_a, k1, if_pos tB]; rfl
  have k3 : j2_59_e0 A B D = 1 := by
    rw [j2_59_e0, k1, if_pos tB]; rfl
  have k4 : j2_59_e1 A B D = 0 := by
    rw [j2_59_e1, k1, if_pos tB]; rfl
  refine ⟨?_, ?_, ?_, ?_⟩ <;> simp only [j2_59_e0_a, j2_59_e1_a, j2_59_e2, j2_59_size_b, k2, k3, k4, if_pos tD] <;> rfl
theorem own_inyn (A B D : Int64) (tA : ¬ 0 < A) (tB : 0 < B) (tD : ¬ 0 < D) : j2_59_e0_a A B D = 1 ∧ j2_59_e1_a A B D = 0 ∧ j2_59_e2 A B D = 0 ∧ j2_59_size_b A B D = 1 := by
  have k1 : j2_59_size A B D = 0 := if_neg tA
  have k2 : j2_59_size_a A B D = 1 := by
    rw [j2_59_size_a, k1, if_pos tB]; rfl
  have k3 : j2_59_e0 A B D = 1 := by
    rw [j2_59_e0, k1, if_pos tB]; rfl
  have k4 : j2_59_e1 A B D = 0 := by
    rw [j2_59_e1, k1, if_pos tB]; rfl
  refine ⟨?_, ?_, ?_, ?_⟩ <;> simp only [j2_59_e0_a, j2_59_e1_a, j2_59_e2, j2_59_size_b, k2, k3, k4, if_neg tD] <;> rfl
theorem own_inny (A B D : Int64) (tA : ¬ 0 < A) (tB : ¬ 0 < B) (tD : 0 < D) : j2_59_e0_a A B D = 2 ∧ j2_59_e1_a A B D = 0 ∧ j2_59_e2 A B D = 0 ∧ j2_59_size_b A B D = 1 := by
  have k1 : j2_59_size A B D = 0 := if_neg tA
  have k2 : j2_59_size_a A B D = 0 := by
    rw [j2_59_size_a, k1, if_neg tB]
  have k3 : j2_59_e0 A B D = 0 := by
    rw [j2_59_e0, k1, if_neg tB]
  have k4 : j2_59_e1 A B D = 0 := by
    rw [j2_59_e1, k1, if_neg tB]
  refine ⟨?_, ?_, ?_, ?_⟩ <;> simp only [j2_59_e0_a, j2_59_e1_a, j2_59_e2, j2_59_size_b, k2, k3, k4, if_pos tD] <;> rfl
theorem own_innn (A B D : Int64) (tA : ¬ 0 < A) (tB : ¬ 0 < B) (tD : ¬ 0 < D) : j2_59_e0_a A B D = 0 ∧ j2_59_e1_a A B D = 0 ∧ j2_59_e2 A B D = 0 ∧ j2_59_size_b A B D = 0 := by
  have k1 : j2_59_size A B D = 0 := if_neg tA
  have k2 : j2_59_size_a A B D = 0 := by
    rw [j2_59_size_a, k1, if_neg tB]
  have k3 : j2_59_e0 A B D = 0 := by
    rw [j2_59_e0, k1, if_neg tB]
  have k4 : j2_59_e1 A B D = 0 := by
    rw [j2_59_e1, k1, if_neg tB]
  refine ⟨?_, ?_, ?_, ?_⟩ <;> simp only [j2_59_e0_a, j2_59_e1_a, j2_59_e2, j2_59_size_b, k2, k3, k4, if_neg tD] <;> rfl
section
variable (x0 x1 x2 : Int64)
def OwnS0 (A B D : Int64) (r0 r1 r2 s p : Int32) : Prop := (1 : Int32) = 1 ∧ w0_4 x0 x1 x2 = A ∧ w0_10 x0 x1 x2 = B ∧ w0_17 x0 x1 x2 = D ∧ o0_210_6_0 x0 x1 x2 = r0 ∧ o0_210_6_1 x0 x1 x2 = r1 ∧ o0_210_6_2 x0 x1 x2 = r2 ∧ o0_210_3 x0 x1 x2 = s ∧ (0 : Int32) = p
def OwnS1 (A B D : Int64) (r0 r1 r2 s p : Int32) : Prop := j0_247_16 x0 x1 x2 = 1 ∧ j0_247_e0_a x0 x1 x2 = A ∧ j0_247_e1_a x0 x1 x2 = B ∧ j0_247_e2_a x0 x1 x2 = D ∧ j0_247_e0 x0 x1 x2 = r0 ∧ j0_247_e1 x0 x1 x2 = r1 ∧ j0_247_e2 x0 x1 x2 = r2 ∧ j0_247_size x0 x1 x2 = s ∧ j0_247_place x0 x1 x2 = p
def OwnS2 (A B D : Int64) (r0 r1 r2 s p : Int32) : Prop := j0_277_16 x0 x1 x2 = 1 ∧ j0_277_e0_a x0 x1 x2 = A ∧ j0_277_e1_a x0 x1 x2 = B ∧ j0_277_e2_a x0 x1 x2 = D ∧ j0_277_e0 x0 x1 x2 = r0 ∧ j0_277_e1 x0 x1 x2 = r1 ∧ j0_277_e2 x0 x1 x2 = r2 ∧ j0_277_size x0 x1 x2 = s ∧ j0_277_place x0 x1 x2 = p
def OwnS3 (A B D : Int64) (r0 r1 r2 s p : Int32) : Prop := j0_307_16 x0 x1 x2 = 1 ∧ j0_307_e0_a x0 x1 x2 = A ∧ j0_307_e1_a x0 x1 x2 = B ∧ j0_307_e2_a x0 x1 x2 = D ∧ j0_307_e0 x0 x1 x2 = r0 ∧ j0_307_e1 x0 x1 x2 = r1 ∧ j0_307_e2 x0 x1 x2 = r2 ∧ j0_307_size x0 x1 x2 = s ∧ j0_307_place x0 x1 x2 = p
def OwnS4 (A B D : Int64) (r0 r1 r2 s p : Int32) : Prop := j0_337_16 x0 x1 x2 = 1 ∧ j0_337_e0_a x0 x1 x2 = A ∧ j0_337_e1_a x0 x1 x2 = B ∧ j0_337_e2_a x0 x1 x2 = D ∧ j0_337_e0 x0 x1 x2 = r0 ∧ j0_337_e1 x0 x1 x2 = r1 ∧ j0_337_e2 x0 x1 x2 = r2 ∧ j0_337_size x0 x1 x2 = s ∧ j0_337_place x0 x1 x2 = p
def OwnS5 (A B D : Int64) (r0 r1 r2 s p : Int32) : Prop := j0_367_16 x0 x1 x2 = 1 ∧ j0_367_e0_a x0 x1 x2 = A ∧ j0_367_e1_a x0 x1 x2 = B ∧ j0_367_e2_a x0 x1 x2 = D ∧ j0_367_e0 x0 x1 x2 = r0 ∧ j0_367_e1 x0 x1 x2 = r1 ∧ j0_367_e2 x0 x1 x2 = r2 ∧ j0_367_size x0 x1 x2 = s ∧ j0_367_place x0 x1 x2 = p
def OwnS6 (A B D : Int64) (r0 r1 r2 s p : Int32) : Prop := j0_397_16 x0 x1 x2 = 1 ∧ j0_397_e0_a x0 x1 x2 = A ∧ j0_397_e1_a x0 x1 x2 = B ∧ j0_397_e2_a x0 x1 x2 = D ∧ j0_397_e0 x0 x1 x2 = r0 ∧ j0_397_e1 x0 x1 x2 = r1 ∧ j0_397_e2 x0 x1 x2 = r2 ∧ j0_397_size x0 x1 x2 = s ∧ j0_397_place x0 x1 x2 = p
def OwnS7 (A B D : Int64) (r0 r1 r2 s p : Int32) : Prop := j0_429_16 x0 x1 x2 = 1 ∧ j0_429_e0_a x0 x1 x2 = A ∧ j0_429_e1_a x0 x1 x2 = B ∧ j0_429_e2_a x0 x1 x2 = D ∧ j0_429_e0 x0 x1 x2 = r0 ∧ j0_429_e1 x0 x1 x2 = r1 ∧ j0_429_e2 x0 x1 x2 = r2 ∧ j0_429_size x0 x1 x2 = s ∧ j0_429_place x0 x1 x2 = p
def OwnS8 (A B D : Int64) (r0 r1 r2 s p : Int32) : Prop := j0_461_16 x0 x1 x2 = 1 ∧ j0_461_e0_a x0 x1 x2 = A ∧ j0_461_e1_a x0 x1 x2 = B ∧ j0_461_e2_a x0 x1 x2 = D ∧ j0_461_e0 x0 x1 x2 = r0 ∧ j0_461_e1 x0 x1 x2 = r1 ∧ j0_461_e2 x0 x1 x2 = r2 ∧ j0_461_size x0 x1 x2 = s ∧ j0_461_place x0 x1 x2 = p
theorem own_st0 {A B D A' B' D' : Int64} {r0 r1 r2 s p r0' r1' r2' s' p' v : Int32} (hn : (0 : Int32) < j0_204_14 x0 x1 x2) (he : j0_204_e0 x0 x1 x2 = v) (q : OwnS0 x0 x1 x2 A B D r0 r1 r2 s p) (hx : NX A B D r0 r1 r2 s p A' B' D' r0' r1' r2' s' p' v) : OwnS1 x0 x1 x2 A' B' D' r0' r1' r2' s' p' := by
  obtain ⟨-, rfl, rfl, rfl, h3, h4, h5, h6, rfl⟩ := q
  have ok : j0_245_s0 x0 x1 x2 = 1 := by
    have e : v0_230 x0 x1 x2 = v := by rw [v0_230, h3, h4, h5, h6]; exact hx.2.2.2.2.2.2.2.2
    rw [j0_245_s0, e, he]; exact if_pos rfl
  refine ⟨?_, ?_, ?_, ?_, ?_, ?_, ?_, ?_, ?_⟩
  · rw [j0_247_16, if_pos hn]; exact ok
  · rw [j0_247_e0_a, if_pos hn, o0_230_4_0, h3, h4, h5, h6]; exact hx.1
  · rw [j0_247_e1_a, if_pos hn, o0_230_4_1, h3, h4, h5, h6]; exact hx.2.1
  · rw [j0_247_e2_a, if_pos hn, o0_230_4_2, h3, h4, h5, h6]; exact hx.2.2.1
  · rw [j0_247_e0, if_pos hn, o0_230_5_0, h3, h4, h5, h6]; exact hx.2.2.2.1
  · rw [j0_247_e1, if_pos hn, o0_230_5_1, h3, h4, h5, h6]; exact hx.2.2.2.2.1
  · rw [j0_247_e2, if_pos hn, o0_230_5_2, h3, h4, h5, h6]; exact hx.2.2.2.2.2.1
  · rw [j0_247_size, if_pos hn, o0_230_2, h3, h4, h5, h6]; exact hx.2.2.2.2.2.2.1
  · rw [j0_247_place, if_pos hn, o0_230_3, h3, h4, h5, h6]; exact hx.2.2.2.2.2.2.2.1
theorem own_sp0 (hn : ¬ (0 : Int32) < j0_204_14 x0 x1 x2) : j0_247_16 x0 x1 x2 = 1 := by
  rw [j0_247_16, if_neg hn]
theorem own_st1 {A B D A' B' D' : Int64} {r0 r1 r2 s p r0' r1' r2' s' p' v : Int32} (hn : (1 : Int32) < j0_204_14 x0 x1 x2) (he : j0_204_e1 x0 x1 x2 = v) (q : OwnS1 x0 x1 x2 A B D r0 r1 r2 s p) (hx : NX A B D r0 r1 r2 s p A' B' D' r0' r1' r2' s' p' v) : OwnS2 x0 x1 x2 A' B' D' r0' r1' r2' s' p' := by
  obtain ⟨k, h0, h1, h2, h3, h4, h5, h6, h7⟩ := q
  have ok : j0_275_s0 x0 x1 x2 = 1 := by
    have e : v0_260 x0 x1 x2 = v := by rw [v0_260, h0, h1, h2, h3, h4, h5, h6, h7]; exact hx.2.2.2.2.2.2.2.2
    rw [j0_275_s0, e, he]; exact if_pos rfl
  refine ⟨?_, ?_, ?_, ?_, ?_, ?_, ?_, ?_, ?_⟩
  · rw [j0_277_16, k, if_neg (by decide), if_pos hn]; exact ok
  · rw [j0_277_e0_a, k, if_neg (by decide), if_pos hn, o0_260_4_0, h0, h1, h2, h3, h4, h5, h6, h7]; exact hx.1
  · rw [j0_277_e1_a, k, if_neg (by decide), if_pos hn, o0_260_4_1, h0, h1, h2, h3, h4, h5, h6, h7]; exact hx.2.1
  · rw [j0_277_e2_a, k, if_neg (by decide), if_pos hn, o0_260_4_2, h0, h1, h2, h3, h4, h5, h6, h7]; exact hx.2.2.1
  · rw [j0_277_e0, k, if_neg (by decide), if_pos hn, o0_260_5_0, h0, h1, h2, h3, h4, h5, h6, h7]; exact hx.2.2.2.1
  · rw [j0_277_e1, k, if_neg (by decide), if_pos hn, o0_260_5_1, h0, h1, h2, h3, h4, h5, h6, h7]; exact hx.2.2.2.2.1
  · rw [j0_277_e2, k, if_neg (by decide), if_pos hn, o0_260_5_2, h0, h1, h2, h3, h4, h5, h6, h7]; exact hx.2.2.2.2.2.1
  · rw [j0_277_size, k, if_neg (by decide), if_pos hn, o0_260_2, h0, h1, h2, h3, h4, h5, h6, h7]; exact hx.2.2.2.2.2.2.1
  · rw [j0_277_place, k, if_neg (by decide), if_pos hn, o0_260_3, h0, h1, h2, h3, h4, h5, h6, h7]; exact hx.2.2.2.2.2.2.2.1
theorem own_sp1 (hn : ¬ (1 : Int32) < j0_204_14 x0 x1 x2) (k : j0_247_16 x0 x1 x2 = 1) : j0_277_16 x0 x1 x2 = 1 := by
  rw [j0_277_16, k, if_neg (by decide), if_neg hn]
theorem own_st2 {A B D A' B' D' : Int64} {r0 r1 r2 s p r0' r1' r2' s' p' v : Int32} (hn : (2 : Int32) < j0_204_14 x0 x1 x2) (he : j0_204_e2 x0 x1 x2 = v) (q : OwnS2 x0 x1 x2 A B D r0 r1 r2 s p) (hx : NX A B D r0 r1 r2 s p A' B' D' r0' r1' r2' s' p' v) : OwnS3 x0 x1 x2 A' B' D' r0' r1' r2' s' p' := by
  obtain ⟨k, h0, h1, h2, h3, h4, h5, h6, h7⟩ := q
  have ok : j0_305_s0 x0 x1 x2 = 1 := by
    have e : v0_290 x0 x1 x2 = v := by rw [v0_290, h0, h1, h2, h3, h4, h5, h6, h7]; exact hx.2.2.2.2.2.2.2.2
    rw [j0_305_s0, e, he]; exact if_pos rfl
  refine ⟨?_, ?_, ?_, ?_, ?_, ?_, ?_, ?_, ?_⟩
  · rw [j0_307_16, k, if_neg (by decide), if_pos hn]; exact ok
  · rw [j0_307_e0_a, k, if_neg (by decide), if_pos hn, o0_290_4_0, h0, h1, h2, h3, h4, h5, h6, h7]; exact hx.1
  · rw [j0_307_e1_a, k, if_neg (by decide), if_pos hn, o0_290_4_1, h0, h1, h2, h3, h4, h5, h6, h7]; exact hx.2.1
  · rw [j0_307_e2_a, k, if_neg (by decide), if_pos hn, o0_290_4_2, h0, h1, h2, h3, h4, h5, h6, h7]; exact hx.2.2.1
  · rw [j0_307_e0, k, if_neg (by decide), if_pos hn, o0_290_5_0, h0, h1, h2, h3, h4, h5, h6, h7]; exact hx.2.2.2.1
  · rw [j0_307_e1, k, if_neg (by decide), if_pos hn, o0_290_5_1, h0, h1, h2, h3, h4, h5, h6, h7]; exact hx.2.2.2.2.1
  · rw [j0_307_e2, k, if_neg (by decide), if_pos hn, o0_290_5_2, h0, h1, h2, h3, h4, h5, h6, h7]; exact hx.2.2.2.2.2.1
  · rw [j0_307_size, k, if_neg (by decide), if_pos hn, o0_290_2, h0, h1, h2, h3, h4, h5, h6, h7]; exact hx.2.2.2.2.2.2.1
  · rw [j0_307_place, k, if_neg (by decide), if_pos hn, o0_290_3, h0, h1, h2, h3, h4, h5, h6, h7]; exact hx.2.2.2.2.2.2.2.1
theorem own_sp2 (hn : ¬ (2 : Int32) < j0_204_14 x0 x1 x2) (k : j0_277_16 x0 x1 x2 = 1) : j0_307_16 x0 x1 x2 = 1 := by
  rw [j0_307_16, k, if_neg (by decide), if_neg hn]
theorem own_st3 {A B D A' B' D' : Int64} {r0 r1 r2 s p r0' r1' r2' s' p' v : Int32} (hn : (3 : Int32) < j0_204_14 x0 x1 x2) (he : j0_204_e3 x0 x1 x2 = v) (q : OwnS3 x0 x1 x2 A B D r0 r1 r2 s p) (hx : NX A B D r0 r1 r2 s p A' B' D' r0' r1' r2' s' p' v) : OwnS4 x0 x1 x2 A' B' D' r0' r1' r2' s' p' := by
  obtain ⟨k, h0, h1, h2, h3, h4, h5, h6, h7⟩ := q
  have ok : j0_335_s0 x0 x1 x2 = 1 := by
    have e : v0_320 x0 x1 x2 = v := by rw [v0_320, h0, h1, h2, h3, h4, h5, h6, h7]; exact hx.2.2.2.2.2.2.2.2
    rw [j0_335_s0, e, he]; exact if_pos rfl
  refine ⟨?_, ?_, ?_, ?_, ?_, ?_, ?_, ?_, ?_⟩
  · rw [j0_337_16, k, if_neg (by decide), if_pos hn]; exact ok
  · rw [j0_337_e0_a, k, if_neg (by decide), if_pos hn, o0_320_4_0, h0, h1, h2, h3, h4, h5, h6, h7]; exact hx.1
  · rw [j0_337_e1_a, k, if_neg (by decide), if_pos hn, o0_320_4_1, h0, h1, h2, h3, h4, h5, h6, h7]; exact hx.2.1
  · rw [j0_337_e2_a, k, if_neg (by decide), if_pos hn, o0_320_4_2, h0, h1, h2, h3, h4, h5, h6, h7]; exact hx.2.2.1
  · rw [j0_337_e0, k, if_neg (by decide), if_pos hn, o0_320_5_0, h0, h1, h2, h3, h4, h5, h6, h7]; exact hx.2.2.2.1
  · rw [j0_337_e1, k, if_neg (by decide), if_pos hn, o0_320_5_1, h0, h1, h2, h3, h4, h5, h6, h7]; exact hx.2.2.2.2.1
  · rw [j0_337_e2, k, if_neg (by decide), if_pos hn, o0_320_5_2, h0, h1, h2, h3, h4, h5, h6, h7]; exact hx.2.2.2.2.2.1
  · rw [j0_337_size, k, if_neg (by decide), if_pos hn, o0_320_2, h0, h1, h2, h3, h4, h5, h6, h7]; exact hx.2.2.2.2.2.2.1
  · rw [j0_337_place, k, if_neg (by decide), if_pos hn, o0_320_3, h0, h1, h2, h3, h4, h5, h6, h7]; exact hx.2.2.2.2.2.2.2.1
theorem own_sp3 (hn : ¬ (3 : Int32) < j0_204_14 x0 x1 x2) (k : j0_307_16 x0 x1 x2 = 1) : j0_337_16 x0 x1 x2 = 1 := by
  rw [j0_337_16, k, if_neg (by decide), if_neg hn]
theorem own_st4 {A B D A' B' D' : Int64} {r0 r1 r2 s p r0' r1' r2' s' p' v : Int32} (hn : (4 : Int32) < j0_204_14 x0 x1 x2) (he : j0_204_e4 x0 x1 x2 = v) (q : OwnS4 x0 x1 x2 A B D r0 r1 r2 s p) (hx : NX A B D r0 r1 r2 s p A' B' D' r0' r1' r2' s' p' v) : OwnS5 x0 x1 x2 A' B' D' r0' r1' r2' s' p' := by
  obtain ⟨k, h0, h1, h2, h3, h4, h5, h6, h7⟩ := q
  have ok : j0_365_s0 x0 x1 x2 = 1 := by
    have e : v0_350 x0 x1 x2 = v := by rw [v0_350, h0, h1, h2, h3, h4, h5, h6, h7]; exact hx.2.2.2.2.2.2.2.2
    rw [j0_365_s0, e, he]; exact if_pos rfl
  refine ⟨?_, ?_, ?_, ?_, ?_, ?_, ?_, ?_, ?_⟩
  · rw [j0_367_16, k, if_neg (by decide), if_pos hn]; exact ok
  · rw [j0_367_e0_a, k, if_neg (by decide), if_pos hn, o0_350_4_0, h0, h1, h2, h3, h4, h5, h6, h7]; exact hx.1
  · rw [j0_367_e1_a, k, if_neg (by decide), if_pos hn, o0_350_4_1, h0, h1, h2, h3, h4, h5, h6, h7]; exact hx.2.1
  · rw [j0_367_e2_a, k, if_neg (by decide), if_pos hn, o0_350_4_2, h0, h1, h2, h3, h4, h5, h6, h7]; exact hx.2.2.1
  · rw [j0_367_e0, k, if_neg (by decide), if_pos hn, o0_350_5_0, h0, h1, h2, h3, h4, h5, h6, h7]; exact hx.2.2.2.1
  · rw [j0_367_e1, k, if_neg (by decide), if_pos hn, o0_350_5_1, h0, h1, h2, h3, h4, h5, h6, h7]; exact hx.2.2.2.2.1
  · rw [j0_367_e2, k, if_neg (by decide), if_pos hn, o0_350_5_2, h0, h1, h2, h3, h4, h5, h6, h7]; exact hx.2.2.2.2.2.1
  · rw [j0_367_size, k, if_neg (by decide), if_pos hn, o0_350_2, h0, h1, h2, h3, h4, h5, h6, h7]; exact hx.2.2.2.2.2.2.1
  · rw [j0_367_place, k, if_neg (by decide), if_pos hn, o0_350_3, h0, h1, h2, h3, h4, h5, h6, h7]; exact hx.2.2.2.2.2.2.2.1
theorem own_sp4 (hn : ¬ (4 : Int32) < j0_204_14 x0 x1 x2) (k : j0_337_16 x0 x1 x2 = 1) : j0_367_16 x0 x1 x2 = 1 := by
  rw [j0_367_16, k, if_neg (by decide), if_neg hn]
theorem own_st5 {A B D A' B' D' : Int64} {r0 r1 r2 s p r0' r1' r2' s' p' v : Int32} (hn : (5 : Int32) < j0_204_14 x0 x1 x2) (he : j0_204_e5 x0 x1 x2 = v) (q : OwnS5 x0 x1 x2 A B D r0 r1 r2 s p) (hx : NX A B D r0 r1 r2 s p A' B' D' r0' r1' r2' s' p' v) : OwnS6 x0 x1 x2 A' B' D' r0' r1' r2' s' p' := by
  obtain ⟨k, h0, h1, h2, h3, h4, h5, h6, h7⟩ := q
  have ok : j0_395_s0 x0 x1 x2 = 1 := by
    have e : v0_380 x0 x1 x2 = v := by rw [v0_380, h0, h1, h2, h3, h4, h5, h6, h7]; exact hx.2.2.2.2.2.2.2.2
    rw [j0_395_s0, e, he]; exact if_pos rfl
  refine ⟨?_, ?_, ?_, ?_, ?_, ?_, ?_, ?_, ?_⟩
  · rw [j0_397_16, k, if_neg (by decide), if_pos hn]; exact ok
  · rw [j0_397_e0_a, k, if_neg (by decide), if_pos hn, o0_380_4_0, h0, h1, h2, h3, h4, h5, h6, h7]; exact hx.1
  · rw [j0_397_e1_a, k, if_neg (by decide), if_pos hn, o0_380_4_1, h0, h1, h2, h3, h4, h5, h6, h7]; exact hx.2.1
  · rw [j0_397_e2_a, k, if_neg (by decide), if_pos hn, o0_380_4_2, h0, h1, h2, h3, h4, h5, h6, h7]; exact hx.2.2.1
  · rw [j0_397_e0, k, if_neg (by decide), if_pos hn, o0_380_5_0, h0, h1, h2, h3, h4, h5, h6, h7]; exact hx.2.2.2.1
  · rw [j0_397_e1, k, if_neg (by decide), if_pos hn, o0_380_5_1, h0, h1, h2, h3, h4, h5, h6, h7]; exact hx.2.2.2.2.1
  · rw [j0_397_e2, k, if_neg (by decide), if_pos hn, o0_380_5_2, h0, h1, h2, h3, h4, h5, h6, h7]; exact hx.2.2.2.2.2.1
  · rw [j0_397_size, k, if_neg (by decide), if_pos hn, o0_380_2, h0, h1, h2, h3, h4, h5, h6, h7]; exact hx.2.2.2.2.2.2.1
  · rw [j0_397_place, k, if_neg (by decide), if_pos hn, o0_380_3, h0, h1, h2, h3, h4, h5, h6, h7]; exact hx.2.2.2.2.2.2.2.1
theorem own_sp5 (hn : ¬ (5 : Int32) < j0_204_14 x0 x1 x2) (k : j0_367_16 x0 x1 x2 = 1) : j0_397_16 x0 x1 x2 = 1 := by
  rw [j0_397_16, k, if_neg (by decide), if_neg hn]
theorem own_st6 {A B D A' B' D' : Int64} {r0 r1 r2 s p r0' r1' r2' s' p' v : Int32} (hn : (6 : Int32) < j0_204_14 x0 x1 x2) (he : j0_204_e6 x0 x1 x2 = v) (q : OwnS6 x0 x1 x2 A B D r0 r1 r2 s p) (hx : NX A B D r0 r1 r2 s p A' B' D' r0' r1' r2' s' p' v) : OwnS7 x0 x1 x2 A' B' D' r0' r1' r2' s' p' := by
  obtain ⟨k, h0, h1, h2, h3, h4, h5, h6, h7⟩ := q
  have ok : j0_427_s0 x0 x1 x2 = 1 := by
    have e : v0_411 x0 x1 x2 = v := by rw [v0_411, h0, h1, h2, h3, h4, h5, h6, h7]; exact hx.2.2.2.2.2.2.2.2
    rw [j0_427_s0, e, he]; exact if_pos rfl
  refine ⟨?_, ?_, ?_, ?_, ?_, ?_, ?_, ?_, ?_⟩
  · rw [j0_429_16, k, if_neg (by decide), if_pos hn]; exact ok
  · rw [j0_429_e0_a, k, if_neg (by decide), if_pos hn, o0_411_4_0, h0, h1, h2, h3, h4, h5, h6, h7]; exact hx.1
  · rw [j0_429_e1_a, k, if_neg (by decide), if_pos hn, o0_411_4_1, h0, h1, h2, h3, h4, h5, h6, h7]; exact hx.2.1
  · rw [j0_429_e2_a, k, if_neg (by decide), if_pos hn, o0_411_4_2, h0, h1, h2, h3, h4, h5, h6, h7]; exact hx.2.2.1
  · rw [j0_429_e0, k, if_neg (by decide), if_pos hn, o0_411_5_0, h0, h1, h2, h3, h4, h5, h6, h7]; exact hx.2.2.2.1
  · rw [j0_429_e1, k, if_neg (by decide), if_pos hn, o0_411_5_1, h0, h1, h2, h3, h4, h5, h6, h7]; exact hx.2.2.2.2.1
  · rw [j0_429_e2, k, if_neg (by decide), if_pos hn, o0_411_5_2, h0, h1, h2, h3, h4, h5, h6, h7]; exact hx.2.2.2.2.2.1
  · rw [j0_429_size, k, if_neg (by decide), if_pos hn, o0_411_2, h0, h1, h2, h3, h4, h5, h6, h7]; exact hx.2.2.2.2.2.2.1
  · rw [j0_429_place, k, if_neg (by decide), if_pos hn, o0_411_3, h0, h1, h2, h3, h4, h5, h6, h7]; exact hx.2.2.2.2.2.2.2.1
theorem own_sp6 (hn : ¬ (6 : Int32) < j0_204_14 x0 x1 x2) (k : j0_397_16 x0 x1 x2 = 1) : j0_429_16 x0 x1 x2 = 1 := by
  rw [j0_429_16, k, if_neg (by decide), if_neg hn]
theorem own_st7 {A B D A' B' D' : Int64} {r0 r1 r2 s p r0' r1' r2' s' p' v : Int32} (hn : (7 : Int32) < j0_204_14 x0 x1 x2) (he : j0_204_e7 x0 x1 x2 = v) (q : OwnS7 x0 x1 x2 A B D r0 r1 r2 s p) (hx : NX A B D r0 r1 r2 s p A' B' D' r0' r1' r2' s' p' v) : OwnS8 x0 x1 x2 A' B' D' r0' r1' r2' s' p' := by
  obtain ⟨k, h0, h1, h2, h3, h4, h5, h6, h7⟩ := q
  have ok : j0_459_s0 x0 x1 x2 = 1 := by
    have e : v0_443 x0 x1 x2 = v := by rw [v0_443, h0, h1, h2, h3, h4, h5, h6, h7]; exact hx.2.2.2.2.2.2.2.2
    rw [j0_459_s0, e, he]; exact if_pos rfl
  refine ⟨?_, ?_, ?_, ?_, ?_, ?_, ?_, ?_, ?_⟩
  · rw [j0_461_16, k, if_neg (by decide), if_pos hn]; exact ok
  · rw [j0_461_e0_a, k, if_neg (by decide), if_pos hn, o0_443_4_0, h0, h1, h2, h3, h4, h5, h6, h7]; exact hx.1
  · rw [j0_461_e1_a, k, if_neg (by decide), if_pos hn, o0_443_4_1, h0, h1, h2, h3, h4, h5, h6, h7]; exact hx.2.1
  · rw [j0_461_e2_a, k, if_neg (by decide), if_pos hn, o0_443_4_2, h0, h1, h2, h3, h4, h5, h6, h7]; exact hx.2.2.1
  · rw [j0_461_e0, k, if_neg (by decide), if_pos hn, o0_443_5_0, h0, h1, h2, h3, h4, h5, h6, h7]; exact hx.2.2.2.1
  · rw [j0_461_e1, k, if_neg (by decide), if_pos hn, o0_443_5_1, h0, h1, h2, h3, h4, h5, h6, h7]; exact hx.2.2.2.2.1
  · rw [j0_461_e2, k, if_neg (by decide), if_pos hn, o0_443_5_2, h0, h1, h2, h3, h4, h5, h6, h7]; exact hx.2.2.2.2.2.1
  · rw [j0_461_size, k, if_neg (by decide), if_pos hn, o0_443_2, h0, h1, h2, h3, h4, h5, h6, h7]; exact hx.2.2.2.2.2.2.1
  · rw [j0_461_place, k, if_neg (by decide), if_pos hn, o0_443_3, h0, h1, h2, h3, h4, h5, h6, h7]; exact hx.2.2.2.2.2.2.2.1
theorem own_sp7 (hn : ¬ (7 : Int32) < j0_204_14 x0 x1 x2) (k : j0_429_16 x0 x1 x2 = 1) : j0_461_16 x0 x1 x2 = 1 := by
  rw [j0_461_16, k, if_neg (by decide), if_neg hn]
theorem own_st8 {A B D A' B' D' : Int64} {r0 r1 r2 s p r0' r1' r2' s' p' v : Int32} (hn : (8 : Int32) < j0_204_14 x0 x1 x2) (he : j0_204_e8 x0 x1 x2 = v) (q : OwnS8 x0 x1 x2 A B D r0 r1 r2 s p) (hx : NX A B D r0 r1 r2 s p A' B' D' r0' r1' r2' s' p' v) : j0_493_16 x0 x1 x2 = 1 := by
  obtain ⟨k, h0, h1, h2, h3, h4, h5, h6, h7⟩ := q
  have ok : j0_491_s0 x0 x1 x2 = 1 := by
    have e : v0_475 x0 x1 x2 = v := by rw [v0_475, h0, h1, h2, h3, h4, h5, h6, h7]; exact hx.2.2.2.2.2.2.2.2
    rw [j0_491_s0, e, he]; exact if_pos rfl
  rw [j0_493_16, k, if_neg (by decide), if_pos hn]; exact ok
theorem own_sp8 (hn : ¬ (8 : Int32) < j0_204_14 x0 x1 x2) (k : j0_461_16 x0 x1 x2 = 1) : j0_493_16 x0 x1 x2 = 1 := by
  rw [j0_493_16, k, if_neg (by decide), if_neg hn]
def OwnV (r0 r1 r2 s p : Int32) : Prop := (p = 0 ∨ p = 1 ∨ p = 2) ∧ (r0 = 0 ∨ r0 = 1 ∨ r0 = 2) ∧ (r1 = 0 ∨ r1 = 1 ∨ r1 = 2) ∧ (r2 = 0 ∨ r2 = 1 ∨ r2 = 2) ∧ ¬ (3 : Int32) < s
instance (r0 r1 r2 s p : Int32) : Decidable (OwnV r0 r1 r2 s p) := by unfold OwnV; infer_instance
theorem own_sv0 {A B D : Int64} {r0 r1 r2 s p : Int32} (q : OwnS0 x0 x1 x2 A B D r0 r1 r2 s p) (h : OwnV r0 r1 r2 s p) : OwnV (o0_210_6_0 x0 x1 x2) (o0_210_6_1 x0 x1 x2) (o0_210_6_2 x0 x1 x2) (o0_210_3 x0 x1 x2) ((0 : Int32)) := by
  obtain ⟨-, -, -, -, h3, h4, h5, h6, rfl⟩ := q
  rw [h3, h4, h5, h6]; exact h
theorem own_sv1 {A B D : Int64} {r0 r1 r2 s p : Int32} (q : OwnS1 x0 x1 x2 A B D r0 r1 r2 s p) (h : OwnV r0 r1 r2 s p) : OwnV (j0_247_e0 x0 x1 x2) (j0_247_e1 x0 x1 x2) (j0_247_e2 x0 x1 x2) (j0_247_size x0 x1 x2) (j0_247_place x0 x1 x2) := by
  obtain ⟨-, -, -, -, h3, h4, h5, h6, h7⟩ := q
  rw [h3, h4, h5, h6, h7]; exact h
theorem own_sv2 {A B D : Int64} {r0 r1 r2 s p : Int32} (q : OwnS2 x0 x1 x2 A B D r0 r1 r2 s p) (h : OwnV r0 r1 r2 s p) : OwnV (j0_277_e0 x0 x1 x2) (j0_277_e1 x0 x1 x2) (j0_277_e2 x0 x1 x2) (j0_277_size x0 x1 x2) (j0_277_place x0 x1 x2) := by
  obtain ⟨-, -, -, -, h3, h4, h5, h6, h7⟩ := q
  rw [h3, h4, h5, h6, h7]; exact h
theorem own_sv3 {A B D : Int64} {r0 r1 r2 s p : Int32} (q : OwnS3 x0 x1 x2 A B D r0 r1 r2 s p) (h : OwnV r0 r1 r2 s p) : OwnV (j0_307_e0 x0 x1 x2) (j0_307_e1 x0 x1 x2) (j0_307_e2 x0 x1 x2) (j0_307_size x0 x1 x2) (j0_307_place x0 x1 x2) := by
  obtain ⟨-, -, -, -, h3, h4, h5, h6, h7⟩ := q
  rw [h3, h4, h5, h6, h7]; exact h
theorem own_sv4 {A B D : Int64} {r0 r1 r2 s p : Int32} (q : OwnS4 x0 x1 x2 A B D r0 r1 r2 s p) (h : OwnV r0 r1 r2 s p) : OwnV (j0_337_e0 x0 x1 x2) (j0_337_e1 x0 x1 x2) (j0_337_e2 x0 x1 x2) (j0_337_size x0 x1 x2) (j0_337_place x0 x1 x2) := by
  obtain ⟨-, -, -, -, h3, h4, h5, h6, h7⟩ := q
  rw [h3, h4, h5, h6, h7]; exact h
theorem own_sv5 {A B D : Int64} {r0 r1 r2 s p : Int32} (q : OwnS5 x0 x1 x2 A B D r0 r1 r2 s p) (h : OwnV r0 r1 r2 s p) : OwnV (j0_367_e0 x0 x1 x2) (j0_367_e1 x0 x1 x2) (j0_367_e2 x0 x1 x2) (j0_367_size x0 x1 x2) (j0_367_place x0 x1 x2) := by
  obtain ⟨-, -, -, -, h3, h4, h5, h6, h7⟩ := q
  rw [h3, h4, h5, h6, h7]; exact h
theorem own_sv6 {A B D : Int64} {r0 r1 r2 s p : Int32} (q : OwnS6 x0 x1 x2 A B D r0 r1 r2 s p) (h : OwnV r0 r1 r2 s p) : OwnV (j0_397_e0 x0 x1 x2) (j0_397_e1 x0 x1 x2) (j0_397_e2 x0 x1 x2) (j0_397_size x0 x1 x2) (j0_397_place x0 x1 x2) := by
  obtain ⟨-, -, -, -, h3, h4, h5, h6, h7⟩ := q
  rw [h3, h4, h5, h6, h7]; exact h
theorem own_sv7 {A B D : Int64} {r0 r1 r2 s p : Int32} (q : OwnS7 x0 x1 x2 A B D r0 r1 r2 s p) (h : OwnV r0 r1 r2 s p) : OwnV (j0_429_e0 x0 x1 x2) (j0_429_e1 x0 x1 x2) (j0_429_e2 x0 x1 x2) (j0_429_size x0 x1 x2) (j0_429_place x0 x1 x2) := by
  obtain ⟨-, -, -, -, h3, h4, h5, h6, h7⟩ := q
  rw [h3, h4, h5, h6, h7]; exact h
theorem own_sv8 {A B D : Int64} {r0 r1 r2 s p : Int32} (q : OwnS8 x0 x1 x2 A B D r0 r1 r2 s p) (h : OwnV r0 r1 r2 s p) : OwnV (j0_461_e0 x0 x1 x2) (j0_461_e1 x0 x1 x2) (j0_461_e2 x0 x1 x2) (j0_461_size x0 x1 x2) (j0_461_place x0 x1 x2) := by
  obtain ⟨-, -, -, -, h3, h4, h5, h6, h7⟩ := q
  rw [h3, h4, h5, h6, h7]; exact h
def OwnG : Prop := ((0 : Int32) < j0_204_14 x0 x1 x2 → OwnV (o0_210_6_0 x0 x1 x2) (o0_210_6_1 x0 x1 x2) (o0_210_6_2 x0 x1 x2) (o0_210_3 x0 x1 x2) ((0 : Int32))) ∧ ((1 : Int32) < j0_204_14 x0 x1 x2 → OwnV (j0_247_e0 x0 x1 x2) (j0_247_e1 x0 x1 x2) (j0_247_e2 x0 x1 x2) (j0_247_size x0 x1 x2) (j0_247_place x0 x1 x2)) ∧ ((2 : Int32) < j0_204_14 x0 x1 x2 → OwnV (j0_277_e0 x0 x1 x2) (j0_277_e1 x0 x1 x2) (j0_277_e2 x0 x1 x2) (j0_277_size x0 x1 x2) (j0_277_place x0 x1 x2)) ∧ ((3 : Int32) < j0_204_14 x0 x1 x2 → OwnV (j0_307_e0 x0 x1 x2) (j0_307_e1 x0 x1 x2) (j0_307_e2 x0 x1 x2) (j0_307_size x0 x1 x2) (j0_307_place x0 x1 x2)) ∧ ((4 : Int32) < j0_204_14 x0 x1 x2 → OwnV (j0_337_e0 x0 x1 x2) (j0_337_e1 x0 x1 x2) (j0_337_e2 x0 x1 x2) (j0_337_size x0 x1 x2) (j0_337_place x0 x1 x2)) ∧ ((5 : Int32) < j0_204_14 x0 x1 x2 → OwnV (j0_367_e0 x0 x1 x2) (j0_367_e1 x0 x1 x2) (j0_367_e2 x0 x1 x2) (j0_367_size x0 x1 x2) (j0_367_place x0 x1 x2)) ∧ ((6 : Int32) < j0_204_14 x0 x1 x2 → OwnV (j0_397_e0 x0 x1 x2) (j0_397_e1 x0 x1 x2) (j0_397_e2 x0 x1 x2) (j0_397_size x0 x1 x2) (j0_397_place x0 x1 x2)) ∧ ((7 : Int32) < j0_204_14 x0 x1 x2 → OwnV (j0_429_e0 x0 x1 x2) (j0_429_e1 x0 x1 x2) (j0_429_e2 x0 x1 x2) (j0_429_size x0 x1 x2) (j0_429_place x0 x1 x2)) ∧ ((8 : Int32) < j0_204_14 x0 x1 x2 → OwnV (j0_461_e0 x0 x1 x2) (j0_461_e1 x0 x1 x2) (j0_461_e2 x0 x1 x2) (j0_461_size x0 x1 x2) (j0_461_place x0 x1 x2)) ∧ j0_493_16 x0 x1 x2 = 1
theorem own_c000 (a1 : (w0_4 x0 x1 x2) < 1) (a2 : (w0_4 x0 x1 x2) < 2) (a3 : (w0_4 x0 x1 x2) < 3) (a4 : ¬ 0 < (w0_4 x0 x1 x2)) (b1 : (w0_10 x0 x1 x2) < 1) (b2 : (w0_10 x0 x1 x2) < 2) (b3 : (w0_10 x0 x1 x2) < 3) (b4 : ¬ 0 < (w0_10 x0 x1 x2)) (d1 : (w0_17 x0 x1 x2) < 1) (d2 : (w0_17 x0 x1 x2) < 2) (d3 : (w0_17 x0 x1 x2) < 3) (d4 : ¬ 0 < (w0_17 x0 x1 x2)) : OwnG x0 x1 x2 := by
  have q : OwnE8 x0 x1 x2 0 0 0 0 0 0 0 0 0 0 := (own_sk8 x0 x1 x2 d3 (own_sk7 x0 x1 x2 b3 (own_sk6 x0 x1 x2 a3 (own_sk5 x0 x1 x2 d2 (own_sk4 x0 x1 x2 b2 (own_sk3 x0 x1 x2 a2 (own_sk2 x0 x1 x2 d1 (own_sk1 x0 x1 x2 b1 (own_sk0 x0 x1 x2 a1)))))))))
  have hn := q.1
  have i0 := own_innn (w0_4 x0 x1 x2) (w0_10 x0 x1 x2) (w0_17 x0 x1 x2) a4 b4 d4
  have s0 : OwnS0 x0 x1 x2 (w0_4 x0 x1 x2) (w0_10 x0 x1 x2) (w0_17 x0 x1 x2) 0 0 0 0 0 := ⟨rfl, rfl, rfl, rfl, i0.1, i0.2.1, i0.2.2.1, i0.2.2.2, rfl⟩
  exact ⟨fun h => absurd (hn ▸ h) (by decide), fun h => absurd (hn ▸ h) (by decide), fun h => absurd (hn ▸ h) (by decide), fun h => absurd (hn ▸ h) (by decide), fun h => absurd (hn ▸ h) (by decide), fun h => absurd (hn ▸ h) (by decide), fun h => absurd (hn ▸ h) (by decide), fun h => absurd (hn ▸ h) (by decide), fun h => absurd (hn ▸ h) (by decide), (own_sp8 x0 x1 x2 (by rw [hn]; decide) (own_sp7 x0 x1 x2 (by rw [hn]; decide) (own_sp6 x0 x1 x2 (by rw [hn]; decide) (own_sp5 x0 x1 x2 (by rw [hn]; decide) (own_sp4 x0 x1 x2 (by rw [hn]; decide) (own_sp3 x0 x1 x2 (by rw [hn]; decide) (own_sp2 x0 x1 x2 (by rw [hn]; decide) (own_sp1 x0 x1 x2 (by rw [hn]; decide) (own_sp0 x0 x1 x2 (by rw [hn]; decide))))))))))⟩
theorem own_c001 (a1 : (w0_4 x0 x1 x2) < 1) (a2 : (w0_4 x0 x1 x2) < 2) (a3 : (w0_4 x0 x1 x2) < 3) (a4 : ¬ 0 < (w0_4 x0 x1 x2)) (b1 : (w0_10 x0 x1 x2) < 1) (b2 : (w0_10 x0 x1 x2) < 2) (b3 : (w0_10 x0 x1 x2) < 3) (b4 : ¬ 0 < (w0_10 x0 x1 x2)) (d1 : ¬ (w0_17 x0 x1 x2) < 1) (d2 : (w0_17 x0 x1 x2) < 2) (d3 : (w0_17 x0 x1 x2) < 3) (d4 : 0 < (w0_17 x0 x1 x2)) (d5 : ¬ 0 < (w0_17 x0 x1 x2) - 1) : OwnG x0 x1 x2 := by
  have q : OwnE8 x0 x1 x2 1 2 0 0 0 0 0 0 0 0 := (own_sk8 x0 x1 x2 d3 (own_sk7 x0 x1 x2 b3 (own_sk6 x0 x1 x2 a3 (own_sk5 x0 x1 x2 d2 (own_sk4 x0 x1 x2 b2 (own_sk3 x0 x1 x2 a2 (own_tk2_0 x0 x1 x2 d1 (own_sk1 x0 x1 x2 b1 (own_sk0 x0 x1 x2 a1)))))))))
  have hn := q.1
  have i0 := own_inny (w0_4 x0 x1 x2) (w0_10 x0 x1 x2) (w0_17 x0 x1 x2) a4 b4 d4
  have s0 : OwnS0 x0 x1 x2 (w0_4 x0 x1 x2) (w0_10 x0 x1 x2) (w0_17 x0 x1 x2) 2 0 0 1 0 := ⟨rfl, rfl, rfl, rfl, i0.1, i0.2.1, i0.2.2.1, i0.2.2.2, rfl⟩
  have s1 : OwnS1 x0 x1 x2 (w0_4 x0 x1 x2) (w0_10 x0 x1 x2) (w0_17 x0 x1 x2 - 1) 2 0 0 0 0 := own_st0 x0 x1 x2 (by rw [hn]; decide) q.2.1 s0 (own_x2_0_n (w0_4 x0 x1 x2) (w0_10 x0 x1 x2) (w0_17 x0 x1 x2) 0 0 d5)
  exact ⟨fun _ => own_sv0 x0 x1 x2 s0 (by decide), fun h => absurd (hn ▸ h) (by decide), fun h => absurd (hn ▸ h) (by decide), fun h => absurd (hn ▸ h) (by decide), fun h => absurd (hn ▸ h) (by decide), fun h => absurd (hn ▸ h) (by decide), fun h => absurd (hn ▸ h) (by decide), fun h => absurd (hn ▸ h) (by decide), fun h => absurd (hn ▸ h) (by decide), (own_sp8 x0 x1 x2 (by rw [hn]; decide) (own_sp7 x0 x1 x2 (by rw [hn]; decide) (own_sp6 x0 x1 x2 (by rw [hn]; decide) (own_sp5 x0 x1 x2 (by rw [hn]; decide) (own_sp4 x0 x1 x2 (by rw [hn]; decide) (own_sp3 x0 x1 x2 (by rw [hn]; decide) (own_sp2 x0 x1 x2 (by rw [hn]; decide) (own_sp1 x0 x1 x2 (by rw [hn]; decide) s1.1))))))))⟩
theorem own_c002 (a1 : (w0_4 x0 x1 x2) < 1) (a2 : (w0_4 x0 x1 x2) < 2) (a3 : (w0_4 x0 x1 x2) < 3) (a4 : ¬ 0 < (w0_4 x0 x1 x2)) (b1 : (w0_10 x0 x1 x2) < 1) (b2 : (w0_10 x0 x1 x2) < 2) (b3 : (w0_10 x0 x1 x2) < 3) (b4 : ¬ 0 < (w0_10 x0 x1 x2)) (d1 : ¬ (w0_17 x0 x1 x2) < 1) (d2 : ¬ (w0_17 x0 x1 x2) < 2) (d3 : (w0_17 x0 x1 x2) < 3) (d4 : 0 < (w0_17 x0 x1 x2)) (d5 : 0 < (w0_17 x0 x1 x2) - 1) (d6 : ¬ 0 < (w0_17 x0 x1 x2) - 1 - 1) : OwnG x0 x1 x2 := by
  have q : OwnE8 x0 x1 x2 2 2 2 0 0 0 0 0 0 0 := (own_sk8 x0 x1 x2 d3 (own_sk7 x0 x1 x2 b3 (own_sk6 x0 x1 x2 a3 (own_tk5_1 x0 x1 x2 d2 (own_sk4 x0 x1 x2 b2 (own_sk3 x0 x1 x2 a2 (own_tk2_0 x0 x1 x2 d1 (own_sk1 x0 x1 x2 b1 (own_sk0 x0 x1 x2 a1)))))))))
  have hn := q.1
  have i0 := own_inny (w0_4 x0 x1 x2) (w0_10 x0 x1 x2) (w0_17 x0 x1 x2) a4 b4 d4
  have s0 : OwnS0 x0 x1 x2 (w0_4 x0 x1 x2) (w0_10 x0 x1 x2) (w0_17 x0 x1 x2) 2 0 0 1 0 := ⟨rfl, rfl, rfl, rfl, i0.1, i0.2.1, i0.2.2.1, i0.2.2.2, rfl⟩
  have s1 : OwnS1 x0 x1 x2 (w0_4 x0 x1 x2) (w0_10 x0 x1 x2) (w0_17 x0 x1 x2 - 1) 2 0 0 1 0 := own_st0 x0 x1 x2 (by rw [hn]; decide) q.2.1 s0 (own_x2_0_y (w0_4 x0 x1 x2) (w0_10 x0 x1 x2) (w0_17 x0 x1 x2) 0 0 d5)
  have s2 : OwnS2 x0 x1 x2 (w0_4 x0 x1 x2) (w0_10 x0 x1 x2) (w0_17 x0 x1 x2 - 1 - 1) 2 0 0 0 0 := own_st1 x0 x1 x2 (by rw [hn]; decide) q.2.2.1 s1 (own_x2_0_n (w0_4 x0 x1 x2) (w0_10 x0 x1 x2) (w0_17 x0 x1 x2 - 1) 0 0 d6)
  exact ⟨fun _ => own_sv0 x0 x1 x2 s0 (by decide), fun _ => own_sv1 x0 x1 x2 s1 (by decide), fun h => absurd (hn ▸ h) (by decide), fun h => absurd (hn ▸ h) (by decide), fun h => absurd (hn ▸ h) (by decide), fun h => absurd (hn ▸ h) (by decide), fun h => absurd (hn ▸ h) (by decide), fun h => absurd (hn ▸ h) (by decide), fun h => absurd (hn ▸ h) (by decide), (own_sp8 x0 x1 x2 (by rw [hn]; decide) (own_sp7 x0 x1 x2 (by rw [hn]; decide) (own_sp6 x0 x1 x2 (by rw [hn]; decide) (own_sp5 x0 x1 x2 (by rw [hn]; decide) (own_sp4 x0 x1 x2 (by rw [hn]; decide) (own_sp3 x0 x1 x2 (by rw [hn]; decide) (own_sp2 x0 x1 x2 (by rw [hn]; decide) s2.1)))))))⟩
theorem own_c003 (a1 : (w0_4 x0 x1 x2) < 1) (a2 : (w0_4 x0 x1 x2) < 2) (a3 : (w0_4 x0 x1 x2) < 3) (a4 : ¬ 0 < (w0_4 x0 x1 x2)) (b1 : (w0_10 x0 x1 x2) < 1) (b2 : (w0_10 x0 x1 x2) < 2) (b3 : (w0_10 x0 x1 x2) < 3) (b4 : ¬ 0 < (w0_10 x0 x1 x2)) (d1 : ¬ (w0_17 x0 x1 x2) < 1) (d2 : ¬ (w0_17 x0 x1 x2) < 2) (d3 : ¬ (w0_17 x0 x1 x2) < 3) (d4 : 0 < (w0_17 x0 x1 x2)) (d5 : 0 < (w0_17 x0 x1 x2) - 1) (d6 : 0 < (w0_17 x0 x1 x2) - 1 - 1) : OwnG x0 x1 x2 := by
  have q : OwnE8 x0 x1 x2 3 2 2 2 0 0 0 0 0 0 := (own_tk8_2 x0 x1 x2 d3 (own_sk7 x0 x1 x2 b3 (own_sk6 x0 x1 x2 a3 (own_tk5_1 x0 x1 x2 d2 (own_sk4 x0 x1 x2 b2 (own_sk3 x0 x1 x2 a2 (own_tk2_0 x0 x1 x2 d1 (own_sk1 x0 x1 x2 b1 (own_sk0 x0 x1 x2 a1)))))))))
  have hn := q.1
  have i0 := own_inny (w0_4 x0 x1 x2) (w0_10 x0 x1 x2) (w0_17 x0 x1 x2) a4 b4 d4
  have s0 : OwnS0 x0 x1 x2 (w0_4 x0 x1 x2) (w0_10 x0 x1 x2) (w0_17 x0 x1 x2) 2 0 0 1 0 := ⟨rfl, rfl, rfl, rfl, i0.1, i0.2.1, i0.2.2.1, i0.2.2.2, rfl⟩
  have s1 : OwnS1 x0 x1 x2 (w0_4 x0 x1 x2) (w0_10 x0 x1 x2) (w0_17 x0 x1 x2 - 1) 2 0 0 1 0 := own_st0 x0 x1 x2 (by rw [hn]; decide) q.2.1 s0 (own_x2_0_y (w0_4 x0 x1 x2) (w0_10 x0 x1 x2) (w0_17 x0 x1 x2) 0 0 d5)
  have s2 : OwnS2 x0 x1 x2 (w0_4 x0 x1 x2) (w0_10 x0 x1 x2) (w0_17 x0 x1 x2 - 1 - 1) 2 0 0 1 0 := own_st1 x0 x1 x2 (by rw [hn]; decide) q.2.2.1 s1 (own_x2_0_y (w0_4 x0 x1 x2) (w0_10 x0 x1 x2) (w0_17 x0 x1 x2 - 1) 0 0 d6)
  have o3 : j0_307_16 x0 x1 x2 = 1 := by
    by_cases u0 : 0 < (w0_17 x0 x1 x2 - 1 - 1 - 1)
    · skip
      exact (own_st2 x0 x1 x2 (by rw [hn]; decide) q.2.2.2.1 s2 (own_x2_0_y (w0_4 x0 x1 x2) (w0_10 x0 x1 x2) (w0_17 x0 x1 x2 - 1 - 1) 0 0 u0)).1
    · skip
      exact (own_st2 x0 x1 x2 (by rw [hn]; decide) q.2.2.2.1 s2 (own_x2_0_n (w0_4 x0 x1 x2) (w0_10 x0 x1 x2) (w0_17 x0 x1 x2 - 1 - 1) 0 0 u0)).1
  exact ⟨fun _ => own_sv0 x0 x1 x2 s0 (by decide), fun _ => own_sv1 x0 x1 x2 s1 (by decide), fun _ => own_sv2 x0 x1 x2 s2 (by decide), fun h => absurd (hn ▸ h) (by decide), fun h => absurd (hn ▸ h) (by decide), fun h => absurd (hn ▸ h) (by decide), fun h => absurd (hn ▸ h) (by decide), fun h => absurd (hn ▸ h) (by decide), fun h => absurd (hn ▸ h) (by decide), (own_sp8 x0 x1 x2 (by rw [hn]; decide) (own_sp7 x0 x1 x2 (by rw [hn]; decide) (own_sp6 x0 x1 x2 (by rw [hn]; decide) (own_sp5 x0 x1 x2 (by rw [hn]; decide) (own_sp4 x0 x1 x2 (by rw [hn]; decide) (own_sp3 x0 x1 x2 (by rw [hn]; decide) o3))))))⟩
theorem own_c010 (a1 : (w0_4 x0 x1 x2) < 1) (a2 : (w0_4 x0 x1 x2) < 2) (a3 : (w0_4 x0 x1 x2) < 3) (a4 : ¬ 0 < (w0_4 x0 x1 x2)) (b1 : ¬ (w0_10 x0 x1 x2) < 1) (b2 : (w0_10 x0 x1 x2) < 2) (b3 : (w0_10 x0 x1 x2) < 3) (b4 : 0 < (w0_10 x0 x1 x2)) (b5 : ¬ 0 < (w0_10 x0 x1 x2) - 1) (d1 : (w0_17 x0 x1 x2) < 1) (d2 : (w0_17 x0 x1 x2) < 2) (d3 : (w0_17 x0 x1 x2) < 3) (d4 : ¬ 0 < (w0_17 x0 x1 x2)) : OwnG x0 x1 x2 := by
  have q : OwnE8 x0 x1 x2 1 1 0 0 0 0 0 0 0 0 := (own_sk8 x0 x1 x2 d3 (own_sk7 x0 x1 x2 b3 (own_sk6 x0 x1 x2 a3 (own_sk5 x0 x1 x2 d2 (own_sk4 x0 x1 x2 b2 (own_sk3 x0 x1 x2 a2 (own_sk2 x0 x1 x2 d1 (own_tk1_0 x0 x1 x2 b1 (own_sk0 x0 x1 x2 a1)))))))))
  have hn := q.1
  have i0 := own_inyn (w0_4 x0 x1 x2) (w0_10 x0 x1 x2) (w0_17 x0 x1 x2) a4 b4 d4
  have s0 : OwnS0 x0 x1 x2 (w0_4 x0 x1 x2) (w0_10 x0 x1 x2) (w0_17 x0 x1 x2) 1 0 0 1 0 := ⟨rfl, rfl, rfl, rfl, i0.1, i0.2.1, i0.2.2.1, i0.2.2.2, rfl⟩
  have s1 : OwnS1 x0 x1 x2 (w0_4 x0 x1 x2) (w0_10 x0 x1 x2 - 1) (w0_17 x0 x1 x2) 1 0 0 0 0 := own_st0 x0 x1 x2 (by rw [hn]; decide) q.2.1 s0 (own_x1_0_n (w0_4 x0 x1 x2) (w0_10 x0 x1 x2) (w0_17 x0 x1 x2) 0 0 b5)
  exact ⟨fun _ => own_sv0 x0 x1 x2 s0 (by decide), fun h => absurd (hn ▸ h) (by decide), fun h => absurd (hn ▸ h) (by decide), fun h => absurd (hn ▸ h) (by decide), fun h => absurd (hn ▸ h) (by decide), fun h => absurd (hn ▸ h) (by decide), fun h => absurd (hn ▸ h) (by decide), fun h => absurd (hn ▸ h) (by decide), fun h => absurd (hn ▸ h) (by decide), (own_sp8 x0 x1 x2 (by rw [hn]; decide) (own_sp7 x0 x1 x2 (by rw [hn]; decide) (own_sp6 x0 x1 x2 (by rw [hn]; decide) (own_sp5 x0 x1 x2 (by rw [hn]; decide) (own_sp4 x0 x1 x2 (by rw [hn]; decide) (own_sp3 x0 x1 x2 (by rw [hn]; decide) (own_sp2 x0 x1 x2 (by rw [hn]; decide) (own_sp1 x0 x1 x2 (by rw [hn]; decide) s1.1))))))))⟩
theorem own_c011 (a1 : (w0_4 x0 x1 x2) < 1) (a2 : (w0_4 x0 x1 x2) < 2) (a3 : (w0_4 x0 x1 x2) < 3) (a4 : ¬ 0 < (w0_4 x0 x1 x2)) (b1 : ¬ (w0_10 x0 x1 x2) < 1) (b2 : (w0_10 x0 x1 x2) < 2) (b3 : (w0_10 x0 x1 x2) < 3) (b4 : 0 < (w0_10 x0 x1 x2)) (b5 : ¬ 0 < (w0_10 x0 x1 x2) - 1) (d1 : ¬ (w0_17 x0 x1 x2) < 1) (d2 : (w0_17 x0 x1 x2) < 2) (d3 : (w0_17 x0 x1 x2) < 3) (d4 : 0 < (w0_17 x0 x1 x2)) (d5 : ¬ 0 < (w0_17 x0 x1 x2) - 1) : OwnG x0 x1 x2 := by
  have q : OwnE8 x0 x1 x2 2 1 2 0 0 0 0 0 0 0 := (own_sk8 x0 x1 x2 d3 (own_sk7 x0 x1 x2 b3 (own_sk6 x0 x1 x2 a3 (own_sk5 x0 x1 x2 d2 (own_sk4 x0 x1 x2 b2 (own_sk3 x0 x1 x2 a2 (own_tk2_1 x0 x1 x2 d1 (own_tk1_0 x0 x1 x2 b1 (own_sk0 x0 x1 x2 a1)))))))))
  have hn := q.1
  have i0 := own_inyy (w0_4 x0 x1 x2) (w0_10 x0 x1 x2) (w0_17 x0 x1 x2) a4 b4 d4
  have s0 : OwnS0 x0 x1 x2 (w0_4 x0 x1 x2) (w0_10 x0 x1 x2) (w0_17 x0 x1 x2) 1 2 0 2 0 := ⟨rfl, rfl, rfl, rfl, i0.1, i0.2.1, i0.2.2.1, i0.2.2.2, rfl⟩
  have s1 : OwnS1 x0 x1 x2 (w0_4 x0 x1 x2) (w0_10 x0 x1 x2 - 1) (w0_17 x0 x1 x2) 1 2 0 2 1 := own_st0 x0 x1 x2 (by rw [hn]; decide) q.2.1 s0 (own_x12_0_c (w0_4 x0 x1 x2) (w0_10 x0 x1 x2) (w0_17 x0 x1 x2) 0)
  have s2 : OwnS2 x0 x1 x2 (w0_4 x0 x1 x2) (w0_10 x0 x1 x2 - 1) (w0_17 x0 x1 x2 - 1) 1 2 0 0 0 := own_st1 x0 x1 x2 (by rw [hn]; decide) q.2.2.1 s1 (own_x12_1_nn (w0_4 x0 x1 x2) (w0_10 x0 x1 x2 - 1) (w0_17 x0 x1 x2) 0 b5 d5)
  exact ⟨fun _ => own_sv0 x0 x1 x2 s0 (by decide), fun _ => own_sv1 x0 x1 x2 s1 (by decide), fun h => absurd (hn ▸ h) (by decide), fun h => absurd (hn ▸ h) (by decide), fun h => absurd (hn ▸ h) (by decide), fun h => absurd (hn ▸ h) (by decide), fun h => absurd (hn ▸ h) (by decide), fun h => absurd (hn ▸ h) (by decide), fun h => absurd (hn ▸ h) (by decide), (own_sp8 x0 x1 x2 (by rw [hn]; decide) (own_sp7 x0 x1 x2 (by rw [hn]; decide) (own_sp6 x0 x1 x2 (by rw [hn]; decide) (own_sp5 x0 x1 x2 (by rw [hn]; decide) (own_sp4 x0 x1 x2 (by rw [hn]; decide) (own_sp3 x0 x1 x2 (by rw [hn]; decide) (own_sp2 x0 x1 x2 (by rw [hn]; decide) s2.1)))))))⟩
theorem own_c012 (a1 : (w0_4 x0 x1 x2) < 1) (a2 : (w0_4 x0 x1 x2) < 2) (a3 : (w0_4 x0 x1 x2) < 3) (a4 : ¬ 0 < (w0_4 x0 x1 x2)) (b1 : ¬ (w0_10 x0 x1 x2) < 1) (b2 : (w0_10 x0 x1 x2) < 2) (b3 : (w0_10 x0 x1 x2) < 3) (b4 : 0 < (w0_10 x0 x1 x2)) (b5 : ¬ 0 < (w0_10 x0 x1 x2) - 1) (d1 : ¬ (w0_17 x0 x1 x2) < 1) (d2 : ¬ (w0_17 x0 x1 x2) < 2) (d3 : (w0_17 x0 x1 x2) < 3) (d4 : 0 < (w0_17 x0 x1 x2)) (d5 : 0 < (w0_17 x0 x1 x2) - 1) (d6 : ¬ 0 < (w0_17 x0 x1 x2) - 1 - 1) : OwnG x0 x1 x2 := by
  have q : OwnE8 x0 x1 x2 3 1 2 2 0 0 0 0 0 0 := (own_sk8 x0 x1 x2 d3 (own_sk7 x0 x1 x2 b3 (own_sk6 x0 x1 x2 a3 (own_tk5_2 x0 x1 x2 d2 (own_sk4 x0 x1 x2 b2 (own_sk3 x0 x1 x2 a2 (own_tk2_1 x0 x1 x2 d1 (own_tk1_0 x0 x1 x2 b1 (own_sk0 x0 x1 x2 a1)))))))))
  have hn := q.1
  have i0 := own_inyy (w0_4 x0 x1 x2) (w0_10 x0 x1 x2) (w0_17 x0 x1 x2) a4 b4 d4
  have s0 : OwnS0 x0 x1 x2 (w0_4 x0 x1 x2) (w0_10 x0 x1 x2) (w0_17 x0 x1 x2) 1 2 0 2 0 := ⟨rfl, rfl, rfl, rfl, i0.1, i0.2.1, i0.2.2.1, i0.2.2.2, rfl⟩
  have s1 : OwnS1 x0 x1 x2 (w0_4 x0 x1 x2) (w0_10 x0 x1 x2 - 1) (w0_17 x0 x1 x2) 1 2 0 2 1 := own_st0 x0 x1 x2 (by rw [hn]; decide) q.2.1 s0 (own_x12_0_c (w0_4 x0 x1 x2) (w0_10 x0 x1 x2) (w0_17 x0 x1 x2) 0)
  have s2 : OwnS2 x0 x1 x2 (w0_4 x0 x1 x2) (w0_10 x0 x1 x2 - 1) (w0_17 x0 x1 x2 - 1) 2 2 0 1 0 := own_st1 x0 x1 x2 (by rw [hn]; decide) q.2.2.1 s1 (own_x12_1_ny (w0_4 x0 x1 x2) (w0_10 x0 x1 x2 - 1) (w0_17 x0 x1 x2) 0 b5 d5)
  have s3 : OwnS3 x0 x1 x2 (w0_4 x0 x1 x2) (w0_10 x0 x1 x2 - 1) (w0_17 x0 x1 x2 - 1 - 1) 2 2 0 0 0 := own_st2 x0 x1 x2 (by rw [hn]; decide) q.2.2.2.1 s2 (own_x2_0_n (w0_4 x0 x1 x2) (w0_10 x0 x1 x2 - 1) (w0_17 x0 x1 x2 - 1) 2 0 d6)
  exact ⟨fun _ => own_sv0 x0 x1 x2 s0 (by decide), fun _ => own_sv1 x0 x1 x2 s1 (by decide), fun _ => own_sv2 x0 x1 x2 s2 (by decide), fun h => absurd (hn ▸ h) (by decide), fun h => absurd (hn ▸ h) (by decide), fun h => absurd (hn ▸ h) (by decide), fun h => absurd (hn ▸ h) (by decide), fun h => absurd (hn ▸ h) (by decide), fun h => absurd (hn ▸ h) (by decide), (own_sp8 x0 x1 x2 (by rw [hn]; decide) (own_sp7 x0 x1 x2 (by rw [hn]; decide) (own_sp6 x0 x1 x2 (by rw [hn]; decide) (own_sp5 x0 x1 x2 (by rw [hn]; decide) (own_sp4 x0 x1 x2 (by rw [hn]; decide) (own_sp3 x0 x1 x2 (by rw [hn]; decide) s3.1))))))⟩
theorem own_c013 (a1 : (w0_4 x0 x1 x2) < 1) (a2 : (w0_4 x0 x1 x2) < 2) (a3 : (w0_4 x0 x1 x2) < 3) (a4 : ¬ 0 < (w0_4 x0 x1 x2)) (b1 : ¬ (w0_10 x0 x1 x2) < 1) (b2 : (w0_10 x0 x1 x2) < 2) (b3 : (w0_10 x0 x1 x2) < 3) (b4 : 0 < (w0_10 x0 x1 x2)) (b5 : ¬ 0 < (w0_10 x0 x1 x2) - 1) (d1 : ¬ (w0_17 x0 x1 x2) < 1) (d2 : ¬ (w0_17 x0 x1 x2) < 2) (d3 : ¬ (w0_17 x0 x1 x2) < 3) (d4 : 0 < (w0_17 x0 x1 x2)) (d5 : 0 < (w0_17 x0 x1 x2) - 1) (d6 : 0 < (w0_17 x0 x1 x2) - 1 - 1) : OwnG x0 x1 x2 := by
  have q : OwnE8 x0 x1 x2 4 1 2 2 2 0 0 0 0 0 := (own_tk8_3 x0 x1 x2 d3 (own_sk7 x0 x1 x2 b3 (own_sk6 x0 x1 x2 a3 (own_tk5_2 x0 x1 x2 d2 (own_sk4 x0 x1 x2 b2 (own_sk3 x0 x1 x2 a2 (own_tk2_1 x0 x1 x2 d1 (own_tk1_0 x0 x1 x2 b1 (own_sk0 x0 x1 x2 a1)))))))))
  have hn := q.1
  have i0 := own_inyy (w0_4 x0 x1 x2) (w0_10 x0 x1 x2) (w0_17 x0 x1 x2) a4 b4 d4
  have s0 : OwnS0 x0 x1 x2 (w0_4 x0 x1 x2) (w0_10 x0 x1 x2) (w0_17 x0 x1 x2) 1 2 0 2 0 := ⟨rfl, rfl, rfl, rfl, i0.1, i0.2.1, i0.2.2.1, i0.2.2.2, rfl⟩
  have s1 : OwnS1 x0 x1 x2 (w0_4 x0 x1 x2) (w0_10 x0 x1 x2 - 1) (w0_17 x0 x1 x2) 1 2 0 2 1 := own_st0 x0 x1 x2 (by rw [hn]; decide) q.2.1 s0 (own_x12_0_c (w0_4 x0 x1 x2) (w0_10 x0 x1 x2) (w0_17 x0 x1 x2) 0)
  have s2 : OwnS2 x0 x1 x2 (w0_4 x0 x1 x2) (w0_10 x0 x1 x2 - 1) (w0_17 x0 x1 x2 - 1) 2 2 0 1 0 := own_st1 x0 x1 x2 (by rw [hn]; decide) q.2.2.1 s1 (own_x12_1_ny (w0_4 x0 x1 x2) (w0_10 x0 x1 x2 - 1) (w0_17 x0 x1 x2) 0 b5 d5)
  have s3 : OwnS3 x0 x1 x2 (w0_4 x0 x1 x2) (w0_10 x0 x1 x2 - 1) (w0_17 x0 x1 x2 - 1 - 1) 2 2 0 1 0 := own_st2 x0 x1 x2 (by rw [hn]; decide) q.2.2.2.1 s2 (own_x2_0_y (w0_4 x0 x1 x2) (w0_10 x0 x1 x2 - 1) (w0_17 x0 x1 x2 - 1) 2 0 d6)
  have o4 : j0_337_16 x0 x1 x2 = 1 := by
    by_cases u0 : 0 < (w0_17 x0 x1 x2 - 1 - 1 - 1)
    · skip
      exact (own_st3 x0 x1 x2 (by rw [hn]; decide) q.2.2.2.2.1 s3 (own_x2_0_y (w0_4 x0 x1 x2) (w0_10 x0 x1 x2 - 1) (w0_17 x0 x1 x2 - 1 - 1) 2 0 u0)).1
    · skip
      exact (own_st3 x0 x1 x2 (by rw [hn]; decide) q.2.2.2.2.1 s3 (own_x2_0_n (w0_4 x0 x1 x2) (w0_10 x0 x1 x2 - 1) (w0_17 x0 x1 x2 - 1 - 1) 2 0 u0)).1
  exact ⟨fun _ => own_sv0 x0 x1 x2 s0 (by decide), fun _ => own_sv1 x0 x1 x2 s1 (by decide), fun _ => own_sv2 x0 x1 x2 s2 (by decide), fun _ => own_sv3 x0 x1 x2 s3 (by decide), fun h => absurd (hn ▸ h) (by decide), fun h => absurd (hn ▸ h) (by decide), fun h => absurd (hn ▸ h) (by decide), fun h => absurd (hn ▸ h) (by decide), fun h => absurd (hn ▸ h) (by decide), (own_sp8 x0 x1 x2 (by rw [hn]; decide) (own_sp7 x0 x1 x2 (by rw [hn]; decide) (own_sp6 x0 x1 x2 (by rw [hn]; decide) (own_sp5 x0 x1 x2 (by rw [hn]; decide) (own_sp4 x0 x1 x2 (by rw [hn]; decide) o4)))))⟩
theorem own_c020 (a1 : (w0_4 x0 x1 x2) < 1) (a2 : (w0_4 x0 x1 x2) < 2) (a3 : (w0_4 x0 x1 x2) < 3) (a4 : ¬ 0 < (w0_4 x0 x1 x2)) (b1 : ¬ (w0_10 x0 x1 x2) < 1) (b2 : ¬ (w0_10 x0 x1 x2) < 2) (b3 : (w0_10 x0 x1 x2) < 3) (b4 : 0 < (w0_10 x0 x1 x2)) (b5 : 0 < (w0_10 x0 x1 x2) - 1) (b6 : ¬ 0 < (w0_10 x0 x1 x2) - 1 - 1) (d1 : (w0_17 x0 x1 x2) < 1) (d2 : (w0_17 x0 x1 x2) < 2) (d3 : (w0_17 x0 x1 x2) < 3) (d4 : ¬ 0 < (w0_17 x0 x1 x2)) : OwnG x0 x1 x2 := by
  have q : OwnE8 x0 x1 x2 2 1 1 0 0 0 0 0 0 0 := (own_sk8 x0 x1 x2 d3 (own_sk7 x0 x1 x2 b3 (own_sk6 x0 x1 x2 a3 (own_sk5 x0 x1 x2 d2 (own_tk4_1 x0 x1 x2 b2 (own_sk3 x0 x1 x2 a2 (own_sk2 x0 x1 x2 d1 (own_tk1_0 x0 x1 x2 b1 (own_sk0 x0 x1 x2 a1)))))))))
  have hn := q.1
  have i0 := own_inyn (w0_4 x0 x1 x2) (w0_10 x0 x1 x2) (w0_17 x0 x1 x2) a4 b4 d4
  have s0 : OwnS0 x0 x1 x2 (w0_4 x0 x1 x2) (w0_10 x0 x1 x2) (w0_17 x0 x1 x2) 1 0 0 1 0 := ⟨rfl, rfl, rfl, rfl, i0.1, i0.2.1, i0.2.2.1, i0.2.2.2, rfl⟩
  have s1 : OwnS1 x0 x1 x2 (w0_4 x0 x1 x2) (w0_10 x0 x1 x2 - 1) (w0_17 x0 x1 x2) 1 0 0 1 0 := own_st0 x0 x1 x2 (by rw [hn]; decide) q.2.1 s0 (own_x1_0_y (w0_4 x0 x1 x2) (w0_10 x0 x1 x2) (w0_17 x0 x1 x2) 0 0 b5)
  have s2 : OwnS2 x0 x1 x2 (w0_4 x0 x1 x2) (w0_10 x0 x1 x2 - 1 - 1) (w0_17 x0 x1 x2) 1 0 0 0 0 := own_st1 x0 x1 x2 (by rw [hn]; decide) q.2.2.1 s1 (own_x1_0_n (w0_4 x0 x1 x2) (w0_10 x0 x1 x2 - 1) (w0_17 x0 x1 x2) 0 0 b6)
  exact ⟨fun _ => own_sv0 x0 x1 x2 s0 (by decide), fun _ => own_sv1 x0 x1 x2 s1 (by decide), fun h => absurd (hn ▸ h) (by decide), fun h => absurd (hn ▸ h) (by decide), fun h => absurd (hn ▸ h) (by decide), fun h => absurd (hn ▸ h) (by decide), fun h => absurd (hn ▸ h) (by decide), fun h => absurd (hn ▸ h) (by decide), fun h => absurd (hn ▸ h) (by decide), (own_sp8 x0 x1 x2 (by rw [hn]; decide) (own_sp7 x0 x1 x2 (by rw [hn]; decide) (own_sp6 x0 x1 x2 (by rw [hn]; decide) (own_sp5 x0 x1 x2 (by rw [hn]; decide) (own_sp4 x0 x1 x2 (by rw [hn]; decide) (own_sp3 x0 x1 x2 (by rw [hn]; decide) (own_sp2 x0 x1 x2 (by rw [hn]; decide) s2.1)))))))⟩
theorem own_c021 (a1 : (w0_4 x0 x1 x2) < 1) (a2 : (w0_4 x0 x1 x2) < 2) (a3 : (w0_4 x0 x1 x2) < 3) (a4 : ¬ 0 < (w0_4 x0 x1 x2)) (b1 : ¬ (w0_10 x0 x1 x2) < 1) (b2 : ¬ (w0_10 x0 x1 x2) < 2) (b3 : (w0_10 x0 x1 x2) < 3) (b4 : 0 < (w0_10 x0 x1 x2)) (b5 : 0 < (w0_10 x0 x1 x2) - 1) (b6 : ¬ 0 < (w0_10 x0 x1 x2) - 1 - 1) (d1 : ¬ (w0_17 x0 x1 x2) < 1) (d2 : (w0_17 x0 x1 x2) < 2) (d3 : (w0_17 x0 x1 x2) < 3) (d4 : 0 < (w0_17 x0 x1 x2)) (d5 : ¬ 0 < (w0_17 x0 x1 x2) - 1) : OwnG x0 x1 x2 := by
  have q : OwnE8 x0 x1 x2 3 1 2 1 0 0 0 0 0 0 := (own_sk8 x0 x1 x2 d3 (own_sk7 x0 x1 x2 b3 (own_sk6 x0 x1 x2 a3 (own_sk5 x0 x1 x2 d2 (own_tk4_2 x0 x1 x2 b2 (own_sk3 x0 x1 x2 a2 (own_tk2_1 x0 x1 x2 d1 (own_tk1_0 x0 x1 x2 b1 (own_sk0 x0 x1 x2 a1)))))))))
  have hn := q.1
  have i0 := own_inyy (w0_4 x0 x1 x2) (w0_10 x0 x1 x2) (w0_17 x0 x1 x2) a4 b4 d4
  have s0 : OwnS0 x0 x1 x2 (w0_4 x0 x1 x2) (w0_10 x0 x1 x2) (w0_17 x0 x1 x2) 1 2 0 2 0 := ⟨rfl, rfl, rfl, rfl, i0.1, i0.2.1, i0.2.2.1, i0.2.2.2, rfl⟩
  have s1 : OwnS1 x0 x1 x2 (w0_4 x0 x1 x2) (w0_10 x0 x1 x2 - 1) (w0_17 x0 x1 x2) 1 2 0 2 1 := own_st0 x0 x1 x2 (by rw [hn]; decide) q.2.1 s0 (own_x12_0_c (w0_4 x0 x1 x2) (w0_10 x0 x1 x2) (w0_17 x0 x1 x2) 0)
  have s2 : OwnS2 x0 x1 x2 (w0_4 x0 x1 x2) (w0_10 x0 x1 x2 - 1) (w0_17 x0 x1 x2 - 1) 1 2 0 1 0 := own_st1 x0 x1 x2 (by rw [hn]; decide) q.2.2.1 s1 (own_x12_1_yn (w0_4 x0 x1 x2) (w0_10 x0 x1 x2 - 1) (w0_17 x0 x1 x2) 0 b5 d5)
  have s3 : OwnS3 x0 x1 x2 (w0_4 x0 x1 x2) (w0_10 x0 x1 x2 - 1 - 1) (w0_17 x0 x1 x2 - 1) 1 2 0 0 0 := own_st2 x0 x1 x2 (by rw [hn]; decide) q.2.2.2.1 s2 (own_x1_0_n (w0_4 x0 x1 x2) (w0_10 x0 x1 x2 - 1) (w0_17 x0 x1 x2 - 1) 2 0 b6)
  exact ⟨fun _ => own_sv0 x0 x1 x2 s0 (by decide), fun _ => own_sv1 x0 x1 x2 s1 (by decide), fun _ => own_sv2 x0 x1 x2 s2 (by decide), fun h => absurd (hn ▸ h) (by decide), fun h => absurd (hn ▸ h) (by decide), fun h => absurd (hn ▸ h) (by decide), fun h => absurd (hn ▸ h) (by decide), fun h => absurd (hn ▸ h) (by decide), fun h => absurd (hn ▸ h) (by decide), (own_sp8 x0 x1 x2 (by rw [hn]; decide) (own_sp7 x0 x1 x2 (by rw [hn]; decide) (own_sp6 x0 x1 x2 (by rw [hn]; decide) (own_sp5 x0 x1 x2 (by rw [hn]; decide) (own_sp4 x0 x1 x2 (by rw [hn]; decide) (own_sp3 x0 x1 x2 (by rw [hn]; decide) s3.1))))))⟩
theorem own_c022 (a1 : (w0_4 x0 x1 x2) < 1) (a2 : (w0_4 x0 x1 x2) < 2) (a3 : (w0_4 x0 x1 x2) < 3) (a4 : ¬ 0 < (w0_4 x0 x1 x2)) (b1 : ¬ (w0_10 x0 x1 x2) < 1) (b2 : ¬ (w0_10 x0 x1 x2) < 2) (b3 : (w0_10 x0 x1 x2) < 3) (b4 : 0 < (w0_10 x0 x1 x2)) (b5 : 0 < (w0_10 x0 x1 x2) - 1) (b6 : ¬ 0 < (w0_10 x0 x1 x2) - 1 - 1) (d1 : ¬ (w0_17 x0 x1 x2) < 1) (d2 : ¬ (w0_17 x0 x1 x2) < 2) (d3 : (w0_17 x0 x1 x2) < 3) (d4 : 0 < (w0_17 x0 x1 x2)) (d5 : 0 < (w0_17 x0 x1 x2) - 1) (d6 : ¬ 0 < (w0_17 x0 x1 x2) - 1 - 1) : OwnG x0 x1 x2 := by
  have q : OwnE8 x0 x1 x2 4 1 2 1 2 0 0 0 0 0 := (own_sk8 x0 x1 x2 d3 (own_sk7 x0 x1 x2 b3 (own_sk6 x0 x1 x2 a3 (own_tk5_3 x0 x1 x2 d2 (own_tk4_2 x0 x1 x2 b2 (own_sk3 x0 x1 x2 a2 (own_tk2_1 x0 x1 x2 d1 (own_tk1_0 x0 x1 x2 b1 (own_sk0 x0 x1 x2 a1)))))))))
  have hn := q.1
  have i0 := own_inyy (w0_4 x0 x1 x2) (w0_10 x0 x1 x2) (w0_17 x0 x1 x2) a4 b4 d4
  have s0 : OwnS0 x0 x1 x2 (w0_4 x0 x1 x2) (w0_10 x0 x1 x2) (w0_17 x0 x1 x2) 1 2 0 2 0 := ⟨rfl, rfl, rfl, rfl, i0.1, i0.2.1, i0.2.2.1, i0.2.2.2, rfl⟩
  have s1 : OwnS1 x0 x1 x2 (w0_4 x0 x1 x2) (w0_10 x0 x1 x2 - 1) (w0_17 x0 x1 x2) 1 2 0 2 1 := own_st0 x0 x1 x2 (by rw [hn]; decide) q.2.1 s0 (own_x12_0_c (w0_4 x0 x1 x2) (w0_10 x0 x1 x2) (w0_17 x0 x1 x2) 0)
  have s2 : OwnS2 x0 x1 x2 (w0_4 x0 x1 x2) (w0_10 x0 x1 x2 - 1) (w0_17 x0 x1 x2 - 1) 1 2 0 2 0 := own_st1 x0 x1 x2 (by rw [hn]; decide) q.2.2.1 s1 (own_x12_1_yy (w0_4 x0 x1 x2) (w0_10 x0 x1 x2 - 1) (w0_17 x0 x1 x2) 0 b5 d5)
  have s3 : OwnS3 x0 x1 x2 (w0_4 x0 x1 x2) (w0_10 x0 x1 x2 - 1 - 1) (w0_17 x0 x1 x2 - 1) 1 2 0 2 1 := own_st2 x0 x1 x2 (by rw [hn]; decide) q.2.2.2.1 s2 (own_x12_0_c (w0_4 x0 x1 x2) (w0_10 x0 x1 x2 - 1) (w0_17 x0 x1 x2 - 1) 0)
  have s4 : OwnS4 x0 x1 x2 (w0_4 x0 x1 x2) (w0_10 x0 x1 x2 - 1 - 1) (w0_17 x0 x1 x2 - 1 - 1) 1 2 0 0 0 := own_st3 x0 x1 x2 (by rw [hn]; decide) q.2.2.2.2.1 s3 (own_x12_1_nn (w0_4 x0 x1 x2) (w0_10 x0 x1 x2 - 1 - 1) (w0_17 x0 x1 x2 - 1) 0 b6 d6)
  exact ⟨fun _ => own_sv0 x0 x1 x2 s0 (by decide), fun _ => own_sv1 x0 x1 x2 s1 (by decide), fun _ => own_sv2 x0 x1 x2 s2 (by decide), fun _ => own_sv3 x0 x1 x2 s3 (by decide), fun h => absurd (hn ▸ h) (by decide), fun h => absurd (hn ▸ h) (by decide), fun h => absurd (hn ▸ h) (by decide), fun h => absurd (hn ▸ h) (by decide), fun h => absurd (hn ▸ h) (by decide), (own_sp8 x0 x1 x2 (by rw [hn]; decide) (own_sp7 x0 x1 x2 (by rw [hn]; decide) (own_sp6 x0 x1 x2 (by rw [hn]; decide) (own_sp5 x0 x1 x2 (by rw [hn]; decide) (own_sp4 x0 x1 x2 (by rw [hn]; decide) s4.1)))))⟩
theorem own_c023 (a1 : (w0_4 x0 x1 x2) < 1) (a2 : (w0_4 x0 x1 x2) < 2) (a3 : (w0_4 x0 x1 x2) < 3) (a4 : ¬ 0 < (w0_4 x0 x1 x2)) (b1 : ¬ (w0_10 x0 x1 x2) < 1) (b2 : ¬ (w0_10 x0 x1 x2) < 2) (b3 : (w0_10 x0 x1 x2) < 3) (b4 : 0 < (w0_10 x0 x1 x2)) (b5 : 0 < (w0_10 x0 x1 x2) - 1) (b6 : ¬ 0 < (w0_10 x0 x1 x2) - 1 - 1) (d1 : ¬ (w0_17 x0 x1 x2) < 1) (d2 : ¬ (w0_17 x0 x1 x2) < 2) (d3 : ¬ (w0_17 x0 x1 x2) < 3) (d4 : 0 < (w0_17 x0 x1 x2)) (d5 : 0 < (w0_17 x0 x1 x2) - 1) (d6 : 0 < (w0_17 x0 x1 x2) - 1 - 1) : OwnG x0 x1 x2 := by
  have q : OwnE8 x0 x1 x2 5 1 2 1 2 2 0 0 0 0 := (own_tk8_4 x0 x1 x2 d3 (own_sk7 x0 x1 x2 b3 (own_sk6 x0 x1 x2 a3 (own_tk5_3 x0 x1 x2 d2 (own_tk4_2 x0 x1 x2 b2 (own_sk3 x0 x1 x2 a2 (own_tk2_1 x0 x1 x2 d1 (own_tk1_0 x0 x1 x2 b1 (own_sk0 x0 x1 x2 a1)))))))))
  have hn := q.1
  have i0 := own_inyy (w0_4 x0 x1 x2) (w0_10 x0 x1 x2) (w0_17 x0 x1 x2) a4 b4 d4
  have s0 : OwnS0 x0 x1 x2 (w0_4 x0 x1 x2) (w0_10 x0 x1 x2) (w0_17 x0 x1 x2) 1 2 0 2 0 := ⟨rfl, rfl, rfl, rfl, i0.1, i0.2.1, i0.2.2.1, i0.2.2.2, rfl⟩
  have s1 : OwnS1 x0 x1 x2 (w0_4 x0 x1 x2) (w0_10 x0 x1 x2 - 1) (w0_17 x0 x1 x2) 1 2 0 2 1 := own_st0 x0 x1 x2 (by rw [hn]; decide) q.2.1 s0 (own_x12_0_c (w0_4 x0 x1 x2) (w0_10 x0 x1 x2) (w0_17 x0 x1 x2) 0)
  have s2 : OwnS2 x0 x1 x2 (w0_4 x0 x1 x2) (w0_10 x0 x1 x2 - 1) (w0_17 x0 x1 x2 - 1) 1 2 0 2 0 := own_st1 x0 x1 x2 (by rw [hn]; decide) q.2.2.1 s1 (own_x12_1_yy (w0_4 x0 x1 x2) (w0_10 x0 x1 x2 - 1) (w0_17 x0 x1 x2) 0 b5 d5)
  have s3 : OwnS3 x0 x1 x2 (w0_4 x0 x1 x2) (w0_10 x0 x1 x2 - 1 - 1) (w0_17 x0 x1 x2 - 1) 1 2 0 2 1 := own_st2 x0 x1 x2 (by rw [hn]; decide) q.2.2.2.1 s2 (own_x12_0_c (w0_4 x0 x1 x2) (w0_10 x0 x1 x2 - 1) (w0_17 x0 x1 x2 - 1) 0)
  have s4 : OwnS4 x0 x1 x2 (w0_4 x0 x1 x2) (w0_10 x0 x1 x2 - 1 - 1) (w0_17 x0 x1 x2 - 1 - 1) 2 2 0 1 0 := own_st3 x0 x1 x2 (by rw [hn]; decide) q.2.2.2.2.1 s3 (own_x12_1_ny (w0_4 x0 x1 x2) (w0_10 x0 x1 x2 - 1 - 1) (w0_17 x0 x1 x2 - 1) 0 b6 d6)
  have o5 : j0_367_16 x0 x1 x2 = 1 := by
    by_cases u0 : 0 < (w0_17 x0 x1 x2 - 1 - 1 - 1)
    · skip
      exact (own_st4 x0 x1 x2 (by rw [hn]; decide) q.2.2.2.2.2.1 s4 (own_x2_0_y (w0_4 x0 x1 x2) (w0_10 x0 x1 x2 - 1 - 1) (w0_17 x0 x1 x2 - 1 - 1) 2 0 u0)).1
    · skip
      exact (own_st4 x0 x1 x2 (by rw [hn]; decide) q.2.2.2.2.2.1 s4 (own_x2_0_n (w0_4 x0 x1 x2) (w0_10 x0 x1 x2 - 1 - 1) (w0_17 x0 x1 x2 - 1 - 1) 2 0 u0)).1
  exact ⟨fun _ => own_sv0 x0 x1 x2 s0 (by decide), fun _ => own_sv1 x0 x1 x2 s1 (by decide), fun _ => own_sv2 x0 x1 x2 s2 (by decide), fun _ => own_sv3 x0 x1 x2 s3 (by decide), fun _ => own_sv4 x0 x1 x2 s4 (by decide), fun h => absurd (hn ▸ h) (by decide), fun h => absurd (hn ▸ h) (by decide), fun h => absurd (hn ▸ h) (by decide), fun h => absurd (hn ▸ h) (by decide), (own_sp8 x0 x1 x2 (by rw [hn]; decide) (own_sp7 x0 x1 x2 (by rw [hn]; decide) (own_sp6 x0 x1 x2 (by rw [hn]; decide) (own_sp5 x0 x1 x2 (by rw [hn]; decide) o5))))⟩
theorem own_c030 (a1 : (w0_4 x0 x1 x2) < 1) (a2 : (w0_4 x0 x1 x2) < 2) (a3 : (w0_4 x0 x1 x2) < 3) (a4 : ¬ 0 < (w0_4 x0 x1 x2)) (b1 : ¬ (w0_10 x0 x1 x2) < 1) (b2 : ¬ (w0_10 x0 x1 x2) < 2) (b3 : ¬ (w0_10 x0 x1 x2) < 3) (b4 : 0 < (w0_10 x0 x1 x2)) (b5 : 0 < (w0_10 x0 x1 x2) - 1) (b6 : 0 < (w0_10 x0 x1 x2) - 1 - 1) (d1 : (w0_17 x0 x1 x2) < 1) (d2 : (w0_17 x0 x1 x2) < 2) (d3 : (w0_17 x0 x1 x2) < 3) (d4 : ¬ 0 < (w0_17 x0 x1 x2)) : OwnG x0 x1 x2 := by
  have q : OwnE8 x0 x1 x2 3 1 1 1 0 0 0 0 0 0 := (own_sk8 x0 x1 x2 d3 (own_tk7_2 x0 x1 x2 b3 (own_sk6 x0 x1 x2 a3 (own_sk5 x0 x1 x2 d2 (own_tk4_1 x0 x1 x2 b2 (own_sk3 x0 x1 x2 a2 (own_sk2 x0 x1 x2 d1 (own_tk1_0 x0 x1 x2 b1 (own_sk0 x0 x1 x2 a1)))))))))
  have hn := q.1
  have i0 := own_inyn (w0_4 x0 x1 x2) (w0_10 x0 x1 x2) (w0_17 x0 x1 x2) a4 b4 d4
  have s0 : OwnS0 x0 x1 x2 (w0_4 x0 x1 x2) (w0_10 x0 x1 x2) (w0_17 x0 x1 x2) 1 0 0 1 0 := ⟨rfl, rfl, rfl, rfl, i0.1, i0.2.1, i0.2.2.1, i0.2.2.2, rfl⟩
  have s1 : OwnS1 x0 x1 x2 (w0_4 x0 x1 x2) (w0_10 x0 x1 x2 - 1) (w0_17 x0 x1 x2) 1 0 0 1 0 := own_st0 x0 x1 x2 (by rw [hn]; decide) q.2.1 s0 (own_x1_0_y (w0_4 x0 x1 x2) (w0_10 x0 x1 x2) (w0_17 x0 x1 x2) 0 0 b5)
  have s2 : OwnS2 x0 x1 x2 (w0_4 x0 x1 x2) (w0_10 x0 x1 x2 - 1 - 1) (w0_17 x0 x1 x2) 1 0 0 1 0 := own_st1 x0 x1 x2 (by rw [hn]; decide) q.2.2.1 s1 (own_x1_0_y (w0_4 x0 x1 x2) (w0_10 x0 x1 x2 - 1) (w0_17 x0 x1 x2) 0 0 b6)
  have o3 : j0_307_16 x0 x1 x2 = 1 := by
    by_cases u0 : 0 < (w0_10 x0 x1 x2 - 1 - 1 - 1)
    · skip
      exact (own_st2 x0 x1 x2 (by rw [hn]; decide) q.2.2.2.1 s2 (own_x1_0_y (w0_4 x0 x1 x2) (w0_10 x0 x1 x2 - 1 - 1) (w0_17 x0 x1 x2) 0 0 u0)).1
    · skip
      exact (own_st2 x0 x1 x2 (by rw [hn]; decide) q.2.2.2.1 s2 (own_x1_0_n (w0_4 x0 x1 x2) (w0_10 x0 x1 x2 - 1 - 1) (w0_17 x0 x1 x2) 0 0 u0)).1
  exact ⟨fun _ => own_sv0 x0 x1 x2 s0 (by decide), fun _ => own_sv1 x0 x1 x2 s1 (by decide), fun _ => own_sv2 x0 x1 x2 s2 (by decide), fun h => absurd (hn ▸ h) (by decide), fun h => absurd (hn ▸ h) (by decide), fun h => absurd (hn ▸ h) (by decide), fun h => absurd (hn ▸ h) (by decide), fun h => absurd (hn ▸ h) (by decide), fun h => absurd (hn ▸ h) (by decide), (own_sp8 x0 x1 x2 (by rw [hn]; decide) (own_sp7 x0 x1 x2 (by rw [hn]; decide) (own_sp6 x0 x1 x2 (by rw [hn]; decide) (own_sp5 x0 x1 x2 (by rw [hn]; decide) (own_sp4 x0 x1 x2 (by rw [hn]; decide) (own_sp3 x0 x1 x2 (by rw [hn]; decide) o3))))))⟩
theorem own_c031 (a1 : (w0_4 x0 x1 x2) < 1) (a2 : (w0_4 x0 x1 x2) < 2) (a3 : (w0_4 x0 x1 x2) < 3) (a4 : ¬ 0 < (w0_4 x0 x1 x2)) (b1 : ¬ (w0_10 x0 x1 x2) < 1) (b2 : ¬ (w0_10 x0 x1 x2) < 2) (b3 : ¬ (w0_10 x0 x1 x2) < 3) (b4 : 0 < (w0_10 x0 x1 x2)) (b5 : 0 < (w0_10 x0 x1 x2) - 1) (b6 : 0 < (w0_10 x0 x1 x2) - 1 - 1) (d1 : ¬ (w0_17 x0 x1 x2) < 1) (d2 : (w0_17 x0 x1 x2) < 2) (d3 : (w0_17 x0 x1 x2) < 3) (d4 : 0 < (w0_17 x0 x1 x2)) (d5 : ¬ 0 < (w0_17 x0 x1 x2) - 1) : OwnG x0 x1 x2 := by
  have q : OwnE8 x0 x1 x2 4 1 2 1 1 0 0 0 0 0 := (own_sk8 x0 x1 x2 d3 (own_tk7_3 x0 x1 x2 b3 (own_sk6 x0 x1 x2 a3 (own_sk5 x0 x1 x2 d2 (own_tk4_2 x0 x1 x2 b2 (own_sk3 x0 x1 x2 a2 (own_tk2_1 x0 x1 x2 d1 (own_tk1_0 x0 x1 x2 b1 (own_sk0 x0 x1 x2 a1)))))))))
  have hn := q.1
  have i0 := own_inyy (w0_4 x0 x1 x2) (w0_10 x0 x1 x2) (w0_17 x0 x1 x2) a4 b4 d4
  have s0 : OwnS0 x0 x1 x2 (w0_4 x0 x1 x2) (w0_10 x0 x1 x2) (w0_17 x0 x1 x2) 1 2 0 2 0 := ⟨rfl, rfl, rfl, rfl, i0.1, i0.2.1, i0.2.2.1, i0.2.2.2, rfl⟩
  have s1 : OwnS1 x0 x1 x2 (w0_4 x0 x1 x2) (w0_10 x0 x1 x2 - 1) (w0_17 x0 x1 x2) 1 2 0 2 1 := own_st0 x0 x1 x2 (by rw [hn]; decide) q.2.1 s0 (own_x12_0_c (w0_4 x0 x1 x2) (w0_10 x0 x1 x2) (w0_17 x0 x1 x2) 0)
  have s2 : OwnS2 x0 x1 x2 (w0_4 x0 x1 x2) (w0_10 x0 x1 x2 - 1) (w0_17 x0 x1 x2 - 1) 1 2 0 1 0 := own_st1 x0 x1 x2 (by rw [hn]; decide) q.2.2.1 s1 (own_x12_1_yn (w0_4 x0 x1 x2) (w0_10 x0 x1 x2 - 1) (w0_17 x0 x1 x2) 0 b5 d5)
  have s3 : OwnS3 x0 x1 x2 (w0_4 x0 x1 x2) (w0_10 x0 x1 x2 - 1 - 1) (w0_17 x0 x1 x2 - 1) 1 2 0 1 0 := own_st2 x0 x1 x2 (by rw [hn]; decide) q.2.2.2.1 s2 (own_x1_0_y (w0_4 x0 x1 x2) (w0_10 x0 x1 x2 - 1) (w0_17 x0 x1 x2 - 1) 2 0 b6)
  have o4 : j0_337_16 x0 x1 x2 = 1 := by
    by_cases u0 : 0 < (w0_10 x0 x1 x2 - 1 - 1 - 1)
    · skip
      exact (own_st3 x0 x1 x2 (by rw [hn]; decide) q.2.2.2.2.1 s3 (own_x1_0_y (w0_4 x0 x1 x2) (w0_10 x0 x1 x2 - 1 - 1) (w0_17 x0 x1 x2 - 1) 2 0 u0)).1
    · skip
      exact (own_st3 x0 x1 x2 (by rw [hn]; decide) q.2.2.2.2.1 s3 (own_x1_0_n (w0_4 x0 x1 x2) (w0_10 x0 x1 x2 - 1 - 1) (w0_17 x0 x1 x2 - 1) 2 0 u0)).1
  exact ⟨fun _ => own_sv0 x0 x1 x2 s0 (by decide), fun _ => own_sv1 x0 x1 x2 s1 (by decide), fun _ => own_sv2 x0 x1 x2 s2 (by decide), fun _ => own_sv3 x0 x1 x2 s3 (by decide), fun h => absurd (hn ▸ h) (by decide), fun h => absurd (hn ▸ h) (by decide), fun h => absurd (hn ▸ h) (by decide), fun h => absurd (hn ▸ h) (by decide), fun h => absurd (hn ▸ h) (by decide), (own_sp8 x0 x1 x2 (by rw [hn]; decide) (own_sp7 x0 x1 x2 (by rw [hn]; decide) (own_sp6 x0 x1 x2 (by rw [hn]; decide) (own_sp5 x0 x1 x2 (by rw [hn]; decide) (own_sp4 x0 x1 x2 (by rw [hn]; decide) o4)))))⟩
theorem own_c032 (a1 : (w0_4 x0 x1 x2) < 1) (a2 : (w0_4 x0 x1 x2) < 2) (a3 : (w0_4 x0 x1 x2) < 3) (a4 : ¬ 0 < (w0_4 x0 x1 x2)) (b1 : ¬ (w0_10 x0 x1 x2) < 1) (b2 : ¬ (w0_10 x0 x1 x2) < 2) (b3 : ¬ (w0_10 x0 x1 x2) < 3) (b4 : 0 < (w0_10 x0 x1 x2)) (b5 : 0 < (w0_10 x0 x1 x2) - 1) (b6 : 0 < (w0_10 x0 x1 x2) - 1 - 1) (d1 : ¬ (w0_17 x0 x1 x2) < 1) (d2 : ¬ (w0_17 x0 x1 x2) < 2) (d3 : (w0_17 x0 x1 x2) < 3) (d4 : 0 < (w0_17 x0 x1 x2)) (d5 : 0 < (w0_17 x0 x1 x2) - 1) (d6 : ¬ 0 < (w0_17 x0 x1 x2) - 1 - 1) : OwnG x0 x1 x2 := by
  have q : OwnE8 x0 x1 x2 5 1 2 1 2 1 0 0 0 0 := (own_sk8 x0 x1 x2 d3 (own_tk7_4 x0 x1 x2 b3 (own_sk6 x0 x1 x2 a3 (own_tk5_3 x0 x1 x2 d2 (own_tk4_2 x0 x1 x2 b2 (own_sk3 x0 x1 x2 a2 (own_tk2_1 x0 x1 x2 d1 (own_tk1_0 x0 x1 x2 b1 (own_sk0 x0 x1 x2 a1)))))))))
  have hn := q.1
  have i0 := own_inyy (w0_4 x0 x1 x2) (w0_10 x0 x1 x2) (w0_17 x0 x1 x2) a4 b4 d4
  have s0 : OwnS0 x0 x1 x2 (w0_4 x0 x1 x2) (w0_10 x0 x1 x2) (w0_17 x0 x1 x2) 1 2 0 2 0 := ⟨rfl, rfl, rfl, rfl, i0.1, i0.2.1, i0.2.2.1, i0.2.2.2, rfl⟩
  have s1 : OwnS1 x0 x1 x2 (w0_4 x0 x1 x2) (w0_10 x0 x1 x2 - 1) (w0_17 x0 x1 x2) 1 2 0 2 1 := own_st0 x0 x1 x2 (by rw [hn]; decide) q.2.1 s0 (own_x12_0_c (w0_4 x0 x1 x2) (w0_10 x0 x1 x2) (w0_17 x0 x1 x2) 0)
  have s2 : OwnS2 x0 x1 x2 (w0_4 x0 x1 x2) (w0_10 x0 x1 x2 - 1) (w0_17 x0 x1 x2 - 1) 1 2 0 2 0 := own_st1 x0 x1 x2 (by rw [hn]; decide) q.2.2.1 s1 (own_x12_1_yy (w0_4 x0 x1 x2) (w0_10 x0 x1 x2 - 1) (w0_17 x0 x1 x2) 0 b5 d5)
  have s3 : OwnS3 x0 x1 x2 (w0_4 x0 x1 x2) (w0_10 x0 x1 x2 - 1 - 1) (w0_17 x0 x1 x2 - 1) 1 2 0 2 1 := own_st2 x0 x1 x2 (by rw [hn]; decide) q.2.2.2.1 s2 (own_x12_0_c (w0_4 x0 x1 x2) (w0_10 x0 x1 x2 - 1) (w0_17 x0 x1 x2 - 1) 0)
  have s4 : OwnS4 x0 x1 x2 (w0_4 x0 x1 x2) (w0_10 x0 x1 x2 - 1 - 1) (w0_17 x0 x1 x2 - 1 - 1) 1 2 0 1 0 := own_st3 x0 x1 x2 (by rw [hn]; decide) q.2.2.2.2.1 s3 (own_x12_1_yn (w0_4 x0 x1 x2) (w0_10 x0 x1 x2 - 1 - 1) (w0_17 x0 x1 x2 - 1) 0 b6 d6)
  have o5 : j0_367_16 x0 x1 x2 = 1 := by
    by_cases u0 : 0 < (w0_10 x0 x1 x2 - 1 - 1 - 1)
    · skip
      exact (own_st4 x0 x1 x2 (by rw [hn]; decide) q.2.2.2.2.2.1 s4 (own_x1_0_y (w0_4 x0 x1 x2) (w0_10 x0 x1 x2 - 1 - 1) (w0_17 x0 x1 x2 - 1 - 1) 2 0 u0)).1
    · skip
      exact (own_st4 x0 x1 x2 (by rw [hn]; decide) q.2.2.2.2.2.1 s4 (own_x1_0_n (w0_4 x0 x1 x2) (w0_10 x0 x1 x2 - 1 - 1) (w0_17 x0 x1 x2 - 1 - 1) 2 0 u0)).1
  exact ⟨fun _ => own_sv0 x0 x1 x2 s0 (by decide), fun _ => own_sv1 x0 x1 x2 s1 (by decide), fun _ => own_sv2 x0 x1 x2 s2 (by decide), fun _ => own_sv3 x0 x1 x2 s3 (by decide), fun _ => own_sv4 x0 x1 x2 s4 (by decide), fun h => absurd (hn ▸ h) (by decide), fun h => absurd (hn ▸ h) (by decide), fun h => absurd (hn ▸ h) (by decide), fun h => absurd (hn ▸ h) (by decide), (own_sp8 x0 x1 x2 (by rw [hn]; decide) (own_sp7 x0 x1 x2 (by rw [hn]; decide) (own_sp6 x0 x1 x2 (by rw [hn]; decide) (own_sp5 x0 x1 x2 (by rw [hn]; decide) o5))))⟩
theorem own_c033 (a1 : (w0_4 x0 x1 x2) < 1) (a2 : (w0_4 x0 x1 x2) < 2) (a3 : (w0_4 x0 x1 x2) < 3) (a4 : ¬ 0 < (w0_4 x0 x1 x2)) (b1 : ¬ (w0_10 x0 x1 x2) < 1) (b2 : ¬ (w0_10 x0 x1 x2) < 2) (b3 : ¬ (w0_10 x0 x1 x2) < 3) (b4 : 0 < (w0_10 x0 x1 x2)) (b5 : 0 < (w0_10 x0 x1 x2) - 1) (b6 : 0 < (w0_10 x0 x1 x2) - 1 - 1) (d1 : ¬ (w0_17 x0 x1 x2) < 1) (d2 : ¬ (w0_17 x0 x1 x2) < 2) (d3 : ¬ (w0_17 x0 x1 x2) < 3) (d4 : 0 < (w0_17 x0 x1 x2)) (d5 : 0 < (w0_17 x0 x1 x2) - 1) (d6 : 0 < (w0_17 x0 x1 x2) - 1 - 1) : OwnG x0 x1 x2 := by
  have q : OwnE8 x0 x1 x2 6 1 2 1 2 1 2 0 0 0 := (own_tk8_5 x0 x1 x2 d3 (own_tk7_4 x0 x1 x2 b3 (own_sk6 x0 x1 x2 a3 (own_tk5_3 x0 x1 x2 d2 (own_tk4_2 x0 x1 x2 b2 (own_sk3 x0 x1 x2 a2 (own_tk2_1 x0 x1 x2 d1 (own_tk1_0 x0 x1 x2 b1 (own_sk0 x0 x1 x2 a1)))))))))
  have hn := q.1
  have i0 := own_inyy (w0_4 x0 x1 x2) (w0_10 x0 x1 x2) (w0_17 x0 x1 x2) a4 b4 d4
  have s0 : OwnS0 x0 x1 x2 (w0_4 x0 x1 x2) (w0_10 x0 x1 x2) (w0_17 x0 x1 x2) 1 2 0 2 0 := ⟨rfl, rfl, rfl, rfl, i0.1, i0.2.1, i0.2.2.1, i0.2.2.2, rfl⟩
  have s1 : OwnS1 x0 x1 x2 (w0_4 x0 x1 x2) (w0_10 x0 x1 x2 - 1) (w0_17 x0 x1 x2) 1 2 0 2 1 := own_st0 x0 x1 x2 (by rw [hn]; decide) q.2.1 s0 (own_x12_0_c (w0_4 x0 x1 x2) (w0_10 x0 x1 x2) (w0_17 x0 x1 x2) 0)
  have s2 : OwnS2 x0 x1 x2 (w0_4 x0 x1 x2) (w0_10 x0 x1 x2 - 1) (w0_17 x0 x1 x2 - 1) 1 2 0 2 0 := own_st1 x0 x1 x2 (by rw [hn]; decide) q.2.2.1 s1 (own_x12_1_yy (w0_4 x0 x1 x2) (w0_10 x0 x1 x2 - 1) (w0_17 x0 x1 x2) 0 b5 d5)
  have s3 : OwnS3 x0 x1 x2 (w0_4 x0 x1 x2) (w0_10 x0 x1 x2 - 1 - 1) (w0_17 x0 x1 x2 - 1) 1 2 0 2 1 := own_st2 x0 x1 x2 (by rw [hn]; decide) q.2.2.2.1 s2 (own_x12_0_c (w0_4 x0 x1 x2) (w0_10 x0 x1 x2 - 1) (w0_17 x0 x1 x2 - 1) 0)
  have s4 : OwnS4 x0 x1 x2 (w0_4 x0 x1 x2) (w0_10 x0 x1 x2 - 1 - 1) (w0_17 x0 x1 x2 - 1 - 1) 1 2 0 2 0 := own_st3 x0 x1 x2 (by rw [hn]; decide) q.2.2.2.2.1 s3 (own_x12_1_yy (w0_4 x0 x1 x2) (w0_10 x0 x1 x2 - 1 - 1) (w0_17 x0 x1 x2 - 1) 0 b6 d6)
  have s5 : OwnS5 x0 x1 x2 (w0_4 x0 x1 x2) (w0_10 x0 x1 x2 - 1 - 1 - 1) (w0_17 x0 x1 x2 - 1 - 1) 1 2 0 2 1 := own_st4 x0 x1 x2 (by rw [hn]; decide) q.2.2.2.2.2.1 s4 (own_x12_0_c (w0_4 x0 x1 x2) (w0_10 x0 x1 x2 - 1 - 1) (w0_17 x0 x1 x2 - 1 - 1) 0)
  have o6 : j0_397_16 x0 x1 x2 = 1 := by
    by_cases u0 : 0 < (w0_10 x0 x1 x2 - 1 - 1 - 1)
    · skip
      by_cases u1 : 0 < (w0_17 x0 x1 x2 - 1 - 1 - 1)
      · skip
        exact (own_st5 x0 x1 x2 (by rw [hn]; decide) q.2.2.2.2.2.2.1 s5 (own_x12_1_yy (w0_4 x0 x1 x2) (w0_10 x0 x1 x2 - 1 - 1 - 1) (w0_17 x0 x1 x2 - 1 - 1) 0 u0 u1)).1
      · skip
        exact (own_st5 x0 x1 x2 (by rw [hn]; decide) q.2.2.2.2.2.2.1 s5 (own_x12_1_yn (w0_4 x0 x1 x2) (w0_10 x0 x1 x2 - 1 - 1 - 1) (w0_17 x0 x1 x2 - 1 - 1) 0 u0 u1)).1
    · skip
      by_cases u1 : 0 < (w0_17 x0 x1 x2 - 1 - 1 - 1)
      · skip
        exact (own_st5 x0 x1 x2 (by rw [hn]; decide) q.2.2.2.2.2.2.1 s5 (own_x12_1_ny (w0_4 x0 x1 x2) (w0_10 x0 x1 x2 - 1 - 1 - 1) (w0_17 x0 x1 x2 - 1 - 1) 0 u0 u1)).1
      · skip
        exact (own_st5 x0 x1 x2 (by rw [hn]; decide) q.2.2.2.2.2.2.1 s5 (own_x12_1_nn (w0_4 x0 x1 x2) (w0_10 x0 x1 x2 - 1 - 1 - 1) (w0_17 x0 x1 x2 - 1 - 1) 0 u0 u1)).1
  exact ⟨fun _ => own_sv0 x0 x1 x2 s0 (by decide), fun _ => own_sv1 x0 x1 x2 s1 (by decide), fun _ => own_sv2 x0 x1 x2 s2 (by decide), fun _ => own_sv3 x0 x1 x2 s3 (by decide), fun _ => own_sv4 x0 x1 x2 s4 (by decide), fun _ => own_sv5 x0 x1 x2 s5 (by decide), fun h => absurd (hn ▸ h) (by decide), fun h => absurd (hn ▸ h) (by decide), fun h => absurd (hn ▸ h) (by decide), (own_sp8 x0 x1 x2 (by rw [hn]; decide) (own_sp7 x0 x1 x2 (by rw [hn]; decide) (own_sp6 x0 x1 x2 (by rw [hn]; decide) o6)))⟩
theorem own_c100 (a1 : ¬ (w0_4 x0 x1 x2) < 1) (a2 : (w0_4 x0 x1 x2) < 2) (a3 : (w0_4 x0 x1 x2) < 3) (a4 : 0 < (w0_4 x0 x1 x2)) (a5 : ¬ 0 < (w0_4 x0 x1 x2) - 1) (b1 : (w0_10 x0 x1 x2) < 1) (b2 : (w0_10 x0 x1 x2) < 2) (b3 : (w0_10 x0 x1 x2) < 3) (b4 : ¬ 0 < (w0_10 x0 x1 x2)) (d1 : (w0_17 x0 x1 x2) < 1) (d2 : (w0_17 x0 x1 x2) < 2) (d3 : (w0_17 x0 x1 x2) < 3) (d4 : ¬ 0 < (w0_17 x0 x1 x2)) : OwnG x0 x1 x2 := by
  have q : OwnE8 x0 x1 x2 1 0 0 0 0 0 0 0 0 0 := (own_sk8 x0 x1 x2 d3 (own_sk7 x0 x1 x2 b3 (own_sk6 x0 x1 x2 a3 (own_sk5 x0 x1 x2 d2 (own_sk4 x0 x1 x2 b2 (own_sk3 x0 x1 x2 a2 (own_sk2 x0 x1 x2 d1 (own_sk1 x0 x1 x2 b1 (own_tk0 x0 x1 x2 a1)))))))))
  have hn := q.1
  have i0 := own_iynn (w0_4 x0 x1 x2) (w0_10 x0 x1 x2) (w0_17 x0 x1 x2) a4 b4 d4
  have s0 : OwnS0 x0 x1 x2 (w0_4 x0 x1 x2) (w0_10 x0 x1 x2) (w0_17 x0 x1 x2) 0 0 0 1 0 := ⟨rfl, rfl, rfl, rfl, i0.1, i0.2.1, i0.2.2.1, i0.2.2.2, rfl⟩
  have s1 : OwnS1 x0 x1 x2 (w0_4 x0 x1 x2 - 1) (w0_10 x0 x1 x2) (w0_17 x0 x1 x2) 0 0 0 0 0 := own_st0 x0 x1 x2 (by rw [hn]; decide) q.2.1 s0 (own_x0_0_n (w0_4 x0 x1 x2) (w0_10 x0 x1 x2) (w0_17 x0 x1 x2) 0 0 a5)
  exact ⟨fun _ => own_sv0 x0 x1 x2 s0 (by decide), fun h => absurd (hn ▸ h) (by decide), fun h => absurd (hn ▸ h) (by decide), fun h => absurd (hn ▸ h) (by decide), fun h => absurd (hn ▸ h) (by decide), fun h => absurd (hn ▸ h) (by decide), fun h => absurd (hn ▸ h) (by decide), fun h => absurd (hn ▸ h) (by decide), fun h => absurd (hn ▸ h) (by decide), (own_sp8 x0 x1 x2 (by rw [hn]; decide) (own_sp7 x0 x1 x2 (by rw [hn]; decide) (own_sp6 x0 x1 x2 (by rw [hn]; decide) (own_sp5 x0 x1 x2 (by rw [hn]; decide) (own_sp4 x0 x1 x2 (by rw [hn]; decide) (own_sp3 x0 x1 x2 (by rw [hn]; decide) (own_sp2 x0 x1 x2 (by rw [hn]; decide) (own_sp1 x0 x1 x2 (by rw [hn]; decide) s1.1))))))))⟩
theorem own_c101 (a1 : ¬ (w0_4 x0 x1 x2) < 1) (a2 : (w0_4 x0 x1 x2) < 2) (a3 : (w0_4 x0 x1 x2) < 3) (a4 : 0 < (w0_4 x0 x1 x2)) (a5 : ¬ 0 < (w0_4 x0 x1 x2) - 1) (b1 : (w0_10 x0 x1 x2) < 1) (b2 : (w0_10 x0 x1 x2) < 2) (b3 : (w0_10 x0 x1 x2) < 3) (b4 : ¬ 0 < (w0_10 x0 x1 x2)) (d1 : ¬ (w0_17 x0 x1 x2) < 1) (d2 : (w0_17 x0 x1 x2) < 2) (d3 : (w0_17 x0 x1 x2) < 3) (d4 : 0 < (w0_17 x0 x1 x2)) (d5 : ¬ 0 < (w0_17 x0 x1 x2) - 1) : OwnG x0 x1 x2 := by
  have q : OwnE8 x0 x1 x2 2 0 2 0 0 0 0 0 0 0 := (own_sk8 x0 x1 x2 d3 (own_sk7 x0 x1 x2 b3 (own_sk6 x0 x1 x2 a3 (own_sk5 x0 x1 x2 d2 (own_sk4 x0 x1 x2 b2 (own_sk3 x0 x1 x2 a2 (own_tk2_1 x0 x1 x2 d1 (own_sk1 x0 x1 x2 b1 (own_tk0 x0 x1 x2 a1)))))))))
  have hn := q.1
  have i0 := own_iyny (w0_4 x0 x1 x2) (w0_10 x0 x1 x2) (w0_17 x0 x1 x2) a4 b4 d4
  have s0 : OwnS0 x0 x1 x2 (w0_4 x0 x1 x2) (w0_10 x0 x1 x2) (w0_17 x0 x1 x2) 0 2 0 2 0 := ⟨rfl, rfl, rfl, rfl, i0.1, i0.2.1, i0.2.2.1, i0.2.2.2, rfl⟩
  have s1 : OwnS1 x0 x1 x2 (w0_4 x0 x1 x2 - 1) (w0_10 x0 x1 x2) (w0_17 x0 x1 x2) 0 2 0 2 1 := own_st0 x0 x1 x2 (by rw [hn]; decide) q.2.1 s0 (own_x02_0_c (w0_4 x0 x1 x2) (w0_10 x0 x1 x2) (w0_17 x0 x1 x2) 0)
  have s2 : OwnS2 x0 x1 x2 (w0_4 x0 x1 x2 - 1) (w0_10 x0 x1 x2) (w0_17 x0 x1 x2 - 1) 0 2 0 0 0 := own_st1 x0 x1 x2 (by rw [hn]; decide) q.2.2.1 s1 (own_x02_1_nn (w0_4 x0 x1 x2 - 1) (w0_10 x0 x1 x2) (w0_17 x0 x1 x2) 0 a5 d5)
  exact ⟨fun _ => own_sv0 x0 x1 x2 s0 (by decide), fun _ => own_sv1 x0 x1 x2 s1 (by decide), fun h => absurd (hn ▸ h) (by decide), fun h => absurd (hn ▸ h) (by decide), fun h => absurd (hn ▸ h) (by decide), fun h => absurd (hn ▸ h) (by decide), fun h => absurd (hn ▸ h) (by decide), fun h => absurd (hn ▸ h) (by decide), fun h => absurd (hn ▸ h) (by decide), (own_sp8 x0 x1 x2 (by rw [hn]; decide) (own_sp7 x0 x1 x2 (by rw [hn]; decide) (own_sp6 x0 x1 x2 (by rw [hn]; decide) (own_sp5 x0 x1 x2 (by rw [hn]; decide) (own_sp4 x0 x1 x2 (by rw [hn]; decide) (own_sp3 x0 x1 x2 (by rw [hn]; decide) (own_sp2 x0 x1 x2 (by rw [hn]; decide) s2.1)))))))⟩
theorem own_c102 (a1 : ¬ (w0_4 x0 x1 x2) < 1) (a2 : (w0_4 x0 x1 x2) < 2) (a3 : (w0_4 x0 x1 x2) < 3) (a4 : 0 < (w0_4 x0 x1 x2)) (a5 : ¬ 0 < (w0_4 x0 x1 x2) - 1) (b1 : (w0_10 x0 x1 x2) < 1) (b2 : (w0_10 x0 x1 x2) < 2) (b3 : (w0_10 x0 x1 x2) < 3) (b4 : ¬ 0 < (w0_10 x0 x1 x2)) (d1 : ¬ (w0_17 x0 x1 x2) < 1) (d2 : ¬ (w0_17 x0 x1 x2) < 2) (d3 : (w0_17 x0 x1 x2) < 3) (d4 : 0 < (w0_17 x0 x1 x2)) (d5 : 0 < (w0_17 x0 x1 x2) - 1) (d6 : ¬ 0 < (w0_17 x0 x1 x2) - 1 - 1) : OwnG x0 x1 x2 := by
  have q : OwnE8 x0 x1 x2 3 0 2 2 0 0 0 0 0 0 := (own_sk8 x0 x1 x2 d3 (own_sk7 x0 x1 x2 b3 (own_sk6 x0 x1 x2 a3 (own_tk5_2 x0 x1 x2 d2 (own_sk4 x0 x1 x2 b2 (own_sk3 x0 x1 x2 a2 (own_tk2_1 x0 x1 x2 d1 (own_sk1 x0 x1 x2 b1 (own_tk0 x0 x1 x2 a1)))))))))
  have hn := q.1
  have i0 := own_iyny (w0_4 x0 x1 x2) (w0_10 x0 x1 x2) (w0_17 x0 x1 x2) a4 b4 d4
  have s0 : OwnS0 x0 x1 x2 (w0_4 x0 x1 x2) (w0_10 x0 x1 x2) (w0_17 x0 x1 x2) 0 2 0 2 0 := ⟨rfl, rfl, rfl, rfl, i0.1, i0.2.1, i0.2.2.1, i0.2.2.2, rfl⟩
  have s1 : OwnS1 x0 x1 x2 (w0_4 x0 x1 x2 - 1) (w0_10 x0 x1 x2) (w0_17 x0 x1 x2) 0 2 0 2 1 := own_st0 x0 x1 x2 (by rw [hn]; decide) q.2.1 s0 (own_x02_0_c (w0_4 x0 x1 x2) (w0_10 x0 x1 x2) (w0_17 x0 x1 x2) 0)
  have s2 : OwnS2 x0 x1 x2 (w0_4 x0 x1 x2 - 1) (w0_10 x0 x1 x2) (w0_17 x0 x1 x2 - 1) 2 2 0 1 0 := own_st1 x0 x1 x2 (by rw [hn]; decide) q.2.2.1 s1 (own_x02_1_ny (w0_4 x0 x1 x2 - 1) (w0_10 x0 x1 x2) (w0_17 x0 x1 x2) 0 a5 d5)
  have s3 : OwnS3 x0 x1 x2 (w0_4 x0 x1 x2 - 1) (w0_10 x0 x1 x2) (w0_17 x0 x1 x2 - 1 - 1) 2 2 0 0 0 := own_st2 x0 x1 x2 (by rw [hn]; decide) q.2.2.2.1 s2 (own_x2_0_n (w0_4 x0 x1 x2 - 1) (w0_10 x0 x1 x2) (w0_17 x0 x1 x2 - 1) 2 0 d6)
  exact ⟨fun _ => own_sv0 x0 x1 x2 s0 (by decide), fun _ => own_sv1 x0 x1 x2 s1 (by decide), fun _ => own_sv2 x0 x1 x2 s2 (by decide), fun h => absurd (hn ▸ h) (by decide), fun h => absurd (hn ▸ h) (by decide), fun h => absurd (hn ▸ h) (by decide), fun h => absurd (hn ▸ h) (by decide), fun h => absurd (hn ▸ h) (by decide), fun h => absurd (hn ▸ h) (by decide), (own_sp8 x0 x1 x2 (by rw [hn]; decide) (own_sp7 x0 x1 x2 (by rw [hn]; decide) (own_sp6 x0 x1 x2 (by rw [hn]; decide) (own_sp5 x0 x1 x2 (by rw [hn]; decide) (own_sp4 x0 x1 x2 (by rw [hn]; decide) (own_sp3 x0 x1 x2 (by rw [hn]; decide) s3.1))))))⟩
theorem own_c103 (a1 : ¬ (w0_4 x0 x1 x2) < 1) (a2 : (w0_4 x0 x1 x2) < 2) (a3 : (w0_4 x0 x1 x2) < 3) (a4 : 0 < (w0_4 x0 x1 x2)) (a5 : ¬ 0 < (w0_4 x0 x1 x2) - 1) (b1 : (w0_10 x0 x1 x2) < 1) (b2 : (w0_10 x0 x1 x2) < 2) (b3 : (w0_10 x0 x1 x2) < 3) (b4 : ¬ 0 < (w0_10 x0 x1 x2)) (d1 : ¬ (w0_17 x0 x1 x2) < 1) (d2 : ¬ (w0_17 x0 x1 x2) < 2) (d3 : ¬ (w0_17 x0 x1 x2) < 3) (d4 : 0 < (w0_17 x0 x1 x2)) (d5 : 0 < (w0_17 x0 x1 x2) - 1) (d6 : 0 < (w0_17 x0 x1 x2) - 1 - 1) : OwnG x0 x1 x2 := by
  have q : OwnE8 x0 x1 x2 4 0 2 2 2 0 0 0 0 0 := (own_tk8_3 x0 x1 x2 d3 (own_sk7 x0 x1 x2 b3 (own_sk6 x0 x1 x2 a3 (own_tk5_2 x0 x1 x2 d2 (own_sk4 x0 x1 x2 b2 (own_sk3 x0 x1 x2 a2 (own_tk2_1 x0 x1 x2 d1 (own_sk1 x0 x1 x2 b1 (own_tk0 x0 x1 x2 a1)))))))))
  have hn := q.1
  have i0 := own_iyny (w0_4 x0 x1 x2) (w0_10 x0 x1 x2) (w0_17 x0 x1 x2) a4 b4 d4
  have s0 : OwnS0 x0 x1 x2 (w0_4 x0 x1 x2) (w0_10 x0 x1 x2) (w0_17 x0 x1 x2) 0 2 0 2 0 := ⟨rfl, rfl, rfl, rfl, i0.1, i0.2.1, i0.2.2.1, i0.2.2.2, rfl⟩
  have s1 : OwnS1 x0 x1 x2 (w0_4 x0 x1 x2 - 1) (w0_10 x0 x1 x2) (w0_17 x0 x1 x2) 0 2 0 2 1 := own_st0 x0 x1 x2 (by rw [hn]; decide) q.2.1 s0 (own_x02_0_c (w0_4 x0 x1 x2) (w0_10 x0 x1 x2) (w0_17 x0 x1 x2) 0)
  have s2 : OwnS2 x0 x1 x2 (w0_4 x0 x1 x2 - 1) (w0_10 x0 x1 x2) (w0_17 x0 x1 x2 - 1) 2 2 0 1 0 := own_st1 x0 x1 x2 (by rw [hn]; decide) q.2.2.1 s1 (own_x02_1_ny (w0_4 x0 x1 x2 - 1) (w0_10 x0 x1 x2) (w0_17 x0 x1 x2) 0 a5 d5)
  have s3 : OwnS3 x0 x1 x2 (w0_4 x0 x1 x2 - 1) (w0_10 x0 x1 x2) (w0_17 x0 x1 x2 - 1 - 1) 2 2 0 1 0 := own_st2 x0 x1 x2 (by rw [hn]; decide) q.2.2.2.1 s2 (own_x2_0_y (w0_4 x0 x1 x2 - 1) (w0_10 x0 x1 x2) (w0_17 x0 x1 x2 - 1) 2 0 d6)
  have o4 : j0_337_16 x0 x1 x2 = 1 := by
    by_cases u0 : 0 < (w0_17 x0 x1 x2 - 1 - 1 - 1)
    · skip
      exact (own_st3 x0 x1 x2 (by rw [hn]; decide) q.2.2.2.2.1 s3 (own_x2_0_y (w0_4 x0 x1 x2 - 1) (w0_10 x0 x1 x2) (w0_17 x0 x1 x2 - 1 - 1) 2 0 u0)).1
    · skip
      exact (own_st3 x0 x1 x2 (by rw [hn]; decide) q.2.2.2.2.1 s3 (own_x2_0_n (w0_4 x0 x1 x2 - 1) (w0_10 x0 x1 x2) (w0_17 x0 x1 x2 - 1 - 1) 2 0 u0)).1
  exact ⟨fun _ => own_sv0 x0 x1 x2 s0 (by decide), fun _ => own_sv1 x0 x1 x2 s1 (by decide), fun _ => own_sv2 x0 x1 x2 s2 (by decide), fun _ => own_sv3 x0 x1 x2 s3 (by decide), fun h => absurd (hn ▸ h) (by decide), fun h => absurd (hn ▸ h) (by decide), fun h => absurd (hn ▸ h) (by decide), fun h => absurd (hn ▸ h) (by decide), fun h => absurd (hn ▸ h) (by decide), (own_sp8 x0 x1 x2 (by rw [hn]; decide) (own_sp7 x0 x1 x2 (by rw [hn]; decide) (own_sp6 x0 x1 x2 (by rw [hn]; decide) (own_sp5 x0 x1 x2 (by rw [hn]; decide) (own_sp4 x0 x1 x2 (by rw [hn]; decide) o4)))))⟩
theorem own_c110 (a1 : ¬ (w0_4 x0 x1 x2) < 1) (a2 : (w0_4 x0 x1 x2) < 2) (a3 : (w0_4 x0 x1 x2) < 3) (a4 : 0 < (w0_4 x0 x1 x2)) (a5 : ¬ 0 < (w0_4 x0 x1 x2) - 1) (b1 : ¬ (w0_10 x0 x1 x2) < 1) (b2 : (w0_10 x0 x1 x2) < 2) (b3 : (w0_10 x0 x1 x2) < 3) (b4 : 0 < (w0_10 x0 x1 x2)) (b5 : ¬ 0 < (w0_10 x0 x1 x2) - 1) (d1 : (w0_17 x0 x1 x2) < 1) (d2 : (w0_17 x0 x1 x2) < 2) (d3 : (w0_17 x0 x1 x2) < 3) (d4 : ¬ 0 < (w0_17 x0 x1 x2)) : OwnG x0 x1 x2 := by
  have q : OwnE8 x0 x1 x2 2 0 1 0 0 0 0 0 0 0 := (own_sk8 x0 x1 x2 d3 (own_sk7 x0 x1 x2 b3 (own_sk6 x0 x1 x2 a3 (own_sk5 x0 x1 x2 d2 (own_sk4 x0 x1 x2 b2 (own_sk3 x0 x1 x2 a2 (own_sk2 x0 x1 x2 d1 (own_tk1_1 x0 x1 x2 b1 (own_tk0 x0 x1 x2 a1)))))))))
  have hn := q.1
  have i0 := own_iyyn (w0_4 x0 x1 x2) (w0_10 x0 x1 x2) (w0_17 x0 x1 x2) a4 b4 d4
  have s0 : OwnS0 x0 x1 x2 (w0_4 x0 x1 x2) (w0_10 x0 x1 x2) (w0_17 x0 x1 x2) 0 1 0 2 0 := ⟨rfl, rfl, rfl, rfl, i0.1, i0.2.1, i0.2.2.1, i0.2.2.2, rfl⟩
  have s1 : OwnS1 x0 x1 x2 (w0_4 x0 x1 x2 - 1) (w0_10 x0 x1 x2) (w0_17 x0 x1 x2) 0 1 0 2 1 := own_st0 x0 x1 x2 (by rw [hn]; decide) q.2.1 s0 (own_x01_0_c (w0_4 x0 x1 x2) (w0_10 x0 x1 x2) (w0_17 x0 x1 x2) 0)
  have s2 : OwnS2 x0 x1 x2 (w0_4 x0 x1 x2 - 1) (w0_10 x0 x1 x2 - 1) (w0_17 x0 x1 x2) 0 1 0 0 0 := own_st1 x0 x1 x2 (by rw [hn]; decide) q.2.2.1 s1 (own_x01_1_nn (w0_4 x0 x1 x2 - 1) (w0_10 x0 x1 x2) (w0_17 x0 x1 x2) 0 a5 b5)
  exact ⟨fun _ => own_sv0 x0 x1 x2 s0 (by decide), fun _ => own_sv1 x0 x1 x2 s1 (by decide), fun h => absurd (hn ▸ h) (by decide), fun h => absurd (hn ▸ h) (by decide), fun h => absurd (hn ▸ h) (by decide), fun h => absurd (hn ▸ h) (by decide), fun h => absurd (hn ▸ h) (by decide), fun h => absurd (hn ▸ h) (by decide), fun h => absurd (hn ▸ h) (by decide), (own_sp8 x0 x1 x2 (by rw [hn]; decide) (own_sp7 x0 x1 x2 (by rw [hn]; decide) (own_sp6 x0 x1 x2 (by rw [hn]; decide) (own_sp5 x0 x1 x2 (by rw [hn]; decide) (own_sp4 x0 x1 x2 (by rw [hn]; decide) (own_sp3 x0 x1 x2 (by rw [hn]; decide) (own_sp2 x0 x1 x2 (by rw [hn]; decide) s2.1)))))))⟩
theorem own_c111 (a1 : ¬ (w0_4 x0 x1 x2) < 1) (a2 : (w0_4 x0 x1 x2) < 2) (a3 : (w0_4 x0 x1 x2) < 3) (a4 : 0 < (w0_4 x0 x1 x2)) (a5 : ¬ 0 < (w0_4 x0 x1 x2) - 1) (b1 : ¬ (w0_10 x0 x1 x2) < 1) (b2 : (w0_10 x0 x1 x2) < 2) (b3 : (w0_10 x0 x1 x2) < 3) (b4 : 0 < (w0_10 x0 x1 x2)) (b5 : ¬ 0 < (w0_10 x0 x1 x2) - 1) (d1 : ¬ (w0_17 x0 x1 x2) < 1) (d2 : (w0_17 x0 x1 x2) < 2) (d3 : (w0_17 x0 x1 x2) < 3) (d4 : 0 < (w0_17 x0 x1 x2)) (d5 : ¬ 0 < (w0_17 x0 x1 x2) - 1) : OwnG x0 x1 x2 := by
  have q : OwnE8 x0 x1 x2 3 0 1 2 0 0 0 0 0 0 := (own_sk8 x0 x1 x2 d3 (own_sk7 x0 x1 x2 b3 (own_sk6 x0 x1 x2 a3 (own_sk5 x0 x1 x2 d2 (own_sk4 x0 x1 x2 b2 (own_sk3 x0 x1 x2 a2 (own_tk2_2 x0 x1 x2 d1 (own_tk1_1 x0 x1 x2 b1 (own_tk0 x0 x1 x2 a1)))))))))
  have hn := q.1
  have i0 := own_iyyy (w0_4 x0 x1 x2) (w0_10 x0 x1 x2) (w0_17 x0 x1 x2) a4 b4 d4
  have s0 : OwnS0 x0 x1 x2 (w0_4 x0 x1 x2) (w0_10 x0 x1 x2) (w0_17 x0 x1 x2) 0 1 2 3 0 := ⟨rfl, rfl, rfl, rfl, i0.1, i0.2.1, i0.2.2.1, i0.2.2.2, rfl⟩
  have s1 : OwnS1 x0 x1 x2 (w0_4 x0 x1 x2 - 1) (w0_10 x0 x1 x2) (w0_17 x0 x1 x2) 0 1 2 3 1 := own_st0 x0 x1 x2 (by rw [hn]; decide) q.2.1 s0 (own_x012_0_c (w0_4 x0 x1 x2) (w0_10 x0 x1 x2) (w0_17 x0 x1 x2) )
  have s2 : OwnS2 x0 x1 x2 (w0_4 x0 x1 x2 - 1) (w0_10 x0 x1 x2 - 1) (w0_17 x0 x1 x2) 0 1 2 3 2 := own_st1 x0 x1 x2 (by rw [hn]; decide) q.2.2.1 s1 (own_x012_1_c (w0_4 x0 x1 x2 - 1) (w0_10 x0 x1 x2) (w0_17 x0 x1 x2) )
  have s3 : OwnS3 x0 x1 x2 (w0_4 x0 x1 x2 - 1) (w0_10 x0 x1 x2 - 1) (w0_17 x0 x1 x2 - 1) 0 1 2 0 0 := own_st2 x0 x1 x2 (by rw [hn]; decide) q.2.2.2.1 s2 (own_x012_2_nnn (w0_4 x0 x1 x2 - 1) (w0_10 x0 x1 x2 - 1) (w0_17 x0 x1 x2)  a5 b5 d5)
  exact ⟨fun _ => own_sv0 x0 x1 x2 s0 (by decide), fun _ => own_sv1 x0 x1 x2 s1 (by decide), fun _ => own_sv2 x0 x1 x2 s2 (by decide), fun h => absurd (hn ▸ h) (by decide), fun h => absurd (hn ▸ h) (by decide), fun h => absurd (hn ▸ h) (by decide), fun h => absurd (hn ▸ h) (by decide), fun h => absurd (hn ▸ h) (by decide), fun h => absurd (hn ▸ h) (by decide), (own_sp8 x0 x1 x2 (by rw [hn]; decide) (own_sp7 x0 x1 x2 (by rw [hn]; decide) (own_sp6 x0 x1 x2 (by rw [hn]; decide) (own_sp5 x0 x1 x2 (by rw [hn]; decide) (own_sp4 x0 x1 x2 (by rw [hn]; decide) (own_sp3 x0 x1 x2 (by rw [hn]; decide) s3.1))))))⟩
theorem own_c112 (a1 : ¬ (w0_4 x0 x1 x2) < 1) (a2 : (w0_4 x0 x1 x2) < 2) (a3 : (w0_4 x0 x1 x2) < 3) (a4 : 0 < (w0_4 x0 x1 x2)) (a5 : ¬ 0 < (w0_4 x0 x1 x2) - 1) (b1 : ¬ (w0_10 x0 x1 x2) < 1) (b2 : (w0_10 x0 x1 x2) < 2) (b3 : (w0_10 x0 x1 x2) < 3) (b4 : 0 < (w0_10 x0 x1 x2)) (b5 : ¬ 0 < (w0_10 x0 x1 x2) - 1) (d1 : ¬ (w0_17 x0 x1 x2) < 1) (d2 : ¬ (w0_17 x0 x1 x2) < 2) (d3 : (w0_17 x0 x1 x2) < 3) (d4 : 0 < (w0_17 x0 x1 x2)) (d5 : 0 < (w0_17 x0 x1 x2) - 1) (d6 : ¬ 0 < (w0_17 x0 x1 x2) - 1 - 1) : OwnG x0 x1 x2 := by
  have q : OwnE8 x0 x1 x2 4 0 1 2 2 0 0 0 0 0 := (own_sk8 x0 x1 x2 d3 (own_sk7 x0 x1 x2 b3 (own_sk6 x0 x1 x2 a3 (own_tk5_3 x0 x1 x2 d2 (own_sk4 x0 x1 x2 b2 (own_sk3 x0 x1 x2 a2 (own_tk2_2 x0 x1 x2 d1 (own_tk1_1 x0 x1 x2 b1 (own_tk0 x0 x1 x2 a1)))))))))
  have hn := q.1
  have i0 := own_iyyy (w0_4 x0 x1 x2) (w0_10 x0 x1 x2) (w0_17 x0 x1 x2) a4 b4 d4
  have s0 : OwnS0 x0 x1 x2 (w0_4 x0 x1 x2) (w0_10 x0 x1 x2) (w0_17 x0 x1 x2) 0 1 2 3 0 := ⟨rfl, rfl, rfl, rfl, i0.1, i0.2.1, i0.2.2.1, i0.2.2.2, rfl⟩
  have s1 : OwnS1 x0 x1 x2 (w0_4 x0 x1 x2 - 1) (w0_10 x0 x1 x2) (w0_17 x0 x1 x2) 0 1 2 3 1 := own_st0 x0 x1 x2 (by rw [hn]; decide) q.2.1 s0 (own_x012_0_c (w0_4 x0 x1 x2) (w0_10 x0 x1 x2) (w0_17 x0 x1 x2) )
  have s2 : OwnS2 x0 x1 x2 (w0_4 x0 x1 x2 - 1) (w0_10 x0 x1 x2 - 1) (w0_17 x0 x1 x2) 0 1 2 3 2 := own_st1 x0 x1 x2 (by rw [hn]; decide) q.2.2.1 s1 (own_x012_1_c (w0_4 x0 x1 x2 - 1) (w0_10 x0 x1 x2) (w0_17 x0 x1 x2) )
  have s3 : OwnS3 x0 x1 x2 (w0_4 x0 x1 x2 - 1) (w0_10 x0 x1 x2 - 1) (w0_17 x0 x1 x2 - 1) 2 1 2 1 0 := own_st2 x0 x1 x2 (by rw [hn]; decide) q.2.2.2.1 s2 (own_x012_2_nny (w0_4 x0 x1 x2 - 1) (w0_10 x0 x1 x2 - 1) (w0_17 x0 x1 x2)  a5 b5 d5)
  have s4 : OwnS4 x0 x1 x2 (w0_4 x0 x1 x2 - 1) (w0_10 x0 x1 x2 - 1) (w0_17 x0 x1 x2 - 1 - 1) 2 1 2 0 0 := own_st3 x0 x1 x2 (by rw [hn]; decide) q.2.2.2.2.1 s3 (own_x2_0_n (w0_4 x0 x1 x2 - 1) (w0_10 x0 x1 x2 - 1) (w0_17 x0 x1 x2 - 1) 1 2 d6)
  exact ⟨fun _ => own_sv0 x0 x1 x2 s0 (by decide), fun _ => own_sv1 x0 x1 x2 s1 (by decide), fun _ => own_sv2 x0 x1 x2 s2 (by decide), fun _ => own_sv3 x0 x1 x2 s3 (by decide), fun h => absurd (hn ▸ h) (by decide), fun h => absurd (hn ▸ h) (by decide), fun h => absurd (hn ▸ h) (by decide), fun h => absurd (hn ▸ h) (by decide), fun h => absurd (hn ▸ h) (by decide), (own_sp8 x0 x1 x2 (by rw [hn]; decide) (own_sp7 x0 x1 x2 (by rw [hn]; decide) (own_sp6 x0 x1 x2 (by rw [hn]; decide) (own_sp5 x0 x1 x2 (by rw [hn]; decide) (own_sp4 x0 x1 x2 (by rw [hn]; decide) s4.1)))))⟩
theorem own_c113 (a1 : ¬ (w0_4 x0 x1 x2) < 1) (a2 : (w0_4 x0 x1 x2) < 2) (a3 : (w0_4 x0 x1 x2) < 3) (a4 : 0 < (w0_4 x0 x1 x2)) (a5 : ¬ 0 < (w0_4 x0 x1 x2) - 1) (b1 : ¬ (w0_10 x0 x1 x2) < 1) (b2 : (w0_10 x0 x1 x2) < 2) (b3 : (w0_10 x0 x1 x2) < 3) (b4 : 0 < (w0_10 x0 x1 x2)) (b5 : ¬ 0 < (w0_10 x0 x1 x2) - 1) (d1 : ¬ (w0_17 x0 x1 x2) < 1) (d2 : ¬ (w0_17 x0 x1 x2) < 2) (d3 : ¬ (w0_17 x0 x1 x2) < 3) (d4 : 0 < (w0_17 x0 x1 x2)) (d5 : 0 < (w0_17 x0 x1 x2) - 1) (d6 : 0 < (w0_17 x0 x1 x2) - 1 - 1) : OwnG x0 x1 x2 := by
  have q : OwnE8 x0 x1 x2 5 0 1 2 2 2 0 0 0 0 := (own_tk8_4 x0 x1 x2 d3 (own_sk7 x0 x1 x2 b3 (own_sk6 x0 x1 x2 a3 (own_tk5_3 x0 x1 x2 d2 (own_sk4 x0 x1 x2 b2 (own_sk3 x0 x1 x2 a2 (own_tk2_2 x0 x1 x2 d1 (own_tk1_1 x0 x1 x2 b1 (own_tk0 x0 x1 x2 a1)))))))))
  have hn := q.1
  have i0 := own_iyyy (w0_4 x0 x1 x2) (w0_10 x0 x1 x2) (w0_17 x0 x1 x2) a4 b4 d4
  have s0 : OwnS0 x0 x1 x2 (w0_4 x0 x1 x2) (w0_10 x0 x1 x2) (w0_17 x0 x1 x2) 0 1 2 3 0 := ⟨rfl, rfl, rfl, rfl, i0.1, i0.2.1, i0.2.2.1, i0.2.2.2, rfl⟩
  have s1 : OwnS1 x0 x1 x2 (w0_4 x0 x1 x2 - 1) (w0_10 x0 x1 x2) (w0_17 x0 x1 x2) 0 1 2 3 1 := own_st0 x0 x1 x2 (by rw [hn]; decide) q.2.1 s0 (own_x012_0_c (w0_4 x0 x1 x2) (w0_10 x0 x1 x2) (w0_17 x0 x1 x2) )
  have s2 : OwnS2 x0 x1 x2 (w0_4 x0 x1 x2 - 1) (w0_10 x0 x1 x2 - 1) (w0_17 x0 x1 x2) 0 1 2 3 2 := own_st1 x0 x1 x2 (by rw [hn]; decide) q.2.2.1 s1 (own_x012_1_c (w0_4 x0 x1 x2 - 1) (w0_10 x0 x1 x2) (w0_17 x0 x1 x2) )
  have s3 : OwnS3 x0 x1 x2 (w0_4 x0 x1 x2 - 1) (w0_10 x0 x1 x2 - 1) (w0_17 x0 x1 x2 - 1) 2 1 2 1 0 := own_st2 x0 x1 x2 (by rw [hn]; decide) q.2.2.2.1 s2 (own_x012_2_nny (w0_4 x0 x1 x2 - 1) (w0_10 x0 x1 x2 - 1) (w0_17 x0 x1 x2)  a5 b5 d5)
  have s4 : OwnS4 x0 x1 x2 (w0_4 x0 x1 x2 - 1) (w0_10 x0 x1 x2 - 1) (w0_17 x0 x1 x2 - 1 - 1) 2 1 2 1 0 := own_st3 x0 x1 x2 (by rw [hn]; decide) q.2.2.2.2.1 s3 (own_x2_0_y (w0_4 x0 x1 x2 - 1) (w0_10 x0 x1 x2 - 1) (w0_17 x0 x1 x2 - 1) 1 2 d6)
  have o5 : j0_367_16 x0 x1 x2 = 1 := by
    by_cases u0 : 0 < (w0_17 x0 x1 x2 - 1 - 1 - 1)
    · skip
      exact (own_st4 x0 x1 x2 (by rw [hn]; decide) q.2.2.2.2.2.1 s4 (own_x2_0_y (w0_4 x0 x1 x2 - 1) (w0_10 x0 x1 x2 - 1) (w0_17 x0 x1 x2 - 1 - 1) 1 2 u0)).1
    · skip
      exact (own_st4 x0 x1 x2 (by rw [hn]; decide) q.2.2.2.2.2.1 s4 (own_x2_0_n (w0_4 x0 x1 x2 - 1) (w0_10 x0 x1 x2 - 1) (w0_17 x0 x1 x2 - 1 - 1) 1 2 u0)).1
  exact ⟨fun _ => own_sv0 x0 x1 x2 s0 (by decide), fun _ => own_sv1 x0 x1 x2 s1 (by decide), fun _ => own_sv2 x0 x1 x2 s2 (by decide), fun _ => own_sv3 x0 x1 x2 s3 (by decide), fun _ => own_sv4 x0 x1 x2 s4 (by decide), fun h => absurd (hn ▸ h) (by decide), fun h => absurd (hn ▸ h) (by decide), fun h => absurd (hn ▸ h) (by decide), fun h => absurd (hn ▸ h) (by decide), (own_sp8 x0 x1 x2 (by rw [hn]; decide) (own_sp7 x0 x1 x2 (by rw [hn]; decide) (own_sp6 x0 x1 x2 (by rw [hn]; decide) (own_sp5 x0 x1 x2 (by rw [hn]; decide) o5))))⟩
theorem own_c120 (a1 : ¬ (w0_4 x0 x1 x2) < 1) (a2 : (w0_4 x0 x1 x2) < 2) (a3 : (w0_4 x0 x1 x2) < 3) (a4 : 0 < (w0_4 x0 x1 x2)) (a5 : ¬ 0 < (w0_4 x0 x1 x2) - 1) (b1 : ¬ (w0_10 x0 x1 x2) < 1) (b2 : ¬ (w0_10 x0 x1 x2) < 2) (b3 : (w0_10 x0 x1 x2) < 3) (b4 : 0 < (w0_10 x0 x1 x2)) (b5 : 0 < (w0_10 x0 x1 x2) - 1) (b6 : ¬ 0 < (w0_10 x0 x1 x2) - 1 - 1) (d1 : (w0_17 x0 x1 x2) < 1) (d2 : (w0_17 x0 x1 x2) < 2) (d3 : (w0_17 x0 x1 x2) < 3) (d4 : ¬ 0 < (w0_17 x0 x1 x2)) : OwnG x0 x1 x2 := by
  have q : OwnE8 x0 x1 x2 3 0 1 1 0 0 0 0 0 0 := (own_sk8 x0 x1 x2 d3 (own_sk7 x0 x1 x2 b3 (own_sk6 x0 x1 x2 a3 (own_sk5 x0 x1 x2 d2 (own_tk4_2 x0 x1 x2 b2 (own_sk3 x0 x1 x2 a2 (own_sk2 x0 x1 x2 d1 (own_tk1_1 x0 x1 x2 b1 (own_tk0 x0 x1 x2 a1)))))))))
  have hn := q.1
  have i0 := own_iyyn (w0_4 x0 x1 x2) (w0_10 x0 x1 x2) (w0_17 x0 x1 x2) a4 b4 d4
  have s0 : OwnS0 x0 x1 x2 (w0_4 x0 x1 x2) (w0_10 x0 x1 x2) (w0_17 x0 x1 x2) 0 1 0 2 0 := ⟨rfl, rfl, rfl, rfl, i0.1, i0.2.1, i0.2.2.1, i0.2.2.2, rfl⟩
  have s1 : OwnS1 x0 x1 x2 (w0_4 x0 x1 x2 - 1) (w0_10 x0 x1 x2) (w0_17 x0 x1 x2) 0 1 0 2 1 := own_st0 x0 x1 x2 (by rw [hn]; decide) q.2.1 s0 (own_x01_0_c (w0_4 x0 x1 x2) (w0_10 x0 x1 x2) (w0_17 x0 x1 x2) 0)
  have s2 : OwnS2 x0 x1 x2 (w0_4 x0 x1 x2 - 1) (w0_10 x0 x1 x2 - 1) (w0_17 x0 x1 x2) 1 1 0 1 0 := own_st1 x0 x1 x2 (by rw [hn]; decide) q.2.2.1 s1 (own_x01_1_ny (w0_4 x0 x1 x2 - 1) (w0_10 x0 x1 x2) (w0_17 x0 x1 x2) 0 a5 b5)
  have s3 : OwnS3 x0 x1 x2 (w0_4 x0 x1 x2 - 1) (w0_10 x0 x1 x2 - 1 - 1) (w0_17 x0 x1 x2) 1 1 0 0 0 := own_st2 x0 x1 x2 (by rw [hn]; decide) q.2.2.2.1 s2 (own_x1_0_n (w0_4 x0 x1 x2 - 1) (w0_10 x0 x1 x2 - 1) (w0_17 x0 x1 x2) 1 0 b6)
  exact ⟨fun _ => own_sv0 x0 x1 x2 s0 (by decide), fun _ => own_sv1 x0 x1 x2 s1 (by decide), fun _ => own_sv2 x0 x1 x2 s2 (by decide), fun h => absurd (hn ▸ h) (by decide), fun h => absurd (hn ▸ h) (by decide), fun h => absurd (hn ▸ h) (by decide), fun h => absurd (hn ▸ h) (by decide), fun h => absurd (hn ▸ h) (by decide), fun h => absurd (hn ▸ h) (by decide), (own_sp8 x0 x1 x2 (by rw [hn]; decide) (own_sp7 x0 x1 x2 (by rw [hn]; decide) (own_sp6 x0 x1 x2 (by rw [hn]; decide) (own_sp5 x0 x1 x2 (by rw [hn]; decide) (own_sp4 x0 x1 x2 (by rw [hn]; decide) (own_sp3 x0 x1 x2 (by rw [hn]; decide) s3.1))))))⟩
theorem own_c121 (a1 : ¬ (w0_4 x0 x1 x2) < 1) (a2 : (w0_4 x0 x1 x2) < 2) (a3 : (w0_4 x0 x1 x2) < 3) (a4 : 0 < (w0_4 x0 x1 x2)) (a5 : ¬ 0 < (w0_4 x0 x1 x2) - 1) (b1 : ¬ (w0_10 x0 x1 x2) < 1) (b2 : ¬ (w0_10 x0 x1 x2) < 2) (b3 : (w0_10 x0 x1 x2) < 3) (b4 : 0 < (w0_10 x0 x1 x2)) (b5 : 0 < (w0_10 x0 x1 x2) - 1) (b6 : ¬ 0 < (w0_10 x0 x1 x2) - 1 - 1) (d1 : ¬ (w0_17 x0 x1 x2) < 1) (d2 : (w0_17 x0 x1 x2) < 2) (d3 : (w0_17 x0 x1 x2) < 3) (d4 : 0 < (w0_17 x0 x1 x2)) (d5 : ¬ 0 < (w0_17 x0 x1 x2) - 1) : OwnG x0 x1 x2 := by
  have q : OwnE8 x0 x1 x2 4 0 1 2 1 0 0 0 0 0 := (own_sk8 x0 x1 x2 d3 (own_sk7 x0 x1 x2 b3 (own_sk6 x0 x1 x2 a3 (own_sk5 x0 x1 x2 d2 (own_tk4_3 x0 x1 x2 b2 (own_sk3 x0 x1 x2 a2 (own_tk2_2 x0 x1 x2 d1 (own_tk1_1 x0 x1 x2 b1 (own_tk0 x0 x1 x2 a1)))))))))
  have hn := q.1
  have i0 := own_iyyy (w0_4 x0 x1 x2) (w0_10 x0 x1 x2) (w0_17 x0 x1 x2) a4 b4 d4
  have s0 : OwnS0 x0 x1 x2 (w0_4 x0 x1 x2) (w0_10 x0 x1 x2) (w0_17 x0 x1 x2) 0 1 2 3 0 := ⟨rfl, rfl, rfl, rfl, i0.1, i0.2.1, i0.2.2.1, i0.2.2.2, rfl⟩
  have s1 : OwnS1 x0 x1 x2 (w0_4 x0 x1 x2 - 1) (w0_10 x0 x1 x2) (w0_17 x0 x1 x2) 0 1 2 3 1 := own_st0 x0 x1 x2 (by rw [hn]; decide) q.2.1 s0 (own_x012_0_c (w0_4 x0 x1 x2) (w0_10 x0 x1 x2) (w0_17 x0 x1 x2) )
  have s2 : OwnS2 x0 x1 x2 (w0_4 x0 x1 x2 - 1) (w0_10 x0 x1 x2 - 1) (w0_17 x0 x1 x2) 0 1 2 3 2 := own_st1 x0 x1 x2 (by rw [hn]; decide) q.2.2.1 s1 (own_x012_1_c (w0_4 x0 x1 x2 - 1) (w0_10 x0 x1 x2) (w0_17 x0 x1 x2) )
  have s3 : OwnS3 x0 x1 x2 (w0_4 x0 x1 x2 - 1) (w0_10 x0 x1 x2 - 1) (w0_17 x0 x1 x2 - 1) 1 1 2 1 0 := own_st2 x0 x1 x2 (by rw [hn]; decide) q.2.2.2.1 s2 (own_x012_2_nyn (w0_4 x0 x1 x2 - 1) (w0_10 x0 x1 x2 - 1) (w0_17 x0 x1 x2)  a5 b5 d5)
  have s4 : OwnS4 x0 x1 x2 (w0_4 x0 x1 x2 - 1) (w0_10 x0 x1 x2 - 1 - 1) (w0_17 x0 x1 x2 - 1) 1 1 2 0 0 := own_st3 x0 x1 x2 (by rw [hn]; decide) q.2.2.2.2.1 s3 (own_x1_0_n (w0_4 x0 x1 x2 - 1) (w0_10 x0 x1 x2 - 1) (w0_17 x0 x1 x2 - 1) 1 2 b6)
  exact ⟨fun _ => own_sv0 x0 x1 x2 s0 (by decide), fun _ => own_sv1 x0 x1 x2 s1 (by decide), fun _ => own_sv2 x0 x1 x2 s2 (by decide), fun _ => own_sv3 x0 x1 x2 s3 (by decide), fun h => absurd (hn ▸ h) (by decide), fun h => absurd (hn ▸ h) (by decide), fun h => absurd (hn ▸ h) (by decide), fun h => absurd (hn ▸ h) (by decide), fun h => absurd (hn ▸ h) (by decide), (own_sp8 x0 x1 x2 (by rw [hn]; decide) (own_sp7 x0 x1 x2 (by rw [hn]; decide) (own_sp6 x0 x1 x2 (by rw [hn]; decide) (own_sp5 x0 x1 x2 (by rw [hn]; decide) (own_sp4 x0 x1 x2 (by rw [hn]; decide) s4.1)))))⟩
theorem own_c122 (a1 : ¬ (w0_4 x0 x1 x2) < 1) (a2 : (w0_4 x0 x1 x2) < 2) (a3 : (w0_4 x0 x1 x2) < 3) (a4 : 0 < (w0_4 x0 x1 x2)) (a5 : ¬ 0 < (w0_4 x0 x1 x2) - 1) (b1 : ¬ (w0_10 x0 x1 x2) < 1) (b2 : ¬ (w0_10 x0 x1 x2) < 2) (b3 : (w0_10 x0 x1 x2) < 3) (b4 : 0 < (w0_10 x0 x1 x2)) (b5 : 0 < (w0_10 x0 x1 x2) - 1) (b6 : ¬ 0 < (w0_10 x0 x1 x2) - 1 - 1) (d1 : ¬ (w0_17 x0 x1 x2) < 1) (d2 : ¬ (w0_17 x0 x1 x2) < 2) (d3 : (w0_17 x0 x1 x2) < 3) (d4 : 0 < (w0_17 x0 x1 x2)) (d5 : 0 < (w0_17 x0 x1 x2) - 1) (d6 : ¬ 0 < (w0_17 x0 x1 x2) - 1 - 1) : OwnG x0 x1 x2 := by
  have q : OwnE8 x0 x1 x2 5 0 1 2 1 2 0 0 0 0 := (own_sk8 x0 x1 x2 d3 (own_sk7 x0 x1 x2 b3 (own_sk6 x0 x1 x2 a3 (own_tk5_4 x0 x1 x2 d2 (own_tk4_3 x0 x1 x2 b2 (own_sk3 x0 x1 x2 a2 (own_tk2_2 x0 x1 x2 d1 (own_tk1_1 x0 x1 x2 b1 (own_tk0 x0 x1 x2 a1)))))))))
  have hn := q.1
  have i0 := own_iyyy (w0_4 x0 x1 x2) (w0_10 x0 x1 x2) (w0_17 x0 x1 x2) a4 b4 d4
  have s0 : OwnS0 x0 x1 x2 (w0_4 x0 x1 x2) (w0_10 x0 x1 x2) (w0_17 x0 x1 x2) 0 1 2 3 0 := ⟨rfl, rfl, rfl, rfl, i0.1, i0.2.1, i0.2.2.1, i0.2.2.2, rfl⟩
  have s1 : OwnS1 x0 x1 x2 (w0_4 x0 x1 x2 - 1) (w0_10 x0 x1 x2) (w0_17 x0 x1 x2) 0 1 2 3 1 := own_st0 x0 x1 x2 (by rw [hn]; decide) q.2.1 s0 (own_x012_0_c (w0_4 x0 x1 x2) (w0_10 x0 x1 x2) (w0_17 x0 x1 x2) )
  have s2 : OwnS2 x0 x1 x2 (w0_4 x0 x1 x2 - 1) (w0_10 x0 x1 x2 - 1) (w0_17 x0 x1 x2) 0 1 2 3 2 := own_st1 x0 x1 x2 (by rw [hn]; decide) q.2.2.1 s1 (own_x012_1_c (w0_4 x0 x1 x2 - 1) (w0_10 x0 x1 x2) (w0_17 x0 x1 x2) )
  have s3 : OwnS3 x0 x1 x2 (w0_4 x0 x1 x2 - 1) (w0_10 x0 x1 x2 - 1) (w0_17 x0 x1 x2 - 1) 1 2 2 2 0 := own_st2 x0 x1 x2 (by rw [hn]; decide) q.2.2.2.1 s2 (own_x012_2_nyy (w0_4 x0 x1 x2 - 1) (w0_10 x0 x1 x2 - 1) (w0_17 x0 x1 x2)  a5 b5 d5)
  have s4 : OwnS4 x0 x1 x2 (w0_4 x0 x1 x2 - 1) (w0_10 x0 x1 x2 - 1 - 1) (w0_17 x0 x1 x2 - 1) 1 2 2 2 1 := own_st3 x0 x1 x2 (by rw [hn]; decide) q.2.2.2.2.1 s3 (own_x12_0_c (w0_4 x0 x1 x2 - 1) (w0_10 x0 x1 x2 - 1) (w0_17 x0 x1 x2 - 1) 2)
  have s5 : OwnS5 x0 x1 x2 (w0_4 x0 x1 x2 - 1) (w0_10 x0 x1 x2 - 1 - 1) (w0_17 x0 x1 x2 - 1 - 1) 1 2 2 0 0 := own_st4 x0 x1 x2 (by rw [hn]; decide) q.2.2.2.2.2.1 s4 (own_x12_1_nn (w0_4 x0 x1 x2 - 1) (w0_10 x0 x1 x2 - 1 - 1) (w0_17 x0 x1 x2 - 1) 2 b6 d6)
  exact ⟨fun _ => own_sv0 x0 x1 x2 s0 (by decide), fun _ => own_sv1 x0 x1 x2 s1 (by decide), fun _ => own_sv2 x0 x1 x2 s2 (by decide), fun _ => own_sv3 x0 x1 x2 s3 (by decide), fun _ => own_sv4 x0 x1 x2 s4 (by decide), fun h => absurd (hn ▸ h) (by decide), fun h => absurd (hn ▸ h) (by decide), fun h => absurd (hn ▸ h) (by decide), fun h => absurd (hn ▸ h) (by decide), (own_sp8 x0 x1 x2 (by rw [hn]; decide) (own_sp7 x0 x1 x2 (by rw [hn]; decide) (own_sp6 x0 x1 x2 (by rw [hn]; decide) (own_sp5 x0 x1 x2 (by rw [hn]; decide) s5.1))))⟩
theorem own_c123 (a1 : ¬ (w0_4 x0 x1 x2) < 1) (a2 : (w0_4 x0 x1 x2) < 2) (a3 : (w0_4 x0 x1 x2) < 3) (a4 : 0 < (w0_4 x0 x1 x2)) (a5 : ¬ 0 < (w0_4 x0 x1 x2) - 1) (b1 : ¬ (w0_10 x0 x1 x2) < 1) (b2 : ¬ (w0_10 x0 x1 x2) < 2) (b3 : (w0_10 x0 x1 x2) < 3) (b4 : 0 < (w0_10 x0 x1 x2)) (b5 : 0 < (w0_10 x0 x1 x2) - 1) (b6 : ¬ 0 < (w0_10 x0 x1 x2) - 1 - 1) (d1 : ¬ (w0_17 x0 x1 x2) < 1) (d2 : ¬ (w0_17 x0 x1 x2) < 2) (d3 : ¬ (w0_17 x0 x1 x2) < 3) (d4 : 0 < (w0_17 x0 x1 x2)) (d5 : 0 < (w0_17 x0 x1 x2) - 1) (d6 : 0 < (w0_17 x0 x1 x2) - 1 - 1) : OwnG x0 x1 x2 := by
  have q : OwnE8 x0 x1 x2 6 0 1 2 1 2 2 0 0 0 := (own_tk8_5 x0 x1 x2 d3 (own_sk7 x0 x1 x2 b3 (own_sk6 x0 x1 x2 a3 (own_tk5_4 x0 x1 x2 d2 (own_tk4_3 x0 x1 x2 b2 (own_sk3 x0 x1 x2 a2 (own_tk2_2 x0 x1 x2 d1 (own_tk1_1 x0 x1 x2 b1 (own_tk0 x0 x1 x2 a1)))))))))
  have hn := q.1
  have i0 := own_iyyy (w0_4 x0 x1 x2) (w0_10 x0 x1 x2) (w0_17 x0 x1 x2) a4 b4 d4
  have s0 : OwnS0 x0 x1 x2 (w0_4 x0 x1 x2) (w0_10 x0 x1 x2) (w0_17 x0 x1 x2) 0 1 2 3 0 := ⟨rfl, rfl, rfl, rfl, i0.1, i0.2.1, i0.2.2.1, i0.2.2.2, rfl⟩
  have s1 : OwnS1 x0 x1 x2 (w0_4 x0 x1 x2 - 1) (w0_10 x0 x1 x2) (w0_17 x0 x1 x2) 0 1 2 3 1 := own_st0 x0 x1 x2 (by rw [hn]; decide) q.2.1 s0 (own_x012_0_c (w0_4 x0 x1 x2) (w0_10 x0 x1 x2) (w0_17 x0 x1 x2) )
  have s2 : OwnS2 x0 x1 x2 (w0_4 x0 x1 x2 - 1) (w0_10 x0 x1 x2 - 1) (w0_17 x0 x1 x2) 0 1 2 3 2 := own_st1 x0 x1 x2 (by rw [hn]; decide) q.2.2.1 s1 (own_x012_1_c (w0_4 x0 x1 x2 - 1) (w0_10 x0 x1 x2) (w0_17 x0 x1 x2) )
  have s3 : OwnS3 x0 x1 x2 (w0_4 x0 x1 x2 - 1) (w0_10 x0 x1 x2 - 1) (w0_17 x0 x1 x2 - 1) 1 2 2 2 0 := own_st2 x0 x1 x2 (by rw [hn]; decide) q.2.2.2.1 s2 (own_x012_2_nyy (w0_4 x0 x1 x2 - 1) (w0_10 x0 x1 x2 - 1) (w0_17 x0 x1 x2)  a5 b5 d5)
  have s4 : OwnS4 x0 x1 x2 (w0_4 x0 x1 x2 - 1) (w0_10 x0 x1 x2 - 1 - 1) (w0_17 x0 x1 x2 - 1) 1 2 2 2 1 := own_st3 x0 x1 x2 (by rw [hn]; decide) q.2.2.2.2.1 s3 (own_x12_0_c (w0_4 x0 x1 x2 - 1) (w0_10 x0 x1 x2 - 1) (w0_17 x0 x1 x2 - 1) 2)
  have s5 : OwnS5 x0 x1 x2 (w0_4 x0 x1 x2 - 1) (w0_10 x0 x1 x2 - 1 - 1) (w0_17 x0 x1 x2 - 1 - 1) 2 2 2 1 0 := own_st4 x0 x1 x2 (by rw [hn]; decide) q.2.2.2.2.2.1 s4 (own_x12_1_ny (w0_4 x0 x1 x2 - 1) (w0_10 x0 x1 x2 - 1 - 1) (w0_17 x0 x1 x2 - 1) 2 b6 d6)
  have o6 : j0_397_16 x0 x1 x2 = 1 := by
    by_cases u0 : 0 < (w0_17 x0 x1 x2 - 1 - 1 - 1)
    · skip
      exact (own_st5 x0 x1 x2 (by rw [hn]; decide) q.2.2.2.2.2.2.1 s5 (own_x2_0_y (w0_4 x0 x1 x2 - 1) (w0_10 x0 x1 x2 - 1 - 1) (w0_17 x0 x1 x2 - 1 - 1) 2 2 u0)).1
    · skip
      exact (own_st5 x0 x1 x2 (by rw [hn]; decide) q.2.2.2.2.2.2.1 s5 (own_x2_0_n (w0_4 x0 x1 x2 - 1) (w0_10 x0 x1 x2 - 1 - 1) (w0_17 x0 x1 x2 - 1 - 1) 2 2 u0)).1
  exact ⟨fun _ => own_sv0 x0 x1 x2 s0 (by decide), fun _ => own_sv1 x0 x1 x2 s1 (by decide), fun _ => own_sv2 x0 x1 x2 s2 (by decide), fun _ => own_sv3 x0 x1 x2 s3 (by decide), fun _ => own_sv4 x0 x1 x2 s4 (by decide), fun _ => own_sv5 x0 x1 x2 s5 (by decide), fun h => absurd (hn ▸ h) (by decide), fun h => absurd (hn ▸ h) (by decide), fun h => absurd (hn ▸ h) (by decide), (own_sp8 x0 x1 x2 (by rw [hn]; decide) (own_sp7 x0 x1 x2 (by rw [hn]; decide) (own_sp6 x0 x1 x2 (by rw [hn]; decide) o6)))⟩
theorem own_c130 (a1 : ¬ (w0_4 x0 x1 x2) < 1) (a2 : (w0_4 x0 x1 x2) < 2) (a3 : (w0_4 x0 x1 x2) < 3) (a4 : 0 < (w0_4 x0 x1 x2)) (a5 : ¬ 0 < (w0_4 x0 x1 x2) - 1) (b1 : ¬ (w0_10 x0 x1 x2) < 1) (b2 : ¬ (w0_10 x0 x1 x2) < 2) (b3 : ¬ (w0_10 x0 x1 x2) < 3) (b4 : 0 < (w0_10 x0 x1 x2)) (b5 : 0 < (w0_10 x0 x1 x2) - 1) (b6 : 0 < (w0_10 x0 x1 x2) - 1 - 1) (d1 : (w0_17 x0 x1 x2) < 1) (d2 : (w0_17 x0 x1 x2) < 2) (d3 : (w0_17 x0 x1 x2) < 3) (d4 : ¬ 0 < (w0_17 x0 x1 x2)) : OwnG x0 x1 x2 := by
  have q : OwnE8 x0 x1 x2 4 0 1 1 1 0 0 0 0 0 := (own_sk8 x0 x1 x2 d3 (own_tk7_3 x0 x1 x2 b3 (own_sk6 x0 x1 x2 a3 (own_sk5 x0 x1 x2 d2 (own_tk4_2 x0 x1 x2 b2 (own_sk3 x0 x1 x2 a2 (own_sk2 x0 x1 x2 d1 (own_tk1_1 x0 x1 x2 b1 (own_tk0 x0 x1 x2 a1)))))))))
  have hn := q.1
  have i0 := own_iyyn (w0_4 x0 x1 x2) (w0_10 x0 x1 x2) (w0_17 x0 x1 x2) a4 b4 d4
  have s0 : OwnS0 x0 x1 x2 (w0_4 x0 x1 x2) (w0_10 x0 x1 x2) (w0_17 x0 x1 x2) 0 1 0 2 0 := ⟨rfl, rfl, rfl, rfl, i0.1, i0.2.1, i0.2.2.1, i0.2.2.2, rfl⟩
  have s1 : OwnS1 x0 x1 x2 (w0_4 x0 x1 x2 - 1) (w0_10 x0 x1 x2) (w0_17 x0 x1 x2) 0 1 0 2 1 := own_st0 x0 x1 x2 (by rw [hn]; decide) q.2.1 s0 (own_x01_0_c (w0_4 x0 x1 x2) (w0_10 x0 x1 x2) (w0_17 x0 x1 x2) 0)
  have s2 : OwnS2 x0 x1 x2 (w0_4 x0 x1 x2 - 1) (w0_10 x0 x1 x2 - 1) (w0_17 x0 x1 x2) 1 1 0 1 0 := own_st1 x0 x1 x2 (by rw [hn]; decide) q.2.2.1 s1 (own_x01_1_ny (w0_4 x0 x1 x2 - 1) (w0_10 x0 x1 x2) (w0_17 x0 x1 x2) 0 a5 b5)
  have s3 : OwnS3 x0 x1 x2 (w0_4 x0 x1 x2 - 1) (w0_10 x0 x1 x2 - 1 - 1) (w0_17 x0 x1 x2) 1 1 0 1 0 := own_st2 x0 x1 x2 (by rw [hn]; decide) q.2.2.2.1 s2 (own_x1_0_y (w0_4 x0 x1 x2 - 1) (w0_10 x0 x1 x2 - 1) (w0_17 x0 x1 x2) 1 0 b6)
  have o4 : j0_337_16 x0 x1 x2 = 1 := by
    by_cases u0 : 0 < (w0_10 x0 x1 x2 - 1 - 1 - 1)
    · skip
      exact (own_st3 x0 x1 x2 (by rw [hn]; decide) q.2.2.2.2.1 s3 (own_x1_0_y (w0_4 x0 x1 x2 - 1) (w0_10 x0 x1 x2 - 1 - 1) (w0_17 x0 x1 x2) 1 0 u0)).1
    · skip
      exact (own_st3 x0 x1 x2 (by rw [hn]; decide) q.2.2.2.2.1 s3 (own_x1_0_n (w0_4 x0 x1 x2 - 1) (w0_10 x0 x1 x2 - 1 - 1) (w0_17 x0 x1 x2) 1 0 u0)).1
  exact ⟨fun _ => own_sv0 x0 x1 x2 s0 (by decide), fun _ => own_sv1 x0 x1 x2 s1 (by decide), fun _ => own_sv2 x0 x1 x2 s2 (by decide), fun _ => own_sv3 x0 x1 x2 s3 (by decide), fun h => absurd (hn ▸ h) (by decide), fun h => absurd (hn ▸ h) (by decide), fun h => absurd (hn ▸ h) (by decide), fun h => absurd (hn ▸ h) (by decide), fun h => absurd (hn ▸ h) (by decide), (own_sp8 x0 x1 x2 (by rw [hn]; decide) (own_sp7 x0 x1 x2 (by rw [hn]; decide) (own_sp6 x0 x1 x2 (by rw [hn]; decide) (own_sp5 x0 x1 x2 (by rw [hn]; decide) (own_sp4 x0 x1 x2 (by rw [hn]; decide) o4)))))⟩
theorem own_c131 (a1 : ¬ (w0_4 x0 x1 x2) < 1) (a2 : (w0_4 x0 x1 x2) < 2) (a3 : (w0_4 x0 x1 x2) < 3) (a4 : 0 < (w0_4 x0 x1 x2)) (a5 : ¬ 0 < (w0_4 x0 x1 x2) - 1) (b1 : ¬ (w0_10 x0 x1 x2) < 1) (b2 : ¬ (w0_10 x0 x1 x2) < 2) (b3 : ¬ (w0_10 x0 x1 x2) < 3) (b4 : 0 < (w0_10 x0 x1 x2)) (b5 : 0 < (w0_10 x0 x1 x2) - 1) (b6 : 0 < (w0_10 x0 x1 x2) - 1 - 1) (d1 : ¬ (w0_17 x0 x1 x2) < 1) (d2 : (w0_17 x0 x1 x2) < 2) (d3 : (w0_17 x0 x1 x2) < 3) (d4 : 0 < (w0_17 x0 x1 x2)) (d5 : ¬ 0 < (w0_17 x0 x1 x2) - 1) : OwnG x0 x1 x2 := by
  have q : OwnE8 x0 x1 x2 5 0 1 2 1 1 0 0 0 0 := (own_sk8 x0 x1 x2 d3 (own_tk7_4 x0 x1 x2 b3 (own_sk6 x0 x1 x2 a3 (own_sk5 x0 x1 x2 d2 (own_tk4_3 x0 x1 x2 b2 (own_sk3 x0 x1 x2 a2 (own_tk2_2 x0 x1 x2 d1 (own_tk1_1 x0 x1 x2 b1 (own_tk0 x0 x1 x2 a1)))))))))
  have hn := q.1
  have i0 := own_iyyy (w0_4 x0 x1 x2) (w0_10 x0 x1 x2) (w0_17 x0 x1 x2) a4 b4 d4
  have s0 : OwnS0 x0 x1 x2 (w0_4 x0 x1 x2) (w0_10 x0 x1 x2) (w0_17 x0 x1 x2) 0 1 2 3 0 := ⟨rfl, rfl, rfl, rfl, i0.1, i0.2.1, i0.2.2.1, i0.2.2.2, rfl⟩
  have s1 : OwnS1 x0 x1 x2 (w0_4 x0 x1 x2 - 1) (w0_10 x0 x1 x2) (w0_17 x0 x1 x2) 0 1 2 3 1 := own_st0 x0 x1 x2 (by rw [hn]; decide) q.2.1 s0 (own_x012_0_c (w0_4 x0 x1 x2) (w0_10 x0 x1 x2) (w0_17 x0 x1 x2) )
  have s2 : OwnS2 x0 x1 x2 (w0_4 x0 x1 x2 - 1) (w0_10 x0 x1 x2 - 1) (w0_17 x0 x1 x2) 0 1 2 3 2 := own_st1 x0 x1 x2 (by rw [hn]; decide) q.2.2.1 s1 (own_x012_1_c (w0_4 x0 x1 x2 - 1) (w0_10 x0 x1 x2) (w0_17 x0 x1 x2) )
  have s3 : OwnS3 x0 x1 x2 (w0_4 x0 x1 x2 - 1) (w0_10 x0 x1 x2 - 1) (w0_17 x0 x1 x2 - 1) 1 1 2 1 0 := own_st2 x0 x1 x2 (by rw [hn]; decide) q.2.2.2.1 s2 (own_x012_2_nyn (w0_4 x0 x1 x2 - 1) (w0_10 x0 x1 x2 - 1) (w0_17 x0 x1 x2)  a5 b5 d5)
  have s4 : OwnS4 x0 x1 x2 (w0_4 x0 x1 x2 - 1) (w0_10 x0 x1 x2 - 1 - 1) (w0_17 x0 x1 x2 - 1) 1 1 2 1 0 := own_st3 x0 x1 x2 (by rw [hn]; decide) q.2.2.2.2.1 s3 (own_x1_0_y (w0_4 x0 x1 x2 - 1) (w0_10 x0 x1 x2 - 1) (w0_17 x0 x1 x2 - 1) 1 2 b6)
  have o5 : j0_367_16 x0 x1 x2 = 1 := by
    by_cases u0 : 0 < (w0_10 x0 x1 x2 - 1 - 1 - 1)
    · skip
      exact (own_st4 x0 x1 x2 (by rw [hn]; decide) q.2.2.2.2.2.1 s4 (own_x1_0_y (w0_4 x0 x1 x2 - 1) (w0_10 x0 x1 x2 - 1 - 1) (w0_17 x0 x1 x2 - 1) 1 2 u0)).1
    · skip
      exact (own_st4 x0 x1 x2 (by rw [hn]; decide) q.2.2.2.2.2.1 s4 (own_x1_0_n (w0_4 x0 x1 x2 - 1) (w0_10 x0 x1 x2 - 1 - 1) (w0_17 x0 x1 x2 - 1) 1 2 u0)).1
  exact ⟨fun _ => own_sv0 x0 x1 x2 s0 (by decide), fun _ => own_sv1 x0 x1 x2 s1 (by decide), fun _ => own_sv2 x0 x1 x2 s2 (by decide), fun _ => own_sv3 x0 x1 x2 s3 (by decide), fun _ => own_sv4 x0 x1 x2 s4 (by decide), fun h => absurd (hn ▸ h) (by decide), fun h => absurd (hn ▸ h) (by decide), fun h => absurd (hn ▸ h) (by decide), fun h => absurd (hn ▸ h) (by decide), (own_sp8 x0 x1 x2 (by rw [hn]; decide) (own_sp7 x0 x1 x2 (by rw [hn]; decide) (own_sp6 x0 x1 x2 (by rw [hn]; decide) (own_sp5 x0 x1 x2 (by rw [hn]; decide) o5))))⟩
theorem own_c132 (a1 : ¬ (w0_4 x0 x1 x2) < 1) (a2 : (w0_4 x0 x1 x2) < 2) (a3 : (w0_4 x0 x1 x2) < 3) (a4 : 0 < (w0_4 x0 x1 x2)) (a5 : ¬ 0 < (w0_4 x0 x1 x2) - 1) (b1 : ¬ (w0_10 x0 x1 x2) < 1) (b2 : ¬ (w0_10 x0 x1 x2) < 2) (b3 : ¬ (w0_10 x0 x1 x2) < 3) (b4 : 0 < (w0_10 x0 x1 x2)) (b5 : 0 < (w0_10 x0 x1 x2) - 1) (b6 : 0 < (w0_10 x0 x1 x2) - 1 - 1) (d1 : ¬ (w0_17 x0 x1 x2) < 1) (d2 : ¬ (w0_17 x0 x1 x2) < 2) (d3 : (w0_17 x0 x1 x2) < 3) (d4 : 0 < (w0_17 x0 x1 x2)) (d5 : 0 < (w0_17 x0 x1 x2) - 1) (d6 : ¬ 0 < (w0_17 x0 x1 x2) - 1 - 1) : OwnG x0 x1 x2 := by
  have q : OwnE8 x0 x1 x2 6 0 1 2 1 2 1 0 0 0 := (own_sk8 x0 x1 x2 d3 (own_tk7_5 x0 x1 x2 b3 (own_sk6 x0 x1 x2 a3 (own_tk5_4 x0 x1 x2 d2 (own_tk4_3 x0 x1 x2 b2 (own_sk3 x0 x1 x2 a2 (own_tk2_2 x0 x1 x2 d1 (own_tk1_1 x0 x1 x2 b1 (own_tk0 x0 x1 x2 a1)))))))))
  have hn := q.1
  have i0 := own_iyyy (w0_4 x0 x1 x2) (w0_10 x0 x1 x2) (w0_17 x0 x1 x2) a4 b4 d4
  have s0 : OwnS0 x0 x1 x2 (w0_4 x0 x1 x2) (w0_10 x0 x1 x2) (w0_17 x0 x1 x2) 0 1 2 3 0 := ⟨rfl, rfl, rfl, rfl, i0.1, i0.2.1, i0.2.2.1, i0.2.2.2, rfl⟩
  have s1 : OwnS1 x0 x1 x2 (w0_4 x0 x1 x2 - 1) (w0_10 x0 x1 x2) (w0_17 x0 x1 x2) 0 1 2 3 1 := own_st0 x0 x1 x2 (by rw [hn]; decide) q.2.1 s0 (own_x012_0_c (w0_4 x0 x1 x2) (w0_10 x0 x1 x2) (w0_17 x0 x1 x2) )
  have s2 : OwnS2 x0 x1 x2 (w0_4 x0 x1 x2 - 1) (w0_10 x0 x1 x2 - 1) (w0_17 x0 x1 x2) 0 1 2 3 2 := own_st1 x0 x1 x2 (by rw [hn]; decide) q.2.2.1 s1 (own_x012_1_c (w0_4 x0 x1 x2 - 1) (w0_10 x0 x1 x2) (w0_17 x0 x1 x2) )
  have s3 : OwnS3 x0 x1 x2 (w0_4 x0 x1 x2 - 1) (w0_10 x0 x1 x2 - 1) (w0_17 x0 x1 x2 - 1) 1 2 2 2 0 := own_st2 x0 x1 x2 (by rw [hn]; decide) q.2.2.2.1 s2 (own_x012_2_nyy (w0_4 x0 x1 x2 - 1) (w0_10 x0 x1 x2 - 1) (w0_17 x0 x1 x2)  a5 b5 d5)
  have s4 : OwnS4 x0 x1 x2 (w0_4 x0 x1 x2 - 1) (w0_10 x0 x1 x2 - 1 - 1) (w0_17 x0 x1 x2 - 1) 1 2 2 2 1 := own_st3 x0 x1 x2 (by rw [hn]; decide) q.2.2.2.2.1 s3 (own_x12_0_c (w0_4 x0 x1 x2 - 1) (w0_10 x0 x1 x2 - 1) (w0_17 x0 x1 x2 - 1) 2)
  have s5 : OwnS5 x0 x1 x2 (w0_4 x0 x1 x2 - 1) (w0_10 x0 x1 x2 - 1 - 1) (w0_17 x0 x1 x2 - 1 - 1) 1 2 2 1 0 := own_st4 x0 x1 x2 (by rw [hn]; decide) q.2.2.2.2.2.1 s4 (own_x12_1_yn (w0_4 x0 x1 x2 - 1) (w0_10 x0 x1 x2 - 1 - 1) (w0_17 x0 x1 x2 - 1) 2 b6 d6)
  have o6 : j0_397_16 x0 x1 x2 = 1 := by
    by_cases u0 : 0 < (w0_10 x0 x1 x2 - 1 - 1 - 1)
    · skip
      exact (own_st5 x0 x1 x2 (by rw [hn]; decide) q.2.2.2.2.2.2.1 s5 (own_x1_0_y (w0_4 x0 x1 x2 - 1) (w0_10 x0 x1 x2 - 1 - 1) (w0_17 x0 x1 x2 - 1 - 1) 2 2 u0)).1
    · skip
      exact (own_st5 x0 x1 x2 (by rw [hn]; decide) q.2.2.2.2.2.2.1 s5 (own_x1_0_n (w0_4 x0 x1 x2 - 1) (w0_10 x0 x1 x2 - 1 - 1) (w0_17 x0 x1 x2 - 1 - 1) 2 2 u0)).1
  exact ⟨fun _ => own_sv0 x0 x1 x2 s0 (by decide), fun _ => own_sv1 x0 x1 x2 s1 (by decide), fun _ => own_sv2 x0 x1 x2 s2 (by decide), fun _ => own_sv3 x0 x1 x2 s3 (by decide), fun _ => own_sv4 x0 x1 x2 s4 (by decide), fun _ => own_sv5 x0 x1 x2 s5 (by decide), fun h => absurd (hn ▸ h) (by decide), fun h => absurd (hn ▸ h) (by decide), fun h => absurd (hn ▸ h) (by decide), (own_sp8 x0 x1 x2 (by rw [hn]; decide) (own_sp7 x0 x1 x2 (by rw [hn]; decide) (own_sp6 x0 x1 x2 (by rw [hn]; decide) o6)))⟩
theorem own_c133 (a1 : ¬ (w0_4 x0 x1 x2) < 1) (a2 : (w0_4 x0 x1 x2) < 2) (a3 : (w0_4 x0 x1 x2) < 3) (a4 : 0 < (w0_4 x0 x1 x2)) (a5 : ¬ 0 < (w0_4 x0 x1 x2) - 1) (b1 : ¬ (w0_10 x0 x1 x2) < 1) (b2 : ¬ (w0_10 x0 x1 x2) < 2) (b3 : ¬ (w0_10 x0 x1 x2) < 3) (b4 : 0 < (w0_10 x0 x1 x2)) (b5 : 0 < (w0_10 x0 x1 x2) - 1) (b6 : 0 < (w0_10 x0 x1 x2) - 1 - 1) (d1 : ¬ (w0_17 x0 x1 x2) < 1) (d2 : ¬ (w0_17 x0 x1 x2) < 2) (d3 : ¬ (w0_17 x0 x1 x2) < 3) (d4 : 0 < (w0_17 x0 x1 x2)) (d5 : 0 < (w0_17 x0 x1 x2) - 1) (d6 : 0 < (w0_17 x0 x1 x2) - 1 - 1) : OwnG x0 x1 x2 := by
  have q : OwnE8 x0 x1 x2 7 0 1 2 1 2 1 2 0 0 := (own_tk8_6 x0 x1 x2 d3 (own_tk7_5 x0 x1 x2 b3 (own_sk6 x0 x1 x2 a3 (own_tk5_4 x0 x1 x2 d2 (own_tk4_3 x0 x1 x2 b2 (own_sk3 x0 x1 x2 a2 (own_tk2_2 x0 x1 x2 d1 (own_tk1_1 x0 x1 x2 b1 (own_tk0 x0 x1 x2 a1)))))))))
  have hn := q.1
  have i0 := own_iyyy (w0_4 x0 x1 x2) (w0_10 x0 x1 x2) (w0_17 x0 x1 x2) a4 b4 d4
  have s0 : OwnS0 x0 x1 x2 (w0_4 x0 x1 x2) (w0_10 x0 x1 x2) (w0_17 x0 x1 x2) 0 1 2 3 0 := ⟨rfl, rfl, rfl, rfl, i0.1, i0.2.1, i0.2.2.1, i0.2.2.2, rfl⟩
  have s1 : OwnS1 x0 x1 x2 (w0_4 x0 x1 x2 - 1) (w0_10 x0 x1 x2) (w0_17 x0 x1 x2) 0 1 2 3 1 := own_st0 x0 x1 x2 (by rw [hn]; decide) q.2.1 s0 (own_x012_0_c (w0_4 x0 x1 x2) (w0_10 x0 x1 x2) (w0_17 x0 x1 x2) )
  have s2 : OwnS2 x0 x1 x2 (w0_4 x0 x1 x2 - 1) (w0_10 x0 x1 x2 - 1) (w0_17 x0 x1 x2) 0 1 2 3 2 := own_st1 x0 x1 x2 (by rw [hn]; decide) q.2.2.1 s1 (own_x012_1_c (w0_4 x0 x1 x2 - 1) (w0_10 x0 x1 x2) (w0_17 x0 x1 x2) )
  have s3 : OwnS3 x0 x1 x2 (w0_4 x0 x1 x2 - 1) (w0_10 x0 x1 x2 - 1) (w0_17 x0 x1 x2 - 1) 1 2 2 2 0 := own_st2 x0 x1 x2 (by rw [hn]; decide) q.2.2.2.1 s2 (own_x012_2_nyy (w0_4 x0 x1 x2 - 1) (w0_10 x0 x1 x2 - 1) (w0_17 x0 x1 x2)  a5 b5 d5)
  have s4 : OwnS4 x0 x1 x2 (w0_4 x0 x1 x2 - 1) (w0_10 x0 x1 x2 - 1 - 1) (w0_17 x0 x1 x2 - 1) 1 2 2 2 1 := own_st3 x0 x1 x2 (by rw [hn]; decide) q.2.2.2.2.1 s3 (own_x12_0_c (w0_4 x0 x1 x2 - 1) (w0_10 x0 x1 x2 - 1) (w0_17 x0 x1 x2 - 1) 2)
  have s5 : OwnS5 x0 x1 x2 (w0_4 x0 x1 x2 - 1) (w0_10 x0 x1 x2 - 1 - 1) (w0_17 x0 x1 x2 - 1 - 1) 1 2 2 2 0 := own_st4 x0 x1 x2 (by rw [hn]; decide) q.2.2.2.2.2.1 s4 (own_x12_1_yy (w0_4 x0 x1 x2 - 1) (w0_10 x0 x1 x2 - 1 - 1) (w0_17 x0 x1 x2 - 1) 2 b6 d6)
  have s6 : OwnS6 x0 x1 x2 (w0_4 x0 x1 x2 - 1) (w0_10 x0 x1 x2 - 1 - 1 - 1) (w0_17 x0 x1 x2 - 1 - 1) 1 2 2 2 1 := own_st5 x0 x1 x2 (by rw [hn]; decide) q.2.2.2.2.2.2.1 s5 (own_x12_0_c (w0_4 x0 x1 x2 - 1) (w0_10 x0 x1 x2 - 1 - 1) (w0_17 x0 x1 x2 - 1 - 1) 2)
  have o7 : j0_429_16 x0 x1 x2 = 1 := by
    by_cases u0 : 0 < (w0_10 x0 x1 x2 - 1 - 1 - 1)
    · skip
      by_cases u1 : 0 < (w0_17 x0 x1 x2 - 1 - 1 - 1)
      · skip
        exact (own_st6 x0 x1 x2 (by rw [hn]; decide) q.2.2.2.2.2.2.2.1 s6 (own_x12_1_yy (w0_4 x0 x1 x2 - 1) (w0_10 x0 x1 x2 - 1 - 1 - 1) (w0_17 x0 x1 x2 - 1 - 1) 2 u0 u1)).1
      · skip
        exact (own_st6 x0 x1 x2 (by rw [hn]; decide) q.2.2.2.2.2.2.2.1 s6 (own_x12_1_yn (w0_4 x0 x1 x2 - 1) (w0_10 x0 x1 x2 - 1 - 1 - 1) (w0_17 x0 x1 x2 - 1 - 1) 2 u0 u1)).1
    · skip
      by_cases u1 : 0 < (w0_17 x0 x1 x2 - 1 - 1 - 1)
      · skip
        exact (own_st6 x0 x1 x2 (by rw [hn]; decide) q.2.2.2.2.2.2.2.1 s6 (own_x12_1_ny (w0_4 x0 x1 x2 - 1) (w0_10 x0 x1 x2 - 1 - 1 - 1) (w0_17 x0 x1 x2 - 1 - 1) 2 u0 u1)).1
      · skip
        exact (own_st6 x0 x1 x2 (by rw [hn]; decide) q.2.2.2.2.2.2.2.1 s6 (own_x12_1_nn (w0_4 x0 x1 x2 - 1) (w0_10 x0 x1 x2 - 1 - 1 - 1) (w0_17 x0 x1 x2 - 1 - 1) 2 u0 u1)).1
  exact ⟨fun _ => own_sv0 x0 x1 x2 s0 (by decide), fun _ => own_sv1 x0 x1 x2 s1 (by decide), fun _ => own_sv2 x0 x1 x2 s2 (by decide), fun _ => own_sv3 x0 x1 x2 s3 (by decide), fun _ => own_sv4 x0 x1 x2 s4 (by decide), fun _ => own_sv5 x0 x1 x2 s5 (by decide), fun _ => own_sv6 x0 x1 x2 s6 (by decide), fun h => absurd (hn ▸ h) (by decide), fun h => absurd (hn ▸ h) (by decide), (own_sp8 x0 x1 x2 (by rw [hn]; decide) (own_sp7 x0 x1 x2 (by rw [hn]; decide) o7))⟩
theorem own_c200 (a1 : ¬ (w0_4 x0 x1 x2) < 1) (a2 : ¬ (w0_4 x0 x1 x2) < 2) (a3 : (w0_4 x0 x1 x2) < 3) (a4 : 0 < (w0_4 x0 x1 x2)) (a5 : 0 < (w0_4 x0 x1 x2) - 1) (a6 : ¬ 0 < (w0_4 x0 x1 x2) - 1 - 1) (b1 : (w0_10 x0 x1 x2) < 1) (b2 : (w0_10 x0 x1 x2) < 2) (b3 : (w0_10 x0 x1 x2) < 3) (b4 : ¬ 0 < (w0_10 x0 x1 x2)) (d1 : (w0_17 x0 x1 x2) < 1) (d2 : (w0_17 x0 x1 x2) < 2) (d3 : (w0_17 x0 x1 x2) < 3) (d4 : ¬ 0 < (w0_17 x0 x1 x2)) : OwnG x0 x1 x2 := by
  have q : OwnE8 x0 x1 x2 2 0 0 0 0 0 0 0 0 0 := (own_sk8 x0 x1 x2 d3 (own_sk7 x0 x1 x2 b3 (own_sk6 x0 x1 x2 a3 (own_sk5 x0 x1 x2 d2 (own_sk4 x0 x1 x2 b2 (own_tk3_1 x0 x1 x2 a2 (own_sk2 x0 x1 x2 d1 (own_sk1 x0 x1 x2 b1 (own_tk0 x0 x1 x2 a1)))))))))
  have hn := q.1
  have i0 := own_iynn (w0_4 x0 x1 x2) (w0_10 x0 x1 x2) (w0_17 x0 x1 x2) a4 b4 d4
  have s0 : OwnS0 x0 x1 x2 (w0_4 x0 x1 x2) (w0_10 x0 x1 x2) (w0_17 x0 x1 x2) 0 0 0 1 0 := ⟨rfl, rfl, rfl, rfl, i0.1, i0.2.1, i0.2.2.1, i0.2.2.2, rfl⟩
  have s1 : OwnS1 x0 x1 x2 (w0_4 x0 x1 x2 - 1) (w0_10 x0 x1 x2) (w0_17 x0 x1 x2) 0 0 0 1 0 := own_st0 x0 x1 x2 (by rw [hn]; decide) q.2.1 s0 (own_x0_0_y (w0_4 x0 x1 x2) (w0_10 x0 x1 x2) (w0_17 x0 x1 x2) 0 0 a5)
  have s2 : OwnS2 x0 x1 x2 (w0_4 x0 x1 x2 - 1 - 1) (w0_10 x0 x1 x2) (w0_17 x0 x1 x2) 0 0 0 0 0 := own_st1 x0 x1 x2 (by rw [hn]; decide) q.2.2.1 s1 (own_x0_0_n (w0_4 x0 x1 x2 - 1) (w0_10 x0 x1 x2) (w0_17 x0 x1 x2) 0 0 a6)
  exact ⟨fun _ => own_sv0 x0 x1 x2 s0 (by decide), fun _ => own_sv1 x0 x1 x2 s1 (by decide), fun h => absurd (hn ▸ h) (by decide), fun h => absurd (hn ▸ h) (by decide), fun h => absurd (hn ▸ h) (by decide), fun h => absurd (hn ▸ h) (by decide), fun h => absurd (hn ▸ h) (by decide), fun h => absurd (hn ▸ h) (by decide), fun h => absurd (hn ▸ h) (by decide), (own_sp8 x0 x1 x2 (by rw [hn]; decide) (own_sp7 x0 x1 x2 (by rw [hn]; decide) (own_sp6 x0 x1 x2 (by rw [hn]; decide) (own_sp5 x0 x1 x2 (by rw [hn]; decide) (own_sp4 x0 x1 x2 (by rw [hn]; decide) (own_sp3 x0 x1 x2 (by rw [hn]; decide) (own_sp2 x0 x1 x2 (by rw [hn]; decide) s2.1)))))))⟩
theorem own_c201 (a1 : ¬ (w0_4 x0 x1 x2) < 1) (a2 : ¬ (w0_4 x0 x1 x2) < 2) (a3 : (w0_4 x0 x1 x2) < 3) (a4 : 0 < (w0_4 x0 x1 x2)) (a5 : 0 < (w0_4 x0 x1 x2) - 1) (a6 : ¬ 0 < (w0_4 x0 x1 x2) - 1 - 1) (b1 : (w0_10 x0 x1 x2) < 1) (b2 : (w0_10 x0 x1 x2) < 2) (b3 : (w0_10 x0 x1 x2) < 3) (b4 : ¬ 0 < (w0_10 x0 x1 x2)) (d1 : ¬ (w0_17 x0 x1 x2) < 1) (d2 : (w0_17 x0 x1 x2) < 2) (d3 : (w0_17 x0 x1 x2) < 3) (d4 : 0 < (w0_17 x0 x1 x2)) (d5 : ¬ 0 < (w0_17 x0 x1 x2) - 1) : OwnG x0 x1 x2 := by
  have q : OwnE8 x0 x1 x2 3 0 2 0 0 0 0 0 0 0 := (own_sk8 x0 x1 x2 d3 (own_sk7 x0 x1 x2 b3 (own_sk6 x0 x1 x2 a3 (own_sk5 x0 x1 x2 d2 (own_sk4 x0 x1 x2 b2 (own_tk3_2 x0 x1 x2 a2 (own_tk2_1 x0 x1 x2 d1 (own_sk1 x0 x1 x2 b1 (own_tk0 x0 x1 x2 a1)))))))))
  have hn := q.1
  have i0 := own_iyny (w0_4 x0 x1 x2) (w0_10 x0 x1 x2) (w0_17 x0 x1 x2) a4 b4 d4
  have s0 : OwnS0 x0 x1 x2 (w0_4 x0 x1 x2) (w0_10 x0 x1 x2) (w0_17 x0 x1 x2) 0 2 0 2 0 := ⟨rfl, rfl, rfl, rfl, i0.1, i0.2.1, i0.2.2.1, i0.2.2.2, rfl⟩
  have s1 : OwnS1 x0 x1 x2 (w0_4 x0 x1 x2 - 1) (w0_10 x0 x1 x2) (w0_17 x0 x1 x2) 0 2 0 2 1 := own_st0 x0 x1 x2 (by rw [hn]; decide) q.2.1 s0 (own_x02_0_c (w0_4 x0 x1 x2) (w0_10 x0 x1 x2) (w0_17 x0 x1 x2) 0)
  have s2 : OwnS2 x0 x1 x2 (w0_4 x0 x1 x2 - 1) (w0_10 x0 x1 x2) (w0_17 x0 x1 x2 - 1) 0 2 0 1 0 := own_st1 x0 x1 x2 (by rw [hn]; decide) q.2.2.1 s1 (own_x02_1_yn (w0_4 x0 x1 x2 - 1) (w0_10 x0 x1 x2) (w0_17 x0 x1 x2) 0 a5 d5)
  have s3 : OwnS3 x0 x1 x2 (w0_4 x0 x1 x2 - 1 - 1) (w0_10 x0 x1 x2) (w0_17 x0 x1 x2 - 1) 0 2 0 0 0 := own_st2 x0 x1 x2 (by rw [hn]; decide) q.2.2.2.1 s2 (own_x0_0_n (w0_4 x0 x1 x2 - 1) (w0_10 x0 x1 x2) (w0_17 x0 x1 x2 - 1) 2 0 a6)
  exact ⟨fun _ => own_sv0 x0 x1 x2 s0 (by decide), fun _ => own_sv1 x0 x1 x2 s1 (by decide), fun _ => own_sv2 x0 x1 x2 s2 (by decide), fun h => absurd (hn ▸ h) (by decide), fun h => absurd (hn ▸ h) (by decide), fun h => absurd (hn ▸ h) (by decide), fun h => absurd (hn ▸ h) (by decide), fun h => absurd (hn ▸ h) (by decide), fun h => absurd (hn ▸ h) (by decide), (own_sp8 x0 x1 x2 (by rw [hn]; decide) (own_sp7 x0 x1 x2 (by rw [hn]; decide) (own_sp6 x0 x1 x2 (by rw [hn]; decide) (own_sp5 x0 x1 x2 (by rw [hn]; decide) (own_sp4 x0 x1 x2 (by rw [hn]; decide) (own_sp3 x0 x1 x2 (by rw [hn]; decide) s3.1))))))⟩
theorem own_c202 (a1 : ¬ (w0_4 x0 x1 x2) < 1) (a2 : ¬ (w0_4 x0 x1 x2) < 2) (a3 : (w0_4 x0 x1 x2) < 3) (a4 : 0 < (w0_4 x0 x1 x2)) (a5 : 0 < (w0_4 x0 x1 x2) - 1) (a6 : ¬ 0 < (w0_4 x0 x1 x2) - 1 - 1) (b1 : (w0_10 x0 x1 x2) < 1) (b2 : (w0_10 x0 x1 x2) < 2) (b3 : (w0_10 x0 x1 x2) < 3) (b4 : ¬ 0 < (w0_10 x0 x1 x2)) (d1 : ¬ (w0_17 x0 x1 x2) < 1) (d2 : ¬ (w0_17 x0 x1 x2) < 2) (d3 : (w0_17 x0 x1 x2) < 3) (d4 : 0 < (w0_17 x0 x1 x2)) (d5 : 0 < (w0_17 x0 x1 x2) - 1) (d6 : ¬ 0 < (w0_17 x0 x1 x2) - 1 - 1) : OwnG x0 x1 x2 := by
  have q : OwnE8 x0 x1 x2 4 0 2 0 2 0 0 0 0 0 := (own_sk8 x0 x1 x2 d3 (own_sk7 x0 x1 x2 b3 (own_sk6 x0 x1 x2 a3 (own_tk5_3 x0 x1 x2 d2 (own_sk4 x0 x1 x2 b2 (own_tk3_2 x0 x1 x2 a2 (own_tk2_1 x0 x1 x2 d1 (own_sk1 x0 x1 x2 b1 (own_tk0 x0 x1 x2 a1)))))))))
  have hn := q.1
  have i0 := own_iyny (w0_4 x0 x1 x2) (w0_10 x0 x1 x2) (w0_17 x0 x1 x2) a4 b4 d4
  have s0 : OwnS0 x0 x1 x2 (w0_4 x0 x1 x2) (w0_10 x0 x1 x2) (w0_17 x0 x1 x2) 0 2 0 2 0 := ⟨rfl, rfl, rfl, rfl, i0.1, i0.2.1, i0.2.2.1, i0.2.2.2, rfl⟩
  have s1 : OwnS1 x0 x1 x2 (w0_4 x0 x1 x2 - 1) (w0_10 x0 x1 x2) (w0_17 x0 x1 x2) 0 2 0 2 1 := own_st0 x0 x1 x2 (by rw [hn]; decide) q.2.1 s0 (own_x02_0_c (w0_4 x0 x1 x2) (w0_10 x0 x1 x2) (w0_17 x0 x1 x2) 0)
  have s2 : OwnS2 x0 x1 x2 (w0_4 x0 x1 x2 - 1) (w0_10 x0 x1 x2) (w0_17 x0 x1 x2 - 1) 0 2 0 2 0 := own_st1 x0 x1 x2 (by rw [hn]; decide) q.2.2.1 s1 (own_x02_1_yy (w0_4 x0 x1 x2 - 1) (w0_10 x0 x1 x2) (w0_17 x0 x1 x2) 0 a5 d5)
  have s3 : OwnS3 x0 x1 x2 (w0_4 x0 x1 x2 - 1 - 1) (w0_10 x0 x1 x2) (w0_17 x0 x1 x2 - 1) 0 2 0 2 1 := own_st2 x0 x1 x2 (by rw [hn]; decide) q.2.2.2.1 s2 (own_x02_0_c (w0_4 x0 x1 x2 - 1) (w0_10 x0 x1 x2) (w0_17 x0 x1 x2 - 1) 0)
  have s4 : OwnS4 x0 x1 x2 (w0_4 x0 x1 x2 - 1 - 1) (w0_10 x0 x1 x2) (w0_17 x0 x1 x2 - 1 - 1) 0 2 0 0 0 := own_st3 x0 x1 x2 (by rw [hn]; decide) q.2.2.2.2.1 s3 (own_x02_1_nn (w0_4 x0 x1 x2 - 1 - 1) (w0_10 x0 x1 x2) (w0_17 x0 x1 x2 - 1) 0 a6 d6)
  exact ⟨fun _ => own_sv0 x0 x1 x2 s0 (by decide), fun _ => own_sv1 x0 x1 x2 s1 (by decide), fun _ => own_sv2 x0 x1 x2 s2 (by decide), fun _ => own_sv3 x0 x1 x2 s3 (by decide), fun h => absurd (hn ▸ h) (by decide), fun h => absurd (hn ▸ h) (by decide), fun h => absurd (hn ▸ h) (by decide), fun h => absurd (hn ▸ h) (by decide), fun h => absurd (hn ▸ h) (by decide), (own_sp8 x0 x1 x2 (by rw [hn]; decide) (own_sp7 x0 x1 x2 (by rw [hn]; decide) (own_sp6 x0 x1 x2 (by rw [hn]; decide) (own_sp5 x0 x1 x2 (by rw [hn]; decide) (own_sp4 x0 x1 x2 (by rw [hn]; decide) s4.1)))))⟩
theorem own_c203 (a1 : ¬ (w0_4 x0 x1 x2) < 1) (a2 : ¬ (w0_4 x0 x1 x2) < 2) (a3 : (w0_4 x0 x1 x2) < 3) (a4 : 0 < (w0_4 x0 x1 x2)) (a5 : 0 < (w0_4 x0 x1 x2) - 1) (a6 : ¬ 0 < (w0_4 x0 x1 x2) - 1 - 1) (b1 : (w0_10 x0 x1 x2) < 1) (b2 : (w0_10 x0 x1 x2) < 2) (b3 : (w0_10 x0 x1 x2) < 3) (b4 : ¬ 0 < (w0_10 x0 x1 x2)) (d1 : ¬ (w0_17 x0 x1 x2) < 1) (d2 : ¬ (w0_17 x0 x1 x2) < 2) (d3 : ¬ (w0_17 x0 x1 x2) < 3) (d4 : 0 < (w0_17 x0 x1 x2)) (d5 : 0 < (w0_17 x0 x1 x2) - 1) (d6 : 0 < (w0_17 x0 x1 x2) - 1 - 1) : OwnG x0 x1 x2 := by
  have q : OwnE8 x0 x1 x2 5 0 2 0 2 2 0 0 0 0 := (own_tk8_4 x0 x1 x2 d3 (own_sk7 x0 x1 x2 b3 (own_sk6 x0 x1 x2 a3 (own_tk5_3 x0 x1 x2 d2 (own_sk4 x0 x1 x2 b2 (own_tk3_2 x0 x1 x2 a2 (own_tk2_1 x0 x1 x2 d1 (own_sk1 x0 x1 x2 b1 (own_tk0 x0 x1 x2 a1)))))))))
  have hn := q.1
  have i0 := own_iyny (w0_4 x0 x1 x2) (w0_10 x0 x1 x2) (w0_17 x0 x1 x2) a4 b4 d4
  have s0 : OwnS0 x0 x1 x2 (w0_4 x0 x1 x2) (w0_10 x0 x1 x2) (w0_17 x0 x1 x2) 0 2 0 2 0 := ⟨rfl, rfl, rfl, rfl, i0.1, i0.2.1, i0.2.2.1, i0.2.2.2, rfl⟩
  have s1 : OwnS1 x0 x1 x2 (w0_4 x0 x1 x2 - 1) (w0_10 x0 x1 x2) (w0_17 x0 x1 x2) 0 2 0 2 1 := own_st0 x0 x1 x2 (by rw [hn]; decide) q.2.1 s0 (own_x02_0_c (w0_4 x0 x1 x2) (w0_10 x0 x1 x2) (w0_17 x0 x1 x2) 0)
  have s2 : OwnS2 x0 x1 x2 (w0_4 x0 x1 x2 - 1) (w0_10 x0 x1 x2) (w0_17 x0 x1 x2 - 1) 0 2 0 2 0 := own_st1 x0 x1 x2 (by rw [hn]; decide) q.2.2.1 s1 (own_x02_1_yy (w0_4 x0 x1 x2 - 1) (w0_10 x0 x1 x2) (w0_17 x0 x1 x2) 0 a5 d5)
  have s3 : OwnS3 x0 x1 x2 (w0_4 x0 x1 x2 - 1 - 1) (w0_10 x0 x1 x2) (w0_17 x0 x1 x2 - 1) 0 2 0 2 1 := own_st2 x0 x1 x2 (by rw [hn]; decide) q.2.2.2.1 s2 (own_x02_0_c (w0_4 x0 x1 x2 - 1) (w0_10 x0 x1 x2) (w0_17 x0 x1 x2 - 1) 0)
  have s4 : OwnS4 x0 x1 x2 (w0_4 x0 x1 x2 - 1 - 1) (w0_10 x0 x1 x2) (w0_17 x0 x1 x2 - 1 - 1) 2 2 0 1 0 := own_st3 x0 x1 x2 (by rw [hn]; decide) q.2.2.2.2.1 s3 (own_x02_1_ny (w0_4 x0 x1 x2 - 1 - 1) (w0_10 x0 x1 x2) (w0_17 x0 x1 x2 - 1) 0 a6 d6)
  have o5 : j0_367_16 x0 x1 x2 = 1 := by
    by_cases u0 : 0 < (w0_17 x0 x1 x2 - 1 - 1 - 1)
    · skip
      exact (own_st4 x0 x1 x2 (by rw [hn]; decide) q.2.2.2.2.2.1 s4 (own_x2_0_y (w0_4 x0 x1 x2 - 1 - 1) (w0_10 x0 x1 x2) (w0_17 x0 x1 x2 - 1 - 1) 2 0 u0)).1
    · skip
      exact (own_st4 x0 x1 x2 (by rw [hn]; decide) q.2.2.2.2.2.1 s4 (own_x2_0_n (w0_4 x0 x1 x2 - 1 - 1) (w0_10 x0 x1 x2) (w0_17 x0 x1 x2 - 1 - 1) 2 0 u0)).1
  exact ⟨fun _ => own_sv0 x0 x1 x2 s0 (by decide), fun _ => own_sv1 x0 x1 x2 s1 (by decide), fun _ => own_sv2 x0 x1 x2 s2 (by decide), fun _ => own_sv3 x0 x1 x2 s3 (by decide), fun _ => own_sv4 x0 x1 x2 s4 (by decide), fun h => absurd (hn ▸ h) (by decide), fun h => absurd (hn ▸ h) (by decide), fun h => absurd (hn ▸ h) (by decide), fun h => absurd (hn ▸ h) (by decide), (own_sp8 x0 x1 x2 (by rw [hn]; decide) (own_sp7 x0 x1 x2 (by rw [hn]; decide) (own_sp6 x0 x1 x2 (by rw [hn]; decide) (own_sp5 x0 x1 x2 (by rw [hn]; decide) o5))))⟩
theorem own_c210 (a1 : ¬ (w0_4 x0 x1 x2) < 1) (a2 : ¬ (w0_4 x0 x1 x2) < 2) (a3 : (w0_4 x0 x1 x2) < 3) (a4 : 0 < (w0_4 x0 x1 x2)) (a5 : 0 < (w0_4 x0 x1 x2) - 1) (a6 : ¬ 0 < (w0_4 x0 x1 x2) - 1 - 1) (b1 : ¬ (w0_10 x0 x1 x2) < 1) (b2 : (w0_10 x0 x1 x2) < 2) (b3 : (w0_10 x0 x1 x2) < 3) (b4 : 0 < (w0_10 x0 x1 x2)) (b5 : ¬ 0 < (w0_10 x0 x1 x2) - 1) (d1 : (w0_17 x0 x1 x2) < 1) (d2 : (w0_17 x0 x1 x2) < 2) (d3 : (w0_17 x0 x1 x2) < 3) (d4 : ¬ 0 < (w0_17 x0 x1 x2)) : OwnG x0 x1 x2 := by
  have q : OwnE8 x0 x1 x2 3 0 1 0 0 0 0 0 0 0 := (own_sk8 x0 x1 x2 d3 (own_sk7 x0 x1 x2 b3 (own_sk6 x0 x1 x2 a3 (own_sk5 x0 x1 x2 d2 (own_sk4 x0 x1 x2 b2 (own_tk3_2 x0 x1 x2 a2 (own_sk2 x0 x1 x2 d1 (own_tk1_1 x0 x1 x2 b1 (own_tk0 x0 x1 x2 a1)))))))))
  have hn := q.1
  have i0 := own_iyyn (w0_4 x0 x1 x2) (w0_10 x0 x1 x2) (w0_17 x0 x1 x2) a4 b4 d4
  have s0 : OwnS0 x0 x1 x2 (w0_4 x0 x1 x2) (w0_10 x0 x1 x2) (w0_17 x0 x1 x2) 0 1 0 2 0 := ⟨rfl, rfl, rfl, rfl, i0.1, i0.2.1, i0.2.2.1, i0.2.2.2, rfl⟩
  have s1 : OwnS1 x0 x1 x2 (w0_4 x0 x1 x2 - 1) (w0_10 x0 x1 x2) (w0_17 x0 x1 x2) 0 1 0 2 1 := own_st0 x0 x1 x2 (by rw [hn]; decide) q.2.1 s0 (own_x01_0_c (w0_4 x0 x1 x2) (w0_10 x0 x1 x2) (w0_17 x0 x1 x2) 0)
  have s2 : OwnS2 x0 x1 x2 (w0_4 x0 x1 x2 - 1) (w0_10 x0 x1 x2 - 1) (w0_17 x0 x1 x2) 0 1 0 1 0 := own_st1 x0 x1 x2 (by rw [hn]; decide) q.2.2.1 s1 (own_x01_1_yn (w0_4 x0 x1 x2 - 1) (w0_10 x0 x1 x2) (w0_17 x0 x1 x2) 0 a5 b5)
  have s3 : OwnS3 x0 x1 x2 (w0_4 x0 x1 x2 - 1 - 1) (w0_10 x0 x1 x2 - 1) (w0_17 x0 x1 x2) 0 1 0 0 0 := own_st2 x0 x1 x2 (by rw [hn]; decide) q.2.2.2.1 s2 (own_x0_0_n (w0_4 x0 x1 x2 - 1) (w0_10 x0 x1 x2 - 1) (w0_17 x0 x1 x2) 1 0 a6)
  exact ⟨fun _ => own_sv0 x0 x1 x2 s0 (by decide), fun _ => own_sv1 x0 x1 x2 s1 (by decide), fun _ => own_sv2 x0 x1 x2 s2 (by decide), fun h => absurd (hn ▸ h) (by decide), fun h => absurd (hn ▸ h) (by decide), fun h => absurd (hn ▸ h) (by decide), fun h => absurd (hn ▸ h) (by decide), fun h => absurd (hn ▸ h) (by decide), fun h => absurd (hn ▸ h) (by decide), (own_sp8 x0 x1 x2 (by rw [hn]; decide) (own_sp7 x0 x1 x2 (by rw [hn]; decide) (own_sp6 x0 x1 x2 (by rw [hn]; decide) (own_sp5 x0 x1 x2 (by rw [hn]; decide) (own_sp4 x0 x1 x2 (by rw [hn]; decide) (own_sp3 x0 x1 x2 (by rw [hn]; decide) s3.1))))))⟩
theorem own_c211 (a1 : ¬ (w0_4 x0 x1 x2) < 1) (a2 : ¬ (w0_4 x0 x1 x2) < 2) (a3 : (w0_4 x0 x1 x2) < 3) (a4 : 0 < (w0_4 x0 x1 x2)) (a5 : 0 < (w0_4 x0 x1 x2) - 1) (a6 : ¬ 0 < (w0_4 x0 x1 x2) - 1 - 1) (b1 : ¬ (w0_10 x0 x1 x2) < 1) (b2 : (w0_10 x0 x1 x2) < 2) (b3 : (w0_10 x0 x1 x2) < 3) (b4 : 0 < (w0_10 x0 x1 x2)) (b5 : ¬ 0 < (w0_10 x0 x1 x2) - 1) (d1 : ¬ (w0_17 x0 x1 x2) < 1) (d2 : (w0_17 x0 x1 x2) < 2) (d3 : (w0_17 x0 x1 x2) < 3) (d4 : 0 < (w0_17 x0 x1 x2)) (d5 : ¬ 0 < (w0_17 x0 x1 x2) - 1) : OwnG x0 x1 x2 := by
  have q : OwnE8 x0 x1 x2 4 0 1 2 0 0 0 0 0 0 := (own_sk8 x0 x1 x2 d3 (own_sk7 x0 x1 x2 b3 (own_sk6 x0 x1 x2 a3 (own_sk5 x0 x1 x2 d2 (own_sk4 x0 x1 x2 b2 (own_tk3_3 x0 x1 x2 a2 (own_tk2_2 x0 x1 x2 d1 (own_tk1_1 x0 x1 x2 b1 (own_tk0 x0 x1 x2 a1)))))))))
  have hn := q.1
  have i0 := own_iyyy (w0_4 x0 x1 x2) (w0_10 x0 x1 x2) (w0_17 x0 x1 x2) a4 b4 d4
  have s0 : OwnS0 x0 x1 x2 (w0_4 x0 x1 x2) (w0_10 x0 x1 x2) (w0_17 x0 x1 x2) 0 1 2 3 0 := ⟨rfl, rfl, rfl, rfl, i0.1, i0.2.1, i0.2.2.1, i0.2.2.2, rfl⟩
  have s1 : OwnS1 x0 x1 x2 (w0_4 x0 x1 x2 - 1) (w0_10 x0 x1 x2) (w0_17 x0 x1 x2) 0 1 2 3 1 := own_st0 x0 x1 x2 (by rw [hn]; decide) q.2.1 s0 (own_x012_0_c (w0_4 x0 x1 x2) (w0_10 x0 x1 x2) (w0_17 x0 x1 x2) )
  have s2 : OwnS2 x0 x1 x2 (w0_4 x0 x1 x2 - 1) (w0_10 x0 x1 x2 - 1) (w0_17 x0 x1 x2) 0 1 2 3 2 := own_st1 x0 x1 x2 (by rw [hn]; decide) q.2.2.1 s1 (own_x012_1_c (w0_4 x0 x1 x2 - 1) (w0_10 x0 x1 x2) (w0_17 x0 x1 x2) )
  have s3 : OwnS3 x0 x1 x2 (w0_4 x0 x1 x2 - 1) (w0_10 x0 x1 x2 - 1) (w0_17 x0 x1 x2 - 1) 0 1 2 1 0 := own_st2 x0 x1 x2 (by rw [hn]; decide) q.2.2.2.1 s2 (own_x012_2_ynn (w0_4 x0 x1 x2 - 1) (w0_10 x0 x1 x2 - 1) (w0_17 x0 x1 x2)  a5 b5 d5)
  have s4 : OwnS4 x0 x1 x2 (w0_4 x0 x1 x2 - 1 - 1) (w0_10 x0 x1 x2 - 1) (w0_17 x0 x1 x2 - 1) 0 1 2 0 0 := own_st3 x0 x1 x2 (by rw [hn]; decide) q.2.2.2.2.1 s3 (own_x0_0_n (w0_4 x0 x1 x2 - 1) (w0_10 x0 x1 x2 - 1) (w0_17 x0 x1 x2 - 1) 1 2 a6)
  exact ⟨fun _ => own_sv0 x0 x1 x2 s0 (by decide), fun _ => own_sv1 x0 x1 x2 s1 (by decide), fun _ => own_sv2 x0 x1 x2 s2 (by decide), fun _ => own_sv3 x0 x1 x2 s3 (by decide), fun h => absurd (hn ▸ h) (by decide), fun h => absurd (hn ▸ h) (by decide), fun h => absurd (hn ▸ h) (by decide), fun h => absurd (hn ▸ h) (by decide), fun h => absurd (hn ▸ h) (by decide), (own_sp8 x0 x1 x2 (by rw [hn]; decide) (own_sp7 x0 x1 x2 (by rw [hn]; decide) (own_sp6 x0 x1 x2 (by rw [hn]; decide) (own_sp5 x0 x1 x2 (by rw [hn]; decide) (own_sp4 x0 x1 x2 (by rw [hn]; decide) s4.1)))))⟩
theorem own_c212 (a1 : ¬ (w0_4 x0 x1 x2) < 1) (a2 : ¬ (w0_4 x0 x1 x2) < 2) (a3 : (w0_4 x0 x1 x2) < 3) (a4 : 0 < (w0_4 x0 x1 x2)) (a5 : 0 < (w0_4 x0 x1 x2) - 1) (a6 : ¬ 0 < (w0_4 x0 x1 x2) - 1 - 1) (b1 : ¬ (w0_10 x0 x1 x2) < 1) (b2 : (w0_10 x0 x1 x2) < 2) (b3 : (w0_10 x0 x1 x2) < 3) (b4 : 0 < (w0_10 x0 x1 x2)) (b5 : ¬ 0 < (w0_10 x0 x1 x2) - 1) (d1 : ¬ (w0_17 x0 x1 x2) < 1) (d2 : ¬ (w0_17 x0 x1 x2) < 2) (d3 : (w0_17 x0 x1 x2) < 3) (d4 : 0 < (w0_17 x0 x1 x2)) (d5 : 0 < (w0_17 x0 x1 x2) - 1) (d6 : ¬ 0 < (w0_17 x0 x1 x2) - 1 - 1) : OwnG x0 x1 x2 := by
  have q : OwnE8 x0 x1 x2 5 0 1 2 0 2 0 0 0 0 := (own_sk8 x0 x1 x2 d3 (own_sk7 x0 x1 x2 b3 (own_sk6 x0 x1 x2 a3 (own_tk5_4 x0 x1 x2 d2 (own_sk4 x0 x1 x2 b2 (own_tk3_3 x0 x1 x2 a2 (own_tk2_2 x0 x1 x2 d1 (own_tk1_1 x0 x1 x2 b1 (own_tk0 x0 x1 x2 a1)))))))))
  have hn := q.1
  have i0 := own_iyyy (w0_4 x0 x1 x2) (w0_10 x0 x1 x2) (w0_17 x0 x1 x2) a4 b4 d4
  have s0 : OwnS0 x0 x1 x2 (w0_4 x0 x1 x2) (w0_10 x0 x1 x2) (w0_17 x0 x1 x2) 0 1 2 3 0 := ⟨rfl, rfl, rfl, rfl, i0.1, i0.2.1, i0.2.2.1, i0.2.2.2, rfl⟩
  have s1 : OwnS1 x0 x1 x2 (w0_4 x0 x1 x2 - 1) (w0_10 x0 x1 x2) (w0_17 x0 x1 x2) 0 1 2 3 1 := own_st0 x0 x1 x2 (by rw [hn]; decide) q.2.1 s0 (own_x012_0_c (w0_4 x0 x1 x2) (w0_10 x0 x1 x2) (w0_17 x0 x1 x2) )
  have s2 : OwnS2 x0 x1 x2 (w0_4 x0 x1 x2 - 1) (w0_10 x0 x1 x2 - 1) (w0_17 x0 x1 x2) 0 1 2 3 2 := own_st1 x0 x1 x2 (by rw [hn]; decide) q.2.2.1 s1 (own_x012_1_c (w0_4 x0 x1 x2 - 1) (w0_10 x0 x1 x2) (w0_17 x0 x1 x2) )
  have s3 : OwnS3 x0 x1 x2 (w0_4 x0 x1 x2 - 1) (w0_10 x0 x1 x2 - 1) (w0_17 x0 x1 x2 - 1) 0 2 2 2 0 := own_st2 x0 x1 x2 (by rw [hn]; decide) q.2.2.2.1 s2 (own_x012_2_yny (w0_4 x0 x1 x2 - 1) (w0_10 x0 x1 x2 - 1) (w0_17 x0 x1 x2)  a5 b5 d5)
  have s4 : OwnS4 x0 x1 x2 (w0_4 x0 x1 x2 - 1 - 1) (w0_10 x0 x1 x2 - 1) (w0_17 x0 x1 x2 - 1) 0 2 2 2 1 := own_st3 x0 x1 x2 (by rw [hn]; decide) q.2.2.2.2.1 s3 (own_x02_0_c (w0_4 x0 x1 x2 - 1) (w0_10 x0 x1 x2 - 1) (w0_17 x0 x1 x2 - 1) 2)
  have s5 : OwnS5 x0 x1 x2 (w0_4 x0 x1 x2 - 1 - 1) (w0_10 x0 x1 x2 - 1) (w0_17 x0 x1 x2 - 1 - 1) 0 2 2 0 0 := own_st4 x0 x1 x2 (by rw [hn]; decide) q.2.2.2.2.2.1 s4 (own_x02_1_nn (w0_4 x0 x1 x2 - 1 - 1) (w0_10 x0 x1 x2 - 1) (w0_17 x0 x1 x2 - 1) 2 a6 d6)
  exact ⟨fun _ => own_sv0 x0 x1 x2 s0 (by decide), fun _ => own_sv1 x0 x1 x2 s1 (by decide), fun _ => own_sv2 x0 x1 x2 s2 (by decide), fun _ => own_sv3 x0 x1 x2 s3 (by decide), fun _ => own_sv4 x0 x1 x2 s4 (by decide), fun h => absurd (hn ▸ h) (by decide), fun h => absurd (hn ▸ h) (by decide), fun h => absurd (hn ▸ h) (by decide), fun h => absurd (hn ▸ h) (by decide), (own_sp8 x0 x1 x2 (by rw [hn]; decide) (own_sp7 x0 x1 x2 (by rw [hn]; decide) (own_sp6 x0 x1 x2 (by rw [hn]; decide) (own_sp5 x0 x1 x2 (by rw [hn]; decide) s5.1))))⟩
theorem own_c213 (a1 : ¬ (w0_4 x0 x1 x2) < 1) (a2 : ¬ (w0_4 x0 x1 x2) < 2) (a3 : (w0_4 x0 x1 x2) < 3) (a4 : 0 < (w0_4 x0 x1 x2)) (a5 : 0 < (w0_4 x0 x1 x2) - 1) (a6 : ¬ 0 < (w0_4 x0 x1 x2) - 1 - 1) (b1 : ¬ (w0_10 x0 x1 x2) < 1) (b2 : (w0_10 x0 x1 x2) < 2) (b3 : (w0_10 x0 x1 x2) < 3) (b4 : 0 < (w0_10 x0 x1 x2)) (b5 : ¬ 0 < (w0_10 x0 x1 x2) - 1) (d1 : ¬ (w0_17 x0 x1 x2) < 1) (d2 : ¬ (w0_17 x0 x1 x2) < 2) (d3 : ¬ (w0_17 x0 x1 x2) < 3) (d4 : 0 < (w0_17 x0 x1 x2)) (d5 : 0 < (w0_17 x0 x1 x2) - 1) (d6 : 0 < (w0_17 x0 x1 x2) - 1 - 1) : OwnG x0 x1 x2 := by
  have q : OwnE8 x0 x1 x2 6 0 1 2 0 2 2 0 0 0 := (own_tk8_5 x0 x1 x2 d3 (own_sk7 x0 x1 x2 b3 (own_sk6 x0 x1 x2 a3 (own_tk5_4 x0 x1 x2 d2 (own_sk4 x0 x1 x2 b2 (own_tk3_3 x0 x1 x2 a2 (own_tk2_2 x0 x1 x2 d1 (own_tk1_1 x0 x1 x2 b1 (own_tk0 x0 x1 x2 a1)))))))))
  have hn := q.1
  have i0 := own_iyyy (w0_4 x0 x1 x2) (w0_10 x0 x1 x2) (w0_17 x0 x1 x2) a4 b4 d4
  have s0 : OwnS0 x0 x1 x2 (w0_4 x0 x1 x2) (w0_10 x0 x1 x2) (w0_17 x0 x1 x2) 0 1 2 3 0 := ⟨rfl, rfl, rfl, rfl, i0.1, i0.2.1, i0.2.2.1, i0.2.2.2, rfl⟩
  have s1 : OwnS1 x0 x1 x2 (w0_4 x0 x1 x2 - 1) (w0_10 x0 x1 x2) (w0_17 x0 x1 x2) 0 1 2 3 1 := own_st0 x0 x1 x2 (by rw [hn]; decide) q.2.1 s0 (own_x012_0_c (w0_4 x0 x1 x2) (w0_10 x0 x1 x2) (w0_17 x0 x1 x2) )
  have s2 : OwnS2 x0 x1 x2 (w0_4 x0 x1 x2 - 1) (w0_10 x0 x1 x2 - 1) (w0_17 x0 x1 x2) 0 1 2 3 2 := own_st1 x0 x1 x2 (by rw [hn]; decide) q.2.2.1 s1 (own_x012_1_c (w0_4 x0 x1 x2 - 1) (w0_10 x0 x1 x2) (w0_17 x0 x1 x2) )
  have s3 : OwnS3 x0 x1 x2 (w0_4 x0 x1 x2 - 1) (w0_10 x0 x1 x2 - 1) (w0_17 x0 x1 x2 - 1) 0 2 2 2 0 := own_st2 x0 x1 x2 (by rw [hn]; decide) q.2.2.2.1 s2 (own_x012_2_yny (w0_4 x0 x1 x2 - 1) (w0_10 x0 x1 x2 - 1) (w0_17 x0 x1 x2)  a5 b5 d5)
  have s4 : OwnS4 x0 x1 x2 (w0_4 x0 x1 x2 - 1 - 1) (w0_10 x0 x1 x2 - 1) (w0_17 x0 x1 x2 - 1) 0 2 2 2 1 := own_st3 x0 x1 x2 (by rw [hn]; decide) q.2.2.2.2.1 s3 (own_x02_0_c (w0_4 x0 x1 x2 - 1) (w0_10 x0 x1 x2 - 1) (w0_17 x0 x1 x2 - 1) 2)
  have s5 : OwnS5 x0 x1 x2 (w0_4 x0 x1 x2 - 1 - 1) (w0_10 x0 x1 x2 - 1) (w0_17 x0 x1 x2 - 1 - 1) 2 2 2 1 0 := own_st4 x0 x1 x2 (by rw [hn]; decide) q.2.2.2.2.2.1 s4 (own_x02_1_ny (w0_4 x0 x1 x2 - 1 - 1) (w0_10 x0 x1 x2 - 1) (w0_17 x0 x1 x2 - 1) 2 a6 d6)
  have o6 : j0_397_16 x0 x1 x2 = 1 := by
    by_cases u0 : 0 < (w0_17 x0 x1 x2 - 1 - 1 - 1)
    · skip
      exact (own_st5 x0 x1 x2 (by rw [hn]; decide) q.2.2.2.2.2.2.1 s5 (own_x2_0_y (w0_4 x0 x1 x2 - 1 - 1) (w0_10 x0 x1 x2 - 1) (w0_17 x0 x1 x2 - 1 - 1) 2 2 u0)).1
    · skip
      exact (own_st5 x0 x1 x2 (by rw [hn]; decide) q.2.2.2.2.2.2.1 s5 (own_x2_0_n (w0_4 x0 x1 x2 - 1 - 1) (w0_10 x0 x1 x2 - 1) (w0_17 x0 x1 x2 - 1 - 1) 2 2 u0)).1
  exact ⟨fun _ => own_sv0 x0 x1 x2 s0 (by decide), fun _ => own_sv1 x0 x1 x2 s1 (by decide), fun _ => own_sv2 x0 x1 x2 s2 (by decide), fun _ => own_sv3 x0 x1 x2 s3 (by decide), fun _ => own_sv4 x0 x1 x2 s4 (by decide), fun _ => own_sv5 x0 x1 x2 s5 (by decide), fun h => absurd (hn ▸ h) (by decide), fun h => absurd (hn ▸ h) (by decide), fun h => absurd (hn ▸ h) (by decide), (own_sp8 x0 x1 x2 (by rw [hn]; decide) (own_sp7 x0 x1 x2 (by rw [hn]; decide) (own_sp6 x0 x1 x2 (by rw [hn]; decide) o6)))⟩
theorem own_c220 (a1 : ¬ (w0_4 x0 x1 x2) < 1) (a2 : ¬ (w0_4 x0 x1 x2) < 2) (a3 : (w0_4 x0 x1 x2) < 3) (a4 : 0 < (w0_4 x0 x1 x2)) (a5 : 0 < (w0_4 x0 x1 x2) - 1) (a6 : ¬ 0 < (w0_4 x0 x1 x2) - 1 - 1) (b1 : ¬ (w0_10 x0 x1 x2) < 1) (b2 : ¬ (w0_10 x0 x1 x2) < 2) (b3 : (w0_10 x0 x1 x2) < 3) (b4 : 0 < (w0_10 x0 x1 x2)) (b5 : 0 < (w0_10 x0 x1 x2) - 1) (b6 : ¬ 0 < (w0_10 x0 x1 x2) - 1 - 1) (d1 : (w0_17 x0 x1 x2) < 1) (d2 : (w0_17 x0 x1 x2) < 2) (d3 : (w0_17 x0 x1 x2) < 3) (d4 : ¬ 0 < (w0_17 x0 x1 x2)) : OwnG x0 x1 x2 := by
  have q : OwnE8 x0 x1 x2 4 0 1 0 1 0 0 0 0 0 := (own_sk8 x0 x1 x2 d3 (own_sk7 x0 x1 x2 b3 (own_sk6 x0 x1 x2 a3 (own_sk5 x0 x1 x2 d2 (own_tk4_3 x0 x1 x2 b2 (own_tk3_2 x0 x1 x2 a2 (own_sk2 x0 x1 x2 d1 (own_tk1_1 x0 x1 x2 b1 (own_tk0 x0 x1 x2 a1)))))))))
  have hn := q.1
  have i0 := own_iyyn (w0_4 x0 x1 x2) (w0_10 x0 x1 x2) (w0_17 x0 x1 x2) a4 b4 d4
  have s0 : OwnS0 x0 x1 x2 (w0_4 x0 x1 x2) (w0_10 x0 x1 x2) (w0_17 x0 x1 x2) 0 1 0 2 0 := ⟨rfl, rfl, rfl, rfl, i0.1, i0.2.1, i0.2.2.1, i0.2.2.2, rfl⟩
  have s1 : OwnS1 x0 x1 x2 (w0_4 x0 x1 x2 - 1) (w0_10 x0 x1 x2) (w0_17 x0 x1 x2) 0 1 0 2 1 := own_st0 x0 x1 x2 (by rw [hn]; decide) q.2.1 s0 (own_x01_0_c (w0_4 x0 x1 x2) (w0_10 x0 x1 x2) (w0_17 x0 x1 x2) 0)
  have s2 : OwnS2 x0 x1 x2 (w0_4 x0 x1 x2 - 1) (w0_10 x0 x1 x2 - 1) (w0_17 x0 x1 x2) 0 1 0 2 0 := own_st1 x0 x1 x2 (by rw [hn]; decide) q.2.2.1 s1 (own_x01_1_yy (w0_4 x0 x1 x2 - 1) (w0_10 x0 x1 x2) (w0_17 x0 x1 x2) 0 a5 b5)
  have s3 : OwnS3 x0 x1 x2 (w0_4 x0 x1 x2 - 1 - 1) (w0_10 x0 x1 x2 - 1) (w0_17 x0 x1 x2) 0 1 0 2 1 := own_st2 x0 x1 x2 (by rw [hn]; decide) q.2.2.2.1 s2 (own_x01_0_c (w0_4 x0 x1 x2 - 1) (w0_10 x0 x1 x2 - 1) (w0_17 x0 x1 x2) 0)
  have s4 : OwnS4 x0 x1 x2 (w0_4 x0 x1 x2 - 1 - 1) (w0_10 x0 x1 x2 - 1 - 1) (w0_17 x0 x1 x2) 0 1 0 0 0 := own_st3 x0 x1 x2 (by rw [hn]; decide) q.2.2.2.2.1 s3 (own_x01_1_nn (w0_4 x0 x1 x2 - 1 - 1) (w0_10 x0 x1 x2 - 1) (w0_17 x0 x1 x2) 0 a6 b6)
  exact ⟨fun _ => own_sv0 x0 x1 x2 s0 (by decide), fun _ => own_sv1 x0 x1 x2 s1 (by decide), fun _ => own_sv2 x0 x1 x2 s2 (by decide), fun _ => own_sv3 x0 x1 x2 s3 (by decide), fun h => absurd (hn ▸ h) (by decide), fun h => absurd (hn ▸ h) (by decide), fun h => absurd (hn ▸ h) (by decide), fun h => absurd (hn ▸ h) (by decide), fun h => absurd (hn ▸ h) (by decide), (own_sp8 x0 x1 x2 (by rw [hn]; decide) (own_sp7 x0 x1 x2 (by rw [hn]; decide) (own_sp6 x0 x1 x2 (by rw [hn]; decide) (own_sp5 x0 x1 x2 (by rw [hn]; decide) (own_sp4 x0 x1 x2 (by rw [hn]; decide) s4.1)))))⟩
theorem own_c221 (a1 : ¬ (w0_4 x0 x1 x2) < 1) (a2 : ¬ (w0_4 x0 x1 x2) < 2) (a3 : (w0_4 x0 x1 x2) < 3) (a4 : 0 < (w0_4 x0 x1 x2)) (a5 : 0 < (w0_4 x0 x1 x2) - 1) (a6 : ¬ 0 < (w0_4 x0 x1 x2) - 1 - 1) (b1 : ¬ (w0_10 x0 x1 x2) < 1) (b2 : ¬ (w0_10 x0 x1 x2) < 2) (b3 : (w0_10 x0 x1 x2) < 3) (b4 : 0 < (w0_10 x0 x1 x2)) (b5 : 0 < (w0_10 x0 x1 x2) - 1) (b6 : ¬ 0 < (w0_10 x0 x1 x2) - 1 - 1) (d1 : ¬ (w0_17 x0 x1 x2) < 1) (d2 : (w0_17 x0 x1 x2) < 2) (d3 : (w0_17 x0 x1 x2) < 3) (d4 : 0 < (w0_17 x0 x1 x2)) (d5 : ¬ 0 < (w0_17 x0 x1 x2) - 1) : OwnG x0 x1 x2 := by
  have q : OwnE8 x0 x1 x2 5 0 1 2 0 1 0 0 0 0 := (own_sk8 x0 x1 x2 d3 (own_sk7 x0 x1 x2 b3 (own_sk6 x0 x1 x2 a3 (own_sk5 x0 x1 x2 d2 (own_tk4_4 x0 x1 x2 b2 (own_tk3_3 x0 x1 x2 a2 (own_tk2_2 x0 x1 x2 d1 (own_tk1_1 x0 x1 x2 b1 (own_tk0 x0 x1 x2 a1)))))))))
  have hn := q.1
  have i0 := own_iyyy (w0_4 x0 x1 x2) (w0_10 x0 x1 x2) (w0_17 x0 x1 x2) a4 b4 d4
  have s0 : OwnS0 x0 x1 x2 (w0_4 x0 x1 x2) (w0_10 x0 x1 x2) (w0_17 x0 x1 x2) 0 1 2 3 0 := ⟨rfl, rfl, rfl, rfl, i0.1, i0.2.1, i0.2.2.1, i0.2.2.2, rfl⟩
  have s1 : OwnS1 x0 x1 x2 (w0_4 x0 x1 x2 - 1) (w0_10 x0 x1 x2) (w0_17 x0 x1 x2) 0 1 2 3 1 := own_st0 x0 x1 x2 (by rw [hn]; decide) q.2.1 s0 (own_x012_0_c (w0_4 x0 x1 x2) (w0_10 x0 x1 x2) (w0_17 x0 x1 x2) )
  have s2 : OwnS2 x0 x1 x2 (w0_4 x0 x1 x2 - 1) (w0_10 x0 x1 x2 - 1) (w0_17 x0 x1 x2) 0 1 2 3 2 := own_st1 x0 x1 x2 (by rw [hn]; decide) q.2.2.1 s1 (own_x012_1_c (w0_4 x0 x1 x2 - 1) (w0_10 x0 x1 x2) (w0_17 x0 x1 x2) )
  have s3 : OwnS3 x0 x1 x2 (w0_4 x0 x1 x2 - 1) (w0_10 x0 x1 x2 - 1) (w0_17 x0 x1 x2 - 1) 0 1 2 2 0 := own_st2 x0 x1 x2 (by rw [hn]; decide) q.2.2.2.1 s2 (own_x012_2_yyn (w0_4 x0 x1 x2 - 1) (w0_10 x0 x1 x2 - 1) (w0_17 x0 x1 x2)  a5 b5 d5)
  have s4 : OwnS4 x0 x1 x2 (w0_4 x0 x1 x2 - 1 - 1) (w0_10 x0 x1 x2 - 1) (w0_17 x0 x1 x2 - 1) 0 1 2 2 1 := own_st3 x0 x1 x2 (by rw [hn]; decide) q.2.2.2.2.1 s3 (own_x01_0_c (w0_4 x0 x1 x2 - 1) (w0_10 x0 x1 x2 - 1) (w0_17 x0 x1 x2 - 1) 2)
  have s5 : OwnS5 x0 x1 x2 (w0_4 x0 x1 x2 - 1 - 1) (w0_10 x0 x1 x2 - 1 - 1) (w0_17 x0 x1 x2 - 1) 0 1 2 0 0 := own_st4 x0 x1 x2 (by rw [hn]; decide) q.2.2.2.2.2.1 s4 (own_x01_1_nn (w0_4 x0 x1 x2 - 1 - 1) (w0_10 x0 x1 x2 - 1) (w0_17 x0 x1 x2 - 1) 2 a6 b6)
  exact ⟨fun _ => own_sv0 x0 x1 x2 s0 (by decide), fun _ => own_sv1 x0 x1 x2 s1 (by decide), fun _ => own_sv2 x0 x1 x2 s2 (by decide), fun _ => own_sv3 x0 x1 x2 s3 (by decide), fun _ => own_sv4 x0 x1 x2 s4 (by decide), fun h => absurd (hn ▸ h) (by decide), fun h => absurd (hn ▸ h) (by decide), fun h => absurd (hn ▸ h) (by decide), fun h => absurd (hn ▸ h) (by decide), (own_sp8 x0 x1 x2 (by rw [hn]; decide) (own_sp7 x0 x1 x2 (by rw [hn]; decide) (own_sp6 x0 x1 x2 (by rw [hn]; decide) (own_sp5 x0 x1 x2 (by rw [hn]; decide) s5.1))))⟩
theorem own_c222 (a1 : ¬ (w0_4 x0 x1 x2) < 1) (a2 : ¬ (w0_4 x0 x1 x2) < 2) (a3 : (w0_4 x0 x1 x2) < 3) (a4 : 0 < (w0_4 x0 x1 x2)) (a5 : 0 < (w0_4 x0 x1 x2) - 1) (a6 : ¬ 0 < (w0_4 x0 x1 x2) - 1 - 1) (b1 : ¬ (w0_10 x0 x1 x2) < 1) (b2 : ¬ (w0_10 x0 x1 x2) < 2) (b3 : (w0_10 x0 x1 x2) < 3) (b4 : 0 < (w0_10 x0 x1 x2)) (b5 : 0 < (w0_10 x0 x1 x2) - 1) (b6 : ¬ 0 < (w0_10 x0 x1 x2) - 1 - 1) (d1 : ¬ (w0_17 x0 x1 x2) < 1) (d2 : ¬ (w0_17 x0 x1 x2) < 2) (d3 : (w0_17 x0 x1 x2) < 3) (d4 : 0 < (w0_17 x0 x1 x2)) (d5 : 0 < (w0_17 x0 x1 x2) - 1) (d6 : ¬ 0 < (w0_17 x0 x1 x2) - 1 - 1) : OwnG x0 x1 x2 := by
  have q : OwnE8 x0 x1 x2 6 0 1 2 0 1 2 0 0 0 := (own_sk8 x0 x1 x2 d3 (own_sk7 x0 x1 x2 b3 (own_sk6 x0 x1 x2 a3 (own_tk5_5 x0 x1 x2 d2 (own_tk4_4 x0 x1 x2 b2 (own_tk3_3 x0 x1 x2 a2 (own_tk2_2 x0 x1 x2 d1 (own_tk1_1 x0 x1 x2 b1 (own_tk0 x0 x1 x2 a1)))))))))
  have hn := q.1
  have i0 := own_iyyy (w0_4 x0 x1 x2) (w0_10 x0 x1 x2) (w0_17 x0 x1 x2) a4 b4 d4
  have s0 : OwnS0 x0 x1 x2 (w0_4 x0 x1 x2) (w0_10 x0 x1 x2) (w0_17 x0 x1 x2) 0 1 2 3 0 := ⟨rfl, rfl, rfl, rfl, i0.1, i0.2.1, i0.2.2.1, i0.2.2.2, rfl⟩
  have s1 : OwnS1 x0 x1 x2 (w0_4 x0 x1 x2 - 1) (w0_10 x0 x1 x2) (w0_17 x0 x1 x2) 0 1 2 3 1 := own_st0 x0 x1 x2 (by rw [hn]; decide) q.2.1 s0 (own_x012_0_c (w0_4 x0 x1 x2) (w0_10 x0 x1 x2) (w0_17 x0 x1 x2) )
  have s2 : OwnS2 x0 x1 x2 (w0_4 x0 x1 x2 - 1) (w0_10 x0 x1 x2 - 1) (w0_17 x0 x1 x2) 0 1 2 3 2 := own_st1 x0 x1 x2 (by rw [hn]; decide) q.2.2.1 s1 (own_x012_1_c (w0_4 x0 x1 x2 - 1) (w0_10 x0 x1 x2) (w0_17 x0 x1 x2) )
  have s3 : OwnS3 x0 x1 x2 (w0_4 x0 x1 x2 - 1) (w0_10 x0 x1 x2 - 1) (w0_17 x0 x1 x2 - 1) 0 1 2 3 0 := own_st2 x0 x1 x2 (by rw [hn]; decide) q.2.2.2.1 s2 (own_x012_2_yyy (w0_4 x0 x1 x2 - 1) (w0_10 x0 x1 x2 - 1) (w0_17 x0 x1 x2)  a5 b5 d5)
  have s4 : OwnS4 x0 x1 x2 (w0_4 x0 x1 x2 - 1 - 1) (w0_10 x0 x1 x2 - 1) (w0_17 x0 x1 x2 - 1) 0 1 2 3 1 := own_st3 x0 x1 x2 (by rw [hn]; decide) q.2.2.2.2.1 s3 (own_x012_0_c (w0_4 x0 x1 x2 - 1) (w0_10 x0 x1 x2 - 1) (w0_17 x0 x1 x2 - 1) )
  have s5 : OwnS5 x0 x1 x2 (w0_4 x0 x1 x2 - 1 - 1) (w0_10 x0 x1 x2 - 1 - 1) (w0_17 x0 x1 x2 - 1) 0 1 2 3 2 := own_st4 x0 x1 x2 (by rw [hn]; decide) q.2.2.2.2.2.1 s4 (own_x012_1_c (w0_4 x0 x1 x2 - 1 - 1) (w0_10 x0 x1 x2 - 1) (w0_17 x0 x1 x2 - 1) )
  have s6 : OwnS6 x0 x1 x2 (w0_4 x0 x1 x2 - 1 - 1) (w0_10 x0 x1 x2 - 1 - 1) (w0_17 x0 x1 x2 - 1 - 1) 0 1 2 0 0 := own_st5 x0 x1 x2 (by rw [hn]; decide) q.2.2.2.2.2.2.1 s5 (own_x012_2_nnn (w0_4 x0 x1 x2 - 1 - 1) (w0_10 x0 x1 x2 - 1 - 1) (w0_17 x0 x1 x2 - 1)  a6 b6 d6)
  exact ⟨fun _ => own_sv0 x0 x1 x2 s0 (by decide), fun _ => own_sv1 x0 x1 x2 s1 (by decide), fun _ => own_sv2 x0 x1 x2 s2 (by decide), fun _ => own_sv3 x0 x1 x2 s3 (by decide), fun _ => own_sv4 x0 x1 x2 s4 (by decide), fun _ => own_sv5 x0 x1 x2 s5 (by decide), fun h => absurd (hn ▸ h) (by decide), fun h => absurd (hn ▸ h) (by decide), fun h => absurd (hn ▸ h) (by decide), (own_sp8 x0 x1 x2 (by rw [hn]; decide) (own_sp7 x0 x1 x2 (by rw [hn]; decide) (own_sp6 x0 x1 x2 (by rw [hn]; decide) s6.1)))⟩
theorem own_c223 (a1 : ¬ (w0_4 x0 x1 x2) < 1) (a2 : ¬ (w0_4 x0 x1 x2) < 2) (a3 : (w0_4 x0 x1 x2) < 3) (a4 : 0 < (w0_4 x0 x1 x2)) (a5 : 0 < (w0_4 x0 x1 x2) - 1) (a6 : ¬ 0 < (w0_4 x0 x1 x2) - 1 - 1) (b1 : ¬ (w0_10 x0 x1 x2) < 1) (b2 : ¬ (w0_10 x0 x1 x2) < 2) (b3 : (w0_10 x0 x1 x2) < 3) (b4 : 0 < (w0_10 x0 x1 x2)) (b5 : 0 < (w0_10 x0 x1 x2) - 1) (b6 : ¬ 0 < (w0_10 x0 x1 x2) - 1 - 1) (d1 : ¬ (w0_17 x0 x1 x2) < 1) (d2 : ¬ (w0_17 x0 x1 x2) < 2) (d3 : ¬ (w0_17 x0 x1 x2) < 3) (d4 : 0 < (w0_17 x0 x1 x2)) (d5 : 0 < (w0_17 x0 x1 x2) - 1) (d6 : 0 < (w0_17 x0 x1 x2) - 1 - 1) : OwnG x0 x1 x2 := by
  have q : OwnE8 x0 x1 x2 7 0 1 2 0 1 2 2 0 0 := (own_tk8_6 x0 x1 x2 d3 (own_sk7 x0 x1 x2 b3 (own_sk6 x0 x1 x2 a3 (own_tk5_5 x0 x1 x2 d2 (own_tk4_4 x0 x1 x2 b2 (own_tk3_3 x0 x1 x2 a2 (own_tk2_2 x0 x1 x2 d1 (own_tk1_1 x0 x1 x2 b1 (own_tk0 x0 x1 x2 a1)))))))))
  have hn := q.1
  have i0 := own_iyyy (w0_4 x0 x1 x2) (w0_10 x0 x1 x2) (w0_17 x0 x1 x2) a4 b4 d4
  have s0 : OwnS0 x0 x1 x2 (w0_4 x0 x1 x2) (w0_10 x0 x1 x2) (w0_17 x0 x1 x2) 0 1 2 3 0 := ⟨rfl, rfl, rfl, rfl, i0.1, i0.2.1, i0.2.2.1, i0.2.2.2, rfl⟩
  have s1 : OwnS1 x0 x1 x2 (w0_4 x0 x1 x2 - 1) (w0_10 x0 x1 x2) (w0_17 x0 x1 x2) 0 1 2 3 1 := own_st0 x0 x1 x2 (by rw [hn]; decide) q.2.1 s0 (own_x012_0_c (w0_4 x0 x1 x2) (w0_10 x0 x1 x2) (w0_17 x0 x1 x2) )
  have s2 : OwnS2 x0 x1 x2 (w0_4 x0 x1 x2 - 1) (w0_10 x0 x1 x2 - 1) (w0_17 x0 x1 x2) 0 1 2 3 2 := own_st1 x0 x1 x2 (by rw [hn]; decide) q.2.2.1 s1 (own_x012_1_c (w0_4 x0 x1 x2 - 1) (w0_10 x0 x1 x2) (w0_17 x0 x1 x2) )
  have s3 : OwnS3 x0 x1 x2 (w0_4 x0 x1 x2 - 1) (w0_10 x0 x1 x2 - 1) (w0_17 x0 x1 x2 - 1) 0 1 2 3 0 := own_st2 x0 x1 x2 (by rw [hn]; decide) q.2.2.2.1 s2 (own_x012_2_yyy (w0_4 x0 x1 x2 - 1) (w0_10 x0 x1 x2 - 1) (w0_17 x0 x1 x2)  a5 b5 d5)
  have s4 : OwnS4 x0 x1 x2 (w0_4 x0 x1 x2 - 1 - 1) (w0_10 x0 x1 x2 - 1) (w0_17 x0 x1 x2 - 1) 0 1 2 3 1 := own_st3 x0 x1 x2 (by rw [hn]; decide) q.2.2.2.2.1 s3 (own_x012_0_c (w0_4 x0 x1 x2 - 1) (w0_10 x0 x1 x2 - 1) (w0_17 x0 x1 x2 - 1) )
  have s5 : OwnS5 x0 x1 x2 (w0_4 x0 x1 x2 - 1 - 1) (w0_10 x0 x1 x2 - 1 - 1) (w0_17 x0 x1 x2 - 1) 0 1 2 3 2 := own_st4 x0 x1 x2 (by rw [hn]; decide) q.2.2.2.2.2.1 s4 (own_x012_1_c (w0_4 x0 x1 x2 - 1 - 1) (w0_10 x0 x1 x2 - 1) (w0_17 x0 x1 x2 - 1) )
  have s6 : OwnS6 x0 x1 x2 (w0_4 x0 x1 x2 - 1 - 1) (w0_10 x0 x1 x2 - 1 - 1) (w0_17 x0 x1 x2 - 1 - 1) 2 1 2 1 0 := own_st5 x0 x1 x2 (by rw [hn]; decide) q.2.2.2.2.2.2.1 s5 (own_x012_2_nny (w0_4 x0 x1 x2 - 1 - 1) (w0_10 x0 x1 x2 - 1 - 1) (w0_17 x0 x1 x2 - 1)  a6 b6 d6)
  have o7 : j0_429_16 x0 x1 x2 = 1 := by
    by_cases u0 : 0 < (w0_17 x0 x1 x2 - 1 - 1 - 1)
    · skip
      exact (own_st6 x0 x1 x2 (by rw [hn]; decide) q.2.2.2.2.2.2.2.1 s6 (own_x2_0_y (w0_4 x0 x1 x2 - 1 - 1) (w0_10 x0 x1 x2 - 1 - 1) (w0_17 x0 x1 x2 - 1 - 1) 1 2 u0)).1
    · skip
      exact (own_st6 x0 x1 x2 (by rw [hn]; decide) q.2.2.2.2.2.2.2.1 s6 (own_x2_0_n (w0_4 x0 x1 x2 - 1 - 1) (w0_10 x0 x1 x2 - 1 - 1) (w0_17 x0 x1 x2 - 1 - 1) 1 2 u0)).1
  exact ⟨fun _ => own_sv0 x0 x1 x2 s0 (by decide), fun _ => own_sv1 x0 x1 x2 s1 (by decide), fun _ => own_sv2 x0 x1 x2 s2 (by decide), fun _ => own_sv3 x0 x1 x2 s3 (by decide), fun _ => own_sv4 x0 x1 x2 s4 (by decide), fun _ => own_sv5 x0 x1 x2 s5 (by decide), fun _ => own_sv6 x0 x1 x2 s6 (by decide), fun h => absurd (hn ▸ h) (by decide), fun h => absurd (hn ▸ h) (by decide), (own_sp8 x0 x1 x2 (by rw [hn]; decide) (own_sp7 x0 x1 x2 (by rw [hn]; decide) o7))⟩
theorem own_c230 (a1 : ¬ (w0_4 x0 x1 x2) < 1) (a2 : ¬ (w0_4 x0 x1 x2) < 2) (a3 : (w0_4 x0 x1 x2) < 3) (a4 : 0 < (w0_4 x0 x1 x2)) (a5 : 0 < (w0_4 x0 x1 x2) - 1) (a6 : ¬ 0 < (w0_4 x0 x1 x2) - 1 - 1) (b1 : ¬ (w0_10 x0 x1 x2) < 1) (b2 : ¬ (w0_10 x0 x1 x2) < 2) (b3 : ¬ (w0_10 x0 x1 x2) < 3) (b4 : 0 < (w0_10 x0 x1 x2)) (b5 : 0 < (w0_10 x0 x1 x2) - 1) (b6 : 0 < (w0_10 x0 x1 x2) - 1 - 1) (d1 : (w0_17 x0 x1 x2) < 1) (d2 : (w0_17 x0 x1 x2) < 2) (d3 : (w0_17 x0 x1 x2) < 3) (d4 : ¬ 0 < (w0_17 x0 x1 x2)) : OwnG x0 x1 x2 := by
  have q : OwnE8 x0 x1 x2 5 0 1 0 1 1 0 0 0 0 := (own_sk8 x0 x1 x2 d3 (own_tk7_4 x0 x1 x2 b3 (own_sk6 x0 x1 x2 a3 (own_sk5 x0 x1 x2 d2 (own_tk4_3 x0 x1 x2 b2 (own_tk3_2 x0 x1 x2 a2 (own_sk2 x0 x1 x2 d1 (own_tk1_1 x0 x1 x2 b1 (own_tk0 x0 x1 x2 a1)))))))))
  have hn := q.1
  have i0 := own_iyyn (w0_4 x0 x1 x2) (w0_10 x0 x1 x2) (w0_17 x0 x1 x2) a4 b4 d4
  have s0 : OwnS0 x0 x1 x2 (w0_4 x0 x1 x2) (w0_10 x0 x1 x2) (w0_17 x0 x1 x2) 0 1 0 2 0 := ⟨rfl, rfl, rfl, rfl, i0.1, i0.2.1, i0.2.2.1, i0.2.2.2, rfl⟩
  have s1 : OwnS1 x0 x1 x2 (w0_4 x0 x1 x2 - 1) (w0_10 x0 x1 x2) (w0_17 x0 x1 x2) 0 1 0 2 1 := own_st0 x0 x1 x2 (by rw [hn]; decide) q.2.1 s0 (own_x01_0_c (w0_4 x0 x1 x2) (w0_10 x0 x1 x2) (w0_17 x0 x1 x2) 0)
  have s2 : OwnS2 x0 x1 x2 (w0_4 x0 x1 x2 - 1) (w0_10 x0 x1 x2 - 1) (w0_17 x0 x1 x2) 0 1 0 2 0 := own_st1 x0 x1 x2 (by rw [hn]; decide) q.2.2.1 s1 (own_x01_1_yy (w0_4 x0 x1 x2 - 1) (w0_10 x0 x1 x2) (w0_17 x0 x1 x2) 0 a5 b5)
  have s3 : OwnS3 x0 x1 x2 (w0_4 x0 x1 x2 - 1 - 1) (w0_10 x0 x1 x2 - 1) (w0_17 x0 x1 x2) 0 1 0 2 1 := own_st2 x0 x1 x2 (by rw [hn]; decide) q.2.2.2.1 s2 (own_x01_0_c (w0_4 x0 x1 x2 - 1) (w0_10 x0 x1 x2 - 1) (w0_17 x0 x1 x2) 0)
  have s4 : OwnS4 x0 x1 x2 (w0_4 x0 x1 x2 - 1 - 1) (w0_10 x0 x1 x2 - 1 - 1) (w0_17 x0 x1 x2) 1 1 0 1 0 := own_st3 x0 x1 x2 (by rw [hn]; decide) q.2.2.2.2.1 s3 (own_x01_1_ny (w0_4 x0 x1 x2 - 1 - 1) (w0_10 x0 x1 x2 - 1) (w0_17 x0 x1 x2) 0 a6 b6)
  have o5 : j0_367_16 x0 x1 x2 = 1 := by
    by_cases u0 : 0 < (w0_10 x0 x1 x2 - 1 - 1 - 1)
    · skip
      exact (own_st4 x0 x1 x2 (by rw [hn]; decide) q.2.2.2.2.2.1 s4 (own_x1_0_y (w0_4 x0 x1 x2 - 1 - 1) (w0_10 x0 x1 x2 - 1 - 1) (w0_17 x0 x1 x2) 1 0 u0)).1
    · skip
      exact (own_st4 x0 x1 x2 (by rw [hn]; decide) q.2.2.2.2.2.1 s4 (own_x1_0_n (w0_4 x0 x1 x2 - 1 - 1) (w0_10 x0 x1 x2 - 1 - 1) (w0_17 x0 x1 x2) 1 0 u0)).1
  exact ⟨fun _ => own_sv0 x0 x1 x2 s0 (by decide), fun _ => own_sv1 x0 x1 x2 s1 (by decide), fun _ => own_sv2 x0 x1 x2 s2 (by decide), fun _ => own_sv3 x0 x1 x2 s3 (by decide), fun _ => own_sv4 x0 x1 x2 s4 (by decide), fun h => absurd (hn ▸ h) (by decide), fun h => absurd (hn ▸ h) (by decide), fun h => absurd (hn ▸ h) (by decide), fun h => absurd (hn ▸ h) (by decide), (own_sp8 x0 x1 x2 (by rw [hn]; decide) (own_sp7 x0 x1 x2 (by rw [hn]; decide) (own_sp6 x0 x1 x2 (by rw [hn]; decide) (own_sp5 x0 x1 x2 (by rw [hn]; decide) o5))))⟩
theorem own_c231 (a1 : ¬ (w0_4 x0 x1 x2) < 1) (a2 : ¬ (w0_4 x0 x1 x2) < 2) (a3 : (w0_4 x0 x1 x2) < 3) (a4 : 0 < (w0_4 x0 x1 x2)) (a5 : 0 < (w0_4 x0 x1 x2) - 1) (a6 : ¬ 0 < (w0_4 x0 x1 x2) - 1 - 1) (b1 : ¬ (w0_10 x0 x1 x2) < 1) (b2 : ¬ (w0_10 x0 x1 x2) < 2) (b3 : ¬ (w0_10 x0 x1 x2) < 3) (b4 : 0 < (w0_10 x0 x1 x2)) (b5 : 0 < (w0_10 x0 x1 x2) - 1) (b6 : 0 < (w0_10 x0 x1 x2) - 1 - 1) (d1 : ¬ (w0_17 x0 x1 x2) < 1) (d2 : (w0_17 x0 x1 x2) < 2) (d3 : (w0_17 x0 x1 x2) < 3) (d4 : 0 < (w0_17 x0 x1 x2)) (d5 : ¬ 0 < (w0_17 x0 x1 x2) - 1) : OwnG x0 x1 x2 := by
  have q : OwnE8 x0 x1 x2 6 0 1 2 0 1 1 0 0 0 := (own_sk8 x0 x1 x2 d3 (own_tk7_5 x0 x1 x2 b3 (own_sk6 x0 x1 x2 a3 (own_sk5 x0 x1 x2 d2 (own_tk4_4 x0 x1 x2 b2 (own_tk3_3 x0 x1 x2 a2 (own_tk2_2 x0 x1 x2 d1 (own_tk1_1 x0 x1 x2 b1 (own_tk0 x0 x1 x2 a1)))))))))
  have hn := q.1
  have i0 := own_iyyy (w0_4 x0 x1 x2) (w0_10 x0 x1 x2) (w0_17 x0 x1 x2) a4 b4 d4
  have s0 : OwnS0 x0 x1 x2 (w0_4 x0 x1 x2) (w0_10 x0 x1 x2) (w0_17 x0 x1 x2) 0 1 2 3 0 := ⟨rfl, rfl, rfl, rfl, i0.1, i0.2.1, i0.2.2.1, i0.2.2.2, rfl⟩
  have s1 : OwnS1 x0 x1 x2 (w0_4 x0 x1 x2 - 1) (w0_10 x0 x1 x2) (w0_17 x0 x1 x2) 0 1 2 3 1 := own_st0 x0 x1 x2 (by rw [hn]; decide) q.2.1 s0 (own_x012_0_c (w0_4 x0 x1 x2) (w0_10 x0 x1 x2) (w0_17 x0 x1 x2) )
  have s2 : OwnS2 x0 x1 x2 (w0_4 x0 x1 x2 - 1) (w0_10 x0 x1 x2 - 1) (w0_17 x0 x1 x2) 0 1 2 3 2 := own_st1 x0 x1 x2 (by rw [hn]; decide) q.2.2.1 s1 (own_x012_1_c (w0_4 x0 x1 x2 - 1) (w0_10 x0 x1 x2) (w0_17 x0 x1 x2) )
  have s3 : OwnS3 x0 x1 x2 (w0_4 x0 x1 x2 - 1) (w0_10 x0 x1 x2 - 1) (w0_17 x0 x1 x2 - 1) 0 1 2 2 0 := own_st2 x0 x1 x2 (by rw [hn]; decide) q.2.2.2.1 s2 (own_x012_2_yyn (w0_4 x0 x1 x2 - 1) (w0_10 x0 x1 x2 - 1) (w0_17 x0 x1 x2)  a5 b5 d5)
  have s4 : OwnS4 x0 x1 x2 (w0_4 x0 x1 x2 - 1 - 1) (w0_10 x0 x1 x2 - 1) (w0_17 x0 x1 x2 - 1) 0 1 2 2 1 := own_st3 x0 x1 x2 (by rw [hn]; decide) q.2.2.2.2.1 s3 (own_x01_0_c (w0_4 x0 x1 x2 - 1) (w0_10 x0 x1 x2 - 1) (w0_17 x0 x1 x2 - 1) 2)
  have s5 : OwnS5 x0 x1 x2 (w0_4 x0 x1 x2 - 1 - 1) (w0_10 x0 x1 x2 - 1 - 1) (w0_17 x0 x1 x2 - 1) 1 1 2 1 0 := own_st4 x0 x1 x2 (by rw [hn]; decide) q.2.2.2.2.2.1 s4 (own_x01_1_ny (w0_4 x0 x1 x2 - 1 - 1) (w0_10 x0 x1 x2 - 1) (w0_17 x0 x1 x2 - 1) 2 a6 b6)
  have o6 : j0_397_16 x0 x1 x2 = 1 := by
    by_cases u0 : 0 < (w0_10 x0 x1 x2 - 1 - 1 - 1)
    · skip
      exact (own_st5 x0 x1 x2 (by rw [hn]; decide) q.2.2.2.2.2.2.1 s5 (own_x1_0_y (w0_4 x0 x1 x2 - 1 - 1) (w0_10 x0 x1 x2 - 1 - 1) (w0_17 x0 x1 x2 - 1) 1 2 u0)).1
    · skip
      exact (own_st5 x0 x1 x2 (by rw [hn]; decide) q.2.2.2.2.2.2.1 s5 (own_x1_0_n (w0_4 x0 x1 x2 - 1 - 1) (w0_10 x0 x1 x2 - 1 - 1) (w0_17 x0 x1 x2 - 1) 1 2 u0)).1
  exact ⟨fun _ => own_sv0 x0 x1 x2 s0 (by decide), fun _ => own_sv1 x0 x1 x2 s1 (by decide), fun _ => own_sv2 x0 x1 x2 s2 (by decide), fun _ => own_sv3 x0 x1 x2 s3 (by decide), fun _ => own_sv4 x0 x1 x2 s4 (by decide), fun _ => own_sv5 x0 x1 x2 s5 (by decide), fun h => absurd (hn ▸ h) (by decide), fun h => absurd (hn ▸ h) (by decide), fun h => absurd (hn ▸ h) (by decide), (own_sp8 x0 x1 x2 (by rw [hn]; decide) (own_sp7 x0 x1 x2 (by rw [hn]; decide) (own_sp6 x0 x1 x2 (by rw [hn]; decide) o6)))⟩
theorem own_c232 (a1 : ¬ (w0_4 x0 x1 x2) < 1) (a2 : ¬ (w0_4 x0 x1 x2) < 2) (a3 : (w0_4 x0 x1 x2) < 3) (a4 : 0 < (w0_4 x0 x1 x2)) (a5 : 0 < (w0_4 x0 x1 x2) - 1) (a6 : ¬ 0 < (w0_4 x0 x1 x2) - 1 - 1) (b1 : ¬ (w0_10 x0 x1 x2) < 1) (b2 : ¬ (w0_10 x0 x1 x2) < 2) (b3 : ¬ (w0_10 x0 x1 x2) < 3) (b4 : 0 < (w0_10 x0 x1 x2)) (b5 : 0 < (w0_10 x0 x1 x2) - 1) (b6 : 0 < (w0_10 x0 x1 x2) - 1 - 1) (d1 : ¬ (w0_17 x0 x1 x2) < 1) (d2 : ¬ (w0_17 x0 x1 x2) < 2) (d3 : (w0_17 x0 x1 x2) < 3) (d4 : 0 < (w0_17 x0 x1 x2)) (d5 : 0 < (w0_17 x0 x1 x2) - 1) (d6 : ¬ 0 < (w0_17 x0 x1 x2) - 1 - 1) : OwnG x0 x1 x2 := by
  have q : OwnE8 x0 x1 x2 7 0 1 2 0 1 2 1 0 0 := (own_sk8 x0 x1 x2 d3 (own_tk7_6 x0 x1 x2 b3 (own_sk6 x0 x1 x2 a3 (own_tk5_5 x0 x1 x2 d2 (own_tk4_4 x0 x1 x2 b2 (own_tk3_3 x0 x1 x2 a2 (own_tk2_2 x0 x1 x2 d1 (own_tk1_1 x0 x1 x2 b1 (own_tk0 x0 x1 x2 a1)))))))))
  have hn := q.1
  have i0 := own_iyyy (w0_4 x0 x1 x2) (w0_10 x0 x1 x2) (w0_17 x0 x1 x2) a4 b4 d4
  have s0 : OwnS0 x0 x1 x2 (w0_4 x0 x1 x2) (w0_10 x0 x1 x2) (w0_17 x0 x1 x2) 0 1 2 3 0 := ⟨rfl, rfl, rfl, rfl, i0.1, i0.2.1, i0.2.2.1, i0.2.2.2, rfl⟩
  have s1 : OwnS1 x0 x1 x2 (w0_4 x0 x1 x2 - 1) (w0_10 x0 x1 x2) (w0_17 x0 x1 x2) 0 1 2 3 1 := own_st0 x0 x1 x2 (by rw [hn]; decide) q.2.1 s0 (own_x012_0_c (w0_4 x0 x1 x2) (w0_10 x0 x1 x2) (w0_17 x0 x1 x2) )
  have s2 : OwnS2 x0 x1 x2 (w0_4 x0 x1 x2 - 1) (w0_10 x0 x1 x2 - 1) (w0_17 x0 x1 x2) 0 1 2 3 2 := own_st1 x0 x1 x2 (by rw [hn]; decide) q.2.2.1 s1 (own_x012_1_c (w0_4 x0 x1 x2 - 1) (w0_10 x0 x1 x2) (w0_17 x0 x1 x2) )
  have s3 : OwnS3 x0 x1 x2 (w0_4 x0 x1 x2 - 1) (w0_10 x0 x1 x2 - 1) (w0_17 x0 x1 x2 - 1) 0 1 2 3 0 := own_st2 x0 x1 x2 (by rw [hn]; decide) q.2.2.2.1 s2 (own_x012_2_yyy (w0_4 x0 x1 x2 - 1) (w0_10 x0 x1 x2 - 1) (w0_17 x0 x1 x2)  a5 b5 d5)
  have s4 : OwnS4 x0 x1 x2 (w0_4 x0 x1 x2 - 1 - 1) (w0_10 x0 x1 x2 - 1) (w0_17 x0 x1 x2 - 1) 0 1 2 3 1 := own_st3 x0 x1 x2 (by rw [hn]; decide) q.2.2.2.2.1 s3 (own_x012_0_c (w0_4 x0 x1 x2 - 1) (w0_10 x0 x1 x2 - 1) (w0_17 x0 x1 x2 - 1) )
  have s5 : OwnS5 x0 x1 x2 (w0_4 x0 x1 x2 - 1 - 1) (w0_10 x0 x1 x2 - 1 - 1) (w0_17 x0 x1 x2 - 1) 0 1 2 3 2 := own_st4 x0 x1 x2 (by rw [hn]; decide) q.2.2.2.2.2.1 s4 (own_x012_1_c (w0_4 x0 x1 x2 - 1 - 1) (w0_10 x0 x1 x2 - 1) (w0_17 x0 x1 x2 - 1) )
  have s6 : OwnS6 x0 x1 x2 (w0_4 x0 x1 x2 - 1 - 1) (w0_10 x0 x1 x2 - 1 - 1) (w0_17 x0 x1 x2 - 1 - 1) 1 1 2 1 0 := own_st5 x0 x1 x2 (by rw [hn]; decide) q.2.2.2.2.2.2.1 s5 (own_x012_2_nyn (w0_4 x0 x1 x2 - 1 - 1) (w0_10 x0 x1 x2 - 1 - 1) (w0_17 x0 x1 x2 - 1)  a6 b6 d6)
  have o7 : j0_429_16 x0 x1 x2 = 1 := by
    by_cases u0 : 0 < (w0_10 x0 x1 x2 - 1 - 1 - 1)
    · skip
      exact (own_st6 x0 x1 x2 (by rw [hn]; decide) q.2.2.2.2.2.2.2.1 s6 (own_x1_0_y (w0_4 x0 x1 x2 - 1 - 1) (w0_10 x0 x1 x2 - 1 - 1) (w0_17 x0 x1 x2 - 1 - 1) 1 2 u0)).1
    · skip
      exact (own_st6 x0 x1 x2 (by rw [hn]; decide) q.2.2.2.2.2.2.2.1 s6 (own_x1_0_n (w0_4 x0 x1 x2 - 1 - 1) (w0_10 x0 x1 x2 - 1 - 1) (w0_17 x0 x1 x2 - 1 - 1) 1 2 u0)).1
  exact ⟨fun _ => own_sv0 x0 x1 x2 s0 (by decide), fun _ => own_sv1 x0 x1 x2 s1 (by decide), fun _ => own_sv2 x0 x1 x2 s2 (by decide), fun _ => own_sv3 x0 x1 x2 s3 (by decide), fun _ => own_sv4 x0 x1 x2 s4 (by decide), fun _ => own_sv5 x0 x1 x2 s5 (by decide), fun _ => own_sv6 x0 x1 x2 s6 (by decide), fun h => absurd (hn ▸ h) (by decide), fun h => absurd (hn ▸ h) (by decide), (own_sp8 x0 x1 x2 (by rw [hn]; decide) (own_sp7 x0 x1 x2 (by rw [hn]; decide) o7))⟩
theorem own_c233 (a1 : ¬ (w0_4 x0 x1 x2) < 1) (a2 : ¬ (w0_4 x0 x1 x2) < 2) (a3 : (w0_4 x0 x1 x2) < 3) (a4 : 0 < (w0_4 x0 x1 x2)) (a5 : 0 < (w0_4 x0 x1 x2) - 1) (a6 : ¬ 0 < (w0_4 x0 x1 x2) - 1 - 1) (b1 : ¬ (w0_10 x0 x1 x2) < 1) (b2 : ¬ (w0_10 x0 x1 x2) < 2) (b3 : ¬ (w0_10 x0 x1 x2) < 3) (b4 : 0 < (w0_10 x0 x1 x2)) (b5 : 0 < (w0_10 x0 x1 x2) - 1) (b6 : 0 < (w0_10 x0 x1 x2) - 1 - 1) (d1 : ¬ (w0_17 x0 x1 x2) < 1) (d2 : ¬ (w0_17 x0 x1 x2) < 2) (d3 : ¬ (w0_17 x0 x1 x2) < 3) (d4 : 0 < (w0_17 x0 x1 x2)) (d5 : 0 < (w0_17 x0 x1 x2) - 1) (d6 : 0 < (w0_17 x0 x1 x2) - 1 - 1) : OwnG x0 x1 x2 := by
  have q : OwnE8 x0 x1 x2 8 0 1 2 0 1 2 1 2 0 := (own_tk8_7 x0 x1 x2 d3 (own_tk7_6 x0 x1 x2 b3 (own_sk6 x0 x1 x2 a3 (own_tk5_5 x0 x1 x2 d2 (own_tk4_4 x0 x1 x2 b2 (own_tk3_3 x0 x1 x2 a2 (own_tk2_2 x0 x1 x2 d1 (own_tk1_1 x0 x1 x2 b1 (own_tk0 x0 x1 x2 a1)))))))))
  have hn := q.1
  have i0 := own_iyyy (w0_4 x0 x1 x2) (w0_10 x0 x1 x2) (w0_17 x0 x1 x2) a4 b4 d4
  have s0 : OwnS0 x0 x1 x2 (w0_4 x0 x1 x2) (w0_10 x0 x1 x2) (w0_17 x0 x1 x2) 0 1 2 3 0 := ⟨rfl, rfl, rfl, rfl, i0.1, i0.2.1, i0.2.2.1, i0.2.2.2, rfl⟩
  have s1 : OwnS1 x0 x1 x2 (w0_4 x0 x1 x2 - 1) (w0_10 x0 x1 x2) (w0_17 x0 x1 x2) 0 1 2 3 1 := own_st0 x0 x1 x2 (by rw [hn]; decide) q.2.1 s0 (own_x012_0_c (w0_4 x0 x1 x2) (w0_10 x0 x1 x2) (w0_17 x0 x1 x2) )
  have s2 : OwnS2 x0 x1 x2 (w0_4 x0 x1 x2 - 1) (w0_10 x0 x1 x2 - 1) (w0_17 x0 x1 x2) 0 1 2 3 2 := own_st1 x0 x1 x2 (by rw [hn]; decide) q.2.2.1 s1 (own_x012_1_c (w0_4 x0 x1 x2 - 1) (w0_10 x0 x1 x2) (w0_17 x0 x1 x2) )
  have s3 : OwnS3 x0 x1 x2 (w0_4 x0 x1 x2 - 1) (w0_10 x0 x1 x2 - 1) (w0_17 x0 x1 x2 - 1) 0 1 2 3 0 := own_st2 x0 x1 x2 (by rw [hn]; decide) q.2.2.2.1 s2 (own_x012_2_yyy (w0_4 x0 x1 x2 - 1) (w0_10 x0 x1 x2 - 1) (w0_17 x0 x1 x2)  a5 b5 d5)
  have s4 : OwnS4 x0 x1 x2 (w0_4 x0 x1 x2 - 1 - 1) (w0_10 x0 x1 x2 - 1) (w0_17 x0 x1 x2 - 1) 0 1 2 3 1 := own_st3 x0 x1 x2 (by rw [hn]; decide) q.2.2.2.2.1 s3 (own_x012_0_c (w0_4 x0 x1 x2 - 1) (w0_10 x0 x1 x2 - 1) (w0_17 x0 x1 x2 - 1) )
  have s5 : OwnS5 x0 x1 x2 (w0_4 x0 x1 x2 - 1 - 1) (w0_10 x0 x1 x2 - 1 - 1) (w0_17 x0 x1 x2 - 1) 0 1 2 3 2 := own_st4 x0 x1 x2 (by rw [hn]; decide) q.2.2.2.2.2.1 s4 (own_x012_1_c (w0_4 x0 x1 x2 - 1 - 1) (w0_10 x0 x1 x2 - 1) (w0_17 x0 x1 x2 - 1) )
  have s6 : OwnS6 x0 x1 x2 (w0_4 x0 x1 x2 - 1 - 1) (w0_10 x0 x1 x2 - 1 - 1) (w0_17 x0 x1 x2 - 1 - 1) 1 2 2 2 0 := own_st5 x0 x1 x2 (by rw [hn]; decide) q.2.2.2.2.2.2.1 s5 (own_x012_2_nyy (w0_4 x0 x1 x2 - 1 - 1) (w0_10 x0 x1 x2 - 1 - 1) (w0_17 x0 x1 x2 - 1)  a6 b6 d6)
  have s7 : OwnS7 x0 x1 x2 (w0_4 x0 x1 x2 - 1 - 1) (w0_10 x0 x1 x2 - 1 - 1 - 1) (w0_17 x0 x1 x2 - 1 - 1) 1 2 2 2 1 := own_st6 x0 x1 x2 (by rw [hn]; decide) q.2.2.2.2.2.2.2.1 s6 (own_x12_0_c (w0_4 x0 x1 x2 - 1 - 1) (w0_10 x0 x1 x2 - 1 - 1) (w0_17 x0 x1 x2 - 1 - 1) 2)
  have o8 : j0_461_16 x0 x1 x2 = 1 := by
    by_cases u0 : 0 < (w0_10 x0 x1 x2 - 1 - 1 - 1)
    · skip
      by_cases u1 : 0 < (w0_17 x0 x1 x2 - 1 - 1 - 1)
      · skip
        exact (own_st7 x0 x1 x2 (by rw [hn]; decide) q.2.2.2.2.2.2.2.2.1 s7 (own_x12_1_yy (w0_4 x0 x1 x2 - 1 - 1) (w0_10 x0 x1 x2 - 1 - 1 - 1) (w0_17 x0 x1 x2 - 1 - 1) 2 u0 u1)).1
      · skip
        exact (own_st7 x0 x1 x2 (by rw [hn]; decide) q.2.2.2.2.2.2.2.2.1 s7 (own_x12_1_yn (w0_4 x0 x1 x2 - 1 - 1) (w0_10 x0 x1 x2 - 1 - 1 - 1) (w0_17 x0 x1 x2 - 1 - 1) 2 u0 u1)).1
    · skip
      by_cases u1 : 0 < (w0_17 x0 x1 x2 - 1 - 1 - 1)
      · skip
        exact (own_st7 x0 x1 x2 (by rw [hn]; decide) q.2.2.2.2.2.2.2.2.1 s7 (own_x12_1_ny (w0_4 x0 x1 x2 - 1 - 1) (w0_10 x0 x1 x2 - 1 - 1 - 1) (w0_17 x0 x1 x2 - 1 - 1) 2 u0 u1)).1
      · skip
        exact (own_st7 x0 x1 x2 (by rw [hn]; decide) q.2.2.2.2.2.2.2.2.1 s7 (own_x12_1_nn (w0_4 x0 x1 x2 - 1 - 1) (w0_10 x0 x1 x2 - 1 - 1 - 1) (w0_17 x0 x1 x2 - 1 - 1) 2 u0 u1)).1
  exact ⟨fun _ => own_sv0 x0 x1 x2 s0 (by decide), fun _ => own_sv1 x0 x1 x2 s1 (by decide), fun _ => own_sv2 x0 x1 x2 s2 (by decide), fun _ => own_sv3 x0 x1 x2 s3 (by decide), fun _ => own_sv4 x0 x1 x2 s4 (by decide), fun _ => own_sv5 x0 x1 x2 s5 (by decide), fun _ => own_sv6 x0 x1 x2 s6 (by decide), fun _ => own_sv7 x0 x1 x2 s7 (by decide), fun h => absurd (hn ▸ h) (by decide), (own_sp8 x0 x1 x2 (by rw [hn]; decide) o8)⟩
theorem own_c300 (a1 : ¬ (w0_4 x0 x1 x2) < 1) (a2 : ¬ (w0_4 x0 x1 x2) < 2) (a3 : ¬ (w0_4 x0 x1 x2) < 3) (a4 : 0 < (w0_4 x0 x1 x2)) (a5 : 0 < (w0_4 x0 x1 x2) - 1) (a6 : 0 < (w0_4 x0 x1 x2) - 1 - 1) (b1 : (w0_10 x0 x1 x2) < 1) (b2 : (w0_10 x0 x1 x2) < 2) (b3 : (w0_10 x0 x1 x2) < 3) (b4 : ¬ 0 < (w0_10 x0 x1 x2)) (d1 : (w0_17 x0 x1 x2) < 1) (d2 : (w0_17 x0 x1 x2) < 2) (d3 : (w0_17 x0 x1 x2) < 3) (d4 : ¬ 0 < (w0_17 x0 x1 x2)) : OwnG x0 x1 x2 := by
  have q : OwnE8 x0 x1 x2 3 0 0 0 0 0 0 0 0 0 := (own_sk8 x0 x1 x2 d3 (own_sk7 x0 x1 x2 b3 (own_tk6_2 x0 x1 x2 a3 (own_sk5 x0 x1 x2 d2 (own_sk4 x0 x1 x2 b2 (own_tk3_1 x0 x1 x2 a2 (own_sk2 x0 x1 x2 d1 (own_sk1 x0 x1 x2 b1 (own_tk0 x0 x1 x2 a1)))))))))
  have hn := q.1
  have i0 := own_iynn (w0_4 x0 x1 x2) (w0_10 x0 x1 x2) (w0_17 x0 x1 x2) a4 b4 d4
  have s0 : OwnS0 x0 x1 x2 (w0_4 x0 x1 x2) (w0_10 x0 x1 x2) (w0_17 x0 x1 x2) 0 0 0 1 0 := ⟨rfl, rfl, rfl, rfl, i0.1, i0.2.1, i0.2.2.1, i0.2.2.2, rfl⟩
  have s1 : OwnS1 x0 x1 x2 (w0_4 x0 x1 x2 - 1) (w0_10 x0 x1 x2) (w0_17 x0 x1 x2) 0 0 0 1 0 := own_st0 x0 x1 x2 (by rw [hn]; decide) q.2.1 s0 (own_x0_0_y (w0_4 x0 x1 x2) (w0_10 x0 x1 x2) (w0_17 x0 x1 x2) 0 0 a5)
  have s2 : OwnS2 x0 x1 x2 (w0_4 x0 x1 x2 - 1 - 1) (w0_10 x0 x1 x2) (w0_17 x0 x1 x2) 0 0 0 1 0 := own_st1 x0 x1 x2 (by rw [hn]; decide) q.2.2.1 s1 (own_x0_0_y (w0_4 x0 x1 x2 - 1) (w0_10 x0 x1 x2) (w0_17 x0 x1 x2) 0 0 a6)
  have o3 : j0_307_16 x0 x1 x2 = 1 := by
    by_cases u0 : 0 < (w0_4 x0 x1 x2 - 1 - 1 - 1)
    · skip
      exact (own_st2 x0 x1 x2 (by rw [hn]; decide) q.2.2.2.1 s2 (own_x0_0_y (w0_4 x0 x1 x2 - 1 - 1) (w0_10 x0 x1 x2) (w0_17 x0 x1 x2) 0 0 u0)).1
    · skip
      exact (own_st2 x0 x1 x2 (by rw [hn]; decide) q.2.2.2.1 s2 (own_x0_0_n (w0_4 x0 x1 x2 - 1 - 1) (w0_10 x0 x1 x2) (w0_17 x0 x1 x2) 0 0 u0)).1
  exact ⟨fun _ => own_sv0 x0 x1 x2 s0 (by decide), fun _ => own_sv1 x0 x1 x2 s1 (by decide), fun _ => own_sv2 x0 x1 x2 s2 (by decide), fun h => absurd (hn ▸ h) (by decide), fun h => absurd (hn ▸ h) (by decide), fun h => absurd (hn ▸ h) (by decide), fun h => absurd (hn ▸ h) (by decide), fun h => absurd (hn ▸ h) (by decide), fun h => absurd (hn ▸ h) (by decide), (own_sp8 x0 x1 x2 (by rw [hn]; decide) (own_sp7 x0 x1 x2 (by rw [hn]; decide) (own_sp6 x0 x1 x2 (by rw [hn]; decide) (own_sp5 x0 x1 x2 (by rw [hn]; decide) (own_sp4 x0 x1 x2 (by rw [hn]; decide) (own_sp3 x0 x1 x2 (by rw [hn]; decide) o3))))))⟩
theorem own_c301 (a1 : ¬ (w0_4 x0 x1 x2) < 1) (a2 : ¬ (w0_4 x0 x1 x2) < 2) (a3 : ¬ (w0_4 x0 x1 x2) < 3) (a4 : 0 < (w0_4 x0 x1 x2)) (a5 : 0 < (w0_4 x0 x1 x2) - 1) (a6 : 0 < (w0_4 x0 x1 x2) - 1 - 1) (b1 : (w0_10 x0 x1 x2) < 1) (b2 : (w0_10 x0 x1 x2) < 2) (b3 : (w0_10 x0 x1 x2) < 3) (b4 : ¬ 0 < (w0_10 x0 x1 x2)) (d1 : ¬ (w0_17 x0 x1 x2) < 1) (d2 : (w0_17 x0 x1 x2) < 2) (d3 : (w0_17 x0 x1 x2) < 3) (d4 : 0 < (w0_17 x0 x1 x2)) (d5 : ¬ 0 < (w0_17 x0 x1 x2) - 1) : OwnG x0 x1 x2 := by
  have q : OwnE8 x0 x1 x2 4 0 2 0 0 0 0 0 0 0 := (own_sk8 x0 x1 x2 d3 (own_sk7 x0 x1 x2 b3 (own_tk6_3 x0 x1 x2 a3 (own_sk5 x0 x1 x2 d2 (own_sk4 x0 x1 x2 b2 (own_tk3_2 x0 x1 x2 a2 (own_tk2_1 x0 x1 x2 d1 (own_sk1 x0 x1 x2 b1 (own_tk0 x0 x1 x2 a1)))))))))
  have hn := q.1
  have i0 := own_iyny (w0_4 x0 x1 x2) (w0_10 x0 x1 x2) (w0_17 x0 x1 x2) a4 b4 d4
  have s0 : OwnS0 x0 x1 x2 (w0_4 x0 x1 x2) (w0_10 x0 x1 x2) (w0_17 x0 x1 x2) 0 2 0 2 0 := ⟨rfl, rfl, rfl, rfl, i0.1, i0.2.1, i0.2.2.1, i0.2.2.2, rfl⟩
  have s1 : OwnS1 x0 x1 x2 (w0_4 x0 x1 x2 - 1) (w0_10 x0 x1 x2) (w0_17 x0 x1 x2) 0 2 0 2 1 := own_st0 x0 x1 x2 (by rw [hn]; decide) q.2.1 s0 (own_x02_0_c (w0_4 x0 x1 x2) (w0_10 x0 x1 x2) (w0_17 x0 x1 x2) 0)
  have s2 : OwnS2 x0 x1 x2 (w0_4 x0 x1 x2 - 1) (w0_10 x0 x1 x2) (w0_17 x0 x1 x2 - 1) 0 2 0 1 0 := own_st1 x0 x1 x2 (by rw [hn]; decide) q.2.2.1 s1 (own_x02_1_yn (w0_4 x0 x1 x2 - 1) (w0_10 x0 x1 x2) (w0_17 x0 x1 x2) 0 a5 d5)
  have s3 : OwnS3 x0 x1 x2 (w0_4 x0 x1 x2 - 1 - 1) (w0_10 x0 x1 x2) (w0_17 x0 x1 x2 - 1) 0 2 0 1 0 := own_st2 x0 x1 x2 (by rw [hn]; decide) q.2.2.2.1 s2 (own_x0_0_y (w0_4 x0 x1 x2 - 1) (w0_10 x0 x1 x2) (w0_17 x0 x1 x2 - 1) 2 0 a6)
  have o4 : j0_337_16 x0 x1 x2 = 1 := by
    by_cases u0 : 0 < (w0_4 x0 x1 x2 - 1 - 1 - 1)
    · skip
      exact (own_st3 x0 x1 x2 (by rw [hn]; decide) q.2.2.2.2.1 s3 (own_x0_0_y (w0_4 x0 x1 x2 - 1 - 1) (w0_10 x0 x1 x2) (w0_17 x0 x1 x2 - 1) 2 0 u0)).1
    · skip
      exact (own_st3 x0 x1 x2 (by rw [hn]; decide) q.2.2.2.2.1 s3 (own_x0_0_n (w0_4 x0 x1 x2 - 1 - 1) (w0_10 x0 x1 x2) (w0_17 x0 x1 x2 - 1) 2 0 u0)).1
  exact ⟨fun _ => own_sv0 x0 x1 x2 s0 (by decide), fun _ => own_sv1 x0 x1 x2 s1 (by decide), fun _ => own_sv2 x0 x1 x2 s2 (by decide), fun _ => own_sv3 x0 x1 x2 s3 (by decide), fun h => absurd (hn ▸ h) (by decide), fun h => absurd (hn ▸ h) (by decide), fun h => absurd (hn ▸ h) (by decide), fun h => absurd (hn ▸ h) (by decide), fun h => absurd (hn ▸ h) (by decide), (own_sp8 x0 x1 x2 (by rw [hn]; decide) (own_sp7 x0 x1 x2 (by rw [hn]; decide) (own_sp6 x0 x1 x2 (by rw [hn]; decide) (own_sp5 x0 x1 x2 (by rw [hn]; decide) (own_sp4 x0 x1 x2 (by rw [hn]; decide) o4)))))⟩
theorem own_c302 (a1 : ¬ (w0_4 x0 x1 x2) < 1) (a2 : ¬ (w0_4 x0 x1 x2) < 2) (a3 : ¬ (w0_4 x0 x1 x2) < 3) (a4 : 0 < (w0_4 x0 x1 x2)) (a5 : 0 < (w0_4 x0 x1 x2) - 1) (a6 : 0 < (w0_4 x0 x1 x2) - 1 - 1) (b1 : (w0_10 x0 x1 x2) < 1) (b2 : (w0_10 x0 x1 x2) < 2) (b3 : (w0_10 x0 x1 x2) < 3) (b4 : ¬ 0 < (w0_10 x0 x1 x2)) (d1 : ¬ (w0_17 x0 x1 x2) < 1) (d2 : ¬ (w0_17 x0 x1 x2) < 2) (d3 : (w0_17 x0 x1 x2) < 3) (d4 : 0 < (w0_17 x0 x1 x2)) (d5 : 0 < (w0_17 x0 x1 x2) - 1) (d6 : ¬ 0 < (w0_17 x0 x1 x2) - 1 - 1) : OwnG x0 x1 x2 := by
  have q : OwnE8 x0 x1 x2 5 0 2 0 2 0 0 0 0 0 := (own_sk8 x0 x1 x2 d3 (own_sk7 x0 x1 x2 b3 (own_tk6_4 x0 x1 x2 a3 (own_tk5_3 x0 x1 x2 d2 (own_sk4 x0 x1 x2 b2 (own_tk3_2 x0 x1 x2 a2 (own_tk2_1 x0 x1 x2 d1 (own_sk1 x0 x1 x2 b1 (own_tk0 x0 x1 x2 a1)))))))))
  have hn := q.1
  have i0 := own_iyny (w0_4 x0 x1 x2) (w0_10 x0 x1 x2) (w0_17 x0 x1 x2) a4 b4 d4
  have s0 : OwnS0 x0 x1 x2 (w0_4 x0 x1 x2) (w0_10 x0 x1 x2) (w0_17 x0 x1 x2) 0 2 0 2 0 := ⟨rfl, rfl, rfl, rfl, i0.1, i0.2.1, i0.2.2.1, i0.2.2.2, rfl⟩
  have s1 : OwnS1 x0 x1 x2 (w0_4 x0 x1 x2 - 1) (w0_10 x0 x1 x2) (w0_17 x0 x1 x2) 0 2 0 2 1 := own_st0 x0 x1 x2 (by rw [hn]; decide) q.2.1 s0 (own_x02_0_c (w0_4 x0 x1 x2) (w0_10 x0 x1 x2) (w0_17 x0 x1 x2) 0)
  have s2 : OwnS2 x0 x1 x2 (w0_4 x0 x1 x2 - 1) (w0_10 x0 x1 x2) (w0_17 x0 x1 x2 - 1) 0 2 0 2 0 := own_st1 x0 x1 x2 (by rw [hn]; decide) q.2.2.1 s1 (own_x02_1_yy (w0_4 x0 x1 x2 - 1) (w0_10 x0 x1 x2) (w0_17 x0 x1 x2) 0 a5 d5)
  have s3 : OwnS3 x0 x1 x2 (w0_4 x0 x1 x2 - 1 - 1) (w0_10 x0 x1 x2) (w0_17 x0 x1 x2 - 1) 0 2 0 2 1 := own_st2 x0 x1 x2 (by rw [hn]; decide) q.2.2.2.1 s2 (own_x02_0_c (w0_4 x0 x1 x2 - 1) (w0_10 x0 x1 x2) (w0_17 x0 x1 x2 - 1) 0)
  have s4 : OwnS4 x0 x1 x2 (w0_4 x0 x1 x2 - 1 - 1) (w0_10 x0 x1 x2) (w0_17 x0 x1 x2 - 1 - 1) 0 2 0 1 0 := own_st3 x0 x1 x2 (by rw [hn]; decide) q.2.2.2.2.1 s3 (own_x02_1_yn (w0_4 x0 x1 x2 - 1 - 1) (w0_10 x0 x1 x2) (w0_17 x0 x1 x2 - 1) 0 a6 d6)
  have o5 : j0_367_16 x0 x1 x2 = 1 := by
    by_cases u0 : 0 < (w0_4 x0 x1 x2 - 1 - 1 - 1)
    · skip
      exact (own_st4 x0 x1 x2 (by rw [hn]; decide) q.2.2.2.2.2.1 s4 (own_x0_0_y (w0_4 x0 x1 x2 - 1 - 1) (w0_10 x0 x1 x2) (w0_17 x0 x1 x2 - 1 - 1) 2 0 u0)).1
    · skip
      exact (own_st4 x0 x1 x2 (by rw [hn]; decide) q.2.2.2.2.2.1 s4 (own_x0_0_n (w0_4 x0 x1 x2 - 1 - 1) (w0_10 x0 x1 x2) (w0_17 x0 x1 x2 - 1 - 1) 2 0 u0)).1
  exact ⟨fun _ => own_sv0 x0 x1 x2 s0 (by decide), fun _ => own_sv1 x0 x1 x2 s1 (by decide), fun _ => own_sv2 x0 x1 x2 s2 (by decide), fun _ => own_sv3 x0 x1 x2 s3 (by decide), fun _ => own_sv4 x0 x1 x2 s4 (by decide), fun h => absurd (hn ▸ h) (by decide), fun h => absurd (hn ▸ h) (by decide), fun h => absurd (hn ▸ h) (by decide), fun h => absurd (hn ▸ h) (by decide), (own_sp8 x0 x1 x2 (by rw [hn]; decide) (own_sp7 x0 x1 x2 (by rw [hn]; decide) (own_sp6 x0 x1 x2 (by rw [hn]; decide) (own_sp5 x0 x1 x2 (by rw [hn]; decide) o5))))⟩
theorem own_c303 (a1 : ¬ (w0_4 x0 x1 x2) < 1) (a2 : ¬ (w0_4 x0 x1 x2) < 2) (a3 : ¬ (w0_4 x0 x1 x2) < 3) (a4 : 0 < (w0_4 x0 x1 x2)) (a5 : 0 < (w0_4 x0 x1 x2) - 1) (a6 : 0 < (w0_4 x0 x1 x2) - 1 - 1) (b1 : (w0_10 x0 x1 x2) < 1) (b2 : (w0_10 x0 x1 x2) < 2) (b3 : (w0_10 x0 x1 x2) < 3) (b4 : ¬ 0 < (w0_10 x0 x1 x2)) (d1 : ¬ (w0_17 x0 x1 x2) < 1) (d2 : ¬ (w0_17 x0 x1 x2) < 2) (d3 : ¬ (w0_17 x0 x1 x2) < 3) (d4 : 0 < (w0_17 x0 x1 x2)) (d5 : 0 < (w0_17 x0 x1 x2) - 1) (d6 : 0 < (w0_17 x0 x1 x2) - 1 - 1) : OwnG x0 x1 x2 := by
  have q : OwnE8 x0 x1 x2 6 0 2 0 2 0 2 0 0 0 := (own_tk8_5 x0 x1 x2 d3 (own_sk7 x0 x1 x2 b3 (own_tk6_4 x0 x1 x2 a3 (own_tk5_3 x0 x1 x2 d2 (own_sk4 x0 x1 x2 b2 (own_tk3_2 x0 x1 x2 a2 (own_tk2_1 x0 x1 x2 d1 (own_sk1 x0 x1 x2 b1 (own_tk0 x0 x1 x2 a1)))))))))
  have hn := q.1
  have i0 := own_iyny (w0_4 x0 x1 x2) (w0_10 x0 x1 x2) (w0_17 x0 x1 x2) a4 b4 d4
  have s0 : OwnS0 x0 x1 x2 (w0_4 x0 x1 x2) (w0_10 x0 x1 x2) (w0_17 x0 x1 x2) 0 2 0 2 0 := ⟨rfl, rfl, rfl, rfl, i0.1, i0.2.1, i0.2.2.1, i0.2.2.2, rfl⟩
  have s1 : OwnS1 x0 x1 x2 (w0_4 x0 x1 x2 - 1) (w0_10 x0 x1 x2) (w0_17 x0 x1 x2) 0 2 0 2 1 := own_st0 x0 x1 x2 (by rw [hn]; decide) q.2.1 s0 (own_x02_0_c (w0_4 x0 x1 x2) (w0_10 x0 x1 x2) (w0_17 x0 x1 x2) 0)
  have s2 : OwnS2 x0 x1 x2 (w0_4 x0 x1 x2 - 1) (w0_10 x0 x1 x2) (w0_17 x0 x1 x2 - 1) 0 2 0 2 0 := own_st1 x0 x1 x2 (by rw [hn]; decide) q.2.2.1 s1 (own_x02_1_yy (w0_4 x0 x1 x2 - 1) (w0_10 x0 x1 x2) (w0_17 x0 x1 x2) 0 a5 d5)
  have s3 : OwnS3 x0 x1 x2 (w0_4 x0 x1 x2 - 1 - 1) (w0_10 x0 x1 x2) (w0_17 x0 x1 x2 - 1) 0 2 0 2 1 := own_st2 x0 x1 x2 (by rw [hn]; decide) q.2.2.2.1 s2 (own_x02_0_c (w0_4 x0 x1 x2 - 1) (w0_10 x0 x1 x2) (w0_17 x0 x1 x2 - 1) 0)
  have s4 : OwnS4 x0 x1 x2 (w0_4 x0 x1 x2 - 1 - 1) (w0_10 x0 x1 x2) (w0_17 x0 x1 x2 - 1 - 1) 0 2 0 2 0 := own_st3 x0 x1 x2 (by rw [hn]; decide) q.2.2.2.2.1 s3 (own_x02_1_yy (w0_4 x0 x1 x2 - 1 - 1) (w0_10 x0 x1 x2) (w0_17 x0 x1 x2 - 1) 0 a6 d6)
  have s5 : OwnS5 x0 x1 x2 (w0_4 x0 x1 x2 - 1 - 1 - 1) (w0_10 x0 x1 x2) (w0_17 x0 x1 x2 - 1 - 1) 0 2 0 2 1 := own_st4 x0 x1 x2 (by rw [hn]; decide) q.2.2.2.2.2.1 s4 (own_x02_0_c (w0_4 x0 x1 x2 - 1 - 1) (w0_10 x0 x1 x2) (w0_17 x0 x1 x2 - 1 - 1) 0)
  have o6 : j0_397_16 x0 x1 x2 = 1 := by
    by_cases u0 : 0 < (w0_4 x0 x1 x2 - 1 - 1 - 1)
    · skip
      by_cases u1 : 0 < (w0_17 x0 x1 x2 - 1 - 1 - 1)
      · skip
        exact (own_st5 x0 x1 x2 (by rw [hn]; decide) q.2.2.2.2.2.2.1 s5 (own_x02_1_yy (w0_4 x0 x1 x2 - 1 - 1 - 1) (w0_10 x0 x1 x2) (w0_17 x0 x1 x2 - 1 - 1) 0 u0 u1)).1
      · skip
        exact (own_st5 x0 x1 x2 (by rw [hn]; decide) q.2.2.2.2.2.2.1 s5 (own_x02_1_yn (w0_4 x0 x1 x2 - 1 - 1 - 1) (w0_10 x0 x1 x2) (w0_17 x0 x1 x2 - 1 - 1) 0 u0 u1)).1
    · skip
      by_cases u1 : 0 < (w0_17 x0 x1 x2 - 1 - 1 - 1)
      · skip
        exact (own_st5 x0 x1 x2 (by rw [hn]; decide) q.2.2.2.2.2.2.1 s5 (own_x02_1_ny (w0_4 x0 x1 x2 - 1 - 1 - 1) (w0_10 x0 x1 x2) (w0_17 x0 x1 x2 - 1 - 1) 0 u0 u1)).1
      · skip
        exact (own_st5 x0 x1 x2 (by rw [hn]; decide) q.2.2.2.2.2.2.1 s5 (own_x02_1_nn (w0_4 x0 x1 x2 - 1 - 1 - 1) (w0_10 x0 x1 x2) (w0_17 x0 x1 x2 - 1 - 1) 0 u0 u1)).1
  exact ⟨fun _ => own_sv0 x0 x1 x2 s0 (by decide), fun _ => own_sv1 x0 x1 x2 s1 (by decide), fun _ => own_sv2 x0 x1 x2 s2 (by decide), fun _ => own_sv3 x0 x1 x2 s3 (by decide), fun _ => own_sv4 x0 x1 x2 s4 (by decide), fun _ => own_sv5 x0 x1 x2 s5 (by decide), fun h => absurd (hn ▸ h) (by decide), fun h => absurd (hn ▸ h) (by decide), fun h => absurd (hn ▸ h) (by decide), (own_sp8 x0 x1 x2 (by rw [hn]; decide) (own_sp7 x0 x1 x2 (by rw [hn]; decide) (own_sp6 x0 x1 x2 (by rw [hn]; decide) o6)))⟩
theorem own_c310 (a1 : ¬ (w0_4 x0 x1 x2) < 1) (a2 : ¬ (w0_4 x0 x1 x2) < 2) (a3 : ¬ (w0_4 x0 x1 x2) < 3) (a4 : 0 < (w0_4 x0 x1 x2)) (a5 : 0 < (w0_4 x0 x1 x2) - 1) (a6 : 0 < (w0_4 x0 x1 x2) - 1 - 1) (b1 : ¬ (w0_10 x0 x1 x2) < 1) (b2 : (w0_10 x0 x1 x2) < 2) (b3 : (w0_10 x0 x1 x2) < 3) (b4 : 0 < (w0_10 x0 x1 x2)) (b5 : ¬ 0 < (w0_10 x0 x1 x2) - 1) (d1 : (w0_17 x0 x1 x2) < 1) (d2 : (w0_17 x0 x1 x2) < 2) (d3 : (w0_17 x0 x1 x2) < 3) (d4 : ¬ 0 < (w0_17 x0 x1 x2)) : OwnG x0 x1 x2 := by
  have q : OwnE8 x0 x1 x2 4 0 1 0 0 0 0 0 0 0 := (own_sk8 x0 x1 x2 d3 (own_sk7 x0 x1 x2 b3 (own_tk6_3 x0 x1 x2 a3 (own_sk5 x0 x1 x2 d2 (own_sk4 x0 x1 x2 b2 (own_tk3_2 x0 x1 x2 a2 (own_sk2 x0 x1 x2 d1 (own_tk1_1 x0 x1 x2 b1 (own_tk0 x0 x1 x2 a1)))))))))
  have hn := q.1
  have i0 := own_iyyn (w0_4 x0 x1 x2) (w0_10 x0 x1 x2) (w0_17 x0 x1 x2) a4 b4 d4
  have s0 : OwnS0 x0 x1 x2 (w0_4 x0 x1 x2) (w0_10 x0 x1 x2) (w0_17 x0 x1 x2) 0 1 0 2 0 := ⟨rfl, rfl, rfl, rfl, i0.1, i0.2.1, i0.2.2.1, i0.2.2.2, rfl⟩
  have s1 : OwnS1 x0 x1 x2 (w0_4 x0 x1 x2 - 1) (w0_10 x0 x1 x2) (w0_17 x0 x1 x2) 0 1 0 2 1 := own_st0 x0 x1 x2 (by rw [hn]; decide) q.2.1 s0 (own_x01_0_c (w0_4 x0 x1 x2) (w0_10 x0 x1 x2) (w0_17 x0 x1 x2) 0)
  have s2 : OwnS2 x0 x1 x2 (w0_4 x0 x1 x2 - 1) (w0_10 x0 x1 x2 - 1) (w0_17 x0 x1 x2) 0 1 0 1 0 := own_st1 x0 x1 x2 (by rw [hn]; decide) q.2.2.1 s1 (own_x01_1_yn (w0_4 x0 x1 x2 - 1) (w0_10 x0 x1 x2) (w0_17 x0 x1 x2) 0 a5 b5)
  have s3 : OwnS3 x0 x1 x2 (w0_4 x0 x1 x2 - 1 - 1) (w0_10 x0 x1 x2 - 1) (w0_17 x0 x1 x2) 0 1 0 1 0 := own_st2 x0 x1 x2 (by rw [hn]; decide) q.2.2.2.1 s2 (own_x0_0_y (w0_4 x0 x1 x2 - 1) (w0_10 x0 x1 x2 - 1) (w0_17 x0 x1 x2) 1 0 a6)
  have o4 : j0_337_16 x0 x1 x2 = 1 := by
    by_cases u0 : 0 < (w0_4 x0 x1 x2 - 1 - 1 - 1)
    · skip
      exact (own_st3 x0 x1 x2 (by rw [hn]; decide) q.2.2.2.2.1 s3 (own_x0_0_y (w0_4 x0 x1 x2 - 1 - 1) (w0_10 x0 x1 x2 - 1) (w0_17 x0 x1 x2) 1 0 u0)).1
    · skip
      exact (own_st3 x0 x1 x2 (by rw [hn]; decide) q.2.2.2.2.1 s3 (own_x0_0_n (w0_4 x0 x1 x2 - 1 - 1) (w0_10 x0 x1 x2 - 1) (w0_17 x0 x1 x2) 1 0 u0)).1
  exact ⟨fun _ => own_sv0 x0 x1 x2 s0 (by decide), fun _ => own_sv1 x0 x1 x2 s1 (by decide), fun _ => own_sv2 x0 x1 x2 s2 (by decide), fun _ => own_sv3 x0 x1 x2 s3 (by decide), fun h => absurd (hn ▸ h) (by decide), fun h => absurd (hn ▸ h) (by decide), fun h => absurd (hn ▸ h) (by decide), fun h => absurd (hn ▸ h) (by decide), fun h => absurd (hn ▸ h) (by decide), (own_sp8 x0 x1 x2 (by rw [hn]; decide) (own_sp7 x0 x1 x2 (by rw [hn]; decide) (own_sp6 x0 x1 x2 (by rw [hn]; decide) (own_sp5 x0 x1 x2 (by rw [hn]; decide) (own_sp4 x0 x1 x2 (by rw [hn]; decide) o4)))))⟩
theorem own_c311 (a1 : ¬ (w0_4 x0 x1 x2) < 1) (a2 : ¬ (w0_4 x0 x1 x2) < 2) (a3 : ¬ (w0_4 x0 x1 x2) < 3) (a4 : 0 < (w0_4 x0 x1 x2)) (a5 : 0 < (w0_4 x0 x1 x2) - 1) (a6 : 0 < (w0_4 x0 x1 x2) - 1 - 1) (b1 : ¬ (w0_10 x0 x1 x2) < 1) (b2 : (w0_10 x0 x1 x2) < 2) (b3 : (w0_10 x0 x1 x2) < 3) (b4 : 0 < (w0_10 x0 x1 x2)) (b5 : ¬ 0 < (w0_10 x0 x1 x2) - 1) (d1 : ¬ (w0_17 x0 x1 x2) < 1) (d2 : (w0_17 x0 x1 x2) < 2) (d3 : (w0_17 x0 x1 x2) < 3) (d4 : 0 < (w0_17 x0 x1 x2)) (d5 : ¬ 0 < (w0_17 x0 x1 x2) - 1) : OwnG x0 x1 x2 := by
  have q : OwnE8 x0 x1 x2 5 0 1 2 0 0 0 0 0 0 := (own_sk8 x0 x1 x2 d3 (own_sk7 x0 x1 x2 b3 (own_tk6_4 x0 x1 x2 a3 (own_sk5 x0 x1 x2 d2 (own_sk4 x0 x1 x2 b2 (own_tk3_3 x0 x1 x2 a2 (own_tk2_2 x0 x1 x2 d1 (own_tk1_1 x0 x1 x2 b1 (own_tk0 x0 x1 x2 a1)))))))))
  have hn := q.1
  have i0 := own_iyyy (w0_4 x0 x1 x2) (w0_10 x0 x1 x2) (w0_17 x0 x1 x2) a4 b4 d4
  have s0 : OwnS0 x0 x1 x2 (w0_4 x0 x1 x2) (w0_10 x0 x1 x2) (w0_17 x0 x1 x2) 0 1 2 3 0 := ⟨rfl, rfl, rfl, rfl, i0.1, i0.2.1, i0.2.2.1, i0.2.2.2, rfl⟩
  have s1 : OwnS1 x0 x1 x2 (w0_4 x0 x1 x2 - 1) (w0_10 x0 x1 x2) (w0_17 x0 x1 x2) 0 1 2 3 1 := own_st0 x0 x1 x2 (by rw [hn]; decide) q.2.1 s0 (own_x012_0_c (w0_4 x0 x1 x2) (w0_10 x0 x1 x2) (w0_17 x0 x1 x2) )
  have s2 : OwnS2 x0 x1 x2 (w0_4 x0 x1 x2 - 1) (w0_10 x0 x1 x2 - 1) (w0_17 x0 x1 x2) 0 1 2 3 2 := own_st1 x0 x1 x2 (by rw [hn]; decide) q.2.2.1 s1 (own_x012_1_c (w0_4 x0 x1 x2 - 1) (w0_10 x0 x1 x2) (w0_17 x0 x1 x2) )
  have s3 : OwnS3 x0 x1 x2 (w0_4 x0 x1 x2 - 1) (w0_10 x0 x1 x2 - 1) (w0_17 x0 x1 x2 - 1) 0 1 2 1 0 := own_st2 x0 x1 x2 (by rw [hn]; decide) q.2.2.2.1 s2 (own_x012_2_ynn (w0_4 x0 x1 x2 - 1) (w0_10 x0 x1 x2 - 1) (w0_17 x0 x1 x2)  a5 b5 d5)
  have s4 : OwnS4 x0 x1 x2 (w0_4 x0 x1 x2 - 1 - 1) (w0_10 x0 x1 x2 - 1) (w0_17 x0 x1 x2 - 1) 0 1 2 1 0 := own_st3 x0 x1 x2 (by rw [hn]; decide) q.2.2.2.2.1 s3 (own_x0_0_y (w0_4 x0 x1 x2 - 1) (w0_10 x0 x1 x2 - 1) (w0_17 x0 x1 x2 - 1) 1 2 a6)
  have o5 : j0_367_16 x0 x1 x2 = 1 := by
    by_cases u0 : 0 < (w0_4 x0 x1 x2 - 1 - 1 - 1)
    · skip
      exact (own_st4 x0 x1 x2 (by rw [hn]; decide) q.2.2.2.2.2.1 s4 (own_x0_0_y (w0_4 x0 x1 x2 - 1 - 1) (w0_10 x0 x1 x2 - 1) (w0_17 x0 x1 x2 - 1) 1 2 u0)).1
    · skip
      exact (own_st4 x0 x1 x2 (by rw [hn]; decide) q.2.2.2.2.2.1 s4 (own_x0_0_n (w0_4 x0 x1 x2 - 1 - 1) (w0_10 x0 x1 x2 - 1) (w0_17 x0 x1 x2 - 1) 1 2 u0)).1
  exact ⟨fun _ => own_sv0 x0 x1 x2 s0 (by decide), fun _ => own_sv1 x0 x1 x2 s1 (by decide), fun _ => own_sv2 x0 x1 x2 s2 (by decide), fun _ => own_sv3 x0 x1 x2 s3 (by decide), fun _ => own_sv4 x0 x1 x2 s4 (by decide), fun h => absurd (hn ▸ h) (by decide), fun h => absurd (hn ▸ h) (by decide), fun h => absurd (hn ▸ h) (by decide), fun h => absurd (hn ▸ h) (by decide), (own_sp8 x0 x1 x2 (by rw [hn]; decide) (own_sp7 x0 x1 x2 (by rw [hn]; decide) (own_sp6 x0 x1 x2 (by rw [hn]; decide) (own_sp5 x0 x1 x2 (by rw [hn]; decide) o5))))⟩
theorem own_c312 (a1 : ¬ (w0_4 x0 x1 x2) < 1) (a2 : ¬ (w0_4 x0 x1 x2) < 2) (a3 : ¬ (w0_4 x0 x1 x2) < 3) (a4 : 0 < (w0_4 x0 x1 x2)) (a5 : 0 < (w0_4 x0 x1 x2) - 1) (a6 : 0 < (w0_4 x0 x1 x2) - 1 - 1) (b1 : ¬ (w0_10 x0 x1 x2) < 1) (b2 : (w0_10 x0 x1 x2) < 2) (b3 : (w0_10 x0 x1 x2) < 3) (b4 : 0 < (w0_10 x0 x1 x2)) (b5 : ¬ 0 < (w0_10 x0 x1 x2) - 1) (d1 : ¬ (w0_17 x0 x1 x2) < 1) (d2 : ¬ (w0_17 x0 x1 x2) < 2) (d3 : (w0_17 x0 x1 x2) < 3) (d4 : 0 < (w0_17 x0 x1 x2)) (d5 : 0 < (w0_17 x0 x1 x2) - 1) (d6 : ¬ 0 < (w0_17 x0 x1 x2) - 1 - 1) : OwnG x0 x1 x2 := by
  have q : OwnE8 x0 x1 x2 6 0 1 2 0 2 0 0 0 0 := (own_sk8 x0 x1 x2 d3 (own_sk7 x0 x1 x2 b3 (own_tk6_5 x0 x1 x2 a3 (own_tk5_4 x0 x1 x2 d2 (own_sk4 x0 x1 x2 b2 (own_tk3_3 x0 x1 x2 a2 (own_tk2_2 x0 x1 x2 d1 (own_tk1_1 x0 x1 x2 b1 (own_tk0 x0 x1 x2 a1)))))))))
  have hn := q.1
  have i0 := own_iyyy (w0_4 x0 x1 x2) (w0_10 x0 x1 x2) (w0_17 x0 x1 x2) a4 b4 d4
  have s0 : OwnS0 x0 x1 x2 (w0_4 x0 x1 x2) (w0_10 x0 x1 x2) (w0_17 x0 x1 x2) 0 1 2 3 0 := ⟨rfl, rfl, rfl, rfl, i0.1, i0.2.1, i0.2.2.1, i0.2.2.2, rfl⟩
  have s1 : OwnS1 x0 x1 x2 (w0_4 x0 x1 x2 - 1) (w0_10 x0 x1 x2) (w0_17 x0 x1 x2) 0 1 2 3 1 := own_st0 x0 x1 x2 (by rw [hn]; decide) q.2.1 s0 (own_x012_0_c (w0_4 x0 x1 x2) (w0_10 x0 x1 x2) (w0_17 x0 x1 x2) )
  have s2 : OwnS2 x0 x1 x2 (w0_4 x0 x1 x2 - 1) (w0_10 x0 x1 x2 - 1) (w0_17 x0 x1 x2) 0 1 2 3 2 := own_st1 x0 x1 x2 (by rw [hn]; decide) q.2.2.1 s1 (own_x012_1_c (w0_4 x0 x1 x2 - 1) (w0_10 x0 x1 x2) (w0_17 x0 x1 x2) )
  have s3 : OwnS3 x0 x1 x2 (w0_4 x0 x1 x2 - 1) (w0_10 x0 x1 x2 - 1) (w0_17 x0 x1 x2 - 1) 0 2 2 2 0 := own_st2 x0 x1 x2 (by rw [hn]; decide) q.2.2.2.1 s2 (own_x012_2_yny (w0_4 x0 x1 x2 - 1) (w0_10 x0 x1 x2 - 1) (w0_17 x0 x1 x2)  a5 b5 d5)
  have s4 : OwnS4 x0 x1 x2 (w0_4 x0 x1 x2 - 1 - 1) (w0_10 x0 x1 x2 - 1) (w0_17 x0 x1 x2 - 1) 0 2 2 2 1 := own_st3 x0 x1 x2 (by rw [hn]; decide) q.2.2.2.2.1 s3 (own_x02_0_c (w0_4 x0 x1 x2 - 1) (w0_10 x0 x1 x2 - 1) (w0_17 x0 x1 x2 - 1) 2)
  have s5 : OwnS5 x0 x1 x2 (w0_4 x0 x1 x2 - 1 - 1) (w0_10 x0 x1 x2 - 1) (w0_17 x0 x1 x2 - 1 - 1) 0 2 2 1 0 := own_st4 x0 x1 x2 (by rw [hn]; decide) q.2.2.2.2.2.1 s4 (own_x02_1_yn (w0_4 x0 x1 x2 - 1 - 1) (w0_10 x0 x1 x2 - 1) (w0_17 x0 x1 x2 - 1) 2 a6 d6)
  have o6 : j0_397_16 x0 x1 x2 = 1 := by
    by_cases u0 : 0 < (w0_4 x0 x1 x2 - 1 - 1 - 1)
    · skip
      exact (own_st5 x0 x1 x2 (by rw [hn]; decide) q.2.2.2.2.2.2.1 s5 (own_x0_0_y (w0_4 x0 x1 x2 - 1 - 1) (w0_10 x0 x1 x2 - 1) (w0_17 x0 x1 x2 - 1 - 1) 2 2 u0)).1
    · skip
      exact (own_st5 x0 x1 x2 (by rw [hn]; decide) q.2.2.2.2.2.2.1 s5 (own_x0_0_n (w0_4 x0 x1 x2 - 1 - 1) (w0_10 x0 x1 x2 - 1) (w0_17 x0 x1 x2 - 1 - 1) 2 2 u0)).1
  exact ⟨fun _ => own_sv0 x0 x1 x2 s0 (by decide), fun _ => own_sv1 x0 x1 x2 s1 (by decide), fun _ => own_sv2 x0 x1 x2 s2 (by decide), fun _ => own_sv3 x0 x1 x2 s3 (by decide), fun _ => own_sv4 x0 x1 x2 s4 (by decide), fun _ => own_sv5 x0 x1 x2 s5 (by decide), fun h => absurd (hn ▸ h) (by decide), fun h => absurd (hn ▸ h) (by decide), fun h => absurd (hn ▸ h) (by decide), (own_sp8 x0 x1 x2 (by rw [hn]; decide) (own_sp7 x0 x1 x2 (by rw [hn]; decide) (own_sp6 x0 x1 x2 (by rw [hn]; decide) o6)))⟩
theorem own_c313 (a1 : ¬ (w0_4 x0 x1 x2) < 1) (a2 : ¬ (w0_4 x0 x1 x2) < 2) (a3 : ¬ (w0_4 x0 x1 x2) < 3) (a4 : 0 < (w0_4 x0 x1 x2)) (a5 : 0 < (w0_4 x0 x1 x2) - 1) (a6 : 0 < (w0_4 x0 x1 x2) - 1 - 1) (b1 : ¬ (w0_10 x0 x1 x2) < 1) (b2 : (w0_10 x0 x1 x2) < 2) (b3 : (w0_10 x0 x1 x2) < 3) (b4 : 0 < (w0_10 x0 x1 x2)) (b5 : ¬ 0 < (w0_10 x0 x1 x2) - 1) (d1 : ¬ (w0_17 x0 x1 x2) < 1) (d2 : ¬ (w0_17 x0 x1 x2) < 2) (d3 : ¬ (w0_17 x0 x1 x2) < 3) (d4 : 0 < (w0_17 x0 x1 x2)) (d5 : 0 < (w0_17 x0 x1 x2) - 1) (d6 : 0 < (w0_17 x0 x1 x2) - 1 - 1) : OwnG x0 x1 x2 := by
  have q : OwnE8 x0 x1 x2 7 0 1 2 0 2 0 2 0 0 := (own_tk8_6 x0 x1 x2 d3 (own_sk7 x0 x1 x2 b3 (own_tk6_5 x0 x1 x2 a3 (own_tk5_4 x0 x1 x2 d2 (own_sk4 x0 x1 x2 b2 (own_tk3_3 x0 x1 x2 a2 (own_tk2_2 x0 x1 x2 d1 (own_tk1_1 x0 x1 x2 b1 (own_tk0 x0 x1 x2 a1)))))))))
  have hn := q.1
  have i0 := own_iyyy (w0_4 x0 x1 x2) (w0_10 x0 x1 x2) (w0_17 x0 x1 x2) a4 b4 d4
  have s0 : OwnS0 x0 x1 x2 (w0_4 x0 x1 x2) (w0_10 x0 x1 x2) (w0_17 x0 x1 x2) 0 1 2 3 0 := ⟨rfl, rfl, rfl, rfl, i0.1, i0.2.1, i0.2.2.1, i0.2.2.2, rfl⟩
  have s1 : OwnS1 x0 x1 x2 (w0_4 x0 x1 x2 - 1) (w0_10 x0 x1 x2) (w0_17 x0 x1 x2) 0 1 2 3 1 := own_st0 x0 x1 x2 (by rw [hn]; decide) q.2.1 s0 (own_x012_0_c (w0_4 x0 x1 x2) (w0_10 x0 x1 x2) (w0_17 x0 x1 x2) )
  have s2 : OwnS2 x0 x1 x2 (w0_4 x0 x1 x2 - 1) (w0_10 x0 x1 x2 - 1) (w0_17 x0 x1 x2) 0 1 2 3 2 := own_st1 x0 x1 x2 (by rw [hn]; decide) q.2.2.1 s1 (own_x012_1_c (w0_4 x0 x1 x2 - 1) (w0_10 x0 x1 x2) (w0_17 x0 x1 x2) )
  have s3 : OwnS3 x0 x1 x2 (w0_4 x0 x1 x2 - 1) (w0_10 x0 x1 x2 - 1) (w0_17 x0 x1 x2 - 1) 0 2 2 2 0 := own_st2 x0 x1 x2 (by rw [hn]; decide) q.2.2.2.1 s2 (own_x012_2_yny (w0_4 x0 x1 x2 - 1) (w0_10 x0 x1 x2 - 1) (w0_17 x0 x1 x2)  a5 b5 d5)
  have s4 : OwnS4 x0 x1 x2 (w0_4 x0 x1 x2 - 1 - 1) (w0_10 x0 x1 x2 - 1) (w0_17 x0 x1 x2 - 1) 0 2 2 2 1 := own_st3 x0 x1 x2 (by rw [hn]; decide) q.2.2.2.2.1 s3 (own_x02_0_c (w0_4 x0 x1 x2 - 1) (w0_10 x0 x1 x2 - 1) (w0_17 x0 x1 x2 - 1) 2)
  have s5 : OwnS5 x0 x1 x2 (w0_4 x0 x1 x2 - 1 - 1) (w0_10 x0 x1 x2 - 1) (w0_17 x0 x1 x2 - 1 - 1) 0 2 2 2 0 := own_st4 x0 x1 x2 (by rw [hn]; decide) q.2.2.2.2.2.1 s4 (own_x02_1_yy (w0_4 x0 x1 x2 - 1 - 1) (w0_10 x0 x1 x2 - 1) (w0_17 x0 x1 x2 - 1) 2 a6 d6)
  have s6 : OwnS6 x0 x1 x2 (w0_4 x0 x1 x2 - 1 - 1 - 1) (w0_10 x0 x1 x2 - 1) (w0_17 x0 x1 x2 - 1 - 1) 0 2 2 2 1 := own_st5 x0 x1 x2 (by rw [hn]; decide) q.2.2.2.2.2.2.1 s5 (own_x02_0_c (w0_4 x0 x1 x2 - 1 - 1) (w0_10 x0 x1 x2 - 1) (w0_17 x0 x1 x2 - 1 - 1) 2)
  have o7 : j0_429_16 x0 x1 x2 = 1 := by
    by_cases u0 : 0 < (w0_4 x0 x1 x2 - 1 - 1 - 1)
    · skip
      by_cases u1 : 0 < (w0_17 x0 x1 x2 - 1 - 1 - 1)
      · skip
        exact (own_st6 x0 x1 x2 (by rw [hn]; decide) q.2.2.2.2.2.2.2.1 s6 (own_x02_1_yy (w0_4 x0 x1 x2 - 1 - 1 - 1) (w0_10 x0 x1 x2 - 1) (w0_17 x0 x1 x2 - 1 - 1) 2 u0 u1)).1
      · skip
        exact (own_st6 x0 x1 x2 (by rw [hn]; decide) q.2.2.2.2.2.2.2.1 s6 (own_x02_1_yn (w0_4 x0 x1 x2 - 1 - 1 - 1) (w0_10 x0 x1 x2 - 1) (w0_17 x0 x1 x2 - 1 - 1) 2 u0 u1)).1
    · skip
      by_cases u1 : 0 < (w0_17 x0 x1 x2 - 1 - 1 - 1)
      · skip
        exact (own_st6 x0 x1 x2 (by rw [hn]; decide) q.2.2.2.2.2.2.2.1 s6 (own_x02_1_ny (w0_4 x0 x1 x2 - 1 - 1 - 1) (w0_10 x0 x1 x2 - 1) (w0_17 x0 x1 x2 - 1 - 1) 2 u0 u1)).1
      · skip
        exact (own_st6 x0 x1 x2 (by rw [hn]; decide) q.2.2.2.2.2.2.2.1 s6 (own_x02_1_nn (w0_4 x0 x1 x2 - 1 - 1 - 1) (w0_10 x0 x1 x2 - 1) (w0_17 x0 x1 x2 - 1 - 1) 2 u0 u1)).1
  exact ⟨fun _ => own_sv0 x0 x1 x2 s0 (by decide), fun _ => own_sv1 x0 x1 x2 s1 (by decide), fun _ => own_sv2 x0 x1 x2 s2 (by decide), fun _ => own_sv3 x0 x1 x2 s3 (by decide), fun _ => own_sv4 x0 x1 x2 s4 (by decide), fun _ => own_sv5 x0 x1 x2 s5 (by decide), fun _ => own_sv6 x0 x1 x2 s6 (by decide), fun h => absurd (hn ▸ h) (by decide), fun h => absurd (hn ▸ h) (by decide), (own_sp8 x0 x1 x2 (by rw [hn]; decide) (own_sp7 x0 x1 x2 (by rw [hn]; decide) o7))⟩
theorem own_c320 (a1 : ¬ (w0_4 x0 x1 x2) < 1) (a2 : ¬ (w0_4 x0 x1 x2) < 2) (a3 : ¬ (w0_4 x0 x1 x2) < 3) (a4 : 0 < (w0_4 x0 x1 x2)) (a5 : 0 < (w0_4 x0 x1 x2) - 1) (a6 : 0 < (w0_4 x0 x1 x2) - 1 - 1) (b1 : ¬ (w0_10 x0 x1 x2) < 1) (b2 : ¬ (w0_10 x0 x1 x2) < 2) (b3 : (w0_10 x0 x1 x2) < 3) (b4 : 0 < (w0_10 x0 x1 x2)) (b5 : 0 < (w0_10 x0 x1 x2) - 1) (b6 : ¬ 0 < (w0_10 x0 x1 x2) - 1 - 1) (d1 : (w0_17 x0 x1 x2) < 1) (d2 : (w0_17 x0 x1 x2) < 2) (d3 : (w0_17 x0 x1 x2) < 3) (d4 : ¬ 0 < (w0_17 x0 x1 x2)) : OwnG x0 x1 x2 := by
  have q : OwnE8 x0 x1 x2 5 0 1 0 1 0 0 0 0 0 := (own_sk8 x0 x1 x2 d3 (own_sk7 x0 x1 x2 b3 (own_tk6_4 x0 x1 x2 a3 (own_sk5 x0 x1 x2 d2 (own_tk4_3 x0 x1 x2 b2 (own_tk3_2 x0 x1 x2 a2 (own_sk2 x0 x1 x2 d1 (own_tk1_1 x0 x1 x2 b1 (own_tk0 x0 x1 x2 a1)))))))))
  have hn := q.1
  have i0 := own_iyyn (w0_4 x0 x1 x2) (w0_10 x0 x1 x2) (w0_17 x0 x1 x2) a4 b4 d4
  have s0 : OwnS0 x0 x1 x2 (w0_4 x0 x1 x2) (w0_10 x0 x1 x2) (w0_17 x0 x1 x2) 0 1 0 2 0 := ⟨rfl, rfl, rfl, rfl, i0.1, i0.2.1, i0.2.2.1, i0.2.2.2, rfl⟩
  have s1 : OwnS1 x0 x1 x2 (w0_4 x0 x1 x2 - 1) (w0_10 x0 x1 x2) (w0_17 x0 x1 x2) 0 1 0 2 1 := own_st0 x0 x1 x2 (by rw [hn]; decide) q.2.1 s0 (own_x01_0_c (w0_4 x0 x1 x2) (w0_10 x0 x1 x2) (w0_17 x0 x1 x2) 0)
  have s2 : OwnS2 x0 x1 x2 (w0_4 x0 x1 x2 - 1) (w0_10 x0 x1 x2 - 1) (w0_17 x0 x1 x2) 0 1 0 2 0 := own_st1 x0 x1 x2 (by rw [hn]; decide) q.2.2.1 s1 (own_x01_1_yy (w0_4 x0 x1 x2 - 1) (w0_10 x0 x1 x2) (w0_17 x0 x1 x2) 0 a5 b5)
  have s3 : OwnS3 x0 x1 x2 (w0_4 x0 x1 x2 - 1 - 1) (w0_10 x0 x1 x2 - 1) (w0_17 x0 x1 x2) 0 1 0 2 1 := own_st2 x0 x1 x2 (by rw [hn]; decide) q.2.2.2.1 s2 (own_x01_0_c (w0_4 x0 x1 x2 - 1) (w0_10 x0 x1 x2 - 1) (w0_17 x0 x1 x2) 0)
  have s4 : OwnS4 x0 x1 x2 (w0_4 x0 x1 x2 - 1 - 1) (w0_10 x0 x1 x2 - 1 - 1) (w0_17 x0 x1 x2) 0 1 0 1 0 := own_st3 x0 x1 x2 (by rw [hn]; decide) q.2.2.2.2.1 s3 (own_x01_1_yn (w0_4 x0 x1 x2 - 1 - 1) (w0_10 x0 x1 x2 - 1) (w0_17 x0 x1 x2) 0 a6 b6)
  have o5 : j0_367_16 x0 x1 x2 = 1 := by
    by_cases u0 : 0 < (w0_4 x0 x1 x2 - 1 - 1 - 1)
    · skip
      exact (own_st4 x0 x1 x2 (by rw [hn]; decide) q.2.2.2.2.2.1 s4 (own_x0_0_y (w0_4 x0 x1 x2 - 1 - 1) (w0_10 x0 x1 x2 - 1 - 1) (w0_17 x0 x1 x2) 1 0 u0)).1
    · skip
      exact (own_st4 x0 x1 x2 (by rw [hn]; decide) q.2.2.2.2.2.1 s4 (own_x0_0_n (w0_4 x0 x1 x2 - 1 - 1) (w0_10 x0 x1 x2 - 1 - 1) (w0_17 x0 x1 x2) 1 0 u0)).1
  exact ⟨fun _ => own_sv0 x0 x1 x2 s0 (by decide), fun _ => own_sv1 x0 x1 x2 s1 (by decide), fun _ => own_sv2 x0 x1 x2 s2 (by decide), fun _ => own_sv3 x0 x1 x2 s3 (by decide), fun _ => own_sv4 x0 x1 x2 s4 (by decide), fun h => absurd (hn ▸ h) (by decide), fun h => absurd (hn ▸ h) (by decide), fun h => absurd (hn ▸ h) (by decide), fun h => absurd (hn ▸ h) (by decide), (own_sp8 x0 x1 x2 (by rw [hn]; decide) (own_sp7 x0 x1 x2 (by rw [hn]; decide) (own_sp6 x0 x1 x2 (by rw [hn]; decide) (own_sp5 x0 x1 x2 (by rw [hn]; decide) o5))))⟩
theorem own_c321 (a1 : ¬ (w0_4 x0 x1 x2) < 1) (a2 : ¬ (w0_4 x0 x1 x2) < 2) (a3 : ¬ (w0_4 x0 x1 x2) < 3) (a4 : 0 < (w0_4 x0 x1 x2)) (a5 : 0 < (w0_4 x0 x1 x2) - 1) (a6 : 0 < (w0_4 x0 x1 x2) - 1 - 1) (b1 : ¬ (w0_10 x0 x1 x2) < 1) (b2 : ¬ (w0_10 x0 x1 x2) < 2) (b3 : (w0_10 x0 x1 x2) < 3) (b4 : 0 < (w0_10 x0 x1 x2)) (b5 : 0 < (w0_10 x0 x1 x2) - 1) (b6 : ¬ 0 < (w0_10 x0 x1 x2) - 1 - 1) (d1 : ¬ (w0_17 x0 x1 x2) < 1) (d2 : (w0_17 x0 x1 x2) < 2) (d3 : (w0_17 x0 x1 x2) < 3) (d4 : 0 < (w0_17 x0 x1 x2)) (d5 : ¬ 0 < (w0_17 x0 x1 x2) - 1) : OwnG x0 x1 x2 := by
  have q : OwnE8 x0 x1 x2 6 0 1 2 0 1 0 0 0 0 := (own_sk8 x0 x1 x2 d3 (own_sk7 x0 x1 x2 b3 (own_tk6_5 x0 x1 x2 a3 (own_sk5 x0 x1 x2 d2 (own_tk4_4 x0 x1 x2 b2 (own_tk3_3 x0 x1 x2 a2 (own_tk2_2 x0 x1 x2 d1 (own_tk1_1 x0 x1 x2 b1 (own_tk0 x0 x1 x2 a1)))))))))
  have hn := q.1
  have i0 := own_iyyy (w0_4 x0 x1 x2) (w0_10 x0 x1 x2) (w0_17 x0 x1 x2) a4 b4 d4
  have s0 : OwnS0 x0 x1 x2 (w0_4 x0 x1 x2) (w0_10 x0 x1 x2) (w0_17 x0 x1 x2) 0 1 2 3 0 := ⟨rfl, rfl, rfl, rfl, i0.1, i0.2.1, i0.2.2.1, i0.2.2.2, rfl⟩
  have s1 : OwnS1 x0 x1 x2 (w0_4 x0 x1 x2 - 1) (w0_10 x0 x1 x2) (w0_17 x0 x1 x2) 0 1 2 3 1 := own_st0 x0 x1 x2 (by rw [hn]; decide) q.2.1 s0 (own_x012_0_c (w0_4 x0 x1 x2) (w0_10 x0 x1 x2) (w0_17 x0 x1 x2) )
  have s2 : OwnS2 x0 x1 x2 (w0_4 x0 x1 x2 - 1) (w0_10 x0 x1 x2 - 1) (w0_17 x0 x1 x2) 0 1 2 3 2 := own_st1 x0 x1 x2 (by rw [hn]; decide) q.2.2.1 s1 (own_x012_1_c (w0_4 x0 x1 x2 - 1) (w0_10 x0 x1 x2) (w0_17 x0 x1 x2) )
  have s3 : OwnS3 x0 x1 x2 (w0_4 x0 x1 x2 - 1) (w0_10 x0 x1 x2 - 1) (w0_17 x0 x1 x2 - 1) 0 1 2 2 0 := own_st2 x0 x1 x2 (by rw [hn]; decide) q.2.2.2.1 s2 (own_x012_2_yyn (w0_4 x0 x1 x2 - 1) (w0_10 x0 x1 x2 - 1) (w0_17 x0 x1 x2)  a5 b5 d5)
  have s4 : OwnS4 x0 x1 x2 (w0_4 x0 x1 x2 - 1 - 1) (w0_10 x0 x1 x2 - 1) (w0_17 x0 x1 x2 - 1) 0 1 2 2 1 := own_st3 x0 x1 x2 (by rw [hn]; decide) q.2.2.2.2.1 s3 (own_x01_0_c (w0_4 x0 x1 x2 - 1) (w0_10 x0 x1 x2 - 1) (w0_17 x0 x1 x2 - 1) 2)
  have s5 : OwnS5 x0 x1 x2 (w0_4 x0 x1 x2 - 1 - 1) (w0_10 x0 x1 x2 - 1 - 1) (w0_17 x0 x1 x2 - 1) 0 1 2 1 0 := own_st4 x0 x1 x2 (by rw [hn]; decide) q.2.2.2.2.2.1 s4 (own_x01_1_yn (w0_4 x0 x1 x2 - 1 - 1) (w0_10 x0 x1 x2 - 1) (w0_17 x0 x1 x2 - 1) 2 a6 b6)
  have o6 : j0_397_16 x0 x1 x2 = 1 := by
    by_cases u0 : 0 < (w0_4 x0 x1 x2 - 1 - 1 - 1)
    · skip
      exact (own_st5 x0 x1 x2 (by rw [hn]; decide) q.2.2.2.2.2.2.1 s5 (own_x0_0_y (w0_4 x0 x1 x2 - 1 - 1) (w0_10 x0 x1 x2 - 1 - 1) (w0_17 x0 x1 x2 - 1) 1 2 u0)).1
    · skip
      exact (own_st5 x0 x1 x2 (by rw [hn]; decide) q.2.2.2.2.2.2.1 s5 (own_x0_0_n (w0_4 x0 x1 x2 - 1 - 1) (w0_10 x0 x1 x2 - 1 - 1) (w0_17 x0 x1 x2 - 1) 1 2 u0)).1
  exact ⟨fun _ => own_sv0 x0 x1 x2 s0 (by decide), fun _ => own_sv1 x0 x1 x2 s1 (by decide), fun _ => own_sv2 x0 x1 x2 s2 (by decide), fun _ => own_sv3 x0 x1 x2 s3 (by decide), fun _ => own_sv4 x0 x1 x2 s4 (by decide), fun _ => own_sv5 x0 x1 x2 s5 (by decide), fun h => absurd (hn ▸ h) (by decide), fun h => absurd (hn ▸ h) (by decide), fun h => absurd (hn ▸ h) (by decide), (own_sp8 x0 x1 x2 (by rw [hn]; decide) (own_sp7 x0 x1 x2 (by rw [hn]; decide) (own_sp6 x0 x1 x2 (by rw [hn]; decide) o6)))⟩
theorem own_c322 (a1 : ¬ (w0_4 x0 x1 x2) < 1) (a2 : ¬ (w0_4 x0 x1 x2) < 2) (a3 : ¬ (w0_4 x0 x1 x2) < 3) (a4 : 0 < (w0_4 x0 x1 x2)) (a5 : 0 < (w0_4 x0 x1 x2) - 1) (a6 : 0 < (w0_4 x0 x1 x2) - 1 - 1) (b1 : ¬ (w0_10 x0 x1 x2) < 1) (b2 : ¬ (w0_10 x0 x1 x2) < 2) (b3 : (w0_10 x0 x1 x2) < 3) (b4 : 0 < (w0_10 x0 x1 x2)) (b5 : 0 < (w0_10 x0 x1 x2) - 1) (b6 : ¬ 0 < (w0_10 x0 x1 x2) - 1 - 1) (d1 : ¬ (w0_17 x0 x1 x2) < 1) (d2 : ¬ (w0_17 x0 x1 x2) < 2) (d3 : (w0_17 x0 x1 x2) < 3) (d4 : 0 < (w0_17 x0 x1 x2)) (d5 : 0 < (w0_17 x0 x1 x2) - 1) (d6 : ¬ 0 < (w0_17 x0 x1 x2) - 1 - 1) : OwnG x0 x1 x2 := by
  have q : OwnE8 x0 x1 x2 7 0 1 2 0 1 2 0 0 0 := (own_sk8 x0 x1 x2 d3 (own_sk7 x0 x1 x2 b3 (own_tk6_6 x0 x1 x2 a3 (own_tk5_5 x0 x1 x2 d2 (own_tk4_4 x0 x1 x2 b2 (own_tk3_3 x0 x1 x2 a2 (own_tk2_2 x0 x1 x2 d1 (own_tk1_1 x0 x1 x2 b1 (own_tk0 x0 x1 x2 a1)))))))))
  have hn := q.1
  have i0 := own_iyyy (w0_4 x0 x1 x2) (w0_10 x0 x1 x2) (w0_17 x0 x1 x2) a4 b4 d4
  have s0 : OwnS0 x0 x1 x2 (w0_4 x0 x1 x2) (w0_10 x0 x1 x2) (w0_17 x0 x1 x2) 0 1 2 3 0 := ⟨rfl, rfl, rfl, rfl, i0.1, i0.2.1, i0.2.2.1, i0.2.2.2, rfl⟩
  have s1 : OwnS1 x0 x1 x2 (w0_4 x0 x1 x2 - 1) (w0_10 x0 x1 x2) (w0_17 x0 x1 x2) 0 1 2 3 1 := own_st0 x0 x1 x2 (by rw [hn]; decide) q.2.1 s0 (own_x012_0_c (w0_4 x0 x1 x2) (w0_10 x0 x1 x2) (w0_17 x0 x1 x2) )
  have s2 : OwnS2 x0 x1 x2 (w0_4 x0 x1 x2 - 1) (w0_10 x0 x1 x2 - 1) (w0_17 x0 x1 x2) 0 1 2 3 2 := own_st1 x0 x1 x2 (by rw [hn]; decide) q.2.2.1 s1 (own_x012_1_c (w0_4 x0 x1 x2 - 1) (w0_10 x0 x1 x2) (w0_17 x0 x1 x2) )
  have s3 : OwnS3 x0 x1 x2 (w0_4 x0 x1 x2 - 1) (w0_10 x0 x1 x2 - 1) (w0_17 x0 x1 x2 - 1) 0 1 2 3 0 := own_st2 x0 x1 x2 (by rw [hn]; decide) q.2.2.2.1 s2 (own_x012_2_yyy (w0_4 x0 x1 x2 - 1) (w0_10 x0 x1 x2 - 1) (w0_17 x0 x1 x2)  a5 b5 d5)
  have s4 : OwnS4 x0 x1 x2 (w0_4 x0 x1 x2 - 1 - 1) (w0_10 x0 x1 x2 - 1) (w0_17 x0 x1 x2 - 1) 0 1 2 3 1 := own_st3 x0 x1 x2 (by rw [hn]; decide) q.2.2.2.2.1 s3 (own_x012_0_c (w0_4 x0 x1 x2 - 1) (w0_10 x0 x1 x2 - 1) (w0_17 x0 x1 x2 - 1) )
  have s5 : OwnS5 x0 x1 x2 (w0_4 x0 x1 x2 - 1 - 1) (w0_10 x0 x1 x2 - 1 - 1) (w0_17 x0 x1 x2 - 1) 0 1 2 3 2 := own_st4 x0 x1 x2 (by rw [hn]; decide) q.2.2.2.2.2.1 s4 (own_x012_1_c (w0_4 x0 x1 x2 - 1 - 1) (w0_10 x0 x1 x2 - 1) (w0_17 x0 x1 x2 - 1) )
  have s6 : OwnS6 x0 x1 x2 (w0_4 x0 x1 x2 - 1 - 1) (w0_10 x0 x1 x2 - 1 - 1) (w0_17 x0 x1 x2 - 1 - 1) 0 1 2 1 0 := own_st5 x0 x1 x2 (by rw [hn]; decide) q.2.2.2.2.2.2.1 s5 (own_x012_2_ynn (w0_4 x0 x1 x2 - 1 - 1) (w0_10 x0 x1 x2 - 1 - 1) (w0_17 x0 x1 x2 - 1)  a6 b6 d6)
  have o7 : j0_429_16 x0 x1 x2 = 1 := by
    by_cases u0 : 0 < (w0_4 x0 x1 x2 - 1 - 1 - 1)
    · skip
      exact (own_st6 x0 x1 x2 (by rw [hn]; decide) q.2.2.2.2.2.2.2.1 s6 (own_x0_0_y (w0_4 x0 x1 x2 - 1 - 1) (w0_10 x0 x1 x2 - 1 - 1) (w0_17 x0 x1 x2 - 1 - 1) 1 2 u0)).1
    · skip
      exact (own_st6 x0 x1 x2 (by rw [hn]; decide) q.2.2.2.2.2.2.2.1 s6 (own_x0_0_n (w0_4 x0 x1 x2 - 1 - 1) (w0_10 x0 x1 x2 - 1 - 1) (w0_17 x0 x1 x2 - 1 - 1) 1 2 u0)).1
  exact ⟨fun _ => own_sv0 x0 x1 x2 s0 (by decide), fun _ => own_sv1 x0 x1 x2 s1 (by decide), fun _ => own_sv2 x0 x1 x2 s2 (by decide), fun _ => own_sv3 x0 x1 x2 s3 (by decide), fun _ => own_sv4 x0 x1 x2 s4 (by decide), fun _ => own_sv5 x0 x1 x2 s5 (by decide), fun _ => own_sv6 x0 x1 x2 s6 (by decide), fun h => absurd (hn ▸ h) (by decide), fun h => absurd (hn ▸ h) (by decide), (own_sp8 x0 x1 x2 (by rw [hn]; decide) (own_sp7 x0 x1 x2 (by rw [hn]; decide) o7))⟩
theorem own_c323 (a1 : ¬ (w0_4 x0 x1 x2) < 1) (a2 : ¬ (w0_4 x0 x1 x2) < 2) (a3 : ¬ (w0_4 x0 x1 x2) < 3) (a4 : 0 < (w0_4 x0 x1 x2)) (a5 : 0 < (w0_4 x0 x1 x2) - 1) (a6 : 0 < (w0_4 x0 x1 x2) - 1 - 1) (b1 : ¬ (w0_10 x0 x1 x2) < 1) (b2 : ¬ (w0_10 x0 x1 x2) < 2) (b3 : (w0_10 x0 x1 x2) < 3) (b4 : 0 < (w0_10 x0 x1 x2)) (b5 : 0 < (w0_10 x0 x1 x2) - 1) (b6 : ¬ 0 < (w0_10 x0 x1 x2) - 1 - 1) (d1 : ¬ (w0_17 x0 x1 x2) < 1) (d2 : ¬ (w0_17 x0 x1 x2) < 2) (d3 : ¬ (w0_17 x0 x1 x2) < 3) (d4 : 0 < (w0_17 x0 x1 x2)) (d5 : 0 < (w0_17 x0 x1 x2) - 1) (d6 : 0 < (w0_17 x0 x1 x2) - 1 - 1) : OwnG x0 x1 x2 := by
  have q : OwnE8 x0 x1 x2 8 0 1 2 0 1 2 0 2 0 := (own_tk8_7 x0 x1 x2 d3 (own_sk7 x0 x1 x2 b3 (own_tk6_6 x0 x1 x2 a3 (own_tk5_5 x0 x1 x2 d2 (own_tk4_4 x0 x1 x2 b2 (own_tk3_3 x0 x1 x2 a2 (own_tk2_2 x0 x1 x2 d1 (own_tk1_1 x0 x1 x2 b1 (own_tk0 x0 x1 x2 a1)))))))))
  have hn := q.1
  have i0 := own_iyyy (w0_4 x0 x1 x2) (w0_10 x0 x1 x2) (w0_17 x0 x1 x2) a4 b4 d4
  have s0 : OwnS0 x0 x1 x2 (w0_4 x0 x1 x2) (w0_10 x0 x1 x2) (w0_17 x0 x1 x2) 0 1 2 3 0 := ⟨rfl, rfl, rfl, rfl, i0.1, i0.2.1, i0.2.2.1, i0.2.2.2, rfl⟩
  have s1 : OwnS1 x0 x1 x2 (w0_4 x0 x1 x2 - 1) (w0_10 x0 x1 x2) (w0_17 x0 x1 x2) 0 1 2 3 1 := own_st0 x0 x1 x2 (by rw [hn]; decide) q.2.1 s0 (own_x012_0_c (w0_4 x0 x1 x2) (w0_10 x0 x1 x2) (w0_17 x0 x1 x2) )
  have s2 : OwnS2 x0 x1 x2 (w0_4 x0 x1 x2 - 1) (w0_10 x0 x1 x2 - 1) (w0_17 x0 x1 x2) 0 1 2 3 2 := own_st1 x0 x1 x2 (by rw [hn]; decide) q.2.2.1 s1 (own_x012_1_c (w0_4 x0 x1 x2 - 1) (w0_10 x0 x1 x2) (w0_17 x0 x1 x2) )
  have s3 : OwnS3 x0 x1 x2 (w0_4 x0 x1 x2 - 1) (w0_10 x0 x1 x2 - 1) (w0_17 x0 x1 x2 - 1) 0 1 2 3 0 := own_st2 x0 x1 x2 (by rw [hn]; decide) q.2.2.2.1 s2 (own_x012_2_yyy (w0_4 x0 x1 x2 - 1) (w0_10 x0 x1 x2 - 1) (w0_17 x0 x1 x2)  a5 b5 d5)
  have s4 : OwnS4 x0 x1 x2 (w0_4 x0 x1 x2 - 1 - 1) (w0_10 x0 x1 x2 - 1) (w0_17 x0 x1 x2 - 1) 0 1 2 3 1 := own_st3 x0 x1 x2 (by rw [hn]; decide) q.2.2.2.2.1 s3 (own_x012_0_c (w0_4 x0 x1 x2 - 1) (w0_10 x0 x1 x2 - 1) (w0_17 x0 x1 x2 - 1) )
  have s5 : OwnS5 x0 x1 x2 (w0_4 x0 x1 x2 - 1 - 1) (w0_10 x0 x1 x2 - 1 - 1) (w0_17 x0 x1 x2 - 1) 0 1 2 3 2 := own_st4 x0 x1 x2 (by rw [hn]; decide) q.2.2.2.2.2.1 s4 (own_x012_1_c (w0_4 x0 x1 x2 - 1 - 1) (w0_10 x0 x1 x2 - 1) (w0_17 x0 x1 x2 - 1) )
  have s6 : OwnS6 x0 x1 x2 (w0_4 x0 x1 x2 - 1 - 1) (w0_10 x0 x1 x2 - 1 - 1) (w0_17 x0 x1 x2 - 1 - 1) 0 2 2 2 0 := own_st5 x0 x1 x2 (by rw [hn]; decide) q.2.2.2.2.2.2.1 s5 (own_x012_2_yny (w0_4 x0 x1 x2 - 1 - 1) (w0_10 x0 x1 x2 - 1 - 1) (w0_17 x0 x1 x2 - 1)  a6 b6 d6)
  have s7 : OwnS7 x0 x1 x2 (w0_4 x0 x1 x2 - 1 - 1 - 1) (w0_10 x0 x1 x2 - 1 - 1) (w0_17 x0 x1 x2 - 1 - 1) 0 2 2 2 1 := own_st6 x0 x1 x2 (by rw [hn]; decide) q.2.2.2.2.2.2.2.1 s6 (own_x02_0_c (w0_4 x0 x1 x2 - 1 - 1) (w0_10 x0 x1 x2 - 1 - 1) (w0_17 x0 x1 x2 - 1 - 1) 2)
  have o8 : j0_461_16 x0 x1 x2 = 1 := by
    by_cases u0 : 0 < (w0_4 x0 x1 x2 - 1 - 1 - 1)
    · skip
      by_cases u1 : 0 < (w0_17 x0 x1 x2 - 1 - 1 - 1)
      · skip
        exact (own_st7 x0 x1 x2 (by rw [hn]; decide) q.2.2.2.2.2.2.2.2.1 s7 (own_x02_1_yy (w0_4 x0 x1 x2 - 1 - 1 - 1) (w0_10 x0 x1 x2 - 1 - 1) (w0_17 x0 x1 x2 - 1 - 1) 2 u0 u1)).1
      · skip
        exact (own_st7 x0 x1 x2 (by rw [hn]; decide) q.2.2.2.2.2.2.2.2.1 s7 (own_x02_1_yn (w0_4 x0 x1 x2 - 1 - 1 - 1) (w0_10 x0 x1 x2 - 1 - 1) (w0_17 x0 x1 x2 - 1 - 1) 2 u0 u1)).1
    · skip
      by_cases u1 : 0 < (w0_17 x0 x1 x2 - 1 - 1 - 1)
      · skip
        exact (own_st7 x0 x1 x2 (by rw [hn]; decide) q.2.2.2.2.2.2.2.2.1 s7 (own_x02_1_ny (w0_4 x0 x1 x2 - 1 - 1 - 1) (w0_10 x0 x1 x2 - 1 - 1) (w0_17 x0 x1 x2 - 1 - 1) 2 u0 u1)).1
      · skip
        exact (own_st7 x0 x1 x2 (by rw [hn]; decide) q.2.2.2.2.2.2.2.2.1 s7 (own_x02_1_nn (w0_4 x0 x1 x2 - 1 - 1 - 1) (w0_10 x0 x1 x2 - 1 - 1) (w0_17 x0 x1 x2 - 1 - 1) 2 u0 u1)).1
  exact ⟨fun _ => own_sv0 x0 x1 x2 s0 (by decide), fun _ => own_sv1 x0 x1 x2 s1 (by decide), fun _ => own_sv2 x0 x1 x2 s2 (by decide), fun _ => own_sv3 x0 x1 x2 s3 (by decide), fun _ => own_sv4 x0 x1 x2 s4 (by decide), fun _ => own_sv5 x0 x1 x2 s5 (by decide), fun _ => own_sv6 x0 x1 x2 s6 (by decide), fun _ => own_sv7 x0 x1 x2 s7 (by decide), fun h => absurd (hn ▸ h) (by decide), (own_sp8 x0 x1 x2 (by rw [hn]; decide) o8)⟩
theorem own_c330 (a1 : ¬ (w0_4 x0 x1 x2) < 1) (a2 : ¬ (w0_4 x0 x1 x2) < 2) (a3 : ¬ (w0_4 x0 x1 x2) < 3) (a4 : 0 < (w0_4 x0 x1 x2)) (a5 : 0 < (w0_4 x0 x1 x2) - 1) (a6 : 0 < (w0_4 x0 x1 x2) - 1 - 1) (b1 : ¬ (w0_10 x0 x1 x2) < 1) (b2 : ¬ (w0_10 x0 x1 x2) < 2) (b3 : ¬ (w0_10 x0 x1 x2) < 3) (b4 : 0 < (w0_10 x0 x1 x2)) (b5 : 0 < (w0_10 x0 x1 x2) - 1) (b6 : 0 < (w0_10 x0 x1 x2) - 1 - 1) (d1 : (w0_17 x0 x1 x2) < 1) (d2 : (w0_17 x0 x1 x2) < 2) (d3 : (w0_17 x0 x1 x2) < 3) (d4 : ¬ 0 < (w0_17 x0 x1 x2)) : OwnG x0 x1 x2 := by
  have q : OwnE8 x0 x1 x2 6 0 1 0 1 0 1 0 0 0 := (own_sk8 x0 x1 x2 d3 (own_tk7_5 x0 x1 x2 b3 (own_tk6_4 x0 x1 x2 a3 (own_sk5 x0 x1 x2 d2 (own_tk4_3 x0 x1 x2 b2 (own_tk3_2 x0 x1 x2 a2 (own_sk2 x0 x1 x2 d1 (own_tk1_1 x0 x1 x2 b1 (own_tk0 x0 x1 x2 a1)))))))))
  have hn := q.1
  have i0 := own_iyyn (w0_4 x0 x1 x2) (w0_10 x0 x1 x2) (w0_17 x0 x1 x2) a4 b4 d4
  have s0 : OwnS0 x0 x1 x2 (w0_4 x0 x1 x2) (w0_10 x0 x1 x2) (w0_17 x0 x1 x2) 0 1 0 2 0 := ⟨rfl, rfl, rfl, rfl, i0.1, i0.2.1, i0.2.2.1, i0.2.2.2, rfl⟩
  have s1 : OwnS1 x0 x1 x2 (w0_4 x0 x1 x2 - 1) (w0_10 x0 x1 x2) (w0_17 x0 x1 x2) 0 1 0 2 1 := own_st0 x0 x1 x2 (by rw [hn]; decide) q.2.1 s0 (own_x01_0_c (w0_4 x0 x1 x2) (w0_10 x0 x1 x2) (w0_17 x0 x1 x2) 0)
  have s2 : OwnS2 x0 x1 x2 (w0_4 x0 x1 x2 - 1) (w0_10 x0 x1 x2 - 1) (w0_17 x0 x1 x2) 0 1 0 2 0 := own_st1 x0 x1 x2 (by rw [hn]; decide) q.2.2.1 s1 (own_x01_1_yy (w0_4 x0 x1 x2 - 1) (w0_10 x0 x1 x2) (w0_17 x0 x1 x2) 0 a5 b5)
  have s3 : OwnS3 x0 x1 x2 (w0_4 x0 x1 x2 - 1 - 1) (w0_10 x0 x1 x2 - 1) (w0_17 x0 x1 x2) 0 1 0 2 1 := own_st2 x0 x1 x2 (by rw [hn]; decide) q.2.2.2.1 s2 (own_x01_0_c (w0_4 x0 x1 x2 - 1) (w0_10 x0 x1 x2 - 1) (w0_17 x0 x1 x2) 0)
  have s4 : OwnS4 x0 x1 x2 (w0_4 x0 x1 x2 - 1 - 1) (w0_10 x0 x1 x2 - 1 - 1) (w0_17 x0 x1 x2) 0 1 0 2 0 := own_st3 x0 x1 x2 (by rw [hn]; decide) q.2.2.2.2.1 s3 (own_x01_1_yy (w0_4 x0 x1 x2 - 1 - 1) (w0_10 x0 x1 x2 - 1) (w0_17 x0 x1 x2) 0 a6 b6)
  have s5 : OwnS5 x0 x1 x2 (w0_4 x0 x1 x2 - 1 - 1 - 1) (w0_10 x0 x1 x2 - 1 - 1) (w0_17 x0 x1 x2) 0 1 0 2 1 := own_st4 x0 x1 x2 (by rw [hn]; decide) q.2.2.2.2.2.1 s4 (own_x01_0_c (w0_4 x0 x1 x2 - 1 - 1) (w0_10 x0 x1 x2 - 1 - 1) (w0_17 x0 x1 x2) 0)
  have o6 : j0_397_16 x0 x1 x2 = 1 := by
    by_cases u0 : 0 < (w0_4 x0 x1 x2 - 1 - 1 - 1)
    · skip
      by_cases u1 : 0 < (w0_10 x0 x1 x2 - 1 - 1 - 1)
      · skip
        exact (own_st5 x0 x1 x2 (by rw [hn]; decide) q.2.2.2.2.2.2.1 s5 (own_x01_1_yy (w0_4 x0 x1 x2 - 1 - 1 - 1) (w0_10 x0 x1 x2 - 1 - 1) (w0_17 x0 x1 x2) 0 u0 u1)).1
      · skip
        exact (own_st5 x0 x1 x2 (by rw [hn]; decide) q.2.2.2.2.2.2.1 s5 (own_x01_1_yn (w0_4 x0 x1 x2 - 1 - 1 - 1) (w0_10 x0 x1 x2 - 1 - 1) (w0_17 x0 x1 x2) 0 u0 u1)).1
    · skip
      by_cases u1 : 0 < (w0_10 x0 x1 x2 - 1 - 1 - 1)
      · skip
        exact (own_st5 x0 x1 x2 (by rw [hn]; decide) q.2.2.2.2.2.2.1 s5 (own_x01_1_ny (w0_4 x0 x1 x2 - 1 - 1 - 1) (w0_10 x0 x1 x2 - 1 - 1) (w0_17 x0 x1 x2) 0 u0 u1)).1
      · skip
        exact (own_st5 x0 x1 x2 (by rw [hn]; decide) q.2.2.2.2.2.2.1 s5 (own_x01_1_nn (w0_4 x0 x1 x2 - 1 - 1 - 1) (w0_10 x0 x1 x2 - 1 - 1) (w0_17 x0 x1 x2) 0 u0 u1)).1
  exact ⟨fun _ => own_sv0 x0 x1 x2 s0 (by decide), fun _ => own_sv1 x0 x1 x2 s1 (by decide), fun _ => own_sv2 x0 x1 x2 s2 (by decide), fun _ => own_sv3 x0 x1 x2 s3 (by decide), fun _ => own_sv4 x0 x1 x2 s4 (by decide), fun _ => own_sv5 x0 x1 x2 s5 (by decide), fun h => absurd (hn ▸ h) (by decide), fun h => absurd (hn ▸ h) (by decide), fun h => absurd (hn ▸ h) (by decide), (own_sp8 x0 x1 x2 (by rw [hn]; decide) (own_sp7 x0 x1 x2 (by rw [hn]; decide) (own_sp6 x0 x1 x2 (by rw [hn]; decide) o6)))⟩
theorem own_c331 (a1 : ¬ (w0_4 x0 x1 x2) < 1) (a2 : ¬ (w0_4 x0 x1 x2) < 2) (a3 : ¬ (w0_4 x0 x1 x2) < 3) (a4 : 0 < (w0_4 x0 x1 x2)) (a5 : 0 < (w0_4 x0 x1 x2) - 1) (a6 : 0 < (w0_4 x0 x1 x2) - 1 - 1) (b1 : ¬ (w0_10 x0 x1 x2) < 1) (b2 : ¬ (w0_10 x0 x1 x2) < 2) (b3 : ¬ (w0_10 x0 x1 x2) < 3) (b4 : 0 < (w0_10 x0 x1 x2)) (b5 : 0 < (w0_10 x0 x1 x2) - 1) (b6 : 0 < (w0_10 x0 x1 x2) - 1 - 1) (d1 : ¬ (w0_17 x0 x1 x2) < 1) (d2 : (w0_17 x0 x1 x2) < 2) (d3 : (w0_17 x0 x1 x2) < 3) (d4 : 0 < (w0_17 x0 x1 x2)) (d5 : ¬ 0 < (w0_17 x0 x1 x2) - 1) : OwnG x0 x1 x2 := by
  have q : OwnE8 x0 x1 x2 7 0 1 2 0 1 0 1 0 0 := (own_sk8 x0 x1 x2 d3 (own_tk7_6 x0 x1 x2 b3 (own_tk6_5 x0 x1 x2 a3 (own_sk5 x0 x1 x2 d2 (own_tk4_4 x0 x1 x2 b2 (own_tk3_3 x0 x1 x2 a2 (own_tk2_2 x0 x1 x2 d1 (own_tk1_1 x0 x1 x2 b1 (own_tk0 x0 x1 x2 a1)))))))))
  have hn := q.1
  have i0 := own_iyyy (w0_4 x0 x1 x2) (w0_10 x0 x1 x2) (w0_17 x0 x1 x2) a4 b4 d4
  have s0 : OwnS0 x0 x1 x2 (w0_4 x0 x1 x2) (w0_10 x0 x1 x2) (w0_17 x0 x1 x2) 0 1 2 3 0 := ⟨rfl, rfl, rfl, rfl, i0.1, i0.2.1, i0.2.2.1, i0.2.2.2, rfl⟩
  have s1 : OwnS1 x0 x1 x2 (w0_4 x0 x1 x2 - 1) (w0_10 x0 x1 x2) (w0_17 x0 x1 x2) 0 1 2 3 1 := own_st0 x0 x1 x2 (by rw [hn]; decide) q.2.1 s0 (own_x012_0_c (w0_4 x0 x1 x2) (w0_10 x0 x1 x2) (w0_17 x0 x1 x2) )
  have s2 : OwnS2 x0 x1 x2 (w0_4 x0 x1 x2 - 1) (w0_10 x0 x1 x2 - 1) (w0_17 x0 x1 x2) 0 1 2 3 2 := own_st1 x0 x1 x2 (by rw [hn]; decide) q.2.2.1 s1 (own_x012_1_c (w0_4 x0 x1 x2 - 1) (w0_10 x0 x1 x2) (w0_17 x0 x1 x2) )
  have s3 : OwnS3 x0 x1 x2 (w0_4 x0 x1 x2 - 1) (w0_10 x0 x1 x2 - 1) (w0_17 x0 x1 x2 - 1) 0 1 2 2 0 := own_st2 x0 x1 x2 (by rw [hn]; decide) q.2.2.2.1 s2 (own_x012_2_yyn (w0_4 x0 x1 x2 - 1) (w0_10 x0 x1 x2 - 1) (w0_17 x0 x1 x2)  a5 b5 d5)
  have s4 : OwnS4 x0 x1 x2 (w0_4 x0 x1 x2 - 1 - 1) (w0_10 x0 x1 x2 - 1) (w0_17 x0 x1 x2 - 1) 0 1 2 2 1 := own_st3 x0 x1 x2 (by rw [hn]; decide) q.2.2.2.2.1 s3 (own_x01_0_c (w0_4 x0 x1 x2 - 1) (w0_10 x0 x1 x2 - 1) (w0_17 x0 x1 x2 - 1) 2)
  have s5 : OwnS5 x0 x1 x2 (w0_4 x0 x1 x2 - 1 - 1) (w0_10 x0 x1 x2 - 1 - 1) (w0_17 x0 x1 x2 - 1) 0 1 2 2 0 := own_st4 x0 x1 x2 (by rw [hn]; decide) q.2.2.2.2.2.1 s4 (own_x01_1_yy (w0_4 x0 x1 x2 - 1 - 1) (w0_10 x0 x1 x2 - 1) (w0_17 x0 x1 x2 - 1) 2 a6 b6)
  have s6 : OwnS6 x0 x1 x2 (w0_4 x0 x1 x2 - 1 - 1 - 1) (w0_10 x0 x1 x2 - 1 - 1) (w0_17 x0 x1 x2 - 1) 0 1 2 2 1 := own_st5 x0 x1 x2 (by rw [hn]; decide) q.2.2.2.2.2.2.1 s5 (own_x01_0_c (w0_4 x0 x1 x2 - 1 - 1) (w0_10 x0 x1 x2 - 1 - 1) (w0_17 x0 x1 x2 - 1) 2)
  have o7 : j0_429_16 x0 x1 x2 = 1 := by
    by_cases u0 : 0 < (w0_4 x0 x1 x2 - 1 - 1 - 1)
    · skip
      by_cases u1 : 0 < (w0_10 x0 x1 x2 - 1 - 1 - 1)
      · skip
        exact (own_st6 x0 x1 x2 (by rw [hn]; decide) q.2.2.2.2.2.2.2.1 s6 (own_x01_1_yy (w0_4 x0 x1 x2 - 1 - 1 - 1) (w0_10 x0 x1 x2 - 1 - 1) (w0_17 x0 x1 x2 - 1) 2 u0 u1)).1
      · skip
        exact (own_st6 x0 x1 x2 (by rw [hn]; decide) q.2.2.2.2.2.2.2.1 s6 (own_x01_1_yn (w0_4 x0 x1 x2 - 1 - 1 - 1) (w0_10 x0 x1 x2 - 1 - 1) (w0_17 x0 x1 x2 - 1) 2 u0 u1)).1
    · skip
      by_cases u1 : 0 < (w0_10 x0 x1 x2 - 1 - 1 - 1)
      · skip
        exact (own_st6 x0 x1 x2 (by rw [hn]; decide) q.2.2.2.2.2.2.2.1 s6 (own_x01_1_ny (w0_4 x0 x1 x2 - 1 - 1 - 1) (w0_10 x0 x1 x2 - 1 - 1) (w0_17 x0 x1 x2 - 1) 2 u0 u1)).1
      · skip
        exact (own_st6 x0 x1 x2 (by rw [hn]; decide) q.2.2.2.2.2.2.2.1 s6 (own_x01_1_nn (w0_4 x0 x1 x2 - 1 - 1 - 1) (w0_10 x0 x1 x2 - 1 - 1) (w0_17 x0 x1 x2 - 1) 2 u0 u1)).1
  exact ⟨fun _ => own_sv0 x0 x1 x2 s0 (by decide), fun _ => own_sv1 x0 x1 x2 s1 (by decide), fun _ => own_sv2 x0 x1 x2 s2 (by decide), fun _ => own_sv3 x0 x1 x2 s3 (by decide), fun _ => own_sv4 x0 x1 x2 s4 (by decide), fun _ => own_sv5 x0 x1 x2 s5 (by decide), fun _ => own_sv6 x0 x1 x2 s6 (by decide), fun h => absurd (hn ▸ h) (by decide), fun h => absurd (hn ▸ h) (by decide), (own_sp8 x0 x1 x2 (by rw [hn]; decide) (own_sp7 x0 x1 x2 (by rw [hn]; decide) o7))⟩
theorem own_c332 (a1 : ¬ (w0_4 x0 x1 x2) < 1) (a2 : ¬ (w0_4 x0 x1 x2) < 2) (a3 : ¬ (w0_4 x0 x1 x2) < 3) (a4 : 0 < (w0_4 x0 x1 x2)) (a5 : 0 < (w0_4 x0 x1 x2) - 1) (a6 : 0 < (w0_4 x0 x1 x2) - 1 - 1) (b1 : ¬ (w0_10 x0 x1 x2) < 1) (b2 : ¬ (w0_10 x0 x1 x2) < 2) (b3 : ¬ (w0_10 x0 x1 x2) < 3) (b4 : 0 < (w0_10 x0 x1 x2)) (b5 : 0 < (w0_10 x0 x1 x2) - 1) (b6 : 0 < (w0_10 x0 x1 x2) - 1 - 1) (d1 : ¬ (w0_17 x0 x1 x2) < 1) (d2 : ¬ (w0_17 x0 x1 x2) < 2) (d3 : (w0_17 x0 x1 x2) < 3) (d4 : 0 < (w0_17 x0 x1 x2)) (d5 : 0 < (w0_17 x0 x1 x2) - 1) (d6 : ¬ 0 < (w0_17 x0 x1 x2) - 1 - 1) : OwnG x0 x1 x2 := by
  have q : OwnE8 x0 x1 x2 8 0 1 2 0 1 2 0 1 0 := (own_sk8 x0 x1 x2 d3 (own_tk7_7 x0 x1 x2 b3 (own_tk6_6 x0 x1 x2 a3 (own_tk5_5 x0 x1 x2 d2 (own_tk4_4 x0 x1 x2 b2 (own_tk3_3 x0 x1 x2 a2 (own_tk2_2 x0 x1 x2 d1 (own_tk1_1 x0 x1 x2 b1 (own_tk0 x0 x1 x2 a1)))))))))
  have hn := q.1
  have i0 := own_iyyy (w0_4 x0 x1 x2) (w0_10 x0 x1 x2) (w0_17 x0 x1 x2) a4 b4 d4
  have s0 : OwnS0 x0 x1 x2 (w0_4 x0 x1 x2) (w0_10 x0 x1 x2) (w0_17 x0 x1 x2) 0 1 2 3 0 := ⟨rfl, rfl, rfl, rfl, i0.1, i0.2.1, i0.2.2.1, i0.2.2.2, rfl⟩
  have s1 : OwnS1 x0 x1 x2 (w0_4 x0 x1 x2 - 1) (w0_10 x0 x1 x2) (w0_17 x0 x1 x2) 0 1 2 3 1 := own_st0 x0 x1 x2 (by rw [hn]; decide) q.2.1 s0 (own_x012_0_c (w0_4 x0 x1 x2) (w0_10 x0 x1 x2) (w0_17 x0 x1 x2) )
  have s2 : OwnS2 x0 x1 x2 (w0_4 x0 x1 x2 - 1) (w0_10 x0 x1 x2 - 1) (w0_17 x0 x1 x2) 0 1 2 3 2 := own_st1 x0 x1 x2 (by rw [hn]; decide) q.2.2.1 s1 (own_x012_1_c (w0_4 x0 x1 x2 - 1) (w0_10 x0 x1 x2) (w0_17 x0 x1 x2) )
  have s3 : OwnS3 x0 x1 x2 (w0_4 x0 x1 x2 - 1) (w0_10 x0 x1 x2 - 1) (w0_17 x0 x1 x2 - 1) 0 1 2 3 0 := own_st2 x0 x1 x2 (by rw [hn]; decide) q.2.2.2.1 s2 (own_x012_2_yyy (w0_4 x0 x1 x2 - 1) (w0_10 x0 x1 x2 - 1) (w0_17 x0 x1 x2)  a5 b5 d5)
  have s4 : OwnS4 x0 x1 x2 (w0_4 x0 x1 x2 - 1 - 1) (w0_10 x0 x1 x2 - 1) (w0_17 x0 x1 x2 - 1) 0 1 2 3 1 := own_st3 x0 x1 x2 (by rw [hn]; decide) q.2.2.2.2.1 s3 (own_x012_0_c (w0_4 x0 x1 x2 - 1) (w0_10 x0 x1 x2 - 1) (w0_17 x0 x1 x2 - 1) )
  have s5 : OwnS5 x0 x1 x2 (w0_4 x0 x1 x2 - 1 - 1) (w0_10 x0 x1 x2 - 1 - 1) (w0_17 x0 x1 x2 - 1) 0 1 2 3 2 := own_st4 x0 x1 x2 (by rw [hn]; decide) q.2.2.2.2.2.1 s4 (own_x012_1_c (w0_4 x0 x1 x2 - 1 - 1) (w0_10 x0 x1 x2 - 1) (w0_17 x0 x1 x2 - 1) )
  have s6 : OwnS6 x0 x1 x2 (w0_4 x0 x1 x2 - 1 - 1) (w0_10 x0 x1 x2 - 1 - 1) (w0_17 x0 x1 x2 - 1 - 1) 0 1 2 2 0 := own_st5 x0 x1 x2 (by rw [hn]; decide) q.2.2.2.2.2.2.1 s5 (own_x012_2_yyn (w0_4 x0 x1 x2 - 1 - 1) (w0_10 x0 x1 x2 - 1 - 1) (w0_17 x0 x1 x2 - 1)  a6 b6 d6)
  have s7 : OwnS7 x0 x1 x2 (w0_4 x0 x1 x2 - 1 - 1 - 1) (w0_10 x0 x1 x2 - 1 - 1) (w0_17 x0 x1 x2 - 1 - 1) 0 1 2 2 1 := own_st6 x0 x1 x2 (by rw [hn]; decide) q.2.2.2.2.2.2.2.1 s6 (own_x01_0_c (w0_4 x0 x1 x2 - 1 - 1) (w0_10 x0 x1 x2 - 1 - 1) (w0_17 x0 x1 x2 - 1 - 1) 2)
  have o8 : j0_461_16 x0 x1 x2 = 1 := by
    by_cases u0 : 0 < (w0_4 x0 x1 x2 - 1 - 1 - 1)
    · skip
      by_cases u1 : 0 < (w0_10 x0 x1 x2 - 1 - 1 - 1)
      · skip
        exact (own_st7 x0 x1 x2 (by rw [hn]; decide) q.2.2.2.2.2.2.2.2.1 s7 (own_x01_1_yy (w0_4 x0 x1 x2 - 1 - 1 - 1) (w0_10 x0 x1 x2 - 1 - 1) (w0_17 x0 x1 x2 - 1 - 1) 2 u0 u1)).1
      · skip
        exact (own_st7 x0 x1 x2 (by rw [hn]; decide) q.2.2.2.2.2.2.2.2.1 s7 (own_x01_1_yn (w0_4 x0 x1 x2 - 1 - 1 - 1) (w0_10 x0 x1 x2 - 1 - 1) (w0_17 x0 x1 x2 - 1 - 1) 2 u0 u1)).1
    · skip
      by_cases u1 : 0 < (w0_10 x0 x1 x2 - 1 - 1 - 1)
      · skip
        exact (own_st7 x0 x1 x2 (by rw [hn]; decide) q.2.2.2.2.2.2.2.2.1 s7 (own_x01_1_ny (w0_4 x0 x1 x2 - 1 - 1 - 1) (w0_10 x0 x1 x2 - 1 - 1) (w0_17 x0 x1 x2 - 1 - 1) 2 u0 u1)).1
      · skip
        exact (own_st7 x0 x1 x2 (by rw [hn]; decide) q.2.2.2.2.2.2.2.2.1 s7 (own_x01_1_nn (w0_4 x0 x1 x2 - 1 - 1 - 1) (w0_10 x0 x1 x2 - 1 - 1) (w0_17 x0 x1 x2 - 1 - 1) 2 u0 u1)).1
  exact ⟨fun _ => own_sv0 x0 x1 x2 s0 (by decide), fun _ => own_sv1 x0 x1 x2 s1 (by decide), fun _ => own_sv2 x0 x1 x2 s2 (by decide), fun _ => own_sv3 x0 x1 x2 s3 (by decide), fun _ => own_sv4 x0 x1 x2 s4 (by decide), fun _ => own_sv5 x0 x1 x2 s5 (by decide), fun _ => own_sv6 x0 x1 x2 s6 (by decide), fun _ => own_sv7 x0 x1 x2 s7 (by decide), fun h => absurd (hn ▸ h) (by decide), (own_sp8 x0 x1 x2 (by rw [hn]; decide) o8)⟩
theorem own_c333 (a1 : ¬ (w0_4 x0 x1 x2) < 1) (a2 : ¬ (w0_4 x0 x1 x2) < 2) (a3 : ¬ (w0_4 x0 x1 x2) < 3) (a4 : 0 < (w0_4 x0 x1 x2)) (a5 : 0 < (w0_4 x0 x1 x2) - 1) (a6 : 0 < (w0_4 x0 x1 x2) - 1 - 1) (b1 : ¬ (w0_10 x0 x1 x2) < 1) (b2 : ¬ (w0_10 x0 x1 x2) < 2) (b3 : ¬ (w0_10 x0 x1 x2) < 3) (b4 : 0 < (w0_10 x0 x1 x2)) (b5 : 0 < (w0_10 x0 x1 x2) - 1) (b6 : 0 < (w0_10 x0 x1 x2) - 1 - 1) (d1 : ¬ (w0_17 x0 x1 x2) < 1) (d2 : ¬ (w0_17 x0 x1 x2) < 2) (d3 : ¬ (w0_17 x0 x1 x2) < 3) (d4 : 0 < (w0_17 x0 x1 x2)) (d5 : 0 < (w0_17 x0 x1 x2) - 1) (d6 : 0 < (w0_17 x0 x1 x2) - 1 - 1) : OwnG x0 x1 x2 := by
  have q : OwnE8 x0 x1 x2 9 0 1 2 0 1 2 0 1 2 := (own_tk8_8 x0 x1 x2 d3 (own_tk7_7 x0 x1 x2 b3 (own_tk6_6 x0 x1 x2 a3 (own_tk5_5 x0 x1 x2 d2 (own_tk4_4 x0 x1 x2 b2 (own_tk3_3 x0 x1 x2 a2 (own_tk2_2 x0 x1 x2 d1 (own_tk1_1 x0 x1 x2 b1 (own_tk0 x0 x1 x2 a1)))))))))
  have hn := q.1
  have i0 := own_iyyy (w0_4 x0 x1 x2) (w0_10 x0 x1 x2) (w0_17 x0 x1 x2) a4 b4 d4
  have s0 : OwnS0 x0 x1 x2 (w0_4 x0 x1 x2) (w0_10 x0 x1 x2) (w0_17 x0 x1 x2) 0 1 2 3 0 := ⟨rfl, rfl, rfl, rfl, i0.1, i0.2.1, i0.2.2.1, i0.2.2.2, rfl⟩
  have s1 : OwnS1 x0 x1 x2 (w0_4 x0 x1 x2 - 1) (w0_10 x0 x1 x2) (w0_17 x0 x1 x2) 0 1 2 3 1 := own_st0 x0 x1 x2 (by rw [hn]; decide) q.2.1 s0 (own_x012_0_c (w0_4 x0 x1 x2) (w0_10 x0 x1 x2) (w0_17 x0 x1 x2) )
  have s2 : OwnS2 x0 x1 x2 (w0_4 x0 x1 x2 - 1) (w0_10 x0 x1 x2 - 1) (w0_17 x0 x1 x2) 0 1 2 3 2 := own_st1 x0 x1 x2 (by rw [hn]; decide) q.2.2.1 s1 (own_x012_1_c (w0_4 x0 x1 x2 - 1) (w0_10 x0 x1 x2) (w0_17 x0 x1 x2) )
  have s3 : OwnS3 x0 x1 x2 (w0_4 x0 x1 x2 - 1) (w0_10 x0 x1 x2 - 1) (w0_17 x0 x1 x2 - 1) 0 1 2 3 0 := own_st2 x0 x1 x2 (by rw [hn]; decide) q.2.2.2.1 s2 (own_x012_2_yyy (w0_4 x0 x1 x2 - 1) (w0_10 x0 x1 x2 - 1) (w0_17 x0 x1 x2)  a5 b5 d5)
  have s4 : OwnS4 x0 x1 x2 (w0_4 x0 x1 x2 - 1 - 1) (w0_10 x0 x1 x2 - 1) (w0_17 x0 x1 x2 - 1) 0 1 2 3 1 := own_st3 x0 x1 x2 (by rw [hn]; decide) q.2.2.2.2.1 s3 (own_x012_0_c (w0_4 x0 x1 x2 - 1) (w0_10 x0 x1 x2 - 1) (w0_17 x0 x1 x2 - 1) )
  have s5 : OwnS5 x0 x1 x2 (w0_4 x0 x1 x2 - 1 - 1) (w0_10 x0 x1 x2 - 1 - 1) (w0_17 x0 x1 x2 - 1) 0 1 2 3 2 := own_st4 x0 x1 x2 (by rw [hn]; decide) q.2.2.2.2.2.1 s4 (own_x012_1_c (w0_4 x0 x1 x2 - 1 - 1) (w0_10 x0 x1 x2 - 1) (w0_17 x0 x1 x2 - 1) )
  have s6 : OwnS6 x0 x1 x2 (w0_4 x0 x1 x2 - 1 - 1) (w0_10 x0 x1 x2 - 1 - 1) (w0_17 x0 x1 x2 - 1 - 1) 0 1 2 3 0 := own_st5 x0 x1 x2 (by rw [hn]; decide) q.2.2.2.2.2.2.1 s5 (own_x012_2_yyy (w0_4 x0 x1 x2 - 1 - 1) (w0_10 x0 x1 x2 - 1 - 1) (w0_17 x0 x1 x2 - 1)  a6 b6 d6)
  have s7 : OwnS7 x0 x1 x2 (w0_4 x0 x1 x2 - 1 - 1 - 1) (w0_10 x0 x1 x2 - 1 - 1) (w0_17 x0 x1 x2 - 1 - 1) 0 1 2 3 1 := own_st6 x0 x1 x2 (by rw [hn]; decide) q.2.2.2.2.2.2.2.1 s6 (own_x012_0_c (w0_4 x0 x1 x2 - 1 - 1) (w0_10 x0 x1 x2 - 1 - 1) (w0_17 x0 x1 x2 - 1 - 1) )
  have s8 : OwnS8 x0 x1 x2 (w0_4 x0 x1 x2 - 1 - 1 - 1) (w0_10 x0 x1 x2 - 1 - 1 - 1) (w0_17 x0 x1 x2 - 1 - 1) 0 1 2 3 2 := own_st7 x0 x1 x2 (by rw [hn]; decide) q.2.2.2.2.2.2.2.2.1 s7 (own_x012_1_c (w0_4 x0 x1 x2 - 1 - 1 - 1) (w0_10 x0 x1 x2 - 1 - 1) (w0_17 x0 x1 x2 - 1 - 1) )
  have o9 : j0_493_16 x0 x1 x2 = 1 := by
    by_cases u0 : 0 < (w0_4 x0 x1 x2 - 1 - 1 - 1)
    · skip
      by_cases u1 : 0 < (w0_10 x0 x1 x2 - 1 - 1 - 1)
      · skip
        by_cases u2 : 0 < (w0_17 x0 x1 x2 - 1 - 1 - 1)
        · skip
          exact own_st8 x0 x1 x2 (by rw [hn]; decide) q.2.2.2.2.2.2.2.2.2 s8 (own_x012_2_yyy (w0_4 x0 x1 x2 - 1 - 1 - 1) (w0_10 x0 x1 x2 - 1 - 1 - 1) (w0_17 x0 x1 x2 - 1 - 1)  u0 u1 u2)
        · skip
          exact own_st8 x0 x1 x2 (by rw [hn]; decide) q.2.2.2.2.2.2.2.2.2 s8 (own_x012_2_yyn (w0_4 x0 x1 x2 - 1 - 1 - 1) (w0_10 x0 x1 x2 - 1 - 1 - 1) (w0_17 x0 x1 x2 - 1 - 1)  u0 u1 u2)
      · skip
        by_cases u2 : 0 < (w0_17 x0 x1 x2 - 1 - 1 - 1)
        · skip
          exact own_st8 x0 x1 x2 (by rw [hn]; decide) q.2.2.2.2.2.2.2.2.2 s8 (own_x012_2_yny (w0_4 x0 x1 x2 - 1 - 1 - 1) (w0_10 x0 x1 x2 - 1 - 1 - 1) (w0_17 x0 x1 x2 - 1 - 1)  u0 u1 u2)
        · skip
          exact own_st8 x0 x1 x2 (by rw [hn]; decide) q.2.2.2.2.2.2.2.2.2 s8 (own_x012_2_ynn (w0_4 x0 x1 x2 - 1 - 1 - 1) (w0_10 x0 x1 x2 - 1 - 1 - 1) (w0_17 x0 x1 x2 - 1 - 1)  u0 u1 u2)
    · skip
      by_cases u1 : 0 < (w0_10 x0 x1 x2 - 1 - 1 - 1)
      · skip
        by_cases u2 : 0 < (w0_17 x0 x1 x2 - 1 - 1 - 1)
        · skip
          exact own_st8 x0 x1 x2 (by rw [hn]; decide) q.2.2.2.2.2.2.2.2.2 s8 (own_x012_2_nyy (w0_4 x0 x1 x2 - 1 - 1 - 1) (w0_10 x0 x1 x2 - 1 - 1 - 1) (w0_17 x0 x1 x2 - 1 - 1)  u0 u1 u2)
        · skip
          exact own_st8 x0 x1 x2 (by rw [hn]; decide) q.2.2.2.2.2.2.2.2.2 s8 (own_x012_2_nyn (w0_4 x0 x1 x2 - 1 - 1 - 1) (w0_10 x0 x1 x2 - 1 - 1 - 1) (w0_17 x0 x1 x2 - 1 - 1)  u0 u1 u2)
      · skip
        by_cases u2 : 0 < (w0_17 x0 x1 x2 - 1 - 1 - 1)
        · skip
          exact own_st8 x0 x1 x2 (by rw [hn]; decide) q.2.2.2.2.2.2.2.2.2 s8 (own_x012_2_nny (w0_4 x0 x1 x2 - 1 - 1 - 1) (w0_10 x0 x1 x2 - 1 - 1 - 1) (w0_17 x0 x1 x2 - 1 - 1)  u0 u1 u2)
        · skip
          exact own_st8 x0 x1 x2 (by rw [hn]; decide) q.2.2.2.2.2.2.2.2.2 s8 (own_x012_2_nnn (w0_4 x0 x1 x2 - 1 - 1 - 1) (w0_10 x0 x1 x2 - 1 - 1 - 1) (w0_17 x0 x1 x2 - 1 - 1)  u0 u1 u2)
  exact ⟨fun _ => own_sv0 x0 x1 x2 s0 (by decide), fun _ => own_sv1 x0 x1 x2 s1 (by decide), fun _ => own_sv2 x0 x1 x2 s2 (by decide), fun _ => own_sv3 x0 x1 x2 s3 (by decide), fun _ => own_sv4 x0 x1 x2 s4 (by decide), fun _ => own_sv5 x0 x1 x2 s5 (by decide), fun _ => own_sv6 x0 x1 x2 s6 (by decide), fun _ => own_sv7 x0 x1 x2 s7 (by decide), fun _ => own_sv8 x0 x1 x2 s8 (by decide), o9⟩
theorem own_all : OwnG x0 x1 x2 := by
  rcases own_cl (w0_4 x0 x1 x2) with ha | ha | ha | ha <;> rcases own_cl (w0_10 x0 x1 x2) with hb | hb | hb | hb <;> rcases own_cl (w0_17 x0 x1 x2) with hd | hd | hd | hd
  · exact own_c000 x0 x1 x2 ha.1 ha.2.1 ha.2.2.1 ha.2.2.2 hb.1 hb.2.1 hb.2.2.1 hb.2.2.2 hd.1 hd.2.1 hd.2.2.1 hd.2.2.2
  · exact own_c001 x0 x1 x2 ha.1 ha.2.1 ha.2.2.1 ha.2.2.2 hb.1 hb.2.1 hb.2.2.1 hb.2.2.2 hd.1 hd.2.1 hd.2.2.1 hd.2.2.2.1 hd.2.2.2.2
  · exact own_c002 x0 x1 x2 ha.1 ha.2.1 ha.2.2.1 ha.2.2.2 hb.1 hb.2.1 hb.2.2.1 hb.2.2.2 hd.1 hd.2.1 hd.2.2.1 hd.2.2.2.1 hd.2.2.2.2.1 hd.2.2.2.2.2
  · exact own_c003 x0 x1 x2 ha.1 ha.2.1 ha.2.2.1 ha.2.2.2 hb.1 hb.2.1 hb.2.2.1 hb.2.2.2 hd.1 hd.2.1 hd.2.2.1 hd.2.2.2.1 hd.2.2.2.2.1 hd.2.2.2.2.2
  · exact own_c010 x0 x1 x2 ha.1 ha.2.1 ha.2.2.1 ha.2.2.2 hb.1 hb.2.1 hb.2.2.1 hb.2.2.2.1 hb.2.2.2.2 hd.1 hd.2.1 hd.2.2.1 hd.2.2.2
  · exact own_c011 x0 x1 x2 ha.1 ha.2.1 ha.2.2.1 ha.2.2.2 hb.1 hb.2.1 hb.2.2.1 hb.2.2.2.1 hb.2.2.2.2 hd.1 hd.2.1 hd.2.2.1 hd.2.2.2.1 hd.2.2.2.2
  · exact own_c012 x0 x1 x2 ha.1 ha.2.1 ha.2.2.1 ha.2.2.2 hb.1 hb.2.1 hb.2.2.1 hb.2.2.2.1 hb.2.2.2.2 hd.1 hd.2.1 hd.2.2.1 hd.2.2.2.1 hd.2.2.2.2.1 hd.2.2.2.2.2
  · exact own_c013 x0 x1 x2 ha.1 ha.2.1 ha.2.2.1 ha.2.2.2 hb.1 hb.2.1 hb.2.2.1 hb.2.2.2.1 hb.2.2.2.2 hd.1 hd.2.1 hd.2.2.1 hd.2.2.2.1 hd.2.2.2.2.1 hd.2.2.2.2.2
  · exact own_c020 x0 x1 x2 ha.1 ha.2.1 ha.2.2.1 ha.2.2.2 hb.1 hb.2.1 hb.2.2.1 hb.2.2.2.1 hb.2.2.2.2.1 hb.2.2.2.2.2 hd.1 hd.2.1 hd.2.2.1 hd.2.2.2
  · exact own_c021 x0 x1 x2 ha.1 ha.2.1 ha.2.2.1 ha.2.2.2 hb.1 hb.2.1 hb.2.2.1 hb.2.2.2.1 hb.2.2.2.2.1 hb.2.2.2.2.2 hd.1 hd.2.1 hd.2.2.1 hd.2.2.2.1 hd.2.2.2.2
  · exact own_c022 x0 x1 x2 ha.1 ha.2.1 ha.2.2.1 ha.2.2.2 hb.1 hb.2.1 hb.2.2.1 hb.2.2.2.1 hb.2.2.2.2.1 hb.2.2.2.2.2 hd.1 hd.2.1 hd.2.2.1 hd.2.2.2.1 hd.2.2.2.2.1 hd.2.2.2.2.2
  · exact own_c023 x0 x1 x2 ha.1 ha.2.1 ha.2.2.1 ha.2.2.2 hb.1 hb.2.1 hb.2.2.1 hb.2.2.2.1 hb.2.2.2.2.1 hb.2.2.2.2.2 hd.1 hd.2.1 hd.2.2.1 hd.2.2.2.1 hd.2.2.2.2.1 hd.2.2.2.2.2
  · exact own_c030 x0 x1 x2 ha.1 ha.2.1 ha.2.2.1 ha.2.2.2 hb.1 hb.2.1 hb.2.2.1 hb.2.2.2.1 hb.2.2.2.2.1 hb.2.2.2.2.2 hd.1 hd.2.1 hd.2.2.1 hd.2.2.2
  · exact own_c031 x0 x1 x2 ha.1 ha.2.1 ha.2.2.1 ha.2.2.2 hb.1 hb.2.1 hb.2.2.1 hb.2.2.2.1 hb.2.2.2.2.1 hb.2.2.2.2.2 hd.1 hd.2.1 hd.2.2.1 hd.2.2.2.1 hd.2.2.2.2
  · exact own_c032 x0 x1 x2 ha.1 ha.2.1 ha.2.2.1 ha.2.2.2 hb.1 hb.2.1 hb.2.2.1 hb.2.2.2.1 hb.2.2.2.2.1 hb.2.2.2.2.2 hd.1 hd.2.1 hd.2.2.1 hd.2.2.2.1 hd.2.2.2.2.1 hd.2.2.2.2.2
  · exact own_c033 x0 x1 x2 ha.1 ha.2.1 ha.2.2.1 ha.2.2.2 hb.1 hb.2.1 hb.2.2.1 hb.2.2.2.1 hb.2.2.2.2.1 hb.2.2.2.2.2 hd.1 hd.2.1 hd.2.2.1 hd.2.2.2.1 hd.2.2.2.2.1 hd.2.2.2.2.2
  · exact own_c100 x0 x1 x2 ha.1 ha.2.1 ha.2.2.1 ha.2.2.2.1 ha.2.2.2.2 hb.1 hb.2.1 hb.2.2.1 hb.2.2.2 hd.1 hd.2.1 hd.2.2.1 hd.2.2.2
  · exact own_c101 x0 x1 x2 ha.1 ha.2.1 ha.2.2.1 ha.2.2.2.1 ha.2.2.2.2 hb.1 hb.2.1 hb.2.2.1 hb.2.2.2 hd.1 hd.2.1 hd.2.2.1 hd.2.2.2.1 hd.2.2.2.2
  · exact own_c102 x0 x1 x2 ha.1 ha.2.1 ha.2.2.1 ha.2.2.2.1 ha.2.2.2.2 hb.1 hb.2.1 hb.2.2.1 hb.2.2.2 hd.1 hd.2.1 hd.2.2.1 hd.2.2.2.1 hd.2.2.2.2.1 hd.2.2.2.2.2
  · exact own_c103 x0 x1 x2 ha.1 ha.2.1 ha.2.2.1 ha.2.2.2.1 ha.2.2.2.2 hb.1 hb.2.1 hb.2.2.1 hb.2.2.2 hd.1 hd.2.1 hd.2.2.1 hd.2.2.2.1 hd.2.2.2.2.1 hd.2.2.2.2.2
  · exact own_c110 x0 x1 x2 ha.1 ha.2.1 ha.2.2.1 ha.2.2.2.1 ha.2.2.2.2 hb.1 hb.2.1 hb.2.2.1 hb.2.2.2.1 hb.2.2.2.2 hd.1 hd.2.1 hd.2.2.1 hd.2.2.2
  · exact own_c111 x0 x1 x2 ha.1 ha.2.1 ha.2.2.1 ha.2.2.2.1 ha.2.2.2.2 hb.1 hb.2.1 hb.2.2.1 hb.2.2.2.1 hb.2.2.2.2 hd.1 hd.2.1 hd.2.2.1 hd.2.2.2.1 hd.2.2.2.2
  · exact own_c112 x0 x1 x2 ha.1 ha.2.1 ha.2.2.1 ha.2.2.2.1 ha.2.2.2.2 hb.1 hb.2.1 hb.2.2.1 hb.2.2.2.1 hb.2.2.2.2 hd.1 hd.2.1 hd.2.2.1 hd.2.2.2.1 hd.2.2.2.2.1 hd.2.2.2.2.2
  · exact own_c113 x0 x1 x2 ha.1 ha.2.1 ha.2.2.1 ha.2.2.2.1 ha.2.2.2.2 hb.1 hb.2.1 hb.2.2.1 hb.2.2.2.1 hb.2.2.2.2 hd.1 hd.2.1 hd.2.2.1 hd.2.2.2.1 hd.2.2.2.2.1 hd.2.2.2.2.2
  · exact own_c120 x0 x1 x2 ha.1 ha.2.1 ha.2.2.1 ha.2.2.2.1 ha.2.2.2.2 hb.1 hb.2.1 hb.2.2.1 hb.2.2.2.1 hb.2.2.2.2.1 hb.2.2.2.2.2 hd.1 hd.2.1 hd.2.2.1 hd.2.2.2
  · exact own_c121 x0 x1 x2 ha.1 ha.2.1 ha.2.2.1 ha.2.2.2.1 ha.2.2.2.2 hb.1 hb.2.1 hb.2.2.1 hb.2.2.2.1 hb.2.2.2.2.1 hb.2.2.2.2.2 hd.1 hd.2.1 hd.2.2.1 hd.2.2.2.1 hd.2.2.2.2
  · exact own_c122 x0 x1 x2 ha.1 ha.2.1 ha.2.2.1 ha.2.2.2.1 ha.2.2.2.2 hb.1 hb.2.1 hb.2.2.1 hb.2.2.2.1 hb.2.2.2.2.1 hb.2.2.2.2.2 hd.1 hd.2.1 hd.2.2.1 hd.2.2.2.1 hd.2.2.2.2.1 hd.2.2.2.2.2
  · exact own_c123 x0 x1 x2 ha.1 ha.2.1 ha.2.2.1 ha.2.2.2.1 ha.2.2.2.2 hb.1 hb.2.1 hb.2.2.1 hb.2.2.2.1 hb.2.2.2.2.1 hb.2.2.2.2.2 hd.1 hd.2.1 hd.2.2.1 hd.2.2.2.1 hd.2.2.2.2.1 hd.2.2.2.2.2
  · exact own_c130 x0 x1 x2 ha.1 ha.2.1 ha.2.2.1 ha.2.2.2.1 ha.2.2.2.2 hb.1 hb.2.1 hb.2.2.1 hb.2.2.2.1 hb.2.2.2.2.1 hb.2.2.2.2.2 hd.1 hd.2.1 hd.2.2.1 hd.2.2.2
  · exact own_c131 x0 x1 x2 ha.1 ha.2.1 ha.2.2.1 ha.2.2.2.1 ha.2.2.2.2 hb.1 hb.2.1 hb.2.2.1 hb.2.2.2.1 hb.2.2.2.2.1 hb.2.2.2.2.2 hd.1 hd.2.1 hd.2.2.1 hd.2.2.2.1 hd.2.2.2.2
  · exact own_c132 x0 x1 x2 ha.1 ha.2.1 ha.2.2.1 ha.2.2.2.1 ha.2.2.2.2 hb.1 hb.2.1 hb.2.2.1 hb.2.2.2.1 hb.2.2.2.2.1 hb.2.2.2.2.2 hd.1 hd.2.1 hd.2.2.1 hd.2.2.2.1 hd.2.2.2.2.1 hd.2.2.2.2.2
  · exact own_c133 x0 x1 x2 ha.1 ha.2.1 ha.2.2.1 ha.2.2.2.1 ha.2.2.2.2 hb.1 hb.2.1 hb.2.2.1 hb.2.2.2.1 hb.2.2.2.2.1 hb.2.2.2.2.2 hd.1 hd.2.1 hd.2.2.1 hd.2.2.2.1 hd.2.2.2.2.1 hd.2.2.2.2.2
  · exact own_c200 x0 x1 x2 ha.1 ha.2.1 ha.2.2.1 ha.2.2.2.1 ha.2.2.2.2.1 ha.2.2.2.2.2 hb.1 hb.2.1 hb.2.2.1 hb.2.2.2 hd.1 hd.2.1 hd.2.2.1 hd.2.2.2
  · exact own_c201 x0 x1 x2 ha.1 ha.2.1 ha.2.2.1 ha.2.2.2.1 ha.2.2.2.2.1 ha.2.2.2.2.2 hb.1 hb.2.1 hb.2.2.1 hb.2.2.2 hd.1 hd.2.1 hd.2.2.1 hd.2.2.2.1 hd.2.2.2.2
  · exact own_c202 x0 x1 x2 ha.1 ha.2.1 ha.2.2.1 ha.2.2.2.1 ha.2.2.2.2.1 ha.2.2.2.2.2 hb.1 hb.2.1 hb.2.2.1 hb.2.2.2 hd.1 hd.2.1 hd.2.2.1 hd.2.2.2.1 hd.2.2.2.2.1 hd.2.2.2.2.2
  · exact own_c203 x0 x1 x2 ha.1 ha.2.1 ha.2.2.1 ha.2.2.2.1 ha.2.2.2.2.1 ha.2.2.2.2.2 hb.1 hb.2.1 hb.2.2.1 hb.2.2.2 hd.1 hd.2.1 hd.2.2.1 hd.2.2.2.1 hd.2.2.2.2.1 hd.2.2.2.2.2
  · exact own_c210 x0 x1 x2 ha.1 ha.2.1 ha.2.2.1 ha.2.2.2.1 ha.2.2.2.2.1 ha.2.2.2.2.2 hb.1 hb.2.1 hb.2.2.1 hb.2.2.2.1 hb.2.2.2.2 hd.1 hd.2.1 hd.2.2.1 hd.2.2.2
  · exact own_c211 x0 x1 x2 ha.1 ha.2.1 ha.2.2.1 ha.2.2.2.1 ha.2.2.2.2.1 ha.2.2.2.2.2 hb.1 hb.2.1 hb.2.2.1 hb.2.2.2.1 hb.2.2.2.2 hd.1 hd.2.1 hd.2.2.1 hd.2.2.2.1 hd.2.2.2.2
  · exact own_c212 x0 x1 x2 ha.1 ha.2.1 ha.2.2.1 ha.2.2.2.1 ha.2.2.2.2.1 ha.2.2.2.2.2 hb.1 hb.2.1 hb.2.2.1 hb.2.2.2.1 hb.2.2.2.2 hd.1 hd.2.1 hd.2.2.1 hd.2.2.2.1 hd.2.2.2.2.1 hd.2.2.2.2.2
  · exact own_c213 x0 x1 x2 ha.1 ha.2.1 ha.2.2.1 ha.2.2.2.1 ha.2.2.2.2.1 ha.2.2.2.2.2 hb.1 hb.2.1 hb.2.2.1 hb.2.2.2.1 hb.2.2.2.2 hd.1 hd.2.1 hd.2.2.1 hd.2.2.2.1 hd.2.2.2.2.1 hd.2.2.2.2.2
  · exact own_c220 x0 x1 x2 ha.1 ha.2.1 ha.2.2.1 ha.2.2.2.1 ha.2.2.2.2.1 ha.2.2.2.2.2 hb.1 hb.2.1 hb.2.2.1 hb.2.2.2.1 hb.2.2.2.2.1 hb.2.2.2.2.2 hd.1 hd.2.1 hd.2.2.1 hd.2.2.2
  · exact own_c221 x0 x1 x2 ha.1 ha.2.1 ha.2.2.1 ha.2.2.2.1 ha.2.2.2.2.1 ha.2.2.2.2.2 hb.1 hb.2.1 hb.2.2.1 hb.2.2.2.1 hb.2.2.2.2.1 hb.2.2.2.2.2 hd.1 hd.2.1 hd.2.2.1 hd.2.2.2.1 hd.2.2.2.2
  · exact own_c222 x0 x1 x2 ha.1 ha.2.1 ha.2.2.1 ha.2.2.2.1 ha.2.2.2.2.1 ha.2.2.2.2.2 hb.1 hb.2.1 hb.2.2.1 hb.2.2.2.1 hb.2.2.2.2.1 hb.2.2.2.2.2 hd.1 hd.2.1 hd.2.2.1 hd.2.2.2.1 hd.2.2.2.2.1 hd.2.2.2.2.2
  · exact own_c223 x0 x1 x2 ha.1 ha.2.1 ha.2.2.1 ha.2.2.2.1 ha.2.2.2.2.1 ha.2.2.2.2.2 hb.1 hb.2.1 hb.2.2.1 hb.2.2.2.1 hb.2.2.2.2.1 hb.2.2.2.2.2 hd.1 hd.2.1 hd.2.2.1 hd.2.2.2.1 hd.2.2.2.2.1 hd.2.2.2.2.2
  · exact own_c230 x0 x1 x2 ha.1 ha.2.1 ha.2.2.1 ha.2.2.2.1 ha.2.2.2.2.1 ha.2.2.2.2.2 hb.1 hb.2.1 hb.2.2.1 hb.2.2.2.1 hb.2.2.2.2.1 hb.2.2.2.2.2 hd.1 hd.2.1 hd.2.2.1 hd.2.2.2
  · exact own_c231 x0 x1 x2 ha.1 ha.2.1 ha.2.2.1 ha.2.2.2.1 ha.2.2.2.2.1 ha.2.2.2.2.2 hb.1 hb.2.1 hb.2.2.1 hb.2.2.2.1 hb.2.2.2.2.1 hb.2.2.2.2.2 hd.1 hd.2.1 hd.2.2.1 hd.2.2.2.1 hd.2.2.2.2
  · exact own_c232 x0 x1 x2 ha.1 ha.2.1 ha.2.2.1 ha.2.2.2.1 ha.2.2.2.2.1 ha.2.2.2.2.2 hb.1 hb.2.1 hb.2.2.1 hb.2.2.2.1 hb.2.2.2.2.1 hb.2.2.2.2.2 hd.1 hd.2.1 hd.2.2.1 hd.2.2.2.1 hd.2.2.2.2.1 hd.2.2.2.2.2
  · exact own_c233 x0 x1 x2 ha.1 ha.2.1 ha.2.2.1 ha.2.2.2.1 ha.2.2.2.2.1 ha.2.2.2.2.2 hb.1 hb.2.1 hb.2.2.1 hb.2.2.2.1 hb.2.2.2.2.1 hb.2.2.2.2.2 hd.1 hd.2.1 hd.2.2.1 hd.2.2.2.1 hd.2.2.2.2.1 hd.2.2.2.2.2
  · exact own_c300 x0 x1 x2 ha.1 ha.2.1 ha.2.2.1 ha.2.2.2.1 ha.2.2.2.2.1 ha.2.2.2.2.2 hb.1 hb.2.1 hb.2.2.1 hb.2.2.2 hd.1 hd.2.1 hd.2.2.1 hd.2.2.2
  · exact own_c301 x0 x1 x2 ha.1 ha.2.1 ha.2.2.1 ha.2.2.2.1 ha.2.2.2.2.1 ha.2.2.2.2.2 hb.1 hb.2.1 hb.2.2.1 hb.2.2.2 hd.1 hd.2.1 hd.2.2.1 hd.2.2.2.1 hd.2.2.2.2
  · exact own_c302 x0 x1 x2 ha.1 ha.2.1 ha.2.2.1 ha.2.2.2.1 ha.2.2.2.2.1 ha.2.2.2.2.2 hb.1 hb.2.1 hb.2.2.1 hb.2.2.2 hd.1 hd.2.1 hd.2.2.1 hd.2.2.2.1 hd.2.2.2.2.1 hd.2.2.2.2.2
  · exact own_c303 x0 x1 x2 ha.1 ha.2.1 ha.2.2.1 ha.2.2.2.1 ha.2.2.2.2.1 ha.2.2.2.2.2 hb.1 hb.2.1 hb.2.2.1 hb.2.2.2 hd.1 hd.2.1 hd.2.2.1 hd.2.2.2.1 hd.2.2.2.2.1 hd.2.2.2.2.2
  · exact own_c310 x0 x1 x2 ha.1 ha.2.1 ha.2.2.1 ha.2.2.2.1 ha.2.2.2.2.1 ha.2.2.2.2.2 hb.1 hb.2.1 hb.2.2.1 hb.2.2.2.1 hb.2.2.2.2 hd.1 hd.2.1 hd.2.2.1 hd.2.2.2
  · exact own_c311 x0 x1 x2 ha.1 ha.2.1 ha.2.2.1 ha.2.2.2.1 ha.2.2.2.2.1 ha.2.2.2.2.2 hb.1 hb.2.1 hb.2.2.1 hb.2.2.2.1 hb.2.2.2.2 hd.1 hd.2.1 hd.2.2.1 hd.2.2.2.1 hd.2.2.2.2
  · exact own_c312 x0 x1 x2 ha.1 ha.2.1 ha.2.2.1 ha.2.2.2.1 ha.2.2.2.2.1 ha.2.2.2.2.2 hb.1 hb.2.1 hb.2.2.1 hb.2.2.2.1 hb.2.2.2.2 hd.1 hd.2.1 hd.2.2.1 hd.2.2.2.1 hd.2.2.2.2.1 hd.2.2.2.2.2
  · exact own_c313 x0 x1 x2 ha.1 ha.2.1 ha.2.2.1 ha.2.2.2.1 ha.2.2.2.2.1 ha.2.2.2.2.2 hb.1 hb.2.1 hb.2.2.1 hb.2.2.2.1 hb.2.2.2.2 hd.1 hd.2.1 hd.2.2.1 hd.2.2.2.1 hd.2.2.2.2.1 hd.2.2.2.2.2
  · exact own_c320 x0 x1 x2 ha.1 ha.2.1 ha.2.2.1 ha.2.2.2.1 ha.2.2.2.2.1 ha.2.2.2.2.2 hb.1 hb.2.1 hb.2.2.1 hb.2.2.2.1 hb.2.2.2.2.1 hb.2.2.2.2.2 hd.1 hd.2.1 hd.2.2.1 hd.2.2.2
  · exact own_c321 x0 x1 x2 ha.1 ha.2.1 ha.2.2.1 ha.2.2.2.1 ha.2.2.2.2.1 ha.2.2.2.2.2 hb.1 hb.2.1 hb.2.2.1 hb.2.2.2.1 hb.2.2.2.2.1 hb.2.2.2.2.2 hd.1 hd.2.1 hd.2.2.1 hd.2.2.2.1 hd.2.2.2.2
  · exact own_c322 x0 x1 x2 ha.1 ha.2.1 ha.2.2.1 ha.2.2.2.1 ha.2.2.2.2.1 ha.2.2.2.2.2 hb.1 hb.2.1 hb.2.2.1 hb.2.2.2.1 hb.2.2.2.2.1 hb.2.2.2.2.2 hd.1 hd.2.1 hd.2.2.1 hd.2.2.2.1 hd.2.2.2.2.1 hd.2.2.2.2.2
  · exact own_c323 x0 x1 x2 ha.1 ha.2.1 ha.2.2.1 ha.2.2.2.1 ha.2.2.2.2.1 ha.2.2.2.2.2 hb.1 hb.2.1 hb.2.2.1 hb.2.2.2.1 hb.2.2.2.2.1 hb.2.2.2.2.2 hd.1 hd.2.1 hd.2.2.1 hd.2.2.2.1 hd.2.2.2.2.1 hd.2.2.2.2.2
  · exact own_c330 x0 x1 x2 ha.1 ha.2.1 ha.2.2.1 ha.2.2.2.1 ha.2.2.2.2.1 ha.2.2.2.2.2 hb.1 hb.2.1 hb.2.2.1 hb.2.2.2.1 hb.2.2.2.2.1 hb.2.2.2.2.2 hd.1 hd.2.1 hd.2.2.1 hd.2.2.2
  · exact own_c331 x0 x1 x2 ha.1 ha.2.1 ha.2.2.1 ha.2.2.2.1 ha.2.2.2.2.1 ha.2.2.2.2.2 hb.1 hb.2.1 hb.2.2.1 hb.2.2.2.1 hb.2.2.2.2.1 hb.2.2.2.2.2 hd.1 hd.2.1 hd.2.2.1 hd.2.2.2.1 hd.2.2.2.2
  · exact own_c332 x0 x1 x2 ha.1 ha.2.1 ha.2.2.1 ha.2.2.2.1 ha.2.2.2.2.1 ha.2.2.2.2.2 hb.1 hb.2.1 hb.2.2.1 hb.2.2.2.1 hb.2.2.2.2.1 hb.2.2.2.2.2 hd.1 hd.2.1 hd.2.2.1 hd.2.2.2.1 hd.2.2.2.2.1 hd.2.2.2.2.2
  · exact own_c333 x0 x1 x2 ha.1 ha.2.1 ha.2.2.1 ha.2.2.2.1 ha.2.2.2.2.1 ha.2.2.2.2.2 hb.1 hb.2.1 hb.2.2.1 hb.2.2.2.1 hb.2.2.2.2.1 hb.2.2.2.2.2 hd.1 hd.2.1 hd.2.2.1 hd.2.2.2.1 hd.2.2.2.2.1 hd.2.2.2.2.2
theorem own_v0 (h : (0 : Int32) < j0_204_14 x0 x1 x2) : OwnV (o0_210_6_0 x0 x1 x2) (o0_210_6_1 x0 x1 x2) (o0_210_6_2 x0 x1 x2) (o0_210_3 x0 x1 x2) ((0 : Int32)) := (own_all x0 x1 x2).1 h
theorem own_v1 (h : (1 : Int32) < j0_204_14 x0 x1 x2) : OwnV (j0_247_e0 x0 x1 x2) (j0_247_e1 x0 x1 x2) (j0_247_e2 x0 x1 x2) (j0_247_size x0 x1 x2) (j0_247_place x0 x1 x2) := (own_all x0 x1 x2).2.1 h
theorem own_v2 (h : (2 : Int32) < j0_204_14 x0 x1 x2) : OwnV (j0_277_e0 x0 x1 x2) (j0_277_e1 x0 x1 x2) (j0_277_e2 x0 x1 x2) (j0_277_size x0 x1 x2) (j0_277_place x0 x1 x2) := (own_all x0 x1 x2).2.2.1 h
theorem own_v3 (h : (3 : Int32) < j0_204_14 x0 x1 x2) : OwnV (j0_307_e0 x0 x1 x2) (j0_307_e1 x0 x1 x2) (j0_307_e2 x0 x1 x2) (j0_307_size x0 x1 x2) (j0_307_place x0 x1 x2) := (own_all x0 x1 x2).2.2.2.1 h
theorem own_v4 (h : (4 : Int32) < j0_204_14 x0 x1 x2) : OwnV (j0_337_e0 x0 x1 x2) (j0_337_e1 x0 x1 x2) (j0_337_e2 x0 x1 x2) (j0_337_size x0 x1 x2) (j0_337_place x0 x1 x2) := (own_all x0 x1 x2).2.2.2.2.1 h
theorem own_v5 (h : (5 : Int32) < j0_204_14 x0 x1 x2) : OwnV (j0_367_e0 x0 x1 x2) (j0_367_e1 x0 x1 x2) (j0_367_e2 x0 x1 x2) (j0_367_size x0 x1 x2) (j0_367_place x0 x1 x2) := (own_all x0 x1 x2).2.2.2.2.2.1 h
theorem own_v6 (h : (6 : Int32) < j0_204_14 x0 x1 x2) : OwnV (j0_397_e0 x0 x1 x2) (j0_397_e1 x0 x1 x2) (j0_397_e2 x0 x1 x2) (j0_397_size x0 x1 x2) (j0_397_place x0 x1 x2) := (own_all x0 x1 x2).2.2.2.2.2.2.1 h
theorem own_v7 (h : (7 : Int32) < j0_204_14 x0 x1 x2) : OwnV (j0_429_e0 x0 x1 x2) (j0_429_e1 x0 x1 x2) (j0_429_e2 x0 x1 x2) (j0_429_size x0 x1 x2) (j0_429_place x0 x1 x2) := (own_all x0 x1 x2).2.2.2.2.2.2.2.1 h
theorem own_v8 (h : (8 : Int32) < j0_204_14 x0 x1 x2) : OwnV (j0_461_e0 x0 x1 x2) (j0_461_e1 x0 x1 x2) (j0_461_e2 x0 x1 x2) (j0_461_size x0 x1 x2) (j0_461_place x0 x1 x2) := (own_all x0 x1 x2).2.2.2.2.2.2.2.2.1 h
theorem law_true : r0 x0 x1 x2 = 1 := by
  have h : j0_493_16 x0 x1 x2 = 1 := (own_all x0 x1 x2).2.2.2.2.2.2.2.2.2
  rw [r0, h]; exact if_neg (by decide)
end
set_option maxRecDepth 65536 in
set_option maxHeartbeats 40000000 in
theorem rm0 (l : Launch) (Z : State) (a0 : Array Value) (hw : ∀ d ∈ tables_1, d.before a0 Z = true) (ws : List Jvm.Cond) (x0 : Int64) (x1 : Int64) (x2 : Int64) (h0 : Heap) (n0 : Nat) (Z0 : n0 ≤ h0.size) :
    MetFree l x (head1 (Jvm.Cond.code x code maxLocals ret :: ws) room_1) (fun a U => a = #[(.long x0), (.long x1), (.long x2)] ∧ Z.Warmed39 U.vm ∧ U.heap = h0) (fun _ _ _ _ _ => True) (fun _ U o U' => ∃ v L, o = .returned v ∧ (QL (some (.int (r0 x0 x1 x2))) n0) v U'.heap L ∧ FrameEnd U o U' L room_1.cells room_1.slots) := by
  refine MetFree.of_bodySF (plainFor_of_name pn0) hisR ?_
  intro p e s m args below meth c s₁ Bd hml0 hP hK
  obtain ⟨rfl, hZ, hh⟩ := hP
  have hx := Bd.exec
  have hby := Bd.bytes
  have hml : c.maxLocals = 17 := hml0
  have hlk : meth.locks = false := BodyLoose.notSynchronized Bd
  have hown : s.vm.findClass "com/example/kubera/kubera/DealingRingNextPinLaw" = some m.cls := findClass_of_methodNamed Bd.named
  have hnm := (name_of_methodNamed Bd.named Bd.method).1
  have w_0 := hw _ (List.mem_of_getElem? (i := 0) rfl)
  have w_1 := hw _ (List.mem_of_getElem? (i := 1) rfl)
  have w_2 := hw _ (List.mem_of_getElem? (i := 2) rfl)
  have w_3 := hw _ (List.mem_of_getElem? (i := 3) rfl)
  have w_4 := hw _ (List.mem_of_getElem? (i := 4) rfl)
  have w_5 := hw _ (List.mem_of_getElem? (i := 5) rfl)
  have w_6 := hw _ (List.mem_of_getElem? (i := 6) rfl)
  have w_7 := hw _ (List.mem_of_getElem? (i := 7) rfl)
  have w_8 := hw _ (List.mem_of_getElem? (i := 8) rfl)
  have w_9 := hw _ (List.mem_of_getElem? (i := 9) rfl)
  have w_10 := hw _ (List.mem_of_getElem? (i := 10) rfl)
  have w_11 := hw _ (List.mem_of_getElem? (i := 11) rfl)
  have w_12 := hw _ (List.mem_of_getElem? (i := 12) rfl)
  have w_13 := hw _ (List.mem_of_getElem? (i := 13) rfl)
  have w_14 := hw _ (List.mem_of_getElem? (i := 14) rfl)
  have w_28 := hw _ (List.mem_of_getElem? (i := 28) rfl)
  have w_30 := hw _ (List.mem_of_getElem? (i := 30) rfl)
  have w_32 := hw _ (List.mem_of_getElem? (i := 32) rfl)
  have w_33 := hw _ (List.mem_of_getElem? (i := 33) rfl)
  have w_34 := hw _ (List.mem_of_getElem? (i := 34) rfl)
  have w_35 := hw _ (List.mem_of_getElem? (i := 35) rfl)
  have w_36 := hw _ (List.mem_of_getElem? (i := 36) rfl)
  have w_37 := hw _ (List.mem_of_getElem? (i := 37) rfl)
  have w_39 := hw _ (List.mem_of_getElem? (i := 39) rfl)
  have hci : ∀ i v, (i, v) ∈ ([] : List (Nat × Int32)) → (Jvm.Cond.constant "com/example/kubera/kubera/DealingRingNextPinLaw" i v).before #[(.long x0), (.long x1), (.long x2)] s = true := own_ci0
  have hcl : ∀ i v, (i, v) ∈ ([(7, 4), (9, 3), (17, 2)] : List (Nat × Int64)) → (Jvm.Cond.constantLong "com/example/kubera/kubera/DealingRingNextPinLaw" i v).before #[(.long x0), (.long x1), (.long x2)] s = true := (own_ciS (mvT hZ w_4) (own_ciS (mvT hZ w_5) (own_ciS (mvT hZ w_8) own_ci0)))
  have X0 : Stand p l e room_1 s m #[(.long x0), (.long x1), (.long x2)] below meth c s₁ [] 0 0 := Stand.of_body Bd
  have e0 : s₁.heap = h0 := by rw [← hh, Bd.state]; rfl
  have N0 := Fr.nil n0
  show Goes p e below s (QL (some (.int (r0 x0 x1 x2))) n0) room_1.cells room_1.slots (s₁.setTop (entryFrame m #[(.long x0), (.long x1), (.long x2)] maxLocals))
  refine Goes.cast (ef0 m x0 x1 x2) ?_
  refine Goes.run X0 hx hown hci hcl hby (L := [(0, .lload_n 0, 1)]) (by decide +kernel) rfl (g' := (mkF m 1 #[jv x0, .second, jv x1, .second, jv x2, .second, .unset, .unset, .unset, .unset, .unset, .unset, .unset, .unset, .unset, .unset, .unset] [(.long x0)])) rfl ?_
  obtain ⟨_, _, ⟨T1, L1, k1, n1⟩, -, X1, ⟨Lc1, hQ1, l1, y1, z1⟩, st1⟩ := Jvm.LawKit.callS X0 hx (y := ym0) hown (mvT hZ w_0) (mvT hZ w_1) (mvT hZ w_2) (mvT hZ w_3) (by decide) (backOf (W := 0) (rm1 l Z a0 hw [] x0 h0 n0 Z0 ) hZ w_3 w_2 (by decide) (by decide)) (g := (mkF m 1 #[jv x0, .second, jv x1, .second, jv x2, .second, .unset, .unset, .unset, .unset, .unset, .unset, .unset, .unset, .unset, .unset, .unset] [(.long x0)])) rfl (by rw [hml]; rfl) (argsL := [(.long x0)]) (rest := []) (lenOf pd0_0 rfl) rfl (by show 2 * 0 + _ ≤ _; exact Nat.le_of_eq rfl) (hb hby at_1) (fun _ _ => ⟨rfl, e0, (by decide : 0 + 0 ≤ _), (by decide : 0 + 0 ≤ _)⟩)
  dsimp only [Pt.U, Pt.locs, Pt.cells, Pt.slots] at X1 l1 y1 z1 st1 hQ1
  subst l1 y1 z1
  obtain ⟨rfl, N1q, e1⟩ := hQ1
  have N1 := Fr.app N0 N1q
  refine Goes.st (B := T1.setTop (mkF m 4 #[jv x0, .second, jv x1, .second, jv x2, .second, .unset, .unset, .unset, .unset, .unset, .unset, .unset, .unset, .unset, .unset, .unset] [(.long (r1 x0))])) st1 ?_
  refine Goes.run X1 hx hown hci hcl hby (L := [(4, .lstore 6, 2), (6, .lload_n 2, 1)]) (by decide +kernel) rfl (g' := (mkF m 7 #[jv x0, .second, jv x1, .second, jv x2, .second, jv (w0_4 x0 x1 x2), .second, .unset, .unset, .unset, .unset, .unset, .unset, .unset, .unset, .unset] [(.long x1)])) rfl ?_
  obtain ⟨_, _, ⟨T2, L2, k2, n2⟩, -, X2, ⟨Lc2, hQ2, l2, y2, z2⟩, st2⟩ := Jvm.LawKit.callS X1 hx (y := ym0) hown (mvT hZ w_0) (mvT hZ w_1) (mvT hZ w_2) (mvT hZ w_3) (by decide) (backOf (W := 0) (rm1 l Z a0 hw [] x1 h0 n0 Z0 ) hZ w_3 w_2 (by decide) (by decide)) (g := (mkF m 7 #[jv x0, .second, jv x1, .second, jv x2, .second, jv (w0_4 x0 x1 x2), .second, .unset, .unset, .unset, .unset, .unset, .unset, .unset, .unset, .unset] [(.long x1)])) rfl (by rw [hml]; rfl) (argsL := [(.long x1)]) (rest := []) (lenOf pd0_0 rfl) rfl (by show 2 * 0 + _ ≤ _; exact Nat.le_of_eq rfl) (hb hby at_7) (fun _ _ => ⟨rfl, e1, (by decide : 0 + 0 ≤ _), (by decide : 0 + 0 ≤ _)⟩)
  dsimp only [Pt.U, Pt.locs, Pt.cells, Pt.slots] at X2 l2 y2 z2 st2 hQ2
  subst l2 y2 z2
  obtain ⟨rfl, N2q, e2⟩ := hQ2
  have N2 := Fr.app N1 N2q
  refine Goes.st (B := T2.setTop (mkF m 10 #[jv x0, .second, jv x1, .second, jv x2, .second, jv (w0_4 x0 x1 x2), .second, .unset, .unset, .unset, .unset, .unset, .unset, .unset, .unset, .unset] [(.long (r1 x1))])) st2 ?_
  refine Goes.run X2 hx hown hci hcl hby (L := [(10, .lstore 8, 2), (12, .lload 4, 2)]) (by decide +kernel) rfl (g' := (mkF m 14 #[jv x0, .second, jv x1, .second, jv x2, .second, jv (w0_4 x0 x1 x2), .second, jv (w0_10 x0 x1 x2), .second, .unset, .unset, .unset, .unset, .unset, .unset, .unset] [(.long x2)])) rfl ?_
  obtain ⟨_, _, ⟨T3, L3, k3, n3⟩, -, X3, ⟨Lc3, hQ3, l3, y3, z3⟩, st3⟩ := Jvm.LawKit.callS X2 hx (y := ym0) hown (mvT hZ w_0) (mvT hZ w_1) (mvT hZ w_2) (mvT hZ w_3) (by decide) (backOf (W := 0) (rm1 l Z a0 hw [] x2 h0 n0 Z0 ) hZ w_3 w_2 (by decide) (by decide)) (g := (mkF m 14 #[jv x0, .second, jv x1, .second, jv x2, .second, jv (w0_4 x0 x1 x2), .second, jv (w0_10 x0 x1 x2), .second, .unset, .unset, .unset, .unset, .unset, .unset, .unset] [(.long x2)])) rfl (by rw [hml]; rfl) (argsL := [(.long x2)]) (rest := []) (lenOf pd0_0 rfl) rfl (by show 2 * 0 + _ ≤ _; exact Nat.le_of_eq rfl) (hb hby at_14) (fun _ _ => ⟨rfl, e2, (by decide : 0 + 0 ≤ _), (by decide : 0 + 0 ≤ _)⟩)
  dsimp only [Pt.U, Pt.locs, Pt.cells, Pt.slots] at X3 l3 y3 z3 st3 hQ3
  subst l3 y3 z3
  obtain ⟨rfl, N3q, e3⟩ := hQ3
  have N3 := Fr.app N2 N3q
  refine Goes.st (B := T3.setTop (mkF m 17 #[jv x0, .second, jv x1, .second, jv x2, .second, jv (w0_4 x0 x1 x2), .second, jv (w0_10 x0 x1 x2), .second, .unset, .unset, .unset, .unset, .unset, .unset, .unset] [(.long (r1 x2))])) st3 ?_
  refine Goes.run X3 hx hown hci hcl hby (L := [(17, .lstore 10, 2), (19, .iconst 3, 1)]) (by decide +kernel) rfl (g' := (mkF m 20 #[jv x0, .second, jv x1, .second, jv x2, .second, jv (w0_4 x0 x1 x2), .second, jv (w0_10 x0 x1 x2), .second, jv (w0_17 x0 x1 x2), .second, .unset, .unset, .unset, .unset, .unset] [(.int (3 : Int32))])) rfl ?_
  obtain ⟨T4, h4, k4, X4, e4, E4, A4, B4, st4⟩ := newPE X3 hx hZ (aty := .long) w_6 e3 (g := (mkF m 20 #[jv x0, .second, jv x1, .second, jv x2, .second, jv (w0_4 x0 x1 x2), .second, jv (w0_10 x0 x1 x2), .second, jv (w0_17 x0 x1 x2), .second, .unset, .unset, .unset, .unset, .unset] [(.int (3 : Int32))])) rfl (hb hby at_20) rfl (by decide) (cap := 3) (by decide) (by decide) (by decide) (by decide) (ad := "[J") (by decide)
  obtain ⟨b4, g4⟩ : ∃ z, z = h0.size := ⟨_, rfl⟩
  rw [← g4] at A4 B4 st4
  have g_b4 : n0 ≤ b4 := Nat.le_trans Z0 (Nat.le_of_eq g4.symm)
  have Zn4 : n0 ≤ h4.size := Nat.le_trans Z0 E4.1
  have E_b4 : Exa Z h4 b4 "[J" := B4
  have V_b4 : Arv Z h4 b4 k4 .long (3 : Int32) [(.long (0 : Int64)), (.long (0 : Int64)), (.long (0 : Int64))] (.long (0 : Int64)) := (Arv.new A4 (by decide)).pad (pad_rep [] (.long (0 : Int64)) 3)
  refine Goes.st (B := T4.setTop (mkF m 22 #[jv x0, .second, jv x1, .second, jv x2, .second, jv (w0_4 x0 x1 x2), .second, jv (w0_10 x0 x1 x2), .second, jv (w0_17 x0 x1 x2), .second, .unset, .unset, .unset, .unset, .unset] [(.ref b4)])) st4 ?_
  refine Goes.run X4 hx hown hci hcl hby (L := [(22, .dup, 1), (23, .iconst 0, 1), (24, .lload 6, 2)]) (by decide +kernel) rfl (g' := (mkF m 26 #[jv x0, .second, jv x1, .second, jv x2, .second, jv (w0_4 x0 x1 x2), .second, jv (w0_10 x0 x1 x2), .second, jv (w0_17 x0 x1 x2), .second, .unset, .unset, .unset, .unset, .unset] [(.long (w0_4 x0 x1 x2)), (.int (0 : Int32)), (.ref b4), (.ref b4)])) rfl ?_
  obtain ⟨cl5, Ar5, q5, S5, M5, Hs5, G5⟩ := id V_b4
  have hin5 : ¬ ((0 : Int32) < 0 ∨ cl5.slots.size ≤ ((0 : Int32)).toNatClampNeg) := inb_of S5 ⟨(by decide), (by decide)⟩
  obtain ⟨T5, h5, X5, e5, W5, st5⟩ := stJ X4 hx hZ e4 Ar5 (j := (0 : Int32)) hin5 (g := (mkF m 26 #[jv x0, .second, jv x1, .second, jv x2, .second, jv (w0_4 x0 x1 x2), .second, jv (w0_10 x0 x1 x2), .second, jv (w0_17 x0 x1 x2), .second, .unset, .unset, .unset, .unset, .unset] [(.long (w0_4 x0 x1 x2)), (.int (0 : Int32)), (.ref b4), (.ref b4)])) rfl rfl (hb hby at_26)
  have E_b4 := E_b4.wr W5
  have Zn5 : n0 ≤ h5.size := Nat.le_trans Zn4 (Keep.of_wr W5).1
  have N5 := Fr.snoc X5 N3 g_b4
  have V_b4 : Arv Z h5 b4 k4 .long (3 : Int32) [(.long (w0_4 x0 x1 x2)), (.long (0 : Int64)), (.long (0 : Int64))] (.long (0 : Int64)) := Arv.set Ar5 q5 S5 M5 Hs5 G5 rfl W5 0 rfl (Nat.le_of_ble_eq_true rfl)
  refine Goes.st (B := T5.setTop (mkF m 27 #[jv x0, .second, jv x1, .second, jv x2, .second, jv (w0_4 x0 x1 x2), .second, jv (w0_10 x0 x1 x2), .second, jv (w0_17 x0 x1 x2), .second, .unset, .unset, .unset, .unset, .unset] [(.ref b4)])) st5 ?_
  refine Goes.run X5 hx hown hci hcl hby (L := [(27, .dup, 1), (28, .iconst 1, 1), (29, .lload 8, 2)]) (by decide +kernel) rfl (g' := (mkF m 31 #[jv x0, .second, jv x1, .second, jv x2, .second, jv (w0_4 x0 x1 x2), .second, jv (w0_10 x0 x1 x2), .second, jv (w0_17 x0 x1 x2), .second, .unset, .unset, .unset, .unset, .unset] [(.long (w0_10 x0 x1 x2)), (.int (1 : Int32)), (.ref b4), (.ref b4)])) rfl ?_
  obtain ⟨cl6, Ar6, q6, S6, M6, Hs6, G6⟩ := id V_b4
  have hin6 : ¬ ((1 : Int32) < 0 ∨ cl6.slots.size ≤ ((1 : Int32)).toNatClampNeg) := inb_of S6 ⟨(by decide), (by decide)⟩
  obtain ⟨T6, h6, X6, e6, W6, st6⟩ := stJ X5 hx hZ e5 Ar6 (j := (1 : Int32)) hin6 (g := (mkF m 31 #[jv x0, .second, jv x1, .second, jv x2, .second, jv (w0_4 x0 x1 x2), .second, jv (w0_10 x0 x1 x2), .second, jv (w0_17 x0 x1 x2), .second, .unset, .unset, .unset, .unset, .unset] [(.long (w0_10 x0 x1 x2)), (.int (1 : Int32)), (.ref b4), (.ref b4)])) rfl rfl (hb hby at_31)
  have E_b4 := E_b4.wr W6
  have Zn6 : n0 ≤ h6.size := Nat.le_trans Zn5 (Keep.of_wr W6).1
  have N6 := Fr.snoc X6 N5 g_b4
  have V_b4 : Arv Z h6 b4 k4 .long (3 : Int32) [(.long (w0_4 x0 x1 x2)), (.long (w0_10 x0 x1 x2)), (.long (0 : Int64))] (.long (0 : Int64)) := Arv.set Ar6 q6 S6 M6 Hs6 G6 rfl W6 1 rfl (Nat.le_of_ble_eq_true rfl)
  refine Goes.st (B := T6.setTop (mkF m 32 #[jv x0, .second, jv x1, .second, jv x2, .second, jv (w0_4 x0 x1 x2), .second, jv (w0_10 x0 x1 x2), .second, jv (w0_17 x0 x1 x2), .second, .unset, .unset, .unset, .unset, .unset] [(.ref b4)])) st6 ?_
  refine Goes.run X6 hx hown hci hcl hby (L := [(32, .dup, 1), (33, .iconst 2, 1), (34, .lload 10, 2)]) (by decide +kernel) rfl (g' := (mkF m 36 #[jv x0, .second, jv x1, .second, jv x2, .second, jv (w0_4 x0 x1 x2), .second, jv (w0_10 x0 x1 x2), .second, jv (w0_17 x0 x1 x2), .second, .unset, .unset, .unset, .unset, .unset] [(.long (w0_17 x0 x1 x2)), (.int (2 : Int32)), (.ref b4), (.ref b4)])) rfl ?_
  obtain ⟨cl7, Ar7, q7, S7, M7, Hs7, G7⟩ := id V_b4
  have hin7 : ¬ ((2 : Int32) < 0 ∨ cl7.slots.size ≤ ((2 : Int32)).toNatClampNeg) := inb_of S7 ⟨(by decide), (by decide)⟩
  obtain ⟨T7, h7, X7, e7, W7, st7⟩ := stJ X6 hx hZ e6 Ar7 (j := (2 : Int32)) hin7 (g := (mkF m 36 #[jv x0, .second, jv x1, .second, jv x2, .second, jv (w0_4 x0 x1 x2), .second, jv (w0_10 x0 x1 x2), .second, jv (w0_17 x0 x1 x2), .second, .unset, .unset, .unset, .unset, .unset] [(.long (w0_17 x0 x1 x2)), (.int (2 : Int32)), (.ref b4), (.ref b4)])) rfl rfl (hb hby at_36)
  have E_b4 := E_b4.wr W7
  have Zn7 : n0 ≤ h7.size := Nat.le_trans Zn6 (Keep.of_wr W7).1
  have N7 := Fr.snoc X7 N6 g_b4
  have V_b4 : Arv Z h7 b4 k4 .long (3 : Int32) [(.long (w0_4 x0 x1 x2)), (.long (w0_10 x0 x1 x2)), (.long (w0_17 x0 x1 x2))] (.long (0 : Int64)) := Arv.set Ar7 q7 S7 M7 Hs7 G7 rfl W7 2 rfl (Nat.le_of_ble_eq_true rfl)
  refine Goes.st (B := T7.setTop (mkF m 37 #[jv x0, .second, jv x1, .second, jv x2, .second, jv (w0_4 x0 x1 x2), .second, jv (w0_10 x0 x1 x2), .second, jv (w0_17 x0 x1 x2), .second, .unset, .unset, .unset, .unset, .unset] [(.ref b4)])) st7 ?_
  refine Goes.run X7 hx hown hci hcl hby (L := [(37, .astore 12, 2), (39, .bipush 9, 2)]) (by decide +kernel) rfl (g' := (mkF m 41 #[jv x0, .second, jv x1, .second, jv x2, .second, jv (w0_4 x0 x1 x2), .second, jv (w0_10 x0 x1 x2), .second, jv (w0_17 x0 x1 x2), .second, rv b4, .unset, .unset, .unset, .unset] [(.int (9 : Int32))])) rfl ?_
  obtain ⟨T8, h8, k8, X8, e8, E8, A8, B8, st8⟩ := newPE X7 hx hZ (aty := .int) w_7 e7 (g := (mkF m 41 #[jv x0, .second, jv x1, .second, jv x2, .second, jv (w0_4 x0 x1 x2), .second, jv (w0_10 x0 x1 x2), .second, jv (w0_17 x0 x1 x2), .second, rv b4, .unset, .unset, .unset, .unset] [(.int (9 : Int32))])) rfl (hb hby at_41) rfl (by decide) (cap := 9) (by decide) (by decide) (by decide) (by decide) (ad := "[I") (by decide)
  obtain ⟨b8, g8⟩ : ∃ z, z = h7.size := ⟨_, rfl⟩
  rw [← g8] at A8 B8 st8
  have ne_b4_b8 : b4 ≠ b8 := Nat.ne_of_lt (Nat.lt_of_lt_of_le E_b4.lt (Nat.le_of_eq g8.symm))
  have g_b8 : n0 ≤ b8 := Nat.le_trans Zn7 (Nat.le_of_eq g8.symm)
  have E_b4 := E_b4.ext E8
  have V_b4 := V_b4.ext E8
  have Zn8 : n0 ≤ h8.size := Nat.le_trans Zn7 E8.1
  have E_b8 : Exa Z h8 b8 "[I" := B8
  have V_b8 : Arv Z h8 b8 k8 .int (9 : Int32) [(.int (0 : Int32)), (.int (0 : Int32)), (.int (0 : Int32)), (.int (0 : Int32)), (.int (0 : Int32)), (.int (0 : Int32)), (.int (0 : Int32)), (.int (0 : Int32)), (.int (0 : Int32))] (.int (0 : Int32)) := (Arv.new A8 (by decide)).pad (pad_rep [] (.int (0 : Int32)) 9)
  refine Goes.st (B := T8.setTop (mkF m 43 #[jv x0, .second, jv x1, .second, jv x2, .second, jv (w0_4 x0 x1 x2), .second, jv (w0_10 x0 x1 x2), .second, jv (w0_17 x0 x1 x2), .second, rv b4, .unset, .unset, .unset, .unset] [(.ref b8)])) st8 ?_
  refine Goes.run X8 hx hown hci hcl hby (L := [(43, .astore 13, 2), (45, .iconst 0, 1), (46, .istore 14, 2), (48, .lload 6, 2), (50, .lconst 1, 1), (51, .lcmp, 1)]) (by decide +kernel) rfl (g' := (mkF m 52 #[jv x0, .second, jv x1, .second, jv x2, .second, jv (w0_4 x0 x1 x2), .second, jv (w0_10 x0 x1 x2), .second, jv (w0_17 x0 x1 x2), .second, rv b4, rv b8, iv (0 : Int32), .unset, .unset] [(.int (lcmpW (w0_4 x0 x1 x2) (1 : Int64)))])) rfl ?_
  have jn64_12 : ∀ (T11 : State) (L11 : List Loc) (h11 : Heap) (X11 : Stand p l e room_1 s m #[(.long x0), (.long x1), (.long x2)] below meth c T11 L11 2 12) (e11 : T11.heap = h11) (N11 : Fr n0 L11) (Zn11 : n0 ≤ h11.size) (E_b4 : Exa Z h11 b4 "[J") (V_b4 : Arv Z h11 b4 k4 .long (3 : Int32) [(.long (w0_4 x0 x1 x2)), (.long (w0_10 x0 x1 x2)), (.long (w0_17 x0 x1 x2))] (.long (0 : Int64))) (E_b8 : Exa Z h11 b8 "[I") (V_b8 : Arv Z h11 b8 k8 .int (9 : Int32) [(.int (0 : Int32)), (.int (0 : Int32)), (.int (0 : Int32)), (.int (0 : Int32)), (.int (0 : Int32)), (.int (0 : Int32)), (.int (0 : Int32)), (.int (0 : Int32)), (.int (0 : Int32))] (.int (0 : Int32))), Goes p e below s (QL (some (.int (r0 x0 x1 x2))) n0) room_1.cells room_1.slots (T11.setTop (mkF m 64 #[jv x0, .second, jv x1, .second, jv x2, .second, jv (w0_4 x0 x1 x2), .second, jv (w0_10 x0 x1 x2), .second, jv (w0_17 x0 x1 x2), .second, rv b4, rv b8, iv (j0_64_14 x0 x1 x2), .unset, .unset] [])) := by
    intro T11 L11 h11 X11 e11 N11 Zn11 E_b4 V_b4 E_b8 V_b8
    refine Goes.run X11 hx hown hci hcl hby (L := [(64, .lload 8, 2), (66, .lconst 1, 1), (67, .lcmp, 1)]) (by decide +kernel) rfl (g' := (mkF m 68 #[jv x0, .second, jv x1, .second, jv x2, .second, jv (w0_4 x0 x1 x2), .second, jv (w0_10 x0 x1 x2), .second, jv (w0_17 x0 x1 x2), .second, rv b4, rv b8, iv (j0_64_14 x0 x1 x2), .unset, .unset] [(.int (lcmpW (w0_10 x0 x1 x2) (1 : Int64)))])) rfl ?_
    have jn80_16 : ∀ (T15 : State) (L15 : List Loc) (h15 : Heap) (X15 : Stand p l e room_1 s m #[(.long x0), (.long x1), (.long x2)] below meth c T15 L15 2 12) (e15 : T15.heap = h15) (N15 : Fr n0 L15) (Zn15 : n0 ≤ h15.size) (E_b4 : Exa Z h15 b4 "[J") (V_b4 : Arv Z h15 b4 k4 .long (3 : Int32) [(.long (w0_4 x0 x1 x2)), (.long (w0_10 x0 x1 x2)), (.long (w0_17 x0 x1 x2))] (.long (0 : Int64))) (E_b8 : Exa Z h15 b8 "[I") (V_b8 : Arv Z h15 b8 k8 .int (9 : Int32) [(.int (j0_80_e0 x0 x1 x2)), (.int (j0_80_e1 x0 x1 x2)), (.int (0 : Int32)), (.int (0 : Int32)), (.int (0 : Int32)), (.int (0 : Int32)), (.int (0 : Int32)), (.int (0 : Int32)), (.int (0 : Int32))] (.int (0 : Int32))), Goes p e below s (QL (some (.int (r0 x0 x1 x2))) n0) room_1.cells room_1.slots (T15.setTop (mkF m 80 #[jv x0, .second, jv x1, .second, jv x2, .second, jv (w0_4 x0 x1 x2), .second, jv (w0_10 x0 x1 x2), .second, jv (w0_17 x0 x1 x2), .second, rv b4, rv b8, iv (j0_80_14 x0 x1 x2), .unset, .unset] [])) := by
      intro T15 L15 h15 X15 e15 N15 Zn15 E_b4 V_b4 E_b8 V_b8
      refine Goes.run X15 hx hown hci hcl hby (L := [(80, .lload 10, 2), (82, .lconst 1, 1), (83, .lcmp, 1)]) (by decide +kernel) rfl (g' := (mkF m 84 #[jv x0, .second, jv x1, .second, jv x2, .second, jv (w0_4 x0 x1 x2), .second, jv (w0_10 x0 x1 x2), .second, jv (w0_17 x0 x1 x2), .second, rv b4, rv b8, iv (j0_80_14 x0 x1 x2), .unset, .unset] [(.int (lcmpW (w0_17 x0 x1 x2) (1 : Int64)))])) rfl ?_
      have jn96_20 : ∀ (T19 : State) (L19 : List Loc) (h19 : Heap) (X19 : Stand p l e room_1 s m #[(.long x0), (.long x1), (.long x2)] below meth c T19 L19 2 12) (e19 : T19.heap = h19) (N19 : Fr n0 L19) (Zn19 : n0 ≤ h19.size) (E_b4 : Exa Z h19 b4 "[J") (V_b4 : Arv Z h19 b4 k4 .long (3 : Int32) [(.long (w0_4 x0 x1 x2)), (.long (w0_10 x0 x1 x2)), (.long (w0_17 x0 x1 x2))] (.long (0 : Int64))) (E_b8 : Exa Z h19 b8 "[I") (V_b8 : Arv Z h19 b8 k8 .int (9 : Int32) [(.int (j0_96_e0 x0 x1 x2)), (.int (j0_96_e1 x0 x1 x2)), (.int (j0_96_e2 x0 x1 x2)), (.int (0 : Int32)), (.int (0 : Int32)), (.int (0 : Int32)), (.int (0 : Int32)), (.int (0 : Int32)), (.int (0 : Int32))] (.int (0 : Int32))), Goes p e below s (QL (some (.int (r0 x0 x1 x2))) n0) room_1.cells room_1.slots (T19.setTop (mkF m 96 #[jv x0, .second, jv x1, .second, jv x2, .second, jv (w0_4 x0 x1 x2), .second, jv (w0_10 x0 x1 x2), .second, jv (w0_17 x0 x1 x2), .second, rv b4, rv b8, iv (j0_96_14 x0 x1 x2), .unset, .unset] [])) := by
        intro T19 L19 h19 X19 e19 N19 Zn19 E_b4 V_b4 E_b8 V_b8
        refine Goes.run X19 hx hown hci hcl hby (L := [(96, .lload 6, 2), (98, .ldc2_w 17, 3), (101, .lcmp, 1)]) (by decide +kernel) rfl (g' := (mkF m 102 #[jv x0, .second, jv x1, .second, jv x2, .second, jv (w0_4 x0 x1 x2), .second, jv (w0_10 x0 x1 x2), .second, jv (w0_17 x0 x1 x2), .second, rv b4, rv b8, iv (j0_96_14 x0 x1 x2), .unset, .unset] [(.int (lcmpW (w0_4 x0 x1 x2) (2 : Int64)))])) rfl ?_
        have jn114_24 : ∀ (T23 : State) (L23 : List Loc) (h23 : Heap) (X23 : Stand p l e room_1 s m #[(.long x0), (.long x1), (.long x2)] below meth c T23 L23 2 12) (e23 : T23.heap = h23) (N23 : Fr n0 L23) (Zn23 : n0 ≤ h23.size) (E_b4 : Exa Z h23 b4 "[J") (V_b4 : Arv Z h23 b4 k4 .long (3 : Int32) [(.long (w0_4 x0 x1 x2)), (.long (w0_10 x0 x1 x2)), (.long (w0_17 x0 x1 x2))] (.long (0 : Int64))) (E_b8 : Exa Z h23 b8 "[I") (V_b8 : Arv Z h23 b8 k8 .int (9 : Int32) [(.int (j0_114_e0 x0 x1 x2)), (.int (j0_114_e1 x0 x1 x2)), (.int (j0_114_e2 x0 x1 x2)), (.int (j0_114_e3 x0 x1 x2)), (.int (0 : Int32)), (.int (0 : Int32)), (.int (0 : Int32)), (.int (0 : Int32)), (.int (0 : Int32))] (.int (0 : Int32))), Goes p e below s (QL (some (.int (r0 x0 x1 x2))) n0) room_1.cells room_1.slots (T23.setTop (mkF m 114 #[jv x0, .second, jv x1, .second, jv x2, .second, jv (w0_4 x0 x1 x2), .second, jv (w0_10 x0 x1 x2), .second, jv (w0_17 x0 x1 x2), .second, rv b4, rv b8, iv (j0_114_14 x0 x1 x2), .unset, .unset] [])) := by
          intro T23 L23 h23 X23 e23 N23 Zn23 E_b4 V_b4 E_b8 V_b8
          refine Goes.run X23 hx hown hci hcl hby (L := [(114, .lload 8, 2), (116, .ldc2_w 17, 3), (119, .lcmp, 1)]) (by decide +kernel) rfl (g' := (mkF m 120 #[jv x0, .second, jv x1, .second, jv x2, .second, jv (w0_4 x0 x1 x2), .second, jv (w0_10 x0 x1 x2), .second, jv (w0_17 x0 x1 x2), .second, rv b4, rv b8, iv (j0_114_14 x0 x1 x2), .unset, .unset] [(.int (lcmpW (w0_10 x0 x1 x2) (2 : Int64)))])) rfl ?_
          have jn132_28 : ∀ (T27 : State) (L27 : List Loc) (h27 : Heap) (X27 : Stand p l e room_1 s m #[(.long x0), (.long x1), (.long x2)] below meth c T27 L27 2 12) (e27 : T27.heap = h27) (N27 : Fr n0 L27) (Zn27 : n0 ≤ h27.size) (E_b4 : Exa Z h27 b4 "[J") (V_b4 : Arv Z h27 b4 k4 .long (3 : Int32) [(.long (w0_4 x0 x1 x2)), (.long (w0_10 x0 x1 x2)), (.long (w0_17 x0 x1 x2))] (.long (0 : Int64))) (E_b8 : Exa Z h27 b8 "[I") (V_b8 : Arv Z h27 b8 k8 .int (9 : Int32) [(.int (j0_132_e0 x0 x1 x2)), (.int (j0_132_e1 x0 x1 x2)), (.int (j0_132_e2 x0 x1 x2)), (.int (j0_132_e3 x0 x1 x2)), (.int (j0_132_e4 x0 x1 x2)), (.int (0 : Int32)), (.int (0 : Int32)), (.int (0 : Int32)), (.int (0 : Int32))] (.int (0 : Int32))), Goes p e below s (QL (some (.int (r0 x0 x1 x2))) n0) room_1.cells room_1.slots (T27.setTop (mkF m 132 #[jv x0, .second, jv x1, .second, jv x2, .second, jv (w0_4 x0 x1 x2), .second, jv (w0_10 x0 x1 x2), .second, jv (w0_17 x0 x1 x2), .second, rv b4, rv b8, iv (j0_132_14 x0 x1 x2), .unset, .unset] [])) := by
            intro T27 L27 h27 X27 e27 N27 Zn27 E_b4 V_b4 E_b8 V_b8
            refine Goes.run X27 hx hown hci hcl hby (L := [(132, .lload 10, 2), (134, .ldc2_w 17, 3), (137, .lcmp, 1)]) (by decide +kernel) rfl (g' := (mkF m 138 #[jv x0, .second, jv x1, .second, jv x2, .second, jv (w0_4 x0 x1 x2), .second, jv (w0_10 x0 x1 x2), .second, jv (w0_17 x0 x1 x2), .second, rv b4, rv b8, iv (j0_132_14 x0 x1 x2), .unset, .unset] [(.int (lcmpW (w0_17 x0 x1 x2) (2 : Int64)))])) rfl ?_
            have jn150_32 : ∀ (T31 : State) (L31 : List Loc) (h31 : Heap) (X31 : Stand p l e room_1 s m #[(.long x0), (.long x1), (.long x2)] below meth c T31 L31 2 12) (e31 : T31.heap = h31) (N31 : Fr n0 L31) (Zn31 : n0 ≤ h31.size) (E_b4 : Exa Z h31 b4 "[J") (V_b4 : Arv Z h31 b4 k4 .long (3 : Int32) [(.long (w0_4 x0 x1 x2)), (.long (w0_10 x0 x1 x2)), (.long (w0_17 x0 x1 x2))] (.long (0 : Int64))) (E_b8 : Exa Z h31 b8 "[I") (V_b8 : Arv Z h31 b8 k8 .int (9 : Int32) [(.int (j0_150_e0 x0 x1 x2)), (.int (j0_150_e1 x0 x1 x2)), (.int (j0_150_e2 x0 x1 x2)), (.int (j0_150_e3 x0 x1 x2)), (.int (j0_150_e4 x0 x1 x2)), (.int (j0_150_e5 x0 x1 x2)), (.int (0 : Int32)), (.int (0 : Int32)), (.int (0 : Int32))] (.int (0 : Int32))), Goes p e below s (QL (some (.int (r0 x0 x1 x2))) n0) room_1.cells room_1.slots (T31.setTop (mkF m 150 #[jv x0, .second, jv x1, .second, jv x2, .second, jv (w0_4 x0 x1 x2), .second, jv (w0_10 x0 x1 x2), .second, jv (w0_17 x0 x1 x2), .second, rv b4, rv b8, iv (j0_150_14 x0 x1 x2), .unset, .unset] [])) := by
              intro T31 L31 h31 X31 e31 N31 Zn31 E_b4 V_b4 E_b8 V_b8
              refine Goes.run X31 hx hown hci hcl hby (L := [(150, .lload 6, 2), (152, .ldc2_w 9, 3), (155, .lcmp, 1)]) (by decide +kernel) rfl (g' := (mkF m 156 #[jv x0, .second, jv x1, .second, jv x2, .second, jv (w0_4 x0 x1 x2), .second, jv (w0_10 x0 x1 x2), .second, jv (w0_17 x0 x1 x2), .second, rv b4, rv b8, iv (j0_150_14 x0 x1 x2), .unset, .unset] [(.int (lcmpW (w0_4 x0 x1 x2) (3 : Int64)))])) rfl ?_
              have jn168_36 : ∀ (T35 : State) (L35 : List Loc) (h35 : Heap) (X35 : Stand p l e room_1 s m #[(.long x0), (.long x1), (.long x2)] below meth c T35 L35 2 12) (e35 : T35.heap = h35) (N35 : Fr n0 L35) (Zn35 : n0 ≤ h35.size) (E_b4 : Exa Z h35 b4 "[J") (V_b4 : Arv Z h35 b4 k4 .long (3 : Int32) [(.long (w0_4 x0 x1 x2)), (.long (w0_10 x0 x1 x2)), (.long (w0_17 x0 x1 x2))] (.long (0 : Int64))) (E_b8 : Exa Z h35 b8 "[I") (V_b8 : Arv Z h35 b8 k8 .int (9 : Int32) [(.int (j0_168_e0 x0 x1 x2)), (.int (j0_168_e1 x0 x1 x2)), (.int (j0_168_e2 x0 x1 x2)), (.int (j0_168_e3 x0 x1 x2)), (.int (j0_168_e4 x0 x1 x2)), (.int (j0_168_e5 x0 x1 x2)), (.int (j0_168_e6 x0 x1 x2)), (.int (0 : Int32)), (.int (0 : Int32))] (.int (0 : Int32))), Goes p e below s (QL (some (.int (r0 x0 x1 x2))) n0) room_1.cells room_1.slots (T35.setTop (mkF m 168 #[jv x0, .second, jv x1, .second, jv x2, .second, jv (w0_4 x0 x1 x2), .second, jv (w0_10 x0 x1 x2), .second, jv (w0_17 x0 x1 x2), .second, rv b4, rv b8, iv (j0_168_14 x0 x1 x2), .unset, .unset] [])) := by
                intro T35 L35 h35 X35 e35 N35 Zn35 E_b4 V_b4 E_b8 V_b8
                refine Goes.run X35 hx hown hci hcl hby (L := [(168, .lload 8, 2), (170, .ldc2_w 9, 3), (173, .lcmp, 1)]) (by decide +kernel) rfl (g' := (mkF m 174 #[jv x0, .second, jv x1, .second, jv x2, .second, jv (w0_4 x0 x1 x2), .second, jv (w0_10 x0 x1 x2), .second, jv (w0_17 x0 x1 x2), .second, rv b4, rv b8, iv (j0_168_14 x0 x1 x2), .unset, .unset] [(.int (lcmpW (w0_10 x0 x1 x2) (3 : Int64)))])) rfl ?_
                have jn186_40 : ∀ (T39 : State) (L39 : List Loc) (h39 : Heap) (X39 : Stand p l e room_1 s m #[(.long x0), (.long x1), (.long x2)] below meth c T39 L39 2 12) (e39 : T39.heap = h39) (N39 : Fr n0 L39) (Zn39 : n0 ≤ h39.size) (E_b4 : Exa Z h39 b4 "[J") (V_b4 : Arv Z h39 b4 k4 .long (3 : Int32) [(.long (w0_4 x0 x1 x2)), (.long (w0_10 x0 x1 x2)), (.long (w0_17 x0 x1 x2))] (.long (0 : Int64))) (E_b8 : Exa Z h39 b8 "[I") (V_b8 : Arv Z h39 b8 k8 .int (9 : Int32) [(.int (j0_186_e0 x0 x1 x2)), (.int (j0_186_e1 x0 x1 x2)), (.int (j0_186_e2 x0 x1 x2)), (.int (j0_186_e3 x0 x1 x2)), (.int (j0_186_e4 x0 x1 x2)), (.int (j0_186_e5 x0 x1 x2)), (.int (j0_186_e6 x0 x1 x2)), (.int (j0_186_e7 x0 x1 x2)), (.int (0 : Int32))] (.int (0 : Int32))), Goes p e below s (QL (some (.int (r0 x0 x1 x2))) n0) room_1.cells room_1.slots (T39.setTop (mkF m 186 #[jv x0, .second, jv x1, .second, jv x2, .second, jv (w0_4 x0 x1 x2), .second, jv (w0_10 x0 x1 x2), .second, jv (w0_17 x0 x1 x2), .second, rv b4, rv b8, iv (j0_186_14 x0 x1 x2), .unset, .unset] [])) := by
                  intro T39 L39 h39 X39 e39 N39 Zn39 E_b4 V_b4 E_b8 V_b8
                  refine Goes.run X39 hx hown hci hcl hby (L := [(186, .lload 10, 2), (188, .ldc2_w 9, 3), (191, .lcmp, 1)]) (by decide +kernel) rfl (g' := (mkF m 192 #[jv x0, .second, jv x1, .second, jv x2, .second, jv (w0_4 x0 x1 x2), .second, jv (w0_10 x0 x1 x2), .second, jv (w0_17 x0 x1 x2), .second, rv b4, rv b8, iv (j0_186_14 x0 x1 x2), .unset, .unset] [(.int (lcmpW (w0_17 x0 x1 x2) (3 : Int64)))])) rfl ?_
                  have jn204_44 : ∀ (T43 : State) (L43 : List Loc) (h43 : Heap) (X43 : Stand p l e room_1 s m #[(.long x0), (.long x1), (.long x2)] below meth c T43 L43 2 12) (e43 : T43.heap = h43) (N43 : Fr n0 L43) (Zn43 : n0 ≤ h43.size) (E_b4 : Exa Z h43 b4 "[J") (V_b4 : Arv Z h43 b4 k4 .long (3 : Int32) [(.long (w0_4 x0 x1 x2)), (.long (w0_10 x0 x1 x2)), (.long (w0_17 x0 x1 x2))] (.long (0 : Int64))) (E_b8 : Exa Z h43 b8 "[I") (V_b8 : Arv Z h43 b8 k8 .int (9 : Int32) [(.int (j0_204_e0 x0 x1 x2)), (.int (j0_204_e1 x0 x1 x2)), (.int (j0_204_e2 x0 x1 x2)), (.int (j0_204_e3 x0 x1 x2)), (.int (j0_204_e4 x0 x1 x2)), (.int (j0_204_e5 x0 x1 x2)), (.int (j0_204_e6 x0 x1 x2)), (.int (j0_204_e7 x0 x1 x2)), (.int (j0_204_e8 x0 x1 x2))] (.int (0 : Int32))), Goes p e below s (QL (some (.int (r0 x0 x1 x2))) n0) room_1.cells room_1.slots (T43.setTop (mkF m 204 #[jv x0, .second, jv x1, .second, jv x2, .second, jv (w0_4 x0 x1 x2), .second, jv (w0_10 x0 x1 x2), .second, jv (w0_17 x0 x1 x2), .second, rv b4, rv b8, iv (j0_204_14 x0 x1 x2), .unset, .unset] [])) := by
                    intro T43 L43 h43 X43 e43 N43 Zn43 E_b4 V_b4 E_b8 V_b8
                    obtain ⟨T45, h45, X45, e45, E45, A45, D45, -, st45⟩ := newO X43 hx hZ hown w_9 w_10 w_11 e43 (g := (mkF m 204 #[jv x0, .second, jv x1, .second, jv x2, .second, jv (w0_4 x0 x1 x2), .second, jv (w0_10 x0 x1 x2), .second, jv (w0_17 x0 x1 x2), .second, rv b4, rv b8, iv (j0_204_14 x0 x1 x2), .unset, .unset] [])) rfl (hb hby at_204) (by decide) (by decide)
                    obtain ⟨b45, g45⟩ : ∃ z, z = h43.size := ⟨_, rfl⟩
                    rw [← g45] at A45 D45 st45
                    have ne_b4_b45 : b4 ≠ b45 := Nat.ne_of_lt (Nat.lt_of_lt_of_le E_b4.lt (Nat.le_of_eq g45.symm))
                    have ne_b8_b45 : b8 ≠ b45 := Nat.ne_of_lt (Nat.lt_of_lt_of_le E_b8.lt (Nat.le_of_eq g45.symm))
                    have g_b45 : n0 ≤ b45 := Nat.le_trans Zn43 (Nat.le_of_eq g45.symm)
                    have E_b4 := E_b4.ext E45
                    have V_b4 := V_b4.ext E45
                    have E_b8 := E_b8.ext E45
                    have V_b8 := V_b8.ext E45
                    have Zn45 : n0 ≤ h45.size := Nat.le_trans Zn43 E45.1
                    have E_b45 : Exa Z h45 b45 "com/example/kubera/kubera/DealingRing" := A45
                    have F_wanted_b45 : Fld Z h45 b45 "com/example/kubera/kubera/DealingRing" "wanted" "[J" .null := D45 (Or.inr w_28) (ty := (.array .long)) (by decide)
                    have F_ring_b45 : Fld Z h45 b45 "com/example/kubera/kubera/DealingRing" "ring" "[I" .null := D45 (Or.inr w_30) (ty := (.array .int)) (by decide)
                    have F_size_b45 : Fld Z h45 b45 "com/example/kubera/kubera/DealingRing" "size" "I" (.int (0 : Int32)) := D45 (Or.inl w_32) (ty := .int) (by decide)
                    have F_place_b45 : Fld Z h45 b45 "com/example/kubera/kubera/DealingRing" "place" "I" (.int (0 : Int32)) := D45 (Or.inl w_39) (ty := .int) (by decide)
                    refine Goes.st (B := T45.setTop (mkF m 207 #[jv x0, .second, jv x1, .second, jv x2, .second, jv (w0_4 x0 x1 x2), .second, jv (w0_10 x0 x1 x2), .second, jv (w0_17 x0 x1 x2), .second, rv b4, rv b8, iv (j0_204_14 x0 x1 x2), .unset, .unset] [(.ref b45)])) st45 ?_
                    refine Goes.run X45 hx hown hci hcl hby (L := [(207, .dup, 1), (208, .aload 12, 2)]) (by decide +kernel) rfl (g' := (mkF m 210 #[jv x0, .second, jv x1, .second, jv x2, .second, jv (w0_4 x0 x1 x2), .second, jv (w0_10 x0 x1 x2), .second, jv (w0_17 x0 x1 x2), .second, rv b4, rv b8, iv (j0_204_14 x0 x1 x2), .unset, .unset] [(.ref b4), (.ref b45), (.ref b45)])) rfl ?_
                    obtain ⟨_, _, ⟨T46, L46, k46, n46⟩, -, X46, ⟨Lc46, hQ46, l46, y46, z46⟩, st46⟩ := X45.specialBack hx (y := ym1) rfl hown (mvT hZ w_12) (mvT hZ w_13) (mvT hZ w_14) (by decide) (backOf (W := 1) (rm2 l Z a0 hw [] b45 b4 k4 (w0_4 x0 x1 x2) (w0_10 x0 x1 x2) (w0_17 x0 x1 x2) h45 n0 Zn45 E_b45 F_wanted_b45 F_ring_b45 F_size_b45 F_place_b45 E_b4 V_b4 g_b45 ne_b4_b45) hZ w_14 w_11 (by decide) (by decide)) (g := (mkF m 210 #[jv x0, .second, jv x1, .second, jv x2, .second, jv (w0_4 x0 x1 x2), .second, jv (w0_10 x0 x1 x2), .second, jv (w0_17 x0 x1 x2), .second, rv b4, rv b8, iv (j0_204_14 x0 x1 x2), .unset, .unset] [(.ref b4), (.ref b45), (.ref b45)])) rfl (by rw [hml]; rfl) (Steps.refl _) (a := b45) (argsL := [(.ref b4)]) (rest := [(.ref b45)]) (lenOf pd0_1 rfl) rfl (by show 2 * 0 + _ ≤ _; exact Nat.le_of_eq rfl) (hb hby at_210) (fun _ _ => ⟨rfl, e45, (by decide : 3 + 2 ≤ _), (by decide : 16 + 6 ≤ _)⟩)
                    dsimp only [Pt.U, Pt.locs, Pt.cells, Pt.slots] at X46 l46 y46 z46 st46 hQ46
                    subst l46 y46 z46
                    obtain ⟨h46, eh46⟩ : ∃ z, z = T46.heap := ⟨_, rfl⟩
                    rw [← eh46] at hQ46
                    have e46 : T46.heap = h46 := eh46.symm
                    obtain ⟨w46, r46, k_w46, k_r46, rfl, N46q, Kq46, sq_w46, sq_r46, nq46_0_1, o46_0, o46_1, o46_2, o46_3, o46_4, o46_5, o46_6⟩ := hQ46
                    have ne_b4_w46 : b4 ≠ w46 := Nat.ne_of_lt (Nat.lt_of_lt_of_le E_b4.lt sq_w46)
                    have ne_b45_w46 : b45 ≠ w46 := Nat.ne_of_lt (Nat.lt_of_lt_of_le E_b45.lt sq_w46)
                    have ne_b8_w46 : b8 ≠ w46 := Nat.ne_of_lt (Nat.lt_of_lt_of_le E_b8.lt sq_w46)
                    have g_w46 : n0 ≤ w46 := Nat.le_trans Zn45 sq_w46
                    have ne_b4_r46 : b4 ≠ r46 := Nat.ne_of_lt (Nat.lt_of_lt_of_le E_b4.lt sq_r46)
                    have ne_b45_r46 : b45 ≠ r46 := Nat.ne_of_lt (Nat.lt_of_lt_of_le E_b45.lt sq_r46)
                    have ne_b8_r46 : b8 ≠ r46 := Nat.ne_of_lt (Nat.lt_of_lt_of_le E_b8.lt sq_r46)
                    have g_r46 : n0 ≤ r46 := Nat.le_trans Zn45 sq_r46
                    have N46 := Fr.app N43 N46q
                    have E_b4 := E_b4.keep Kq46
                    have V_b4 := V_b4.keep Kq46 (ninS ne_b4_b45 nin0)
                    have E_b8 := E_b8.keep Kq46
                    have V_b8 := V_b8.keep Kq46 (ninS ne_b8_b45 nin0)
                    have Zn46 : n0 ≤ h46.size := Nat.le_trans Zn45 Kq46.1
                    have E_b45 : Exa Z h46 b45 "com/example/kubera/kubera/DealingRing" := o46_0
                    have F_wanted_b45 : Fld Z h46 b45 "com/example/kubera/kubera/DealingRing" "wanted" "[J" (.ref w46) := o46_1
                    have F_ring_b45 : Fld Z h46 b45 "com/example/kubera/kubera/DealingRing" "ring" "[I" (.ref r46) := o46_2
                    have F_size_b45 : Fld Z h46 b45 "com/example/kubera/kubera/DealingRing" "size" "I" (.int (o0_210_3 x0 x1 x2)) := o46_3
                    have F_place_b45 : Fld Z h46 b45 "com/example/kubera/kubera/DealingRing" "place" "I" (.int (0 : Int32)) := o46_4
                    have V_w46 : Arv Z h46 w46 k_w46 .long (3 : Int32) [(.long (w0_4 x0 x1 x2)), (.long (w0_10 x0 x1 x2)), (.long (w0_17 x0 x1 x2))] (.long (0 : Int64)) := o46_5
                    have V_r46 : Arv Z h46 r46 k_r46 .int (3 : Int32) [(.int (o0_210_6_0 x0 x1 x2)), (.int (o0_210_6_1 x0 x1 x2)), (.int (o0_210_6_2 x0 x1 x2))] (.int (0 : Int32)) := o46_6
                    refine Goes.st (B := T46.setTop (mkF m 213 #[jv x0, .second, jv x1, .second, jv x2, .second, jv (w0_4 x0 x1 x2), .second, jv (w0_10 x0 x1 x2), .second, jv (w0_17 x0 x1 x2), .second, rv b4, rv b8, iv (j0_204_14 x0 x1 x2), .unset, .unset] [(.ref b45)])) (fun t k => st46.trans k) ?_
                    refine Goes.run X46 hx hown hci hcl hby (L := [(213, .astore 15, 2), (215, .iconst 1, 1), (216, .istore 16, 2), (218, .iload 16, 2)]) (by decide +kernel) rfl (g' := (mkF m 220 #[jv x0, .second, jv x1, .second, jv x2, .second, jv (w0_4 x0 x1 x2), .second, jv (w0_10 x0 x1 x2), .second, jv (w0_17 x0 x1 x2), .second, rv b4, rv b8, iv (j0_204_14 x0 x1 x2), rv b45, iv (1 : Int32)] [(.int (1 : Int32))])) rfl ?_
                    have hc220_47 : ¬ ((1 : Int32) = (0 : Int32)) := by decide
                    refine Goes.st (B := T46.setTop (mkF m 223 #[jv x0, .second, jv x1, .second, jv x2, .second, jv (w0_4 x0 x1 x2), .second, jv (w0_10 x0 x1 x2), .second, jv (w0_17 x0 x1 x2), .second, rv b4, rv b8, iv (j0_204_14 x0 x1 x2), rv b45, iv (1 : Int32)] [])) (fun t k => ?_) ?_
                    · refine XS.ifNo X46.here hx rfl (hb hby at_220) rfl ((if0 _ _).trans (feq hc220_47).1) ?_
                      exact k
                    refine Goes.run X46 hx hown hci hcl hby (L := [(223, .iload 14, 2)]) (by decide +kernel) rfl (g' := (mkF m 225 #[jv x0, .second, jv x1, .second, jv x2, .second, jv (w0_4 x0 x1 x2), .second, jv (w0_10 x0 x1 x2), .second, jv (w0_17 x0 x1 x2), .second, rv b4, rv b8, iv (j0_204_14 x0 x1 x2), rv b45, iv (1 : Int32)] [(.int (j0_204_14 x0 x1 x2))])) rfl ?_
                    have jn247_54 : ∀ (T53 : State) (L53 : List Loc) (h53 : Heap) (X53 : Stand p l e room_1 s m #[(.long x0), (.long x1), (.long x2)] below meth c T53 L53 5 22) (e53 : T53.heap = h53) (N53 : Fr n0 L53) (Zn53 : n0 ≤ h53.size) (E_b4 : Exa Z h53 b4 "[J") (V_b4 : Arv Z h53 b4 k4 .long (3 : Int32) [(.long (w0_4 x0 x1 x2)), (.long (w0_10 x0 x1 x2)), (.long (w0_17 x0 x1 x2))] (.long (0 : Int64))) (E_b45 : Exa Z h53 b45 "com/example/kubera/kubera/DealingRing") (F_wanted_b45 : Fld Z h53 b45 "com/example/kubera/kubera/DealingRing" "wanted" "[J" (.ref w46)) (F_ring_b45 : Fld Z h53 b45 "com/example/kubera/kubera/DealingRing" "ring" "[I" (.ref r46)) (F_size_b45 : Fld Z h53 b45 "com/example/kubera/kubera/DealingRing" "size" "I" (.int (j0_247_size x0 x1 x2))) (F_place_b45 : Fld Z h53 b45 "com/example/kubera/kubera/DealingRing" "place" "I" (.int (j0_247_place x0 x1 x2))) (E_b8 : Exa Z h53 b8 "[I") (V_b8 : Arv Z h53 b8 k8 .int (9 : Int32) [(.int (j0_204_e0 x0 x1 x2)), (.int (j0_204_e1 x0 x1 x2)), (.int (j0_204_e2 x0 x1 x2)), (.int (j0_204_e3 x0 x1 x2)), (.int (j0_204_e4 x0 x1 x2)), (.int (j0_204_e5 x0 x1 x2)), (.int (j0_204_e6 x0 x1 x2)), (.int (j0_204_e7 x0 x1 x2)), (.int (j0_204_e8 x0 x1 x2))] (.int (0 : Int32))) (V_r46 : Arv Z h53 r46 k_r46 .int (3 : Int32) [(.int (j0_247_e0 x0 x1 x2)), (.int (j0_247_e1 x0 x1 x2)), (.int (j0_247_e2 x0 x1 x2))] (.int (0 : Int32))) (V_w46 : Arv Z h53 w46 k_w46 .long (3 : Int32) [(.long (j0_247_e0_a x0 x1 x2)), (.long (j0_247_e1_a x0 x1 x2)), (.long (j0_247_e2_a x0 x1 x2))] (.long (0 : Int64))), Goes p e below s (QL (some (.int (r0 x0 x1 x2))) n0) room_1.cells room_1.slots (T53.setTop (mkF m 247 #[jv x0, .second, jv x1, .second, jv x2, .second, jv (w0_4 x0 x1 x2), .second, jv (w0_10 x0 x1 x2), .second, jv (w0_17 x0 x1 x2), .second, rv b4, rv b8, iv (j0_204_14 x0 x1 x2), rv b45, iv (j0_247_16 x0 x1 x2)] [])) := by
                      intro T53 L53 h53 X53 e53 N53 Zn53 E_b4 V_b4 E_b45 F_wanted_b45 F_ring_b45 F_size_b45 F_place_b45 E_b8 V_b8 V_r46 V_w46
                      refine Goes.run X53 hx hown hci hcl hby (L := [(247, .iload 16, 2)]) (by decide +kernel) rfl (g' := (mkF m 249 #[jv x0, .second, jv x1, .second, jv x2, .second, jv (w0_4 x0 x1 x2), .second, jv (w0_10 x0 x1 x2), .second, jv (w0_17 x0 x1 x2), .second, rv b4, rv b8, iv (j0_204_14 x0 x1 x2), rv b45, iv (j0_247_16 x0 x1 x2)] [(.int (j0_247_16 x0 x1 x2))])) rfl ?_
                      have jn277_62 : ∀ (T61 : State) (L61 : List Loc) (h61 : Heap) (X61 : Stand p l e room_1 s m #[(.long x0), (.long x1), (.long x2)] below meth c T61 L61 5 22) (e61 : T61.heap = h61) (N61 : Fr n0 L61) (Zn61 : n0 ≤ h61.size) (E_b4 : Exa Z h61 b4 "[J") (V_b4 : Arv Z h61 b4 k4 .long (3 : Int32) [(.long (w0_4 x0 x1 x2)), (.long (w0_10 x0 x1 x2)), (.long (w0_17 x0 x1 x2))] (.long (0 : Int64))) (E_b45 : Exa Z h61 b45 "com/example/kubera/kubera/DealingRing") (F_wanted_b45 : Fld Z h61 b45 "com/example/kubera/kubera/DealingRing" "wanted" "[J" (.ref w46)) (F_ring_b45 : Fld Z h61 b45 "com/example/kubera/kubera/DealingRing" "ring" "[I" (.ref r46)) (F_size_b45 : Fld Z h61 b45 "com/example/kubera/kubera/DealingRing" "size" "I" (.int (j0_277_size x0 x1 x2))) (F_place_b45 : Fld Z h61 b45 "com/example/kubera/kubera/DealingRing" "place" "I" (.int (j0_277_place x0 x1 x2))) (E_b8 : Exa Z h61 b8 "[I") (V_b8 : Arv Z h61 b8 k8 .int (9 : Int32) [(.int (j0_204_e0 x0 x1 x2)), (.int (j0_204_e1 x0 x1 x2)), (.int (j0_204_e2 x0 x1 x2)), (.int (j0_204_e3 x0 x1 x2)), (.int (j0_204_e4 x0 x1 x2)), (.int (j0_204_e5 x0 x1 x2)), (.int (j0_204_e6 x0 x1 x2)), (.int (j0_204_e7 x0 x1 x2)), (.int (j0_204_e8 x0 x1 x2))] (.int (0 : Int32))) (V_r46 : Arv Z h61 r46 k_r46 .int (3 : Int32) [(.int (j0_277_e0 x0 x1 x2)), (.int (j0_277_e1 x0 x1 x2)), (.int (j0_277_e2 x0 x1 x2))] (.int (0 : Int32))) (V_w46 : Arv Z h61 w46 k_w46 .long (3 : Int32) [(.long (j0_277_e0_a x0 x1 x2)), (.long (j0_277_e1_a x0 x1 x2)), (.long (j0_277_e2_a x0 x1 x2))] (.long (0 : Int64))), Goes p e below s (QL (some (.int (r0 x0 x1 x2))) n0) room_1.cells room_1.slots (T61.setTop (mkF m 277 #[jv x0, .second, jv x1, .second, jv x2, .second, jv (w0_4 x0 x1 x2), .second, jv (w0_10 x0 x1 x2), .second, jv (w0_17 x0 x1 x2), .second, rv b4, rv b8, iv (j0_204_14 x0 x1 x2), rv b45, iv (j0_277_16 x0 x1 x2)] [])) := by
                        intro T61 L61 h61 X61 e61 N61 Zn61 E_b4 V_b4 E_b45 F_wanted_b45 F_ring_b45 F_size_b45 F_place_b45 E_b8 V_b8 V_r46 V_w46
                        refine Goes.run X61 hx hown hci hcl hby (L := [(277, .iload 16, 2)]) (by decide +kernel) rfl (g' := (mkF m 279 #[jv x0, .second, jv x1, .second, jv x2, .second, jv (w0_4 x0 x1 x2), .second, jv (w0_10 x0 x1 x2), .second, jv (w0_17 x0 x1 x2), .second, rv b4, rv b8, iv (j0_204_14 x0 x1 x2), rv b45, iv (j0_277_16 x0 x1 x2)] [(.int (j0_277_16 x0 x1 x2))])) rfl ?_
                        have jn307_70 : ∀ (T69 : State) (L69 : List Loc) (h69 : Heap) (X69 : Stand p l e room_1 s m #[(.long x0), (.long x1), (.long x2)] below meth c T69 L69 5 22) (e69 : T69.heap = h69) (N69 : Fr n0 L69) (Zn69 : n0 ≤ h69.size) (E_b4 : Exa Z h69 b4 "[J") (V_b4 : Arv Z h69 b4 k4 .long (3 : Int32) [(.long (w0_4 x0 x1 x2)), (.long (w0_10 x0 x1 x2)), (.long (w0_17 x0 x1 x2))] (.long (0 : Int64))) (E_b45 : Exa Z h69 b45 "com/example/kubera/kubera/DealingRing") (F_wanted_b45 : Fld Z h69 b45 "com/example/kubera/kubera/DealingRing" "wanted" "[J" (.ref w46)) (F_ring_b45 : Fld Z h69 b45 "com/example/kubera/kubera/DealingRing" "ring" "[I" (.ref r46)) (F_size_b45 : Fld Z h69 b45 "com/example/kubera/kubera/DealingRing" "size" "I" (.int (j0_307_size x0 x1 x2))) (F_place_b45 : Fld Z h69 b45 "com/example/kubera/kubera/DealingRing" "place" "I" (.int (j0_307_place x0 x1 x2))) (E_b8 : Exa Z h69 b8 "[I") (V_b8 : Arv Z h69 b8 k8 .int (9 : Int32) [(.int (j0_204_e0 x0 x1 x2)), (.int (j0_204_e1 x0 x1 x2)), (.int (j0_204_e2 x0 x1 x2)), (.int (j0_204_e3 x0 x1 x2)), (.int (j0_204_e4 x0 x1 x2)), (.int (j0_204_e5 x0 x1 x2)), (.int (j0_204_e6 x0 x1 x2)), (.int (j0_204_e7 x0 x1 x2)), (.int (j0_204_e8 x0 x1 x2))] (.int (0 : Int32))) (V_r46 : Arv Z h69 r46 k_r46 .int (3 : Int32) [(.int (j0_307_e0 x0 x1 x2)), (.int (j0_307_e1 x0 x1 x2)), (.int (j0_307_e2 x0 x1 x2))] (.int (0 : Int32))) (V_w46 : Arv Z h69 w46 k_w46 .long (3 : Int32) [(.long (j0_307_e0_a x0 x1 x2)), (.long (j0_307_e1_a x0 x1 x2)), (.long (j0_307_e2_a x0 x1 x2))] (.long (0 : Int64))), Goes p e below s (QL (some (.int (r0 x0 x1 x2))) n0) room_1.cells room_1.slots (T69.setTop (mkF m 307 #[jv x0, .second, jv x1, .second, jv x2, .second, jv (w0_4 x0 x1 x2), .second, jv (w0_10 x0 x1 x2), .second, jv (w0_17 x0 x1 x2), .second, rv b4, rv b8, iv (j0_204_14 x0 x1 x2), rv b45, iv (j0_307_16 x0 x1 x2)] [])) := by
                          intro T69 L69 h69 X69 e69 N69 Zn69 E_b4 V_b4 E_b45 F_wanted_b45 F_ring_b45 F_size_b45 F_place_b45 E_b8 V_b8 V_r46 V_w46
                          refine Goes.run X69 hx hown hci hcl hby (L := [(307, .iload 16, 2)]) (by decide +kernel) rfl (g' := (mkF m 309 #[jv x0, .second, jv x1, .second, jv x2, .second, jv (w0_4 x0 x1 x2), .second, jv (w0_10 x0 x1 x2), .second, jv (w0_17 x0 x1 x2), .second, rv b4, rv b8, iv (j0_204_14 x0 x1 x2), rv b45, iv (j0_307_16 x0 x1 x2)] [(.int (j0_307_16 x0 x1 x2))])) rfl ?_
                          have jn337_78 : ∀ (T77 : State) (L77 : List Loc) (h77 : Heap) (X77 : Stand p l e room_1 s m #[(.long x0), (.long x1), (.long x2)] below meth c T77 L77 5 22) (e77 : T77.heap = h77) (N77 : Fr n0 L77) (Zn77 : n0 ≤ h77.size) (E_b4 : Exa Z h77 b4 "[J") (V_b4 : Arv Z h77 b4 k4 .long (3 : Int32) [(.long (w0_4 x0 x1 x2)), (.long (w0_10 x0 x1 x2)), (.long (w0_17 x0 x1 x2))] (.long (0 : Int64))) (E_b45 : Exa Z h77 b45 "com/example/kubera/kubera/DealingRing") (F_wanted_b45 : Fld Z h77 b45 "com/example/kubera/kubera/DealingRing" "wanted" "[J" (.ref w46)) (F_ring_b45 : Fld Z h77 b45 "com/example/kubera/kubera/DealingRing" "ring" "[I" (.ref r46)) (F_size_b45 : Fld Z h77 b45 "com/example/kubera/kubera/DealingRing" "size" "I" (.int (j0_337_size x0 x1 x2))) (F_place_b45 : Fld Z h77 b45 "com/example/kubera/kubera/DealingRing" "place" "I" (.int (j0_337_place x0 x1 x2))) (E_b8 : Exa Z h77 b8 "[I") (V_b8 : Arv Z h77 b8 k8 .int (9 : Int32) [(.int (j0_204_e0 x0 x1 x2)), (.int (j0_204_e1 x0 x1 x2)), (.int (j0_204_e2 x0 x1 x2)), (.int (j0_204_e3 x0 x1 x2)), (.int (j0_204_e4 x0 x1 x2)), (.int (j0_204_e5 x0 x1 x2)), (.int (j0_204_e6 x0 x1 x2)), (.int (j0_204_e7 x0 x1 x2)), (.int (j0_204_e8 x0 x1 x2))] (.int (0 : Int32))) (V_r46 : Arv Z h77 r46 k_r46 .int (3 : Int32) [(.int (j0_337_e0 x0 x1 x2)), (.int (j0_337_e1 x0 x1 x2)), (.int (j0_337_e2 x0 x1 x2))] (.int (0 : Int32))) (V_w46 : Arv Z h77 w46 k_w46 .long (3 : Int32) [(.long (j0_337_e0_a x0 x1 x2)), (.long (j0_337_e1_a x0 x1 x2)), (.long (j0_337_e2_a x0 x1 x2))] (.long (0 : Int64))), Goes p e below s (QL (some (.int (r0 x0 x1 x2))) n0) room_1.cells room_1.slots (T77.setTop (mkF m 337 #[jv x0, .second, jv x1, .second, jv x2, .second, jv (w0_4 x0 x1 x2), .second, jv (w0_10 x0 x1 x2), .second, jv (w0_17 x0 x1 x2), .second, rv b4, rv b8, iv (j0_204_14 x0 x1 x2), rv b45, iv (j0_337_16 x0 x1 x2)] [])) := by
                            intro T77 L77 h77 X77 e77 N77 Zn77 E_b4 V_b4 E_b45 F_wanted_b45 F_ring_b45 F_size_b45 F_place_b45 E_b8 V_b8 V_r46 V_w46
                            refine Goes.run X77 hx hown hci hcl hby (L := [(337, .iload 16, 2)]) (by decide +kernel) rfl (g' := (mkF m 339 #[jv x0, .second, jv x1, .second, jv x2, .second, jv (w0_4 x0 x1 x2), .second, jv (w0_10 x0 x1 x2), .second, jv (w0_17 x0 x1 x2), .second, rv b4, rv b8, iv (j0_204_14 x0 x1 x2), rv b45, iv (j0_337_16 x0 x1 x2)] [(.int (j0_337_16 x0 x1 x2))])) rfl ?_
                            have jn367_86 : ∀ (T85 : State) (L85 : List Loc) (h85 : Heap) (X85 : Stand p l e room_1 s m #[(.long x0), (.long x1), (.long x2)] below meth c T85 L85 5 22) (e85 : T85.heap = h85) (N85 : Fr n0 L85) (Zn85 : n0 ≤ h85.size) (E_b4 : Exa Z h85 b4 "[J") (V_b4 : Arv Z h85 b4 k4 .long (3 : Int32) [(.long (w0_4 x0 x1 x2)), (.long (w0_10 x0 x1 x2)), (.long (w0_17 x0 x1 x2))] (.long (0 : Int64))) (E_b45 : Exa Z h85 b45 "com/example/kubera/kubera/DealingRing") (F_wanted_b45 : Fld Z h85 b45 "com/example/kubera/kubera/DealingRing" "wanted" "[J" (.ref w46)) (F_ring_b45 : Fld Z h85 b45 "com/example/kubera/kubera/DealingRing" "ring" "[I" (.ref r46)) (F_size_b45 : Fld Z h85 b45 "com/example/kubera/kubera/DealingRing" "size" "I" (.int (j0_367_size x0 x1 x2))) (F_place_b45 : Fld Z h85 b45 "com/example/kubera/kubera/DealingRing" "place" "I" (.int (j0_367_place x0 x1 x2))) (E_b8 : Exa Z h85 b8 "[I") (V_b8 : Arv Z h85 b8 k8 .int (9 : Int32) [(.int (j0_204_e0 x0 x1 x2)), (.int (j0_204_e1 x0 x1 x2)), (.int (j0_204_e2 x0 x1 x2)), (.int (j0_204_e3 x0 x1 x2)), (.int (j0_204_e4 x0 x1 x2)), (.int (j0_204_e5 x0 x1 x2)), (.int (j0_204_e6 x0 x1 x2)), (.int (j0_204_e7 x0 x1 x2)), (.int (j0_204_e8 x0 x1 x2))] (.int (0 : Int32))) (V_r46 : Arv Z h85 r46 k_r46 .int (3 : Int32) [(.int (j0_367_e0 x0 x1 x2)), (.int (j0_367_e1 x0 x1 x2)), (.int (j0_367_e2 x0 x1 x2))] (.int (0 : Int32))) (V_w46 : Arv Z h85 w46 k_w46 .long (3 : Int32) [(.long (j0_367_e0_a x0 x1 x2)), (.long (j0_367_e1_a x0 x1 x2)), (.long (j0_367_e2_a x0 x1 x2))] (.long (0 : Int64))), Goes p e below s (QL (some (.int (r0 x0 x1 x2))) n0) room_1.cells room_1.slots (T85.setTop (mkF m 367 #[jv x0, .second, jv x1, .second, jv x2, .second, jv (w0_4 x0 x1 x2), .second, jv (w0_10 x0 x1 x2), .second, jv (w0_17 x0 x1 x2), .second, rv b4, rv b8, iv (j0_204_14 x0 x1 x2), rv b45, iv (j0_367_16 x0 x1 x2)] [])) := by
                              intro T85 L85 h85 X85 e85 N85 Zn85 E_b4 V_b4 E_b45 F_wanted_b45 F_ring_b45 F_size_b45 F_place_b45 E_b8 V_b8 V_r46 V_w46
                              refine Goes.run X85 hx hown hci hcl hby (L := [(367, .iload 16, 2)]) (by decide +kernel) rfl (g' := (mkF m 369 #[jv x0, .second, jv x1, .second, jv x2, .second, jv (w0_4 x0 x1 x2), .second, jv (w0_10 x0 x1 x2), .second, jv (w0_17 x0 x1 x2), .second, rv b4, rv b8, iv (j0_204_14 x0 x1 x2), rv b45, iv (j0_367_16 x0 x1 x2)] [(.int (j0_367_16 x0 x1 x2))])) rfl ?_
                              have jn397_94 : ∀ (T93 : State) (L93 : List Loc) (h93 : Heap) (X93 : Stand p l e room_1 s m #[(.long x0), (.long x1), (.long x2)] below meth c T93 L93 5 22) (e93 : T93.heap = h93) (N93 : Fr n0 L93) (Zn93 : n0 ≤ h93.size) (E_b4 : Exa Z h93 b4 "[J") (V_b4 : Arv Z h93 b4 k4 .long (3 : Int32) [(.long (w0_4 x0 x1 x2)), (.long (w0_10 x0 x1 x2)), (.long (w0_17 x0 x1 x2))] (.long (0 : Int64))) (E_b45 : Exa Z h93 b45 "com/example/kubera/kubera/DealingRing") (F_wanted_b45 : Fld Z h93 b45 "com/example/kubera/kubera/DealingRing" "wanted" "[J" (.ref w46)) (F_ring_b45 : Fld Z h93 b45 "com/example/kubera/kubera/DealingRing" "ring" "[I" (.ref r46)) (F_size_b45 : Fld Z h93 b45 "com/example/kubera/kubera/DealingRing" "size" "I" (.int (j0_397_size x0 x1 x2))) (F_place_b45 : Fld Z h93 b45 "com/example/kubera/kubera/DealingRing" "place" "I" (.int (j0_397_place x0 x1 x2))) (E_b8 : Exa Z h93 b8 "[I") (V_b8 : Arv Z h93 b8 k8 .int (9 : Int32) [(.int (j0_204_e0 x0 x1 x2)), (.int (j0_204_e1 x0 x1 x2)), (.int (j0_204_e2 x0 x1 x2)), (.int (j0_204_e3 x0 x1 x2)), (.int (j0_204_e4 x0 x1 x2)), (.int (j0_204_e5 x0 x1 x2)), (.int (j0_204_e6 x0 x1 x2)), (.int (j0_204_e7 x0 x1 x2)), (.int (j0_204_e8 x0 x1 x2))] (.int (0 : Int32))) (V_r46 : Arv Z h93 r46 k_r46 .int (3 : Int32) [(.int (j0_397_e0 x0 x1 x2)), (.int (j0_397_e1 x0 x1 x2)), (.int (j0_397_e2 x0 x1 x2))] (.int (0 : Int32))) (V_w46 : Arv Z h93 w46 k_w46 .long (3 : Int32) [(.long (j0_397_e0_a x0 x1 x2)), (.long (j0_397_e1_a x0 x1 x2)), (.long (j0_397_e2_a x0 x1 x2))] (.long (0 : Int64))), Goes p e below s (QL (some (.int (r0 x0 x1 x2))) n0) room_1.cells room_1.slots (T93.setTop (mkF m 397 #[jv x0, .second, jv x1, .second, jv x2, .second, jv (w0_4 x0 x1 x2), .second, jv (w0_10 x0 x1 x2), .second, jv (w0_17 x0 x1 x2), .second, rv b4, rv b8, iv (j0_204_14 x0 x1 x2), rv b45, iv (j0_397_16 x0 x1 x2)] [])) := by
                                intro T93 L93 h93 X93 e93 N93 Zn93 E_b4 V_b4 E_b45 F_wanted_b45 F_ring_b45 F_size_b45 F_place_b45 E_b8 V_b8 V_r46 V_w46
                                refine Goes.run X93 hx hown hci hcl hby (L := [(397, .iload 16, 2)]) (by decide +kernel) rfl (g' := (mkF m 399 #[jv x0, .second, jv x1, .second, jv x2, .second, jv (w0_4 x0 x1 x2), .second, jv (w0_10 x0 x1 x2), .second, jv (w0_17 x0 x1 x2), .second, rv b4, rv b8, iv (j0_204_14 x0 x1 x2), rv b45, iv (j0_397_16 x0 x1 x2)] [(.int (j0_397_16 x0 x1 x2))])) rfl ?_
                                have jn429_102 : ∀ (T101 : State) (L101 : List Loc) (h101 : Heap) (X101 : Stand p l e room_1 s m #[(.long x0), (.long x1), (.long x2)] below meth c T101 L101 5 22) (e101 : T101.heap = h101) (N101 : Fr n0 L101) (Zn101 : n0 ≤ h101.size) (E_b4 : Exa Z h101 b4 "[J") (V_b4 : Arv Z h101 b4 k4 .long (3 : Int32) [(.long (w0_4 x0 x1 x2)), (.long (w0_10 x0 x1 x2)), (.long (w0_17 x0 x1 x2))] (.long (0 : Int64))) (E_b45 : Exa Z h101 b45 "com/example/kubera/kubera/DealingRing") (F_wanted_b45 : Fld Z h101 b45 "com/example/kubera/kubera/DealingRing" "wanted" "[J" (.ref w46)) (F_ring_b45 : Fld Z h101 b45 "com/example/kubera/kubera/DealingRing" "ring" "[I" (.ref r46)) (F_size_b45 : Fld Z h101 b45 "com/example/kubera/kubera/DealingRing" "size" "I" (.int (j0_429_size x0 x1 x2))) (F_place_b45 : Fld Z h101 b45 "com/example/kubera/kubera/DealingRing" "place" "I" (.int (j0_429_place x0 x1 x2))) (E_b8 : Exa Z h101 b8 "[I") (V_b8 : Arv Z h101 b8 k8 .int (9 : Int32) [(.int (j0_204_e0 x0 x1 x2)), (.int (j0_204_e1 x0 x1 x2)), (.int (j0_204_e2 x0 x1 x2)), (.int (j0_204_e3 x0 x1 x2)), (.int (j0_204_e4 x0 x1 x2)), (.int (j0_204_e5 x0 x1 x2)), (.int (j0_204_e6 x0 x1 x2)), (.int (j0_204_e7 x0 x1 x2)), (.int (j0_204_e8 x0 x1 x2))] (.int (0 : Int32))) (V_r46 : Arv Z h101 r46 k_r46 .int (3 : Int32) [(.int (j0_429_e0 x0 x1 x2)), (.int (j0_429_e1 x0 x1 x2)), (.int (j0_429_e2 x0 x1 x2))] (.int (0 : Int32))) (V_w46 : Arv Z h101 w46 k_w46 .long (3 : Int32) [(.long (j0_429_e0_a x0 x1 x2)), (.long (j0_429_e1_a x0 x1 x2)), (.long (j0_429_e2_a x0 x1 x2))] (.long (0 : Int64))), Goes p e below s (QL (some (.int (r0 x0 x1 x2))) n0) room_1.cells room_1.slots (T101.setTop (mkF m 429 #[jv x0, .second, jv x1, .second, jv x2, .second, jv (w0_4 x0 x1 x2), .second, jv (w0_10 x0 x1 x2), .second, jv (w0_17 x0 x1 x2), .second, rv b4, rv b8, iv (j0_204_14 x0 x1 x2), rv b45, iv (j0_429_16 x0 x1 x2)] [])) := by
                                  intro T101 L101 h101 X101 e101 N101 Zn101 E_b4 V_b4 E_b45 F_wanted_b45 F_ring_b45 F_size_b45 F_place_b45 E_b8 V_b8 V_r46 V_w46
                                  refine Goes.run X101 hx hown hci hcl hby (L := [(429, .iload 16, 2)]) (by decide +kernel) rfl (g' := (mkF m 431 #[jv x0, .second, jv x1, .second, jv x2, .second, jv (w0_4 x0 x1 x2), .second, jv (w0_10 x0 x1 x2), .second, jv (w0_17 x0 x1 x2), .second, rv b4, rv b8, iv (j0_204_14 x0 x1 x2), rv b45, iv (j0_429_16 x0 x1 x2)] [(.int (j0_429_16 x0 x1 x2))])) rfl ?_
                                  have jn461_110 : ∀ (T109 : State) (L109 : List Loc) (h109 : Heap) (X109 : Stand p l e room_1 s m #[(.long x0), (.long x1), (.long x2)] below meth c T109 L109 5 22) (e109 : T109.heap = h109) (N109 : Fr n0 L109) (Zn109 : n0 ≤ h109.size) (E_b4 : Exa Z h109 b4 "[J") (V_b4 : Arv Z h109 b4 k4 .long (3 : Int32) [(.long (w0_4 x0 x1 x2)), (.long (w0_10 x0 x1 x2)), (.long (w0_17 x0 x1 x2))] (.long (0 : Int64))) (E_b45 : Exa Z h109 b45 "com/example/kubera/kubera/DealingRing") (F_wanted_b45 : Fld Z h109 b45 "com/example/kubera/kubera/DealingRing" "wanted" "[J" (.ref w46)) (F_ring_b45 : Fld Z h109 b45 "com/example/kubera/kubera/DealingRing" "ring" "[I" (.ref r46)) (F_size_b45 : Fld Z h109 b45 "com/example/kubera/kubera/DealingRing" "size" "I" (.int (j0_461_size x0 x1 x2))) (F_place_b45 : Fld Z h109 b45 "com/example/kubera/kubera/DealingRing" "place" "I" (.int (j0_461_place x0 x1 x2))) (E_b8 : Exa Z h109 b8 "[I") (V_b8 : Arv Z h109 b8 k8 .int (9 : Int32) [(.int (j0_204_e0 x0 x1 x2)), (.int (j0_204_e1 x0 x1 x2)), (.int (j0_204_e2 x0 x1 x2)), (.int (j0_204_e3 x0 x1 x2)), (.int (j0_204_e4 x0 x1 x2)), (.int (j0_204_e5 x0 x1 x2)), (.int (j0_204_e6 x0 x1 x2)), (.int (j0_204_e7 x0 x1 x2)), (.int (j0_204_e8 x0 x1 x2))] (.int (0 : Int32))) (V_r46 : Arv Z h109 r46 k_r46 .int (3 : Int32) [(.int (j0_461_e0 x0 x1 x2)), (.int (j0_461_e1 x0 x1 x2)), (.int (j0_461_e2 x0 x1 x2))] (.int (0 : Int32))) (V_w46 : Arv Z h109 w46 k_w46 .long (3 : Int32) [(.long (j0_461_e0_a x0 x1 x2)), (.long (j0_461_e1_a x0 x1 x2)), (.long (j0_461_e2_a x0 x1 x2))] (.long (0 : Int64))), Goes p e below s (QL (some (.int (r0 x0 x1 x2))) n0) room_1.cells room_1.slots (T109.setTop (mkF m 461 #[jv x0, .second, jv x1, .second, jv x2, .second, jv (w0_4 x0 x1 x2), .second, jv (w0_10 x0 x1 x2), .second, jv (w0_17 x0 x1 x2), .second, rv b4, rv b8, iv (j0_204_14 x0 x1 x2), rv b45, iv (j0_461_16 x0 x1 x2)] [])) := by
                                    intro T109 L109 h109 X109 e109 N109 Zn109 E_b4 V_b4 E_b45 F_wanted_b45 F_ring_b45 F_size_b45 F_place_b45 E_b8 V_b8 V_r46 V_w46
                                    refine Goes.run X109 hx hown hci hcl hby (L := [(461, .iload 16, 2)]) (by decide +kernel) rfl (g' := (mkF m 463 #[jv x0, .second, jv x1, .second, jv x2, .second, jv (w0_4 x0 x1 x2), .second, jv (w0_10 x0 x1 x2), .second, jv (w0_17 x0 x1 x2), .second, rv b4, rv b8, iv (j0_204_14 x0 x1 x2), rv b45, iv (j0_461_16 x0 x1 x2)] [(.int (j0_461_16 x0 x1 x2))])) rfl ?_
                                    have jn493_118 : ∀ (T117 : State) (L117 : List Loc) (h117 : Heap) (X117 : Stand p l e room_1 s m #[(.long x0), (.long x1), (.long x2)] below meth c T117 L117 5 22) (e117 : T117.heap = h117) (N117 : Fr n0 L117) (Zn117 : n0 ≤ h117.size) (E_b4 : Exa Z h117 b4 "[J") (V_b4 : Arv Z h117 b4 k4 .long (3 : Int32) [(.long (w0_4 x0 x1 x2)), (.long (w0_10 x0 x1 x2)), (.long (w0_17 x0 x1 x2))] (.long (0 : Int64))) (E_b45 : Exa Z h117 b45 "com/example/kubera/kubera/DealingRing") (F_wanted_b45 : Fld Z h117 b45 "com/example/kubera/kubera/DealingRing" "wanted" "[J" (.ref w46)) (F_ring_b45 : Fld Z h117 b45 "com/example/kubera/kubera/DealingRing" "ring" "[I" (.ref r46)) (F_size_b45 : Fld Z h117 b45 "com/example/kubera/kubera/DealingRing" "size" "I" (.int (j0_493_size x0 x1 x2))) (F_place_b45 : Fld Z h117 b45 "com/example/kubera/kubera/DealingRing" "place" "I" (.int (j0_493_place x0 x1 x2))) (E_b8 : Exa Z h117 b8 "[I") (V_b8 : Arv Z h117 b8 k8 .int (9 : Int32) [(.int (j0_204_e0 x0 x1 x2)), (.int (j0_204_e1 x0 x1 x2)), (.int (j0_204_e2 x0 x1 x2)), (.int (j0_204_e3 x0 x1 x2)), (.int (j0_204_e4 x0 x1 x2)), (.int (j0_204_e5 x0 x1 x2)), (.int (j0_204_e6 x0 x1 x2)), (.int (j0_204_e7 x0 x1 x2)), (.int (j0_204_e8 x0 x1 x2))] (.int (0 : Int32))) (V_r46 : Arv Z h117 r46 k_r46 .int (3 : Int32) [(.int (j0_493_e0 x0 x1 x2)), (.int (j0_493_e1 x0 x1 x2)), (.int (j0_493_e2 x0 x1 x2))] (.int (0 : Int32))) (V_w46 : Arv Z h117 w46 k_w46 .long (3 : Int32) [(.long (j0_493_e0_a x0 x1 x2)), (.long (j0_493_e1_a x0 x1 x2)), (.long (j0_493_e2_a x0 x1 x2))] (.long (0 : Int64))), Goes p e below s (QL (some (.int (r0 x0 x1 x2))) n0) room_1.cells room_1.slots (T117.setTop (mkF m 493 #[jv x0, .second, jv x1, .second, jv x2, .second, jv (w0_4 x0 x1 x2), .second, jv (w0_10 x0 x1 x2), .second, jv (w0_17 x0 x1 x2), .second, rv b4, rv b8, iv (j0_204_14 x0 x1 x2), rv b45, iv (j0_493_16 x0 x1 x2)] [])) := by
                                      intro T117 L117 h117 X117 e117 N117 Zn117 E_b4 V_b4 E_b45 F_wanted_b45 F_ring_b45 F_size_b45 F_place_b45 E_b8 V_b8 V_r46 V_w46
                                      refine Goes.run X117 hx hown hci hcl hby (L := [(493, .iload 16, 2)]) (by decide +kernel) rfl (g' := (mkF m 495 #[jv x0, .second, jv x1, .second, jv x2, .second, jv (w0_4 x0 x1 x2), .second, jv (w0_10 x0 x1 x2), .second, jv (w0_17 x0 x1 x2), .second, rv b4, rv b8, iv (j0_204_14 x0 x1 x2), rv b45, iv (j0_493_16 x0 x1 x2)] [(.int (j0_493_16 x0 x1 x2))])) rfl ?_
                                      by_cases hc495_119 : (j0_493_16 x0 x1 x2) = (0 : Int32)
                                      · skip
                                        refine Goes.st (B := T117.setTop (mkF m 532 #[jv x0, .second, jv x1, .second, jv x2, .second, jv (w0_4 x0 x1 x2), .second, jv (w0_10 x0 x1 x2), .second, jv (w0_17 x0 x1 x2), .second, rv b4, rv b8, iv (j0_204_14 x0 x1 x2), rv b45, iv (j0_493_16 x0 x1 x2)] [])) (fun t k => ?_) ?_
                                        · refine XS.ifYes X117.here hx rfl (pc0 := 495) (pc' := 532) rfl (hb hby at_495) rfl ((if0 _ _).trans (teq hc495_119).1) (by decide) (by decide) ?_
                                          exact k
                                        refine Goes.run X117 hx hown hci hcl hby (L := [(532, .iconst 0, 1)]) (by decide +kernel) rfl (g' := (mkF m 533 #[jv x0, .second, jv x1, .second, jv x2, .second, jv (w0_4 x0 x1 x2), .second, jv (w0_10 x0 x1 x2), .second, jv (w0_17 x0 x1 x2), .second, rv b4, rv b8, iv (j0_204_14 x0 x1 x2), rv b45, iv (j0_493_16 x0 x1 x2)] [(.int (0 : Int32))])) rfl ?_
                                        exact Goes.retB X117 hx hlk (t := .boolean) Bd.returns (by simp) (hb hby at_533) rfl ⟨(congrArg (fun z => some (Value.int z)) (show (r0 x0 x1 x2) = (0 : Int32) from (if_pos hc495_119)).symm), N117⟩ (by decide) (by decide)
                                      · skip
                                        refine Goes.st (B := T117.setTop (mkF m 498 #[jv x0, .second, jv x1, .second, jv x2, .second, jv (w0_4 x0 x1 x2), .second, jv (w0_10 x0 x1 x2), .second, jv (w0_17 x0 x1 x2), .second, rv b4, rv b8, iv (j0_204_14 x0 x1 x2), rv b45, iv (j0_493_16 x0 x1 x2)] [])) (fun t k => ?_) ?_
                                        · refine XS.ifNo X117.here hx rfl (hb hby at_495) rfl ((if0 _ _).trans (feq hc495_119).1) ?_
                                          exact k
                                        refine Goes.run X117 hx hown hci hcl hby (L := [(498, .aload 12, 2), (500, .iconst 0, 1)]) (by decide +kernel) rfl (g' := (mkF m 501 #[jv x0, .second, jv x1, .second, jv x2, .second, jv (w0_4 x0 x1 x2), .second, jv (w0_10 x0 x1 x2), .second, jv (w0_17 x0 x1 x2), .second, rv b4, rv b8, iv (j0_204_14 x0 x1 x2), rv b45, iv (j0_493_16 x0 x1 x2)] [(.int (0 : Int32)), (.ref b4)])) rfl ?_
                                        obtain ⟨cl120, Ar120, q120, S120, M120, Hs120, G120⟩ := id V_b4
                                        have hin120 : ¬ ((0 : Int32) < 0 ∨ cl120.slots.size ≤ ((0 : Int32)).toNatClampNeg) := inb_of S120 ⟨(by decide), (by decide)⟩
                                        have hat120 : cl120.slots[((0 : Int32)).toNatClampNeg]? = some (.long (w0_4 x0 x1 x2)) := Hs120.at hin120 rfl
                                        refine Goes.st (B := T117.setTop (mkF m 502 #[jv x0, .second, jv x1, .second, jv x2, .second, jv (w0_4 x0 x1 x2), .second, jv (w0_10 x0 x1 x2), .second, jv (w0_17 x0 x1 x2), .second, rv b4, rv b8, iv (j0_204_14 x0 x1 x2), rv b45, iv (j0_493_16 x0 x1 x2)] [(.long (w0_4 x0 x1 x2))])) (X117.laload hx (j := (0 : Int32)) (v := (.long (w0_4 x0 x1 x2))) (by rw [e117]; exact Ar120.1) (State.isArrayOf_alike hZ.alike Ar120.2.1) Ar120.2.2 hin120 hat120 (g := (mkF m 501 #[jv x0, .second, jv x1, .second, jv x2, .second, jv (w0_4 x0 x1 x2), .second, jv (w0_10 x0 x1 x2), .second, jv (w0_17 x0 x1 x2), .second, rv b4, rv b8, iv (j0_204_14 x0 x1 x2), rv b45, iv (j0_493_16 x0 x1 x2)] [(.int (0 : Int32)), (.ref b4)])) rfl rfl (hb hby at_501)) ?_
                                        refine Goes.run X117 hx hown hci hcl hby (L := [(502, .lload 6, 2), (504, .lcmp, 1)]) (by decide +kernel) rfl (g' := (mkF m 505 #[jv x0, .second, jv x1, .second, jv x2, .second, jv (w0_4 x0 x1 x2), .second, jv (w0_10 x0 x1 x2), .second, jv (w0_17 x0 x1 x2), .second, rv b4, rv b8, iv (j0_204_14 x0 x1 x2), rv b45, iv (j0_493_16 x0 x1 x2)] [(.int (lcmpW (w0_4 x0 x1 x2) (w0_4 x0 x1 x2)))])) rfl ?_
                                        have hc505_121 : (w0_4 x0 x1 x2) = (w0_4 x0 x1 x2) := rfl
                                        refine Goes.st (B := T117.setTop (mkF m 508 #[jv x0, .second, jv x1, .second, jv x2, .second, jv (w0_4 x0 x1 x2), .second, jv (w0_10 x0 x1 x2), .second, jv (w0_17 x0 x1 x2), .second, rv b4, rv b8, iv (j0_204_14 x0 x1 x2), rv b45, iv (j0_493_16 x0 x1 x2)] [])) (fun t k => ?_) ?_
                                        · refine XS.ifNo X117.here hx rfl (hb hby at_505) rfl (teqL hc505_121).2 ?_
                                          exact k
                                        refine Goes.run X117 hx hown hci hcl hby (L := [(508, .aload 12, 2), (510, .iconst 1, 1)]) (by decide +kernel) rfl (g' := (mkF m 511 #[jv x0, .second, jv x1, .second, jv x2, .second, jv (w0_4 x0 x1 x2), .second, jv (w0_10 x0 x1 x2), .second, jv (w0_17 x0 x1 x2), .second, rv b4, rv b8, iv (j0_204_14 x0 x1 x2), rv b45, iv (j0_493_16 x0 x1 x2)] [(.int (1 : Int32)), (.ref b4)])) rfl ?_
                                        obtain ⟨cl122, Ar122, q122, S122, M122, Hs122, G122⟩ := id V_b4
                                        have hin122 : ¬ ((1 : Int32) < 0 ∨ cl122.slots.size ≤ ((1 : Int32)).toNatClampNeg) := inb_of S122 ⟨(by decide), (by decide)⟩
                                        have hat122 : cl122.slots[((1 : Int32)).toNatClampNeg]? = some (.long (w0_10 x0 x1 x2)) := Hs122.at hin122 rfl
                                        refine Goes.st (B := T117.setTop (mkF m 512 #[jv x0, .second, jv x1, .second, jv x2, .second, jv (w0_4 x0 x1 x2), .second, jv (w0_10 x0 x1 x2), .second, jv (w0_17 x0 x1 x2), .second, rv b4, rv b8, iv (j0_204_14 x0 x1 x2), rv b45, iv (j0_493_16 x0 x1 x2)] [(.long (w0_10 x0 x1 x2))])) (X117.laload hx (j := (1 : Int32)) (v := (.long (w0_10 x0 x1 x2))) (by rw [e117]; exact Ar122.1) (State.isArrayOf_alike hZ.alike Ar122.2.1) Ar122.2.2 hin122 hat122 (g := (mkF m 511 #[jv x0, .second, jv x1, .second, jv x2, .second, jv (w0_4 x0 x1 x2), .second, jv (w0_10 x0 x1 x2), .second, jv (w0_17 x0 x1 x2), .second, rv b4, rv b8, iv (j0_204_14 x0 x1 x2), rv b45, iv (j0_493_16 x0 x1 x2)] [(.int (1 : Int32)), (.ref b4)])) rfl rfl (hb hby at_511)) ?_
                                        refine Goes.run X117 hx hown hci hcl hby (L := [(512, .lload 8, 2), (514, .lcmp, 1)]) (by decide +kernel) rfl (g' := (mkF m 515 #[jv x0, .second, jv x1, .second, jv x2, .second, jv (w0_4 x0 x1 x2), .second, jv (w0_10 x0 x1 x2), .second, jv (w0_17 x0 x1 x2), .second, rv b4, rv b8, iv (j0_204_14 x0 x1 x2), rv b45, iv (j0_493_16 x0 x1 x2)] [(.int (lcmpW (w0_10 x0 x1 x2) (w0_10 x0 x1 x2)))])) rfl ?_
                                        have hc515_123 : (w0_10 x0 x1 x2) = (w0_10 x0 x1 x2) := rfl
                                        refine Goes.st (B := T117.setTop (mkF m 518 #[jv x0, .second, jv x1, .second, jv x2, .second, jv (w0_4 x0 x1 x2), .second, jv (w0_10 x0 x1 x2), .second, jv (w0_17 x0 x1 x2), .second, rv b4, rv b8, iv (j0_204_14 x0 x1 x2), rv b45, iv (j0_493_16 x0 x1 x2)] [])) (fun t k => ?_) ?_
                                        · refine XS.ifNo X117.here hx rfl (hb hby at_515) rfl (teqL hc515_123).2 ?_
                                          exact k
                                        refine Goes.run X117 hx hown hci hcl hby (L := [(518, .aload 12, 2), (520, .iconst 2, 1)]) (by decide +kernel) rfl (g' := (mkF m 521 #[jv x0, .second, jv x1, .second, jv x2, .second, jv (w0_4 x0 x1 x2), .second, jv (w0_10 x0 x1 x2), .second, jv (w0_17 x0 x1 x2), .second, rv b4, rv b8, iv (j0_204_14 x0 x1 x2), rv b45, iv (j0_493_16 x0 x1 x2)] [(.int (2 : Int32)), (.ref b4)])) rfl ?_
                                        obtain ⟨cl124, Ar124, q124, S124, M124, Hs124, G124⟩ := id V_b4
                                        have hin124 : ¬ ((2 : Int32) < 0 ∨ cl124.slots.size ≤ ((2 : Int32)).toNatClampNeg) := inb_of S124 ⟨(by decide), (by decide)⟩
                                        have hat124 : cl124.slots[((2 : Int32)).toNatClampNeg]? = some (.long (w0_17 x0 x1 x2)) := Hs124.at hin124 rfl
                                        refine Goes.st (B := T117.setTop (mkF m 522 #[jv x0, .second, jv x1, .second, jv x2, .second, jv (w0_4 x0 x1 x2), .second, jv (w0_10 x0 x1 x2), .second, jv (w0_17 x0 x1 x2), .second, rv b4, rv b8, iv (j0_204_14 x0 x1 x2), rv b45, iv (j0_493_16 x0 x1 x2)] [(.long (w0_17 x0 x1 x2))])) (X117.laload hx (j := (2 : Int32)) (v := (.long (w0_17 x0 x1 x2))) (by rw [e117]; exact Ar124.1) (State.isArrayOf_alike hZ.alike Ar124.2.1) Ar124.2.2 hin124 hat124 (g := (mkF m 521 #[jv x0, .second, jv x1, .second, jv x2, .second, jv (w0_4 x0 x1 x2), .second, jv (w0_10 x0 x1 x2), .second, jv (w0_17 x0 x1 x2), .second, rv b4, rv b8, iv (j0_204_14 x0 x1 x2), rv b45, iv (j0_493_16 x0 x1 x2)] [(.int (2 : Int32)), (.ref b4)])) rfl rfl (hb hby at_521)) ?_
                                        refine Goes.run X117 hx hown hci hcl hby (L := [(522, .lload 10, 2), (524, .lcmp, 1)]) (by decide +kernel) rfl (g' := (mkF m 525 #[jv x0, .second, jv x1, .second, jv x2, .second, jv (w0_4 x0 x1 x2), .second, jv (w0_10 x0 x1 x2), .second, jv (w0_17 x0 x1 x2), .second, rv b4, rv b8, iv (j0_204_14 x0 x1 x2), rv b45, iv (j0_493_16 x0 x1 x2)] [(.int (lcmpW (w0_17 x0 x1 x2) (w0_17 x0 x1 x2)))])) rfl ?_
                                        have hc525_125 : (w0_17 x0 x1 x2) = (w0_17 x0 x1 x2) := rfl
                                        refine Goes.st (B := T117.setTop (mkF m 528 #[jv x0, .second, jv x1, .second, jv x2, .second, jv (w0_4 x0 x1 x2), .second, jv (w0_10 x0 x1 x2), .second, jv (w0_17 x0 x1 x2), .second, rv b4, rv b8, iv (j0_204_14 x0 x1 x2), rv b45, iv (j0_493_16 x0 x1 x2)] [])) (fun t k => ?_) ?_
                                        · refine XS.ifNo X117.here hx rfl (hb hby at_525) rfl (teqL hc525_125).2 ?_
                                          exact k
                                        refine Goes.run X117 hx hown hci hcl hby (L := [(528, .iconst 1, 1), (529, .goto 4, 3)]) (by decide +kernel) rfl (g' := (mkF m 533 #[jv x0, .second, jv x1, .second, jv x2, .second, jv (w0_4 x0 x1 x2), .second, jv (w0_10 x0 x1 x2), .second, jv (w0_17 x0 x1 x2), .second, rv b4, rv b8, iv (j0_204_14 x0 x1 x2), rv b45, iv (j0_493_16 x0 x1 x2)] [(.int (1 : Int32))])) rfl ?_
                                        exact Goes.retB X117 hx hlk (t := .boolean) Bd.returns (by simp) (hb hby at_533) rfl ⟨(congrArg (fun z => some (Value.int z)) (show (r0 x0 x1 x2) = (1 : Int32) from (if_neg hc495_119)).symm), N117⟩ (by decide) (by decide)
                                    by_cases hc463_111 : (j0_461_16 x0 x1 x2) = (0 : Int32)
                                    · skip
                                      refine Goes.st (B := T109.setTop (mkF m 493 #[jv x0, .second, jv x1, .second, jv x2, .second, jv (w0_4 x0 x1 x2), .second, jv (w0_10 x0 x1 x2), .second, jv (w0_17 x0 x1 x2), .second, rv b4, rv b8, iv (j0_204_14 x0 x1 x2), rv b45, iv (j0_461_16 x0 x1 x2)] [])) (fun t k => ?_) ?_
                                      · refine XS.ifYes X109.here hx rfl (pc0 := 463) (pc' := 493) rfl (hb hby at_463) rfl ((if0 _ _).trans (teq hc463_111).1) (by decide) (by decide) ?_
                                        exact k
                                      have q := jn493_118
                                      rw [show (j0_493_16 x0 x1 x2) = (j0_461_16 x0 x1 x2) from (if_pos hc463_111), show (j0_493_size x0 x1 x2) = (j0_461_size x0 x1 x2) from (if_pos hc463_111), show (j0_493_place x0 x1 x2) = (j0_461_place x0 x1 x2) from (if_pos hc463_111), show (j0_493_e0 x0 x1 x2) = (j0_461_e0 x0 x1 x2) from (if_pos hc463_111), show (j0_493_e1 x0 x1 x2) = (j0_461_e1 x0 x1 x2) from (if_pos hc463_111), show (j0_493_e2 x0 x1 x2) = (j0_461_e2 x0 x1 x2) from (if_pos hc463_111), show (j0_493_e0_a x0 x1 x2) = (j0_461_e0_a x0 x1 x2) from (if_pos hc463_111), show (j0_493_e1_a x0 x1 x2) = (j0_461_e1_a x0 x1 x2) from (if_pos hc463_111), show (j0_493_e2_a x0 x1 x2) = (j0_461_e2_a x0 x1 x2) from (if_pos hc463_111)] at q
                                      exact q _ _ _ X109 e109 N109 Zn109 E_b4 V_b4 E_b45 F_wanted_b45 F_ring_b45 F_size_b45 F_place_b45 E_b8 V_b8 V_r46 V_w46
                                    · skip
                                      refine Goes.st (B := T109.setTop (mkF m 466 #[jv x0, .second, jv x1, .second, jv x2, .second, jv (w0_4 x0 x1 x2), .second, jv (w0_10 x0 x1 x2), .second, jv (w0_17 x0 x1 x2), .second, rv b4, rv b8, iv (j0_204_14 x0 x1 x2), rv b45, iv (j0_461_16 x0 x1 x2)] [])) (fun t k => ?_) ?_
                                      · refine XS.ifNo X109.here hx rfl (hb hby at_463) rfl ((if0 _ _).trans (feq hc463_111).1) ?_
                                        exact k
                                      refine Goes.run X109 hx hown hci hcl hby (L := [(466, .iload 14, 2), (468, .bipush 8, 2)]) (by decide +kernel) rfl (g' := (mkF m 470 #[jv x0, .second, jv x1, .second, jv x2, .second, jv (w0_4 x0 x1 x2), .second, jv (w0_10 x0 x1 x2), .second, jv (w0_17 x0 x1 x2), .second, rv b4, rv b8, iv (j0_204_14 x0 x1 x2), rv b45, iv (j0_461_16 x0 x1 x2)] [(.int (8 : Int32)), (.int (j0_204_14 x0 x1 x2))])) rfl ?_
                                      by_cases hc470_126 : (8 : Int32) < (j0_204_14 x0 x1 x2)
                                      · skip
                                        refine Goes.st (B := T109.setTop (mkF m 473 #[jv x0, .second, jv x1, .second, jv x2, .second, jv (w0_4 x0 x1 x2), .second, jv (w0_10 x0 x1 x2), .second, jv (w0_17 x0 x1 x2), .second, rv b4, rv b8, iv (j0_204_14 x0 x1 x2), rv b45, iv (j0_461_16 x0 x1 x2)] [])) (fun t k => ?_) ?_
                                        · refine XS.icmpNo X109.here hx rfl (hb hby at_470) rfl (tlt hc470_126).2.2.2 ?_
                                          exact k
                                        refine Goes.run X109 hx hown hci hcl hby (L := [(473, .aload 15, 2)]) (by decide +kernel) rfl (g' := (mkF m 475 #[jv x0, .second, jv x1, .second, jv x2, .second, jv (w0_4 x0 x1 x2), .second, jv (w0_10 x0 x1 x2), .second, jv (w0_17 x0 x1 x2), .second, rv b4, rv b8, iv (j0_204_14 x0 x1 x2), rv b45, iv (j0_461_16 x0 x1 x2)] [(.ref b45)])) rfl ?_
                                        obtain ⟨cq127, kq127, q127a, q127b, q127c⟩ := isOf hZ e109 E_b45
                                        obtain ⟨_, _, ⟨T127, L127, k127, n127⟩, -, X127, ⟨Lc127, hQ127, l127, y127, z127⟩, st127⟩ := X109.virtualBack hx (y := ym2) (z := ym2) hown (mvT hZ w_33) (mvT hZ w_34) (notFace_of_selects (args := #[]) (mvT hZ w_36)) (mvT hZ w_36) (mvT hZ w_35) (by decide) (backOf (W := 0) (rm3 l Z a0 hw [] b45 w46 r46 k_w46 k_r46 (j0_461_e0_a x0 x1 x2) (j0_461_e1_a x0 x1 x2) (j0_461_e2_a x0 x1 x2) (j0_461_e0 x0 x1 x2) (j0_461_e1 x0 x1 x2) (j0_461_e2 x0 x1 x2) (j0_461_size x0 x1 x2) (j0_461_place x0 x1 x2) h109 n0 Zn109 E_b45 F_wanted_b45 F_ring_b45 F_size_b45 F_place_b45 V_w46 V_r46 g_b45 g_w46 g_r46 ne_b45_w46 ne_b45_r46 nq46_0_1 (own_v8 x0 x1 x2 hc470_126).1 (own_v8 x0 x1 x2 hc470_126).2.1 (own_v8 x0 x1 x2 hc470_126).2.2.1 (own_v8 x0 x1 x2 hc470_126).2.2.2.1 (own_v8 x0 x1 x2 hc470_126).2.2.2.2) hZ w_37 w_11 (by decide) (by decide)) q127a q127c (g := (mkF m 475 #[jv x0, .second, jv x1, .second, jv x2, .second, jv (w0_4 x0 x1 x2), .second, jv (w0_10 x0 x1 x2), .second, jv (w0_17 x0 x1 x2), .second, rv b4, rv b8, iv (j0_204_14 x0 x1 x2), rv b45, iv (j0_461_16 x0 x1 x2)] [(.ref b45)])) rfl (by rw [hml]; rfl) (Steps.refl _) (argsL := []) (rest := []) (lenOf pd0_2 rfl) rfl (by show 2 * 0 + _ ≤ _; exact Nat.le_of_eq rfl) (hb hby at_475) (fun _ _ => ⟨rfl, e109, (by decide : 5 + 0 ≤ _), (by decide : 22 + 0 ≤ _)⟩)
                                        dsimp only [Pt.U, Pt.locs, Pt.cells, Pt.slots] at X127 l127 y127 z127 st127 hQ127
                                        subst l127 y127 z127
                                        obtain ⟨h127, eh127⟩ : ∃ z, z = T127.heap := ⟨_, rfl⟩
                                        rw [← eh127] at hQ127
                                        have e127 : T127.heap = h127 := eh127.symm
                                        obtain ⟨rfl, N127q, Kq127, o127_0, o127_1, o127_2, o127_3, o127_4, o127_5⟩ := hQ127
                                        have N127 := Fr.app N109 N127q
                                        have E_b4 := E_b4.keep Kq127
                                        have V_b4 := V_b4.keep Kq127 (ninS ne_b4_b45 (ninS ne_b4_w46 (ninS ne_b4_r46 nin0)))
                                        have E_b45 := E_b45.keep Kq127
                                        have E_b8 := E_b8.keep Kq127
                                        have V_b8 := V_b8.keep Kq127 (ninS ne_b8_b45 (ninS ne_b8_w46 (ninS ne_b8_r46 nin0)))
                                        have F_wanted_b45 : Fld Z h127 b45 "com/example/kubera/kubera/DealingRing" "wanted" "[J" (.ref w46) := o127_0
                                        have F_ring_b45 : Fld Z h127 b45 "com/example/kubera/kubera/DealingRing" "ring" "[I" (.ref r46) := o127_1
                                        have F_size_b45 : Fld Z h127 b45 "com/example/kubera/kubera/DealingRing" "size" "I" (.int (o0_475_2 x0 x1 x2)) := o127_2
                                        have F_place_b45 : Fld Z h127 b45 "com/example/kubera/kubera/DealingRing" "place" "I" (.int (o0_475_3 x0 x1 x2)) := o127_3
                                        have V_w46 : Arv Z h127 w46 k_w46 .long (3 : Int32) [(.long (o0_475_4_0 x0 x1 x2)), (.long (o0_475_4_1 x0 x1 x2)), (.long (o0_475_4_2 x0 x1 x2))] (.long (0 : Int64)) := o127_4
                                        have V_r46 : Arv Z h127 r46 k_r46 .int (3 : Int32) [(.int (o0_475_5_0 x0 x1 x2)), (.int (o0_475_5_1 x0 x1 x2)), (.int (o0_475_5_2 x0 x1 x2))] (.int (0 : Int32)) := o127_5
                                        have Zn127 : n0 ≤ h127.size := Nat.le_trans Zn109 Kq127.1
                                        refine Goes.st (B := T127.setTop (mkF m 478 #[jv x0, .second, jv x1, .second, jv x2, .second, jv (w0_4 x0 x1 x2), .second, jv (w0_10 x0 x1 x2), .second, jv (w0_17 x0 x1 x2), .second, rv b4, rv b8, iv (j0_204_14 x0 x1 x2), rv b45, iv (j0_461_16 x0 x1 x2)] [(.int (v0_475 x0 x1 x2))])) (fun t k => st127.trans k) ?_
                                        refine Goes.run X127 hx hown hci hcl hby (L := [(478, .aload 13, 2), (480, .bipush 8, 2)]) (by decide +kernel) rfl (g' := (mkF m 482 #[jv x0, .second, jv x1, .second, jv x2, .second, jv (w0_4 x0 x1 x2), .second, jv (w0_10 x0 x1 x2), .second, jv (w0_17 x0 x1 x2), .second, rv b4, rv b8, iv (j0_204_14 x0 x1 x2), rv b45, iv (j0_461_16 x0 x1 x2)] [(.int (8 : Int32)), (.ref b8), (.int (v0_475 x0 x1 x2))])) rfl ?_
                                        obtain ⟨cl128, Ar128, q128, S128, M128, Hs128, G128⟩ := id V_b8
                                        have hin128 : ¬ ((8 : Int32) < 0 ∨ cl128.slots.size ≤ ((8 : Int32)).toNatClampNeg) := inb_of S128 ⟨(by decide), (by decide)⟩
                                        have hat128 : cl128.slots[((8 : Int32)).toNatClampNeg]? = some (.int (j0_204_e8 x0 x1 x2)) := Hs128.at hin128 rfl
                                        refine Goes.st (B := T127.setTop (mkF m 483 #[jv x0, .second, jv x1, .second, jv x2, .second, jv (w0_4 x0 x1 x2), .second, jv (w0_10 x0 x1 x2), .second, jv (w0_17 x0 x1 x2), .second, rv b4, rv b8, iv (j0_204_14 x0 x1 x2), rv b45, iv (j0_461_16 x0 x1 x2)] [(.int (j0_204_e8 x0 x1 x2)), (.int (v0_475 x0 x1 x2))])) (X127.iaload hx (j := (8 : Int32)) (v := (.int (j0_204_e8 x0 x1 x2))) (by rw [e127]; exact Ar128.1) (State.isArrayOf_alike hZ.alike Ar128.2.1) Ar128.2.2 hin128 hat128 (g := (mkF m 482 #[jv x0, .second, jv x1, .second, jv x2, .second, jv (w0_4 x0 x1 x2), .second, jv (w0_10 x0 x1 x2), .second, jv (w0_17 x0 x1 x2), .second, rv b4, rv b8, iv (j0_204_14 x0 x1 x2), rv b45, iv (j0_461_16 x0 x1 x2)] [(.int (8 : Int32)), (.ref b8), (.int (v0_475 x0 x1 x2))])) rfl rfl (hb hby at_482)) ?_
                                        have jn491_130 : Goes p e below s (QL (some (.int (r0 x0 x1 x2))) n0) room_1.cells room_1.slots (T127.setTop (mkF m 491 #[jv x0, .second, jv x1, .second, jv x2, .second, jv (w0_4 x0 x1 x2), .second, jv (w0_10 x0 x1 x2), .second, jv (w0_17 x0 x1 x2), .second, rv b4, rv b8, iv (j0_204_14 x0 x1 x2), rv b45, iv (j0_461_16 x0 x1 x2)] [(.int (j0_491_s0 x0 x1 x2))])) := by
                                          refine Goes.run X127 hx hown hci hcl hby (L := [(491, .istore 16, 2)]) (by decide +kernel) rfl (g' := (mkF m 493 #[jv x0, .second, jv x1, .second, jv x2, .second, jv (w0_4 x0 x1 x2), .second, jv (w0_10 x0 x1 x2), .second, jv (w0_17 x0 x1 x2), .second, rv b4, rv b8, iv (j0_204_14 x0 x1 x2), rv b45, iv (j0_491_s0 x0 x1 x2)] [])) rfl ?_
                                          have q := jn493_118
                                          rw [show (j0_493_16 x0 x1 x2) = (j0_491_s0 x0 x1 x2) from ((if_neg hc463_111).trans (if_pos hc470_126)), show (j0_493_size x0 x1 x2) = (o0_475_2 x0 x1 x2) from ((if_neg hc463_111).trans (if_pos hc470_126)), show (j0_493_place x0 x1 x2) = (o0_475_3 x0 x1 x2) from ((if_neg hc463_111).trans (if_pos hc470_126)), show (j0_493_e0 x0 x1 x2) = (o0_475_5_0 x0 x1 x2) from ((if_neg hc463_111).trans (if_pos hc470_126)), show (j0_493_e1 x0 x1 x2) = (o0_475_5_1 x0 x1 x2) from ((if_neg hc463_111).trans (if_pos hc470_126)), show (j0_493_e2 x0 x1 x2) = (o0_475_5_2 x0 x1 x2) from ((if_neg hc463_111).trans (if_pos hc470_126)), show (j0_493_e0_a x0 x1 x2) = (o0_475_4_0 x0 x1 x2) from ((if_neg hc463_111).trans (if_pos hc470_126)), show (j0_493_e1_a x0 x1 x2) = (o0_475_4_1 x0 x1 x2) from ((if_neg hc463_111).trans (if_pos hc470_126)), show (j0_493_e2_a x0 x1 x2) = (o0_475_4_2 x0 x1 x2) from ((if_neg hc463_111).trans (if_pos hc470_126))] at q
                                          exact q _ _ _ X127 e127 N127 Zn127 E_b4 V_b4 E_b45 F_wanted_b45 F_ring_b45 F_size_b45 F_place_b45 E_b8 V_b8 V_r46 V_w46
                                        by_cases hc483_129 : (v0_475 x0 x1 x2) = (j0_204_e8 x0 x1 x2)
                                        · skip
                                          refine Goes.st (B := T127.setTop (mkF m 486 #[jv x0, .second, jv x1, .second, jv x2, .second, jv (w0_4 x0 x1 x2), .second, jv (w0_10 x0 x1 x2), .second, jv (w0_17 x0 x1 x2), .second, rv b4, rv b8, iv (j0_204_14 x0 x1 x2), rv b45, iv (j0_461_16 x0 x1 x2)] [])) (fun t k => ?_) ?_
                                          · refine XS.icmpNo X127.here hx rfl (hb hby at_483) rfl (teq hc483_129).2 ?_
                                            exact k
                                          refine Goes.run X127 hx hown hci hcl hby (L := [(486, .iconst 1, 1), (487, .goto 4, 3)]) (by decide +kernel) rfl (g' := (mkF m 491 #[jv x0, .second, jv x1, .second, jv x2, .second, jv (w0_4 x0 x1 x2), .second, jv (w0_10 x0 x1 x2), .second, jv (w0_17 x0 x1 x2), .second, rv b4, rv b8, iv (j0_204_14 x0 x1 x2), rv b45, iv (j0_461_16 x0 x1 x2)] [(.int (1 : Int32))])) rfl ?_
                                          have q := jn491_130
                                          rw [show (j0_491_s0 x0 x1 x2) = (1 : Int32) from (if_pos hc483_129)] at q
                                          exact q
                                        · skip
                                          refine Goes.st (B := T127.setTop (mkF m 490 #[jv x0, .second, jv x1, .second, jv x2, .second, jv (w0_4 x0 x1 x2), .second, jv (w0_10 x0 x1 x2), .second, jv (w0_17 x0 x1 x2), .second, rv b4, rv b8, iv (j0_204_14 x0 x1 x2), rv b45, iv (j0_461_16 x0 x1 x2)] [])) (fun t k => ?_) ?_
                                          · refine XS.icmpYes X127.here hx rfl (pc0 := 483) (pc' := 490) rfl (hb hby at_483) rfl (feq hc483_129).2 (by decide) (by decide) ?_
                                            exact k
                                          refine Goes.run X127 hx hown hci hcl hby (L := [(490, .iconst 0, 1)]) (by decide +kernel) rfl (g' := (mkF m 491 #[jv x0, .second, jv x1, .second, jv x2, .second, jv (w0_4 x0 x1 x2), .second, jv (w0_10 x0 x1 x2), .second, jv (w0_17 x0 x1 x2), .second, rv b4, rv b8, iv (j0_204_14 x0 x1 x2), rv b45, iv (j0_461_16 x0 x1 x2)] [(.int (0 : Int32))])) rfl ?_
                                          have q := jn491_130
                                          rw [show (j0_491_s0 x0 x1 x2) = (0 : Int32) from (if_neg hc483_129)] at q
                                          exact q
                                      · skip
                                        refine Goes.st (B := T109.setTop (mkF m 493 #[jv x0, .second, jv x1, .second, jv x2, .second, jv (w0_4 x0 x1 x2), .second, jv (w0_10 x0 x1 x2), .second, jv (w0_17 x0 x1 x2), .second, rv b4, rv b8, iv (j0_204_14 x0 x1 x2), rv b45, iv (j0_461_16 x0 x1 x2)] [])) (fun t k => ?_) ?_
                                        · refine XS.icmpYes X109.here hx rfl (pc0 := 470) (pc' := 493) rfl (hb hby at_470) rfl (flt hc470_126).2.2.2 (by decide) (by decide) ?_
                                          exact k
                                        have q := jn493_118
                                        rw [show (j0_493_16 x0 x1 x2) = (j0_461_16 x0 x1 x2) from ((if_neg hc463_111).trans (if_neg hc470_126)), show (j0_493_size x0 x1 x2) = (j0_461_size x0 x1 x2) from ((if_neg hc463_111).trans (if_neg hc470_126)), show (j0_493_place x0 x1 x2) = (j0_461_place x0 x1 x2) from ((if_neg hc463_111).trans (if_neg hc470_126)), show (j0_493_e0 x0 x1 x2) = (j0_461_e0 x0 x1 x2) from ((if_neg hc463_111).trans (if_neg hc470_126)), show (j0_493_e1 x0 x1 x2) = (j0_461_e1 x0 x1 x2) from ((if_neg hc463_111).trans (if_neg hc470_126)), show (j0_493_e2 x0 x1 x2) = (j0_461_e2 x0 x1 x2) from ((if_neg hc463_111).trans (if_neg hc470_126)), show (j0_493_e0_a x0 x1 x2) = (j0_461_e0_a x0 x1 x2) from ((if_neg hc463_111).trans (if_neg hc470_126)), show (j0_493_e1_a x0 x1 x2) = (j0_461_e1_a x0 x1 x2) from ((if_neg hc463_111).trans (if_neg hc470_126)), show (j0_493_e2_a x0 x1 x2) = (j0_461_e2_a x0 x1 x2) from ((if_neg hc463_111).trans (if_neg hc470_126))] at q
                                        exact q _ _ _ X109 e109 N109 Zn109 E_b4 V_b4 E_b45 F_wanted_b45 F_ring_b45 F_size_b45 F_place_b45 E_b8 V_b8 V_r46 V_w46
                                  by_cases hc431_103 : (j0_429_16 x0 x1 x2) = (0 : Int32)
                                  · skip
                                    refine Goes.st (B := T101.setTop (mkF m 461 #[jv x0, .second, jv x1, .second, jv x2, .second, jv (w0_4 x0 x1 x2), .second, jv (w0_10 x0 x1 x2), .second, jv (w0_17 x0 x1 x2), .second, rv b4, rv b8, iv (j0_204_14 x0 x1 x2), rv b45, iv (j0_429_16 x0 x1 x2)] [])) (fun t k => ?_) ?_
                                    · refine XS.ifYes X101.here hx rfl (pc0 := 431) (pc' := 461) rfl (hb hby at_431) rfl ((if0 _ _).trans (teq hc431_103).1) (by decide) (by decide) ?_
                                      exact k
                                    have q := jn461_110
                                    rw [show (j0_461_16 x0 x1 x2) = (j0_429_16 x0 x1 x2) from (if_pos hc431_103), show (j0_461_size x0 x1 x2) = (j0_429_size x0 x1 x2) from (if_pos hc431_103), show (j0_461_place x0 x1 x2) = (j0_429_place x0 x1 x2) from (if_pos hc431_103), show (j0_461_e0 x0 x1 x2) = (j0_429_e0 x0 x1 x2) from (if_pos hc431_103), show (j0_461_e1 x0 x1 x2) = (j0_429_e1 x0 x1 x2) from (if_pos hc431_103), show (j0_461_e2 x0 x1 x2) = (j0_429_e2 x0 x1 x2) from (if_pos hc431_103), show (j0_461_e0_a x0 x1 x2) = (j0_429_e0_a x0 x1 x2) from (if_pos hc431_103), show (j0_461_e1_a x0 x1 x2) = (j0_429_e1_a x0 x1 x2) from (if_pos hc431_103), show (j0_461_e2_a x0 x1 x2) = (j0_429_e2_a x0 x1 x2) from (if_pos hc431_103)] at q
                                    exact q _ _ _ X101 e101 N101 Zn101 E_b4 V_b4 E_b45 F_wanted_b45 F_ring_b45 F_size_b45 F_place_b45 E_b8 V_b8 V_r46 V_w46
                                  · skip
                                    refine Goes.st (B := T101.setTop (mkF m 434 #[jv x0, .second, jv x1, .second, jv x2, .second, jv (w0_4 x0 x1 x2), .second, jv (w0_10 x0 x1 x2), .second, jv (w0_17 x0 x1 x2), .second, rv b4, rv b8, iv (j0_204_14 x0 x1 x2), rv b45, iv (j0_429_16 x0 x1 x2)] [])) (fun t k => ?_) ?_
                                    · refine XS.ifNo X101.here hx rfl (hb hby at_431) rfl ((if0 _ _).trans (feq hc431_103).1) ?_
                                      exact k
                                    refine Goes.run X101 hx hown hci hcl hby (L := [(434, .iload 14, 2), (436, .bipush 7, 2)]) (by decide +kernel) rfl (g' := (mkF m 438 #[jv x0, .second, jv x1, .second, jv x2, .second, jv (w0_4 x0 x1 x2), .second, jv (w0_10 x0 x1 x2), .second, jv (w0_17 x0 x1 x2), .second, rv b4, rv b8, iv (j0_204_14 x0 x1 x2), rv b45, iv (j0_429_16 x0 x1 x2)] [(.int (7 : Int32)), (.int (j0_204_14 x0 x1 x2))])) rfl ?_
                                    by_cases hc438_131 : (7 : Int32) < (j0_204_14 x0 x1 x2)
                                    · skip
                                      refine Goes.st (B := T101.setTop (mkF m 441 #[jv x0, .second, jv x1, .second, jv x2, .second, jv (w0_4 x0 x1 x2), .second, jv (w0_10 x0 x1 x2), .second, jv (w0_17 x0 x1 x2), .second, rv b4, rv b8, iv (j0_204_14 x0 x1 x2), rv b45, iv (j0_429_16 x0 x1 x2)] [])) (fun t k => ?_) ?_
                                      · refine XS.icmpNo X101.here hx rfl (hb hby at_438) rfl (tlt hc438_131).2.2.2 ?_
                                        exact k
                                      refine Goes.run X101 hx hown hci hcl hby (L := [(441, .aload 15, 2)]) (by decide +kernel) rfl (g' := (mkF m 443 #[jv x0, .second, jv x1, .second, jv x2, .second, jv (w0_4 x0 x1 x2), .second, jv (w0_10 x0 x1 x2), .second, jv (w0_17 x0 x1 x2), .second, rv b4, rv b8, iv (j0_204_14 x0 x1 x2), rv b45, iv (j0_429_16 x0 x1 x2)] [(.ref b45)])) rfl ?_
                                      obtain ⟨cq132, kq132, q132a, q132b, q132c⟩ := isOf hZ e101 E_b45
                                      obtain ⟨_, _, ⟨T132, L132, k132, n132⟩, -, X132, ⟨Lc132, hQ132, l132, y132, z132⟩, st132⟩ := X101.virtualBack hx (y := ym2) (z := ym2) hown (mvT hZ w_33) (mvT hZ w_34) (notFace_of_selects (args := #[]) (mvT hZ w_36)) (mvT hZ w_36) (mvT hZ w_35) (by decide) (backOf (W := 0) (rm3 l Z a0 hw [] b45 w46 r46 k_w46 k_r46 (j0_429_e0_a x0 x1 x2) (j0_429_e1_a x0 x1 x2) (j0_429_e2_a x0 x1 x2) (j0_429_e0 x0 x1 x2) (j0_429_e1 x0 x1 x2) (j0_429_e2 x0 x1 x2) (j0_429_size x0 x1 x2) (j0_429_place x0 x1 x2) h101 n0 Zn101 E_b45 F_wanted_b45 F_ring_b45 F_size_b45 F_place_b45 V_w46 V_r46 g_b45 g_w46 g_r46 ne_b45_w46 ne_b45_r46 nq46_0_1 (own_v7 x0 x1 x2 hc438_131).1 (own_v7 x0 x1 x2 hc438_131).2.1 (own_v7 x0 x1 x2 hc438_131).2.2.1 (own_v7 x0 x1 x2 hc438_131).2.2.2.1 (own_v7 x0 x1 x2 hc438_131).2.2.2.2) hZ w_37 w_11 (by decide) (by decide)) q132a q132c (g := (mkF m 443 #[jv x0, .second, jv x1, .second, jv x2, .second, jv (w0_4 x0 x1 x2), .second, jv (w0_10 x0 x1 x2), .second, jv (w0_17 x0 x1 x2), .second, rv b4, rv b8, iv (j0_204_14 x0 x1 x2), rv b45, iv (j0_429_16 x0 x1 x2)] [(.ref b45)])) rfl (by rw [hml]; rfl) (Steps.refl _) (argsL := []) (rest := []) (lenOf pd0_2 rfl) rfl (by show 2 * 0 + _ ≤ _; exact Nat.le_of_eq rfl) (hb hby at_443) (fun _ _ => ⟨rfl, e101, (by decide : 5 + 0 ≤ _), (by decide : 22 + 0 ≤ _)⟩)
                                      dsimp only [Pt.U, Pt.locs, Pt.cells, Pt.slots] at X132 l132 y132 z132 st132 hQ132
                                      subst l132 y132 z132
                                      obtain ⟨h132, eh132⟩ : ∃ z, z = T132.heap := ⟨_, rfl⟩
                                      rw [← eh132] at hQ132
                                      have e132 : T132.heap = h132 := eh132.symm
                                      obtain ⟨rfl, N132q, Kq132, o132_0, o132_1, o132_2, o132_3, o132_4, o132_5⟩ := hQ132
                                      have N132 := Fr.app N101 N132q
                                      have E_b4 := E_b4.keep Kq132
                                      have V_b4 := V_b4.keep Kq132 (ninS ne_b4_b45 (ninS ne_b4_w46 (ninS ne_b4_r46 nin0)))
                                      have E_b45 := E_b45.keep Kq132
                                      have E_b8 := E_b8.keep Kq132
                                      have V_b8 := V_b8.keep Kq132 (ninS ne_b8_b45 (ninS ne_b8_w46 (ninS ne_b8_r46 nin0)))
                                      have F_wanted_b45 : Fld Z h132 b45 "com/example/kubera/kubera/DealingRing" "wanted" "[J" (.ref w46) := o132_0
                                      have F_ring_b45 : Fld Z h132 b45 "com/example/kubera/kubera/DealingRing" "ring" "[I" (.ref r46) := o132_1
                                      have F_size_b45 : Fld Z h132 b45 "com/example/kubera/kubera/DealingRing" "size" "I" (.int (o0_443_2 x0 x1 x2)) := o132_2
                                      have F_place_b45 : Fld Z h132 b45 "com/example/kubera/kubera/DealingRing" "place" "I" (.int (o0_443_3 x0 x1 x2)) := o132_3
                                      have V_w46 : Arv Z h132 w46 k_w46 .long (3 : Int32) [(.long (o0_443_4_0 x0 x1 x2)), (.long (o0_443_4_1 x0 x1 x2)), (.long (o0_443_4_2 x0 x1 x2))] (.long (0 : Int64)) := o132_4
                                      have V_r46 : Arv Z h132 r46 k_r46 .int (3 : Int32) [(.int (o0_443_5_0 x0 x1 x2)), (.int (o0_443_5_1 x0 x1 x2)), (.int (o0_443_5_2 x0 x1 x2))] (.int (0 : Int32)) := o132_5
                                      have Zn132 : n0 ≤ h132.size := Nat.le_trans Zn101 Kq132.1
                                      refine Goes.st (B := T132.setTop (mkF m 446 #[jv x0, .second, jv x1, .second, jv x2, .second, jv (w0_4 x0 x1 x2), .second, jv (w0_10 x0 x1 x2), .second, jv (w0_17 x0 x1 x2), .second, rv b4, rv b8, iv (j0_204_14 x0 x1 x2), rv b45, iv (j0_429_16 x0 x1 x2)] [(.int (v0_443 x0 x1 x2))])) (fun t k => st132.trans k) ?_
                                      refine Goes.run X132 hx hown hci hcl hby (L := [(446, .aload 13, 2), (448, .bipush 7, 2)]) (by decide +kernel) rfl (g' := (mkF m 450 #[jv x0, .second, jv x1, .second, jv x2, .second, jv (w0_4 x0 x1 x2), .second, jv (w0_10 x0 x1 x2), .second, jv (w0_17 x0 x1 x2), .second, rv b4, rv b8, iv (j0_204_14 x0 x1 x2), rv b45, iv (j0_429_16 x0 x1 x2)] [(.int (7 : Int32)), (.ref b8), (.int (v0_443 x0 x1 x2))])) rfl ?_
                                      obtain ⟨cl133, Ar133, q133, S133, M133, Hs133, G133⟩ := id V_b8
                                      have hin133 : ¬ ((7 : Int32) < 0 ∨ cl133.slots.size ≤ ((7 : Int32)).toNatClampNeg) := inb_of S133 ⟨(by decide), (by decide)⟩
                                      have hat133 : cl133.slots[((7 : Int32)).toNatClampNeg]? = some (.int (j0_204_e7 x0 x1 x2)) := Hs133.at hin133 rfl
                                      refine Goes.st (B := T132.setTop (mkF m 451 #[jv x0, .second, jv x1, .second, jv x2, .second, jv (w0_4 x0 x1 x2), .second, jv (w0_10 x0 x1 x2), .second, jv (w0_17 x0 x1 x2), .second, rv b4, rv b8, iv (j0_204_14 x0 x1 x2), rv b45, iv (j0_429_16 x0 x1 x2)] [(.int (j0_204_e7 x0 x1 x2)), (.int (v0_443 x0 x1 x2))])) (X132.iaload hx (j := (7 : Int32)) (v := (.int (j0_204_e7 x0 x1 x2))) (by rw [e132]; exact Ar133.1) (State.isArrayOf_alike hZ.alike Ar133.2.1) Ar133.2.2 hin133 hat133 (g := (mkF m 450 #[jv x0, .second, jv x1, .second, jv x2, .second, jv (w0_4 x0 x1 x2), .second, jv (w0_10 x0 x1 x2), .second, jv (w0_17 x0 x1 x2), .second, rv b4, rv b8, iv (j0_204_14 x0 x1 x2), rv b45, iv (j0_429_16 x0 x1 x2)] [(.int (7 : Int32)), (.ref b8), (.int (v0_443 x0 x1 x2))])) rfl rfl (hb hby at_450)) ?_
                                      have jn459_135 : Goes p e below s (QL (some (.int (r0 x0 x1 x2))) n0) room_1.cells room_1.slots (T132.setTop (mkF m 459 #[jv x0, .second, jv x1, .second, jv x2, .second, jv (w0_4 x0 x1 x2), .second, jv (w0_10 x0 x1 x2), .second, jv (w0_17 x0 x1 x2), .second, rv b4, rv b8, iv (j0_204_14 x0 x1 x2), rv b45, iv (j0_429_16 x0 x1 x2)] [(.int (j0_459_s0 x0 x1 x2))])) := by
                                        refine Goes.run X132 hx hown hci hcl hby (L := [(459, .istore 16, 2)]) (by decide +kernel) rfl (g' := (mkF m 461 #[jv x0, .second, jv x1, .second, jv x2, .second, jv (w0_4 x0 x1 x2), .second, jv (w0_10 x0 x1 x2), .second, jv (w0_17 x0 x1 x2), .second, rv b4, rv b8, iv (j0_204_14 x0 x1 x2), rv b45, iv (j0_459_s0 x0 x1 x2)] [])) rfl ?_
                                        have q := jn461_110
                                        rw [show (j0_461_16 x0 x1 x2) = (j0_459_s0 x0 x1 x2) from ((if_neg hc431_103).trans (if_pos hc438_131)), show (j0_461_size x0 x1 x2) = (o0_443_2 x0 x1 x2) from ((if_neg hc431_103).trans (if_pos hc438_131)), show (j0_461_place x0 x1 x2) = (o0_443_3 x0 x1 x2) from ((if_neg hc431_103).trans (if_pos hc438_131)), show (j0_461_e0 x0 x1 x2) = (o0_443_5_0 x0 x1 x2) from ((if_neg hc431_103).trans (if_pos hc438_131)), show (j0_461_e1 x0 x1 x2) = (o0_443_5_1 x0 x1 x2) from ((if_neg hc431_103).trans (if_pos hc438_131)), show (j0_461_e2 x0 x1 x2) = (o0_443_5_2 x0 x1 x2) from ((if_neg hc431_103).trans (if_pos hc438_131)), show (j0_461_e0_a x0 x1 x2) = (o0_443_4_0 x0 x1 x2) from ((if_neg hc431_103).trans (if_pos hc438_131)), show (j0_461_e1_a x0 x1 x2) = (o0_443_4_1 x0 x1 x2) from ((if_neg hc431_103).trans (if_pos hc438_131)), show (j0_461_e2_a x0 x1 x2) = (o0_443_4_2 x0 x1 x2) from ((if_neg hc431_103).trans (if_pos hc438_131))] at q
                                        exact q _ _ _ X132 e132 N132 Zn132 E_b4 V_b4 E_b45 F_wanted_b45 F_ring_b45 F_size_b45 F_place_b45 E_b8 V_b8 V_r46 V_w46
                                      by_cases hc451_134 : (v0_443 x0 x1 x2) = (j0_204_e7 x0 x1 x2)
                                      · skip
                                        refine Goes.st (B := T132.setTop (mkF m 454 #[jv x0, .second, jv x1, .second, jv x2, .second, jv (w0_4 x0 x1 x2), .second, jv (w0_10 x0 x1 x2), .second, jv (w0_17 x0 x1 x2), .second, rv b4, rv b8, iv (j0_204_14 x0 x1 x2), rv b45, iv (j0_429_16 x0 x1 x2)] [])) (fun t k => ?_) ?_
                                        · refine XS.icmpNo X132.here hx rfl (hb hby at_451) rfl (teq hc451_134).2 ?_
                                          exact k
                                        refine Goes.run X132 hx hown hci hcl hby (L := [(454, .iconst 1, 1), (455, .goto 4, 3)]) (by decide +kernel) rfl (g' := (mkF m 459 #[jv x0, .second, jv x1, .second, jv x2, .second, jv (w0_4 x0 x1 x2), .second, jv (w0_10 x0 x1 x2), .second, jv (w0_17 x0 x1 x2), .second, rv b4, rv b8, iv (j0_204_14 x0 x1 x2), rv b45, iv (j0_429_16 x0 x1 x2)] [(.int (1 : Int32))])) rfl ?_
                                        have q := jn459_135
                                        rw [show (j0_459_s0 x0 x1 x2) = (1 : Int32) from (if_pos hc451_134)] at q
                                        exact q
                                      · skip
                                        refine Goes.st (B := T132.setTop (mkF m 458 #[jv x0, .second, jv x1, .second, jv x2, .second, jv (w0_4 x0 x1 x2), .second, jv (w0_10 x0 x1 x2), .second, jv (w0_17 x0 x1 x2), .second, rv b4, rv b8, iv (j0_204_14 x0 x1 x2), rv b45, iv (j0_429_16 x0 x1 x2)] [])) (fun t k => ?_) ?_
                                        · refine XS.icmpYes X132.here hx rfl (pc0 := 451) (pc' := 458) rfl (hb hby at_451) rfl (feq hc451_134).2 (by decide) (by decide) ?_
                                          exact k
                                        refine Goes.run X132 hx hown hci hcl hby (L := [(458, .iconst 0, 1)]) (by decide +kernel) rfl (g' := (mkF m 459 #[jv x0, .second, jv x1, .second, jv x2, .second, jv (w0_4 x0 x1 x2), .second, jv (w0_10 x0 x1 x2), .second, jv (w0_17 x0 x1 x2), .second, rv b4, rv b8, iv (j0_204_14 x0 x1 x2), rv b45, iv (j0_429_16 x0 x1 x2)] [(.int (0 : Int32))])) rfl ?_
                                        have q := jn459_135
                                        rw [show (j0_459_s0 x0 x1 x2) = (0 : Int32) from (if_neg hc451_134)] at q
                                        exact q
                                    · skip
                                      refine Goes.st (B := T101.setTop (mkF m 461 #[jv x0, .second, jv x1, .second, jv x2, .second, jv (w0_4 x0 x1 x2), .second, jv (w0_10 x0 x1 x2), .second, jv (w0_17 x0 x1 x2), .second, rv b4, rv b8, iv (j0_204_14 x0 x1 x2), rv b45, iv (j0_429_16 x0 x1 x2)] [])) (fun t k => ?_) ?_
                                      · refine XS.icmpYes X101.here hx rfl (pc0 := 438) (pc' := 461) rfl (hb hby at_438) rfl (flt hc438_131).2.2.2 (by decide) (by decide) ?_
                                        exact k
                                      have q := jn461_110
                                      rw [show (j0_461_16 x0 x1 x2) = (j0_429_16 x0 x1 x2) from ((if_neg hc431_103).trans (if_neg hc438_131)), show (j0_461_size x0 x1 x2) = (j0_429_size x0 x1 x2) from ((if_neg hc431_103).trans (if_neg hc438_131)), show (j0_461_place x0 x1 x2) = (j0_429_place x0 x1 x2) from ((if_neg hc431_103).trans (if_neg hc438_131)), show (j0_461_e0 x0 x1 x2) = (j0_429_e0 x0 x1 x2) from ((if_neg hc431_103).trans (if_neg hc438_131)), show (j0_461_e1 x0 x1 x2) = (j0_429_e1 x0 x1 x2) from ((if_neg hc431_103).trans (if_neg hc438_131)), show (j0_461_e2 x0 x1 x2) = (j0_429_e2 x0 x1 x2) from ((if_neg hc431_103).trans (if_neg hc438_131)), show (j0_461_e0_a x0 x1 x2) = (j0_429_e0_a x0 x1 x2) from ((if_neg hc431_103).trans (if_neg hc438_131)), show (j0_461_e1_a x0 x1 x2) = (j0_429_e1_a x0 x1 x2) from ((if_neg hc431_103).trans (if_neg hc438_131)), show (j0_461_e2_a x0 x1 x2) = (j0_429_e2_a x0 x1 x2) from ((if_neg hc431_103).trans (if_neg hc438_131))] at q
                                      exact q _ _ _ X101 e101 N101 Zn101 E_b4 V_b4 E_b45 F_wanted_b45 F_ring_b45 F_size_b45 F_place_b45 E_b8 V_b8 V_r46 V_w46
                                by_cases hc399_95 : (j0_397_16 x0 x1 x2) = (0 : Int32)
                                · skip
                                  refine Goes.st (B := T93.setTop (mkF m 429 #[jv x0, .second, jv x1, .second, jv x2, .second, jv (w0_4 x0 x1 x2), .second, jv (w0_10 x0 x1 x2), .second, jv (w0_17 x0 x1 x2), .second, rv b4, rv b8, iv (j0_204_14 x0 x1 x2), rv b45, iv (j0_397_16 x0 x1 x2)] [])) (fun t k => ?_) ?_
                                  · refine XS.ifYes X93.here hx rfl (pc0 := 399) (pc' := 429) rfl (hb hby at_399) rfl ((if0 _ _).trans (teq hc399_95).1) (by decide) (by decide) ?_
                                    exact k
                                  have q := jn429_102
                                  rw [show (j0_429_16 x0 x1 x2) = (j0_397_16 x0 x1 x2) from (if_pos hc399_95), show (j0_429_size x0 x1 x2) = (j0_397_size x0 x1 x2) from (if_pos hc399_95), show (j0_429_place x0 x1 x2) = (j0_397_place x0 x1 x2) from (if_pos hc399_95), show (j0_429_e0 x0 x1 x2) = (j0_397_e0 x0 x1 x2) from (if_pos hc399_95), show (j0_429_e1 x0 x1 x2) = (j0_397_e1 x0 x1 x2) from (if_pos hc399_95), show (j0_429_e2 x0 x1 x2) = (j0_397_e2 x0 x1 x2) from (if_pos hc399_95), show (j0_429_e0_a x0 x1 x2) = (j0_397_e0_a x0 x1 x2) from (if_pos hc399_95), show (j0_429_e1_a x0 x1 x2) = (j0_397_e1_a x0 x1 x2) from (if_pos hc399_95), show (j0_429_e2_a x0 x1 x2) = (j0_397_e2_a x0 x1 x2) from (if_pos hc399_95)] at q
                                  exact q _ _ _ X93 e93 N93 Zn93 E_b4 V_b4 E_b45 F_wanted_b45 F_ring_b45 F_size_b45 F_place_b45 E_b8 V_b8 V_r46 V_w46
                                · skip
                                  refine Goes.st (B := T93.setTop (mkF m 402 #[jv x0, .second, jv x1, .second, jv x2, .second, jv (w0_4 x0 x1 x2), .second, jv (w0_10 x0 x1 x2), .second, jv (w0_17 x0 x1 x2), .second, rv b4, rv b8, iv (j0_204_14 x0 x1 x2), rv b45, iv (j0_397_16 x0 x1 x2)] [])) (fun t k => ?_) ?_
                                  · refine XS.ifNo X93.here hx rfl (hb hby at_399) rfl ((if0 _ _).trans (feq hc399_95).1) ?_
                                    exact k
                                  refine Goes.run X93 hx hown hci hcl hby (L := [(402, .iload 14, 2), (404, .bipush 6, 2)]) (by decide +kernel) rfl (g' := (mkF m 406 #[jv x0, .second, jv x1, .second, jv x2, .second, jv (w0_4 x0 x1 x2), .second, jv (w0_10 x0 x1 x2), .second, jv (w0_17 x0 x1 x2), .second, rv b4, rv b8, iv (j0_204_14 x0 x1 x2), rv b45, iv (j0_397_16 x0 x1 x2)] [(.int (6 : Int32)), (.int (j0_204_14 x0 x1 x2))])) rfl ?_
                                  by_cases hc406_136 : (6 : Int32) < (j0_204_14 x0 x1 x2)
                                  · skip
                                    refine Goes.st (B := T93.setTop (mkF m 409 #[jv x0, .second, jv x1, .second, jv x2, .second, jv (w0_4 x0 x1 x2), .second, jv (w0_10 x0 x1 x2), .second, jv (w0_17 x0 x1 x2), .second, rv b4, rv b8, iv (j0_204_14 x0 x1 x2), rv b45, iv (j0_397_16 x0 x1 x2)] [])) (fun t k => ?_) ?_
                                    · refine XS.icmpNo X93.here hx rfl (hb hby at_406) rfl (tlt hc406_136).2.2.2 ?_
                                      exact k
                                    refine Goes.run X93 hx hown hci hcl hby (L := [(409, .aload 15, 2)]) (by decide +kernel) rfl (g' := (mkF m 411 #[jv x0, .second, jv x1, .second, jv x2, .second, jv (w0_4 x0 x1 x2), .second, jv (w0_10 x0 x1 x2), .second, jv (w0_17 x0 x1 x2), .second, rv b4, rv b8, iv (j0_204_14 x0 x1 x2), rv b45, iv (j0_397_16 x0 x1 x2)] [(.ref b45)])) rfl ?_
                                    obtain ⟨cq137, kq137, q137a, q137b, q137c⟩ := isOf hZ e93 E_b45
                                    obtain ⟨_, _, ⟨T137, L137, k137, n137⟩, -, X137, ⟨Lc137, hQ137, l137, y137, z137⟩, st137⟩ := X93.virtualBack hx (y := ym2) (z := ym2) hown (mvT hZ w_33) (mvT hZ w_34) (notFace_of_selects (args := #[]) (mvT hZ w_36)) (mvT hZ w_36) (mvT hZ w_35) (by decide) (backOf (W := 0) (rm3 l Z a0 hw [] b45 w46 r46 k_w46 k_r46 (j0_397_e0_a x0 x1 x2) (j0_397_e1_a x0 x1 x2) (j0_397_e2_a x0 x1 x2) (j0_397_e0 x0 x1 x2) (j0_397_e1 x0 x1 x2) (j0_397_e2 x0 x1 x2) (j0_397_size x0 x1 x2) (j0_397_place x0 x1 x2) h93 n0 Zn93 E_b45 F_wanted_b45 F_ring_b45 F_size_b45 F_place_b45 V_w46 V_r46 g_b45 g_w46 g_r46 ne_b45_w46 ne_b45_r46 nq46_0_1 (own_v6 x0 x1 x2 hc406_136).1 (own_v6 x0 x1 x2 hc406_136).2.1 (own_v6 x0 x1 x2 hc406_136).2.2.1 (own_v6 x0 x1 x2 hc406_136).2.2.2.1 (own_v6 x0 x1 x2 hc406_136).2.2.2.2) hZ w_37 w_11 (by decide) (by decide)) q137a q137c (g := (mkF m 411 #[jv x0, .second, jv x1, .second, jv x2, .second, jv (w0_4 x0 x1 x2), .second, jv (w0_10 x0 x1 x2), .second, jv (w0_17 x0 x1 x2), .second, rv b4, rv b8, iv (j0_204_14 x0 x1 x2), rv b45, iv (j0_397_16 x0 x1 x2)] [(.ref b45)])) rfl (by rw [hml]; rfl) (Steps.refl _) (argsL := []) (rest := []) (lenOf pd0_2 rfl) rfl (by show 2 * 0 + _ ≤ _; exact Nat.le_of_eq rfl) (hb hby at_411) (fun _ _ => ⟨rfl, e93, (by decide : 5 + 0 ≤ _), (by decide : 22 + 0 ≤ _)⟩)
                                    dsimp only [Pt.U, Pt.locs, Pt.cells, Pt.slots] at X137 l137 y137 z137 st137 hQ137
                                    subst l137 y137 z137
                                    obtain ⟨h137, eh137⟩ : ∃ z, z = T137.heap := ⟨_, rfl⟩
                                    rw [← eh137] at hQ137
                                    have e137 : T137.heap = h137 := eh137.symm
                                    obtain ⟨rfl, N137q, Kq137, o137_0, o137_1, o137_2, o137_3, o137_4, o137_5⟩ := hQ137
                                    have N137 := Fr.app N93 N137q
                                    have E_b4 := E_b4.keep Kq137
                                    have V_b4 := V_b4.keep Kq137 (ninS ne_b4_b45 (ninS ne_b4_w46 (ninS ne_b4_r46 nin0)))
                                    have E_b45 := E_b45.keep Kq137
                                    have E_b8 := E_b8.keep Kq137
                                    have V_b8 := V_b8.keep Kq137 (ninS ne_b8_b45 (ninS ne_b8_w46 (ninS ne_b8_r46 nin0)))
                                    have F_wanted_b45 : Fld Z h137 b45 "com/example/kubera/kubera/DealingRing" "wanted" "[J" (.ref w46) := o137_0
                                    have F_ring_b45 : Fld Z h137 b45 "com/example/kubera/kubera/DealingRing" "ring" "[I" (.ref r46) := o137_1
                                    have F_size_b45 : Fld Z h137 b45 "com/example/kubera/kubera/DealingRing" "size" "I" (.int (o0_411_2 x0 x1 x2)) := o137_2
                                    have F_place_b45 : Fld Z h137 b45 "com/example/kubera/kubera/DealingRing" "place" "I" (.int (o0_411_3 x0 x1 x2)) := o137_3
                                    have V_w46 : Arv Z h137 w46 k_w46 .long (3 : Int32) [(.long (o0_411_4_0 x0 x1 x2)), (.long (o0_411_4_1 x0 x1 x2)), (.long (o0_411_4_2 x0 x1 x2))] (.long (0 : Int64)) := o137_4
                                    have V_r46 : Arv Z h137 r46 k_r46 .int (3 : Int32) [(.int (o0_411_5_0 x0 x1 x2)), (.int (o0_411_5_1 x0 x1 x2)), (.int (o0_411_5_2 x0 x1 x2))] (.int (0 : Int32)) := o137_5
                                    have Zn137 : n0 ≤ h137.size := Nat.le_trans Zn93 Kq137.1
                                    refine Goes.st (B := T137.setTop (mkF m 414 #[jv x0, .second, jv x1, .second, jv x2, .second, jv (w0_4 x0 x1 x2), .second, jv (w0_10 x0 x1 x2), .second, jv (w0_17 x0 x1 x2), .second, rv b4, rv b8, iv (j0_204_14 x0 x1 x2), rv b45, iv (j0_397_16 x0 x1 x2)] [(.int (v0_411 x0 x1 x2))])) (fun t k => st137.trans k) ?_
                                    refine Goes.run X137 hx hown hci hcl hby (L := [(414, .aload 13, 2), (416, .bipush 6, 2)]) (by decide +kernel) rfl (g' := (mkF m 418 #[jv x0, .second, jv x1, .second, jv x2, .second, jv (w0_4 x0 x1 x2), .second, jv (w0_10 x0 x1 x2), .second, jv (w0_17 x0 x1 x2), .second, rv b4, rv b8, iv (j0_204_14 x0 x1 x2), rv b45, iv (j0_397_16 x0 x1 x2)] [(.int (6 : Int32)), (.ref b8), (.int (v0_411 x0 x1 x2))])) rfl ?_
                                    obtain ⟨cl138, Ar138, q138, S138, M138, Hs138, G138⟩ := id V_b8
                                    have hin138 : ¬ ((6 : Int32) < 0 ∨ cl138.slots.size ≤ ((6 : Int32)).toNatClampNeg) := inb_of S138 ⟨(by decide), (by decide)⟩
                                    have hat138 : cl138.slots[((6 : Int32)).toNatClampNeg]? = some (.int (j0_204_e6 x0 x1 x2)) := Hs138.at hin138 rfl
                                    refine Goes.st (B := T137.setTop (mkF m 419 #[jv x0, .second, jv x1, .second, jv x2, .second, jv (w0_4 x0 x1 x2), .second, jv (w0_10 x0 x1 x2), .second, jv (w0_17 x0 x1 x2), .second, rv b4, rv b8, iv (j0_204_14 x0 x1 x2), rv b45, iv (j0_397_16 x0 x1 x2)] [(.int (j0_204_e6 x0 x1 x2)), (.int (v0_411 x0 x1 x2))])) (X137.iaload hx (j := (6 : Int32)) (v := (.int (j0_204_e6 x0 x1 x2))) (by rw [e137]; exact Ar138.1) (State.isArrayOf_alike hZ.alike Ar138.2.1) Ar138.2.2 hin138 hat138 (g := (mkF m 418 #[jv x0, .second, jv x1, .second, jv x2, .second, jv (w0_4 x0 x1 x2), .second, jv (w0_10 x0 x1 x2), .second, jv (w0_17 x0 x1 x2), .second, rv b4, rv b8, iv (j0_204_14 x0 x1 x2), rv b45, iv (j0_397_16 x0 x1 x2)] [(.int (6 : Int32)), (.ref b8), (.int (v0_411 x0 x1 x2))])) rfl rfl (hb hby at_418)) ?_
                                    have jn427_140 : Goes p e below s (QL (some (.int (r0 x0 x1 x2))) n0) room_1.cells room_1.slots (T137.setTop (mkF m 427 #[jv x0, .second, jv x1, .second, jv x2, .second, jv (w0_4 x0 x1 x2), .second, jv (w0_10 x0 x1 x2), .second, jv (w0_17 x0 x1 x2), .second, rv b4, rv b8, iv (j0_204_14 x0 x1 x2), rv b45, iv (j0_397_16 x0 x1 x2)] [(.int (j0_427_s0 x0 x1 x2))])) := by
                                      refine Goes.run X137 hx hown hci hcl hby (L := [(427, .istore 16, 2)]) (by decide +kernel) rfl (g' := (mkF m 429 #[jv x0, .second, jv x1, .second, jv x2, .second, jv (w0_4 x0 x1 x2), .second, jv (w0_10 x0 x1 x2), .second, jv (w0_17 x0 x1 x2), .second, rv b4, rv b8, iv (j0_204_14 x0 x1 x2), rv b45, iv (j0_427_s0 x0 x1 x2)] [])) rfl ?_
                                      have q := jn429_102
                                      rw [show (j0_429_16 x0 x1 x2) = (j0_427_s0 x0 x1 x2) from ((if_neg hc399_95).trans (if_pos hc406_136)), show (j0_429_size x0 x1 x2) = (o0_411_2 x0 x1 x2) from ((if_neg hc399_95).trans (if_pos hc406_136)), show (j0_429_place x0 x1 x2) = (o0_411_3 x0 x1 x2) from ((if_neg hc399_95).trans (if_pos hc406_136)), show (j0_429_e0 x0 x1 x2) = (o0_411_5_0 x0 x1 x2) from ((if_neg hc399_95).trans (if_pos hc406_136)), show (j0_429_e1 x0 x1 x2) = (o0_411_5_1 x0 x1 x2) from ((if_neg hc399_95).trans (if_pos hc406_136)), show (j0_429_e2 x0 x1 x2) = (o0_411_5_2 x0 x1 x2) from ((if_neg hc399_95).trans (if_pos hc406_136)), show (j0_429_e0_a x0 x1 x2) = (o0_411_4_0 x0 x1 x2) from ((if_neg hc399_95).trans (if_pos hc406_136)), show (j0_429_e1_a x0 x1 x2) = (o0_411_4_1 x0 x1 x2) from ((if_neg hc399_95).trans (if_pos hc406_136)), show (j0_429_e2_a x0 x1 x2) = (o0_411_4_2 x0 x1 x2) from ((if_neg hc399_95).trans (if_pos hc406_136))] at q
                                      exact q _ _ _ X137 e137 N137 Zn137 E_b4 V_b4 E_b45 F_wanted_b45 F_ring_b45 F_size_b45 F_place_b45 E_b8 V_b8 V_r46 V_w46
                                    by_cases hc419_139 : (v0_411 x0 x1 x2) = (j0_204_e6 x0 x1 x2)
                                    · skip
                                      refine Goes.st (B := T137.setTop (mkF m 422 #[jv x0, .second, jv x1, .second, jv x2, .second, jv (w0_4 x0 x1 x2), .second, jv (w0_10 x0 x1 x2), .second, jv (w0_17 x0 x1 x2), .second, rv b4, rv b8, iv (j0_204_14 x0 x1 x2), rv b45, iv (j0_397_16 x0 x1 x2)] [])) (fun t k => ?_) ?_
                                      · refine XS.icmpNo X137.here hx rfl (hb hby at_419) rfl (teq hc419_139).2 ?_
                                        exact k
                                      refine Goes.run X137 hx hown hci hcl hby (L := [(422, .iconst 1, 1), (423, .goto 4, 3)]) (by decide +kernel) rfl (g' := (mkF m 427 #[jv x0, .second, jv x1, .second, jv x2, .second, jv (w0_4 x0 x1 x2), .second, jv (w0_10 x0 x1 x2), .second, jv (w0_17 x0 x1 x2), .second, rv b4, rv b8, iv (j0_204_14 x0 x1 x2), rv b45, iv (j0_397_16 x0 x1 x2)] [(.int (1 : Int32))])) rfl ?_
                                      have q := jn427_140
                                      rw [show (j0_427_s0 x0 x1 x2) = (1 : Int32) from (if_pos hc419_139)] at q
                                      exact q
                                    · skip
                                      refine Goes.st (B := T137.setTop (mkF m 426 #[jv x0, .second, jv x1, .second, jv x2, .second, jv (w0_4 x0 x1 x2), .second, jv (w0_10 x0 x1 x2), .second, jv (w0_17 x0 x1 x2), .second, rv b4, rv b8, iv (j0_204_14 x0 x1 x2), rv b45, iv (j0_397_16 x0 x1 x2)] [])) (fun t k => ?_) ?_
                                      · refine XS.icmpYes X137.here hx rfl (pc0 := 419) (pc' := 426) rfl (hb hby at_419) rfl (feq hc419_139).2 (by decide) (by decide) ?_
                                        exact k
                                      refine Goes.run X137 hx hown hci hcl hby (L := [(426, .iconst 0, 1)]) (by decide +kernel) rfl (g' := (mkF m 427 #[jv x0, .second, jv x1, .second, jv x2, .second, jv (w0_4 x0 x1 x2), .second, jv (w0_10 x0 x1 x2), .second, jv (w0_17 x0 x1 x2), .second, rv b4, rv b8, iv (j0_204_14 x0 x1 x2), rv b45, iv (j0_397_16 x0 x1 x2)] [(.int (0 : Int32))])) rfl ?_
                                      have q := jn427_140
                                      rw [show (j0_427_s0 x0 x1 x2) = (0 : Int32) from (if_neg hc419_139)] at q
                                      exact q
                                  · skip
                                    refine Goes.st (B := T93.setTop (mkF m 429 #[jv x0, .second, jv x1, .second, jv x2, .second, jv (w0_4 x0 x1 x2), .second, jv (w0_10 x0 x1 x2), .second, jv (w0_17 x0 x1 x2), .second, rv b4, rv b8, iv (j0_204_14 x0 x1 x2), rv b45, iv (j0_397_16 x0 x1 x2)] [])) (fun t k => ?_) ?_
                                    · refine XS.icmpYes X93.here hx rfl (pc0 := 406) (pc' := 429) rfl (hb hby at_406) rfl (flt hc406_136).2.2.2 (by decide) (by decide) ?_
                                      exact k
                                    have q := jn429_102
                                    rw [show (j0_429_16 x0 x1 x2) = (j0_397_16 x0 x1 x2) from ((if_neg hc399_95).trans (if_neg hc406_136)), show (j0_429_size x0 x1 x2) = (j0_397_size x0 x1 x2) from ((if_neg hc399_95).trans (if_neg hc406_136)), show (j0_429_place x0 x1 x2) = (j0_397_place x0 x1 x2) from ((if_neg hc399_95).trans (if_neg hc406_136)), show (j0_429_e0 x0 x1 x2) = (j0_397_e0 x0 x1 x2) from ((if_neg hc399_95).trans (if_neg hc406_136)), show (j0_429_e1 x0 x1 x2) = (j0_397_e1 x0 x1 x2) from ((if_neg hc399_95).trans (if_neg hc406_136)), show (j0_429_e2 x0 x1 x2) = (j0_397_e2 x0 x1 x2) from ((if_neg hc399_95).trans (if_neg hc406_136)), show (j0_429_e0_a x0 x1 x2) = (j0_397_e0_a x0 x1 x2) from ((if_neg hc399_95).trans (if_neg hc406_136)), show (j0_429_e1_a x0 x1 x2) = (j0_397_e1_a x0 x1 x2) from ((if_neg hc399_95).trans (if_neg hc406_136)), show (j0_429_e2_a x0 x1 x2) = (j0_397_e2_a x0 x1 x2) from ((if_neg hc399_95).trans (if_neg hc406_136))] at q
                                    exact q _ _ _ X93 e93 N93 Zn93 E_b4 V_b4 E_b45 F_wanted_b45 F_ring_b45 F_size_b45 F_place_b45 E_b8 V_b8 V_r46 V_w46
                              by_cases hc369_87 : (j0_367_16 x0 x1 x2) = (0 : Int32)
                              · skip
                                refine Goes.st (B := T85.setTop (mkF m 397 #[jv x0, .second, jv x1, .second, jv x2, .second, jv (w0_4 x0 x1 x2), .second, jv (w0_10 x0 x1 x2), .second, jv (w0_17 x0 x1 x2), .second, rv b4, rv b8, iv (j0_204_14 x0 x1 x2), rv b45, iv (j0_367_16 x0 x1 x2)] [])) (fun t k => ?_) ?_
                                · refine XS.ifYes X85.here hx rfl (pc0 := 369) (pc' := 397) rfl (hb hby at_369) rfl ((if0 _ _).trans (teq hc369_87).1) (by decide) (by decide) ?_
                                  exact k
                                have q := jn397_94
                                rw [show (j0_397_16 x0 x1 x2) = (j0_367_16 x0 x1 x2) from (if_pos hc369_87), show (j0_397_size x0 x1 x2) = (j0_367_size x0 x1 x2) from (if_pos hc369_87), show (j0_397_place x0 x1 x2) = (j0_367_place x0 x1 x2) from (if_pos hc369_87), show (j0_397_e0 x0 x1 x2) = (j0_367_e0 x0 x1 x2) from (if_pos hc369_87), show (j0_397_e1 x0 x1 x2) = (j0_367_e1 x0 x1 x2) from (if_pos hc369_87), show (j0_397_e2 x0 x1 x2) = (j0_367_e2 x0 x1 x2) from (if_pos hc369_87), show (j0_397_e0_a x0 x1 x2) = (j0_367_e0_a x0 x1 x2) from (if_pos hc369_87), show (j0_397_e1_a x0 x1 x2) = (j0_367_e1_a x0 x1 x2) from (if_pos hc369_87), show (j0_397_e2_a x0 x1 x2) = (j0_367_e2_a x0 x1 x2) from (if_pos hc369_87)] at q
                                exact q _ _ _ X85 e85 N85 Zn85 E_b4 V_b4 E_b45 F_wanted_b45 F_ring_b45 F_size_b45 F_place_b45 E_b8 V_b8 V_r46 V_w46
                              · skip
                                refine Goes.st (B := T85.setTop (mkF m 372 #[jv x0, .second, jv x1, .second, jv x2, .second, jv (w0_4 x0 x1 x2), .second, jv (w0_10 x0 x1 x2), .second, jv (w0_17 x0 x1 x2), .second, rv b4, rv b8, iv (j0_204_14 x0 x1 x2), rv b45, iv (j0_367_16 x0 x1 x2)] [])) (fun t k => ?_) ?_
                                · refine XS.ifNo X85.here hx rfl (hb hby at_369) rfl ((if0 _ _).trans (feq hc369_87).1) ?_
                                  exact k
                                refine Goes.run X85 hx hown hci hcl hby (L := [(372, .iload 14, 2), (374, .iconst 5, 1)]) (by decide +kernel) rfl (g' := (mkF m 375 #[jv x0, .second, jv x1, .second, jv x2, .second, jv (w0_4 x0 x1 x2), .second, jv (w0_10 x0 x1 x2), .second, jv (w0_17 x0 x1 x2), .second, rv b4, rv b8, iv (j0_204_14 x0 x1 x2), rv b45, iv (j0_367_16 x0 x1 x2)] [(.int (5 : Int32)), (.int (j0_204_14 x0 x1 x2))])) rfl ?_
                                by_cases hc375_141 : (5 : Int32) < (j0_204_14 x0 x1 x2)
                                · skip
                                  refine Goes.st (B := T85.setTop (mkF m 378 #[jv x0, .second, jv x1, .second, jv x2, .second, jv (w0_4 x0 x1 x2), .second, jv (w0_10 x0 x1 x2), .second, jv (w0_17 x0 x1 x2), .second, rv b4, rv b8, iv (j0_204_14 x0 x1 x2), rv b45, iv (j0_367_16 x0 x1 x2)] [])) (fun t k => ?_) ?_
                                  · refine XS.icmpNo X85.here hx rfl (hb hby at_375) rfl (tlt hc375_141).2.2.2 ?_
                                    exact k
                                  refine Goes.run X85 hx hown hci hcl hby (L := [(378, .aload 15, 2)]) (by decide +kernel) rfl (g' := (mkF m 380 #[jv x0, .second, jv x1, .second, jv x2, .second, jv (w0_4 x0 x1 x2), .second, jv (w0_10 x0 x1 x2), .second, jv (w0_17 x0 x1 x2), .second, rv b4, rv b8, iv (j0_204_14 x0 x1 x2), rv b45, iv (j0_367_16 x0 x1 x2)] [(.ref b45)])) rfl ?_
                                  obtain ⟨cq142, kq142, q142a, q142b, q142c⟩ := isOf hZ e85 E_b45
                                  obtain ⟨_, _, ⟨T142, L142, k142, n142⟩, -, X142, ⟨Lc142, hQ142, l142, y142, z142⟩, st142⟩ := X85.virtualBack hx (y := ym2) (z := ym2) hown (mvT hZ w_33) (mvT hZ w_34) (notFace_of_selects (args := #[]) (mvT hZ w_36)) (mvT hZ w_36) (mvT hZ w_35) (by decide) (backOf (W := 0) (rm3 l Z a0 hw [] b45 w46 r46 k_w46 k_r46 (j0_367_e0_a x0 x1 x2) (j0_367_e1_a x0 x1 x2) (j0_367_e2_a x0 x1 x2) (j0_367_e0 x0 x1 x2) (j0_367_e1 x0 x1 x2) (j0_367_e2 x0 x1 x2) (j0_367_size x0 x1 x2) (j0_367_place x0 x1 x2) h85 n0 Zn85 E_b45 F_wanted_b45 F_ring_b45 F_size_b45 F_place_b45 V_w46 V_r46 g_b45 g_w46 g_r46 ne_b45_w46 ne_b45_r46 nq46_0_1 (own_v5 x0 x1 x2 hc375_141).1 (own_v5 x0 x1 x2 hc375_141).2.1 (own_v5 x0 x1 x2 hc375_141).2.2.1 (own_v5 x0 x1 x2 hc375_141).2.2.2.1 (own_v5 x0 x1 x2 hc375_141).2.2.2.2) hZ w_37 w_11 (by decide) (by decide)) q142a q142c (g := (mkF m 380 #[jv x0, .second, jv x1, .second, jv x2, .second, jv (w0_4 x0 x1 x2), .second, jv (w0_10 x0 x1 x2), .second, jv (w0_17 x0 x1 x2), .second, rv b4, rv b8, iv (j0_204_14 x0 x1 x2), rv b45, iv (j0_367_16 x0 x1 x2)] [(.ref b45)])) rfl (by rw [hml]; rfl) (Steps.refl _) (argsL := []) (rest := []) (lenOf pd0_2 rfl) rfl (by show 2 * 0 + _ ≤ _; exact Nat.le_of_eq rfl) (hb hby at_380) (fun _ _ => ⟨rfl, e85, (by decide : 5 + 0 ≤ _), (by decide : 22 + 0 ≤ _)⟩)
                                  dsimp only [Pt.U, Pt.locs, Pt.cells, Pt.slots] at X142 l142 y142 z142 st142 hQ142
                                  subst l142 y142 z142
                                  obtain ⟨h142, eh142⟩ : ∃ z, z = T142.heap := ⟨_, rfl⟩
                                  rw [← eh142] at hQ142
                                  have e142 : T142.heap = h142 := eh142.symm
                                  obtain ⟨rfl, N142q, Kq142, o142_0, o142_1, o142_2, o142_3, o142_4, o142_5⟩ := hQ142
                                  have N142 := Fr.app N85 N142q
                                  have E_b4 := E_b4.keep Kq142
                                  have V_b4 := V_b4.keep Kq142 (ninS ne_b4_b45 (ninS ne_b4_w46 (ninS ne_b4_r46 nin0)))
                                  have E_b45 := E_b45.keep Kq142
                                  have E_b8 := E_b8.keep Kq142
                                  have V_b8 := V_b8.keep Kq142 (ninS ne_b8_b45 (ninS ne_b8_w46 (ninS ne_b8_r46 nin0)))
                                  have F_wanted_b45 : Fld Z h142 b45 "com/example/kubera/kubera/DealingRing" "wanted" "[J" (.ref w46) := o142_0
                                  have F_ring_b45 : Fld Z h142 b45 "com/example/kubera/kubera/DealingRing" "ring" "[I" (.ref r46) := o142_1
                                  have F_size_b45 : Fld Z h142 b45 "com/example/kubera/kubera/DealingRing" "size" "I" (.int (o0_380_2 x0 x1 x2)) := o142_2
                                  have F_place_b45 : Fld Z h142 b45 "com/example/kubera/kubera/DealingRing" "place" "I" (.int (o0_380_3 x0 x1 x2)) := o142_3
                                  have V_w46 : Arv Z h142 w46 k_w46 .long (3 : Int32) [(.long (o0_380_4_0 x0 x1 x2)), (.long (o0_380_4_1 x0 x1 x2)), (.long (o0_380_4_2 x0 x1 x2))] (.long (0 : Int64)) := o142_4
                                  have V_r46 : Arv Z h142 r46 k_r46 .int (3 : Int32) [(.int (o0_380_5_0 x0 x1 x2)), (.int (o0_380_5_1 x0 x1 x2)), (.int (o0_380_5_2 x0 x1 x2))] (.int (0 : Int32)) := o142_5
                                  have Zn142 : n0 ≤ h142.size := Nat.le_trans Zn85 Kq142.1
                                  refine Goes.st (B := T142.setTop (mkF m 383 #[jv x0, .second, jv x1, .second, jv x2, .second, jv (w0_4 x0 x1 x2), .second, jv (w0_10 x0 x1 x2), .second, jv (w0_17 x0 x1 x2), .second, rv b4, rv b8, iv (j0_204_14 x0 x1 x2), rv b45, iv (j0_367_16 x0 x1 x2)] [(.int (v0_380 x0 x1 x2))])) (fun t k => st142.trans k) ?_
                                  refine Goes.run X142 hx hown hci hcl hby (L := [(383, .aload 13, 2), (385, .iconst 5, 1)]) (by decide +kernel) rfl (g' := (mkF m 386 #[jv x0, .second, jv x1, .second, jv x2, .second, jv (w0_4 x0 x1 x2), .second, jv (w0_10 x0 x1 x2), .second, jv (w0_17 x0 x1 x2), .second, rv b4, rv b8, iv (j0_204_14 x0 x1 x2), rv b45, iv (j0_367_16 x0 x1 x2)] [(.int (5 : Int32)), (.ref b8), (.int (v0_380 x0 x1 x2))])) rfl ?_
                                  obtain ⟨cl143, Ar143, q143, S143, M143, Hs143, G143⟩ := id V_b8
                                  have hin143 : ¬ ((5 : Int32) < 0 ∨ cl143.slots.size ≤ ((5 : Int32)).toNatClampNeg) := inb_of S143 ⟨(by decide), (by decide)⟩
                                  have hat143 : cl143.slots[((5 : Int32)).toNatClampNeg]? = some (.int (j0_204_e5 x0 x1 x2)) := Hs143.at hin143 rfl
                                  refine Goes.st (B := T142.setTop (mkF m 387 #[jv x0, .second, jv x1, .second, jv x2, .second, jv (w0_4 x0 x1 x2), .second, jv (w0_10 x0 x1 x2), .second, jv (w0_17 x0 x1 x2), .second, rv b4, rv b8, iv (j0_204_14 x0 x1 x2), rv b45, iv (j0_367_16 x0 x1 x2)] [(.int (j0_204_e5 x0 x1 x2)), (.int (v0_380 x0 x1 x2))])) (X142.iaload hx (j := (5 : Int32)) (v := (.int (j0_204_e5 x0 x1 x2))) (by rw [e142]; exact Ar143.1) (State.isArrayOf_alike hZ.alike Ar143.2.1) Ar143.2.2 hin143 hat143 (g := (mkF m 386 #[jv x0, .second, jv x1, .second, jv x2, .second, jv (w0_4 x0 x1 x2), .second, jv (w0_10 x0 x1 x2), .second, jv (w0_17 x0 x1 x2), .second, rv b4, rv b8, iv (j0_204_14 x0 x1 x2), rv b45, iv (j0_367_16 x0 x1 x2)] [(.int (5 : Int32)), (.ref b8), (.int (v0_380 x0 x1 x2))])) rfl rfl (hb hby at_386)) ?_
                                  have jn395_145 : Goes p e below s (QL (some (.int (r0 x0 x1 x2))) n0) room_1.cells room_1.slots (T142.setTop (mkF m 395 #[jv x0, .second, jv x1, .second, jv x2, .second, jv (w0_4 x0 x1 x2), .second, jv (w0_10 x0 x1 x2), .second, jv (w0_17 x0 x1 x2), .second, rv b4, rv b8, iv (j0_204_14 x0 x1 x2), rv b45, iv (j0_367_16 x0 x1 x2)] [(.int (j0_395_s0 x0 x1 x2))])) := by
                                    refine Goes.run X142 hx hown hci hcl hby (L := [(395, .istore 16, 2)]) (by decide +kernel) rfl (g' := (mkF m 397 #[jv x0, .second, jv x1, .second, jv x2, .second, jv (w0_4 x0 x1 x2), .second, jv (w0_10 x0 x1 x2), .second, jv (w0_17 x0 x1 x2), .second, rv b4, rv b8, iv (j0_204_14 x0 x1 x2), rv b45, iv (j0_395_s0 x0 x1 x2)] [])) rfl ?_
                                    have q := jn397_94
                                    rw [show (j0_397_16 x0 x1 x2) = (j0_395_s0 x0 x1 x2) from ((if_neg hc369_87).trans (if_pos hc375_141)), show (j0_397_size x0 x1 x2) = (o0_380_2 x0 x1 x2) from ((if_neg hc369_87).trans (if_pos hc375_141)), show (j0_397_place x0 x1 x2) = (o0_380_3 x0 x1 x2) from ((if_neg hc369_87).trans (if_pos hc375_141)), show (j0_397_e0 x0 x1 x2) = (o0_380_5_0 x0 x1 x2) from ((if_neg hc369_87).trans (if_pos hc375_141)), show (j0_397_e1 x0 x1 x2) = (o0_380_5_1 x0 x1 x2) from ((if_neg hc369_87).trans (if_pos hc375_141)), show (j0_397_e2 x0 x1 x2) = (o0_380_5_2 x0 x1 x2) from ((if_neg hc369_87).trans (if_pos hc375_141)), show (j0_397_e0_a x0 x1 x2) = (o0_380_4_0 x0 x1 x2) from ((if_neg hc369_87).trans (if_pos hc375_141)), show (j0_397_e1_a x0 x1 x2) = (o0_380_4_1 x0 x1 x2) from ((if_neg hc369_87).trans (if_pos hc375_141)), show (j0_397_e2_a x0 x1 x2) = (o0_380_4_2 x0 x1 x2) from ((if_neg hc369_87).trans (if_pos hc375_141))] at q
                                    exact q _ _ _ X142 e142 N142 Zn142 E_b4 V_b4 E_b45 F_wanted_b45 F_ring_b45 F_size_b45 F_place_b45 E_b8 V_b8 V_r46 V_w46
                                  by_cases hc387_144 : (v0_380 x0 x1 x2) = (j0_204_e5 x0 x1 x2)
                                  · skip
                                    refine Goes.st (B := T142.setTop (mkF m 390 #[jv x0, .second, jv x1, .second, jv x2, .second, jv (w0_4 x0 x1 x2), .second, jv (w0_10 x0 x1 x2), .second, jv (w0_17 x0 x1 x2), .second, rv b4, rv b8, iv (j0_204_14 x0 x1 x2), rv b45, iv (j0_367_16 x0 x1 x2)] [])) (fun t k => ?_) ?_
                                    · refine XS.icmpNo X142.here hx rfl (hb hby at_387) rfl (teq hc387_144).2 ?_
                                      exact k
                                    refine Goes.run X142 hx hown hci hcl hby (L := [(390, .iconst 1, 1), (391, .goto 4, 3)]) (by decide +kernel) rfl (g' := (mkF m 395 #[jv x0, .second, jv x1, .second, jv x2, .second, jv (w0_4 x0 x1 x2), .second, jv (w0_10 x0 x1 x2), .second, jv (w0_17 x0 x1 x2), .second, rv b4, rv b8, iv (j0_204_14 x0 x1 x2), rv b45, iv (j0_367_16 x0 x1 x2)] [(.int (1 : Int32))])) rfl ?_
                                    have q := jn395_145
                                    rw [show (j0_395_s0 x0 x1 x2) = (1 : Int32) from (if_pos hc387_144)] at q
                                    exact q
                                  · skip
                                    refine Goes.st (B := T142.setTop (mkF m 394 #[jv x0, .second, jv x1, .second, jv x2, .second, jv (w0_4 x0 x1 x2), .second, jv (w0_10 x0 x1 x2), .second, jv (w0_17 x0 x1 x2), .second, rv b4, rv b8, iv (j0_204_14 x0 x1 x2), rv b45, iv (j0_367_16 x0 x1 x2)] [])) (fun t k => ?_) ?_
                                    · refine XS.icmpYes X142.here hx rfl (pc0 := 387) (pc' := 394) rfl (hb hby at_387) rfl (feq hc387_144).2 (by decide) (by decide) ?_
                                      exact k
                                    refine Goes.run X142 hx hown hci hcl hby (L := [(394, .iconst 0, 1)]) (by decide +kernel) rfl (g' := (mkF m 395 #[jv x0, .second, jv x1, .second, jv x2, .second, jv (w0_4 x0 x1 x2), .second, jv (w0_10 x0 x1 x2), .second, jv (w0_17 x0 x1 x2), .second, rv b4, rv b8, iv (j0_204_14 x0 x1 x2), rv b45, iv (j0_367_16 x0 x1 x2)] [(.int (0 : Int32))])) rfl ?_
                                    have q := jn395_145
                                    rw [show (j0_395_s0 x0 x1 x2) = (0 : Int32) from (if_neg hc387_144)] at q
                                    exact q
                                · skip
                                  refine Goes.st (B := T85.setTop (mkF m 397 #[jv x0, .second, jv x1, .second, jv x2, .second, jv (w0_4 x0 x1 x2), .second, jv (w0_10 x0 x1 x2), .second, jv (w0_17 x0 x1 x2), .second, rv b4, rv b8, iv (j0_204_14 x0 x1 x2), rv b45, iv (j0_367_16 x0 x1 x2)] [])) (fun t k => ?_) ?_
                                  · refine XS.icmpYes X85.here hx rfl (pc0 := 375) (pc' := 397) rfl (hb hby at_375) rfl (flt hc375_141).2.2.2 (by decide) (by decide) ?_
                                    exact k
                                  have q := jn397_94
                                  rw [show (j0_397_16 x0 x1 x2) = (j0_367_16 x0 x1 x2) from ((if_neg hc369_87).trans (if_neg hc375_141)), show (j0_397_size x0 x1 x2) = (j0_367_size x0 x1 x2) from ((if_neg hc369_87).trans (if_neg hc375_141)), show (j0_397_place x0 x1 x2) = (j0_367_place x0 x1 x2) from ((if_neg hc369_87).trans (if_neg hc375_141)), show (j0_397_e0 x0 x1 x2) = (j0_367_e0 x0 x1 x2) from ((if_neg hc369_87).trans (if_neg hc375_141)), show (j0_397_e1 x0 x1 x2) = (j0_367_e1 x0 x1 x2) from ((if_neg hc369_87).trans (if_neg hc375_141)), show (j0_397_e2 x0 x1 x2) = (j0_367_e2 x0 x1 x2) from ((if_neg hc369_87).trans (if_neg hc375_141)), show (j0_397_e0_a x0 x1 x2) = (j0_367_e0_a x0 x1 x2) from ((if_neg hc369_87).trans (if_neg hc375_141)), show (j0_397_e1_a x0 x1 x2) = (j0_367_e1_a x0 x1 x2) from ((if_neg hc369_87).trans (if_neg hc375_141)), show (j0_397_e2_a x0 x1 x2) = (j0_367_e2_a x0 x1 x2) from ((if_neg hc369_87).trans (if_neg hc375_141))] at q
                                  exact q _ _ _ X85 e85 N85 Zn85 E_b4 V_b4 E_b45 F_wanted_b45 F_ring_b45 F_size_b45 F_place_b45 E_b8 V_b8 V_r46 V_w46
                            by_cases hc339_79 : (j0_337_16 x0 x1 x2) = (0 : Int32)
                            · skip
                              refine Goes.st (B := T77.setTop (mkF m 367 #[jv x0, .second, jv x1, .second, jv x2, .second, jv (w0_4 x0 x1 x2), .second, jv (w0_10 x0 x1 x2), .second, jv (w0_17 x0 x1 x2), .second, rv b4, rv b8, iv (j0_204_14 x0 x1 x2), rv b45, iv (j0_337_16 x0 x1 x2)] [])) (fun t k => ?_) ?_
                              · refine XS.ifYes X77.here hx rfl (pc0 := 339) (pc' := 367) rfl (hb hby at_339) rfl ((if0 _ _).trans (teq hc339_79).1) (by decide) (by decide) ?_
                                exact k
                              have q := jn367_86
                              rw [show (j0_367_16 x0 x1 x2) = (j0_337_16 x0 x1 x2) from (if_pos hc339_79), show (j0_367_size x0 x1 x2) = (j0_337_size x0 x1 x2) from (if_pos hc339_79), show (j0_367_place x0 x1 x2) = (j0_337_place x0 x1 x2) from (if_pos hc339_79), show (j0_367_e0 x0 x1 x2) = (j0_337_e0 x0 x1 x2) from (if_pos hc339_79), show (j0_367_e1 x0 x1 x2) = (j0_337_e1 x0 x1 x2) from (if_pos hc339_79), show (j0_367_e2 x0 x1 x2) = (j0_337_e2 x0 x1 x2) from (if_pos hc339_79), show (j0_367_e0_a x0 x1 x2) = (j0_337_e0_a x0 x1 x2) from (if_pos hc339_79), show (j0_367_e1_a x0 x1 x2) = (j0_337_e1_a x0 x1 x2) from (if_pos hc339_79), show (j0_367_e2_a x0 x1 x2) = (j0_337_e2_a x0 x1 x2) from (if_pos hc339_79)] at q
                              exact q _ _ _ X77 e77 N77 Zn77 E_b4 V_b4 E_b45 F_wanted_b45 F_ring_b45 F_size_b45 F_place_b45 E_b8 V_b8 V_r46 V_w46
                            · skip
                              refine Goes.st (B := T77.setTop (mkF m 342 #[jv x0, .second, jv x1, .second, jv x2, .second, jv (w0_4 x0 x1 x2), .second, jv (w0_10 x0 x1 x2), .second, jv (w0_17 x0 x1 x2), .second, rv b4, rv b8, iv (j0_204_14 x0 x1 x2), rv b45, iv (j0_337_16 x0 x1 x2)] [])) (fun t k => ?_) ?_
                              · refine XS.ifNo X77.here hx rfl (hb hby at_339) rfl ((if0 _ _).trans (feq hc339_79).1) ?_
                                exact k
                              refine Goes.run X77 hx hown hci hcl hby (L := [(342, .iload 14, 2), (344, .iconst 4, 1)]) (by decide +kernel) rfl (g' := (mkF m 345 #[jv x0, .second, jv x1, .second, jv x2, .second, jv (w0_4 x0 x1 x2), .second, jv (w0_10 x0 x1 x2), .second, jv (w0_17 x0 x1 x2), .second, rv b4, rv b8, iv (j0_204_14 x0 x1 x2), rv b45, iv (j0_337_16 x0 x1 x2)] [(.int (4 : Int32)), (.int (j0_204_14 x0 x1 x2))])) rfl ?_
                              by_cases hc345_146 : (4 : Int32) < (j0_204_14 x0 x1 x2)
                              · skip
                                refine Goes.st (B := T77.setTop (mkF m 348 #[jv x0, .second, jv x1, .second, jv x2, .second, jv (w0_4 x0 x1 x2), .second, jv (w0_10 x0 x1 x2), .second, jv (w0_17 x0 x1 x2), .second, rv b4, rv b8, iv (j0_204_14 x0 x1 x2), rv b45, iv (j0_337_16 x0 x1 x2)] [])) (fun t k => ?_) ?_
                                · refine XS.icmpNo X77.here hx rfl (hb hby at_345) rfl (tlt hc345_146).2.2.2 ?_
                                  exact k
                                refine Goes.run X77 hx hown hci hcl hby (L := [(348, .aload 15, 2)]) (by decide +kernel) rfl (g' := (mkF m 350 #[jv x0, .second, jv x1, .second, jv x2, .second, jv (w0_4 x0 x1 x2), .second, jv (w0_10 x0 x1 x2), .second, jv (w0_17 x0 x1 x2), .second, rv b4, rv b8, iv (j0_204_14 x0 x1 x2), rv b45, iv (j0_337_16 x0 x1 x2)] [(.ref b45)])) rfl ?_
                                obtain ⟨cq147, kq147, q147a, q147b, q147c⟩ := isOf hZ e77 E_b45
                                obtain ⟨_, _, ⟨T147, L147, k147, n147⟩, -, X147, ⟨Lc147, hQ147, l147, y147, z147⟩, st147⟩ := X77.virtualBack hx (y := ym2) (z := ym2) hown (mvT hZ w_33) (mvT hZ w_34) (notFace_of_selects (args := #[]) (mvT hZ w_36)) (mvT hZ w_36) (mvT hZ w_35) (by decide) (backOf (W := 0) (rm3 l Z a0 hw [] b45 w46 r46 k_w46 k_r46 (j0_337_e0_a x0 x1 x2) (j0_337_e1_a x0 x1 x2) (j0_337_e2_a x0 x1 x2) (j0_337_e0 x0 x1 x2) (j0_337_e1 x0 x1 x2) (j0_337_e2 x0 x1 x2) (j0_337_size x0 x1 x2) (j0_337_place x0 x1 x2) h77 n0 Zn77 E_b45 F_wanted_b45 F_ring_b45 F_size_b45 F_place_b45 V_w46 V_r46 g_b45 g_w46 g_r46 ne_b45_w46 ne_b45_r46 nq46_0_1 (own_v4 x0 x1 x2 hc345_146).1 (own_v4 x0 x1 x2 hc345_146).2.1 (own_v4 x0 x1 x2 hc345_146).2.2.1 (own_v4 x0 x1 x2 hc345_146).2.2.2.1 (own_v4 x0 x1 x2 hc345_146).2.2.2.2) hZ w_37 w_11 (by decide) (by decide)) q147a q147c (g := (mkF m 350 #[jv x0, .second, jv x1, .second, jv x2, .second, jv (w0_4 x0 x1 x2), .second, jv (w0_10 x0 x1 x2), .second, jv (w0_17 x0 x1 x2), .second, rv b4, rv b8, iv (j0_204_14 x0 x1 x2), rv b45, iv (j0_337_16 x0 x1 x2)] [(.ref b45)])) rfl (by rw [hml]; rfl) (Steps.refl _) (argsL := []) (rest := []) (lenOf pd0_2 rfl) rfl (by show 2 * 0 + _ ≤ _; exact Nat.le_of_eq rfl) (hb hby at_350) (fun _ _ => ⟨rfl, e77, (by decide : 5 + 0 ≤ _), (by decide : 22 + 0 ≤ _)⟩)
                                dsimp only [Pt.U, Pt.locs, Pt.cells, Pt.slots] at X147 l147 y147 z147 st147 hQ147
                                subst l147 y147 z147
                                obtain ⟨h147, eh147⟩ : ∃ z, z = T147.heap := ⟨_, rfl⟩
                                rw [← eh147] at hQ147
                                have e147 : T147.heap = h147 := eh147.symm
                                obtain ⟨rfl, N147q, Kq147, o147_0, o147_1, o147_2, o147_3, o147_4, o147_5⟩ := hQ147
                                have N147 := Fr.app N77 N147q
                                have E_b4 := E_b4.keep Kq147
                                have V_b4 := V_b4.keep Kq147 (ninS ne_b4_b45 (ninS ne_b4_w46 (ninS ne_b4_r46 nin0)))
                                have E_b45 := E_b45.keep Kq147
                                have E_b8 := E_b8.keep Kq147
                                have V_b8 := V_b8.keep Kq147 (ninS ne_b8_b45 (ninS ne_b8_w46 (ninS ne_b8_r46 nin0)))
                                have F_wanted_b45 : Fld Z h147 b45 "com/example/kubera/kubera/DealingRing" "wanted" "[J" (.ref w46) := o147_0
                                have F_ring_b45 : Fld Z h147 b45 "com/example/kubera/kubera/DealingRing" "ring" "[I" (.ref r46) := o147_1
                                have F_size_b45 : Fld Z h147 b45 "com/example/kubera/kubera/DealingRing" "size" "I" (.int (o0_350_2 x0 x1 x2)) := o147_2
                                have F_place_b45 : Fld Z h147 b45 "com/example/kubera/kubera/DealingRing" "place" "I" (.int (o0_350_3 x0 x1 x2)) := o147_3
                                have V_w46 : Arv Z h147 w46 k_w46 .long (3 : Int32) [(.long (o0_350_4_0 x0 x1 x2)), (.long (o0_350_4_1 x0 x1 x2)), (.long (o0_350_4_2 x0 x1 x2))] (.long (0 : Int64)) := o147_4
                                have V_r46 : Arv Z h147 r46 k_r46 .int (3 : Int32) [(.int (o0_350_5_0 x0 x1 x2)), (.int (o0_350_5_1 x0 x1 x2)), (.int (o0_350_5_2 x0 x1 x2))] (.int (0 : Int32)) := o147_5
                                have Zn147 : n0 ≤ h147.size := Nat.le_trans Zn77 Kq147.1
                                refine Goes.st (B := T147.setTop (mkF m 353 #[jv x0, .second, jv x1, .second, jv x2, .second, jv (w0_4 x0 x1 x2), .second, jv (w0_10 x0 x1 x2), .second, jv (w0_17 x0 x1 x2), .second, rv b4, rv b8, iv (j0_204_14 x0 x1 x2), rv b45, iv (j0_337_16 x0 x1 x2)] [(.int (v0_350 x0 x1 x2))])) (fun t k => st147.trans k) ?_
                                refine Goes.run X147 hx hown hci hcl hby (L := [(353, .aload 13, 2), (355, .iconst 4, 1)]) (by decide +kernel) rfl (g' := (mkF m 356 #[jv x0, .second, jv x1, .second, jv x2, .second, jv (w0_4 x0 x1 x2), .second, jv (w0_10 x0 x1 x2), .second, jv (w0_17 x0 x1 x2), .second, rv b4, rv b8, iv (j0_204_14 x0 x1 x2), rv b45, iv (j0_337_16 x0 x1 x2)] [(.int (4 : Int32)), (.ref b8), (.int (v0_350 x0 x1 x2))])) rfl ?_
                                obtain ⟨cl148, Ar148, q148, S148, M148, Hs148, G148⟩ := id V_b8
                                have hin148 : ¬ ((4 : Int32) < 0 ∨ cl148.slots.size ≤ ((4 : Int32)).toNatClampNeg) := inb_of S148 ⟨(by decide), (by decide)⟩
                                have hat148 : cl148.slots[((4 : Int32)).toNatClampNeg]? = some (.int (j0_204_e4 x0 x1 x2)) := Hs148.at hin148 rfl
                                refine Goes.st (B := T147.setTop (mkF m 357 #[jv x0, .second, jv x1, .second, jv x2, .second, jv (w0_4 x0 x1 x2), .second, jv (w0_10 x0 x1 x2), .second, jv (w0_17 x0 x1 x2), .second, rv b4, rv b8, iv (j0_204_14 x0 x1 x2), rv b45, iv (j0_337_16 x0 x1 x2)] [(.int (j0_204_e4 x0 x1 x2)), (.int (v0_350 x0 x1 x2))])) (X147.iaload hx (j := (4 : Int32)) (v := (.int (j0_204_e4 x0 x1 x2))) (by rw [e147]; exact Ar148.1) (State.isArrayOf_alike hZ.alike Ar148.2.1) Ar148.2.2 hin148 hat148 (g := (mkF m 356 #[jv x0, .second, jv x1, .second, jv x2, .second, jv (w0_4 x0 x1 x2), .second, jv (w0_10 x0 x1 x2), .second, jv (w0_17 x0 x1 x2), .second, rv b4, rv b8, iv (j0_204_14 x0 x1 x2), rv b45, iv (j0_337_16 x0 x1 x2)] [(.int (4 : Int32)), (.ref b8), (.int (v0_350 x0 x1 x2))])) rfl rfl (hb hby at_356)) ?_
                                have jn365_150 : Goes p e below s (QL (some (.int (r0 x0 x1 x2))) n0) room_1.cells room_1.slots (T147.setTop (mkF m 365 #[jv x0, .second, jv x1, .second, jv x2, .second, jv (w0_4 x0 x1 x2), .second, jv (w0_10 x0 x1 x2), .second, jv (w0_17 x0 x1 x2), .second, rv b4, rv b8, iv (j0_204_14 x0 x1 x2), rv b45, iv (j0_337_16 x0 x1 x2)] [(.int (j0_365_s0 x0 x1 x2))])) := by
                                  refine Goes.run X147 hx hown hci hcl hby (L := [(365, .istore 16, 2)]) (by decide +kernel) rfl (g' := (mkF m 367 #[jv x0, .second, jv x1, .second, jv x2, .second, jv (w0_4 x0 x1 x2), .second, jv (w0_10 x0 x1 x2), .second, jv (w0_17 x0 x1 x2), .second, rv b4, rv b8, iv (j0_204_14 x0 x1 x2), rv b45, iv (j0_365_s0 x0 x1 x2)] [])) rfl ?_
                                  have q := jn367_86
                                  rw [show (j0_367_16 x0 x1 x2) = (j0_365_s0 x0 x1 x2) from ((if_neg hc339_79).trans (if_pos hc345_146)), show (j0_367_size x0 x1 x2) = (o0_350_2 x0 x1 x2) from ((if_neg hc339_79).trans (if_pos hc345_146)), show (j0_367_place x0 x1 x2) = (o0_350_3 x0 x1 x2) from ((if_neg hc339_79).trans (if_pos hc345_146)), show (j0_367_e0 x0 x1 x2) = (o0_350_5_0 x0 x1 x2) from ((if_neg hc339_79).trans (if_pos hc345_146)), show (j0_367_e1 x0 x1 x2) = (o0_350_5_1 x0 x1 x2) from ((if_neg hc339_79).trans (if_pos hc345_146)), show (j0_367_e2 x0 x1 x2) = (o0_350_5_2 x0 x1 x2) from ((if_neg hc339_79).trans (if_pos hc345_146)), show (j0_367_e0_a x0 x1 x2) = (o0_350_4_0 x0 x1 x2) from ((if_neg hc339_79).trans (if_pos hc345_146)), show (j0_367_e1_a x0 x1 x2) = (o0_350_4_1 x0 x1 x2) from ((if_neg hc339_79).trans (if_pos hc345_146)), show (j0_367_e2_a x0 x1 x2) = (o0_350_4_2 x0 x1 x2) from ((if_neg hc339_79).trans (if_pos hc345_146))] at q
                                  exact q _ _ _ X147 e147 N147 Zn147 E_b4 V_b4 E_b45 F_wanted_b45 F_ring_b45 F_size_b45 F_place_b45 E_b8 V_b8 V_r46 V_w46
                                by_cases hc357_149 : (v0_350 x0 x1 x2) = (j0_204_e4 x0 x1 x2)
                                · skip
                                  refine Goes.st (B := T147.setTop (mkF m 360 #[jv x0, .second, jv x1, .second, jv x2, .second, jv (w0_4 x0 x1 x2), .second, jv (w0_10 x0 x1 x2), .second, jv (w0_17 x0 x1 x2), .second, rv b4, rv b8, iv (j0_204_14 x0 x1 x2), rv b45, iv (j0_337_16 x0 x1 x2)] [])) (fun t k => ?_) ?_
                                  · refine XS.icmpNo X147.here hx rfl (hb hby at_357) rfl (teq hc357_149).2 ?_
                                    exact k
                                  refine Goes.run X147 hx hown hci hcl hby (L := [(360, .iconst 1, 1), (361, .goto 4, 3)]) (by decide +kernel) rfl (g' := (mkF m 365 #[jv x0, .second, jv x1, .second, jv x2, .second, jv (w0_4 x0 x1 x2), .second, jv (w0_10 x0 x1 x2), .second, jv (w0_17 x0 x1 x2), .second, rv b4, rv b8, iv (j0_204_14 x0 x1 x2), rv b45, iv (j0_337_16 x0 x1 x2)] [(.int (1 : Int32))])) rfl ?_
                                  have q := jn365_150
                                  rw [show (j0_365_s0 x0 x1 x2) = (1 : Int32) from (if_pos hc357_149)] at q
                                  exact q
                                · skip
                                  refine Goes.st (B := T147.setTop (mkF m 364 #[jv x0, .second, jv x1, .second, jv x2, .second, jv (w0_4 x0 x1 x2), .second, jv (w0_10 x0 x1 x2), .second, jv (w0_17 x0 x1 x2), .second, rv b4, rv b8, iv (j0_204_14 x0 x1 x2), rv b45, iv (j0_337_16 x0 x1 x2)] [])) (fun t k => ?_) ?_
                                  · refine XS.icmpYes X147.here hx rfl (pc0 := 357) (pc' := 364) rfl (hb hby at_357) rfl (feq hc357_149).2 (by decide) (by decide) ?_
                                    exact k
                                  refine Goes.run X147 hx hown hci hcl hby (L := [(364, .iconst 0, 1)]) (by decide +kernel) rfl (g' := (mkF m 365 #[jv x0, .second, jv x1, .second, jv x2, .second, jv (w0_4 x0 x1 x2), .second, jv (w0_10 x0 x1 x2), .second, jv (w0_17 x0 x1 x2), .second, rv b4, rv b8, iv (j0_204_14 x0 x1 x2), rv b45, iv (j0_337_16 x0 x1 x2)] [(.int (0 : Int32))])) rfl ?_
                                  have q := jn365_150
                                  rw [show (j0_365_s0 x0 x1 x2) = (0 : Int32) from (if_neg hc357_149)] at q
                                  exact q
                              · skip
                                refine Goes.st (B := T77.setTop (mkF m 367 #[jv x0, .second, jv x1, .second, jv x2, .second, jv (w0_4 x0 x1 x2), .second, jv (w0_10 x0 x1 x2), .second, jv (w0_17 x0 x1 x2), .second, rv b4, rv b8, iv (j0_204_14 x0 x1 x2), rv b45, iv (j0_337_16 x0 x1 x2)] [])) (fun t k => ?_) ?_
                                · refine XS.icmpYes X77.here hx rfl (pc0 := 345) (pc' := 367) rfl (hb hby at_345) rfl (flt hc345_146).2.2.2 (by decide) (by decide) ?_
                                  exact k
                                have q := jn367_86
                                rw [show (j0_367_16 x0 x1 x2) = (j0_337_16 x0 x1 x2) from ((if_neg hc339_79).trans (if_neg hc345_146)), show (j0_367_size x0 x1 x2) = (j0_337_size x0 x1 x2) from ((if_neg hc339_79).trans (if_neg hc345_146)), show (j0_367_place x0 x1 x2) = (j0_337_place x0 x1 x2) from ((if_neg hc339_79).trans (if_neg hc345_146)), show (j0_367_e0 x0 x1 x2) = (j0_337_e0 x0 x1 x2) from ((if_neg hc339_79).trans (if_neg hc345_146)), show (j0_367_e1 x0 x1 x2) = (j0_337_e1 x0 x1 x2) from ((if_neg hc339_79).trans (if_neg hc345_146)), show (j0_367_e2 x0 x1 x2) = (j0_337_e2 x0 x1 x2) from ((if_neg hc339_79).trans (if_neg hc345_146)), show (j0_367_e0_a x0 x1 x2) = (j0_337_e0_a x0 x1 x2) from ((if_neg hc339_79).trans (if_neg hc345_146)), show (j0_367_e1_a x0 x1 x2) = (j0_337_e1_a x0 x1 x2) from ((if_neg hc339_79).trans (if_neg hc345_146)), show (j0_367_e2_a x0 x1 x2) = (j0_337_e2_a x0 x1 x2) from ((if_neg hc339_79).trans (if_neg hc345_146))] at q
                                exact q _ _ _ X77 e77 N77 Zn77 E_b4 V_b4 E_b45 F_wanted_b45 F_ring_b45 F_size_b45 F_place_b45 E_b8 V_b8 V_r46 V_w46
                          by_cases hc309_71 : (j0_307_16 x0 x1 x2) = (0 : Int32)
                          · skip
                            refine Goes.st (B := T69.setTop (mkF m 337 #[jv x0, .second, jv x1, .second, jv x2, .second, jv (w0_4 x0 x1 x2), .second, jv (w0_10 x0 x1 x2), .second, jv (w0_17 x0 x1 x2), .second, rv b4, rv b8, iv (j0_204_14 x0 x1 x2), rv b45, iv (j0_307_16 x0 x1 x2)] [])) (fun t k => ?_) ?_
                            · refine XS.ifYes X69.here hx rfl (pc0 := 309) (pc' := 337) rfl (hb hby at_309) rfl ((if0 _ _).trans (teq hc309_71).1) (by decide) (by decide) ?_
                              exact k
                            have q := jn337_78
                            rw [show (j0_337_16 x0 x1 x2) = (j0_307_16 x0 x1 x2) from (if_pos hc309_71), show (j0_337_size x0 x1 x2) = (j0_307_size x0 x1 x2) from (if_pos hc309_71), show (j0_337_place x0 x1 x2) = (j0_307_place x0 x1 x2) from (if_pos hc309_71), show (j0_337_e0 x0 x1 x2) = (j0_307_e0 x0 x1 x2) from (if_pos hc309_71), show (j0_337_e1 x0 x1 x2) = (j0_307_e1 x0 x1 x2) from (if_pos hc309_71), show (j0_337_e2 x0 x1 x2) = (j0_307_e2 x0 x1 x2) from (if_pos hc309_71), show (j0_337_e0_a x0 x1 x2) = (j0_307_e0_a x0 x1 x2) from (if_pos hc309_71), show (j0_337_e1_a x0 x1 x2) = (j0_307_e1_a x0 x1 x2) from (if_pos hc309_71), show (j0_337_e2_a x0 x1 x2) = (j0_307_e2_a x0 x1 x2) from (if_pos hc309_71)] at q
                            exact q _ _ _ X69 e69 N69 Zn69 E_b4 V_b4 E_b45 F_wanted_b45 F_ring_b45 F_size_b45 F_place_b45 E_b8 V_b8 V_r46 V_w46
                          · skip
                            refine Goes.st (B := T69.setTop (mkF m 312 #[jv x0, .second, jv x1, .second, jv x2, .second, jv (w0_4 x0 x1 x2), .second, jv (w0_10 x0 x1 x2), .second, jv (w0_17 x0 x1 x2), .second, rv b4, rv b8, iv (j0_204_14 x0 x1 x2), rv b45, iv (j0_307_16 x0 x1 x2)] [])) (fun t k => ?_) ?_
                            · refine XS.ifNo X69.here hx rfl (hb hby at_309) rfl ((if0 _ _).trans (feq hc309_71).1) ?_
                              exact k
                            refine Goes.run X69 hx hown hci hcl hby (L := [(312, .iload 14, 2), (314, .iconst 3, 1)]) (by decide +kernel) rfl (g' := (mkF m 315 #[jv x0, .second, jv x1, .second, jv x2, .second, jv (w0_4 x0 x1 x2), .second, jv (w0_10 x0 x1 x2), .second, jv (w0_17 x0 x1 x2), .second, rv b4, rv b8, iv (j0_204_14 x0 x1 x2), rv b45, iv (j0_307_16 x0 x1 x2)] [(.int (3 : Int32)), (.int (j0_204_14 x0 x1 x2))])) rfl ?_
                            by_cases hc315_151 : (3 : Int32) < (j0_204_14 x0 x1 x2)
                            · skip
                              refine Goes.st (B := T69.setTop (mkF m 318 #[jv x0, .second, jv x1, .second, jv x2, .second, jv (w0_4 x0 x1 x2), .second, jv (w0_10 x0 x1 x2), .second, jv (w0_17 x0 x1 x2), .second, rv b4, rv b8, iv (j0_204_14 x0 x1 x2), rv b45, iv (j0_307_16 x0 x1 x2)] [])) (fun t k => ?_) ?_
                              · refine XS.icmpNo X69.here hx rfl (hb hby at_315) rfl (tlt hc315_151).2.2.2 ?_
                                exact k
                              refine Goes.run X69 hx hown hci hcl hby (L := [(318, .aload 15, 2)]) (by decide +kernel) rfl (g' := (mkF m 320 #[jv x0, .second, jv x1, .second, jv x2, .second, jv (w0_4 x0 x1 x2), .second, jv (w0_10 x0 x1 x2), .second, jv (w0_17 x0 x1 x2), .second, rv b4, rv b8, iv (j0_204_14 x0 x1 x2), rv b45, iv (j0_307_16 x0 x1 x2)] [(.ref b45)])) rfl ?_
                              obtain ⟨cq152, kq152, q152a, q152b, q152c⟩ := isOf hZ e69 E_b45
                              obtain ⟨_, _, ⟨T152, L152, k152, n152⟩, -, X152, ⟨Lc152, hQ152, l152, y152, z152⟩, st152⟩ := X69.virtualBack hx (y := ym2) (z := ym2) hown (mvT hZ w_33) (mvT hZ w_34) (notFace_of_selects (args := #[]) (mvT hZ w_36)) (mvT hZ w_36) (mvT hZ w_35) (by decide) (backOf (W := 0) (rm3 l Z a0 hw [] b45 w46 r46 k_w46 k_r46 (j0_307_e0_a x0 x1 x2) (j0_307_e1_a x0 x1 x2) (j0_307_e2_a x0 x1 x2) (j0_307_e0 x0 x1 x2) (j0_307_e1 x0 x1 x2) (j0_307_e2 x0 x1 x2) (j0_307_size x0 x1 x2) (j0_307_place x0 x1 x2) h69 n0 Zn69 E_b45 F_wanted_b45 F_ring_b45 F_size_b45 F_place_b45 V_w46 V_r46 g_b45 g_w46 g_r46 ne_b45_w46 ne_b45_r46 nq46_0_1 (own_v3 x0 x1 x2 hc315_151).1 (own_v3 x0 x1 x2 hc315_151).2.1 (own_v3 x0 x1 x2 hc315_151).2.2.1 (own_v3 x0 x1 x2 hc315_151).2.2.2.1 (own_v3 x0 x1 x2 hc315_151).2.2.2.2) hZ w_37 w_11 (by decide) (by decide)) q152a q152c (g := (mkF m 320 #[jv x0, .second, jv x1, .second, jv x2, .second, jv (w0_4 x0 x1 x2), .second, jv (w0_10 x0 x1 x2), .second, jv (w0_17 x0 x1 x2), .second, rv b4, rv b8, iv (j0_204_14 x0 x1 x2), rv b45, iv (j0_307_16 x0 x1 x2)] [(.ref b45)])) rfl (by rw [hml]; rfl) (Steps.refl _) (argsL := []) (rest := []) (lenOf pd0_2 rfl) rfl (by show 2 * 0 + _ ≤ _; exact Nat.le_of_eq rfl) (hb hby at_320) (fun _ _ => ⟨rfl, e69, (by decide : 5 + 0 ≤ _), (by decide : 22 + 0 ≤ _)⟩)
                              dsimp only [Pt.U, Pt.locs, Pt.cells, Pt.slots] at X152 l152 y152 z152 st152 hQ152
                              subst l152 y152 z152
                              obtain ⟨h152, eh152⟩ : ∃ z, z = T152.heap := ⟨_, rfl⟩
                              rw [← eh152] at hQ152
                              have e152 : T152.heap = h152 := eh152.symm
                              obtain ⟨rfl, N152q, Kq152, o152_0, o152_1, o152_2, o152_3, o152_4, o152_5⟩ := hQ152
                              have N152 := Fr.app N69 N152q
                              have E_b4 := E_b4.keep Kq152
                              have V_b4 := V_b4.keep Kq152 (ninS ne_b4_b45 (ninS ne_b4_w46 (ninS ne_b4_r46 nin0)))
                              have E_b45 := E_b45.keep Kq152
                              have E_b8 := E_b8.keep Kq152
                              have V_b8 := V_b8.keep Kq152 (ninS ne_b8_b45 (ninS ne_b8_w46 (ninS ne_b8_r46 nin0)))
                              have F_wanted_b45 : Fld Z h152 b45 "com/example/kubera/kubera/DealingRing" "wanted" "[J" (.ref w46) := o152_0
                              have F_ring_b45 : Fld Z h152 b45 "com/example/kubera/kubera/DealingRing" "ring" "[I" (.ref r46) := o152_1
                              have F_size_b45 : Fld Z h152 b45 "com/example/kubera/kubera/DealingRing" "size" "I" (.int (o0_320_2 x0 x1 x2)) := o152_2
                              have F_place_b45 : Fld Z h152 b45 "com/example/kubera/kubera/DealingRing" "place" "I" (.int (o0_320_3 x0 x1 x2)) := o152_3
                              have V_w46 : Arv Z h152 w46 k_w46 .long (3 : Int32) [(.long (o0_320_4_0 x0 x1 x2)), (.long (o0_320_4_1 x0 x1 x2)), (.long (o0_320_4_2 x0 x1 x2))] (.long (0 : Int64)) := o152_4
                              have V_r46 : Arv Z h152 r46 k_r46 .int (3 : Int32) [(.int (o0_320_5_0 x0 x1 x2)), (.int (o0_320_5_1 x0 x1 x2)), (.int (o0_320_5_2 x0 x1 x2))] (.int (0 : Int32)) := o152_5
                              have Zn152 : n0 ≤ h152.size := Nat.le_trans Zn69 Kq152.1
                              refine Goes.st (B := T152.setTop (mkF m 323 #[jv x0, .second, jv x1, .second, jv x2, .second, jv (w0_4 x0 x1 x2), .second, jv (w0_10 x0 x1 x2), .second, jv (w0_17 x0 x1 x2), .second, rv b4, rv b8, iv (j0_204_14 x0 x1 x2), rv b45, iv (j0_307_16 x0 x1 x2)] [(.int (v0_320 x0 x1 x2))])) (fun t k => st152.trans k) ?_
                              refine Goes.run X152 hx hown hci hcl hby (L := [(323, .aload 13, 2), (325, .iconst 3, 1)]) (by decide +kernel) rfl (g' := (mkF m 326 #[jv x0, .second, jv x1, .second, jv x2, .second, jv (w0_4 x0 x1 x2), .second, jv (w0_10 x0 x1 x2), .second, jv (w0_17 x0 x1 x2), .second, rv b4, rv b8, iv (j0_204_14 x0 x1 x2), rv b45, iv (j0_307_16 x0 x1 x2)] [(.int (3 : Int32)), (.ref b8), (.int (v0_320 x0 x1 x2))])) rfl ?_
                              obtain ⟨cl153, Ar153, q153, S153, M153, Hs153, G153⟩ := id V_b8
                              have hin153 : ¬ ((3 : Int32) < 0 ∨ cl153.slots.size ≤ ((3 : Int32)).toNatClampNeg) := inb_of S153 ⟨(by decide), (by decide)⟩
                              have hat153 : cl153.slots[((3 : Int32)).toNatClampNeg]? = some (.int (j0_204_e3 x0 x1 x2)) := Hs153.at hin153 rfl
                              refine Goes.st (B := T152.setTop (mkF m 327 #[jv x0, .second, jv x1, .second, jv x2, .second, jv (w0_4 x0 x1 x2), .second, jv (w0_10 x0 x1 x2), .second, jv (w0_17 x0 x1 x2), .second, rv b4, rv b8, iv (j0_204_14 x0 x1 x2), rv b45, iv (j0_307_16 x0 x1 x2)] [(.int (j0_204_e3 x0 x1 x2)), (.int (v0_320 x0 x1 x2))])) (X152.iaload hx (j := (3 : Int32)) (v := (.int (j0_204_e3 x0 x1 x2))) (by rw [e152]; exact Ar153.1) (State.isArrayOf_alike hZ.alike Ar153.2.1) Ar153.2.2 hin153 hat153 (g := (mkF m 326 #[jv x0, .second, jv x1, .second, jv x2, .second, jv (w0_4 x0 x1 x2), .second, jv (w0_10 x0 x1 x2), .second, jv (w0_17 x0 x1 x2), .second, rv b4, rv b8, iv (j0_204_14 x0 x1 x2), rv b45, iv (j0_307_16 x0 x1 x2)] [(.int (3 : Int32)), (.ref b8), (.int (v0_320 x0 x1 x2))])) rfl rfl (hb hby at_326)) ?_
                              have jn335_155 : Goes p e below s (QL (some (.int (r0 x0 x1 x2))) n0) room_1.cells room_1.slots (T152.setTop (mkF m 335 #[jv x0, .second, jv x1, .second, jv x2, .second, jv (w0_4 x0 x1 x2), .second, jv (w0_10 x0 x1 x2), .second, jv (w0_17 x0 x1 x2), .second, rv b4, rv b8, iv (j0_204_14 x0 x1 x2), rv b45, iv (j0_307_16 x0 x1 x2)] [(.int (j0_335_s0 x0 x1 x2))])) := by
                                refine Goes.run X152 hx hown hci hcl hby (L := [(335, .istore 16, 2)]) (by decide +kernel) rfl (g' := (mkF m 337 #[jv x0, .second, jv x1, .second, jv x2, .second, jv (w0_4 x0 x1 x2), .second, jv (w0_10 x0 x1 x2), .second, jv (w0_17 x0 x1 x2), .second, rv b4, rv b8, iv (j0_204_14 x0 x1 x2), rv b45, iv (j0_335_s0 x0 x1 x2)] [])) rfl ?_
                                have q := jn337_78
                                rw [show (j0_337_16 x0 x1 x2) = (j0_335_s0 x0 x1 x2) from ((if_neg hc309_71).trans (if_pos hc315_151)), show (j0_337_size x0 x1 x2) = (o0_320_2 x0 x1 x2) from ((if_neg hc309_71).trans (if_pos hc315_151)), show (j0_337_place x0 x1 x2) = (o0_320_3 x0 x1 x2) from ((if_neg hc309_71).trans (if_pos hc315_151)), show (j0_337_e0 x0 x1 x2) = (o0_320_5_0 x0 x1 x2) from ((if_neg hc309_71).trans (if_pos hc315_151)), show (j0_337_e1 x0 x1 x2) = (o0_320_5_1 x0 x1 x2) from ((if_neg hc309_71).trans (if_pos hc315_151)), show (j0_337_e2 x0 x1 x2) = (o0_320_5_2 x0 x1 x2) from ((if_neg hc309_71).trans (if_pos hc315_151)), show (j0_337_e0_a x0 x1 x2) = (o0_320_4_0 x0 x1 x2) from ((if_neg hc309_71).trans (if_pos hc315_151)), show (j0_337_e1_a x0 x1 x2) = (o0_320_4_1 x0 x1 x2) from ((if_neg hc309_71).trans (if_pos hc315_151)), show (j0_337_e2_a x0 x1 x2) = (o0_320_4_2 x0 x1 x2) from ((if_neg hc309_71).trans (if_pos hc315_151))] at q
                                exact q _ _ _ X152 e152 N152 Zn152 E_b4 V_b4 E_b45 F_wanted_b45 F_ring_b45 F_size_b45 F_place_b45 E_b8 V_b8 V_r46 V_w46
                              by_cases hc327_154 : (v0_320 x0 x1 x2) = (j0_204_e3 x0 x1 x2)
                              · skip
                                refine Goes.st (B := T152.setTop (mkF m 330 #[jv x0, .second, jv x1, .second, jv x2, .second, jv (w0_4 x0 x1 x2), .second, jv (w0_10 x0 x1 x2), .second, jv (w0_17 x0 x1 x2), .second, rv b4, rv b8, iv (j0_204_14 x0 x1 x2), rv b45, iv (j0_307_16 x0 x1 x2)] [])) (fun t k => ?_) ?_
                                · refine XS.icmpNo X152.here hx rfl (hb hby at_327) rfl (teq hc327_154).2 ?_
                                  exact k
                                refine Goes.run X152 hx hown hci hcl hby (L := [(330, .iconst 1, 1), (331, .goto 4, 3)]) (by decide +kernel) rfl (g' := (mkF m 335 #[jv x0, .second, jv x1, .second, jv x2, .second, jv (w0_4 x0 x1 x2), .second, jv (w0_10 x0 x1 x2), .second, jv (w0_17 x0 x1 x2), .second, rv b4, rv b8, iv (j0_204_14 x0 x1 x2), rv b45, iv (j0_307_16 x0 x1 x2)] [(.int (1 : Int32))])) rfl ?_
                                have q := jn335_155
                                rw [show (j0_335_s0 x0 x1 x2) = (1 : Int32) from (if_pos hc327_154)] at q
                                exact q
                              · skip
                                refine Goes.st (B := T152.setTop (mkF m 334 #[jv x0, .second, jv x1, .second, jv x2, .second, jv (w0_4 x0 x1 x2), .second, jv (w0_10 x0 x1 x2), .second, jv (w0_17 x0 x1 x2), .second, rv b4, rv b8, iv (j0_204_14 x0 x1 x2), rv b45, iv (j0_307_16 x0 x1 x2)] [])) (fun t k => ?_) ?_
                                · refine XS.icmpYes X152.here hx rfl (pc0 := 327) (pc' := 334) rfl (hb hby at_327) rfl (feq hc327_154).2 (by decide) (by decide) ?_
                                  exact k
                                refine Goes.run X152 hx hown hci hcl hby (L := [(334, .iconst 0, 1)]) (by decide +kernel) rfl (g' := (mkF m 335 #[jv x0, .second, jv x1, .second, jv x2, .second, jv (w0_4 x0 x1 x2), .second, jv (w0_10 x0 x1 x2), .second, jv (w0_17 x0 x1 x2), .second, rv b4, rv b8, iv (j0_204_14 x0 x1 x2), rv b45, iv (j0_307_16 x0 x1 x2)] [(.int (0 : Int32))])) rfl ?_
                                have q := jn335_155
                                rw [show (j0_335_s0 x0 x1 x2) = (0 : Int32) from (if_neg hc327_154)] at q
                                exact q
                            · skip
                              refine Goes.st (B := T69.setTop (mkF m 337 #[jv x0, .second, jv x1, .second, jv x2, .second, jv (w0_4 x0 x1 x2), .second, jv (w0_10 x0 x1 x2), .second, jv (w0_17 x0 x1 x2), .second, rv b4, rv b8, iv (j0_204_14 x0 x1 x2), rv b45, iv (j0_307_16 x0 x1 x2)] [])) (fun t k => ?_) ?_
                              · refine XS.icmpYes X69.here hx rfl (pc0 := 315) (pc' := 337) rfl (hb hby at_315) rfl (flt hc315_151).2.2.2 (by decide) (by decide) ?_
                                exact k
                              have q := jn337_78
                              rw [show (j0_337_16 x0 x1 x2) = (j0_307_16 x0 x1 x2) from ((if_neg hc309_71).trans (if_neg hc315_151)), show (j0_337_size x0 x1 x2) = (j0_307_size x0 x1 x2) from ((if_neg hc309_71).trans (if_neg hc315_151)), show (j0_337_place x0 x1 x2) = (j0_307_place x0 x1 x2) from ((if_neg hc309_71).trans (if_neg hc315_151)), show (j0_337_e0 x0 x1 x2) = (j0_307_e0 x0 x1 x2) from ((if_neg hc309_71).trans (if_neg hc315_151)), show (j0_337_e1 x0 x1 x2) = (j0_307_e1 x0 x1 x2) from ((if_neg hc309_71).trans (if_neg hc315_151)), show (j0_337_e2 x0 x1 x2) = (j0_307_e2 x0 x1 x2) from ((if_neg hc309_71).trans (if_neg hc315_151)), show (j0_337_e0_a x0 x1 x2) = (j0_307_e0_a x0 x1 x2) from ((if_neg hc309_71).trans (if_neg hc315_151)), show (j0_337_e1_a x0 x1 x2) = (j0_307_e1_a x0 x1 x2) from ((if_neg hc309_71).trans (if_neg hc315_151)), show (j0_337_e2_a x0 x1 x2) = (j0_307_e2_a x0 x1 x2) from ((if_neg hc309_71).trans (if_neg hc315_151))] at q
                              exact q _ _ _ X69 e69 N69 Zn69 E_b4 V_b4 E_b45 F_wanted_b45 F_ring_b45 F_size_b45 F_place_b45 E_b8 V_b8 V_r46 V_w46
                        by_cases hc279_63 : (j0_277_16 x0 x1 x2) = (0 : Int32)
                        · skip
                          refine Goes.st (B := T61.setTop (mkF m 307 #[jv x0, .second, jv x1, .second, jv x2, .second, jv (w0_4 x0 x1 x2), .second, jv (w0_10 x0 x1 x2), .second, jv (w0_17 x0 x1 x2), .second, rv b4, rv b8, iv (j0_204_14 x0 x1 x2), rv b45, iv (j0_277_16 x0 x1 x2)] [])) (fun t k => ?_) ?_
                          · refine XS.ifYes X61.here hx rfl (pc0 := 279) (pc' := 307) rfl (hb hby at_279) rfl ((if0 _ _).trans (teq hc279_63).1) (by decide) (by decide) ?_
                            exact k
                          have q := jn307_70
                          rw [show (j0_307_16 x0 x1 x2) = (j0_277_16 x0 x1 x2) from (if_pos hc279_63), show (j0_307_size x0 x1 x2) = (j0_277_size x0 x1 x2) from (if_pos hc279_63), show (j0_307_place x0 x1 x2) = (j0_277_place x0 x1 x2) from (if_pos hc279_63), show (j0_307_e0 x0 x1 x2) = (j0_277_e0 x0 x1 x2) from (if_pos hc279_63), show (j0_307_e1 x0 x1 x2) = (j0_277_e1 x0 x1 x2) from (if_pos hc279_63), show (j0_307_e2 x0 x1 x2) = (j0_277_e2 x0 x1 x2) from (if_pos hc279_63), show (j0_307_e0_a x0 x1 x2) = (j0_277_e0_a x0 x1 x2) from (if_pos hc279_63), show (j0_307_e1_a x0 x1 x2) = (j0_277_e1_a x0 x1 x2) from (if_pos hc279_63), show (j0_307_e2_a x0 x1 x2) = (j0_277_e2_a x0 x1 x2) from (if_pos hc279_63)] at q
                          exact q _ _ _ X61 e61 N61 Zn61 E_b4 V_b4 E_b45 F_wanted_b45 F_ring_b45 F_size_b45 F_place_b45 E_b8 V_b8 V_r46 V_w46
                        · skip
                          refine Goes.st (B := T61.setTop (mkF m 282 #[jv x0, .second, jv x1, .second, jv x2, .second, jv (w0_4 x0 x1 x2), .second, jv (w0_10 x0 x1 x2), .second, jv (w0_17 x0 x1 x2), .second, rv b4, rv b8, iv (j0_204_14 x0 x1 x2), rv b45, iv (j0_277_16 x0 x1 x2)] [])) (fun t k => ?_) ?_
                          · refine XS.ifNo X61.here hx rfl (hb hby at_279) rfl ((if0 _ _).trans (feq hc279_63).1) ?_
                            exact k
                          refine Goes.run X61 hx hown hci hcl hby (L := [(282, .iload 14, 2), (284, .iconst 2, 1)]) (by decide +kernel) rfl (g' := (mkF m 285 #[jv x0, .second, jv x1, .second, jv x2, .second, jv (w0_4 x0 x1 x2), .second, jv (w0_10 x0 x1 x2), .second, jv (w0_17 x0 x1 x2), .second, rv b4, rv b8, iv (j0_204_14 x0 x1 x2), rv b45, iv (j0_277_16 x0 x1 x2)] [(.int (2 : Int32)), (.int (j0_204_14 x0 x1 x2))])) rfl ?_
                          by_cases hc285_156 : (2 : Int32) < (j0_204_14 x0 x1 x2)
                          · skip
                            refine Goes.st (B := T61.setTop (mkF m 288 #[jv x0, .second, jv x1, .second, jv x2, .second, jv (w0_4 x0 x1 x2), .second, jv (w0_10 x0 x1 x2), .second, jv (w0_17 x0 x1 x2), .second, rv b4, rv b8, iv (j0_204_14 x0 x1 x2), rv b45, iv (j0_277_16 x0 x1 x2)] [])) (fun t k => ?_) ?_
                            · refine XS.icmpNo X61.here hx rfl (hb hby at_285) rfl (tlt hc285_156).2.2.2 ?_
                              exact k
                            refine Goes.run X61 hx hown hci hcl hby (L := [(288, .aload 15, 2)]) (by decide +kernel) rfl (g' := (mkF m 290 #[jv x0, .second, jv x1, .second, jv x2, .second, jv (w0_4 x0 x1 x2), .second, jv (w0_10 x0 x1 x2), .second, jv (w0_17 x0 x1 x2), .second, rv b4, rv b8, iv (j0_204_14 x0 x1 x2), rv b45, iv (j0_277_16 x0 x1 x2)] [(.ref b45)])) rfl ?_
                            obtain ⟨cq157, kq157, q157a, q157b, q157c⟩ := isOf hZ e61 E_b45
                            obtain ⟨_, _, ⟨T157, L157, k157, n157⟩, -, X157, ⟨Lc157, hQ157, l157, y157, z157⟩, st157⟩ := X61.virtualBack hx (y := ym2) (z := ym2) hown (mvT hZ w_33) (mvT hZ w_34) (notFace_of_selects (args := #[]) (mvT hZ w_36)) (mvT hZ w_36) (mvT hZ w_35) (by decide) (backOf (W := 0) (rm3 l Z a0 hw [] b45 w46 r46 k_w46 k_r46 (j0_277_e0_a x0 x1 x2) (j0_277_e1_a x0 x1 x2) (j0_277_e2_a x0 x1 x2) (j0_277_e0 x0 x1 x2) (j0_277_e1 x0 x1 x2) (j0_277_e2 x0 x1 x2) (j0_277_size x0 x1 x2) (j0_277_place x0 x1 x2) h61 n0 Zn61 E_b45 F_wanted_b45 F_ring_b45 F_size_b45 F_place_b45 V_w46 V_r46 g_b45 g_w46 g_r46 ne_b45_w46 ne_b45_r46 nq46_0_1 (own_v2 x0 x1 x2 hc285_156).1 (own_v2 x0 x1 x2 hc285_156).2.1 (own_v2 x0 x1 x2 hc285_156).2.2.1 (own_v2 x0 x1 x2 hc285_156).2.2.2.1 (own_v2 x0 x1 x2 hc285_156).2.2.2.2) hZ w_37 w_11 (by decide) (by decide)) q157a q157c (g := (mkF m 290 #[jv x0, .second, jv x1, .second, jv x2, .second, jv (w0_4 x0 x1 x2), .second, jv (w0_10 x0 x1 x2), .second, jv (w0_17 x0 x1 x2), .second, rv b4, rv b8, iv (j0_204_14 x0 x1 x2), rv b45, iv (j0_277_16 x0 x1 x2)] [(.ref b45)])) rfl (by rw [hml]; rfl) (Steps.refl _) (argsL := []) (rest := []) (lenOf pd0_2 rfl) rfl (by show 2 * 0 + _ ≤ _; exact Nat.le_of_eq rfl) (hb hby at_290) (fun _ _ => ⟨rfl, e61, (by decide : 5 + 0 ≤ _), (by decide : 22 + 0 ≤ _)⟩)
                            dsimp only [Pt.U, Pt.locs, Pt.cells, Pt.slots] at X157 l157 y157 z157 st157 hQ157
                            subst l157 y157 z157
                            obtain ⟨h157, eh157⟩ : ∃ z, z = T157.heap := ⟨_, rfl⟩
                            rw [← eh157] at hQ157
                            have e157 : T157.heap = h157 := eh157.symm
                            obtain ⟨rfl, N157q, Kq157, o157_0, o157_1, o157_2, o157_3, o157_4, o157_5⟩ := hQ157
                            have N157 := Fr.app N61 N157q
                            have E_b4 := E_b4.keep Kq157
                            have V_b4 := V_b4.keep Kq157 (ninS ne_b4_b45 (ninS ne_b4_w46 (ninS ne_b4_r46 nin0)))
                            have E_b45 := E_b45.keep Kq157
                            have E_b8 := E_b8.keep Kq157
                            have V_b8 := V_b8.keep Kq157 (ninS ne_b8_b45 (ninS ne_b8_w46 (ninS ne_b8_r46 nin0)))
                            have F_wanted_b45 : Fld Z h157 b45 "com/example/kubera/kubera/DealingRing" "wanted" "[J" (.ref w46) := o157_0
                            have F_ring_b45 : Fld Z h157 b45 "com/example/kubera/kubera/DealingRing" "ring" "[I" (.ref r46) := o157_1
                            have F_size_b45 : Fld Z h157 b45 "com/example/kubera/kubera/DealingRing" "size" "I" (.int (o0_290_2 x0 x1 x2)) := o157_2
                            have F_place_b45 : Fld Z h157 b45 "com/example/kubera/kubera/DealingRing" "place" "I" (.int (o0_290_3 x0 x1 x2)) := o157_3
                            have V_w46 : Arv Z h157 w46 k_w46 .long (3 : Int32) [(.long (o0_290_4_0 x0 x1 x2)), (.long (o0_290_4_1 x0 x1 x2)), (.long (o0_290_4_2 x0 x1 x2))] (.long (0 : Int64)) := o157_4
                            have V_r46 : Arv Z h157 r46 k_r46 .int (3 : Int32) [(.int (o0_290_5_0 x0 x1 x2)), (.int (o0_290_5_1 x0 x1 x2)), (.int (o0_290_5_2 x0 x1 x2))] (.int (0 : Int32)) := o157_5
                            have Zn157 : n0 ≤ h157.size := Nat.le_trans Zn61 Kq157.1
                            refine Goes.st (B := T157.setTop (mkF m 293 #[jv x0, .second, jv x1, .second, jv x2, .second, jv (w0_4 x0 x1 x2), .second, jv (w0_10 x0 x1 x2), .second, jv (w0_17 x0 x1 x2), .second, rv b4, rv b8, iv (j0_204_14 x0 x1 x2), rv b45, iv (j0_277_16 x0 x1 x2)] [(.int (v0_290 x0 x1 x2))])) (fun t k => st157.trans k) ?_
                            refine Goes.run X157 hx hown hci hcl hby (L := [(293, .aload 13, 2), (295, .iconst 2, 1)]) (by decide +kernel) rfl (g' := (mkF m 296 #[jv x0, .second, jv x1, .second, jv x2, .second, jv (w0_4 x0 x1 x2), .second, jv (w0_10 x0 x1 x2), .second, jv (w0_17 x0 x1 x2), .second, rv b4, rv b8, iv (j0_204_14 x0 x1 x2), rv b45, iv (j0_277_16 x0 x1 x2)] [(.int (2 : Int32)), (.ref b8), (.int (v0_290 x0 x1 x2))])) rfl ?_
                            obtain ⟨cl158, Ar158, q158, S158, M158, Hs158, G158⟩ := id V_b8
                            have hin158 : ¬ ((2 : Int32) < 0 ∨ cl158.slots.size ≤ ((2 : Int32)).toNatClampNeg) := inb_of S158 ⟨(by decide), (by decide)⟩
                            have hat158 : cl158.slots[((2 : Int32)).toNatClampNeg]? = some (.int (j0_204_e2 x0 x1 x2)) := Hs158.at hin158 rfl
                            refine Goes.st (B := T157.setTop (mkF m 297 #[jv x0, .second, jv x1, .second, jv x2, .second, jv (w0_4 x0 x1 x2), .second, jv (w0_10 x0 x1 x2), .second, jv (w0_17 x0 x1 x2), .second, rv b4, rv b8, iv (j0_204_14 x0 x1 x2), rv b45, iv (j0_277_16 x0 x1 x2)] [(.int (j0_204_e2 x0 x1 x2)), (.int (v0_290 x0 x1 x2))])) (X157.iaload hx (j := (2 : Int32)) (v := (.int (j0_204_e2 x0 x1 x2))) (by rw [e157]; exact Ar158.1) (State.isArrayOf_alike hZ.alike Ar158.2.1) Ar158.2.2 hin158 hat158 (g := (mkF m 296 #[jv x0, .second, jv x1, .second, jv x2, .second, jv (w0_4 x0 x1 x2), .second, jv (w0_10 x0 x1 x2), .second, jv (w0_17 x0 x1 x2), .second, rv b4, rv b8, iv (j0_204_14 x0 x1 x2), rv b45, iv (j0_277_16 x0 x1 x2)] [(.int (2 : Int32)), (.ref b8), (.int (v0_290 x0 x1 x2))])) rfl rfl (hb hby at_296)) ?_
                            have jn305_160 : Goes p e below s (QL (some (.int (r0 x0 x1 x2))) n0) room_1.cells room_1.slots (T157.setTop (mkF m 305 #[jv x0, .second, jv x1, .second, jv x2, .second, jv (w0_4 x0 x1 x2), .second, jv (w0_10 x0 x1 x2), .second, jv (w0_17 x0 x1 x2), .second, rv b4, rv b8, iv (j0_204_14 x0 x1 x2), rv b45, iv (j0_277_16 x0 x1 x2)] [(.int (j0_305_s0 x0 x1 x2))])) := by
                              refine Goes.run X157 hx hown hci hcl hby (L := [(305, .istore 16, 2)]) (by decide +kernel) rfl (g' := (mkF m 307 #[jv x0, .second, jv x1, .second, jv x2, .second, jv (w0_4 x0 x1 x2), .second, jv (w0_10 x0 x1 x2), .second, jv (w0_17 x0 x1 x2), .second, rv b4, rv b8, iv (j0_204_14 x0 x1 x2), rv b45, iv (j0_305_s0 x0 x1 x2)] [])) rfl ?_
                              have q := jn307_70
                              rw [show (j0_307_16 x0 x1 x2) = (j0_305_s0 x0 x1 x2) from ((if_neg hc279_63).trans (if_pos hc285_156)), show (j0_307_size x0 x1 x2) = (o0_290_2 x0 x1 x2) from ((if_neg hc279_63).trans (if_pos hc285_156)), show (j0_307_place x0 x1 x2) = (o0_290_3 x0 x1 x2) from ((if_neg hc279_63).trans (if_pos hc285_156)), show (j0_307_e0 x0 x1 x2) = (o0_290_5_0 x0 x1 x2) from ((if_neg hc279_63).trans (if_pos hc285_156)), show (j0_307_e1 x0 x1 x2) = (o0_290_5_1 x0 x1 x2) from ((if_neg hc279_63).trans (if_pos hc285_156)), show (j0_307_e2 x0 x1 x2) = (o0_290_5_2 x0 x1 x2) from ((if_neg hc279_63).trans (if_pos hc285_156)), show (j0_307_e0_a x0 x1 x2) = (o0_290_4_0 x0 x1 x2) from ((if_neg hc279_63).trans (if_pos hc285_156)), show (j0_307_e1_a x0 x1 x2) = (o0_290_4_1 x0 x1 x2) from ((if_neg hc279_63).trans (if_pos hc285_156)), show (j0_307_e2_a x0 x1 x2) = (o0_290_4_2 x0 x1 x2) from ((if_neg hc279_63).trans (if_pos hc285_156))] at q
                              exact q _ _ _ X157 e157 N157 Zn157 E_b4 V_b4 E_b45 F_wanted_b45 F_ring_b45 F_size_b45 F_place_b45 E_b8 V_b8 V_r46 V_w46
                            by_cases hc297_159 : (v0_290 x0 x1 x2) = (j0_204_e2 x0 x1 x2)
                            · skip
                              refine Goes.st (B := T157.setTop (mkF m 300 #[jv x0, .second, jv x1, .second, jv x2, .second, jv (w0_4 x0 x1 x2), .second, jv (w0_10 x0 x1 x2), .second, jv (w0_17 x0 x1 x2), .second, rv b4, rv b8, iv (j0_204_14 x0 x1 x2), rv b45, iv (j0_277_16 x0 x1 x2)] [])) (fun t k => ?_) ?_
                              · refine XS.icmpNo X157.here hx rfl (hb hby at_297) rfl (teq hc297_159).2 ?_
                                exact k
                              refine Goes.run X157 hx hown hci hcl hby (L := [(300, .iconst 1, 1), (301, .goto 4, 3)]) (by decide +kernel) rfl (g' := (mkF m 305 #[jv x0, .second, jv x1, .second, jv x2, .second, jv (w0_4 x0 x1 x2), .second, jv (w0_10 x0 x1 x2), .second, jv (w0_17 x0 x1 x2), .second, rv b4, rv b8, iv (j0_204_14 x0 x1 x2), rv b45, iv (j0_277_16 x0 x1 x2)] [(.int (1 : Int32))])) rfl ?_
                              have q := jn305_160
                              rw [show (j0_305_s0 x0 x1 x2) = (1 : Int32) from (if_pos hc297_159)] at q
                              exact q
                            · skip
                              refine Goes.st (B := T157.setTop (mkF m 304 #[jv x0, .second, jv x1, .second, jv x2, .second, jv (w0_4 x0 x1 x2), .second, jv (w0_10 x0 x1 x2), .second, jv (w0_17 x0 x1 x2), .second, rv b4, rv b8, iv (j0_204_14 x0 x1 x2), rv b45, iv (j0_277_16 x0 x1 x2)] [])) (fun t k => ?_) ?_
                              · refine XS.icmpYes X157.here hx rfl (pc0 := 297) (pc' := 304) rfl (hb hby at_297) rfl (feq hc297_159).2 (by decide) (by decide) ?_
                                exact k
                              refine Goes.run X157 hx hown hci hcl hby (L := [(304, .iconst 0, 1)]) (by decide +kernel) rfl (g' := (mkF m 305 #[jv x0, .second, jv x1, .second, jv x2, .second, jv (w0_4 x0 x1 x2), .second, jv (w0_10 x0 x1 x2), .second, jv (w0_17 x0 x1 x2), .second, rv b4, rv b8, iv (j0_204_14 x0 x1 x2), rv b45, iv (j0_277_16 x0 x1 x2)] [(.int (0 : Int32))])) rfl ?_
                              have q := jn305_160
                              rw [show (j0_305_s0 x0 x1 x2) = (0 : Int32) from (if_neg hc297_159)] at q
                              exact q
                          · skip
                            refine Goes.st (B := T61.setTop (mkF m 307 #[jv x0, .second, jv x1, .second, jv x2, .second, jv (w0_4 x0 x1 x2), .second, jv (w0_10 x0 x1 x2), .second, jv (w0_17 x0 x1 x2), .second, rv b4, rv b8, iv (j0_204_14 x0 x1 x2), rv b45, iv (j0_277_16 x0 x1 x2)] [])) (fun t k => ?_) ?_
                            · refine XS.icmpYes X61.here hx rfl (pc0 := 285) (pc' := 307) rfl (hb hby at_285) rfl (flt hc285_156).2.2.2 (by decide) (by decide) ?_
                              exact k
                            have q := jn307_70
                            rw [show (j0_307_16 x0 x1 x2) = (j0_277_16 x0 x1 x2) from ((if_neg hc279_63).trans (if_neg hc285_156)), show (j0_307_size x0 x1 x2) = (j0_277_size x0 x1 x2) from ((if_neg hc279_63).trans (if_neg hc285_156)), show (j0_307_place x0 x1 x2) = (j0_277_place x0 x1 x2) from ((if_neg hc279_63).trans (if_neg hc285_156)), show (j0_307_e0 x0 x1 x2) = (j0_277_e0 x0 x1 x2) from ((if_neg hc279_63).trans (if_neg hc285_156)), show (j0_307_e1 x0 x1 x2) = (j0_277_e1 x0 x1 x2) from ((if_neg hc279_63).trans (if_neg hc285_156)), show (j0_307_e2 x0 x1 x2) = (j0_277_e2 x0 x1 x2) from ((if_neg hc279_63).trans (if_neg hc285_156)), show (j0_307_e0_a x0 x1 x2) = (j0_277_e0_a x0 x1 x2) from ((if_neg hc279_63).trans (if_neg hc285_156)), show (j0_307_e1_a x0 x1 x2) = (j0_277_e1_a x0 x1 x2) from ((if_neg hc279_63).trans (if_neg hc285_156)), show (j0_307_e2_a x0 x1 x2) = (j0_277_e2_a x0 x1 x2) from ((if_neg hc279_63).trans (if_neg hc285_156))] at q
                            exact q _ _ _ X61 e61 N61 Zn61 E_b4 V_b4 E_b45 F_wanted_b45 F_ring_b45 F_size_b45 F_place_b45 E_b8 V_b8 V_r46 V_w46
                      by_cases hc249_55 : (j0_247_16 x0 x1 x2) = (0 : Int32)
                      · skip
                        refine Goes.st (B := T53.setTop (mkF m 277 #[jv x0, .second, jv x1, .second, jv x2, .second, jv (w0_4 x0 x1 x2), .second, jv (w0_10 x0 x1 x2), .second, jv (w0_17 x0 x1 x2), .second, rv b4, rv b8, iv (j0_204_14 x0 x1 x2), rv b45, iv (j0_247_16 x0 x1 x2)] [])) (fun t k => ?_) ?_
                        · refine XS.ifYes X53.here hx rfl (pc0 := 249) (pc' := 277) rfl (hb hby at_249) rfl ((if0 _ _).trans (teq hc249_55).1) (by decide) (by decide) ?_
                          exact k
                        have q := jn277_62
                        rw [show (j0_277_16 x0 x1 x2) = (j0_247_16 x0 x1 x2) from (if_pos hc249_55), show (j0_277_size x0 x1 x2) = (j0_247_size x0 x1 x2) from (if_pos hc249_55), show (j0_277_place x0 x1 x2) = (j0_247_place x0 x1 x2) from (if_pos hc249_55), show (j0_277_e0 x0 x1 x2) = (j0_247_e0 x0 x1 x2) from (if_pos hc249_55), show (j0_277_e1 x0 x1 x2) = (j0_247_e1 x0 x1 x2) from (if_pos hc249_55), show (j0_277_e2 x0 x1 x2) = (j0_247_e2 x0 x1 x2) from (if_pos hc249_55), show (j0_277_e0_a x0 x1 x2) = (j0_247_e0_a x0 x1 x2) from (if_pos hc249_55), show (j0_277_e1_a x0 x1 x2) = (j0_247_e1_a x0 x1 x2) from (if_pos hc249_55), show (j0_277_e2_a x0 x1 x2) = (j0_247_e2_a x0 x1 x2) from (if_pos hc249_55)] at q
                        exact q _ _ _ X53 e53 N53 Zn53 E_b4 V_b4 E_b45 F_wanted_b45 F_ring_b45 F_size_b45 F_place_b45 E_b8 V_b8 V_r46 V_w46
                      · skip
                        refine Goes.st (B := T53.setTop (mkF m 252 #[jv x0, .second, jv x1, .second, jv x2, .second, jv (w0_4 x0 x1 x2), .second, jv (w0_10 x0 x1 x2), .second, jv (w0_17 x0 x1 x2), .second, rv b4, rv b8, iv (j0_204_14 x0 x1 x2), rv b45, iv (j0_247_16 x0 x1 x2)] [])) (fun t k => ?_) ?_
                        · refine XS.ifNo X53.here hx rfl (hb hby at_249) rfl ((if0 _ _).trans (feq hc249_55).1) ?_
                          exact k
                        refine Goes.run X53 hx hown hci hcl hby (L := [(252, .iload 14, 2), (254, .iconst 1, 1)]) (by decide +kernel) rfl (g' := (mkF m 255 #[jv x0, .second, jv x1, .second, jv x2, .second, jv (w0_4 x0 x1 x2), .second, jv (w0_10 x0 x1 x2), .second, jv (w0_17 x0 x1 x2), .second, rv b4, rv b8, iv (j0_204_14 x0 x1 x2), rv b45, iv (j0_247_16 x0 x1 x2)] [(.int (1 : Int32)), (.int (j0_204_14 x0 x1 x2))])) rfl ?_
                        by_cases hc255_161 : (1 : Int32) < (j0_204_14 x0 x1 x2)
                        · skip
                          refine Goes.st (B := T53.setTop (mkF m 258 #[jv x0, .second, jv x1, .second, jv x2, .second, jv (w0_4 x0 x1 x2), .second, jv (w0_10 x0 x1 x2), .second, jv (w0_17 x0 x1 x2), .second, rv b4, rv b8, iv (j0_204_14 x0 x1 x2), rv b45, iv (j0_247_16 x0 x1 x2)] [])) (fun t k => ?_) ?_
                          · refine XS.icmpNo X53.here hx rfl (hb hby at_255) rfl (tlt hc255_161).2.2.2 ?_
                            exact k
                          refine Goes.run X53 hx hown hci hcl hby (L := [(258, .aload 15, 2)]) (by decide +kernel) rfl (g' := (mkF m 260 #[jv x0, .second, jv x1, .second, jv x2, .second, jv (w0_4 x0 x1 x2), .second, jv (w0_10 x0 x1 x2), .second, jv (w0_17 x0 x1 x2), .second, rv b4, rv b8, iv (j0_204_14 x0 x1 x2), rv b45, iv (j0_247_16 x0 x1 x2)] [(.ref b45)])) rfl ?_
                          obtain ⟨cq162, kq162, q162a, q162b, q162c⟩ := isOf hZ e53 E_b45
                          obtain ⟨_, _, ⟨T162, L162, k162, n162⟩, -, X162, ⟨Lc162, hQ162, l162, y162, z162⟩, st162⟩ := X53.virtualBack hx (y := ym2) (z := ym2) hown (mvT hZ w_33) (mvT hZ w_34) (notFace_of_selects (args := #[]) (mvT hZ w_36)) (mvT hZ w_36) (mvT hZ w_35) (by decide) (backOf (W := 0) (rm3 l Z a0 hw [] b45 w46 r46 k_w46 k_r46 (j0_247_e0_a x0 x1 x2) (j0_247_e1_a x0 x1 x2) (j0_247_e2_a x0 x1 x2) (j0_247_e0 x0 x1 x2) (j0_247_e1 x0 x1 x2) (j0_247_e2 x0 x1 x2) (j0_247_size x0 x1 x2) (j0_247_place x0 x1 x2) h53 n0 Zn53 E_b45 F_wanted_b45 F_ring_b45 F_size_b45 F_place_b45 V_w46 V_r46 g_b45 g_w46 g_r46 ne_b45_w46 ne_b45_r46 nq46_0_1 (own_v1 x0 x1 x2 hc255_161).1 (own_v1 x0 x1 x2 hc255_161).2.1 (own_v1 x0 x1 x2 hc255_161).2.2.1 (own_v1 x0 x1 x2 hc255_161).2.2.2.1 (own_v1 x0 x1 x2 hc255_161).2.2.2.2) hZ w_37 w_11 (by decide) (by decide)) q162a q162c (g := (mkF m 260 #[jv x0, .second, jv x1, .second, jv x2, .second, jv (w0_4 x0 x1 x2), .second, jv (w0_10 x0 x1 x2), .second, jv (w0_17 x0 x1 x2), .second, rv b4, rv b8, iv (j0_204_14 x0 x1 x2), rv b45, iv (j0_247_16 x0 x1 x2)] [(.ref b45)])) rfl (by rw [hml]; rfl) (Steps.refl _) (argsL := []) (rest := []) (lenOf pd0_2 rfl) rfl (by show 2 * 0 + _ ≤ _; exact Nat.le_of_eq rfl) (hb hby at_260) (fun _ _ => ⟨rfl, e53, (by decide : 5 + 0 ≤ _), (by decide : 22 + 0 ≤ _)⟩)
                          dsimp only [Pt.U, Pt.locs, Pt.cells, Pt.slots] at X162 l162 y162 z162 st162 hQ162
                          subst l162 y162 z162
                          obtain ⟨h162, eh162⟩ : ∃ z, z = T162.heap := ⟨_, rfl⟩
                          rw [← eh162] at hQ162
                          have e162 : T162.heap = h162 := eh162.symm
                          obtain ⟨rfl, N162q, Kq162, o162_0, o162_1, o162_2, o162_3, o162_4, o162_5⟩ := hQ162
                          have N162 := Fr.app N53 N162q
                          have E_b4 := E_b4.keep Kq162
                          have V_b4 := V_b4.keep Kq162 (ninS ne_b4_b45 (ninS ne_b4_w46 (ninS ne_b4_r46 nin0)))
                          have E_b45 := E_b45.keep Kq162
                          have E_b8 := E_b8.keep Kq162
                          have V_b8 := V_b8.keep Kq162 (ninS ne_b8_b45 (ninS ne_b8_w46 (ninS ne_b8_r46 nin0)))
                          have F_wanted_b45 : Fld Z h162 b45 "com/example/kubera/kubera/DealingRing" "wanted" "[J" (.ref w46) := o162_0
                          have F_ring_b45 : Fld Z h162 b45 "com/example/kubera/kubera/DealingRing" "ring" "[I" (.ref r46) := o162_1
                          have F_size_b45 : Fld Z h162 b45 "com/example/kubera/kubera/DealingRing" "size" "I" (.int (o0_260_2 x0 x1 x2)) := o162_2
                          have F_place_b45 : Fld Z h162 b45 "com/example/kubera/kubera/DealingRing" "place" "I" (.int (o0_260_3 x0 x1 x2)) := o162_3
                          have V_w46 : Arv Z h162 w46 k_w46 .long (3 : Int32) [(.long (o0_260_4_0 x0 x1 x2)), (.long (o0_260_4_1 x0 x1 x2)), (.long (o0_260_4_2 x0 x1 x2))] (.long (0 : Int64)) := o162_4
                          have V_r46 : Arv Z h162 r46 k_r46 .int (3 : Int32) [(.int (o0_260_5_0 x0 x1 x2)), (.int (o0_260_5_1 x0 x1 x2)), (.int (o0_260_5_2 x0 x1 x2))] (.int (0 : Int32)) := o162_5
                          have Zn162 : n0 ≤ h162.size := Nat.le_trans Zn53 Kq162.1
                          refine Goes.st (B := T162.setTop (mkF m 263 #[jv x0, .second, jv x1, .second, jv x2, .second, jv (w0_4 x0 x1 x2), .second, jv (w0_10 x0 x1 x2), .second, jv (w0_17 x0 x1 x2), .second, rv b4, rv b8, iv (j0_204_14 x0 x1 x2), rv b45, iv (j0_247_16 x0 x1 x2)] [(.int (v0_260 x0 x1 x2))])) (fun t k => st162.trans k) ?_
                          refine Goes.run X162 hx hown hci hcl hby (L := [(263, .aload 13, 2), (265, .iconst 1, 1)]) (by decide +kernel) rfl (g' := (mkF m 266 #[jv x0, .second, jv x1, .second, jv x2, .second, jv (w0_4 x0 x1 x2), .second, jv (w0_10 x0 x1 x2), .second, jv (w0_17 x0 x1 x2), .second, rv b4, rv b8, iv (j0_204_14 x0 x1 x2), rv b45, iv (j0_247_16 x0 x1 x2)] [(.int (1 : Int32)), (.ref b8), (.int (v0_260 x0 x1 x2))])) rfl ?_
                          obtain ⟨cl163, Ar163, q163, S163, M163, Hs163, G163⟩ := id V_b8
                          have hin163 : ¬ ((1 : Int32) < 0 ∨ cl163.slots.size ≤ ((1 : Int32)).toNatClampNeg) := inb_of S163 ⟨(by decide), (by decide)⟩
                          have hat163 : cl163.slots[((1 : Int32)).toNatClampNeg]? = some (.int (j0_204_e1 x0 x1 x2)) := Hs163.at hin163 rfl
                          refine Goes.st (B := T162.setTop (mkF m 267 #[jv x0, .second, jv x1, .second, jv x2, .second, jv (w0_4 x0 x1 x2), .second, jv (w0_10 x0 x1 x2), .second, jv (w0_17 x0 x1 x2), .second, rv b4, rv b8, iv (j0_204_14 x0 x1 x2), rv b45, iv (j0_247_16 x0 x1 x2)] [(.int (j0_204_e1 x0 x1 x2)), (.int (v0_260 x0 x1 x2))])) (X162.iaload hx (j := (1 : Int32)) (v := (.int (j0_204_e1 x0 x1 x2))) (by rw [e162]; exact Ar163.1) (State.isArrayOf_alike hZ.alike Ar163.2.1) Ar163.2.2 hin163 hat163 (g := (mkF m 266 #[jv x0, .second, jv x1, .second, jv x2, .second, jv (w0_4 x0 x1 x2), .second, jv (w0_10 x0 x1 x2), .second, jv (w0_17 x0 x1 x2), .second, rv b4, rv b8, iv (j0_204_14 x0 x1 x2), rv b45, iv (j0_247_16 x0 x1 x2)] [(.int (1 : Int32)), (.ref b8), (.int (v0_260 x0 x1 x2))])) rfl rfl (hb hby at_266)) ?_
                          have jn275_165 : Goes p e below s (QL (some (.int (r0 x0 x1 x2))) n0) room_1.cells room_1.slots (T162.setTop (mkF m 275 #[jv x0, .second, jv x1, .second, jv x2, .second, jv (w0_4 x0 x1 x2), .second, jv (w0_10 x0 x1 x2), .second, jv (w0_17 x0 x1 x2), .second, rv b4, rv b8, iv (j0_204_14 x0 x1 x2), rv b45, iv (j0_247_16 x0 x1 x2)] [(.int (j0_275_s0 x0 x1 x2))])) := by
                            refine Goes.run X162 hx hown hci hcl hby (L := [(275, .istore 16, 2)]) (by decide +kernel) rfl (g' := (mkF m 277 #[jv x0, .second, jv x1, .second, jv x2, .second, jv (w0_4 x0 x1 x2), .second, jv (w0_10 x0 x1 x2), .second, jv (w0_17 x0 x1 x2), .second, rv b4, rv b8, iv (j0_204_14 x0 x1 x2), rv b45, iv (j0_275_s0 x0 x1 x2)] [])) rfl ?_
                            have q := jn277_62
                            rw [show (j0_277_16 x0 x1 x2) = (j0_275_s0 x0 x1 x2) from ((if_neg hc249_55).trans (if_pos hc255_161)), show (j0_277_size x0 x1 x2) = (o0_260_2 x0 x1 x2) from ((if_neg hc249_55).trans (if_pos hc255_161)), show (j0_277_place x0 x1 x2) = (o0_260_3 x0 x1 x2) from ((if_neg hc249_55).trans (if_pos hc255_161)), show (j0_277_e0 x0 x1 x2) = (o0_260_5_0 x0 x1 x2) from ((if_neg hc249_55).trans (if_pos hc255_161)), show (j0_277_e1 x0 x1 x2) = (o0_260_5_1 x0 x1 x2) from ((if_neg hc249_55).trans (if_pos hc255_161)), show (j0_277_e2 x0 x1 x2) = (o0_260_5_2 x0 x1 x2) from ((if_neg hc249_55).trans (if_pos hc255_161)), show (j0_277_e0_a x0 x1 x2) = (o0_260_4_0 x0 x1 x2) from ((if_neg hc249_55).trans (if_pos hc255_161)), show (j0_277_e1_a x0 x1 x2) = (o0_260_4_1 x0 x1 x2) from ((if_neg hc249_55).trans (if_pos hc255_161)), show (j0_277_e2_a x0 x1 x2) = (o0_260_4_2 x0 x1 x2) from ((if_neg hc249_55).trans (if_pos hc255_161))] at q
                            exact q _ _ _ X162 e162 N162 Zn162 E_b4 V_b4 E_b45 F_wanted_b45 F_ring_b45 F_size_b45 F_place_b45 E_b8 V_b8 V_r46 V_w46
                          by_cases hc267_164 : (v0_260 x0 x1 x2) = (j0_204_e1 x0 x1 x2)
                          · skip
                            refine Goes.st (B := T162.setTop (mkF m 270 #[jv x0, .second, jv x1, .second, jv x2, .second, jv (w0_4 x0 x1 x2), .second, jv (w0_10 x0 x1 x2), .second, jv (w0_17 x0 x1 x2), .second, rv b4, rv b8, iv (j0_204_14 x0 x1 x2), rv b45, iv (j0_247_16 x0 x1 x2)] [])) (fun t k => ?_) ?_
                            · refine XS.icmpNo X162.here hx rfl (hb hby at_267) rfl (teq hc267_164).2 ?_
                              exact k
                            refine Goes.run X162 hx hown hci hcl hby (L := [(270, .iconst 1, 1), (271, .goto 4, 3)]) (by decide +kernel) rfl (g' := (mkF m 275 #[jv x0, .second, jv x1, .second, jv x2, .second, jv (w0_4 x0 x1 x2), .second, jv (w0_10 x0 x1 x2), .second, jv (w0_17 x0 x1 x2), .second, rv b4, rv b8, iv (j0_204_14 x0 x1 x2), rv b45, iv (j0_247_16 x0 x1 x2)] [(.int (1 : Int32))])) rfl ?_
                            have q := jn275_165
                            rw [show (j0_275_s0 x0 x1 x2) = (1 : Int32) from (if_pos hc267_164)] at q
                            exact q
                          · skip
                            refine Goes.st (B := T162.setTop (mkF m 274 #[jv x0, .second, jv x1, .second, jv x2, .second, jv (w0_4 x0 x1 x2), .second, jv (w0_10 x0 x1 x2), .second, jv (w0_17 x0 x1 x2), .second, rv b4, rv b8, iv (j0_204_14 x0 x1 x2), rv b45, iv (j0_247_16 x0 x1 x2)] [])) (fun t k => ?_) ?_
                            · refine XS.icmpYes X162.here hx rfl (pc0 := 267) (pc' := 274) rfl (hb hby at_267) rfl (feq hc267_164).2 (by decide) (by decide) ?_
                              exact k
                            refine Goes.run X162 hx hown hci hcl hby (L := [(274, .iconst 0, 1)]) (by decide +kernel) rfl (g' := (mkF m 275 #[jv x0, .second, jv x1, .second, jv x2, .second, jv (w0_4 x0 x1 x2), .second, jv (w0_10 x0 x1 x2), .second, jv (w0_17 x0 x1 x2), .second, rv b4, rv b8, iv (j0_204_14 x0 x1 x2), rv b45, iv (j0_247_16 x0 x1 x2)] [(.int (0 : Int32))])) rfl ?_
                            have q := jn275_165
                            rw [show (j0_275_s0 x0 x1 x2) = (0 : Int32) from (if_neg hc267_164)] at q
                            exact q
                        · skip
                          refine Goes.st (B := T53.setTop (mkF m 277 #[jv x0, .second, jv x1, .second, jv x2, .second, jv (w0_4 x0 x1 x2), .second, jv (w0_10 x0 x1 x2), .second, jv (w0_17 x0 x1 x2), .second, rv b4, rv b8, iv (j0_204_14 x0 x1 x2), rv b45, iv (j0_247_16 x0 x1 x2)] [])) (fun t k => ?_) ?_
                          · refine XS.icmpYes X53.here hx rfl (pc0 := 255) (pc' := 277) rfl (hb hby at_255) rfl (flt hc255_161).2.2.2 (by decide) (by decide) ?_
                            exact k
                          have q := jn277_62
                          rw [show (j0_277_16 x0 x1 x2) = (j0_247_16 x0 x1 x2) from ((if_neg hc249_55).trans (if_neg hc255_161)), show (j0_277_size x0 x1 x2) = (j0_247_size x0 x1 x2) from ((if_neg hc249_55).trans (if_neg hc255_161)), show (j0_277_place x0 x1 x2) = (j0_247_place x0 x1 x2) from ((if_neg hc249_55).trans (if_neg hc255_161)), show (j0_277_e0 x0 x1 x2) = (j0_247_e0 x0 x1 x2) from ((if_neg hc249_55).trans (if_neg hc255_161)), show (j0_277_e1 x0 x1 x2) = (j0_247_e1 x0 x1 x2) from ((if_neg hc249_55).trans (if_neg hc255_161)), show (j0_277_e2 x0 x1 x2) = (j0_247_e2 x0 x1 x2) from ((if_neg hc249_55).trans (if_neg hc255_161)), show (j0_277_e0_a x0 x1 x2) = (j0_247_e0_a x0 x1 x2) from ((if_neg hc249_55).trans (if_neg hc255_161)), show (j0_277_e1_a x0 x1 x2) = (j0_247_e1_a x0 x1 x2) from ((if_neg hc249_55).trans (if_neg hc255_161)), show (j0_277_e2_a x0 x1 x2) = (j0_247_e2_a x0 x1 x2) from ((if_neg hc249_55).trans (if_neg hc255_161))] at q
                          exact q _ _ _ X53 e53 N53 Zn53 E_b4 V_b4 E_b45 F_wanted_b45 F_ring_b45 F_size_b45 F_place_b45 E_b8 V_b8 V_r46 V_w46
                    by_cases hc225_48 : (0 : Int32) < (j0_204_14 x0 x1 x2)
                    · skip
                      refine Goes.st (B := T46.setTop (mkF m 228 #[jv x0, .second, jv x1, .second, jv x2, .second, jv (w0_4 x0 x1 x2), .second, jv (w0_10 x0 x1 x2), .second, jv (w0_17 x0 x1 x2), .second, rv b4, rv b8, iv (j0_204_14 x0 x1 x2), rv b45, iv (1 : Int32)] [])) (fun t k => ?_) ?_
                      · refine XS.ifNo X46.here hx rfl (hb hby at_225) rfl ((if0 _ _).trans (tlt hc225_48).2.2.2) ?_
                        exact k
                      refine Goes.run X46 hx hown hci hcl hby (L := [(228, .aload 15, 2)]) (by decide +kernel) rfl (g' := (mkF m 230 #[jv x0, .second, jv x1, .second, jv x2, .second, jv (w0_4 x0 x1 x2), .second, jv (w0_10 x0 x1 x2), .second, jv (w0_17 x0 x1 x2), .second, rv b4, rv b8, iv (j0_204_14 x0 x1 x2), rv b45, iv (1 : Int32)] [(.ref b45)])) rfl ?_
                      obtain ⟨cq166, kq166, q166a, q166b, q166c⟩ := isOf hZ e46 E_b45
                      obtain ⟨_, _, ⟨T166, L166, k166, n166⟩, -, X166, ⟨Lc166, hQ166, l166, y166, z166⟩, st166⟩ := X46.virtualBack hx (y := ym2) (z := ym2) hown (mvT hZ w_33) (mvT hZ w_34) (notFace_of_selects (args := #[]) (mvT hZ w_36)) (mvT hZ w_36) (mvT hZ w_35) (by decide) (backOf (W := 0) (rm3 l Z a0 hw [] b45 w46 r46 k_w46 k_r46 (w0_4 x0 x1 x2) (w0_10 x0 x1 x2) (w0_17 x0 x1 x2) (o0_210_6_0 x0 x1 x2) (o0_210_6_1 x0 x1 x2) (o0_210_6_2 x0 x1 x2) (o0_210_3 x0 x1 x2) (0 : Int32) h46 n0 Zn46 E_b45 F_wanted_b45 F_ring_b45 F_size_b45 F_place_b45 V_w46 V_r46 g_b45 g_w46 g_r46 ne_b45_w46 ne_b45_r46 nq46_0_1 (own_v0 x0 x1 x2 hc225_48).1 (own_v0 x0 x1 x2 hc225_48).2.1 (own_v0 x0 x1 x2 hc225_48).2.2.1 (own_v0 x0 x1 x2 hc225_48).2.2.2.1 (own_v0 x0 x1 x2 hc225_48).2.2.2.2) hZ w_37 w_11 (by decide) (by decide)) q166a q166c (g := (mkF m 230 #[jv x0, .second, jv x1, .second, jv x2, .second, jv (w0_4 x0 x1 x2), .second, jv (w0_10 x0 x1 x2), .second, jv (w0_17 x0 x1 x2), .second, rv b4, rv b8, iv (j0_204_14 x0 x1 x2), rv b45, iv (1 : Int32)] [(.ref b45)])) rfl (by rw [hml]; rfl) (Steps.refl _) (argsL := []) (rest := []) (lenOf pd0_2 rfl) rfl (by show 2 * 0 + _ ≤ _; exact Nat.le_of_eq rfl) (hb hby at_230) (fun _ _ => ⟨rfl, e46, (by decide : 5 + 0 ≤ _), (by decide : 22 + 0 ≤ _)⟩)
                      dsimp only [Pt.U, Pt.locs, Pt.cells, Pt.slots] at X166 l166 y166 z166 st166 hQ166
                      subst l166 y166 z166
                      obtain ⟨h166, eh166⟩ : ∃ z, z = T166.heap := ⟨_, rfl⟩
                      rw [← eh166] at hQ166
                      have e166 : T166.heap = h166 := eh166.symm
                      obtain ⟨rfl, N166q, Kq166, o166_0, o166_1, o166_2, o166_3, o166_4, o166_5⟩ := hQ166
                      have N166 := Fr.app N46 N166q
                      have E_b4 := E_b4.keep Kq166
                      have V_b4 := V_b4.keep Kq166 (ninS ne_b4_b45 (ninS ne_b4_w46 (ninS ne_b4_r46 nin0)))
                      have E_b8 := E_b8.keep Kq166
                      have V_b8 := V_b8.keep Kq166 (ninS ne_b8_b45 (ninS ne_b8_w46 (ninS ne_b8_r46 nin0)))
                      have E_b45 := E_b45.keep Kq166
                      have F_wanted_b45 : Fld Z h166 b45 "com/example/kubera/kubera/DealingRing" "wanted" "[J" (.ref w46) := o166_0
                      have F_ring_b45 : Fld Z h166 b45 "com/example/kubera/kubera/DealingRing" "ring" "[I" (.ref r46) := o166_1
                      have F_size_b45 : Fld Z h166 b45 "com/example/kubera/kubera/DealingRing" "size" "I" (.int (o0_230_2 x0 x1 x2)) := o166_2
                      have F_place_b45 : Fld Z h166 b45 "com/example/kubera/kubera/DealingRing" "place" "I" (.int (o0_230_3 x0 x1 x2)) := o166_3
                      have V_w46 : Arv Z h166 w46 k_w46 .long (3 : Int32) [(.long (o0_230_4_0 x0 x1 x2)), (.long (o0_230_4_1 x0 x1 x2)), (.long (o0_230_4_2 x0 x1 x2))] (.long (0 : Int64)) := o166_4
                      have V_r46 : Arv Z h166 r46 k_r46 .int (3 : Int32) [(.int (o0_230_5_0 x0 x1 x2)), (.int (o0_230_5_1 x0 x1 x2)), (.int (o0_230_5_2 x0 x1 x2))] (.int (0 : Int32)) := o166_5
                      have Zn166 : n0 ≤ h166.size := Nat.le_trans Zn46 Kq166.1
                      refine Goes.st (B := T166.setTop (mkF m 233 #[jv x0, .second, jv x1, .second, jv x2, .second, jv (w0_4 x0 x1 x2), .second, jv (w0_10 x0 x1 x2), .second, jv (w0_17 x0 x1 x2), .second, rv b4, rv b8, iv (j0_204_14 x0 x1 x2), rv b45, iv (1 : Int32)] [(.int (v0_230 x0 x1 x2))])) (fun t k => st166.trans k) ?_
                      refine Goes.run X166 hx hown hci hcl hby (L := [(233, .aload 13, 2), (235, .iconst 0, 1)]) (by decide +kernel) rfl (g' := (mkF m 236 #[jv x0, .second, jv x1, .second, jv x2, .second, jv (w0_4 x0 x1 x2), .second, jv (w0_10 x0 x1 x2), .second, jv (w0_17 x0 x1 x2), .second, rv b4, rv b8, iv (j0_204_14 x0 x1 x2), rv b45, iv (1 : Int32)] [(.int (0 : Int32)), (.ref b8), (.int (v0_230 x0 x1 x2))])) rfl ?_
                      obtain ⟨cl167, Ar167, q167, S167, M167, Hs167, G167⟩ := id V_b8
                      have hin167 : ¬ ((0 : Int32) < 0 ∨ cl167.slots.size ≤ ((0 : Int32)).toNatClampNeg) := inb_of S167 ⟨(by decide), (by decide)⟩
                      have hat167 : cl167.slots[((0 : Int32)).toNatClampNeg]? = some (.int (j0_204_e0 x0 x1 x2)) := Hs167.at hin167 rfl
                      refine Goes.st (B := T166.setTop (mkF m 237 #[jv x0, .second, jv x1, .second, jv x2, .second, jv (w0_4 x0 x1 x2), .second, jv (w0_10 x0 x1 x2), .second, jv (w0_17 x0 x1 x2), .second, rv b4, rv b8, iv (j0_204_14 x0 x1 x2), rv b45, iv (1 : Int32)] [(.int (j0_204_e0 x0 x1 x2)), (.int (v0_230 x0 x1 x2))])) (X166.iaload hx (j := (0 : Int32)) (v := (.int (j0_204_e0 x0 x1 x2))) (by rw [e166]; exact Ar167.1) (State.isArrayOf_alike hZ.alike Ar167.2.1) Ar167.2.2 hin167 hat167 (g := (mkF m 236 #[jv x0, .second, jv x1, .second, jv x2, .second, jv (w0_4 x0 x1 x2), .second, jv (w0_10 x0 x1 x2), .second, jv (w0_17 x0 x1 x2), .second, rv b4, rv b8, iv (j0_204_14 x0 x1 x2), rv b45, iv (1 : Int32)] [(.int (0 : Int32)), (.ref b8), (.int (v0_230 x0 x1 x2))])) rfl rfl (hb hby at_236)) ?_
                      have jn245_169 : Goes p e below s (QL (some (.int (r0 x0 x1 x2))) n0) room_1.cells room_1.slots (T166.setTop (mkF m 245 #[jv x0, .second, jv x1, .second, jv x2, .second, jv (w0_4 x0 x1 x2), .second, jv (w0_10 x0 x1 x2), .second, jv (w0_17 x0 x1 x2), .second, rv b4, rv b8, iv (j0_204_14 x0 x1 x2), rv b45, iv (1 : Int32)] [(.int (j0_245_s0 x0 x1 x2))])) := by
                        refine Goes.run X166 hx hown hci hcl hby (L := [(245, .istore 16, 2)]) (by decide +kernel) rfl (g' := (mkF m 247 #[jv x0, .second, jv x1, .second, jv x2, .second, jv (w0_4 x0 x1 x2), .second, jv (w0_10 x0 x1 x2), .second, jv (w0_17 x0 x1 x2), .second, rv b4, rv b8, iv (j0_204_14 x0 x1 x2), rv b45, iv (j0_245_s0 x0 x1 x2)] [])) rfl ?_
                        have q := jn247_54
                        rw [show (j0_247_16 x0 x1 x2) = (j0_245_s0 x0 x1 x2) from (if_pos hc225_48), show (j0_247_size x0 x1 x2) = (o0_230_2 x0 x1 x2) from (if_pos hc225_48), show (j0_247_place x0 x1 x2) = (o0_230_3 x0 x1 x2) from (if_pos hc225_48), show (j0_247_e0 x0 x1 x2) = (o0_230_5_0 x0 x1 x2) from (if_pos hc225_48), show (j0_247_e1 x0 x1 x2) = (o0_230_5_1 x0 x1 x2) from (if_pos hc225_48), show (j0_247_e2 x0 x1 x2) = (o0_230_5_2 x0 x1 x2) from (if_pos hc225_48), show (j0_247_e0_a x0 x1 x2) = (o0_230_4_0 x0 x1 x2) from (if_pos hc225_48), show (j0_247_e1_a x0 x1 x2) = (o0_230_4_1 x0 x1 x2) from (if_pos hc225_48), show (j0_247_e2_a x0 x1 x2) = (o0_230_4_2 x0 x1 x2) from (if_pos hc225_48)] at q
                        exact q _ _ _ X166 e166 N166 Zn166 E_b4 V_b4 E_b45 F_wanted_b45 F_ring_b45 F_size_b45 F_place_b45 E_b8 V_b8 V_r46 V_w46
                      by_cases hc237_168 : (v0_230 x0 x1 x2) = (j0_204_e0 x0 x1 x2)
                      · skip
                        refine Goes.st (B := T166.setTop (mkF m 240 #[jv x0, .second, jv x1, .second, jv x2, .second, jv (w0_4 x0 x1 x2), .second, jv (w0_10 x0 x1 x2), .second, jv (w0_17 x0 x1 x2), .second, rv b4, rv b8, iv (j0_204_14 x0 x1 x2), rv b45, iv (1 : Int32)] [])) (fun t k => ?_) ?_
                        · refine XS.icmpNo X166.here hx rfl (hb hby at_237) rfl (teq hc237_168).2 ?_
                          exact k
                        refine Goes.run X166 hx hown hci hcl hby (L := [(240, .iconst 1, 1), (241, .goto 4, 3)]) (by decide +kernel) rfl (g' := (mkF m 245 #[jv x0, .second, jv x1, .second, jv x2, .second, jv (w0_4 x0 x1 x2), .second, jv (w0_10 x0 x1 x2), .second, jv (w0_17 x0 x1 x2), .second, rv b4, rv b8, iv (j0_204_14 x0 x1 x2), rv b45, iv (1 : Int32)] [(.int (1 : Int32))])) rfl ?_
                        have q := jn245_169
                        rw [show (j0_245_s0 x0 x1 x2) = (1 : Int32) from (if_pos hc237_168)] at q
                        exact q
                      · skip
                        refine Goes.st (B := T166.setTop (mkF m 244 #[jv x0, .second, jv x1, .second, jv x2, .second, jv (w0_4 x0 x1 x2), .second, jv (w0_10 x0 x1 x2), .second, jv (w0_17 x0 x1 x2), .second, rv b4, rv b8, iv (j0_204_14 x0 x1 x2), rv b45, iv (1 : Int32)] [])) (fun t k => ?_) ?_
                        · refine XS.icmpYes X166.here hx rfl (pc0 := 237) (pc' := 244) rfl (hb hby at_237) rfl (feq hc237_168).2 (by decide) (by decide) ?_
                          exact k
                        refine Goes.run X166 hx hown hci hcl hby (L := [(244, .iconst 0, 1)]) (by decide +kernel) rfl (g' := (mkF m 245 #[jv x0, .second, jv x1, .second, jv x2, .second, jv (w0_4 x0 x1 x2), .second, jv (w0_10 x0 x1 x2), .second, jv (w0_17 x0 x1 x2), .second, rv b4, rv b8, iv (j0_204_14 x0 x1 x2), rv b45, iv (1 : Int32)] [(.int (0 : Int32))])) rfl ?_
                        have q := jn245_169
                        rw [show (j0_245_s0 x0 x1 x2) = (0 : Int32) from (if_neg hc237_168)] at q
                        exact q
                    · skip
                      refine Goes.st (B := T46.setTop (mkF m 247 #[jv x0, .second, jv x1, .second, jv x2, .second, jv (w0_4 x0 x1 x2), .second, jv (w0_10 x0 x1 x2), .second, jv (w0_17 x0 x1 x2), .second, rv b4, rv b8, iv (j0_204_14 x0 x1 x2), rv b45, iv (1 : Int32)] [])) (fun t k => ?_) ?_
                      · refine XS.ifYes X46.here hx rfl (pc0 := 225) (pc' := 247) rfl (hb hby at_225) rfl ((if0 _ _).trans (flt hc225_48).2.2.2) (by decide) (by decide) ?_
                        exact k
                      have q := jn247_54
                      rw [show (j0_247_16 x0 x1 x2) = (1 : Int32) from (if_neg hc225_48), show (j0_247_size x0 x1 x2) = (o0_210_3 x0 x1 x2) from (if_neg hc225_48), show (j0_247_place x0 x1 x2) = (0 : Int32) from (if_neg hc225_48), show (j0_247_e0 x0 x1 x2) = (o0_210_6_0 x0 x1 x2) from (if_neg hc225_48), show (j0_247_e1 x0 x1 x2) = (o0_210_6_1 x0 x1 x2) from (if_neg hc225_48), show (j0_247_e2 x0 x1 x2) = (o0_210_6_2 x0 x1 x2) from (if_neg hc225_48), show (j0_247_e0_a x0 x1 x2) = (w0_4 x0 x1 x2) from (if_neg hc225_48), show (j0_247_e1_a x0 x1 x2) = (w0_10 x0 x1 x2) from (if_neg hc225_48), show (j0_247_e2_a x0 x1 x2) = (w0_17 x0 x1 x2) from (if_neg hc225_48)] at q
                      exact q _ _ _ X46 e46 N46 Zn46 E_b4 V_b4 E_b45 F_wanted_b45 F_ring_b45 F_size_b45 F_place_b45 E_b8 V_b8 V_r46 V_w46
                  by_cases hc192_41 : (w0_17 x0 x1 x2) < (3 : Int64)
                  · skip
                    refine Goes.st (B := T39.setTop (mkF m 204 #[jv x0, .second, jv x1, .second, jv x2, .second, jv (w0_4 x0 x1 x2), .second, jv (w0_10 x0 x1 x2), .second, jv (w0_17 x0 x1 x2), .second, rv b4, rv b8, iv (j0_186_14 x0 x1 x2), .unset, .unset] [])) (fun t k => ?_) ?_
                    · refine XS.ifYes X39.here hx rfl (pc0 := 192) (pc' := 204) rfl (hb hby at_192) rfl (tltL hc192_41).1 (by decide) (by decide) ?_
                      exact k
                    have q := jn204_44
                    rw [show (j0_204_14 x0 x1 x2) = (j0_186_14 x0 x1 x2) from (if_pos hc192_41), show (j0_204_e0 x0 x1 x2) = (j0_186_e0 x0 x1 x2) from (if_pos hc192_41), show (j0_204_e1 x0 x1 x2) = (j0_186_e1 x0 x1 x2) from (if_pos hc192_41), show (j0_204_e2 x0 x1 x2) = (j0_186_e2 x0 x1 x2) from (if_pos hc192_41), show (j0_204_e3 x0 x1 x2) = (j0_186_e3 x0 x1 x2) from (if_pos hc192_41), show (j0_204_e4 x0 x1 x2) = (j0_186_e4 x0 x1 x2) from (if_pos hc192_41), show (j0_204_e5 x0 x1 x2) = (j0_186_e5 x0 x1 x2) from (if_pos hc192_41), show (j0_204_e6 x0 x1 x2) = (j0_186_e6 x0 x1 x2) from (if_pos hc192_41), show (j0_204_e7 x0 x1 x2) = (j0_186_e7 x0 x1 x2) from (if_pos hc192_41), show (j0_204_e8 x0 x1 x2) = (0 : Int32) from (if_pos hc192_41)] at q
                    exact q _ _ _ X39 e39 N39 Zn39 E_b4 V_b4 E_b8 V_b8
                  · skip
                    refine Goes.st (B := T39.setTop (mkF m 195 #[jv x0, .second, jv x1, .second, jv x2, .second, jv (w0_4 x0 x1 x2), .second, jv (w0_10 x0 x1 x2), .second, jv (w0_17 x0 x1 x2), .second, rv b4, rv b8, iv (j0_186_14 x0 x1 x2), .unset, .unset] [])) (fun t k => ?_) ?_
                    · refine XS.ifNo X39.here hx rfl (hb hby at_192) rfl (fltL hc192_41).1 ?_
                      exact k
                    refine Goes.run X39 hx hown hci hcl hby (L := [(195, .aload 13, 2), (197, .iload 14, 2), (199, .iconst 2, 1)]) (by decide +kernel) rfl (g' := (mkF m 200 #[jv x0, .second, jv x1, .second, jv x2, .second, jv (w0_4 x0 x1 x2), .second, jv (w0_10 x0 x1 x2), .second, jv (w0_17 x0 x1 x2), .second, rv b4, rv b8, iv (j0_186_14 x0 x1 x2), .unset, .unset] [(.int (2 : Int32)), (.int (j0_186_14 x0 x1 x2)), (.ref b8)])) rfl ?_
                    obtain ⟨cl170, Ar170, q170, S170, M170, Hs170, G170⟩ := id V_b8
                    have hin170 : ¬ ((j0_186_14 x0 x1 x2) < 0 ∨ cl170.slots.size ≤ ((j0_186_14 x0 x1 x2)).toNatClampNeg) := inb_of S170 ⟨(by rcases own_nb8 x0 x1 x2 with h | h | h | h | h | h | h | h | h <;> rw [h] <;> decide), (by rcases own_nb8 x0 x1 x2 with h | h | h | h | h | h | h | h | h <;> rw [h] <;> decide)⟩
                    obtain ⟨T170, h170, X170, e170, W170, st170⟩ := stI X39 hx hZ e39 Ar170 (j := (j0_186_14 x0 x1 x2)) hin170 (g := (mkF m 200 #[jv x0, .second, jv x1, .second, jv x2, .second, jv (w0_4 x0 x1 x2), .second, jv (w0_10 x0 x1 x2), .second, jv (w0_17 x0 x1 x2), .second, rv b4, rv b8, iv (j0_186_14 x0 x1 x2), .unset, .unset] [(.int (2 : Int32)), (.int (j0_186_14 x0 x1 x2)), (.ref b8)])) rfl rfl (hb hby at_200)
                    have E_b4 := E_b4.wr W170
                    have V_b4 := V_b4.other W170 ne_b4_b8
                    have E_b8 := E_b8.wr W170
                    have Zn170 : n0 ≤ h170.size := Nat.le_trans Zn39 (Keep.of_wr W170).1
                    have N170 := Fr.snoc X170 N39 g_b8
                    have V_b8 : Arv Z h170 b8 k8 .int (9 : Int32) [(.int (if (j0_186_14 x0 x1 x2) = (0 : Int32) then (2 : Int32) else (j0_186_e0 x0 x1 x2))), (.int (if (j0_186_14 x0 x1 x2) = (1 : Int32) then (2 : Int32) else (j0_186_e1 x0 x1 x2))), (.int (if (j0_186_14 x0 x1 x2) = (2 : Int32) then (2 : Int32) else (j0_186_e2 x0 x1 x2))), (.int (if (j0_186_14 x0 x1 x2) = (3 : Int32) then (2 : Int32) else (j0_186_e3 x0 x1 x2))), (.int (if (j0_186_14 x0 x1 x2) = (4 : Int32) then (2 : Int32) else (j0_186_e4 x0 x1 x2))), (.int (if (j0_186_14 x0 x1 x2) = (5 : Int32) then (2 : Int32) else (j0_186_e5 x0 x1 x2))), (.int (if (j0_186_14 x0 x1 x2) = (6 : Int32) then (2 : Int32) else (j0_186_e6 x0 x1 x2))), (.int (if (j0_186_14 x0 x1 x2) = (7 : Int32) then (2 : Int32) else (j0_186_e7 x0 x1 x2))), (.int (if (j0_186_14 x0 x1 x2) = (8 : Int32) then (2 : Int32) else (0 : Int32)))] (.int (0 : Int32)) := by
                      rcases own_nb8 x0 x1 x2 with h | h | h | h | h | h | h | h | h
                      · rw [h] at W170 ⊢; exact Arv.set Ar170 q170 S170 M170 Hs170 G170 rfl W170 0 rfl (Nat.le_of_ble_eq_true rfl)
                      · rw [h] at W170 ⊢; exact Arv.set Ar170 q170 S170 M170 Hs170 G170 rfl W170 1 rfl (Nat.le_of_ble_eq_true rfl)
                      · rw [h] at W170 ⊢; exact Arv.set Ar170 q170 S170 M170 Hs170 G170 rfl W170 2 rfl (Nat.le_of_ble_eq_true rfl)
                      · rw [h] at W170 ⊢; exact Arv.set Ar170 q170 S170 M170 Hs170 G170 rfl W170 3 rfl (Nat.le_of_ble_eq_true rfl)
                      · rw [h] at W170 ⊢; exact Arv.set Ar170 q170 S170 M170 Hs170 G170 rfl W170 4 rfl (Nat.le_of_ble_eq_true rfl)
                      · rw [h] at W170 ⊢; exact Arv.set Ar170 q170 S170 M170 Hs170 G170 rfl W170 5 rfl (Nat.le_of_ble_eq_true rfl)
                      · rw [h] at W170 ⊢; exact Arv.set Ar170 q170 S170 M170 Hs170 G170 rfl W170 6 rfl (Nat.le_of_ble_eq_true rfl)
                      · rw [h] at W170 ⊢; exact Arv.set Ar170 q170 S170 M170 Hs170 G170 rfl W170 7 rfl (Nat.le_of_ble_eq_true rfl)
                      · rw [h] at W170 ⊢; exact Arv.set Ar170 q170 S170 M170 Hs170 G170 rfl W170 8 rfl (Nat.le_of_ble_eq_true rfl)
                    refine Goes.st (B := T170.setTop (mkF m 201 #[jv x0, .second, jv x1, .second, jv x2, .second, jv (w0_4 x0 x1 x2), .second, jv (w0_10 x0 x1 x2), .second, jv (w0_17 x0 x1 x2), .second, rv b4, rv b8, iv (j0_186_14 x0 x1 x2), .unset, .unset] [])) st170 ?_
                    refine Goes.run X170 hx hown hci hcl hby (L := [(201, .iinc 14 1, 3)]) (by decide +kernel) rfl (g' := (mkF m 204 #[jv x0, .second, jv x1, .second, jv x2, .second, jv (w0_4 x0 x1 x2), .second, jv (w0_10 x0 x1 x2), .second, jv (w0_17 x0 x1 x2), .second, rv b4, rv b8, iv (w0_201 x0 x1 x2), .unset, .unset] [])) rfl ?_
                    have q := jn204_44
                    rw [show (j0_204_14 x0 x1 x2) = (w0_201 x0 x1 x2) from (if_neg hc192_41), show (j0_204_e0 x0 x1 x2) = (if (j0_186_14 x0 x1 x2) = (0 : Int32) then (2 : Int32) else (j0_186_e0 x0 x1 x2)) from (if_neg hc192_41), show (j0_204_e1 x0 x1 x2) = (if (j0_186_14 x0 x1 x2) = (1 : Int32) then (2 : Int32) else (j0_186_e1 x0 x1 x2)) from (if_neg hc192_41), show (j0_204_e2 x0 x1 x2) = (if (j0_186_14 x0 x1 x2) = (2 : Int32) then (2 : Int32) else (j0_186_e2 x0 x1 x2)) from (if_neg hc192_41), show (j0_204_e3 x0 x1 x2) = (if (j0_186_14 x0 x1 x2) = (3 : Int32) then (2 : Int32) else (j0_186_e3 x0 x1 x2)) from (if_neg hc192_41), show (j0_204_e4 x0 x1 x2) = (if (j0_186_14 x0 x1 x2) = (4 : Int32) then (2 : Int32) else (j0_186_e4 x0 x1 x2)) from (if_neg hc192_41), show (j0_204_e5 x0 x1 x2) = (if (j0_186_14 x0 x1 x2) = (5 : Int32) then (2 : Int32) else (j0_186_e5 x0 x1 x2)) from (if_neg hc192_41), show (j0_204_e6 x0 x1 x2) = (if (j0_186_14 x0 x1 x2) = (6 : Int32) then (2 : Int32) else (j0_186_e6 x0 x1 x2)) from (if_neg hc192_41), show (j0_204_e7 x0 x1 x2) = (if (j0_186_14 x0 x1 x2) = (7 : Int32) then (2 : Int32) else (j0_186_e7 x0 x1 x2)) from (if_neg hc192_41), show (j0_204_e8 x0 x1 x2) = (if (j0_186_14 x0 x1 x2) = (8 : Int32) then (2 : Int32) else (0 : Int32)) from (if_neg hc192_41)] at q
                    exact q _ _ _ X170 e170 N170 Zn170 E_b4 V_b4 E_b8 V_b8
                by_cases hc174_37 : (w0_10 x0 x1 x2) < (3 : Int64)
                · skip
                  refine Goes.st (B := T35.setTop (mkF m 186 #[jv x0, .second, jv x1, .second, jv x2, .second, jv (w0_4 x0 x1 x2), .second, jv (w0_10 x0 x1 x2), .second, jv (w0_17 x0 x1 x2), .second, rv b4, rv b8, iv (j0_168_14 x0 x1 x2), .unset, .unset] [])) (fun t k => ?_) ?_
                  · refine XS.ifYes X35.here hx rfl (pc0 := 174) (pc' := 186) rfl (hb hby at_174) rfl (tltL hc174_37).1 (by decide) (by decide) ?_
                    exact k
                  have q := jn186_40
                  rw [show (j0_186_14 x0 x1 x2) = (j0_168_14 x0 x1 x2) from (if_pos hc174_37), show (j0_186_e0 x0 x1 x2) = (j0_168_e0 x0 x1 x2) from (if_pos hc174_37), show (j0_186_e1 x0 x1 x2) = (j0_168_e1 x0 x1 x2) from (if_pos hc174_37), show (j0_186_e2 x0 x1 x2) = (j0_168_e2 x0 x1 x2) from (if_pos hc174_37), show (j0_186_e3 x0 x1 x2) = (j0_168_e3 x0 x1 x2) from (if_pos hc174_37), show (j0_186_e4 x0 x1 x2) = (j0_168_e4 x0 x1 x2) from (if_pos hc174_37), show (j0_186_e5 x0 x1 x2) = (j0_168_e5 x0 x1 x2) from (if_pos hc174_37), show (j0_186_e6 x0 x1 x2) = (j0_168_e6 x0 x1 x2) from (if_pos hc174_37), show (j0_186_e7 x0 x1 x2) = (0 : Int32) from (if_pos hc174_37)] at q
                  exact q _ _ _ X35 e35 N35 Zn35 E_b4 V_b4 E_b8 V_b8
                · skip
                  refine Goes.st (B := T35.setTop (mkF m 177 #[jv x0, .second, jv x1, .second, jv x2, .second, jv (w0_4 x0 x1 x2), .second, jv (w0_10 x0 x1 x2), .second, jv (w0_17 x0 x1 x2), .second, rv b4, rv b8, iv (j0_168_14 x0 x1 x2), .unset, .unset] [])) (fun t k => ?_) ?_
                  · refine XS.ifNo X35.here hx rfl (hb hby at_174) rfl (fltL hc174_37).1 ?_
                    exact k
                  refine Goes.run X35 hx hown hci hcl hby (L := [(177, .aload 13, 2), (179, .iload 14, 2), (181, .iconst 1, 1)]) (by decide +kernel) rfl (g' := (mkF m 182 #[jv x0, .second, jv x1, .second, jv x2, .second, jv (w0_4 x0 x1 x2), .second, jv (w0_10 x0 x1 x2), .second, jv (w0_17 x0 x1 x2), .second, rv b4, rv b8, iv (j0_168_14 x0 x1 x2), .unset, .unset] [(.int (1 : Int32)), (.int (j0_168_14 x0 x1 x2)), (.ref b8)])) rfl ?_
                  obtain ⟨cl171, Ar171, q171, S171, M171, Hs171, G171⟩ := id V_b8
                  have hin171 : ¬ ((j0_168_14 x0 x1 x2) < 0 ∨ cl171.slots.size ≤ ((j0_168_14 x0 x1 x2)).toNatClampNeg) := inb_of S171 ⟨(by rcases own_nb7 x0 x1 x2 with h | h | h | h | h | h | h | h <;> rw [h] <;> decide), (by rcases own_nb7 x0 x1 x2 with h | h | h | h | h | h | h | h <;> rw [h] <;> decide)⟩
                  obtain ⟨T171, h171, X171, e171, W171, st171⟩ := stI X35 hx hZ e35 Ar171 (j := (j0_168_14 x0 x1 x2)) hin171 (g := (mkF m 182 #[jv x0, .second, jv x1, .second, jv x2, .second, jv (w0_4 x0 x1 x2), .second, jv (w0_10 x0 x1 x2), .second, jv (w0_17 x0 x1 x2), .second, rv b4, rv b8, iv (j0_168_14 x0 x1 x2), .unset, .unset] [(.int (1 : Int32)), (.int (j0_168_14 x0 x1 x2)), (.ref b8)])) rfl rfl (hb hby at_182)
                  have E_b4 := E_b4.wr W171
                  have V_b4 := V_b4.other W171 ne_b4_b8
                  have E_b8 := E_b8.wr W171
                  have Zn171 : n0 ≤ h171.size := Nat.le_trans Zn35 (Keep.of_wr W171).1
                  have N171 := Fr.snoc X171 N35 g_b8
                  have V_b8 : Arv Z h171 b8 k8 .int (9 : Int32) [(.int (if (j0_168_14 x0 x1 x2) = (0 : Int32) then (1 : Int32) else (j0_168_e0 x0 x1 x2))), (.int (if (j0_168_14 x0 x1 x2) = (1 : Int32) then (1 : Int32) else (j0_168_e1 x0 x1 x2))), (.int (if (j0_168_14 x0 x1 x2) = (2 : Int32) then (1 : Int32) else (j0_168_e2 x0 x1 x2))), (.int (if (j0_168_14 x0 x1 x2) = (3 : Int32) then (1 : Int32) else (j0_168_e3 x0 x1 x2))), (.int (if (j0_168_14 x0 x1 x2) = (4 : Int32) then (1 : Int32) else (j0_168_e4 x0 x1 x2))), (.int (if (j0_168_14 x0 x1 x2) = (5 : Int32) then (1 : Int32) else (j0_168_e5 x0 x1 x2))), (.int (if (j0_168_14 x0 x1 x2) = (6 : Int32) then (1 : Int32) else (j0_168_e6 x0 x1 x2))), (.int (if (j0_168_14 x0 x1 x2) = (7 : Int32) then (1 : Int32) else (0 : Int32))), (.int (0 : Int32))] (.int (0 : Int32)) := by
                    rcases own_nb7 x0 x1 x2 with h | h | h | h | h | h | h | h
                    · rw [h] at W171 ⊢; exact Arv.set Ar171 q171 S171 M171 Hs171 G171 rfl W171 0 rfl (Nat.le_of_ble_eq_true rfl)
                    · rw [h] at W171 ⊢; exact Arv.set Ar171 q171 S171 M171 Hs171 G171 rfl W171 1 rfl (Nat.le_of_ble_eq_true rfl)
                    · rw [h] at W171 ⊢; exact Arv.set Ar171 q171 S171 M171 Hs171 G171 rfl W171 2 rfl (Nat.le_of_ble_eq_true rfl)
                    · rw [h] at W171 ⊢; exact Arv.set Ar171 q171 S171 M171 Hs171 G171 rfl W171 3 rfl (Nat.le_of_ble_eq_true rfl)
                    · rw [h] at W171 ⊢; exact Arv.set Ar171 q171 S171 M171 Hs171 G171 rfl W171 4 rfl (Nat.le_of_ble_eq_true rfl)
                    · rw [h] at W171 ⊢; exact Arv.set Ar171 q171 S171 M171 Hs171 G171 rfl W171 5 rfl (Nat.le_of_ble_eq_true rfl)
                    · rw [h] at W171 ⊢; exact Arv.set Ar171 q171 S171 M171 Hs171 G171 rfl W171 6 rfl (Nat.le_of_ble_eq_true rfl)
                    · rw [h] at W171 ⊢; exact Arv.set Ar171 q171 S171 M171 Hs171 G171 rfl W171 7 rfl (Nat.le_of_ble_eq_true rfl)
                  refine Goes.st (B := T171.setTop (mkF m 183 #[jv x0, .second, jv x1, .second, jv x2, .second, jv (w0_4 x0 x1 x2), .second, jv (w0_10 x0 x1 x2), .second, jv (w0_17 x0 x1 x2), .second, rv b4, rv b8, iv (j0_168_14 x0 x1 x2), .unset, .unset] [])) st171 ?_
                  refine Goes.run X171 hx hown hci hcl hby (L := [(183, .iinc 14 1, 3)]) (by decide +kernel) rfl (g' := (mkF m 186 #[jv x0, .second, jv x1, .second, jv x2, .second, jv (w0_4 x0 x1 x2), .second, jv (w0_10 x0 x1 x2), .second, jv (w0_17 x0 x1 x2), .second, rv b4, rv b8, iv (w0_183 x0 x1 x2), .unset, .unset] [])) rfl ?_
                  have q := jn186_40
                  rw [show (j0_186_14 x0 x1 x2) = (w0_183 x0 x1 x2) from (if_neg hc174_37), show (j0_186_e0 x0 x1 x2) = (if (j0_168_14 x0 x1 x2) = (0 : Int32) then (1 : Int32) else (j0_168_e0 x0 x1 x2)) from (if_neg hc174_37), show (j0_186_e1 x0 x1 x2) = (if (j0_168_14 x0 x1 x2) = (1 : Int32) then (1 : Int32) else (j0_168_e1 x0 x1 x2)) from (if_neg hc174_37), show (j0_186_e2 x0 x1 x2) = (if (j0_168_14 x0 x1 x2) = (2 : Int32) then (1 : Int32) else (j0_168_e2 x0 x1 x2)) from (if_neg hc174_37), show (j0_186_e3 x0 x1 x2) = (if (j0_168_14 x0 x1 x2) = (3 : Int32) then (1 : Int32) else (j0_168_e3 x0 x1 x2)) from (if_neg hc174_37), show (j0_186_e4 x0 x1 x2) = (if (j0_168_14 x0 x1 x2) = (4 : Int32) then (1 : Int32) else (j0_168_e4 x0 x1 x2)) from (if_neg hc174_37), show (j0_186_e5 x0 x1 x2) = (if (j0_168_14 x0 x1 x2) = (5 : Int32) then (1 : Int32) else (j0_168_e5 x0 x1 x2)) from (if_neg hc174_37), show (j0_186_e6 x0 x1 x2) = (if (j0_168_14 x0 x1 x2) = (6 : Int32) then (1 : Int32) else (j0_168_e6 x0 x1 x2)) from (if_neg hc174_37), show (j0_186_e7 x0 x1 x2) = (if (j0_168_14 x0 x1 x2) = (7 : Int32) then (1 : Int32) else (0 : Int32)) from (if_neg hc174_37)] at q
                  exact q _ _ _ X171 e171 N171 Zn171 E_b4 V_b4 E_b8 V_b8
              by_cases hc156_33 : (w0_4 x0 x1 x2) < (3 : Int64)
              · skip
                refine Goes.st (B := T31.setTop (mkF m 168 #[jv x0, .second, jv x1, .second, jv x2, .second, jv (w0_4 x0 x1 x2), .second, jv (w0_10 x0 x1 x2), .second, jv (w0_17 x0 x1 x2), .second, rv b4, rv b8, iv (j0_150_14 x0 x1 x2), .unset, .unset] [])) (fun t k => ?_) ?_
                · refine XS.ifYes X31.here hx rfl (pc0 := 156) (pc' := 168) rfl (hb hby at_156) rfl (tltL hc156_33).1 (by decide) (by decide) ?_
                  exact k
                have q := jn168_36
                rw [show (j0_168_14 x0 x1 x2) = (j0_150_14 x0 x1 x2) from (if_pos hc156_33), show (j0_168_e0 x0 x1 x2) = (j0_150_e0 x0 x1 x2) from (if_pos hc156_33), show (j0_168_e1 x0 x1 x2) = (j0_150_e1 x0 x1 x2) from (if_pos hc156_33), show (j0_168_e2 x0 x1 x2) = (j0_150_e2 x0 x1 x2) from (if_pos hc156_33), show (j0_168_e3 x0 x1 x2) = (j0_150_e3 x0 x1 x2) from (if_pos hc156_33), show (j0_168_e4 x0 x1 x2) = (j0_150_e4 x0 x1 x2) from (if_pos hc156_33), show (j0_168_e5 x0 x1 x2) = (j0_150_e5 x0 x1 x2) from (if_pos hc156_33), show (j0_168_e6 x0 x1 x2) = (0 : Int32) from (if_pos hc156_33)] at q
                exact q _ _ _ X31 e31 N31 Zn31 E_b4 V_b4 E_b8 V_b8
              · skip
                refine Goes.st (B := T31.setTop (mkF m 159 #[jv x0, .second, jv x1, .second, jv x2, .second, jv (w0_4 x0 x1 x2), .second, jv (w0_10 x0 x1 x2), .second, jv (w0_17 x0 x1 x2), .second, rv b4, rv b8, iv (j0_150_14 x0 x1 x2), .unset, .unset] [])) (fun t k => ?_) ?_
                · refine XS.ifNo X31.here hx rfl (hb hby at_156) rfl (fltL hc156_33).1 ?_
                  exact k
                refine Goes.run X31 hx hown hci hcl hby (L := [(159, .aload 13, 2), (161, .iload 14, 2), (163, .iconst 0, 1)]) (by decide +kernel) rfl (g' := (mkF m 164 #[jv x0, .second, jv x1, .second, jv x2, .second, jv (w0_4 x0 x1 x2), .second, jv (w0_10 x0 x1 x2), .second, jv (w0_17 x0 x1 x2), .second, rv b4, rv b8, iv (j0_150_14 x0 x1 x2), .unset, .unset] [(.int (0 : Int32)), (.int (j0_150_14 x0 x1 x2)), (.ref b8)])) rfl ?_
                obtain ⟨cl172, Ar172, q172, S172, M172, Hs172, G172⟩ := id V_b8
                have hin172 : ¬ ((j0_150_14 x0 x1 x2) < 0 ∨ cl172.slots.size ≤ ((j0_150_14 x0 x1 x2)).toNatClampNeg) := inb_of S172 ⟨(by rcases own_nb6 x0 x1 x2 with h | h | h | h | h | h | h <;> rw [h] <;> decide), (by rcases own_nb6 x0 x1 x2 with h | h | h | h | h | h | h <;> rw [h] <;> decide)⟩
                obtain ⟨T172, h172, X172, e172, W172, st172⟩ := stI X31 hx hZ e31 Ar172 (j := (j0_150_14 x0 x1 x2)) hin172 (g := (mkF m 164 #[jv x0, .second, jv x1, .second, jv x2, .second, jv (w0_4 x0 x1 x2), .second, jv (w0_10 x0 x1 x2), .second, jv (w0_17 x0 x1 x2), .second, rv b4, rv b8, iv (j0_150_14 x0 x1 x2), .unset, .unset] [(.int (0 : Int32)), (.int (j0_150_14 x0 x1 x2)), (.ref b8)])) rfl rfl (hb hby at_164)
                have E_b4 := E_b4.wr W172
                have V_b4 := V_b4.other W172 ne_b4_b8
                have E_b8 := E_b8.wr W172
                have Zn172 : n0 ≤ h172.size := Nat.le_trans Zn31 (Keep.of_wr W172).1
                have N172 := Fr.snoc X172 N31 g_b8
                have V_b8 : Arv Z h172 b8 k8 .int (9 : Int32) [(.int (if (j0_150_14 x0 x1 x2) = (0 : Int32) then (0 : Int32) else (j0_150_e0 x0 x1 x2))), (.int (if (j0_150_14 x0 x1 x2) = (1 : Int32) then (0 : Int32) else (j0_150_e1 x0 x1 x2))), (.int (if (j0_150_14 x0 x1 x2) = (2 : Int32) then (0 : Int32) else (j0_150_e2 x0 x1 x2))), (.int (if (j0_150_14 x0 x1 x2) = (3 : Int32) then (0 : Int32) else (j0_150_e3 x0 x1 x2))), (.int (if (j0_150_14 x0 x1 x2) = (4 : Int32) then (0 : Int32) else (j0_150_e4 x0 x1 x2))), (.int (if (j0_150_14 x0 x1 x2) = (5 : Int32) then (0 : Int32) else (j0_150_e5 x0 x1 x2))), (.int (if (j0_150_14 x0 x1 x2) = (6 : Int32) then (0 : Int32) else (0 : Int32))), (.int (0 : Int32)), (.int (0 : Int32))] (.int (0 : Int32)) := by
                  rcases own_nb6 x0 x1 x2 with h | h | h | h | h | h | h
                  · rw [h] at W172 ⊢; exact Arv.set Ar172 q172 S172 M172 Hs172 G172 rfl W172 0 rfl (Nat.le_of_ble_eq_true rfl)
                  · rw [h] at W172 ⊢; exact Arv.set Ar172 q172 S172 M172 Hs172 G172 rfl W172 1 rfl (Nat.le_of_ble_eq_true rfl)
                  · rw [h] at W172 ⊢; exact Arv.set Ar172 q172 S172 M172 Hs172 G172 rfl W172 2 rfl (Nat.le_of_ble_eq_true rfl)
                  · rw [h] at W172 ⊢; exact Arv.set Ar172 q172 S172 M172 Hs172 G172 rfl W172 3 rfl (Nat.le_of_ble_eq_true rfl)
                  · rw [h] at W172 ⊢; exact Arv.set Ar172 q172 S172 M172 Hs172 G172 rfl W172 4 rfl (Nat.le_of_ble_eq_true rfl)
                  · rw [h] at W172 ⊢; exact Arv.set Ar172 q172 S172 M172 Hs172 G172 rfl W172 5 rfl (Nat.le_of_ble_eq_true rfl)
                  · rw [h] at W172 ⊢; exact Arv.set Ar172 q172 S172 M172 Hs172 G172 rfl W172 6 rfl (Nat.le_of_ble_eq_true rfl)
                refine Goes.st (B := T172.setTop (mkF m 165 #[jv x0, .second, jv x1, .second, jv x2, .second, jv (w0_4 x0 x1 x2), .second, jv (w0_10 x0 x1 x2), .second, jv (w0_17 x0 x1 x2), .second, rv b4, rv b8, iv (j0_150_14 x0 x1 x2), .unset, .unset] [])) st172 ?_
                refine Goes.run X172 hx hown hci hcl hby (L := [(165, .iinc 14 1, 3)]) (by decide +kernel) rfl (g' := (mkF m 168 #[jv x0, .second, jv x1, .second, jv x2, .second, jv (w0_4 x0 x1 x2), .second, jv (w0_10 x0 x1 x2), .second, jv (w0_17 x0 x1 x2), .second, rv b4, rv b8, iv (w0_165 x0 x1 x2), .unset, .unset] [])) rfl ?_
                have q := jn168_36
                rw [show (j0_168_14 x0 x1 x2) = (w0_165 x0 x1 x2) from (if_neg hc156_33), show (j0_168_e0 x0 x1 x2) = (if (j0_150_14 x0 x1 x2) = (0 : Int32) then (0 : Int32) else (j0_150_e0 x0 x1 x2)) from (if_neg hc156_33), show (j0_168_e1 x0 x1 x2) = (if (j0_150_14 x0 x1 x2) = (1 : Int32) then (0 : Int32) else (j0_150_e1 x0 x1 x2)) from (if_neg hc156_33), show (j0_168_e2 x0 x1 x2) = (if (j0_150_14 x0 x1 x2) = (2 : Int32) then (0 : Int32) else (j0_150_e2 x0 x1 x2)) from (if_neg hc156_33), show (j0_168_e3 x0 x1 x2) = (if (j0_150_14 x0 x1 x2) = (3 : Int32) then (0 : Int32) else (j0_150_e3 x0 x1 x2)) from (if_neg hc156_33), show (j0_168_e4 x0 x1 x2) = (if (j0_150_14 x0 x1 x2) = (4 : Int32) then (0 : Int32) else (j0_150_e4 x0 x1 x2)) from (if_neg hc156_33), show (j0_168_e5 x0 x1 x2) = (if (j0_150_14 x0 x1 x2) = (5 : Int32) then (0 : Int32) else (j0_150_e5 x0 x1 x2)) from (if_neg hc156_33), show (j0_168_e6 x0 x1 x2) = (if (j0_150_14 x0 x1 x2) = (6 : Int32) then (0 : Int32) else (0 : Int32)) from (if_neg hc156_33)] at q
                exact q _ _ _ X172 e172 N172 Zn172 E_b4 V_b4 E_b8 V_b8
            by_cases hc138_29 : (w0_17 x0 x1 x2) < (2 : Int64)
            · skip
              refine Goes.st (B := T27.setTop (mkF m 150 #[jv x0, .second, jv x1, .second, jv x2, .second, jv (w0_4 x0 x1 x2), .second, jv (w0_10 x0 x1 x2), .second, jv (w0_17 x0 x1 x2), .second, rv b4, rv b8, iv (j0_132_14 x0 x1 x2), .unset, .unset] [])) (fun t k => ?_) ?_
              · refine XS.ifYes X27.here hx rfl (pc0 := 138) (pc' := 150) rfl (hb hby at_138) rfl (tltL hc138_29).1 (by decide) (by decide) ?_
                exact k
              have q := jn150_32
              rw [show (j0_150_14 x0 x1 x2) = (j0_132_14 x0 x1 x2) from (if_pos hc138_29), show (j0_150_e0 x0 x1 x2) = (j0_132_e0 x0 x1 x2) from (if_pos hc138_29), show (j0_150_e1 x0 x1 x2) = (j0_132_e1 x0 x1 x2) from (if_pos hc138_29), show (j0_150_e2 x0 x1 x2) = (j0_132_e2 x0 x1 x2) from (if_pos hc138_29), show (j0_150_e3 x0 x1 x2) = (j0_132_e3 x0 x1 x2) from (if_pos hc138_29), show (j0_150_e4 x0 x1 x2) = (j0_132_e4 x0 x1 x2) from (if_pos hc138_29), show (j0_150_e5 x0 x1 x2) = (0 : Int32) from (if_pos hc138_29)] at q
              exact q _ _ _ X27 e27 N27 Zn27 E_b4 V_b4 E_b8 V_b8
            · skip
              refine Goes.st (B := T27.setTop (mkF m 141 #[jv x0, .second, jv x1, .second, jv x2, .second, jv (w0_4 x0 x1 x2), .second, jv (w0_10 x0 x1 x2), .second, jv (w0_17 x0 x1 x2), .second, rv b4, rv b8, iv (j0_132_14 x0 x1 x2), .unset, .unset] [])) (fun t k => ?_) ?_
              · refine XS.ifNo X27.here hx rfl (hb hby at_138) rfl (fltL hc138_29).1 ?_
                exact k
              refine Goes.run X27 hx hown hci hcl hby (L := [(141, .aload 13, 2), (143, .iload 14, 2), (145, .iconst 2, 1)]) (by decide +kernel) rfl (g' := (mkF m 146 #[jv x0, .second, jv x1, .second, jv x2, .second, jv (w0_4 x0 x1 x2), .second, jv (w0_10 x0 x1 x2), .second, jv (w0_17 x0 x1 x2), .second, rv b4, rv b8, iv (j0_132_14 x0 x1 x2), .unset, .unset] [(.int (2 : Int32)), (.int (j0_132_14 x0 x1 x2)), (.ref b8)])) rfl ?_
              obtain ⟨cl173, Ar173, q173, S173, M173, Hs173, G173⟩ := id V_b8
              have hin173 : ¬ ((j0_132_14 x0 x1 x2) < 0 ∨ cl173.slots.size ≤ ((j0_132_14 x0 x1 x2)).toNatClampNeg) := inb_of S173 ⟨(by rcases own_nb5 x0 x1 x2 with h | h | h | h | h | h <;> rw [h] <;> decide), (by rcases own_nb5 x0 x1 x2 with h | h | h | h | h | h <;> rw [h] <;> decide)⟩
              obtain ⟨T173, h173, X173, e173, W173, st173⟩ := stI X27 hx hZ e27 Ar173 (j := (j0_132_14 x0 x1 x2)) hin173 (g := (mkF m 146 #[jv x0, .second, jv x1, .second, jv x2, .second, jv (w0_4 x0 x1 x2), .second, jv (w0_10 x0 x1 x2), .second, jv (w0_17 x0 x1 x2), .second, rv b4, rv b8, iv (j0_132_14 x0 x1 x2), .unset, .unset] [(.int (2 : Int32)), (.int (j0_132_14 x0 x1 x2)), (.ref b8)])) rfl rfl (hb hby at_146)
              have E_b4 := E_b4.wr W173
              have V_b4 := V_b4.other W173 ne_b4_b8
              have E_b8 := E_b8.wr W173
              have Zn173 : n0 ≤ h173.size := Nat.le_trans Zn27 (Keep.of_wr W173).1
              have N173 := Fr.snoc X173 N27 g_b8
              have V_b8 : Arv Z h173 b8 k8 .int (9 : Int32) [(.int (if (j0_132_14 x0 x1 x2) = (0 : Int32) then (2 : Int32) else (j0_132_e0 x0 x1 x2))), (.int (if (j0_132_14 x0 x1 x2) = (1 : Int32) then (2 : Int32) else (j0_132_e1 x0 x1 x2))), (.int (if (j0_132_14 x0 x1 x2) = (2 : Int32) then (2 : Int32) else (j0_132_e2 x0 x1 x2))), (.int (if (j0_132_14 x0 x1 x2) = (3 : Int32) then (2 : Int32) else (j0_132_e3 x0 x1 x2))), (.int (if (j0_132_14 x0 x1 x2) = (4 : Int32) then (2 : Int32) else (j0_132_e4 x0 x1 x2))), (.int (if (j0_132_14 x0 x1 x2) = (5 : Int32) then (2 : Int32) else (0 : Int32))), (.int (0 : Int32)), (.int (0 : Int32)), (.int (0 : Int32))] (.int (0 : Int32)) := by
                rcases own_nb5 x0 x1 x2 with h | h | h | h | h | h
                · rw [h] at W173 ⊢; exact Arv.set Ar173 q173 S173 M173 Hs173 G173 rfl W173 0 rfl (Nat.le_of_ble_eq_true rfl)
                · rw [h] at W173 ⊢; exact Arv.set Ar173 q173 S173 M173 Hs173 G173 rfl W173 1 rfl (Nat.le_of_ble_eq_true rfl)
                · rw [h] at W173 ⊢; exact Arv.set Ar173 q173 S173 M173 Hs173 G173 rfl W173 2 rfl (Nat.le_of_ble_eq_true rfl)
                · rw [h] at W173 ⊢; exact Arv.set Ar173 q173 S173 M173 Hs173 G173 rfl W173 3 rfl (Nat.le_of_ble_eq_true rfl)
                · rw [h] at W173 ⊢; exact Arv.set Ar173 q173 S173 M173 Hs173 G173 rfl W173 4 rfl (Nat.le_of_ble_eq_true rfl)
                · rw [h] at W173 ⊢; exact Arv.set Ar173 q173 S173 M173 Hs173 G173 rfl W173 5 rfl (Nat.le_of_ble_eq_true rfl)
              refine Goes.st (B := T173.setTop (mkF m 147 #[jv x0, .second, jv x1, .second, jv x2, .second, jv (w0_4 x0 x1 x2), .second, jv (w0_10 x0 x1 x2), .second, jv (w0_17 x0 x1 x2), .second, rv b4, rv b8, iv (j0_132_14 x0 x1 x2), .unset, .unset] [])) st173 ?_
              refine Goes.run X173 hx hown hci hcl hby (L := [(147, .iinc 14 1, 3)]) (by decide +kernel) rfl (g' := (mkF m 150 #[jv x0, .second, jv x1, .second, jv x2, .second, jv (w0_4 x0 x1 x2), .second, jv (w0_10 x0 x1 x2), .second, jv (w0_17 x0 x1 x2), .second, rv b4, rv b8, iv (w0_147 x0 x1 x2), .unset, .unset] [])) rfl ?_
              have q := jn150_32
              rw [show (j0_150_14 x0 x1 x2) = (w0_147 x0 x1 x2) from (if_neg hc138_29), show (j0_150_e0 x0 x1 x2) = (if (j0_132_14 x0 x1 x2) = (0 : Int32) then (2 : Int32) else (j0_132_e0 x0 x1 x2)) from (if_neg hc138_29), show (j0_150_e1 x0 x1 x2) = (if (j0_132_14 x0 x1 x2) = (1 : Int32) then (2 : Int32) else (j0_132_e1 x0 x1 x2)) from (if_neg hc138_29), show (j0_150_e2 x0 x1 x2) = (if (j0_132_14 x0 x1 x2) = (2 : Int32) then (2 : Int32) else (j0_132_e2 x0 x1 x2)) from (if_neg hc138_29), show (j0_150_e3 x0 x1 x2) = (if (j0_132_14 x0 x1 x2) = (3 : Int32) then (2 : Int32) else (j0_132_e3 x0 x1 x2)) from (if_neg hc138_29), show (j0_150_e4 x0 x1 x2) = (if (j0_132_14 x0 x1 x2) = (4 : Int32) then (2 : Int32) else (j0_132_e4 x0 x1 x2)) from (if_neg hc138_29), show (j0_150_e5 x0 x1 x2) = (if (j0_132_14 x0 x1 x2) = (5 : Int32) then (2 : Int32) else (0 : Int32)) from (if_neg hc138_29)] at q
              exact q _ _ _ X173 e173 N173 Zn173 E_b4 V_b4 E_b8 V_b8
          by_cases hc120_25 : (w0_10 x0 x1 x2) < (2 : Int64)
          · skip
            refine Goes.st (B := T23.setTop (mkF m 132 #[jv x0, .second, jv x1, .second, jv x2, .second, jv (w0_4 x0 x1 x2), .second, jv (w0_10 x0 x1 x2), .second, jv (w0_17 x0 x1 x2), .second, rv b4, rv b8, iv (j0_114_14 x0 x1 x2), .unset, .unset] [])) (fun t k => ?_) ?_
            · refine XS.ifYes X23.here hx rfl (pc0 := 120) (pc' := 132) rfl (hb hby at_120) rfl (tltL hc120_25).1 (by decide) (by decide) ?_
              exact k
            have q := jn132_28
            rw [show (j0_132_14 x0 x1 x2) = (j0_114_14 x0 x1 x2) from (if_pos hc120_25), show (j0_132_e0 x0 x1 x2) = (j0_114_e0 x0 x1 x2) from (if_pos hc120_25), show (j0_132_e1 x0 x1 x2) = (j0_114_e1 x0 x1 x2) from (if_pos hc120_25), show (j0_132_e2 x0 x1 x2) = (j0_114_e2 x0 x1 x2) from (if_pos hc120_25), show (j0_132_e3 x0 x1 x2) = (j0_114_e3 x0 x1 x2) from (if_pos hc120_25), show (j0_132_e4 x0 x1 x2) = (0 : Int32) from (if_pos hc120_25)] at q
            exact q _ _ _ X23 e23 N23 Zn23 E_b4 V_b4 E_b8 V_b8
          · skip
            refine Goes.st (B := T23.setTop (mkF m 123 #[jv x0, .second, jv x1, .second, jv x2, .second, jv (w0_4 x0 x1 x2), .second, jv (w0_10 x0 x1 x2), .second, jv (w0_17 x0 x1 x2), .second, rv b4, rv b8, iv (j0_114_14 x0 x1 x2), .unset, .unset] [])) (fun t k => ?_) ?_
            · refine XS.ifNo X23.here hx rfl (hb hby at_120) rfl (fltL hc120_25).1 ?_
              exact k
            refine Goes.run X23 hx hown hci hcl hby (L := [(123, .aload 13, 2), (125, .iload 14, 2), (127, .iconst 1, 1)]) (by decide +kernel) rfl (g' := (mkF m 128 #[jv x0, .second, jv x1, .second, jv x2, .second, jv (w0_4 x0 x1 x2), .second, jv (w0_10 x0 x1 x2), .second, jv (w0_17 x0 x1 x2), .second, rv b4, rv b8, iv (j0_114_14 x0 x1 x2), .unset, .unset] [(.int (1 : Int32)), (.int (j0_114_14 x0 x1 x2)), (.ref b8)])) rfl ?_
            obtain ⟨cl174, Ar174, q174, S174, M174, Hs174, G174⟩ := id V_b8
            have hin174 : ¬ ((j0_114_14 x0 x1 x2) < 0 ∨ cl174.slots.size ≤ ((j0_114_14 x0 x1 x2)).toNatClampNeg) := inb_of S174 ⟨(by rcases own_nb4 x0 x1 x2 with h | h | h | h | h <;> rw [h] <;> decide), (by rcases own_nb4 x0 x1 x2 with h | h | h | h | h <;> rw [h] <;> decide)⟩
            obtain ⟨T174, h174, X174, e174, W174, st174⟩ := stI X23 hx hZ e23 Ar174 (j := (j0_114_14 x0 x1 x2)) hin174 (g := (mkF m 128 #[jv x0, .second, jv x1, .second, jv x2, .second, jv (w0_4 x0 x1 x2), .second, jv (w0_10 x0 x1 x2), .second, jv (w0_17 x0 x1 x2), .second, rv b4, rv b8, iv (j0_114_14 x0 x1 x2), .unset, .unset] [(.int (1 : Int32)), (.int (j0_114_14 x0 x1 x2)), (.ref b8)])) rfl rfl (hb hby at_128)
            have E_b4 := E_b4.wr W174
            have V_b4 := V_b4.other W174 ne_b4_b8
            have E_b8 := E_b8.wr W174
            have Zn174 : n0 ≤ h174.size := Nat.le_trans Zn23 (Keep.of_wr W174).1
            have N174 := Fr.snoc X174 N23 g_b8
            have V_b8 : Arv Z h174 b8 k8 .int (9 : Int32) [(.int (if (j0_114_14 x0 x1 x2) = (0 : Int32) then (1 : Int32) else (j0_114_e0 x0 x1 x2))), (.int (if (j0_114_14 x0 x1 x2) = (1 : Int32) then (1 : Int32) else (j0_114_e1 x0 x1 x2))), (.int (if (j0_114_14 x0 x1 x2) = (2 : Int32) then (1 : Int32) else (j0_114_e2 x0 x1 x2))), (.int (if (j0_114_14 x0 x1 x2) = (3 : Int32) then (1 : Int32) else (j0_114_e3 x0 x1 x2))), (.int (if (j0_114_14 x0 x1 x2) = (4 : Int32) then (1 : Int32) else (0 : Int32))), (.int (0 : Int32)), (.int (0 : Int32)), (.int (0 : Int32)), (.int (0 : Int32))] (.int (0 : Int32)) := by
              rcases own_nb4 x0 x1 x2 with h | h | h | h | h
              · rw [h] at W174 ⊢; exact Arv.set Ar174 q174 S174 M174 Hs174 G174 rfl W174 0 rfl (Nat.le_of_ble_eq_true rfl)
              · rw [h] at W174 ⊢; exact Arv.set Ar174 q174 S174 M174 Hs174 G174 rfl W174 1 rfl (Nat.le_of_ble_eq_true rfl)
              · rw [h] at W174 ⊢; exact Arv.set Ar174 q174 S174 M174 Hs174 G174 rfl W174 2 rfl (Nat.le_of_ble_eq_true rfl)
              · rw [h] at W174 ⊢; exact Arv.set Ar174 q174 S174 M174 Hs174 G174 rfl W174 3 rfl (Nat.le_of_ble_eq_true rfl)
              · rw [h] at W174 ⊢; exact Arv.set Ar174 q174 S174 M174 Hs174 G174 rfl W174 4 rfl (Nat.le_of_ble_eq_true rfl)
            refine Goes.st (B := T174.setTop (mkF m 129 #[jv x0, .second, jv x1, .second, jv x2, .second, jv (w0_4 x0 x1 x2), .second, jv (w0_10 x0 x1 x2), .second, jv (w0_17 x0 x1 x2), .second, rv b4, rv b8, iv (j0_114_14 x0 x1 x2), .unset, .unset] [])) st174 ?_
            refine Goes.run X174 hx hown hci hcl hby (L := [(129, .iinc 14 1, 3)]) (by decide +kernel) rfl (g' := (mkF m 132 #[jv x0, .second, jv x1, .second, jv x2, .second, jv (w0_4 x0 x1 x2), .second, jv (w0_10 x0 x1 x2), .second, jv (w0_17 x0 x1 x2), .second, rv b4, rv b8, iv (w0_129 x0 x1 x2), .unset, .unset] [])) rfl ?_
            have q := jn132_28
            rw [show (j0_132_14 x0 x1 x2) = (w0_129 x0 x1 x2) from (if_neg hc120_25), show (j0_132_e0 x0 x1 x2) = (if (j0_114_14 x0 x1 x2) = (0 : Int32) then (1 : Int32) else (j0_114_e0 x0 x1 x2)) from (if_neg hc120_25), show (j0_132_e1 x0 x1 x2) = (if (j0_114_14 x0 x1 x2) = (1 : Int32) then (1 : Int32) else (j0_114_e1 x0 x1 x2)) from (if_neg hc120_25), show (j0_132_e2 x0 x1 x2) = (if (j0_114_14 x0 x1 x2) = (2 : Int32) then (1 : Int32) else (j0_114_e2 x0 x1 x2)) from (if_neg hc120_25), show (j0_132_e3 x0 x1 x2) = (if (j0_114_14 x0 x1 x2) = (3 : Int32) then (1 : Int32) else (j0_114_e3 x0 x1 x2)) from (if_neg hc120_25), show (j0_132_e4 x0 x1 x2) = (if (j0_114_14 x0 x1 x2) = (4 : Int32) then (1 : Int32) else (0 : Int32)) from (if_neg hc120_25)] at q
            exact q _ _ _ X174 e174 N174 Zn174 E_b4 V_b4 E_b8 V_b8
        by_cases hc102_21 : (w0_4 x0 x1 x2) < (2 : Int64)
        · skip
          refine Goes.st (B := T19.setTop (mkF m 114 #[jv x0, .second, jv x1, .second, jv x2, .second, jv (w0_4 x0 x1 x2), .second, jv (w0_10 x0 x1 x2), .second, jv (w0_17 x0 x1 x2), .second, rv b4, rv b8, iv (j0_96_14 x0 x1 x2), .unset, .unset] [])) (fun t k => ?_) ?_
          · refine XS.ifYes X19.here hx rfl (pc0 := 102) (pc' := 114) rfl (hb hby at_102) rfl (tltL hc102_21).1 (by decide) (by decide) ?_
            exact k
          have q := jn114_24
          rw [show (j0_114_14 x0 x1 x2) = (j0_96_14 x0 x1 x2) from (if_pos hc102_21), show (j0_114_e0 x0 x1 x2) = (j0_96_e0 x0 x1 x2) from (if_pos hc102_21), show (j0_114_e1 x0 x1 x2) = (j0_96_e1 x0 x1 x2) from (if_pos hc102_21), show (j0_114_e2 x0 x1 x2) = (j0_96_e2 x0 x1 x2) from (if_pos hc102_21), show (j0_114_e3 x0 x1 x2) = (0 : Int32) from (if_pos hc102_21)] at q
          exact q _ _ _ X19 e19 N19 Zn19 E_b4 V_b4 E_b8 V_b8
        · skip
          refine Goes.st (B := T19.setTop (mkF m 105 #[jv x0, .second, jv x1, .second, jv x2, .second, jv (w0_4 x0 x1 x2), .second, jv (w0_10 x0 x1 x2), .second, jv (w0_17 x0 x1 x2), .second, rv b4, rv b8, iv (j0_96_14 x0 x1 x2), .unset, .unset] [])) (fun t k => ?_) ?_
          · refine XS.ifNo X19.here hx rfl (hb hby at_102) rfl (fltL hc102_21).1 ?_
            exact k
          refine Goes.run X19 hx hown hci hcl hby (L := [(105, .aload 13, 2), (107, .iload 14, 2), (109, .iconst 0, 1)]) (by decide +kernel) rfl (g' := (mkF m 110 #[jv x0, .second, jv x1, .second, jv x2, .second, jv (w0_4 x0 x1 x2), .second, jv (w0_10 x0 x1 x2), .second, jv (w0_17 x0 x1 x2), .second, rv b4, rv b8, iv (j0_96_14 x0 x1 x2), .unset, .unset] [(.int (0 : Int32)), (.int (j0_96_14 x0 x1 x2)), (.ref b8)])) rfl ?_
          obtain ⟨cl175, Ar175, q175, S175, M175, Hs175, G175⟩ := id V_b8
          have hin175 : ¬ ((j0_96_14 x0 x1 x2) < 0 ∨ cl175.slots.size ≤ ((j0_96_14 x0 x1 x2)).toNatClampNeg) := inb_of S175 ⟨(by rcases own_nb3 x0 x1 x2 with h | h | h | h <;> rw [h] <;> decide), (by rcases own_nb3 x0 x1 x2 with h | h | h | h <;> rw [h] <;> decide)⟩
          obtain ⟨T175, h175, X175, e175, W175, st175⟩ := stI X19 hx hZ e19 Ar175 (j := (j0_96_14 x0 x1 x2)) hin175 (g := (mkF m 110 #[jv x0, .second, jv x1, .second, jv x2, .second, jv (w0_4 x0 x1 x2), .second, jv (w0_10 x0 x1 x2), .second, jv (w0_17 x0 x1 x2), .second, rv b4, rv b8, iv (j0_96_14 x0 x1 x2), .unset, .unset] [(.int (0 : Int32)), (.int (j0_96_14 x0 x1 x2)), (.ref b8)])) rfl rfl (hb hby at_110)
          have E_b4 := E_b4.wr W175
          have V_b4 := V_b4.other W175 ne_b4_b8
          have E_b8 := E_b8.wr W175
          have Zn175 : n0 ≤ h175.size := Nat.le_trans Zn19 (Keep.of_wr W175).1
          have N175 := Fr.snoc X175 N19 g_b8
          have V_b8 : Arv Z h175 b8 k8 .int (9 : Int32) [(.int (if (j0_96_14 x0 x1 x2) = (0 : Int32) then (0 : Int32) else (j0_96_e0 x0 x1 x2))), (.int (if (j0_96_14 x0 x1 x2) = (1 : Int32) then (0 : Int32) else (j0_96_e1 x0 x1 x2))), (.int (if (j0_96_14 x0 x1 x2) = (2 : Int32) then (0 : Int32) else (j0_96_e2 x0 x1 x2))), (.int (if (j0_96_14 x0 x1 x2) = (3 : Int32) then (0 : Int32) else (0 : Int32))), (.int (0 : Int32)), (.int (0 : Int32)), (.int (0 : Int32)), (.int (0 : Int32)), (.int (0 : Int32))] (.int (0 : Int32)) := by
            rcases own_nb3 x0 x1 x2 with h | h | h | h
            · rw [h] at W175 ⊢; exact Arv.set Ar175 q175 S175 M175 Hs175 G175 rfl W175 0 rfl (Nat.le_of_ble_eq_true rfl)
            · rw [h] at W175 ⊢; exact Arv.set Ar175 q175 S175 M175 Hs175 G175 rfl W175 1 rfl (Nat.le_of_ble_eq_true rfl)
            · rw [h] at W175 ⊢; exact Arv.set Ar175 q175 S175 M175 Hs175 G175 rfl W175 2 rfl (Nat.le_of_ble_eq_true rfl)
            · rw [h] at W175 ⊢; exact Arv.set Ar175 q175 S175 M175 Hs175 G175 rfl W175 3 rfl (Nat.le_of_ble_eq_true rfl)
          refine Goes.st (B := T175.setTop (mkF m 111 #[jv x0, .second, jv x1, .second, jv x2, .second, jv (w0_4 x0 x1 x2), .second, jv (w0_10 x0 x1 x2), .second, jv (w0_17 x0 x1 x2), .second, rv b4, rv b8, iv (j0_96_14 x0 x1 x2), .unset, .unset] [])) st175 ?_
          refine Goes.run X175 hx hown hci hcl hby (L := [(111, .iinc 14 1, 3)]) (by decide +kernel) rfl (g' := (mkF m 114 #[jv x0, .second, jv x1, .second, jv x2, .second, jv (w0_4 x0 x1 x2), .second, jv (w0_10 x0 x1 x2), .second, jv (w0_17 x0 x1 x2), .second, rv b4, rv b8, iv (w0_111 x0 x1 x2), .unset, .unset] [])) rfl ?_
          have q := jn114_24
          rw [show (j0_114_14 x0 x1 x2) = (w0_111 x0 x1 x2) from (if_neg hc102_21), show (j0_114_e0 x0 x1 x2) = (if (j0_96_14 x0 x1 x2) = (0 : Int32) then (0 : Int32) else (j0_96_e0 x0 x1 x2)) from (if_neg hc102_21), show (j0_114_e1 x0 x1 x2) = (if (j0_96_14 x0 x1 x2) = (1 : Int32) then (0 : Int32) else (j0_96_e1 x0 x1 x2)) from (if_neg hc102_21), show (j0_114_e2 x0 x1 x2) = (if (j0_96_14 x0 x1 x2) = (2 : Int32) then (0 : Int32) else (j0_96_e2 x0 x1 x2)) from (if_neg hc102_21), show (j0_114_e3 x0 x1 x2) = (if (j0_96_14 x0 x1 x2) = (3 : Int32) then (0 : Int32) else (0 : Int32)) from (if_neg hc102_21)] at q
          exact q _ _ _ X175 e175 N175 Zn175 E_b4 V_b4 E_b8 V_b8
      by_cases hc84_17 : (w0_17 x0 x1 x2) < (1 : Int64)
      · skip
        refine Goes.st (B := T15.setTop (mkF m 96 #[jv x0, .second, jv x1, .second, jv x2, .second, jv (w0_4 x0 x1 x2), .second, jv (w0_10 x0 x1 x2), .second, jv (w0_17 x0 x1 x2), .second, rv b4, rv b8, iv (j0_80_14 x0 x1 x2), .unset, .unset] [])) (fun t k => ?_) ?_
        · refine XS.ifYes X15.here hx rfl (pc0 := 84) (pc' := 96) rfl (hb hby at_84) rfl (tltL hc84_17).1 (by decide) (by decide) ?_
          exact k
        have q := jn96_20
        rw [show (j0_96_14 x0 x1 x2) = (j0_80_14 x0 x1 x2) from (if_pos hc84_17), show (j0_96_e0 x0 x1 x2) = (j0_80_e0 x0 x1 x2) from (if_pos hc84_17), show (j0_96_e1 x0 x1 x2) = (j0_80_e1 x0 x1 x2) from (if_pos hc84_17), show (j0_96_e2 x0 x1 x2) = (0 : Int32) from (if_pos hc84_17)] at q
        exact q _ _ _ X15 e15 N15 Zn15 E_b4 V_b4 E_b8 V_b8
      · skip
        refine Goes.st (B := T15.setTop (mkF m 87 #[jv x0, .second, jv x1, .second, jv x2, .second, jv (w0_4 x0 x1 x2), .second, jv (w0_10 x0 x1 x2), .second, jv (w0_17 x0 x1 x2), .second, rv b4, rv b8, iv (j0_80_14 x0 x1 x2), .unset, .unset] [])) (fun t k => ?_) ?_
        · refine XS.ifNo X15.here hx rfl (hb hby at_84) rfl (fltL hc84_17).1 ?_
          exact k
        refine Goes.run X15 hx hown hci hcl hby (L := [(87, .aload 13, 2), (89, .iload 14, 2), (91, .iconst 2, 1)]) (by decide +kernel) rfl (g' := (mkF m 92 #[jv x0, .second, jv x1, .second, jv x2, .second, jv (w0_4 x0 x1 x2), .second, jv (w0_10 x0 x1 x2), .second, jv (w0_17 x0 x1 x2), .second, rv b4, rv b8, iv (j0_80_14 x0 x1 x2), .unset, .unset] [(.int (2 : Int32)), (.int (j0_80_14 x0 x1 x2)), (.ref b8)])) rfl ?_
        obtain ⟨cl176, Ar176, q176, S176, M176, Hs176, G176⟩ := id V_b8
        have hin176 : ¬ ((j0_80_14 x0 x1 x2) < 0 ∨ cl176.slots.size ≤ ((j0_80_14 x0 x1 x2)).toNatClampNeg) := inb_of S176 ⟨(by rcases own_nb2 x0 x1 x2 with h | h | h <;> rw [h] <;> decide), (by rcases own_nb2 x0 x1 x2 with h | h | h <;> rw [h] <;> decide)⟩
        obtain ⟨T176, h176, X176, e176, W176, st176⟩ := stI X15 hx hZ e15 Ar176 (j := (j0_80_14 x0 x1 x2)) hin176 (g := (mkF m 92 #[jv x0, .second, jv x1, .second, jv x2, .second, jv (w0_4 x0 x1 x2), .second, jv (w0_10 x0 x1 x2), .second, jv (w0_17 x0 x1 x2), .second, rv b4, rv b8, iv (j0_80_14 x0 x1 x2), .unset, .unset] [(.int (2 : Int32)), (.int (j0_80_14 x0 x1 x2)), (.ref b8)])) rfl rfl (hb hby at_92)
        have E_b4 := E_b4.wr W176
        have V_b4 := V_b4.other W176 ne_b4_b8
        have E_b8 := E_b8.wr W176
        have Zn176 : n0 ≤ h176.size := Nat.le_trans Zn15 (Keep.of_wr W176).1
        have N176 := Fr.snoc X176 N15 g_b8
        have V_b8 : Arv Z h176 b8 k8 .int (9 : Int32) [(.int (if (j0_80_14 x0 x1 x2) = (0 : Int32) then (2 : Int32) else (j0_80_e0 x0 x1 x2))), (.int (if (j0_80_14 x0 x1 x2) = (1 : Int32) then (2 : Int32) else (j0_80_e1 x0 x1 x2))), (.int (if (j0_80_14 x0 x1 x2) = (2 : Int32) then (2 : Int32) else (0 : Int32))), (.int (0 : Int32)), (.int (0 : Int32)), (.int (0 : Int32)), (.int (0 : Int32)), (.int (0 : Int32)), (.int (0 : Int32))] (.int (0 : Int32)) := by
          rcases own_nb2 x0 x1 x2 with h | h | h
          · rw [h] at W176 ⊢; exact Arv.set Ar176 q176 S176 M176 Hs176 G176 rfl W176 0 rfl (Nat.le_of_ble_eq_true rfl)
          · rw [h] at W176 ⊢; exact Arv.set Ar176 q176 S176 M176 Hs176 G176 rfl W176 1 rfl (Nat.le_of_ble_eq_true rfl)
          · rw [h] at W176 ⊢; exact Arv.set Ar176 q176 S176 M176 Hs176 G176 rfl W176 2 rfl (Nat.le_of_ble_eq_true rfl)
        refine Goes.st (B := T176.setTop (mkF m 93 #[jv x0, .second, jv x1, .second, jv x2, .second, jv (w0_4 x0 x1 x2), .second, jv (w0_10 x0 x1 x2), .second, jv (w0_17 x0 x1 x2), .second, rv b4, rv b8, iv (j0_80_14 x0 x1 x2), .unset, .unset] [])) st176 ?_
        refine Goes.run X176 hx hown hci hcl hby (L := [(93, .iinc 14 1, 3)]) (by decide +kernel) rfl (g' := (mkF m 96 #[jv x0, .second, jv x1, .second, jv x2, .second, jv (w0_4 x0 x1 x2), .second, jv (w0_10 x0 x1 x2), .second, jv (w0_17 x0 x1 x2), .second, rv b4, rv b8, iv (w0_93 x0 x1 x2), .unset, .unset] [])) rfl ?_
        have q := jn96_20
        rw [show (j0_96_14 x0 x1 x2) = (w0_93 x0 x1 x2) from (if_neg hc84_17), show (j0_96_e0 x0 x1 x2) = (if (j0_80_14 x0 x1 x2) = (0 : Int32) then (2 : Int32) else (j0_80_e0 x0 x1 x2)) from (if_neg hc84_17), show (j0_96_e1 x0 x1 x2) = (if (j0_80_14 x0 x1 x2) = (1 : Int32) then (2 : Int32) else (j0_80_e1 x0 x1 x2)) from (if_neg hc84_17), show (j0_96_e2 x0 x1 x2) = (if (j0_80_14 x0 x1 x2) = (2 : Int32) then (2 : Int32) else (0 : Int32)) from (if_neg hc84_17)] at q
        exact q _ _ _ X176 e176 N176 Zn176 E_b4 V_b4 E_b8 V_b8
    by_cases hc68_13 : (w0_10 x0 x1 x2) < (1 : Int64)
    · skip
      refine Goes.st (B := T11.setTop (mkF m 80 #[jv x0, .second, jv x1, .second, jv x2, .second, jv (w0_4 x0 x1 x2), .second, jv (w0_10 x0 x1 x2), .second, jv (w0_17 x0 x1 x2), .second, rv b4, rv b8, iv (j0_64_14 x0 x1 x2), .unset, .unset] [])) (fun t k => ?_) ?_
      · refine XS.ifYes X11.here hx rfl (pc0 := 68) (pc' := 80) rfl (hb hby at_68) rfl (tltL hc68_13).1 (by decide) (by decide) ?_
        exact k
      have q := jn80_16
      rw [show (j0_80_14 x0 x1 x2) = (j0_64_14 x0 x1 x2) from (if_pos hc68_13), show (j0_80_e0 x0 x1 x2) = (0 : Int32) from (if_pos hc68_13), show (j0_80_e1 x0 x1 x2) = (0 : Int32) from (if_pos hc68_13)] at q
      exact q _ _ _ X11 e11 N11 Zn11 E_b4 V_b4 E_b8 V_b8
    · skip
      refine Goes.st (B := T11.setTop (mkF m 71 #[jv x0, .second, jv x1, .second, jv x2, .second, jv (w0_4 x0 x1 x2), .second, jv (w0_10 x0 x1 x2), .second, jv (w0_17 x0 x1 x2), .second, rv b4, rv b8, iv (j0_64_14 x0 x1 x2), .unset, .unset] [])) (fun t k => ?_) ?_
      · refine XS.ifNo X11.here hx rfl (hb hby at_68) rfl (fltL hc68_13).1 ?_
        exact k
      refine Goes.run X11 hx hown hci hcl hby (L := [(71, .aload 13, 2), (73, .iload 14, 2), (75, .iconst 1, 1)]) (by decide +kernel) rfl (g' := (mkF m 76 #[jv x0, .second, jv x1, .second, jv x2, .second, jv (w0_4 x0 x1 x2), .second, jv (w0_10 x0 x1 x2), .second, jv (w0_17 x0 x1 x2), .second, rv b4, rv b8, iv (j0_64_14 x0 x1 x2), .unset, .unset] [(.int (1 : Int32)), (.int (j0_64_14 x0 x1 x2)), (.ref b8)])) rfl ?_
      obtain ⟨cl177, Ar177, q177, S177, M177, Hs177, G177⟩ := id V_b8
      have hin177 : ¬ ((j0_64_14 x0 x1 x2) < 0 ∨ cl177.slots.size ≤ ((j0_64_14 x0 x1 x2)).toNatClampNeg) := inb_of S177 ⟨(by rcases own_nb1 x0 x1 x2 with h | h <;> rw [h] <;> decide), (by rcases own_nb1 x0 x1 x2 with h | h <;> rw [h] <;> decide)⟩
      obtain ⟨T177, h177, X177, e177, W177, st177⟩ := stI X11 hx hZ e11 Ar177 (j := (j0_64_14 x0 x1 x2)) hin177 (g := (mkF m 76 #[jv x0, .second, jv x1, .second, jv x2, .second, jv (w0_4 x0 x1 x2), .second, jv (w0_10 x0 x1 x2), .second, jv (w0_17 x0 x1 x2), .second, rv b4, rv b8, iv (j0_64_14 x0 x1 x2), .unset, .unset] [(.int (1 : Int32)), (.int (j0_64_14 x0 x1 x2)), (.ref b8)])) rfl rfl (hb hby at_76)
      have E_b4 := E_b4.wr W177
      have V_b4 := V_b4.other W177 ne_b4_b8
      have E_b8 := E_b8.wr W177
      have Zn177 : n0 ≤ h177.size := Nat.le_trans Zn11 (Keep.of_wr W177).1
      have N177 := Fr.snoc X177 N11 g_b8
      have V_b8 : Arv Z h177 b8 k8 .int (9 : Int32) [(.int (if (j0_64_14 x0 x1 x2) = (0 : Int32) then (1 : Int32) else (0 : Int32))), (.int (if (j0_64_14 x0 x1 x2) = (1 : Int32) then (1 : Int32) else (0 : Int32))), (.int (0 : Int32)), (.int (0 : Int32)), (.int (0 : Int32)), (.int (0 : Int32)), (.int (0 : Int32)), (.int (0 : Int32)), (.int (0 : Int32))] (.int (0 : Int32)) := by
        rcases own_nb1 x0 x1 x2 with h | h
        · rw [h] at W177 ⊢; exact Arv.set Ar177 q177 S177 M177 Hs177 G177 rfl W177 0 rfl (Nat.le_of_ble_eq_true rfl)
        · rw [h] at W177 ⊢; exact Arv.set Ar177 q177 S177 M177 Hs177 G177 rfl W177 1 rfl (Nat.le_of_ble_eq_true rfl)
      refine Goes.st (B := T177.setTop (mkF m 77 #[jv x0, .second, jv x1, .second, jv x2, .second, jv (w0_4 x0 x1 x2), .second, jv (w0_10 x0 x1 x2), .second, jv (w0_17 x0 x1 x2), .second, rv b4, rv b8, iv (j0_64_14 x0 x1 x2), .unset, .unset] [])) st177 ?_
      refine Goes.run X177 hx hown hci hcl hby (L := [(77, .iinc 14 1, 3)]) (by decide +kernel) rfl (g' := (mkF m 80 #[jv x0, .second, jv x1, .second, jv x2, .second, jv (w0_4 x0 x1 x2), .second, jv (w0_10 x0 x1 x2), .second, jv (w0_17 x0 x1 x2), .second, rv b4, rv b8, iv (w0_77 x0 x1 x2), .unset, .unset] [])) rfl ?_
      have q := jn80_16
      rw [show (j0_80_14 x0 x1 x2) = (w0_77 x0 x1 x2) from (if_neg hc68_13), show (j0_80_e0 x0 x1 x2) = (if (j0_64_14 x0 x1 x2) = (0 : Int32) then (1 : Int32) else (0 : Int32)) from (if_neg hc68_13), show (j0_80_e1 x0 x1 x2) = (if (j0_64_14 x0 x1 x2) = (1 : Int32) then (1 : Int32) else (0 : Int32)) from (if_neg hc68_13)] at q
      exact q _ _ _ X177 e177 N177 Zn177 E_b4 V_b4 E_b8 V_b8
  by_cases hc52_9 : (w0_4 x0 x1 x2) < (1 : Int64)
  · skip
    refine Goes.st (B := T8.setTop (mkF m 64 #[jv x0, .second, jv x1, .second, jv x2, .second, jv (w0_4 x0 x1 x2), .second, jv (w0_10 x0 x1 x2), .second, jv (w0_17 x0 x1 x2), .second, rv b4, rv b8, iv (0 : Int32), .unset, .unset] [])) (fun t k => ?_) ?_
    · refine XS.ifYes X8.here hx rfl (pc0 := 52) (pc' := 64) rfl (hb hby at_52) rfl (tltL hc52_9).1 (by decide) (by decide) ?_
      exact k
    have q := jn64_12
    rw [show (j0_64_14 x0 x1 x2) = (0 : Int32) from (if_pos hc52_9)] at q
    exact q _ _ _ X8 e8 N7 Zn8 E_b4 V_b4 E_b8 V_b8
  · skip
    refine Goes.st (B := T8.setTop (mkF m 55 #[jv x0, .second, jv x1, .second, jv x2, .second, jv (w0_4 x0 x1 x2), .second, jv (w0_10 x0 x1 x2), .second, jv (w0_17 x0 x1 x2), .second, rv b4, rv b8, iv (0 : Int32), .unset, .unset] [])) (fun t k => ?_) ?_
    · refine XS.ifNo X8.here hx rfl (hb hby at_52) rfl (fltL hc52_9).1 ?_
      exact k
    refine Goes.run X8 hx hown hci hcl hby (L := [(55, .aload 13, 2), (57, .iload 14, 2), (59, .iconst 0, 1)]) (by decide +kernel) rfl (g' := (mkF m 60 #[jv x0, .second, jv x1, .second, jv x2, .second, jv (w0_4 x0 x1 x2), .second, jv (w0_10 x0 x1 x2), .second, jv (w0_17 x0 x1 x2), .second, rv b4, rv b8, iv (0 : Int32), .unset, .unset] [(.int (0 : Int32)), (.int (0 : Int32)), (.ref b8)])) rfl ?_
    obtain ⟨cl178, Ar178, q178, S178, M178, Hs178, G178⟩ := id V_b8
    have hin178 : ¬ ((0 : Int32) < 0 ∨ cl178.slots.size ≤ ((0 : Int32)).toNatClampNeg) := inb_of S178 ⟨(by decide), (by decide)⟩
    obtain ⟨T178, h178, X178, e178, W178, st178⟩ := stI X8 hx hZ e8 Ar178 (j := (0 : Int32)) hin178 (g := (mkF m 60 #[jv x0, .second, jv x1, .second, jv x2, .second, jv (w0_4 x0 x1 x2), .second, jv (w0_10 x0 x1 x2), .second, jv (w0_17 x0 x1 x2), .second, rv b4, rv b8, iv (0 : Int32), .unset, .unset] [(.int (0 : Int32)), (.int (0 : Int32)), (.ref b8)])) rfl rfl (hb hby at_60)
    have E_b4 := E_b4.wr W178
    have V_b4 := V_b4.other W178 ne_b4_b8
    have E_b8 := E_b8.wr W178
    have Zn178 : n0 ≤ h178.size := Nat.le_trans Zn8 (Keep.of_wr W178).1
    have N178 := Fr.snoc X178 N7 g_b8
    have V_b8 : Arv Z h178 b8 k8 .int (9 : Int32) [(.int (0 : Int32)), (.int (0 : Int32)), (.int (0 : Int32)), (.int (0 : Int32)), (.int (0 : Int32)), (.int (0 : Int32)), (.int (0 : Int32)), (.int (0 : Int32)), (.int (0 : Int32))] (.int (0 : Int32)) := Arv.set Ar178 q178 S178 M178 Hs178 G178 rfl W178 0 rfl (Nat.le_of_ble_eq_true rfl)
    refine Goes.st (B := T178.setTop (mkF m 61 #[jv x0, .second, jv x1, .second, jv x2, .second, jv (w0_4 x0 x1 x2), .second, jv (w0_10 x0 x1 x2), .second, jv (w0_17 x0 x1 x2), .second, rv b4, rv b8, iv (0 : Int32), .unset, .unset] [])) st178 ?_
    refine Goes.run X178 hx hown hci hcl hby (L := [(61, .iinc 14 1, 3)]) (by decide +kernel) rfl (g' := (mkF m 64 #[jv x0, .second, jv x1, .second, jv x2, .second, jv (w0_4 x0 x1 x2), .second, jv (w0_10 x0 x1 x2), .second, jv (w0_17 x0 x1 x2), .second, rv b4, rv b8, iv (1 : Int32), .unset, .unset] [])) rfl ?_
    have q := jn64_12
    rw [show (j0_64_14 x0 x1 x2) = (1 : Int32) from (if_neg hc52_9)] at q
    exact q _ _ _ X178 e178 N178 Zn178 E_b4 V_b4 E_b8 V_b8
set_option maxRecDepth 65536 in
set_option maxHeartbeats 40000000 in
theorem comes_1 {Post : Tables → Env → Array Value → State → Outcome → State → Prop} (hpost : ∀ tb e args s v u, (limb_1_1.after args s (.returned v) u = true ∧ limb_1_2.after args s (.returned v) u = true ∧ True) → FrameEnd s (.returned v) u (Jvm.fieldLocs frame_1_writes args s ++ Jvm.arrayLocs frame_1_arrays args s ++ Jvm.staticLocs frame_1_statics s) 24 128 → Post tb e args s (.returned v) u) :
    ArmFor flags0 classFile x code maxLocals ret World_1 tables_1 room_1 Calls_1 rest_1 Pre_1 Post := by
  intro l hfl _ _ p e ha hc hk s m args below hf hA hF happ hP
  obtain ⟨hcalls, hrest, hpre⟩ := hP
  obtain ⟨-, -, -, hnamed, -, -, -, hat⟩ := (Spec.applies_iff hf).mp happ
  obtain ⟨hg, hn⟩ := and_e (Cond.before_iff.mp (show (Jvm.Cond.and given_1 narrow_1).before args s = true from hpre))
  obtain ⟨g0, g0r⟩ := and_e hg
  obtain ⟨g1, g1r⟩ := and_e g0r
  obtain ⟨g2, g3⟩ := and_e g1r
  obtain ⟨w0, w1, w2, rfl⟩ : ∃ w0 w1 w2 : Value, args = #[w0, w1, w2] := by
    have hs : args.size = 3 := by simpa [Cond.value, given_1] using g0
    obtain ⟨L⟩ := args
    match L, hs with
    | [w0, w1, w2], _ => exact ⟨w0, w1, w2, rfl⟩
  have hw := fun d (hd : d ∈ tables_1) => atoms_spec (ws := Jvm.Cond.code x code maxLocals ret :: tables_1) hat d (List.mem_cons_of_mem _ hd)
  have hfit : Fit s := fun {y c} hc i hi => by
    obtain ⟨ha, rfl⟩ := Array.getElem?_eq_some_iff.mp hc
    have q := List.all_eq_true.mp ((Array.all_eq_true_iff_forall_mem.mp hF) _ (Array.getElem_mem ha)) i (List.mem_range.mpr hi)
    simpa [Array.getElem?_eq_getElem hi] using q
  obtain ⟨i0, ei0⟩ := isL_v g1
  obtain rfl : w0 = (.long i0) := Option.some.inj ei0
  obtain ⟨i1, ei1⟩ := isL_v g2
  obtain rfl : w1 = (.long i1) := Option.some.inj ei1
  obtain ⟨i2, ei2⟩ := isL_v g3
  obtain rfl : w2 = (.long i2) := Option.some.inj ei2
  obtain ⟨n, o, h1, h2, h3, v, L, rfl, hv, hq⟩ := rm0 l s _ hw tables_1 i0 i1 i2  s.heap s.heap.size (Nat.le_refl _)  p e ha hc hk s m _ below hf ((Spec.applies_iff_loose hf).mp happ).1 ⟨rfl, State.Warmed39.refl s, rfl⟩ trivial
  have N := hv.2
  have hv1 : v = some (.int 1) := hv.1.trans (congrArg (fun z => some (Value.int z)) (law_true i0 i1 i2))
  subst hv1
  refine ⟨n, _, h1, h2, h3, hpost _ _ _ _ _ _ ⟨Cond.after_iff.mpr rfl, Cond.after_iff.mpr (eq_i res_at (Term.int_eval (1)) rfl), trivial⟩ ⟨hq.1, hq.2.1, (hq.2.2.sift fun y hy => Or.inr (N y hy)).mono (by decide) (by decide)⟩⟩
theorem main_1_1 : Claimed_1_1 := comes_1 fun _ _ _ _ _ _ h hF => ⟨h.1, hF⟩
theorem main_1_2 : Claimed_1_2 := comes_1 fun _ _ _ _ _ _ h hF => ⟨h.2.1, hF⟩
end Jvm.Pilot.@@N@@
namespace Jvm.Pilot.@@N@@
open Jvm Jvm.ClassFile Sem Op Lib Jvm.Free Jvm.Stand Jvm.Pilot.@@N@@.Jvm.D
/-! MADE BY PROGRAM (witnessworld.py) out of the Statement's table words and the real class files: 11 classes; the members and pool entries that the words name. The judged class is class 1, her method 2. -/
namespace start1
open Jvm.ClassFile
def u (s : String) : CpInfo := .utf8 (stringToUtf16 s)
/-- a pool by its gaps: so many unusable entries, then the entry; so many at the end -/
def gap : Nat → List CpInfo → List CpInfo
  | 0, r => r
  | n + 1, r => .unusable :: gap n r
def poolList (es : List (Nat × CpInfo)) (last : Nat) : List CpInfo := es.foldr (fun e r => gap e.1 (e.2 :: r)) (gap last [])
def pool (es : List (Nat × CpInfo)) (last : Nat) : Array CpInfo := ⟨poolList es last⟩
def fileOf (pool : Array CpInfo) (this : Nat) (attrs : Array Attribute := #[]) (ms : Array MethodInfo := #[]) (fl : Nat := 33) (sup : Nat := 0) (ifs : Array Nat := #[]) (fds : Array FieldInfo := #[]) : ClassFile where
  minorVersion := 0
  majorVersion := 65
  constantPool := pool
  accessFlags := fl
  thisClass := this
  superClass := sup
  interfaces := ifs
  fields := fds
  methods := ms
  attributes := attrs
def plain (name : String) (sup : Option ClassId) : Class where
  name := name
  kind := .ordinary
  loader := none
  accessFlags := 33
  super := sup
  interfaces := #[]
  cf := none
  fields := #[]
  methods := #[]
  instanceTypes := #[]
  staticTypes := #[]
  resolved := #[]
  callSites := []
  init := .initialized
  statics := none
  mirror := none

def pool0 : Array CpInfo := pool [(5, u "<init>"), (0, u "()V"), (1, .class_ 10), (1, u "java/lang/Object"), (85, u "clone"), (0, u "()Ljava/lang/Object;")] 26

def k0c0 : Code := { maxStack := 0, maxLocals := 1, code := object_method_1_code, exceptionTable := #[], attributes := #[] }
def k0m0 : Method := { name := "<init>", desc := "()V", sig := { parameters := [], returnType := none }, accessFlags := 1, code := some k0c0 }
def k0m1 : Method := { name := "clone", desc := "()Ljava/lang/Object;", sig := { parameters := [], returnType := some (.object "java/lang/Object") }, accessFlags := 260, code := none }
/-- java/lang/Object -/
def k0 : Class := { plain "java/lang/Object" none with
  accessFlags := 33
  interfaces := #[]
  cf := some (fileOf pool0 8 #[] #[{ accessFlags := 1, nameIndex := 5, descriptorIndex := 6, attributes := #[] }, { accessFlags := 260, nameIndex := 96, descriptorIndex := 97, attributes := #[] }] 33 0 #[] #[])
  fields := #[]
  methods := #[k0m0, k0m1]
  instanceTypes := #[]
  staticTypes := #[]
  resolved := Array.replicate 124 none
  statics := none }

def pool1 : Array CpInfo := pool [(2, .class_ 4), (1, u "java/lang/Object"), (0, u "<init>"), (0, u "()V"), (0, .long 4), (1, .long 3), (1, .methodref 12 13), (0, .class_ 14), (0, .nameAndType 15 16), (0, u "com/example/kubera/kubera/DealingRingNextPinLaw"), (0, u "pick"), (0, u "(J)J"), (0, .long 2), (1, .class_ 20), (0, u "com/example/kubera/kubera/DealingRing"), (0, .methodref 19 22), (0, .nameAndType 5 23), (0, u "([J)V"), (0, .methodref 19 25), (0, .nameAndType 26 27), (0, u "next"), (0, u "()I"), (3, u "law"), (0, u "(JJJ)Z")] 6

def k1m0 : Method := { name := "<init>", desc := "()V", sig := { parameters := [], returnType := none }, accessFlags := 1, code := none }
def k1c1 : Code := { maxStack := 4, maxLocals := 2, code := method_2_code, exceptionTable := #[], attributes := #[] }
def k1m1 : Method := { name := "pick", desc := "(J)J", sig := { parameters := [.long], returnType := some .long }, accessFlags := 10, code := some k1c1 }
def k1c2 : Code := { maxStack := 5, maxLocals := 17, code := code, exceptionTable := #[], attributes := #[] }
def k1m2 : Method := { name := "law", desc := "(JJJ)Z", sig := { parameters := [.long, .long, .long], returnType := some .boolean }, accessFlags := 9, code := some k1c2 }
/-- com/example/kubera/kubera/DealingRingNextPinLaw -/
def k1 : Class := { plain "com/example/kubera/kubera/DealingRingNextPinLaw" (some 0) with
  accessFlags := 49
  interfaces := #[]
  cf := some (fileOf pool1 12 #[] #[{ accessFlags := 1, nameIndex := 5, descriptorIndex := 6, attributes := #[] }, { accessFlags := 10, nameIndex := 15, descriptorIndex := 16, attributes := #[] }, { accessFlags := 9, nameIndex := 31, descriptorIndex := 32, attributes := #[] }] 49 2 #[] #[])
  fields := #[]
  methods := #[k1m0, k1m1, k1m2]
  instanceTypes := #[]
  staticTypes := #[]
  resolved := Array.replicate 39 none
  statics := none }

def pool2 : Array CpInfo := pool [(1, .methodref 2 3), (0, .class_ 4), (0, .nameAndType 5 6), (0, u "java/lang/Object"), (0, u "<init>"), (0, u "()V"), (0, .methodref 8 9), (0, .class_ 10), (0, .nameAndType 11 12), (0, u "[J"), (0, u "clone"), (0, u "()Ljava/lang/Object;"), (0, .fieldref 14 15), (0, .class_ 16), (0, .nameAndType 17 10), (0, u "com/example/kubera/kubera/DealingRing"), (0, u "wanted"), (0, .fieldref 14 19), (0, .nameAndType 20 21), (0, u "ring"), (0, u "[I"), (0, .fieldref 14 23), (0, .nameAndType 24 25), (0, u "size"), (0, u "I"), (0, .fieldref 14 27), (0, .nameAndType 28 25), (0, u "place"), (0, u "([J)V"), (3, u "next"), (0, u "()I")] 2

def k2c0 : Code := { maxStack := 4, maxLocals := 3, code := prog_4_method_1_code, exceptionTable := #[], attributes := #[] }
def k2m0 : Method := { name := "<init>", desc := "([J)V", sig := { parameters := [(.array .long)], returnType := none }, accessFlags := 0, code := some k2c0 }
def k2c1 : Code := { maxStack := 6, maxLocals := 4, code := prog_4_method_2_code, exceptionTable := #[], attributes := #[] }
def k2m1 : Method := { name := "next", desc := "()I", sig := { parameters := [], returnType := some .int }, accessFlags := 0, code := some k2c1 }
/-- com/example/kubera/kubera/DealingRing -/
def k2 : Class := { plain "com/example/kubera/kubera/DealingRing" (some 0) with
  accessFlags := 32
  interfaces := #[]
  cf := some (fileOf pool2 14 #[] #[{ accessFlags := 0, nameIndex := 5, descriptorIndex := 29, attributes := #[] }, { accessFlags := 0, nameIndex := 33, descriptorIndex := 34, attributes := #[] }] 32 2 #[] #[{ accessFlags := 18, nameIndex := 17, descriptorIndex := 10, attributes := #[] }, { accessFlags := 18, nameIndex := 20, descriptorIndex := 21, attributes := #[] }, { accessFlags := 2, nameIndex := 24, descriptorIndex := 25, attributes := #[] }, { accessFlags := 2, nameIndex := 28, descriptorIndex := 25, attributes := #[] }])
  fields := #[{ name := "wanted", type := (.array .long), accessFlags := 18, slot := 0, constantValue := 0 }, { name := "ring", type := (.array .int), accessFlags := 18, slot := 1, constantValue := 0 }, { name := "size", type := .int, accessFlags := 2, slot := 2, constantValue := 0 }, { name := "place", type := .int, accessFlags := 2, slot := 3, constantValue := 0 }]
  methods := #[k2m0, k2m1]
  instanceTypes := #[(.array .long), (.array .int), .int, .int]
  staticTypes := #[]
  resolved := Array.replicate 37 none
  statics := none }

def pool3 : Array CpInfo := pool [(1, .class_ 2), (0, u "java/lang/Cloneable"), (0, .class_ 4), (0, u "java/lang/Object")] 2

/-- java/lang/Cloneable -/
def k3 : Class := { plain "java/lang/Cloneable" (some 0) with
  accessFlags := 1537
  interfaces := #[]
  cf := some (fileOf pool3 1 #[] #[] 1537 3 #[] #[])
  fields := #[]
  methods := #[]
  instanceTypes := #[]
  staticTypes := #[]
  resolved := Array.replicate 7 none
  statics := none }

def pool4 : Array CpInfo := pool [(1, u "java/io/Serializable"), (0, .class_ 1), (0, u "java/lang/Object"), (0, .class_ 3)] 3

/-- java/io/Serializable -/
def k4 : Class := { plain "java/io/Serializable" (some 0) with
  accessFlags := 1537
  interfaces := #[]
  cf := some (fileOf pool4 2 #[] #[] 1537 4 #[] #[])
  fields := #[]
  methods := #[]
  instanceTypes := #[]
  staticTypes := #[]
  resolved := Array.replicate 8 none
  statics := none }

/-- the primitive byte -/
def k5 : Class := { plain "byte" none with kind := .primitive 'B', accessFlags := 0x411 }
/-- [B -/
def k6 : Class := { plain "[B" (some 0) with kind := .array 5 .byte, interfaces := #[3, 4], accessFlags := 1041 }

/-- the primitive int -/
def k7 : Class := { plain "int" none with kind := .primitive 'I', accessFlags := 0x411 }
/-- [I -/
def k8 : Class := { plain "[I" (some 0) with kind := .array 7 .int, interfaces := #[3, 4], accessFlags := 1041 }

/-- the primitive long -/
def k9 : Class := { plain "long" none with kind := .primitive 'J', accessFlags := 0x411 }
/-- [J -/
def k10 : Class := { plain "[J" (some 0) with kind := .array 9 .long, interfaces := #[3, 4], accessFlags := 1041 }

def heap : Heap := #[]
def classes : Array Class := #[k0, k1, k2, k3, k4, k5, k6, k7, k8, k9, k10]
def interned : List (Array UInt16 × Addr) := []
def slotsUsed : Nat := 0
def theMethod : MethodId := ⟨1, 2⟩
def args0 : Array Value := #[.long 5, .long 1, .long 2]
def aboutOver (below : List Frame) : State where
  vm := { classes := classes, interned := interned.toArray }
  heap := heap
  slotsUsed := slotsUsed
  threads := #[{ frames := .invoking theMethod args0 :: below }]
def below0 : List Frame := [.native { method := ⟨0, 0⟩, args := #[] }]
def about1 : State := aboutOver below0
def p0 : Program := .bare "" "" ""
def e0 : Env := launch0.env 0 0 0
theorem w_frames : about1.frames = Frame.invoking theMethod args0 :: below0 := rfl
set_option maxRecDepth 65536 in
theorem w_args : argsFit about1.vm theMethod args0 = true := by decide +kernel
set_option maxRecDepth 65536 in
theorem w_heap : heapFits about1 = true := by decide +kernel
set_option maxRecDepth 65536 in
theorem w_runnable : about1.curStatus? = some .runnable := by decide +kernel
set_option maxRecDepth 65536 in
theorem w_alone : about1.alone = true := by decide +kernel
set_option maxRecDepth 65536 in
theorem w_named : about1.methodNamed? x = some theMethod := by decide +kernel
set_option maxRecDepth 65536 in
theorem w_hears : about1.hears theMethod below0 = true := by decide +kernel
set_option maxRecDepth 65536 in
theorem w_ripe : about1.ripe theMethod args0 below0 = true := by decide +kernel
theorem w_running : about1.status = .running := rfl
set_option maxRecDepth 65536 in
theorem w_room : about1.hasRoom e0.platform room_1 = true :=
  launch0.hasRoom_least _ room_1 (by decide +kernel) (by decide +kernel) (by decide +kernel) (by decide +kernel) (by decide +kernel) (by decide +kernel)
theorem allAtoms_all (ts : List Jvm.Cond) (a : Array Jvm.Value) (st : Jvm.State) : (allAtoms ts).before a st = ts.all (fun c => c.before a st) := by
  induction ts with
  | nil => rfl
  | cons c t ih =>
    show (Jvm.Cond.and c (allAtoms t)).before a st = _
    rw [Jvm.Cond.before_and, ih, List.all_cons]
def words1 : List Jvm.Cond := Jvm.Cond.code x code maxLocals ret :: tables_1
/-- a 'code' word, met by the world's own term for the bytes: nothing is compared byte by byte -/
theorem code_word {y : MethodName} {bytes : ByteArray} {mx : Nat} {rt : Option FieldType} {a : Array Value} {s : State} {m : MethodId} {meth : Method} {c : Code} (h1 : s.methodNamed? y = some m) (h2 : s.vm.method? m = some meth) (h3 : meth.code = some c) (h4 : c.code = bytes)
    (h5 : (c.maxLocals == mx && c.exceptionTable.isEmpty && decide (c.maxStack ≤ mostOperands) && decide (meth.sig.returnType = rt) && !meth.locks && decide (parseMethodDescriptor y.desc = some meth.sig)) = true) : (Jvm.Cond.code y bytes mx rt).before a s = true := by
  simp only [Bool.and_eq_true, beq_iff_eq, Bool.not_eq_true', decide_eq_true_eq] at h5
  obtain ⟨⟨⟨⟨⟨g1, g2⟩, g3⟩, g4⟩, g5⟩, g6⟩ := h5
  simp [Cond.before, Cond.holds, Cond.value, h1, h2, h3, h4, g1, g2, g3, g4, g5, g6]
def isCode : Jvm.Cond → Bool
  | .code _ _ _ _ => true
  | _ => false
theorem all_split {L : List Jvm.Cond} {P : Jvm.Cond → Bool} (h1 : L.all (fun c => isCode c || P c) = true) (h2 : ∀ c ∈ L.filter isCode, P c = true) : L.all P = true := by
  refine List.all_eq_true.mpr fun c hc => ?_
  have h := List.all_eq_true.mp h1 c hc
  rcases Bool.eq_false_or_eq_true (isCode c) with hi | hi
  · exact h2 c (List.mem_filter.mpr ⟨hc, hi⟩)
  · simpa [hi] using h
set_option maxRecDepth 65536 in
theorem w_c0 : (Jvm.Cond.code x code maxLocals ret).before args0 about1 = true := code_word (m := ⟨1, 2⟩) (meth := k1m2) (c := k1c2) (by decide +kernel) rfl rfl rfl (by decide +kernel)
set_option maxRecDepth 65536 in
theorem w_c1 : (Jvm.Cond.code ({ cls := "com/example/kubera/kubera/DealingRingNextPinLaw", name := "pick", desc := "(J)J" } : Jvm.MethodName) method_2_code (2 : Nat) (Option.some Jvm.ClassFile.FieldType.long)).before args0 about1 = true := code_word (m := ⟨1, 1⟩) (meth := k1m1) (c := k1c1) (by decide +kernel) rfl rfl rfl (by decide +kernel)
set_option maxRecDepth 65536 in
theorem w_c2 : (Jvm.Cond.code ({ cls := "com/example/kubera/kubera/DealingRing", name := "<init>", desc := "([J)V" } : Jvm.MethodName) prog_4_method_1_code (3 : Nat) (Option.none : Option Jvm.ClassFile.FieldType)).before args0 about1 = true := code_word (m := ⟨2, 0⟩) (meth := k2m0) (c := k2c0) (by decide +kernel) rfl rfl rfl (by decide +kernel)
set_option maxRecDepth 65536 in
theorem w_c3 : (Jvm.Cond.code ({ cls := "java/lang/Object", name := "<init>", desc := "()V" } : Jvm.MethodName) object_method_1_code (1 : Nat) (Option.none : Option Jvm.ClassFile.FieldType)).before args0 about1 = true := code_word (m := ⟨0, 0⟩) (meth := k0m0) (c := k0c0) (by decide +kernel) rfl rfl rfl (by decide +kernel)
set_option maxRecDepth 65536 in
theorem w_c4 : (Jvm.Cond.code ({ cls := "com/example/kubera/kubera/DealingRing", name := "next", desc := "()I" } : Jvm.MethodName) prog_4_method_2_code (4 : Nat) (Option.some Jvm.ClassFile.FieldType.int)).before args0 about1 = true := code_word (m := ⟨2, 1⟩) (meth := k2m1) (c := k2c1) (by decide +kernel) rfl rfl rfl (by decide +kernel)
def codes1 : List Jvm.Cond := [Jvm.Cond.code x code maxLocals ret, Jvm.Cond.code ({ cls := "com/example/kubera/kubera/DealingRingNextPinLaw", name := "pick", desc := "(J)J" } : Jvm.MethodName) method_2_code (2 : Nat) (Option.some Jvm.ClassFile.FieldType.long), Jvm.Cond.code ({ cls := "com/example/kubera/kubera/DealingRing", name := "<init>", desc := "([J)V" } : Jvm.MethodName) prog_4_method_1_code (3 : Nat) (Option.none : Option Jvm.ClassFile.FieldType), Jvm.Cond.code ({ cls := "java/lang/Object", name := "<init>", desc := "()V" } : Jvm.MethodName) object_method_1_code (1 : Nat) (Option.none : Option Jvm.ClassFile.FieldType), Jvm.Cond.code ({ cls := "com/example/kubera/kubera/DealingRing", name := "next", desc := "()I" } : Jvm.MethodName) prog_4_method_2_code (4 : Nat) (Option.some Jvm.ClassFile.FieldType.int)]
set_option maxRecDepth 65536 in
theorem codes_eq : words1.filter isCode = codes1 := rfl
theorem w_codes : ∀ c ∈ words1.filter isCode, c.before args0 about1 = true := by
  rw [codes_eq]
  intro c hc
  simp only [codes1, List.mem_cons, List.not_mem_nil, or_false] at hc
  rcases hc with rfl | rfl | rfl | rfl | rfl
  · exact w_c0
  · exact w_c1
  · exact w_c2
  · exact w_c3
  · exact w_c4
set_option maxRecDepth 65536 in
theorem w_t1 : (words1.take 24).all (fun c => isCode c || c.before args0 about1) = true := by decide +kernel
set_option maxRecDepth 65536 in
theorem w_t2 : (words1.drop 24).all (fun c => isCode c || c.before args0 about1) = true := by decide +kernel
theorem w_tables : (allAtoms (Jvm.Cond.code x code maxLocals ret :: tables_1)).before args0 about1 = true := by
  rw [allAtoms_all]
  show words1.all (fun c => c.before args0 about1) = true
  refine all_split ?_ w_codes
  rw [← List.take_append_drop 24 words1, List.all_append, w_t1, w_t2]
  rfl
set_option maxRecDepth 65536 in
theorem w_case : (Jvm.Cond.and given_1 narrow_1).before args0 about1 = true := by decide +kernel
theorem w_applies : (headSpec (Jvm.Cond.code x code maxLocals ret :: tables_1) room_1).applies x e0.platform about1 = true :=
  (Spec.applies_iff w_frames).mpr ⟨w_running, w_runnable, w_alone, w_named, w_hears, w_ripe, w_room, w_tables⟩
theorem atStart : AtStart classFile x code maxLocals ret World_1 tables_1 room_1 Calls_1 rest_1 Pre_1 launch0 p0 e0 about1 theMethod args0 below0 :=
  ⟨lists_1, trivial, launch0.admits_env _ _ _, launch0.least_env, fairChoices_fair.cas, fairChoices_fair.clock, w_frames, w_args, w_heap, w_applies, trivial, trivial, w_case⟩
end start1
theorem witness_1 : WitnessClaimed_1 := ⟨start1.p0, start1.e0, start1.about1, start1.theMethod, start1.args0, start1.below0, start1.atStart⟩
end Jvm.Pilot.@@N@@
