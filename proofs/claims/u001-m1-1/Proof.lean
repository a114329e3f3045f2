import JvmDerived
import JvmDerived.Pilot.@@N@@Statement
import JvmDerived.Pilot.@@N@@Code
set_option linter.unusedVariables false
set_option linter.unusedSimpArgs false
@@BLOCK:NumsL.lean.txt@@
namespace Jvm.Pilot.@@N@@
open Jvm Jvm.ClassFile Sem Op Lib Jvm.Free Jvm.Stand Jvm.LawKit Jvm.RoadKit Bundle Jvm.Pilot.@@N@@.Jvm.D
def Goes (p : Program) (e : Env) (below : List Frame) (s : State) (Q : Option Value → Heap → List Loc → Prop) (kc ks : Nat) (A : State) : Prop :=
  ∃ s₂ o, Steps p.tables e below A s₂ ∧ s₂.status = .running ∧ Ended s₂ below o ∧ ∃ v L, o = .returned v ∧ Q v s₂.heap L ∧ FrameEnd s o s₂ L kc ks
def QL (w : Option Value) (n0 : Nat) (v : Option Value) (h : Heap) (L : List Loc) : Prop := v = w ∧ Fr n0 L
theorem own_selp {s : State} {args : Array Value} {y : MethodName} {n : Nat} (hins : (Cond.instantiable y.cls n).before args s = true) (hpriv : (Cond.privateMethod y).before args s = true) (hinst : (Cond.instanceMethod y).before args s = true) (hy : y.cls ≠ "java/lang/invoke/MethodHandle" ∧ y.cls ≠ "java/lang/invoke/VarHandle") : (Cond.selects y.cls y y).before args s = true := by
  obtain ⟨c, k, hc, hk, -, hniab, -, -⟩ := Cond.instantiable_spec hins
  exact selects_self_of_private hc hk (Bool.or_eq_false_iff.mp hniab).1 (Cond.privateMethod_at hpriv) hinst hy
def QP (w : Option Value) (h0 : Heap) (n0 : Nat) (v : Option Value) (h : Heap) (L : List Loc) : Prop := v = w ∧ Fr n0 L ∧ h = h0
section OwnGoes
variable {p : Program} {l : Launch} {e : Env} {R : Room} {s : State} {m : MethodId} {args : Array Value} {below : List Frame} {meth : Method} {c : Code} {T : State} {locs : List Loc} {cells slots kc ks : Nat} {Q : Option Value → Heap → List Loc → Prop}
theorem Goes.st {A B : State} (h : ∀ t, Steps p.tables e below B t → Steps p.tables e below A t) (g : Goes p e below s Q kc ks B) : Goes p e below s Q kc ks A := by
  obtain ⟨s₂, o, h1, r⟩ := g
  exact ⟨s₂, o, h _ h1, r⟩
theorem Goes.cast {g g' : JFrame} (q : g = g') (h : Goes p e below s Q kc ks (T.setTop g')) : Goes p e below s Q kc ks (T.setTop g) := q ▸ h
theorem Goes.retI (X : Stand p l e R s m args below meth c T locs cells slots) (hx : p.tables.exec = Jvm.exec) (hlk : meth.locks = false) (hret : meth.sig.returnType = some .int) {pc : Nat} {Ls : Array Slot} {z : Int32} {rest : List Value} (hd : decode c.code pc = .ok (.ireturn, 1)) (hQ : Q (some (.int z)) T.heap locs) (h1 : cells ≤ kc) (h2 : slots ≤ ks) : Goes p e below s Q kc ks (T.setTop (mkF m pc Ls (.int z :: rest))) := by
  obtain ⟨fs, hr, hrun, hended, hW, hsame⟩ := X.leave (v := some (.int z)) (fun h => by rw [hret] at h; cases h)
  exact ⟨_, _, retOut X hx hret rfl (Or.inl ⟨rfl, Or.inl rfl, _, rfl⟩) hd hr, hrun, hended, _, _, rfl, hQ, ⟨_, rfl⟩, hW, hsame.mono h1 h2⟩
theorem Goes.retJ (X : Stand p l e R s m args below meth c T locs cells slots) (hx : p.tables.exec = Jvm.exec) (hlk : meth.locks = false) (hret : meth.sig.returnType = some .long) {pc : Nat} {Ls : Array Slot} {z : Int64} {rest : List Value} (hd : decode c.code pc = .ok (.lreturn, 1)) (hQ : Q (some (.long z)) T.heap locs) (h1 : cells ≤ kc) (h2 : slots ≤ ks) : Goes p e below s Q kc ks (T.setTop (mkF m pc Ls (.long z :: rest))) := by
  obtain ⟨fs, hr, hrun, hended, hW, hsame⟩ := X.leave (v := some (.long z)) (fun h => by rw [hret] at h; cases h)
  exact ⟨_, _, retOut X hx hret rfl (Or.inr (Or.inl ⟨rfl, rfl, _, rfl⟩)) hd hr, hrun, hended, _, _, rfl, hQ, ⟨_, rfl⟩, hW, hsame.mono h1 h2⟩
theorem Goes.retR (X : Stand p l e R s m args below meth c T locs cells slots) (hx : p.tables.exec = Jvm.exec) (hlk : meth.locks = false) {t : FieldType} (hret : meth.sig.returnType = some t) {w : Value} (ht : t.isReference = true) (hw : w.isRef = true) {pc : Nat} {Ls : Array Slot} {rest : List Value} (hd : decode c.code pc = .ok (.areturn, 1)) (hQ : Q (some w) T.heap locs) (h1 : cells ≤ kc) (h2 : slots ≤ ks) : Goes p e below s Q kc ks (T.setTop (mkF m pc Ls (w :: rest))) := by
  obtain ⟨fs, hr, hrun, hended, hW, hsame⟩ := X.leave (v := some w) (fun h => by rw [hret] at h; cases h)
  have hn : narrow t w = w := by cases t <;> cases w <;> first | rfl | (simp [FieldType.isReference] at ht) | (simp [Value.isRef] at hw)
  exact ⟨_, _, retOut X hx hret hn (Or.inr (Or.inr (Or.inr (Or.inr ⟨rfl, ht, hw⟩)))) hd hr, hrun, hended, _, _, rfl, hQ, ⟨_, rfl⟩, hW, hsame.mono h1 h2⟩
theorem Goes.retB (X : Stand p l e R s m args below meth c T locs cells slots) (hx : p.tables.exec = Jvm.exec) (hlk : meth.locks = false) {t : FieldType} (hret : meth.sig.returnType = some t) (ht : t = .boolean ∨ t = .byte ∨ t = .char ∨ t = .short) {pc : Nat} {Ls : Array Slot} {z : Int32} {rest : List Value} (hd : decode c.code pc = .ok (.ireturn, 1)) (hz : nar t z = z) (hQ : Q (some (.int z)) T.heap locs) (h1 : cells ≤ kc) (h2 : slots ≤ ks) : Goes p e below s Q kc ks (T.setTop (mkF m pc Ls (.int z :: rest))) := by
  obtain ⟨fs, hr, hrun, hended, hW, hsame⟩ := X.leave (v := some (.int z)) (fun h => by rw [hret] at h; cases h)
  exact ⟨_, _, retN X hx hret ht hd (by rw [hz]; exact hr), hrun, hended, _, _, rfl, hQ, ⟨_, rfl⟩, hW, hsame.mono h1 h2⟩
theorem Goes.retV (X : Stand p l e R s m args below meth c T locs cells slots) (hx : p.tables.exec = Jvm.exec) (hlk : meth.locks = false) (hret : meth.sig.returnType = none) {pc : Nat} {Ls : Array Slot} (hd : decode c.code pc = .ok (.return_, 1)) (hQ : Q none T.heap locs) (h1 : cells ≤ kc) (h2 : slots ≤ ks) : Goes p e below s Q kc ks (T.setTop (mkF m pc Ls [])) := by
  obtain ⟨fs, hr, hrun, hended, hW, hsame⟩ := X.leave (v := none) (fun _ => rfl)
  exact ⟨_, _, X.returnOut hx hret hd hr, hrun, hended, _, _, rfl, hQ, ⟨_, rfl⟩, hW, hsame.mono h1 h2⟩
end OwnGoes
theorem tltL {x y : Int64} (h : x < y) : ifCond.holds .lt (lcmpW x y) = true ∧ ifCond.holds .ge (lcmpW x y) = false ∧ ifCond.holds .gt (lcmpW y x) = true ∧ ifCond.holds .le (lcmpW y x) = false :=
  ⟨(if0 _ _).trans (tlt ((lw_lt x y).mpr h)).1, (if0 _ _).trans (tlt ((lw_lt x y).mpr h)).2.1, (if0 _ _).trans (tlt ((lw_gt y x).mpr h)).2.2.1, (if0 _ _).trans (tlt ((lw_gt y x).mpr h)).2.2.2⟩
theorem fltL {x y : Int64} (h : ¬ x < y) : ifCond.holds .lt (lcmpW x y) = false ∧ ifCond.holds .ge (lcmpW x y) = true ∧ ifCond.holds .gt (lcmpW y x) = false ∧ ifCond.holds .le (lcmpW y x) = true :=
  ⟨(if0 _ _).trans (flt fun q => h ((lw_lt x y).mp q)).1, (if0 _ _).trans (flt fun q => h ((lw_lt x y).mp q)).2.1, (if0 _ _).trans (flt fun q => h ((lw_gt y x).mp q)).2.2.1, (if0 _ _).trans (flt fun q => h ((lw_gt y x).mp q)).2.2.2⟩
theorem teqL {x y : Int64} (h : x = y) : ifCond.holds .eq (lcmpW x y) = true ∧ ifCond.holds .ne (lcmpW x y) = false :=
  ⟨(if0 _ _).trans (teq ((lw_eq x y).mpr h)).1, (if0 _ _).trans (teq ((lw_eq x y).mpr h)).2⟩
theorem feqL {x y : Int64} (h : ¬ x = y) : ifCond.holds .eq (lcmpW x y) = false ∧ ifCond.holds .ne (lcmpW x y) = true :=
  ⟨(if0 _ _).trans (feq fun q => h ((lw_eq x y).mp q)).1, (if0 _ _).trans (feq fun q => h ((lw_eq x y).mp q)).2⟩
def own_look {α : Type} (i : Nat) : List (Nat × α) → Option α
  | [] => none
  | (j, v) :: r => if i = j then some v else own_look i r
theorem own_look_mem {α : Type} {i : Nat} {v : α} : ∀ {L : List (Nat × α)}, own_look i L = some v → (i, v) ∈ L
  | [], h => by cases h
  | (j, w) :: r, h => by
    unfold own_look at h
    by_cases q : i = j
    · rw [if_pos q] at h; cases h; subst q; exact List.mem_cons_self
    · rw [if_neg q] at h; exact List.mem_cons_of_mem _ (own_look_mem h)
def own_pstep (ci : List (Nat × Int32)) (cl : List (Nat × Int64)) (i : Instr) (n : Nat) (g : JFrame) : Option JFrame :=
  match i with
  | .iload_n k => if n = 1 then (match g.locals[k.val]? with | some (.val (.int v)) => some { g with pc := g.pc + 1, stack := .int v :: g.stack } | _ => none) else none
  | .iload k => if n = 2 then (match g.locals[k]? with | some (.val (.int v)) => some { g with pc := g.pc + 2, stack := .int v :: g.stack } | _ => none) else none
  | .lload_n k => if n = 1 then (match g.locals[k.val]? with | some (.val (.long v)) => some { g with pc := g.pc + 1, stack := .long v :: g.stack } | _ => none) else none
  | .lload k => if n = 2 then (match g.locals[k]? with | some (.val (.long v)) => some { g with pc := g.pc + 2, stack := .long v :: g.stack } | _ => none) else none
  | .aload_n k => if n = 1 then (match g.locals[k.val]? with | some (.val v) => if v.isRef = true then some { g with pc := g.pc + 1, stack := v :: g.stack } else none | _ => none) else none
  | .aload k => if n = 2 then (match g.locals[k]? with | some (.val v) => if v.isRef = true then some { g with pc := g.pc + 2, stack := v :: g.stack } else none | _ => none) else none
  | .istore_n k => if n = 1 then (match g.stack with | .int x :: rest => (match storeLocals g.locals k.val (.int x) with | some l' => some { g with pc := g.pc + 1, stack := rest, locals := l' } | none => none) | _ => none) else none
  | .istore k => if n = 2 then (match g.stack with | .int x :: rest => (match storeLocals g.locals k (.int x) with | some l' => some { g with pc := g.pc + 2, stack := rest, locals := l' } | none => none) | _ => none) else none
  | .lstore_n k => if n = 1 then (match g.stack with | .long x :: rest => (match storeLocals g.locals k.val (.long x) with | some l' => some { g with pc := g.pc + 1, stack := rest, locals := l' } | none => none) | _ => none) else none
  | .lstore k => if n = 2 then (match g.stack with | .long x :: rest => (match storeLocals g.locals k (.long x) with | some l' => some { g with pc := g.pc + 2, stack := rest, locals := l' } | none => none) | _ => none) else none
  | .astore_n k => if n = 1 then (match g.stack with | x :: rest => (if x.isRef = true then (match storeLocals g.locals k.val x with | some l' => some { g with pc := g.pc + 1, stack := rest, locals := l' } | none => none) else none) | _ => none) else none
  | .astore k => if n = 2 then (match g.stack with | x :: rest => (if x.isRef = true then (match storeLocals g.locals k x with | some l' => some { g with pc := g.pc + 2, stack := rest, locals := l' } | none => none) else none) | _ => none) else none
  | .iconst i => if n = 1 then (some { g with pc := g.pc + 1, stack := .int (Int32.ofInt i) :: g.stack }) else none
  | .bipush i => if n = 2 then (some { g with pc := g.pc + 2, stack := .int (Int8.ofInt i).toInt32 :: g.stack }) else none
  | .sipush i => if n = 3 then (some { g with pc := g.pc + 3, stack := .int (Int16.ofInt i).toInt32 :: g.stack }) else none
  | .lconst k => if n = 1 then (some { g with pc := g.pc + 1, stack := .long (Int64.ofNat k) :: g.stack }) else none
  | .aconst_null => if n = 1 then (some { g with pc := g.pc + 1, stack := .null :: g.stack }) else none
  | .iadd => if n = 1 then (match g.stack with | .int y :: .int x :: rest => some { g with pc := g.pc + 1, stack := .int (x + y) :: rest } | _ => none) else none
  | .ladd => if n = 1 then (match g.stack with | .long y :: .long x :: rest => some { g with pc := g.pc + 1, stack := .long (x + y) :: rest } | _ => none) else none
  | .isub => if n = 1 then (match g.stack with | .int y :: .int x :: rest => some { g with pc := g.pc + 1, stack := .int (x - y) :: rest } | _ => none) else none
  | .lsub => if n = 1 then (match g.stack with | .long y :: .long x :: rest => some { g with pc := g.pc + 1, stack := .long (x - y) :: rest } | _ => none) else none
  | .imul => if n = 1 then (match g.stack with | .int y :: .int x :: rest => some { g with pc := g.pc + 1, stack := .int (x * y) :: rest } | _ => none) else none
  | .lmul => if n = 1 then (match g.stack with | .long y :: .long x :: rest => some { g with pc := g.pc + 1, stack := .long (x * y) :: rest } | _ => none) else none
  | .iand => if n = 1 then (match g.stack with | .int y :: .int x :: rest => some { g with pc := g.pc + 1, stack := .int (x &&& y) :: rest } | _ => none) else none
  | .land => if n = 1 then (match g.stack with | .long y :: .long x :: rest => some { g with pc := g.pc + 1, stack := .long (x &&& y) :: rest } | _ => none) else none
  | .ior => if n = 1 then (match g.stack with | .int y :: .int x :: rest => some { g with pc := g.pc + 1, stack := .int (x ||| y) :: rest } | _ => none) else none
  | .lor => if n = 1 then (match g.stack with | .long y :: .long x :: rest => some { g with pc := g.pc + 1, stack := .long (x ||| y) :: rest } | _ => none) else none
  | .ixor => if n = 1 then (match g.stack with | .int y :: .int x :: rest => some { g with pc := g.pc + 1, stack := .int (x ^^^ y) :: rest } | _ => none) else none
  | .lxor => if n = 1 then (match g.stack with | .long y :: .long x :: rest => some { g with pc := g.pc + 1, stack := .long (x ^^^ y) :: rest } | _ => none) else none
  | .ishl => if n = 1 then (match g.stack with | .int y :: .int x :: rest => some { g with pc := g.pc + 1, stack := .int (x <<< (y &&& 31)) :: rest } | _ => none) else none
  | .ishr => if n = 1 then (match g.stack with | .int y :: .int x :: rest => some { g with pc := g.pc + 1, stack := .int (x >>> (y &&& 31)) :: rest } | _ => none) else none
  | .iushr => if n = 1 then (match g.stack with | .int y :: .int x :: rest => some { g with pc := g.pc + 1, stack := .int ((x.toUInt32 >>> (y &&& 31).toUInt32).toInt32) :: rest } | _ => none) else none
  | .lshl => if n = 1 then (match g.stack with | .int y :: .long x :: rest => some { g with pc := g.pc + 1, stack := .long (x <<< (y &&& 0x3f).toInt64) :: rest } | _ => none) else none
  | .lshr => if n = 1 then (match g.stack with | .int y :: .long x :: rest => some { g with pc := g.pc + 1, stack := .long (x >>> (y &&& 0x3f).toInt64) :: rest } | _ => none) else none
  | .lushr => if n = 1 then (match g.stack with | .int y :: .long x :: rest => some { g with pc := g.pc + 1, stack := .long ((x.toUInt64 >>> (y &&& 0x3f).toInt64.toUInt64).toInt64) :: rest } | _ => none) else none
  | .lcmp => if n = 1 then (match g.stack with | .long y :: .long x :: rest => some { g with pc := g.pc + 1, stack := .int (if x > y then 1 else if x = y then 0 else -1) :: rest } | _ => none) else none
  | .ineg => if n = 1 then (match g.stack with | .int v :: rest => some { g with pc := g.pc + 1, stack := .int (-v) :: rest } | _ => none) else none
  | .lneg => if n = 1 then (match g.stack with | .long v :: rest => some { g with pc := g.pc + 1, stack := .long (-v) :: rest } | _ => none) else none
  | .i2l => if n = 1 then (match g.stack with | .int v :: rest => some { g with pc := g.pc + 1, stack := .long (v.toInt64) :: rest } | _ => none) else none
  | .l2i => if n = 1 then (match g.stack with | .long v :: rest => some { g with pc := g.pc + 1, stack := .int (v.toInt32) :: rest } | _ => none) else none
  | .i2b => if n = 1 then (match g.stack with | .int v :: rest => some { g with pc := g.pc + 1, stack := .int (v.toInt8.toInt32) :: rest } | _ => none) else none
  | .i2c => if n = 1 then (match g.stack with | .int v :: rest => some { g with pc := g.pc + 1, stack := .int (v.toUInt32.toUInt16.toUInt32.toInt32) :: rest } | _ => none) else none
  | .i2s => if n = 1 then (match g.stack with | .int v :: rest => some { g with pc := g.pc + 1, stack := .int (v.toInt16.toInt32) :: rest } | _ => none) else none
  | .iinc k cst => if n = 3 then (match g.locals[k]? with | some (.val (.int x)) => (match storeLocals g.locals k (.int (x + Int32.ofInt cst)) with | some l' => some { g with pc := g.pc + 3, locals := l' } | none => none) | _ => none) else none
  | .dup => if n = 1 then (match g.stack with | x :: rest => (if x.category = 1 then some { g with pc := g.pc + 1, stack := x :: x :: rest } else none) | _ => none) else none
  | .pop => if n = 1 then (match g.stack with | x :: rest => (if x.category = 1 then some { g with pc := g.pc + 1, stack := rest } else none) | _ => none) else none
  | .goto o => if n = 3 then (if 0 ≤ (g.pc : Int) + o then some { g with pc := ((g.pc : Int) + o).toNat } else none) else none
  | .ldc i => if n = 2 then (match own_look i ci with | some v => some { g with pc := g.pc + 2, stack := .int v :: g.stack } | none => none) else none
  | .ldc_w i => if n = 3 then (match own_look i ci with | some v => some { g with pc := g.pc + 3, stack := .int v :: g.stack } | none => none) else none
  | .ldc2_w i => if n = 3 then (match own_look i cl with | some v => some { g with pc := g.pc + 3, stack := .long v :: g.stack } | none => none) else none
  | .idiv => if n = 1 then (match g.stack with | .int y :: .int x :: rest => (if y = 0 then none else some { g with pc := g.pc + 1, stack := .int (x / y) :: rest }) | _ => none) else none
  | .irem => if n = 1 then (match g.stack with | .int y :: .int x :: rest => (if y = 0 then none else some { g with pc := g.pc + 1, stack := .int (x - (x / y) * y) :: rest }) | _ => none) else none
  | .ldiv => if n = 1 then (match g.stack with | .long y :: .long x :: rest => (if y = 0 then none else some { g with pc := g.pc + 1, stack := .long (x / y) :: rest }) | _ => none) else none
  | .lrem => if n = 1 then (match g.stack with | .long y :: .long x :: rest => (if y = 0 then none else some { g with pc := g.pc + 1, stack := .long (x - (x / y) * y) :: rest }) | _ => none) else none
  | _ => none
section OwnRun
variable {p : Program} {l : Launch} {e : Env} {R : Room} {s : State} {m : MethodId} {args : Array Value} {below : List Frame} {meth : Method} {c : Code} {T target : State} {locs : List Loc} {cells slots kc ks : Nat} {own : String} {ci : List (Nat × Int32)} {cl : List (Nat × Int64)} {Q : Option Value → Heap → List Loc → Prop}
set_option maxHeartbeats 4000000 in
theorem own_pstep_ok (X : Stand p l e R s m args below meth c T locs cells slots) (hx : p.tables.exec = Jvm.exec) (hown : s.vm.findClass own = some m.cls) (hci : ∀ i v, (i, v) ∈ ci → (Cond.constant own i v).before args s = true) (hcl : ∀ i v, (i, v) ∈ cl → (Cond.constantLong own i v).before args s = true)
    {g g' : JFrame} (hg : g.method = m) {i : Instr} {n : Nat} (hd : decode c.code g.pc = .ok (i, n)) (hp : own_pstep ci cl i n g = some g') : (∀ target, Steps p.tables e below (T.setTop g') target → Steps p.tables e below (T.setTop g) target) ∧ g'.method = m := by
  cases i
  all_goals first
    | (exact absurd hp (by intro q; cases q))
    | skip
  case iload_n k =>
    by_cases hn : n = 1
    · subst hn
      replace hp : (match g.locals[k.val]? with | some (.val (.int v)) => some { g with pc := g.pc + 1, stack := .int v :: g.stack } | _ => none) = some g' := hp
      split at hp
      · skip
        cases hp
        exact ⟨fun _ hr => XS.iloadN X.here hx hg hd (by assumption) hr, hg⟩
      · cases hp
    · exact absurd hp (by intro q; rw [show own_pstep ci cl (.iload_n k) n g = none from if_neg hn] at q; cases q)
  case iload k =>
    by_cases hn : n = 2
    · subst hn
      replace hp : (match g.locals[k]? with | some (.val (.int v)) => some { g with pc := g.pc + 2, stack := .int v :: g.stack } | _ => none) = some g' := hp
      split at hp
      · skip
        cases hp
        exact ⟨fun _ hr => XS.iload X.here hx hg hd (by assumption) hr, hg⟩
      · cases hp
    · exact absurd hp (by intro q; rw [show own_pstep ci cl (.iload k) n g = none from if_neg hn] at q; cases q)
  case lload_n k =>
    by_cases hn : n = 1
    · subst hn
      replace hp : (match g.locals[k.val]? with | some (.val (.long v)) => some { g with pc := g.pc + 1, stack := .long v :: g.stack } | _ => none) = some g' := hp
      split at hp
      · skip
        cases hp
        exact ⟨fun _ hr => XS.lloadN X.here hx hg hd (by assumption) hr, hg⟩
      · cases hp
    · exact absurd hp (by intro q; rw [show own_pstep ci cl (.lload_n k) n g = none from if_neg hn] at q; cases q)
  case lload k =>
    by_cases hn : n = 2
    · subst hn
      replace hp : (match g.locals[k]? with | some (.val (.long v)) => some { g with pc := g.pc + 2, stack := .long v :: g.stack } | _ => none) = some g' := hp
      split at hp
      · skip
        cases hp
        exact ⟨fun _ hr => XS.lload X.here hx hg hd (by assumption) hr, hg⟩
      · cases hp
    · exact absurd hp (by intro q; rw [show own_pstep ci cl (.lload k) n g = none from if_neg hn] at q; cases q)
  case aload_n k =>
    by_cases hn : n = 1
    · subst hn
      replace hp : (match g.locals[k.val]? with | some (.val v) => if v.isRef = true then some { g with pc := g.pc + 1, stack := v :: g.stack } else none | _ => none) = some g' := hp
      split at hp
      · skip
        split at hp
        · skip
          cases hp
          exact ⟨fun _ hr => XS.aloadN X.here hx hg hd (by assumption) (by assumption) hr, hg⟩
        · cases hp
      · cases hp
    · exact absurd hp (by intro q; rw [show own_pstep ci cl (.aload_n k) n g = none from if_neg hn] at q; cases q)
  case aload k =>
    by_cases hn : n = 2
    · subst hn
      replace hp : (match g.locals[k]? with | some (.val v) => if v.isRef = true then some { g with pc := g.pc + 2, stack := v :: g.stack } else none | _ => none) = some g' := hp
      split at hp
      · skip
        split at hp
        · skip
          cases hp
          exact ⟨fun _ hr => XS.aload X.here hx hg hd (by assumption) (by assumption) hr, hg⟩
        · cases hp
      · cases hp
    · exact absurd hp (by intro q; rw [show own_pstep ci cl (.aload k) n g = none from if_neg hn] at q; cases q)
  case istore_n k =>
    by_cases hn : n = 1
    · subst hn
      replace hp : (match g.stack with | .int x :: rest => (match storeLocals g.locals k.val (.int x) with | some l' => some { g with pc := g.pc + 1, stack := rest, locals := l' } | none => none) | _ => none) = some g' := hp
      split at hp
      · skip
        split at hp
        · skip
          cases hp
          exact ⟨fun _ hr => XS.istoreN X.here hx hg hd (by assumption) (by assumption) hr, hg⟩
        · cases hp
      · cases hp
    · exact absurd hp (by intro q; rw [show own_pstep ci cl (.istore_n k) n g = none from if_neg hn] at q; cases q)
  case istore k =>
    by_cases hn : n = 2
    · subst hn
      replace hp : (match g.stack with | .int x :: rest => (match storeLocals g.locals k (.int x) with | some l' => some { g with pc := g.pc + 2, stack := rest, locals := l' } | none => none) | _ => none) = some g' := hp
      split at hp
      · skip
        split at hp
        · skip
          cases hp
          exact ⟨fun _ hr => XS.istore X.here hx hg hd (by assumption) (by assumption) hr, hg⟩
        · cases hp
      · cases hp
    · exact absurd hp (by intro q; rw [show own_pstep ci cl (.istore k) n g = none from if_neg hn] at q; cases q)
  case lstore_n k =>
    by_cases hn : n = 1
    · subst hn
      replace hp : (match g.stack with | .long x :: rest => (match storeLocals g.locals k.val (.long x) with | some l' => some { g with pc := g.pc + 1, stack := rest, locals := l' } | none => none) | _ => none) = some g' := hp
      split at hp
      · skip
        split at hp
        · skip
          cases hp
          exact ⟨fun _ hr => XS.lstoreN X.here hx hg hd (by assumption) (by assumption) hr, hg⟩
        · cases hp
      · cases hp
    · exact absurd hp (by intro q; rw [show own_pstep ci cl (.lstore_n k) n g = none from if_neg hn] at q; cases q)
  case lstore k =>
    by_cases hn : n = 2
    · subst hn
      replace hp : (match g.stack with | .long x :: rest => (match storeLocals g.locals k (.long x) with | some l' => some { g with pc := g.pc + 2, stack := rest, locals := l' } | none => none) | _ => none) = some g' := hp
      split at hp
      · skip
        split at hp
        · skip
          cases hp
          exact ⟨fun _ hr => XS.lstore X.here hx hg hd (by assumption) (by assumption) hr, hg⟩
        · cases hp
      · cases hp
    · exact absurd hp (by intro q; rw [show own_pstep ci cl (.lstore k) n g = none from if_neg hn] at q; cases q)
  case astore_n k =>
    by_cases hn : n = 1
    · subst hn
      replace hp : (match g.stack with | x :: rest => (if x.isRef = true then (match storeLocals g.locals k.val x with | some l' => some { g with pc := g.pc + 1, stack := rest, locals := l' } | none => none) else none) | _ => none) = some g' := hp
      split at hp
      · skip
        split at hp
        · skip
          split at hp
          · skip
            cases hp
            exact ⟨fun _ hr => XS.astoreN X.here hx hg hd (by assumption) (by assumption) (by assumption) hr, hg⟩
          · cases hp
        · cases hp
      · cases hp
    · exact absurd hp (by intro q; rw [show own_pstep ci cl (.astore_n k) n g = none from if_neg hn] at q; cases q)
  case astore k =>
    by_cases hn : n = 2
    · subst hn
      replace hp : (match g.stack with | x :: rest => (if x.isRef = true then (match storeLocals g.locals k x with | some l' => some { g with pc := g.pc + 2, stack := rest, locals := l' } | none => none) else none) | _ => none) = some g' := hp
      split at hp
      · skip
        split at hp
        · skip
          split at hp
          · skip
            cases hp
            exact ⟨fun _ hr => XS.astore X.here hx hg hd (by assumption) (by assumption) (by assumption) hr, hg⟩
          · cases hp
        · cases hp
      · cases hp
    · exact absurd hp (by intro q; rw [show own_pstep ci cl (.astore k) n g = none from if_neg hn] at q; cases q)
  case iconst i =>
    by_cases hn : n = 1
    · subst hn
      replace hp : (some { g with pc := g.pc + 1, stack := .int (Int32.ofInt i) :: g.stack }) = some g' := hp
      cases hp
      exact ⟨fun _ hr => XS.iconst X.here hx hg hd hr, hg⟩
    · exact absurd hp (by intro q; rw [show own_pstep ci cl (.iconst i) n g = none from if_neg hn] at q; cases q)
  case bipush i =>
    by_cases hn : n = 2
    · subst hn
      replace hp : (some { g with pc := g.pc + 2, stack := .int (Int8.ofInt i).toInt32 :: g.stack }) = some g' := hp
      cases hp
      exact ⟨fun _ hr => XS.bipush X.here hx hg hd hr, hg⟩
    · exact absurd hp (by intro q; rw [show own_pstep ci cl (.bipush i) n g = none from if_neg hn] at q; cases q)
  case sipush i =>
    by_cases hn : n = 3
    · subst hn
      replace hp : (some { g with pc := g.pc + 3, stack := .int (Int16.ofInt i).toInt32 :: g.stack }) = some g' := hp
      cases hp
      exact ⟨fun _ hr => XS.sipush X.here hx hg hd hr, hg⟩
    · exact absurd hp (by intro q; rw [show own_pstep ci cl (.sipush i) n g = none from if_neg hn] at q; cases q)
  case lconst k =>
    by_cases hn : n = 1
    · subst hn
      replace hp : (some { g with pc := g.pc + 1, stack := .long (Int64.ofNat k) :: g.stack }) = some g' := hp
      cases hp
      exact ⟨fun _ hr => XS.lconst X.here hx hg hd hr, hg⟩
    · exact absurd hp (by intro q; rw [show own_pstep ci cl (.lconst k) n g = none from if_neg hn] at q; cases q)
  case aconst_null =>
    by_cases hn : n = 1
    · subst hn
      replace hp : (some { g with pc := g.pc + 1, stack := .null :: g.stack }) = some g' := hp
      cases hp
      exact ⟨fun _ hr => XS.aconstNull X.here hx hg hd hr, hg⟩
    · exact absurd hp (by intro q; rw [show own_pstep ci cl (.aconst_null) n g = none from if_neg hn] at q; cases q)
  case iadd =>
    by_cases hn : n = 1
    · subst hn
      replace hp : (match g.stack with | .int y :: .int x :: rest => some { g with pc := g.pc + 1, stack := .int (x + y) :: rest } | _ => none) = some g' := hp
      split at hp
      · skip
        cases hp
        exact ⟨fun _ hr => XS.iadd X.here hx hg hd (by assumption) hr, hg⟩
      · cases hp
    · exact absurd hp (by intro q; rw [show own_pstep ci cl (.iadd) n g = none from if_neg hn] at q; cases q)
  case ladd =>
    by_cases hn : n = 1
    · subst hn
      replace hp : (match g.stack with | .long y :: .long x :: rest => some { g with pc := g.pc + 1, stack := .long (x + y) :: rest } | _ => none) = some g' := hp
      split at hp
      · skip
        cases hp
        exact ⟨fun _ hr => XS.ladd X.here hx hg hd (by assumption) hr, hg⟩
      · cases hp
    · exact absurd hp (by intro q; rw [show own_pstep ci cl (.ladd) n g = none from if_neg hn] at q; cases q)
  case isub =>
    by_cases hn : n = 1
    · subst hn
      replace hp : (match g.stack with | .int y :: .int x :: rest => some { g with pc := g.pc + 1, stack := .int (x - y) :: rest } | _ => none) = some g' := hp
      split at hp
      · skip
        cases hp
        exact ⟨fun _ hr => XS.isub X.here hx hg hd (by assumption) hr, hg⟩
      · cases hp
    · exact absurd hp (by intro q; rw [show own_pstep ci cl (.isub) n g = none from if_neg hn] at q; cases q)
  case lsub =>
    by_cases hn : n = 1
    · subst hn
      replace hp : (match g.stack with | .long y :: .long x :: rest => some { g with pc := g.pc + 1, stack := .long (x - y) :: rest } | _ => none) = some g' := hp
      split at hp
      · skip
        cases hp
        exact ⟨fun _ hr => XS.lsub X.here hx hg hd (by assumption) hr, hg⟩
      · cases hp
    · exact absurd hp (by intro q; rw [show own_pstep ci cl (.lsub) n g = none from if_neg hn] at q; cases q)
  case imul =>
    by_cases hn : n = 1
    · subst hn
      replace hp : (match g.stack with | .int y :: .int x :: rest => some { g with pc := g.pc + 1, stack := .int (x * y) :: rest } | _ => none) = some g' := hp
      split at hp
      · skip
        cases hp
        exact ⟨fun _ hr => XS.imul X.here hx hg hd (by assumption) hr, hg⟩
      · cases hp
    · exact absurd hp (by intro q; rw [show own_pstep ci cl (.imul) n g = none from if_neg hn] at q; cases q)
  case lmul =>
    by_cases hn : n = 1
    · subst hn
      replace hp : (match g.stack with | .long y :: .long x :: rest => some { g with pc := g.pc + 1, stack := .long (x * y) :: rest } | _ => none) = some g' := hp
      split at hp
      · skip
        cases hp
        exact ⟨fun _ hr => XS.lmul X.here hx hg hd (by assumption) hr, hg⟩
      · cases hp
    · exact absurd hp (by intro q; rw [show own_pstep ci cl (.lmul) n g = none from if_neg hn] at q; cases q)
  case iand =>
    by_cases hn : n = 1
    · subst hn
      replace hp : (match g.stack with | .int y :: .int x :: rest => some { g with pc := g.pc + 1, stack := .int (x &&& y) :: rest } | _ => none) = some g' := hp
      split at hp
      · skip
        cases hp
        exact ⟨fun _ hr => XS.iand X.here hx hg hd (by assumption) hr, hg⟩
      · cases hp
    · exact absurd hp (by intro q; rw [show own_pstep ci cl (.iand) n g = none from if_neg hn] at q; cases q)
  case land =>
    by_cases hn : n = 1
    · subst hn
      replace hp : (match g.stack with | .long y :: .long x :: rest => some { g with pc := g.pc + 1, stack := .long (x &&& y) :: rest } | _ => none) = some g' := hp
      split at hp
      · skip
        cases hp
        exact ⟨fun _ hr => XS.land X.here hx hg hd (by assumption) hr, hg⟩
      · cases hp
    · exact absurd hp (by intro q; rw [show own_pstep ci cl (.land) n g = none from if_neg hn] at q; cases q)
  case ior =>
    by_cases hn : n = 1
    · subst hn
      replace hp : (match g.stack with | .int y :: .int x :: rest => some { g with pc := g.pc + 1, stack := .int (x ||| y) :: rest } | _ => none) = some g' := hp
      split at hp
      · skip
        cases hp
        exact ⟨fun _ hr => XS.ior X.here hx hg hd (by assumption) hr, hg⟩
      · cases hp
    · exact absurd hp (by intro q; rw [show own_pstep ci cl (.ior) n g = none from if_neg hn] at q; cases q)
  case lor =>
    by_cases hn : n = 1
    · subst hn
      replace hp : (match g.stack with | .long y :: .long x :: rest => some { g with pc := g.pc + 1, stack := .long (x ||| y) :: rest } | _ => none) = some g' := hp
      split at hp
      · skip
        cases hp
        exact ⟨fun _ hr => XS.lor X.here hx hg hd (by assumption) hr, hg⟩
      · cases hp
    · exact absurd hp (by intro q; rw [show own_pstep ci cl (.lor) n g = none from if_neg hn] at q; cases q)
  case ixor =>
    by_cases hn : n = 1
    · subst hn
      replace hp : (match g.stack with | .int y :: .int x :: rest => some { g with pc := g.pc + 1, stack := .int (x ^^^ y) :: rest } | _ => none) = some g' := hp
      split at hp
      · skip
        cases hp
        exact ⟨fun _ hr => XS.ixor X.here hx hg hd (by assumption) hr, hg⟩
      · cases hp
    · exact absurd hp (by intro q; rw [show own_pstep ci cl (.ixor) n g = none from if_neg hn] at q; cases q)
  case lxor =>
    by_cases hn : n = 1
    · subst hn
      replace hp : (match g.stack with | .long y :: .long x :: rest => some { g with pc := g.pc + 1, stack := .long (x ^^^ y) :: rest } | _ => none) = some g' := hp
      split at hp
      · skip
        cases hp
        exact ⟨fun _ hr => XS.lxor X.here hx hg hd (by assumption) hr, hg⟩
      · cases hp
    · exact absurd hp (by intro q; rw [show own_pstep ci cl (.lxor) n g = none from if_neg hn] at q; cases q)
  case ishl =>
    by_cases hn : n = 1
    · subst hn
      replace hp : (match g.stack with | .int y :: .int x :: rest => some { g with pc := g.pc + 1, stack := .int (x <<< (y &&& 31)) :: rest } | _ => none) = some g' := hp
      split at hp
      · skip
        cases hp
        exact ⟨fun _ hr => XS.ishl X.here hx hg hd (by assumption) hr, hg⟩
      · cases hp
    · exact absurd hp (by intro q; rw [show own_pstep ci cl (.ishl) n g = none from if_neg hn] at q; cases q)
  case ishr =>
    by_cases hn : n = 1
    · subst hn
      replace hp : (match g.stack with | .int y :: .int x :: rest => some { g with pc := g.pc + 1, stack := .int (x >>> (y &&& 31)) :: rest } | _ => none) = some g' := hp
      split at hp
      · skip
        cases hp
        exact ⟨fun _ hr => XS.ishr X.here hx hg hd (by assumption) hr, hg⟩
      · cases hp
    · exact absurd hp (by intro q; rw [show own_pstep ci cl (.ishr) n g = none from if_neg hn] at q; cases q)
  case iushr =>
    by_cases hn : n = 1
    · subst hn
      replace hp : (match g.stack with | .int y :: .int x :: rest => some { g with pc := g.pc + 1, stack := .int ((x.toUInt32 >>> (y &&& 31).toUInt32).toInt32) :: rest } | _ => none) = some g' := hp
      split at hp
      · skip
        cases hp
        exact ⟨fun _ hr => XS.iushr X.here hx hg hd (by assumption) hr, hg⟩
      · cases hp
    · exact absurd hp (by intro q; rw [show own_pstep ci cl (.iushr) n g = none from if_neg hn] at q; cases q)
  case lshl =>
    by_cases hn : n = 1
    · subst hn
      replace hp : (match g.stack with | .int y :: .long x :: rest => some { g with pc := g.pc + 1, stack := .long (x <<< (y &&& 0x3f).toInt64) :: rest } | _ => none) = some g' := hp
      split at hp
      · skip
        cases hp
        exact ⟨fun _ hr => XS.lshl X.here hx hg hd (by assumption) hr, hg⟩
      · cases hp
    · exact absurd hp (by intro q; rw [show own_pstep ci cl (.lshl) n g = none from if_neg hn] at q; cases q)
  case lshr =>
    by_cases hn : n = 1
    · subst hn
      replace hp : (match g.stack with | .int y :: .long x :: rest => some { g with pc := g.pc + 1, stack := .long (x >>> (y &&& 0x3f).toInt64) :: rest } | _ => none) = some g' := hp
      split at hp
      · skip
        cases hp
        exact ⟨fun _ hr => XS.lshr X.here hx hg hd (by assumption) hr, hg⟩
      · cases hp
    · exact absurd hp (by intro q; rw [show own_pstep ci cl (.lshr) n g = none from if_neg hn] at q; cases q)
  case lushr =>
    by_cases hn : n = 1
    · subst hn
      replace hp : (match g.stack with | .int y :: .long x :: rest => some { g with pc := g.pc + 1, stack := .long ((x.toUInt64 >>> (y &&& 0x3f).toInt64.toUInt64).toInt64) :: rest } | _ => none) = some g' := hp
      split at hp
      · skip
        cases hp
        exact ⟨fun _ hr => XS.lushr X.here hx hg hd (by assumption) hr, hg⟩
      · cases hp
    · exact absurd hp (by intro q; rw [show own_pstep ci cl (.lushr) n g = none from if_neg hn] at q; cases q)
  case lcmp =>
    by_cases hn : n = 1
    · subst hn
      replace hp : (match g.stack with | .long y :: .long x :: rest => some { g with pc := g.pc + 1, stack := .int (if x > y then 1 else if x = y then 0 else -1) :: rest } | _ => none) = some g' := hp
      split at hp
      · skip
        cases hp
        exact ⟨fun _ hr => XS.lcmp X.here hx hg hd (by assumption) hr, hg⟩
      · cases hp
    · exact absurd hp (by intro q; rw [show own_pstep ci cl (.lcmp) n g = none from if_neg hn] at q; cases q)
  case ineg =>
    by_cases hn : n = 1
    · subst hn
      replace hp : (match g.stack with | .int v :: rest => some { g with pc := g.pc + 1, stack := .int (-v) :: rest } | _ => none) = some g' := hp
      split at hp
      · skip
        cases hp
        exact ⟨fun _ hr => XS.ineg X.here hx hg hd (by assumption) hr, hg⟩
      · cases hp
    · exact absurd hp (by intro q; rw [show own_pstep ci cl (.ineg) n g = none from if_neg hn] at q; cases q)
  case lneg =>
    by_cases hn : n = 1
    · subst hn
      replace hp : (match g.stack with | .long v :: rest => some { g with pc := g.pc + 1, stack := .long (-v) :: rest } | _ => none) = some g' := hp
      split at hp
      · skip
        cases hp
        exact ⟨fun _ hr => XS.lneg X.here hx hg hd (by assumption) hr, hg⟩
      · cases hp
    · exact absurd hp (by intro q; rw [show own_pstep ci cl (.lneg) n g = none from if_neg hn] at q; cases q)
  case i2l =>
    by_cases hn : n = 1
    · subst hn
      replace hp : (match g.stack with | .int v :: rest => some { g with pc := g.pc + 1, stack := .long (v.toInt64) :: rest } | _ => none) = some g' := hp
      split at hp
      · skip
        cases hp
        exact ⟨fun _ hr => XS.i2l X.here hx hg hd (by assumption) hr, hg⟩
      · cases hp
    · exact absurd hp (by intro q; rw [show own_pstep ci cl (.i2l) n g = none from if_neg hn] at q; cases q)
  case l2i =>
    by_cases hn : n = 1
    · subst hn
      replace hp : (match g.stack with | .long v :: rest => some { g with pc := g.pc + 1, stack := .int (v.toInt32) :: rest } | _ => none) = some g' := hp
      split at hp
      · skip
        cases hp
        exact ⟨fun _ hr => XS.l2i X.here hx hg hd (by assumption) hr, hg⟩
      · cases hp
    · exact absurd hp (by intro q; rw [show own_pstep ci cl (.l2i) n g = none from if_neg hn] at q; cases q)
  case i2b =>
    by_cases hn : n = 1
    · subst hn
      replace hp : (match g.stack with | .int v :: rest => some { g with pc := g.pc + 1, stack := .int (v.toInt8.toInt32) :: rest } | _ => none) = some g' := hp
      split at hp
      · skip
        cases hp
        exact ⟨fun _ hr => XS.i2b X.here hx hg hd (by assumption) hr, hg⟩
      · cases hp
    · exact absurd hp (by intro q; rw [show own_pstep ci cl (.i2b) n g = none from if_neg hn] at q; cases q)
  case i2c =>
    by_cases hn : n = 1
    · subst hn
      replace hp : (match g.stack with | .int v :: rest => some { g with pc := g.pc + 1, stack := .int (v.toUInt32.toUInt16.toUInt32.toInt32) :: rest } | _ => none) = some g' := hp
      split at hp
      · skip
        cases hp
        exact ⟨fun _ hr => XS.i2c X.here hx hg hd (by assumption) hr, hg⟩
      · cases hp
    · exact absurd hp (by intro q; rw [show own_pstep ci cl (.i2c) n g = none from if_neg hn] at q; cases q)
  case i2s =>
    by_cases hn : n = 1
    · subst hn
      replace hp : (match g.stack with | .int v :: rest => some { g with pc := g.pc + 1, stack := .int (v.toInt16.toInt32) :: rest } | _ => none) = some g' := hp
      split at hp
      · skip
        cases hp
        exact ⟨fun _ hr => XS.i2s X.here hx hg hd (by assumption) hr, hg⟩
      · cases hp
    · exact absurd hp (by intro q; rw [show own_pstep ci cl (.i2s) n g = none from if_neg hn] at q; cases q)
  case iinc k cst =>
    by_cases hn : n = 3
    · subst hn
      replace hp : (match g.locals[k]? with | some (.val (.int x)) => (match storeLocals g.locals k (.int (x + Int32.ofInt cst)) with | some l' => some { g with pc := g.pc + 3, locals := l' } | none => none) | _ => none) = some g' := hp
      split at hp
      · skip
        split at hp
        · skip
          cases hp
          exact ⟨fun _ hr => XS.iinc X.here hx hg hd (by assumption) (by assumption) hr, hg⟩
        · cases hp
      · cases hp
    · exact absurd hp (by intro q; rw [show own_pstep ci cl (.iinc k cst) n g = none from if_neg hn] at q; cases q)
  case dup =>
    by_cases hn : n = 1
    · subst hn
      replace hp : (match g.stack with | x :: rest => (if x.category = 1 then some { g with pc := g.pc + 1, stack := x :: x :: rest } else none) | _ => none) = some g' := hp
      split at hp
      · skip
        split at hp
        · skip
          cases hp
          exact ⟨fun _ hr => XS.dup X.here hx hg hd (by assumption) (by assumption) hr, hg⟩
        · cases hp
      · cases hp
    · exact absurd hp (by intro q; rw [show own_pstep ci cl (.dup) n g = none from if_neg hn] at q; cases q)
  case pop =>
    by_cases hn : n = 1
    · subst hn
      replace hp : (match g.stack with | x :: rest => (if x.category = 1 then some { g with pc := g.pc + 1, stack := rest } else none) | _ => none) = some g' := hp
      split at hp
      · skip
        split at hp
        · skip
          cases hp
          exact ⟨fun _ hr => XS.pop X.here hx hg hd (by assumption) (by assumption) hr, hg⟩
        · cases hp
      · cases hp
    · exact absurd hp (by intro q; rw [show own_pstep ci cl (.pop) n g = none from if_neg hn] at q; cases q)
  case goto o =>
    by_cases hn : n = 3
    · subst hn
      replace hp : (if 0 ≤ (g.pc : Int) + o then some { g with pc := ((g.pc : Int) + o).toNat } else none) = some g' := hp
      split at hp
      · skip
        cases hp
        exact ⟨fun _ hr => XS.goto X.here hx hg rfl hd (by assumption) rfl hr, hg⟩
      · cases hp
    · exact absurd hp (by intro q; rw [show own_pstep ci cl (.goto o) n g = none from if_neg hn] at q; cases q)
  case ldc i =>
    by_cases hn : n = 2
    · subst hn
      replace hp : (match own_look i ci with | some v => some { g with pc := g.pc + 2, stack := .int v :: g.stack } | none => none) = some g' := hp
      split at hp
      · skip
        cases hp
        exact ⟨fun _ hr => X.ldcInt hx hown (hci _ _ (own_look_mem (by assumption))) hg hd _ hr, hg⟩
      · cases hp
    · exact absurd hp (by intro q; rw [show own_pstep ci cl (.ldc i) n g = none from if_neg hn] at q; cases q)
  case ldc_w i =>
    by_cases hn : n = 3
    · subst hn
      replace hp : (match own_look i ci with | some v => some { g with pc := g.pc + 3, stack := .int v :: g.stack } | none => none) = some g' := hp
      split at hp
      · skip
        cases hp
        exact ⟨fun _ hr => X.ldcwInt hx hown (hci _ _ (own_look_mem (by assumption))) hg hd _ hr, hg⟩
      · cases hp
    · exact absurd hp (by intro q; rw [show own_pstep ci cl (.ldc_w i) n g = none from if_neg hn] at q; cases q)
  case ldc2_w i =>
    by_cases hn : n = 3
    · subst hn
      replace hp : (match own_look i cl with | some v => some { g with pc := g.pc + 3, stack := .long v :: g.stack } | none => none) = some g' := hp
      split at hp
      · skip
        cases hp
        exact ⟨fun _ hr => X.ldc2Long hx hown (hcl _ _ (own_look_mem (by assumption))) hg hd _ hr, hg⟩
      · cases hp
    · exact absurd hp (by intro q; rw [show own_pstep ci cl (.ldc2_w i) n g = none from if_neg hn] at q; cases q)
  case idiv =>
    by_cases hn : n = 1
    · subst hn
      replace hp : (match g.stack with | .int y :: .int x :: rest => (if y = 0 then none else some { g with pc := g.pc + 1, stack := .int (x / y) :: rest }) | _ => none) = some g' := hp
      split at hp
      · skip
        split at hp
        · cases hp
        · cases hp; exact ⟨fun _ hr => XS.idiv X.here hx hg hd (by assumption) (by assumption) hr, hg⟩
      · cases hp
    · exact absurd hp (by intro q; rw [show own_pstep ci cl (.idiv) n g = none from if_neg hn] at q; cases q)
  case irem =>
    by_cases hn : n = 1
    · subst hn
      replace hp : (match g.stack with | .int y :: .int x :: rest => (if y = 0 then none else some { g with pc := g.pc + 1, stack := .int (x - (x / y) * y) :: rest }) | _ => none) = some g' := hp
      split at hp
      · skip
        split at hp
        · cases hp
        · cases hp; exact ⟨fun _ hr => XS.irem X.here hx hg hd (by assumption) (by assumption) hr, hg⟩
      · cases hp
    · exact absurd hp (by intro q; rw [show own_pstep ci cl (.irem) n g = none from if_neg hn] at q; cases q)
  case ldiv =>
    by_cases hn : n = 1
    · subst hn
      replace hp : (match g.stack with | .long y :: .long x :: rest => (if y = 0 then none else some { g with pc := g.pc + 1, stack := .long (x / y) :: rest }) | _ => none) = some g' := hp
      split at hp
      · skip
        split at hp
        · cases hp
        · cases hp; exact ⟨fun _ hr => XS.ldiv X.here hx hg hd (by assumption) (by assumption) hr, hg⟩
      · cases hp
    · exact absurd hp (by intro q; rw [show own_pstep ci cl (.ldiv) n g = none from if_neg hn] at q; cases q)
  case lrem =>
    by_cases hn : n = 1
    · subst hn
      replace hp : (match g.stack with | .long y :: .long x :: rest => (if y = 0 then none else some { g with pc := g.pc + 1, stack := .long (x - (x / y) * y) :: rest }) | _ => none) = some g' := hp
      split at hp
      · skip
        split at hp
        · cases hp
        · cases hp; exact ⟨fun _ hr => XS.lrem X.here hx hg hd (by assumption) (by assumption) hr, hg⟩
      · cases hp
    · exact absurd hp (by intro q; rw [show own_pstep ci cl (.lrem) n g = none from if_neg hn] at q; cases q)
def own_decs (code : ByteArray) (L : List (Nat × Instr × Nat)) : Bool := L.all fun q => decide (decode code q.1 = .ok (q.2.1, q.2.2))
def own_prun (ci : List (Nat × Int32)) (cl : List (Nat × Int64)) : List (Nat × Instr × Nat) → JFrame → Option JFrame
  | [], g => some g
  | (pc, i, n) :: r, g => if g.pc = pc then (match own_pstep ci cl i n g with | some g' => own_prun ci cl r g' | none => none) else none
theorem own_prun_ok (X : Stand p l e R s m args below meth c T locs cells slots) (hx : p.tables.exec = Jvm.exec) (hown : s.vm.findClass own = some m.cls) (hci : ∀ i v, (i, v) ∈ ci → (Cond.constant own i v).before args s = true) (hcl : ∀ i v, (i, v) ∈ cl → (Cond.constantLong own i v).before args s = true) {code : ByteArray} (hby : c.code = code) :
    ∀ (L : List (Nat × Instr × Nat)) (g g' : JFrame), g.method = m → own_decs code L = true → own_prun ci cl L g = some g' → Steps p.tables e below (T.setTop g') target → Steps p.tables e below (T.setTop g) target := by
  intro L
  induction L with
  | nil => intro g g' _ _ hp hr; cases hp; exact hr
  | cons q r ih =>
    intro g g' hg hd hp hr
    obtain ⟨pc, i, n⟩ := q
    have hd' : decide (decode code pc = .ok (i, n)) = true ∧ own_decs code r = true := by
      have : (decide (decode code pc = .ok (i, n)) && own_decs code r) = true := hd
      simpa using this
    replace hp : (if g.pc = pc then (match own_pstep ci cl i n g with | some g' => own_prun ci cl r g' | none => none) else none) = some g' := hp
    by_cases hpc : g.pc = pc
    · rw [if_pos hpc] at hp
      cases hs : own_pstep ci cl i n g with
      | none => rw [hs] at hp; cases hp
      | some g1 =>
        rw [hs] at hp
        have q := own_pstep_ok X hx hown hci hcl hg (i := i) (n := n) (by rw [hby, hpc]; exact of_decide_eq_true hd'.1) hs
        exact q.1 _ (ih g1 g' q.2 hd'.2 hp hr)
    · rw [if_neg hpc] at hp; cases hp
theorem Goes.run (X : Stand p l e R s m args below meth c T locs cells slots) (hx : p.tables.exec = Jvm.exec) (hown : s.vm.findClass own = some m.cls) (hci : ∀ i v, (i, v) ∈ ci → (Cond.constant own i v).before args s = true) (hcl : ∀ i v, (i, v) ∈ cl → (Cond.constantLong own i v).before args s = true) {code : ByteArray} (hby : c.code = code)
    {L : List (Nat × Instr × Nat)} (hd : own_decs code L = true) {g g' : JFrame} (hg : g.method = m) (hp : own_prun ci cl L g = some g') (h : Goes p e below s Q kc ks (T.setTop g')) : Goes p e below s Q kc ks (T.setTop g) :=
  Goes.st (fun _ k => own_prun_ok X hx hown hci hcl hby L g g' hg hd hp k) h
theorem own_ci0 {α : Type} {P : Nat → α → Prop} : ∀ i v, (i, v) ∈ ([] : List (Nat × α)) → P i v := fun _ _ q => nomatch q
theorem own_ciS {α : Type} {P : Nat → α → Prop} {j : Nat} {w : α} {L : List (Nat × α)} (h : P j w) (r : ∀ i v, (i, v) ∈ L → P i v) : ∀ i v, (i, v) ∈ (j, w) :: L → P i v := fun i v q => (List.mem_cons.mp q).elim (fun z => by cases z; exact h) (r i v)
end OwnRun
theorem own_rem32 (x y : Int32) : (x - (x / y) * y).toInt = x.toInt.tmod y.toInt := by
  have a := (x % y).toInt_lt; have b := (x % y).le_toInt
  rw [Int32.toInt_mod] at a b
  rw [Int32.toInt_sub, Int32.toInt_mul, Int32.toInt_div, Int.bmod_mul_bmod, Int.sub_bmod_bmod, Int.mul_comm, ← Int.tmod_def]
  exact Jvm.Kit.bmod32 b a
section OwnNums
variable {x y : Int64} {u v : Int32} {a b : Int}
theorem own_r32 (hx : u.toInt = a) (hy : v.toInt = b) (h0 : 0 ≤ a) : (u - (u / v) * v).toInt = a % b := by subst hx hy; rw [own_rem32, Int.tmod_eq_emod_of_nonneg h0]
theorem own_r64 (hx : x.toInt = a) (hy : y.toInt = b) (h0 : 0 ≤ a) : (x - (x / y) * y).toInt = a % b := by subst hx hy; rw [Jvm.Kit.i64_rem, Int.tmod_eq_emod_of_nonneg h0]
theorem own_mul64 (hx : x.toInt = a) (hy : y.toInt = b) (h1 : -2 ^ 63 ≤ a * b) (h2 : a * b < 2 ^ 63) : (x * y).toInt = a * b := by subst hx hy; exact Jvm.Kit.i64_mul h1 h2
theorem own_mul32 (hx : u.toInt = a) (hy : v.toInt = b) (h1 : -2 ^ 31 ≤ a * b) (h2 : a * b < 2 ^ 31) : (u * v).toInt = a * b := by subst hx hy; exact Jvm.Kit.i32_mul h1 h2
theorem own_add64 (hx : x.toInt = a) (hy : y.toInt = b) (h1 : -2 ^ 63 ≤ a + b) (h2 : a + b < 2 ^ 63) : (x + y).toInt = a + b := by subst hx hy; exact Jvm.Kit.i64_add h1 h2
theorem own_add32 (hx : u.toInt = a) (hy : v.toInt = b) (h1 : -2 ^ 31 ≤ a + b) (h2 : a + b < 2 ^ 31) : (u + v).toInt = a + b := by subst hx hy; exact Jvm.Kit.i32_add h1 h2
theorem own_sub64 (hx : x.toInt = a) (hy : y.toInt = b) (h1 : -2 ^ 63 ≤ a - b) (h2 : a - b < 2 ^ 63) : (x - y).toInt = a - b := by subst hx hy; exact Jvm.Kit.i64_sub h1 h2
theorem own_sub32 (hx : u.toInt = a) (hy : v.toInt = b) (h1 : -2 ^ 31 ≤ a - b) (h2 : a - b < 2 ^ 31) : (u - v).toInt = a - b := by subst hx hy; exact Jvm.Kit.i32_sub h1 h2
theorem own_i2l (hx : u.toInt = a) : u.toInt64.toInt = a := by subst hx; exact Jvm.Kit.i64_of_i32 u
theorem own_lt64 (hx : x.toInt = a) (hy : y.toInt = b) : x < y ↔ a < b := by rw [Int64.lt_iff_toInt_lt, hx, hy]
theorem own_lt32 (hx : u.toInt = a) (hy : v.toInt = b) : u < v ↔ a < b := by rw [Int32.lt_iff_toInt_lt, hx, hy]
theorem own_eq64 (hx : x.toInt = a) (hy : y.toInt = b) : x = y ↔ a = b := by rw [← Int64.toInt_inj, hx, hy]
theorem own_eq32 (hx : u.toInt = a) (hy : v.toInt = b) : u = v ↔ a = b := by rw [← Int32.toInt_inj, hx, hy]
theorem own_m32 (u : Int32) (m : Int32) {k : Nat} (hk : k < 32) (hm : m.toBitVec.toNat = 2 ^ k - 1) : ∃ a : Int, (u &&& m).toInt = a ∧ 0 ≤ a ∧ a < 2 ^ k ∧ a = u.toInt % 2 ^ k := by
  refine ⟨_, Jvm.Kit.i32_mask u m hk hm, Int.emod_nonneg _ (Int.ne_of_gt (Int.pow_pos (by decide))), Int.emod_lt_of_pos _ (Int.pow_pos (by decide)), rfl⟩
theorem own_m64 (x : Int64) (m : Int64) {k : Nat} (hk : k < 64) (hm : m.toBitVec.toNat = 2 ^ k - 1) : ∃ a : Int, (x &&& m).toInt = a ∧ 0 ≤ a ∧ a < 2 ^ k ∧ a = x.toInt % 2 ^ k := by
  refine ⟨_, Jvm.Kit.i64_mask x m hk hm, Int.emod_nonneg _ (Int.ne_of_gt (Int.pow_pos (by decide))), Int.emod_lt_of_pos _ (Int.pow_pos (by decide)), rfl⟩
theorem own_nm {P : Int → Prop} {z : Int} (h : P z) : ∃ a, a = z ∧ P a := ⟨z, rfl, h⟩
end OwnNums
theorem own_nat32 {u : Int32} {a : Int} (hu : u.toInt = a) (h0 : 0 ≤ a) {N : Nat} (h1 : a < N) : ∃ n : Nat, n < N ∧ u = Int32.ofNat n ∧ a = (n : Int) := by
  have q := u.toInt_lt
  refine ⟨a.toNat, by omega, ?_, by omega⟩
  apply Int32.toInt_inj.mp
  rw [Int32.toInt_ofNat_of_lt (by omega), hu]; omega
theorem own_bv64 {x : Int64} {a : Int} (hx : x.toInt = a) (h0 : 0 ≤ a) : (x.toBitVec.toNat : Int) = a := by
  have e : x.toInt = x.toBitVec.toInt := rfl
  have hb := x.toBitVec.isLt
  rw [e, BitVec.toInt_eq_toNat_cond] at hx
  split at hx <;> omega
theorem own_bv32 {x : Int32} {a : Int} (hx : x.toInt = a) (h0 : 0 ≤ a) : (x.toBitVec.toNat : Int) = a := by
  have e : x.toInt = x.toBitVec.toInt := rfl
  have hb := x.toBitVec.isLt
  rw [e, BitVec.toInt_eq_toNat_cond] at hx
  split at hx <;> omega
theorem own_shn (y : Int32) : ((y &&& 0x3f).toInt64.toUInt64).toNat < 64 := by
  obtain ⟨a, h1, h2, h3, -⟩ := own_m32 y (0x3f : Int32) (k := 6) (by decide) (by decide)
  have h4 := own_bv64 (own_i2l h1) h2
  have e : ((y &&& 0x3f).toInt64.toUInt64).toNat = (y &&& 0x3f).toInt64.toBitVec.toNat := rfl
  rw [e]
  omega
theorem own_ushr0 {x : Int64} {a : Int} (hx : x.toInt = a) (h0 : 0 ≤ a) (y : Int32) : ∃ b : Int, ((x.toUInt64 >>> (y &&& 0x3f).toInt64.toUInt64).toInt64).toInt = b ∧ 0 ≤ b ∧ b ≤ a := by
  refine ⟨_, Jvm.Kit.i64_lushr (by rw [Jvm.Kit.i64_nonneg, hx]; exact h0) rfl (own_shn y), ?_, ?_⟩
  · rw [hx]; exact Int.ediv_nonneg h0 (Int.le_of_lt (Int.pow_pos (by decide)))
  · rw [hx]; exact Int.ediv_le_self _ h0
theorem own_ushrk {x : Int64} {a : Int} (hx : x.toInt = a) (h0 : 0 ≤ a) {n : UInt64} {k : Nat} (hn : n.toNat = k) (hk : k < 64) {d : Int} (hd : (2 : Int) ^ k = d) : ((x.toUInt64 >>> n).toInt64).toInt = a / d := by
  rw [Jvm.Kit.i64_lushr (by rw [Jvm.Kit.i64_nonneg, hx]; exact h0) hn hk, hx, hd]
theorem own_ofbv32 {x : Int32} (h : x.toBitVec.toNat < 2 ^ 31) : x.toInt = (x.toBitVec.toNat : Int) := by
  have e : x.toInt = x.toBitVec.toInt := rfl
  rw [e, BitVec.toInt_eq_toNat_cond, if_pos (by omega)]
theorem own_xor32 {x y : Int32} {a b : Int} (hx : x.toInt = a) (hy : y.toInt = b) (h0 : 0 ≤ a) (h1 : 0 ≤ b) : ∃ c : Int, (x ^^^ y).toInt = c ∧ 0 ≤ c := by
  have p := own_bv32 hx h0; have q := own_bv32 hy h1
  have r := x.toInt_lt; have s := y.toInt_lt
  have e : (x ^^^ y).toBitVec.toNat = x.toBitVec.toNat ^^^ y.toBitVec.toNat := by simp [Int32.toBitVec_xor, BitVec.toNat_xor]
  have l : (x ^^^ y).toBitVec.toNat < 2 ^ 31 := by rw [e]; exact Nat.xor_lt_two_pow (by omega) (by omega)
  exact ⟨_, own_ofbv32 l, Int.natCast_nonneg _⟩
theorem d1_0 : decode jdk_30_method_1_code 0 = .ok (.aload_n 0, 1) := by decide +kernel
theorem d1_1 : decode jdk_30_method_1_code 1 = .ok (.invokespecial 1, 3) := by decide +kernel
theorem d1_4 : decode jdk_30_method_1_code 4 = .ok (.return_, 1) := by decide +kernel
theorem pn1 : plainName "java/lang/Record" = true := by first | (simp [plainName, overriddenIn]; done) | decide +kernel
theorem ef1 (m : MethodId) (x0 : Addr) : entryFrame m #[(.ref x0)] 1 = (mkF m 0 #[.val (.ref x0)] []) := by first | (simp [entryFrame, mkF, argsToLocals, Value.category]; done) | rfl
set_option maxRecDepth 65536 in
set_option maxHeartbeats 40000000 in
theorem rm1 (l : Launch) (Z : State) (a0 : Array Value) (hw : ∀ d ∈ tables_1, d.before a0 Z = true) (ws : List Jvm.Cond) (x0 : Addr) (h0 : Heap) (n0 : Nat) (Z0 : n0 ≤ h0.size) :
    MetFree l (⟨"java/lang/Record", "<init>", "()V"⟩ : MethodName) (head1 (Jvm.Cond.code (⟨"java/lang/Record", "<init>", "()V"⟩ : MethodName) jdk_30_method_1_code 1 none :: ws) ({ frames := 1, cells := 0, slots := 0, locals := 12 } : Room)) (fun a U => a = #[(.ref x0)] ∧ Z.Warmed39 U.vm ∧ U.heap = h0) (fun _ _ _ _ _ => True) (fun _ U o U' => ∃ v L, o = .returned v ∧ (QP none h0 n0) v U'.heap L ∧ FrameEnd U o U' L ({ frames := 1, cells := 0, slots := 0, locals := 12 } : Room).cells ({ frames := 1, cells := 0, slots := 0, locals := 12 } : Room).slots) := by
  refine MetFree.of_bodySF (plainFor_of_name pn1) hisR ?_
  intro p e s m args below meth c s₁ Bd hml0 hP hK
  obtain ⟨rfl, hZ, hh⟩ := hP
  have hx := Bd.exec
  have hby := Bd.bytes
  have hml : c.maxLocals = 1 := hml0
  have hlk : meth.locks = false := BodyLoose.notSynchronized Bd
  have hown : s.vm.findClass "java/lang/Record" = some m.cls := findClass_of_methodNamed Bd.named
  have hnm := (name_of_methodNamed Bd.named Bd.method).1
  have hci : ∀ i v, (i, v) ∈ ([] : List (Nat × Int32)) → (Jvm.Cond.constant "java/lang/Record" i v).before #[(.ref x0)] s = true := own_ci0
  have hcl : ∀ i v, (i, v) ∈ ([] : List (Nat × Int64)) → (Jvm.Cond.constantLong "java/lang/Record" i v).before #[(.ref x0)] s = true := own_ci0
  have X0 : Stand p l e ({ frames := 1, cells := 0, slots := 0, locals := 12 } : Room) s m #[(.ref x0)] below meth c s₁ [] 0 0 := Stand.of_body Bd
  have e0 : s₁.heap = h0 := by rw [← hh, Bd.state]; rfl
  have N0 := Fr.nil n0
  show Goes p e below s (QP none h0 n0) ({ frames := 1, cells := 0, slots := 0, locals := 12 } : Room).cells ({ frames := 1, cells := 0, slots := 0, locals := 12 } : Room).slots (s₁.setTop (entryFrame m #[(.ref x0)] 1))
  refine Goes.cast (ef1 m x0) ?_
  refine Goes.run X0 hx hown hci hcl hby (L := [(0, .aload_n 0, 1)]) (by decide +kernel) rfl (g' := (mkF m 1 #[.val (.ref x0)] [(.ref x0)])) rfl ?_
  obtain ⟨T1, X1, e1, st1⟩ := initO X0 hx hZ hown (hw _ (List.mem_of_getElem? (i := 11) rfl)) (hw _ (List.mem_of_getElem? (i := 12) rfl)) (hw _ (List.mem_of_getElem? (i := 13) rfl)) e0 (g := (mkF m 1 #[.val (.ref x0)] [(.ref x0)])) rfl (by rw [hml]; rfl) rfl (hb hby d1_1) (by decide) (W := 0) (by show 2 * 0 + _ ≤ _; exact Nat.le_of_eq rfl) (by decide)
  refine Goes.st (B := T1.setTop (mkF m 4 #[.val (.ref x0)] [])) st1 ?_
  exact Goes.retV X1 hx hlk Bd.returns (hb hby d1_4) ⟨rfl, N0, e1⟩ (by decide) (by decide)
theorem d2_0 : decode prog_36_method_1_code 0 = .ok (.aload_n 0, 1) := by decide +kernel
theorem d2_1 : decode prog_36_method_1_code 1 = .ok (.invokespecial 1, 3) := by decide +kernel
theorem d2_4 : decode prog_36_method_1_code 4 = .ok (.aload_n 0, 1) := by decide +kernel
theorem d2_5 : decode prog_36_method_1_code 5 = .ok (.lload_n 1, 1) := by decide +kernel
theorem d2_6 : decode prog_36_method_1_code 6 = .ok (.putfield 7, 3) := by decide +kernel
theorem d2_9 : decode prog_36_method_1_code 9 = .ok (.aload_n 0, 1) := by decide +kernel
theorem d2_10 : decode prog_36_method_1_code 10 = .ok (.lload_n 3, 1) := by decide +kernel
theorem d2_11 : decode prog_36_method_1_code 11 = .ok (.putfield 13, 3) := by decide +kernel
theorem d2_14 : decode prog_36_method_1_code 14 = .ok (.aload_n 0, 1) := by decide +kernel
theorem d2_15 : decode prog_36_method_1_code 15 = .ok (.lload 5, 2) := by decide +kernel
theorem d2_17 : decode prog_36_method_1_code 17 = .ok (.putfield 16, 3) := by decide +kernel
theorem d2_20 : decode prog_36_method_1_code 20 = .ok (.aload_n 0, 1) := by decide +kernel
theorem d2_21 : decode prog_36_method_1_code 21 = .ok (.lload 7, 2) := by decide +kernel
theorem d2_23 : decode prog_36_method_1_code 23 = .ok (.putfield 19, 3) := by decide +kernel
theorem d2_26 : decode prog_36_method_1_code 26 = .ok (.return_, 1) := by decide +kernel
theorem pn2 : plainName "com/example/rulewake/rulewake/Nbbo" = true := by first | (simp [plainName, overriddenIn]; done) | decide +kernel
theorem pd2_0 : parseMethodDescriptor "()V" = some ⟨[], none⟩ := by decide +kernel
theorem ef2 (m : MethodId) (x0 : Addr) (x1 : Int64) (x2 : Int64) (x3 : Int64) (x4 : Int64) : entryFrame m #[(.ref x0), (.long x1), (.long x2), (.long x3), (.long x4)] 9 = (mkF m 0 #[.val (.ref x0), .val (.long x1), .second, .val (.long x2), .second, .val (.long x3), .second, .val (.long x4), .second] []) := by first | (simp [entryFrame, mkF, argsToLocals, Value.category]; done) | rfl
def Q2 (Z : State) (x0 : Addr) (x1 : Int64) (x2 : Int64) (x3 : Int64) (x4 : Int64) (h0 : Heap) (n0 : Nat) (v : Option Value) (h : Heap) (L : List Loc) : Prop := v = none ∧ Fr n0 L ∧ Keep h0 h [x0] ∧ Exa Z h x0 "com/example/rulewake/rulewake/Nbbo" ∧ Fld Z h x0 "com/example/rulewake/rulewake/Nbbo" "bid" "J" (.long x1) ∧ Fld Z h x0 "com/example/rulewake/rulewake/Nbbo" "bidSize" "J" (.long x2) ∧ Fld Z h x0 "com/example/rulewake/rulewake/Nbbo" "ask" "J" (.long x3) ∧ Fld Z h x0 "com/example/rulewake/rulewake/Nbbo" "askSize" "J" (.long x4)
set_option maxRecDepth 65536 in
set_option maxHeartbeats 40000000 in
theorem rm2 (l : Launch) (Z : State) (a0 : Array Value) (hw : ∀ d ∈ tables_1, d.before a0 Z = true) (ws : List Jvm.Cond) (x0 : Addr) (x1 : Int64) (x2 : Int64) (x3 : Int64) (x4 : Int64) (h0 : Heap) (n0 : Nat) (Z0 : n0 ≤ h0.size) (E_x0 : Exa Z h0 x0 "com/example/rulewake/rulewake/Nbbo") (F_bid_x0 : Fld Z h0 x0 "com/example/rulewake/rulewake/Nbbo" "bid" "J" (.long (0 : Int64))) (F_bidSize_x0 : Fld Z h0 x0 "com/example/rulewake/rulewake/Nbbo" "bidSize" "J" (.long (0 : Int64))) (F_ask_x0 : Fld Z h0 x0 "com/example/rulewake/rulewake/Nbbo" "ask" "J" (.long (0 : Int64))) (F_askSize_x0 : Fld Z h0 x0 "com/example/rulewake/rulewake/Nbbo" "askSize" "J" (.long (0 : Int64))) (g_x0 : n0 ≤ x0) :
    MetFree l (⟨"com/example/rulewake/rulewake/Nbbo", "<init>", "(JJJJ)V"⟩ : MethodName) (head1 (Jvm.Cond.code (⟨"com/example/rulewake/rulewake/Nbbo", "<init>", "(JJJJ)V"⟩ : MethodName) prog_36_method_1_code 9 none :: ws) ({ frames := 2, cells := 0, slots := 0, locals := 24 } : Room)) (fun a U => a = #[(.ref x0), (.long x1), (.long x2), (.long x3), (.long x4)] ∧ Z.Warmed39 U.vm ∧ U.heap = h0) (fun _ _ _ _ _ => True) (fun _ U o U' => ∃ v L, o = .returned v ∧ (Q2 Z x0 x1 x2 x3 x4 h0 n0) v U'.heap L ∧ FrameEnd U o U' L ({ frames := 2, cells := 0, slots := 0, locals := 24 } : Room).cells ({ frames := 2, cells := 0, slots := 0, locals := 24 } : Room).slots) := by
  refine MetFree.of_bodySF (plainFor_of_name pn2) hisR ?_
  intro p e s m args below meth c s₁ Bd hml0 hP hK
  obtain ⟨rfl, hZ, hh⟩ := hP
  have hx := Bd.exec
  have hby := Bd.bytes
  have hml : c.maxLocals = 9 := hml0
  have hlk : meth.locks = false := BodyLoose.notSynchronized Bd
  have hown : s.vm.findClass "com/example/rulewake/rulewake/Nbbo" = some m.cls := findClass_of_methodNamed Bd.named
  have hnm := (name_of_methodNamed Bd.named Bd.method).1
  have hci : ∀ i v, (i, v) ∈ ([] : List (Nat × Int32)) → (Jvm.Cond.constant "com/example/rulewake/rulewake/Nbbo" i v).before #[(.ref x0), (.long x1), (.long x2), (.long x3), (.long x4)] s = true := own_ci0
  have hcl : ∀ i v, (i, v) ∈ ([] : List (Nat × Int64)) → (Jvm.Cond.constantLong "com/example/rulewake/rulewake/Nbbo" i v).before #[(.ref x0), (.long x1), (.long x2), (.long x3), (.long x4)] s = true := own_ci0
  have X0 : Stand p l e ({ frames := 2, cells := 0, slots := 0, locals := 24 } : Room) s m #[(.ref x0), (.long x1), (.long x2), (.long x3), (.long x4)] below meth c s₁ [] 0 0 := Stand.of_body Bd
  have e0 : s₁.heap = h0 := by rw [← hh, Bd.state]; rfl
  have N0 := Fr.nil n0
  show Goes p e below s (Q2 Z x0 x1 x2 x3 x4 h0 n0) ({ frames := 2, cells := 0, slots := 0, locals := 24 } : Room).cells ({ frames := 2, cells := 0, slots := 0, locals := 24 } : Room).slots (s₁.setTop (entryFrame m #[(.ref x0), (.long x1), (.long x2), (.long x3), (.long x4)] 9))
  refine Goes.cast (ef2 m x0 x1 x2 x3 x4) ?_
  have K0 : Keep h0 h0 [x0] := Keep.refl h0 _
  refine Goes.run X0 hx hown hci hcl hby (L := [(0, .aload_n 0, 1)]) (by decide +kernel) rfl (g' := (mkF m 1 #[.val (.ref x0), .val (.long x1), .second, .val (.long x2), .second, .val (.long x3), .second, .val (.long x4), .second] [(.ref x0)])) rfl ?_
  obtain ⟨_, _, ⟨T1, L1, k1, n1⟩, -, X1, ⟨Lc1, hQ1, l1, y1, z1⟩, st1⟩ := X0.specialBack hx (y := (⟨"java/lang/Record", "<init>", "()V"⟩ : MethodName)) rfl hown (mvT hZ (hw _ (List.mem_of_getElem? (i := 6) rfl))) (mvT hZ (hw _ (List.mem_of_getElem? (i := 7) rfl))) (mvT hZ (hw _ (List.mem_of_getElem? (i := 10) rfl))) (by decide) (backOf (W := 0) (rm1 l Z a0 hw [] x0 h0 n0 Z0 ) hZ (hw _ (List.mem_of_getElem? (i := 10) rfl)) (hw _ (List.mem_of_getElem? (i := 9) rfl)) (by decide) (by decide)) (g := (mkF m 1 #[.val (.ref x0), .val (.long x1), .second, .val (.long x2), .second, .val (.long x3), .second, .val (.long x4), .second] [(.ref x0)])) rfl (by rw [hml]; rfl) (Steps.refl _) (a := x0) (argsL := []) (rest := []) (lenOf pd2_0 rfl) rfl (by show 2 * 0 + _ ≤ _; exact Nat.le_of_eq rfl) (hb hby d2_1) (fun _ _ => ⟨rfl, e0, (by decide : 0 + 0 ≤ _), (by decide : 0 + 0 ≤ _)⟩)
  dsimp only [Pt.U, Pt.locs, Pt.cells, Pt.slots] at X1 l1 y1 z1 st1 hQ1
  subst l1 y1 z1
  obtain ⟨rfl, N1q, e1⟩ := hQ1
  have N1 := Fr.app N0 N1q
  refine Goes.st (B := T1.setTop (mkF m 4 #[.val (.ref x0), .val (.long x1), .second, .val (.long x2), .second, .val (.long x3), .second, .val (.long x4), .second] [])) (fun t k => st1.trans k) ?_
  refine Goes.run X1 hx hown hci hcl hby (L := [(4, .aload_n 0, 1), (5, .lload_n 1, 1)]) (by decide +kernel) rfl (g' := (mkF m 6 #[.val (.ref x0), .val (.long x1), .second, .val (.long x2), .second, .val (.long x3), .second, .val (.long x4), .second] [(.long x1), (.ref x0)])) rfl ?_
  obtain ⟨T2, h2, X2, e2, W2, st2⟩ := putF X1 hx hZ hown (host := "") (Or.inl (hw _ (List.mem_of_getElem? (i := 14) rfl))) Via.refl e1 F_bid_x0 E_x0 (Or.inr ⟨(hw _ (List.mem_of_getElem? (i := 15) rfl)), rfl, hnm⟩) (hw _ (List.mem_of_getElem? (i := 1) rfl)) (ty := .long) (by decide) rfl rfl (g := (mkF m 6 #[.val (.ref x0), .val (.long x1), .second, .val (.long x2), .second, .val (.long x3), .second, .val (.long x4), .second] [(.long x1), (.ref x0)])) rfl rfl (hb hby d2_6)
  have E_x0 := E_x0.wr W2
  have F_bid_x0 : Fld Z h2 x0 "com/example/rulewake/rulewake/Nbbo" "bid" "J" (.long x1) := F_bid_x0.same W2
  have F_bidSize_x0 := F_bidSize_x0.other W2 (Or.inr (slot_ne (Or.inr (hw _ (List.mem_of_getElem? (i := 17) rfl))) (Or.inr (hw _ (List.mem_of_getElem? (i := 15) rfl))) (by decide) (t := .long) (t' := .long) (by decide) (by decide)))
  have F_ask_x0 := F_ask_x0.other W2 (Or.inr (slot_ne (Or.inr (hw _ (List.mem_of_getElem? (i := 19) rfl))) (Or.inr (hw _ (List.mem_of_getElem? (i := 15) rfl))) (by decide) (t := .long) (t' := .long) (by decide) (by decide)))
  have F_askSize_x0 := F_askSize_x0.other W2 (Or.inr (slot_ne (Or.inr (hw _ (List.mem_of_getElem? (i := 21) rfl))) (Or.inr (hw _ (List.mem_of_getElem? (i := 15) rfl))) (by decide) (t := .long) (t' := .long) (by decide) (by decide)))
  have Zn2 : n0 ≤ h2.size := Nat.le_trans Z0 (Keep.of_wr W2).1
  have K2 := K0.wr W2 (Or.inl (List.mem_of_getElem? (i := 0) rfl))
  have N2 := Fr.snoc X2 N1 g_x0
  refine Goes.st (B := T2.setTop (mkF m 9 #[.val (.ref x0), .val (.long x1), .second, .val (.long x2), .second, .val (.long x3), .second, .val (.long x4), .second] [])) st2 ?_
  refine Goes.run X2 hx hown hci hcl hby (L := [(9, .aload_n 0, 1), (10, .lload_n 3, 1)]) (by decide +kernel) rfl (g' := (mkF m 11 #[.val (.ref x0), .val (.long x1), .second, .val (.long x2), .second, .val (.long x3), .second, .val (.long x4), .second] [(.long x2), (.ref x0)])) rfl ?_
  obtain ⟨T3, h3, X3, e3, W3, st3⟩ := putF X2 hx hZ hown (host := "") (Or.inl (hw _ (List.mem_of_getElem? (i := 16) rfl))) Via.refl e2 F_bidSize_x0 E_x0 (Or.inr ⟨(hw _ (List.mem_of_getElem? (i := 17) rfl)), rfl, hnm⟩) (hw _ (List.mem_of_getElem? (i := 1) rfl)) (ty := .long) (by decide) rfl rfl (g := (mkF m 11 #[.val (.ref x0), .val (.long x1), .second, .val (.long x2), .second, .val (.long x3), .second, .val (.long x4), .second] [(.long x2), (.ref x0)])) rfl rfl (hb hby d2_11)
  have E_x0 := E_x0.wr W3
  have F_bid_x0 := F_bid_x0.other W3 (Or.inr (slot_ne (Or.inr (hw _ (List.mem_of_getElem? (i := 15) rfl))) (Or.inr (hw _ (List.mem_of_getElem? (i := 17) rfl))) (by decide) (t := .long) (t' := .long) (by decide) (by decide)))
  have F_bidSize_x0 : Fld Z h3 x0 "com/example/rulewake/rulewake/Nbbo" "bidSize" "J" (.long x2) := F_bidSize_x0.same W3
  have F_ask_x0 := F_ask_x0.other W3 (Or.inr (slot_ne (Or.inr (hw _ (List.mem_of_getElem? (i := 19) rfl))) (Or.inr (hw _ (List.mem_of_getElem? (i := 17) rfl))) (by decide) (t := .long) (t' := .long) (by decide) (by decide)))
  have F_askSize_x0 := F_askSize_x0.other W3 (Or.inr (slot_ne (Or.inr (hw _ (List.mem_of_getElem? (i := 21) rfl))) (Or.inr (hw _ (List.mem_of_getElem? (i := 17) rfl))) (by decide) (t := .long) (t' := .long) (by decide) (by decide)))
  have Zn3 : n0 ≤ h3.size := Nat.le_trans Zn2 (Keep.of_wr W3).1
  have K3 := K2.wr W3 (Or.inl (List.mem_of_getElem? (i := 0) rfl))
  have N3 := Fr.snoc X3 N2 g_x0
  refine Goes.st (B := T3.setTop (mkF m 14 #[.val (.ref x0), .val (.long x1), .second, .val (.long x2), .second, .val (.long x3), .second, .val (.long x4), .second] [])) st3 ?_
  refine Goes.run X3 hx hown hci hcl hby (L := [(14, .aload_n 0, 1), (15, .lload 5, 2)]) (by decide +kernel) rfl (g' := (mkF m 17 #[.val (.ref x0), .val (.long x1), .second, .val (.long x2), .second, .val (.long x3), .second, .val (.long x4), .second] [(.long x3), (.ref x0)])) rfl ?_
  obtain ⟨T4, h4, X4, e4, W4, st4⟩ := putF X3 hx hZ hown (host := "") (Or.inl (hw _ (List.mem_of_getElem? (i := 18) rfl))) Via.refl e3 F_ask_x0 E_x0 (Or.inr ⟨(hw _ (List.mem_of_getElem? (i := 19) rfl)), rfl, hnm⟩) (hw _ (List.mem_of_getElem? (i := 1) rfl)) (ty := .long) (by decide) rfl rfl (g := (mkF m 17 #[.val (.ref x0), .val (.long x1), .second, .val (.long x2), .second, .val (.long x3), .second, .val (.long x4), .second] [(.long x3), (.ref x0)])) rfl rfl (hb hby d2_17)
  have E_x0 := E_x0.wr W4
  have F_bid_x0 := F_bid_x0.other W4 (Or.inr (slot_ne (Or.inr (hw _ (List.mem_of_getElem? (i := 15) rfl))) (Or.inr (hw _ (List.mem_of_getElem? (i := 19) rfl))) (by decide) (t := .long) (t' := .long) (by decide) (by decide)))
  have F_bidSize_x0 := F_bidSize_x0.other W4 (Or.inr (slot_ne (Or.inr (hw _ (List.mem_of_getElem? (i := 17) rfl))) (Or.inr (hw _ (List.mem_of_getElem? (i := 19) rfl))) (by decide) (t := .long) (t' := .long) (by decide) (by decide)))
  have F_ask_x0 : Fld Z h4 x0 "com/example/rulewake/rulewake/Nbbo" "ask" "J" (.long x3) := F_ask_x0.same W4
  have F_askSize_x0 := F_askSize_x0.other W4 (Or.inr (slot_ne (Or.inr (hw _ (List.mem_of_getElem? (i := 21) rfl))) (Or.inr (hw _ (List.mem_of_getElem? (i := 19) rfl))) (by decide) (t := .long) (t' := .long) (by decide) (by decide)))
  have Zn4 : n0 ≤ h4.size := Nat.le_trans Zn3 (Keep.of_wr W4).1
  have K4 := K3.wr W4 (Or.inl (List.mem_of_getElem? (i := 0) rfl))
  have N4 := Fr.snoc X4 N3 g_x0
  refine Goes.st (B := T4.setTop (mkF m 20 #[.val (.ref x0), .val (.long x1), .second, .val (.long x2), .second, .val (.long x3), .second, .val (.long x4), .second] [])) st4 ?_
  refine Goes.run X4 hx hown hci hcl hby (L := [(20, .aload_n 0, 1), (21, .lload 7, 2)]) (by decide +kernel) rfl (g' := (mkF m 23 #[.val (.ref x0), .val (.long x1), .second, .val (.long x2), .second, .val (.long x3), .second, .val (.long x4), .second] [(.long x4), (.ref x0)])) rfl ?_
  obtain ⟨T5, h5, X5, e5, W5, st5⟩ := putF X4 hx hZ hown (host := "") (Or.inl (hw _ (List.mem_of_getElem? (i := 20) rfl))) Via.refl e4 F_askSize_x0 E_x0 (Or.inr ⟨(hw _ (List.mem_of_getElem? (i := 21) rfl)), rfl, hnm⟩) (hw _ (List.mem_of_getElem? (i := 1) rfl)) (ty := .long) (by decide) rfl rfl (g := (mkF m 23 #[.val (.ref x0), .val (.long x1), .second, .val (.long x2), .second, .val (.long x3), .second, .val (.long x4), .second] [(.long x4), (.ref x0)])) rfl rfl (hb hby d2_23)
  have E_x0 := E_x0.wr W5
  have F_bid_x0 := F_bid_x0.other W5 (Or.inr (slot_ne (Or.inr (hw _ (List.mem_of_getElem? (i := 15) rfl))) (Or.inr (hw _ (List.mem_of_getElem? (i := 21) rfl))) (by decide) (t := .long) (t' := .long) (by decide) (by decide)))
  have F_bidSize_x0 := F_bidSize_x0.other W5 (Or.inr (slot_ne (Or.inr (hw _ (List.mem_of_getElem? (i := 17) rfl))) (Or.inr (hw _ (List.mem_of_getElem? (i := 21) rfl))) (by decide) (t := .long) (t' := .long) (by decide) (by decide)))
  have F_ask_x0 := F_ask_x0.other W5 (Or.inr (slot_ne (Or.inr (hw _ (List.mem_of_getElem? (i := 19) rfl))) (Or.inr (hw _ (List.mem_of_getElem? (i := 21) rfl))) (by decide) (t := .long) (t' := .long) (by decide) (by decide)))
  have F_askSize_x0 : Fld Z h5 x0 "com/example/rulewake/rulewake/Nbbo" "askSize" "J" (.long x4) := F_askSize_x0.same W5
  have Zn5 : n0 ≤ h5.size := Nat.le_trans Zn4 (Keep.of_wr W5).1
  have K5 := K4.wr W5 (Or.inl (List.mem_of_getElem? (i := 0) rfl))
  have N5 := Fr.snoc X5 N4 g_x0
  refine Goes.st (B := T5.setTop (mkF m 26 #[.val (.ref x0), .val (.long x1), .second, .val (.long x2), .second, .val (.long x3), .second, .val (.long x4), .second] [])) st5 ?_
  refine Goes.retV X5 hx hlk Bd.returns (hb hby d2_26) ?_ (by decide) (by decide)
  show (Q2 Z x0 x1 x2 x3 x4 h0 n0) _ _ _
  rw [e5]
  exact ⟨rfl, N5, K5, E_x0, F_bid_x0, F_bidSize_x0, F_ask_x0, F_askSize_x0⟩
theorem d3_0 : decode prog_36_method_3_code 0 = .ok (.aload_n 0, 1) := by decide +kernel
theorem d3_1 : decode prog_36_method_3_code 1 = .ok (.getfield 7, 3) := by decide +kernel
theorem d3_4 : decode prog_36_method_3_code 4 = .ok (.lconst 0, 1) := by decide +kernel
theorem d3_5 : decode prog_36_method_3_code 5 = .ok (.lcmp, 1) := by decide +kernel
theorem d3_6 : decode prog_36_method_3_code 6 = .ok (.ifCond .eq 28, 3) := by decide +kernel
theorem d3_9 : decode prog_36_method_3_code 9 = .ok (.aload_n 0, 1) := by decide +kernel
theorem d3_10 : decode prog_36_method_3_code 10 = .ok (.getfield 16, 3) := by decide +kernel
theorem d3_13 : decode prog_36_method_3_code 13 = .ok (.lconst 0, 1) := by decide +kernel
theorem d3_14 : decode prog_36_method_3_code 14 = .ok (.lcmp, 1) := by decide +kernel
theorem d3_15 : decode prog_36_method_3_code 15 = .ok (.ifCond .eq 19, 3) := by decide +kernel
theorem d3_18 : decode prog_36_method_3_code 18 = .ok (.aload_n 0, 1) := by decide +kernel
theorem d3_19 : decode prog_36_method_3_code 19 = .ok (.getfield 7, 3) := by decide +kernel
theorem d3_22 : decode prog_36_method_3_code 22 = .ok (.aload_n 0, 1) := by decide +kernel
theorem d3_23 : decode prog_36_method_3_code 23 = .ok (.getfield 16, 3) := by decide +kernel
theorem d3_26 : decode prog_36_method_3_code 26 = .ok (.lcmp, 1) := by decide +kernel
theorem d3_27 : decode prog_36_method_3_code 27 = .ok (.ifCond .le 7, 3) := by decide +kernel
theorem d3_30 : decode prog_36_method_3_code 30 = .ok (.iconst 1, 1) := by decide +kernel
theorem d3_31 : decode prog_36_method_3_code 31 = .ok (.goto 4, 3) := by decide +kernel
theorem d3_34 : decode prog_36_method_3_code 34 = .ok (.iconst 0, 1) := by decide +kernel
theorem d3_35 : decode prog_36_method_3_code 35 = .ok (.ireturn, 1) := by decide +kernel
theorem pn3 : plainName "com/example/rulewake/rulewake/Nbbo" = true := by first | (simp [plainName, overriddenIn]; done) | decide +kernel
theorem ef3 (m : MethodId) (x0 : Addr) : entryFrame m #[(.ref x0)] 1 = (mkF m 0 #[.val (.ref x0)] []) := by first | (simp [entryFrame, mkF, argsToLocals, Value.category]; done) | rfl
def r3 (u : Int64) (w : Int64) : Int32 := (if u = (0 : Int64) then (0 : Int32) else (if w = (0 : Int64) then (0 : Int32) else (if w < u then (1 : Int32) else (0 : Int32))))
set_option maxRecDepth 65536 in
set_option maxHeartbeats 40000000 in
theorem rm3 (l : Launch) (Z : State) (a0 : Array Value) (hw : ∀ d ∈ tables_1, d.before a0 Z = true) (ws : List Jvm.Cond) (x0 : Addr) (u : Int64) (w : Int64) (h0 : Heap) (n0 : Nat) (Z0 : n0 ≤ h0.size) (F_bid_x0 : Fld Z h0 x0 "com/example/rulewake/rulewake/Nbbo" "bid" "J" (.long u)) (F_ask_x0 : Fld Z h0 x0 "com/example/rulewake/rulewake/Nbbo" "ask" "J" (.long w)) :
    MetFree l (⟨"com/example/rulewake/rulewake/Nbbo", "crossed", "()Z"⟩ : MethodName) (head1 (Jvm.Cond.code (⟨"com/example/rulewake/rulewake/Nbbo", "crossed", "()Z"⟩ : MethodName) prog_36_method_3_code 1 (some .boolean) :: ws) ({ frames := 0, cells := 0, slots := 0, locals := 0 } : Room)) (fun a U => a = #[(.ref x0)] ∧ Z.Warmed39 U.vm ∧ U.heap = h0) (fun _ _ _ _ _ => True) (fun _ U o U' => ∃ v L, o = .returned v ∧ (QP (some (.int (r3 u w))) h0 n0) v U'.heap L ∧ FrameEnd U o U' L ({ frames := 0, cells := 0, slots := 0, locals := 0 } : Room).cells ({ frames := 0, cells := 0, slots := 0, locals := 0 } : Room).slots) := by
  refine MetFree.of_bodySF (plainFor_of_name pn3) hisR ?_
  intro p e s m args below meth c s₁ Bd hml0 hP hK
  obtain ⟨rfl, hZ, hh⟩ := hP
  have hx := Bd.exec
  have hby := Bd.bytes
  have hml : c.maxLocals = 1 := hml0
  have hlk : meth.locks = false := BodyLoose.notSynchronized Bd
  have hown : s.vm.findClass "com/example/rulewake/rulewake/Nbbo" = some m.cls := findClass_of_methodNamed Bd.named
  have hnm := (name_of_methodNamed Bd.named Bd.method).1
  have hci : ∀ i v, (i, v) ∈ ([] : List (Nat × Int32)) → (Jvm.Cond.constant "com/example/rulewake/rulewake/Nbbo" i v).before #[(.ref x0)] s = true := own_ci0
  have hcl : ∀ i v, (i, v) ∈ ([] : List (Nat × Int64)) → (Jvm.Cond.constantLong "com/example/rulewake/rulewake/Nbbo" i v).before #[(.ref x0)] s = true := own_ci0
  have X0 : Stand p l e ({ frames := 0, cells := 0, slots := 0, locals := 0 } : Room) s m #[(.ref x0)] below meth c s₁ [] 0 0 := Stand.of_body Bd
  have e0 : s₁.heap = h0 := by rw [← hh, Bd.state]; rfl
  have N0 := Fr.nil n0
  show Goes p e below s (QP (some (.int (r3 u w))) h0 n0) ({ frames := 0, cells := 0, slots := 0, locals := 0 } : Room).cells ({ frames := 0, cells := 0, slots := 0, locals := 0 } : Room).slots (s₁.setTop (entryFrame m #[(.ref x0)] 1))
  refine Goes.cast (ef3 m x0) ?_
  refine Goes.run X0 hx hown hci hcl hby (L := [(0, .aload_n 0, 1)]) (by decide +kernel) rfl (g' := (mkF m 1 #[.val (.ref x0)] [(.ref x0)])) rfl ?_
  obtain ⟨T1, X1, e1, st1⟩ := getF X0 hx hZ hown (host := "") (Or.inl (hw _ (List.mem_of_getElem? (i := 14) rfl))) Via.refl e0 F_bid_x0 (g := (mkF m 1 #[.val (.ref x0)] [(.ref x0)])) rfl rfl (hb hby d3_1)
  refine Goes.st (B := T1.setTop (mkF m 4 #[.val (.ref x0)] [(.long u)])) st1 ?_
  refine Goes.run X1 hx hown hci hcl hby (L := [(4, .lconst 0, 1), (5, .lcmp, 1)]) (by decide +kernel) rfl (g' := (mkF m 6 #[.val (.ref x0)] [(.int (lcmpW u (0 : Int64)))])) rfl ?_
  by_cases hc6_2 : u = (0 : Int64)
  · skip
    refine Goes.st (B := T1.setTop (mkF m 34 #[.val (.ref x0)] [])) (fun t k => ?_) ?_
    · refine XS.ifYes X1.here hx rfl (pc0 := 6) (pc' := 34) rfl (hb hby d3_6) rfl (teqL hc6_2).1 (by decide) (by decide) ?_
      exact k
    refine Goes.run X1 hx hown hci hcl hby (L := [(34, .iconst 0, 1)]) (by decide +kernel) rfl (g' := (mkF m 35 #[.val (.ref x0)] [(.int (0 : Int32))])) rfl ?_
    exact Goes.retB X1 hx hlk (t := .boolean) Bd.returns (by simp) (hb hby d3_35) rfl ⟨(congrArg (fun z => some (Value.int z)) (show (r3 u w) = (0 : Int32) from (if_pos hc6_2)).symm), N0, e1⟩ (by decide) (by decide)
  · skip
    refine Goes.st (B := T1.setTop (mkF m 9 #[.val (.ref x0)] [])) (fun t k => ?_) ?_
    · refine XS.ifNo X1.here hx rfl (hb hby d3_6) rfl (feqL hc6_2).1 ?_
      exact k
    refine Goes.run X1 hx hown hci hcl hby (L := [(9, .aload_n 0, 1)]) (by decide +kernel) rfl (g' := (mkF m 10 #[.val (.ref x0)] [(.ref x0)])) rfl ?_
    obtain ⟨T3, X3, e3, st3⟩ := getF X1 hx hZ hown (host := "") (Or.inl (hw _ (List.mem_of_getElem? (i := 18) rfl))) Via.refl e1 F_ask_x0 (g := (mkF m 10 #[.val (.ref x0)] [(.ref x0)])) rfl rfl (hb hby d3_10)
    refine Goes.st (B := T3.setTop (mkF m 13 #[.val (.ref x0)] [(.long w)])) st3 ?_
    refine Goes.run X3 hx hown hci hcl hby (L := [(13, .lconst 0, 1), (14, .lcmp, 1)]) (by decide +kernel) rfl (g' := (mkF m 15 #[.val (.ref x0)] [(.int (lcmpW w (0 : Int64)))])) rfl ?_
    by_cases hc15_4 : w = (0 : Int64)
    · skip
      refine Goes.st (B := T3.setTop (mkF m 34 #[.val (.ref x0)] [])) (fun t k => ?_) ?_
      · refine XS.ifYes X3.here hx rfl (pc0 := 15) (pc' := 34) rfl (hb hby d3_15) rfl (teqL hc15_4).1 (by decide) (by decide) ?_
        exact k
      refine Goes.run X3 hx hown hci hcl hby (L := [(34, .iconst 0, 1)]) (by decide +kernel) rfl (g' := (mkF m 35 #[.val (.ref x0)] [(.int (0 : Int32))])) rfl ?_
      exact Goes.retB X3 hx hlk (t := .boolean) Bd.returns (by simp) (hb hby d3_35) rfl ⟨(congrArg (fun z => some (Value.int z)) (show (r3 u w) = (0 : Int32) from ((if_neg hc6_2).trans (if_pos hc15_4))).symm), N0, e3⟩ (by decide) (by decide)
    · skip
      refine Goes.st (B := T3.setTop (mkF m 18 #[.val (.ref x0)] [])) (fun t k => ?_) ?_
      · refine XS.ifNo X3.here hx rfl (hb hby d3_15) rfl (feqL hc15_4).1 ?_
        exact k
      refine Goes.run X3 hx hown hci hcl hby (L := [(18, .aload_n 0, 1)]) (by decide +kernel) rfl (g' := (mkF m 19 #[.val (.ref x0)] [(.ref x0)])) rfl ?_
      obtain ⟨T5, X5, e5, st5⟩ := getF X3 hx hZ hown (host := "") (Or.inl (hw _ (List.mem_of_getElem? (i := 14) rfl))) Via.refl e3 F_bid_x0 (g := (mkF m 19 #[.val (.ref x0)] [(.ref x0)])) rfl rfl (hb hby d3_19)
      refine Goes.st (B := T5.setTop (mkF m 22 #[.val (.ref x0)] [(.long u)])) st5 ?_
      refine Goes.run X5 hx hown hci hcl hby (L := [(22, .aload_n 0, 1)]) (by decide +kernel) rfl (g' := (mkF m 23 #[.val (.ref x0)] [(.ref x0), (.long u)])) rfl ?_
      obtain ⟨T6, X6, e6, st6⟩ := getF X5 hx hZ hown (host := "") (Or.inl (hw _ (List.mem_of_getElem? (i := 18) rfl))) Via.refl e5 F_ask_x0 (g := (mkF m 23 #[.val (.ref x0)] [(.ref x0), (.long u)])) rfl rfl (hb hby d3_23)
      refine Goes.st (B := T6.setTop (mkF m 26 #[.val (.ref x0)] [(.long w), (.long u)])) st6 ?_
      refine Goes.run X6 hx hown hci hcl hby (L := [(26, .lcmp, 1)]) (by decide +kernel) rfl (g' := (mkF m 27 #[.val (.ref x0)] [(.int (lcmpW u w))])) rfl ?_
      by_cases hc27_7 : w < u
      · skip
        refine Goes.st (B := T6.setTop (mkF m 30 #[.val (.ref x0)] [])) (fun t k => ?_) ?_
        · refine XS.ifNo X6.here hx rfl (hb hby d3_27) rfl (tltL hc27_7).2.2.2 ?_
          exact k
        refine Goes.run X6 hx hown hci hcl hby (L := [(30, .iconst 1, 1), (31, .goto 4, 3)]) (by decide +kernel) rfl (g' := (mkF m 35 #[.val (.ref x0)] [(.int (1 : Int32))])) rfl ?_
        exact Goes.retB X6 hx hlk (t := .boolean) Bd.returns (by simp) (hb hby d3_35) rfl ⟨(congrArg (fun z => some (Value.int z)) (show (r3 u w) = (1 : Int32) from (((if_neg hc6_2).trans (if_neg hc15_4)).trans (if_pos hc27_7))).symm), N0, e6⟩ (by decide) (by decide)
      · skip
        refine Goes.st (B := T6.setTop (mkF m 34 #[.val (.ref x0)] [])) (fun t k => ?_) ?_
        · refine XS.ifYes X6.here hx rfl (pc0 := 27) (pc' := 34) rfl (hb hby d3_27) rfl (fltL hc27_7).2.2.2 (by decide) (by decide) ?_
          exact k
        refine Goes.run X6 hx hown hci hcl hby (L := [(34, .iconst 0, 1)]) (by decide +kernel) rfl (g' := (mkF m 35 #[.val (.ref x0)] [(.int (0 : Int32))])) rfl ?_
        exact Goes.retB X6 hx hlk (t := .boolean) Bd.returns (by simp) (hb hby d3_35) rfl ⟨(congrArg (fun z => some (Value.int z)) (show (r3 u w) = (0 : Int32) from (((if_neg hc6_2).trans (if_neg hc15_4)).trans (if_neg hc27_7))).symm), N0, e6⟩ (by decide) (by decide)
theorem d4_0 : decode jdk_29_method_70_code 0 = .ok (.lload_n 0, 1) := by decide +kernel
theorem d4_1 : decode jdk_29_method_70_code 1 = .ok (.lload_n 2, 1) := by decide +kernel
theorem d4_2 : decode jdk_29_method_70_code 2 = .ok (.lcmp, 1) := by decide +kernel
theorem d4_3 : decode jdk_29_method_70_code 3 = .ok (.ifCond .gt 7, 3) := by decide +kernel
theorem d4_6 : decode jdk_29_method_70_code 6 = .ok (.lload_n 0, 1) := by decide +kernel
theorem d4_7 : decode jdk_29_method_70_code 7 = .ok (.goto 4, 3) := by decide +kernel
theorem d4_10 : decode jdk_29_method_70_code 10 = .ok (.lload_n 2, 1) := by decide +kernel
theorem d4_11 : decode jdk_29_method_70_code 11 = .ok (.lreturn, 1) := by decide +kernel
theorem ef4 (m : MethodId) (x0 : Int64) (x1 : Int64) : entryFrame m #[(.long x0), (.long x1)] 4 = (mkF m 0 #[.val (.long x0), .second, .val (.long x1), .second] []) := by first | (simp [entryFrame, mkF, argsToLocals, Value.category]; done) | rfl
def r4 (x0 : Int64) (x1 : Int64) : Int64 := (if x1 < x0 then x1 else x0)
set_option maxRecDepth 65536 in
set_option maxHeartbeats 40000000 in
theorem rm4 (l : Launch) (Z : State) (a0 : Array Value) (hw : ∀ d ∈ tables_1, d.before a0 Z = true) (ws : List Jvm.Cond) (x0 : Int64) (x1 : Int64) (h0 : Heap) (n0 : Nat) (Z0 : n0 ≤ h0.size) :
    MetFree l (⟨"java/lang/Math", "min", "(JJ)J"⟩ : MethodName) (head1 (Jvm.Cond.code (⟨"java/lang/Math", "min", "(JJ)J"⟩ : MethodName) jdk_29_method_70_code 4 (some .long) :: ws) ({ frames := 0, cells := 0, slots := 0, locals := 0 } : Room)) (fun a U => a = #[(.long x0), (.long x1)] ∧ Z.Warmed39 U.vm ∧ U.heap = h0) (fun _ _ _ _ _ => True) (fun _ U o U' => ∃ v L, o = .returned v ∧ (QP (some (.long (r4 x0 x1))) h0 n0) v U'.heap L ∧ FrameEnd U o U' L ({ frames := 0, cells := 0, slots := 0, locals := 0 } : Room).cells ({ frames := 0, cells := 0, slots := 0, locals := 0 } : Room).slots) := by
  refine MetFree.of_bodySF (Jvm.Free.JP.mathPlain rfl (by decide +kernel)) hisR ?_
  intro p e s m args below meth c s₁ Bd hml0 hP hK
  obtain ⟨rfl, hZ, hh⟩ := hP
  have hx := Bd.exec
  have hby := Bd.bytes
  have hml : c.maxLocals = 4 := hml0
  have hlk : meth.locks = false := BodyLoose.notSynchronized Bd
  have hown : s.vm.findClass "java/lang/Math" = some m.cls := findClass_of_methodNamed Bd.named
  have hnm := (name_of_methodNamed Bd.named Bd.method).1
  have hci : ∀ i v, (i, v) ∈ ([] : List (Nat × Int32)) → (Jvm.Cond.constant "java/lang/Math" i v).before #[(.long x0), (.long x1)] s = true := own_ci0
  have hcl : ∀ i v, (i, v) ∈ ([] : List (Nat × Int64)) → (Jvm.Cond.constantLong "java/lang/Math" i v).before #[(.long x0), (.long x1)] s = true := own_ci0
  have X0 : Stand p l e ({ frames := 0, cells := 0, slots := 0, locals := 0 } : Room) s m #[(.long x0), (.long x1)] below meth c s₁ [] 0 0 := Stand.of_body Bd
  have e0 : s₁.heap = h0 := by rw [← hh, Bd.state]; rfl
  have N0 := Fr.nil n0
  show Goes p e below s (QP (some (.long (r4 x0 x1))) h0 n0) ({ frames := 0, cells := 0, slots := 0, locals := 0 } : Room).cells ({ frames := 0, cells := 0, slots := 0, locals := 0 } : Room).slots (s₁.setTop (entryFrame m #[(.long x0), (.long x1)] 4))
  refine Goes.cast (ef4 m x0 x1) ?_
  refine Goes.run X0 hx hown hci hcl hby (L := [(0, .lload_n 0, 1), (1, .lload_n 2, 1), (2, .lcmp, 1)]) (by decide +kernel) rfl (g' := (mkF m 3 #[.val (.long x0), .second, .val (.long x1), .second] [(.int (lcmpW x0 x1))])) rfl ?_
  by_cases hc3_1 : x1 < x0
  · skip
    refine Goes.st (B := s₁.setTop (mkF m 10 #[.val (.long x0), .second, .val (.long x1), .second] [])) (fun t k => ?_) ?_
    · refine XS.ifYes X0.here hx rfl (pc0 := 3) (pc' := 10) rfl (hb hby d4_3) rfl (tltL hc3_1).2.2.1 (by decide) (by decide) ?_
      exact k
    refine Goes.run X0 hx hown hci hcl hby (L := [(10, .lload_n 2, 1)]) (by decide +kernel) rfl (g' := (mkF m 11 #[.val (.long x0), .second, .val (.long x1), .second] [(.long x1)])) rfl ?_
    exact Goes.retJ X0 hx hlk Bd.returns (hb hby d4_11) ⟨(congrArg (fun z => some (Value.long z)) (show (r4 x0 x1) = x1 from (if_pos hc3_1)).symm), N0, e0⟩ (by decide) (by decide)
  · skip
    refine Goes.st (B := s₁.setTop (mkF m 6 #[.val (.long x0), .second, .val (.long x1), .second] [])) (fun t k => ?_) ?_
    · refine XS.ifNo X0.here hx rfl (hb hby d4_3) rfl (fltL hc3_1).2.2.1 ?_
      exact k
    refine Goes.run X0 hx hown hci hcl hby (L := [(6, .lload_n 0, 1), (7, .goto 4, 3)]) (by decide +kernel) rfl (g' := (mkF m 11 #[.val (.long x0), .second, .val (.long x1), .second] [(.long x0)])) rfl ?_
    exact Goes.retJ X0 hx hlk Bd.returns (hb hby d4_11) ⟨(congrArg (fun z => some (Value.long z)) (show (r4 x0 x1) = x0 from (if_neg hc3_1)).symm), N0, e0⟩ (by decide) (by decide)
theorem pn0 : plainName "com/example/rulewake/rulewake/NbboCrossedPinLaw" = true := by first | (simp [plainName, overriddenIn]; done) | decide +kernel
theorem pd0_0 : parseMethodDescriptor "(JJJJ)V" = some ⟨[.long, .long, .long, .long], none⟩ := by decide +kernel
theorem pd0_1 : parseMethodDescriptor "(JJ)J" = some ⟨[.long, .long], some .long⟩ := by decide +kernel
theorem pd0_2 : parseMethodDescriptor "()Z" = some ⟨[], some .boolean⟩ := by decide +kernel
theorem ef0 (m : MethodId) (x0 : Int64) (x1 : Int64) (x2 : Int64) (x3 : Int64) (x4 : Int32) : entryFrame m #[(.long x0), (.long x1), (.long x2), (.long x3), (.int x4)] maxLocals = (mkF m 0 #[.val (.long x0), .second, .val (.long x1), .second, .val (.long x2), .second, .val (.long x3), .second, .val (.int x4), .unset, .unset, .unset, .unset, .unset, .unset, .unset, .unset, .unset] []) := by first | (simp [entryFrame, mkF, argsToLocals, Value.category, maxLocals]; done) | rfl
def w0_5 (x0 : Int64) (x1 : Int64) (x2 : Int64) (x3 : Int64) (x4 : Int32) : Int32 := (x4 &&& (7 : Int32))
def w0_68 (x0 : Int64) (x1 : Int64) (x2 : Int64) (x3 : Int64) (x4 : Int32) : Int64 := ((x0 - (1 : Int64)) - (x2 &&& (255 : Int64)))
def w0_90 (x0 : Int64) (x1 : Int64) (x2 : Int64) (x3 : Int64) (x4 : Int32) : Int64 := ((x0 + (1 : Int64)) + (x2 &&& (255 : Int64)))
def j0_92_10 (x0 : Int64) (x1 : Int64) (x2 : Int64) (x3 : Int64) (x4 : Int32) : Int64 := (if (w0_5 x0 x1 x2 x3 x4) = (1 : Int32) then (0 : Int64) else (if (w0_5 x0 x1 x2 x3 x4) = (2 : Int32) then x0 else (if (w0_5 x0 x1 x2 x3 x4) = (3 : Int32) then x0 else (if (w0_5 x0 x1 x2 x3 x4) = (4 : Int32) then x0 else (if (w0_5 x0 x1 x2 x3 x4) = (5 : Int32) then x0 else x0)))))
def j0_92_12 (x0 : Int64) (x1 : Int64) (x2 : Int64) (x3 : Int64) (x4 : Int32) : Int64 := (if (w0_5 x0 x1 x2 x3 x4) = (1 : Int32) then x2 else (if (w0_5 x0 x1 x2 x3 x4) = (2 : Int32) then (0 : Int64) else (if (w0_5 x0 x1 x2 x3 x4) = (3 : Int32) then x0 else (if (w0_5 x0 x1 x2 x3 x4) = (4 : Int32) then (w0_68 x0 x1 x2 x3 x4) else (if (w0_5 x0 x1 x2 x3 x4) = (5 : Int32) then (w0_90 x0 x1 x2 x3 x4) else x2)))))
def j0_148_s0 (x0 : Int64) (x1 : Int64) (x2 : Int64) (x3 : Int64) (x4 : Int32) : Int32 := (if (j0_92_10 x0 x1 x2 x3 x4) = (0 : Int64) then (0 : Int32) else (if (j0_92_12 x0 x1 x2 x3 x4) = (0 : Int64) then (0 : Int32) else (if (j0_92_10 x0 x1 x2 x3 x4) = (j0_92_12 x0 x1 x2 x3 x4) then (0 : Int32) else (if (r4 (j0_92_10 x0 x1 x2 x3 x4) (j0_92_12 x0 x1 x2 x3 x4)) = (j0_92_12 x0 x1 x2 x3 x4) then (1 : Int32) else (0 : Int32)))))
def w0_155 (x0 : Int64) (x1 : Int64) (x2 : Int64) (x3 : Int64) (x4 : Int32) : Int32 := (r3 (j0_92_10 x0 x1 x2 x3 x4) (j0_92_12 x0 x1 x2 x3 x4))
def j0_184_s0 (x0 : Int64) (x1 : Int64) (x2 : Int64) (x3 : Int64) (x4 : Int32) : Int32 := (if (r3 (j0_92_10 x0 x1 x2 x3 x4) (j0_92_12 x0 x1 x2 x3 x4)) = (w0_155 x0 x1 x2 x3 x4) then (1 : Int32) else (0 : Int32))
def r0 (x0 : Int64) (x1 : Int64) (x2 : Int64) (x3 : Int64) (x4 : Int32) : Int32 := (if (w0_155 x0 x1 x2 x3 x4) = (j0_148_s0 x0 x1 x2 x3 x4) then (if (j0_184_s0 x0 x1 x2 x3 x4) = (0 : Int32) then (0 : Int32) else (1 : Int32)) else (0 : Int32))
set_option maxRecDepth 65536 in
set_option maxHeartbeats 40000000 in
theorem rm0 (l : Launch) (Z : State) (a0 : Array Value) (hw : ∀ d ∈ tables_1, d.before a0 Z = true) (ws : List Jvm.Cond) (x0 : Int64) (x1 : Int64) (x2 : Int64) (x3 : Int64) (x4 : Int32) (h0 : Heap) (n0 : Nat) (Z0 : n0 ≤ h0.size) :
    MetFree l x (head1 (Jvm.Cond.code x code maxLocals ret :: ws) room_1) (fun a U => a = #[(.long x0), (.long x1), (.long x2), (.long x3), (.int x4)] ∧ Z.Warmed39 U.vm ∧ U.heap = h0) (fun _ _ _ _ _ => True) (fun _ U o U' => ∃ v L, o = .returned v ∧ (QL (some (.int (r0 x0 x1 x2 x3 x4))) n0) v U'.heap L ∧ FrameEnd U o U' L room_1.cells room_1.slots) := by
  refine MetFree.of_bodySF (plainFor_of_name pn0) hisR ?_
  intro p e s m args below meth c s₁ Bd hml0 hP hK
  obtain ⟨rfl, hZ, hh⟩ := hP
  have hx := Bd.exec
  have hby := Bd.bytes
  have hml : c.maxLocals = 18 := hml0
  have hlk : meth.locks = false := BodyLoose.notSynchronized Bd
  have hown : s.vm.findClass "com/example/rulewake/rulewake/NbboCrossedPinLaw" = some m.cls := findClass_of_methodNamed Bd.named
  have hnm := (name_of_methodNamed Bd.named Bd.method).1
  have hci : ∀ i v, (i, v) ∈ ([] : List (Nat × Int32)) → (Jvm.Cond.constant "com/example/rulewake/rulewake/NbboCrossedPinLaw" i v).before #[(.long x0), (.long x1), (.long x2), (.long x3), (.int x4)] s = true := own_ci0
  have hcl : ∀ i v, (i, v) ∈ ([(9, 255)] : List (Nat × Int64)) → (Jvm.Cond.constantLong "com/example/rulewake/rulewake/NbboCrossedPinLaw" i v).before #[(.long x0), (.long x1), (.long x2), (.long x3), (.int x4)] s = true := (own_ciS (mvT hZ (hw _ (List.mem_of_getElem? (i := 27) rfl))) own_ci0)
  have X0 : Stand p l e room_1 s m #[(.long x0), (.long x1), (.long x2), (.long x3), (.int x4)] below meth c s₁ [] 0 0 := Stand.of_body Bd
  have e0 : s₁.heap = h0 := by rw [← hh, Bd.state]; rfl
  have N0 := Fr.nil n0
  show Goes p e below s (QL (some (.int (r0 x0 x1 x2 x3 x4))) n0) room_1.cells room_1.slots (s₁.setTop (entryFrame m #[(.long x0), (.long x1), (.long x2), (.long x3), (.int x4)] maxLocals))
  refine Goes.cast (ef0 m x0 x1 x2 x3 x4) ?_
  refine Goes.run X0 hx hown hci hcl hby (L := [(0, .iload 8, 2), (2, .bipush 7, 2), (4, .iand, 1), (5, .istore 9, 2), (7, .lload_n 0, 1), (8, .lstore 10, 2)]) (by decide +kernel) rfl (g' := (mkF m 10 #[.val (.long x0), .second, .val (.long x1), .second, .val (.long x2), .second, .val (.long x3), .second, .val (.int x4), .val (.int (w0_5 x0 x1 x2 x3 x4)), .val (.long x0), .second, .unset, .unset, .unset, .unset, .unset, .unset] [])) rfl ?_
  refine Goes.run X0 hx hown hci hcl hby (L := [(10, .lload 4, 2), (12, .lstore 12, 2), (14, .iload 9, 2), (16, .iconst 1, 1)]) (by decide +kernel) rfl (g' := (mkF m 17 #[.val (.long x0), .second, .val (.long x1), .second, .val (.long x2), .second, .val (.long x3), .second, .val (.int x4), .val (.int (w0_5 x0 x1 x2 x3 x4)), .val (.long x0), .second, .val (.long x2), .second, .unset, .unset, .unset, .unset] [(.int (1 : Int32)), (.int (w0_5 x0 x1 x2 x3 x4))])) rfl ?_
  have jn92_6 : Goes p e below s (QL (some (.int (r0 x0 x1 x2 x3 x4))) n0) room_1.cells room_1.slots (s₁.setTop (mkF m 92 #[.val (.long x0), .second, .val (.long x1), .second, .val (.long x2), .second, .val (.long x3), .second, .val (.int x4), .val (.int (w0_5 x0 x1 x2 x3 x4)), .val (.long (j0_92_10 x0 x1 x2 x3 x4)), .second, .val (.long (j0_92_12 x0 x1 x2 x3 x4)), .second, .unset, .unset, .unset, .unset] [])) := by
    obtain ⟨T7, h7, X7, e7, E7, A7, D7, -, st7⟩ := newO X0 hx hZ hown (hw _ (List.mem_of_getElem? (i := 0) rfl)) (hw _ (List.mem_of_getElem? (i := 1) rfl)) (hw _ (List.mem_of_getElem? (i := 2) rfl)) e0 (g := (mkF m 92 #[.val (.long x0), .second, .val (.long x1), .second, .val (.long x2), .second, .val (.long x3), .second, .val (.int x4), .val (.int (w0_5 x0 x1 x2 x3 x4)), .val (.long (j0_92_10 x0 x1 x2 x3 x4)), .second, .val (.long (j0_92_12 x0 x1 x2 x3 x4)), .second, .unset, .unset, .unset, .unset] [])) rfl (hb hby at_92) (by decide) (by decide)
    obtain ⟨b7, g7⟩ : ∃ z, z = h0.size := ⟨_, rfl⟩
    rw [← g7] at A7 D7 st7
    have g_b7 : n0 ≤ b7 := Nat.le_trans Z0 (Nat.le_of_eq g7.symm)
    have Zn7 : n0 ≤ h7.size := Nat.le_trans Z0 E7.1
    have E_b7 : Exa Z h7 b7 "com/example/rulewake/rulewake/Nbbo" := A7
    have F_bid_b7 : Fld Z h7 b7 "com/example/rulewake/rulewake/Nbbo" "bid" "J" (.long (0 : Int64)) := D7 (Or.inr (hw _ (List.mem_of_getElem? (i := 15) rfl))) (ty := .long) (by decide)
    have F_bidSize_b7 : Fld Z h7 b7 "com/example/rulewake/rulewake/Nbbo" "bidSize" "J" (.long (0 : Int64)) := D7 (Or.inr (hw _ (List.mem_of_getElem? (i := 17) rfl))) (ty := .long) (by decide)
    have F_ask_b7 : Fld Z h7 b7 "com/example/rulewake/rulewake/Nbbo" "ask" "J" (.long (0 : Int64)) := D7 (Or.inr (hw _ (List.mem_of_getElem? (i := 19) rfl))) (ty := .long) (by decide)
    have F_askSize_b7 : Fld Z h7 b7 "com/example/rulewake/rulewake/Nbbo" "askSize" "J" (.long (0 : Int64)) := D7 (Or.inr (hw _ (List.mem_of_getElem? (i := 21) rfl))) (ty := .long) (by decide)
    refine Goes.st (B := T7.setTop (mkF m 95 #[.val (.long x0), .second, .val (.long x1), .second, .val (.long x2), .second, .val (.long x3), .second, .val (.int x4), .val (.int (w0_5 x0 x1 x2 x3 x4)), .val (.long (j0_92_10 x0 x1 x2 x3 x4)), .second, .val (.long (j0_92_12 x0 x1 x2 x3 x4)), .second, .unset, .unset, .unset, .unset] [(.ref b7)])) st7 ?_
    refine Goes.run X7 hx hown hci hcl hby (L := [(95, .dup, 1), (96, .lload 10, 2), (98, .lload_n 2, 1), (99, .lload 12, 2), (101, .lload 6, 2)]) (by decide +kernel) rfl (g' := (mkF m 103 #[.val (.long x0), .second, .val (.long x1), .second, .val (.long x2), .second, .val (.long x3), .second, .val (.int x4), .val (.int (w0_5 x0 x1 x2 x3 x4)), .val (.long (j0_92_10 x0 x1 x2 x3 x4)), .second, .val (.long (j0_92_12 x0 x1 x2 x3 x4)), .second, .unset, .unset, .unset, .unset] [(.long x3), (.long (j0_92_12 x0 x1 x2 x3 x4)), (.long x1), (.long (j0_92_10 x0 x1 x2 x3 x4)), (.ref b7), (.ref b7)])) rfl ?_
    obtain ⟨_, _, ⟨T8, L8, k8, n8⟩, -, X8, ⟨Lc8, hQ8, l8, y8, z8⟩, st8⟩ := X7.specialBack hx (y := (⟨"com/example/rulewake/rulewake/Nbbo", "<init>", "(JJJJ)V"⟩ : MethodName)) rfl hown (mvT hZ (hw _ (List.mem_of_getElem? (i := 3) rfl))) (mvT hZ (hw _ (List.mem_of_getElem? (i := 4) rfl))) (mvT hZ (hw _ (List.mem_of_getElem? (i := 5) rfl))) (by decide) (backOf (W := 1) (rm2 l Z a0 hw [] b7 (j0_92_10 x0 x1 x2 x3 x4) x1 (j0_92_12 x0 x1 x2 x3 x4) x3 h7 n0 Zn7 E_b7 F_bid_b7 F_bidSize_b7 F_ask_b7 F_askSize_b7 g_b7) hZ (hw _ (List.mem_of_getElem? (i := 5) rfl)) (hw _ (List.mem_of_getElem? (i := 2) rfl)) (by decide) (by decide)) (g := (mkF m 103 #[.val (.long x0), .second, .val (.long x1), .second, .val (.long x2), .second, .val (.long x3), .second, .val (.int x4), .val (.int (w0_5 x0 x1 x2 x3 x4)), .val (.long (j0_92_10 x0 x1 x2 x3 x4)), .second, .val (.long (j0_92_12 x0 x1 x2 x3 x4)), .second, .unset, .unset, .unset, .unset] [(.long x3), (.long (j0_92_12 x0 x1 x2 x3 x4)), (.long x1), (.long (j0_92_10 x0 x1 x2 x3 x4)), (.ref b7), (.ref b7)])) rfl (by rw [hml]; rfl) (Steps.refl _) (a := b7) (argsL := [(.long (j0_92_10 x0 x1 x2 x3 x4)), (.long x1), (.long (j0_92_12 x0 x1 x2 x3 x4)), (.long x3)]) (rest := [(.ref b7)]) (lenOf pd0_0 rfl) rfl (by show 2 * 0 + _ ≤ _; exact Nat.le_of_eq rfl) (hb hby at_103) (fun _ _ => ⟨rfl, e7, (by decide : 1 + 0 ≤ _), (by decide : 4 + 0 ≤ _)⟩)
    dsimp only [Pt.U, Pt.locs, Pt.cells, Pt.slots] at X8 l8 y8 z8 st8 hQ8
    subst l8 y8 z8
    obtain ⟨h8, eh8⟩ : ∃ z, z = T8.heap := ⟨_, rfl⟩
    rw [← eh8] at hQ8
    have e8 : T8.heap = h8 := eh8.symm
    obtain ⟨rfl, N8q, Kq8, o8_0, o8_1, o8_2, o8_3, o8_4⟩ := hQ8
    have N8 := Fr.app N0 N8q
    have E_b7 : Exa Z h8 b7 "com/example/rulewake/rulewake/Nbbo" := o8_0
    have F_bid_b7 : Fld Z h8 b7 "com/example/rulewake/rulewake/Nbbo" "bid" "J" (.long (j0_92_10 x0 x1 x2 x3 x4)) := o8_1
    have F_bidSize_b7 : Fld Z h8 b7 "com/example/rulewake/rulewake/Nbbo" "bidSize" "J" (.long x1) := o8_2
    have F_ask_b7 : Fld Z h8 b7 "com/example/rulewake/rulewake/Nbbo" "ask" "J" (.long (j0_92_12 x0 x1 x2 x3 x4)) := o8_3
    have F_askSize_b7 : Fld Z h8 b7 "com/example/rulewake/rulewake/Nbbo" "askSize" "J" (.long x3) := o8_4
    have Zn8 : n0 ≤ h8.size := Nat.le_trans Zn7 Kq8.1
    refine Goes.st (B := T8.setTop (mkF m 106 #[.val (.long x0), .second, .val (.long x1), .second, .val (.long x2), .second, .val (.long x3), .second, .val (.int x4), .val (.int (w0_5 x0 x1 x2 x3 x4)), .val (.long (j0_92_10 x0 x1 x2 x3 x4)), .second, .val (.long (j0_92_12 x0 x1 x2 x3 x4)), .second, .unset, .unset, .unset, .unset] [(.ref b7)])) (fun t k => st8.trans k) ?_
    refine Goes.run X8 hx hown hci hcl hby (L := [(106, .astore 14, 2), (108, .lload 10, 2), (110, .lconst 0, 1), (111, .lcmp, 1)]) (by decide +kernel) rfl (g' := (mkF m 112 #[.val (.long x0), .second, .val (.long x1), .second, .val (.long x2), .second, .val (.long x3), .second, .val (.int x4), .val (.int (w0_5 x0 x1 x2 x3 x4)), .val (.long (j0_92_10 x0 x1 x2 x3 x4)), .second, .val (.long (j0_92_12 x0 x1 x2 x3 x4)), .second, .val (.ref b7), .unset, .unset, .unset] [(.int (lcmpW (j0_92_10 x0 x1 x2 x3 x4) (0 : Int64)))])) rfl ?_
    have jn148_14 : ∀ (T15 : State) (L15 : List Loc) (X15 : Stand p l e room_1 s m #[(.long x0), (.long x1), (.long x2), (.long x3), (.int x4)] below meth c T15 L15 1 4) (e15 : T15.heap = h8) (N15 : Fr n0 L15), Goes p e below s (QL (some (.int (r0 x0 x1 x2 x3 x4))) n0) room_1.cells room_1.slots (T15.setTop (mkF m 148 #[.val (.long x0), .second, .val (.long x1), .second, .val (.long x2), .second, .val (.long x3), .second, .val (.int x4), .val (.int (w0_5 x0 x1 x2 x3 x4)), .val (.long (j0_92_10 x0 x1 x2 x3 x4)), .second, .val (.long (j0_92_12 x0 x1 x2 x3 x4)), .second, .val (.ref b7), .unset, .unset, .unset] [(.int (j0_148_s0 x0 x1 x2 x3 x4))])) := by
      intro T15 L15 X15 e15 N15
      refine Goes.run X15 hx hown hci hcl hby (L := [(148, .istore 15, 2), (150, .aload 14, 2)]) (by decide +kernel) rfl (g' := (mkF m 152 #[.val (.long x0), .second, .val (.long x1), .second, .val (.long x2), .second, .val (.long x3), .second, .val (.int x4), .val (.int (w0_5 x0 x1 x2 x3 x4)), .val (.long (j0_92_10 x0 x1 x2 x3 x4)), .second, .val (.long (j0_92_12 x0 x1 x2 x3 x4)), .second, .val (.ref b7), .val (.int (j0_148_s0 x0 x1 x2 x3 x4)), .unset, .unset] [(.ref b7)])) rfl ?_
      obtain ⟨cq16, kq16, q16a, q16b, q16c⟩ := isOf hZ e15 E_b7
      obtain ⟨_, _, ⟨T16, L16, k16, n16⟩, -, X16, ⟨Lc16, hQ16, l16, y16, z16⟩, st16⟩ := X15.virtualBack hx (y := (⟨"com/example/rulewake/rulewake/Nbbo", "crossed", "()Z"⟩ : MethodName)) (z := (⟨"com/example/rulewake/rulewake/Nbbo", "crossed", "()Z"⟩ : MethodName)) hown (mvT hZ (hw _ (List.mem_of_getElem? (i := 22) rfl))) (mvT hZ (hw _ (List.mem_of_getElem? (i := 23) rfl))) (notFace_of_selects (args := #[]) (mvT hZ (hw _ (List.mem_of_getElem? (i := 25) rfl)))) (mvT hZ (hw _ (List.mem_of_getElem? (i := 25) rfl))) (mvT hZ (hw _ (List.mem_of_getElem? (i := 24) rfl))) (by decide) (backOf (W := 0) (rm3 l Z a0 hw [] b7 (j0_92_10 x0 x1 x2 x3 x4) (j0_92_12 x0 x1 x2 x3 x4) h8 n0 Zn8 F_bid_b7 F_ask_b7) hZ (hw _ (List.mem_of_getElem? (i := 26) rfl)) (hw _ (List.mem_of_getElem? (i := 2) rfl)) (by decide) (by decide)) q16a q16c (g := (mkF m 152 #[.val (.long x0), .second, .val (.long x1), .second, .val (.long x2), .second, .val (.long x3), .second, .val (.int x4), .val (.int (w0_5 x0 x1 x2 x3 x4)), .val (.long (j0_92_10 x0 x1 x2 x3 x4)), .second, .val (.long (j0_92_12 x0 x1 x2 x3 x4)), .second, .val (.ref b7), .val (.int (j0_148_s0 x0 x1 x2 x3 x4)), .unset, .unset] [(.ref b7)])) rfl (by rw [hml]; rfl) (Steps.refl _) (argsL := []) (rest := []) (lenOf pd0_2 rfl) rfl (by show 2 * 0 + _ ≤ _; exact Nat.le_of_eq rfl) (hb hby at_152) (fun _ _ => ⟨rfl, e15, (by decide : 1 + 0 ≤ _), (by decide : 4 + 0 ≤ _)⟩)
      dsimp only [Pt.U, Pt.locs, Pt.cells, Pt.slots] at X16 l16 y16 z16 st16 hQ16
      subst l16 y16 z16
      obtain ⟨rfl, N16q, e16⟩ := hQ16
      have N16 := Fr.app N15 N16q
      refine Goes.st (B := T16.setTop (mkF m 155 #[.val (.long x0), .second, .val (.long x1), .second, .val (.long x2), .second, .val (.long x3), .second, .val (.int x4), .val (.int (w0_5 x0 x1 x2 x3 x4)), .val (.long (j0_92_10 x0 x1 x2 x3 x4)), .second, .val (.long (j0_92_12 x0 x1 x2 x3 x4)), .second, .val (.ref b7), .val (.int (j0_148_s0 x0 x1 x2 x3 x4)), .unset, .unset] [(.int (r3 (j0_92_10 x0 x1 x2 x3 x4) (j0_92_12 x0 x1 x2 x3 x4)))])) (fun t k => st16.trans k) ?_
      refine Goes.run X16 hx hown hci hcl hby (L := [(155, .istore 16, 2)]) (by decide +kernel) rfl (g' := (mkF m 157 #[.val (.long x0), .second, .val (.long x1), .second, .val (.long x2), .second, .val (.long x3), .second, .val (.int x4), .val (.int (w0_5 x0 x1 x2 x3 x4)), .val (.long (j0_92_10 x0 x1 x2 x3 x4)), .second, .val (.long (j0_92_12 x0 x1 x2 x3 x4)), .second, .val (.ref b7), .val (.int (j0_148_s0 x0 x1 x2 x3 x4)), .val (.int (w0_155 x0 x1 x2 x3 x4)), .unset] [])) rfl ?_
      obtain ⟨T17, h17, X17, e17, E17, A17, D17, -, st17⟩ := newO X16 hx hZ hown (hw _ (List.mem_of_getElem? (i := 0) rfl)) (hw _ (List.mem_of_getElem? (i := 1) rfl)) (hw _ (List.mem_of_getElem? (i := 2) rfl)) e16 (g := (mkF m 157 #[.val (.long x0), .second, .val (.long x1), .second, .val (.long x2), .second, .val (.long x3), .second, .val (.int x4), .val (.int (w0_5 x0 x1 x2 x3 x4)), .val (.long (j0_92_10 x0 x1 x2 x3 x4)), .second, .val (.long (j0_92_12 x0 x1 x2 x3 x4)), .second, .val (.ref b7), .val (.int (j0_148_s0 x0 x1 x2 x3 x4)), .val (.int (w0_155 x0 x1 x2 x3 x4)), .unset] [])) rfl (hb hby at_157) (by decide) (by decide)
      obtain ⟨b17, g17⟩ : ∃ z, z = h8.size := ⟨_, rfl⟩
      rw [← g17] at A17 D17 st17
      have ne_b7_b17 : b7 ≠ b17 := Nat.ne_of_lt (Nat.lt_of_lt_of_le E_b7.lt (Nat.le_of_eq g17.symm))
      have g_b17 : n0 ≤ b17 := Nat.le_trans Zn8 (Nat.le_of_eq g17.symm)
      have E_b7 := E_b7.ext E17
      have F_bid_b7 := F_bid_b7.ext E17
      have F_bidSize_b7 := F_bidSize_b7.ext E17
      have F_ask_b7 := F_ask_b7.ext E17
      have F_askSize_b7 := F_askSize_b7.ext E17
      have Zn17 : n0 ≤ h17.size := Nat.le_trans Zn8 E17.1
      have E_b17 : Exa Z h17 b17 "com/example/rulewake/rulewake/Nbbo" := A17
      have F_bid_b17 : Fld Z h17 b17 "com/example/rulewake/rulewake/Nbbo" "bid" "J" (.long (0 : Int64)) := D17 (Or.inr (hw _ (List.mem_of_getElem? (i := 15) rfl))) (ty := .long) (by decide)
      have F_bidSize_b17 : Fld Z h17 b17 "com/example/rulewake/rulewake/Nbbo" "bidSize" "J" (.long (0 : Int64)) := D17 (Or.inr (hw _ (List.mem_of_getElem? (i := 17) rfl))) (ty := .long) (by decide)
      have F_ask_b17 : Fld Z h17 b17 "com/example/rulewake/rulewake/Nbbo" "ask" "J" (.long (0 : Int64)) := D17 (Or.inr (hw _ (List.mem_of_getElem? (i := 19) rfl))) (ty := .long) (by decide)
      have F_askSize_b17 : Fld Z h17 b17 "com/example/rulewake/rulewake/Nbbo" "askSize" "J" (.long (0 : Int64)) := D17 (Or.inr (hw _ (List.mem_of_getElem? (i := 21) rfl))) (ty := .long) (by decide)
      refine Goes.st (B := T17.setTop (mkF m 160 #[.val (.long x0), .second, .val (.long x1), .second, .val (.long x2), .second, .val (.long x3), .second, .val (.int x4), .val (.int (w0_5 x0 x1 x2 x3 x4)), .val (.long (j0_92_10 x0 x1 x2 x3 x4)), .second, .val (.long (j0_92_12 x0 x1 x2 x3 x4)), .second, .val (.ref b7), .val (.int (j0_148_s0 x0 x1 x2 x3 x4)), .val (.int (w0_155 x0 x1 x2 x3 x4)), .unset] [(.ref b17)])) st17 ?_
      refine Goes.run X17 hx hown hci hcl hby (L := [(160, .dup, 1), (161, .lload 10, 2), (163, .lload 6, 2), (165, .lload 12, 2), (167, .lload_n 2, 1)]) (by decide +kernel) rfl (g' := (mkF m 168 #[.val (.long x0), .second, .val (.long x1), .second, .val (.long x2), .second, .val (.long x3), .second, .val (.int x4), .val (.int (w0_5 x0 x1 x2 x3 x4)), .val (.long (j0_92_10 x0 x1 x2 x3 x4)), .second, .val (.long (j0_92_12 x0 x1 x2 x3 x4)), .second, .val (.ref b7), .val (.int (j0_148_s0 x0 x1 x2 x3 x4)), .val (.int (w0_155 x0 x1 x2 x3 x4)), .unset] [(.long x1), (.long (j0_92_12 x0 x1 x2 x3 x4)), (.long x3), (.long (j0_92_10 x0 x1 x2 x3 x4)), (.ref b17), (.ref b17)])) rfl ?_
      obtain ⟨_, _, ⟨T18, L18, k18, n18⟩, -, X18, ⟨Lc18, hQ18, l18, y18, z18⟩, st18⟩ := X17.specialBack hx (y := (⟨"com/example/rulewake/rulewake/Nbbo", "<init>", "(JJJJ)V"⟩ : MethodName)) rfl hown (mvT hZ (hw _ (List.mem_of_getElem? (i := 3) rfl))) (mvT hZ (hw _ (List.mem_of_getElem? (i := 4) rfl))) (mvT hZ (hw _ (List.mem_of_getElem? (i := 5) rfl))) (by decide) (backOf (W := 1) (rm2 l Z a0 hw [] b17 (j0_92_10 x0 x1 x2 x3 x4) x3 (j0_92_12 x0 x1 x2 x3 x4) x1 h17 n0 Zn17 E_b17 F_bid_b17 F_bidSize_b17 F_ask_b17 F_askSize_b17 g_b17) hZ (hw _ (List.mem_of_getElem? (i := 5) rfl)) (hw _ (List.mem_of_getElem? (i := 2) rfl)) (by decide) (by decide)) (g := (mkF m 168 #[.val (.long x0), .second, .val (.long x1), .second, .val (.long x2), .second, .val (.long x3), .second, .val (.int x4), .val (.int (w0_5 x0 x1 x2 x3 x4)), .val (.long (j0_92_10 x0 x1 x2 x3 x4)), .second, .val (.long (j0_92_12 x0 x1 x2 x3 x4)), .second, .val (.ref b7), .val (.int (j0_148_s0 x0 x1 x2 x3 x4)), .val (.int (w0_155 x0 x1 x2 x3 x4)), .unset] [(.long x1), (.long (j0_92_12 x0 x1 x2 x3 x4)), (.long x3), (.long (j0_92_10 x0 x1 x2 x3 x4)), (.ref b17), (.ref b17)])) rfl (by rw [hml]; rfl) (Steps.refl _) (a := b17) (argsL := [(.long (j0_92_10 x0 x1 x2 x3 x4)), (.long x3), (.long (j0_92_12 x0 x1 x2 x3 x4)), (.long x1)]) (rest := [(.ref b17)]) (lenOf pd0_0 rfl) rfl (by show 2 * 0 + _ ≤ _; exact Nat.le_of_eq rfl) (hb hby at_168) (fun _ _ => ⟨rfl, e17, (by decide : 2 + 0 ≤ _), (by decide : 8 + 0 ≤ _)⟩)
      dsimp only [Pt.U, Pt.locs, Pt.cells, Pt.slots] at X18 l18 y18 z18 st18 hQ18
      subst l18 y18 z18
      obtain ⟨h18, eh18⟩ : ∃ z, z = T18.heap := ⟨_, rfl⟩
      rw [← eh18] at hQ18
      have e18 : T18.heap = h18 := eh18.symm
      obtain ⟨rfl, N18q, Kq18, o18_0, o18_1, o18_2, o18_3, o18_4⟩ := hQ18
      have N18 := Fr.app N16 N18q
      have E_b7 := E_b7.keep Kq18
      have F_bid_b7 := F_bid_b7.keep Kq18 (ninS ne_b7_b17 nin0)
      have F_bidSize_b7 := F_bidSize_b7.keep Kq18 (ninS ne_b7_b17 nin0)
      have F_ask_b7 := F_ask_b7.keep Kq18 (ninS ne_b7_b17 nin0)
      have F_askSize_b7 := F_askSize_b7.keep Kq18 (ninS ne_b7_b17 nin0)
      have E_b17 : Exa Z h18 b17 "com/example/rulewake/rulewake/Nbbo" := o18_0
      have F_bid_b17 : Fld Z h18 b17 "com/example/rulewake/rulewake/Nbbo" "bid" "J" (.long (j0_92_10 x0 x1 x2 x3 x4)) := o18_1
      have F_bidSize_b17 : Fld Z h18 b17 "com/example/rulewake/rulewake/Nbbo" "bidSize" "J" (.long x3) := o18_2
      have F_ask_b17 : Fld Z h18 b17 "com/example/rulewake/rulewake/Nbbo" "ask" "J" (.long (j0_92_12 x0 x1 x2 x3 x4)) := o18_3
      have F_askSize_b17 : Fld Z h18 b17 "com/example/rulewake/rulewake/Nbbo" "askSize" "J" (.long x1) := o18_4
      have Zn18 : n0 ≤ h18.size := Nat.le_trans Zn17 Kq18.1
      refine Goes.st (B := T18.setTop (mkF m 171 #[.val (.long x0), .second, .val (.long x1), .second, .val (.long x2), .second, .val (.long x3), .second, .val (.int x4), .val (.int (w0_5 x0 x1 x2 x3 x4)), .val (.long (j0_92_10 x0 x1 x2 x3 x4)), .second, .val (.long (j0_92_12 x0 x1 x2 x3 x4)), .second, .val (.ref b7), .val (.int (j0_148_s0 x0 x1 x2 x3 x4)), .val (.int (w0_155 x0 x1 x2 x3 x4)), .unset] [(.ref b17)])) (fun t k => st18.trans k) ?_
      obtain ⟨cq19, kq19, q19a, q19b, q19c⟩ := isOf hZ e18 E_b17
      obtain ⟨_, _, ⟨T19, L19, k19, n19⟩, -, X19, ⟨Lc19, hQ19, l19, y19, z19⟩, st19⟩ := X18.virtualBack hx (y := (⟨"com/example/rulewake/rulewake/Nbbo", "crossed", "()Z"⟩ : MethodName)) (z := (⟨"com/example/rulewake/rulewake/Nbbo", "crossed", "()Z"⟩ : MethodName)) hown (mvT hZ (hw _ (List.mem_of_getElem? (i := 22) rfl))) (mvT hZ (hw _ (List.mem_of_getElem? (i := 23) rfl))) (notFace_of_selects (args := #[]) (mvT hZ (hw _ (List.mem_of_getElem? (i := 25) rfl)))) (mvT hZ (hw _ (List.mem_of_getElem? (i := 25) rfl))) (mvT hZ (hw _ (List.mem_of_getElem? (i := 24) rfl))) (by decide) (backOf (W := 0) (rm3 l Z a0 hw [] b17 (j0_92_10 x0 x1 x2 x3 x4) (j0_92_12 x0 x1 x2 x3 x4) h18 n0 Zn18 F_bid_b17 F_ask_b17) hZ (hw _ (List.mem_of_getElem? (i := 26) rfl)) (hw _ (List.mem_of_getElem? (i := 2) rfl)) (by decide) (by decide)) q19a q19c (g := (mkF m 171 #[.val (.long x0), .second, .val (.long x1), .second, .val (.long x2), .second, .val (.long x3), .second, .val (.int x4), .val (.int (w0_5 x0 x1 x2 x3 x4)), .val (.long (j0_92_10 x0 x1 x2 x3 x4)), .second, .val (.long (j0_92_12 x0 x1 x2 x3 x4)), .second, .val (.ref b7), .val (.int (j0_148_s0 x0 x1 x2 x3 x4)), .val (.int (w0_155 x0 x1 x2 x3 x4)), .unset] [(.ref b17)])) rfl (by rw [hml]; rfl) (Steps.refl _) (argsL := []) (rest := []) (lenOf pd0_2 rfl) rfl (by show 2 * 0 + _ ≤ _; exact Nat.le_of_eq rfl) (hb hby at_171) (fun _ _ => ⟨rfl, e18, (by decide : 2 + 0 ≤ _), (by decide : 8 + 0 ≤ _)⟩)
      dsimp only [Pt.U, Pt.locs, Pt.cells, Pt.slots] at X19 l19 y19 z19 st19 hQ19
      subst l19 y19 z19
      obtain ⟨rfl, N19q, e19⟩ := hQ19
      have N19 := Fr.app N18 N19q
      refine Goes.st (B := T19.setTop (mkF m 174 #[.val (.long x0), .second, .val (.long x1), .second, .val (.long x2), .second, .val (.long x3), .second, .val (.int x4), .val (.int (w0_5 x0 x1 x2 x3 x4)), .val (.long (j0_92_10 x0 x1 x2 x3 x4)), .second, .val (.long (j0_92_12 x0 x1 x2 x3 x4)), .second, .val (.ref b7), .val (.int (j0_148_s0 x0 x1 x2 x3 x4)), .val (.int (w0_155 x0 x1 x2 x3 x4)), .unset] [(.int (r3 (j0_92_10 x0 x1 x2 x3 x4) (j0_92_12 x0 x1 x2 x3 x4)))])) (fun t k => st19.trans k) ?_
      refine Goes.run X19 hx hown hci hcl hby (L := [(174, .iload 16, 2)]) (by decide +kernel) rfl (g' := (mkF m 176 #[.val (.long x0), .second, .val (.long x1), .second, .val (.long x2), .second, .val (.long x3), .second, .val (.int x4), .val (.int (w0_5 x0 x1 x2 x3 x4)), .val (.long (j0_92_10 x0 x1 x2 x3 x4)), .second, .val (.long (j0_92_12 x0 x1 x2 x3 x4)), .second, .val (.ref b7), .val (.int (j0_148_s0 x0 x1 x2 x3 x4)), .val (.int (w0_155 x0 x1 x2 x3 x4)), .unset] [(.int (w0_155 x0 x1 x2 x3 x4)), (.int (r3 (j0_92_10 x0 x1 x2 x3 x4) (j0_92_12 x0 x1 x2 x3 x4)))])) rfl ?_
      have jn184_21 : Goes p e below s (QL (some (.int (r0 x0 x1 x2 x3 x4))) n0) room_1.cells room_1.slots (T19.setTop (mkF m 184 #[.val (.long x0), .second, .val (.long x1), .second, .val (.long x2), .second, .val (.long x3), .second, .val (.int x4), .val (.int (w0_5 x0 x1 x2 x3 x4)), .val (.long (j0_92_10 x0 x1 x2 x3 x4)), .second, .val (.long (j0_92_12 x0 x1 x2 x3 x4)), .second, .val (.ref b7), .val (.int (j0_148_s0 x0 x1 x2 x3 x4)), .val (.int (w0_155 x0 x1 x2 x3 x4)), .unset] [(.int (j0_184_s0 x0 x1 x2 x3 x4))])) := by
        refine Goes.run X19 hx hown hci hcl hby (L := [(184, .istore 17, 2), (186, .iload 16, 2), (188, .iload 15, 2)]) (by decide +kernel) rfl (g' := (mkF m 190 #[.val (.long x0), .second, .val (.long x1), .second, .val (.long x2), .second, .val (.long x3), .second, .val (.int x4), .val (.int (w0_5 x0 x1 x2 x3 x4)), .val (.long (j0_92_10 x0 x1 x2 x3 x4)), .second, .val (.long (j0_92_12 x0 x1 x2 x3 x4)), .second, .val (.ref b7), .val (.int (j0_148_s0 x0 x1 x2 x3 x4)), .val (.int (w0_155 x0 x1 x2 x3 x4)), .val (.int (j0_184_s0 x0 x1 x2 x3 x4))] [(.int (j0_148_s0 x0 x1 x2 x3 x4)), (.int (w0_155 x0 x1 x2 x3 x4))])) rfl ?_
        by_cases hc190_22 : (w0_155 x0 x1 x2 x3 x4) = (j0_148_s0 x0 x1 x2 x3 x4)
        · skip
          refine Goes.st (B := T19.setTop (mkF m 193 #[.val (.long x0), .second, .val (.long x1), .second, .val (.long x2), .second, .val (.long x3), .second, .val (.int x4), .val (.int (w0_5 x0 x1 x2 x3 x4)), .val (.long (j0_92_10 x0 x1 x2 x3 x4)), .second, .val (.long (j0_92_12 x0 x1 x2 x3 x4)), .second, .val (.ref b7), .val (.int (j0_148_s0 x0 x1 x2 x3 x4)), .val (.int (w0_155 x0 x1 x2 x3 x4)), .val (.int (j0_184_s0 x0 x1 x2 x3 x4))] [])) (fun t k => ?_) ?_
          · refine XS.icmpNo X19.here hx rfl (hb hby at_190) rfl (teq hc190_22).2 ?_
            exact k
          refine Goes.run X19 hx hown hci hcl hby (L := [(193, .iload 17, 2)]) (by decide +kernel) rfl (g' := (mkF m 195 #[.val (.long x0), .second, .val (.long x1), .second, .val (.long x2), .second, .val (.long x3), .second, .val (.int x4), .val (.int (w0_5 x0 x1 x2 x3 x4)), .val (.long (j0_92_10 x0 x1 x2 x3 x4)), .second, .val (.long (j0_92_12 x0 x1 x2 x3 x4)), .second, .val (.ref b7), .val (.int (j0_148_s0 x0 x1 x2 x3 x4)), .val (.int (w0_155 x0 x1 x2 x3 x4)), .val (.int (j0_184_s0 x0 x1 x2 x3 x4))] [(.int (j0_184_s0 x0 x1 x2 x3 x4))])) rfl ?_
          by_cases hc195_23 : (j0_184_s0 x0 x1 x2 x3 x4) = (0 : Int32)
          · skip
            refine Goes.st (B := T19.setTop (mkF m 202 #[.val (.long x0), .second, .val (.long x1), .second, .val (.long x2), .second, .val (.long x3), .second, .val (.int x4), .val (.int (w0_5 x0 x1 x2 x3 x4)), .val (.long (j0_92_10 x0 x1 x2 x3 x4)), .second, .val (.long (j0_92_12 x0 x1 x2 x3 x4)), .second, .val (.ref b7), .val (.int (j0_148_s0 x0 x1 x2 x3 x4)), .val (.int (w0_155 x0 x1 x2 x3 x4)), .val (.int (j0_184_s0 x0 x1 x2 x3 x4))] [])) (fun t k => ?_) ?_
            · refine XS.ifYes X19.here hx rfl (pc0 := 195) (pc' := 202) rfl (hb hby at_195) rfl ((if0 _ _).trans (teq hc195_23).1) (by decide) (by decide) ?_
              exact k
            refine Goes.run X19 hx hown hci hcl hby (L := [(202, .iconst 0, 1)]) (by decide +kernel) rfl (g' := (mkF m 203 #[.val (.long x0), .second, .val (.long x1), .second, .val (.long x2), .second, .val (.long x3), .second, .val (.int x4), .val (.int (w0_5 x0 x1 x2 x3 x4)), .val (.long (j0_92_10 x0 x1 x2 x3 x4)), .second, .val (.long (j0_92_12 x0 x1 x2 x3 x4)), .second, .val (.ref b7), .val (.int (j0_148_s0 x0 x1 x2 x3 x4)), .val (.int (w0_155 x0 x1 x2 x3 x4)), .val (.int (j0_184_s0 x0 x1 x2 x3 x4))] [(.int (0 : Int32))])) rfl ?_
            exact Goes.retB X19 hx hlk (t := .boolean) Bd.returns (by simp) (hb hby at_203) rfl ⟨(congrArg (fun z => some (Value.int z)) (show (r0 x0 x1 x2 x3 x4) = (0 : Int32) from ((if_pos hc190_22).trans (if_pos hc195_23))).symm), N19⟩ (by decide) (by decide)
          · skip
            refine Goes.st (B := T19.setTop (mkF m 198 #[.val (.long x0), .second, .val (.long x1), .second, .val (.long x2), .second, .val (.long x3), .second, .val (.int x4), .val (.int (w0_5 x0 x1 x2 x3 x4)), .val (.long (j0_92_10 x0 x1 x2 x3 x4)), .second, .val (.long (j0_92_12 x0 x1 x2 x3 x4)), .second, .val (.ref b7), .val (.int (j0_148_s0 x0 x1 x2 x3 x4)), .val (.int (w0_155 x0 x1 x2 x3 x4)), .val (.int (j0_184_s0 x0 x1 x2 x3 x4))] [])) (fun t k => ?_) ?_
            · refine XS.ifNo X19.here hx rfl (hb hby at_195) rfl ((if0 _ _).trans (feq hc195_23).1) ?_
              exact k
            refine Goes.run X19 hx hown hci hcl hby (L := [(198, .iconst 1, 1), (199, .goto 4, 3)]) (by decide +kernel) rfl (g' := (mkF m 203 #[.val (.long x0), .second, .val (.long x1), .second, .val (.long x2), .second, .val (.long x3), .second, .val (.int x4), .val (.int (w0_5 x0 x1 x2 x3 x4)), .val (.long (j0_92_10 x0 x1 x2 x3 x4)), .second, .val (.long (j0_92_12 x0 x1 x2 x3 x4)), .second, .val (.ref b7), .val (.int (j0_148_s0 x0 x1 x2 x3 x4)), .val (.int (w0_155 x0 x1 x2 x3 x4)), .val (.int (j0_184_s0 x0 x1 x2 x3 x4))] [(.int (1 : Int32))])) rfl ?_
            exact Goes.retB X19 hx hlk (t := .boolean) Bd.returns (by simp) (hb hby at_203) rfl ⟨(congrArg (fun z => some (Value.int z)) (show (r0 x0 x1 x2 x3 x4) = (1 : Int32) from ((if_pos hc190_22).trans (if_neg hc195_23))).symm), N19⟩ (by decide) (by decide)
        · skip
          refine Goes.st (B := T19.setTop (mkF m 202 #[.val (.long x0), .second, .val (.long x1), .second, .val (.long x2), .second, .val (.long x3), .second, .val (.int x4), .val (.int (w0_5 x0 x1 x2 x3 x4)), .val (.long (j0_92_10 x0 x1 x2 x3 x4)), .second, .val (.long (j0_92_12 x0 x1 x2 x3 x4)), .second, .val (.ref b7), .val (.int (j0_148_s0 x0 x1 x2 x3 x4)), .val (.int (w0_155 x0 x1 x2 x3 x4)), .val (.int (j0_184_s0 x0 x1 x2 x3 x4))] [])) (fun t k => ?_) ?_
          · refine XS.icmpYes X19.here hx rfl (pc0 := 190) (pc' := 202) rfl (hb hby at_190) rfl (feq hc190_22).2 (by decide) (by decide) ?_
            exact k
          refine Goes.run X19 hx hown hci hcl hby (L := [(202, .iconst 0, 1)]) (by decide +kernel) rfl (g' := (mkF m 203 #[.val (.long x0), .second, .val (.long x1), .second, .val (.long x2), .second, .val (.long x3), .second, .val (.int x4), .val (.int (w0_5 x0 x1 x2 x3 x4)), .val (.long (j0_92_10 x0 x1 x2 x3 x4)), .second, .val (.long (j0_92_12 x0 x1 x2 x3 x4)), .second, .val (.ref b7), .val (.int (j0_148_s0 x0 x1 x2 x3 x4)), .val (.int (w0_155 x0 x1 x2 x3 x4)), .val (.int (j0_184_s0 x0 x1 x2 x3 x4))] [(.int (0 : Int32))])) rfl ?_
          exact Goes.retB X19 hx hlk (t := .boolean) Bd.returns (by simp) (hb hby at_203) rfl ⟨(congrArg (fun z => some (Value.int z)) (show (r0 x0 x1 x2 x3 x4) = (0 : Int32) from (if_neg hc190_22)).symm), N19⟩ (by decide) (by decide)
      by_cases hc176_20 : (r3 (j0_92_10 x0 x1 x2 x3 x4) (j0_92_12 x0 x1 x2 x3 x4)) = (w0_155 x0 x1 x2 x3 x4)
      · skip
        refine Goes.st (B := T19.setTop (mkF m 179 #[.val (.long x0), .second, .val (.long x1), .second, .val (.long x2), .second, .val (.long x3), .second, .val (.int x4), .val (.int (w0_5 x0 x1 x2 x3 x4)), .val (.long (j0_92_10 x0 x1 x2 x3 x4)), .second, .val (.long (j0_92_12 x0 x1 x2 x3 x4)), .second, .val (.ref b7), .val (.int (j0_148_s0 x0 x1 x2 x3 x4)), .val (.int (w0_155 x0 x1 x2 x3 x4)), .unset] [])) (fun t k => ?_) ?_
        · refine XS.icmpNo X19.here hx rfl (hb hby at_176) rfl (teq hc176_20).2 ?_
          exact k
        refine Goes.run X19 hx hown hci hcl hby (L := [(179, .iconst 1, 1), (180, .goto 4, 3)]) (by decide +kernel) rfl (g' := (mkF m 184 #[.val (.long x0), .second, .val (.long x1), .second, .val (.long x2), .second, .val (.long x3), .second, .val (.int x4), .val (.int (w0_5 x0 x1 x2 x3 x4)), .val (.long (j0_92_10 x0 x1 x2 x3 x4)), .second, .val (.long (j0_92_12 x0 x1 x2 x3 x4)), .second, .val (.ref b7), .val (.int (j0_148_s0 x0 x1 x2 x3 x4)), .val (.int (w0_155 x0 x1 x2 x3 x4)), .unset] [(.int (1 : Int32))])) rfl ?_
        have q := jn184_21
        rw [show (j0_184_s0 x0 x1 x2 x3 x4) = (1 : Int32) from (if_pos hc176_20)] at q
        exact q
      · skip
        refine Goes.st (B := T19.setTop (mkF m 183 #[.val (.long x0), .second, .val (.long x1), .second, .val (.long x2), .second, .val (.long x3), .second, .val (.int x4), .val (.int (w0_5 x0 x1 x2 x3 x4)), .val (.long (j0_92_10 x0 x1 x2 x3 x4)), .second, .val (.long (j0_92_12 x0 x1 x2 x3 x4)), .second, .val (.ref b7), .val (.int (j0_148_s0 x0 x1 x2 x3 x4)), .val (.int (w0_155 x0 x1 x2 x3 x4)), .unset] [])) (fun t k => ?_) ?_
        · refine XS.icmpYes X19.here hx rfl (pc0 := 176) (pc' := 183) rfl (hb hby at_176) rfl (feq hc176_20).2 (by decide) (by decide) ?_
          exact k
        refine Goes.run X19 hx hown hci hcl hby (L := [(183, .iconst 0, 1)]) (by decide +kernel) rfl (g' := (mkF m 184 #[.val (.long x0), .second, .val (.long x1), .second, .val (.long x2), .second, .val (.long x3), .second, .val (.int x4), .val (.int (w0_5 x0 x1 x2 x3 x4)), .val (.long (j0_92_10 x0 x1 x2 x3 x4)), .second, .val (.long (j0_92_12 x0 x1 x2 x3 x4)), .second, .val (.ref b7), .val (.int (j0_148_s0 x0 x1 x2 x3 x4)), .val (.int (w0_155 x0 x1 x2 x3 x4)), .unset] [(.int (0 : Int32))])) rfl ?_
        have q := jn184_21
        rw [show (j0_184_s0 x0 x1 x2 x3 x4) = (0 : Int32) from (if_neg hc176_20)] at q
        exact q
    by_cases hc112_9 : (j0_92_10 x0 x1 x2 x3 x4) = (0 : Int64)
    · skip
      refine Goes.st (B := T8.setTop (mkF m 147 #[.val (.long x0), .second, .val (.long x1), .second, .val (.long x2), .second, .val (.long x3), .second, .val (.int x4), .val (.int (w0_5 x0 x1 x2 x3 x4)), .val (.long (j0_92_10 x0 x1 x2 x3 x4)), .second, .val (.long (j0_92_12 x0 x1 x2 x3 x4)), .second, .val (.ref b7), .unset, .unset, .unset] [])) (fun t k => ?_) ?_
      · refine XS.ifYes X8.here hx rfl (pc0 := 112) (pc' := 147) rfl (hb hby at_112) rfl (teqL hc112_9).1 (by decide) (by decide) ?_
        exact k
      refine Goes.run X8 hx hown hci hcl hby (L := [(147, .iconst 0, 1)]) (by decide +kernel) rfl (g' := (mkF m 148 #[.val (.long x0), .second, .val (.long x1), .second, .val (.long x2), .second, .val (.long x3), .second, .val (.int x4), .val (.int (w0_5 x0 x1 x2 x3 x4)), .val (.long (j0_92_10 x0 x1 x2 x3 x4)), .second, .val (.long (j0_92_12 x0 x1 x2 x3 x4)), .second, .val (.ref b7), .unset, .unset, .unset] [(.int (0 : Int32))])) rfl ?_
      have q := jn148_14 _ _ X8 e8 N8
      rw [show (j0_148_s0 x0 x1 x2 x3 x4) = (0 : Int32) from (if_pos hc112_9)] at q
      exact q
    · skip
      refine Goes.st (B := T8.setTop (mkF m 115 #[.val (.long x0), .second, .val (.long x1), .second, .val (.long x2), .second, .val (.long x3), .second, .val (.int x4), .val (.int (w0_5 x0 x1 x2 x3 x4)), .val (.long (j0_92_10 x0 x1 x2 x3 x4)), .second, .val (.long (j0_92_12 x0 x1 x2 x3 x4)), .second, .val (.ref b7), .unset, .unset, .unset] [])) (fun t k => ?_) ?_
      · refine XS.ifNo X8.here hx rfl (hb hby at_112) rfl (feqL hc112_9).1 ?_
        exact k
      refine Goes.run X8 hx hown hci hcl hby (L := [(115, .lload 12, 2), (117, .lconst 0, 1), (118, .lcmp, 1)]) (by decide +kernel) rfl (g' := (mkF m 119 #[.val (.long x0), .second, .val (.long x1), .second, .val (.long x2), .second, .val (.long x3), .second, .val (.int x4), .val (.int (w0_5 x0 x1 x2 x3 x4)), .val (.long (j0_92_10 x0 x1 x2 x3 x4)), .second, .val (.long (j0_92_12 x0 x1 x2 x3 x4)), .second, .val (.ref b7), .unset, .unset, .unset] [(.int (lcmpW (j0_92_12 x0 x1 x2 x3 x4) (0 : Int64)))])) rfl ?_
      by_cases hc119_24 : (j0_92_12 x0 x1 x2 x3 x4) = (0 : Int64)
      · skip
        refine Goes.st (B := T8.setTop (mkF m 147 #[.val (.long x0), .second, .val (.long x1), .second, .val (.long x2), .second, .val (.long x3), .second, .val (.int x4), .val (.int (w0_5 x0 x1 x2 x3 x4)), .val (.long (j0_92_10 x0 x1 x2 x3 x4)), .second, .val (.long (j0_92_12 x0 x1 x2 x3 x4)), .second, .val (.ref b7), .unset, .unset, .unset] [])) (fun t k => ?_) ?_
        · refine XS.ifYes X8.here hx rfl (pc0 := 119) (pc' := 147) rfl (hb hby at_119) rfl (teqL hc119_24).1 (by decide) (by decide) ?_
          exact k
        refine Goes.run X8 hx hown hci hcl hby (L := [(147, .iconst 0, 1)]) (by decide +kernel) rfl (g' := (mkF m 148 #[.val (.long x0), .second, .val (.long x1), .second, .val (.long x2), .second, .val (.long x3), .second, .val (.int x4), .val (.int (w0_5 x0 x1 x2 x3 x4)), .val (.long (j0_92_10 x0 x1 x2 x3 x4)), .second, .val (.long (j0_92_12 x0 x1 x2 x3 x4)), .second, .val (.ref b7), .unset, .unset, .unset] [(.int (0 : Int32))])) rfl ?_
        have q := jn148_14 _ _ X8 e8 N8
        rw [show (j0_148_s0 x0 x1 x2 x3 x4) = (0 : Int32) from ((if_neg hc112_9).trans (if_pos hc119_24))] at q
        exact q
      · skip
        refine Goes.st (B := T8.setTop (mkF m 122 #[.val (.long x0), .second, .val (.long x1), .second, .val (.long x2), .second, .val (.long x3), .second, .val (.int x4), .val (.int (w0_5 x0 x1 x2 x3 x4)), .val (.long (j0_92_10 x0 x1 x2 x3 x4)), .second, .val (.long (j0_92_12 x0 x1 x2 x3 x4)), .second, .val (.ref b7), .unset, .unset, .unset] [])) (fun t k => ?_) ?_
        · refine XS.ifNo X8.here hx rfl (hb hby at_119) rfl (feqL hc119_24).1 ?_
          exact k
        refine Goes.run X8 hx hown hci hcl hby (L := [(122, .lload 10, 2), (124, .lload 12, 2), (126, .lcmp, 1)]) (by decide +kernel) rfl (g' := (mkF m 127 #[.val (.long x0), .second, .val (.long x1), .second, .val (.long x2), .second, .val (.long x3), .second, .val (.int x4), .val (.int (w0_5 x0 x1 x2 x3 x4)), .val (.long (j0_92_10 x0 x1 x2 x3 x4)), .second, .val (.long (j0_92_12 x0 x1 x2 x3 x4)), .second, .val (.ref b7), .unset, .unset, .unset] [(.int (lcmpW (j0_92_10 x0 x1 x2 x3 x4) (j0_92_12 x0 x1 x2 x3 x4)))])) rfl ?_
        by_cases hc127_25 : (j0_92_10 x0 x1 x2 x3 x4) = (j0_92_12 x0 x1 x2 x3 x4)
        · skip
          refine Goes.st (B := T8.setTop (mkF m 147 #[.val (.long x0), .second, .val (.long x1), .second, .val (.long x2), .second, .val (.long x3), .second, .val (.int x4), .val (.int (w0_5 x0 x1 x2 x3 x4)), .val (.long (j0_92_10 x0 x1 x2 x3 x4)), .second, .val (.long (j0_92_12 x0 x1 x2 x3 x4)), .second, .val (.ref b7), .unset, .unset, .unset] [])) (fun t k => ?_) ?_
          · refine XS.ifYes X8.here hx rfl (pc0 := 127) (pc' := 147) rfl (hb hby at_127) rfl (teqL hc127_25).1 (by decide) (by decide) ?_
            exact k
          refine Goes.run X8 hx hown hci hcl hby (L := [(147, .iconst 0, 1)]) (by decide +kernel) rfl (g' := (mkF m 148 #[.val (.long x0), .second, .val (.long x1), .second, .val (.long x2), .second, .val (.long x3), .second, .val (.int x4), .val (.int (w0_5 x0 x1 x2 x3 x4)), .val (.long (j0_92_10 x0 x1 x2 x3 x4)), .second, .val (.long (j0_92_12 x0 x1 x2 x3 x4)), .second, .val (.ref b7), .unset, .unset, .unset] [(.int (0 : Int32))])) rfl ?_
          have q := jn148_14 _ _ X8 e8 N8
          rw [show (j0_148_s0 x0 x1 x2 x3 x4) = (0 : Int32) from (((if_neg hc112_9).trans (if_neg hc119_24)).trans (if_pos hc127_25))] at q
          exact q
        · skip
          refine Goes.st (B := T8.setTop (mkF m 130 #[.val (.long x0), .second, .val (.long x1), .second, .val (.long x2), .second, .val (.long x3), .second, .val (.int x4), .val (.int (w0_5 x0 x1 x2 x3 x4)), .val (.long (j0_92_10 x0 x1 x2 x3 x4)), .second, .val (.long (j0_92_12 x0 x1 x2 x3 x4)), .second, .val (.ref b7), .unset, .unset, .unset] [])) (fun t k => ?_) ?_
          · refine XS.ifNo X8.here hx rfl (hb hby at_127) rfl (feqL hc127_25).1 ?_
            exact k
          refine Goes.run X8 hx hown hci hcl hby (L := [(130, .lload 10, 2), (132, .lload 12, 2)]) (by decide +kernel) rfl (g' := (mkF m 134 #[.val (.long x0), .second, .val (.long x1), .second, .val (.long x2), .second, .val (.long x3), .second, .val (.int x4), .val (.int (w0_5 x0 x1 x2 x3 x4)), .val (.long (j0_92_10 x0 x1 x2 x3 x4)), .second, .val (.long (j0_92_12 x0 x1 x2 x3 x4)), .second, .val (.ref b7), .unset, .unset, .unset] [(.long (j0_92_12 x0 x1 x2 x3 x4)), (.long (j0_92_10 x0 x1 x2 x3 x4))])) rfl ?_
          obtain ⟨_, _, ⟨T26, L26, k26, n26⟩, -, X26, ⟨Lc26, hQ26, l26, y26, z26⟩, st26⟩ := Jvm.LawKit.callS X8 hx (y := (⟨"java/lang/Math", "min", "(JJ)J"⟩ : MethodName)) hown (mvT hZ (hw _ (List.mem_of_getElem? (i := 28) rfl))) (mvT hZ (hw _ (List.mem_of_getElem? (i := 29) rfl))) (mvT hZ (hw _ (List.mem_of_getElem? (i := 30) rfl))) (mvT hZ (hw _ (List.mem_of_getElem? (i := 31) rfl))) (by decide) (backOf (W := 0) (rm4 l Z a0 hw [] (j0_92_10 x0 x1 x2 x3 x4) (j0_92_12 x0 x1 x2 x3 x4) h8 n0 Zn8 ) hZ (hw _ (List.mem_of_getElem? (i := 31) rfl)) (hw _ (List.mem_of_getElem? (i := 30) rfl)) (by decide) (by decide)) (g := (mkF m 134 #[.val (.long x0), .second, .val (.long x1), .second, .val (.long x2), .second, .val (.long x3), .second, .val (.int x4), .val (.int (w0_5 x0 x1 x2 x3 x4)), .val (.long (j0_92_10 x0 x1 x2 x3 x4)), .second, .val (.long (j0_92_12 x0 x1 x2 x3 x4)), .second, .val (.ref b7), .unset, .unset, .unset] [(.long (j0_92_12 x0 x1 x2 x3 x4)), (.long (j0_92_10 x0 x1 x2 x3 x4))])) rfl (by rw [hml]; rfl) (argsL := [(.long (j0_92_10 x0 x1 x2 x3 x4)), (.long (j0_92_12 x0 x1 x2 x3 x4))]) (rest := []) (lenOf pd0_1 rfl) rfl (by show 2 * 0 + _ ≤ _; exact Nat.le_of_eq rfl) (hb hby at_134) (fun _ _ => ⟨rfl, e8, (by decide : 1 + 0 ≤ _), (by decide : 4 + 0 ≤ _)⟩)
          dsimp only [Pt.U, Pt.locs, Pt.cells, Pt.slots] at X26 l26 y26 z26 st26 hQ26
          subst l26 y26 z26
          obtain ⟨rfl, N26q, e26⟩ := hQ26
          have N26 := Fr.app N8 N26q
          refine Goes.st (B := T26.setTop (mkF m 137 #[.val (.long x0), .second, .val (.long x1), .second, .val (.long x2), .second, .val (.long x3), .second, .val (.int x4), .val (.int (w0_5 x0 x1 x2 x3 x4)), .val (.long (j0_92_10 x0 x1 x2 x3 x4)), .second, .val (.long (j0_92_12 x0 x1 x2 x3 x4)), .second, .val (.ref b7), .unset, .unset, .unset] [(.long (r4 (j0_92_10 x0 x1 x2 x3 x4) (j0_92_12 x0 x1 x2 x3 x4)))])) st26 ?_
          refine Goes.run X26 hx hown hci hcl hby (L := [(137, .lload 12, 2), (139, .lcmp, 1)]) (by decide +kernel) rfl (g' := (mkF m 140 #[.val (.long x0), .second, .val (.long x1), .second, .val (.long x2), .second, .val (.long x3), .second, .val (.int x4), .val (.int (w0_5 x0 x1 x2 x3 x4)), .val (.long (j0_92_10 x0 x1 x2 x3 x4)), .second, .val (.long (j0_92_12 x0 x1 x2 x3 x4)), .second, .val (.ref b7), .unset, .unset, .unset] [(.int (lcmpW (r4 (j0_92_10 x0 x1 x2 x3 x4) (j0_92_12 x0 x1 x2 x3 x4)) (j0_92_12 x0 x1 x2 x3 x4)))])) rfl ?_
          by_cases hc140_27 : (r4 (j0_92_10 x0 x1 x2 x3 x4) (j0_92_12 x0 x1 x2 x3 x4)) = (j0_92_12 x0 x1 x2 x3 x4)
          · skip
            refine Goes.st (B := T26.setTop (mkF m 143 #[.val (.long x0), .second, .val (.long x1), .second, .val (.long x2), .second, .val (.long x3), .second, .val (.int x4), .val (.int (w0_5 x0 x1 x2 x3 x4)), .val (.long (j0_92_10 x0 x1 x2 x3 x4)), .second, .val (.long (j0_92_12 x0 x1 x2 x3 x4)), .second, .val (.ref b7), .unset, .unset, .unset] [])) (fun t k => ?_) ?_
            · refine XS.ifNo X26.here hx rfl (hb hby at_140) rfl (teqL hc140_27).2 ?_
              exact k
            refine Goes.run X26 hx hown hci hcl hby (L := [(143, .iconst 1, 1), (144, .goto 4, 3)]) (by decide +kernel) rfl (g' := (mkF m 148 #[.val (.long x0), .second, .val (.long x1), .second, .val (.long x2), .second, .val (.long x3), .second, .val (.int x4), .val (.int (w0_5 x0 x1 x2 x3 x4)), .val (.long (j0_92_10 x0 x1 x2 x3 x4)), .second, .val (.long (j0_92_12 x0 x1 x2 x3 x4)), .second, .val (.ref b7), .unset, .unset, .unset] [(.int (1 : Int32))])) rfl ?_
            have q := jn148_14 _ _ X26 e26 N26
            rw [show (j0_148_s0 x0 x1 x2 x3 x4) = (1 : Int32) from ((((if_neg hc112_9).trans (if_neg hc119_24)).trans (if_neg hc127_25)).trans (if_pos hc140_27))] at q
            exact q
          · skip
            refine Goes.st (B := T26.setTop (mkF m 147 #[.val (.long x0), .second, .val (.long x1), .second, .val (.long x2), .second, .val (.long x3), .second, .val (.int x4), .val (.int (w0_5 x0 x1 x2 x3 x4)), .val (.long (j0_92_10 x0 x1 x2 x3 x4)), .second, .val (.long (j0_92_12 x0 x1 x2 x3 x4)), .second, .val (.ref b7), .unset, .unset, .unset] [])) (fun t k => ?_) ?_
            · refine XS.ifYes X26.here hx rfl (pc0 := 140) (pc' := 147) rfl (hb hby at_140) rfl (feqL hc140_27).2 (by decide) (by decide) ?_
              exact k
            refine Goes.run X26 hx hown hci hcl hby (L := [(147, .iconst 0, 1)]) (by decide +kernel) rfl (g' := (mkF m 148 #[.val (.long x0), .second, .val (.long x1), .second, .val (.long x2), .second, .val (.long x3), .second, .val (.int x4), .val (.int (w0_5 x0 x1 x2 x3 x4)), .val (.long (j0_92_10 x0 x1 x2 x3 x4)), .second, .val (.long (j0_92_12 x0 x1 x2 x3 x4)), .second, .val (.ref b7), .unset, .unset, .unset] [(.int (0 : Int32))])) rfl ?_
            have q := jn148_14 _ _ X26 e26 N26
            rw [show (j0_148_s0 x0 x1 x2 x3 x4) = (0 : Int32) from ((((if_neg hc112_9).trans (if_neg hc119_24)).trans (if_neg hc127_25)).trans (if_neg hc140_27))] at q
            exact q
  by_cases hc17_1 : (w0_5 x0 x1 x2 x3 x4) = (1 : Int32)
  · skip
    refine Goes.st (B := s₁.setTop (mkF m 20 #[.val (.long x0), .second, .val (.long x1), .second, .val (.long x2), .second, .val (.long x3), .second, .val (.int x4), .val (.int (w0_5 x0 x1 x2 x3 x4)), .val (.long x0), .second, .val (.long x2), .second, .unset, .unset, .unset, .unset] [])) (fun t k => ?_) ?_
    · refine XS.icmpNo X0.here hx rfl (hb hby at_17) rfl (teq hc17_1).2 ?_
      exact k
    refine Goes.run X0 hx hown hci hcl hby (L := [(20, .lconst 0, 1), (21, .lstore 10, 2), (23, .goto 69, 3)]) (by decide +kernel) rfl (g' := (mkF m 92 #[.val (.long x0), .second, .val (.long x1), .second, .val (.long x2), .second, .val (.long x3), .second, .val (.int x4), .val (.int (w0_5 x0 x1 x2 x3 x4)), .val (.long (0 : Int64)), .second, .val (.long x2), .second, .unset, .unset, .unset, .unset] [])) rfl ?_
    have q := jn92_6
    rw [show (j0_92_10 x0 x1 x2 x3 x4) = (0 : Int64) from (if_pos hc17_1), show (j0_92_12 x0 x1 x2 x3 x4) = x2 from (if_pos hc17_1)] at q
    exact q
  · skip
    refine Goes.st (B := s₁.setTop (mkF m 26 #[.val (.long x0), .second, .val (.long x1), .second, .val (.long x2), .second, .val (.long x3), .second, .val (.int x4), .val (.int (w0_5 x0 x1 x2 x3 x4)), .val (.long x0), .second, .val (.long x2), .second, .unset, .unset, .unset, .unset] [])) (fun t k => ?_) ?_
    · refine XS.icmpYes X0.here hx rfl (pc0 := 17) (pc' := 26) rfl (hb hby at_17) rfl (feq hc17_1).2 (by decide) (by decide) ?_
      exact k
    refine Goes.run X0 hx hown hci hcl hby (L := [(26, .iload 9, 2), (28, .iconst 2, 1)]) (by decide +kernel) rfl (g' := (mkF m 29 #[.val (.long x0), .second, .val (.long x1), .second, .val (.long x2), .second, .val (.long x3), .second, .val (.int x4), .val (.int (w0_5 x0 x1 x2 x3 x4)), .val (.long x0), .second, .val (.long x2), .second, .unset, .unset, .unset, .unset] [(.int (2 : Int32)), (.int (w0_5 x0 x1 x2 x3 x4))])) rfl ?_
    by_cases hc29_28 : (w0_5 x0 x1 x2 x3 x4) = (2 : Int32)
    · skip
      refine Goes.st (B := s₁.setTop (mkF m 32 #[.val (.long x0), .second, .val (.long x1), .second, .val (.long x2), .second, .val (.long x3), .second, .val (.int x4), .val (.int (w0_5 x0 x1 x2 x3 x4)), .val (.long x0), .second, .val (.long x2), .second, .unset, .unset, .unset, .unset] [])) (fun t k => ?_) ?_
      · refine XS.icmpNo X0.here hx rfl (hb hby at_29) rfl (teq hc29_28).2 ?_
        exact k
      refine Goes.run X0 hx hown hci hcl hby (L := [(32, .lconst 0, 1), (33, .lstore 12, 2), (35, .goto 57, 3)]) (by decide +kernel) rfl (g' := (mkF m 92 #[.val (.long x0), .second, .val (.long x1), .second, .val (.long x2), .second, .val (.long x3), .second, .val (.int x4), .val (.int (w0_5 x0 x1 x2 x3 x4)), .val (.long x0), .second, .val (.long (0 : Int64)), .second, .unset, .unset, .unset, .unset] [])) rfl ?_
      have q := jn92_6
      rw [show (j0_92_10 x0 x1 x2 x3 x4) = x0 from ((if_neg hc17_1).trans (if_pos hc29_28)), show (j0_92_12 x0 x1 x2 x3 x4) = (0 : Int64) from ((if_neg hc17_1).trans (if_pos hc29_28))] at q
      exact q
    · skip
      refine Goes.st (B := s₁.setTop (mkF m 38 #[.val (.long x0), .second, .val (.long x1), .second, .val (.long x2), .second, .val (.long x3), .second, .val (.int x4), .val (.int (w0_5 x0 x1 x2 x3 x4)), .val (.long x0), .second, .val (.long x2), .second, .unset, .unset, .unset, .unset] [])) (fun t k => ?_) ?_
      · refine XS.icmpYes X0.here hx rfl (pc0 := 29) (pc' := 38) rfl (hb hby at_29) rfl (feq hc29_28).2 (by decide) (by decide) ?_
        exact k
      refine Goes.run X0 hx hown hci hcl hby (L := [(38, .iload 9, 2), (40, .iconst 3, 1)]) (by decide +kernel) rfl (g' := (mkF m 41 #[.val (.long x0), .second, .val (.long x1), .second, .val (.long x2), .second, .val (.long x3), .second, .val (.int x4), .val (.int (w0_5 x0 x1 x2 x3 x4)), .val (.long x0), .second, .val (.long x2), .second, .unset, .unset, .unset, .unset] [(.int (3 : Int32)), (.int (w0_5 x0 x1 x2 x3 x4))])) rfl ?_
      by_cases hc41_29 : (w0_5 x0 x1 x2 x3 x4) = (3 : Int32)
      · skip
        refine Goes.st (B := s₁.setTop (mkF m 44 #[.val (.long x0), .second, .val (.long x1), .second, .val (.long x2), .second, .val (.long x3), .second, .val (.int x4), .val (.int (w0_5 x0 x1 x2 x3 x4)), .val (.long x0), .second, .val (.long x2), .second, .unset, .unset, .unset, .unset] [])) (fun t k => ?_) ?_
        · refine XS.icmpNo X0.here hx rfl (hb hby at_41) rfl (teq hc41_29).2 ?_
          exact k
        refine Goes.run X0 hx hown hci hcl hby (L := [(44, .lload 10, 2), (46, .lstore 12, 2), (48, .goto 44, 3)]) (by decide +kernel) rfl (g' := (mkF m 92 #[.val (.long x0), .second, .val (.long x1), .second, .val (.long x2), .second, .val (.long x3), .second, .val (.int x4), .val (.int (w0_5 x0 x1 x2 x3 x4)), .val (.long x0), .second, .val (.long x0), .second, .unset, .unset, .unset, .unset] [])) rfl ?_
        have q := jn92_6
        rw [show (j0_92_10 x0 x1 x2 x3 x4) = x0 from (((if_neg hc17_1).trans (if_neg hc29_28)).trans (if_pos hc41_29)), show (j0_92_12 x0 x1 x2 x3 x4) = x0 from (((if_neg hc17_1).trans (if_neg hc29_28)).trans (if_pos hc41_29))] at q
        exact q
      · skip
        refine Goes.st (B := s₁.setTop (mkF m 51 #[.val (.long x0), .second, .val (.long x1), .second, .val (.long x2), .second, .val (.long x3), .second, .val (.int x4), .val (.int (w0_5 x0 x1 x2 x3 x4)), .val (.long x0), .second, .val (.long x2), .second, .unset, .unset, .unset, .unset] [])) (fun t k => ?_) ?_
        · refine XS.icmpYes X0.here hx rfl (pc0 := 41) (pc' := 51) rfl (hb hby at_41) rfl (feq hc41_29).2 (by decide) (by decide) ?_
          exact k
        refine Goes.run X0 hx hown hci hcl hby (L := [(51, .iload 9, 2), (53, .iconst 4, 1)]) (by decide +kernel) rfl (g' := (mkF m 54 #[.val (.long x0), .second, .val (.long x1), .second, .val (.long x2), .second, .val (.long x3), .second, .val (.int x4), .val (.int (w0_5 x0 x1 x2 x3 x4)), .val (.long x0), .second, .val (.long x2), .second, .unset, .unset, .unset, .unset] [(.int (4 : Int32)), (.int (w0_5 x0 x1 x2 x3 x4))])) rfl ?_
        by_cases hc54_30 : (w0_5 x0 x1 x2 x3 x4) = (4 : Int32)
        · skip
          refine Goes.st (B := s₁.setTop (mkF m 57 #[.val (.long x0), .second, .val (.long x1), .second, .val (.long x2), .second, .val (.long x3), .second, .val (.int x4), .val (.int (w0_5 x0 x1 x2 x3 x4)), .val (.long x0), .second, .val (.long x2), .second, .unset, .unset, .unset, .unset] [])) (fun t k => ?_) ?_
          · refine XS.icmpNo X0.here hx rfl (hb hby at_54) rfl (teq hc54_30).2 ?_
            exact k
          refine Goes.run X0 hx hown hci hcl hby (L := [(57, .lload 10, 2), (59, .lconst 1, 1), (60, .lsub, 1), (61, .lload 4, 2), (63, .ldc2_w 9, 3), (66, .land, 1)]) (by decide +kernel) rfl (g' := (mkF m 67 #[.val (.long x0), .second, .val (.long x1), .second, .val (.long x2), .second, .val (.long x3), .second, .val (.int x4), .val (.int (w0_5 x0 x1 x2 x3 x4)), .val (.long x0), .second, .val (.long x2), .second, .unset, .unset, .unset, .unset] [(.long (x2 &&& (255 : Int64))), (.long (x0 - (1 : Int64)))])) rfl ?_
          refine Goes.run X0 hx hown hci hcl hby (L := [(67, .lsub, 1), (68, .lstore 12, 2), (70, .goto 22, 3)]) (by decide +kernel) rfl (g' := (mkF m 92 #[.val (.long x0), .second, .val (.long x1), .second, .val (.long x2), .second, .val (.long x3), .second, .val (.int x4), .val (.int (w0_5 x0 x1 x2 x3 x4)), .val (.long x0), .second, .val (.long (w0_68 x0 x1 x2 x3 x4)), .second, .unset, .unset, .unset, .unset] [])) rfl ?_
          have q := jn92_6
          rw [show (j0_92_10 x0 x1 x2 x3 x4) = x0 from ((((if_neg hc17_1).trans (if_neg hc29_28)).trans (if_neg hc41_29)).trans (if_pos hc54_30)), show (j0_92_12 x0 x1 x2 x3 x4) = (w0_68 x0 x1 x2 x3 x4) from ((((if_neg hc17_1).trans (if_neg hc29_28)).trans (if_neg hc41_29)).trans (if_pos hc54_30))] at q
          exact q
        · skip
          refine Goes.st (B := s₁.setTop (mkF m 73 #[.val (.long x0), .second, .val (.long x1), .second, .val (.long x2), .second, .val (.long x3), .second, .val (.int x4), .val (.int (w0_5 x0 x1 x2 x3 x4)), .val (.long x0), .second, .val (.long x2), .second, .unset, .unset, .unset, .unset] [])) (fun t k => ?_) ?_
          · refine XS.icmpYes X0.here hx rfl (pc0 := 54) (pc' := 73) rfl (hb hby at_54) rfl (feq hc54_30).2 (by decide) (by decide) ?_
            exact k
          refine Goes.run X0 hx hown hci hcl hby (L := [(73, .iload 9, 2), (75, .iconst 5, 1)]) (by decide +kernel) rfl (g' := (mkF m 76 #[.val (.long x0), .second, .val (.long x1), .second, .val (.long x2), .second, .val (.long x3), .second, .val (.int x4), .val (.int (w0_5 x0 x1 x2 x3 x4)), .val (.long x0), .second, .val (.long x2), .second, .unset, .unset, .unset, .unset] [(.int (5 : Int32)), (.int (w0_5 x0 x1 x2 x3 x4))])) rfl ?_
          by_cases hc76_31 : (w0_5 x0 x1 x2 x3 x4) = (5 : Int32)
          · skip
            refine Goes.st (B := s₁.setTop (mkF m 79 #[.val (.long x0), .second, .val (.long x1), .second, .val (.long x2), .second, .val (.long x3), .second, .val (.int x4), .val (.int (w0_5 x0 x1 x2 x3 x4)), .val (.long x0), .second, .val (.long x2), .second, .unset, .unset, .unset, .unset] [])) (fun t k => ?_) ?_
            · refine XS.icmpNo X0.here hx rfl (hb hby at_76) rfl (teq hc76_31).2 ?_
              exact k
            refine Goes.run X0 hx hown hci hcl hby (L := [(79, .lload 10, 2), (81, .lconst 1, 1), (82, .ladd, 1), (83, .lload 4, 2), (85, .ldc2_w 9, 3), (88, .land, 1)]) (by decide +kernel) rfl (g' := (mkF m 89 #[.val (.long x0), .second, .val (.long x1), .second, .val (.long x2), .second, .val (.long x3), .second, .val (.int x4), .val (.int (w0_5 x0 x1 x2 x3 x4)), .val (.long x0), .second, .val (.long x2), .second, .unset, .unset, .unset, .unset] [(.long (x2 &&& (255 : Int64))), (.long (x0 + (1 : Int64)))])) rfl ?_
            refine Goes.run X0 hx hown hci hcl hby (L := [(89, .ladd, 1), (90, .lstore 12, 2)]) (by decide +kernel) rfl (g' := (mkF m 92 #[.val (.long x0), .second, .val (.long x1), .second, .val (.long x2), .second, .val (.long x3), .second, .val (.int x4), .val (.int (w0_5 x0 x1 x2 x3 x4)), .val (.long x0), .second, .val (.long (w0_90 x0 x1 x2 x3 x4)), .second, .unset, .unset, .unset, .unset] [])) rfl ?_
            have q := jn92_6
            rw [show (j0_92_10 x0 x1 x2 x3 x4) = x0 from (((((if_neg hc17_1).trans (if_neg hc29_28)).trans (if_neg hc41_29)).trans (if_neg hc54_30)).trans (if_pos hc76_31)), show (j0_92_12 x0 x1 x2 x3 x4) = (w0_90 x0 x1 x2 x3 x4) from (((((if_neg hc17_1).trans (if_neg hc29_28)).trans (if_neg hc41_29)).trans (if_neg hc54_30)).trans (if_pos hc76_31))] at q
            exact q
          · skip
            refine Goes.st (B := s₁.setTop (mkF m 92 #[.val (.long x0), .second, .val (.long x1), .second, .val (.long x2), .second, .val (.long x3), .second, .val (.int x4), .val (.int (w0_5 x0 x1 x2 x3 x4)), .val (.long x0), .second, .val (.long x2), .second, .unset, .unset, .unset, .unset] [])) (fun t k => ?_) ?_
            · refine XS.icmpYes X0.here hx rfl (pc0 := 76) (pc' := 92) rfl (hb hby at_76) rfl (feq hc76_31).2 (by decide) (by decide) ?_
              exact k
            have q := jn92_6
            rw [show (j0_92_10 x0 x1 x2 x3 x4) = x0 from (((((if_neg hc17_1).trans (if_neg hc29_28)).trans (if_neg hc41_29)).trans (if_neg hc54_30)).trans (if_neg hc76_31)), show (j0_92_12 x0 x1 x2 x3 x4) = x2 from (((((if_neg hc17_1).trans (if_neg hc29_28)).trans (if_neg hc41_29)).trans (if_neg hc54_30)).trans (if_neg hc76_31))] at q
            exact q
theorem law_true (x0 x1 x2 x3 : Int64) (x4 : Int32) : r0 x0 x1 x2 x3 x4 = 1 := by
  have e1 : w0_155 x0 x1 x2 x3 x4 = j0_148_s0 x0 x1 x2 x3 x4 := by
    unfold w0_155 j0_148_s0
    generalize j0_92_10 x0 x1 x2 x3 x4 = b
    generalize j0_92_12 x0 x1 x2 x3 x4 = a
    unfold r3 r4
    by_cases h1 : b = 0
    · rw [if_pos h1, if_pos h1]
    · rw [if_neg h1, if_neg h1]
      by_cases h2 : a = 0
      · rw [if_pos h2, if_pos h2]
      · rw [if_neg h2, if_neg h2]
        by_cases h3 : b = a
        · rw [if_pos h3, h3, if_neg Int64.lt_irrefl]
        · rw [if_neg h3]
          by_cases h4 : a < b
          · rw [if_pos h4, if_pos h4, if_pos rfl]
          · rw [if_neg h4, if_neg h4, if_neg h3]
  have e2 : j0_184_s0 x0 x1 x2 x3 x4 = 1 := if_pos rfl
  unfold r0
  rw [if_pos e1, e2]; decide
set_option maxRecDepth 65536 in
set_option maxHeartbeats 40000000 in
theorem comes_1 {Post : Tables → Env → Array Value → State → Outcome → State → Prop} (hpost : ∀ tb e args s v u, (limb_1_1.after args s (.returned v) u = true ∧ limb_1_2.after args s (.returned v) u = true ∧ True) → FrameEnd s (.returned v) u (Jvm.fieldLocs frame_1_writes args s ++ Jvm.arrayLocs frame_1_arrays args s ++ Jvm.staticLocs frame_1_statics s) 16 128 → Post tb e args s (.returned v) u) :
    ArmFor flags0 classFile x code maxLocals ret World_1 tables_1 room_1 Calls_1 rest_1 Pre_1 Post := by
  intro l hfl _ _ p e ha hc hk s m args below hf hA hF happ hP
  obtain ⟨hcalls, hrest, hpre⟩ := hP
  obtain ⟨-, -, -, hnamed, -, -, -, hat⟩ := (Spec.applies_iff hf).mp happ
  obtain ⟨hg, hn⟩ := and_e (Cond.before_iff.mp (show (Jvm.Cond.and given_1 narrow_1).before args s = true from hpre))
  obtain ⟨g0, g0r⟩ := and_e hg
  obtain ⟨g1, g1r⟩ := and_e g0r
  obtain ⟨g2, g2r⟩ := and_e g1r
  obtain ⟨g3, g3r⟩ := and_e g2r
  obtain ⟨g4, g5⟩ := and_e g3r
  obtain ⟨w0, w1, w2, w3, w4, rfl⟩ : ∃ w0 w1 w2 w3 w4 : Value, args = #[w0, w1, w2, w3, w4] := by
    have hs : args.size = 5 := by simpa [Cond.value, given_1] using g0
    obtain ⟨L⟩ := args
    match L, hs with
    | [w0, w1, w2, w3, w4], _ => exact ⟨w0, w1, w2, w3, w4, rfl⟩
  have hw := fun d (hd : d ∈ tables_1) => atoms_spec (ws := Jvm.Cond.code x code maxLocals ret :: tables_1) hat d (List.mem_cons_of_mem _ hd)
  have hfit : Fit s := fun {y c} hc i hi => by
    obtain ⟨ha, rfl⟩ := Array.getElem?_eq_some_iff.mp hc
    have q := List.all_eq_true.mp ((Array.all_eq_true_iff_forall_mem.mp hF) _ (Array.getElem_mem ha)) i (List.mem_range.mpr hi)
    simpa [Array.getElem?_eq_getElem hi] using q
  obtain ⟨i0, ei0⟩ := isL_v g1
  obtain rfl : w0 = (.long i0) := Option.some.inj ei0
  obtain ⟨i1, ei1⟩ := isL_v g2
  obtain rfl : w1 = (.long i1) := Option.some.inj ei1
  obtain ⟨i2, ei2⟩ := isL_v g3
  obtain rfl : w2 = (.long i2) := Option.some.inj ei2
  obtain ⟨i3, ei3⟩ := isL_v g4
  obtain rfl : w3 = (.long i3) := Option.some.inj ei3
  obtain ⟨i4, ei4⟩ := is_v g5
  obtain rfl : w4 = (.int i4) := Option.some.inj ei4
  obtain ⟨n, o, h1, h2, h3, v, L, rfl, hv, hq⟩ := rm0 l s _ hw tables_1 i0 i1 i2 i3 i4  s.heap s.heap.size (Nat.le_refl _)  p e ha hc hk s m _ below hf ((Spec.applies_iff_loose hf).mp happ).1 ⟨rfl, State.Warmed39.refl s, rfl⟩ trivial
  have N := hv.2
  have hv1 : v = some (.int 1) := hv.1.trans (congrArg (fun z => some (Value.int z)) (law_true i0 i1 i2 i3 i4))
  subst hv1
  refine ⟨n, _, h1, h2, h3, hpost _ _ _ _ _ _ ⟨Cond.after_iff.mpr rfl, Cond.after_iff.mpr (eq_i res_at (Term.int_eval (1)) rfl), trivial⟩ ⟨hq.1, hq.2.1, (hq.2.2.sift fun y hy => Or.inr (N y hy)).mono (by decide) (by decide)⟩⟩
theorem main_1_1 : Claimed_1_1 := comes_1 fun _ _ _ _ _ _ h hF => ⟨h.1, hF⟩
theorem main_1_2 : Claimed_1_2 := comes_1 fun _ _ _ _ _ _ h hF => ⟨h.2.1, hF⟩
end Jvm.Pilot.@@N@@
namespace Jvm.Pilot.@@N@@
open Jvm Jvm.ClassFile Sem Op Lib Jvm.Free Jvm.Stand Jvm.Pilot.@@N@@.Jvm.D
/-! MADE BY PROGRAM (witnessworld.py) out of the Statement's table words and the real class files: 11 classes; the members and pool entries that the words name. The judged class is class 1, her method 1. -/
namespace start1
open Jvm.ClassFile
def u (s : String) : CpInfo := .utf8 (stringToUtf16 s)
/-- a pool by its gaps: so many unusable entries, then the entry; so many at the end -/
def gap : Nat → List CpInfo → List CpInfo
  | 0, r => r
  | n + 1, r => .unusable :: gap n r
def poolList (es : List (Nat × CpInfo)) (last : Nat) : List CpInfo := es.foldr (fun e r => gap e.1 (e.2 :: r)) (gap last [])
def pool (es : List (Nat × CpInfo)) (last : Nat) : Array CpInfo := ⟨poolList es last⟩
def fileOf (pool : Array CpInfo) (this : Nat) (attrs : Array Attribute := #[]) (ms : Array MethodInfo := #[]) (fl : Nat := 33) (sup : Nat := 0) (ifs : Array Nat := #[]) (fds : Array FieldInfo := #[]) : ClassFile where
  minorVersion := 0
  majorVersion := 65
  constantPool := pool
  accessFlags := fl
  thisClass := this
  superClass := sup
  interfaces := ifs
  fields := fds
  methods := ms
  attributes := attrs
def plain (name : String) (sup : Option ClassId) : Class where
  name := name
  kind := .ordinary
  loader := none
  accessFlags := 33
  super := sup
  interfaces := #[]
  cf := none
  fields := #[]
  methods := #[]
  instanceTypes := #[]
  staticTypes := #[]
  resolved := #[]
  callSites := []
  init := .initialized
  statics := none
  mirror := none

def pool0 : Array CpInfo := pool [(5, u "<init>"), (0, u "()V"), (1, .class_ 10), (1, u "java/lang/Object")] 113

def k0c0 : Code := { maxStack := 0, maxLocals := 1, code := object_method_1_code, exceptionTable := #[], attributes := #[] }
def k0m0 : Method := { name := "<init>", desc := "()V", sig := { parameters := [], returnType := none }, accessFlags := 1, code := some k0c0 }
/-- java/lang/Object -/
def k0 : Class := { plain "java/lang/Object" none with
  accessFlags := 33
  interfaces := #[]
  cf := some (fileOf pool0 8 #[] #[{ accessFlags := 1, nameIndex := 5, descriptorIndex := 6, attributes := #[] }] 33 0 #[] #[])
  fields := #[]
  methods := #[k0m0]
  instanceTypes := #[]
  staticTypes := #[]
  resolved := Array.replicate 124 none
  statics := none }

def pool1 : Array CpInfo := pool [(2, .class_ 4), (1, u "java/lang/Object"), (0, u "<init>"), (0, u "()V"), (2, .long 255), (1, .class_ 12), (0, u "com/example/rulewake/rulewake/Nbbo"), (0, .methodref 11 14), (0, .nameAndType 5 15), (0, u "(JJJJ)V"), (0, .methodref 17 18), (0, .class_ 19), (0, .nameAndType 20 21), (0, u "java/lang/Math"), (0, u "min"), (0, u "(JJ)J"), (0, .methodref 11 23), (0, .nameAndType 24 25), (0, u "crossed"), (0, u "()Z"), (0, .class_ 27), (0, u "com/example/rulewake/rulewake/NbboCrossedPinLaw"), (2, u "law"), (0, u "(JJJJI)Z")] 3

def k1m0 : Method := { name := "<init>", desc := "()V", sig := { parameters := [], returnType := none }, accessFlags := 1, code := none }
def k1c1 : Code := { maxStack := 10, maxLocals := 18, code := code, exceptionTable := #[], attributes := #[] }
def k1m1 : Method := { name := "law", desc := "(JJJJI)Z", sig := { parameters := [.long, .long, .long, .long, .int], returnType := some .boolean }, accessFlags := 9, code := some k1c1 }
/-- com/example/rulewake/rulewake/NbboCrossedPinLaw -/
def k1 : Class := { plain "com/example/rulewake/rulewake/NbboCrossedPinLaw" (some 0) with
  accessFlags := 49
  interfaces := #[]
  cf := some (fileOf pool1 26 #[] #[{ accessFlags := 1, nameIndex := 5, descriptorIndex := 6, attributes := #[] }, { accessFlags := 9, nameIndex := 30, descriptorIndex := 31, attributes := #[] }] 49 2 #[] #[])
  fields := #[]
  methods := #[k1m0, k1m1]
  instanceTypes := #[]
  staticTypes := #[]
  resolved := Array.replicate 35 none
  statics := none }

def pool2 : Array CpInfo := pool [(1, .methodref 2 3), (0, .class_ 4), (0, .nameAndType 5 6), (0, u "java/lang/Object"), (0, u "<init>"), (0, u "()V"), (0, .class_ 8), (0, u "java/lang/Record")] 13

def k2c0 : Code := { maxStack := 1, maxLocals := 1, code := jdk_30_method_1_code, exceptionTable := #[], attributes := #[] }
def k2m0 : Method := { name := "<init>", desc := "()V", sig := { parameters := [], returnType := none }, accessFlags := 4, code := some k2c0 }
/-- java/lang/Record -/
def k2 : Class := { plain "java/lang/Record" (some 0) with
  accessFlags := 1057
  interfaces := #[]
  cf := some (fileOf pool2 7 #[] #[{ accessFlags := 4, nameIndex := 5, descriptorIndex := 6, attributes := #[] }] 1057 2 #[] #[])
  fields := #[]
  methods := #[k2m0]
  instanceTypes := #[]
  staticTypes := #[]
  resolved := Array.replicate 22 none
  statics := none }

def pool3 : Array CpInfo := pool [(1, .methodref 2 3), (0, .class_ 4), (0, .nameAndType 5 6), (0, u "java/lang/Record"), (0, u "<init>"), (0, u "()V"), (0, .fieldref 8 9), (0, .class_ 10), (0, .nameAndType 11 12), (0, u "com/example/rulewake/rulewake/Nbbo"), (0, u "bid"), (0, u "J"), (0, .fieldref 8 14), (0, .nameAndType 15 12), (0, u "bidSize"), (0, .fieldref 8 17), (0, .nameAndType 18 12), (0, u "ask"), (0, .fieldref 8 20), (0, .nameAndType 21 12), (0, u "askSize"), (24, u "(JJJJ)V"), (2, u "EMPTY"), (0, u "Lcom/example/rulewake/rulewake/Nbbo;"), (6, u "crossed"), (0, u "()Z")] 29

def k3c0 : Code := { maxStack := 3, maxLocals := 9, code := prog_36_method_1_code, exceptionTable := #[], attributes := #[] }
def k3m0 : Method := { name := "<init>", desc := "(JJJJ)V", sig := { parameters := [.long, .long, .long, .long], returnType := none }, accessFlags := 0, code := some k3c0 }
def k3c1 : Code := { maxStack := 4, maxLocals := 1, code := prog_36_method_3_code, exceptionTable := #[], attributes := #[] }
def k3m1 : Method := { name := "crossed", desc := "()Z", sig := { parameters := [], returnType := some .boolean }, accessFlags := 0, code := some k3c1 }
/-- com/example/rulewake/rulewake/Nbbo -/
def k3 : Class := { plain "com/example/rulewake/rulewake/Nbbo" (some 2) with
  accessFlags := 48
  interfaces := #[]
  cf := some (fileOf pool3 8 #[] #[{ accessFlags := 0, nameIndex := 5, descriptorIndex := 46, attributes := #[] }, { accessFlags := 0, nameIndex := 57, descriptorIndex := 58, attributes := #[] }] 48 2 #[] #[{ accessFlags := 18, nameIndex := 11, descriptorIndex := 12, attributes := #[] }, { accessFlags := 18, nameIndex := 15, descriptorIndex := 12, attributes := #[] }, { accessFlags := 18, nameIndex := 18, descriptorIndex := 12, attributes := #[] }, { accessFlags := 18, nameIndex := 21, descriptorIndex := 12, attributes := #[] }, { accessFlags := 24, nameIndex := 49, descriptorIndex := 50, attributes := #[] }])
  fields := #[{ name := "bid", type := .long, accessFlags := 18, slot := 0, constantValue := 0 }, { name := "bidSize", type := .long, accessFlags := 18, slot := 1, constantValue := 0 }, { name := "ask", type := .long, accessFlags := 18, slot := 2, constantValue := 0 }, { name := "askSize", type := .long, accessFlags := 18, slot := 3, constantValue := 0 }, { name := "EMPTY", type := (.object "com/example/rulewake/rulewake/Nbbo"), accessFlags := 24, slot := 0, constantValue := 0 }]
  methods := #[k3m0, k3m1]
  instanceTypes := #[.long, .long, .long, .long]
  staticTypes := #[(.object "com/example/rulewake/rulewake/Nbbo")]
  resolved := Array.replicate 88 none
  statics := none }

def pool4 : Array CpInfo := pool [(1, .class_ 2), (0, u "java/lang/Math"), (1, .class_ 6), (1, u "java/lang/Object"), (0, u "<init>"), (0, u "()V"), (89, .class_ 100), (1, u "java/lang/Math$RandomNumberGeneratorHolder"), (20, u "(JJ)J"), (50, u "negativeZeroFloatBits"), (0, u "J"), (2, u "negativeZeroDoubleBits"), (24, u "min"), (43, u "$assertionsDisabled"), (0, u "Z"), (91, u "twoToTheDoubleScaleDown"), (0, u "D"), (4, u "twoToTheDoubleScaleUp"), (9, u "E"), (3, u "PI"), (2, u "TAU"), (2, u "DEGREES_TO_RADIANS"), (0, u "RADIANS_TO_DEGREES")] 94

def k4m0 : Method := { name := "<init>", desc := "()V", sig := { parameters := [], returnType := none }, accessFlags := 2, code := none }
def k4c1 : Code := { maxStack := 4, maxLocals := 4, code := jdk_29_method_70_code, exceptionTable := #[], attributes := #[] }
def k4m1 : Method := { name := "min", desc := "(JJ)J", sig := { parameters := [.long, .long], returnType := some .long }, accessFlags := 9, code := some k4c1 }
/-- java/lang/Math -/
def k4 : Class := { plain "java/lang/Math" (some 0) with
  accessFlags := 49
  interfaces := #[]
  cf := some (fileOf pool4 1 #[.nestMembers #[98]] #[{ accessFlags := 2, nameIndex := 7, descriptorIndex := 8, attributes := #[] }, { accessFlags := 9, nameIndex := 201, descriptorIndex := 121, attributes := #[] }] 49 4 #[] #[{ accessFlags := 25, nameIndex := 354, descriptorIndex := 339, attributes := #[] }, { accessFlags := 25, nameIndex := 358, descriptorIndex := 339, attributes := #[] }, { accessFlags := 25, nameIndex := 361, descriptorIndex := 339, attributes := #[] }, { accessFlags := 26, nameIndex := 364, descriptorIndex := 339, attributes := #[] }, { accessFlags := 26, nameIndex := 365, descriptorIndex := 339, attributes := #[] }, { accessFlags := 26, nameIndex := 172, descriptorIndex := 173, attributes := #[] }, { accessFlags := 26, nameIndex := 176, descriptorIndex := 173, attributes := #[] }, { accessFlags := 8, nameIndex := 344, descriptorIndex := 339, attributes := #[] }, { accessFlags := 8, nameIndex := 338, descriptorIndex := 339, attributes := #[] }, { accessFlags := 4120, nameIndex := 245, descriptorIndex := 246, attributes := #[] }])
  fields := #[{ name := "E", type := .double, accessFlags := 25, slot := 0, constantValue := 0 }, { name := "PI", type := .double, accessFlags := 25, slot := 1, constantValue := 0 }, { name := "TAU", type := .double, accessFlags := 25, slot := 2, constantValue := 0 }, { name := "DEGREES_TO_RADIANS", type := .double, accessFlags := 26, slot := 3, constantValue := 0 }, { name := "RADIANS_TO_DEGREES", type := .double, accessFlags := 26, slot := 4, constantValue := 0 }, { name := "negativeZeroFloatBits", type := .long, accessFlags := 26, slot := 5, constantValue := 0 }, { name := "negativeZeroDoubleBits", type := .long, accessFlags := 26, slot := 6, constantValue := 0 }, { name := "twoToTheDoubleScaleUp", type := .double, accessFlags := 8, slot := 7, constantValue := 0 }, { name := "twoToTheDoubleScaleDown", type := .double, accessFlags := 8, slot := 8, constantValue := 0 }, { name := "$assertionsDisabled", type := .boolean, accessFlags := 4120, slot := 9, constantValue := 0 }]
  methods := #[k4m0, k4m1]
  instanceTypes := #[]
  staticTypes := #[.double, .double, .double, .double, .double, .long, .long, .double, .double, .boolean]
  resolved := Array.replicate 460 none
  statics := none }

def pool5 : Array CpInfo := pool [(1, u "java/lang/Cloneable"), (0, .class_ 1), (0, u "java/lang/Object"), (0, .class_ 3)] 3

/-- java/lang/Cloneable -/
def k5 : Class := { plain "java/lang/Cloneable" (some 0) with
  accessFlags := 1537
  interfaces := #[]
  cf := some (fileOf pool5 2 #[] #[] 1537 4 #[] #[])
  fields := #[]
  methods := #[]
  instanceTypes := #[]
  staticTypes := #[]
  resolved := Array.replicate 8 none
  statics := none }

def pool6 : Array CpInfo := pool [(1, u "java/io/Serializable"), (0, .class_ 1), (0, u "java/lang/Object"), (0, .class_ 3)] 3

/-- java/io/Serializable -/
def k6 : Class := { plain "java/io/Serializable" (some 0) with
  accessFlags := 1537
  interfaces := #[]
  cf := some (fileOf pool6 2 #[] #[] 1537 4 #[] #[])
  fields := #[]
  methods := #[]
  instanceTypes := #[]
  staticTypes := #[]
  resolved := Array.replicate 8 none
  statics := none }

/-- the primitive byte -/
def k7 : Class := { plain "byte" none with kind := .primitive 'B', accessFlags := 0x411 }
/-- [B -/
def k8 : Class := { plain "[B" (some 0) with kind := .array 7 .byte, interfaces := #[5, 6], accessFlags := 1041 }

/-- the primitive int -/
def k9 : Class := { plain "int" none with kind := .primitive 'I', accessFlags := 0x411 }
/-- [I -/
def k10 : Class := { plain "[I" (some 0) with kind := .array 9 .int, interfaces := #[5, 6], accessFlags := 1041 }

def heap : Heap := #[]
def classes : Array Class := #[k0, k1, k2, k3, k4, k5, k6, k7, k8, k9, k10]
def interned : List (Array UInt16 × Addr) := []
def slotsUsed : Nat := 0
def theMethod : MethodId := ⟨1, 1⟩
def args0 : Array Value := #[.long 5, .long 7, .long 9, .long 11, .int 3]
def aboutOver (below : List Frame) : State where
  vm := { classes := classes, interned := interned.toArray }
  heap := heap
  slotsUsed := slotsUsed
  threads := #[{ frames := .invoking theMethod args0 :: below }]
def below0 : List Frame := [.native { method := ⟨0, 0⟩, args := #[] }]
def about1 : State := aboutOver below0
def p0 : Program := .bare "" "" ""
def e0 : Env := launch0.env 0 0 0
theorem w_frames : about1.frames = Frame.invoking theMethod args0 :: below0 := rfl
set_option maxRecDepth 65536 in
theorem w_args : argsFit about1.vm theMethod args0 = true := by decide +kernel
set_option maxRecDepth 65536 in
theorem w_heap : heapFits about1 = true := by decide +kernel
set_option maxRecDepth 65536 in
theorem w_runnable : about1.curStatus? = some .runnable := by decide +kernel
set_option maxRecDepth 65536 in
theorem w_alone : about1.alone = true := by decide +kernel
set_option maxRecDepth 65536 in
theorem w_named : about1.methodNamed? x = some theMethod := by decide +kernel
set_option maxRecDepth 65536 in
theorem w_hears : about1.hears theMethod below0 = true := by decide +kernel
set_option maxRecDepth 65536 in
theorem w_ripe : about1.ripe theMethod args0 below0 = true := by decide +kernel
theorem w_running : about1.status = .running := rfl
set_option maxRecDepth 65536 in
theorem w_room : about1.hasRoom e0.platform room_1 = true :=
  launch0.hasRoom_least _ room_1 (by decide +kernel) (by decide +kernel) (by decide +kernel) (by decide +kernel) (by decide +kernel) (by decide +kernel)
theorem allAtoms_all (ts : List Jvm.Cond) (a : Array Jvm.Value) (st : Jvm.State) : (allAtoms ts).before a st = ts.all (fun c => c.before a st) := by
  induction ts with
  | nil => rfl
  | cons c t ih =>
    show (Jvm.Cond.and c (allAtoms t)).before a st = _
    rw [Jvm.Cond.before_and, ih, List.all_cons]
def words1 : List Jvm.Cond := Jvm.Cond.code x code maxLocals ret :: tables_1
/-- a 'code' word, met by the world's own term for the bytes: nothing is compared byte by byte -/
theorem code_word {y : MethodName} {bytes : ByteArray} {mx : Nat} {rt : Option FieldType} {a : Array Value} {s : State} {m : MethodId} {meth : Method} {c : Code} (h1 : s.methodNamed? y = some m) (h2 : s.vm.method? m = some meth) (h3 : meth.code = some c) (h4 : c.code = bytes)
    (h5 : (c.maxLocals == mx && c.exceptionTable.isEmpty && decide (c.maxStack ≤ mostOperands) && decide (meth.sig.returnType = rt) && !meth.locks && decide (parseMethodDescriptor y.desc = some meth.sig)) = true) : (Jvm.Cond.code y bytes mx rt).before a s = true := by
  simp only [Bool.and_eq_true, beq_iff_eq, Bool.not_eq_true', decide_eq_true_eq] at h5
  obtain ⟨⟨⟨⟨⟨g1, g2⟩, g3⟩, g4⟩, g5⟩, g6⟩ := h5
  simp [Cond.before, Cond.holds, Cond.value, h1, h2, h3, h4, g1, g2, g3, g4, g5, g6]
def isCode : Jvm.Cond → Bool
  | .code _ _ _ _ => true
  | _ => false
theorem all_split {L : List Jvm.Cond} {P : Jvm.Cond → Bool} (h1 : L.all (fun c => isCode c || P c) = true) (h2 : ∀ c ∈ L.filter isCode, P c = true) : L.all P = true := by
  refine List.all_eq_true.mpr fun c hc => ?_
  have h := List.all_eq_true.mp h1 c hc
  rcases Bool.eq_false_or_eq_true (isCode c) with hi | hi
  · exact h2 c (List.mem_filter.mpr ⟨hc, hi⟩)
  · simpa [hi] using h
set_option maxRecDepth 65536 in
theorem w_c0 : (Jvm.Cond.code x code maxLocals ret).before args0 about1 = true := code_word (m := ⟨1, 1⟩) (meth := k1m1) (c := k1c1) (by decide +kernel) rfl rfl rfl (by decide +kernel)
set_option maxRecDepth 65536 in
theorem w_c1 : (Jvm.Cond.code ({ cls := "com/example/rulewake/rulewake/Nbbo", name := "<init>", desc := "(JJJJ)V" } : Jvm.MethodName) prog_36_method_1_code (9 : Nat) (Option.none : Option Jvm.ClassFile.FieldType)).before args0 about1 = true := code_word (m := ⟨3, 0⟩) (meth := k3m0) (c := k3c0) (by decide +kernel) rfl rfl rfl (by decide +kernel)
set_option maxRecDepth 65536 in
theorem w_c2 : (Jvm.Cond.code ({ cls := "java/lang/Record", name := "<init>", desc := "()V" } : Jvm.MethodName) jdk_30_method_1_code (1 : Nat) (Option.none : Option Jvm.ClassFile.FieldType)).before args0 about1 = true := code_word (m := ⟨2, 0⟩) (meth := k2m0) (c := k2c0) (by decide +kernel) rfl rfl rfl (by decide +kernel)
set_option maxRecDepth 65536 in
theorem w_c3 : (Jvm.Cond.code ({ cls := "java/lang/Object", name := "<init>", desc := "()V" } : Jvm.MethodName) object_method_1_code (1 : Nat) (Option.none : Option Jvm.ClassFile.FieldType)).before args0 about1 = true := code_word (m := ⟨0, 0⟩) (meth := k0m0) (c := k0c0) (by decide +kernel) rfl rfl rfl (by decide +kernel)
set_option maxRecDepth 65536 in
theorem w_c4 : (Jvm.Cond.code ({ cls := "com/example/rulewake/rulewake/Nbbo", name := "crossed", desc := "()Z" } : Jvm.MethodName) prog_36_method_3_code (1 : Nat) (Option.some Jvm.ClassFile.FieldType.boolean)).before args0 about1 = true := code_word (m := ⟨3, 1⟩) (meth := k3m1) (c := k3c1) (by decide +kernel) rfl rfl rfl (by decide +kernel)
set_option maxRecDepth 65536 in
theorem w_c5 : (Jvm.Cond.code ({ cls := "java/lang/Math", name := "min", desc := "(JJ)J" } : Jvm.MethodName) jdk_29_method_70_code (4 : Nat) (Option.some Jvm.ClassFile.FieldType.long)).before args0 about1 = true := code_word (m := ⟨4, 1⟩) (meth := k4m1) (c := k4c1) (by decide +kernel) rfl rfl rfl (by decide +kernel)
def codes1 : List Jvm.Cond := [Jvm.Cond.code x code maxLocals ret, Jvm.Cond.code ({ cls := "com/example/rulewake/rulewake/Nbbo", name := "<init>", desc := "(JJJJ)V" } : Jvm.MethodName) prog_36_method_1_code (9 : Nat) (Option.none : Option Jvm.ClassFile.FieldType), Jvm.Cond.code ({ cls := "java/lang/Record", name := "<init>", desc := "()V" } : Jvm.MethodName) jdk_30_method_1_code (1 : Nat) (Option.none : Option Jvm.ClassFile.FieldType), Jvm.Cond.code ({ cls := "java/lang/Object", name := "<init>", desc := "()V" } : Jvm.MethodName) object_method_1_code (1 : Nat) (Option.none : Option Jvm.ClassFile.FieldType), Jvm.Cond.code ({ cls := "com/example/rulewake/rulewake/Nbbo", name := "crossed", desc := "()Z" } : Jvm.MethodName) prog_36_method_3_code (1 : Nat) (Option.some Jvm.ClassFile.FieldType.boolean), Jvm.Cond.code ({ cls := "java/lang/Math", name := "min", desc := "(JJ)J" } : Jvm.MethodName) jdk_29_method_70_code (4 : Nat) (Option.some Jvm.ClassFile.FieldType.long)]
set_option maxRecDepth 65536 in
theorem codes_eq : words1.filter isCode = codes1 := rfl
theorem w_codes : ∀ c ∈ words1.filter isCode, c.before args0 about1 = true := by
  rw [codes_eq]
  intro c hc
  simp only [codes1, List.mem_cons, List.not_mem_nil, or_false] at hc
  rcases hc with rfl | rfl | rfl | rfl | rfl | rfl
  · exact w_c0
  · exact w_c1
  · exact w_c2
  · exact w_c3
  · exact w_c4
  · exact w_c5
set_option maxRecDepth 65536 in
theorem w_t1 : (words1.take 24).all (fun c => isCode c || c.before args0 about1) = true := by decide +kernel
set_option maxRecDepth 65536 in
theorem w_t2 : (words1.drop 24).all (fun c => isCode c || c.before args0 about1) = true := by decide +kernel
theorem w_tables : (allAtoms (Jvm.Cond.code x code maxLocals ret :: tables_1)).before args0 about1 = true := by
  rw [allAtoms_all]
  show words1.all (fun c => c.before args0 about1) = true
  refine all_split ?_ w_codes
  rw [← List.take_append_drop 24 words1, List.all_append, w_t1, w_t2]
  rfl
set_option maxRecDepth 65536 in
theorem w_case : (Jvm.Cond.and given_1 narrow_1).before args0 about1 = true := by decide +kernel
theorem w_applies : (headSpec (Jvm.Cond.code x code maxLocals ret :: tables_1) room_1).applies x e0.platform about1 = true :=
  (Spec.applies_iff w_frames).mpr ⟨w_running, w_runnable, w_alone, w_named, w_hears, w_ripe, w_room, w_tables⟩
theorem atStart : AtStart classFile x code maxLocals ret World_1 tables_1 room_1 Calls_1 rest_1 Pre_1 launch0 p0 e0 about1 theMethod args0 below0 :=
  ⟨lists_1, trivial, launch0.admits_env _ _ _, launch0.least_env, fairChoices_fair.cas, fairChoices_fair.clock, w_frames, w_args, w_heap, w_applies, trivial, trivial, w_case⟩
end start1
theorem witness_1 : WitnessClaimed_1 := ⟨start1.p0, start1.e0, start1.about1, start1.theMethod, start1.args0, start1.below0, start1.atStart⟩
end Jvm.Pilot.@@N@@
