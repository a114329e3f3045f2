import JvmDerived
import JvmDerived.Pilot.@@N@@Statement
import JvmDerived.Pilot.@@N@@Code
set_option linter.unusedVariables false
set_option linter.unusedSimpArgs false
@@BLOCK:NumsL.lean.txt@@
namespace Jvm.Pilot.@@N@@
open Jvm Jvm.ClassFile Sem Op Lib Jvm.Free Jvm.Stand Jvm.LawKit Jvm.RoadKit Bundle Jvm.Pilot.@@N@@.Jvm.D
def Goes (p : Program) (e : Env) (below : List Frame) (s : State) (Q : Option Value → Heap → List Loc → Prop) (kc ks : Nat) (A : State) : Prop :=
  ∃ s₂ o, Steps p.tables e below A s₂ ∧ s₂.status = .running ∧ Ended s₂ below o ∧ ∃ v L, o = .returned v ∧ Q v s₂.heap L ∧ FrameEnd s o s₂ L kc ks
def QL (w : Option Value) (n0 : Nat) (v : Option Value) (h : Heap) (L : List Loc) : Prop := v = w ∧ Fr n0 L
theorem own_selp {s : State} {args : Array Value} {y : MethodName} {n : Nat} (hins : (Cond.instantiable y.cls n).before args s = true) (hpriv : (Cond.privateMethod y).before args s = true) (hinst : (Cond.instanceMethod y).before args s = true) (hy : y.cls ≠ "java/lang/invoke/MethodHandle" ∧ y.cls ≠ "java/lang/invoke/VarHandle") : (Cond.selects y.cls y y).before args s = true := by
  obtain ⟨c, k, hc, hk, -, hniab, -, -⟩ := Cond.instantiable_spec hins
  exact selects_self_of_private hc hk (Bool.or_eq_false_iff.mp hniab).1 (Cond.privateMethod_at hpriv) hinst hy
def QP (w : Option Value) (h0 : Heap) (n0 : Nat) (v : Option Value) (h : Heap) (L : List Loc) : Prop := v = w ∧ Fr n0 L ∧ h = h0
section OwnGoes
variable {p : Program} {l : Launch} {e : Env} {R : Room} {s : State} {m : MethodId} {args : Array Value} {below : List Frame} {meth : Method} {c : Code} {T : State} {locs : List Loc} {cells slots kc ks : Nat} {Q : Option Value → Heap → List Loc → Prop}
theorem Goes.st {A B : State} (h : ∀ t, Steps p.tables e below B t → Steps p.tables e below A t) (g : Goes p e below s Q kc ks B) : Goes p e below s Q kc ks A := by
  obtain ⟨s₂, o, h1, r⟩ := g
  exact ⟨s₂, o, h _ h1, r⟩
theorem Goes.cast {g g' : JFrame} (q : g = g') (h : Goes p e below s Q kc ks (T.setTop g')) : Goes p e below s Q kc ks (T.setTop g) := q ▸ h
theorem Goes.retI (X : Stand p l e R s m args below meth c T locs cells slots) (hx : p.tables.exec = Jvm.exec) (hlk : meth.locks = false) (hret : meth.sig.returnType = some .int) {pc : Nat} {Ls : Array Slot} {z : Int32} {rest : List Value} (hd : decode c.code pc = .ok (.ireturn, 1)) (hQ : Q (some (.int z)) T.heap locs) (h1 : cells ≤ kc) (h2 : slots ≤ ks) : Goes p e below s Q kc ks (T.setTop (mkF m pc Ls (.int z :: rest))) := by
  obtain ⟨fs, hr, hrun, hended, hW, hsame⟩ := X.leave (v := some (.int z)) (fun h => by rw [hret] at h; cases h)
  exact ⟨_, _, retOut X hx hret rfl (Or.inl ⟨rfl, Or.inl rfl, _, rfl⟩) hd hr, hrun, hended, _, _, rfl, hQ, ⟨_, rfl⟩, hW, hsame.mono h1 h2⟩
theorem Goes.retJ (X : Stand p l e R s m args below meth c T locs cells slots) (hx : p.tables.exec = Jvm.exec) (hlk : meth.locks = false) (hret : meth.sig.returnType = some .long) {pc : Nat} {Ls : Array Slot} {z : Int64} {rest : List Value} (hd : decode c.code pc = .ok (.lreturn, 1)) (hQ : Q (some (.long z)) T.heap locs) (h1 : cells ≤ kc) (h2 : slots ≤ ks) : Goes p e below s Q kc ks (T.setTop (mkF m pc Ls (.long z :: rest))) := by
  obtain ⟨fs, hr, hrun, hended, hW, hsame⟩ := X.leave (v := some (.long z)) (fun h => by rw [hret] at h; cases h)
  exact ⟨_, _, retOut X hx hret rfl (Or.inr (Or.inl ⟨rfl, rfl, _, rfl⟩)) hd hr, hrun, hended, _, _, rfl, hQ, ⟨_, rfl⟩, hW, hsame.mono h1 h2⟩
theorem Goes.retR (X : Stand p l e R s m args below meth c T locs cells slots) (hx : p.tables.exec = Jvm.exec) (hlk : meth.locks = false) {t : FieldType} (hret : meth.sig.returnType = some t) {w : Value} (ht : t.isReference = true) (hw : w.isRef = true) {pc : Nat} {Ls : Array Slot} {rest : List Value} (hd : decode c.code pc = .ok (.areturn, 1)) (hQ : Q (some w) T.heap locs) (h1 : cells ≤ kc) (h2 : slots ≤ ks) : Goes p e below s Q kc ks (T.setTop (mkF m pc Ls (w :: rest))) := by
  obtain ⟨fs, hr, hrun, hended, hW, hsame⟩ := X.leave (v := some w) (fun h => by rw [hret] at h; cases h)
  have hn : narrow t w = w := by cases t <;> cases w <;> first | rfl | (simp [FieldType.isReference] at ht) | (simp [Value.isRef] at hw)
  exact ⟨_, _, retOut X hx hret hn (Or.inr (Or.inr (Or.inr (Or.inr ⟨rfl, ht, hw⟩)))) hd hr, hrun, hended, _, _, rfl, hQ, ⟨_, rfl⟩, hW, hsame.mono h1 h2⟩
theorem Goes.retB (X : Stand p l e R s m args below meth c T locs cells slots) (hx : p.tables.exec = Jvm.exec) (hlk : meth.locks = false) {t : FieldType} (hret : meth.sig.returnType = some t) (ht : t = .boolean ∨ t = .byte ∨ t = .char ∨ t = .short) {pc : Nat} {Ls : Array Slot} {z : Int32} {rest : List Value} (hd : decode c.code pc = .ok (.ireturn, 1)) (hz : nar t z = z) (hQ : Q (some (.int z)) T.heap locs) (h1 : cells ≤ kc) (h2 : slots ≤ ks) : Goes p e below s Q kc ks (T.setTop (mkF m pc Ls (.int z :: rest))) := by
  obtain ⟨fs, hr, hrun, hended, hW, hsame⟩ := X.leave (v := some (.int z)) (fun h => by rw [hret] at h; cases h)
  exact ⟨_, _, retN X hx hret ht hd (by rw [hz]; exact hr), hrun, hended, _, _, rfl, hQ, ⟨_, rfl⟩, hW, hsame.mono h1 h2⟩
theorem Goes.retV (X : Stand p l e R s m args below meth c T locs cells slots) (hx : p.tables.exec = Jvm.exec) (hlk : meth.locks = false) (hret : meth.sig.returnType = none) {pc : Nat} {Ls : Array Slot} (hd : decode c.code pc = .ok (.return_, 1)) (hQ : Q none T.heap locs) (h1 : cells ≤ kc) (h2 : slots ≤ ks) : Goes p e below s Q kc ks (T.setTop (mkF m pc Ls [])) := by
  obtain ⟨fs, hr, hrun, hended, hW, hsame⟩ := X.leave (v := none) (fun _ => rfl)
  exact ⟨_, _, X.returnOut hx hret hd hr, hrun, hended, _, _, rfl, hQ, ⟨_, rfl⟩, hW, hsame.mono h1 h2⟩
end OwnGoes
theorem tltL {x y : Int64} (h : x < y) : ifCond.holds .lt (lcmpW x y) = true ∧ ifCond.holds .ge (lcmpW x y) = false ∧ ifCond.holds .gt (lcmpW y x) = true ∧ ifCond.holds .le (lcmpW y x) = false :=
  ⟨(if0 _ _).trans (tlt ((lw_lt x y).mpr h)).1, (if0 _ _).trans (tlt ((lw_lt x y).mpr h)).2.1, (if0 _ _).trans (tlt ((lw_gt y x).mpr h)).2.2.1, (if0 _ _).trans (tlt ((lw_gt y x).mpr h)).2.2.2⟩
theorem fltL {x y : Int64} (h : ¬ x < y) : ifCond.holds .lt (lcmpW x y) = false ∧ ifCond.holds .ge (lcmpW x y) = true ∧ ifCond.holds .gt (lcmpW y x) = false ∧ ifCond.holds .le (lcmpW y x) = true :=
  ⟨(if0 _ _).trans (flt fun q => h ((lw_lt x y).mp q)).1, (if0 _ _).trans (flt fun q => h ((lw_lt x y).mp q)).2.1, (if0 _ _).trans (flt fun q => h ((lw_gt y x).mp q)).2.2.1, (if0 _ _).trans (flt fun q => h ((lw_gt y x).mp q)).2.2.2⟩
theorem teqL {x y : Int64} (h : x = y) : ifCond.holds .eq (lcmpW x y) = true ∧ ifCond.holds .ne (lcmpW x y) = false :=
  ⟨(if0 _ _).trans (teq ((lw_eq x y).mpr h)).1, (if0 _ _).trans (teq ((lw_eq x y).mpr h)).2⟩
theorem feqL {x y : Int64} (h : ¬ x = y) : ifCond.holds .eq (lcmpW x y) = false ∧ ifCond.holds .ne (lcmpW x y) = true :=
  ⟨(if0 _ _).trans (feq fun q => h ((lw_eq x y).mp q)).1, (if0 _ _).trans (feq fun q => h ((lw_eq x y).mp q)).2⟩
def own_look {α : Type} (i : Nat) : List (Nat × α) → Option α
  | [] => none
  | (j, v) :: r => if i = j then some v else own_look i r
theorem own_look_mem {α : Type} {i : Nat} {v : α} : ∀ {L : List (Nat × α)}, own_look i L = some v → (i, v) ∈ L
  | [], h => by cases h
  | (j, w) :: r, h => by
    unfold own_look at h
    by_cases q : i = j
    · rw [if_pos q] at h; cases h; subst q; exact List.mem_cons_self
    · rw [if_neg q] at h; exact List.mem_cons_of_mem _ (own_look_mem h)
def own_pstep (ci : List (Nat × Int32)) (cl : List (Nat × Int64)) (i : Instr) (n : Nat) (g : JFrame) : Option JFrame :=
  match i with
  | .iload_n k => if n = 1 then (match g.locals[k.val]? with | some (.val (.int v)) => some { g with pc := g.pc + 1, stack := .int v :: g.stack } | _ => none) else none
  | .iload k => if n = 2 then (match g.locals[k]? with | some (.val (.int v)) => some { g with pc := g.pc + 2, stack := .int v :: g.stack } | _ => none) else none
  | .lload_n k => if n = 1 then (match g.locals[k.val]? with | some (.val (.long v)) => some { g with pc := g.pc + 1, stack := .long v :: g.stack } | _ => none) else none
  | .lload k => if n = 2 then (match g.locals[k]? with | some (.val (.long v)) => some { g with pc := g.pc + 2, stack := .long v :: g.stack } | _ => none) else none
  | .aload_n k => if n = 1 then (match g.locals[k.val]? with | some (.val v) => if v.isRef = true then some { g with pc := g.pc + 1, stack := v :: g.stack } else none | _ => none) else none
  | .aload k => if n = 2 then (match g.locals[k]? with | some (.val v) => if v.isRef = true then some { g with pc := g.pc + 2, stack := v :: g.stack } else none | _ => none) else none
  | .istore_n k => if n = 1 then (match g.stack with | .int x :: rest => (match storeLocals g.locals k.val (.int x) with | some l' => some { g with pc := g.pc + 1, stack := rest, locals := l' } | none => none) | _ => none) else none
  | .istore k => if n = 2 then (match g.stack with | .int x :: rest => (match storeLocals g.locals k (.int x) with | some l' => some { g with pc := g.pc + 2, stack := rest, locals := l' } | none => none) | _ => none) else none
  | .lstore_n k => if n = 1 then (match g.stack with | .long x :: rest => (match storeLocals g.locals k.val (.long x) with | some l' => some { g with pc := g.pc + 1, stack := rest, locals := l' } | none => none) | _ => none) else none
  | .lstore k => if n = 2 then (match g.stack with | .long x :: rest => (match storeLocals g.locals k (.long x) with | some l' => some { g with pc := g.pc + 2, stack := rest, locals := l' } | none => none) | _ => none) else none
  | .astore_n k => if n = 1 then (match g.stack with | x :: rest => (if x.isRef = true then (match storeLocals g.locals k.val x with | some l' => some { g with pc := g.pc + 1, stack := rest, locals := l' } | none => none) else none) | _ => none) else none
  | .astore k => if n = 2 then (match g.stack with | x :: rest => (if x.isRef = true then (match storeLocals g.locals k x with | some l' => some { g with pc := g.pc + 2, stack := rest, locals := l' } | none => none) else none) | _ => none) else none
  | .iconst i => if n = 1 then (some { g with pc := g.pc + 1, stack := .int (Int32.ofInt i) :: g.stack }) else none
  | .bipush i => if n = 2 then (some { g with pc := g.pc + 2, stack := .int (Int8.ofInt i).toInt32 :: g.stack }) else none
  | .sipush i => if n = 3 then (some { g with pc := g.pc + 3, stack := .int (Int16.ofInt i).toInt32 :: g.stack }) else none
  | .lconst k => if n = 1 then (some { g with pc := g.pc + 1, stack := .long (Int64.ofNat k) :: g.stack }) else none
  | .aconst_null => if n = 1 then (some { g with pc := g.pc + 1, stack := .null :: g.stack }) else none
  | .iadd => if n = 1 then (match g.stack with | .int y :: .int x :: rest => some { g with pc := g.pc + 1, stack := .int (x + y) :: rest } | _ => none) else none
  | .ladd => if n = 1 then (match g.stack with | .long y :: .long x :: rest => some { g with pc := g.pc + 1, stack := .long (x + y) :: rest } | _ => none) else none
  | .isub => if n = 1 then (match g.stack with | .int y :: .int x :: rest => some { g with pc := g.pc + 1, stack := .int (x - y) :: rest } | _ => none) else none
  | .lsub => if n = 1 then (match g.stack with | .long y :: .long x :: rest => some { g with pc := g.pc + 1, stack := .long (x - y) :: rest } | _ => none) else none
  | .imul => if n = 1 then (match g.stack with | .int y :: .int x :: rest => some { g with pc := g.pc + 1, stack := .int (x * y) :: rest } | _ => none) else none
  | .lmul => if n = 1 then (match g.stack with | .long y :: .long x :: rest => some { g with pc := g.pc + 1, stack := .long (x * y) :: rest } | _ => none) else none
  | .iand => if n = 1 then (match g.stack with | .int y :: .int x :: rest => some { g with pc := g.pc + 1, stack := .int (x &&& y) :: rest } | _ => none) else none
  | .land => if n = 1 then (match g.stack with | .long y :: .long x :: rest => some { g with pc := g.pc + 1, stack := .long (x &&& y) :: rest } | _ => none) else none
  | .ior => if n = 1 then (match g.stack with | .int y :: .int x :: rest => some { g with pc := g.pc + 1, stack := .int (x ||| y) :: rest } | _ => none) else none
  | .lor => if n = 1 then (match g.stack with | .long y :: .long x :: rest => some { g with pc := g.pc + 1, stack := .long (x ||| y) :: rest } | _ => none) else none
  | .ixor => if n = 1 then (match g.stack with | .int y :: .int x :: rest => some { g with pc := g.pc + 1, stack := .int (x ^^^ y) :: rest } | _ => none) else none
  | .lxor => if n = 1 then (match g.stack with | .long y :: .long x :: rest => some { g with pc := g.pc + 1, stack := .long (x ^^^ y) :: rest } | _ => none) else none
  | .ishl => if n = 1 then (match g.stack with | .int y :: .int x :: rest => some { g with pc := g.pc + 1, stack := .int (x <<< (y &&& 31)) :: rest } | _ => none) else none
  | .ishr => if n = 1 then (match g.stack with | .int y :: .int x :: rest => some { g with pc := g.pc + 1, stack := .int (x >>> (y &&& 31)) :: rest } | _ => none) else none
  | .iushr => if n = 1 then (match g.stack with | .int y :: .int x :: rest => some { g with pc := g.pc + 1, stack := .int ((x.toUInt32 >>> (y &&& 31).toUInt32).toInt32) :: rest } | _ => none) else none
  | .lshl => if n = 1 then (match g.stack with | .int y :: .long x :: rest => some { g with pc := g.pc + 1, stack := .long (x <<< (y &&& 0x3f).toInt64) :: rest } | _ => none) else none
  | .lshr => if n = 1 then (match g.stack with | .int y :: .long x :: rest => some { g with pc := g.pc + 1, stack := .long (x >>> (y &&& 0x3f).toInt64) :: rest } | _ => none) else none
  | .lushr => if n = 1 then (match g.stack with | .int y :: .long x :: rest => some { g with pc := g.pc + 1, stack := .long ((x.toUInt64 >>> (y &&& 0x3f).toInt64.toUInt64).toInt64) :: rest } | _ => none) else none
  | .lcmp => if n = 1 then (match g.stack with | .long y :: .long x :: rest => some { g with pc := g.pc + 1, stack := .int (if x > y then 1 else if x = y then 0 else -1) :: rest } | _ => none) else none
  | .ineg => if n = 1 then (match g.stack with | .int v :: rest => some { g with pc := g.pc + 1, stack := .int (-v) :: rest } | _ => none) else none
  | .lneg => if n = 1 then (match g.stack with | .long v :: rest => some { g with pc := g.pc + 1, stack := .long (-v) :: rest } | _ => none) else none
  | .i2l => if n = 1 then (match g.stack with | .int v :: rest => some { g with pc := g.pc + 1, stack := .long (v.toInt64) :: rest } | _ => none) else none
  | .l2i => if n = 1 then (match g.stack with | .long v :: rest => some { g with pc := g.pc + 1, stack := .int (v.toInt32) :: rest } | _ => none) else none
  | .i2b => if n = 1 then (match g.stack with | .int v :: rest => some { g with pc := g.pc + 1, stack := .int (v.toInt8.toInt32) :: rest } | _ => none) else none
  | .i2c => if n = 1 then (match g.stack with | .int v :: rest => some { g with pc := g.pc + 1, stack := .int (v.toUInt32.toUInt16.toUInt32.toInt32) :: rest } | _ => none) else none
  | .i2s => if n = 1 then (match g.stack with | .int v :: rest => some { g with pc := g.pc + 1, stack := .int (v.toInt16.toInt32) :: rest } | _ => none) else none
  | .iinc k cst => if n = 3 then (match g.locals[k]? with | some (.val (.int x)) => (match storeLocals g.locals k (.int (x + Int32.ofInt cst)) with | some l' => some { g with pc := g.pc + 3, locals := l' } | none => none) | _ => none) else none
  | .dup => if n = 1 then (match g.stack with | x :: rest => (if x.category = 1 then some { g with pc := g.pc + 1, stack := x :: x :: rest } else none) | _ => none) else none
  | .pop => if n = 1 then (match g.stack with | x :: rest => (if x.category = 1 then some { g with pc := g.pc + 1, stack := rest } else none) | _ => none) else none
  | .goto o => if n = 3 then (if 0 ≤ (g.pc : Int) + o then some { g with pc := ((g.pc : Int) + o).toNat } else none) else none
  | .ldc i => if n = 2 then (match own_look i ci with | some v => some { g with pc := g.pc + 2, stack := .int v :: g.stack } | none => none) else none
  | .ldc_w i => if n = 3 then (match own_look i ci with | some v => some { g with pc := g.pc + 3, stack := .int v :: g.stack } | none => none) else none
  | .ldc2_w i => if n = 3 then (match own_look i cl with | some v => some { g with pc := g.pc + 3, stack := .long v :: g.stack } | none => none) else none
  | .idiv => if n = 1 then (match g.stack with | .int y :: .int x :: rest => (if y = 0 then none else some { g with pc := g.pc + 1, stack := .int (x / y) :: rest }) | _ => none) else none
  | .irem => if n = 1 then (match g.stack with | .int y :: .int x :: rest => (if y = 0 then none else some { g with pc := g.pc + 1, stack := .int (x - (x / y) * y) :: rest }) | _ => none) else none
  | .ldiv => if n = 1 then (match g.stack with | .long y :: .long x :: rest => (if y = 0 then none else some { g with pc := g.pc + 1, stack := .long (x / y) :: rest }) | _ => none) else none
  | .lrem => if n = 1 then (match g.stack with | .long y :: .long x :: rest => (if y = 0 then none else some { g with pc := g.pc + 1, stack := .long (x - (x / y) * y) :: rest }) | _ => none) else none
  | _ => none
section OwnRun
variable {p : Program} {l : Launch} {e : Env} {R : Room} {s : State} {m : MethodId} {args : Array Value} {below : List Frame} {meth : Method} {c : Code} {T target : State} {locs : List Loc} {cells slots kc ks : Nat} {own : String} {ci : List (Nat × Int32)} {cl : List (Nat × Int64)} {Q : Option Value → Heap → List Loc → Prop}
set_option maxHeartbeats 4000000 in
theorem own_pstep_ok (X : Stand p l e R s m args below meth c T locs cells slots) (hx : p.tables.exec = Jvm.exec) (hown : s.vm.findClass own = some m.cls) (hci : ∀ i v, (i, v) ∈ ci → (Cond.constant own i v).before args s = true) (hcl : ∀ i v, (i, v) ∈ cl → (Cond.constantLong own i v).before args s = true)
    {g g' : JFrame} (hg : g.method = m) {i : Instr} {n : Nat} (hd : decode c.code g.pc = .ok (i, n)) (hp : own_pstep ci cl i n g = some g') : (∀ target, Steps p.tables e below (T.setTop g') target → Steps p.tables e below (T.setTop g) target) ∧ g'.method = m := by
  cases i
  all_goals first
    | (exact absurd hp (by intro q; cases q))
    | skip
  case iload_n k =>
    by_cases hn : n = 1
    · subst hn
      replace hp : (match g.locals[k.val]? with | some (.val (.int v)) => some { g with pc := g.pc + 1, stack := .int v :: g.stack } | _ => none) = some g' := hp
      split at hp
      · skip
        cases hp
        exact ⟨fun _ hr => XS.iloadN X.here hx hg hd (by assumption) hr, hg⟩
      · cases hp
    · exact absurd hp (by intro q; rw [show own_pstep ci cl (.iload_n k) n g = none from if_neg hn] at q; cases q)
  case iload k =>
    by_cases hn : n = 2
    · subst hn
      replace hp : (match g.locals[k]? with | some (.val (.int v)) => some { g with pc := g.pc + 2, stack := .int v :: g.stack } | _ => none) = some g' := hp
      split at hp
      · skip
        cases hp
        exact ⟨fun _ hr => XS.iload X.here hx hg hd (by assumption) hr, hg⟩
      · cases hp
    · exact absurd hp (by intro q; rw [show own_pstep ci cl (.iload k) n g = none from if_neg hn] at q; cases q)
  case lload_n k =>
    by_cases hn : n = 1
    · subst hn
      replace hp : (match g.locals[k.val]? with | some (.val (.long v)) => some { g with pc := g.pc + 1, stack := .long v :: g.stack } | _ => none) = some g' := hp
      split at hp
      · skip
        cases hp
        exact ⟨fun _ hr => XS.lloadN X.here hx hg hd (by assumption) hr, hg⟩
      · cases hp
    · exact absurd hp (by intro q; rw [show own_pstep ci cl (.lload_n k) n g = none from if_neg hn] at q; cases q)
  case lload k =>
    by_cases hn : n = 2
    · subst hn
      replace hp : (match g.locals[k]? with | some (.val (.long v)) => some { g with pc := g.pc + 2, stack := .long v :: g.stack } | _ => none) = some g' := hp
      split at hp
      · skip
        cases hp
        exact ⟨fun _ hr => XS.lload X.here hx hg hd (by assumption) hr, hg⟩
      · cases hp
    · exact absurd hp (by intro q; rw [show own_pstep ci cl (.lload k) n g = none from if_neg hn] at q; cases q)
  case aload_n k =>
    by_cases hn : n = 1
    · subst hn
      replace hp : (match g.locals[k.val]? with | some (.val v) => if v.isRef = true then some { g with pc := g.pc + 1, stack := v :: g.stack } else none | _ => none) = some g' := hp
      split at hp
      · skip
        split at hp
        · skip
          cases hp
          exact ⟨fun _ hr => XS.aloadN X.here hx hg hd (by assumption) (by assumption) hr, hg⟩
        · cases hp
      · cases hp
    · exact absurd hp (by intro q; rw [show own_pstep ci cl (.aload_n k) n g = none from if_neg hn] at q; cases q)
  case aload k =>
    by_cases hn : n = 2
    · subst hn
      replace hp : (match g.locals[k]? with | some (.val v) => if v.isRef = true then some { g with pc := g.pc + 2, stack := v :: g.stack } else none | _ => none) = some g' := hp
      split at hp
      · skip
        split at hp
        · skip
          cases hp
          exact ⟨fun _ hr => XS.aload X.here hx hg hd (by assumption) (by assumption) hr, hg⟩
        · cases hp
      · cases hp
    · exact absurd hp (by intro q; rw [show own_pstep ci cl (.aload k) n g = none from if_neg hn] at q; cases q)
  case istore_n k =>
    by_cases hn : n = 1
    · subst hn
      replace hp : (match g.stack with | .int x :: rest => (match storeLocals g.locals k.val (.int x) with | some l' => some { g with pc := g.pc + 1, stack := rest, locals := l' } | none => none) | _ => none) = some g' := hp
      split at hp
      · skip
        split at hp
        · skip
          cases hp
          exact ⟨fun _ hr => XS.istoreN X.here hx hg hd (by assumption) (by assumption) hr, hg⟩
        · cases hp
      · cases hp
    · exact absurd hp (by intro q; rw [show own_pstep ci cl (.istore_n k) n g = none from if_neg hn] at q; cases q)
  case istore k =>
    by_cases hn : n = 2
    · subst hn
      replace hp : (match g.stack with | .int x :: rest => (match storeLocals g.locals k (.int x) with | some l' => some { g with pc := g.pc + 2, stack := rest, locals := l' } | none => none) | _ => none) = some g' := hp
      split at hp
      · skip
        split at hp
        · skip
          cases hp
          exact ⟨fun _ hr => XS.istore X.here hx hg hd (by assumption) (by assumption) hr, hg⟩
        · cases hp
      · cases hp
    · exact absurd hp (by intro q; rw [show own_pstep ci cl (.istore k) n g = none from if_neg hn] at q; cases q)
  case lstore_n k =>
    by_cases hn : n = 1
    · subst hn
      replace hp : (match g.stack with | .long x :: rest => (match storeLocals g.locals k.val (.long x) with | some l' => some { g with pc := g.pc + 1, stack := rest, locals := l' } | none => none) | _ => none) = some g' := hp
      split at hp
      · skip
        split at hp
        · skip
          cases hp
          exact ⟨fun _ hr => XS.lstoreN X.here hx hg hd (by assumption) (by assumption) hr, hg⟩
        · cases hp
      · cases hp
    · exact absurd hp (by intro q; rw [show own_pstep ci cl (.lstore_n k) n g = none from if_neg hn] at q; cases q)
  case lstore k =>
    by_cases hn : n = 2
    · subst hn
      replace hp : (match g.stack with | .long x :: rest => (match storeLocals g.locals k (.long x) with | some l' => some { g with pc := g.pc + 2, stack := rest, locals := l' } | none => none) | _ => none) = some g' := hp
      split at hp
      · skip
        split at hp
        · skip
          cases hp
          exact ⟨fun _ hr => XS.lstore X.here hx hg hd (by assumption) (by assumption) hr, hg⟩
        · cases hp
      · cases hp
    · exact absurd hp (by intro q; rw [show own_pstep ci cl (.lstore k) n g = none from if_neg hn] at q; cases q)
  case astore_n k =>
    by_cases hn : n = 1
    · subst hn
      replace hp : (match g.stack with | x :: rest => (if x.isRef = true then (match storeLocals g.locals k.val x with | some l' => some { g with pc := g.pc + 1, stack := rest, locals := l' } | none => none) else none) | _ => none) = some g' := hp
      split at hp
      · skip
        split at hp
        · skip
          split at hp
          · skip
            cases hp
            exact ⟨fun _ hr => XS.astoreN X.here hx hg hd (by assumption) (by assumption) (by assumption) hr, hg⟩
          · cases hp
        · cases hp
      · cases hp
    · exact absurd hp (by intro q; rw [show own_pstep ci cl (.astore_n k) n g = none from if_neg hn] at q; cases q)
  case astore k =>
    by_cases hn : n = 2
    · subst hn
      replace hp : (match g.stack with | x :: rest => (if x.isRef = true then (match storeLocals g.locals k x with | some l' => some { g with pc := g.pc + 2, stack := rest, locals := l' } | none => none) else none) | _ => none) = some g' := hp
      split at hp
      · skip
        split at hp
        · skip
          split at hp
          · skip
            cases hp
            exact ⟨fun _ hr => XS.astore X.here hx hg hd (by assumption) (by assumption) (by assumption) hr, hg⟩
          · cases hp
        · cases hp
      · cases hp
    · exact absurd hp (by intro q; rw [show own_pstep ci cl (.astore k) n g = none from if_neg hn] at q; cases q)
  case iconst i =>
    by_cases hn : n = 1
    · subst hn
      replace hp : (some { g with pc := g.pc + 1, stack := .int (Int32.ofInt i) :: g.stack }) = some g' := hp
      cases hp
      exact ⟨fun _ hr => XS.iconst X.here hx hg hd hr, hg⟩
    · exact absurd hp (by intro q; rw [show own_pstep ci cl (.iconst i) n g = none from if_neg hn] at q; cases q)
  case bipush i =>
    by_cases hn : n = 2
    · subst hn
      replace hp : (some { g with pc := g.pc + 2, stack := .int (Int8.ofInt i).toInt32 :: g.stack }) = some g' := hp
      cases hp
      exact ⟨fun _ hr => XS.bipush X.here hx hg hd hr, hg⟩
    · exact absurd hp (by intro q; rw [show own_pstep ci cl (.bipush i) n g = none from if_neg hn] at q; cases q)
  case sipush i =>
    by_cases hn : n = 3
    · subst hn
      replace hp : (some { g with pc := g.pc + 3, stack := .int (Int16.ofInt i).toInt32 :: g.stack }) = some g' := hp
      cases hp
      exact ⟨fun _ hr => XS.sipush X.here hx hg hd hr, hg⟩
    · exact absurd hp (by intro q; rw [show own_pstep ci cl (.sipush i) n g = none from if_neg hn] at q; cases q)
  case lconst k =>
    by_cases hn : n = 1
    · subst hn
      replace hp : (some { g with pc := g.pc + 1, stack := .long (Int64.ofNat k) :: g.stack }) = some g' := hp
      cases hp
      exact ⟨fun _ hr => XS.lconst X.here hx hg hd hr, hg⟩
    · exact absurd hp (by intro q; rw [show own_pstep ci cl (.lconst k) n g = none from if_neg hn] at q; cases q)
  case aconst_null =>
    by_cases hn : n = 1
    · subst hn
      replace hp : (some { g with pc := g.pc + 1, stack := .null :: g.stack }) = some g' := hp
      cases hp
      exact ⟨fun _ hr => XS.aconstNull X.here hx hg hd hr, hg⟩
    · exact absurd hp (by intro q; rw [show own_pstep ci cl (.aconst_null) n g = none from if_neg hn] at q; cases q)
  case iadd =>
    by_cases hn : n = 1
    · subst hn
      replace hp : (match g.stack with | .int y :: .int x :: rest => some { g with pc := g.pc + 1, stack := .int (x + y) :: rest } | _ => none) = some g' := hp
      split at hp
      · skip
        cases hp
        exact ⟨fun _ hr => XS.iadd X.here hx hg hd (by assumption) hr, hg⟩
      · cases hp
    · exact absurd hp (by intro q; rw [show own_pstep ci cl (.iadd) n g = none from if_neg hn] at q; cases q)
  case ladd =>
    by_cases hn : n = 1
    · subst hn
      replace hp : (match g.stack with | .long y :: .long x :: rest => some { g with pc := g.pc + 1, stack := .long (x + y) :: rest } | _ => none) = some g' := hp
      split at hp
      · skip
        cases hp
        exact ⟨fun _ hr => XS.ladd X.here hx hg hd (by assumption) hr, hg⟩
      · cases hp
    · exact absurd hp (by intro q; rw [show own_pstep ci cl (.ladd) n g = none from if_neg hn] at q; cases q)
  case isub =>
    by_cases hn : n = 1
    · subst hn
      replace hp : (match g.stack with | .int y :: .int x :: rest => some { g with pc := g.pc + 1, stack := .int (x - y) :: rest } | _ => none) = some g' := hp
      split at hp
      · skip
        cases hp
        exact ⟨fun _ hr => XS.isub X.here hx hg hd (by assumption) hr, hg⟩
      · cases hp
    · exact absurd hp (by intro q; rw [show own_pstep ci cl (.isub) n g = none from if_neg hn] at q; cases q)
  case lsub =>
    by_cases hn : n = 1
    · subst hn
      replace hp : (match g.stack with | .long y :: .long x :: rest => some { g with pc := g.pc + 1, stack := .long (x - y) :: rest } | _ => none) = some g' := hp
      split at hp
      · skip
        cases hp
        exact ⟨fun _ hr => XS.lsub X.here hx hg hd (by assumption) hr, hg⟩
      · cases hp
    · exact absurd hp (by intro q; rw [show own_pstep ci cl (.lsub) n g = none from if_neg hn] at q; cases q)
  case imul =>
    by_cases hn : n = 1
    · subst hn
      replace hp : (match g.stack with | .int y :: .int x :: rest => some { g with pc := g.pc + 1, stack := .int (x * y) :: rest } | _ => none) = some g' := hp
      split at hp
      · skip
        cases hp
        exact ⟨fun _ hr => XS.imul X.here hx hg hd (by assumption) hr, hg⟩
      · cases hp
    · exact absurd hp (by intro q; rw [show own_pstep ci cl (.imul) n g = none from if_neg hn] at q; cases q)
  case lmul =>
    by_cases hn : n = 1
    · subst hn
      replace hp : (match g.stack with | .long y :: .long x :: rest => some { g with pc := g.pc + 1, stack := .long (x * y) :: rest } | _ => none) = some g' := hp
      split at hp
      · skip
        cases hp
        exact ⟨fun _ hr => XS.lmul X.here hx hg hd (by assumption) hr, hg⟩
      · cases hp
    · exact absurd hp (by intro q; rw [show own_pstep ci cl (.lmul) n g = none from if_neg hn] at q; cases q)
  case iand =>
    by_cases hn : n = 1
    · subst hn
      replace hp : (match g.stack with | .int y :: .int x :: rest => some { g with pc := g.pc + 1, stack := .int (x &&& y) :: rest } | _ => none) = some g' := hp
      split at hp
      · skip
        cases hp
        exact ⟨fun _ hr => XS.iand X.here hx hg hd (by assumption) hr, hg⟩
      · cases hp
    · exact absurd hp (by intro q; rw [show own_pstep ci cl (.iand) n g = none from if_neg hn] at q; cases q)
  case land =>
    by_cases hn : n = 1
    · subst hn
      replace hp : (match g.stack with | .long y :: .long x :: rest => some { g with pc := g.pc + 1, stack := .long (x &&& y) :: rest } | _ => none) = some g' := hp
      split at hp
      · skip
        cases hp
        exact ⟨fun _ hr => XS.land X.here hx hg hd (by assumption) hr, hg⟩
      · cases hp
    · exact absurd hp (by intro q; rw [show own_pstep ci cl (.land) n g = none from if_neg hn] at q; cases q)
  case ior =>
    by_cases hn : n = 1
    · subst hn
      replace hp : (match g.stack with | .int y :: .int x :: rest => some { g with pc := g.pc + 1, stack := .int (x ||| y) :: rest } | _ => none) = some g' := hp
      split at hp
      · skip
        cases hp
        exact ⟨fun _ hr => XS.ior X.here hx hg hd (by assumption) hr, hg⟩
      · cases hp
    · exact absurd hp (by intro q; rw [show own_pstep ci cl (.ior) n g = none from if_neg hn] at q; cases q)
  case lor =>
    by_cases hn : n = 1
    · subst hn
      replace hp : (match g.stack with | .long y :: .long x :: rest => some { g with pc := g.pc + 1, stack := .long (x ||| y) :: rest } | _ => none) = some g' := hp
      split at hp
      · skip
        cases hp
        exact ⟨fun _ hr => XS.lor X.here hx hg hd (by assumption) hr, hg⟩
      · cases hp
    · exact absurd hp (by intro q; rw [show own_pstep ci cl (.lor) n g = none from if_neg hn] at q; cases q)
  case ixor =>
    by_cases hn : n = 1
    · subst hn
      replace hp : (match g.stack with | .int y :: .int x :: rest => some { g with pc := g.pc + 1, stack := .int (x ^^^ y) :: rest } | _ => none) = some g' := hp
      split at hp
      · skip
        cases hp
        exact ⟨fun _ hr => XS.ixor X.here hx hg hd (by assumption) hr, hg⟩
      · cases hp
    · exact absurd hp (by intro q; rw [show own_pstep ci cl (.ixor) n g = none from if_neg hn] at q; cases q)
  case lxor =>
    by_cases hn : n = 1
    · subst hn
      replace hp : (match g.stack with | .long y :: .long x :: rest => some { g with pc := g.pc + 1, stack := .long (x ^^^ y) :: rest } | _ => none) = some g' := hp
      split at hp
      · skip
        cases hp
        exact ⟨fun _ hr => XS.lxor X.here hx hg hd (by assumption) hr, hg⟩
      · cases hp
    · exact absurd hp (by intro q; rw [show own_pstep ci cl (.lxor) n g = none from if_neg hn] at q; cases q)
  case ishl =>
    by_cases hn : n = 1
    · subst hn
      replace hp : (match g.stack with | .int y :: .int x :: rest => some { g with pc := g.pc + 1, stack := .int (x <<< (y &&& 31)) :: rest } | _ => none) = some g' := hp
      split at hp
      · skip
        cases hp
        exact ⟨fun _ hr => XS.ishl X.here hx hg hd (by assumption) hr, hg⟩
      · cases hp
    · exact absurd hp (by intro q; rw [show own_pstep ci cl (.ishl) n g = none from if_neg hn] at q; cases q)
  case ishr =>
    by_cases hn : n = 1
    · subst hn
      replace hp : (match g.stack with | .int y :: .int x :: rest => some { g with pc := g.pc + 1, stack := .int (x >>> (y &&& 31)) :: rest } | _ => none) = some g' := hp
      split at hp
      · skip
        cases hp
        exact ⟨fun _ hr => XS.ishr X.here hx hg hd (by assumption) hr, hg⟩
      · cases hp
    · exact absurd hp (by intro q; rw [show own_pstep ci cl (.ishr) n g = none from if_neg hn] at q; cases q)
  case iushr =>
    by_cases hn : n = 1
    · subst hn
      replace hp : (match g.stack with | .int y :: .int x :: rest => some { g with pc := g.pc + 1, stack := .int ((x.toUInt32 >>> (y &&& 31).toUInt32).toInt32) :: rest } | _ => none) = some g' := hp
      split at hp
      · skip
        cases hp
        exact ⟨fun _ hr => XS.iushr X.here hx hg hd (by assumption) hr, hg⟩
      · cases hp
    · exact absurd hp (by intro q; rw [show own_pstep ci cl (.iushr) n g = none from if_neg hn] at q; cases q)
  case lshl =>
    by_cases hn : n = 1
    · subst hn
      replace hp : (match g.stack with | .int y :: .long x :: rest => some { g with pc := g.pc + 1, stack := .long (x <<< (y &&& 0x3f).toInt64) :: rest } | _ => none) = some g' := hp
      split at hp
      · skip
        cases hp
        exact ⟨fun _ hr => XS.lshl X.here hx hg hd (by assumption) hr, hg⟩
      · cases hp
    · exact absurd hp (by intro q; rw [show own_pstep ci cl (.lshl) n g = none from if_neg hn] at q; cases q)
  case lshr =>
    by_cases hn : n = 1
    · subst hn
      replace hp : (match g.stack with | .int y :: .long x :: rest => some { g with pc := g.pc + 1, stack := .long (x >>> (y &&& 0x3f).toInt64) :: rest } | _ => none) = some g' := hp
      split at hp
      · skip
        cases hp
        exact ⟨fun _ hr => XS.lshr X.here hx hg hd (by assumption) hr, hg⟩
      · cases hp
    · exact absurd hp (by intro q; rw [show own_pstep ci cl (.lshr) n g = none from if_neg hn] at q; cases q)
  case lushr =>
    by_cases hn : n = 1
    · subst hn
      replace hp : (match g.stack with | .int y :: .long x :: rest => some { g with pc := g.pc + 1, stack := .long ((x.toUInt64 >>> (y &&& 0x3f).toInt64.toUInt64).toInt64) :: rest } | _ => none) = some g' := hp
      split at hp
      · skip
        cases hp
        exact ⟨fun _ hr => XS.lushr X.here hx hg hd (by assumption) hr, hg⟩
      · cases hp
    · exact absurd hp (by intro q; rw [show own_pstep ci cl (.lushr) n g = none from if_neg hn] at q; cases q)
  case lcmp =>
    by_cases hn : n = 1
    · subst hn
      replace hp : (match g.stack with | .long y :: .long x :: rest => some { g with pc := g.pc + 1, stack := .int (if x > y then 1 else if x = y then 0 else -1) :: rest } | _ => none) = some g' := hp
      split at hp
      · skip
        cases hp
        exact ⟨fun _ hr => XS.lcmp X.here hx hg hd (by assumption) hr, hg⟩
      · cases hp
    · exact absurd hp (by intro q; rw [show own_pstep ci cl (.lcmp) n g = none from if_neg hn] at q; cases q)
  case ineg =>
    by_cases hn : n = 1
    · subst hn
      replace hp : (match g.stack with | .int v :: rest => some { g with pc := g.pc + 1, stack := .int (-v) :: rest } | _ => none) = some g' := hp
      split at hp
      · skip
        cases hp
        exact ⟨fun _ hr => XS.ineg X.here hx hg hd (by assumption) hr, hg⟩
      · cases hp
    · exact absurd hp (by intro q; rw [show own_pstep ci cl (.ineg) n g = none from if_neg hn] at q; cases q)
  case lneg =>
    by_cases hn : n = 1
    · subst hn
      replace hp : (match g.stack with | .long v :: rest => some { g with pc := g.pc + 1, stack := .long (-v) :: rest } | _ => none) = some g' := hp
      split at hp
      · skip
        cases hp
        exact ⟨fun _ hr => XS.lneg X.here hx hg hd (by assumption) hr, hg⟩
      · cases hp
    · exact absurd hp (by intro q; rw [show own_pstep ci cl (.lneg) n g = none from if_neg hn] at q; cases q)
  case i2l =>
    by_cases hn : n = 1
    · subst hn
      replace hp : (match g.stack with | .int v :: rest => some { g with pc := g.pc + 1, stack := .long (v.toInt64) :: rest } | _ => none) = some g' := hp
      split at hp
      · skip
        cases hp
        exact ⟨fun _ hr => XS.i2l X.here hx hg hd (by assumption) hr, hg⟩
      · cases hp
    · exact absurd hp (by intro q; rw [show own_pstep ci cl (.i2l) n g = none from if_neg hn] at q; cases q)
  case l2i =>
    by_cases hn : n = 1
    · subst hn
      replace hp : (match g.stack with | .long v :: rest => some { g with pc := g.pc + 1, stack := .int (v.toInt32) :: rest } | _ => none) = some g' := hp
      split at hp
      · skip
        cases hp
        exact ⟨fun _ hr => XS.l2i X.here hx hg hd (by assumption) hr, hg⟩
      · cases hp
    · exact absurd hp (by intro q; rw [show own_pstep ci cl (.l2i) n g = none from if_neg hn] at q; cases q)
  case i2b =>
    by_cases hn : n = 1
    · subst hn
      replace hp : (match g.stack with | .int v :: rest => some { g with pc := g.pc + 1, stack := .int (v.toInt8.toInt32) :: rest } | _ => none) = some g' := hp
      split at hp
      · skip
        cases hp
        exact ⟨fun _ hr => XS.i2b X.here hx hg hd (by assumption) hr, hg⟩
      · cases hp
    · exact absurd hp (by intro q; rw [show own_pstep ci cl (.i2b) n g = none from if_neg hn] at q; cases q)
  case i2c =>
    by_cases hn : n = 1
    · subst hn
      replace hp : (match g.stack with | .int v :: rest => some { g with pc := g.pc + 1, stack := .int (v.toUInt32.toUInt16.toUInt32.toInt32) :: rest } | _ => none) = some g' := hp
      split at hp
      · skip
        cases hp
        exact ⟨fun _ hr => XS.i2c X.here hx hg hd (by assumption) hr, hg⟩
      · cases hp
    · exact absurd hp (by intro q; rw [show own_pstep ci cl (.i2c) n g = none from if_neg hn] at q; cases q)
  case i2s =>
    by_cases hn : n = 1
    · subst hn
      replace hp : (match g.stack with | .int v :: rest => some { g with pc := g.pc + 1, stack := .int (v.toInt16.toInt32) :: rest } | _ => none) = some g' := hp
      split at hp
      · skip
        cases hp
        exact ⟨fun _ hr => XS.i2s X.here hx hg hd (by assumption) hr, hg⟩
      · cases hp
    · exact absurd hp (by intro q; rw [show own_pstep ci cl (.i2s) n g = none from if_neg hn] at q; cases q)
  case iinc k cst =>
    by_cases hn : n = 3
    · subst hn
      replace hp : (match g.locals[k]? with | some (.val (.int x)) => (match storeLocals g.locals k (.int (x + Int32.ofInt cst)) with | some l' => some { g with pc := g.pc + 3, locals := l' } | none => none) | _ => none) = some g' := hp
      split at hp
      · skip
        split at hp
        · skip
          cases hp
          exact ⟨fun _ hr => XS.iinc X.here hx hg hd (by assumption) (by assumption) hr, hg⟩
        · cases hp
      · cases hp
    · exact absurd hp (by intro q; rw [show own_pstep ci cl (.iinc k cst) n g = none from if_neg hn] at q; cases q)
  case dup =>
    by_cases hn : n = 1
    · subst hn
      replace hp : (match g.stack with | x :: rest => (if x.category = 1 then some { g with pc := g.pc + 1, stack := x :: x :: rest } else none) | _ => none) = some g' := hp
      split at hp
      · skip
        split at hp
        · skip
          cases hp
          exact ⟨fun _ hr => XS.dup X.here hx hg hd (by assumption) (by assumption) hr, hg⟩
        · cases hp
      · cases hp
    · exact absurd hp (by intro q; rw [show own_pstep ci cl (.dup) n g = none from if_neg hn] at q; cases q)
  case pop =>
    by_cases hn : n = 1
    · subst hn
      replace hp : (match g.stack with | x :: rest => (if x.category = 1 then some { g with pc := g.pc + 1, stack := rest } else none) | _ => none) = some g' := hp
      split at hp
      · skip
        split at hp
        · skip
          cases hp
          exact ⟨fun _ hr => XS.pop X.here hx hg hd (by assumption) (by assumption) hr, hg⟩
        · cases hp
      · cases hp
    · exact absurd hp (by intro q; rw [show own_pstep ci cl (.pop) n g = none from if_neg hn] at q; cases q)
  case goto o =>
    by_cases hn : n = 3
    · subst hn
      replace hp : (if 0 ≤ (g.pc : Int) + o then some { g with pc := ((g.pc : Int) + o).toNat } else none) = some g' := hp
      split at hp
      · skip
        cases hp
        exact ⟨fun _ hr => XS.goto X.here hx hg rfl hd (by assumption) rfl hr, hg⟩
      · cases hp
    · exact absurd hp (by intro q; rw [show own_pstep ci cl (.goto o) n g = none from if_neg hn] at q; cases q)
  case ldc i =>
    by_cases hn : n = 2
    · subst hn
      replace hp : (match own_look i ci with | some v => some { g with pc := g.pc + 2, stack := .int v :: g.stack } | none => none) = some g' := hp
      split at hp
      · skip
        cases hp
        exact ⟨fun _ hr => X.ldcInt hx hown (hci _ _ (own_look_mem (by assumption))) hg hd _ hr, hg⟩
      · cases hp
    · exact absurd hp (by intro q; rw [show own_pstep ci cl (.ldc i) n g = none from if_neg hn] at q; cases q)
  case ldc_w i =>
    by_cases hn : n = 3
    · subst hn
      replace hp : (match own_look i ci with | some v => some { g with pc := g.pc + 3, stack := .int v :: g.stack } | none => none) = some g' := hp
      split at hp
      · skip
        cases hp
        exact ⟨fun _ hr => X.ldcwInt hx hown (hci _ _ (own_look_mem (by assumption))) hg hd _ hr, hg⟩
      · cases hp
    · exact absurd hp (by intro q; rw [show own_pstep ci cl (.ldc_w i) n g = none from if_neg hn] at q; cases q)
  case ldc2_w i =>
    by_cases hn : n = 3
    · subst hn
      replace hp : (match own_look i cl with | some v => some { g with pc := g.pc + 3, stack := .long v :: g.stack } | none => none) = some g' := hp
      split at hp
      · skip
        cases hp
        exact ⟨fun _ hr => X.ldc2Long hx hown (hcl _ _ (own_look_mem (by assumption))) hg hd _ hr, hg⟩
      · cases hp
    · exact absurd hp (by intro q; rw [show own_pstep ci cl (.ldc2_w i) n g = none from if_neg hn] at q; cases q)
  case idiv =>
    by_cases hn : n = 1
    · subst hn
      replace hp : (match g.stack with | .int y :: .int x :: rest => (if y = 0 then none else some { g with pc := g.pc + 1, stack := .int (x / y) :: rest }) | _ => none) = some g' := hp
      split at hp
      · skip
        split at hp
        · cases hp
        · cases hp; exact ⟨fun _ hr => XS.idiv X.here hx hg hd (by assumption) (by assumption) hr, hg⟩
      · cases hp
    · exact absurd hp (by intro q; rw [show own_pstep ci cl (.idiv) n g = none from if_neg hn] at q; cases q)
  case irem =>
    by_cases hn : n = 1
    · subst hn
      replace hp : (match g.stack with | .int y :: .int x :: rest => (if y = 0 then none else some { g with pc := g.pc + 1, stack := .int (x - (x / y) * y) :: rest }) | _ => none) = some g' := hp
      split at hp
      · skip
        split at hp
        · cases hp
        · cases hp; exact ⟨fun _ hr => XS.irem X.here hx hg hd (by assumption) (by assumption) hr, hg⟩
      · cases hp
    · exact absurd hp (by intro q; rw [show own_pstep ci cl (.irem) n g = none from if_neg hn] at q; cases q)
  case ldiv =>
    by_cases hn : n = 1
    · subst hn
      replace hp : (match g.stack with | .long y :: .long x :: rest => (if y = 0 then none else some { g with pc := g.pc + 1, stack := .long (x / y) :: rest }) | _ => none) = some g' := hp
      split at hp
      · skip
        split at hp
        · cases hp
        · cases hp; exact ⟨fun _ hr => XS.ldiv X.here hx hg hd (by assumption) (by assumption) hr, hg⟩
      · cases hp
    · exact absurd hp (by intro q; rw [show own_pstep ci cl (.ldiv) n g = none from if_neg hn] at q; cases q)
  case lrem =>
    by_cases hn : n = 1
    · subst hn
      replace hp : (match g.stack with | .long y :: .long x :: rest => (if y = 0 then none else some { g with pc := g.pc + 1, stack := .long (x - (x / y) * y) :: rest }) | _ => none) = some g' := hp
      split at hp
      · skip
        split at hp
        · cases hp
        · cases hp; exact ⟨fun _ hr => XS.lrem X.here hx hg hd (by assumption) (by assumption) hr, hg⟩
      · cases hp
    · exact absurd hp (by intro q; rw [show own_pstep ci cl (.lrem) n g = none from if_neg hn] at q; cases q)
def own_decs (code : ByteArray) (L : List (Nat × Instr × Nat)) : Bool := L.all fun q => decide (decode code q.1 = .ok (q.2.1, q.2.2))
def own_prun (ci : List (Nat × Int32)) (cl : List (Nat × Int64)) : List (Nat × Instr × Nat) → JFrame → Option JFrame
  | [], g => some g
  | (pc, i, n) :: r, g => if g.pc = pc then (match own_pstep ci cl i n g with | some g' => own_prun ci cl r g' | none => none) else none
theorem own_prun_ok (X : Stand p l e R s m args below meth c T locs cells slots) (hx : p.tables.exec = Jvm.exec) (hown : s.vm.findClass own = some m.cls) (hci : ∀ i v, (i, v) ∈ ci → (Cond.constant own i v).before args s = true) (hcl : ∀ i v, (i, v) ∈ cl → (Cond.constantLong own i v).before args s = true) {code : ByteArray} (hby : c.code = code) :
    ∀ (L : List (Nat × Instr × Nat)) (g g' : JFrame), g.method = m → own_decs code L = true → own_prun ci cl L g = some g' → Steps p.tables e below (T.setTop g') target → Steps p.tables e below (T.setTop g) target := by
  intro L
  induction L with
  | nil => intro g g' _ _ hp hr; cases hp; exact hr
  | cons q r ih =>
    intro g g' hg hd hp hr
    obtain ⟨pc, i, n⟩ := q
    have hd' : decide (decode code pc = .ok (i, n)) = true ∧ own_decs code r = true := by
      have : (decide (decode code pc = .ok (i, n)) && own_decs code r) = true := hd
      simpa using this
    replace hp : (if g.pc = pc then (match own_pstep ci cl i n g with | some g' => own_prun ci cl r g' | none => none) else none) = some g' := hp
    by_cases hpc : g.pc = pc
    · rw [if_pos hpc] at hp
      cases hs : own_pstep ci cl i n g with
      | none => rw [hs] at hp; cases hp
      | some g1 =>
        rw [hs] at hp
        have q := own_pstep_ok X hx hown hci hcl hg (i := i) (n := n) (by rw [hby, hpc]; exact of_decide_eq_true hd'.1) hs
        exact q.1 _ (ih g1 g' q.2 hd'.2 hp hr)
    · rw [if_neg hpc] at hp; cases hp
theorem Goes.run (X : Stand p l e R s m args below meth c T locs cells slots) (hx : p.tables.exec = Jvm.exec) (hown : s.vm.findClass own = some m.cls) (hci : ∀ i v, (i, v) ∈ ci → (Cond.constant own i v).before args s = true) (hcl : ∀ i v, (i, v) ∈ cl → (Cond.constantLong own i v).before args s = true) {code : ByteArray} (hby : c.code = code)
    {L : List (Nat × Instr × Nat)} (hd : own_decs code L = true) {g g' : JFrame} (hg : g.method = m) (hp : own_prun ci cl L g = some g') (h : Goes p e below s Q kc ks (T.setTop g')) : Goes p e below s Q kc ks (T.setTop g) :=
  Goes.st (fun _ k => own_prun_ok X hx hown hci hcl hby L g g' hg hd hp k) h
theorem own_ci0 {α : Type} {P : Nat → α → Prop} : ∀ i v, (i, v) ∈ ([] : List (Nat × α)) → P i v := fun _ _ q => nomatch q
theorem own_ciS {α : Type} {P : Nat → α → Prop} {j : Nat} {w : α} {L : List (Nat × α)} (h : P j w) (r : ∀ i v, (i, v) ∈ L → P i v) : ∀ i v, (i, v) ∈ (j, w) :: L → P i v := fun i v q => (List.mem_cons.mp q).elim (fun z => by cases z; exact h) (r i v)
end OwnRun
theorem own_rem32 (x y : Int32) : (x - (x / y) * y).toInt = x.toInt.tmod y.toInt := by
  have a := (x % y).toInt_lt; have b := (x % y).le_toInt
  rw [Int32.toInt_mod] at a b
  rw [Int32.toInt_sub, Int32.toInt_mul, Int32.toInt_div, Int.bmod_mul_bmod, Int.sub_bmod_bmod, Int.mul_comm, ← Int.tmod_def]
  exact Jvm.Kit.bmod32 b a
section OwnNums
variable {x y : Int64} {u v : Int32} {a b : Int}
theorem own_r32 (hx : u.toInt = a) (hy : v.toInt = b) (h0 : 0 ≤ a) : (u - (u / v) * v).toInt = a % b := by subst hx hy; rw [own_rem32, Int.tmod_eq_emod_of_nonneg h0]
theorem own_r64 (hx : x.toInt = a) (hy : y.toInt = b) (h0 : 0 ≤ a) : (x - (x / y) * y).toInt = a % b := by subst hx hy; rw [Jvm.Kit.i64_rem, Int.tmod_eq_emod_of_nonneg h0]
theorem own_mul64 (hx : x.toInt = a) (hy : y.toInt = b) (h1 : -2 ^ 63 ≤ a * b) (h2 : a * b < 2 ^ 63) : (x * y).toInt = a * b := by subst hx hy; exact Jvm.Kit.i64_mul h1 h2
theorem own_mul32 (hx : u.toInt = a) (hy : v.toInt = b) (h1 : -2 ^ 31 ≤ a * b) (h2 : a * b < 2 ^ 31) : (u * v).toInt = a * b := by subst hx hy; exact Jvm.Kit.i32_mul h1 h2
theorem own_add64 (hx : x.toInt = a) (hy : y.toInt = b) (h1 : -2 ^ 63 ≤ a + b) (h2 : a + b < 2 ^ 63) : (x + y).toInt = a + b := by subst hx hy; exact Jvm.Kit.i64_add h1 h2
theorem own_add32 (hx : u.toInt = a) (hy : v.toInt = b) (h1 : -2 ^ 31 ≤ a + b) (h2 : a + b < 2 ^ 31) : (u + v).toInt = a + b := by subst hx hy; exact Jvm.Kit.i32_add h1 h2
theorem own_sub64 (hx : x.toInt = a) (hy : y.toInt = b) (h1 : -2 ^ 63 ≤ a - b) (h2 : a - b < 2 ^ 63) : (x - y).toInt = a - b := by subst hx hy; exact Jvm.Kit.i64_sub h1 h2
theorem own_sub32 (hx : u.toInt = a) (hy : v.toInt = b) (h1 : -2 ^ 31 ≤ a - b) (h2 : a - b < 2 ^ 31) : (u - v).toInt = a - b := by subst hx hy; exact Jvm.Kit.i32_sub h1 h2
theorem own_i2l (hx : u.toInt = a) : u.toInt64.toInt = a := by subst hx; exact Jvm.Kit.i64_of_i32 u
theorem own_lt64 (hx : x.toInt = a) (hy : y.toInt = b) : x < y ↔ a < b := by rw [Int64.lt_iff_toInt_lt, hx, hy]
theorem own_lt32 (hx : u.toInt = a) (hy : v.toInt = b) : u < v ↔ a < b := by rw [Int32.lt_iff_toInt_lt, hx, hy]
theorem own_eq64 (hx : x.toInt = a) (hy : y.toInt = b) : x = y ↔ a = b := by rw [← Int64.toInt_inj, hx, hy]
theorem own_eq32 (hx : u.toInt = a) (hy : v.toInt = b) : u = v ↔ a = b := by rw [← Int32.toInt_inj, hx, hy]
theorem own_m32 (u : Int32) (m : Int32) {k : Nat} (hk : k < 32) (hm : m.toBitVec.toNat = 2 ^ k - 1) : ∃ a : Int, (u &&& m).toInt = a ∧ 0 ≤ a ∧ a < 2 ^ k ∧ a = u.toInt % 2 ^ k := by
  refine ⟨_, Jvm.Kit.i32_mask u m hk hm, Int.emod_nonneg _ (Int.ne_of_gt (Int.pow_pos (by decide))), Int.emod_lt_of_pos _ (Int.pow_pos (by decide)), rfl⟩
theorem own_m64 (x : Int64) (m : Int64) {k : Nat} (hk : k < 64) (hm : m.toBitVec.toNat = 2 ^ k - 1) : ∃ a : Int, (x &&& m).toInt = a ∧ 0 ≤ a ∧ a < 2 ^ k ∧ a = x.toInt % 2 ^ k := by
  refine ⟨_, Jvm.Kit.i64_mask x m hk hm, Int.emod_nonneg _ (Int.ne_of_gt (Int.pow_pos (by decide))), Int.emod_lt_of_pos _ (Int.pow_pos (by decide)), rfl⟩
theorem own_nm {P : Int → Prop} {z : Int} (h : P z) : ∃ a, a = z ∧ P a := ⟨z, rfl, h⟩
end OwnNums
theorem own_nat32 {u : Int32} {a : Int} (hu : u.toInt = a) (h0 : 0 ≤ a) {N : Nat} (h1 : a < N) : ∃ n : Nat, n < N ∧ u = Int32.ofNat n ∧ a = (n : Int) := by
  have q := u.toInt_lt
  refine ⟨a.toNat, by omega, ?_, by omega⟩
  apply Int32.toInt_inj.mp
  rw [Int32.toInt_ofNat_of_lt (by omega), hu]; omega
theorem own_bv64 {x : Int64} {a : Int} (hx : x.toInt = a) (h0 : 0 ≤ a) : (x.toBitVec.toNat : Int) = a := by
  have e : x.toInt = x.toBitVec.toInt := rfl
  have hb := x.toBitVec.isLt
  rw [e, BitVec.toInt_eq_toNat_cond] at hx
  split at hx <;> omega
theorem own_bv32 {x : Int32} {a : Int} (hx : x.toInt = a) (h0 : 0 ≤ a) : (x.toBitVec.toNat : Int) = a := by
  have e : x.toInt = x.toBitVec.toInt := rfl
  have hb := x.toBitVec.isLt
  rw [e, BitVec.toInt_eq_toNat_cond] at hx
  split at hx <;> omega
theorem own_shn (y : Int32) : ((y &&& 0x3f).toInt64.toUInt64).toNat < 64 := by
  obtain ⟨a, h1, h2, h3, -⟩ := own_m32 y (0x3f : Int32) (k := 6) (by decide) (by decide)
  have h4 := own_bv64 (own_i2l h1) h2
  have e : ((y &&& 0x3f).toInt64.toUInt64).toNat = (y &&& 0x3f).toInt64.toBitVec.toNat := rfl
  rw [e]
  omega
theorem own_ushr0 {x : Int64} {a : Int} (hx : x.toInt = a) (h0 : 0 ≤ a) (y : Int32) : ∃ b : Int, ((x.toUInt64 >>> (y &&& 0x3f).toInt64.toUInt64).toInt64).toInt = b ∧ 0 ≤ b ∧ b ≤ a := by
  refine ⟨_, Jvm.Kit.i64_lushr (by rw [Jvm.Kit.i64_nonneg, hx]; exact h0) rfl (own_shn y), ?_, ?_⟩
  · rw [hx]; exact Int.ediv_nonneg h0 (Int.le_of_lt (Int.pow_pos (by decide)))
  · rw [hx]; exact Int.ediv_le_self _ h0
theorem own_ushrk {x : Int64} {a : Int} (hx : x.toInt = a) (h0 : 0 ≤ a) {n : UInt64} {k : Nat} (hn : n.toNat = k) (hk : k < 64) {d : Int} (hd : (2 : Int) ^ k = d) : ((x.toUInt64 >>> n).toInt64).toInt = a / d := by
  rw [Jvm.Kit.i64_lushr (by rw [Jvm.Kit.i64_nonneg, hx]; exact h0) hn hk, hx, hd]
theorem own_ofbv32 {x : Int32} (h : x.toBitVec.toNat < 2 ^ 31) : x.toInt = (x.toBitVec.toNat : Int) := by
  have e : x.toInt = x.toBitVec.toInt := rfl
  rw [e, BitVec.toInt_eq_toNat_cond, if_pos (by omega)]
theorem own_xor32 {x y : Int32} {a b : Int} (hx : x.toInt = a) (hy : y.toInt = b) (h0 : 0 ≤ a) (h1 : 0 ≤ b) : ∃ c : Int, (x ^^^ y).toInt = c ∧ 0 ≤ c := by
  have p := own_bv32 hx h0; have q := own_bv32 hy h1
  have r := x.toInt_lt; have s := y.toInt_lt
  have e : (x ^^^ y).toBitVec.toNat = x.toBitVec.toNat ^^^ y.toBitVec.toNat := by simp [Int32.toBitVec_xor, BitVec.toNat_xor]
  have l : (x ^^^ y).toBitVec.toNat < 2 ^ 31 := by rw [e]; exact Nat.xor_lt_two_pow (by omega) (by omega)
  exact ⟨_, own_ofbv32 l, Int.natCast_nonneg _⟩
theorem d1_0 : decode prog_50_method_6_code 0 = .ok (.aload_n 0, 1) := by decide +kernel
theorem d1_1 : decode prog_50_method_6_code 1 = .ok (.getstatic 3, 3) := by decide +kernel
theorem d1_4 : decode prog_50_method_6_code 4 = .ok (.if_acmp .ne 17, 3) := by decide +kernel
theorem d1_7 : decode prog_50_method_6_code 7 = .ok (.lload_n 1, 1) := by decide +kernel
theorem d1_8 : decode prog_50_method_6_code 8 = .ok (.lload_n 3, 1) := by decide +kernel
theorem d1_9 : decode prog_50_method_6_code 9 = .ok (.lcmp, 1) := by decide +kernel
theorem d1_10 : decode prog_50_method_6_code 10 = .ok (.ifCond .le 7, 3) := by decide +kernel
theorem d1_13 : decode prog_50_method_6_code 13 = .ok (.iconst 1, 1) := by decide +kernel
theorem d1_14 : decode prog_50_method_6_code 14 = .ok (.goto 18, 3) := by decide +kernel
theorem d1_17 : decode prog_50_method_6_code 17 = .ok (.iconst 0, 1) := by decide +kernel
theorem d1_18 : decode prog_50_method_6_code 18 = .ok (.goto 14, 3) := by decide +kernel
theorem d1_21 : decode prog_50_method_6_code 21 = .ok (.lload_n 1, 1) := by decide +kernel
theorem d1_22 : decode prog_50_method_6_code 22 = .ok (.lload_n 3, 1) := by decide +kernel
theorem d1_23 : decode prog_50_method_6_code 23 = .ok (.lcmp, 1) := by decide +kernel
theorem d1_24 : decode prog_50_method_6_code 24 = .ok (.ifCond .ge 7, 3) := by decide +kernel
theorem d1_27 : decode prog_50_method_6_code 27 = .ok (.iconst 1, 1) := by decide +kernel
theorem d1_28 : decode prog_50_method_6_code 28 = .ok (.goto 4, 3) := by decide +kernel
theorem d1_31 : decode prog_50_method_6_code 31 = .ok (.iconst 0, 1) := by decide +kernel
theorem d1_32 : decode prog_50_method_6_code 32 = .ok (.ireturn, 1) := by decide +kernel
theorem pn1 : plainName "com/example/rulewake/rulewake/Side" = true := by first | (simp [plainName, overriddenIn]; done) | decide +kernel
theorem ef1 (m : MethodId) (x0 : Addr) (x1 : Int64) (x2 : Int64) : entryFrame m #[(.ref x0), (.long x1), (.long x2)] 5 = (mkF m 0 #[.val (.ref x0), .val (.long x1), .second, .val (.long x2), .second] []) := by first | (simp [entryFrame, mkF, argsToLocals, Value.category]; done) | rfl
def r1 (x0 : Addr) (x1 : Int64) (x2 : Int64) (uB : Addr) : Int32 := (if x0 = uB then (if x2 < x1 then (1 : Int32) else (0 : Int32)) else (if x1 < x2 then (1 : Int32) else (0 : Int32)))
set_option maxRecDepth 65536 in
set_option maxHeartbeats 40000000 in
theorem rm1 (l : Launch) (Z : State) (a0 : Array Value) (hw : ∀ d ∈ tables_1, d.before a0 Z = true) (ws : List Jvm.Cond) (x0 : Addr) (x1 : Int64) (x2 : Int64) (uB : Addr) (h0 : Heap) (n0 : Nat) (Z0 : n0 ≤ h0.size) (S_BUY : Sta Z h0 "com/example/rulewake/rulewake/Side" "BUY" "Lcom/example/rulewake/rulewake/Side;" (.ref uB)) :
    MetFree l (⟨"com/example/rulewake/rulewake/Side", "isBetter", "(JJ)Z"⟩ : MethodName) (head1 (Jvm.Cond.code (⟨"com/example/rulewake/rulewake/Side", "isBetter", "(JJ)Z"⟩ : MethodName) prog_50_method_6_code 5 (some .boolean) :: ws) ({ frames := 0, cells := 0, slots := 0, locals := 0 } : Room)) (fun a U => a = #[(.ref x0), (.long x1), (.long x2)] ∧ Z.Warmed39 U.vm ∧ U.heap = h0) (fun _ _ _ _ _ => True) (fun _ U o U' => ∃ v L, o = .returned v ∧ (QP (some (.int (r1 x0 x1 x2 uB))) h0 n0) v U'.heap L ∧ FrameEnd U o U' L ({ frames := 0, cells := 0, slots := 0, locals := 0 } : Room).cells ({ frames := 0, cells := 0, slots := 0, locals := 0 } : Room).slots) := by
  refine MetFree.of_bodySF (plainFor_of_name pn1) hisR ?_
  intro p e s m args below meth c s₁ Bd hml0 hP hK
  obtain ⟨rfl, hZ, hh⟩ := hP
  have hx := Bd.exec
  have hby := Bd.bytes
  have hml : c.maxLocals = 5 := hml0
  have hlk : meth.locks = false := BodyLoose.notSynchronized Bd
  have hown : s.vm.findClass "com/example/rulewake/rulewake/Side" = some m.cls := findClass_of_methodNamed Bd.named
  have hnm := (name_of_methodNamed Bd.named Bd.method).1
  have hci : ∀ i v, (i, v) ∈ ([] : List (Nat × Int32)) → (Jvm.Cond.constant "com/example/rulewake/rulewake/Side" i v).before #[(.ref x0), (.long x1), (.long x2)] s = true := own_ci0
  have hcl : ∀ i v, (i, v) ∈ ([] : List (Nat × Int64)) → (Jvm.Cond.constantLong "com/example/rulewake/rulewake/Side" i v).before #[(.ref x0), (.long x1), (.long x2)] s = true := own_ci0
  have X0 : Stand p l e ({ frames := 0, cells := 0, slots := 0, locals := 0 } : Room) s m #[(.ref x0), (.long x1), (.long x2)] below meth c s₁ [] 0 0 := Stand.of_body Bd
  have e0 : s₁.heap = h0 := by rw [← hh, Bd.state]; rfl
  have N0 := Fr.nil n0
  show Goes p e below s (QP (some (.int (r1 x0 x1 x2 uB))) h0 n0) ({ frames := 0, cells := 0, slots := 0, locals := 0 } : Room).cells ({ frames := 0, cells := 0, slots := 0, locals := 0 } : Room).slots (s₁.setTop (entryFrame m #[(.ref x0), (.long x1), (.long x2)] 5))
  refine Goes.cast (ef1 m x0 x1 x2) ?_
  refine Goes.run X0 hx hown hci hcl hby (L := [(0, .aload_n 0, 1)]) (by decide +kernel) rfl (g' := (mkF m 1 #[.val (.ref x0), .val (.long x1), .second, .val (.long x2), .second] [(.ref x0)])) rfl ?_
  obtain ⟨T1, X1, e1, st1⟩ := getS2 X0 hx hZ hown (host := "") (Or.inl (hw _ (List.mem_of_getElem? (i := 10) rfl))) Via.refl e0 S_BUY (g := (mkF m 1 #[.val (.ref x0), .val (.long x1), .second, .val (.long x2), .second] [(.ref x0)])) rfl (hb hby d1_1)
  refine Goes.st (B := T1.setTop (mkF m 4 #[.val (.ref x0), .val (.long x1), .second, .val (.long x2), .second] [(.ref uB), (.ref x0)])) st1 ?_
  by_cases hc4_2 : x0 = uB
  · skip
    refine Goes.st (B := T1.setTop (mkF m 7 #[.val (.ref x0), .val (.long x1), .second, .val (.long x2), .second] [])) (fun t k => ?_) ?_
    · refine Jvm.RoadKit.acmp (g := (mkF m 4 #[.val (.ref x0), .val (.long x1), .second, .val (.long x2), .second] [(.ref uB), (.ref x0)])) X1 hx rfl rfl rfl (pc0 := 4) (pc' := 7) (same := true) rfl (hb hby d1_4) rfl (decide_eq_true (congrArg Value.ref hc4_2)) (by decide) (by decide) ?_
      exact k
    refine Goes.run X1 hx hown hci hcl hby (L := [(7, .lload_n 1, 1), (8, .lload_n 3, 1), (9, .lcmp, 1)]) (by decide +kernel) rfl (g' := (mkF m 10 #[.val (.ref x0), .val (.long x1), .second, .val (.long x2), .second] [(.int (lcmpW x1 x2))])) rfl ?_
    by_cases hc10_3 : x2 < x1
    · skip
      refine Goes.st (B := T1.setTop (mkF m 13 #[.val (.ref x0), .val (.long x1), .second, .val (.long x2), .second] [])) (fun t k => ?_) ?_
      · refine XS.ifNo X1.here hx rfl (hb hby d1_10) rfl (tltL hc10_3).2.2.2 ?_
        exact k
      refine Goes.run X1 hx hown hci hcl hby (L := [(13, .iconst 1, 1), (14, .goto 18, 3)]) (by decide +kernel) rfl (g' := (mkF m 32 #[.val (.ref x0), .val (.long x1), .second, .val (.long x2), .second] [(.int (1 : Int32))])) rfl ?_
      exact Goes.retB X1 hx hlk (t := .boolean) Bd.returns (by simp) (hb hby d1_32) rfl ⟨(congrArg (fun z => some (Value.int z)) (show (r1 x0 x1 x2 uB) = (1 : Int32) from ((if_pos hc4_2).trans (if_pos hc10_3))).symm), N0, e1⟩ (by decide) (by decide)
    · skip
      refine Goes.st (B := T1.setTop (mkF m 17 #[.val (.ref x0), .val (.long x1), .second, .val (.long x2), .second] [])) (fun t k => ?_) ?_
      · refine XS.ifYes X1.here hx rfl (pc0 := 10) (pc' := 17) rfl (hb hby d1_10) rfl (fltL hc10_3).2.2.2 (by decide) (by decide) ?_
        exact k
      refine Goes.run X1 hx hown hci hcl hby (L := [(17, .iconst 0, 1), (18, .goto 14, 3)]) (by decide +kernel) rfl (g' := (mkF m 32 #[.val (.ref x0), .val (.long x1), .second, .val (.long x2), .second] [(.int (0 : Int32))])) rfl ?_
      exact Goes.retB X1 hx hlk (t := .boolean) Bd.returns (by simp) (hb hby d1_32) rfl ⟨(congrArg (fun z => some (Value.int z)) (show (r1 x0 x1 x2 uB) = (0 : Int32) from ((if_pos hc4_2).trans (if_neg hc10_3))).symm), N0, e1⟩ (by decide) (by decide)
  · skip
    refine Goes.st (B := T1.setTop (mkF m 21 #[.val (.ref x0), .val (.long x1), .second, .val (.long x2), .second] [])) (fun t k => ?_) ?_
    · refine Jvm.RoadKit.acmp (g := (mkF m 4 #[.val (.ref x0), .val (.long x1), .second, .val (.long x2), .second] [(.ref uB), (.ref x0)])) X1 hx rfl rfl rfl (pc0 := 4) (pc' := 21) (same := false) rfl (hb hby d1_4) rfl (decide_eq_false fun q => hc4_2 (Value.ref.inj q)) (by decide) (by decide) ?_
      exact k
    refine Goes.run X1 hx hown hci hcl hby (L := [(21, .lload_n 1, 1), (22, .lload_n 3, 1), (23, .lcmp, 1)]) (by decide +kernel) rfl (g' := (mkF m 24 #[.val (.ref x0), .val (.long x1), .second, .val (.long x2), .second] [(.int (lcmpW x1 x2))])) rfl ?_
    by_cases hc24_4 : x1 < x2
    · skip
      refine Goes.st (B := T1.setTop (mkF m 27 #[.val (.ref x0), .val (.long x1), .second, .val (.long x2), .second] [])) (fun t k => ?_) ?_
      · refine XS.ifNo X1.here hx rfl (hb hby d1_24) rfl (tltL hc24_4).2.1 ?_
        exact k
      refine Goes.run X1 hx hown hci hcl hby (L := [(27, .iconst 1, 1), (28, .goto 4, 3)]) (by decide +kernel) rfl (g' := (mkF m 32 #[.val (.ref x0), .val (.long x1), .second, .val (.long x2), .second] [(.int (1 : Int32))])) rfl ?_
      exact Goes.retB X1 hx hlk (t := .boolean) Bd.returns (by simp) (hb hby d1_32) rfl ⟨(congrArg (fun z => some (Value.int z)) (show (r1 x0 x1 x2 uB) = (1 : Int32) from ((if_neg hc4_2).trans (if_pos hc24_4))).symm), N0, e1⟩ (by decide) (by decide)
    · skip
      refine Goes.st (B := T1.setTop (mkF m 31 #[.val (.ref x0), .val (.long x1), .second, .val (.long x2), .second] [])) (fun t k => ?_) ?_
      · refine XS.ifYes X1.here hx rfl (pc0 := 24) (pc' := 31) rfl (hb hby d1_24) rfl (fltL hc24_4).2.1 (by decide) (by decide) ?_
        exact k
      refine Goes.run X1 hx hown hci hcl hby (L := [(31, .iconst 0, 1)]) (by decide +kernel) rfl (g' := (mkF m 32 #[.val (.ref x0), .val (.long x1), .second, .val (.long x2), .second] [(.int (0 : Int32))])) rfl ?_
      exact Goes.retB X1 hx hlk (t := .boolean) Bd.returns (by simp) (hb hby d1_32) rfl ⟨(congrArg (fun z => some (Value.int z)) (show (r1 x0 x1 x2 uB) = (0 : Int32) from ((if_neg hc4_2).trans (if_neg hc24_4))).symm), N0, e1⟩ (by decide) (by decide)
theorem pn0 : plainName "com/example/rulewake/rulewake/SideIsBetterPinLaw" = true := by first | (simp [plainName, overriddenIn]; done) | decide +kernel
theorem pd0_0 : parseMethodDescriptor "(JJ)Z" = some ⟨[.long, .long], some .boolean⟩ := by decide +kernel
theorem ef0 (m : MethodId) (x0 : Int32) (x1 : Int64) (x2 : Int64) : entryFrame m #[(.int x0), (.long x1), (.long x2)] maxLocals = (mkF m 0 #[.val (.int x0), .val (.long x1), .second, .val (.long x2), .second, .unset, .unset, .unset, .unset, .unset, .unset, .unset, .unset, .unset, .unset, .unset] []) := by first | (simp [entryFrame, mkF, argsToLocals, Value.category, maxLocals]; done) | rfl
def j0_24_s0 (x0 : Int32) (x1 : Int64) (x2 : Int64) (uB : Addr) (uS : Addr) : Int64 := (if (x0 &&& (2 : Int32)) = (0 : Int32) then x2 else x1)
def w0_66 (x0 : Int32) (x1 : Int64) (x2 : Int64) (uB : Addr) (uS : Addr) : Int32 := (r1 uB x1 (j0_24_s0 x0 x1 x2 uB uS) uB)
def w0_76 (x0 : Int32) (x1 : Int64) (x2 : Int64) (uB : Addr) (uS : Addr) : Int32 := (r1 uB (j0_24_s0 x0 x1 x2 uB uS) x1 uB)
def w0_85 (x0 : Int32) (x1 : Int64) (x2 : Int64) (uB : Addr) (uS : Addr) : Int32 := (r1 uB x1 x1 uB)
def w0_95 (x0 : Int32) (x1 : Int64) (x2 : Int64) (uB : Addr) (uS : Addr) : Int32 := (r1 uS (j0_24_s0 x0 x1 x2 uB uS) x1 uB)
def j0_114_s0 (x0 : Int32) (x1 : Int64) (x2 : Int64) (uB : Addr) (uS : Addr) : Int32 := (if (j0_24_s0 x0 x1 x2 uB uS) < x1 then (1 : Int32) else (0 : Int32))
def j0_170_s0 (x0 : Int32) (x1 : Int64) (x2 : Int64) (uB : Addr) (uS : Addr) : Int32 := (if x1 = (j0_24_s0 x0 x1 x2 uB uS) then (if (w0_66 x0 x1 x2 uB uS) = (0 : Int32) then (if (w0_76 x0 x1 x2 uB uS) = (0 : Int32) then (1 : Int32) else (0 : Int32)) else (0 : Int32)) else (if (w0_66 x0 x1 x2 uB uS) = (w0_76 x0 x1 x2 uB uS) then (0 : Int32) else (1 : Int32)))
def w0_66_a (x0 : Int32) (x1 : Int64) (x2 : Int64) (uB : Addr) (uS : Addr) : Int32 := (r1 uS x1 (j0_24_s0 x0 x1 x2 uB uS) uB)
def w0_85_a (x0 : Int32) (x1 : Int64) (x2 : Int64) (uB : Addr) (uS : Addr) : Int32 := (r1 uS x1 x1 uB)
def j0_131_s0 (x0 : Int32) (x1 : Int64) (x2 : Int64) (uB : Addr) (uS : Addr) : Int32 := (if x1 < (j0_24_s0 x0 x1 x2 uB uS) then (1 : Int32) else (0 : Int32))
def j0_170_s0_a (x0 : Int32) (x1 : Int64) (x2 : Int64) (uB : Addr) (uS : Addr) : Int32 := (if x1 = (j0_24_s0 x0 x1 x2 uB uS) then (if (w0_66_a x0 x1 x2 uB uS) = (0 : Int32) then (if (w0_95 x0 x1 x2 uB uS) = (0 : Int32) then (1 : Int32) else (0 : Int32)) else (0 : Int32)) else (if (w0_66_a x0 x1 x2 uB uS) = (w0_95 x0 x1 x2 uB uS) then (0 : Int32) else (1 : Int32)))
def r0 (x0 : Int32) (x1 : Int64) (x2 : Int64) (uB : Addr) (uS : Addr) : Int32 := (if (x0 &&& (1 : Int32)) = (0 : Int32) then (if (w0_66 x0 x1 x2 uB uS) = (j0_114_s0 x0 x1 x2 uB uS) then (if (w0_85 x0 x1 x2 uB uS) = (0 : Int32) then (if (j0_170_s0 x0 x1 x2 uB uS) = (0 : Int32) then (0 : Int32) else (if (w0_95 x0 x1 x2 uB uS) = (w0_66 x0 x1 x2 uB uS) then (1 : Int32) else (0 : Int32))) else (0 : Int32)) else (0 : Int32)) else (if (w0_66_a x0 x1 x2 uB uS) = (j0_131_s0 x0 x1 x2 uB uS) then (if (w0_85_a x0 x1 x2 uB uS) = (0 : Int32) then (if (j0_170_s0_a x0 x1 x2 uB uS) = (0 : Int32) then (0 : Int32) else (if (w0_76 x0 x1 x2 uB uS) = (w0_66_a x0 x1 x2 uB uS) then (1 : Int32) else (0 : Int32))) else (0 : Int32)) else (0 : Int32)))
set_option maxRecDepth 65536 in
set_option maxHeartbeats 40000000 in
theorem rm0 (l : Launch) (Z : State) (a0 : Array Value) (hw : ∀ d ∈ tables_1, d.before a0 Z = true) (ws : List Jvm.Cond) (x0 : Int32) (x1 : Int64) (x2 : Int64) (uB : Addr) (uS : Addr) (h0 : Heap) (n0 : Nat) (Z0 : n0 ≤ h0.size) (S_BUY : Sta Z h0 "com/example/rulewake/rulewake/Side" "BUY" "Lcom/example/rulewake/rulewake/Side;" (.ref uB)) (S_SELL : Sta Z h0 "com/example/rulewake/rulewake/Side" "SELL" "Lcom/example/rulewake/rulewake/Side;" (.ref uS)) (E_uB : Exa Z h0 uB "com/example/rulewake/rulewake/Side") (E_uS : Exa Z h0 uS "com/example/rulewake/rulewake/Side") :
    MetFree l x (head1 (Jvm.Cond.code x code maxLocals ret :: ws) room_1) (fun a U => a = #[(.int x0), (.long x1), (.long x2)] ∧ Z.Warmed39 U.vm ∧ U.heap = h0) (fun _ _ _ _ _ => True) (fun _ U o U' => ∃ v L, o = .returned v ∧ (QL (some (.int (r0 x0 x1 x2 uB uS))) n0) v U'.heap L ∧ FrameEnd U o U' L room_1.cells room_1.slots) := by
  refine MetFree.of_bodySF (plainFor_of_name pn0) hisR ?_
  intro p e s m args below meth c s₁ Bd hml0 hP hK
  obtain ⟨rfl, hZ, hh⟩ := hP
  have hx := Bd.exec
  have hby := Bd.bytes
  have hml : c.maxLocals = 16 := hml0
  have hlk : meth.locks = false := BodyLoose.notSynchronized Bd
  have hown : s.vm.findClass "com/example/rulewake/rulewake/SideIsBetterPinLaw" = some m.cls := findClass_of_methodNamed Bd.named
  have hnm := (name_of_methodNamed Bd.named Bd.method).1
  have hci : ∀ i v, (i, v) ∈ ([] : List (Nat × Int32)) → (Jvm.Cond.constant "com/example/rulewake/rulewake/SideIsBetterPinLaw" i v).before #[(.int x0), (.long x1), (.long x2)] s = true := own_ci0
  have hcl : ∀ i v, (i, v) ∈ ([] : List (Nat × Int64)) → (Jvm.Cond.constantLong "com/example/rulewake/rulewake/SideIsBetterPinLaw" i v).before #[(.int x0), (.long x1), (.long x2)] s = true := own_ci0
  have X0 : Stand p l e room_1 s m #[(.int x0), (.long x1), (.long x2)] below meth c s₁ [] 0 0 := Stand.of_body Bd
  have e0 : s₁.heap = h0 := by rw [← hh, Bd.state]; rfl
  have N0 := Fr.nil n0
  show Goes p e below s (QL (some (.int (r0 x0 x1 x2 uB uS))) n0) room_1.cells room_1.slots (s₁.setTop (entryFrame m #[(.int x0), (.long x1), (.long x2)] maxLocals))
  refine Goes.cast (ef0 m x0 x1 x2) ?_
  refine Goes.run X0 hx hown hci hcl hby (L := [(0, .iload_n 0, 1), (1, .iconst 1, 1), (2, .iand, 1)]) (by decide +kernel) rfl (g' := (mkF m 3 #[.val (.int x0), .val (.long x1), .second, .val (.long x2), .second, .unset, .unset, .unset, .unset, .unset, .unset, .unset, .unset, .unset, .unset, .unset] [(.int (x0 &&& (1 : Int32)))])) rfl ?_
  by_cases hc3_1 : (x0 &&& (1 : Int32)) = (0 : Int32)
  · skip
    refine Goes.st (B := s₁.setTop (mkF m 6 #[.val (.int x0), .val (.long x1), .second, .val (.long x2), .second, .unset, .unset, .unset, .unset, .unset, .unset, .unset, .unset, .unset, .unset, .unset] [])) (fun t k => ?_) ?_
    · refine XS.ifNo X0.here hx rfl (hb hby at_3) rfl ((if0 _ _).trans (teq hc3_1).2) ?_
      exact k
    refine Goes.run X0 hx hown hci hcl hby (L := [(6, .iconst 1, 1), (7, .goto 4, 3), (11, .istore 5, 2), (13, .iload_n 0, 1), (14, .iconst 2, 1), (15, .iand, 1)]) (by decide +kernel) rfl (g' := (mkF m 16 #[.val (.int x0), .val (.long x1), .second, .val (.long x2), .second, .val (.int (1 : Int32)), .unset, .unset, .unset, .unset, .unset, .unset, .unset, .unset, .unset, .unset] [(.int (x0 &&& (2 : Int32)))])) rfl ?_
    have jn24_3 : Goes p e below s (QL (some (.int (r0 x0 x1 x2 uB uS))) n0) room_1.cells room_1.slots (s₁.setTop (mkF m 24 #[.val (.int x0), .val (.long x1), .second, .val (.long x2), .second, .val (.int (1 : Int32)), .unset, .unset, .unset, .unset, .unset, .unset, .unset, .unset, .unset, .unset] [(.long (j0_24_s0 x0 x1 x2 uB uS))])) := by
      refine Goes.run X0 hx hown hci hcl hby (L := [(24, .lstore 6, 2), (26, .iload 5, 2)]) (by decide +kernel) rfl (g' := (mkF m 28 #[.val (.int x0), .val (.long x1), .second, .val (.long x2), .second, .val (.int (1 : Int32)), .val (.long (j0_24_s0 x0 x1 x2 uB uS)), .second, .unset, .unset, .unset, .unset, .unset, .unset, .unset, .unset] [(.int (1 : Int32))])) rfl ?_
      have hc28_4 : ¬ ((1 : Int32) = (0 : Int32)) := by decide
      refine Goes.st (B := s₁.setTop (mkF m 31 #[.val (.int x0), .val (.long x1), .second, .val (.long x2), .second, .val (.int (1 : Int32)), .val (.long (j0_24_s0 x0 x1 x2 uB uS)), .second, .unset, .unset, .unset, .unset, .unset, .unset, .unset, .unset] [])) (fun t k => ?_) ?_
      · refine XS.ifNo X0.here hx rfl (hb hby at_28) rfl ((if0 _ _).trans (feq hc28_4).1) ?_
        exact k
      obtain ⟨T5, X5, e5, st5⟩ := getS2 X0 hx hZ hown (host := "") (Or.inl (hw _ (List.mem_of_getElem? (i := 0) rfl))) Via.refl e0 S_BUY (g := (mkF m 31 #[.val (.int x0), .val (.long x1), .second, .val (.long x2), .second, .val (.int (1 : Int32)), .val (.long (j0_24_s0 x0 x1 x2 uB uS)), .second, .unset, .unset, .unset, .unset, .unset, .unset, .unset, .unset] [])) rfl (hb hby at_31)
      refine Goes.st (B := T5.setTop (mkF m 34 #[.val (.int x0), .val (.long x1), .second, .val (.long x2), .second, .val (.int (1 : Int32)), .val (.long (j0_24_s0 x0 x1 x2 uB uS)), .second, .unset, .unset, .unset, .unset, .unset, .unset, .unset, .unset] [(.ref uB)])) st5 ?_
      refine Goes.run X5 hx hown hci hcl hby (L := [(34, .goto 6, 3), (40, .astore 8, 2), (42, .iload 5, 2)]) (by decide +kernel) rfl (g' := (mkF m 44 #[.val (.int x0), .val (.long x1), .second, .val (.long x2), .second, .val (.int (1 : Int32)), .val (.long (j0_24_s0 x0 x1 x2 uB uS)), .second, .val (.ref uB), .unset, .unset, .unset, .unset, .unset, .unset, .unset] [(.int (1 : Int32))])) rfl ?_
      have hc44_6 : ¬ ((1 : Int32) = (0 : Int32)) := by decide
      refine Goes.st (B := T5.setTop (mkF m 47 #[.val (.int x0), .val (.long x1), .second, .val (.long x2), .second, .val (.int (1 : Int32)), .val (.long (j0_24_s0 x0 x1 x2 uB uS)), .second, .val (.ref uB), .unset, .unset, .unset, .unset, .unset, .unset, .unset] [])) (fun t k => ?_) ?_
      · refine XS.ifNo X5.here hx rfl (hb hby at_44) rfl ((if0 _ _).trans (feq hc44_6).1) ?_
        exact k
      obtain ⟨T7, X7, e7, st7⟩ := getS2 X5 hx hZ hown (host := "") (Or.inl (hw _ (List.mem_of_getElem? (i := 3) rfl))) Via.refl e5 S_SELL (g := (mkF m 47 #[.val (.int x0), .val (.long x1), .second, .val (.long x2), .second, .val (.int (1 : Int32)), .val (.long (j0_24_s0 x0 x1 x2 uB uS)), .second, .val (.ref uB), .unset, .unset, .unset, .unset, .unset, .unset, .unset] [])) rfl (hb hby at_47)
      refine Goes.st (B := T7.setTop (mkF m 50 #[.val (.int x0), .val (.long x1), .second, .val (.long x2), .second, .val (.int (1 : Int32)), .val (.long (j0_24_s0 x0 x1 x2 uB uS)), .second, .val (.ref uB), .unset, .unset, .unset, .unset, .unset, .unset, .unset] [(.ref uS)])) st7 ?_
      refine Goes.run X7 hx hown hci hcl hby (L := [(50, .goto 6, 3), (56, .astore 9, 2), (58, .aload 8, 2), (60, .lload_n 1, 1), (61, .lload 6, 2)]) (by decide +kernel) rfl (g' := (mkF m 63 #[.val (.int x0), .val (.long x1), .second, .val (.long x2), .second, .val (.int (1 : Int32)), .val (.long (j0_24_s0 x0 x1 x2 uB uS)), .second, .val (.ref uB), .val (.ref uS), .unset, .unset, .unset, .unset, .unset, .unset] [(.long (j0_24_s0 x0 x1 x2 uB uS)), (.long x1), (.ref uB)])) rfl ?_
      obtain ⟨cq8, kq8, q8a, q8b, q8c⟩ := isOf hZ e7 E_uB
      obtain ⟨_, _, ⟨T8, L8, k8, n8⟩, -, X8, ⟨Lc8, hQ8, l8, y8, z8⟩, st8⟩ := X7.virtualBack hx (y := (⟨"com/example/rulewake/rulewake/Side", "isBetter", "(JJ)Z"⟩ : MethodName)) (z := (⟨"com/example/rulewake/rulewake/Side", "isBetter", "(JJ)Z"⟩ : MethodName)) hown (mvT hZ (hw _ (List.mem_of_getElem? (i := 5) rfl))) (mvT hZ (hw _ (List.mem_of_getElem? (i := 6) rfl))) (notFace_of_selects (args := #[]) (mvT hZ (hw _ (List.mem_of_getElem? (i := 8) rfl)))) (mvT hZ (hw _ (List.mem_of_getElem? (i := 8) rfl))) (mvT hZ (hw _ (List.mem_of_getElem? (i := 7) rfl))) (by decide) (backOf (W := 0) (rm1 l Z a0 hw [] uB x1 (j0_24_s0 x0 x1 x2 uB uS) uB h0 n0 Z0 S_BUY) hZ (hw _ (List.mem_of_getElem? (i := 9) rfl)) (hw _ (List.mem_of_getElem? (i := 1) rfl)) (by decide) (by decide)) q8a q8c (g := (mkF m 63 #[.val (.int x0), .val (.long x1), .second, .val (.long x2), .second, .val (.int (1 : Int32)), .val (.long (j0_24_s0 x0 x1 x2 uB uS)), .second, .val (.ref uB), .val (.ref uS), .unset, .unset, .unset, .unset, .unset, .unset] [(.long (j0_24_s0 x0 x1 x2 uB uS)), (.long x1), (.ref uB)])) rfl (by rw [hml]; rfl) (Steps.refl _) (argsL := [(.long x1), (.long (j0_24_s0 x0 x1 x2 uB uS))]) (rest := []) (lenOf pd0_0 rfl) rfl (by show 2 * 0 + _ ≤ _; exact Nat.le_of_eq rfl) (hb hby at_63) (fun _ _ => ⟨rfl, e7, (by decide : 0 + 0 ≤ _), (by decide : 0 + 0 ≤ _)⟩)
      dsimp only [Pt.U, Pt.locs, Pt.cells, Pt.slots] at X8 l8 y8 z8 st8 hQ8
      subst l8 y8 z8
      obtain ⟨rfl, N8q, e8⟩ := hQ8
      have N8 := Fr.app N0 N8q
      refine Goes.st (B := T8.setTop (mkF m 66 #[.val (.int x0), .val (.long x1), .second, .val (.long x2), .second, .val (.int (1 : Int32)), .val (.long (j0_24_s0 x0 x1 x2 uB uS)), .second, .val (.ref uB), .val (.ref uS), .unset, .unset, .unset, .unset, .unset, .unset] [(.int (r1 uB x1 (j0_24_s0 x0 x1 x2 uB uS) uB))])) (fun t k => st8.trans k) ?_
      refine Goes.run X8 hx hown hci hcl hby (L := [(66, .istore 10, 2), (68, .aload 8, 2), (70, .lload 6, 2), (72, .lload_n 1, 1)]) (by decide +kernel) rfl (g' := (mkF m 73 #[.val (.int x0), .val (.long x1), .second, .val (.long x2), .second, .val (.int (1 : Int32)), .val (.long (j0_24_s0 x0 x1 x2 uB uS)), .second, .val (.ref uB), .val (.ref uS), .val (.int (w0_66 x0 x1 x2 uB uS)), .unset, .unset, .unset, .unset, .unset] [(.long x1), (.long (j0_24_s0 x0 x1 x2 uB uS)), (.ref uB)])) rfl ?_
      obtain ⟨cq9, kq9, q9a, q9b, q9c⟩ := isOf hZ e8 E_uB
      obtain ⟨_, _, ⟨T9, L9, k9, n9⟩, -, X9, ⟨Lc9, hQ9, l9, y9, z9⟩, st9⟩ := X8.virtualBack hx (y := (⟨"com/example/rulewake/rulewake/Side", "isBetter", "(JJ)Z"⟩ : MethodName)) (z := (⟨"com/example/rulewake/rulewake/Side", "isBetter", "(JJ)Z"⟩ : MethodName)) hown (mvT hZ (hw _ (List.mem_of_getElem? (i := 5) rfl))) (mvT hZ (hw _ (List.mem_of_getElem? (i := 6) rfl))) (notFace_of_selects (args := #[]) (mvT hZ (hw _ (List.mem_of_getElem? (i := 8) rfl)))) (mvT hZ (hw _ (List.mem_of_getElem? (i := 8) rfl))) (mvT hZ (hw _ (List.mem_of_getElem? (i := 7) rfl))) (by decide) (backOf (W := 0) (rm1 l Z a0 hw [] uB (j0_24_s0 x0 x1 x2 uB uS) x1 uB h0 n0 Z0 S_BUY) hZ (hw _ (List.mem_of_getElem? (i := 9) rfl)) (hw _ (List.mem_of_getElem? (i := 1) rfl)) (by decide) (by decide)) q9a q9c (g := (mkF m 73 #[.val (.int x0), .val (.long x1), .second, .val (.long x2), .second, .val (.int (1 : Int32)), .val (.long (j0_24_s0 x0 x1 x2 uB uS)), .second, .val (.ref uB), .val (.ref uS), .val (.int (w0_66 x0 x1 x2 uB uS)), .unset, .unset, .unset, .unset, .unset] [(.long x1), (.long (j0_24_s0 x0 x1 x2 uB uS)), (.ref uB)])) rfl (by rw [hml]; rfl) (Steps.refl _) (argsL := [(.long (j0_24_s0 x0 x1 x2 uB uS)), (.long x1)]) (rest := []) (lenOf pd0_0 rfl) rfl (by show 2 * 0 + _ ≤ _; exact Nat.le_of_eq rfl) (hb hby at_73) (fun _ _ => ⟨rfl, e8, (by decide : 0 + 0 ≤ _), (by decide : 0 + 0 ≤ _)⟩)
      dsimp only [Pt.U, Pt.locs, Pt.cells, Pt.slots] at X9 l9 y9 z9 st9 hQ9
      subst l9 y9 z9
      obtain ⟨rfl, N9q, e9⟩ := hQ9
      have N9 := Fr.app N8 N9q
      refine Goes.st (B := T9.setTop (mkF m 76 #[.val (.int x0), .val (.long x1), .second, .val (.long x2), .second, .val (.int (1 : Int32)), .val (.long (j0_24_s0 x0 x1 x2 uB uS)), .second, .val (.ref uB), .val (.ref uS), .val (.int (w0_66 x0 x1 x2 uB uS)), .unset, .unset, .unset, .unset, .unset] [(.int (r1 uB (j0_24_s0 x0 x1 x2 uB uS) x1 uB))])) (fun t k => st9.trans k) ?_
      refine Goes.run X9 hx hown hci hcl hby (L := [(76, .istore 11, 2), (78, .aload 8, 2), (80, .lload_n 1, 1), (81, .lload_n 1, 1)]) (by decide +kernel) rfl (g' := (mkF m 82 #[.val (.int x0), .val (.long x1), .second, .val (.long x2), .second, .val (.int (1 : Int32)), .val (.long (j0_24_s0 x0 x1 x2 uB uS)), .second, .val (.ref uB), .val (.ref uS), .val (.int (w0_66 x0 x1 x2 uB uS)), .val (.int (w0_76 x0 x1 x2 uB uS)), .unset, .unset, .unset, .unset] [(.long x1), (.long x1), (.ref uB)])) rfl ?_
      obtain ⟨cq10, kq10, q10a, q10b, q10c⟩ := isOf hZ e9 E_uB
      obtain ⟨_, _, ⟨T10, L10, k10, n10⟩, -, X10, ⟨Lc10, hQ10, l10, y10, z10⟩, st10⟩ := X9.virtualBack hx (y := (⟨"com/example/rulewake/rulewake/Side", "isBetter", "(JJ)Z"⟩ : MethodName)) (z := (⟨"com/example/rulewake/rulewake/Side", "isBetter", "(JJ)Z"⟩ : MethodName)) hown (mvT hZ (hw _ (List.mem_of_getElem? (i := 5) rfl))) (mvT hZ (hw _ (List.mem_of_getElem? (i := 6) rfl))) (notFace_of_selects (args := #[]) (mvT hZ (hw _ (List.mem_of_getElem? (i := 8) rfl)))) (mvT hZ (hw _ (List.mem_of_getElem? (i := 8) rfl))) (mvT hZ (hw _ (List.mem_of_getElem? (i := 7) rfl))) (by decide) (backOf (W := 0) (rm1 l Z a0 hw [] uB x1 x1 uB h0 n0 Z0 S_BUY) hZ (hw _ (List.mem_of_getElem? (i := 9) rfl)) (hw _ (List.mem_of_getElem? (i := 1) rfl)) (by decide) (by decide)) q10a q10c (g := (mkF m 82 #[.val (.int x0), .val (.long x1), .second, .val (.long x2), .second, .val (.int (1 : Int32)), .val (.long (j0_24_s0 x0 x1 x2 uB uS)), .second, .val (.ref uB), .val (.ref uS), .val (.int (w0_66 x0 x1 x2 uB uS)), .val (.int (w0_76 x0 x1 x2 uB uS)), .unset, .unset, .unset, .unset] [(.long x1), (.long x1), (.ref uB)])) rfl (by rw [hml]; rfl) (Steps.refl _) (argsL := [(.long x1), (.long x1)]) (rest := []) (lenOf pd0_0 rfl) rfl (by show 2 * 0 + _ ≤ _; exact Nat.le_of_eq rfl) (hb hby at_82) (fun _ _ => ⟨rfl, e9, (by decide : 0 + 0 ≤ _), (by decide : 0 + 0 ≤ _)⟩)
      dsimp only [Pt.U, Pt.locs, Pt.cells, Pt.slots] at X10 l10 y10 z10 st10 hQ10
      subst l10 y10 z10
      obtain ⟨rfl, N10q, e10⟩ := hQ10
      have N10 := Fr.app N9 N10q
      refine Goes.st (B := T10.setTop (mkF m 85 #[.val (.int x0), .val (.long x1), .second, .val (.long x2), .second, .val (.int (1 : Int32)), .val (.long (j0_24_s0 x0 x1 x2 uB uS)), .second, .val (.ref uB), .val (.ref uS), .val (.int (w0_66 x0 x1 x2 uB uS)), .val (.int (w0_76 x0 x1 x2 uB uS)), .unset, .unset, .unset, .unset] [(.int (r1 uB x1 x1 uB))])) (fun t k => st10.trans k) ?_
      refine Goes.run X10 hx hown hci hcl hby (L := [(85, .istore 12, 2), (87, .aload 9, 2), (89, .lload 6, 2), (91, .lload_n 1, 1)]) (by decide +kernel) rfl (g' := (mkF m 92 #[.val (.int x0), .val (.long x1), .second, .val (.long x2), .second, .val (.int (1 : Int32)), .val (.long (j0_24_s0 x0 x1 x2 uB uS)), .second, .val (.ref uB), .val (.ref uS), .val (.int (w0_66 x0 x1 x2 uB uS)), .val (.int (w0_76 x0 x1 x2 uB uS)), .val (.int (w0_85 x0 x1 x2 uB uS)), .unset, .unset, .unset] [(.long x1), (.long (j0_24_s0 x0 x1 x2 uB uS)), (.ref uS)])) rfl ?_
      obtain ⟨cq11, kq11, q11a, q11b, q11c⟩ := isOf hZ e10 E_uS
      obtain ⟨_, _, ⟨T11, L11, k11, n11⟩, -, X11, ⟨Lc11, hQ11, l11, y11, z11⟩, st11⟩ := X10.virtualBack hx (y := (⟨"com/example/rulewake/rulewake/Side", "isBetter", "(JJ)Z"⟩ : MethodName)) (z := (⟨"com/example/rulewake/rulewake/Side", "isBetter", "(JJ)Z"⟩ : MethodName)) hown (mvT hZ (hw _ (List.mem_of_getElem? (i := 5) rfl))) (mvT hZ (hw _ (List.mem_of_getElem? (i := 6) rfl))) (notFace_of_selects (args := #[]) (mvT hZ (hw _ (List.mem_of_getElem? (i := 8) rfl)))) (mvT hZ (hw _ (List.mem_of_getElem? (i := 8) rfl))) (mvT hZ (hw _ (List.mem_of_getElem? (i := 7) rfl))) (by decide) (backOf (W := 0) (rm1 l Z a0 hw [] uS (j0_24_s0 x0 x1 x2 uB uS) x1 uB h0 n0 Z0 S_BUY) hZ (hw _ (List.mem_of_getElem? (i := 9) rfl)) (hw _ (List.mem_of_getElem? (i := 1) rfl)) (by decide) (by decide)) q11a q11c (g := (mkF m 92 #[.val (.int x0), .val (.long x1), .second, .val (.long x2), .second, .val (.int (1 : Int32)), .val (.long (j0_24_s0 x0 x1 x2 uB uS)), .second, .val (.ref uB), .val (.ref uS), .val (.int (w0_66 x0 x1 x2 uB uS)), .val (.int (w0_76 x0 x1 x2 uB uS)), .val (.int (w0_85 x0 x1 x2 uB uS)), .unset, .unset, .unset] [(.long x1), (.long (j0_24_s0 x0 x1 x2 uB uS)), (.ref uS)])) rfl (by rw [hml]; rfl) (Steps.refl _) (argsL := [(.long (j0_24_s0 x0 x1 x2 uB uS)), (.long x1)]) (rest := []) (lenOf pd0_0 rfl) rfl (by show 2 * 0 + _ ≤ _; exact Nat.le_of_eq rfl) (hb hby at_92) (fun _ _ => ⟨rfl, e10, (by decide : 0 + 0 ≤ _), (by decide : 0 + 0 ≤ _)⟩)
      dsimp only [Pt.U, Pt.locs, Pt.cells, Pt.slots] at X11 l11 y11 z11 st11 hQ11
      subst l11 y11 z11
      obtain ⟨rfl, N11q, e11⟩ := hQ11
      have N11 := Fr.app N10 N11q
      refine Goes.st (B := T11.setTop (mkF m 95 #[.val (.int x0), .val (.long x1), .second, .val (.long x2), .second, .val (.int (1 : Int32)), .val (.long (j0_24_s0 x0 x1 x2 uB uS)), .second, .val (.ref uB), .val (.ref uS), .val (.int (w0_66 x0 x1 x2 uB uS)), .val (.int (w0_76 x0 x1 x2 uB uS)), .val (.int (w0_85 x0 x1 x2 uB uS)), .unset, .unset, .unset] [(.int (r1 uS (j0_24_s0 x0 x1 x2 uB uS) x1 uB))])) (fun t k => st11.trans k) ?_
      refine Goes.run X11 hx hown hci hcl hby (L := [(95, .istore 13, 2), (97, .iload 5, 2)]) (by decide +kernel) rfl (g' := (mkF m 99 #[.val (.int x0), .val (.long x1), .second, .val (.long x2), .second, .val (.int (1 : Int32)), .val (.long (j0_24_s0 x0 x1 x2 uB uS)), .second, .val (.ref uB), .val (.ref uS), .val (.int (w0_66 x0 x1 x2 uB uS)), .val (.int (w0_76 x0 x1 x2 uB uS)), .val (.int (w0_85 x0 x1 x2 uB uS)), .val (.int (w0_95 x0 x1 x2 uB uS)), .unset, .unset] [(.int (1 : Int32))])) rfl ?_
      have hc99_12 : ¬ ((1 : Int32) = (0 : Int32)) := by decide
      refine Goes.st (B := T11.setTop (mkF m 102 #[.val (.int x0), .val (.long x1), .second, .val (.long x2), .second, .val (.int (1 : Int32)), .val (.long (j0_24_s0 x0 x1 x2 uB uS)), .second, .val (.ref uB), .val (.ref uS), .val (.int (w0_66 x0 x1 x2 uB uS)), .val (.int (w0_76 x0 x1 x2 uB uS)), .val (.int (w0_85 x0 x1 x2 uB uS)), .val (.int (w0_95 x0 x1 x2 uB uS)), .unset, .unset] [])) (fun t k => ?_) ?_
      · refine XS.ifNo X11.here hx rfl (hb hby at_99) rfl ((if0 _ _).trans (feq hc99_12).1) ?_
        exact k
      refine Goes.run X11 hx hown hci hcl hby (L := [(102, .lload 6, 2), (104, .lload_n 1, 1), (105, .lcmp, 1)]) (by decide +kernel) rfl (g' := (mkF m 106 #[.val (.int x0), .val (.long x1), .second, .val (.long x2), .second, .val (.int (1 : Int32)), .val (.long (j0_24_s0 x0 x1 x2 uB uS)), .second, .val (.ref uB), .val (.ref uS), .val (.int (w0_66 x0 x1 x2 uB uS)), .val (.int (w0_76 x0 x1 x2 uB uS)), .val (.int (w0_85 x0 x1 x2 uB uS)), .val (.int (w0_95 x0 x1 x2 uB uS)), .unset, .unset] [(.int (lcmpW (j0_24_s0 x0 x1 x2 uB uS) x1))])) rfl ?_
      have jn114_14 : Goes p e below s (QL (some (.int (r0 x0 x1 x2 uB uS))) n0) room_1.cells room_1.slots (T11.setTop (mkF m 114 #[.val (.int x0), .val (.long x1), .second, .val (.long x2), .second, .val (.int (1 : Int32)), .val (.long (j0_24_s0 x0 x1 x2 uB uS)), .second, .val (.ref uB), .val (.ref uS), .val (.int (w0_66 x0 x1 x2 uB uS)), .val (.int (w0_76 x0 x1 x2 uB uS)), .val (.int (w0_85 x0 x1 x2 uB uS)), .val (.int (w0_95 x0 x1 x2 uB uS)), .unset, .unset] [(.int (j0_114_s0 x0 x1 x2 uB uS))])) := by
        refine Goes.run X11 hx hown hci hcl hby (L := [(114, .istore 14, 2), (116, .goto 17, 3), (133, .lload_n 1, 1), (134, .lload 6, 2), (136, .lcmp, 1)]) (by decide +kernel) rfl (g' := (mkF m 137 #[.val (.int x0), .val (.long x1), .second, .val (.long x2), .second, .val (.int (1 : Int32)), .val (.long (j0_24_s0 x0 x1 x2 uB uS)), .second, .val (.ref uB), .val (.ref uS), .val (.int (w0_66 x0 x1 x2 uB uS)), .val (.int (w0_76 x0 x1 x2 uB uS)), .val (.int (w0_85 x0 x1 x2 uB uS)), .val (.int (w0_95 x0 x1 x2 uB uS)), .val (.int (j0_114_s0 x0 x1 x2 uB uS)), .unset] [(.int (lcmpW x1 (j0_24_s0 x0 x1 x2 uB uS)))])) rfl ?_
        have jn170_19 : Goes p e below s (QL (some (.int (r0 x0 x1 x2 uB uS))) n0) room_1.cells room_1.slots (T11.setTop (mkF m 170 #[.val (.int x0), .val (.long x1), .second, .val (.long x2), .second, .val (.int (1 : Int32)), .val (.long (j0_24_s0 x0 x1 x2 uB uS)), .second, .val (.ref uB), .val (.ref uS), .val (.int (w0_66 x0 x1 x2 uB uS)), .val (.int (w0_76 x0 x1 x2 uB uS)), .val (.int (w0_85 x0 x1 x2 uB uS)), .val (.int (w0_95 x0 x1 x2 uB uS)), .val (.int (j0_114_s0 x0 x1 x2 uB uS)), .unset] [(.int (j0_170_s0 x0 x1 x2 uB uS))])) := by
          refine Goes.run X11 hx hown hci hcl hby (L := [(170, .istore 15, 2), (172, .iload 10, 2), (174, .iload 14, 2)]) (by decide +kernel) rfl (g' := (mkF m 176 #[.val (.int x0), .val (.long x1), .second, .val (.long x2), .second, .val (.int (1 : Int32)), .val (.long (j0_24_s0 x0 x1 x2 uB uS)), .second, .val (.ref uB), .val (.ref uS), .val (.int (w0_66 x0 x1 x2 uB uS)), .val (.int (w0_76 x0 x1 x2 uB uS)), .val (.int (w0_85 x0 x1 x2 uB uS)), .val (.int (w0_95 x0 x1 x2 uB uS)), .val (.int (j0_114_s0 x0 x1 x2 uB uS)), .val (.int (j0_170_s0 x0 x1 x2 uB uS))] [(.int (j0_114_s0 x0 x1 x2 uB uS)), (.int (w0_66 x0 x1 x2 uB uS))])) rfl ?_
          by_cases hc176_20 : (w0_66 x0 x1 x2 uB uS) = (j0_114_s0 x0 x1 x2 uB uS)
          · skip
            refine Goes.st (B := T11.setTop (mkF m 179 #[.val (.int x0), .val (.long x1), .second, .val (.long x2), .second, .val (.int (1 : Int32)), .val (.long (j0_24_s0 x0 x1 x2 uB uS)), .second, .val (.ref uB), .val (.ref uS), .val (.int (w0_66 x0 x1 x2 uB uS)), .val (.int (w0_76 x0 x1 x2 uB uS)), .val (.int (w0_85 x0 x1 x2 uB uS)), .val (.int (w0_95 x0 x1 x2 uB uS)), .val (.int (j0_114_s0 x0 x1 x2 uB uS)), .val (.int (j0_170_s0 x0 x1 x2 uB uS))] [])) (fun t k => ?_) ?_
            · refine XS.icmpNo X11.here hx rfl (hb hby at_176) rfl (teq hc176_20).2 ?_
              exact k
            refine Goes.run X11 hx hown hci hcl hby (L := [(179, .iload 12, 2)]) (by decide +kernel) rfl (g' := (mkF m 181 #[.val (.int x0), .val (.long x1), .second, .val (.long x2), .second, .val (.int (1 : Int32)), .val (.long (j0_24_s0 x0 x1 x2 uB uS)), .second, .val (.ref uB), .val (.ref uS), .val (.int (w0_66 x0 x1 x2 uB uS)), .val (.int (w0_76 x0 x1 x2 uB uS)), .val (.int (w0_85 x0 x1 x2 uB uS)), .val (.int (w0_95 x0 x1 x2 uB uS)), .val (.int (j0_114_s0 x0 x1 x2 uB uS)), .val (.int (j0_170_s0 x0 x1 x2 uB uS))] [(.int (w0_85 x0 x1 x2 uB uS))])) rfl ?_
            by_cases hc181_21 : (w0_85 x0 x1 x2 uB uS) = (0 : Int32)
            · skip
              refine Goes.st (B := T11.setTop (mkF m 184 #[.val (.int x0), .val (.long x1), .second, .val (.long x2), .second, .val (.int (1 : Int32)), .val (.long (j0_24_s0 x0 x1 x2 uB uS)), .second, .val (.ref uB), .val (.ref uS), .val (.int (w0_66 x0 x1 x2 uB uS)), .val (.int (w0_76 x0 x1 x2 uB uS)), .val (.int (w0_85 x0 x1 x2 uB uS)), .val (.int (w0_95 x0 x1 x2 uB uS)), .val (.int (j0_114_s0 x0 x1 x2 uB uS)), .val (.int (j0_170_s0 x0 x1 x2 uB uS))] [])) (fun t k => ?_) ?_
              · refine XS.ifNo X11.here hx rfl (hb hby at_181) rfl ((if0 _ _).trans (teq hc181_21).2) ?_
                exact k
              refine Goes.run X11 hx hown hci hcl hby (L := [(184, .iload 15, 2)]) (by decide +kernel) rfl (g' := (mkF m 186 #[.val (.int x0), .val (.long x1), .second, .val (.long x2), .second, .val (.int (1 : Int32)), .val (.long (j0_24_s0 x0 x1 x2 uB uS)), .second, .val (.ref uB), .val (.ref uS), .val (.int (w0_66 x0 x1 x2 uB uS)), .val (.int (w0_76 x0 x1 x2 uB uS)), .val (.int (w0_85 x0 x1 x2 uB uS)), .val (.int (w0_95 x0 x1 x2 uB uS)), .val (.int (j0_114_s0 x0 x1 x2 uB uS)), .val (.int (j0_170_s0 x0 x1 x2 uB uS))] [(.int (j0_170_s0 x0 x1 x2 uB uS))])) rfl ?_
              by_cases hc186_22 : (j0_170_s0 x0 x1 x2 uB uS) = (0 : Int32)
              · skip
                refine Goes.st (B := T11.setTop (mkF m 200 #[.val (.int x0), .val (.long x1), .second, .val (.long x2), .second, .val (.int (1 : Int32)), .val (.long (j0_24_s0 x0 x1 x2 uB uS)), .second, .val (.ref uB), .val (.ref uS), .val (.int (w0_66 x0 x1 x2 uB uS)), .val (.int (w0_76 x0 x1 x2 uB uS)), .val (.int (w0_85 x0 x1 x2 uB uS)), .val (.int (w0_95 x0 x1 x2 uB uS)), .val (.int (j0_114_s0 x0 x1 x2 uB uS)), .val (.int (j0_170_s0 x0 x1 x2 uB uS))] [])) (fun t k => ?_) ?_
                · refine XS.ifYes X11.here hx rfl (pc0 := 186) (pc' := 200) rfl (hb hby at_186) rfl ((if0 _ _).trans (teq hc186_22).1) (by decide) (by decide) ?_
                  exact k
                refine Goes.run X11 hx hown hci hcl hby (L := [(200, .iconst 0, 1)]) (by decide +kernel) rfl (g' := (mkF m 201 #[.val (.int x0), .val (.long x1), .second, .val (.long x2), .second, .val (.int (1 : Int32)), .val (.long (j0_24_s0 x0 x1 x2 uB uS)), .second, .val (.ref uB), .val (.ref uS), .val (.int (w0_66 x0 x1 x2 uB uS)), .val (.int (w0_76 x0 x1 x2 uB uS)), .val (.int (w0_85 x0 x1 x2 uB uS)), .val (.int (w0_95 x0 x1 x2 uB uS)), .val (.int (j0_114_s0 x0 x1 x2 uB uS)), .val (.int (j0_170_s0 x0 x1 x2 uB uS))] [(.int (0 : Int32))])) rfl ?_
                exact Goes.retB X11 hx hlk (t := .boolean) Bd.returns (by simp) (hb hby at_201) rfl ⟨(congrArg (fun z => some (Value.int z)) (show (r0 x0 x1 x2 uB uS) = (0 : Int32) from ((((if_pos hc3_1).trans (if_pos hc176_20)).trans (if_pos hc181_21)).trans (if_pos hc186_22))).symm), N11⟩ (by decide) (by decide)
              · skip
                refine Goes.st (B := T11.setTop (mkF m 189 #[.val (.int x0), .val (.long x1), .second, .val (.long x2), .second, .val (.int (1 : Int32)), .val (.long (j0_24_s0 x0 x1 x2 uB uS)), .second, .val (.ref uB), .val (.ref uS), .val (.int (w0_66 x0 x1 x2 uB uS)), .val (.int (w0_76 x0 x1 x2 uB uS)), .val (.int (w0_85 x0 x1 x2 uB uS)), .val (.int (w0_95 x0 x1 x2 uB uS)), .val (.int (j0_114_s0 x0 x1 x2 uB uS)), .val (.int (j0_170_s0 x0 x1 x2 uB uS))] [])) (fun t k => ?_) ?_
                · refine XS.ifNo X11.here hx rfl (hb hby at_186) rfl ((if0 _ _).trans (feq hc186_22).1) ?_
                  exact k
                refine Goes.run X11 hx hown hci hcl hby (L := [(189, .iload 13, 2), (191, .iload 10, 2)]) (by decide +kernel) rfl (g' := (mkF m 193 #[.val (.int x0), .val (.long x1), .second, .val (.long x2), .second, .val (.int (1 : Int32)), .val (.long (j0_24_s0 x0 x1 x2 uB uS)), .second, .val (.ref uB), .val (.ref uS), .val (.int (w0_66 x0 x1 x2 uB uS)), .val (.int (w0_76 x0 x1 x2 uB uS)), .val (.int (w0_85 x0 x1 x2 uB uS)), .val (.int (w0_95 x0 x1 x2 uB uS)), .val (.int (j0_114_s0 x0 x1 x2 uB uS)), .val (.int (j0_170_s0 x0 x1 x2 uB uS))] [(.int (w0_66 x0 x1 x2 uB uS)), (.int (w0_95 x0 x1 x2 uB uS))])) rfl ?_
                by_cases hc193_23 : (w0_95 x0 x1 x2 uB uS) = (w0_66 x0 x1 x2 uB uS)
                · skip
                  refine Goes.st (B := T11.setTop (mkF m 196 #[.val (.int x0), .val (.long x1), .second, .val (.long x2), .second, .val (.int (1 : Int32)), .val (.long (j0_24_s0 x0 x1 x2 uB uS)), .second, .val (.ref uB), .val (.ref uS), .val (.int (w0_66 x0 x1 x2 uB uS)), .val (.int (w0_76 x0 x1 x2 uB uS)), .val (.int (w0_85 x0 x1 x2 uB uS)), .val (.int (w0_95 x0 x1 x2 uB uS)), .val (.int (j0_114_s0 x0 x1 x2 uB uS)), .val (.int (j0_170_s0 x0 x1 x2 uB uS))] [])) (fun t k => ?_) ?_
                  · refine XS.icmpNo X11.here hx rfl (hb hby at_193) rfl (teq hc193_23).2 ?_
                    exact k
                  refine Goes.run X11 hx hown hci hcl hby (L := [(196, .iconst 1, 1), (197, .goto 4, 3)]) (by decide +kernel) rfl (g' := (mkF m 201 #[.val (.int x0), .val (.long x1), .second, .val (.long x2), .second, .val (.int (1 : Int32)), .val (.long (j0_24_s0 x0 x1 x2 uB uS)), .second, .val (.ref uB), .val (.ref uS), .val (.int (w0_66 x0 x1 x2 uB uS)), .val (.int (w0_76 x0 x1 x2 uB uS)), .val (.int (w0_85 x0 x1 x2 uB uS)), .val (.int (w0_95 x0 x1 x2 uB uS)), .val (.int (j0_114_s0 x0 x1 x2 uB uS)), .val (.int (j0_170_s0 x0 x1 x2 uB uS))] [(.int (1 : Int32))])) rfl ?_
                  exact Goes.retB X11 hx hlk (t := .boolean) Bd.returns (by simp) (hb hby at_201) rfl ⟨(congrArg (fun z => some (Value.int z)) (show (r0 x0 x1 x2 uB uS) = (1 : Int32) from (((((if_pos hc3_1).trans (if_pos hc176_20)).trans (if_pos hc181_21)).trans (if_neg hc186_22)).trans (if_pos hc193_23))).symm), N11⟩ (by decide) (by decide)
                · skip
                  refine Goes.st (B := T11.setTop (mkF m 200 #[.val (.int x0), .val (.long x1), .second, .val (.long x2), .second, .val (.int (1 : Int32)), .val (.long (j0_24_s0 x0 x1 x2 uB uS)), .second, .val (.ref uB), .val (.ref uS), .val (.int (w0_66 x0 x1 x2 uB uS)), .val (.int (w0_76 x0 x1 x2 uB uS)), .val (.int (w0_85 x0 x1 x2 uB uS)), .val (.int (w0_95 x0 x1 x2 uB uS)), .val (.int (j0_114_s0 x0 x1 x2 uB uS)), .val (.int (j0_170_s0 x0 x1 x2 uB uS))] [])) (fun t k => ?_) ?_
                  · refine XS.icmpYes X11.here hx rfl (pc0 := 193) (pc' := 200) rfl (hb hby at_193) rfl (feq hc193_23).2 (by decide) (by decide) ?_
                    exact k
                  refine Goes.run X11 hx hown hci hcl hby (L := [(200, .iconst 0, 1)]) (by decide +kernel) rfl (g' := (mkF m 201 #[.val (.int x0), .val (.long x1), .second, .val (.long x2), .second, .val (.int (1 : Int32)), .val (.long (j0_24_s0 x0 x1 x2 uB uS)), .second, .val (.ref uB), .val (.ref uS), .val (.int (w0_66 x0 x1 x2 uB uS)), .val (.int (w0_76 x0 x1 x2 uB uS)), .val (.int (w0_85 x0 x1 x2 uB uS)), .val (.int (w0_95 x0 x1 x2 uB uS)), .val (.int (j0_114_s0 x0 x1 x2 uB uS)), .val (.int (j0_170_s0 x0 x1 x2 uB uS))] [(.int (0 : Int32))])) rfl ?_
                  exact Goes.retB X11 hx hlk (t := .boolean) Bd.returns (by simp) (hb hby at_201) rfl ⟨(congrArg (fun z => some (Value.int z)) (show (r0 x0 x1 x2 uB uS) = (0 : Int32) from (((((if_pos hc3_1).trans (if_pos hc176_20)).trans (if_pos hc181_21)).trans (if_neg hc186_22)).trans (if_neg hc193_23))).symm), N11⟩ (by decide) (by decide)
            · skip
              refine Goes.st (B := T11.setTop (mkF m 200 #[.val (.int x0), .val (.long x1), .second, .val (.long x2), .second, .val (.int (1 : Int32)), .val (.long (j0_24_s0 x0 x1 x2 uB uS)), .second, .val (.ref uB), .val (.ref uS), .val (.int (w0_66 x0 x1 x2 uB uS)), .val (.int (w0_76 x0 x1 x2 uB uS)), .val (.int (w0_85 x0 x1 x2 uB uS)), .val (.int (w0_95 x0 x1 x2 uB uS)), .val (.int (j0_114_s0 x0 x1 x2 uB uS)), .val (.int (j0_170_s0 x0 x1 x2 uB uS))] [])) (fun t k => ?_) ?_
              · refine XS.ifYes X11.here hx rfl (pc0 := 181) (pc' := 200) rfl (hb hby at_181) rfl ((if0 _ _).trans (feq hc181_21).2) (by decide) (by decide) ?_
                exact k
              refine Goes.run X11 hx hown hci hcl hby (L := [(200, .iconst 0, 1)]) (by decide +kernel) rfl (g' := (mkF m 201 #[.val (.int x0), .val (.long x1), .second, .val (.long x2), .second, .val (.int (1 : Int32)), .val (.long (j0_24_s0 x0 x1 x2 uB uS)), .second, .val (.ref uB), .val (.ref uS), .val (.int (w0_66 x0 x1 x2 uB uS)), .val (.int (w0_76 x0 x1 x2 uB uS)), .val (.int (w0_85 x0 x1 x2 uB uS)), .val (.int (w0_95 x0 x1 x2 uB uS)), .val (.int (j0_114_s0 x0 x1 x2 uB uS)), .val (.int (j0_170_s0 x0 x1 x2 uB uS))] [(.int (0 : Int32))])) rfl ?_
              exact Goes.retB X11 hx hlk (t := .boolean) Bd.returns (by simp) (hb hby at_201) rfl ⟨(congrArg (fun z => some (Value.int z)) (show (r0 x0 x1 x2 uB uS) = (0 : Int32) from (((if_pos hc3_1).trans (if_pos hc176_20)).trans (if_neg hc181_21))).symm), N11⟩ (by decide) (by decide)
          · skip
            refine Goes.st (B := T11.setTop (mkF m 200 #[.val (.int x0), .val (.long x1), .second, .val (.long x2), .second, .val (.int (1 : Int32)), .val (.long (j0_24_s0 x0 x1 x2 uB uS)), .second, .val (.ref uB), .val (.ref uS), .val (.int (w0_66 x0 x1 x2 uB uS)), .val (.int (w0_76 x0 x1 x2 uB uS)), .val (.int (w0_85 x0 x1 x2 uB uS)), .val (.int (w0_95 x0 x1 x2 uB uS)), .val (.int (j0_114_s0 x0 x1 x2 uB uS)), .val (.int (j0_170_s0 x0 x1 x2 uB uS))] [])) (fun t k => ?_) ?_
            · refine XS.icmpYes X11.here hx rfl (pc0 := 176) (pc' := 200) rfl (hb hby at_176) rfl (feq hc176_20).2 (by decide) (by decide) ?_
              exact k
            refine Goes.run X11 hx hown hci hcl hby (L := [(200, .iconst 0, 1)]) (by decide +kernel) rfl (g' := (mkF m 201 #[.val (.int x0), .val (.long x1), .second, .val (.long x2), .second, .val (.int (1 : Int32)), .val (.long (j0_24_s0 x0 x1 x2 uB uS)), .second, .val (.ref uB), .val (.ref uS), .val (.int (w0_66 x0 x1 x2 uB uS)), .val (.int (w0_76 x0 x1 x2 uB uS)), .val (.int (w0_85 x0 x1 x2 uB uS)), .val (.int (w0_95 x0 x1 x2 uB uS)), .val (.int (j0_114_s0 x0 x1 x2 uB uS)), .val (.int (j0_170_s0 x0 x1 x2 uB uS))] [(.int (0 : Int32))])) rfl ?_
            exact Goes.retB X11 hx hlk (t := .boolean) Bd.returns (by simp) (hb hby at_201) rfl ⟨(congrArg (fun z => some (Value.int z)) (show (r0 x0 x1 x2 uB uS) = (0 : Int32) from ((if_pos hc3_1).trans (if_neg hc176_20))).symm), N11⟩ (by decide) (by decide)
        by_cases hc137_15 : x1 = (j0_24_s0 x0 x1 x2 uB uS)
        · skip
          refine Goes.st (B := T11.setTop (mkF m 140 #[.val (.int x0), .val (.long x1), .second, .val (.long x2), .second, .val (.int (1 : Int32)), .val (.long (j0_24_s0 x0 x1 x2 uB uS)), .second, .val (.ref uB), .val (.ref uS), .val (.int (w0_66 x0 x1 x2 uB uS)), .val (.int (w0_76 x0 x1 x2 uB uS)), .val (.int (w0_85 x0 x1 x2 uB uS)), .val (.int (w0_95 x0 x1 x2 uB uS)), .val (.int (j0_114_s0 x0 x1 x2 uB uS)), .unset] [])) (fun t k => ?_) ?_
          · refine XS.ifNo X11.here hx rfl (hb hby at_137) rfl (teqL hc137_15).2 ?_
            exact k
          refine Goes.run X11 hx hown hci hcl hby (L := [(140, .iload 10, 2)]) (by decide +kernel) rfl (g' := (mkF m 142 #[.val (.int x0), .val (.long x1), .second, .val (.long x2), .second, .val (.int (1 : Int32)), .val (.long (j0_24_s0 x0 x1 x2 uB uS)), .second, .val (.ref uB), .val (.ref uS), .val (.int (w0_66 x0 x1 x2 uB uS)), .val (.int (w0_76 x0 x1 x2 uB uS)), .val (.int (w0_85 x0 x1 x2 uB uS)), .val (.int (w0_95 x0 x1 x2 uB uS)), .val (.int (j0_114_s0 x0 x1 x2 uB uS)), .unset] [(.int (w0_66 x0 x1 x2 uB uS))])) rfl ?_
          by_cases hc142_24 : (w0_66 x0 x1 x2 uB uS) = (0 : Int32)
          · skip
            refine Goes.st (B := T11.setTop (mkF m 145 #[.val (.int x0), .val (.long x1), .second, .val (.long x2), .second, .val (.int (1 : Int32)), .val (.long (j0_24_s0 x0 x1 x2 uB uS)), .second, .val (.ref uB), .val (.ref uS), .val (.int (w0_66 x0 x1 x2 uB uS)), .val (.int (w0_76 x0 x1 x2 uB uS)), .val (.int (w0_85 x0 x1 x2 uB uS)), .val (.int (w0_95 x0 x1 x2 uB uS)), .val (.int (j0_114_s0 x0 x1 x2 uB uS)), .unset] [])) (fun t k => ?_) ?_
            · refine XS.ifNo X11.here hx rfl (hb hby at_142) rfl ((if0 _ _).trans (teq hc142_24).2) ?_
              exact k
            refine Goes.run X11 hx hown hci hcl hby (L := [(145, .iload 11, 2)]) (by decide +kernel) rfl (g' := (mkF m 147 #[.val (.int x0), .val (.long x1), .second, .val (.long x2), .second, .val (.int (1 : Int32)), .val (.long (j0_24_s0 x0 x1 x2 uB uS)), .second, .val (.ref uB), .val (.ref uS), .val (.int (w0_66 x0 x1 x2 uB uS)), .val (.int (w0_76 x0 x1 x2 uB uS)), .val (.int (w0_85 x0 x1 x2 uB uS)), .val (.int (w0_95 x0 x1 x2 uB uS)), .val (.int (j0_114_s0 x0 x1 x2 uB uS)), .unset] [(.int (w0_76 x0 x1 x2 uB uS))])) rfl ?_
            by_cases hc147_25 : (w0_76 x0 x1 x2 uB uS) = (0 : Int32)
            · skip
              refine Goes.st (B := T11.setTop (mkF m 150 #[.val (.int x0), .val (.long x1), .second, .val (.long x2), .second, .val (.int (1 : Int32)), .val (.long (j0_24_s0 x0 x1 x2 uB uS)), .second, .val (.ref uB), .val (.ref uS), .val (.int (w0_66 x0 x1 x2 uB uS)), .val (.int (w0_76 x0 x1 x2 uB uS)), .val (.int (w0_85 x0 x1 x2 uB uS)), .val (.int (w0_95 x0 x1 x2 uB uS)), .val (.int (j0_114_s0 x0 x1 x2 uB uS)), .unset] [])) (fun t k => ?_) ?_
              · refine XS.ifNo X11.here hx rfl (hb hby at_147) rfl ((if0 _ _).trans (teq hc147_25).2) ?_
                exact k
              refine Goes.run X11 hx hown hci hcl hby (L := [(150, .iconst 1, 1), (151, .goto 19, 3)]) (by decide +kernel) rfl (g' := (mkF m 170 #[.val (.int x0), .val (.long x1), .second, .val (.long x2), .second, .val (.int (1 : Int32)), .val (.long (j0_24_s0 x0 x1 x2 uB uS)), .second, .val (.ref uB), .val (.ref uS), .val (.int (w0_66 x0 x1 x2 uB uS)), .val (.int (w0_76 x0 x1 x2 uB uS)), .val (.int (w0_85 x0 x1 x2 uB uS)), .val (.int (w0_95 x0 x1 x2 uB uS)), .val (.int (j0_114_s0 x0 x1 x2 uB uS)), .unset] [(.int (1 : Int32))])) rfl ?_
              have q := jn170_19
              rw [show (j0_170_s0 x0 x1 x2 uB uS) = (1 : Int32) from (((if_pos hc137_15).trans (if_pos hc142_24)).trans (if_pos hc147_25))] at q
              exact q
            · skip
              refine Goes.st (B := T11.setTop (mkF m 154 #[.val (.int x0), .val (.long x1), .second, .val (.long x2), .second, .val (.int (1 : Int32)), .val (.long (j0_24_s0 x0 x1 x2 uB uS)), .second, .val (.ref uB), .val (.ref uS), .val (.int (w0_66 x0 x1 x2 uB uS)), .val (.int (w0_76 x0 x1 x2 uB uS)), .val (.int (w0_85 x0 x1 x2 uB uS)), .val (.int (w0_95 x0 x1 x2 uB uS)), .val (.int (j0_114_s0 x0 x1 x2 uB uS)), .unset] [])) (fun t k => ?_) ?_
              · refine XS.ifYes X11.here hx rfl (pc0 := 147) (pc' := 154) rfl (hb hby at_147) rfl ((if0 _ _).trans (feq hc147_25).2) (by decide) (by decide) ?_
                exact k
              refine Goes.run X11 hx hown hci hcl hby (L := [(154, .iconst 0, 1), (155, .goto 15, 3)]) (by decide +kernel) rfl (g' := (mkF m 170 #[.val (.int x0), .val (.long x1), .second, .val (.long x2), .second, .val (.int (1 : Int32)), .val (.long (j0_24_s0 x0 x1 x2 uB uS)), .second, .val (.ref uB), .val (.ref uS), .val (.int (w0_66 x0 x1 x2 uB uS)), .val (.int (w0_76 x0 x1 x2 uB uS)), .val (.int (w0_85 x0 x1 x2 uB uS)), .val (.int (w0_95 x0 x1 x2 uB uS)), .val (.int (j0_114_s0 x0 x1 x2 uB uS)), .unset] [(.int (0 : Int32))])) rfl ?_
              have q := jn170_19
              rw [show (j0_170_s0 x0 x1 x2 uB uS) = (0 : Int32) from (((if_pos hc137_15).trans (if_pos hc142_24)).trans (if_neg hc147_25))] at q
              exact q
          · skip
            refine Goes.st (B := T11.setTop (mkF m 154 #[.val (.int x0), .val (.long x1), .second, .val (.long x2), .second, .val (.int (1 : Int32)), .val (.long (j0_24_s0 x0 x1 x2 uB uS)), .second, .val (.ref uB), .val (.ref uS), .val (.int (w0_66 x0 x1 x2 uB uS)), .val (.int (w0_76 x0 x1 x2 uB uS)), .val (.int (w0_85 x0 x1 x2 uB uS)), .val (.int (w0_95 x0 x1 x2 uB uS)), .val (.int (j0_114_s0 x0 x1 x2 uB uS)), .unset] [])) (fun t k => ?_) ?_
            · refine XS.ifYes X11.here hx rfl (pc0 := 142) (pc' := 154) rfl (hb hby at_142) rfl ((if0 _ _).trans (feq hc142_24).2) (by decide) (by decide) ?_
              exact k
            refine Goes.run X11 hx hown hci hcl hby (L := [(154, .iconst 0, 1), (155, .goto 15, 3)]) (by decide +kernel) rfl (g' := (mkF m 170 #[.val (.int x0), .val (.long x1), .second, .val (.long x2), .second, .val (.int (1 : Int32)), .val (.long (j0_24_s0 x0 x1 x2 uB uS)), .second, .val (.ref uB), .val (.ref uS), .val (.int (w0_66 x0 x1 x2 uB uS)), .val (.int (w0_76 x0 x1 x2 uB uS)), .val (.int (w0_85 x0 x1 x2 uB uS)), .val (.int (w0_95 x0 x1 x2 uB uS)), .val (.int (j0_114_s0 x0 x1 x2 uB uS)), .unset] [(.int (0 : Int32))])) rfl ?_
            have q := jn170_19
            rw [show (j0_170_s0 x0 x1 x2 uB uS) = (0 : Int32) from ((if_pos hc137_15).trans (if_neg hc142_24))] at q
            exact q
        · skip
          refine Goes.st (B := T11.setTop (mkF m 158 #[.val (.int x0), .val (.long x1), .second, .val (.long x2), .second, .val (.int (1 : Int32)), .val (.long (j0_24_s0 x0 x1 x2 uB uS)), .second, .val (.ref uB), .val (.ref uS), .val (.int (w0_66 x0 x1 x2 uB uS)), .val (.int (w0_76 x0 x1 x2 uB uS)), .val (.int (w0_85 x0 x1 x2 uB uS)), .val (.int (w0_95 x0 x1 x2 uB uS)), .val (.int (j0_114_s0 x0 x1 x2 uB uS)), .unset] [])) (fun t k => ?_) ?_
          · refine XS.ifYes X11.here hx rfl (pc0 := 137) (pc' := 158) rfl (hb hby at_137) rfl (feqL hc137_15).2 (by decide) (by decide) ?_
            exact k
          refine Goes.run X11 hx hown hci hcl hby (L := [(158, .iload 10, 2), (160, .iload 11, 2)]) (by decide +kernel) rfl (g' := (mkF m 162 #[.val (.int x0), .val (.long x1), .second, .val (.long x2), .second, .val (.int (1 : Int32)), .val (.long (j0_24_s0 x0 x1 x2 uB uS)), .second, .val (.ref uB), .val (.ref uS), .val (.int (w0_66 x0 x1 x2 uB uS)), .val (.int (w0_76 x0 x1 x2 uB uS)), .val (.int (w0_85 x0 x1 x2 uB uS)), .val (.int (w0_95 x0 x1 x2 uB uS)), .val (.int (j0_114_s0 x0 x1 x2 uB uS)), .unset] [(.int (w0_76 x0 x1 x2 uB uS)), (.int (w0_66 x0 x1 x2 uB uS))])) rfl ?_
          by_cases hc162_26 : (w0_66 x0 x1 x2 uB uS) = (w0_76 x0 x1 x2 uB uS)
          · skip
            refine Goes.st (B := T11.setTop (mkF m 169 #[.val (.int x0), .val (.long x1), .second, .val (.long x2), .second, .val (.int (1 : Int32)), .val (.long (j0_24_s0 x0 x1 x2 uB uS)), .second, .val (.ref uB), .val (.ref uS), .val (.int (w0_66 x0 x1 x2 uB uS)), .val (.int (w0_76 x0 x1 x2 uB uS)), .val (.int (w0_85 x0 x1 x2 uB uS)), .val (.int (w0_95 x0 x1 x2 uB uS)), .val (.int (j0_114_s0 x0 x1 x2 uB uS)), .unset] [])) (fun t k => ?_) ?_
            · refine XS.icmpYes X11.here hx rfl (pc0 := 162) (pc' := 169) rfl (hb hby at_162) rfl (teq hc162_26).1 (by decide) (by decide) ?_
              exact k
            refine Goes.run X11 hx hown hci hcl hby (L := [(169, .iconst 0, 1)]) (by decide +kernel) rfl (g' := (mkF m 170 #[.val (.int x0), .val (.long x1), .second, .val (.long x2), .second, .val (.int (1 : Int32)), .val (.long (j0_24_s0 x0 x1 x2 uB uS)), .second, .val (.ref uB), .val (.ref uS), .val (.int (w0_66 x0 x1 x2 uB uS)), .val (.int (w0_76 x0 x1 x2 uB uS)), .val (.int (w0_85 x0 x1 x2 uB uS)), .val (.int (w0_95 x0 x1 x2 uB uS)), .val (.int (j0_114_s0 x0 x1 x2 uB uS)), .unset] [(.int (0 : Int32))])) rfl ?_
            have q := jn170_19
            rw [show (j0_170_s0 x0 x1 x2 uB uS) = (0 : Int32) from ((if_neg hc137_15).trans (if_pos hc162_26))] at q
            exact q
          · skip
            refine Goes.st (B := T11.setTop (mkF m 165 #[.val (.int x0), .val (.long x1), .second, .val (.long x2), .second, .val (.int (1 : Int32)), .val (.long (j0_24_s0 x0 x1 x2 uB uS)), .second, .val (.ref uB), .val (.ref uS), .val (.int (w0_66 x0 x1 x2 uB uS)), .val (.int (w0_76 x0 x1 x2 uB uS)), .val (.int (w0_85 x0 x1 x2 uB uS)), .val (.int (w0_95 x0 x1 x2 uB uS)), .val (.int (j0_114_s0 x0 x1 x2 uB uS)), .unset] [])) (fun t k => ?_) ?_
            · refine XS.icmpNo X11.here hx rfl (hb hby at_162) rfl (feq hc162_26).1 ?_
              exact k
            refine Goes.run X11 hx hown hci hcl hby (L := [(165, .iconst 1, 1), (166, .goto 4, 3)]) (by decide +kernel) rfl (g' := (mkF m 170 #[.val (.int x0), .val (.long x1), .second, .val (.long x2), .second, .val (.int (1 : Int32)), .val (.long (j0_24_s0 x0 x1 x2 uB uS)), .second, .val (.ref uB), .val (.ref uS), .val (.int (w0_66 x0 x1 x2 uB uS)), .val (.int (w0_76 x0 x1 x2 uB uS)), .val (.int (w0_85 x0 x1 x2 uB uS)), .val (.int (w0_95 x0 x1 x2 uB uS)), .val (.int (j0_114_s0 x0 x1 x2 uB uS)), .unset] [(.int (1 : Int32))])) rfl ?_
            have q := jn170_19
            rw [show (j0_170_s0 x0 x1 x2 uB uS) = (1 : Int32) from ((if_neg hc137_15).trans (if_neg hc162_26))] at q
            exact q
      by_cases hc106_13 : (j0_24_s0 x0 x1 x2 uB uS) < x1
      · skip
        refine Goes.st (B := T11.setTop (mkF m 109 #[.val (.int x0), .val (.long x1), .second, .val (.long x2), .second, .val (.int (1 : Int32)), .val (.long (j0_24_s0 x0 x1 x2 uB uS)), .second, .val (.ref uB), .val (.ref uS), .val (.int (w0_66 x0 x1 x2 uB uS)), .val (.int (w0_76 x0 x1 x2 uB uS)), .val (.int (w0_85 x0 x1 x2 uB uS)), .val (.int (w0_95 x0 x1 x2 uB uS)), .unset, .unset] [])) (fun t k => ?_) ?_
        · refine XS.ifNo X11.here hx rfl (hb hby at_106) rfl (tltL hc106_13).2.1 ?_
          exact k
        refine Goes.run X11 hx hown hci hcl hby (L := [(109, .iconst 1, 1), (110, .goto 4, 3)]) (by decide +kernel) rfl (g' := (mkF m 114 #[.val (.int x0), .val (.long x1), .second, .val (.long x2), .second, .val (.int (1 : Int32)), .val (.long (j0_24_s0 x0 x1 x2 uB uS)), .second, .val (.ref uB), .val (.ref uS), .val (.int (w0_66 x0 x1 x2 uB uS)), .val (.int (w0_76 x0 x1 x2 uB uS)), .val (.int (w0_85 x0 x1 x2 uB uS)), .val (.int (w0_95 x0 x1 x2 uB uS)), .unset, .unset] [(.int (1 : Int32))])) rfl ?_
        have q := jn114_14
        rw [show (j0_114_s0 x0 x1 x2 uB uS) = (1 : Int32) from (if_pos hc106_13)] at q
        exact q
      · skip
        refine Goes.st (B := T11.setTop (mkF m 113 #[.val (.int x0), .val (.long x1), .second, .val (.long x2), .second, .val (.int (1 : Int32)), .val (.long (j0_24_s0 x0 x1 x2 uB uS)), .second, .val (.ref uB), .val (.ref uS), .val (.int (w0_66 x0 x1 x2 uB uS)), .val (.int (w0_76 x0 x1 x2 uB uS)), .val (.int (w0_85 x0 x1 x2 uB uS)), .val (.int (w0_95 x0 x1 x2 uB uS)), .unset, .unset] [])) (fun t k => ?_) ?_
        · refine XS.ifYes X11.here hx rfl (pc0 := 106) (pc' := 113) rfl (hb hby at_106) rfl (fltL hc106_13).2.1 (by decide) (by decide) ?_
          exact k
        refine Goes.run X11 hx hown hci hcl hby (L := [(113, .iconst 0, 1)]) (by decide +kernel) rfl (g' := (mkF m 114 #[.val (.int x0), .val (.long x1), .second, .val (.long x2), .second, .val (.int (1 : Int32)), .val (.long (j0_24_s0 x0 x1 x2 uB uS)), .second, .val (.ref uB), .val (.ref uS), .val (.int (w0_66 x0 x1 x2 uB uS)), .val (.int (w0_76 x0 x1 x2 uB uS)), .val (.int (w0_85 x0 x1 x2 uB uS)), .val (.int (w0_95 x0 x1 x2 uB uS)), .unset, .unset] [(.int (0 : Int32))])) rfl ?_
        have q := jn114_14
        rw [show (j0_114_s0 x0 x1 x2 uB uS) = (0 : Int32) from (if_neg hc106_13)] at q
        exact q
    by_cases hc16_2 : (x0 &&& (2 : Int32)) = (0 : Int32)
    · skip
      refine Goes.st (B := s₁.setTop (mkF m 23 #[.val (.int x0), .val (.long x1), .second, .val (.long x2), .second, .val (.int (1 : Int32)), .unset, .unset, .unset, .unset, .unset, .unset, .unset, .unset, .unset, .unset] [])) (fun t k => ?_) ?_
      · refine XS.ifYes X0.here hx rfl (pc0 := 16) (pc' := 23) rfl (hb hby at_16) rfl ((if0 _ _).trans (teq hc16_2).1) (by decide) (by decide) ?_
        exact k
      refine Goes.run X0 hx hown hci hcl hby (L := [(23, .lload_n 3, 1)]) (by decide +kernel) rfl (g' := (mkF m 24 #[.val (.int x0), .val (.long x1), .second, .val (.long x2), .second, .val (.int (1 : Int32)), .unset, .unset, .unset, .unset, .unset, .unset, .unset, .unset, .unset, .unset] [(.long x2)])) rfl ?_
      have q := jn24_3
      rw [show (j0_24_s0 x0 x1 x2 uB uS) = x2 from (if_pos hc16_2)] at q
      exact q
    · skip
      refine Goes.st (B := s₁.setTop (mkF m 19 #[.val (.int x0), .val (.long x1), .second, .val (.long x2), .second, .val (.int (1 : Int32)), .unset, .unset, .unset, .unset, .unset, .unset, .unset, .unset, .unset, .unset] [])) (fun t k => ?_) ?_
      · refine XS.ifNo X0.here hx rfl (hb hby at_16) rfl ((if0 _ _).trans (feq hc16_2).1) ?_
        exact k
      refine Goes.run X0 hx hown hci hcl hby (L := [(19, .lload_n 1, 1), (20, .goto 4, 3)]) (by decide +kernel) rfl (g' := (mkF m 24 #[.val (.int x0), .val (.long x1), .second, .val (.long x2), .second, .val (.int (1 : Int32)), .unset, .unset, .unset, .unset, .unset, .unset, .unset, .unset, .unset, .unset] [(.long x1)])) rfl ?_
      have q := jn24_3
      rw [show (j0_24_s0 x0 x1 x2 uB uS) = x1 from (if_neg hc16_2)] at q
      exact q
  · skip
    refine Goes.st (B := s₁.setTop (mkF m 10 #[.val (.int x0), .val (.long x1), .second, .val (.long x2), .second, .unset, .unset, .unset, .unset, .unset, .unset, .unset, .unset, .unset, .unset, .unset] [])) (fun t k => ?_) ?_
    · refine XS.ifYes X0.here hx rfl (pc0 := 3) (pc' := 10) rfl (hb hby at_3) rfl ((if0 _ _).trans (feq hc3_1).2) (by decide) (by decide) ?_
      exact k
    refine Goes.run X0 hx hown hci hcl hby (L := [(10, .iconst 0, 1), (11, .istore 5, 2), (13, .iload_n 0, 1), (14, .iconst 2, 1), (15, .iand, 1)]) (by decide +kernel) rfl (g' := (mkF m 16 #[.val (.int x0), .val (.long x1), .second, .val (.long x2), .second, .val (.int (0 : Int32)), .unset, .unset, .unset, .unset, .unset, .unset, .unset, .unset, .unset, .unset] [(.int (x0 &&& (2 : Int32)))])) rfl ?_
    have jn24_28 : Goes p e below s (QL (some (.int (r0 x0 x1 x2 uB uS))) n0) room_1.cells room_1.slots (s₁.setTop (mkF m 24 #[.val (.int x0), .val (.long x1), .second, .val (.long x2), .second, .val (.int (0 : Int32)), .unset, .unset, .unset, .unset, .unset, .unset, .unset, .unset, .unset, .unset] [(.long (j0_24_s0 x0 x1 x2 uB uS))])) := by
      refine Goes.run X0 hx hown hci hcl hby (L := [(24, .lstore 6, 2), (26, .iload 5, 2)]) (by decide +kernel) rfl (g' := (mkF m 28 #[.val (.int x0), .val (.long x1), .second, .val (.long x2), .second, .val (.int (0 : Int32)), .val (.long (j0_24_s0 x0 x1 x2 uB uS)), .second, .unset, .unset, .unset, .unset, .unset, .unset, .unset, .unset] [(.int (0 : Int32))])) rfl ?_
      have hc28_29 : (0 : Int32) = (0 : Int32) := rfl
      refine Goes.st (B := s₁.setTop (mkF m 37 #[.val (.int x0), .val (.long x1), .second, .val (.long x2), .second, .val (.int (0 : Int32)), .val (.long (j0_24_s0 x0 x1 x2 uB uS)), .second, .unset, .unset, .unset, .unset, .unset, .unset, .unset, .unset] [])) (fun t k => ?_) ?_
      · refine XS.ifYes X0.here hx rfl (pc0 := 28) (pc' := 37) rfl (hb hby at_28) rfl ((if0 _ _).trans (teq hc28_29).1) (by decide) (by decide) ?_
        exact k
      obtain ⟨T30, X30, e30, st30⟩ := getS2 X0 hx hZ hown (host := "") (Or.inl (hw _ (List.mem_of_getElem? (i := 3) rfl))) Via.refl e0 S_SELL (g := (mkF m 37 #[.val (.int x0), .val (.long x1), .second, .val (.long x2), .second, .val (.int (0 : Int32)), .val (.long (j0_24_s0 x0 x1 x2 uB uS)), .second, .unset, .unset, .unset, .unset, .unset, .unset, .unset, .unset] [])) rfl (hb hby at_37)
      refine Goes.st (B := T30.setTop (mkF m 40 #[.val (.int x0), .val (.long x1), .second, .val (.long x2), .second, .val (.int (0 : Int32)), .val (.long (j0_24_s0 x0 x1 x2 uB uS)), .second, .unset, .unset, .unset, .unset, .unset, .unset, .unset, .unset] [(.ref uS)])) st30 ?_
      refine Goes.run X30 hx hown hci hcl hby (L := [(40, .astore 8, 2), (42, .iload 5, 2)]) (by decide +kernel) rfl (g' := (mkF m 44 #[.val (.int x0), .val (.long x1), .second, .val (.long x2), .second, .val (.int (0 : Int32)), .val (.long (j0_24_s0 x0 x1 x2 uB uS)), .second, .val (.ref uS), .unset, .unset, .unset, .unset, .unset, .unset, .unset] [(.int (0 : Int32))])) rfl ?_
      have hc44_31 : (0 : Int32) = (0 : Int32) := rfl
      refine Goes.st (B := T30.setTop (mkF m 53 #[.val (.int x0), .val (.long x1), .second, .val (.long x2), .second, .val (.int (0 : Int32)), .val (.long (j0_24_s0 x0 x1 x2 uB uS)), .second, .val (.ref uS), .unset, .unset, .unset, .unset, .unset, .unset, .unset] [])) (fun t k => ?_) ?_
      · refine XS.ifYes X30.here hx rfl (pc0 := 44) (pc' := 53) rfl (hb hby at_44) rfl ((if0 _ _).trans (teq hc44_31).1) (by decide) (by decide) ?_
        exact k
      obtain ⟨T32, X32, e32, st32⟩ := getS2 X30 hx hZ hown (host := "") (Or.inl (hw _ (List.mem_of_getElem? (i := 0) rfl))) Via.refl e30 S_BUY (g := (mkF m 53 #[.val (.int x0), .val (.long x1), .second, .val (.long x2), .second, .val (.int (0 : Int32)), .val (.long (j0_24_s0 x0 x1 x2 uB uS)), .second, .val (.ref uS), .unset, .unset, .unset, .unset, .unset, .unset, .unset] [])) rfl (hb hby at_53)
      refine Goes.st (B := T32.setTop (mkF m 56 #[.val (.int x0), .val (.long x1), .second, .val (.long x2), .second, .val (.int (0 : Int32)), .val (.long (j0_24_s0 x0 x1 x2 uB uS)), .second, .val (.ref uS), .unset, .unset, .unset, .unset, .unset, .unset, .unset] [(.ref uB)])) st32 ?_
      refine Goes.run X32 hx hown hci hcl hby (L := [(56, .astore 9, 2), (58, .aload 8, 2), (60, .lload_n 1, 1), (61, .lload 6, 2)]) (by decide +kernel) rfl (g' := (mkF m 63 #[.val (.int x0), .val (.long x1), .second, .val (.long x2), .second, .val (.int (0 : Int32)), .val (.long (j0_24_s0 x0 x1 x2 uB uS)), .second, .val (.ref uS), .val (.ref uB), .unset, .unset, .unset, .unset, .unset, .unset] [(.long (j0_24_s0 x0 x1 x2 uB uS)), (.long x1), (.ref uS)])) rfl ?_
      obtain ⟨cq33, kq33, q33a, q33b, q33c⟩ := isOf hZ e32 E_uS
      obtain ⟨_, _, ⟨T33, L33, k33, n33⟩, -, X33, ⟨Lc33, hQ33, l33, y33, z33⟩, st33⟩ := X32.virtualBack hx (y := (⟨"com/example/rulewake/rulewake/Side", "isBetter", "(JJ)Z"⟩ : MethodName)) (z := (⟨"com/example/rulewake/rulewake/Side", "isBetter", "(JJ)Z"⟩ : MethodName)) hown (mvT hZ (hw _ (List.mem_of_getElem? (i := 5) rfl))) (mvT hZ (hw _ (List.mem_of_getElem? (i := 6) rfl))) (notFace_of_selects (args := #[]) (mvT hZ (hw _ (List.mem_of_getElem? (i := 8) rfl)))) (mvT hZ (hw _ (List.mem_of_getElem? (i := 8) rfl))) (mvT hZ (hw _ (List.mem_of_getElem? (i := 7) rfl))) (by decide) (backOf (W := 0) (rm1 l Z a0 hw [] uS x1 (j0_24_s0 x0 x1 x2 uB uS) uB h0 n0 Z0 S_BUY) hZ (hw _ (List.mem_of_getElem? (i := 9) rfl)) (hw _ (List.mem_of_getElem? (i := 1) rfl)) (by decide) (by decide)) q33a q33c (g := (mkF m 63 #[.val (.int x0), .val (.long x1), .second, .val (.long x2), .second, .val (.int (0 : Int32)), .val (.long (j0_24_s0 x0 x1 x2 uB uS)), .second, .val (.ref uS), .val (.ref uB), .unset, .unset, .unset, .unset, .unset, .unset] [(.long (j0_24_s0 x0 x1 x2 uB uS)), (.long x1), (.ref uS)])) rfl (by rw [hml]; rfl) (Steps.refl _) (argsL := [(.long x1), (.long (j0_24_s0 x0 x1 x2 uB uS))]) (rest := []) (lenOf pd0_0 rfl) rfl (by show 2 * 0 + _ ≤ _; exact Nat.le_of_eq rfl) (hb hby at_63) (fun _ _ => ⟨rfl, e32, (by decide : 0 + 0 ≤ _), (by decide : 0 + 0 ≤ _)⟩)
      dsimp only [Pt.U, Pt.locs, Pt.cells, Pt.slots] at X33 l33 y33 z33 st33 hQ33
      subst l33 y33 z33
      obtain ⟨rfl, N33q, e33⟩ := hQ33
      have N33 := Fr.app N0 N33q
      refine Goes.st (B := T33.setTop (mkF m 66 #[.val (.int x0), .val (.long x1), .second, .val (.long x2), .second, .val (.int (0 : Int32)), .val (.long (j0_24_s0 x0 x1 x2 uB uS)), .second, .val (.ref uS), .val (.ref uB), .unset, .unset, .unset, .unset, .unset, .unset] [(.int (r1 uS x1 (j0_24_s0 x0 x1 x2 uB uS) uB))])) (fun t k => st33.trans k) ?_
      refine Goes.run X33 hx hown hci hcl hby (L := [(66, .istore 10, 2), (68, .aload 8, 2), (70, .lload 6, 2), (72, .lload_n 1, 1)]) (by decide +kernel) rfl (g' := (mkF m 73 #[.val (.int x0), .val (.long x1), .second, .val (.long x2), .second, .val (.int (0 : Int32)), .val (.long (j0_24_s0 x0 x1 x2 uB uS)), .second, .val (.ref uS), .val (.ref uB), .val (.int (w0_66_a x0 x1 x2 uB uS)), .unset, .unset, .unset, .unset, .unset] [(.long x1), (.long (j0_24_s0 x0 x1 x2 uB uS)), (.ref uS)])) rfl ?_
      obtain ⟨cq34, kq34, q34a, q34b, q34c⟩ := isOf hZ e33 E_uS
      obtain ⟨_, _, ⟨T34, L34, k34, n34⟩, -, X34, ⟨Lc34, hQ34, l34, y34, z34⟩, st34⟩ := X33.virtualBack hx (y := (⟨"com/example/rulewake/rulewake/Side", "isBetter", "(JJ)Z"⟩ : MethodName)) (z := (⟨"com/example/rulewake/rulewake/Side", "isBetter", "(JJ)Z"⟩ : MethodName)) hown (mvT hZ (hw _ (List.mem_of_getElem? (i := 5) rfl))) (mvT hZ (hw _ (List.mem_of_getElem? (i := 6) rfl))) (notFace_of_selects (args := #[]) (mvT hZ (hw _ (List.mem_of_getElem? (i := 8) rfl)))) (mvT hZ (hw _ (List.mem_of_getElem? (i := 8) rfl))) (mvT hZ (hw _ (List.mem_of_getElem? (i := 7) rfl))) (by decide) (backOf (W := 0) (rm1 l Z a0 hw [] uS (j0_24_s0 x0 x1 x2 uB uS) x1 uB h0 n0 Z0 S_BUY) hZ (hw _ (List.mem_of_getElem? (i := 9) rfl)) (hw _ (List.mem_of_getElem? (i := 1) rfl)) (by decide) (by decide)) q34a q34c (g := (mkF m 73 #[.val (.int x0), .val (.long x1), .second, .val (.long x2), .second, .val (.int (0 : Int32)), .val (.long (j0_24_s0 x0 x1 x2 uB uS)), .second, .val (.ref uS), .val (.ref uB), .val (.int (w0_66_a x0 x1 x2 uB uS)), .unset, .unset, .unset, .unset, .unset] [(.long x1), (.long (j0_24_s0 x0 x1 x2 uB uS)), (.ref uS)])) rfl (by rw [hml]; rfl) (Steps.refl _) (argsL := [(.long (j0_24_s0 x0 x1 x2 uB uS)), (.long x1)]) (rest := []) (lenOf pd0_0 rfl) rfl (by show 2 * 0 + _ ≤ _; exact Nat.le_of_eq rfl) (hb hby at_73) (fun _ _ => ⟨rfl, e33, (by decide : 0 + 0 ≤ _), (by decide : 0 + 0 ≤ _)⟩)
      dsimp only [Pt.U, Pt.locs, Pt.cells, Pt.slots] at X34 l34 y34 z34 st34 hQ34
      subst l34 y34 z34
      obtain ⟨rfl, N34q, e34⟩ := hQ34
      have N34 := Fr.app N33 N34q
      refine Goes.st (B := T34.setTop (mkF m 76 #[.val (.int x0), .val (.long x1), .second, .val (.long x2), .second, .val (.int (0 : Int32)), .val (.long (j0_24_s0 x0 x1 x2 uB uS)), .second, .val (.ref uS), .val (.ref uB), .val (.int (w0_66_a x0 x1 x2 uB uS)), .unset, .unset, .unset, .unset, .unset] [(.int (r1 uS (j0_24_s0 x0 x1 x2 uB uS) x1 uB))])) (fun t k => st34.trans k) ?_
      refine Goes.run X34 hx hown hci hcl hby (L := [(76, .istore 11, 2), (78, .aload 8, 2), (80, .lload_n 1, 1), (81, .lload_n 1, 1)]) (by decide +kernel) rfl (g' := (mkF m 82 #[.val (.int x0), .val (.long x1), .second, .val (.long x2), .second, .val (.int (0 : Int32)), .val (.long (j0_24_s0 x0 x1 x2 uB uS)), .second, .val (.ref uS), .val (.ref uB), .val (.int (w0_66_a x0 x1 x2 uB uS)), .val (.int (w0_95 x0 x1 x2 uB uS)), .unset, .unset, .unset, .unset] [(.long x1), (.long x1), (.ref uS)])) rfl ?_
      obtain ⟨cq35, kq35, q35a, q35b, q35c⟩ := isOf hZ e34 E_uS
      obtain ⟨_, _, ⟨T35, L35, k35, n35⟩, -, X35, ⟨Lc35, hQ35, l35, y35, z35⟩, st35⟩ := X34.virtualBack hx (y := (⟨"com/example/rulewake/rulewake/Side", "isBetter", "(JJ)Z"⟩ : MethodName)) (z := (⟨"com/example/rulewake/rulewake/Side", "isBetter", "(JJ)Z"⟩ : MethodName)) hown (mvT hZ (hw _ (List.mem_of_getElem? (i := 5) rfl))) (mvT hZ (hw _ (List.mem_of_getElem? (i := 6) rfl))) (notFace_of_selects (args := #[]) (mvT hZ (hw _ (List.mem_of_getElem? (i := 8) rfl)))) (mvT hZ (hw _ (List.mem_of_getElem? (i := 8) rfl))) (mvT hZ (hw _ (List.mem_of_getElem? (i := 7) rfl))) (by decide) (backOf (W := 0) (rm1 l Z a0 hw [] uS x1 x1 uB h0 n0 Z0 S_BUY) hZ (hw _ (List.mem_of_getElem? (i := 9) rfl)) (hw _ (List.mem_of_getElem? (i := 1) rfl)) (by decide) (by decide)) q35a q35c (g := (mkF m 82 #[.val (.int x0), .val (.long x1), .second, .val (.long x2), .second, .val (.int (0 : Int32)), .val (.long (j0_24_s0 x0 x1 x2 uB uS)), .second, .val (.ref uS), .val (.ref uB), .val (.int (w0_66_a x0 x1 x2 uB uS)), .val (.int (w0_95 x0 x1 x2 uB uS)), .unset, .unset, .unset, .unset] [(.long x1), (.long x1), (.ref uS)])) rfl (by rw [hml]; rfl) (Steps.refl _) (argsL := [(.long x1), (.long x1)]) (rest := []) (lenOf pd0_0 rfl) rfl (by show 2 * 0 + _ ≤ _; exact Nat.le_of_eq rfl) (hb hby at_82) (fun _ _ => ⟨rfl, e34, (by decide : 0 + 0 ≤ _), (by decide : 0 + 0 ≤ _)⟩)
      dsimp only [Pt.U, Pt.locs, Pt.cells, Pt.slots] at X35 l35 y35 z35 st35 hQ35
      subst l35 y35 z35
      obtain ⟨rfl, N35q, e35⟩ := hQ35
      have N35 := Fr.app N34 N35q
      refine Goes.st (B := T35.setTop (mkF m 85 #[.val (.int x0), .val (.long x1), .second, .val (.long x2), .second, .val (.int (0 : Int32)), .val (.long (j0_24_s0 x0 x1 x2 uB uS)), .second, .val (.ref uS), .val (.ref uB), .val (.int (w0_66_a x0 x1 x2 uB uS)), .val (.int (w0_95 x0 x1 x2 uB uS)), .unset, .unset, .unset, .unset] [(.int (r1 uS x1 x1 uB))])) (fun t k => st35.trans k) ?_
      refine Goes.run X35 hx hown hci hcl hby (L := [(85, .istore 12, 2), (87, .aload 9, 2), (89, .lload 6, 2), (91, .lload_n 1, 1)]) (by decide +kernel) rfl (g' := (mkF m 92 #[.val (.int x0), .val (.long x1), .second, .val (.long x2), .second, .val (.int (0 : Int32)), .val (.long (j0_24_s0 x0 x1 x2 uB uS)), .second, .val (.ref uS), .val (.ref uB), .val (.int (w0_66_a x0 x1 x2 uB uS)), .val (.int (w0_95 x0 x1 x2 uB uS)), .val (.int (w0_85_a x0 x1 x2 uB uS)), .unset, .unset, .unset] [(.long x1), (.long (j0_24_s0 x0 x1 x2 uB uS)), (.ref uB)])) rfl ?_
      obtain ⟨cq36, kq36, q36a, q36b, q36c⟩ := isOf hZ e35 E_uB
      obtain ⟨_, _, ⟨T36, L36, k36, n36⟩, -, X36, ⟨Lc36, hQ36, l36, y36, z36⟩, st36⟩ := X35.virtualBack hx (y := (⟨"com/example/rulewake/rulewake/Side", "isBetter", "(JJ)Z"⟩ : MethodName)) (z := (⟨"com/example/rulewake/rulewake/Side", "isBetter", "(JJ)Z"⟩ : MethodName)) hown (mvT hZ (hw _ (List.mem_of_getElem? (i := 5) rfl))) (mvT hZ (hw _ (List.mem_of_getElem? (i := 6) rfl))) (notFace_of_selects (args := #[]) (mvT hZ (hw _ (List.mem_of_getElem? (i := 8) rfl)))) (mvT hZ (hw _ (List.mem_of_getElem? (i := 8) rfl))) (mvT hZ (hw _ (List.mem_of_getElem? (i := 7) rfl))) (by decide) (backOf (W := 0) (rm1 l Z a0 hw [] uB (j0_24_s0 x0 x1 x2 uB uS) x1 uB h0 n0 Z0 S_BUY) hZ (hw _ (List.mem_of_getElem? (i := 9) rfl)) (hw _ (List.mem_of_getElem? (i := 1) rfl)) (by decide) (by decide)) q36a q36c (g := (mkF m 92 #[.val (.int x0), .val (.long x1), .second, .val (.long x2), .second, .val (.int (0 : Int32)), .val (.long (j0_24_s0 x0 x1 x2 uB uS)), .second, .val (.ref uS), .val (.ref uB), .val (.int (w0_66_a x0 x1 x2 uB uS)), .val (.int (w0_95 x0 x1 x2 uB uS)), .val (.int (w0_85_a x0 x1 x2 uB uS)), .unset, .unset, .unset] [(.long x1), (.long (j0_24_s0 x0 x1 x2 uB uS)), (.ref uB)])) rfl (by rw [hml]; rfl) (Steps.refl _) (argsL := [(.long (j0_24_s0 x0 x1 x2 uB uS)), (.long x1)]) (rest := []) (lenOf pd0_0 rfl) rfl (by show 2 * 0 + _ ≤ _; exact Nat.le_of_eq rfl) (hb hby at_92) (fun _ _ => ⟨rfl, e35, (by decide : 0 + 0 ≤ _), (by decide : 0 + 0 ≤ _)⟩)
      dsimp only [Pt.U, Pt.locs, Pt.cells, Pt.slots] at X36 l36 y36 z36 st36 hQ36
      subst l36 y36 z36
      obtain ⟨rfl, N36q, e36⟩ := hQ36
      have N36 := Fr.app N35 N36q
      refine Goes.st (B := T36.setTop (mkF m 95 #[.val (.int x0), .val (.long x1), .second, .val (.long x2), .second, .val (.int (0 : Int32)), .val (.long (j0_24_s0 x0 x1 x2 uB uS)), .second, .val (.ref uS), .val (.ref uB), .val (.int (w0_66_a x0 x1 x2 uB uS)), .val (.int (w0_95 x0 x1 x2 uB uS)), .val (.int (w0_85_a x0 x1 x2 uB uS)), .unset, .unset, .unset] [(.int (r1 uB (j0_24_s0 x0 x1 x2 uB uS) x1 uB))])) (fun t k => st36.trans k) ?_
      refine Goes.run X36 hx hown hci hcl hby (L := [(95, .istore 13, 2), (97, .iload 5, 2)]) (by decide +kernel) rfl (g' := (mkF m 99 #[.val (.int x0), .val (.long x1), .second, .val (.long x2), .second, .val (.int (0 : Int32)), .val (.long (j0_24_s0 x0 x1 x2 uB uS)), .second, .val (.ref uS), .val (.ref uB), .val (.int (w0_66_a x0 x1 x2 uB uS)), .val (.int (w0_95 x0 x1 x2 uB uS)), .val (.int (w0_85_a x0 x1 x2 uB uS)), .val (.int (w0_76 x0 x1 x2 uB uS)), .unset, .unset] [(.int (0 : Int32))])) rfl ?_
      have hc99_37 : (0 : Int32) = (0 : Int32) := rfl
      refine Goes.st (B := T36.setTop (mkF m 119 #[.val (.int x0), .val (.long x1), .second, .val (.long x2), .second, .val (.int (0 : Int32)), .val (.long (j0_24_s0 x0 x1 x2 uB uS)), .second, .val (.ref uS), .val (.ref uB), .val (.int (w0_66_a x0 x1 x2 uB uS)), .val (.int (w0_95 x0 x1 x2 uB uS)), .val (.int (w0_85_a x0 x1 x2 uB uS)), .val (.int (w0_76 x0 x1 x2 uB uS)), .unset, .unset] [])) (fun t k => ?_) ?_
      · refine XS.ifYes X36.here hx rfl (pc0 := 99) (pc' := 119) rfl (hb hby at_99) rfl ((if0 _ _).trans (teq hc99_37).1) (by decide) (by decide) ?_
        exact k
      refine Goes.run X36 hx hown hci hcl hby (L := [(119, .lload_n 1, 1), (120, .lload 6, 2), (122, .lcmp, 1)]) (by decide +kernel) rfl (g' := (mkF m 123 #[.val (.int x0), .val (.long x1), .second, .val (.long x2), .second, .val (.int (0 : Int32)), .val (.long (j0_24_s0 x0 x1 x2 uB uS)), .second, .val (.ref uS), .val (.ref uB), .val (.int (w0_66_a x0 x1 x2 uB uS)), .val (.int (w0_95 x0 x1 x2 uB uS)), .val (.int (w0_85_a x0 x1 x2 uB uS)), .val (.int (w0_76 x0 x1 x2 uB uS)), .unset, .unset] [(.int (lcmpW x1 (j0_24_s0 x0 x1 x2 uB uS)))])) rfl ?_
      have jn131_39 : Goes p e below s (QL (some (.int (r0 x0 x1 x2 uB uS))) n0) room_1.cells room_1.slots (T36.setTop (mkF m 131 #[.val (.int x0), .val (.long x1), .second, .val (.long x2), .second, .val (.int (0 : Int32)), .val (.long (j0_24_s0 x0 x1 x2 uB uS)), .second, .val (.ref uS), .val (.ref uB), .val (.int (w0_66_a x0 x1 x2 uB uS)), .val (.int (w0_95 x0 x1 x2 uB uS)), .val (.int (w0_85_a x0 x1 x2 uB uS)), .val (.int (w0_76 x0 x1 x2 uB uS)), .unset, .unset] [(.int (j0_131_s0 x0 x1 x2 uB uS))])) := by
        refine Goes.run X36 hx hown hci hcl hby (L := [(131, .istore 14, 2), (133, .lload_n 1, 1), (134, .lload 6, 2), (136, .lcmp, 1)]) (by decide +kernel) rfl (g' := (mkF m 137 #[.val (.int x0), .val (.long x1), .second, .val (.long x2), .second, .val (.int (0 : Int32)), .val (.long (j0_24_s0 x0 x1 x2 uB uS)), .second, .val (.ref uS), .val (.ref uB), .val (.int (w0_66_a x0 x1 x2 uB uS)), .val (.int (w0_95 x0 x1 x2 uB uS)), .val (.int (w0_85_a x0 x1 x2 uB uS)), .val (.int (w0_76 x0 x1 x2 uB uS)), .val (.int (j0_131_s0 x0 x1 x2 uB uS)), .unset] [(.int (lcmpW x1 (j0_24_s0 x0 x1 x2 uB uS)))])) rfl ?_
        have jn170_44 : Goes p e below s (QL (some (.int (r0 x0 x1 x2 uB uS))) n0) room_1.cells room_1.slots (T36.setTop (mkF m 170 #[.val (.int x0), .val (.long x1), .second, .val (.long x2), .second, .val (.int (0 : Int32)), .val (.long (j0_24_s0 x0 x1 x2 uB uS)), .second, .val (.ref uS), .val (.ref uB), .val (.int (w0_66_a x0 x1 x2 uB uS)), .val (.int (w0_95 x0 x1 x2 uB uS)), .val (.int (w0_85_a x0 x1 x2 uB uS)), .val (.int (w0_76 x0 x1 x2 uB uS)), .val (.int (j0_131_s0 x0 x1 x2 uB uS)), .unset] [(.int (j0_170_s0_a x0 x1 x2 uB uS))])) := by
          refine Goes.run X36 hx hown hci hcl hby (L := [(170, .istore 15, 2), (172, .iload 10, 2), (174, .iload 14, 2)]) (by decide +kernel) rfl (g' := (mkF m 176 #[.val (.int x0), .val (.long x1), .second, .val (.long x2), .second, .val (.int (0 : Int32)), .val (.long (j0_24_s0 x0 x1 x2 uB uS)), .second, .val (.ref uS), .val (.ref uB), .val (.int (w0_66_a x0 x1 x2 uB uS)), .val (.int (w0_95 x0 x1 x2 uB uS)), .val (.int (w0_85_a x0 x1 x2 uB uS)), .val (.int (w0_76 x0 x1 x2 uB uS)), .val (.int (j0_131_s0 x0 x1 x2 uB uS)), .val (.int (j0_170_s0_a x0 x1 x2 uB uS))] [(.int (j0_131_s0 x0 x1 x2 uB uS)), (.int (w0_66_a x0 x1 x2 uB uS))])) rfl ?_
          by_cases hc176_45 : (w0_66_a x0 x1 x2 uB uS) = (j0_131_s0 x0 x1 x2 uB uS)
          · skip
            refine Goes.st (B := T36.setTop (mkF m 179 #[.val (.int x0), .val (.long x1), .second, .val (.long x2), .second, .val (.int (0 : Int32)), .val (.long (j0_24_s0 x0 x1 x2 uB uS)), .second, .val (.ref uS), .val (.ref uB), .val (.int (w0_66_a x0 x1 x2 uB uS)), .val (.int (w0_95 x0 x1 x2 uB uS)), .val (.int (w0_85_a x0 x1 x2 uB uS)), .val (.int (w0_76 x0 x1 x2 uB uS)), .val (.int (j0_131_s0 x0 x1 x2 uB uS)), .val (.int (j0_170_s0_a x0 x1 x2 uB uS))] [])) (fun t k => ?_) ?_
            · refine XS.icmpNo X36.here hx rfl (hb hby at_176) rfl (teq hc176_45).2 ?_
              exact k
            refine Goes.run X36 hx hown hci hcl hby (L := [(179, .iload 12, 2)]) (by decide +kernel) rfl (g' := (mkF m 181 #[.val (.int x0), .val (.long x1), .second, .val (.long x2), .second, .val (.int (0 : Int32)), .val (.long (j0_24_s0 x0 x1 x2 uB uS)), .second, .val (.ref uS), .val (.ref uB), .val (.int (w0_66_a x0 x1 x2 uB uS)), .val (.int (w0_95 x0 x1 x2 uB uS)), .val (.int (w0_85_a x0 x1 x2 uB uS)), .val (.int (w0_76 x0 x1 x2 uB uS)), .val (.int (j0_131_s0 x0 x1 x2 uB uS)), .val (.int (j0_170_s0_a x0 x1 x2 uB uS))] [(.int (w0_85_a x0 x1 x2 uB uS))])) rfl ?_
            by_cases hc181_46 : (w0_85_a x0 x1 x2 uB uS) = (0 : Int32)
            · skip
              refine Goes.st (B := T36.setTop (mkF m 184 #[.val (.int x0), .val (.long x1), .second, .val (.long x2), .second, .val (.int (0 : Int32)), .val (.long (j0_24_s0 x0 x1 x2 uB uS)), .second, .val (.ref uS), .val (.ref uB), .val (.int (w0_66_a x0 x1 x2 uB uS)), .val (.int (w0_95 x0 x1 x2 uB uS)), .val (.int (w0_85_a x0 x1 x2 uB uS)), .val (.int (w0_76 x0 x1 x2 uB uS)), .val (.int (j0_131_s0 x0 x1 x2 uB uS)), .val (.int (j0_170_s0_a x0 x1 x2 uB uS))] [])) (fun t k => ?_) ?_
              · refine XS.ifNo X36.here hx rfl (hb hby at_181) rfl ((if0 _ _).trans (teq hc181_46).2) ?_
                exact k
              refine Goes.run X36 hx hown hci hcl hby (L := [(184, .iload 15, 2)]) (by decide +kernel) rfl (g' := (mkF m 186 #[.val (.int x0), .val (.long x1), .second, .val (.long x2), .second, .val (.int (0 : Int32)), .val (.long (j0_24_s0 x0 x1 x2 uB uS)), .second, .val (.ref uS), .val (.ref uB), .val (.int (w0_66_a x0 x1 x2 uB uS)), .val (.int (w0_95 x0 x1 x2 uB uS)), .val (.int (w0_85_a x0 x1 x2 uB uS)), .val (.int (w0_76 x0 x1 x2 uB uS)), .val (.int (j0_131_s0 x0 x1 x2 uB uS)), .val (.int (j0_170_s0_a x0 x1 x2 uB uS))] [(.int (j0_170_s0_a x0 x1 x2 uB uS))])) rfl ?_
              by_cases hc186_47 : (j0_170_s0_a x0 x1 x2 uB uS) = (0 : Int32)
              · skip
                refine Goes.st (B := T36.setTop (mkF m 200 #[.val (.int x0), .val (.long x1), .second, .val (.long x2), .second, .val (.int (0 : Int32)), .val (.long (j0_24_s0 x0 x1 x2 uB uS)), .second, .val (.ref uS), .val (.ref uB), .val (.int (w0_66_a x0 x1 x2 uB uS)), .val (.int (w0_95 x0 x1 x2 uB uS)), .val (.int (w0_85_a x0 x1 x2 uB uS)), .val (.int (w0_76 x0 x1 x2 uB uS)), .val (.int (j0_131_s0 x0 x1 x2 uB uS)), .val (.int (j0_170_s0_a x0 x1 x2 uB uS))] [])) (fun t k => ?_) ?_
                · refine XS.ifYes X36.here hx rfl (pc0 := 186) (pc' := 200) rfl (hb hby at_186) rfl ((if0 _ _).trans (teq hc186_47).1) (by decide) (by decide) ?_
                  exact k
                refine Goes.run X36 hx hown hci hcl hby (L := [(200, .iconst 0, 1)]) (by decide +kernel) rfl (g' := (mkF m 201 #[.val (.int x0), .val (.long x1), .second, .val (.long x2), .second, .val (.int (0 : Int32)), .val (.long (j0_24_s0 x0 x1 x2 uB uS)), .second, .val (.ref uS), .val (.ref uB), .val (.int (w0_66_a x0 x1 x2 uB uS)), .val (.int (w0_95 x0 x1 x2 uB uS)), .val (.int (w0_85_a x0 x1 x2 uB uS)), .val (.int (w0_76 x0 x1 x2 uB uS)), .val (.int (j0_131_s0 x0 x1 x2 uB uS)), .val (.int (j0_170_s0_a x0 x1 x2 uB uS))] [(.int (0 : Int32))])) rfl ?_
                exact Goes.retB X36 hx hlk (t := .boolean) Bd.returns (by simp) (hb hby at_201) rfl ⟨(congrArg (fun z => some (Value.int z)) (show (r0 x0 x1 x2 uB uS) = (0 : Int32) from ((((if_neg hc3_1).trans (if_pos hc176_45)).trans (if_pos hc181_46)).trans (if_pos hc186_47))).symm), N36⟩ (by decide) (by decide)
              · skip
                refine Goes.st (B := T36.setTop (mkF m 189 #[.val (.int x0), .val (.long x1), .second, .val (.long x2), .second, .val (.int (0 : Int32)), .val (.long (j0_24_s0 x0 x1 x2 uB uS)), .second, .val (.ref uS), .val (.ref uB), .val (.int (w0_66_a x0 x1 x2 uB uS)), .val (.int (w0_95 x0 x1 x2 uB uS)), .val (.int (w0_85_a x0 x1 x2 uB uS)), .val (.int (w0_76 x0 x1 x2 uB uS)), .val (.int (j0_131_s0 x0 x1 x2 uB uS)), .val (.int (j0_170_s0_a x0 x1 x2 uB uS))] [])) (fun t k => ?_) ?_
                · refine XS.ifNo X36.here hx rfl (hb hby at_186) rfl ((if0 _ _).trans (feq hc186_47).1) ?_
                  exact k
                refine Goes.run X36 hx hown hci hcl hby (L := [(189, .iload 13, 2), (191, .iload 10, 2)]) (by decide +kernel) rfl (g' := (mkF m 193 #[.val (.int x0), .val (.long x1), .second, .val (.long x2), .second, .val (.int (0 : Int32)), .val (.long (j0_24_s0 x0 x1 x2 uB uS)), .second, .val (.ref uS), .val (.ref uB), .val (.int (w0_66_a x0 x1 x2 uB uS)), .val (.int (w0_95 x0 x1 x2 uB uS)), .val (.int (w0_85_a x0 x1 x2 uB uS)), .val (.int (w0_76 x0 x1 x2 uB uS)), .val (.int (j0_131_s0 x0 x1 x2 uB uS)), .val (.int (j0_170_s0_a x0 x1 x2 uB uS))] [(.int (w0_66_a x0 x1 x2 uB uS)), (.int (w0_76 x0 x1 x2 uB uS))])) rfl ?_
                by_cases hc193_48 : (w0_76 x0 x1 x2 uB uS) = (w0_66_a x0 x1 x2 uB uS)
                · skip
                  refine Goes.st (B := T36.setTop (mkF m 196 #[.val (.int x0), .val (.long x1), .second, .val (.long x2), .second, .val (.int (0 : Int32)), .val (.long (j0_24_s0 x0 x1 x2 uB uS)), .second, .val (.ref uS), .val (.ref uB), .val (.int (w0_66_a x0 x1 x2 uB uS)), .val (.int (w0_95 x0 x1 x2 uB uS)), .val (.int (w0_85_a x0 x1 x2 uB uS)), .val (.int (w0_76 x0 x1 x2 uB uS)), .val (.int (j0_131_s0 x0 x1 x2 uB uS)), .val (.int (j0_170_s0_a x0 x1 x2 uB uS))] [])) (fun t k => ?_) ?_
                  · refine XS.icmpNo X36.here hx rfl (hb hby at_193) rfl (teq hc193_48).2 ?_
                    exact k
                  refine Goes.run X36 hx hown hci hcl hby (L := [(196, .iconst 1, 1), (197, .goto 4, 3)]) (by decide +kernel) rfl (g' := (mkF m 201 #[.val (.int x0), .val (.long x1), .second, .val (.long x2), .second, .val (.int (0 : Int32)), .val (.long (j0_24_s0 x0 x1 x2 uB uS)), .second, .val (.ref uS), .val (.ref uB), .val (.int (w0_66_a x0 x1 x2 uB uS)), .val (.int (w0_95 x0 x1 x2 uB uS)), .val (.int (w0_85_a x0 x1 x2 uB uS)), .val (.int (w0_76 x0 x1 x2 uB uS)), .val (.int (j0_131_s0 x0 x1 x2 uB uS)), .val (.int (j0_170_s0_a x0 x1 x2 uB uS))] [(.int (1 : Int32))])) rfl ?_
                  exact Goes.retB X36 hx hlk (t := .boolean) Bd.returns (by simp) (hb hby at_201) rfl ⟨(congrArg (fun z => some (Value.int z)) (show (r0 x0 x1 x2 uB uS) = (1 : Int32) from (((((if_neg hc3_1).trans (if_pos hc176_45)).trans (if_pos hc181_46)).trans (if_neg hc186_47)).trans (if_pos hc193_48))).symm), N36⟩ (by decide) (by decide)
                · skip
                  refine Goes.st (B := T36.setTop (mkF m 200 #[.val (.int x0), .val (.long x1), .second, .val (.long x2), .second, .val (.int (0 : Int32)), .val (.long (j0_24_s0 x0 x1 x2 uB uS)), .second, .val (.ref uS), .val (.ref uB), .val (.int (w0_66_a x0 x1 x2 uB uS)), .val (.int (w0_95 x0 x1 x2 uB uS)), .val (.int (w0_85_a x0 x1 x2 uB uS)), .val (.int (w0_76 x0 x1 x2 uB uS)), .val (.int (j0_131_s0 x0 x1 x2 uB uS)), .val (.int (j0_170_s0_a x0 x1 x2 uB uS))] [])) (fun t k => ?_) ?_
                  · refine XS.icmpYes X36.here hx rfl (pc0 := 193) (pc' := 200) rfl (hb hby at_193) rfl (feq hc193_48).2 (by decide) (by decide) ?_
                    exact k
                  refine Goes.run X36 hx hown hci hcl hby (L := [(200, .iconst 0, 1)]) (by decide +kernel) rfl (g' := (mkF m 201 #[.val (.int x0), .val (.long x1), .second, .val (.long x2), .second, .val (.int (0 : Int32)), .val (.long (j0_24_s0 x0 x1 x2 uB uS)), .second, .val (.ref uS), .val (.ref uB), .val (.int (w0_66_a x0 x1 x2 uB uS)), .val (.int (w0_95 x0 x1 x2 uB uS)), .val (.int (w0_85_a x0 x1 x2 uB uS)), .val (.int (w0_76 x0 x1 x2 uB uS)), .val (.int (j0_131_s0 x0 x1 x2 uB uS)), .val (.int (j0_170_s0_a x0 x1 x2 uB uS))] [(.int (0 : Int32))])) rfl ?_
                  exact Goes.retB X36 hx hlk (t := .boolean) Bd.returns (by simp) (hb hby at_201) rfl ⟨(congrArg (fun z => some (Value.int z)) (show (r0 x0 x1 x2 uB uS) = (0 : Int32) from (((((if_neg hc3_1).trans (if_pos hc176_45)).trans (if_pos hc181_46)).trans (if_neg hc186_47)).trans (if_neg hc193_48))).symm), N36⟩ (by decide) (by decide)
            · skip
              refine Goes.st (B := T36.setTop (mkF m 200 #[.val (.int x0), .val (.long x1), .second, .val (.long x2), .second, .val (.int (0 : Int32)), .val (.long (j0_24_s0 x0 x1 x2 uB uS)), .second, .val (.ref uS), .val (.ref uB), .val (.int (w0_66_a x0 x1 x2 uB uS)), .val (.int (w0_95 x0 x1 x2 uB uS)), .val (.int (w0_85_a x0 x1 x2 uB uS)), .val (.int (w0_76 x0 x1 x2 uB uS)), .val (.int (j0_131_s0 x0 x1 x2 uB uS)), .val (.int (j0_170_s0_a x0 x1 x2 uB uS))] [])) (fun t k => ?_) ?_
              · refine XS.ifYes X36.here hx rfl (pc0 := 181) (pc' := 200) rfl (hb hby at_181) rfl ((if0 _ _).trans (feq hc181_46).2) (by decide) (by decide) ?_
                exact k
              refine Goes.run X36 hx hown hci hcl hby (L := [(200, .iconst 0, 1)]) (by decide +kernel) rfl (g' := (mkF m 201 #[.val (.int x0), .val (.long x1), .second, .val (.long x2), .second, .val (.int (0 : Int32)), .val (.long (j0_24_s0 x0 x1 x2 uB uS)), .second, .val (.ref uS), .val (.ref uB), .val (.int (w0_66_a x0 x1 x2 uB uS)), .val (.int (w0_95 x0 x1 x2 uB uS)), .val (.int (w0_85_a x0 x1 x2 uB uS)), .val (.int (w0_76 x0 x1 x2 uB uS)), .val (.int (j0_131_s0 x0 x1 x2 uB uS)), .val (.int (j0_170_s0_a x0 x1 x2 uB uS))] [(.int (0 : Int32))])) rfl ?_
              exact Goes.retB X36 hx hlk (t := .boolean) Bd.returns (by simp) (hb hby at_201) rfl ⟨(congrArg (fun z => some (Value.int z)) (show (r0 x0 x1 x2 uB uS) = (0 : Int32) from (((if_neg hc3_1).trans (if_pos hc176_45)).trans (if_neg hc181_46))).symm), N36⟩ (by decide) (by decide)
          · skip
            refine Goes.st (B := T36.setTop (mkF m 200 #[.val (.int x0), .val (.long x1), .second, .val (.long x2), .second, .val (.int (0 : Int32)), .val (.long (j0_24_s0 x0 x1 x2 uB uS)), .second, .val (.ref uS), .val (.ref uB), .val (.int (w0_66_a x0 x1 x2 uB uS)), .val (.int (w0_95 x0 x1 x2 uB uS)), .val (.int (w0_85_a x0 x1 x2 uB uS)), .val (.int (w0_76 x0 x1 x2 uB uS)), .val (.int (j0_131_s0 x0 x1 x2 uB uS)), .val (.int (j0_170_s0_a x0 x1 x2 uB uS))] [])) (fun t k => ?_) ?_
            · refine XS.icmpYes X36.here hx rfl (pc0 := 176) (pc' := 200) rfl (hb hby at_176) rfl (feq hc176_45).2 (by decide) (by decide) ?_
              exact k
            refine Goes.run X36 hx hown hci hcl hby (L := [(200, .iconst 0, 1)]) (by decide +kernel) rfl (g' := (mkF m 201 #[.val (.int x0), .val (.long x1), .second, .val (.long x2), .second, .val (.int (0 : Int32)), .val (.long (j0_24_s0 x0 x1 x2 uB uS)), .second, .val (.ref uS), .val (.ref uB), .val (.int (w0_66_a x0 x1 x2 uB uS)), .val (.int (w0_95 x0 x1 x2 uB uS)), .val (.int (w0_85_a x0 x1 x2 uB uS)), .val (.int (w0_76 x0 x1 x2 uB uS)), .val (.int (j0_131_s0 x0 x1 x2 uB uS)), .val (.int (j0_170_s0_a x0 x1 x2 uB uS))] [(.int (0 : Int32))])) rfl ?_
            exact Goes.retB X36 hx hlk (t := .boolean) Bd.returns (by simp) (hb hby at_201) rfl ⟨(congrArg (fun z => some (Value.int z)) (show (r0 x0 x1 x2 uB uS) = (0 : Int32) from ((if_neg hc3_1).trans (if_neg hc176_45))).symm), N36⟩ (by decide) (by decide)
        by_cases hc137_40 : x1 = (j0_24_s0 x0 x1 x2 uB uS)
        · skip
          refine Goes.st (B := T36.setTop (mkF m 140 #[.val (.int x0), .val (.long x1), .second, .val (.long x2), .second, .val (.int (0 : Int32)), .val (.long (j0_24_s0 x0 x1 x2 uB uS)), .second, .val (.ref uS), .val (.ref uB), .val (.int (w0_66_a x0 x1 x2 uB uS)), .val (.int (w0_95 x0 x1 x2 uB uS)), .val (.int (w0_85_a x0 x1 x2 uB uS)), .val (.int (w0_76 x0 x1 x2 uB uS)), .val (.int (j0_131_s0 x0 x1 x2 uB uS)), .unset] [])) (fun t k => ?_) ?_
          · refine XS.ifNo X36.here hx rfl (hb hby at_137) rfl (teqL hc137_40).2 ?_
            exact k
          refine Goes.run X36 hx hown hci hcl hby (L := [(140, .iload 10, 2)]) (by decide +kernel) rfl (g' := (mkF m 142 #[.val (.int x0), .val (.long x1), .second, .val (.long x2), .second, .val (.int (0 : Int32)), .val (.long (j0_24_s0 x0 x1 x2 uB uS)), .second, .val (.ref uS), .val (.ref uB), .val (.int (w0_66_a x0 x1 x2 uB uS)), .val (.int (w0_95 x0 x1 x2 uB uS)), .val (.int (w0_85_a x0 x1 x2 uB uS)), .val (.int (w0_76 x0 x1 x2 uB uS)), .val (.int (j0_131_s0 x0 x1 x2 uB uS)), .unset] [(.int (w0_66_a x0 x1 x2 uB uS))])) rfl ?_
          by_cases hc142_49 : (w0_66_a x0 x1 x2 uB uS) = (0 : Int32)
          · skip
            refine Goes.st (B := T36.setTop (mkF m 145 #[.val (.int x0), .val (.long x1), .second, .val (.long x2), .second, .val (.int (0 : Int32)), .val (.long (j0_24_s0 x0 x1 x2 uB uS)), .second, .val (.ref uS), .val (.ref uB), .val (.int (w0_66_a x0 x1 x2 uB uS)), .val (.int (w0_95 x0 x1 x2 uB uS)), .val (.int (w0_85_a x0 x1 x2 uB uS)), .val (.int (w0_76 x0 x1 x2 uB uS)), .val (.int (j0_131_s0 x0 x1 x2 uB uS)), .unset] [])) (fun t k => ?_) ?_
            · refine XS.ifNo X36.here hx rfl (hb hby at_142) rfl ((if0 _ _).trans (teq hc142_49).2) ?_
              exact k
            refine Goes.run X36 hx hown hci hcl hby (L := [(145, .iload 11, 2)]) (by decide +kernel) rfl (g' := (mkF m 147 #[.val (.int x0), .val (.long x1), .second, .val (.long x2), .second, .val (.int (0 : Int32)), .val (.long (j0_24_s0 x0 x1 x2 uB uS)), .second, .val (.ref uS), .val (.ref uB), .val (.int (w0_66_a x0 x1 x2 uB uS)), .val (.int (w0_95 x0 x1 x2 uB uS)), .val (.int (w0_85_a x0 x1 x2 uB uS)), .val (.int (w0_76 x0 x1 x2 uB uS)), .val (.int (j0_131_s0 x0 x1 x2 uB uS)), .unset] [(.int (w0_95 x0 x1 x2 uB uS))])) rfl ?_
            by_cases hc147_50 : (w0_95 x0 x1 x2 uB uS) = (0 : Int32)
            · skip
              refine Goes.st (B := T36.setTop (mkF m 150 #[.val (.int x0), .val (.long x1), .second, .val (.long x2), .second, .val (.int (0 : Int32)), .val (.long (j0_24_s0 x0 x1 x2 uB uS)), .second, .val (.ref uS), .val (.ref uB), .val (.int (w0_66_a x0 x1 x2 uB uS)), .val (.int (w0_95 x0 x1 x2 uB uS)), .val (.int (w0_85_a x0 x1 x2 uB uS)), .val (.int (w0_76 x0 x1 x2 uB uS)), .val (.int (j0_131_s0 x0 x1 x2 uB uS)), .unset] [])) (fun t k => ?_) ?_
              · refine XS.ifNo X36.here hx rfl (hb hby at_147) rfl ((if0 _ _).trans (teq hc147_50).2) ?_
                exact k
              refine Goes.run X36 hx hown hci hcl hby (L := [(150, .iconst 1, 1), (151, .goto 19, 3)]) (by decide +kernel) rfl (g' := (mkF m 170 #[.val (.int x0), .val (.long x1), .second, .val (.long x2), .second, .val (.int (0 : Int32)), .val (.long (j0_24_s0 x0 x1 x2 uB uS)), .second, .val (.ref uS), .val (.ref uB), .val (.int (w0_66_a x0 x1 x2 uB uS)), .val (.int (w0_95 x0 x1 x2 uB uS)), .val (.int (w0_85_a x0 x1 x2 uB uS)), .val (.int (w0_76 x0 x1 x2 uB uS)), .val (.int (j0_131_s0 x0 x1 x2 uB uS)), .unset] [(.int (1 : Int32))])) rfl ?_
              have q := jn170_44
              rw [show (j0_170_s0_a x0 x1 x2 uB uS) = (1 : Int32) from (((if_pos hc137_40).trans (if_pos hc142_49)).trans (if_pos hc147_50))] at q
              exact q
            · skip
              refine Goes.st (B := T36.setTop (mkF m 154 #[.val (.int x0), .val (.long x1), .second, .val (.long x2), .second, .val (.int (0 : Int32)), .val (.long (j0_24_s0 x0 x1 x2 uB uS)), .second, .val (.ref uS), .val (.ref uB), .val (.int (w0_66_a x0 x1 x2 uB uS)), .val (.int (w0_95 x0 x1 x2 uB uS)), .val (.int (w0_85_a x0 x1 x2 uB uS)), .val (.int (w0_76 x0 x1 x2 uB uS)), .val (.int (j0_131_s0 x0 x1 x2 uB uS)), .unset] [])) (fun t k => ?_) ?_
              · refine XS.ifYes X36.here hx rfl (pc0 := 147) (pc' := 154) rfl (hb hby at_147) rfl ((if0 _ _).trans (feq hc147_50).2) (by decide) (by decide) ?_
                exact k
              refine Goes.run X36 hx hown hci hcl hby (L := [(154, .iconst 0, 1), (155, .goto 15, 3)]) (by decide +kernel) rfl (g' := (mkF m 170 #[.val (.int x0), .val (.long x1), .second, .val (.long x2), .second, .val (.int (0 : Int32)), .val (.long (j0_24_s0 x0 x1 x2 uB uS)), .second, .val (.ref uS), .val (.ref uB), .val (.int (w0_66_a x0 x1 x2 uB uS)), .val (.int (w0_95 x0 x1 x2 uB uS)), .val (.int (w0_85_a x0 x1 x2 uB uS)), .val (.int (w0_76 x0 x1 x2 uB uS)), .val (.int (j0_131_s0 x0 x1 x2 uB uS)), .unset] [(.int (0 : Int32))])) rfl ?_
              have q := jn170_44
              rw [show (j0_170_s0_a x0 x1 x2 uB uS) = (0 : Int32) from (((if_pos hc137_40).trans (if_pos hc142_49)).trans (if_neg hc147_50))] at q
              exact q
          · skip
            refine Goes.st (B := T36.setTop (mkF m 154 #[.val (.int x0), .val (.long x1), .second, .val (.long x2), .second, .val (.int (0 : Int32)), .val (.long (j0_24_s0 x0 x1 x2 uB uS)), .second, .val (.ref uS), .val (.ref uB), .val (.int (w0_66_a x0 x1 x2 uB uS)), .val (.int (w0_95 x0 x1 x2 uB uS)), .val (.int (w0_85_a x0 x1 x2 uB uS)), .val (.int (w0_76 x0 x1 x2 uB uS)), .val (.int (j0_131_s0 x0 x1 x2 uB uS)), .unset] [])) (fun t k => ?_) ?_
            · refine XS.ifYes X36.here hx rfl (pc0 := 142) (pc' := 154) rfl (hb hby at_142) rfl ((if0 _ _).trans (feq hc142_49).2) (by decide) (by decide) ?_
              exact k
            refine Goes.run X36 hx hown hci hcl hby (L := [(154, .iconst 0, 1), (155, .goto 15, 3)]) (by decide +kernel) rfl (g' := (mkF m 170 #[.val (.int x0), .val (.long x1), .second, .val (.long x2), .second, .val (.int (0 : Int32)), .val (.long (j0_24_s0 x0 x1 x2 uB uS)), .second, .val (.ref uS), .val (.ref uB), .val (.int (w0_66_a x0 x1 x2 uB uS)), .val (.int (w0_95 x0 x1 x2 uB uS)), .val (.int (w0_85_a x0 x1 x2 uB uS)), .val (.int (w0_76 x0 x1 x2 uB uS)), .val (.int (j0_131_s0 x0 x1 x2 uB uS)), .unset] [(.int (0 : Int32))])) rfl ?_
            have q := jn170_44
            rw [show (j0_170_s0_a x0 x1 x2 uB uS) = (0 : Int32) from ((if_pos hc137_40).trans (if_neg hc142_49))] at q
            exact q
        · skip
          refine Goes.st (B := T36.setTop (mkF m 158 #[.val (.int x0), .val (.long x1), .second, .val (.long x2), .second, .val (.int (0 : Int32)), .val (.long (j0_24_s0 x0 x1 x2 uB uS)), .second, .val (.ref uS), .val (.ref uB), .val (.int (w0_66_a x0 x1 x2 uB uS)), .val (.int (w0_95 x0 x1 x2 uB uS)), .val (.int (w0_85_a x0 x1 x2 uB uS)), .val (.int (w0_76 x0 x1 x2 uB uS)), .val (.int (j0_131_s0 x0 x1 x2 uB uS)), .unset] [])) (fun t k => ?_) ?_
          · refine XS.ifYes X36.here hx rfl (pc0 := 137) (pc' := 158) rfl (hb hby at_137) rfl (feqL hc137_40).2 (by decide) (by decide) ?_
            exact k
          refine Goes.run X36 hx hown hci hcl hby (L := [(158, .iload 10, 2), (160, .iload 11, 2)]) (by decide +kernel) rfl (g' := (mkF m 162 #[.val (.int x0), .val (.long x1), .second, .val (.long x2), .second, .val (.int (0 : Int32)), .val (.long (j0_24_s0 x0 x1 x2 uB uS)), .second, .val (.ref uS), .val (.ref uB), .val (.int (w0_66_a x0 x1 x2 uB uS)), .val (.int (w0_95 x0 x1 x2 uB uS)), .val (.int (w0_85_a x0 x1 x2 uB uS)), .val (.int (w0_76 x0 x1 x2 uB uS)), .val (.int (j0_131_s0 x0 x1 x2 uB uS)), .unset] [(.int (w0_95 x0 x1 x2 uB uS)), (.int (w0_66_a x0 x1 x2 uB uS))])) rfl ?_
          by_cases hc162_51 : (w0_66_a x0 x1 x2 uB uS) = (w0_95 x0 x1 x2 uB uS)
          · skip
            refine Goes.st (B := T36.setTop (mkF m 169 #[.val (.int x0), .val (.long x1), .second, .val (.long x2), .second, .val (.int (0 : Int32)), .val (.long (j0_24_s0 x0 x1 x2 uB uS)), .second, .val (.ref uS), .val (.ref uB), .val (.int (w0_66_a x0 x1 x2 uB uS)), .val (.int (w0_95 x0 x1 x2 uB uS)), .val (.int (w0_85_a x0 x1 x2 uB uS)), .val (.int (w0_76 x0 x1 x2 uB uS)), .val (.int (j0_131_s0 x0 x1 x2 uB uS)), .unset] [])) (fun t k => ?_) ?_
            · refine XS.icmpYes X36.here hx rfl (pc0 := 162) (pc' := 169) rfl (hb hby at_162) rfl (teq hc162_51).1 (by decide) (by decide) ?_
              exact k
            refine Goes.run X36 hx hown hci hcl hby (L := [(169, .iconst 0, 1)]) (by decide +kernel) rfl (g' := (mkF m 170 #[.val (.int x0), .val (.long x1), .second, .val (.long x2), .second, .val (.int (0 : Int32)), .val (.long (j0_24_s0 x0 x1 x2 uB uS)), .second, .val (.ref uS), .val (.ref uB), .val (.int (w0_66_a x0 x1 x2 uB uS)), .val (.int (w0_95 x0 x1 x2 uB uS)), .val (.int (w0_85_a x0 x1 x2 uB uS)), .val (.int (w0_76 x0 x1 x2 uB uS)), .val (.int (j0_131_s0 x0 x1 x2 uB uS)), .unset] [(.int (0 : Int32))])) rfl ?_
            have q := jn170_44
            rw [show (j0_170_s0_a x0 x1 x2 uB uS) = (0 : Int32) from ((if_neg hc137_40).trans (if_pos hc162_51))] at q
            exact q
          · skip
            refine Goes.st (B := T36.setTop (mkF m 165 #[.val (.int x0), .val (.long x1), .second, .val (.long x2), .second, .val (.int (0 : Int32)), .val (.long (j0_24_s0 x0 x1 x2 uB uS)), .second, .val (.ref uS), .val (.ref uB), .val (.int (w0_66_a x0 x1 x2 uB uS)), .val (.int (w0_95 x0 x1 x2 uB uS)), .val (.int (w0_85_a x0 x1 x2 uB uS)), .val (.int (w0_76 x0 x1 x2 uB uS)), .val (.int (j0_131_s0 x0 x1 x2 uB uS)), .unset] [])) (fun t k => ?_) ?_
            · refine XS.icmpNo X36.here hx rfl (hb hby at_162) rfl (feq hc162_51).1 ?_
              exact k
            refine Goes.run X36 hx hown hci hcl hby (L := [(165, .iconst 1, 1), (166, .goto 4, 3)]) (by decide +kernel) rfl (g' := (mkF m 170 #[.val (.int x0), .val (.long x1), .second, .val (.long x2), .second, .val (.int (0 : Int32)), .val (.long (j0_24_s0 x0 x1 x2 uB uS)), .second, .val (.ref uS), .val (.ref uB), .val (.int (w0_66_a x0 x1 x2 uB uS)), .val (.int (w0_95 x0 x1 x2 uB uS)), .val (.int (w0_85_a x0 x1 x2 uB uS)), .val (.int (w0_76 x0 x1 x2 uB uS)), .val (.int (j0_131_s0 x0 x1 x2 uB uS)), .unset] [(.int (1 : Int32))])) rfl ?_
            have q := jn170_44
            rw [show (j0_170_s0_a x0 x1 x2 uB uS) = (1 : Int32) from ((if_neg hc137_40).trans (if_neg hc162_51))] at q
            exact q
      by_cases hc123_38 : x1 < (j0_24_s0 x0 x1 x2 uB uS)
      · skip
        refine Goes.st (B := T36.setTop (mkF m 126 #[.val (.int x0), .val (.long x1), .second, .val (.long x2), .second, .val (.int (0 : Int32)), .val (.long (j0_24_s0 x0 x1 x2 uB uS)), .second, .val (.ref uS), .val (.ref uB), .val (.int (w0_66_a x0 x1 x2 uB uS)), .val (.int (w0_95 x0 x1 x2 uB uS)), .val (.int (w0_85_a x0 x1 x2 uB uS)), .val (.int (w0_76 x0 x1 x2 uB uS)), .unset, .unset] [])) (fun t k => ?_) ?_
        · refine XS.ifNo X36.here hx rfl (hb hby at_123) rfl (tltL hc123_38).2.1 ?_
          exact k
        refine Goes.run X36 hx hown hci hcl hby (L := [(126, .iconst 1, 1), (127, .goto 4, 3)]) (by decide +kernel) rfl (g' := (mkF m 131 #[.val (.int x0), .val (.long x1), .second, .val (.long x2), .second, .val (.int (0 : Int32)), .val (.long (j0_24_s0 x0 x1 x2 uB uS)), .second, .val (.ref uS), .val (.ref uB), .val (.int (w0_66_a x0 x1 x2 uB uS)), .val (.int (w0_95 x0 x1 x2 uB uS)), .val (.int (w0_85_a x0 x1 x2 uB uS)), .val (.int (w0_76 x0 x1 x2 uB uS)), .unset, .unset] [(.int (1 : Int32))])) rfl ?_
        have q := jn131_39
        rw [show (j0_131_s0 x0 x1 x2 uB uS) = (1 : Int32) from (if_pos hc123_38)] at q
        exact q
      · skip
        refine Goes.st (B := T36.setTop (mkF m 130 #[.val (.int x0), .val (.long x1), .second, .val (.long x2), .second, .val (.int (0 : Int32)), .val (.long (j0_24_s0 x0 x1 x2 uB uS)), .second, .val (.ref uS), .val (.ref uB), .val (.int (w0_66_a x0 x1 x2 uB uS)), .val (.int (w0_95 x0 x1 x2 uB uS)), .val (.int (w0_85_a x0 x1 x2 uB uS)), .val (.int (w0_76 x0 x1 x2 uB uS)), .unset, .unset] [])) (fun t k => ?_) ?_
        · refine XS.ifYes X36.here hx rfl (pc0 := 123) (pc' := 130) rfl (hb hby at_123) rfl (fltL hc123_38).2.1 (by decide) (by decide) ?_
          exact k
        refine Goes.run X36 hx hown hci hcl hby (L := [(130, .iconst 0, 1)]) (by decide +kernel) rfl (g' := (mkF m 131 #[.val (.int x0), .val (.long x1), .second, .val (.long x2), .second, .val (.int (0 : Int32)), .val (.long (j0_24_s0 x0 x1 x2 uB uS)), .second, .val (.ref uS), .val (.ref uB), .val (.int (w0_66_a x0 x1 x2 uB uS)), .val (.int (w0_95 x0 x1 x2 uB uS)), .val (.int (w0_85_a x0 x1 x2 uB uS)), .val (.int (w0_76 x0 x1 x2 uB uS)), .unset, .unset] [(.int (0 : Int32))])) rfl ?_
        have q := jn131_39
        rw [show (j0_131_s0 x0 x1 x2 uB uS) = (0 : Int32) from (if_neg hc123_38)] at q
        exact q
    by_cases hc16_27 : (x0 &&& (2 : Int32)) = (0 : Int32)
    · skip
      refine Goes.st (B := s₁.setTop (mkF m 23 #[.val (.int x0), .val (.long x1), .second, .val (.long x2), .second, .val (.int (0 : Int32)), .unset, .unset, .unset, .unset, .unset, .unset, .unset, .unset, .unset, .unset] [])) (fun t k => ?_) ?_
      · refine XS.ifYes X0.here hx rfl (pc0 := 16) (pc' := 23) rfl (hb hby at_16) rfl ((if0 _ _).trans (teq hc16_27).1) (by decide) (by decide) ?_
        exact k
      refine Goes.run X0 hx hown hci hcl hby (L := [(23, .lload_n 3, 1)]) (by decide +kernel) rfl (g' := (mkF m 24 #[.val (.int x0), .val (.long x1), .second, .val (.long x2), .second, .val (.int (0 : Int32)), .unset, .unset, .unset, .unset, .unset, .unset, .unset, .unset, .unset, .unset] [(.long x2)])) rfl ?_
      have q := jn24_28
      rw [show (j0_24_s0 x0 x1 x2 uB uS) = x2 from (if_pos hc16_27)] at q
      exact q
    · skip
      refine Goes.st (B := s₁.setTop (mkF m 19 #[.val (.int x0), .val (.long x1), .second, .val (.long x2), .second, .val (.int (0 : Int32)), .unset, .unset, .unset, .unset, .unset, .unset, .unset, .unset, .unset, .unset] [])) (fun t k => ?_) ?_
      · refine XS.ifNo X0.here hx rfl (hb hby at_16) rfl ((if0 _ _).trans (feq hc16_27).1) ?_
        exact k
      refine Goes.run X0 hx hown hci hcl hby (L := [(19, .lload_n 1, 1), (20, .goto 4, 3)]) (by decide +kernel) rfl (g' := (mkF m 24 #[.val (.int x0), .val (.long x1), .second, .val (.long x2), .second, .val (.int (0 : Int32)), .unset, .unset, .unset, .unset, .unset, .unset, .unset, .unset, .unset, .unset] [(.long x1)])) rfl ?_
      have q := jn24_28
      rw [show (j0_24_s0 x0 x1 x2 uB uS) = x1 from (if_neg hc16_27)] at q
      exact q
theorem own_fv {s : State} {args : Array Value} {t : Term} {u : Addr} {C n d : String} {k : Int32} (ev : t.eval args s none [] s = some (.ref u)) (h : (Jvm.Cond.eq (Jvm.Term.field t C n d) (Jvm.Term.int k)).value args s none s [] = some true) : Fld s s.heap u C n d (.int k) := by
  have e := fld_at (C := C) (n := n) (dd := d) ev
  cases hv : s.fieldOf? u C n d with
  | none => rw [hv] at e; simp [Cond.value, e] at h
  | some v =>
    rw [hv] at e
    have k1 : (Term.int k).eval args s none [] s = some (.int k) := rfl
    cases v with
    | int z => simp [Cond.value, e, k1] at h; subst h; exact Fld.start hv
    | _ => simp [Cond.value, e, k1] at h
theorem own_ne {s : State} {args : Array Value} {t t' : Term} {uB uS : Addr} {C n d : String} (e1 : t.eval args s none [] s = some (.ref uB)) (e2 : t'.eval args s none [] s = some (.ref uS)) (h1 : (Jvm.Cond.eq (Jvm.Term.field t C n d) (Jvm.Term.int (0 : Int32))).value args s none s [] = some true) (h2 : (Jvm.Cond.eq (Jvm.Term.field t' C n d) (Jvm.Term.int (1 : Int32))).value args s none s [] = some true) : uB ≠ uS :=
  Fld.ne (own_fv e1 h1) (own_fv e2 h2) (by decide)
theorem law_true (x0 : Int32) (x1 x2 : Int64) (uB uS : Addr) (hne : uB ≠ uS) : r0 x0 x1 x2 uB uS = 1 := by
  have hn' : ¬ uS = uB := fun q => hne q.symm
  obtain ⟨t, ht⟩ : ∃ t, j0_24_s0 x0 x1 x2 uB uS = t := ⟨_, rfl⟩
  have rB : ∀ a b, r1 uB a b uB = if b < a then (1 : Int32) else 0 := fun a b => if_pos rfl
  have rS : ∀ a b, r1 uS a b uB = if a < b then (1 : Int32) else 0 := fun a b => if_neg hn'
  have a1 : w0_66 x0 x1 x2 uB uS = if t < x1 then (1 : Int32) else 0 := by rw [← ht]; exact rB _ _
  have a2 : w0_76 x0 x1 x2 uB uS = if x1 < t then (1 : Int32) else 0 := by rw [← ht]; exact rB _ _
  have a3 : w0_85 x0 x1 x2 uB uS = 0 := (rB _ _).trans (if_neg Int64.lt_irrefl)
  have a4 : w0_95 x0 x1 x2 uB uS = if t < x1 then (1 : Int32) else 0 := by rw [← ht]; exact rS _ _
  have a5 : w0_66_a x0 x1 x2 uB uS = if x1 < t then (1 : Int32) else 0 := by rw [← ht]; exact rS _ _
  have a6 : w0_85_a x0 x1 x2 uB uS = 0 := (rS _ _).trans (if_neg Int64.lt_irrefl)
  have b1 : j0_114_s0 x0 x1 x2 uB uS = if t < x1 then (1 : Int32) else 0 := by rw [← ht]; rfl
  have b2 : j0_131_s0 x0 x1 x2 uB uS = if x1 < t then (1 : Int32) else 0 := by rw [← ht]; rfl
  have tri : (x1 < t ∧ ¬ t < x1 ∧ x1 ≠ t) ∨ (t < x1 ∧ ¬ x1 < t ∧ x1 ≠ t) ∨ (x1 = t ∧ ¬ x1 < t ∧ ¬ t < x1) := by
    simp only [Int64.lt_iff_toInt_lt, ne_eq, ← Int64.toInt_inj]; omega
  have c1 : j0_170_s0 x0 x1 x2 uB uS = 1 := by
    unfold j0_170_s0
    rw [ht, a1, a2]
    rcases tri with ⟨p, q, r⟩ | ⟨p, q, r⟩ | ⟨p, q, r⟩
    · rw [if_neg r, if_neg q, if_pos p]; decide
    · rw [if_neg r, if_pos p, if_neg q]; decide
    · rw [if_pos p, if_neg q, if_neg r]; decide
  have c2 : j0_170_s0_a x0 x1 x2 uB uS = 1 := by
    unfold j0_170_s0_a
    rw [ht, a5, a4]
    rcases tri with ⟨p, q, r⟩ | ⟨p, q, r⟩ | ⟨p, q, r⟩
    · rw [if_neg r, if_neg q, if_pos p]; decide
    · rw [if_neg r, if_pos p, if_neg q]; decide
    · rw [if_pos p, if_neg q, if_neg r]; decide
  unfold r0
  rw [c1, c2, a1, b1, a3, a4, a5, b2, a6, a2]
  by_cases h : x0 &&& (1 : Int32) = 0
  · rw [if_pos h, if_pos rfl, if_pos rfl, if_neg (by decide), if_pos rfl]
  · rw [if_neg h, if_pos rfl, if_pos rfl, if_neg (by decide), if_pos rfl]
set_option maxRecDepth 65536 in
set_option maxHeartbeats 40000000 in
theorem comes_1 {Post : Tables → Env → Array Value → State → Outcome → State → Prop} (hpost : ∀ tb e args s v u, (limb_1_1.after args s (.returned v) u = true ∧ limb_1_2.after args s (.returned v) u = true ∧ True) → FrameEnd s (.returned v) u (Jvm.fieldLocs frame_1_writes args s ++ Jvm.arrayLocs frame_1_arrays args s ++ Jvm.staticLocs frame_1_statics s) 0 0 → Post tb e args s (.returned v) u) :
    ArmFor flags0 classFile x code maxLocals ret World_1 tables_1 room_1 Calls_1 rest_1 Pre_1 Post := by
  intro l hfl _ _ p e ha hc hk s m args below hf hA hF happ hP
  obtain ⟨hcalls, hrest, hpre⟩ := hP
  obtain ⟨-, -, -, hnamed, -, -, -, hat⟩ := (Spec.applies_iff hf).mp happ
  obtain ⟨hg, hn⟩ := and_e (Cond.before_iff.mp (show (Jvm.Cond.and given_1 narrow_1).before args s = true from hpre))
  obtain ⟨g0, g0r⟩ := and_e hg
  obtain ⟨g1, g1r⟩ := and_e g0r
  obtain ⟨g2, g3⟩ := and_e g1r
  obtain ⟨w0, w1, w2, rfl⟩ : ∃ w0 w1 w2 : Value, args = #[w0, w1, w2] := by
    have hs : args.size = 3 := by simpa [Cond.value, given_1] using g0
    obtain ⟨L⟩ := args
    match L, hs with
    | [w0, w1, w2], _ => exact ⟨w0, w1, w2, rfl⟩
  have hw := fun d (hd : d ∈ tables_1) => atoms_spec (ws := Jvm.Cond.code x code maxLocals ret :: tables_1) hat d (List.mem_cons_of_mem _ hd)
  have hfit : Fit s := fun {y c} hc i hi => by
    obtain ⟨ha, rfl⟩ := Array.getElem?_eq_some_iff.mp hc
    have q := List.all_eq_true.mp ((Array.all_eq_true_iff_forall_mem.mp hF) _ (Array.getElem_mem ha)) i (List.mem_range.mpr hi)
    simpa [Array.getElem?_eq_getElem hi] using q
  obtain ⟨i0, ei0⟩ := is_v g1
  obtain rfl : w0 = (.int i0) := Option.some.inj ei0
  obtain ⟨i1, ei1⟩ := isL_v g2
  obtain rfl : w1 = (.long i1) := Option.some.inj ei1
  obtain ⟨i2, ei2⟩ := isL_v g3
  obtain rfl : w2 = (.long i2) := Option.some.inj ei2
  obtain ⟨hn1, hn2⟩ := and_e hn
  obtain ⟨hn2, hn3⟩ := and_e hn2
  obtain ⟨hn3, hn4⟩ := and_e hn3
  obtain ⟨uB, evB⟩ := exa_v hn1
  obtain ⟨uS, evS⟩ := exa_v hn2
  have E_uB := Exa.start evB hn1
  have E_uS := Exa.start evS hn2
  have S_BUY := Sta.start evB (Or.inr ⟨hw _ (List.mem_of_getElem? (i := 1) rfl), hw _ (List.mem_of_getElem? (i := 2) rfl)⟩)
  have S_SELL := Sta.start evS (Or.inr ⟨hw _ (List.mem_of_getElem? (i := 1) rfl), hw _ (List.mem_of_getElem? (i := 4) rfl)⟩)
  have hne : uB ≠ uS := own_ne evB evS hn4 hn3
  obtain ⟨n, o, h1, h2, h3, v, L, rfl, hv, hq⟩ := rm0 l s _ hw tables_1 i0 i1 i2 uB uS s.heap s.heap.size (Nat.le_refl _) S_BUY S_SELL E_uB E_uS p e ha hc hk s m _ below hf ((Spec.applies_iff_loose hf).mp happ).1 ⟨rfl, State.Warmed39.refl s, rfl⟩ trivial
  have N := hv.2
  have hv1 : v = some (.int 1) := hv.1.trans (congrArg (fun z => some (Value.int z)) (law_true i0 i1 i2 uB uS hne))
  subst hv1
  refine ⟨n, _, h1, h2, h3, hpost _ _ _ _ _ _ ⟨Cond.after_iff.mpr rfl, Cond.after_iff.mpr (eq_i res_at (Term.int_eval (1)) rfl), trivial⟩ ⟨hq.1, hq.2.1, (hq.2.2.sift fun y hy => Or.inr (N y hy)).mono (by decide) (by decide)⟩⟩
theorem main_1_1 : Claimed_1_1 := comes_1 fun _ _ _ _ _ _ h hF => ⟨h.1, hF⟩
theorem main_1_2 : Claimed_1_2 := comes_1 fun _ _ _ _ _ _ h hF => ⟨h.2.1, hF⟩
end Jvm.Pilot.@@N@@
namespace Jvm.Pilot.@@N@@
open Jvm Jvm.ClassFile Sem Op Lib Jvm.Free Jvm.Stand Jvm.Pilot.@@N@@.Jvm.D
/-! MADE BY PROGRAM (witnessworld.py) out of the Statement's table words and the real class files: 12 classes; the members and pool entries that the words name. The judged class is class 1, her method 1. -/
namespace start1
open Jvm.ClassFile
def u (s : String) : CpInfo := .utf8 (stringToUtf16 s)
/-- a pool by its gaps: so many unusable entries, then the entry; so many at the end -/
def gap : Nat → List CpInfo → List CpInfo
  | 0, r => r
  | n + 1, r => .unusable :: gap n r
def poolList (es : List (Nat × CpInfo)) (last : Nat) : List CpInfo := es.foldr (fun e r => gap e.1 (e.2 :: r)) (gap last [])
def pool (es : List (Nat × CpInfo)) (last : Nat) : Array CpInfo := ⟨poolList es last⟩
def fileOf (pool : Array CpInfo) (this : Nat) (attrs : Array Attribute := #[]) (ms : Array MethodInfo := #[]) (fl : Nat := 33) (sup : Nat := 0) (ifs : Array Nat := #[]) (fds : Array FieldInfo := #[]) : ClassFile where
  minorVersion := 0
  majorVersion := 65
  constantPool := pool
  accessFlags := fl
  thisClass := this
  superClass := sup
  interfaces := ifs
  fields := fds
  methods := ms
  attributes := attrs
def plain (name : String) (sup : Option ClassId) : Class where
  name := name
  kind := .ordinary
  loader := none
  accessFlags := 33
  super := sup
  interfaces := #[]
  cf := none
  fields := #[]
  methods := #[]
  instanceTypes := #[]
  staticTypes := #[]
  resolved := #[]
  callSites := []
  init := .initialized
  statics := none
  mirror := none

def pool0 : Array CpInfo := pool [(5, u "<init>"), (0, u "()V"), (1, .class_ 10), (1, u "java/lang/Object")] 113

def k0m0 : Method := { name := "<init>", desc := "()V", sig := { parameters := [], returnType := none }, accessFlags := 1, code := none }
/-- java/lang/Object -/
def k0 : Class := { plain "java/lang/Object" none with
  accessFlags := 33
  interfaces := #[]
  cf := some (fileOf pool0 8 #[] #[{ accessFlags := 1, nameIndex := 5, descriptorIndex := 6, attributes := #[] }] 33 0 #[] #[])
  fields := #[]
  methods := #[k0m0]
  instanceTypes := #[]
  staticTypes := #[]
  resolved := Array.replicate 124 none
  statics := none }

def pool1 : Array CpInfo := pool [(2, .class_ 4), (1, u "java/lang/Object"), (0, u "<init>"), (0, u "()V"), (0, .fieldref 8 9), (0, .class_ 10), (0, .nameAndType 11 12), (0, u "com/example/rulewake/rulewake/Side"), (0, u "BUY"), (0, u "Lcom/example/rulewake/rulewake/Side;"), (0, .fieldref 8 14), (0, .nameAndType 15 12), (0, u "SELL"), (0, .methodref 8 17), (0, .nameAndType 18 19), (0, u "isBetter"), (0, u "(JJ)Z"), (0, .class_ 21), (0, u "com/example/rulewake/rulewake/SideIsBetterPinLaw"), (2, u "law"), (0, u "(IJJ)Z")] 3

def k1m0 : Method := { name := "<init>", desc := "()V", sig := { parameters := [], returnType := none }, accessFlags := 2, code := none }
def k1c1 : Code := { maxStack := 5, maxLocals := 16, code := code, exceptionTable := #[], attributes := #[] }
def k1m1 : Method := { name := "law", desc := "(IJJ)Z", sig := { parameters := [.int, .long, .long], returnType := some .boolean }, accessFlags := 9, code := some k1c1 }
/-- com/example/rulewake/rulewake/SideIsBetterPinLaw -/
def k1 : Class := { plain "com/example/rulewake/rulewake/SideIsBetterPinLaw" (some 0) with
  accessFlags := 49
  interfaces := #[]
  cf := some (fileOf pool1 20 #[] #[{ accessFlags := 2, nameIndex := 5, descriptorIndex := 6, attributes := #[] }, { accessFlags := 9, nameIndex := 24, descriptorIndex := 25, attributes := #[] }] 49 2 #[] #[])
  fields := #[]
  methods := #[k1m0, k1m1]
  instanceTypes := #[]
  staticTypes := #[]
  resolved := Array.replicate 29 none
  statics := none }

def pool2 : Array CpInfo := pool [(1, .class_ 2), (0, u "java/lang/constant/Constable"), (0, .class_ 4), (0, u "java/lang/Object")] 6

/-- java/lang/constant/Constable -/
def k2 : Class := { plain "java/lang/constant/Constable" (some 0) with
  accessFlags := 1537
  interfaces := #[]
  cf := some (fileOf pool2 1 #[] #[] 1537 3 #[] #[])
  fields := #[]
  methods := #[]
  instanceTypes := #[]
  staticTypes := #[]
  resolved := Array.replicate 11 none
  statics := none }

def pool3 : Array CpInfo := pool [(1, .class_ 2), (0, u "java/lang/Comparable"), (0, .class_ 4), (0, u "java/lang/Object")] 7

/-- java/lang/Comparable -/
def k3 : Class := { plain "java/lang/Comparable" (some 0) with
  accessFlags := 1537
  interfaces := #[]
  cf := some (fileOf pool3 1 #[] #[] 1537 3 #[] #[])
  fields := #[]
  methods := #[]
  instanceTypes := #[]
  staticTypes := #[]
  resolved := Array.replicate 12 none
  statics := none }

def pool4 : Array CpInfo := pool [(1, .class_ 2), (0, u "java/io/Serializable"), (0, .class_ 4), (0, u "java/lang/Object")] 2

/-- java/io/Serializable -/
def k4 : Class := { plain "java/io/Serializable" (some 0) with
  accessFlags := 1537
  interfaces := #[]
  cf := some (fileOf pool4 1 #[] #[] 1537 3 #[] #[])
  fields := #[]
  methods := #[]
  instanceTypes := #[]
  staticTypes := #[]
  resolved := Array.replicate 7 none
  statics := none }

def pool5 : Array CpInfo := pool [(2, .class_ 4), (1, u "java/lang/Enum"), (0, u "name"), (0, u "Ljava/lang/String;"), (2, u "ordinal"), (0, u "I"), (1, .class_ 14), (1, u "java/lang/Object"), (4, u "hash"), (86, .class_ 108), (1, u "java/lang/Enum$EnumDesc"), (2, .class_ 112), (0, u "java/lang/constant/Constable"), (0, .class_ 114), (0, u "java/lang/Comparable"), (0, .class_ 116), (0, u "java/io/Serializable")] 87

/-- java/lang/Enum -/
def k5 : Class := { plain "java/lang/Enum" (some 0) with
  accessFlags := 1057
  interfaces := #[2, 3, 4]
  cf := some (fileOf pool5 2 #[.nestMembers #[106]] #[] 1057 12 #[111, 113, 115] #[{ accessFlags := 18, nameIndex := 5, descriptorIndex := 6, attributes := #[] }, { accessFlags := 18, nameIndex := 9, descriptorIndex := 10, attributes := #[] }, { accessFlags := 2, nameIndex := 19, descriptorIndex := 10, attributes := #[] }])
  fields := #[{ name := "name", type := (.object "java/lang/String"), accessFlags := 18, slot := 0, constantValue := 0 }, { name := "ordinal", type := .int, accessFlags := 18, slot := 1, constantValue := 0 }, { name := "hash", type := .int, accessFlags := 2, slot := 2, constantValue := 0 }]
  methods := #[]
  instanceTypes := #[(.object "java/lang/String"), .int, .int]
  staticTypes := #[]
  resolved := Array.replicate 204 none
  statics := none }

def pool6 : Array CpInfo := pool [(1, .class_ 2), (0, u "com/example/rulewake/rulewake/Side"), (0, .fieldref 1 4), (0, .nameAndType 5 6), (0, u "BUY"), (0, u "Lcom/example/rulewake/rulewake/Side;"), (2, u "SELL"), (2, u "$VALUES"), (0, u "[Lcom/example/rulewake/rulewake/Side;"), (6, .class_ 22), (1, u "java/lang/Enum"), (8, u "word"), (0, u "Ljava/lang/String;"), (2, u "isBetter"), (0, u "(JJ)Z")] 42

def k6c0 : Code := { maxStack := 4, maxLocals := 5, code := prog_50_method_6_code, exceptionTable := #[], attributes := #[] }
def k6m0 : Method := { name := "isBetter", desc := "(JJ)Z", sig := { parameters := [.long, .long], returnType := some .boolean }, accessFlags := 0, code := some k6c0 }
/-- com/example/rulewake/rulewake/Side -/
def k6 : Class := { plain "com/example/rulewake/rulewake/Side" (some 5) with
  accessFlags := 16432
  interfaces := #[]
  cf := some (fileOf pool6 1 #[] #[{ accessFlags := 0, nameIndex := 35, descriptorIndex := 36, attributes := #[] }] 16432 20 #[] #[{ accessFlags := 16409, nameIndex := 5, descriptorIndex := 6, attributes := #[] }, { accessFlags := 16409, nameIndex := 9, descriptorIndex := 6, attributes := #[] }, { accessFlags := 18, nameIndex := 31, descriptorIndex := 32, attributes := #[] }, { accessFlags := 4122, nameIndex := 12, descriptorIndex := 13, attributes := #[] }])
  fields := #[{ name := "BUY", type := (.object "com/example/rulewake/rulewake/Side"), accessFlags := 16409, slot := 0, constantValue := 0 }, { name := "SELL", type := (.object "com/example/rulewake/rulewake/Side"), accessFlags := 16409, slot := 1, constantValue := 0 }, { name := "word", type := (.object "java/lang/String"), accessFlags := 18, slot := 3, constantValue := 0 }, { name := "$VALUES", type := (.array (.object "com/example/rulewake/rulewake/Side")), accessFlags := 4122, slot := 2, constantValue := 0 }]
  methods := #[k6m0]
  instanceTypes := #[(.object "java/lang/String"), .int, .int, (.object "java/lang/String")]
  staticTypes := #[(.object "com/example/rulewake/rulewake/Side"), (.object "com/example/rulewake/rulewake/Side"), (.array (.object "com/example/rulewake/rulewake/Side"))]
  resolved := Array.replicate 79 none
  statics := some 0 }

def pool7 : Array CpInfo := pool [(1, u "java/lang/Cloneable"), (0, .class_ 1), (0, u "java/lang/Object"), (0, .class_ 3)] 3

/-- java/lang/Cloneable -/
def k7 : Class := { plain "java/lang/Cloneable" (some 0) with
  accessFlags := 1537
  interfaces := #[]
  cf := some (fileOf pool7 2 #[] #[] 1537 4 #[] #[])
  fields := #[]
  methods := #[]
  instanceTypes := #[]
  staticTypes := #[]
  resolved := Array.replicate 8 none
  statics := none }

/-- the primitive byte -/
def k8 : Class := { plain "byte" none with kind := .primitive 'B', accessFlags := 0x411 }
/-- [B -/
def k9 : Class := { plain "[B" (some 0) with kind := .array 8 .byte, interfaces := #[7, 4], accessFlags := 1041 }

/-- the primitive int -/
def k10 : Class := { plain "int" none with kind := .primitive 'I', accessFlags := 0x411 }
/-- [I -/
def k11 : Class := { plain "[I" (some 0) with kind := .array 10 .int, interfaces := #[7, 4], accessFlags := 1041 }

def heap : Heap := #[{ cls := 6, slots := #[.ref 1, .ref 2, .null], vm := .statics 6 },
  { cls := 6, slots := #[.null, .int 0, .int 0, .null], vm := .none },
  { cls := 6, slots := #[.null, .int 1, .int 0, .null], vm := .none }]
def classes : Array Class := #[k0, k1, k2, k3, k4, k5, k6, k7, k8, k9, k10, k11]
def interned : List (Array UInt16 × Addr) := []
def slotsUsed : Nat := 11
def theMethod : MethodId := ⟨1, 1⟩
def args0 : Array Value := #[.int 5, .long 7, .long 9]
def aboutOver (below : List Frame) : State where
  vm := { classes := classes, interned := interned.toArray }
  heap := heap
  slotsUsed := slotsUsed
  threads := #[{ frames := .invoking theMethod args0 :: below }]
def below0 : List Frame := [.native { method := ⟨0, 0⟩, args := #[] }]
def about1 : State := aboutOver below0
def p0 : Program := .bare "" "" ""
def e0 : Env := launch0.env 0 0 0
theorem w_frames : about1.frames = Frame.invoking theMethod args0 :: below0 := rfl
set_option maxRecDepth 65536 in
theorem w_args : argsFit about1.vm theMethod args0 = true := by decide +kernel
set_option maxRecDepth 65536 in
theorem w_heap : heapFits about1 = true := by decide +kernel
set_option maxRecDepth 65536 in
theorem w_runnable : about1.curStatus? = some .runnable := by decide +kernel
set_option maxRecDepth 65536 in
theorem w_alone : about1.alone = true := by decide +kernel
set_option maxRecDepth 65536 in
theorem w_named : about1.methodNamed? x = some theMethod := by decide +kernel
set_option maxRecDepth 65536 in
theorem w_hears : about1.hears theMethod below0 = true := by decide +kernel
set_option maxRecDepth 65536 in
theorem w_ripe : about1.ripe theMethod args0 below0 = true := by decide +kernel
theorem w_running : about1.status = .running := rfl
set_option maxRecDepth 65536 in
theorem w_room : about1.hasRoom e0.platform room_1 = true :=
  launch0.hasRoom_least _ room_1 (by decide +kernel) (by decide +kernel) (by decide +kernel) (by decide +kernel) (by decide +kernel) (by decide +kernel)
theorem allAtoms_all (ts : List Jvm.Cond) (a : Array Jvm.Value) (st : Jvm.State) : (allAtoms ts).before a st = ts.all (fun c => c.before a st) := by
  induction ts with
  | nil => rfl
  | cons c t ih =>
    show (Jvm.Cond.and c (allAtoms t)).before a st = _
    rw [Jvm.Cond.before_and, ih, List.all_cons]
def words1 : List Jvm.Cond := Jvm.Cond.code x code maxLocals ret :: tables_1
/-- a 'code' word, met by the world's own term for the bytes: nothing is compared byte by byte -/
theorem code_word {y : MethodName} {bytes : ByteArray} {mx : Nat} {rt : Option FieldType} {a : Array Value} {s : State} {m : MethodId} {meth : Method} {c : Code} (h1 : s.methodNamed? y = some m) (h2 : s.vm.method? m = some meth) (h3 : meth.code = some c) (h4 : c.code = bytes)
    (h5 : (c.maxLocals == mx && c.exceptionTable.isEmpty && decide (c.maxStack ≤ mostOperands) && decide (meth.sig.returnType = rt) && !meth.locks && decide (parseMethodDescriptor y.desc = some meth.sig)) = true) : (Jvm.Cond.code y bytes mx rt).before a s = true := by
  simp only [Bool.and_eq_true, beq_iff_eq, Bool.not_eq_true', decide_eq_true_eq] at h5
  obtain ⟨⟨⟨⟨⟨g1, g2⟩, g3⟩, g4⟩, g5⟩, g6⟩ := h5
  simp [Cond.before, Cond.holds, Cond.value, h1, h2, h3, h4, g1, g2, g3, g4, g5, g6]
def isCode : Jvm.Cond → Bool
  | .code _ _ _ _ => true
  | _ => false
theorem all_split {L : List Jvm.Cond} {P : Jvm.Cond → Bool} (h1 : L.all (fun c => isCode c || P c) = true) (h2 : ∀ c ∈ L.filter isCode, P c = true) : L.all P = true := by
  refine List.all_eq_true.mpr fun c hc => ?_
  have h := List.all_eq_true.mp h1 c hc
  rcases Bool.eq_false_or_eq_true (isCode c) with hi | hi
  · exact h2 c (List.mem_filter.mpr ⟨hc, hi⟩)
  · simpa [hi] using h
set_option maxRecDepth 65536 in
theorem w_c0 : (Jvm.Cond.code x code maxLocals ret).before args0 about1 = true := code_word (m := ⟨1, 1⟩) (meth := k1m1) (c := k1c1) (by decide +kernel) rfl rfl rfl (by decide +kernel)
set_option maxRecDepth 65536 in
theorem w_c1 : (Jvm.Cond.code ({ cls := "com/example/rulewake/rulewake/Side", name := "isBetter", desc := "(JJ)Z" } : Jvm.MethodName) prog_50_method_6_code (5 : Nat) (Option.some Jvm.ClassFile.FieldType.boolean)).before args0 about1 = true := code_word (m := ⟨6, 0⟩) (meth := k6m0) (c := k6c0) (by decide +kernel) rfl rfl rfl (by decide +kernel)
def codes1 : List Jvm.Cond := [Jvm.Cond.code x code maxLocals ret, Jvm.Cond.code ({ cls := "com/example/rulewake/rulewake/Side", name := "isBetter", desc := "(JJ)Z" } : Jvm.MethodName) prog_50_method_6_code (5 : Nat) (Option.some Jvm.ClassFile.FieldType.boolean)]
set_option maxRecDepth 65536 in
theorem codes_eq : words1.filter isCode = codes1 := rfl
theorem w_codes : ∀ c ∈ words1.filter isCode, c.before args0 about1 = true := by
  rw [codes_eq]
  intro c hc
  simp only [codes1, List.mem_cons, List.not_mem_nil, or_false] at hc
  rcases hc with rfl | rfl
  · exact w_c0
  · exact w_c1
set_option maxRecDepth 65536 in
theorem w_t1 : words1.all (fun c => isCode c || c.before args0 about1) = true := by decide +kernel
theorem w_tables : (allAtoms (Jvm.Cond.code x code maxLocals ret :: tables_1)).before args0 about1 = true := by
  rw [allAtoms_all]
  show words1.all (fun c => c.before args0 about1) = true
  refine all_split ?_ w_codes
  rw [w_t1]
set_option maxRecDepth 65536 in
theorem w_case : (Jvm.Cond.and given_1 narrow_1).before args0 about1 = true := by decide +kernel
theorem w_applies : (headSpec (Jvm.Cond.code x code maxLocals ret :: tables_1) room_1).applies x e0.platform about1 = true :=
  (Spec.applies_iff w_frames).mpr ⟨w_running, w_runnable, w_alone, w_named, w_hears, w_ripe, w_room, w_tables⟩
theorem atStart : AtStart classFile x code maxLocals ret World_1 tables_1 room_1 Calls_1 rest_1 Pre_1 launch0 p0 e0 about1 theMethod args0 below0 :=
  ⟨lists_1, trivial, launch0.admits_env _ _ _, launch0.least_env, fairChoices_fair.cas, fairChoices_fair.clock, w_frames, w_args, w_heap, w_applies, trivial, trivial, w_case⟩
end start1
theorem witness_1 : WitnessClaimed_1 := ⟨start1.p0, start1.e0, start1.about1, start1.theMethod, start1.args0, start1.below0, start1.atStart⟩
end Jvm.Pilot.@@N@@
