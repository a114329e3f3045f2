import JvmDerived
import JvmDerived.Pilot.@@N@@Statement
import JvmDerived.Pilot.@@N@@Code
set_option linter.unusedVariables false
set_option linter.unusedSimpArgs false
@@BLOCK:NumsL.lean.txt@@
namespace Jvm.Pilot.@@N@@
open Jvm Jvm.ClassFile Sem Op Lib Jvm.Free Jvm.Stand Jvm.LawKit Jvm.RoadKit Bundle Jvm.Pilot.@@N@@.Jvm.D
def Goes (p : Program) (e : Env) (below : List Frame) (s : State) (Q : Option Value → Heap → List Loc → Prop) (kc ks : Nat) (A : State) : Prop :=
  ∃ s₂ o, Steps p.tables e below A s₂ ∧ s₂.status = .running ∧ Ended s₂ below o ∧ ∃ v L, o = .returned v ∧ Q v s₂.heap L ∧ FrameEnd s o s₂ L kc ks
def QL (w : Option Value) (n0 : Nat) (v : Option Value) (h : Heap) (L : List Loc) : Prop := v = w ∧ Fr n0 L
theorem own_selp {s : State} {args : Array Value} {y : MethodName} {n : Nat} (hins : (Cond.instantiable y.cls n).before args s = true) (hpriv : (Cond.privateMethod y).before args s = true) (hinst : (Cond.instanceMethod y).before args s = true) (hy : y.cls ≠ "java/lang/invoke/MethodHandle" ∧ y.cls ≠ "java/lang/invoke/VarHandle") : (Cond.selects y.cls y y).before args s = true := by
  obtain ⟨c, k, hc, hk, -, hniab, -, -⟩ := Cond.instantiable_spec hins
  exact selects_self_of_private hc hk (Bool.or_eq_false_iff.mp hniab).1 (Cond.privateMethod_at hpriv) hinst hy
def QP (w : Option Value) (h0 : Heap) (n0 : Nat) (v : Option Value) (h : Heap) (L : List Loc) : Prop := v = w ∧ Fr n0 L ∧ h = h0
section OwnGoes
variable {p : Program} {l : Launch} {e : Env} {R : Room} {s : State} {m : MethodId} {args : Array Value} {below : List Frame} {meth : Method} {c : Code} {T : State} {locs : List Loc} {cells slots kc ks : Nat} {Q : Option Value → Heap → List Loc → Prop}
theorem Goes.st {A B : State} (h : ∀ t, Steps p.tables e below B t → Steps p.tables e below A t) (g : Goes p e below s Q kc ks B) : Goes p e below s Q kc ks A := by
  obtain ⟨s₂, o, h1, r⟩ := g
  exact ⟨s₂, o, h _ h1, r⟩
theorem Goes.cast {g g' : JFrame} (q : g = g') (h : Goes p e below s Q kc ks (T.setTop g')) : Goes p e below s Q kc ks (T.setTop g) := q ▸ h
theorem Goes.retI (X : Stand p l e R s m args below meth c T locs cells slots) (hx : p.tables.exec = Jvm.exec) (hlk : meth.locks = false) (hret : meth.sig.returnType = some .int) {pc : Nat} {Ls : Array Slot} {z : Int32} {rest : List Value} (hd : decode c.code pc = .ok (.ireturn, 1)) (hQ : Q (some (.int z)) T.heap locs) (h1 : cells ≤ kc) (h2 : slots ≤ ks) : Goes p e below s Q kc ks (T.setTop (mkF m pc Ls (.int z :: rest))) := by
  obtain ⟨fs, hr, hrun, hended, hW, hsame⟩ := X.leave (v := some (.int z)) (fun h => by rw [hret] at h; cases h)
  exact ⟨_, _, retOut X hx hret rfl (Or.inl ⟨rfl, Or.inl rfl, _, rfl⟩) hd hr, hrun, hended, _, _, rfl, hQ, ⟨_, rfl⟩, hW, hsame.mono h1 h2⟩
theorem Goes.retJ (X : Stand p l e R s m args below meth c T locs cells slots) (hx : p.tables.exec = Jvm.exec) (hlk : meth.locks = false) (hret : meth.sig.returnType = some .long) {pc : Nat} {Ls : Array Slot} {z : Int64} {rest : List Value} (hd : decode c.code pc = .ok (.lreturn, 1)) (hQ : Q (some (.long z)) T.heap locs) (h1 : cells ≤ kc) (h2 : slots ≤ ks) : Goes p e below s Q kc ks (T.setTop (mkF m pc Ls (.long z :: rest))) := by
  obtain ⟨fs, hr, hrun, hended, hW, hsame⟩ := X.leave (v := some (.long z)) (fun h => by rw [hret] at h; cases h)
  exact ⟨_, _, retOut X hx hret rfl (Or.inr (Or.inl ⟨rfl, rfl, _, rfl⟩)) hd hr, hrun, hended, _, _, rfl, hQ, ⟨_, rfl⟩, hW, hsame.mono h1 h2⟩
theorem Goes.retR (X : Stand p l e R s m args below meth c T locs cells slots) (hx : p.tables.exec = Jvm.exec) (hlk : meth.locks = false) {t : FieldType} (hret : meth.sig.returnType = some t) {w : Value} (ht : t.isReference = true) (hw : w.isRef = true) {pc : Nat} {Ls : Array Slot} {rest : List Value} (hd : decode c.code pc = .ok (.areturn, 1)) (hQ : Q (some w) T.heap locs) (h1 : cells ≤ kc) (h2 : slots ≤ ks) : Goes p e below s Q kc ks (T.setTop (mkF m pc Ls (w :: rest))) := by
  obtain ⟨fs, hr, hrun, hended, hW, hsame⟩ := X.leave (v := some w) (fun h => by rw [hret] at h; cases h)
  have hn : narrow t w = w := by cases t <;> cases w <;> first | rfl | (simp [FieldType.isReference] at ht) | (simp [Value.isRef] at hw)
  exact ⟨_, _, retOut X hx hret hn (Or.inr (Or.inr (Or.inr (Or.inr ⟨rfl, ht, hw⟩)))) hd hr, hrun, hended, _, _, rfl, hQ, ⟨_, rfl⟩, hW, hsame.mono h1 h2⟩
theorem Goes.retB (X : Stand p l e R s m args below meth c T locs cells slots) (hx : p.tables.exec = Jvm.exec) (hlk : meth.locks = false) {t : FieldType} (hret : meth.sig.returnType = some t) (ht : t = .boolean ∨ t = .byte ∨ t = .char ∨ t = .short) {pc : Nat} {Ls : Array Slot} {z : Int32} {rest : List Value} (hd : decode c.code pc = .ok (.ireturn, 1)) (hz : nar t z = z) (hQ : Q (some (.int z)) T.heap locs) (h1 : cells ≤ kc) (h2 : slots ≤ ks) : Goes p e below s Q kc ks (T.setTop (mkF m pc Ls (.int z :: rest))) := by
  obtain ⟨fs, hr, hrun, hended, hW, hsame⟩ := X.leave (v := some (.int z)) (fun h => by rw [hret] at h; cases h)
  exact ⟨_, _, retN X hx hret ht hd (by rw [hz]; exact hr), hrun, hended, _, _, rfl, hQ, ⟨_, rfl⟩, hW, hsame.mono h1 h2⟩
theorem Goes.retV (X : Stand p l e R s m args below meth c T locs cells slots) (hx : p.tables.exec = Jvm.exec) (hlk : meth.locks = false) (hret : meth.sig.returnType = none) {pc : Nat} {Ls : Array Slot} (hd : decode c.code pc = .ok (.return_, 1)) (hQ : Q none T.heap locs) (h1 : cells ≤ kc) (h2 : slots ≤ ks) : Goes p e below s Q kc ks (T.setTop (mkF m pc Ls [])) := by
  obtain ⟨fs, hr, hrun, hended, hW, hsame⟩ := X.leave (v := none) (fun _ => rfl)
  exact ⟨_, _, X.returnOut hx hret hd hr, hrun, hended, _, _, rfl, hQ, ⟨_, rfl⟩, hW, hsame.mono h1 h2⟩
end OwnGoes
theorem tltL {x y : Int64} (h : x < y) : ifCond.holds .lt (lcmpW x y) = true ∧ ifCond.holds .ge (lcmpW x y) = false ∧ ifCond.holds .gt (lcmpW y x) = true ∧ ifCond.holds .le (lcmpW y x) = false :=
  ⟨(if0 _ _).trans (tlt ((lw_lt x y).mpr h)).1, (if0 _ _).trans (tlt ((lw_lt x y).mpr h)).2.1, (if0 _ _).trans (tlt ((lw_gt y x).mpr h)).2.2.1, (if0 _ _).trans (tlt ((lw_gt y x).mpr h)).2.2.2⟩
theorem fltL {x y : Int64} (h : ¬ x < y) : ifCond.holds .lt (lcmpW x y) = false ∧ ifCond.holds .ge (lcmpW x y) = true ∧ ifCond.holds .gt (lcmpW y x) = false ∧ ifCond.holds .le (lcmpW y x) = true :=
  ⟨(if0 _ _).trans (flt fun q => h ((lw_lt x y).mp q)).1, (if0 _ _).trans (flt fun q => h ((lw_lt x y).mp q)).2.1, (if0 _ _).trans (flt fun q => h ((lw_gt y x).mp q)).2.2.1, (if0 _ _).trans (flt fun q => h ((lw_gt y x).mp q)).2.2.2⟩
theorem teqL {x y : Int64} (h : x = y) : ifCond.holds .eq (lcmpW x y) = true ∧ ifCond.holds .ne (lcmpW x y) = false :=
  ⟨(if0 _ _).trans (teq ((lw_eq x y).mpr h)).1, (if0 _ _).trans (teq ((lw_eq x y).mpr h)).2⟩
theorem feqL {x y : Int64} (h : ¬ x = y) : ifCond.holds .eq (lcmpW x y) = false ∧ ifCond.holds .ne (lcmpW x y) = true :=
  ⟨(if0 _ _).trans (feq fun q => h ((lw_eq x y).mp q)).1, (if0 _ _).trans (feq fun q => h ((lw_eq x y).mp q)).2⟩
def own_look {α : Type} (i : Nat) : List (Nat × α) → Option α
  | [] => none
  | (j, v) :: r => if i = j then some v else own_look i r
theorem own_look_mem {α : Type} {i : Nat} {v : α} : ∀ {L : List (Nat × α)}, own_look i L = some v → (i, v) ∈ L
  | [], h => by cases h
  | (j, w) :: r, h => by
    unfold own_look at h
    by_cases q : i = j
    · rw [if_pos q] at h; cases h; subst q; exact List.mem_cons_self
    · rw [if_neg q] at h; exact List.mem_cons_of_mem _ (own_look_mem h)
def own_pstep (ci : List (Nat × Int32)) (cl : List (Nat × Int64)) (i : Instr) (n : Nat) (g : JFrame) : Option JFrame :=
  match i with
  | .iload_n k => if n = 1 then (match g.locals[k.val]? with | some (.val (.int v)) => some { g with pc := g.pc + 1, stack := .int v :: g.stack } | _ => none) else none
  | .iload k => if n = 2 then (match g.locals[k]? with | some (.val (.int v)) => some { g with pc := g.pc + 2, stack := .int v :: g.stack } | _ => none) else none
  | .lload_n k => if n = 1 then (match g.locals[k.val]? with | some (.val (.long v)) => some { g with pc := g.pc + 1, stack := .long v :: g.stack } | _ => none) else none
  | .lload k => if n = 2 then (match g.locals[k]? with | some (.val (.long v)) => some { g with pc := g.pc + 2, stack := .long v :: g.stack } | _ => none) else none
  | .aload_n k => if n = 1 then (match g.locals[k.val]? with | some (.val v) => if v.isRef = true then some { g with pc := g.pc + 1, stack := v :: g.stack } else none | _ => none) else none
  | .aload k => if n = 2 then (match g.locals[k]? with | some (.val v) => if v.isRef = true then some { g with pc := g.pc + 2, stack := v :: g.stack } else none | _ => none) else none
  | .istore_n k => if n = 1 then (match g.stack with | .int x :: rest => (match storeLocals g.locals k.val (.int x) with | some l' => some { g with pc := g.pc + 1, stack := rest, locals := l' } | none => none) | _ => none) else none
  | .istore k => if n = 2 then (match g.stack with | .int x :: rest => (match storeLocals g.locals k (.int x) with | some l' => some { g with pc := g.pc + 2, stack := rest, locals := l' } | none => none) | _ => none) else none
  | .lstore_n k => if n = 1 then (match g.stack with | .long x :: rest => (match storeLocals g.locals k.val (.long x) with | some l' => some { g with pc := g.pc + 1, stack := rest, locals := l' } | none => none) | _ => none) else none
  | .lstore k => if n = 2 then (match g.stack with | .long x :: rest => (match storeLocals g.locals k (.long x) with | some l' => some { g with pc := g.pc + 2, stack := rest, locals := l' } | none => none) | _ => none) else none
  | .astore_n k => if n = 1 then (match g.stack with | x :: rest => (if x.isRef = true then (match storeLocals g.locals k.val x with | some l' => some { g with pc := g.pc + 1, stack := rest, locals := l' } | none => none) else none) | _ => none) else none
  | .astore k => if n = 2 then (match g.stack with | x :: rest => (if x.isRef = true then (match storeLocals g.locals k x with | some l' => some { g with pc := g.pc + 2, stack := rest, locals := l' } | none => none) else none) | _ => none) else none
  | .iconst i => if n = 1 then (some { g with pc := g.pc + 1, stack := .int (Int32.ofInt i) :: g.stack }) else none
  | .bipush i => if n = 2 then (some { g with pc := g.pc + 2, stack := .int (Int8.ofInt i).toInt32 :: g.stack }) else none
  | .sipush i => if n = 3 then (some { g with pc := g.pc + 3, stack := .int (Int16.ofInt i).toInt32 :: g.stack }) else none
  | .lconst k => if n = 1 then (some { g with pc := g.pc + 1, stack := .long (Int64.ofNat k) :: g.stack }) else none
  | .aconst_null => if n = 1 then (some { g with pc := g.pc + 1, stack := .null :: g.stack }) else none
  | .iadd => if n = 1 then (match g.stack with | .int y :: .int x :: rest => some { g with pc := g.pc + 1, stack := .int (x + y) :: rest } | _ => none) else none
  | .ladd => if n = 1 then (match g.stack with | .long y :: .long x :: rest => some { g with pc := g.pc + 1, stack := .long (x + y) :: rest } | _ => none) else none
  | .isub => if n = 1 then (match g.stack with | .int y :: .int x :: rest => some { g with pc := g.pc + 1, stack := .int (x - y) :: rest } | _ => none) else none
  | .lsub => if n = 1 then (match g.stack with | .long y :: .long x :: rest => some { g with pc := g.pc + 1, stack := .long (x - y) :: rest } | _ => none) else none
  | .imul => if n = 1 then (match g.stack with | .int y :: .int x :: rest => some { g with pc := g.pc + 1, stack := .int (x * y) :: rest } | _ => none) else none
  | .lmul => if n = 1 then (match g.stack with | .long y :: .long x :: rest => some { g with pc := g.pc + 1, stack := .long (x * y) :: rest } | _ => none) else none
  | .iand => if n = 1 then (match g.stack with | .int y :: .int x :: rest => some { g with pc := g.pc + 1, stack := .int (x &&& y) :: rest } | _ => none) else none
  | .land => if n = 1 then (match g.stack with | .long y :: .long x :: rest => some { g with pc := g.pc + 1, stack := .long (x &&& y) :: rest } | _ => none) else none
  | .ior => if n = 1 then (match g.stack with | .int y :: .int x :: rest => some { g with pc := g.pc + 1, stack := .int (x ||| y) :: rest } | _ => none) else none
  | .lor => if n = 1 then (match g.stack with | .long y :: .long x :: rest => some { g with pc := g.pc + 1, stack := .long (x ||| y) :: rest } | _ => none) else none
  | .ixor => if n = 1 then (match g.stack with | .int y :: .int x :: rest => some { g with pc := g.pc + 1, stack := .int (x ^^^ y) :: rest } | _ => none) else none
  | .lxor => if n = 1 then (match g.stack with | .long y :: .long x :: rest => some { g with pc := g.pc + 1, stack := .long (x ^^^ y) :: rest } | _ => none) else none
  | .ishl => if n = 1 then (match g.stack with | .int y :: .int x :: rest => some { g with pc := g.pc + 1, stack := .int (x <<< (y &&& 31)) :: rest } | _ => none) else none
  | .ishr => if n = 1 then (match g.stack with | .int y :: .int x :: rest => some { g with pc := g.pc + 1, stack := .int (x >>> (y &&& 31)) :: rest } | _ => none) else none
  | .iushr => if n = 1 then (match g.stack with | .int y :: .int x :: rest => some { g with pc := g.pc + 1, stack := .int ((x.toUInt32 >>> (y &&& 31).toUInt32).toInt32) :: rest } | _ => none) else none
  | .lshl => if n = 1 then (match g.stack with | .int y :: .long x :: rest => some { g with pc := g.pc + 1, stack := .long (x <<< (y &&& 0x3f).toInt64) :: rest } | _ => none) else none
  | .lshr => if n = 1 then (match g.stack with | .int y :: .long x :: rest => some { g with pc := g.pc + 1, stack := .long (x >>> (y &&& 0x3f).toInt64) :: rest } | _ => none) else none
  | .lushr => if n = 1 then (match g.stack with | .int y :: .long x :: rest => some { g with pc := g.pc + 1, stack := .long ((x.toUInt64 >>> (y &&& 0x3f).toInt64.toUInt64).toInt64) :: rest } | _ => none) else none
  | .lcmp => if n = 1 then (match g.stack with | .long y :: .long x :: rest => some { g with pc := g.pc + 1, stack := .int (if x > y then 1 else if x = y then 0 else -1) :: rest } | _ => none) else none
  | .ineg => if n = 1 then (match g.stack with | .int v :: rest => some { g with pc := g.pc + 1, stack := .int (-v) :: rest } | _ => none) else none
  | .lneg => if n = 1 then (match g.stack with | .long v :: rest => some { g with pc := g.pc + 1, stack := .long (-v) :: rest } | _ => none) else none
  | .i2l => if n = 1 then (match g.stack with | .int v :: rest => some { g with pc := g.pc + 1, stack := .long (v.toInt64) :: rest } | _ => none) else none
  | .l2i => if n = 1 then (match g.stack with | .long v :: rest => some { g with pc := g.pc + 1, stack := .int (v.toInt32) :: rest } | _ => none) else none
  | .i2b => if n = 1 then (match g.stack with | .int v :: rest => some { g with pc := g.pc + 1, stack := .int (v.toInt8.toInt32) :: rest } | _ => none) else none
  | .i2c => if n = 1 then (match g.stack with | .int v :: rest => some { g with pc := g.pc + 1, stack := .int (v.toUInt32.toUInt16.toUInt32.toInt32) :: rest } | _ => none) else none
  | .i2s => if n = 1 then (match g.stack with | .int v :: rest => some { g with pc := g.pc + 1, stack := .int (v.toInt16.toInt32) :: rest } | _ => none) else none
  | .iinc k cst => if n = 3 then (match g.locals[k]? with | some (.val (.int x)) => (match storeLocals g.locals k (.int (x + Int32.ofInt cst)) with | some l' => some { g with pc := g.pc + 3, locals := l' } | none => none) | _ => none) else none
  | .dup => if n = 1 then (match g.stack with | x :: rest => (if x.category = 1 then some { g with pc := g.pc + 1, stack := x :: x :: rest } else none) | _ => none) else none
  | .pop => if n = 1 then (match g.stack with | x :: rest => (if x.category = 1 then some { g with pc := g.pc + 1, stack := rest } else none) | _ => none) else none
  | .goto o => if n = 3 then (if 0 ≤ (g.pc : Int) + o then some { g with pc := ((g.pc : Int) + o).toNat } else none) else none
  | .ldc i => if n = 2 then (match own_look i ci with | some v => some { g with pc := g.pc + 2, stack := .int v :: g.stack } | none => none) else none
  | .ldc_w i => if n = 3 then (match own_look i ci with | some v => some { g with pc := g.pc + 3, stack := .int v :: g.stack } | none => none) else none
  | .ldc2_w i => if n = 3 then (match own_look i cl with | some v => some { g with pc := g.pc + 3, stack := .long v :: g.stack } | none => none) else none
  | .idiv => if n = 1 then (match g.stack with | .int y :: .int x :: rest => (if y = 0 then none else some { g with pc := g.pc + 1, stack := .int (x / y) :: rest }) | _ => none) else none
  | .irem => if n = 1 then (match g.stack with | .int y :: .int x :: rest => (if y = 0 then none else some { g with pc := g.pc + 1, stack := .int (x - (x / y) * y) :: rest }) | _ => none) else none
  | .ldiv => if n = 1 then (match g.stack with | .long y :: .long x :: rest => (if y = 0 then none else some { g with pc := g.pc + 1, stack := .long (x / y) :: rest }) | _ => none) else none
  | .lrem => if n = 1 then (match g.stack with | .long y :: .long x :: rest => (if y = 0 then none else some { g with pc := g.pc + 1, stack := .long (x - (x / y) * y) :: rest }) | _ => none) else none
  | _ => none
section OwnRun
variable {p : Program} {l : Launch} {e : Env} {R : Room} {s : State} {m : MethodId} {args : Array Value} {below : List Frame} {meth : Method} {c : Code} {T target : State} {locs : List Loc} {cells slots kc ks : Nat} {own : String} {ci : List (Nat × Int32)} {cl : List (Nat × Int64)} {Q : Option Value → Heap → List Loc → Prop}
set_option maxHeartbeats 4000000 in
theorem own_pstep_ok (X : Stand p l e R s m args below meth c T locs cells slots) (hx : p.tables.exec = Jvm.exec) (hown : s.vm.findClass own = some m.cls) (hci : ∀ i v, (i, v) ∈ ci → (Cond.constant own i v).before args s = true) (hcl : ∀ i v, (i, v) ∈ cl → (Cond.constantLong own i v).before args s = true)
    {g g' : JFrame} (hg : g.method = m) {i : Instr} {n : Nat} (hd : decode c.code g.pc = .ok (i, n)) (hp : own_pstep ci cl i n g = some g') : (∀ target, Steps p.tables e below (T.setTop g') target → Steps p.tables e below (T.setTop g) target) ∧ g'.method = m := by
  cases i
  all_goals first
    | (exact absurd hp (by intro q; cases q))
    | skip
  case iload_n k =>
    by_cases hn : n = 1
    · subst hn
      replace hp : (match g.locals[k.val]? with | some (.val (.int v)) => some { g with pc := g.pc + 1, stack := .int v :: g.stack } | _ => none) = some g' := hp
      split at hp
      · skip
        cases hp
        exact ⟨fun _ hr => XS.iloadN X.here hx hg hd (by assumption) hr, hg⟩
      · cases hp
    · exact absurd hp (by intro q; rw [show own_pstep ci cl (.iload_n k) n g = none from if_neg hn] at q; cases q)
  case iload k =>
    by_cases hn : n = 2
    · subst hn
      replace hp : (match g.locals[k]? with | some (.val (.int v)) => some { g with pc := g.pc + 2, stack := .int v :: g.stack } | _ => none) = some g' := hp
      split at hp
      · skip
        cases hp
        exact ⟨fun _ hr => XS.iload X.here hx hg hd (by assumption) hr, hg⟩
      · cases hp
    · exact absurd hp (by intro q; rw [show own_pstep ci cl (.iload k) n g = none from if_neg hn] at q; cases q)
  case lload_n k =>
    by_cases hn : n = 1
    · subst hn
      replace hp : (match g.locals[k.val]? with | some (.val (.long v)) => some { g with pc := g.pc + 1, stack := .long v :: g.stack } | _ => none) = some g' := hp
      split at hp
      · skip
        cases hp
        exact ⟨fun _ hr => XS.lloadN X.here hx hg hd (by assumption) hr, hg⟩
      · cases hp
    · exact absurd hp (by intro q; rw [show own_pstep ci cl (.lload_n k) n g = none from if_neg hn] at q; cases q)
  case lload k =>
    by_cases hn : n = 2
    · subst hn
      replace hp : (match g.locals[k]? with | some (.val (.long v)) => some { g with pc := g.pc + 2, stack := .long v :: g.stack } | _ => none) = some g' := hp
      split at hp
      · skip
        cases hp
        exact ⟨fun _ hr => XS.lload X.here hx hg hd (by assumption) hr, hg⟩
      · cases hp
    · exact absurd hp (by intro q; rw [show own_pstep ci cl (.lload k) n g = none from if_neg hn] at q; cases q)
  case aload_n k =>
    by_cases hn : n = 1
    · subst hn
      replace hp : (match g.locals[k.val]? with | some (.val v) => if v.isRef = true then some { g with pc := g.pc + 1, stack := v :: g.stack } else none | _ => none) = some g' := hp
      split at hp
      · skip
        split at hp
        · skip
          cases hp
          exact ⟨fun _ hr => XS.aloadN X.here hx hg hd (by assumption) (by assumption) hr, hg⟩
        · cases hp
      · cases hp
    · exact absurd hp (by intro q; rw [show own_pstep ci cl (.aload_n k) n g = none from if_neg hn] at q; cases q)
  case aload k =>
    by_cases hn : n = 2
    · subst hn
      replace hp : (match g.locals[k]? with | some (.val v) => if v.isRef = true then some { g with pc := g.pc + 2, stack := v :: g.stack } else none | _ => none) = some g' := hp
      split at hp
      · skip
        split at hp
        · skip
          cases hp
          exact ⟨fun _ hr => XS.aload X.here hx hg hd (by assumption) (by assumption) hr, hg⟩
        · cases hp
      · cases hp
    · exact absurd hp (by intro q; rw [show own_pstep ci cl (.aload k) n g = none from if_neg hn] at q; cases q)
  case istore_n k =>
    by_cases hn : n = 1
    · subst hn
      replace hp : (match g.stack with | .int x :: rest => (match storeLocals g.locals k.val (.int x) with | some l' => some { g with pc := g.pc + 1, stack := rest, locals := l' } | none => none) | _ => none) = some g' := hp
      split at hp
      · skip
        split at hp
        · skip
          cases hp
          exact ⟨fun _ hr => XS.istoreN X.here hx hg hd (by assumption) (by assumption) hr, hg⟩
        · cases hp
      · cases hp
    · exact absurd hp (by intro q; rw [show own_pstep ci cl (.istore_n k) n g = none from if_neg hn] at q; cases q)
  case istore k =>
    by_cases hn : n = 2
    · subst hn
      replace hp : (match g.stack with | .int x :: rest => (match storeLocals g.locals k (.int x) with | some l' => some { g with pc := g.pc + 2, stack := rest, locals := l' } | none => none) | _ => none) = some g' := hp
      split at hp
      · skip
        split at hp
        · skip
          cases hp
          exact ⟨fun _ hr => XS.istore X.here hx hg hd (by assumption) (by assumption) hr, hg⟩
        · cases hp
      · cases hp
    · exact absurd hp (by intro q; rw [show own_pstep ci cl (.istore k) n g = none from if_neg hn] at q; cases q)
  case lstore_n k =>
    by_cases hn : n = 1
    · subst hn
      replace hp : (match g.stack with | .long x :: rest => (match storeLocals g.locals k.val (.long x) with | some l' => some { g with pc := g.pc + 1, stack := rest, locals := l' } | none => none) | _ => none) = some g' := hp
      split at hp
      · skip
        split at hp
        · skip
          cases hp
          exact ⟨fun _ hr => XS.lstoreN X.here hx hg hd (by assumption) (by assumption) hr, hg⟩
        · cases hp
      · cases hp
    · exact absurd hp (by intro q; rw [show own_pstep ci cl (.lstore_n k) n g = none from if_neg hn] at q; cases q)
  case lstore k =>
    by_cases hn : n = 2
    · subst hn
      replace hp : (match g.stack with | .long x :: rest => (match storeLocals g.locals k (.long x) with | some l' => some { g with pc := g.pc + 2, stack := rest, locals := l' } | none => none) | _ => none) = some g' := hp
      split at hp
      · skip
        split at hp
        · skip
          cases hp
          exact ⟨fun _ hr => XS.lstore X.here hx hg hd (by assumption) (by assumption) hr, hg⟩
        · cases hp
      · cases hp
    · exact absurd hp (by intro q; rw [show own_pstep ci cl (.lstore k) n g = none from if_neg hn] at q; cases q)
  case astore_n k =>
    by_cases hn : n = 1
    · subst hn
      replace hp : (match g.stack with | x :: rest => (if x.isRef = true then (match storeLocals g.locals k.val x with | some l' => some { g with pc := g.pc + 1, stack := rest, locals := l' } | none => none) else none) | _ => none) = some g' := hp
      split at hp
      · skip
        split at hp
        · skip
          split at hp
          · skip
            cases hp
            exact ⟨fun _ hr => XS.astoreN X.here hx hg hd (by assumption) (by assumption) (by assumption) hr, hg⟩
          · cases hp
        · cases hp
      · cases hp
    · exact absurd hp (by intro q; rw [show own_pstep ci cl (.astore_n k) n g = none from if_neg hn] at q; cases q)
  case astore k =>
    by_cases hn : n = 2
    · subst hn
      replace hp : (match g.stack with | x :: rest => (if x.isRef = true then (match storeLocals g.locals k x with | some l' => some { g with pc := g.pc + 2, stack := rest, locals := l' } | none => none) else none) | _ => none) = some g' := hp
      split at hp
      · skip
        split at hp
        · skip
          split at hp
          · skip
            cases hp
            exact ⟨fun _ hr => XS.astore X.here hx hg hd (by assumption) (by assumption) (by assumption) hr, hg⟩
          · cases hp
        · cases hp
      · cases hp
    · exact absurd hp (by intro q; rw [show own_pstep ci cl (.astore k) n g = none from if_neg hn] at q; cases q)
  case iconst i =>
    by_cases hn : n = 1
    · subst hn
      replace hp : (some { g with pc := g.pc + 1, stack := .int (Int32.ofInt i) :: g.stack }) = some g' := hp
      cases hp
      exact ⟨fun _ hr => XS.iconst X.here hx hg hd hr, hg⟩
    · exact absurd hp (by intro q; rw [show own_pstep ci cl (.iconst i) n g = none from if_neg hn] at q; cases q)
  case bipush i =>
    by_cases hn : n = 2
    · subst hn
      replace hp : (some { g with pc := g.pc + 2, stack := .int (Int8.ofInt i).toInt32 :: g.stack }) = some g' := hp
      cases hp
      exact ⟨fun _ hr => XS.bipush X.here hx hg hd hr, hg⟩
    · exact absurd hp (by intro q; rw [show own_pstep ci cl (.bipush i) n g = none from if_neg hn] at q; cases q)
  case sipush i =>
    by_cases hn : n = 3
    · subst hn
      replace hp : (some { g with pc := g.pc + 3, stack := .int (Int16.ofInt i).toInt32 :: g.stack }) = some g' := hp
      cases hp
      exact ⟨fun _ hr => XS.sipush X.here hx hg hd hr, hg⟩
    · exact absurd hp (by intro q; rw [show own_pstep ci cl (.sipush i) n g = none from if_neg hn] at q; cases q)
  case lconst k =>
    by_cases hn : n = 1
    · subst hn
      replace hp : (some { g with pc := g.pc + 1, stack := .long (Int64.ofNat k) :: g.stack }) = some g' := hp
      cases hp
      exact ⟨fun _ hr => XS.lconst X.here hx hg hd hr, hg⟩
    · exact absurd hp (by intro q; rw [show own_pstep ci cl (.lconst k) n g = none from if_neg hn] at q; cases q)
  case aconst_null =>
    by_cases hn : n = 1
    · subst hn
      replace hp : (some { g with pc := g.pc + 1, stack := .null :: g.stack }) = some g' := hp
      cases hp
      exact ⟨fun _ hr => XS.aconstNull X.here hx hg hd hr, hg⟩
    · exact absurd hp (by intro q; rw [show own_pstep ci cl (.aconst_null) n g = none from if_neg hn] at q; cases q)
  case iadd =>
    by_cases hn : n = 1
    · subst hn
      replace hp : (match g.stack with | .int y :: .int x :: rest => some { g with pc := g.pc + 1, stack := .int (x + y) :: rest } | _ => none) = some g' := hp
      split at hp
      · skip
        cases hp
        exact ⟨fun _ hr => XS.iadd X.here hx hg hd (by assumption) hr, hg⟩
      · cases hp
    · exact absurd hp (by intro q; rw [show own_pstep ci cl (.iadd) n g = none from if_neg hn] at q; cases q)
  case ladd =>
    by_cases hn : n = 1
    · subst hn
      replace hp : (match g.stack with | .long y :: .long x :: rest => some { g with pc := g.pc + 1, stack := .long (x + y) :: rest } | _ => none) = some g' := hp
      split at hp
      · skip
        cases hp
        exact ⟨fun _ hr => XS.ladd X.here hx hg hd (by assumption) hr, hg⟩
      · cases hp
    · exact absurd hp (by intro q; rw [show own_pstep ci cl (.ladd) n g = none from if_neg hn] at q; cases q)
  case isub =>
    by_cases hn : n = 1
    · subst hn
      replace hp : (match g.stack with | .int y :: .int x :: rest => some { g with pc := g.pc + 1, stack := .int (x - y) :: rest } | _ => none) = some g' := hp
      split at hp
      · skip
        cases hp
        exact ⟨fun _ hr => XS.isub X.here hx hg hd (by assumption) hr, hg⟩
      · cases hp
    · exact absurd hp (by intro q; rw [show own_pstep ci cl (.isub) n g = none from if_neg hn] at q; cases q)
  case lsub =>
    by_cases hn : n = 1
    · subst hn
      replace hp : (match g.stack with | .long y :: .long x :: rest => some { g with pc := g.pc + 1, stack := .long (x - y) :: rest } | _ => none) = some g' := hp
      split at hp
      · skip
        cases hp
        exact ⟨fun _ hr => XS.lsub X.here hx hg hd (by assumption) hr, hg⟩
      · cases hp
    · exact absurd hp (by intro q; rw [show own_pstep ci cl (.lsub) n g = none from if_neg hn] at q; cases q)
  case imul =>
    by_cases hn : n = 1
    · subst hn
      replace hp : (match g.stack with | .int y :: .int x :: rest => some { g with pc := g.pc + 1, stack := .int (x * y) :: rest } | _ => none) = some g' := hp
      split at hp
      · skip
        cases hp
        exact ⟨fun _ hr => XS.imul X.here hx hg hd (by assumption) hr, hg⟩
      · cases hp
    · exact absurd hp (by intro q; rw [show own_pstep ci cl (.imul) n g = none from if_neg hn] at q; cases q)
  case lmul =>
    by_cases hn : n = 1
    · subst hn
      replace hp : (match g.stack with | .long y :: .long x :: rest => some { g with pc := g.pc + 1, stack := .long (x * y) :: rest } | _ => none) = some g' := hp
      split at hp
      · skip
        cases hp
        exact ⟨fun _ hr => XS.lmul X.here hx hg hd (by assumption) hr, hg⟩
      · cases hp
    · exact absurd hp (by intro q; rw [show own_pstep ci cl (.lmul) n g = none from if_neg hn] at q; cases q)
  case iand =>
    by_cases hn : n = 1
    · subst hn
      replace hp : (match g.stack with | .int y :: .int x :: rest => some { g with pc := g.pc + 1, stack := .int (x &&& y) :: rest } | _ => none) = some g' := hp
      split at hp
      · skip
        cases hp
        exact ⟨fun _ hr => XS.iand X.here hx hg hd (by assumption) hr, hg⟩
      · cases hp
    · exact absurd hp (by intro q; rw [show own_pstep ci cl (.iand) n g = none from if_neg hn] at q; cases q)
  case land =>
    by_cases hn : n = 1
    · subst hn
      replace hp : (match g.stack with | .long y :: .long x :: rest => some { g with pc := g.pc + 1, stack := .long (x &&& y) :: rest } | _ => none) = some g' := hp
      split at hp
      · skip
        cases hp
        exact ⟨fun _ hr => XS.land X.here hx hg hd (by assumption) hr, hg⟩
      · cases hp
    · exact absurd hp (by intro q; rw [show own_pstep ci cl (.land) n g = none from if_neg hn] at q; cases q)
  case ior =>
    by_cases hn : n = 1
    · subst hn
      replace hp : (match g.stack with | .int y :: .int x :: rest => some { g with pc := g.pc + 1, stack := .int (x ||| y) :: rest } | _ => none) = some g' := hp
      split at hp
      · skip
        cases hp
        exact ⟨fun _ hr => XS.ior X.here hx hg hd (by assumption) hr, hg⟩
      · cases hp
    · exact absurd hp (by intro q; rw [show own_pstep ci cl (.ior) n g = none from if_neg hn] at q; cases q)
  case lor =>
    by_cases hn : n = 1
    · subst hn
      replace hp : (match g.stack with | .long y :: .long x :: rest => some { g with pc := g.pc + 1, stack := .long (x ||| y) :: rest } | _ => none) = some g' := hp
      split at hp
      · skip
        cases hp
        exact ⟨fun _ hr => XS.lor X.here hx hg hd (by assumption) hr, hg⟩
      · cases hp
    · exact absurd hp (by intro q; rw [show own_pstep ci cl (.lor) n g = none from if_neg hn] at q; cases q)
  case ixor =>
    by_cases hn : n = 1
    · subst hn
      replace hp : (match g.stack with | .int y :: .int x :: rest => some { g with pc := g.pc + 1, stack := .int (x ^^^ y) :: rest } | _ => none) = some g' := hp
      split at hp
      · skip
        cases hp
        exact ⟨fun _ hr => XS.ixor X.here hx hg hd (by assumption) hr, hg⟩
      · cases hp
    · exact absurd hp (by intro q; rw [show own_pstep ci cl (.ixor) n g = none from if_neg hn] at q; cases q)
  case lxor =>
    by_cases hn : n = 1
    · subst hn
      replace hp : (match g.stack with | .long y :: .long x :: rest => some { g with pc := g.pc + 1, stack := .long (x ^^^ y) :: rest } | _ => none) = some g' := hp
      split at hp
      · skip
        cases hp
        exact ⟨fun _ hr => XS.lxor X.here hx hg hd (by assumption) hr, hg⟩
      · cases hp
    · exact absurd hp (by intro q; rw [show own_pstep ci cl (.lxor) n g = none from if_neg hn] at q; cases q)
  case ishl =>
    by_cases hn : n = 1
    · subst hn
      replace hp : (match g.stack with | .int y :: .int x :: rest => some { g with pc := g.pc + 1, stack := .int (x <<< (y &&& 31)) :: rest } | _ => none) = some g' := hp
      split at hp
      · skip
        cases hp
        exact ⟨fun _ hr => XS.ishl X.here hx hg hd (by assumption) hr, hg⟩
      · cases hp
    · exact absurd hp (by intro q; rw [show own_pstep ci cl (.ishl) n g = none from if_neg hn] at q; cases q)
  case ishr =>
    by_cases hn : n = 1
    · subst hn
      replace hp : (match g.stack with | .int y :: .int x :: rest => some { g with pc := g.pc + 1, stack := .int (x >>> (y &&& 31)) :: rest } | _ => none) = some g' := hp
      split at hp
      · skip
        cases hp
        exact ⟨fun _ hr => XS.ishr X.here hx hg hd (by assumption) hr, hg⟩
      · cases hp
    · exact absurd hp (by intro q; rw [show own_pstep ci cl (.ishr) n g = none from if_neg hn] at q; cases q)
  case iushr =>
    by_cases hn : n = 1
    · subst hn
      replace hp : (match g.stack with | .int y :: .int x :: rest => some { g with pc := g.pc + 1, stack := .int ((x.toUInt32 >>> (y &&& 31).toUInt32).toInt32) :: rest } | _ => none) = some g' := hp
      split at hp
      · skip
        cases hp
        exact ⟨fun _ hr => XS.iushr X.here hx hg hd (by assumption) hr, hg⟩
      · cases hp
    · exact absurd hp (by intro q; rw [show own_pstep ci cl (.iushr) n g = none from if_neg hn] at q; cases q)
  case lshl =>
    by_cases hn : n = 1
    · subst hn
      replace hp : (match g.stack with | .int y :: .long x :: rest => some { g with pc := g.pc + 1, stack := .long (x <<< (y &&& 0x3f).toInt64) :: rest } | _ => none) = some g' := hp
      split at hp
      · skip
        cases hp
        exact ⟨fun _ hr => XS.lshl X.here hx hg hd (by assumption) hr, hg⟩
      · cases hp
    · exact absurd hp (by intro q; rw [show own_pstep ci cl (.lshl) n g = none from if_neg hn] at q; cases q)
  case lshr =>
    by_cases hn : n = 1
    · subst hn
      replace hp : (match g.stack with | .int y :: .long x :: rest => some { g with pc := g.pc + 1, stack := .long (x >>> (y &&& 0x3f).toInt64) :: rest } | _ => none) = some g' := hp
      split at hp
      · skip
        cases hp
        exact ⟨fun _ hr => XS.lshr X.here hx hg hd (by assumption) hr, hg⟩
      · cases hp
    · exact absurd hp (by intro q; rw [show own_pstep ci cl (.lshr) n g = none from if_neg hn] at q; cases q)
  case lushr =>
    by_cases hn : n = 1
    · subst hn
      replace hp : (match g.stack with | .int y :: .long x :: rest => some { g with pc := g.pc + 1, stack := .long ((x.toUInt64 >>> (y &&& 0x3f).toInt64.toUInt64).toInt64) :: rest } | _ => none) = some g' := hp
      split at hp
      · skip
        cases hp
        exact ⟨fun _ hr => XS.lushr X.here hx hg hd (by assumption) hr, hg⟩
      · cases hp
    · exact absurd hp (by intro q; rw [show own_pstep ci cl (.lushr) n g = none from if_neg hn] at q; cases q)
  case lcmp =>
    by_cases hn : n = 1
    · subst hn
      replace hp : (match g.stack with | .long y :: .long x :: rest => some { g with pc := g.pc + 1, stack := .int (if x > y then 1 else if x = y then 0 else -1) :: rest } | _ => none) = some g' := hp
      split at hp
      · skip
        cases hp
        exact ⟨fun _ hr => XS.lcmp X.here hx hg hd (by assumption) hr, hg⟩
      · cases hp
    · exact absurd hp (by intro q; rw [show own_pstep ci cl (.lcmp) n g = none from if_neg hn] at q; cases q)
  case ineg =>
    by_cases hn : n = 1
    · subst hn
      replace hp : (match g.stack with | .int v :: rest => some { g with pc := g.pc + 1, stack := .int (-v) :: rest } | _ => none) = some g' := hp
      split at hp
      · skip
        cases hp
        exact ⟨fun _ hr => XS.ineg X.here hx hg hd (by assumption) hr, hg⟩
      · cases hp
    · exact absurd hp (by intro q; rw [show own_pstep ci cl (.ineg) n g = none from if_neg hn] at q; cases q)
  case lneg =>
    by_cases hn : n = 1
    · subst hn
      replace hp : (match g.stack with | .long v :: rest => some { g with pc := g.pc + 1, stack := .long (-v) :: rest } | _ => none) = some g' := hp
      split at hp
      · skip
        cases hp
        exact ⟨fun _ hr => XS.lneg X.here hx hg hd (by assumption) hr, hg⟩
      · cases hp
    · exact absurd hp (by intro q; rw [show own_pstep ci cl (.lneg) n g = none from if_neg hn] at q; cases q)
  case i2l =>
    by_cases hn : n = 1
    · subst hn
      replace hp : (match g.stack with | .int v :: rest => some { g with pc := g.pc + 1, stack := .long (v.toInt64) :: rest } | _ => none) = some g' := hp
      split at hp
      · skip
        cases hp
        exact ⟨fun _ hr => XS.i2l X.here hx hg hd (by assumption) hr, hg⟩
      · cases hp
    · exact absurd hp (by intro q; rw [show own_pstep ci cl (.i2l) n g = none from if_neg hn] at q; cases q)
  case l2i =>
    by_cases hn : n = 1
    · subst hn
      replace hp : (match g.stack with | .long v :: rest => some { g with pc := g.pc + 1, stack := .int (v.toInt32) :: rest } | _ => none) = some g' := hp
      split at hp
      · skip
        cases hp
        exact ⟨fun _ hr => XS.l2i X.here hx hg hd (by assumption) hr, hg⟩
      · cases hp
    · exact absurd hp (by intro q; rw [show own_pstep ci cl (.l2i) n g = none from if_neg hn] at q; cases q)
  case i2b =>
    by_cases hn : n = 1
    · subst hn
      replace hp : (match g.stack with | .int v :: rest => some { g with pc := g.pc + 1, stack := .int (v.toInt8.toInt32) :: rest } | _ => none) = some g' := hp
      split at hp
      · skip
        cases hp
        exact ⟨fun _ hr => XS.i2b X.here hx hg hd (by assumption) hr, hg⟩
      · cases hp
    · exact absurd hp (by intro q; rw [show own_pstep ci cl (.i2b) n g = none from if_neg hn] at q; cases q)
  case i2c =>
    by_cases hn : n = 1
    · subst hn
      replace hp : (match g.stack with | .int v :: rest => some { g with pc := g.pc + 1, stack := .int (v.toUInt32.toUInt16.toUInt32.toInt32) :: rest } | _ => none) = some g' := hp
      split at hp
      · skip
        cases hp
        exact ⟨fun _ hr => XS.i2c X.here hx hg hd (by assumption) hr, hg⟩
      · cases hp
    · exact absurd hp (by intro q; rw [show own_pstep ci cl (.i2c) n g = none from if_neg hn] at q; cases q)
  case i2s =>
    by_cases hn : n = 1
    · subst hn
      replace hp : (match g.stack with | .int v :: rest => some { g with pc := g.pc + 1, stack := .int (v.toInt16.toInt32) :: rest } | _ => none) = some g' := hp
      split at hp
      · skip
        cases hp
        exact ⟨fun _ hr => XS.i2s X.here hx hg hd (by assumption) hr, hg⟩
      · cases hp
    · exact absurd hp (by intro q; rw [show own_pstep ci cl (.i2s) n g = none from if_neg hn] at q; cases q)
  case iinc k cst =>
    by_cases hn : n = 3
    · subst hn
      replace hp : (match g.locals[k]? with | some (.val (.int x)) => (match storeLocals g.locals k (.int (x + Int32.ofInt cst)) with | some l' => some { g with pc := g.pc + 3, locals := l' } | none => none) | _ => none) = some g' := hp
      split at hp
      · skip
        split at hp
        · skip
          cases hp
          exact ⟨fun _ hr => XS.iinc X.here hx hg hd (by assumption) (by assumption) hr, hg⟩
        · cases hp
      · cases hp
    · exact absurd hp (by intro q; rw [show own_pstep ci cl (.iinc k cst) n g = none from if_neg hn] at q; cases q)
  case dup =>
    by_cases hn : n = 1
    · subst hn
      replace hp : (match g.stack with | x :: rest => (if x.category = 1 then some { g with pc := g.pc + 1, stack := x :: x :: rest } else none) | _ => none) = some g' := hp
      split at hp
      · skip
        split at hp
        · skip
          cases hp
          exact ⟨fun _ hr => XS.dup X.here hx hg hd (by assumption) (by assumption) hr, hg⟩
        · cases hp
      · cases hp
    · exact absurd hp (by intro q; rw [show own_pstep ci cl (.dup) n g = none from if_neg hn] at q; cases q)
  case pop =>
    by_cases hn : n = 1
    · subst hn
      replace hp : (match g.stack with | x :: rest => (if x.category = 1 then some { g with pc := g.pc + 1, stack := rest } else none) | _ => none) = some g' := hp
      split at hp
      · skip
        split at hp
        · skip
          cases hp
          exact ⟨fun _ hr => XS.pop X.here hx hg hd (by assumption) (by assumption) hr, hg⟩
        · cases hp
      · cases hp
    · exact absurd hp (by intro q; rw [show own_pstep ci cl (.pop) n g = none from if_neg hn] at q; cases q)
  case goto o =>
    by_cases hn : n = 3
    · subst hn
      replace hp : (if 0 ≤ (g.pc : Int) + o then some { g with pc := ((g.pc : Int) + o).toNat } else none) = some g' := hp
      split at hp
      · skip
        cases hp
        exact ⟨fun _ hr => XS.goto X.here hx hg rfl hd (by assumption) rfl hr, hg⟩
      · cases hp
    · exact absurd hp (by intro q; rw [show own_pstep ci cl (.goto o) n g = none from if_neg hn] at q; cases q)
  case ldc i =>
    by_cases hn : n = 2
    · subst hn
      replace hp : (match own_look i ci with | some v => some { g with pc := g.pc + 2, stack := .int v :: g.stack } | none => none) = some g' := hp
      split at hp
      · skip
        cases hp
        exact ⟨fun _ hr => X.ldcInt hx hown (hci _ _ (own_look_mem (by assumption))) hg hd _ hr, hg⟩
      · cases hp
    · exact absurd hp (by intro q; rw [show own_pstep ci cl (.ldc i) n g = none from if_neg hn] at q; cases q)
  case ldc_w i =>
    by_cases hn : n = 3
    · subst hn
      replace hp : (match own_look i ci with | some v => some { g with pc := g.pc + 3, stack := .int v :: g.stack } | none => none) = some g' := hp
      split at hp
      · skip
        cases hp
        exact ⟨fun _ hr => X.ldcwInt hx hown (hci _ _ (own_look_mem (by assumption))) hg hd _ hr, hg⟩
      · cases hp
    · exact absurd hp (by intro q; rw [show own_pstep ci cl (.ldc_w i) n g = none from if_neg hn] at q; cases q)
  case ldc2_w i =>
    by_cases hn : n = 3
    · subst hn
      replace hp : (match own_look i cl with | some v => some { g with pc := g.pc + 3, stack := .long v :: g.stack } | none => none) = some g' := hp
      split at hp
      · skip
        cases hp
        exact ⟨fun _ hr => X.ldc2Long hx hown (hcl _ _ (own_look_mem (by assumption))) hg hd _ hr, hg⟩
      · cases hp
    · exact absurd hp (by intro q; rw [show own_pstep ci cl (.ldc2_w i) n g = none from if_neg hn] at q; cases q)
  case idiv =>
    by_cases hn : n = 1
    · subst hn
      replace hp : (match g.stack with | .int y :: .int x :: rest => (if y = 0 then none else some { g with pc := g.pc + 1, stack := .int (x / y) :: rest }) | _ => none) = some g' := hp
      split at hp
      · skip
        split at hp
        · cases hp
        · cases hp; exact ⟨fun _ hr => XS.idiv X.here hx hg hd (by assumption) (by assumption) hr, hg⟩
      · cases hp
    · exact absurd hp (by intro q; rw [show own_pstep ci cl (.idiv) n g = none from if_neg hn] at q; cases q)
  case irem =>
    by_cases hn : n = 1
    · subst hn
      replace hp : (match g.stack with | .int y :: .int x :: rest => (if y = 0 then none else some { g with pc := g.pc + 1, stack := .int (x - (x / y) * y) :: rest }) | _ => none) = some g' := hp
      split at hp
      · skip
        split at hp
        · cases hp
        · cases hp; exact ⟨fun _ hr => XS.irem X.here hx hg hd (by assumption) (by assumption) hr, hg⟩
      · cases hp
    · exact absurd hp (by intro q; rw [show own_pstep ci cl (.irem) n g = none from if_neg hn] at q; cases q)
  case ldiv =>
    by_cases hn : n = 1
    · subst hn
      replace hp : (match g.stack with | .long y :: .long x :: rest => (if y = 0 then none else some { g with pc := g.pc + 1, stack := .long (x / y) :: rest }) | _ => none) = some g' := hp
      split at hp
      · skip
        split at hp
        · cases hp
        · cases hp; exact ⟨fun _ hr => XS.ldiv X.here hx hg hd (by assumption) (by assumption) hr, hg⟩
      · cases hp
    · exact absurd hp (by intro q; rw [show own_pstep ci cl (.ldiv) n g = none from if_neg hn] at q; cases q)
  case lrem =>
    by_cases hn : n = 1
    · subst hn
      replace hp : (match g.stack with | .long y :: .long x :: rest => (if y = 0 then none else some { g with pc := g.pc + 1, stack := .long (x - (x / y) * y) :: rest }) | _ => none) = some g' := hp
      split at hp
      · skip
        split at hp
        · cases hp
        · cases hp; exact ⟨fun _ hr => XS.lrem X.here hx hg hd (by assumption) (by assumption) hr, hg⟩
      · cases hp
    · exact absurd hp (by intro q; rw [show own_pstep ci cl (.lrem) n g = none from if_neg hn] at q; cases q)
def own_decs (code : ByteArray) (L : List (Nat × Instr × Nat)) : Bool := L.all fun q => decide (decode code q.1 = .ok (q.2.1, q.2.2))
def own_prun (ci : List (Nat × Int32)) (cl : List (Nat × Int64)) : List (Nat × Instr × Nat) → JFrame → Option JFrame
  | [], g => some g
  | (pc, i, n) :: r, g => if g.pc = pc then (match own_pstep ci cl i n g with | some g' => own_prun ci cl r g' | none => none) else none
theorem own_prun_ok (X : Stand p l e R s m args below meth c T locs cells slots) (hx : p.tables.exec = Jvm.exec) (hown : s.vm.findClass own = some m.cls) (hci : ∀ i v, (i, v) ∈ ci → (Cond.constant own i v).before args s = true) (hcl : ∀ i v, (i, v) ∈ cl → (Cond.constantLong own i v).before args s = true) {code : ByteArray} (hby : c.code = code) :
    ∀ (L : List (Nat × Instr × Nat)) (g g' : JFrame), g.method = m → own_decs code L = true → own_prun ci cl L g = some g' → Steps p.tables e below (T.setTop g') target → Steps p.tables e below (T.setTop g) target := by
  intro L
  induction L with
  | nil => intro g g' _ _ hp hr; cases hp; exact hr
  | cons q r ih =>
    intro g g' hg hd hp hr
    obtain ⟨pc, i, n⟩ := q
    have hd' : decide (decode code pc = .ok (i, n)) = true ∧ own_decs code r = true := by
      have : (decide (decode code pc = .ok (i, n)) && own_decs code r) = true := hd
      simpa using this
    replace hp : (if g.pc = pc then (match own_pstep ci cl i n g with | some g' => own_prun ci cl r g' | none => none) else none) = some g' := hp
    by_cases hpc : g.pc = pc
    · rw [if_pos hpc] at hp
      cases hs : own_pstep ci cl i n g with
      | none => rw [hs] at hp; cases hp
      | some g1 =>
        rw [hs] at hp
        have q := own_pstep_ok X hx hown hci hcl hg (i := i) (n := n) (by rw [hby, hpc]; exact of_decide_eq_true hd'.1) hs
        exact q.1 _ (ih g1 g' q.2 hd'.2 hp hr)
    · rw [if_neg hpc] at hp; cases hp
theorem Goes.run (X : Stand p l e R s m args below meth c T locs cells slots) (hx : p.tables.exec = Jvm.exec) (hown : s.vm.findClass own = some m.cls) (hci : ∀ i v, (i, v) ∈ ci → (Cond.constant own i v).before args s = true) (hcl : ∀ i v, (i, v) ∈ cl → (Cond.constantLong own i v).before args s = true) {code : ByteArray} (hby : c.code = code)
    {L : List (Nat × Instr × Nat)} (hd : own_decs code L = true) {g g' : JFrame} (hg : g.method = m) (hp : own_prun ci cl L g = some g') (h : Goes p e below s Q kc ks (T.setTop g')) : Goes p e below s Q kc ks (T.setTop g) :=
  Goes.st (fun _ k => own_prun_ok X hx hown hci hcl hby L g g' hg hd hp k) h
theorem own_ci0 {α : Type} {P : Nat → α → Prop} : ∀ i v, (i, v) ∈ ([] : List (Nat × α)) → P i v := fun _ _ q => nomatch q
theorem own_ciS {α : Type} {P : Nat → α → Prop} {j : Nat} {w : α} {L : List (Nat × α)} (h : P j w) (r : ∀ i v, (i, v) ∈ L → P i v) : ∀ i v, (i, v) ∈ (j, w) :: L → P i v := fun i v q => (List.mem_cons.mp q).elim (fun z => by cases z; exact h) (r i v)
end OwnRun
theorem own_rem32 (x y : Int32) : (x - (x / y) * y).toInt = x.toInt.tmod y.toInt := by
  have a := (x % y).toInt_lt; have b := (x % y).le_toInt
  rw [Int32.toInt_mod] at a b
  rw [Int32.toInt_sub, Int32.toInt_mul, Int32.toInt_div, Int.bmod_mul_bmod, Int.sub_bmod_bmod, Int.mul_comm, ← Int.tmod_def]
  exact Jvm.Kit.bmod32 b a
section OwnNums
variable {x y : Int64} {u v : Int32} {a b : Int}
theorem own_r32 (hx : u.toInt = a) (hy : v.toInt = b) (h0 : 0 ≤ a) : (u - (u / v) * v).toInt = a % b := by subst hx hy; rw [own_rem32, Int.tmod_eq_emod_of_nonneg h0]
theorem own_r64 (hx : x.toInt = a) (hy : y.toInt = b) (h0 : 0 ≤ a) : (x - (x / y) * y).toInt = a % b := by subst hx hy; rw [Jvm.Kit.i64_rem, Int.tmod_eq_emod_of_nonneg h0]
theorem own_mul64 (hx : x.toInt = a) (hy : y.toInt = b) (h1 : -2 ^ 63 ≤ a * b) (h2 : a * b < 2 ^ 63) : (x * y).toInt = a * b := by subst hx hy; exact Jvm.Kit.i64_mul h1 h2
theorem own_mul32 (hx : u.toInt = a) (hy : v.toInt = b) (h1 : -2 ^ 31 ≤ a * b) (h2 : a * b < 2 ^ 31) : (u * v).toInt = a * b := by subst hx hy; exact Jvm.Kit.i32_mul h1 h2
theorem own_add64 (hx : x.toInt = a) (hy : y.toInt = b) (h1 : -2 ^ 63 ≤ a + b) (h2 : a + b < 2 ^ 63) : (x + y).toInt = a + b := by subst hx hy; exact Jvm.Kit.i64_add h1 h2
theorem own_add32 (hx : u.toInt = a) (hy : v.toInt = b) (h1 : -2 ^ 31 ≤ a + b) (h2 : a + b < 2 ^ 31) : (u + v).toInt = a + b := by subst hx hy; exact Jvm.Kit.i32_add h1 h2
theorem own_sub64 (hx : x.toInt = a) (hy : y.toInt = b) (h1 : -2 ^ 63 ≤ a - b) (h2 : a - b < 2 ^ 63) : (x - y).toInt = a - b := by subst hx hy; exact Jvm.Kit.i64_sub h1 h2
theorem own_sub32 (hx : u.toInt = a) (hy : v.toInt = b) (h1 : -2 ^ 31 ≤ a - b) (h2 : a - b < 2 ^ 31) : (u - v).toInt = a - b := by subst hx hy; exact Jvm.Kit.i32_sub h1 h2
theorem own_i2l (hx : u.toInt = a) : u.toInt64.toInt = a := by subst hx; exact Jvm.Kit.i64_of_i32 u
theorem own_lt64 (hx : x.toInt = a) (hy : y.toInt = b) : x < y ↔ a < b := by rw [Int64.lt_iff_toInt_lt, hx, hy]
theorem own_lt32 (hx : u.toInt = a) (hy : v.toInt = b) : u < v ↔ a < b := by rw [Int32.lt_iff_toInt_lt, hx, hy]
theorem own_eq64 (hx : x.toInt = a) (hy : y.toInt = b) : x = y ↔ a = b := by rw [← Int64.toInt_inj, hx, hy]
theorem own_eq32 (hx : u.toInt = a) (hy : v.toInt = b) : u = v ↔ a = b := by rw [← Int32.toInt_inj, hx, hy]
theorem own_m32 (u : Int32) (m : Int32) {k : Nat} (hk : k < 32) (hm : m.toBitVec.toNat = 2 ^ k - 1) : ∃ a : Int, (u &&& m).toInt = a ∧ 0 ≤ a ∧ a < 2 ^ k ∧ a = u.toInt % 2 ^ k := by
  refine ⟨_, Jvm.Kit.i32_mask u m hk hm, Int.emod_nonneg _ (Int.ne_of_gt (Int.pow_pos (by decide))), Int.emod_lt_of_pos _ (Int.pow_pos (by decide)), rfl⟩
theorem own_m64 (x : Int64) (m : Int64) {k : Nat} (hk : k < 64) (hm : m.toBitVec.toNat = 2 ^ k - 1) : ∃ a : Int, (x &&& m).toInt = a ∧ 0 ≤ a ∧ a < 2 ^ k ∧ a = x.toInt % 2 ^ k := by
  refine ⟨_, Jvm.Kit.i64_mask x m hk hm, Int.emod_nonneg _ (Int.ne_of_gt (Int.pow_pos (by decide))), Int.emod_lt_of_pos _ (Int.pow_pos (by decide)), rfl⟩
theorem own_nm {P : Int → Prop} {z : Int} (h : P z) : ∃ a, a = z ∧ P a := ⟨z, rfl, h⟩
end OwnNums
theorem own_nat32 {u : Int32} {a : Int} (hu : u.toInt = a) (h0 : 0 ≤ a) {N : Nat} (h1 : a < N) : ∃ n : Nat, n < N ∧ u = Int32.ofNat n ∧ a = (n : Int) := by
  have q := u.toInt_lt
  refine ⟨a.toNat, by omega, ?_, by omega⟩
  apply Int32.toInt_inj.mp
  rw [Int32.toInt_ofNat_of_lt (by omega), hu]; omega
theorem own_bv64 {x : Int64} {a : Int} (hx : x.toInt = a) (h0 : 0 ≤ a) : (x.toBitVec.toNat : Int) = a := by
  have e : x.toInt = x.toBitVec.toInt := rfl
  have hb := x.toBitVec.isLt
  rw [e, BitVec.toInt_eq_toNat_cond] at hx
  split at hx <;> omega
theorem own_bv32 {x : Int32} {a : Int} (hx : x.toInt = a) (h0 : 0 ≤ a) : (x.toBitVec.toNat : Int) = a := by
  have e : x.toInt = x.toBitVec.toInt := rfl
  have hb := x.toBitVec.isLt
  rw [e, BitVec.toInt_eq_toNat_cond] at hx
  split at hx <;> omega
theorem own_shn (y : Int32) : ((y &&& 0x3f).toInt64.toUInt64).toNat < 64 := by
  obtain ⟨a, h1, h2, h3, -⟩ := own_m32 y (0x3f : Int32) (k := 6) (by decide) (by decide)
  have h4 := own_bv64 (own_i2l h1) h2
  have e : ((y &&& 0x3f).toInt64.toUInt64).toNat = (y &&& 0x3f).toInt64.toBitVec.toNat := rfl
  rw [e]
  omega
theorem own_ushr0 {x : Int64} {a : Int} (hx : x.toInt = a) (h0 : 0 ≤ a) (y : Int32) : ∃ b : Int, ((x.toUInt64 >>> (y &&& 0x3f).toInt64.toUInt64).toInt64).toInt = b ∧ 0 ≤ b ∧ b ≤ a := by
  refine ⟨_, Jvm.Kit.i64_lushr (by rw [Jvm.Kit.i64_nonneg, hx]; exact h0) rfl (own_shn y), ?_, ?_⟩
  · rw [hx]; exact Int.ediv_nonneg h0 (Int.le_of_lt (Int.pow_pos (by decide)))
  · rw [hx]; exact Int.ediv_le_self _ h0
theorem own_ushrk {x : Int64} {a : Int} (hx : x.toInt = a) (h0 : 0 ≤ a) {n : UInt64} {k : Nat} (hn : n.toNat = k) (hk : k < 64) {d : Int} (hd : (2 : Int) ^ k = d) : ((x.toUInt64 >>> n).toInt64).toInt = a / d := by
  rw [Jvm.Kit.i64_lushr (by rw [Jvm.Kit.i64_nonneg, hx]; exact h0) hn hk, hx, hd]
theorem own_ofbv32 {x : Int32} (h : x.toBitVec.toNat < 2 ^ 31) : x.toInt = (x.toBitVec.toNat : Int) := by
  have e : x.toInt = x.toBitVec.toInt := rfl
  rw [e, BitVec.toInt_eq_toNat_cond, if_pos (by omega)]
theorem own_xor32 {x y : Int32} {a b : Int} (hx : x.toInt = a) (hy : y.toInt = b) (h0 : 0 ≤ a) (h1 : 0 ≤ b) : ∃ c : Int, (x ^^^ y).toInt = c ∧ 0 ≤ c := by
  have p := own_bv32 hx h0; have q := own_bv32 hy h1
  have r := x.toInt_lt; have s := y.toInt_lt
  have e : (x ^^^ y).toBitVec.toNat = x.toBitVec.toNat ^^^ y.toBitVec.toNat := by simp [Int32.toBitVec_xor, BitVec.toNat_xor]
  have l : (x ^^^ y).toBitVec.toNat < 2 ^ 31 := by rw [e]; exact Nat.xor_lt_two_pow (by omega) (by omega)
  exact ⟨_, own_ofbv32 l, Int.natCast_nonneg _⟩
theorem d1_0 : decode prog_90_method_1_code 0 = .ok (.aload_n 0, 1) := by decide +kernel
theorem d1_1 : decode prog_90_method_1_code 1 = .ok (.invokespecial 1, 3) := by decide +kernel
theorem d1_4 : decode prog_90_method_1_code 4 = .ok (.iload_n 1, 1) := by decide +kernel
theorem d1_5 : decode prog_90_method_1_code 5 = .ok (.ifCond .lt 7, 3) := by decide +kernel
theorem d1_8 : decode prog_90_method_1_code 8 = .ok (.iload_n 2, 1) := by decide +kernel
theorem d1_9 : decode prog_90_method_1_code 9 = .ok (.ifCond .ge 18, 3) := by decide +kernel
theorem d1_27 : decode prog_90_method_1_code 27 = .ok (.aload_n 0, 1) := by decide +kernel
theorem d1_28 : decode prog_90_method_1_code 28 = .ok (.iload_n 1, 1) := by decide +kernel
theorem d1_29 : decode prog_90_method_1_code 29 = .ok (.putfield 16, 3) := by decide +kernel
theorem d1_32 : decode prog_90_method_1_code 32 = .ok (.aload_n 0, 1) := by decide +kernel
theorem d1_33 : decode prog_90_method_1_code 33 = .ok (.iload_n 2, 1) := by decide +kernel
theorem d1_34 : decode prog_90_method_1_code 34 = .ok (.putfield 22, 3) := by decide +kernel
theorem d1_37 : decode prog_90_method_1_code 37 = .ok (.return_, 1) := by decide +kernel
theorem pn1 : plainName "com/example/mahnwerk/mahnwerk/model/Suspension" = true := by first | (simp [plainName, overriddenIn]; done) | decide +kernel
theorem ef1 (m : MethodId) (x0 : Addr) (x1 : Int32) (x2 : Int32) : entryFrame m #[(.ref x0), (.int x1), (.int x2)] 3 = (mkF m 0 #[.val (.ref x0), .val (.int x1), .val (.int x2)] []) := by first | (simp [entryFrame, mkF, argsToLocals, Value.category]; done) | rfl
def Q1 (Z : State) (x0 : Addr) (x1 : Int32) (x2 : Int32) (h0 : Heap) (n0 : Nat) (v : Option Value) (h : Heap) (L : List Loc) : Prop := v = none ∧ Fr n0 L ∧ Keep h0 h [x0] ∧ Exa Z h x0 "com/example/mahnwerk/mahnwerk/model/Suspension" ∧ Fld Z h x0 "com/example/mahnwerk/mahnwerk/model/Suspension" "level" "I" (.int x1) ∧ Fld Z h x0 "com/example/mahnwerk/mahnwerk/model/Suspension" "daysOverdue" "I" (.int x2)
set_option maxRecDepth 65536 in
set_option maxHeartbeats 40000000 in
theorem rm1 (l : Launch) (Z : State) (a0 : Array Value) (hw : ∀ d ∈ tables_1, d.before a0 Z = true) (ws : List Jvm.Cond) (x0 : Addr) (x1 : Int32) (x2 : Int32) (h0 : Heap) (n0 : Nat) (Z0 : n0 ≤ h0.size) (E_x0 : Exa Z h0 x0 "com/example/mahnwerk/mahnwerk/model/Suspension") (F_level_x0 : Fld Z h0 x0 "com/example/mahnwerk/mahnwerk/model/Suspension" "level" "I" (.int (0 : Int32))) (F_daysOverdue_x0 : Fld Z h0 x0 "com/example/mahnwerk/mahnwerk/model/Suspension" "daysOverdue" "I" (.int (0 : Int32))) (g_x0 : n0 ≤ x0) (p1 : ¬ (x1 < (0 : Int32))) (p2 : ¬ (x2 < (0 : Int32))) :
    MetFree l (⟨"com/example/mahnwerk/mahnwerk/model/Suspension", "<init>", "(II)V"⟩ : MethodName) (head1 (Jvm.Cond.code (⟨"com/example/mahnwerk/mahnwerk/model/Suspension", "<init>", "(II)V"⟩ : MethodName) prog_90_method_1_code 3 none :: ws) ({ frames := 1, cells := 0, slots := 0, locals := 12 } : Room)) (fun a U => a = #[(.ref x0), (.int x1), (.int x2)] ∧ Z.Warmed39 U.vm ∧ U.heap = h0) (fun _ _ _ _ _ => True) (fun _ U o U' => ∃ v L, o = .returned v ∧ (Q1 Z x0 x1 x2 h0 n0) v U'.heap L ∧ FrameEnd U o U' L ({ frames := 1, cells := 0, slots := 0, locals := 12 } : Room).cells ({ frames := 1, cells := 0, slots := 0, locals := 12 } : Room).slots) := by
  refine MetFree.of_bodySF (plainFor_of_name pn1) hisR ?_
  intro p e s m args below meth c s₁ Bd hml0 hP hK
  obtain ⟨rfl, hZ, hh⟩ := hP
  have hx := Bd.exec
  have hby := Bd.bytes
  have hml : c.maxLocals = 3 := hml0
  have hlk : meth.locks = false := BodyLoose.notSynchronized Bd
  have hown : s.vm.findClass "com/example/mahnwerk/mahnwerk/model/Suspension" = some m.cls := findClass_of_methodNamed Bd.named
  have hnm := (name_of_methodNamed Bd.named Bd.method).1
  have hci : ∀ i v, (i, v) ∈ ([] : List (Nat × Int32)) → (Jvm.Cond.constant "com/example/mahnwerk/mahnwerk/model/Suspension" i v).before #[(.ref x0), (.int x1), (.int x2)] s = true := own_ci0
  have hcl : ∀ i v, (i, v) ∈ ([] : List (Nat × Int64)) → (Jvm.Cond.constantLong "com/example/mahnwerk/mahnwerk/model/Suspension" i v).before #[(.ref x0), (.int x1), (.int x2)] s = true := own_ci0
  have X0 : Stand p l e ({ frames := 1, cells := 0, slots := 0, locals := 12 } : Room) s m #[(.ref x0), (.int x1), (.int x2)] below meth c s₁ [] 0 0 := Stand.of_body Bd
  have e0 : s₁.heap = h0 := by rw [← hh, Bd.state]; rfl
  have N0 := Fr.nil n0
  show Goes p e below s (Q1 Z x0 x1 x2 h0 n0) ({ frames := 1, cells := 0, slots := 0, locals := 12 } : Room).cells ({ frames := 1, cells := 0, slots := 0, locals := 12 } : Room).slots (s₁.setTop (entryFrame m #[(.ref x0), (.int x1), (.int x2)] 3))
  refine Goes.cast (ef1 m x0 x1 x2) ?_
  have K0 : Keep h0 h0 [x0] := Keep.refl h0 _
  refine Goes.run X0 hx hown hci hcl hby (L := [(0, .aload_n 0, 1)]) (by decide +kernel) rfl (g' := (mkF m 1 #[.val (.ref x0), .val (.int x1), .val (.int x2)] [(.ref x0)])) rfl ?_
  obtain ⟨T1, X1, e1, st1⟩ := initO X0 hx hZ hown (hw _ (List.mem_of_getElem? (i := 7) rfl)) (hw _ (List.mem_of_getElem? (i := 8) rfl)) (hw _ (List.mem_of_getElem? (i := 9) rfl)) e0 (g := (mkF m 1 #[.val (.ref x0), .val (.int x1), .val (.int x2)] [(.ref x0)])) rfl (by rw [hml]; rfl) rfl (hb hby d1_1) (by decide) (W := 0) (by show 2 * 0 + _ ≤ _; exact Nat.le_of_eq rfl) (by decide)
  refine Goes.st (B := T1.setTop (mkF m 4 #[.val (.ref x0), .val (.int x1), .val (.int x2)] [])) st1 ?_
  refine Goes.run X1 hx hown hci hcl hby (L := [(4, .iload_n 1, 1)]) (by decide +kernel) rfl (g' := (mkF m 5 #[.val (.ref x0), .val (.int x1), .val (.int x2)] [(.int x1)])) rfl ?_
  have hc5_2 : ¬ (x1 < (0 : Int32)) := p1
  refine Goes.st (B := T1.setTop (mkF m 8 #[.val (.ref x0), .val (.int x1), .val (.int x2)] [])) (fun t k => ?_) ?_
  · refine XS.ifNo X1.here hx rfl (hb hby d1_5) rfl ((if0 _ _).trans (flt hc5_2).1) ?_
    exact k
  refine Goes.run X1 hx hown hci hcl hby (L := [(8, .iload_n 2, 1)]) (by decide +kernel) rfl (g' := (mkF m 9 #[.val (.ref x0), .val (.int x1), .val (.int x2)] [(.int x2)])) rfl ?_
  have hc9_3 : ¬ (x2 < (0 : Int32)) := p2
  refine Goes.st (B := T1.setTop (mkF m 27 #[.val (.ref x0), .val (.int x1), .val (.int x2)] [])) (fun t k => ?_) ?_
  · refine XS.ifYes X1.here hx rfl (pc0 := 9) (pc' := 27) rfl (hb hby d1_9) rfl ((if0 _ _).trans (flt hc9_3).2.1) (by decide) (by decide) ?_
    exact k
  refine Goes.run X1 hx hown hci hcl hby (L := [(27, .aload_n 0, 1), (28, .iload_n 1, 1)]) (by decide +kernel) rfl (g' := (mkF m 29 #[.val (.ref x0), .val (.int x1), .val (.int x2)] [(.int x1), (.ref x0)])) rfl ?_
  obtain ⟨T4, h4, X4, e4, W4, st4⟩ := putF X1 hx hZ hown (host := "") (Or.inl (hw _ (List.mem_of_getElem? (i := 10) rfl))) Via.refl e1 F_level_x0 E_x0 (Or.inr ⟨(hw _ (List.mem_of_getElem? (i := 11) rfl)), rfl, hnm⟩) (hw _ (List.mem_of_getElem? (i := 2) rfl)) (ty := .int) (by decide) rfl rfl (g := (mkF m 29 #[.val (.ref x0), .val (.int x1), .val (.int x2)] [(.int x1), (.ref x0)])) rfl rfl (hb hby d1_29)
  have E_x0 := E_x0.wr W4
  have F_level_x0 : Fld Z h4 x0 "com/example/mahnwerk/mahnwerk/model/Suspension" "level" "I" (.int x1) := F_level_x0.same W4
  have F_daysOverdue_x0 := F_daysOverdue_x0.other W4 (Or.inr (slot_ne (Or.inr (hw _ (List.mem_of_getElem? (i := 13) rfl))) (Or.inr (hw _ (List.mem_of_getElem? (i := 11) rfl))) (by decide) (t := .int) (t' := .int) (by decide) (by decide)))
  have Zn4 : n0 ≤ h4.size := Nat.le_trans Z0 (Keep.of_wr W4).1
  have K4 := K0.wr W4 (Or.inl (List.mem_of_getElem? (i := 0) rfl))
  have N4 := Fr.snoc X4 N0 g_x0
  refine Goes.st (B := T4.setTop (mkF m 32 #[.val (.ref x0), .val (.int x1), .val (.int x2)] [])) st4 ?_
  refine Goes.run X4 hx hown hci hcl hby (L := [(32, .aload_n 0, 1), (33, .iload_n 2, 1)]) (by decide +kernel) rfl (g' := (mkF m 34 #[.val (.ref x0), .val (.int x1), .val (.int x2)] [(.int x2), (.ref x0)])) rfl ?_
  obtain ⟨T5, h5, X5, e5, W5, st5⟩ := putF X4 hx hZ hown (host := "") (Or.inl (hw _ (List.mem_of_getElem? (i := 12) rfl))) Via.refl e4 F_daysOverdue_x0 E_x0 (Or.inr ⟨(hw _ (List.mem_of_getElem? (i := 13) rfl)), rfl, hnm⟩) (hw _ (List.mem_of_getElem? (i := 2) rfl)) (ty := .int) (by decide) rfl rfl (g := (mkF m 34 #[.val (.ref x0), .val (.int x1), .val (.int x2)] [(.int x2), (.ref x0)])) rfl rfl (hb hby d1_34)
  have E_x0 := E_x0.wr W5
  have F_level_x0 := F_level_x0.other W5 (Or.inr (slot_ne (Or.inr (hw _ (List.mem_of_getElem? (i := 11) rfl))) (Or.inr (hw _ (List.mem_of_getElem? (i := 13) rfl))) (by decide) (t := .int) (t' := .int) (by decide) (by decide)))
  have F_daysOverdue_x0 : Fld Z h5 x0 "com/example/mahnwerk/mahnwerk/model/Suspension" "daysOverdue" "I" (.int x2) := F_daysOverdue_x0.same W5
  have Zn5 : n0 ≤ h5.size := Nat.le_trans Zn4 (Keep.of_wr W5).1
  have K5 := K4.wr W5 (Or.inl (List.mem_of_getElem? (i := 0) rfl))
  have N5 := Fr.snoc X5 N4 g_x0
  refine Goes.st (B := T5.setTop (mkF m 37 #[.val (.ref x0), .val (.int x1), .val (.int x2)] [])) st5 ?_
  refine Goes.retV X5 hx hlk Bd.returns (hb hby d1_37) ?_ (by decide) (by decide)
  show (Q1 Z x0 x1 x2 h0 n0) _ _ _
  rw [e5]
  exact ⟨rfl, N5, K5, E_x0, F_level_x0, F_daysOverdue_x0⟩
theorem d2_0 : decode prog_90_method_6_code 0 = .ok (.aload_n 0, 1) := by decide +kernel
theorem d2_1 : decode prog_90_method_6_code 1 = .ok (.getfield 22, 3) := by decide +kernel
theorem d2_4 : decode prog_90_method_6_code 4 = .ok (.ifCond .le 17, 3) := by decide +kernel
theorem d2_7 : decode prog_90_method_6_code 7 = .ok (.lload_n 1, 1) := by decide +kernel
theorem d2_8 : decode prog_90_method_6_code 8 = .ok (.aload_n 0, 1) := by decide +kernel
theorem d2_9 : decode prog_90_method_6_code 9 = .ok (.getfield 22, 3) := by decide +kernel
theorem d2_12 : decode prog_90_method_6_code 12 = .ok (.i2l, 1) := by decide +kernel
theorem d2_13 : decode prog_90_method_6_code 13 = .ok (.lcmp, 1) := by decide +kernel
theorem d2_14 : decode prog_90_method_6_code 14 = .ok (.ifCond .lt 7, 3) := by decide +kernel
theorem d2_17 : decode prog_90_method_6_code 17 = .ok (.iconst 1, 1) := by decide +kernel
theorem d2_18 : decode prog_90_method_6_code 18 = .ok (.goto 4, 3) := by decide +kernel
theorem d2_21 : decode prog_90_method_6_code 21 = .ok (.iconst 0, 1) := by decide +kernel
theorem d2_22 : decode prog_90_method_6_code 22 = .ok (.ireturn, 1) := by decide +kernel
theorem pn2 : plainName "com/example/mahnwerk/mahnwerk/model/Suspension" = true := by first | (simp [plainName, overriddenIn]; done) | decide +kernel
theorem ef2 (m : MethodId) (x0 : Addr) (x1 : Int64) : entryFrame m #[(.ref x0), (.long x1)] 3 = (mkF m 0 #[.val (.ref x0), .val (.long x1), .second] []) := by first | (simp [entryFrame, mkF, argsToLocals, Value.category]; done) | rfl
def r2 (x1 : Int64) (w : Int32) : Int32 := (if (0 : Int32) < w then (if x1 < (w.toInt64) then (0 : Int32) else (1 : Int32)) else (0 : Int32))
set_option maxRecDepth 65536 in
set_option maxHeartbeats 40000000 in
theorem rm2 (l : Launch) (Z : State) (a0 : Array Value) (hw : ∀ d ∈ tables_1, d.before a0 Z = true) (ws : List Jvm.Cond) (x0 : Addr) (x1 : Int64) (w : Int32) (h0 : Heap) (n0 : Nat) (Z0 : n0 ≤ h0.size) (F_daysOverdue_x0 : Fld Z h0 x0 "com/example/mahnwerk/mahnwerk/model/Suspension" "daysOverdue" "I" (.int w)) :
    MetFree l (⟨"com/example/mahnwerk/mahnwerk/model/Suspension", "byDaysOverdue", "(J)Z"⟩ : MethodName) (head1 (Jvm.Cond.code (⟨"com/example/mahnwerk/mahnwerk/model/Suspension", "byDaysOverdue", "(J)Z"⟩ : MethodName) prog_90_method_6_code 3 (some .boolean) :: ws) ({ frames := 0, cells := 0, slots := 0, locals := 0 } : Room)) (fun a U => a = #[(.ref x0), (.long x1)] ∧ Z.Warmed39 U.vm ∧ U.heap = h0) (fun _ _ _ _ _ => True) (fun _ U o U' => ∃ v L, o = .returned v ∧ (QP (some (.int (r2 x1 w))) h0 n0) v U'.heap L ∧ FrameEnd U o U' L ({ frames := 0, cells := 0, slots := 0, locals := 0 } : Room).cells ({ frames := 0, cells := 0, slots := 0, locals := 0 } : Room).slots) := by
  refine MetFree.of_bodySF (plainFor_of_name pn2) hisR ?_
  intro p e s m args below meth c s₁ Bd hml0 hP hK
  obtain ⟨rfl, hZ, hh⟩ := hP
  have hx := Bd.exec
  have hby := Bd.bytes
  have hml : c.maxLocals = 3 := hml0
  have hlk : meth.locks = false := BodyLoose.notSynchronized Bd
  have hown : s.vm.findClass "com/example/mahnwerk/mahnwerk/model/Suspension" = some m.cls := findClass_of_methodNamed Bd.named
  have hnm := (name_of_methodNamed Bd.named Bd.method).1
  have hci : ∀ i v, (i, v) ∈ ([] : List (Nat × Int32)) → (Jvm.Cond.constant "com/example/mahnwerk/mahnwerk/model/Suspension" i v).before #[(.ref x0), (.long x1)] s = true := own_ci0
  have hcl : ∀ i v, (i, v) ∈ ([] : List (Nat × Int64)) → (Jvm.Cond.constantLong "com/example/mahnwerk/mahnwerk/model/Suspension" i v).before #[(.ref x0), (.long x1)] s = true := own_ci0
  have X0 : Stand p l e ({ frames := 0, cells := 0, slots := 0, locals := 0 } : Room) s m #[(.ref x0), (.long x1)] below meth c s₁ [] 0 0 := Stand.of_body Bd
  have e0 : s₁.heap = h0 := by rw [← hh, Bd.state]; rfl
  have N0 := Fr.nil n0
  show Goes p e below s (QP (some (.int (r2 x1 w))) h0 n0) ({ frames := 0, cells := 0, slots := 0, locals := 0 } : Room).cells ({ frames := 0, cells := 0, slots := 0, locals := 0 } : Room).slots (s₁.setTop (entryFrame m #[(.ref x0), (.long x1)] 3))
  refine Goes.cast (ef2 m x0 x1) ?_
  refine Goes.run X0 hx hown hci hcl hby (L := [(0, .aload_n 0, 1)]) (by decide +kernel) rfl (g' := (mkF m 1 #[.val (.ref x0), .val (.long x1), .second] [(.ref x0)])) rfl ?_
  obtain ⟨T1, X1, e1, st1⟩ := getF X0 hx hZ hown (host := "") (Or.inl (hw _ (List.mem_of_getElem? (i := 12) rfl))) Via.refl e0 F_daysOverdue_x0 (g := (mkF m 1 #[.val (.ref x0), .val (.long x1), .second] [(.ref x0)])) rfl rfl (hb hby d2_1)
  refine Goes.st (B := T1.setTop (mkF m 4 #[.val (.ref x0), .val (.long x1), .second] [(.int w)])) st1 ?_
  by_cases hc4_2 : (0 : Int32) < w
  · skip
    refine Goes.st (B := T1.setTop (mkF m 7 #[.val (.ref x0), .val (.long x1), .second] [])) (fun t k => ?_) ?_
    · refine XS.ifNo X1.here hx rfl (hb hby d2_4) rfl ((if0 _ _).trans (tlt hc4_2).2.2.2) ?_
      exact k
    refine Goes.run X1 hx hown hci hcl hby (L := [(7, .lload_n 1, 1), (8, .aload_n 0, 1)]) (by decide +kernel) rfl (g' := (mkF m 9 #[.val (.ref x0), .val (.long x1), .second] [(.ref x0), (.long x1)])) rfl ?_
    obtain ⟨T3, X3, e3, st3⟩ := getF X1 hx hZ hown (host := "") (Or.inl (hw _ (List.mem_of_getElem? (i := 12) rfl))) Via.refl e1 F_daysOverdue_x0 (g := (mkF m 9 #[.val (.ref x0), .val (.long x1), .second] [(.ref x0), (.long x1)])) rfl rfl (hb hby d2_9)
    refine Goes.st (B := T3.setTop (mkF m 12 #[.val (.ref x0), .val (.long x1), .second] [(.int w), (.long x1)])) st3 ?_
    refine Goes.run X3 hx hown hci hcl hby (L := [(12, .i2l, 1), (13, .lcmp, 1)]) (by decide +kernel) rfl (g' := (mkF m 14 #[.val (.ref x0), .val (.long x1), .second] [(.int (lcmpW x1 (w.toInt64)))])) rfl ?_
    by_cases hc14_4 : x1 < (w.toInt64)
    · skip
      refine Goes.st (B := T3.setTop (mkF m 21 #[.val (.ref x0), .val (.long x1), .second] [])) (fun t k => ?_) ?_
      · refine XS.ifYes X3.here hx rfl (pc0 := 14) (pc' := 21) rfl (hb hby d2_14) rfl (tltL hc14_4).1 (by decide) (by decide) ?_
        exact k
      refine Goes.run X3 hx hown hci hcl hby (L := [(21, .iconst 0, 1)]) (by decide +kernel) rfl (g' := (mkF m 22 #[.val (.ref x0), .val (.long x1), .second] [(.int (0 : Int32))])) rfl ?_
      exact Goes.retB X3 hx hlk (t := .boolean) Bd.returns (by simp) (hb hby d2_22) rfl ⟨(congrArg (fun z => some (Value.int z)) (show (r2 x1 w) = (0 : Int32) from ((if_pos hc4_2).trans (if_pos hc14_4))).symm), N0, e3⟩ (by decide) (by decide)
    · skip
      refine Goes.st (B := T3.setTop (mkF m 17 #[.val (.ref x0), .val (.long x1), .second] [])) (fun t k => ?_) ?_
      · refine XS.ifNo X3.here hx rfl (hb hby d2_14) rfl (fltL hc14_4).1 ?_
        exact k
      refine Goes.run X3 hx hown hci hcl hby (L := [(17, .iconst 1, 1), (18, .goto 4, 3)]) (by decide +kernel) rfl (g' := (mkF m 22 #[.val (.ref x0), .val (.long x1), .second] [(.int (1 : Int32))])) rfl ?_
      exact Goes.retB X3 hx hlk (t := .boolean) Bd.returns (by simp) (hb hby d2_22) rfl ⟨(congrArg (fun z => some (Value.int z)) (show (r2 x1 w) = (1 : Int32) from ((if_pos hc4_2).trans (if_neg hc14_4))).symm), N0, e3⟩ (by decide) (by decide)
  · skip
    refine Goes.st (B := T1.setTop (mkF m 21 #[.val (.ref x0), .val (.long x1), .second] [])) (fun t k => ?_) ?_
    · refine XS.ifYes X1.here hx rfl (pc0 := 4) (pc' := 21) rfl (hb hby d2_4) rfl ((if0 _ _).trans (flt hc4_2).2.2.2) (by decide) (by decide) ?_
      exact k
    refine Goes.run X1 hx hown hci hcl hby (L := [(21, .iconst 0, 1)]) (by decide +kernel) rfl (g' := (mkF m 22 #[.val (.ref x0), .val (.long x1), .second] [(.int (0 : Int32))])) rfl ?_
    exact Goes.retB X1 hx hlk (t := .boolean) Bd.returns (by simp) (hb hby d2_22) rfl ⟨(congrArg (fun z => some (Value.int z)) (show (r2 x1 w) = (0 : Int32) from (if_neg hc4_2)).symm), N0, e1⟩ (by decide) (by decide)
theorem d3_0 : decode prog_90_method_4_code 0 = .ok (.aload_n 0, 1) := by decide +kernel
theorem d3_1 : decode prog_90_method_4_code 1 = .ok (.getfield 22, 3) := by decide +kernel
theorem d3_4 : decode prog_90_method_4_code 4 = .ok (.ireturn, 1) := by decide +kernel
theorem pn3 : plainName "com/example/mahnwerk/mahnwerk/model/Suspension" = true := by first | (simp [plainName, overriddenIn]; done) | decide +kernel
theorem ef3 (m : MethodId) (x0 : Addr) : entryFrame m #[(.ref x0)] 1 = (mkF m 0 #[.val (.ref x0)] []) := by first | (simp [entryFrame, mkF, argsToLocals, Value.category]; done) | rfl
def r3 (w : Int32) : Int32 := w
set_option maxRecDepth 65536 in
set_option maxHeartbeats 40000000 in
theorem rm3 (l : Launch) (Z : State) (a0 : Array Value) (hw : ∀ d ∈ tables_1, d.before a0 Z = true) (ws : List Jvm.Cond) (x0 : Addr) (w : Int32) (h0 : Heap) (n0 : Nat) (Z0 : n0 ≤ h0.size) (F_daysOverdue_x0 : Fld Z h0 x0 "com/example/mahnwerk/mahnwerk/model/Suspension" "daysOverdue" "I" (.int w)) :
    MetFree l (⟨"com/example/mahnwerk/mahnwerk/model/Suspension", "daysOverdue", "()I"⟩ : MethodName) (head1 (Jvm.Cond.code (⟨"com/example/mahnwerk/mahnwerk/model/Suspension", "daysOverdue", "()I"⟩ : MethodName) prog_90_method_4_code 1 (some .int) :: ws) ({ frames := 0, cells := 0, slots := 0, locals := 0 } : Room)) (fun a U => a = #[(.ref x0)] ∧ Z.Warmed39 U.vm ∧ U.heap = h0) (fun _ _ _ _ _ => True) (fun _ U o U' => ∃ v L, o = .returned v ∧ (QP (some (.int (r3 w))) h0 n0) v U'.heap L ∧ FrameEnd U o U' L ({ frames := 0, cells := 0, slots := 0, locals := 0 } : Room).cells ({ frames := 0, cells := 0, slots := 0, locals := 0 } : Room).slots) := by
  refine MetFree.of_bodySF (plainFor_of_name pn3) hisR ?_
  intro p e s m args below meth c s₁ Bd hml0 hP hK
  obtain ⟨rfl, hZ, hh⟩ := hP
  have hx := Bd.exec
  have hby := Bd.bytes
  have hml : c.maxLocals = 1 := hml0
  have hlk : meth.locks = false := BodyLoose.notSynchronized Bd
  have hown : s.vm.findClass "com/example/mahnwerk/mahnwerk/model/Suspension" = some m.cls := findClass_of_methodNamed Bd.named
  have hnm := (name_of_methodNamed Bd.named Bd.method).1
  have hci : ∀ i v, (i, v) ∈ ([] : List (Nat × Int32)) → (Jvm.Cond.constant "com/example/mahnwerk/mahnwerk/model/Suspension" i v).before #[(.ref x0)] s = true := own_ci0
  have hcl : ∀ i v, (i, v) ∈ ([] : List (Nat × Int64)) → (Jvm.Cond.constantLong "com/example/mahnwerk/mahnwerk/model/Suspension" i v).before #[(.ref x0)] s = true := own_ci0
  have X0 : Stand p l e ({ frames := 0, cells := 0, slots := 0, locals := 0 } : Room) s m #[(.ref x0)] below meth c s₁ [] 0 0 := Stand.of_body Bd
  have e0 : s₁.heap = h0 := by rw [← hh, Bd.state]; rfl
  have N0 := Fr.nil n0
  show Goes p e below s (QP (some (.int (r3 w))) h0 n0) ({ frames := 0, cells := 0, slots := 0, locals := 0 } : Room).cells ({ frames := 0, cells := 0, slots := 0, locals := 0 } : Room).slots (s₁.setTop (entryFrame m #[(.ref x0)] 1))
  refine Goes.cast (ef3 m x0) ?_
  refine Goes.run X0 hx hown hci hcl hby (L := [(0, .aload_n 0, 1)]) (by decide +kernel) rfl (g' := (mkF m 1 #[.val (.ref x0)] [(.ref x0)])) rfl ?_
  obtain ⟨T1, X1, e1, st1⟩ := getF X0 hx hZ hown (host := "") (Or.inl (hw _ (List.mem_of_getElem? (i := 12) rfl))) Via.refl e0 F_daysOverdue_x0 (g := (mkF m 1 #[.val (.ref x0)] [(.ref x0)])) rfl rfl (hb hby d3_1)
  refine Goes.st (B := T1.setTop (mkF m 4 #[.val (.ref x0)] [(.int w)])) st1 ?_
  exact Goes.retI X1 hx hlk Bd.returns (hb hby d3_4) ⟨(congrArg (fun z => some (Value.int z)) (show (r3 w) = w from rfl).symm), N0, e1⟩ (by decide) (by decide)
theorem d4_0 : decode method_2_code 0 = .ok (.iload_n 0, 1) := by decide +kernel
theorem d4_1 : decode method_2_code 1 = .ok (.ifCond .ne 5, 3) := by decide +kernel
theorem d4_4 : decode method_2_code 4 = .ok (.iconst 0, 1) := by decide +kernel
theorem d4_5 : decode method_2_code 5 = .ok (.ireturn, 1) := by decide +kernel
theorem d4_6 : decode method_2_code 6 = .ok (.lload_n 1, 1) := by decide +kernel
theorem d4_7 : decode method_2_code 7 = .ok (.iload_n 0, 1) := by decide +kernel
theorem d4_8 : decode method_2_code 8 = .ok (.i2l, 1) := by decide +kernel
theorem d4_9 : decode method_2_code 9 = .ok (.lcmp, 1) := by decide +kernel
theorem d4_10 : decode method_2_code 10 = .ok (.ifCond .ge 5, 3) := by decide +kernel
theorem d4_13 : decode method_2_code 13 = .ok (.iconst 0, 1) := by decide +kernel
theorem d4_14 : decode method_2_code 14 = .ok (.ireturn, 1) := by decide +kernel
theorem d4_15 : decode method_2_code 15 = .ok (.iconst 1, 1) := by decide +kernel
theorem d4_16 : decode method_2_code 16 = .ok (.ireturn, 1) := by decide +kernel
theorem pn4 : plainName "com/example/mahnwerk/mahnwerk/model/SuspensionByDaysOverduePinLaw" = true := by first | (simp [plainName, overriddenIn]; done) | decide +kernel
theorem ef4 (m : MethodId) (x0 : Int32) (x1 : Int64) : entryFrame m #[(.int x0), (.long x1)] 3 = (mkF m 0 #[.val (.int x0), .val (.long x1), .second] []) := by first | (simp [entryFrame, mkF, argsToLocals, Value.category]; done) | rfl
def r4 (x0 : Int32) (x1 : Int64) : Int32 := (if x0 = (0 : Int32) then (0 : Int32) else (if x1 < (x0.toInt64) then (0 : Int32) else (1 : Int32)))
set_option maxRecDepth 65536 in
set_option maxHeartbeats 40000000 in
theorem rm4 (l : Launch) (Z : State) (a0 : Array Value) (hw : ∀ d ∈ tables_1, d.before a0 Z = true) (ws : List Jvm.Cond) (x0 : Int32) (x1 : Int64) (h0 : Heap) (n0 : Nat) (Z0 : n0 ≤ h0.size) :
    MetFree l (⟨"com/example/mahnwerk/mahnwerk/model/SuspensionByDaysOverduePinLaw", "reference", "(IJ)Z"⟩ : MethodName) (head1 (Jvm.Cond.code (⟨"com/example/mahnwerk/mahnwerk/model/SuspensionByDaysOverduePinLaw", "reference", "(IJ)Z"⟩ : MethodName) method_2_code 3 (some .boolean) :: ws) ({ frames := 0, cells := 0, slots := 0, locals := 0 } : Room)) (fun a U => a = #[(.int x0), (.long x1)] ∧ Z.Warmed39 U.vm ∧ U.heap = h0) (fun _ _ _ _ _ => True) (fun _ U o U' => ∃ v L, o = .returned v ∧ (QP (some (.int (r4 x0 x1))) h0 n0) v U'.heap L ∧ FrameEnd U o U' L ({ frames := 0, cells := 0, slots := 0, locals := 0 } : Room).cells ({ frames := 0, cells := 0, slots := 0, locals := 0 } : Room).slots) := by
  refine MetFree.of_bodySF (plainFor_of_name pn4) hisR ?_
  intro p e s m args below meth c s₁ Bd hml0 hP hK
  obtain ⟨rfl, hZ, hh⟩ := hP
  have hx := Bd.exec
  have hby := Bd.bytes
  have hml : c.maxLocals = 3 := hml0
  have hlk : meth.locks = false := BodyLoose.notSynchronized Bd
  have hown : s.vm.findClass "com/example/mahnwerk/mahnwerk/model/SuspensionByDaysOverduePinLaw" = some m.cls := findClass_of_methodNamed Bd.named
  have hnm := (name_of_methodNamed Bd.named Bd.method).1
  have hci : ∀ i v, (i, v) ∈ ([(7, 2147483647)] : List (Nat × Int32)) → (Jvm.Cond.constant "com/example/mahnwerk/mahnwerk/model/SuspensionByDaysOverduePinLaw" i v).before #[(.int x0), (.long x1)] s = true := (own_ciS (mvT hZ (hw _ (List.mem_of_getElem? (i := 0) rfl))) own_ci0)
  have hcl : ∀ i v, (i, v) ∈ ([(25, 9223372036854775807), (27, -9223372036854775808)] : List (Nat × Int64)) → (Jvm.Cond.constantLong "com/example/mahnwerk/mahnwerk/model/SuspensionByDaysOverduePinLaw" i v).before #[(.int x0), (.long x1)] s = true := (own_ciS (mvT hZ (hw _ (List.mem_of_getElem? (i := 23) rfl))) (own_ciS (mvT hZ (hw _ (List.mem_of_getElem? (i := 24) rfl))) own_ci0))
  have X0 : Stand p l e ({ frames := 0, cells := 0, slots := 0, locals := 0 } : Room) s m #[(.int x0), (.long x1)] below meth c s₁ [] 0 0 := Stand.of_body Bd
  have e0 : s₁.heap = h0 := by rw [← hh, Bd.state]; rfl
  have N0 := Fr.nil n0
  show Goes p e below s (QP (some (.int (r4 x0 x1))) h0 n0) ({ frames := 0, cells := 0, slots := 0, locals := 0 } : Room).cells ({ frames := 0, cells := 0, slots := 0, locals := 0 } : Room).slots (s₁.setTop (entryFrame m #[(.int x0), (.long x1)] 3))
  refine Goes.cast (ef4 m x0 x1) ?_
  refine Goes.run X0 hx hown hci hcl hby (L := [(0, .iload_n 0, 1)]) (by decide +kernel) rfl (g' := (mkF m 1 #[.val (.int x0), .val (.long x1), .second] [(.int x0)])) rfl ?_
  by_cases hc1_1 : x0 = (0 : Int32)
  · skip
    refine Goes.st (B := s₁.setTop (mkF m 4 #[.val (.int x0), .val (.long x1), .second] [])) (fun t k => ?_) ?_
    · refine XS.ifNo X0.here hx rfl (hb hby d4_1) rfl ((if0 _ _).trans (teq hc1_1).2) ?_
      exact k
    refine Goes.run X0 hx hown hci hcl hby (L := [(4, .iconst 0, 1)]) (by decide +kernel) rfl (g' := (mkF m 5 #[.val (.int x0), .val (.long x1), .second] [(.int (0 : Int32))])) rfl ?_
    exact Goes.retB X0 hx hlk (t := .boolean) Bd.returns (by simp) (hb hby d4_5) rfl ⟨(congrArg (fun z => some (Value.int z)) (show (r4 x0 x1) = (0 : Int32) from (if_pos hc1_1)).symm), N0, e0⟩ (by decide) (by decide)
  · skip
    refine Goes.st (B := s₁.setTop (mkF m 6 #[.val (.int x0), .val (.long x1), .second] [])) (fun t k => ?_) ?_
    · refine XS.ifYes X0.here hx rfl (pc0 := 1) (pc' := 6) rfl (hb hby d4_1) rfl ((if0 _ _).trans (feq hc1_1).2) (by decide) (by decide) ?_
      exact k
    refine Goes.run X0 hx hown hci hcl hby (L := [(6, .lload_n 1, 1), (7, .iload_n 0, 1), (8, .i2l, 1), (9, .lcmp, 1)]) (by decide +kernel) rfl (g' := (mkF m 10 #[.val (.int x0), .val (.long x1), .second] [(.int (lcmpW x1 (x0.toInt64)))])) rfl ?_
    by_cases hc10_2 : x1 < (x0.toInt64)
    · skip
      refine Goes.st (B := s₁.setTop (mkF m 13 #[.val (.int x0), .val (.long x1), .second] [])) (fun t k => ?_) ?_
      · refine XS.ifNo X0.here hx rfl (hb hby d4_10) rfl (tltL hc10_2).2.1 ?_
        exact k
      refine Goes.run X0 hx hown hci hcl hby (L := [(13, .iconst 0, 1)]) (by decide +kernel) rfl (g' := (mkF m 14 #[.val (.int x0), .val (.long x1), .second] [(.int (0 : Int32))])) rfl ?_
      exact Goes.retB X0 hx hlk (t := .boolean) Bd.returns (by simp) (hb hby d4_14) rfl ⟨(congrArg (fun z => some (Value.int z)) (show (r4 x0 x1) = (0 : Int32) from ((if_neg hc1_1).trans (if_pos hc10_2))).symm), N0, e0⟩ (by decide) (by decide)
    · skip
      refine Goes.st (B := s₁.setTop (mkF m 15 #[.val (.int x0), .val (.long x1), .second] [])) (fun t k => ?_) ?_
      · refine XS.ifYes X0.here hx rfl (pc0 := 10) (pc' := 15) rfl (hb hby d4_10) rfl (fltL hc10_2).2.1 (by decide) (by decide) ?_
        exact k
      refine Goes.run X0 hx hown hci hcl hby (L := [(15, .iconst 1, 1)]) (by decide +kernel) rfl (g' := (mkF m 16 #[.val (.int x0), .val (.long x1), .second] [(.int (1 : Int32))])) rfl ?_
      exact Goes.retB X0 hx hlk (t := .boolean) Bd.returns (by simp) (hb hby d4_16) rfl ⟨(congrArg (fun z => some (Value.int z)) (show (r4 x0 x1) = (1 : Int32) from ((if_neg hc1_1).trans (if_neg hc10_2))).symm), N0, e0⟩ (by decide) (by decide)
theorem pn0 : plainName "com/example/mahnwerk/mahnwerk/model/SuspensionByDaysOverduePinLaw" = true := by first | (simp [plainName, overriddenIn]; done) | decide +kernel
theorem pd0_0 : parseMethodDescriptor "(II)V" = some ⟨[.int, .int], none⟩ := by decide +kernel
theorem pd0_1 : parseMethodDescriptor "(J)Z" = some ⟨[.long], some .boolean⟩ := by decide +kernel
theorem pd0_2 : parseMethodDescriptor "(IJ)Z" = some ⟨[.int, .long], some .boolean⟩ := by decide +kernel
theorem pd0_3 : parseMethodDescriptor "()I" = some ⟨[], some .int⟩ := by decide +kernel
theorem ef0 (m : MethodId) (x0 : Int32) (x1 : Int32) (x2 : Int64) (x3 : Int32) (x4 : Int32) : entryFrame m #[(.int x0), (.int x1), (.long x2), (.int x3), (.int x4)] maxLocals = (mkF m 0 #[.val (.int x0), .val (.int x1), .val (.long x2), .second, .val (.int x3), .val (.int x4), .unset, .unset, .unset, .unset, .unset, .unset, .unset, .unset, .unset, .unset, .unset] []) := by first | (simp [entryFrame, mkF, argsToLocals, Value.category, maxLocals]; done) | rfl
def w0_4 (x0 : Int32) (x1 : Int32) (x2 : Int64) (x3 : Int32) (x4 : Int32) : Int32 := (x0 &&& (2147483647 : Int32))
def w0_10 (x0 : Int32) (x1 : Int32) (x2 : Int64) (x3 : Int32) (x4 : Int32) : Int32 := (x1 &&& (2147483647 : Int32))
def w0_24 (x0 : Int32) (x1 : Int32) (x2 : Int64) (x3 : Int32) (x4 : Int32) : Int32 := ((w0_10 x0 x1 x2 x3 x4) &&& (7 : Int32))
def j0_26_7 (x0 : Int32) (x1 : Int32) (x2 : Int64) (x3 : Int32) (x4 : Int32) : Int32 := (if (x4 &&& (1 : Int32)) = (0 : Int32) then (w0_10 x0 x1 x2 x3 x4) else (w0_24 x0 x1 x2 x3 x4))
def w0_48 (x0 : Int32) (x1 : Int32) (x2 : Int64) (x3 : Int32) (x4 : Int32) : Int64 := (((j0_26_7 x0 x1 x2 x3 x4).toInt64) + ((x3 - (x3 / (4 : Int32)) * (4 : Int32)).toInt64))
def j0_50_8 (x0 : Int32) (x1 : Int32) (x2 : Int64) (x3 : Int32) (x4 : Int32) : Int64 := (if (x4 &&& (2 : Int32)) = (0 : Int32) then (w0_48 x0 x1 x2 x3 x4) else x2)
def c0_73_1 (x0 : Int32) (x1 : Int32) (x2 : Int64) (x3 : Int32) (x4 : Int32) : Int32 := ((w0_4 x0 x1 x2 x3 x4) ^^^ (1 : Int32))
def w0_85 (x0 : Int32) (x1 : Int32) (x2 : Int64) (x3 : Int32) (x4 : Int32) : Int32 := (r2 (j0_50_8 x0 x1 x2 x3 x4) (j0_26_7 x0 x1 x2 x3 x4))
def w0_94 (x0 : Int32) (x1 : Int32) (x2 : Int64) (x3 : Int32) (x4 : Int32) : Int32 := (r4 (j0_26_7 x0 x1 x2 x3 x4) (j0_50_8 x0 x1 x2 x3 x4))
def w0_113 (x0 : Int32) (x1 : Int32) (x2 : Int64) (x3 : Int32) (x4 : Int32) : Int32 := (r2 (9223372036854775807 : Int64) (j0_26_7 x0 x1 x2 x3 x4))
def w0_123 (x0 : Int32) (x1 : Int32) (x2 : Int64) (x3 : Int32) (x4 : Int32) : Int32 := (r2 (-9223372036854775808 : Int64) (j0_26_7 x0 x1 x2 x3 x4))
def j0_151_s0 (x0 : Int32) (x1 : Int32) (x2 : Int64) (x3 : Int32) (x4 : Int32) : Int32 := (if (j0_26_7 x0 x1 x2 x3 x4) = (0 : Int32) then (0 : Int32) else (1 : Int32))
def r0 (x0 : Int32) (x1 : Int32) (x2 : Int64) (x3 : Int32) (x4 : Int32) : Int32 := (if (w0_85 x0 x1 x2 x3 x4) = (w0_94 x0 x1 x2 x3 x4) then (if (w0_113 x0 x1 x2 x3 x4) = (j0_151_s0 x0 x1 x2 x3 x4) then (if (w0_123 x0 x1 x2 x3 x4) = (0 : Int32) then (if (r3 (j0_26_7 x0 x1 x2 x3 x4)) = (j0_26_7 x0 x1 x2 x3 x4) then (1 : Int32) else (0 : Int32)) else (0 : Int32)) else (0 : Int32)) else (0 : Int32))
theorem own_p1 (x0 x1 : Int32) (x2 : Int64) (x3 x4 : Int32) : ¬ (w0_4 x0 x1 x2 x3 x4) < (0 : Int32) := by
  obtain ⟨A, m0, a0, -, -⟩ := own_m32 x0 (2147483647 : Int32) (k := 31) (by decide) (by decide)
  rw [own_lt32 (u := w0_4 x0 x1 x2 x3 x4) m0 (show (0 : Int32).toInt = 0 by decide)]; omega
theorem own_p1b (x0 x1 : Int32) (x2 : Int64) (x3 x4 : Int32) : ¬ (c0_73_1 x0 x1 x2 x3 x4) < (0 : Int32) := by
  obtain ⟨A, m0, a0, -, -⟩ := own_m32 x0 (2147483647 : Int32) (k := 31) (by decide) (by decide)
  obtain ⟨B, hB, b0⟩ := own_xor32 m0 (show (1 : Int32).toInt = 1 by decide) a0 (by decide)
  rw [own_lt32 (u := c0_73_1 x0 x1 x2 x3 x4) hB (show (0 : Int32).toInt = 0 by decide)]; omega
theorem own_d (x0 x1 : Int32) (x2 : Int64) (x3 x4 : Int32) : ∃ A, (j0_26_7 x0 x1 x2 x3 x4).toInt = A ∧ 0 ≤ A := by
  unfold j0_26_7
  split
  · obtain ⟨A, m0, a0, -, -⟩ := own_m32 x1 (2147483647 : Int32) (k := 31) (by decide) (by decide)
    exact ⟨A, m0, a0⟩
  · obtain ⟨A, m0, a0, -, -⟩ := own_m32 (w0_10 x0 x1 x2 x3 x4) (7 : Int32) (k := 3) (by decide) (by decide)
    exact ⟨A, m0, a0⟩
theorem own_p2 (x0 x1 : Int32) (x2 : Int64) (x3 x4 : Int32) : ¬ (j0_26_7 x0 x1 x2 x3 x4) < (0 : Int32) := by
  obtain ⟨A, hA, a0⟩ := own_d x0 x1 x2 x3 x4
  rw [own_lt32 hA (show (0 : Int32).toInt = 0 by decide)]; omega
theorem law_true (x0 x1 : Int32) (x2 : Int64) (x3 x4 : Int32) : r0 x0 x1 x2 x3 x4 = 1 := by
  obtain ⟨A, hA, a0⟩ := own_d x0 x1 x2 x3 x4
  have a1 : A < 2147483648 := by have := (j0_26_7 x0 x1 x2 x3 x4).toInt_lt; omega
  have kz := own_eq32 hA (show (0 : Int32).toInt = 0 by decide)
  have kp := own_lt32 (show (0 : Int32).toInt = 0 by decide) hA
  have hL := own_i2l hA
  have kM := own_lt64 (show (9223372036854775807 : Int64).toInt = 9223372036854775807 by decide) hL
  have km := own_lt64 (show (-9223372036854775808 : Int64).toInt = -9223372036854775808 by decide) hL
  have e1 : w0_85 x0 x1 x2 x3 x4 = w0_94 x0 x1 x2 x3 x4 := by
    unfold w0_85 w0_94 r2 r4
    by_cases h : j0_26_7 x0 x1 x2 x3 x4 = 0
    · rw [if_pos h, if_neg (fun q => by have := kp.mp q; have := kz.mp h; omega)]
    · rw [if_neg h, if_pos (kp.mpr (by have : ¬ A = 0 := fun q => h (kz.mpr q); omega))]
  have e2 : w0_113 x0 x1 x2 x3 x4 = j0_151_s0 x0 x1 x2 x3 x4 := by
    unfold w0_113 j0_151_s0 r2
    by_cases h : j0_26_7 x0 x1 x2 x3 x4 = 0
    · rw [if_pos h, if_neg (fun q => by have := kp.mp q; have := kz.mp h; omega)]
    · rw [if_neg h, if_pos (kp.mpr (by have : ¬ A = 0 := fun q => h (kz.mpr q); omega)), if_neg (fun q => by have := kM.mp q; omega)]
  have e3 : w0_123 x0 x1 x2 x3 x4 = 0 := by
    unfold w0_123 r2
    split
    · exact if_pos (km.mpr (by omega))
    · rfl
  unfold r0
  rw [if_pos e1, if_pos e2, if_pos e3]
  exact if_pos rfl
set_option maxRecDepth 65536 in
set_option maxHeartbeats 40000000 in
theorem rm0 (l : Launch) (Z : State) (a0 : Array Value) (hw : ∀ d ∈ tables_1, d.before a0 Z = true) (ws : List Jvm.Cond) (x0 : Int32) (x1 : Int32) (x2 : Int64) (x3 : Int32) (x4 : Int32) (h0 : Heap) (n0 : Nat) (Z0 : n0 ≤ h0.size) :
    MetFree l x (head1 (Jvm.Cond.code x code maxLocals ret :: ws) room_1) (fun a U => a = #[(.int x0), (.int x1), (.long x2), (.int x3), (.int x4)] ∧ Z.Warmed39 U.vm ∧ U.heap = h0) (fun _ _ _ _ _ => True) (fun _ U o U' => ∃ v L, o = .returned v ∧ (QL (some (.int (r0 x0 x1 x2 x3 x4))) n0) v U'.heap L ∧ FrameEnd U o U' L room_1.cells room_1.slots) := by
  refine MetFree.of_bodySF (plainFor_of_name pn0) hisR ?_
  intro p e s m args below meth c s₁ Bd hml0 hP hK
  obtain ⟨rfl, hZ, hh⟩ := hP
  have hx := Bd.exec
  have hby := Bd.bytes
  have hml : c.maxLocals = 17 := hml0
  have hlk : meth.locks = false := BodyLoose.notSynchronized Bd
  have hown : s.vm.findClass "com/example/mahnwerk/mahnwerk/model/SuspensionByDaysOverduePinLaw" = some m.cls := findClass_of_methodNamed Bd.named
  have hnm := (name_of_methodNamed Bd.named Bd.method).1
  have hci : ∀ i v, (i, v) ∈ ([(7, 2147483647)] : List (Nat × Int32)) → (Jvm.Cond.constant "com/example/mahnwerk/mahnwerk/model/SuspensionByDaysOverduePinLaw" i v).before #[(.int x0), (.int x1), (.long x2), (.int x3), (.int x4)] s = true := (own_ciS (mvT hZ (hw _ (List.mem_of_getElem? (i := 0) rfl))) own_ci0)
  have hcl : ∀ i v, (i, v) ∈ ([(25, 9223372036854775807), (27, -9223372036854775808)] : List (Nat × Int64)) → (Jvm.Cond.constantLong "com/example/mahnwerk/mahnwerk/model/SuspensionByDaysOverduePinLaw" i v).before #[(.int x0), (.int x1), (.long x2), (.int x3), (.int x4)] s = true := (own_ciS (mvT hZ (hw _ (List.mem_of_getElem? (i := 23) rfl))) (own_ciS (mvT hZ (hw _ (List.mem_of_getElem? (i := 24) rfl))) own_ci0))
  have X0 : Stand p l e room_1 s m #[(.int x0), (.int x1), (.long x2), (.int x3), (.int x4)] below meth c s₁ [] 0 0 := Stand.of_body Bd
  have e0 : s₁.heap = h0 := by rw [← hh, Bd.state]; rfl
  have N0 := Fr.nil n0
  show Goes p e below s (QL (some (.int (r0 x0 x1 x2 x3 x4))) n0) room_1.cells room_1.slots (s₁.setTop (entryFrame m #[(.int x0), (.int x1), (.long x2), (.int x3), (.int x4)] maxLocals))
  refine Goes.cast (ef0 m x0 x1 x2 x3 x4) ?_
  refine Goes.run X0 hx hown hci hcl hby (L := [(0, .iload_n 0, 1), (1, .ldc 7, 2), (3, .iand, 1), (4, .istore 6, 2), (6, .iload_n 1, 1), (7, .ldc 7, 2)]) (by decide +kernel) rfl (g' := (mkF m 9 #[.val (.int x0), .val (.int x1), .val (.long x2), .second, .val (.int x3), .val (.int x4), .val (.int (w0_4 x0 x1 x2 x3 x4)), .unset, .unset, .unset, .unset, .unset, .unset, .unset, .unset, .unset, .unset] [(.int (2147483647 : Int32)), (.int x1)])) rfl ?_
  refine Goes.run X0 hx hown hci hcl hby (L := [(9, .iand, 1), (10, .istore 7, 2), (12, .iload 5, 2), (14, .iconst 1, 1), (15, .iand, 1)]) (by decide +kernel) rfl (g' := (mkF m 16 #[.val (.int x0), .val (.int x1), .val (.long x2), .second, .val (.int x3), .val (.int x4), .val (.int (w0_4 x0 x1 x2 x3 x4)), .val (.int (w0_10 x0 x1 x2 x3 x4)), .unset, .unset, .unset, .unset, .unset, .unset, .unset, .unset, .unset] [(.int (x4 &&& (1 : Int32)))])) rfl ?_
  have jn26_2 : Goes p e below s (QL (some (.int (r0 x0 x1 x2 x3 x4))) n0) room_1.cells room_1.slots (s₁.setTop (mkF m 26 #[.val (.int x0), .val (.int x1), .val (.long x2), .second, .val (.int x3), .val (.int x4), .val (.int (w0_4 x0 x1 x2 x3 x4)), .val (.int (j0_26_7 x0 x1 x2 x3 x4)), .unset, .unset, .unset, .unset, .unset, .unset, .unset, .unset, .unset] [])) := by
    refine Goes.run X0 hx hown hci hcl hby (L := [(26, .iload 5, 2), (28, .iconst 2, 1), (29, .iand, 1)]) (by decide +kernel) rfl (g' := (mkF m 30 #[.val (.int x0), .val (.int x1), .val (.long x2), .second, .val (.int x3), .val (.int x4), .val (.int (w0_4 x0 x1 x2 x3 x4)), .val (.int (j0_26_7 x0 x1 x2 x3 x4)), .unset, .unset, .unset, .unset, .unset, .unset, .unset, .unset, .unset] [(.int (x4 &&& (2 : Int32)))])) rfl ?_
    have jn50_4 : Goes p e below s (QL (some (.int (r0 x0 x1 x2 x3 x4))) n0) room_1.cells room_1.slots (s₁.setTop (mkF m 50 #[.val (.int x0), .val (.int x1), .val (.long x2), .second, .val (.int x3), .val (.int x4), .val (.int (w0_4 x0 x1 x2 x3 x4)), .val (.int (j0_26_7 x0 x1 x2 x3 x4)), .val (.long (j0_50_8 x0 x1 x2 x3 x4)), .second, .unset, .unset, .unset, .unset, .unset, .unset, .unset] [])) := by
      obtain ⟨T5, h5, X5, e5, E5, A5, D5, -, st5⟩ := newO X0 hx hZ hown (hw _ (List.mem_of_getElem? (i := 1) rfl)) (hw _ (List.mem_of_getElem? (i := 2) rfl)) (hw _ (List.mem_of_getElem? (i := 3) rfl)) e0 (g := (mkF m 50 #[.val (.int x0), .val (.int x1), .val (.long x2), .second, .val (.int x3), .val (.int x4), .val (.int (w0_4 x0 x1 x2 x3 x4)), .val (.int (j0_26_7 x0 x1 x2 x3 x4)), .val (.long (j0_50_8 x0 x1 x2 x3 x4)), .second, .unset, .unset, .unset, .unset, .unset, .unset, .unset] [])) rfl (hb hby at_50) (by decide) (by decide)
      obtain ⟨b5, g5⟩ : ∃ z, z = h0.size := ⟨_, rfl⟩
      rw [← g5] at A5 D5 st5
      have g_b5 : n0 ≤ b5 := Nat.le_trans Z0 (Nat.le_of_eq g5.symm)
      have Zn5 : n0 ≤ h5.size := Nat.le_trans Z0 E5.1
      have E_b5 : Exa Z h5 b5 "com/example/mahnwerk/mahnwerk/model/Suspension" := A5
      have F_level_b5 : Fld Z h5 b5 "com/example/mahnwerk/mahnwerk/model/Suspension" "level" "I" (.int (0 : Int32)) := D5 (Or.inr (hw _ (List.mem_of_getElem? (i := 11) rfl))) (ty := .int) (by decide)
      have F_daysOverdue_b5 : Fld Z h5 b5 "com/example/mahnwerk/mahnwerk/model/Suspension" "daysOverdue" "I" (.int (0 : Int32)) := D5 (Or.inr (hw _ (List.mem_of_getElem? (i := 13) rfl))) (ty := .int) (by decide)
      refine Goes.st (B := T5.setTop (mkF m 53 #[.val (.int x0), .val (.int x1), .val (.long x2), .second, .val (.int x3), .val (.int x4), .val (.int (w0_4 x0 x1 x2 x3 x4)), .val (.int (j0_26_7 x0 x1 x2 x3 x4)), .val (.long (j0_50_8 x0 x1 x2 x3 x4)), .second, .unset, .unset, .unset, .unset, .unset, .unset, .unset] [(.ref b5)])) st5 ?_
      refine Goes.run X5 hx hown hci hcl hby (L := [(53, .dup, 1), (54, .iload 6, 2), (56, .iload 7, 2)]) (by decide +kernel) rfl (g' := (mkF m 58 #[.val (.int x0), .val (.int x1), .val (.long x2), .second, .val (.int x3), .val (.int x4), .val (.int (w0_4 x0 x1 x2 x3 x4)), .val (.int (j0_26_7 x0 x1 x2 x3 x4)), .val (.long (j0_50_8 x0 x1 x2 x3 x4)), .second, .unset, .unset, .unset, .unset, .unset, .unset, .unset] [(.int (j0_26_7 x0 x1 x2 x3 x4)), (.int (w0_4 x0 x1 x2 x3 x4)), (.ref b5), (.ref b5)])) rfl ?_
      obtain ⟨_, _, ⟨T6, L6, k6, n6⟩, -, X6, ⟨Lc6, hQ6, l6, y6, z6⟩, st6⟩ := X5.specialBack hx (y := (⟨"com/example/mahnwerk/mahnwerk/model/Suspension", "<init>", "(II)V"⟩ : MethodName)) rfl hown (mvT hZ (hw _ (List.mem_of_getElem? (i := 4) rfl))) (mvT hZ (hw _ (List.mem_of_getElem? (i := 5) rfl))) (mvT hZ (hw _ (List.mem_of_getElem? (i := 6) rfl))) (by decide) (backOf (W := 1) (rm1 l Z a0 hw [] b5 (w0_4 x0 x1 x2 x3 x4) (j0_26_7 x0 x1 x2 x3 x4) h5 n0 Zn5 E_b5 F_level_b5 F_daysOverdue_b5 g_b5 (own_p1 x0 x1 x2 x3 x4) (own_p2 x0 x1 x2 x3 x4)) hZ (hw _ (List.mem_of_getElem? (i := 6) rfl)) (hw _ (List.mem_of_getElem? (i := 3) rfl)) (by decide) (by decide)) (g := (mkF m 58 #[.val (.int x0), .val (.int x1), .val (.long x2), .second, .val (.int x3), .val (.int x4), .val (.int (w0_4 x0 x1 x2 x3 x4)), .val (.int (j0_26_7 x0 x1 x2 x3 x4)), .val (.long (j0_50_8 x0 x1 x2 x3 x4)), .second, .unset, .unset, .unset, .unset, .unset, .unset, .unset] [(.int (j0_26_7 x0 x1 x2 x3 x4)), (.int (w0_4 x0 x1 x2 x3 x4)), (.ref b5), (.ref b5)])) rfl (by rw [hml]; rfl) (Steps.refl _) (a := b5) (argsL := [(.int (w0_4 x0 x1 x2 x3 x4)), (.int (j0_26_7 x0 x1 x2 x3 x4))]) (rest := [(.ref b5)]) (lenOf pd0_0 rfl) rfl (by show 2 * 0 + _ ≤ _; exact Nat.le_of_eq rfl) (hb hby at_58) (fun _ _ => ⟨rfl, e5, (by decide : 1 + 0 ≤ _), (by decide : 2 + 0 ≤ _)⟩)
      dsimp only [Pt.U, Pt.locs, Pt.cells, Pt.slots] at X6 l6 y6 z6 st6 hQ6
      subst l6 y6 z6
      obtain ⟨h6, eh6⟩ : ∃ z, z = T6.heap := ⟨_, rfl⟩
      rw [← eh6] at hQ6
      have e6 : T6.heap = h6 := eh6.symm
      obtain ⟨rfl, N6q, Kq6, o6_0, o6_1, o6_2⟩ := hQ6
      have N6 := Fr.app N0 N6q
      have E_b5 : Exa Z h6 b5 "com/example/mahnwerk/mahnwerk/model/Suspension" := o6_0
      have F_level_b5 : Fld Z h6 b5 "com/example/mahnwerk/mahnwerk/model/Suspension" "level" "I" (.int (w0_4 x0 x1 x2 x3 x4)) := o6_1
      have F_daysOverdue_b5 : Fld Z h6 b5 "com/example/mahnwerk/mahnwerk/model/Suspension" "daysOverdue" "I" (.int (j0_26_7 x0 x1 x2 x3 x4)) := o6_2
      have Zn6 : n0 ≤ h6.size := Nat.le_trans Zn5 Kq6.1
      refine Goes.st (B := T6.setTop (mkF m 61 #[.val (.int x0), .val (.int x1), .val (.long x2), .second, .val (.int x3), .val (.int x4), .val (.int (w0_4 x0 x1 x2 x3 x4)), .val (.int (j0_26_7 x0 x1 x2 x3 x4)), .val (.long (j0_50_8 x0 x1 x2 x3 x4)), .second, .unset, .unset, .unset, .unset, .unset, .unset, .unset] [(.ref b5)])) (fun t k => st6.trans k) ?_
      refine Goes.run X6 hx hown hci hcl hby (L := [(61, .astore 10, 2)]) (by decide +kernel) rfl (g' := (mkF m 63 #[.val (.int x0), .val (.int x1), .val (.long x2), .second, .val (.int x3), .val (.int x4), .val (.int (w0_4 x0 x1 x2 x3 x4)), .val (.int (j0_26_7 x0 x1 x2 x3 x4)), .val (.long (j0_50_8 x0 x1 x2 x3 x4)), .second, .val (.ref b5), .unset, .unset, .unset, .unset, .unset, .unset] [])) rfl ?_
      obtain ⟨T7, h7, X7, e7, E7, A7, D7, -, st7⟩ := newO X6 hx hZ hown (hw _ (List.mem_of_getElem? (i := 1) rfl)) (hw _ (List.mem_of_getElem? (i := 2) rfl)) (hw _ (List.mem_of_getElem? (i := 3) rfl)) e6 (g := (mkF m 63 #[.val (.int x0), .val (.int x1), .val (.long x2), .second, .val (.int x3), .val (.int x4), .val (.int (w0_4 x0 x1 x2 x3 x4)), .val (.int (j0_26_7 x0 x1 x2 x3 x4)), .val (.long (j0_50_8 x0 x1 x2 x3 x4)), .second, .val (.ref b5), .unset, .unset, .unset, .unset, .unset, .unset] [])) rfl (hb hby at_63) (by decide) (by decide)
      obtain ⟨b7, g7⟩ : ∃ z, z = h6.size := ⟨_, rfl⟩
      rw [← g7] at A7 D7 st7
      have ne_b5_b7 : b5 ≠ b7 := Nat.ne_of_lt (Nat.lt_of_lt_of_le E_b5.lt (Nat.le_of_eq g7.symm))
      have g_b7 : n0 ≤ b7 := Nat.le_trans Zn6 (Nat.le_of_eq g7.symm)
      have E_b5 := E_b5.ext E7
      have F_level_b5 := F_level_b5.ext E7
      have F_daysOverdue_b5 := F_daysOverdue_b5.ext E7
      have Zn7 : n0 ≤ h7.size := Nat.le_trans Zn6 E7.1
      have E_b7 : Exa Z h7 b7 "com/example/mahnwerk/mahnwerk/model/Suspension" := A7
      have F_level_b7 : Fld Z h7 b7 "com/example/mahnwerk/mahnwerk/model/Suspension" "level" "I" (.int (0 : Int32)) := D7 (Or.inr (hw _ (List.mem_of_getElem? (i := 11) rfl))) (ty := .int) (by decide)
      have F_daysOverdue_b7 : Fld Z h7 b7 "com/example/mahnwerk/mahnwerk/model/Suspension" "daysOverdue" "I" (.int (0 : Int32)) := D7 (Or.inr (hw _ (List.mem_of_getElem? (i := 13) rfl))) (ty := .int) (by decide)
      refine Goes.st (B := T7.setTop (mkF m 66 #[.val (.int x0), .val (.int x1), .val (.long x2), .second, .val (.int x3), .val (.int x4), .val (.int (w0_4 x0 x1 x2 x3 x4)), .val (.int (j0_26_7 x0 x1 x2 x3 x4)), .val (.long (j0_50_8 x0 x1 x2 x3 x4)), .second, .val (.ref b5), .unset, .unset, .unset, .unset, .unset, .unset] [(.ref b7)])) st7 ?_
      refine Goes.run X7 hx hown hci hcl hby (L := [(66, .dup, 1), (67, .iload 6, 2), (69, .iconst 1, 1), (70, .ixor, 1), (71, .iload 7, 2)]) (by decide +kernel) rfl (g' := (mkF m 73 #[.val (.int x0), .val (.int x1), .val (.long x2), .second, .val (.int x3), .val (.int x4), .val (.int (w0_4 x0 x1 x2 x3 x4)), .val (.int (j0_26_7 x0 x1 x2 x3 x4)), .val (.long (j0_50_8 x0 x1 x2 x3 x4)), .second, .val (.ref b5), .unset, .unset, .unset, .unset, .unset, .unset] [(.int (j0_26_7 x0 x1 x2 x3 x4)), (.int (c0_73_1 x0 x1 x2 x3 x4)), (.ref b7), (.ref b7)])) rfl ?_
      obtain ⟨_, _, ⟨T8, L8, k8, n8⟩, -, X8, ⟨Lc8, hQ8, l8, y8, z8⟩, st8⟩ := X7.specialBack hx (y := (⟨"com/example/mahnwerk/mahnwerk/model/Suspension", "<init>", "(II)V"⟩ : MethodName)) rfl hown (mvT hZ (hw _ (List.mem_of_getElem? (i := 4) rfl))) (mvT hZ (hw _ (List.mem_of_getElem? (i := 5) rfl))) (mvT hZ (hw _ (List.mem_of_getElem? (i := 6) rfl))) (by decide) (backOf (W := 1) (rm1 l Z a0 hw [] b7 (c0_73_1 x0 x1 x2 x3 x4) (j0_26_7 x0 x1 x2 x3 x4) h7 n0 Zn7 E_b7 F_level_b7 F_daysOverdue_b7 g_b7 (own_p1b x0 x1 x2 x3 x4) (own_p2 x0 x1 x2 x3 x4)) hZ (hw _ (List.mem_of_getElem? (i := 6) rfl)) (hw _ (List.mem_of_getElem? (i := 3) rfl)) (by decide) (by decide)) (g := (mkF m 73 #[.val (.int x0), .val (.int x1), .val (.long x2), .second, .val (.int x3), .val (.int x4), .val (.int (w0_4 x0 x1 x2 x3 x4)), .val (.int (j0_26_7 x0 x1 x2 x3 x4)), .val (.long (j0_50_8 x0 x1 x2 x3 x4)), .second, .val (.ref b5), .unset, .unset, .unset, .unset, .unset, .unset] [(.int (j0_26_7 x0 x1 x2 x3 x4)), (.int (c0_73_1 x0 x1 x2 x3 x4)), (.ref b7), (.ref b7)])) rfl (by rw [hml]; rfl) (Steps.refl _) (a := b7) (argsL := [(.int (c0_73_1 x0 x1 x2 x3 x4)), (.int (j0_26_7 x0 x1 x2 x3 x4))]) (rest := [(.ref b7)]) (lenOf pd0_0 rfl) rfl (by show 2 * 0 + _ ≤ _; exact Nat.le_of_eq rfl) (hb hby at_73) (fun _ _ => ⟨rfl, e7, (by decide : 2 + 0 ≤ _), (by decide : 4 + 0 ≤ _)⟩)
      dsimp only [Pt.U, Pt.locs, Pt.cells, Pt.slots] at X8 l8 y8 z8 st8 hQ8
      subst l8 y8 z8
      obtain ⟨h8, eh8⟩ : ∃ z, z = T8.heap := ⟨_, rfl⟩
      rw [← eh8] at hQ8
      have e8 : T8.heap = h8 := eh8.symm
      obtain ⟨rfl, N8q, Kq8, o8_0, o8_1, o8_2⟩ := hQ8
      have N8 := Fr.app N6 N8q
      have E_b5 := E_b5.keep Kq8
      have F_level_b5 := F_level_b5.keep Kq8 (ninS ne_b5_b7 nin0)
      have F_daysOverdue_b5 := F_daysOverdue_b5.keep Kq8 (ninS ne_b5_b7 nin0)
      have E_b7 : Exa Z h8 b7 "com/example/mahnwerk/mahnwerk/model/Suspension" := o8_0
      have F_level_b7 : Fld Z h8 b7 "com/example/mahnwerk/mahnwerk/model/Suspension" "level" "I" (.int (c0_73_1 x0 x1 x2 x3 x4)) := o8_1
      have F_daysOverdue_b7 : Fld Z h8 b7 "com/example/mahnwerk/mahnwerk/model/Suspension" "daysOverdue" "I" (.int (j0_26_7 x0 x1 x2 x3 x4)) := o8_2
      have Zn8 : n0 ≤ h8.size := Nat.le_trans Zn7 Kq8.1
      refine Goes.st (B := T8.setTop (mkF m 76 #[.val (.int x0), .val (.int x1), .val (.long x2), .second, .val (.int x3), .val (.int x4), .val (.int (w0_4 x0 x1 x2 x3 x4)), .val (.int (j0_26_7 x0 x1 x2 x3 x4)), .val (.long (j0_50_8 x0 x1 x2 x3 x4)), .second, .val (.ref b5), .unset, .unset, .unset, .unset, .unset, .unset] [(.ref b7)])) (fun t k => st8.trans k) ?_
      refine Goes.run X8 hx hown hci hcl hby (L := [(76, .astore 11, 2), (78, .aload 10, 2), (80, .lload 8, 2)]) (by decide +kernel) rfl (g' := (mkF m 82 #[.val (.int x0), .val (.int x1), .val (.long x2), .second, .val (.int x3), .val (.int x4), .val (.int (w0_4 x0 x1 x2 x3 x4)), .val (.int (j0_26_7 x0 x1 x2 x3 x4)), .val (.long (j0_50_8 x0 x1 x2 x3 x4)), .second, .val (.ref b5), .val (.ref b7), .unset, .unset, .unset, .unset, .unset] [(.long (j0_50_8 x0 x1 x2 x3 x4)), (.ref b5)])) rfl ?_
      obtain ⟨cq9, kq9, q9a, q9b, q9c⟩ := isOf hZ e8 E_b5
      obtain ⟨_, _, ⟨T9, L9, k9, n9⟩, -, X9, ⟨Lc9, hQ9, l9, y9, z9⟩, st9⟩ := X8.virtualBack hx (y := (⟨"com/example/mahnwerk/mahnwerk/model/Suspension", "byDaysOverdue", "(J)Z"⟩ : MethodName)) (z := (⟨"com/example/mahnwerk/mahnwerk/model/Suspension", "byDaysOverdue", "(J)Z"⟩ : MethodName)) hown (mvT hZ (hw _ (List.mem_of_getElem? (i := 14) rfl))) (mvT hZ (hw _ (List.mem_of_getElem? (i := 15) rfl))) (notFace_of_selects (args := #[]) (mvT hZ (hw _ (List.mem_of_getElem? (i := 17) rfl)))) (mvT hZ (hw _ (List.mem_of_getElem? (i := 17) rfl))) (mvT hZ (hw _ (List.mem_of_getElem? (i := 16) rfl))) (by decide) (backOf (W := 0) (rm2 l Z a0 hw [] b5 (j0_50_8 x0 x1 x2 x3 x4) (j0_26_7 x0 x1 x2 x3 x4) h8 n0 Zn8 F_daysOverdue_b5) hZ (hw _ (List.mem_of_getElem? (i := 18) rfl)) (hw _ (List.mem_of_getElem? (i := 3) rfl)) (by decide) (by decide)) q9a q9c (g := (mkF m 82 #[.val (.int x0), .val (.int x1), .val (.long x2), .second, .val (.int x3), .val (.int x4), .val (.int (w0_4 x0 x1 x2 x3 x4)), .val (.int (j0_26_7 x0 x1 x2 x3 x4)), .val (.long (j0_50_8 x0 x1 x2 x3 x4)), .second, .val (.ref b5), .val (.ref b7), .unset, .unset, .unset, .unset, .unset] [(.long (j0_50_8 x0 x1 x2 x3 x4)), (.ref b5)])) rfl (by rw [hml]; rfl) (Steps.refl _) (argsL := [(.long (j0_50_8 x0 x1 x2 x3 x4))]) (rest := []) (lenOf pd0_1 rfl) rfl (by show 2 * 0 + _ ≤ _; exact Nat.le_of_eq rfl) (hb hby at_82) (fun _ _ => ⟨rfl, e8, (by decide : 2 + 0 ≤ _), (by decide : 4 + 0 ≤ _)⟩)
      dsimp only [Pt.U, Pt.locs, Pt.cells, Pt.slots] at X9 l9 y9 z9 st9 hQ9
      subst l9 y9 z9
      obtain ⟨rfl, N9q, e9⟩ := hQ9
      have N9 := Fr.app N8 N9q
      refine Goes.st (B := T9.setTop (mkF m 85 #[.val (.int x0), .val (.int x1), .val (.long x2), .second, .val (.int x3), .val (.int x4), .val (.int (w0_4 x0 x1 x2 x3 x4)), .val (.int (j0_26_7 x0 x1 x2 x3 x4)), .val (.long (j0_50_8 x0 x1 x2 x3 x4)), .second, .val (.ref b5), .val (.ref b7), .unset, .unset, .unset, .unset, .unset] [(.int (r2 (j0_50_8 x0 x1 x2 x3 x4) (j0_26_7 x0 x1 x2 x3 x4)))])) (fun t k => st9.trans k) ?_
      refine Goes.run X9 hx hown hci hcl hby (L := [(85, .istore 12, 2), (87, .iload 7, 2), (89, .lload 8, 2)]) (by decide +kernel) rfl (g' := (mkF m 91 #[.val (.int x0), .val (.int x1), .val (.long x2), .second, .val (.int x3), .val (.int x4), .val (.int (w0_4 x0 x1 x2 x3 x4)), .val (.int (j0_26_7 x0 x1 x2 x3 x4)), .val (.long (j0_50_8 x0 x1 x2 x3 x4)), .second, .val (.ref b5), .val (.ref b7), .val (.int (w0_85 x0 x1 x2 x3 x4)), .unset, .unset, .unset, .unset] [(.long (j0_50_8 x0 x1 x2 x3 x4)), (.int (j0_26_7 x0 x1 x2 x3 x4))])) rfl ?_
      obtain ⟨_, _, ⟨T10, L10, k10, n10⟩, -, X10, ⟨Lc10, hQ10, l10, y10, z10⟩, st10⟩ := Jvm.LawKit.callS X9 hx (y := (⟨"com/example/mahnwerk/mahnwerk/model/SuspensionByDaysOverduePinLaw", "reference", "(IJ)Z"⟩ : MethodName)) hown (mvT hZ (hw _ (List.mem_of_getElem? (i := 19) rfl))) (mvT hZ (hw _ (List.mem_of_getElem? (i := 20) rfl))) (mvT hZ (hw _ (List.mem_of_getElem? (i := 21) rfl))) (mvT hZ (hw _ (List.mem_of_getElem? (i := 22) rfl))) (by decide) (backOf (W := 0) (rm4 l Z a0 hw [] (j0_26_7 x0 x1 x2 x3 x4) (j0_50_8 x0 x1 x2 x3 x4) h8 n0 Zn8 ) hZ (hw _ (List.mem_of_getElem? (i := 22) rfl)) (hw _ (List.mem_of_getElem? (i := 21) rfl)) (by decide) (by decide)) (g := (mkF m 91 #[.val (.int x0), .val (.int x1), .val (.long x2), .second, .val (.int x3), .val (.int x4), .val (.int (w0_4 x0 x1 x2 x3 x4)), .val (.int (j0_26_7 x0 x1 x2 x3 x4)), .val (.long (j0_50_8 x0 x1 x2 x3 x4)), .second, .val (.ref b5), .val (.ref b7), .val (.int (w0_85 x0 x1 x2 x3 x4)), .unset, .unset, .unset, .unset] [(.long (j0_50_8 x0 x1 x2 x3 x4)), (.int (j0_26_7 x0 x1 x2 x3 x4))])) rfl (by rw [hml]; rfl) (argsL := [(.int (j0_26_7 x0 x1 x2 x3 x4)), (.long (j0_50_8 x0 x1 x2 x3 x4))]) (rest := []) (lenOf pd0_2 rfl) rfl (by show 2 * 0 + _ ≤ _; exact Nat.le_of_eq rfl) (hb hby at_91) (fun _ _ => ⟨rfl, e9, (by decide : 2 + 0 ≤ _), (by decide : 4 + 0 ≤ _)⟩)
      dsimp only [Pt.U, Pt.locs, Pt.cells, Pt.slots] at X10 l10 y10 z10 st10 hQ10
      subst l10 y10 z10
      obtain ⟨rfl, N10q, e10⟩ := hQ10
      have N10 := Fr.app N9 N10q
      refine Goes.st (B := T10.setTop (mkF m 94 #[.val (.int x0), .val (.int x1), .val (.long x2), .second, .val (.int x3), .val (.int x4), .val (.int (w0_4 x0 x1 x2 x3 x4)), .val (.int (j0_26_7 x0 x1 x2 x3 x4)), .val (.long (j0_50_8 x0 x1 x2 x3 x4)), .second, .val (.ref b5), .val (.ref b7), .val (.int (w0_85 x0 x1 x2 x3 x4)), .unset, .unset, .unset, .unset] [(.int (r4 (j0_26_7 x0 x1 x2 x3 x4) (j0_50_8 x0 x1 x2 x3 x4)))])) st10 ?_
      refine Goes.run X10 hx hown hci hcl hby (L := [(94, .istore 13, 2), (96, .aload 11, 2), (98, .lload 8, 2)]) (by decide +kernel) rfl (g' := (mkF m 100 #[.val (.int x0), .val (.int x1), .val (.long x2), .second, .val (.int x3), .val (.int x4), .val (.int (w0_4 x0 x1 x2 x3 x4)), .val (.int (j0_26_7 x0 x1 x2 x3 x4)), .val (.long (j0_50_8 x0 x1 x2 x3 x4)), .second, .val (.ref b5), .val (.ref b7), .val (.int (w0_85 x0 x1 x2 x3 x4)), .val (.int (w0_94 x0 x1 x2 x3 x4)), .unset, .unset, .unset] [(.long (j0_50_8 x0 x1 x2 x3 x4)), (.ref b7)])) rfl ?_
      obtain ⟨cq11, kq11, q11a, q11b, q11c⟩ := isOf hZ e10 E_b7
      obtain ⟨_, _, ⟨T11, L11, k11, n11⟩, -, X11, ⟨Lc11, hQ11, l11, y11, z11⟩, st11⟩ := X10.virtualBack hx (y := (⟨"com/example/mahnwerk/mahnwerk/model/Suspension", "byDaysOverdue", "(J)Z"⟩ : MethodName)) (z := (⟨"com/example/mahnwerk/mahnwerk/model/Suspension", "byDaysOverdue", "(J)Z"⟩ : MethodName)) hown (mvT hZ (hw _ (List.mem_of_getElem? (i := 14) rfl))) (mvT hZ (hw _ (List.mem_of_getElem? (i := 15) rfl))) (notFace_of_selects (args := #[]) (mvT hZ (hw _ (List.mem_of_getElem? (i := 17) rfl)))) (mvT hZ (hw _ (List.mem_of_getElem? (i := 17) rfl))) (mvT hZ (hw _ (List.mem_of_getElem? (i := 16) rfl))) (by decide) (backOf (W := 0) (rm2 l Z a0 hw [] b7 (j0_50_8 x0 x1 x2 x3 x4) (j0_26_7 x0 x1 x2 x3 x4) h8 n0 Zn8 F_daysOverdue_b7) hZ (hw _ (List.mem_of_getElem? (i := 18) rfl)) (hw _ (List.mem_of_getElem? (i := 3) rfl)) (by decide) (by decide)) q11a q11c (g := (mkF m 100 #[.val (.int x0), .val (.int x1), .val (.long x2), .second, .val (.int x3), .val (.int x4), .val (.int (w0_4 x0 x1 x2 x3 x4)), .val (.int (j0_26_7 x0 x1 x2 x3 x4)), .val (.long (j0_50_8 x0 x1 x2 x3 x4)), .second, .val (.ref b5), .val (.ref b7), .val (.int (w0_85 x0 x1 x2 x3 x4)), .val (.int (w0_94 x0 x1 x2 x3 x4)), .unset, .unset, .unset] [(.long (j0_50_8 x0 x1 x2 x3 x4)), (.ref b7)])) rfl (by rw [hml]; rfl) (Steps.refl _) (argsL := [(.long (j0_50_8 x0 x1 x2 x3 x4))]) (rest := []) (lenOf pd0_1 rfl) rfl (by show 2 * 0 + _ ≤ _; exact Nat.le_of_eq rfl) (hb hby at_100) (fun _ _ => ⟨rfl, e10, (by decide : 2 + 0 ≤ _), (by decide : 4 + 0 ≤ _)⟩)
      dsimp only [Pt.U, Pt.locs, Pt.cells, Pt.slots] at X11 l11 y11 z11 st11 hQ11
      subst l11 y11 z11
      obtain ⟨rfl, N11q, e11⟩ := hQ11
      have N11 := Fr.app N10 N11q
      refine Goes.st (B := T11.setTop (mkF m 103 #[.val (.int x0), .val (.int x1), .val (.long x2), .second, .val (.int x3), .val (.int x4), .val (.int (w0_4 x0 x1 x2 x3 x4)), .val (.int (j0_26_7 x0 x1 x2 x3 x4)), .val (.long (j0_50_8 x0 x1 x2 x3 x4)), .second, .val (.ref b5), .val (.ref b7), .val (.int (w0_85 x0 x1 x2 x3 x4)), .val (.int (w0_94 x0 x1 x2 x3 x4)), .unset, .unset, .unset] [(.int (r2 (j0_50_8 x0 x1 x2 x3 x4) (j0_26_7 x0 x1 x2 x3 x4)))])) (fun t k => st11.trans k) ?_
      refine Goes.run X11 hx hown hci hcl hby (L := [(103, .istore 14, 2), (105, .aload 10, 2), (107, .ldc2_w 25, 3)]) (by decide +kernel) rfl (g' := (mkF m 110 #[.val (.int x0), .val (.int x1), .val (.long x2), .second, .val (.int x3), .val (.int x4), .val (.int (w0_4 x0 x1 x2 x3 x4)), .val (.int (j0_26_7 x0 x1 x2 x3 x4)), .val (.long (j0_50_8 x0 x1 x2 x3 x4)), .second, .val (.ref b5), .val (.ref b7), .val (.int (w0_85 x0 x1 x2 x3 x4)), .val (.int (w0_94 x0 x1 x2 x3 x4)), .val (.int (w0_85 x0 x1 x2 x3 x4)), .unset, .unset] [(.long (9223372036854775807 : Int64)), (.ref b5)])) rfl ?_
      obtain ⟨cq12, kq12, q12a, q12b, q12c⟩ := isOf hZ e11 E_b5
      obtain ⟨_, _, ⟨T12, L12, k12, n12⟩, -, X12, ⟨Lc12, hQ12, l12, y12, z12⟩, st12⟩ := X11.virtualBack hx (y := (⟨"com/example/mahnwerk/mahnwerk/model/Suspension", "byDaysOverdue", "(J)Z"⟩ : MethodName)) (z := (⟨"com/example/mahnwerk/mahnwerk/model/Suspension", "byDaysOverdue", "(J)Z"⟩ : MethodName)) hown (mvT hZ (hw _ (List.mem_of_getElem? (i := 14) rfl))) (mvT hZ (hw _ (List.mem_of_getElem? (i := 15) rfl))) (notFace_of_selects (args := #[]) (mvT hZ (hw _ (List.mem_of_getElem? (i := 17) rfl)))) (mvT hZ (hw _ (List.mem_of_getElem? (i := 17) rfl))) (mvT hZ (hw _ (List.mem_of_getElem? (i := 16) rfl))) (by decide) (backOf (W := 0) (rm2 l Z a0 hw [] b5 (9223372036854775807 : Int64) (j0_26_7 x0 x1 x2 x3 x4) h8 n0 Zn8 F_daysOverdue_b5) hZ (hw _ (List.mem_of_getElem? (i := 18) rfl)) (hw _ (List.mem_of_getElem? (i := 3) rfl)) (by decide) (by decide)) q12a q12c (g := (mkF m 110 #[.val (.int x0), .val (.int x1), .val (.long x2), .second, .val (.int x3), .val (.int x4), .val (.int (w0_4 x0 x1 x2 x3 x4)), .val (.int (j0_26_7 x0 x1 x2 x3 x4)), .val (.long (j0_50_8 x0 x1 x2 x3 x4)), .second, .val (.ref b5), .val (.ref b7), .val (.int (w0_85 x0 x1 x2 x3 x4)), .val (.int (w0_94 x0 x1 x2 x3 x4)), .val (.int (w0_85 x0 x1 x2 x3 x4)), .unset, .unset] [(.long (9223372036854775807 : Int64)), (.ref b5)])) rfl (by rw [hml]; rfl) (Steps.refl _) (argsL := [(.long (9223372036854775807 : Int64))]) (rest := []) (lenOf pd0_1 rfl) rfl (by show 2 * 0 + _ ≤ _; exact Nat.le_of_eq rfl) (hb hby at_110) (fun _ _ => ⟨rfl, e11, (by decide : 2 + 0 ≤ _), (by decide : 4 + 0 ≤ _)⟩)
      dsimp only [Pt.U, Pt.locs, Pt.cells, Pt.slots] at X12 l12 y12 z12 st12 hQ12
      subst l12 y12 z12
      obtain ⟨rfl, N12q, e12⟩ := hQ12
      have N12 := Fr.app N11 N12q
      refine Goes.st (B := T12.setTop (mkF m 113 #[.val (.int x0), .val (.int x1), .val (.long x2), .second, .val (.int x3), .val (.int x4), .val (.int (w0_4 x0 x1 x2 x3 x4)), .val (.int (j0_26_7 x0 x1 x2 x3 x4)), .val (.long (j0_50_8 x0 x1 x2 x3 x4)), .second, .val (.ref b5), .val (.ref b7), .val (.int (w0_85 x0 x1 x2 x3 x4)), .val (.int (w0_94 x0 x1 x2 x3 x4)), .val (.int (w0_85 x0 x1 x2 x3 x4)), .unset, .unset] [(.int (r2 (9223372036854775807 : Int64) (j0_26_7 x0 x1 x2 x3 x4)))])) (fun t k => st12.trans k) ?_
      refine Goes.run X12 hx hown hci hcl hby (L := [(113, .istore 15, 2), (115, .aload 10, 2), (117, .ldc2_w 27, 3)]) (by decide +kernel) rfl (g' := (mkF m 120 #[.val (.int x0), .val (.int x1), .val (.long x2), .second, .val (.int x3), .val (.int x4), .val (.int (w0_4 x0 x1 x2 x3 x4)), .val (.int (j0_26_7 x0 x1 x2 x3 x4)), .val (.long (j0_50_8 x0 x1 x2 x3 x4)), .second, .val (.ref b5), .val (.ref b7), .val (.int (w0_85 x0 x1 x2 x3 x4)), .val (.int (w0_94 x0 x1 x2 x3 x4)), .val (.int (w0_85 x0 x1 x2 x3 x4)), .val (.int (w0_113 x0 x1 x2 x3 x4)), .unset] [(.long (-9223372036854775808 : Int64)), (.ref b5)])) rfl ?_
      obtain ⟨cq13, kq13, q13a, q13b, q13c⟩ := isOf hZ e12 E_b5
      obtain ⟨_, _, ⟨T13, L13, k13, n13⟩, -, X13, ⟨Lc13, hQ13, l13, y13, z13⟩, st13⟩ := X12.virtualBack hx (y := (⟨"com/example/mahnwerk/mahnwerk/model/Suspension", "byDaysOverdue", "(J)Z"⟩ : MethodName)) (z := (⟨"com/example/mahnwerk/mahnwerk/model/Suspension", "byDaysOverdue", "(J)Z"⟩ : MethodName)) hown (mvT hZ (hw _ (List.mem_of_getElem? (i := 14) rfl))) (mvT hZ (hw _ (List.mem_of_getElem? (i := 15) rfl))) (notFace_of_selects (args := #[]) (mvT hZ (hw _ (List.mem_of_getElem? (i := 17) rfl)))) (mvT hZ (hw _ (List.mem_of_getElem? (i := 17) rfl))) (mvT hZ (hw _ (List.mem_of_getElem? (i := 16) rfl))) (by decide) (backOf (W := 0) (rm2 l Z a0 hw [] b5 (-9223372036854775808 : Int64) (j0_26_7 x0 x1 x2 x3 x4) h8 n0 Zn8 F_daysOverdue_b5) hZ (hw _ (List.mem_of_getElem? (i := 18) rfl)) (hw _ (List.mem_of_getElem? (i := 3) rfl)) (by decide) (by decide)) q13a q13c (g := (mkF m 120 #[.val (.int x0), .val (.int x1), .val (.long x2), .second, .val (.int x3), .val (.int x4), .val (.int (w0_4 x0 x1 x2 x3 x4)), .val (.int (j0_26_7 x0 x1 x2 x3 x4)), .val (.long (j0_50_8 x0 x1 x2 x3 x4)), .second, .val (.ref b5), .val (.ref b7), .val (.int (w0_85 x0 x1 x2 x3 x4)), .val (.int (w0_94 x0 x1 x2 x3 x4)), .val (.int (w0_85 x0 x1 x2 x3 x4)), .val (.int (w0_113 x0 x1 x2 x3 x4)), .unset] [(.long (-9223372036854775808 : Int64)), (.ref b5)])) rfl (by rw [hml]; rfl) (Steps.refl _) (argsL := [(.long (-9223372036854775808 : Int64))]) (rest := []) (lenOf pd0_1 rfl) rfl (by show 2 * 0 + _ ≤ _; exact Nat.le_of_eq rfl) (hb hby at_120) (fun _ _ => ⟨rfl, e12, (by decide : 2 + 0 ≤ _), (by decide : 4 + 0 ≤ _)⟩)
      dsimp only [Pt.U, Pt.locs, Pt.cells, Pt.slots] at X13 l13 y13 z13 st13 hQ13
      subst l13 y13 z13
      obtain ⟨rfl, N13q, e13⟩ := hQ13
      have N13 := Fr.app N12 N13q
      refine Goes.st (B := T13.setTop (mkF m 123 #[.val (.int x0), .val (.int x1), .val (.long x2), .second, .val (.int x3), .val (.int x4), .val (.int (w0_4 x0 x1 x2 x3 x4)), .val (.int (j0_26_7 x0 x1 x2 x3 x4)), .val (.long (j0_50_8 x0 x1 x2 x3 x4)), .second, .val (.ref b5), .val (.ref b7), .val (.int (w0_85 x0 x1 x2 x3 x4)), .val (.int (w0_94 x0 x1 x2 x3 x4)), .val (.int (w0_85 x0 x1 x2 x3 x4)), .val (.int (w0_113 x0 x1 x2 x3 x4)), .unset] [(.int (r2 (-9223372036854775808 : Int64) (j0_26_7 x0 x1 x2 x3 x4)))])) (fun t k => st13.trans k) ?_
      refine Goes.run X13 hx hown hci hcl hby (L := [(123, .istore 16, 2), (125, .iload 12, 2), (127, .iload 13, 2)]) (by decide +kernel) rfl (g' := (mkF m 129 #[.val (.int x0), .val (.int x1), .val (.long x2), .second, .val (.int x3), .val (.int x4), .val (.int (w0_4 x0 x1 x2 x3 x4)), .val (.int (j0_26_7 x0 x1 x2 x3 x4)), .val (.long (j0_50_8 x0 x1 x2 x3 x4)), .second, .val (.ref b5), .val (.ref b7), .val (.int (w0_85 x0 x1 x2 x3 x4)), .val (.int (w0_94 x0 x1 x2 x3 x4)), .val (.int (w0_85 x0 x1 x2 x3 x4)), .val (.int (w0_113 x0 x1 x2 x3 x4)), .val (.int (w0_123 x0 x1 x2 x3 x4))] [(.int (w0_94 x0 x1 x2 x3 x4)), (.int (w0_85 x0 x1 x2 x3 x4))])) rfl ?_
      by_cases hc129_14 : (w0_85 x0 x1 x2 x3 x4) = (w0_94 x0 x1 x2 x3 x4)
      · skip
        refine Goes.st (B := T13.setTop (mkF m 132 #[.val (.int x0), .val (.int x1), .val (.long x2), .second, .val (.int x3), .val (.int x4), .val (.int (w0_4 x0 x1 x2 x3 x4)), .val (.int (j0_26_7 x0 x1 x2 x3 x4)), .val (.long (j0_50_8 x0 x1 x2 x3 x4)), .second, .val (.ref b5), .val (.ref b7), .val (.int (w0_85 x0 x1 x2 x3 x4)), .val (.int (w0_94 x0 x1 x2 x3 x4)), .val (.int (w0_85 x0 x1 x2 x3 x4)), .val (.int (w0_113 x0 x1 x2 x3 x4)), .val (.int (w0_123 x0 x1 x2 x3 x4))] [])) (fun t k => ?_) ?_
        · refine XS.icmpNo X13.here hx rfl (hb hby at_129) rfl (teq hc129_14).2 ?_
          exact k
        refine Goes.run X13 hx hown hci hcl hby (L := [(132, .iload 14, 2), (134, .iload 12, 2)]) (by decide +kernel) rfl (g' := (mkF m 136 #[.val (.int x0), .val (.int x1), .val (.long x2), .second, .val (.int x3), .val (.int x4), .val (.int (w0_4 x0 x1 x2 x3 x4)), .val (.int (j0_26_7 x0 x1 x2 x3 x4)), .val (.long (j0_50_8 x0 x1 x2 x3 x4)), .second, .val (.ref b5), .val (.ref b7), .val (.int (w0_85 x0 x1 x2 x3 x4)), .val (.int (w0_94 x0 x1 x2 x3 x4)), .val (.int (w0_85 x0 x1 x2 x3 x4)), .val (.int (w0_113 x0 x1 x2 x3 x4)), .val (.int (w0_123 x0 x1 x2 x3 x4))] [(.int (w0_85 x0 x1 x2 x3 x4)), (.int (w0_85 x0 x1 x2 x3 x4))])) rfl ?_
        have hc136_15 : (w0_85 x0 x1 x2 x3 x4) = (w0_85 x0 x1 x2 x3 x4) := rfl
        refine Goes.st (B := T13.setTop (mkF m 139 #[.val (.int x0), .val (.int x1), .val (.long x2), .second, .val (.int x3), .val (.int x4), .val (.int (w0_4 x0 x1 x2 x3 x4)), .val (.int (j0_26_7 x0 x1 x2 x3 x4)), .val (.long (j0_50_8 x0 x1 x2 x3 x4)), .second, .val (.ref b5), .val (.ref b7), .val (.int (w0_85 x0 x1 x2 x3 x4)), .val (.int (w0_94 x0 x1 x2 x3 x4)), .val (.int (w0_85 x0 x1 x2 x3 x4)), .val (.int (w0_113 x0 x1 x2 x3 x4)), .val (.int (w0_123 x0 x1 x2 x3 x4))] [])) (fun t k => ?_) ?_
        · refine XS.icmpNo X13.here hx rfl (hb hby at_136) rfl (teq hc136_15).2 ?_
          exact k
        refine Goes.run X13 hx hown hci hcl hby (L := [(139, .iload 15, 2), (141, .iload 7, 2)]) (by decide +kernel) rfl (g' := (mkF m 143 #[.val (.int x0), .val (.int x1), .val (.long x2), .second, .val (.int x3), .val (.int x4), .val (.int (w0_4 x0 x1 x2 x3 x4)), .val (.int (j0_26_7 x0 x1 x2 x3 x4)), .val (.long (j0_50_8 x0 x1 x2 x3 x4)), .second, .val (.ref b5), .val (.ref b7), .val (.int (w0_85 x0 x1 x2 x3 x4)), .val (.int (w0_94 x0 x1 x2 x3 x4)), .val (.int (w0_85 x0 x1 x2 x3 x4)), .val (.int (w0_113 x0 x1 x2 x3 x4)), .val (.int (w0_123 x0 x1 x2 x3 x4))] [(.int (j0_26_7 x0 x1 x2 x3 x4)), (.int (w0_113 x0 x1 x2 x3 x4))])) rfl ?_
        have jn151_17 : Goes p e below s (QL (some (.int (r0 x0 x1 x2 x3 x4))) n0) room_1.cells room_1.slots (T13.setTop (mkF m 151 #[.val (.int x0), .val (.int x1), .val (.long x2), .second, .val (.int x3), .val (.int x4), .val (.int (w0_4 x0 x1 x2 x3 x4)), .val (.int (j0_26_7 x0 x1 x2 x3 x4)), .val (.long (j0_50_8 x0 x1 x2 x3 x4)), .second, .val (.ref b5), .val (.ref b7), .val (.int (w0_85 x0 x1 x2 x3 x4)), .val (.int (w0_94 x0 x1 x2 x3 x4)), .val (.int (w0_85 x0 x1 x2 x3 x4)), .val (.int (w0_113 x0 x1 x2 x3 x4)), .val (.int (w0_123 x0 x1 x2 x3 x4))] [(.int (j0_151_s0 x0 x1 x2 x3 x4)), (.int (w0_113 x0 x1 x2 x3 x4))])) := by
          by_cases hc151_18 : (w0_113 x0 x1 x2 x3 x4) = (j0_151_s0 x0 x1 x2 x3 x4)
          · skip
            refine Goes.st (B := T13.setTop (mkF m 154 #[.val (.int x0), .val (.int x1), .val (.long x2), .second, .val (.int x3), .val (.int x4), .val (.int (w0_4 x0 x1 x2 x3 x4)), .val (.int (j0_26_7 x0 x1 x2 x3 x4)), .val (.long (j0_50_8 x0 x1 x2 x3 x4)), .second, .val (.ref b5), .val (.ref b7), .val (.int (w0_85 x0 x1 x2 x3 x4)), .val (.int (w0_94 x0 x1 x2 x3 x4)), .val (.int (w0_85 x0 x1 x2 x3 x4)), .val (.int (w0_113 x0 x1 x2 x3 x4)), .val (.int (w0_123 x0 x1 x2 x3 x4))] [])) (fun t k => ?_) ?_
            · refine XS.icmpNo X13.here hx rfl (hb hby at_151) rfl (teq hc151_18).2 ?_
              exact k
            refine Goes.run X13 hx hown hci hcl hby (L := [(154, .iload 16, 2)]) (by decide +kernel) rfl (g' := (mkF m 156 #[.val (.int x0), .val (.int x1), .val (.long x2), .second, .val (.int x3), .val (.int x4), .val (.int (w0_4 x0 x1 x2 x3 x4)), .val (.int (j0_26_7 x0 x1 x2 x3 x4)), .val (.long (j0_50_8 x0 x1 x2 x3 x4)), .second, .val (.ref b5), .val (.ref b7), .val (.int (w0_85 x0 x1 x2 x3 x4)), .val (.int (w0_94 x0 x1 x2 x3 x4)), .val (.int (w0_85 x0 x1 x2 x3 x4)), .val (.int (w0_113 x0 x1 x2 x3 x4)), .val (.int (w0_123 x0 x1 x2 x3 x4))] [(.int (w0_123 x0 x1 x2 x3 x4))])) rfl ?_
            by_cases hc156_19 : (w0_123 x0 x1 x2 x3 x4) = (0 : Int32)
            · skip
              refine Goes.st (B := T13.setTop (mkF m 159 #[.val (.int x0), .val (.int x1), .val (.long x2), .second, .val (.int x3), .val (.int x4), .val (.int (w0_4 x0 x1 x2 x3 x4)), .val (.int (j0_26_7 x0 x1 x2 x3 x4)), .val (.long (j0_50_8 x0 x1 x2 x3 x4)), .second, .val (.ref b5), .val (.ref b7), .val (.int (w0_85 x0 x1 x2 x3 x4)), .val (.int (w0_94 x0 x1 x2 x3 x4)), .val (.int (w0_85 x0 x1 x2 x3 x4)), .val (.int (w0_113 x0 x1 x2 x3 x4)), .val (.int (w0_123 x0 x1 x2 x3 x4))] [])) (fun t k => ?_) ?_
              · refine XS.ifNo X13.here hx rfl (hb hby at_156) rfl ((if0 _ _).trans (teq hc156_19).2) ?_
                exact k
              refine Goes.run X13 hx hown hci hcl hby (L := [(159, .aload 10, 2)]) (by decide +kernel) rfl (g' := (mkF m 161 #[.val (.int x0), .val (.int x1), .val (.long x2), .second, .val (.int x3), .val (.int x4), .val (.int (w0_4 x0 x1 x2 x3 x4)), .val (.int (j0_26_7 x0 x1 x2 x3 x4)), .val (.long (j0_50_8 x0 x1 x2 x3 x4)), .second, .val (.ref b5), .val (.ref b7), .val (.int (w0_85 x0 x1 x2 x3 x4)), .val (.int (w0_94 x0 x1 x2 x3 x4)), .val (.int (w0_85 x0 x1 x2 x3 x4)), .val (.int (w0_113 x0 x1 x2 x3 x4)), .val (.int (w0_123 x0 x1 x2 x3 x4))] [(.ref b5)])) rfl ?_
              obtain ⟨cq20, kq20, q20a, q20b, q20c⟩ := isOf hZ e13 E_b5
              obtain ⟨_, _, ⟨T20, L20, k20, n20⟩, -, X20, ⟨Lc20, hQ20, l20, y20, z20⟩, st20⟩ := X13.virtualBack hx (y := (⟨"com/example/mahnwerk/mahnwerk/model/Suspension", "daysOverdue", "()I"⟩ : MethodName)) (z := (⟨"com/example/mahnwerk/mahnwerk/model/Suspension", "daysOverdue", "()I"⟩ : MethodName)) hown (mvT hZ (hw _ (List.mem_of_getElem? (i := 25) rfl))) (mvT hZ (hw _ (List.mem_of_getElem? (i := 26) rfl))) (notFace_of_selects (args := #[]) (mvT hZ (hw _ (List.mem_of_getElem? (i := 28) rfl)))) (mvT hZ (hw _ (List.mem_of_getElem? (i := 28) rfl))) (mvT hZ (hw _ (List.mem_of_getElem? (i := 27) rfl))) (by decide) (backOf (W := 0) (rm3 l Z a0 hw [] b5 (j0_26_7 x0 x1 x2 x3 x4) h8 n0 Zn8 F_daysOverdue_b5) hZ (hw _ (List.mem_of_getElem? (i := 29) rfl)) (hw _ (List.mem_of_getElem? (i := 3) rfl)) (by decide) (by decide)) q20a q20c (g := (mkF m 161 #[.val (.int x0), .val (.int x1), .val (.long x2), .second, .val (.int x3), .val (.int x4), .val (.int (w0_4 x0 x1 x2 x3 x4)), .val (.int (j0_26_7 x0 x1 x2 x3 x4)), .val (.long (j0_50_8 x0 x1 x2 x3 x4)), .second, .val (.ref b5), .val (.ref b7), .val (.int (w0_85 x0 x1 x2 x3 x4)), .val (.int (w0_94 x0 x1 x2 x3 x4)), .val (.int (w0_85 x0 x1 x2 x3 x4)), .val (.int (w0_113 x0 x1 x2 x3 x4)), .val (.int (w0_123 x0 x1 x2 x3 x4))] [(.ref b5)])) rfl (by rw [hml]; rfl) (Steps.refl _) (argsL := []) (rest := []) (lenOf pd0_3 rfl) rfl (by show 2 * 0 + _ ≤ _; exact Nat.le_of_eq rfl) (hb hby at_161) (fun _ _ => ⟨rfl, e13, (by decide : 2 + 0 ≤ _), (by decide : 4 + 0 ≤ _)⟩)
              dsimp only [Pt.U, Pt.locs, Pt.cells, Pt.slots] at X20 l20 y20 z20 st20 hQ20
              subst l20 y20 z20
              obtain ⟨rfl, N20q, e20⟩ := hQ20
              have N20 := Fr.app N13 N20q
              refine Goes.st (B := T20.setTop (mkF m 164 #[.val (.int x0), .val (.int x1), .val (.long x2), .second, .val (.int x3), .val (.int x4), .val (.int (w0_4 x0 x1 x2 x3 x4)), .val (.int (j0_26_7 x0 x1 x2 x3 x4)), .val (.long (j0_50_8 x0 x1 x2 x3 x4)), .second, .val (.ref b5), .val (.ref b7), .val (.int (w0_85 x0 x1 x2 x3 x4)), .val (.int (w0_94 x0 x1 x2 x3 x4)), .val (.int (w0_85 x0 x1 x2 x3 x4)), .val (.int (w0_113 x0 x1 x2 x3 x4)), .val (.int (w0_123 x0 x1 x2 x3 x4))] [(.int (r3 (j0_26_7 x0 x1 x2 x3 x4)))])) (fun t k => st20.trans k) ?_
              refine Goes.run X20 hx hown hci hcl hby (L := [(164, .iload 7, 2)]) (by decide +kernel) rfl (g' := (mkF m 166 #[.val (.int x0), .val (.int x1), .val (.long x2), .second, .val (.int x3), .val (.int x4), .val (.int (w0_4 x0 x1 x2 x3 x4)), .val (.int (j0_26_7 x0 x1 x2 x3 x4)), .val (.long (j0_50_8 x0 x1 x2 x3 x4)), .second, .val (.ref b5), .val (.ref b7), .val (.int (w0_85 x0 x1 x2 x3 x4)), .val (.int (w0_94 x0 x1 x2 x3 x4)), .val (.int (w0_85 x0 x1 x2 x3 x4)), .val (.int (w0_113 x0 x1 x2 x3 x4)), .val (.int (w0_123 x0 x1 x2 x3 x4))] [(.int (j0_26_7 x0 x1 x2 x3 x4)), (.int (r3 (j0_26_7 x0 x1 x2 x3 x4)))])) rfl ?_
              by_cases hc166_21 : (r3 (j0_26_7 x0 x1 x2 x3 x4)) = (j0_26_7 x0 x1 x2 x3 x4)
              · skip
                refine Goes.st (B := T20.setTop (mkF m 169 #[.val (.int x0), .val (.int x1), .val (.long x2), .second, .val (.int x3), .val (.int x4), .val (.int (w0_4 x0 x1 x2 x3 x4)), .val (.int (j0_26_7 x0 x1 x2 x3 x4)), .val (.long (j0_50_8 x0 x1 x2 x3 x4)), .second, .val (.ref b5), .val (.ref b7), .val (.int (w0_85 x0 x1 x2 x3 x4)), .val (.int (w0_94 x0 x1 x2 x3 x4)), .val (.int (w0_85 x0 x1 x2 x3 x4)), .val (.int (w0_113 x0 x1 x2 x3 x4)), .val (.int (w0_123 x0 x1 x2 x3 x4))] [])) (fun t k => ?_) ?_
                · refine XS.icmpNo X20.here hx rfl (hb hby at_166) rfl (teq hc166_21).2 ?_
                  exact k
                refine Goes.run X20 hx hown hci hcl hby (L := [(169, .iconst 1, 1), (170, .goto 4, 3)]) (by decide +kernel) rfl (g' := (mkF m 174 #[.val (.int x0), .val (.int x1), .val (.long x2), .second, .val (.int x3), .val (.int x4), .val (.int (w0_4 x0 x1 x2 x3 x4)), .val (.int (j0_26_7 x0 x1 x2 x3 x4)), .val (.long (j0_50_8 x0 x1 x2 x3 x4)), .second, .val (.ref b5), .val (.ref b7), .val (.int (w0_85 x0 x1 x2 x3 x4)), .val (.int (w0_94 x0 x1 x2 x3 x4)), .val (.int (w0_85 x0 x1 x2 x3 x4)), .val (.int (w0_113 x0 x1 x2 x3 x4)), .val (.int (w0_123 x0 x1 x2 x3 x4))] [(.int (1 : Int32))])) rfl ?_
                exact Goes.retB X20 hx hlk (t := .boolean) Bd.returns (by simp) (hb hby at_174) rfl ⟨(congrArg (fun z => some (Value.int z)) (show (r0 x0 x1 x2 x3 x4) = (1 : Int32) from ((((if_pos hc129_14).trans (if_pos hc151_18)).trans (if_pos hc156_19)).trans (if_pos hc166_21))).symm), N20⟩ (by decide) (by decide)
              · skip
                refine Goes.st (B := T20.setTop (mkF m 173 #[.val (.int x0), .val (.int x1), .val (.long x2), .second, .val (.int x3), .val (.int x4), .val (.int (w0_4 x0 x1 x2 x3 x4)), .val (.int (j0_26_7 x0 x1 x2 x3 x4)), .val (.long (j0_50_8 x0 x1 x2 x3 x4)), .second, .val (.ref b5), .val (.ref b7), .val (.int (w0_85 x0 x1 x2 x3 x4)), .val (.int (w0_94 x0 x1 x2 x3 x4)), .val (.int (w0_85 x0 x1 x2 x3 x4)), .val (.int (w0_113 x0 x1 x2 x3 x4)), .val (.int (w0_123 x0 x1 x2 x3 x4))] [])) (fun t k => ?_) ?_
                · refine XS.icmpYes X20.here hx rfl (pc0 := 166) (pc' := 173) rfl (hb hby at_166) rfl (feq hc166_21).2 (by decide) (by decide) ?_
                  exact k
                refine Goes.run X20 hx hown hci hcl hby (L := [(173, .iconst 0, 1)]) (by decide +kernel) rfl (g' := (mkF m 174 #[.val (.int x0), .val (.int x1), .val (.long x2), .second, .val (.int x3), .val (.int x4), .val (.int (w0_4 x0 x1 x2 x3 x4)), .val (.int (j0_26_7 x0 x1 x2 x3 x4)), .val (.long (j0_50_8 x0 x1 x2 x3 x4)), .second, .val (.ref b5), .val (.ref b7), .val (.int (w0_85 x0 x1 x2 x3 x4)), .val (.int (w0_94 x0 x1 x2 x3 x4)), .val (.int (w0_85 x0 x1 x2 x3 x4)), .val (.int (w0_113 x0 x1 x2 x3 x4)), .val (.int (w0_123 x0 x1 x2 x3 x4))] [(.int (0 : Int32))])) rfl ?_
                exact Goes.retB X20 hx hlk (t := .boolean) Bd.returns (by simp) (hb hby at_174) rfl ⟨(congrArg (fun z => some (Value.int z)) (show (r0 x0 x1 x2 x3 x4) = (0 : Int32) from ((((if_pos hc129_14).trans (if_pos hc151_18)).trans (if_pos hc156_19)).trans (if_neg hc166_21))).symm), N20⟩ (by decide) (by decide)
            · skip
              refine Goes.st (B := T13.setTop (mkF m 173 #[.val (.int x0), .val (.int x1), .val (.long x2), .second, .val (.int x3), .val (.int x4), .val (.int (w0_4 x0 x1 x2 x3 x4)), .val (.int (j0_26_7 x0 x1 x2 x3 x4)), .val (.long (j0_50_8 x0 x1 x2 x3 x4)), .second, .val (.ref b5), .val (.ref b7), .val (.int (w0_85 x0 x1 x2 x3 x4)), .val (.int (w0_94 x0 x1 x2 x3 x4)), .val (.int (w0_85 x0 x1 x2 x3 x4)), .val (.int (w0_113 x0 x1 x2 x3 x4)), .val (.int (w0_123 x0 x1 x2 x3 x4))] [])) (fun t k => ?_) ?_
              · refine XS.ifYes X13.here hx rfl (pc0 := 156) (pc' := 173) rfl (hb hby at_156) rfl ((if0 _ _).trans (feq hc156_19).2) (by decide) (by decide) ?_
                exact k
              refine Goes.run X13 hx hown hci hcl hby (L := [(173, .iconst 0, 1)]) (by decide +kernel) rfl (g' := (mkF m 174 #[.val (.int x0), .val (.int x1), .val (.long x2), .second, .val (.int x3), .val (.int x4), .val (.int (w0_4 x0 x1 x2 x3 x4)), .val (.int (j0_26_7 x0 x1 x2 x3 x4)), .val (.long (j0_50_8 x0 x1 x2 x3 x4)), .second, .val (.ref b5), .val (.ref b7), .val (.int (w0_85 x0 x1 x2 x3 x4)), .val (.int (w0_94 x0 x1 x2 x3 x4)), .val (.int (w0_85 x0 x1 x2 x3 x4)), .val (.int (w0_113 x0 x1 x2 x3 x4)), .val (.int (w0_123 x0 x1 x2 x3 x4))] [(.int (0 : Int32))])) rfl ?_
              exact Goes.retB X13 hx hlk (t := .boolean) Bd.returns (by simp) (hb hby at_174) rfl ⟨(congrArg (fun z => some (Value.int z)) (show (r0 x0 x1 x2 x3 x4) = (0 : Int32) from (((if_pos hc129_14).trans (if_pos hc151_18)).trans (if_neg hc156_19))).symm), N13⟩ (by decide) (by decide)
          · skip
            refine Goes.st (B := T13.setTop (mkF m 173 #[.val (.int x0), .val (.int x1), .val (.long x2), .second, .val (.int x3), .val (.int x4), .val (.int (w0_4 x0 x1 x2 x3 x4)), .val (.int (j0_26_7 x0 x1 x2 x3 x4)), .val (.long (j0_50_8 x0 x1 x2 x3 x4)), .second, .val (.ref b5), .val (.ref b7), .val (.int (w0_85 x0 x1 x2 x3 x4)), .val (.int (w0_94 x0 x1 x2 x3 x4)), .val (.int (w0_85 x0 x1 x2 x3 x4)), .val (.int (w0_113 x0 x1 x2 x3 x4)), .val (.int (w0_123 x0 x1 x2 x3 x4))] [])) (fun t k => ?_) ?_
            · refine XS.icmpYes X13.here hx rfl (pc0 := 151) (pc' := 173) rfl (hb hby at_151) rfl (feq hc151_18).2 (by decide) (by decide) ?_
              exact k
            refine Goes.run X13 hx hown hci hcl hby (L := [(173, .iconst 0, 1)]) (by decide +kernel) rfl (g' := (mkF m 174 #[.val (.int x0), .val (.int x1), .val (.long x2), .second, .val (.int x3), .val (.int x4), .val (.int (w0_4 x0 x1 x2 x3 x4)), .val (.int (j0_26_7 x0 x1 x2 x3 x4)), .val (.long (j0_50_8 x0 x1 x2 x3 x4)), .second, .val (.ref b5), .val (.ref b7), .val (.int (w0_85 x0 x1 x2 x3 x4)), .val (.int (w0_94 x0 x1 x2 x3 x4)), .val (.int (w0_85 x0 x1 x2 x3 x4)), .val (.int (w0_113 x0 x1 x2 x3 x4)), .val (.int (w0_123 x0 x1 x2 x3 x4))] [(.int (0 : Int32))])) rfl ?_
            exact Goes.retB X13 hx hlk (t := .boolean) Bd.returns (by simp) (hb hby at_174) rfl ⟨(congrArg (fun z => some (Value.int z)) (show (r0 x0 x1 x2 x3 x4) = (0 : Int32) from ((if_pos hc129_14).trans (if_neg hc151_18))).symm), N13⟩ (by decide) (by decide)
        by_cases hc143_16 : (j0_26_7 x0 x1 x2 x3 x4) = (0 : Int32)
        · skip
          refine Goes.st (B := T13.setTop (mkF m 150 #[.val (.int x0), .val (.int x1), .val (.long x2), .second, .val (.int x3), .val (.int x4), .val (.int (w0_4 x0 x1 x2 x3 x4)), .val (.int (j0_26_7 x0 x1 x2 x3 x4)), .val (.long (j0_50_8 x0 x1 x2 x3 x4)), .second, .val (.ref b5), .val (.ref b7), .val (.int (w0_85 x0 x1 x2 x3 x4)), .val (.int (w0_94 x0 x1 x2 x3 x4)), .val (.int (w0_85 x0 x1 x2 x3 x4)), .val (.int (w0_113 x0 x1 x2 x3 x4)), .val (.int (w0_123 x0 x1 x2 x3 x4))] [(.int (w0_113 x0 x1 x2 x3 x4))])) (fun t k => ?_) ?_
          · refine XS.ifYes X13.here hx rfl (pc0 := 143) (pc' := 150) rfl (hb hby at_143) rfl ((if0 _ _).trans (teq hc143_16).1) (by decide) (by decide) ?_
            exact k
          refine Goes.run X13 hx hown hci hcl hby (L := [(150, .iconst 0, 1)]) (by decide +kernel) rfl (g' := (mkF m 151 #[.val (.int x0), .val (.int x1), .val (.long x2), .second, .val (.int x3), .val (.int x4), .val (.int (w0_4 x0 x1 x2 x3 x4)), .val (.int (j0_26_7 x0 x1 x2 x3 x4)), .val (.long (j0_50_8 x0 x1 x2 x3 x4)), .second, .val (.ref b5), .val (.ref b7), .val (.int (w0_85 x0 x1 x2 x3 x4)), .val (.int (w0_94 x0 x1 x2 x3 x4)), .val (.int (w0_85 x0 x1 x2 x3 x4)), .val (.int (w0_113 x0 x1 x2 x3 x4)), .val (.int (w0_123 x0 x1 x2 x3 x4))] [(.int (0 : Int32)), (.int (w0_113 x0 x1 x2 x3 x4))])) rfl ?_
          have q := jn151_17
          rw [show (j0_151_s0 x0 x1 x2 x3 x4) = (0 : Int32) from (if_pos hc143_16)] at q
          exact q
        · skip
          refine Goes.st (B := T13.setTop (mkF m 146 #[.val (.int x0), .val (.int x1), .val (.long x2), .second, .val (.int x3), .val (.int x4), .val (.int (w0_4 x0 x1 x2 x3 x4)), .val (.int (j0_26_7 x0 x1 x2 x3 x4)), .val (.long (j0_50_8 x0 x1 x2 x3 x4)), .second, .val (.ref b5), .val (.ref b7), .val (.int (w0_85 x0 x1 x2 x3 x4)), .val (.int (w0_94 x0 x1 x2 x3 x4)), .val (.int (w0_85 x0 x1 x2 x3 x4)), .val (.int (w0_113 x0 x1 x2 x3 x4)), .val (.int (w0_123 x0 x1 x2 x3 x4))] [(.int (w0_113 x0 x1 x2 x3 x4))])) (fun t k => ?_) ?_
          · refine XS.ifNo X13.here hx rfl (hb hby at_143) rfl ((if0 _ _).trans (feq hc143_16).1) ?_
            exact k
          refine Goes.run X13 hx hown hci hcl hby (L := [(146, .iconst 1, 1), (147, .goto 4, 3)]) (by decide +kernel) rfl (g' := (mkF m 151 #[.val (.int x0), .val (.int x1), .val (.long x2), .second, .val (.int x3), .val (.int x4), .val (.int (w0_4 x0 x1 x2 x3 x4)), .val (.int (j0_26_7 x0 x1 x2 x3 x4)), .val (.long (j0_50_8 x0 x1 x2 x3 x4)), .second, .val (.ref b5), .val (.ref b7), .val (.int (w0_85 x0 x1 x2 x3 x4)), .val (.int (w0_94 x0 x1 x2 x3 x4)), .val (.int (w0_85 x0 x1 x2 x3 x4)), .val (.int (w0_113 x0 x1 x2 x3 x4)), .val (.int (w0_123 x0 x1 x2 x3 x4))] [(.int (1 : Int32)), (.int (w0_113 x0 x1 x2 x3 x4))])) rfl ?_
          have q := jn151_17
          rw [show (j0_151_s0 x0 x1 x2 x3 x4) = (1 : Int32) from (if_neg hc143_16)] at q
          exact q
      · skip
        refine Goes.st (B := T13.setTop (mkF m 173 #[.val (.int x0), .val (.int x1), .val (.long x2), .second, .val (.int x3), .val (.int x4), .val (.int (w0_4 x0 x1 x2 x3 x4)), .val (.int (j0_26_7 x0 x1 x2 x3 x4)), .val (.long (j0_50_8 x0 x1 x2 x3 x4)), .second, .val (.ref b5), .val (.ref b7), .val (.int (w0_85 x0 x1 x2 x3 x4)), .val (.int (w0_94 x0 x1 x2 x3 x4)), .val (.int (w0_85 x0 x1 x2 x3 x4)), .val (.int (w0_113 x0 x1 x2 x3 x4)), .val (.int (w0_123 x0 x1 x2 x3 x4))] [])) (fun t k => ?_) ?_
        · refine XS.icmpYes X13.here hx rfl (pc0 := 129) (pc' := 173) rfl (hb hby at_129) rfl (feq hc129_14).2 (by decide) (by decide) ?_
          exact k
        refine Goes.run X13 hx hown hci hcl hby (L := [(173, .iconst 0, 1)]) (by decide +kernel) rfl (g' := (mkF m 174 #[.val (.int x0), .val (.int x1), .val (.long x2), .second, .val (.int x3), .val (.int x4), .val (.int (w0_4 x0 x1 x2 x3 x4)), .val (.int (j0_26_7 x0 x1 x2 x3 x4)), .val (.long (j0_50_8 x0 x1 x2 x3 x4)), .second, .val (.ref b5), .val (.ref b7), .val (.int (w0_85 x0 x1 x2 x3 x4)), .val (.int (w0_94 x0 x1 x2 x3 x4)), .val (.int (w0_85 x0 x1 x2 x3 x4)), .val (.int (w0_113 x0 x1 x2 x3 x4)), .val (.int (w0_123 x0 x1 x2 x3 x4))] [(.int (0 : Int32))])) rfl ?_
        exact Goes.retB X13 hx hlk (t := .boolean) Bd.returns (by simp) (hb hby at_174) rfl ⟨(congrArg (fun z => some (Value.int z)) (show (r0 x0 x1 x2 x3 x4) = (0 : Int32) from (if_neg hc129_14)).symm), N13⟩ (by decide) (by decide)
    by_cases hc30_3 : (x4 &&& (2 : Int32)) = (0 : Int32)
    · skip
      refine Goes.st (B := s₁.setTop (mkF m 39 #[.val (.int x0), .val (.int x1), .val (.long x2), .second, .val (.int x3), .val (.int x4), .val (.int (w0_4 x0 x1 x2 x3 x4)), .val (.int (j0_26_7 x0 x1 x2 x3 x4)), .unset, .unset, .unset, .unset, .unset, .unset, .unset, .unset, .unset] [])) (fun t k => ?_) ?_
      · refine XS.ifYes X0.here hx rfl (pc0 := 30) (pc' := 39) rfl (hb hby at_30) rfl ((if0 _ _).trans (teq hc30_3).1) (by decide) (by decide) ?_
        exact k
      refine Goes.run X0 hx hown hci hcl hby (L := [(39, .iload 7, 2), (41, .i2l, 1), (42, .iload 4, 2), (44, .iconst 4, 1), (45, .irem, 1), (46, .i2l, 1)]) (by decide +kernel) rfl (g' := (mkF m 47 #[.val (.int x0), .val (.int x1), .val (.long x2), .second, .val (.int x3), .val (.int x4), .val (.int (w0_4 x0 x1 x2 x3 x4)), .val (.int (j0_26_7 x0 x1 x2 x3 x4)), .unset, .unset, .unset, .unset, .unset, .unset, .unset, .unset, .unset] [(.long ((x3 - (x3 / (4 : Int32)) * (4 : Int32)).toInt64)), (.long ((j0_26_7 x0 x1 x2 x3 x4).toInt64))])) rfl ?_
      refine Goes.run X0 hx hown hci hcl hby (L := [(47, .ladd, 1), (48, .lstore 8, 2)]) (by decide +kernel) rfl (g' := (mkF m 50 #[.val (.int x0), .val (.int x1), .val (.long x2), .second, .val (.int x3), .val (.int x4), .val (.int (w0_4 x0 x1 x2 x3 x4)), .val (.int (j0_26_7 x0 x1 x2 x3 x4)), .val (.long (w0_48 x0 x1 x2 x3 x4)), .second, .unset, .unset, .unset, .unset, .unset, .unset, .unset] [])) rfl ?_
      have q := jn50_4
      rw [show (j0_50_8 x0 x1 x2 x3 x4) = (w0_48 x0 x1 x2 x3 x4) from (if_pos hc30_3)] at q
      exact q
    · skip
      refine Goes.st (B := s₁.setTop (mkF m 33 #[.val (.int x0), .val (.int x1), .val (.long x2), .second, .val (.int x3), .val (.int x4), .val (.int (w0_4 x0 x1 x2 x3 x4)), .val (.int (j0_26_7 x0 x1 x2 x3 x4)), .unset, .unset, .unset, .unset, .unset, .unset, .unset, .unset, .unset] [])) (fun t k => ?_) ?_
      · refine XS.ifNo X0.here hx rfl (hb hby at_30) rfl ((if0 _ _).trans (feq hc30_3).1) ?_
        exact k
      refine Goes.run X0 hx hown hci hcl hby (L := [(33, .lload_n 2, 1), (34, .lstore 8, 2), (36, .goto 14, 3)]) (by decide +kernel) rfl (g' := (mkF m 50 #[.val (.int x0), .val (.int x1), .val (.long x2), .second, .val (.int x3), .val (.int x4), .val (.int (w0_4 x0 x1 x2 x3 x4)), .val (.int (j0_26_7 x0 x1 x2 x3 x4)), .val (.long x2), .second, .unset, .unset, .unset, .unset, .unset, .unset, .unset] [])) rfl ?_
      have q := jn50_4
      rw [show (j0_50_8 x0 x1 x2 x3 x4) = x2 from (if_neg hc30_3)] at q
      exact q
  by_cases hc16_1 : (x4 &&& (1 : Int32)) = (0 : Int32)
  · skip
    refine Goes.st (B := s₁.setTop (mkF m 26 #[.val (.int x0), .val (.int x1), .val (.long x2), .second, .val (.int x3), .val (.int x4), .val (.int (w0_4 x0 x1 x2 x3 x4)), .val (.int (w0_10 x0 x1 x2 x3 x4)), .unset, .unset, .unset, .unset, .unset, .unset, .unset, .unset, .unset] [])) (fun t k => ?_) ?_
    · refine XS.ifYes X0.here hx rfl (pc0 := 16) (pc' := 26) rfl (hb hby at_16) rfl ((if0 _ _).trans (teq hc16_1).1) (by decide) (by decide) ?_
      exact k
    have q := jn26_2
    rw [show (j0_26_7 x0 x1 x2 x3 x4) = (w0_10 x0 x1 x2 x3 x4) from (if_pos hc16_1)] at q
    exact q
  · skip
    refine Goes.st (B := s₁.setTop (mkF m 19 #[.val (.int x0), .val (.int x1), .val (.long x2), .second, .val (.int x3), .val (.int x4), .val (.int (w0_4 x0 x1 x2 x3 x4)), .val (.int (w0_10 x0 x1 x2 x3 x4)), .unset, .unset, .unset, .unset, .unset, .unset, .unset, .unset, .unset] [])) (fun t k => ?_) ?_
    · refine XS.ifNo X0.here hx rfl (hb hby at_16) rfl ((if0 _ _).trans (feq hc16_1).1) ?_
      exact k
    refine Goes.run X0 hx hown hci hcl hby (L := [(19, .iload 7, 2), (21, .bipush 7, 2), (23, .iand, 1), (24, .istore 7, 2)]) (by decide +kernel) rfl (g' := (mkF m 26 #[.val (.int x0), .val (.int x1), .val (.long x2), .second, .val (.int x3), .val (.int x4), .val (.int (w0_4 x0 x1 x2 x3 x4)), .val (.int (w0_24 x0 x1 x2 x3 x4)), .unset, .unset, .unset, .unset, .unset, .unset, .unset, .unset, .unset] [])) rfl ?_
    have q := jn26_2
    rw [show (j0_26_7 x0 x1 x2 x3 x4) = (w0_24 x0 x1 x2 x3 x4) from (if_neg hc16_1)] at q
    exact q
set_option maxRecDepth 65536 in
set_option maxHeartbeats 40000000 in
theorem comes_1 {Post : Tables → Env → Array Value → State → Outcome → State → Prop} (hpost : ∀ tb e args s v u, (limb_1_1.after args s (.returned v) u = true ∧ limb_1_2.after args s (.returned v) u = true ∧ True) → FrameEnd s (.returned v) u (Jvm.fieldLocs frame_1_writes args s ++ Jvm.arrayLocs frame_1_arrays args s ++ Jvm.staticLocs frame_1_statics s) 16 128 → Post tb e args s (.returned v) u) :
    ArmFor flags0 classFile x code maxLocals ret World_1 tables_1 room_1 Calls_1 rest_1 Pre_1 Post := by
  intro l hfl _ _ p e ha hc hk s m args below hf hA hF happ hP
  obtain ⟨hcalls, hrest, hpre⟩ := hP
  obtain ⟨-, -, -, hnamed, -, -, -, hat⟩ := (Spec.applies_iff hf).mp happ
  obtain ⟨hg, hn⟩ := and_e (Cond.before_iff.mp (show (Jvm.Cond.and given_1 narrow_1).before args s = true from hpre))
  obtain ⟨g0, g0r⟩ := and_e hg
  obtain ⟨g1, g1r⟩ := and_e g0r
  obtain ⟨g2, g2r⟩ := and_e g1r
  obtain ⟨g3, g3r⟩ := and_e g2r
  obtain ⟨g4, g5⟩ := and_e g3r
  obtain ⟨w0, w1, w2, w3, w4, rfl⟩ : ∃ w0 w1 w2 w3 w4 : Value, args = #[w0, w1, w2, w3, w4] := by
    have hs : args.size = 5 := by simpa [Cond.value, given_1] using g0
    obtain ⟨L⟩ := args
    match L, hs with
    | [w0, w1, w2, w3, w4], _ => exact ⟨w0, w1, w2, w3, w4, rfl⟩
  have hw := fun d (hd : d ∈ tables_1) => atoms_spec (ws := Jvm.Cond.code x code maxLocals ret :: tables_1) hat d (List.mem_cons_of_mem _ hd)
  have hfit : Fit s := fun {y c} hc i hi => by
    obtain ⟨ha, rfl⟩ := Array.getElem?_eq_some_iff.mp hc
    have q := List.all_eq_true.mp ((Array.all_eq_true_iff_forall_mem.mp hF) _ (Array.getElem_mem ha)) i (List.mem_range.mpr hi)
    simpa [Array.getElem?_eq_getElem hi] using q
  obtain ⟨i0, ei0⟩ := is_v g1
  obtain rfl : w0 = (.int i0) := Option.some.inj ei0
  obtain ⟨i1, ei1⟩ := is_v g2
  obtain rfl : w1 = (.int i1) := Option.some.inj ei1
  obtain ⟨i2, ei2⟩ := isL_v g3
  obtain rfl : w2 = (.long i2) := Option.some.inj ei2
  obtain ⟨i3, ei3⟩ := is_v g4
  obtain rfl : w3 = (.int i3) := Option.some.inj ei3
  obtain ⟨i4, ei4⟩ := is_v g5
  obtain rfl : w4 = (.int i4) := Option.some.inj ei4
  obtain ⟨n, o, h1, h2, h3, v, L, rfl, hv, hq⟩ := rm0 l s _ hw tables_1 i0 i1 i2 i3 i4  s.heap s.heap.size (Nat.le_refl _)  p e ha hc hk s m _ below hf ((Spec.applies_iff_loose hf).mp happ).1 ⟨rfl, State.Warmed39.refl s, rfl⟩ trivial
  have N := hv.2
  have hv1 : v = some (.int 1) := hv.1.trans (congrArg (fun z => some (Value.int z)) (law_true i0 i1 i2 i3 i4))
  subst hv1
  refine ⟨n, _, h1, h2, h3, hpost _ _ _ _ _ _ ⟨Cond.after_iff.mpr rfl, Cond.after_iff.mpr (eq_i res_at (Term.int_eval (1)) rfl), trivial⟩ ⟨hq.1, hq.2.1, (hq.2.2.sift fun y hy => Or.inr (N y hy)).mono (by decide) (by decide)⟩⟩
theorem main_1_1 : Claimed_1_1 := comes_1 fun _ _ _ _ _ _ h hF => ⟨h.1, hF⟩
theorem main_1_2 : Claimed_1_2 := comes_1 fun _ _ _ _ _ _ h hF => ⟨h.2.1, hF⟩
end Jvm.Pilot.@@N@@
namespace Jvm.Pilot.@@N@@
open Jvm Jvm.ClassFile Sem Op Lib Jvm.Free Jvm.Stand Jvm.Pilot.@@N@@.Jvm.D
/-! MADE BY PROGRAM (witnessworld.py) out of the Statement's table words and the real class files: 9 classes; the members and pool entries that the words name. The judged class is class 1, her method 2. -/
namespace start1
open Jvm.ClassFile
def u (s : String) : CpInfo := .utf8 (stringToUtf16 s)
/-- a pool by its gaps: so many unusable entries, then the entry; so many at the end -/
def gap : Nat → List CpInfo → List CpInfo
  | 0, r => r
  | n + 1, r => .unusable :: gap n r
def poolList (es : List (Nat × CpInfo)) (last : Nat) : List CpInfo := es.foldr (fun e r => gap e.1 (e.2 :: r)) (gap last [])
def pool (es : List (Nat × CpInfo)) (last : Nat) : Array CpInfo := ⟨poolList es last⟩
def fileOf (pool : Array CpInfo) (this : Nat) (attrs : Array Attribute := #[]) (ms : Array MethodInfo := #[]) (fl : Nat := 33) (sup : Nat := 0) (ifs : Array Nat := #[]) (fds : Array FieldInfo := #[]) : ClassFile where
  minorVersion := 0
  majorVersion := 65
  constantPool := pool
  accessFlags := fl
  thisClass := this
  superClass := sup
  interfaces := ifs
  fields := fds
  methods := ms
  attributes := attrs
def plain (name : String) (sup : Option ClassId) : Class where
  name := name
  kind := .ordinary
  loader := none
  accessFlags := 33
  super := sup
  interfaces := #[]
  cf := none
  fields := #[]
  methods := #[]
  instanceTypes := #[]
  staticTypes := #[]
  resolved := #[]
  callSites := []
  init := .initialized
  statics := none
  mirror := none

def pool0 : Array CpInfo := pool [(5, u "<init>"), (0, u "()V"), (1, .class_ 10), (1, u "java/lang/Object")] 113

def k0c0 : Code := { maxStack := 0, maxLocals := 1, code := object_method_1_code, exceptionTable := #[], attributes := #[] }
def k0m0 : Method := { name := "<init>", desc := "()V", sig := { parameters := [], returnType := none }, accessFlags := 1, code := some k0c0 }
/-- java/lang/Object -/
def k0 : Class := { plain "java/lang/Object" none with
  accessFlags := 33
  interfaces := #[]
  cf := some (fileOf pool0 8 #[] #[{ accessFlags := 1, nameIndex := 5, descriptorIndex := 6, attributes := #[] }] 33 0 #[] #[])
  fields := #[]
  methods := #[k0m0]
  instanceTypes := #[]
  staticTypes := #[]
  resolved := Array.replicate 124 none
  statics := none }

def pool1 : Array CpInfo := pool [(2, .class_ 4), (1, u "java/lang/Object"), (0, u "<init>"), (0, u "()V"), (0, .integer 2147483647), (0, .class_ 9), (0, u "com/example/mahnwerk/mahnwerk/model/Suspension"), (0, .methodref 8 11), (0, .nameAndType 5 12), (0, u "(II)V"), (0, .methodref 8 14), (0, .nameAndType 15 16), (0, u "byDaysOverdue"), (0, u "(J)Z"), (0, .methodref 18 19), (0, .class_ 20), (0, .nameAndType 21 22), (0, u "com/example/mahnwerk/mahnwerk/model/SuspensionByDaysOverduePinLaw"), (0, u "reference"), (0, u "(IJ)Z"), (2, .long 9223372036854775807), (1, .long 9223372036854775808), (1, .methodref 8 30), (0, .nameAndType 31 32), (0, u "daysOverdue"), (0, u "()I"), (3, u "law"), (0, u "(IIJII)Z")] 2

def k1m0 : Method := { name := "<init>", desc := "()V", sig := { parameters := [], returnType := none }, accessFlags := 2, code := none }
def k1c1 : Code := { maxStack := 4, maxLocals := 3, code := method_2_code, exceptionTable := #[], attributes := #[] }
def k1m1 : Method := { name := "reference", desc := "(IJ)Z", sig := { parameters := [.int, .long], returnType := some .boolean }, accessFlags := 10, code := some k1c1 }
def k1c2 : Code := { maxStack := 4, maxLocals := 17, code := code, exceptionTable := #[], attributes := #[] }
def k1m2 : Method := { name := "law", desc := "(IIJII)Z", sig := { parameters := [.int, .int, .long, .int, .int], returnType := some .boolean }, accessFlags := 9, code := some k1c2 }
/-- com/example/mahnwerk/mahnwerk/model/SuspensionByDaysOverduePinLaw -/
def k1 : Class := { plain "com/example/mahnwerk/mahnwerk/model/SuspensionByDaysOverduePinLaw" (some 0) with
  accessFlags := 49
  interfaces := #[]
  cf := some (fileOf pool1 18 #[] #[{ accessFlags := 2, nameIndex := 5, descriptorIndex := 6, attributes := #[] }, { accessFlags := 10, nameIndex := 21, descriptorIndex := 22, attributes := #[] }, { accessFlags := 9, nameIndex := 36, descriptorIndex := 37, attributes := #[] }] 49 2 #[] #[])
  fields := #[]
  methods := #[k1m0, k1m1, k1m2]
  instanceTypes := #[]
  staticTypes := #[]
  resolved := Array.replicate 40 none
  statics := none }

def pool2 : Array CpInfo := pool [(1, .methodref 2 3), (0, .class_ 4), (0, .nameAndType 5 6), (0, u "java/lang/Object"), (0, u "<init>"), (0, u "()V"), (9, .fieldref 17 18), (0, .class_ 19), (0, .nameAndType 20 21), (0, u "com/example/mahnwerk/mahnwerk/model/Suspension"), (0, u "level"), (0, u "I"), (0, .fieldref 17 23), (0, .nameAndType 24 21), (0, u "daysOverdue"), (2, u "NONE"), (0, u "Lcom/example/mahnwerk/mahnwerk/model/Suspension;"), (2, u "(II)V"), (5, u "()I"), (2, u "byDaysOverdue"), (0, u "(J)Z")] 18

def k2c0 : Code := { maxStack := 4, maxLocals := 3, code := prog_90_method_1_code, exceptionTable := #[], attributes := #[] }
def k2m0 : Method := { name := "<init>", desc := "(II)V", sig := { parameters := [.int, .int], returnType := none }, accessFlags := 1, code := some k2c0 }
def k2c1 : Code := { maxStack := 1, maxLocals := 1, code := prog_90_method_4_code, exceptionTable := #[], attributes := #[] }
def k2m1 : Method := { name := "daysOverdue", desc := "()I", sig := { parameters := [], returnType := some .int }, accessFlags := 1, code := some k2c1 }
def k2c2 : Code := { maxStack := 4, maxLocals := 3, code := prog_90_method_6_code, exceptionTable := #[], attributes := #[] }
def k2m2 : Method := { name := "byDaysOverdue", desc := "(J)Z", sig := { parameters := [.long], returnType := some .boolean }, accessFlags := 1, code := some k2c2 }
/-- com/example/mahnwerk/mahnwerk/model/Suspension -/
def k2 : Class := { plain "com/example/mahnwerk/mahnwerk/model/Suspension" (some 0) with
  accessFlags := 49
  interfaces := #[]
  cf := some (fileOf pool2 17 #[] #[{ accessFlags := 1, nameIndex := 5, descriptorIndex := 31, attributes := #[] }, { accessFlags := 1, nameIndex := 24, descriptorIndex := 37, attributes := #[] }, { accessFlags := 1, nameIndex := 40, descriptorIndex := 41, attributes := #[] }] 49 2 #[] #[{ accessFlags := 26, nameIndex := 27, descriptorIndex := 28, attributes := #[] }, { accessFlags := 18, nameIndex := 20, descriptorIndex := 21, attributes := #[] }, { accessFlags := 18, nameIndex := 24, descriptorIndex := 21, attributes := #[] }])
  fields := #[{ name := "NONE", type := (.object "com/example/mahnwerk/mahnwerk/model/Suspension"), accessFlags := 26, slot := 0, constantValue := 0 }, { name := "level", type := .int, accessFlags := 18, slot := 0, constantValue := 0 }, { name := "daysOverdue", type := .int, accessFlags := 18, slot := 1, constantValue := 0 }]
  methods := #[k2m0, k2m1, k2m2]
  instanceTypes := #[.int, .int]
  staticTypes := #[(.object "com/example/mahnwerk/mahnwerk/model/Suspension")]
  resolved := Array.replicate 60 none
  statics := none }

def pool3 : Array CpInfo := pool [(1, u "java/lang/Cloneable"), (0, .class_ 1), (0, u "java/lang/Object"), (0, .class_ 3)] 3

/-- java/lang/Cloneable -/
def k3 : Class := { plain "java/lang/Cloneable" (some 0) with
  accessFlags := 1537
  interfaces := #[]
  cf := some (fileOf pool3 2 #[] #[] 1537 4 #[] #[])
  fields := #[]
  methods := #[]
  instanceTypes := #[]
  staticTypes := #[]
  resolved := Array.replicate 8 none
  statics := none }

def pool4 : Array CpInfo := pool [(1, u "java/io/Serializable"), (0, .class_ 1), (0, u "java/lang/Object"), (0, .class_ 3)] 3

/-- java/io/Serializable -/
def k4 : Class := { plain "java/io/Serializable" (some 0) with
  accessFlags := 1537
  interfaces := #[]
  cf := some (fileOf pool4 2 #[] #[] 1537 4 #[] #[])
  fields := #[]
  methods := #[]
  instanceTypes := #[]
  staticTypes := #[]
  resolved := Array.replicate 8 none
  statics := none }

/-- the primitive byte -/
def k5 : Class := { plain "byte" none with kind := .primitive 'B', accessFlags := 0x411 }
/-- [B -/
def k6 : Class := { plain "[B" (some 0) with kind := .array 5 .byte, interfaces := #[3, 4], accessFlags := 1041 }

/-- the primitive int -/
def k7 : Class := { plain "int" none with kind := .primitive 'I', accessFlags := 0x411 }
/-- [I -/
def k8 : Class := { plain "[I" (some 0) with kind := .array 7 .int, interfaces := #[3, 4], accessFlags := 1041 }

def heap : Heap := #[]
def classes : Array Class := #[k0, k1, k2, k3, k4, k5, k6, k7, k8]
def interned : List (Array UInt16 × Addr) := []
def slotsUsed : Nat := 0
def theMethod : MethodId := ⟨1, 2⟩
def args0 : Array Value := #[.int 5, .int 7, .long 9, .int 11, .int 3]
def aboutOver (below : List Frame) : State where
  vm := { classes := classes, interned := interned.toArray }
  heap := heap
  slotsUsed := slotsUsed
  threads := #[{ frames := .invoking theMethod args0 :: below }]
def below0 : List Frame := [.native { method := ⟨0, 0⟩, args := #[] }]
def about1 : State := aboutOver below0
def p0 : Program := .bare "" "" ""
def e0 : Env := launch0.env 0 0 0
theorem w_frames : about1.frames = Frame.invoking theMethod args0 :: below0 := rfl
set_option maxRecDepth 65536 in
theorem w_args : argsFit about1.vm theMethod args0 = true := by decide +kernel
set_option maxRecDepth 65536 in
theorem w_heap : heapFits about1 = true := by decide +kernel
set_option maxRecDepth 65536 in
theorem w_runnable : about1.curStatus? = some .runnable := by decide +kernel
set_option maxRecDepth 65536 in
theorem w_alone : about1.alone = true := by decide +kernel
set_option maxRecDepth 65536 in
theorem w_named : about1.methodNamed? x = some theMethod := by decide +kernel
set_option maxRecDepth 65536 in
theorem w_hears : about1.hears theMethod below0 = true := by decide +kernel
set_option maxRecDepth 65536 in
theorem w_ripe : about1.ripe theMethod args0 below0 = true := by decide +kernel
theorem w_running : about1.status = .running := rfl
set_option maxRecDepth 65536 in
theorem w_room : about1.hasRoom e0.platform room_1 = true :=
  launch0.hasRoom_least _ room_1 (by decide +kernel) (by decide +kernel) (by decide +kernel) (by decide +kernel) (by decide +kernel) (by decide +kernel)
theorem allAtoms_all (ts : List Jvm.Cond) (a : Array Jvm.Value) (st : Jvm.State) : (allAtoms ts).before a st = ts.all (fun c => c.before a st) := by
  induction ts with
  | nil => rfl
  | cons c t ih =>
    show (Jvm.Cond.and c (allAtoms t)).before a st = _
    rw [Jvm.Cond.before_and, ih, List.all_cons]
def words1 : List Jvm.Cond := Jvm.Cond.code x code maxLocals ret :: tables_1
/-- a 'code' word, met by the world's own term for the bytes: nothing is compared byte by byte -/
theorem code_word {y : MethodName} {bytes : ByteArray} {mx : Nat} {rt : Option FieldType} {a : Array Value} {s : State} {m : MethodId} {meth : Method} {c : Code} (h1 : s.methodNamed? y = some m) (h2 : s.vm.method? m = some meth) (h3 : meth.code = some c) (h4 : c.code = bytes)
    (h5 : (c.maxLocals == mx && c.exceptionTable.isEmpty && decide (c.maxStack ≤ mostOperands) && decide (meth.sig.returnType = rt) && !meth.locks && decide (parseMethodDescriptor y.desc = some meth.sig)) = true) : (Jvm.Cond.code y bytes mx rt).before a s = true := by
  simp only [Bool.and_eq_true, beq_iff_eq, Bool.not_eq_true', decide_eq_true_eq] at h5
  obtain ⟨⟨⟨⟨⟨g1, g2⟩, g3⟩, g4⟩, g5⟩, g6⟩ := h5
  simp [Cond.before, Cond.holds, Cond.value, h1, h2, h3, h4, g1, g2, g3, g4, g5, g6]
def isCode : Jvm.Cond → Bool
  | .code _ _ _ _ => true
  | _ => false
theorem all_split {L : List Jvm.Cond} {P : Jvm.Cond → Bool} (h1 : L.all (fun c => isCode c || P c) = true) (h2 : ∀ c ∈ L.filter isCode, P c = true) : L.all P = true := by
  refine List.all_eq_true.mpr fun c hc => ?_
  have h := List.all_eq_true.mp h1 c hc
  rcases Bool.eq_false_or_eq_true (isCode c) with hi | hi
  · exact h2 c (List.mem_filter.mpr ⟨hc, hi⟩)
  · simpa [hi] using h
set_option maxRecDepth 65536 in
theorem w_c0 : (Jvm.Cond.code x code maxLocals ret).before args0 about1 = true := code_word (m := ⟨1, 2⟩) (meth := k1m2) (c := k1c2) (by decide +kernel) rfl rfl rfl (by decide +kernel)
set_option maxRecDepth 65536 in
theorem w_c1 : (Jvm.Cond.code ({ cls := "com/example/mahnwerk/mahnwerk/model/Suspension", name := "<init>", desc := "(II)V" } : Jvm.MethodName) prog_90_method_1_code (3 : Nat) (Option.none : Option Jvm.ClassFile.FieldType)).before args0 about1 = true := code_word (m := ⟨2, 0⟩) (meth := k2m0) (c := k2c0) (by decide +kernel) rfl rfl rfl (by decide +kernel)
set_option maxRecDepth 65536 in
theorem w_c2 : (Jvm.Cond.code ({ cls := "java/lang/Object", name := "<init>", desc := "()V" } : Jvm.MethodName) object_method_1_code (1 : Nat) (Option.none : Option Jvm.ClassFile.FieldType)).before args0 about1 = true := code_word (m := ⟨0, 0⟩) (meth := k0m0) (c := k0c0) (by decide +kernel) rfl rfl rfl (by decide +kernel)
set_option maxRecDepth 65536 in
theorem w_c3 : (Jvm.Cond.code ({ cls := "com/example/mahnwerk/mahnwerk/model/Suspension", name := "byDaysOverdue", desc := "(J)Z" } : Jvm.MethodName) prog_90_method_6_code (3 : Nat) (Option.some Jvm.ClassFile.FieldType.boolean)).before args0 about1 = true := code_word (m := ⟨2, 2⟩) (meth := k2m2) (c := k2c2) (by decide +kernel) rfl rfl rfl (by decide +kernel)
set_option maxRecDepth 65536 in
theorem w_c4 : (Jvm.Cond.code ({ cls := "com/example/mahnwerk/mahnwerk/model/SuspensionByDaysOverduePinLaw", name := "reference", desc := "(IJ)Z" } : Jvm.MethodName) method_2_code (3 : Nat) (Option.some Jvm.ClassFile.FieldType.boolean)).before args0 about1 = true := code_word (m := ⟨1, 1⟩) (meth := k1m1) (c := k1c1) (by decide +kernel) rfl rfl rfl (by decide +kernel)
set_option maxRecDepth 65536 in
theorem w_c5 : (Jvm.Cond.code ({ cls := "com/example/mahnwerk/mahnwerk/model/Suspension", name := "daysOverdue", desc := "()I" } : Jvm.MethodName) prog_90_method_4_code (1 : Nat) (Option.some Jvm.ClassFile.FieldType.int)).before args0 about1 = true := code_word (m := ⟨2, 1⟩) (meth := k2m1) (c := k2c1) (by decide +kernel) rfl rfl rfl (by decide +kernel)
def codes1 : List Jvm.Cond := [Jvm.Cond.code x code maxLocals ret, Jvm.Cond.code ({ cls := "com/example/mahnwerk/mahnwerk/model/Suspension", name := "<init>", desc := "(II)V" } : Jvm.MethodName) prog_90_method_1_code (3 : Nat) (Option.none : Option Jvm.ClassFile.FieldType), Jvm.Cond.code ({ cls := "java/lang/Object", name := "<init>", desc := "()V" } : Jvm.MethodName) object_method_1_code (1 : Nat) (Option.none : Option Jvm.ClassFile.FieldType), Jvm.Cond.code ({ cls := "com/example/mahnwerk/mahnwerk/model/Suspension", name := "byDaysOverdue", desc := "(J)Z" } : Jvm.MethodName) prog_90_method_6_code (3 : Nat) (Option.some Jvm.ClassFile.FieldType.boolean), Jvm.Cond.code ({ cls := "com/example/mahnwerk/mahnwerk/model/SuspensionByDaysOverduePinLaw", name := "reference", desc := "(IJ)Z" } : Jvm.MethodName) method_2_code (3 : Nat) (Option.some Jvm.ClassFile.FieldType.boolean), Jvm.Cond.code ({ cls := "com/example/mahnwerk/mahnwerk/model/Suspension", name := "daysOverdue", desc := "()I" } : Jvm.MethodName) prog_90_method_4_code (1 : Nat) (Option.some Jvm.ClassFile.FieldType.int)]
set_option maxRecDepth 65536 in
theorem codes_eq : words1.filter isCode = codes1 := rfl
theorem w_codes : ∀ c ∈ words1.filter isCode, c.before args0 about1 = true := by
  rw [codes_eq]
  intro c hc
  simp only [codes1, List.mem_cons, List.not_mem_nil, or_false] at hc
  rcases hc with rfl | rfl | rfl | rfl | rfl | rfl
  · exact w_c0
  · exact w_c1
  · exact w_c2
  · exact w_c3
  · exact w_c4
  · exact w_c5
set_option maxRecDepth 65536 in
theorem w_t1 : (words1.take 24).all (fun c => isCode c || c.before args0 about1) = true := by decide +kernel
set_option maxRecDepth 65536 in
theorem w_t2 : (words1.drop 24).all (fun c => isCode c || c.before args0 about1) = true := by decide +kernel
theorem w_tables : (allAtoms (Jvm.Cond.code x code maxLocals ret :: tables_1)).before args0 about1 = true := by
  rw [allAtoms_all]
  show words1.all (fun c => c.before args0 about1) = true
  refine all_split ?_ w_codes
  rw [← List.take_append_drop 24 words1, List.all_append, w_t1, w_t2]
  rfl
set_option maxRecDepth 65536 in
theorem w_case : (Jvm.Cond.and given_1 narrow_1).before args0 about1 = true := by decide +kernel
theorem w_applies : (headSpec (Jvm.Cond.code x code maxLocals ret :: tables_1) room_1).applies x e0.platform about1 = true :=
  (Spec.applies_iff w_frames).mpr ⟨w_running, w_runnable, w_alone, w_named, w_hears, w_ripe, w_room, w_tables⟩
theorem atStart : AtStart classFile x code maxLocals ret World_1 tables_1 room_1 Calls_1 rest_1 Pre_1 launch0 p0 e0 about1 theMethod args0 below0 :=
  ⟨lists_1, trivial, launch0.admits_env _ _ _, launch0.least_env, fairChoices_fair.cas, fairChoices_fair.clock, w_frames, w_args, w_heap, w_applies, trivial, trivial, w_case⟩
end start1
theorem witness_1 : WitnessClaimed_1 := ⟨start1.p0, start1.e0, start1.about1, start1.theMethod, start1.args0, start1.below0, start1.atStart⟩
end Jvm.Pilot.@@N@@
