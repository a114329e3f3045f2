import JvmDerived
import JvmDerived.Pilot.@@N@@Statement
import JvmDerived.Pilot.@@N@@Code
set_option linter.unusedVariables false
set_option linter.unusedSimpArgs false
@@BLOCK:NumsL.lean.txt@@
namespace Jvm.Pilot.@@N@@
open Jvm Jvm.ClassFile Sem Op Lib Jvm.Free Jvm.Stand Jvm.LawKit Jvm.RoadKit Bundle Jvm.Pilot.@@N@@.Jvm.D
def Goes (p : Program) (e : Env) (below : List Frame) (s : State) (Q : Option Value → Heap → List Loc → Prop) (kc ks : Nat) (A : State) : Prop :=
  ∃ s₂ o, Steps p.tables e below A s₂ ∧ s₂.status = .running ∧ Ended s₂ below o ∧ ∃ v L, o = .returned v ∧ Q v s₂.heap L ∧ FrameEnd s o s₂ L kc ks
def QL (w : Option Value) (n0 : Nat) (v : Option Value) (h : Heap) (L : List Loc) : Prop := v = w ∧ Fr n0 L
theorem own_selp {s : State} {args : Array Value} {y : MethodName} {n : Nat} (hins : (Cond.instantiable y.cls n).before args s = true) (hpriv : (Cond.privateMethod y).before args s = true) (hinst : (Cond.instanceMethod y).before args s = true) (hy : y.cls ≠ "java/lang/invoke/MethodHandle" ∧ y.cls ≠ "java/lang/invoke/VarHandle") : (Cond.selects y.cls y y).before args s = true := by
  obtain ⟨c, k, hc, hk, -, hniab, -, -⟩ := Cond.instantiable_spec hins
  exact selects_self_of_private hc hk (Bool.or_eq_false_iff.mp hniab).1 (Cond.privateMethod_at hpriv) hinst hy
def QP (w : Option Value) (h0 : Heap) (n0 : Nat) (v : Option Value) (h : Heap) (L : List Loc) : Prop := v = w ∧ Fr n0 L ∧ h = h0
section OwnGoes
variable {p : Program} {l : Launch} {e : Env} {R : Room} {s : State} {m : MethodId} {args : Array Value} {below : List Frame} {meth : Method} {c : Code} {T : State} {locs : List Loc} {cells slots kc ks : Nat} {Q : Option Value → Heap → List Loc → Prop}
theorem Goes.st {A B : State} (h : ∀ t, Steps p.tables e below B t → Steps p.tables e below A t) (g : Goes p e below s Q kc ks B) : Goes p e below s Q kc ks A := by
  obtain ⟨s₂, o, h1, r⟩ := g
  exact ⟨s₂, o, h _ h1, r⟩
theorem Goes.cast {g g' : JFrame} (q : g = g') (h : Goes p e below s Q kc ks (T.setTop g')) : Goes p e below s Q kc ks (T.setTop g) := q ▸ h
theorem Goes.retI (X : Stand p l e R s m args below meth c T locs cells slots) (hx : p.tables.exec = Jvm.exec) (hlk : meth.locks = false) (hret : meth.sig.returnType = some .int) {pc : Nat} {Ls : Array Slot} {z : Int32} {rest : List Value} (hd : decode c.code pc = .ok (.ireturn, 1)) (hQ : Q (some (.int z)) T.heap locs) (h1 : cells ≤ kc) (h2 : slots ≤ ks) : Goes p e below s Q kc ks (T.setTop (mkF m pc Ls (.int z :: rest))) := by
  obtain ⟨fs, hr, hrun, hended, hW, hsame⟩ := X.leave (v := some (.int z)) (fun h => by rw [hret] at h; cases h)
  exact ⟨_, _, retOut X hx hret rfl (Or.inl ⟨rfl, Or.inl rfl, _, rfl⟩) hd hr, hrun, hended, _, _, rfl, hQ, ⟨_, rfl⟩, hW, hsame.mono h1 h2⟩
theorem Goes.retJ (X : Stand p l e R s m args below meth c T locs cells slots) (hx : p.tables.exec = Jvm.exec) (hlk : meth.locks = false) (hret : meth.sig.returnType = some .long) {pc : Nat} {Ls : Array Slot} {z : Int64} {rest : List Value} (hd : decode c.code pc = .ok (.lreturn, 1)) (hQ : Q (some (.long z)) T.heap locs) (h1 : cells ≤ kc) (h2 : slots ≤ ks) : Goes p e below s Q kc ks (T.setTop (mkF m pc Ls (.long z :: rest))) := by
  obtain ⟨fs, hr, hrun, hended, hW, hsame⟩ := X.leave (v := some (.long z)) (fun h => by rw [hret] at h; cases h)
  exact ⟨_, _, retOut X hx hret rfl (Or.inr (Or.inl ⟨rfl, rfl, _, rfl⟩)) hd hr, hrun, hended, _, _, rfl, hQ, ⟨_, rfl⟩, hW, hsame.mono h1 h2⟩
theorem Goes.retR (X : Stand p l e R s m args below meth c T locs cells slots) (hx : p.tables.exec = Jvm.exec) (hlk : meth.locks = false) {t : FieldType} (hret : meth.sig.returnType = some t) {w : Value} (ht : t.isReference = true) (hw : w.isRef = true) {pc : Nat} {Ls : Array Slot} {rest : List Value} (hd : decode c.code pc = .ok (.areturn, 1)) (hQ : Q (some w) T.heap locs) (h1 : cells ≤ kc) (h2 : slots ≤ ks) : Goes p e below s Q kc ks (T.setTop (mkF m pc Ls (w :: rest))) := by
  obtain ⟨fs, hr, hrun, hended, hW, hsame⟩ := X.leave (v := some w) (fun h => by rw [hret] at h; cases h)
  have hn : narrow t w = w := by cases t <;> cases w <;> first | rfl | (simp [FieldType.isReference] at ht) | (simp [Value.isRef] at hw)
  exact ⟨_, _, retOut X hx hret hn (Or.inr (Or.inr (Or.inr (Or.inr ⟨rfl, ht, hw⟩)))) hd hr, hrun, hended, _, _, rfl, hQ, ⟨_, rfl⟩, hW, hsame.mono h1 h2⟩
theorem Goes.retB (X : Stand p l e R s m args below meth c T locs cells slots) (hx : p.tables.exec = Jvm.exec) (hlk : meth.locks = false) {t : FieldType} (hret : meth.sig.returnType = some t) (ht : t = .boolean ∨ t = .byte ∨ t = .char ∨ t = .short) {pc : Nat} {Ls : Array Slot} {z : Int32} {rest : List Value} (hd : decode c.code pc = .ok (.ireturn, 1)) (hz : nar t z = z) (hQ : Q (some (.int z)) T.heap locs) (h1 : cells ≤ kc) (h2 : slots ≤ ks) : Goes p e below s Q kc ks (T.setTop (mkF m pc Ls (.int z :: rest))) := by
  obtain ⟨fs, hr, hrun, hended, hW, hsame⟩ := X.leave (v := some (.int z)) (fun h => by rw [hret] at h; cases h)
  exact ⟨_, _, retN X hx hret ht hd (by rw [hz]; exact hr), hrun, hended, _, _, rfl, hQ, ⟨_, rfl⟩, hW, hsame.mono h1 h2⟩
theorem Goes.retV (X : Stand p l e R s m args below meth c T locs cells slots) (hx : p.tables.exec = Jvm.exec) (hlk : meth.locks = false) (hret : meth.sig.returnType = none) {pc : Nat} {Ls : Array Slot} (hd : decode c.code pc = .ok (.return_, 1)) (hQ : Q none T.heap locs) (h1 : cells ≤ kc) (h2 : slots ≤ ks) : Goes p e below s Q kc ks (T.setTop (mkF m pc Ls [])) := by
  obtain ⟨fs, hr, hrun, hended, hW, hsame⟩ := X.leave (v := none) (fun _ => rfl)
  exact ⟨_, _, X.returnOut hx hret hd hr, hrun, hended, _, _, rfl, hQ, ⟨_, rfl⟩, hW, hsame.mono h1 h2⟩
end OwnGoes
theorem tltL {x y : Int64} (h : x < y) : ifCond.holds .lt (lcmpW x y) = true ∧ ifCond.holds .ge (lcmpW x y) = false ∧ ifCond.holds .gt (lcmpW y x) = true ∧ ifCond.holds .le (lcmpW y x) = false :=
  ⟨(if0 _ _).trans (tlt ((lw_lt x y).mpr h)).1, (if0 _ _).trans (tlt ((lw_lt x y).mpr h)).2.1, (if0 _ _).trans (tlt ((lw_gt y x).mpr h)).2.2.1, (if0 _ _).trans (tlt ((lw_gt y x).mpr h)).2.2.2⟩
theorem fltL {x y : Int64} (h : ¬ x < y) : ifCond.holds .lt (lcmpW x y) = false ∧ ifCond.holds .ge (lcmpW x y) = true ∧ ifCond.holds .gt (lcmpW y x) = false ∧ ifCond.holds .le (lcmpW y x) = true :=
  ⟨(if0 _ _).trans (flt fun q => h ((lw_lt x y).mp q)).1, (if0 _ _).trans (flt fun q => h ((lw_lt x y).mp q)).2.1, (if0 _ _).trans (flt fun q => h ((lw_gt y x).mp q)).2.2.1, (if0 _ _).trans (flt fun q => h ((lw_gt y x).mp q)).2.2.2⟩
theorem teqL {x y : Int64} (h : x = y) : ifCond.holds .eq (lcmpW x y) = true ∧ ifCond.holds .ne (lcmpW x y) = false :=
  ⟨(if0 _ _).trans (teq ((lw_eq x y).mpr h)).1, (if0 _ _).trans (teq ((lw_eq x y).mpr h)).2⟩
theorem feqL {x y : Int64} (h : ¬ x = y) : ifCond.holds .eq (lcmpW x y) = false ∧ ifCond.holds .ne (lcmpW x y) = true :=
  ⟨(if0 _ _).trans (feq fun q => h ((lw_eq x y).mp q)).1, (if0 _ _).trans (feq fun q => h ((lw_eq x y).mp q)).2⟩
def own_look {α : Type} (i : Nat) : List (Nat × α) → Option α
  | [] => none
  | (j, v) :: r => if i = j then some v else own_look i r
theorem own_look_mem {α : Type} {i : Nat} {v : α} : ∀ {L : List (Nat × α)}, own_look i L = some v → (i, v) ∈ L
  | [], h => by cases h
  | (j, w) :: r, h => by
    unfold own_look at h
    by_cases q : i = j
    · rw [if_pos q] at h; cases h; subst q; exact List.mem_cons_self
    · rw [if_neg q] at h; exact List.mem_cons_of_mem _ (own_look_mem h)
def own_pstep (ci : List (Nat × Int32)) (cl : List (Nat × Int64)) (i : Instr) (n : Nat) (g : JFrame) : Option JFrame :=
  match i with
  | .iload_n k => if n = 1 then (match g.locals[k.val]? with | some (.val (.int v)) => some { g with pc := g.pc + 1, stack := .int v :: g.stack } | _ => none) else none
  | .iload k => if n = 2 then (match g.locals[k]? with | some (.val (.int v)) => some { g with pc := g.pc + 2, stack := .int v :: g.stack } | _ => none) else none
  | .lload_n k => if n = 1 then (match g.locals[k.val]? with | some (.val (.long v)) => some { g with pc := g.pc + 1, stack := .long v :: g.stack } | _ => none) else none
  | .lload k => if n = 2 then (match g.locals[k]? with | some (.val (.long v)) => some { g with pc := g.pc + 2, stack := .long v :: g.stack } | _ => none) else none
  | .aload_n k => if n = 1 then (match g.locals[k.val]? with | some (.val v) => if v.isRef = true then some { g with pc := g.pc + 1, stack := v :: g.stack } else none | _ => none) else none
  | .aload k => if n = 2 then (match g.locals[k]? with | some (.val v) => if v.isRef = true then some { g with pc := g.pc + 2, stack := v :: g.stack } else none | _ => none) else none
  | .istore_n k => if n = 1 then (match g.stack with | .int x :: rest => (match storeLocals g.locals k.val (.int x) with | some l' => some { g with pc := g.pc + 1, stack := rest, locals := l' } | none => none) | _ => none) else none
  | .istore k => if n = 2 then (match g.stack with | .int x :: rest => (match storeLocals g.locals k (.int x) with | some l' => some { g with pc := g.pc + 2, stack := rest, locals := l' } | none => none) | _ => none) else none
  | .lstore_n k => if n = 1 then (match g.stack with | .long x :: rest => (match storeLocals g.locals k.val (.long x) with | some l' => some { g with pc := g.pc + 1, stack := rest, locals := l' } | none => none) | _ => none) else none
  | .lstore k => if n = 2 then (match g.stack with | .long x :: rest => (match storeLocals g.locals k (.long x) with | some l' => some { g with pc := g.pc + 2, stack := rest, locals := l' } | none => none) | _ => none) else none
  | .astore_n k => if n = 1 then (match g.stack with | x :: rest => (if x.isRef = true then (match storeLocals g.locals k.val x with | some l' => some { g with pc := g.pc + 1, stack := rest, locals := l' } | none => none) else none) | _ => none) else none
  | .astore k => if n = 2 then (match g.stack with | x :: rest => (if x.isRef = true then (match storeLocals g.locals k x with | some l' => some { g with pc := g.pc + 2, stack := rest, locals := l' } | none => none) else none) | _ => none) else none
  | .iconst i => if n = 1 then (some { g with pc := g.pc + 1, stack := .int (Int32.ofInt i) :: g.stack }) else none
  | .bipush i => if n = 2 then (some { g with pc := g.pc + 2, stack := .int (Int8.ofInt i).toInt32 :: g.stack }) else none
  | .sipush i => if n = 3 then (some { g with pc := g.pc + 3, stack := .int (Int16.ofInt i).toInt32 :: g.stack }) else none
  | .lconst k => if n = 1 then (some { g with pc := g.pc + 1, stack := .long (Int64.ofNat k) :: g.stack }) else none
  | .aconst_null => if n = 1 then (some { g with pc := g.pc + 1, stack := .null :: g.stack }) else none
  | .iadd => if n = 1 then (match g.stack with | .int y :: .int x :: rest => some { g with pc := g.pc + 1, stack := .int (x + y) :: rest } | _ => none) else none
  | .ladd => if n = 1 then (match g.stack with | .long y :: .long x :: rest => some { g with pc := g.pc + 1, stack := .long (x + y) :: rest } | _ => none) else none
  | .isub => if n = 1 then (match g.stack with | .int y :: .int x :: rest => some { g with pc := g.pc + 1, stack := .int (x - y) :: rest } | _ => none) else none
  | .lsub => if n = 1 then (match g.stack with | .long y :: .long x :: rest => some { g with pc := g.pc + 1, stack := .long (x - y) :: rest } | _ => none) else none
  | .imul => if n = 1 then (match g.stack with | .int y :: .int x :: rest => some { g with pc := g.pc + 1, stack := .int (x * y) :: rest } | _ => none) else none
  | .lmul => if n = 1 then (match g.stack with | .long y :: .long x :: rest => some { g with pc := g.pc + 1, stack := .long (x * y) :: rest } | _ => none) else none
  | .iand => if n = 1 then (match g.stack with | .int y :: .int x :: rest => some { g with pc := g.pc + 1, stack := .int (x &&& y) :: rest } | _ => none) else none
  | .land => if n = 1 then (match g.stack with | .long y :: .long x :: rest => some { g with pc := g.pc + 1, stack := .long (x &&& y) :: rest } | _ => none) else none
  | .ior => if n = 1 then (match g.stack with | .int y :: .int x :: rest => some { g with pc := g.pc + 1, stack := .int (x ||| y) :: rest } | _ => none) else none
  | .lor => if n = 1 then (match g.stack with | .long y :: .long x :: rest => some { g with pc := g.pc + 1, stack := .long (x ||| y) :: rest } | _ => none) else none
  | .ixor => if n = 1 then (match g.stack with | .int y :: .int x :: rest => some { g with pc := g.pc + 1, stack := .int (x ^^^ y) :: rest } | _ => none) else none
  | .lxor => if n = 1 then (match g.stack with | .long y :: .long x :: rest => some { g with pc := g.pc + 1, stack := .long (x ^^^ y) :: rest } | _ => none) else none
  | .ishl => if n = 1 then (match g.stack with | .int y :: .int x :: rest => some { g with pc := g.pc + 1, stack := .int (x <<< (y &&& 31)) :: rest } | _ => none) else none
  | .ishr => if n = 1 then (match g.stack with | .int y :: .int x :: rest => some { g with pc := g.pc + 1, stack := .int (x >>> (y &&& 31)) :: rest } | _ => none) else none
  | .iushr => if n = 1 then (match g.stack with | .int y :: .int x :: rest => some { g with pc := g.pc + 1, stack := .int ((x.toUInt32 >>> (y &&& 31).toUInt32).toInt32) :: rest } | _ => none) else none
  | .lshl => if n = 1 then (match g.stack with | .int y :: .long x :: rest => some { g with pc := g.pc + 1, stack := .long (x <<< (y &&& 0x3f).toInt64) :: rest } | _ => none) else none
  | .lshr => if n = 1 then (match g.stack with | .int y :: .long x :: rest => some { g with pc := g.pc + 1, stack := .long (x >>> (y &&& 0x3f).toInt64) :: rest } | _ => none) else none
  | .lushr => if n = 1 then (match g.stack with | .int y :: .long x :: rest => some { g with pc := g.pc + 1, stack := .long ((x.toUInt64 >>> (y &&& 0x3f).toInt64.toUInt64).toInt64) :: rest } | _ => none) else none
  | .lcmp => if n = 1 then (match g.stack with | .long y :: .long x :: rest => some { g with pc := g.pc + 1, stack := .int (if x > y then 1 else if x = y then 0 else -1) :: rest } | _ => none) else none
  | .ineg => if n = 1 then (match g.stack with | .int v :: rest => some { g with pc := g.pc + 1, stack := .int (-v) :: rest } | _ => none) else none
  | .lneg => if n = 1 then (match g.stack with | .long v :: rest => some { g with pc := g.pc + 1, stack := .long (-v) :: rest } | _ => none) else none
  | .i2l => if n = 1 then (match g.stack with | .int v :: rest => some { g with pc := g.pc + 1, stack := .long (v.toInt64) :: rest } | _ => none) else none
  | .l2i => if n = 1 then (match g.stack with | .long v :: rest => some { g with pc := g.pc + 1, stack := .int (v.toInt32) :: rest } | _ => none) else none
  | .i2b => if n = 1 then (match g.stack with | .int v :: rest => some { g with pc := g.pc + 1, stack := .int (v.toInt8.toInt32) :: rest } | _ => none) else none
  | .i2c => if n = 1 then (match g.stack with | .int v :: rest => some { g with pc := g.pc + 1, stack := .int (v.toUInt32.toUInt16.toUInt32.toInt32) :: rest } | _ => none) else none
  | .i2s => if n = 1 then (match g.stack with | .int v :: rest => some { g with pc := g.pc + 1, stack := .int (v.toInt16.toInt32) :: rest } | _ => none) else none
  | .iinc k cst => if n = 3 then (match g.locals[k]? with | some (.val (.int x)) => (match storeLocals g.locals k (.int (x + Int32.ofInt cst)) with | some l' => some { g with pc := g.pc + 3, locals := l' } | none => none) | _ => none) else none
  | .dup => if n = 1 then (match g.stack with | x :: rest => (if x.category = 1 then some { g with pc := g.pc + 1, stack := x :: x :: rest } else none) | _ => none) else none
  | .pop => if n = 1 then (match g.stack with | x :: rest => (if x.category = 1 then some { g with pc := g.pc + 1, stack := rest } else none) | _ => none) else none
  | .goto o => if n = 3 then (if 0 ≤ (g.pc : Int) + o then some { g with pc := ((g.pc : Int) + o).toNat } else none) else none
  | .ldc i => if n = 2 then (match own_look i ci with | some v => some { g with pc := g.pc + 2, stack := .int v :: g.stack } | none => none) else none
  | .ldc_w i => if n = 3 then (match own_look i ci with | some v => some { g with pc := g.pc + 3, stack := .int v :: g.stack } | none => none) else none
  | .ldc2_w i => if n = 3 then (match own_look i cl with | some v => some { g with pc := g.pc + 3, stack := .long v :: g.stack } | none => none) else none
  | .idiv => if n = 1 then (match g.stack with | .int y :: .int x :: rest => (if y = 0 then none else some { g with pc := g.pc + 1, stack := .int (x / y) :: rest }) | _ => none) else none
  | .irem => if n = 1 then (match g.stack with | .int y :: .int x :: rest => (if y = 0 then none else some { g with pc := g.pc + 1, stack := .int (x - (x / y) * y) :: rest }) | _ => none) else none
  | .ldiv => if n = 1 then (match g.stack with | .long y :: .long x :: rest => (if y = 0 then none else some { g with pc := g.pc + 1, stack := .long (x / y) :: rest }) | _ => none) else none
  | .lrem => if n = 1 then (match g.stack with | .long y :: .long x :: rest => (if y = 0 then none else some { g with pc := g.pc + 1, stack := .long (x - (x / y) * y) :: rest }) | _ => none) else none
  | _ => none
section OwnRun
variable {p : Program} {l : Launch} {e : Env} {R : Room} {s : State} {m : MethodId} {args : Array Value} {below : List Frame} {meth : Method} {c : Code} {T target : State} {locs : List Loc} {cells slots kc ks : Nat} {own : String} {ci : List (Nat × Int32)} {cl : List (Nat × Int64)} {Q : Option Value → Heap → List Loc → Prop}
set_option maxHeartbeats 4000000 in
theorem own_pstep_ok (X : Stand p l e R s m args below meth c T locs cells slots) (hx : p.tables.exec = Jvm.exec) (hown : s.vm.findClass own = some m.cls) (hci : ∀ i v, (i, v) ∈ ci → (Cond.constant own i v).before args s = true) (hcl : ∀ i v, (i, v) ∈ cl → (Cond.constantLong own i v).before args s = true)
    {g g' : JFrame} (hg : g.method = m) {i : Instr} {n : Nat} (hd : decode c.code g.pc = .ok (i, n)) (hp : own_pstep ci cl i n g = some g') : (∀ target, Steps p.tables e below (T.setTop g') target → Steps p.tables e below (T.setTop g) target) ∧ g'.method = m := by
  cases i
  all_goals first
    | (exact absurd hp (by intro q; cases q))
    | skip
  case iload_n k =>
    by_cases hn : n = 1
    · subst hn
      replace hp : (match g.locals[k.val]? with | some (.val (.int v)) => some { g with pc := g.pc + 1, stack := .int v :: g.stack } | _ => none) = some g' := hp
      split at hp
      · skip
        cases hp
        exact ⟨fun _ hr => XS.iloadN X.here hx hg hd (by assumption) hr, hg⟩
      · cases hp
    · exact absurd hp (by intro q; rw [show own_pstep ci cl (.iload_n k) n g = none from if_neg hn] at q; cases q)
  case iload k =>
    by_cases hn : n = 2
    · subst hn
      replace hp : (match g.locals[k]? with | some (.val (.int v)) => some { g with pc := g.pc + 2, stack := .int v :: g.stack } | _ => none) = some g' := hp
      split at hp
      · skip
        cases hp
        exact ⟨fun _ hr => XS.iload X.here hx hg hd (by assumption) hr, hg⟩
      · cases hp
    · exact absurd hp (by intro q; rw [show own_pstep ci cl (.iload k) n g = none from if_neg hn] at q; cases q)
  case lload_n k =>
    by_cases hn : n = 1
    · subst hn
      replace hp : (match g.locals[k.val]? with | some (.val (.long v)) => some { g with pc := g.pc + 1, stack := .long v :: g.stack } | _ => none) = some g' := hp
      split at hp
      · skip
        cases hp
        exact ⟨fun _ hr => XS.lloadN X.here hx hg hd (by assumption) hr, hg⟩
      · cases hp
    · exact absurd hp (by intro q; rw [show own_pstep ci cl (.lload_n k) n g = none from if_neg hn] at q; cases q)
  case lload k =>
    by_cases hn : n = 2
    · subst hn
      replace hp : (match g.locals[k]? with | some (.val (.long v)) => some { g with pc := g.pc + 2, stack := .long v :: g.stack } | _ => none) = some g' := hp
      split at hp
      · skip
        cases hp
        exact ⟨fun _ hr => XS.lload X.here hx hg hd (by assumption) hr, hg⟩
      · cases hp
    · exact absurd hp (by intro q; rw [show own_pstep ci cl (.lload k) n g = none from if_neg hn] at q; cases q)
  case aload_n k =>
    by_cases hn : n = 1
    · subst hn
      replace hp : (match g.locals[k.val]? with | some (.val v) => if v.isRef = true then some { g with pc := g.pc + 1, stack := v :: g.stack } else none | _ => none) = some g' := hp
      split at hp
      · skip
        split at hp
        · skip
          cases hp
          exact ⟨fun _ hr => XS.aloadN X.here hx hg hd (by assumption) (by assumption) hr, hg⟩
        · cases hp
      · cases hp
    · exact absurd hp (by intro q; rw [show own_pstep ci cl (.aload_n k) n g = none from if_neg hn] at q; cases q)
  case aload k =>
    by_cases hn : n = 2
    · subst hn
      replace hp : (match g.locals[k]? with | some (.val v) => if v.isRef = true then some { g with pc := g.pc + 2, stack := v :: g.stack } else none | _ => none) = some g' := hp
      split at hp
      · skip
        split at hp
        · skip
          cases hp
          exact ⟨fun _ hr => XS.aload X.here hx hg hd (by assumption) (by assumption) hr, hg⟩
        · cases hp
      · cases hp
    · exact absurd hp (by intro q; rw [show own_pstep ci cl (.aload k) n g = none from if_neg hn] at q; cases q)
  case istore_n k =>
    by_cases hn : n = 1
    · subst hn
      replace hp : (match g.stack with | .int x :: rest => (match storeLocals g.locals k.val (.int x) with | some l' => some { g with pc := g.pc + 1, stack := rest, locals := l' } | none => none) | _ => none) = some g' := hp
      split at hp
      · skip
        split at hp
        · skip
          cases hp
          exact ⟨fun _ hr => XS.istoreN X.here hx hg hd (by assumption) (by assumption) hr, hg⟩
        · cases hp
      · cases hp
    · exact absurd hp (by intro q; rw [show own_pstep ci cl (.istore_n k) n g = none from if_neg hn] at q; cases q)
  case istore k =>
    by_cases hn : n = 2
    · subst hn
      replace hp : (match g.stack with | .int x :: rest => (match storeLocals g.locals k (.int x) with | some l' => some { g with pc := g.pc + 2, stack := rest, locals := l' } | none => none) | _ => none) = some g' := hp
      split at hp
      · skip
        split at hp
        · skip
          cases hp
          exact ⟨fun _ hr => XS.istore X.here hx hg hd (by assumption) (by assumption) hr, hg⟩
        · cases hp
      · cases hp
    · exact absurd hp (by intro q; rw [show own_pstep ci cl (.istore k) n g = none from if_neg hn] at q; cases q)
  case lstore_n k =>
    by_cases hn : n = 1
    · subst hn
      replace hp : (match g.stack with | .long x :: rest => (match storeLocals g.locals k.val (.long x) with | some l' => some { g with pc := g.pc + 1, stack := rest, locals := l' } | none => none) | _ => none) = some g' := hp
      split at hp
      · skip
        split at hp
        · skip
          cases hp
          exact ⟨fun _ hr => XS.lstoreN X.here hx hg hd (by assumption) (by assumption) hr, hg⟩
        · cases hp
      · cases hp
    · exact absurd hp (by intro q; rw [show own_pstep ci cl (.lstore_n k) n g = none from if_neg hn] at q; cases q)
  case lstore k =>
    by_cases hn : n = 2
    · subst hn
      replace hp : (match g.stack with | .long x :: rest => (match storeLocals g.locals k (.long x) with | some l' => some { g with pc := g.pc + 2, stack := rest, locals := l' } | none => none) | _ => none) = some g' := hp
      split at hp
      · skip
        split at hp
        · skip
          cases hp
          exact ⟨fun _ hr => XS.lstore X.here hx hg hd (by assumption) (by assumption) hr, hg⟩
        · cases hp
      · cases hp
    · exact absurd hp (by intro q; rw [show own_pstep ci cl (.lstore k) n g = none from if_neg hn] at q; cases q)
  case astore_n k =>
    by_cases hn : n = 1
    · subst hn
      replace hp : (match g.stack with | x :: rest => (if x.isRef = true then (match storeLocals g.locals k.val x with | some l' => some { g with pc := g.pc + 1, stack := rest, locals := l' } | none => none) else none) | _ => none) = some g' := hp
      split at hp
      · skip
        split at hp
        · skip
          split at hp
          · skip
            cases hp
            exact ⟨fun _ hr => XS.astoreN X.here hx hg hd (by assumption) (by assumption) (by assumption) hr, hg⟩
          · cases hp
        · cases hp
      · cases hp
    · exact absurd hp (by intro q; rw [show own_pstep ci cl (.astore_n k) n g = none from if_neg hn] at q; cases q)
  case astore k =>
    by_cases hn : n = 2
    · subst hn
      replace hp : (match g.stack with | x :: rest => (if x.isRef = true then (match storeLocals g.locals k x with | some l' => some { g with pc := g.pc + 2, stack := rest, locals := l' } | none => none) else none) | _ => none) = some g' := hp
      split at hp
      · skip
        split at hp
        · skip
          split at hp
          · skip
            cases hp
            exact ⟨fun _ hr => XS.astore X.here hx hg hd (by assumption) (by assumption) (by assumption) hr, hg⟩
          · cases hp
        · cases hp
      · cases hp
    · exact absurd hp (by intro q; rw [show own_pstep ci cl (.astore k) n g = none from if_neg hn] at q; cases q)
  case iconst i =>
    by_cases hn : n = 1
    · subst hn
      replace hp : (some { g with pc := g.pc + 1, stack := .int (Int32.ofInt i) :: g.stack }) = some g' := hp
      cases hp
      exact ⟨fun _ hr => XS.iconst X.here hx hg hd hr, hg⟩
    · exact absurd hp (by intro q; rw [show own_pstep ci cl (.iconst i) n g = none from if_neg hn] at q; cases q)
  case bipush i =>
    by_cases hn : n = 2
    · subst hn
      replace hp : (some { g with pc := g.pc + 2, stack := .int (Int8.ofInt i).toInt32 :: g.stack }) = some g' := hp
      cases hp
      exact ⟨fun _ hr => XS.bipush X.here hx hg hd hr, hg⟩
    · exact absurd hp (by intro q; rw [show own_pstep ci cl (.bipush i) n g = none from if_neg hn] at q; cases q)
  case sipush i =>
    by_cases hn : n = 3
    · subst hn
      replace hp : (some { g with pc := g.pc + 3, stack := .int (Int16.ofInt i).toInt32 :: g.stack }) = some g' := hp
      cases hp
      exact ⟨fun _ hr => XS.sipush X.here hx hg hd hr, hg⟩
    · exact absurd hp (by intro q; rw [show own_pstep ci cl (.sipush i) n g = none from if_neg hn] at q; cases q)
  case lconst k =>
    by_cases hn : n = 1
    · subst hn
      replace hp : (some { g with pc := g.pc + 1, stack := .long (Int64.ofNat k) :: g.stack }) = some g' := hp
      cases hp
      exact ⟨fun _ hr => XS.lconst X.here hx hg hd hr, hg⟩
    · exact absurd hp (by intro q; rw [show own_pstep ci cl (.lconst k) n g = none from if_neg hn] at q; cases q)
  case aconst_null =>
    by_cases hn : n = 1
    · subst hn
      replace hp : (some { g with pc := g.pc + 1, stack := .null :: g.stack }) = some g' := hp
      cases hp
      exact ⟨fun _ hr => XS.aconstNull X.here hx hg hd hr, hg⟩
    · exact absurd hp (by intro q; rw [show own_pstep ci cl (.aconst_null) n g = none from if_neg hn] at q; cases q)
  case iadd =>
    by_cases hn : n = 1
    · subst hn
      replace hp : (match g.stack with | .int y :: .int x :: rest => some { g with pc := g.pc + 1, stack := .int (x + y) :: rest } | _ => none) = some g' := hp
      split at hp
      · skip
        cases hp
        exact ⟨fun _ hr => XS.iadd X.here hx hg hd (by assumption) hr, hg⟩
      · cases hp
    · exact absurd hp (by intro q; rw [show own_pstep ci cl (.iadd) n g = none from if_neg hn] at q; cases q)
  case ladd =>
    by_cases hn : n = 1
    · subst hn
      replace hp : (match g.stack with | .long y :: .long x :: rest => some { g with pc := g.pc + 1, stack := .long (x + y) :: rest } | _ => none) = some g' := hp
      split at hp
      · skip
        cases hp
        exact ⟨fun _ hr => XS.ladd X.here hx hg hd (by assumption) hr, hg⟩
      · cases hp
    · exact absurd hp (by intro q; rw [show own_pstep ci cl (.ladd) n g = none from if_neg hn] at q; cases q)
  case isub =>
    by_cases hn : n = 1
    · subst hn
      replace hp : (match g.stack with | .int y :: .int x :: rest => some { g with pc := g.pc + 1, stack := .int (x - y) :: rest } | _ => none) = some g' := hp
      split at hp
      · skip
        cases hp
        exact ⟨fun _ hr => XS.isub X.here hx hg hd (by assumption) hr, hg⟩
      · cases hp
    · exact absurd hp (by intro q; rw [show own_pstep ci cl (.isub) n g = none from if_neg hn] at q; cases q)
  case lsub =>
    by_cases hn : n = 1
    · subst hn
      replace hp : (match g.stack with | .long y :: .long x :: rest => some { g with pc := g.pc + 1, stack := .long (x - y) :: rest } | _ => none) = some g' := hp
      split at hp
      · skip
        cases hp
        exact ⟨fun _ hr => XS.lsub X.here hx hg hd (by assumption) hr, hg⟩
      · cases hp
    · exact absurd hp (by intro q; rw [show own_pstep ci cl (.lsub) n g = none from if_neg hn] at q; cases q)
  case imul =>
    by_cases hn : n = 1
    · subst hn
      replace hp : (match g.stack with | .int y :: .int x :: rest => some { g with pc := g.pc + 1, stack := .int (x * y) :: rest } | _ => none) = some g' := hp
      split at hp
      · skip
        cases hp
        exact ⟨fun _ hr => XS.imul X.here hx hg hd (by assumption) hr, hg⟩
      · cases hp
    · exact absurd hp (by intro q; rw [show own_pstep ci cl (.imul) n g = none from if_neg hn] at q; cases q)
  case lmul =>
    by_cases hn : n = 1
    · subst hn
      replace hp : (match g.stack with | .long y :: .long x :: rest => some { g with pc := g.pc + 1, stack := .long (x * y) :: rest } | _ => none) = some g' := hp
      split at hp
      · skip
        cases hp
        exact ⟨fun _ hr => XS.lmul X.here hx hg hd (by assumption) hr, hg⟩
      · cases hp
    · exact absurd hp (by intro q; rw [show own_pstep ci cl (.lmul) n g = none from if_neg hn] at q; cases q)
  case iand =>
    by_cases hn : n = 1
    · subst hn
      replace hp : (match g.stack with | .int y :: .int x :: rest => some { g with pc := g.pc + 1, stack := .int (x &&& y) :: rest } | _ => none) = some g' := hp
      split at hp
      · skip
        cases hp
        exact ⟨fun _ hr => XS.iand X.here hx hg hd (by assumption) hr, hg⟩
      · cases hp
    · exact absurd hp (by intro q; rw [show own_pstep ci cl (.iand) n g = none from if_neg hn] at q; cases q)
  case land =>
    by_cases hn : n = 1
    · subst hn
      replace hp : (match g.stack with | .long y :: .long x :: rest => some { g with pc := g.pc + 1, stack := .long (x &&& y) :: rest } | _ => none) = some g' := hp
      split at hp
      · skip
        cases hp
        exact ⟨fun _ hr => XS.land X.here hx hg hd (by assumption) hr, hg⟩
      · cases hp
    · exact absurd hp (by intro q; rw [show own_pstep ci cl (.land) n g = none from if_neg hn] at q; cases q)
  case ior =>
    by_cases hn : n = 1
    · subst hn
      replace hp : (match g.stack with | .int y :: .int x :: rest => some { g with pc := g.pc + 1, stack := .int (x ||| y) :: rest } | _ => none) = some g' := hp
      split at hp
      · skip
        cases hp
        exact ⟨fun _ hr => XS.ior X.here hx hg hd (by assumption) hr, hg⟩
      · cases hp
    · exact absurd hp (by intro q; rw [show own_pstep ci cl (.ior) n g = none from if_neg hn] at q; cases q)
  case lor =>
    by_cases hn : n = 1
    · subst hn
      replace hp : (match g.stack with | .long y :: .long x :: rest => some { g with pc := g.pc + 1, stack := .long (x ||| y) :: rest } | _ => none) = some g' := hp
      split at hp
      · skip
        cases hp
        exact ⟨fun _ hr => XS.lor X.here hx hg hd (by assumption) hr, hg⟩
      · cases hp
    · exact absurd hp (by intro q; rw [show own_pstep ci cl (.lor) n g = none from if_neg hn] at q; cases q)
  case ixor =>
    by_cases hn : n = 1
    · subst hn
      replace hp : (match g.stack with | .int y :: .int x :: rest => some { g with pc := g.pc + 1, stack := .int (x ^^^ y) :: rest } | _ => none) = some g' := hp
      split at hp
      · skip
        cases hp
        exact ⟨fun _ hr => XS.ixor X.here hx hg hd (by assumption) hr, hg⟩
      · cases hp
    · exact absurd hp (by intro q; rw [show own_pstep ci cl (.ixor) n g = none from if_neg hn] at q; cases q)
  case lxor =>
    by_cases hn : n = 1
    · subst hn
      replace hp : (match g.stack with | .long y :: .long x :: rest => some { g with pc := g.pc + 1, stack := .long (x ^^^ y) :: rest } | _ => none) = some g' := hp
      split at hp
      · skip
        cases hp
        exact ⟨fun _ hr => XS.lxor X.here hx hg hd (by assumption) hr, hg⟩
      · cases hp
    · exact absurd hp (by intro q; rw [show own_pstep ci cl (.lxor) n g = none from if_neg hn] at q; cases q)
  case ishl =>
    by_cases hn : n = 1
    · subst hn
      replace hp : (match g.stack with | .int y :: .int x :: rest => some { g with pc := g.pc + 1, stack := .int (x <<< (y &&& 31)) :: rest } | _ => none) = some g' := hp
      split at hp
      · skip
        cases hp
        exact ⟨fun _ hr => XS.ishl X.here hx hg hd (by assumption) hr, hg⟩
      · cases hp
    · exact absurd hp (by intro q; rw [show own_pstep ci cl (.ishl) n g = none from if_neg hn] at q; cases q)
  case ishr =>
    by_cases hn : n = 1
    · subst hn
      replace hp : (match g.stack with | .int y :: .int x :: rest => some { g with pc := g.pc + 1, stack := .int (x >>> (y &&& 31)) :: rest } | _ => none) = some g' := hp
      split at hp
      · skip
        cases hp
        exact ⟨fun _ hr => XS.ishr X.here hx hg hd (by assumption) hr, hg⟩
      · cases hp
    · exact absurd hp (by intro q; rw [show own_pstep ci cl (.ishr) n g = none from if_neg hn] at q; cases q)
  case iushr =>
    by_cases hn : n = 1
    · subst hn
      replace hp : (match g.stack with | .int y :: .int x :: rest => some { g with pc := g.pc + 1, stack := .int ((x.toUInt32 >>> (y &&& 31).toUInt32).toInt32) :: rest } | _ => none) = some g' := hp
      split at hp
      · skip
        cases hp
        exact ⟨fun _ hr => XS.iushr X.here hx hg hd (by assumption) hr, hg⟩
      · cases hp
    · exact absurd hp (by intro q; rw [show own_pstep ci cl (.iushr) n g = none from if_neg hn] at q; cases q)
  case lshl =>
    by_cases hn : n = 1
    · subst hn
      replace hp : (match g.stack with | .int y :: .long x :: rest => some { g with pc := g.pc + 1, stack := .long (x <<< (y &&& 0x3f).toInt64) :: rest } | _ => none) = some g' := hp
      split at hp
      · skip
        cases hp
        exact ⟨fun _ hr => XS.lshl X.here hx hg hd (by assumption) hr, hg⟩
      · cases hp
    · exact absurd hp (by intro q; rw [show own_pstep ci cl (.lshl) n g = none from if_neg hn] at q; cases q)
  case lshr =>
    by_cases hn : n = 1
    · subst hn
      replace hp : (match g.stack with | .int y :: .long x :: rest => some { g with pc := g.pc + 1, stack := .long (x >>> (y &&& 0x3f).toInt64) :: rest } | _ => none) = some g' := hp
      split at hp
      · skip
        cases hp
        exact ⟨fun _ hr => XS.lshr X.here hx hg hd (by assumption) hr, hg⟩
      · cases hp
    · exact absurd hp (by intro q; rw [show own_pstep ci cl (.lshr) n g = none from if_neg hn] at q; cases q)
  case lushr =>
    by_cases hn : n = 1
    · subst hn
      replace hp : (match g.stack with | .int y :: .long x :: rest => some { g with pc := g.pc + 1, stack := .long ((x.toUInt64 >>> (y &&& 0x3f).toInt64.toUInt64).toInt64) :: rest } | _ => none) = some g' := hp
      split at hp
      · skip
        cases hp
        exact ⟨fun _ hr => XS.lushr X.here hx hg hd (by assumption) hr, hg⟩
      · cases hp
    · exact absurd hp (by intro q; rw [show own_pstep ci cl (.lushr) n g = none from if_neg hn] at q; cases q)
  case lcmp =>
    by_cases hn : n = 1
    · subst hn
      replace hp : (match g.stack with | .long y :: .long x :: rest => some { g with pc := g.pc + 1, stack := .int (if x > y then 1 else if x = y then 0 else -1) :: rest } | _ => none) = some g' := hp
      split at hp
      · skip
        cases hp
        exact ⟨fun _ hr => XS.lcmp X.here hx hg hd (by assumption) hr, hg⟩
      · cases hp
    · exact absurd hp (by intro q; rw [show own_pstep ci cl (.lcmp) n g = none from if_neg hn] at q; cases q)
  case ineg =>
    by_cases hn : n = 1
    · subst hn
      replace hp : (match g.stack with | .int v :: rest => some { g with pc := g.pc + 1, stack := .int (-v) :: rest } | _ => none) = some g' := hp
      split at hp
      · skip
        cases hp
        exact ⟨fun _ hr => XS.ineg X.here hx hg hd (by assumption) hr, hg⟩
      · cases hp
    · exact absurd hp (by intro q; rw [show own_pstep ci cl (.ineg) n g = none from if_neg hn] at q; cases q)
  case lneg =>
    by_cases hn : n = 1
    · subst hn
      replace hp : (match g.stack with | .long v :: rest => some { g with pc := g.pc + 1, stack := .long (-v) :: rest } | _ => none) = some g' := hp
      split at hp
      · skip
        cases hp
        exact ⟨fun _ hr => XS.lneg X.here hx hg hd (by assumption) hr, hg⟩
      · cases hp
    · exact absurd hp (by intro q; rw [show own_pstep ci cl (.lneg) n g = none from if_neg hn] at q; cases q)
  case i2l =>
    by_cases hn : n = 1
    · subst hn
      replace hp : (match g.stack with | .int v :: rest => some { g with pc := g.pc + 1, stack := .long (v.toInt64) :: rest } | _ => none) = some g' := hp
      split at hp
      · skip
        cases hp
        exact ⟨fun _ hr => XS.i2l X.here hx hg hd (by assumption) hr, hg⟩
      · cases hp
    · exact absurd hp (by intro q; rw [show own_pstep ci cl (.i2l) n g = none from if_neg hn] at q; cases q)
  case l2i =>
    by_cases hn : n = 1
    · subst hn
      replace hp : (match g.stack with | .long v :: rest => some { g with pc := g.pc + 1, stack := .int (v.toInt32) :: rest } | _ => none) = some g' := hp
      split at hp
      · skip
        cases hp
        exact ⟨fun _ hr => XS.l2i X.here hx hg hd (by assumption) hr, hg⟩
      · cases hp
    · exact absurd hp (by intro q; rw [show own_pstep ci cl (.l2i) n g = none from if_neg hn] at q; cases q)
  case i2b =>
    by_cases hn : n = 1
    · subst hn
      replace hp : (match g.stack with | .int v :: rest => some { g with pc := g.pc + 1, stack := .int (v.toInt8.toInt32) :: rest } | _ => none) = some g' := hp
      split at hp
      · skip
        cases hp
        exact ⟨fun _ hr => XS.i2b X.here hx hg hd (by assumption) hr, hg⟩
      · cases hp
    · exact absurd hp (by intro q; rw [show own_pstep ci cl (.i2b) n g = none from if_neg hn] at q; cases q)
  case i2c =>
    by_cases hn : n = 1
    · subst hn
      replace hp : (match g.stack with | .int v :: rest => some { g with pc := g.pc + 1, stack := .int (v.toUInt32.toUInt16.toUInt32.toInt32) :: rest } | _ => none) = some g' := hp
      split at hp
      · skip
        cases hp
        exact ⟨fun _ hr => XS.i2c X.here hx hg hd (by assumption) hr, hg⟩
      · cases hp
    · exact absurd hp (by intro q; rw [show own_pstep ci cl (.i2c) n g = none from if_neg hn] at q; cases q)
  case i2s =>
    by_cases hn : n = 1
    · subst hn
      replace hp : (match g.stack with | .int v :: rest => some { g with pc := g.pc + 1, stack := .int (v.toInt16.toInt32) :: rest } | _ => none) = some g' := hp
      split at hp
      · skip
        cases hp
        exact ⟨fun _ hr => XS.i2s X.here hx hg hd (by assumption) hr, hg⟩
      · cases hp
    · exact absurd hp (by intro q; rw [show own_pstep ci cl (.i2s) n g = none from if_neg hn] at q; cases q)
  case iinc k cst =>
    by_cases hn : n = 3
    · subst hn
      replace hp : (match g.locals[k]? with | some (.val (.int x)) => (match storeLocals g.locals k (.int (x + Int32.ofInt cst)) with | some l' => some { g with pc := g.pc + 3, locals := l' } | none => none) | _ => none) = some g' := hp
      split at hp
      · skip
        split at hp
        · skip
          cases hp
          exact ⟨fun _ hr => XS.iinc X.here hx hg hd (by assumption) (by assumption) hr, hg⟩
        · cases hp
      · cases hp
    · exact absurd hp (by intro q; rw [show own_pstep ci cl (.iinc k cst) n g = none from if_neg hn] at q; cases q)
  case dup =>
    by_cases hn : n = 1
    · subst hn
      replace hp : (match g.stack with | x :: rest => (if x.category = 1 then some { g with pc := g.pc + 1, stack := x :: x :: rest } else none) | _ => none) = some g' := hp
      split at hp
      · skip
        split at hp
        · skip
          cases hp
          exact ⟨fun _ hr => XS.dup X.here hx hg hd (by assumption) (by assumption) hr, hg⟩
        · cases hp
      · cases hp
    · exact absurd hp (by intro q; rw [show own_pstep ci cl (.dup) n g = none from if_neg hn] at q; cases q)
  case pop =>
    by_cases hn : n = 1
    · subst hn
      replace hp : (match g.stack with | x :: rest => (if x.category = 1 then some { g with pc := g.pc + 1, stack := rest } else none) | _ => none) = some g' := hp
      split at hp
      · skip
        split at hp
        · skip
          cases hp
          exact ⟨fun _ hr => XS.pop X.here hx hg hd (by assumption) (by assumption) hr, hg⟩
        · cases hp
      · cases hp
    · exact absurd hp (by intro q; rw [show own_pstep ci cl (.pop) n g = none from if_neg hn] at q; cases q)
  case goto o =>
    by_cases hn : n = 3
    · subst hn
      replace hp : (if 0 ≤ (g.pc : Int) + o then some { g with pc := ((g.pc : Int) + o).toNat } else none) = some g' := hp
      split at hp
      · skip
        cases hp
        exact ⟨fun _ hr => XS.goto X.here hx hg rfl hd (by assumption) rfl hr, hg⟩
      · cases hp
    · exact absurd hp (by intro q; rw [show own_pstep ci cl (.goto o) n g = none from if_neg hn] at q; cases q)
  case ldc i =>
    by_cases hn : n = 2
    · subst hn
      replace hp : (match own_look i ci with | some v => some { g with pc := g.pc + 2, stack := .int v :: g.stack } | none => none) = some g' := hp
      split at hp
      · skip
        cases hp
        exact ⟨fun _ hr => X.ldcInt hx hown (hci _ _ (own_look_mem (by assumption))) hg hd _ hr, hg⟩
      · cases hp
    · exact absurd hp (by intro q; rw [show own_pstep ci cl (.ldc i) n g = none from if_neg hn] at q; cases q)
  case ldc_w i =>
    by_cases hn : n = 3
    · subst hn
      replace hp : (match own_look i ci with | some v => some { g with pc := g.pc + 3, stack := .int v :: g.stack } | none => none) = some g' := hp
      split at hp
      · skip
        cases hp
        exact ⟨fun _ hr => X.ldcwInt hx hown (hci _ _ (own_look_mem (by assumption))) hg hd _ hr, hg⟩
      · cases hp
    · exact absurd hp (by intro q; rw [show own_pstep ci cl (.ldc_w i) n g = none from if_neg hn] at q; cases q)
  case ldc2_w i =>
    by_cases hn : n = 3
    · subst hn
      replace hp : (match own_look i cl with | some v => some { g with pc := g.pc + 3, stack := .long v :: g.stack } | none => none) = some g' := hp
      split at hp
      · skip
        cases hp
        exact ⟨fun _ hr => X.ldc2Long hx hown (hcl _ _ (own_look_mem (by assumption))) hg hd _ hr, hg⟩
      · cases hp
    · exact absurd hp (by intro q; rw [show own_pstep ci cl (.ldc2_w i) n g = none from if_neg hn] at q; cases q)
  case idiv =>
    by_cases hn : n = 1
    · subst hn
      replace hp : (match g.stack with | .int y :: .int x :: rest => (if y = 0 then none else some { g with pc := g.pc + 1, stack := .int (x / y) :: rest }) | _ => none) = some g' := hp
      split at hp
      · skip
        split at hp
        · cases hp
        · cases hp; exact ⟨fun _ hr => XS.idiv X.here hx hg hd (by assumption) (by assumption) hr, hg⟩
      · cases hp
    · exact absurd hp (by intro q; rw [show own_pstep ci cl (.idiv) n g = none from if_neg hn] at q; cases q)
  case irem =>
    by_cases hn : n = 1
    · subst hn
      replace hp : (match g.stack with | .int y :: .int x :: rest => (if y = 0 then none else some { g with pc := g.pc + 1, stack := .int (x - (x / y) * y) :: rest }) | _ => none) = some g' := hp
      split at hp
      · skip
        split at hp
        · cases hp
        · cases hp; exact ⟨fun _ hr => XS.irem X.here hx hg hd (by assumption) (by assumption) hr, hg⟩
      · cases hp
    · exact absurd hp (by intro q; rw [show own_pstep ci cl (.irem) n g = none from if_neg hn] at q; cases q)
  case ldiv =>
    by_cases hn : n = 1
    · subst hn
      replace hp : (match g.stack with | .long y :: .long x :: rest => (if y = 0 then none else some { g with pc := g.pc + 1, stack := .long (x / y) :: rest }) | _ => none) = some g' := hp
      split at hp
      · skip
        split at hp
        · cases hp
        · cases hp; exact ⟨fun _ hr => XS.ldiv X.here hx hg hd (by assumption) (by assumption) hr, hg⟩
      · cases hp
    · exact absurd hp (by intro q; rw [show own_pstep ci cl (.ldiv) n g = none from if_neg hn] at q; cases q)
  case lrem =>
    by_cases hn : n = 1
    · subst hn
      replace hp : (match g.stack with | .long y :: .long x :: rest => (if y = 0 then none else some { g with pc := g.pc + 1, stack := .long (x - (x / y) * y) :: rest }) | _ => none) = some g' := hp
      split at hp
      · skip
        split at hp
        · cases hp
        · cases hp; exact ⟨fun _ hr => XS.lrem X.here hx hg hd (by assumption) (by assumption) hr, hg⟩
      · cases hp
    · exact absurd hp (by intro q; rw [show own_pstep ci cl (.lrem) n g = none from if_neg hn] at q; cases q)
def own_decs (code : ByteArray) (L : List (Nat × Instr × Nat)) : Bool := L.all fun q => decide (decode code q.1 = .ok (q.2.1, q.2.2))
def own_prun (ci : List (Nat × Int32)) (cl : List (Nat × Int64)) : List (Nat × Instr × Nat) → JFrame → Option JFrame
  | [], g => some g
  | (pc, i, n) :: r, g => if g.pc = pc then (match own_pstep ci cl i n g with | some g' => own_prun ci cl r g' | none => none) else none
theorem own_prun_ok (X : Stand p l e R s m args below meth c T locs cells slots) (hx : p.tables.exec = Jvm.exec) (hown : s.vm.findClass own = some m.cls) (hci : ∀ i v, (i, v) ∈ ci → (Cond.constant own i v).before args s = true) (hcl : ∀ i v, (i, v) ∈ cl → (Cond.constantLong own i v).before args s = true) {code : ByteArray} (hby : c.code = code) :
    ∀ (L : List (Nat × Instr × Nat)) (g g' : JFrame), g.method = m → own_decs code L = true → own_prun ci cl L g = some g' → Steps p.tables e below (T.setTop g') target → Steps p.tables e below (T.setTop g) target := by
  intro L
  induction L with
  | nil => intro g g' _ _ hp hr; cases hp; exact hr
  | cons q r ih =>
    intro g g' hg hd hp hr
    obtain ⟨pc, i, n⟩ := q
    have hd' : decide (decode code pc = .ok (i, n)) = true ∧ own_decs code r = true := by
      have : (decide (decode code pc = .ok (i, n)) && own_decs code r) = true := hd
      simpa using this
    replace hp : (if g.pc = pc then (match own_pstep ci cl i n g with | some g' => own_prun ci cl r g' | none => none) else none) = some g' := hp
    by_cases hpc : g.pc = pc
    · rw [if_pos hpc] at hp
      cases hs : own_pstep ci cl i n g with
      | none => rw [hs] at hp; cases hp
      | some g1 =>
        rw [hs] at hp
        have q := own_pstep_ok X hx hown hci hcl hg (i := i) (n := n) (by rw [hby, hpc]; exact of_decide_eq_true hd'.1) hs
        exact q.1 _ (ih g1 g' q.2 hd'.2 hp hr)
    · rw [if_neg hpc] at hp; cases hp
theorem Goes.run (X : Stand p l e R s m args below meth c T locs cells slots) (hx : p.tables.exec = Jvm.exec) (hown : s.vm.findClass own = some m.cls) (hci : ∀ i v, (i, v) ∈ ci → (Cond.constant own i v).before args s = true) (hcl : ∀ i v, (i, v) ∈ cl → (Cond.constantLong own i v).before args s = true) {code : ByteArray} (hby : c.code = code)
    {L : List (Nat × Instr × Nat)} (hd : own_decs code L = true) {g g' : JFrame} (hg : g.method = m) (hp : own_prun ci cl L g = some g') (h : Goes p e below s Q kc ks (T.setTop g')) : Goes p e below s Q kc ks (T.setTop g) :=
  Goes.st (fun _ k => own_prun_ok X hx hown hci hcl hby L g g' hg hd hp k) h
theorem own_ci0 {α : Type} {P : Nat → α → Prop} : ∀ i v, (i, v) ∈ ([] : List (Nat × α)) → P i v := fun _ _ q => nomatch q
theorem own_ciS {α : Type} {P : Nat → α → Prop} {j : Nat} {w : α} {L : List (Nat × α)} (h : P j w) (r : ∀ i v, (i, v) ∈ L → P i v) : ∀ i v, (i, v) ∈ (j, w) :: L → P i v := fun i v q => (List.mem_cons.mp q).elim (fun z => by cases z; exact h) (r i v)
end OwnRun
theorem own_rem32 (x y : Int32) : (x - (x / y) * y).toInt = x.toInt.tmod y.toInt := by
  have a := (x % y).toInt_lt; have b := (x % y).le_toInt
  rw [Int32.toInt_mod] at a b
  rw [Int32.toInt_sub, Int32.toInt_mul, Int32.toInt_div, Int.bmod_mul_bmod, Int.sub_bmod_bmod, Int.mul_comm, ← Int.tmod_def]
  exact Jvm.Kit.bmod32 b a
section OwnNums
variable {x y : Int64} {u v : Int32} {a b : Int}
theorem own_r32 (hx : u.toInt = a) (hy : v.toInt = b) (h0 : 0 ≤ a) : (u - (u / v) * v).toInt = a % b := by subst hx hy; rw [own_rem32, Int.tmod_eq_emod_of_nonneg h0]
theorem own_r64 (hx : x.toInt = a) (hy : y.toInt = b) (h0 : 0 ≤ a) : (x - (x / y) * y).toInt = a % b := by subst hx hy; rw [Jvm.Kit.i64_rem, Int.tmod_eq_emod_of_nonneg h0]
theorem own_mul64 (hx : x.toInt = a) (hy : y.toInt = b) (h1 : -2 ^ 63 ≤ a * b) (h2 : a * b < 2 ^ 63) : (x * y).toInt = a * b := by subst hx hy; exact Jvm.Kit.i64_mul h1 h2
theorem own_mul32 (hx : u.toInt = a) (hy : v.toInt = b) (h1 : -2 ^ 31 ≤ a * b) (h2 : a * b < 2 ^ 31) : (u * v).toInt = a * b := by subst hx hy; exact Jvm.Kit.i32_mul h1 h2
theorem own_add64 (hx : x.toInt = a) (hy : y.toInt = b) (h1 : -2 ^ 63 ≤ a + b) (h2 : a + b < 2 ^ 63) : (x + y).toInt = a + b := by subst hx hy; exact Jvm.Kit.i64_add h1 h2
theorem own_add32 (hx : u.toInt = a) (hy : v.toInt = b) (h1 : -2 ^ 31 ≤ a + b) (h2 : a + b < 2 ^ 31) : (u + v).toInt = a + b := by subst hx hy; exact Jvm.Kit.i32_add h1 h2
theorem own_sub64 (hx : x.toInt = a) (hy : y.toInt = b) (h1 : -2 ^ 63 ≤ a - b) (h2 : a - b < 2 ^ 63) : (x - y).toInt = a - b := by subst hx hy; exact Jvm.Kit.i64_sub h1 h2
theorem own_sub32 (hx : u.toInt = a) (hy : v.toInt = b) (h1 : -2 ^ 31 ≤ a - b) (h2 : a - b < 2 ^ 31) : (u - v).toInt = a - b := by subst hx hy; exact Jvm.Kit.i32_sub h1 h2
theorem own_i2l (hx : u.toInt = a) : u.toInt64.toInt = a := by subst hx; exact Jvm.Kit.i64_of_i32 u
theorem own_lt64 (hx : x.toInt = a) (hy : y.toInt = b) : x < y ↔ a < b := by rw [Int64.lt_iff_toInt_lt, hx, hy]
theorem own_lt32 (hx : u.toInt = a) (hy : v.toInt = b) : u < v ↔ a < b := by rw [Int32.lt_iff_toInt_lt, hx, hy]
theorem own_eq64 (hx : x.toInt = a) (hy : y.toInt = b) : x = y ↔ a = b := by rw [← Int64.toInt_inj, hx, hy]
theorem own_eq32 (hx : u.toInt = a) (hy : v.toInt = b) : u = v ↔ a = b := by rw [← Int32.toInt_inj, hx, hy]
theorem own_m32 (u : Int32) (m : Int32) {k : Nat} (hk : k < 32) (hm : m.toBitVec.toNat = 2 ^ k - 1) : ∃ a : Int, (u &&& m).toInt = a ∧ 0 ≤ a ∧ a < 2 ^ k ∧ a = u.toInt % 2 ^ k := by
  refine ⟨_, Jvm.Kit.i32_mask u m hk hm, Int.emod_nonneg _ (Int.ne_of_gt (Int.pow_pos (by decide))), Int.emod_lt_of_pos _ (Int.pow_pos (by decide)), rfl⟩
theorem own_m64 (x : Int64) (m : Int64) {k : Nat} (hk : k < 64) (hm : m.toBitVec.toNat = 2 ^ k - 1) : ∃ a : Int, (x &&& m).toInt = a ∧ 0 ≤ a ∧ a < 2 ^ k ∧ a = x.toInt % 2 ^ k := by
  refine ⟨_, Jvm.Kit.i64_mask x m hk hm, Int.emod_nonneg _ (Int.ne_of_gt (Int.pow_pos (by decide))), Int.emod_lt_of_pos _ (Int.pow_pos (by decide)), rfl⟩
theorem own_nm {P : Int → Prop} {z : Int} (h : P z) : ∃ a, a = z ∧ P a := ⟨z, rfl, h⟩
end OwnNums
theorem own_nat32 {u : Int32} {a : Int} (hu : u.toInt = a) (h0 : 0 ≤ a) {N : Nat} (h1 : a < N) : ∃ n : Nat, n < N ∧ u = Int32.ofNat n ∧ a = (n : Int) := by
  have q := u.toInt_lt
  refine ⟨a.toNat, by omega, ?_, by omega⟩
  apply Int32.toInt_inj.mp
  rw [Int32.toInt_ofNat_of_lt (by omega), hu]; omega
theorem own_bv64 {x : Int64} {a : Int} (hx : x.toInt = a) (h0 : 0 ≤ a) : (x.toBitVec.toNat : Int) = a := by
  have e : x.toInt = x.toBitVec.toInt := rfl
  have hb := x.toBitVec.isLt
  rw [e, BitVec.toInt_eq_toNat_cond] at hx
  split at hx <;> omega
theorem own_bv32 {x : Int32} {a : Int} (hx : x.toInt = a) (h0 : 0 ≤ a) : (x.toBitVec.toNat : Int) = a := by
  have e : x.toInt = x.toBitVec.toInt := rfl
  have hb := x.toBitVec.isLt
  rw [e, BitVec.toInt_eq_toNat_cond] at hx
  split at hx <;> omega
theorem own_shn (y : Int32) : ((y &&& 0x3f).toInt64.toUInt64).toNat < 64 := by
  obtain ⟨a, h1, h2, h3, -⟩ := own_m32 y (0x3f : Int32) (k := 6) (by decide) (by decide)
  have h4 := own_bv64 (own_i2l h1) h2
  have e : ((y &&& 0x3f).toInt64.toUInt64).toNat = (y &&& 0x3f).toInt64.toBitVec.toNat := rfl
  rw [e]
  omega
theorem own_ushr0 {x : Int64} {a : Int} (hx : x.toInt = a) (h0 : 0 ≤ a) (y : Int32) : ∃ b : Int, ((x.toUInt64 >>> (y &&& 0x3f).toInt64.toUInt64).toInt64).toInt = b ∧ 0 ≤ b ∧ b ≤ a := by
  refine ⟨_, Jvm.Kit.i64_lushr (by rw [Jvm.Kit.i64_nonneg, hx]; exact h0) rfl (own_shn y), ?_, ?_⟩
  · rw [hx]; exact Int.ediv_nonneg h0 (Int.le_of_lt (Int.pow_pos (by decide)))
  · rw [hx]; exact Int.ediv_le_self _ h0
theorem own_ushrk {x : Int64} {a : Int} (hx : x.toInt = a) (h0 : 0 ≤ a) {n : UInt64} {k : Nat} (hn : n.toNat = k) (hk : k < 64) {d : Int} (hd : (2 : Int) ^ k = d) : ((x.toUInt64 >>> n).toInt64).toInt = a / d := by
  rw [Jvm.Kit.i64_lushr (by rw [Jvm.Kit.i64_nonneg, hx]; exact h0) hn hk, hx, hd]
theorem own_ofbv32 {x : Int32} (h : x.toBitVec.toNat < 2 ^ 31) : x.toInt = (x.toBitVec.toNat : Int) := by
  have e : x.toInt = x.toBitVec.toInt := rfl
  rw [e, BitVec.toInt_eq_toNat_cond, if_pos (by omega)]
theorem own_xor32 {x y : Int32} {a b : Int} (hx : x.toInt = a) (hy : y.toInt = b) (h0 : 0 ≤ a) (h1 : 0 ≤ b) : ∃ c : Int, (x ^^^ y).toInt = c ∧ 0 ≤ c := by
  have p := own_bv32 hx h0; have q := own_bv32 hy h1
  have r := x.toInt_lt; have s := y.toInt_lt
  have e : (x ^^^ y).toBitVec.toNat = x.toBitVec.toNat ^^^ y.toBitVec.toNat := by simp [Int32.toBitVec_xor, BitVec.toNat_xor]
  have l : (x ^^^ y).toBitVec.toNat < 2 ^ 31 := by rw [e]; exact Nat.xor_lt_two_pow (by omega) (by omega)
  exact ⟨_, own_ofbv32 l, Int.natCast_nonneg _⟩
theorem d20_0 : decode method_2_code 0 = .ok (.iload_n 0, 1) := by decide +kernel
theorem d20_1 : decode method_2_code 1 = .ok (.newarray .long, 2) := by decide +kernel
theorem d20_3 : decode method_2_code 3 = .ok (.astore 5, 2) := by decide +kernel
theorem d20_5 : decode method_2_code 5 = .ok (.iload_n 0, 1) := by decide +kernel
theorem d20_6 : decode method_2_code 6 = .ok (.ifCond .le 8, 3) := by decide +kernel
theorem d20_14 : decode method_2_code 14 = .ok (.iload_n 0, 1) := by decide +kernel
theorem d20_15 : decode method_2_code 15 = .ok (.iconst 1, 1) := by decide +kernel
theorem d20_16 : decode method_2_code 16 = .ok (.if_icmp .le 8, 3) := by decide +kernel
theorem d20_24 : decode method_2_code 24 = .ok (.aload 5, 2) := by decide +kernel
theorem d20_26 : decode method_2_code 26 = .ok (.areturn, 1) := by decide +kernel
theorem pn20 : plainName "com/example/marks_across_domains/marksacrossdomains/BitsUnionPinLaw" = true := by first | (simp [plainName, overriddenIn]; done) | decide +kernel
theorem ef20 (m : MethodId) (x1 : Int64) (x2 : Int64) : entryFrame m #[(.int (0 : Int32)), (.long x1), (.long x2)] 6 = (mkF m 0 #[.val (.int (0 : Int32)), .val (.long x1), .second, .val (.long x2), .second, .unset] []) := by first | (simp [entryFrame, mkF, argsToLocals, Value.category]; done) | rfl
def Q20 (Z : State) (x1 : Int64) (x2 : Int64) (h0 : Heap) (n0 : Nat) (v : Option Value) (h : Heap) (L : List Loc) : Prop := ∃ (b : Addr) (k : ClassId), v = some (.ref b) ∧ Fr n0 L ∧ Keep h0 h [] ∧ h0.size ≤ b ∧ Exa Z h b "[J" ∧ Arv Z h b k .long (0 : Int32) [] (.long (0 : Int64))
set_option maxRecDepth 65536 in
set_option maxHeartbeats 40000000 in
theorem rm20 (l : Launch) (Z : State) (a0 : Array Value) (hw : ∀ d ∈ tables_1, d.before a0 Z = true) (ws : List Jvm.Cond) (x1 : Int64) (x2 : Int64) (h0 : Heap) (n0 : Nat) (Z0 : n0 ≤ h0.size) :
    MetFree l (⟨"com/example/marks_across_domains/marksacrossdomains/BitsUnionPinLaw", "make", "(IJJ)[J"⟩ : MethodName) (head1 (Jvm.Cond.code (⟨"com/example/marks_across_domains/marksacrossdomains/BitsUnionPinLaw", "make", "(IJJ)[J"⟩ : MethodName) method_2_code 6 (some (.array .long)) :: ws) ({ frames := 0, cells := 1, slots := 0, locals := 0 } : Room)) (fun a U => a = #[(.int (0 : Int32)), (.long x1), (.long x2)] ∧ Z.Warmed39 U.vm ∧ U.heap = h0) (fun _ _ _ _ _ => True) (fun _ U o U' => ∃ v L, o = .returned v ∧ (Q20 Z x1 x2 h0 n0) v U'.heap L ∧ FrameEnd U o U' L ({ frames := 0, cells := 1, slots := 0, locals := 0 } : Room).cells ({ frames := 0, cells := 1, slots := 0, locals := 0 } : Room).slots) := by
  refine MetFree.of_bodySF (plainFor_of_name pn20) hisR ?_
  intro p e s m args below meth c s₁ Bd hml0 hP hK
  obtain ⟨rfl, hZ, hh⟩ := hP
  have hx := Bd.exec
  have hby := Bd.bytes
  have hml : c.maxLocals = 6 := hml0
  have hlk : meth.locks = false := BodyLoose.notSynchronized Bd
  have hown : s.vm.findClass "com/example/marks_across_domains/marksacrossdomains/BitsUnionPinLaw" = some m.cls := findClass_of_methodNamed Bd.named
  have hnm := (name_of_methodNamed Bd.named Bd.method).1
  have hci : ∀ i v, (i, v) ∈ ([] : List (Nat × Int32)) → (Jvm.Cond.constant "com/example/marks_across_domains/marksacrossdomains/BitsUnionPinLaw" i v).before #[(.int (0 : Int32)), (.long x1), (.long x2)] s = true := own_ci0
  have hcl : ∀ i v, (i, v) ∈ ([] : List (Nat × Int64)) → (Jvm.Cond.constantLong "com/example/marks_across_domains/marksacrossdomains/BitsUnionPinLaw" i v).before #[(.int (0 : Int32)), (.long x1), (.long x2)] s = true := own_ci0
  have X0 : Stand p l e ({ frames := 0, cells := 1, slots := 0, locals := 0 } : Room) s m #[(.int (0 : Int32)), (.long x1), (.long x2)] below meth c s₁ [] 0 0 := Stand.of_body Bd
  have e0 : s₁.heap = h0 := by rw [← hh, Bd.state]; rfl
  have N0 := Fr.nil n0
  show Goes p e below s (Q20 Z x1 x2 h0 n0) ({ frames := 0, cells := 1, slots := 0, locals := 0 } : Room).cells ({ frames := 0, cells := 1, slots := 0, locals := 0 } : Room).slots (s₁.setTop (entryFrame m #[(.int (0 : Int32)), (.long x1), (.long x2)] 6))
  refine Goes.cast (ef20 m x1 x2) ?_
  have K0 : Keep h0 h0 [] := Keep.refl h0 _
  refine Goes.run X0 hx hown hci hcl hby (L := [(0, .iload_n 0, 1)]) (by decide +kernel) rfl (g' := (mkF m 1 #[.val (.int (0 : Int32)), .val (.long x1), .second, .val (.long x2), .second, .unset] [(.int (0 : Int32))])) rfl ?_
  obtain ⟨T1, h1, k1, X1, e1, E1, A1, B1, st1⟩ := newPE X0 hx hZ (hw _ (List.mem_of_getElem? (i := 4) rfl)) e0 (g := (mkF m 1 #[.val (.int (0 : Int32)), .val (.long x1), .second, .val (.long x2), .second, .unset] [(.int (0 : Int32))])) rfl (hb hby d20_1) rfl (by decide) (cap := 0) (by decide) (by decide) (by decide) (by decide) (ad := "[J") (by decide)
  obtain ⟨b1, g1⟩ : ∃ z, z = h0.size := ⟨_, rfl⟩
  rw [← g1] at A1 B1 st1
  have g_b1 : n0 ≤ b1 := Nat.le_trans Z0 (Nat.le_of_eq g1.symm)
  have sz_b1 : h0.size ≤ b1 := Nat.le_trans K0.1 (Nat.le_of_eq g1.symm)
  have Zn1 : n0 ≤ h1.size := Nat.le_trans Z0 E1.1
  have K1 := K0.ext E1
  have E_b1 : Exa Z h1 b1 "[J" := B1
  have V_b1 : Arv Z h1 b1 k1 .long (0 : Int32) [] (.long (0 : Int64)) := (Arv.new A1 (by decide)).pad (pad_rep [] (.long (0 : Int64)) 0)
  refine Goes.st (B := T1.setTop (mkF m 3 #[.val (.int (0 : Int32)), .val (.long x1), .second, .val (.long x2), .second, .unset] [(.ref b1)])) st1 ?_
  refine Goes.run X1 hx hown hci hcl hby (L := [(3, .astore 5, 2), (5, .iload_n 0, 1)]) (by decide +kernel) rfl (g' := (mkF m 6 #[.val (.int (0 : Int32)), .val (.long x1), .second, .val (.long x2), .second, .val (.ref b1)] [(.int (0 : Int32))])) rfl ?_
  have hc6_2 : ¬ ((0 : Int32) < (0 : Int32)) := Int32.lt_irrefl
  refine Goes.st (B := T1.setTop (mkF m 14 #[.val (.int (0 : Int32)), .val (.long x1), .second, .val (.long x2), .second, .val (.ref b1)] [])) (fun t k => ?_) ?_
  · refine XS.ifYes X1.here hx rfl (pc0 := 6) (pc' := 14) rfl (hb hby d20_6) rfl ((if0 _ _).trans (flt hc6_2).2.2.2) (by decide) (by decide) ?_
    exact k
  refine Goes.run X1 hx hown hci hcl hby (L := [(14, .iload_n 0, 1), (15, .iconst 1, 1)]) (by decide +kernel) rfl (g' := (mkF m 16 #[.val (.int (0 : Int32)), .val (.long x1), .second, .val (.long x2), .second, .val (.ref b1)] [(.int (1 : Int32)), (.int (0 : Int32))])) rfl ?_
  have hc16_3 : ¬ ((1 : Int32) < (0 : Int32)) := by decide
  refine Goes.st (B := T1.setTop (mkF m 24 #[.val (.int (0 : Int32)), .val (.long x1), .second, .val (.long x2), .second, .val (.ref b1)] [])) (fun t k => ?_) ?_
  · refine XS.icmpYes X1.here hx rfl (pc0 := 16) (pc' := 24) rfl (hb hby d20_16) rfl (flt hc16_3).2.2.2 (by decide) (by decide) ?_
    exact k
  refine Goes.run X1 hx hown hci hcl hby (L := [(24, .aload 5, 2)]) (by decide +kernel) rfl (g' := (mkF m 26 #[.val (.int (0 : Int32)), .val (.long x1), .second, .val (.long x2), .second, .val (.ref b1)] [(.ref b1)])) rfl ?_
  refine Goes.retR X1 hx hlk Bd.returns rfl rfl (hb hby d20_26) ?_ (by decide) (by decide)
  show (Q20 Z x1 x2 h0 n0) _ _ _
  rw [e1]
  exact ⟨b1, k1, rfl, N0, K1, sz_b1, E_b1, V_b1⟩
theorem d21_0 : decode method_2_code 0 = .ok (.iload_n 0, 1) := by decide +kernel
theorem d21_1 : decode method_2_code 1 = .ok (.newarray .long, 2) := by decide +kernel
theorem d21_3 : decode method_2_code 3 = .ok (.astore 5, 2) := by decide +kernel
theorem d21_5 : decode method_2_code 5 = .ok (.iload_n 0, 1) := by decide +kernel
theorem d21_6 : decode method_2_code 6 = .ok (.ifCond .le 8, 3) := by decide +kernel
theorem d21_9 : decode method_2_code 9 = .ok (.aload 5, 2) := by decide +kernel
theorem d21_11 : decode method_2_code 11 = .ok (.iconst 0, 1) := by decide +kernel
theorem d21_12 : decode method_2_code 12 = .ok (.lload_n 1, 1) := by decide +kernel
theorem d21_13 : decode method_2_code 13 = .ok (.lastore, 1) := by decide +kernel
theorem d21_14 : decode method_2_code 14 = .ok (.iload_n 0, 1) := by decide +kernel
theorem d21_15 : decode method_2_code 15 = .ok (.iconst 1, 1) := by decide +kernel
theorem d21_16 : decode method_2_code 16 = .ok (.if_icmp .le 8, 3) := by decide +kernel
theorem d21_24 : decode method_2_code 24 = .ok (.aload 5, 2) := by decide +kernel
theorem d21_26 : decode method_2_code 26 = .ok (.areturn, 1) := by decide +kernel
theorem pn21 : plainName "com/example/marks_across_domains/marksacrossdomains/BitsUnionPinLaw" = true := by first | (simp [plainName, overriddenIn]; done) | decide +kernel
theorem ef21 (m : MethodId) (x1 : Int64) (x2 : Int64) : entryFrame m #[(.int (1 : Int32)), (.long x1), (.long x2)] 6 = (mkF m 0 #[.val (.int (1 : Int32)), .val (.long x1), .second, .val (.long x2), .second, .unset] []) := by first | (simp [entryFrame, mkF, argsToLocals, Value.category]; done) | rfl
def Q21 (Z : State) (x1 : Int64) (x2 : Int64) (h0 : Heap) (n0 : Nat) (v : Option Value) (h : Heap) (L : List Loc) : Prop := ∃ (b : Addr) (k : ClassId), v = some (.ref b) ∧ Fr n0 L ∧ Keep h0 h [] ∧ h0.size ≤ b ∧ Exa Z h b "[J" ∧ Arv Z h b k .long (1 : Int32) [(.long x1)] (.long (0 : Int64))
set_option maxRecDepth 65536 in
set_option maxHeartbeats 40000000 in
theorem rm21 (l : Launch) (Z : State) (a0 : Array Value) (hw : ∀ d ∈ tables_1, d.before a0 Z = true) (ws : List Jvm.Cond) (x1 : Int64) (x2 : Int64) (h0 : Heap) (n0 : Nat) (Z0 : n0 ≤ h0.size) :
    MetFree l (⟨"com/example/marks_across_domains/marksacrossdomains/BitsUnionPinLaw", "make", "(IJJ)[J"⟩ : MethodName) (head1 (Jvm.Cond.code (⟨"com/example/marks_across_domains/marksacrossdomains/BitsUnionPinLaw", "make", "(IJJ)[J"⟩ : MethodName) method_2_code 6 (some (.array .long)) :: ws) ({ frames := 0, cells := 1, slots := 1, locals := 0 } : Room)) (fun a U => a = #[(.int (1 : Int32)), (.long x1), (.long x2)] ∧ Z.Warmed39 U.vm ∧ U.heap = h0) (fun _ _ _ _ _ => True) (fun _ U o U' => ∃ v L, o = .returned v ∧ (Q21 Z x1 x2 h0 n0) v U'.heap L ∧ FrameEnd U o U' L ({ frames := 0, cells := 1, slots := 1, locals := 0 } : Room).cells ({ frames := 0, cells := 1, slots := 1, locals := 0 } : Room).slots) := by
  refine MetFree.of_bodySF (plainFor_of_name pn21) hisR ?_
  intro p e s m args below meth c s₁ Bd hml0 hP hK
  obtain ⟨rfl, hZ, hh⟩ := hP
  have hx := Bd.exec
  have hby := Bd.bytes
  have hml : c.maxLocals = 6 := hml0
  have hlk : meth.locks = false := BodyLoose.notSynchronized Bd
  have hown : s.vm.findClass "com/example/marks_across_domains/marksacrossdomains/BitsUnionPinLaw" = some m.cls := findClass_of_methodNamed Bd.named
  have hnm := (name_of_methodNamed Bd.named Bd.method).1
  have hci : ∀ i v, (i, v) ∈ ([] : List (Nat × Int32)) → (Jvm.Cond.constant "com/example/marks_across_domains/marksacrossdomains/BitsUnionPinLaw" i v).before #[(.int (1 : Int32)), (.long x1), (.long x2)] s = true := own_ci0
  have hcl : ∀ i v, (i, v) ∈ ([] : List (Nat × Int64)) → (Jvm.Cond.constantLong "com/example/marks_across_domains/marksacrossdomains/BitsUnionPinLaw" i v).before #[(.int (1 : Int32)), (.long x1), (.long x2)] s = true := own_ci0
  have X0 : Stand p l e ({ frames := 0, cells := 1, slots := 1, locals := 0 } : Room) s m #[(.int (1 : Int32)), (.long x1), (.long x2)] below meth c s₁ [] 0 0 := Stand.of_body Bd
  have e0 : s₁.heap = h0 := by rw [← hh, Bd.state]; rfl
  have N0 := Fr.nil n0
  show Goes p e below s (Q21 Z x1 x2 h0 n0) ({ frames := 0, cells := 1, slots := 1, locals := 0 } : Room).cells ({ frames := 0, cells := 1, slots := 1, locals := 0 } : Room).slots (s₁.setTop (entryFrame m #[(.int (1 : Int32)), (.long x1), (.long x2)] 6))
  refine Goes.cast (ef21 m x1 x2) ?_
  have K0 : Keep h0 h0 [] := Keep.refl h0 _
  refine Goes.run X0 hx hown hci hcl hby (L := [(0, .iload_n 0, 1)]) (by decide +kernel) rfl (g' := (mkF m 1 #[.val (.int (1 : Int32)), .val (.long x1), .second, .val (.long x2), .second, .unset] [(.int (1 : Int32))])) rfl ?_
  obtain ⟨T1, h1, k1, X1, e1, E1, A1, B1, st1⟩ := newPE X0 hx hZ (hw _ (List.mem_of_getElem? (i := 4) rfl)) e0 (g := (mkF m 1 #[.val (.int (1 : Int32)), .val (.long x1), .second, .val (.long x2), .second, .unset] [(.int (1 : Int32))])) rfl (hb hby d21_1) rfl (by decide) (cap := 1) (by decide) (by decide) (by decide) (by decide) (ad := "[J") (by decide)
  obtain ⟨b1, g1⟩ : ∃ z, z = h0.size := ⟨_, rfl⟩
  rw [← g1] at A1 B1 st1
  have g_b1 : n0 ≤ b1 := Nat.le_trans Z0 (Nat.le_of_eq g1.symm)
  have sz_b1 : h0.size ≤ b1 := Nat.le_trans K0.1 (Nat.le_of_eq g1.symm)
  have Zn1 : n0 ≤ h1.size := Nat.le_trans Z0 E1.1
  have K1 := K0.ext E1
  have E_b1 : Exa Z h1 b1 "[J" := B1
  have V_b1 : Arv Z h1 b1 k1 .long (1 : Int32) [(.long (0 : Int64))] (.long (0 : Int64)) := (Arv.new A1 (by decide)).pad (pad_rep [] (.long (0 : Int64)) 1)
  refine Goes.st (B := T1.setTop (mkF m 3 #[.val (.int (1 : Int32)), .val (.long x1), .second, .val (.long x2), .second, .unset] [(.ref b1)])) st1 ?_
  refine Goes.run X1 hx hown hci hcl hby (L := [(3, .astore 5, 2), (5, .iload_n 0, 1)]) (by decide +kernel) rfl (g' := (mkF m 6 #[.val (.int (1 : Int32)), .val (.long x1), .second, .val (.long x2), .second, .val (.ref b1)] [(.int (1 : Int32))])) rfl ?_
  have hc6_2 : (0 : Int32) < (1 : Int32) := by decide
  refine Goes.st (B := T1.setTop (mkF m 9 #[.val (.int (1 : Int32)), .val (.long x1), .second, .val (.long x2), .second, .val (.ref b1)] [])) (fun t k => ?_) ?_
  · refine XS.ifNo X1.here hx rfl (hb hby d21_6) rfl ((if0 _ _).trans (tlt hc6_2).2.2.2) ?_
    exact k
  refine Goes.run X1 hx hown hci hcl hby (L := [(9, .aload 5, 2), (11, .iconst 0, 1), (12, .lload_n 1, 1)]) (by decide +kernel) rfl (g' := (mkF m 13 #[.val (.int (1 : Int32)), .val (.long x1), .second, .val (.long x2), .second, .val (.ref b1)] [(.long x1), (.int (0 : Int32)), (.ref b1)])) rfl ?_
  obtain ⟨cl3, Ar3, q3, S3, M3, Hs3, G3⟩ := id V_b1
  have hin3 : ¬ ((0 : Int32) < 0 ∨ cl3.slots.size ≤ ((0 : Int32)).toNatClampNeg) := inb_of S3 ⟨(by decide), (by decide)⟩
  obtain ⟨T3, h3, X3, e3, W3, st3⟩ := stJ X1 hx hZ e1 Ar3 (j := (0 : Int32)) hin3 (g := (mkF m 13 #[.val (.int (1 : Int32)), .val (.long x1), .second, .val (.long x2), .second, .val (.ref b1)] [(.long x1), (.int (0 : Int32)), (.ref b1)])) rfl rfl (hb hby d21_13)
  have E_b1 := E_b1.wr W3
  have Zn3 : n0 ≤ h3.size := Nat.le_trans Zn1 (Keep.of_wr W3).1
  have K3 := K1.wr W3 (Or.inr sz_b1)
  have N3 := Fr.snoc X3 N0 g_b1
  have V_b1 : Arv Z h3 b1 k1 .long (1 : Int32) [(.long x1)] (.long (0 : Int64)) := Arv.set Ar3 q3 S3 M3 Hs3 G3 rfl W3 0 rfl (Nat.le_of_ble_eq_true rfl)
  refine Goes.st (B := T3.setTop (mkF m 14 #[.val (.int (1 : Int32)), .val (.long x1), .second, .val (.long x2), .second, .val (.ref b1)] [])) st3 ?_
  refine Goes.run X3 hx hown hci hcl hby (L := [(14, .iload_n 0, 1), (15, .iconst 1, 1)]) (by decide +kernel) rfl (g' := (mkF m 16 #[.val (.int (1 : Int32)), .val (.long x1), .second, .val (.long x2), .second, .val (.ref b1)] [(.int (1 : Int32)), (.int (1 : Int32))])) rfl ?_
  have hc16_4 : ¬ ((1 : Int32) < (1 : Int32)) := Int32.lt_irrefl
  refine Goes.st (B := T3.setTop (mkF m 24 #[.val (.int (1 : Int32)), .val (.long x1), .second, .val (.long x2), .second, .val (.ref b1)] [])) (fun t k => ?_) ?_
  · refine XS.icmpYes X3.here hx rfl (pc0 := 16) (pc' := 24) rfl (hb hby d21_16) rfl (flt hc16_4).2.2.2 (by decide) (by decide) ?_
    exact k
  refine Goes.run X3 hx hown hci hcl hby (L := [(24, .aload 5, 2)]) (by decide +kernel) rfl (g' := (mkF m 26 #[.val (.int (1 : Int32)), .val (.long x1), .second, .val (.long x2), .second, .val (.ref b1)] [(.ref b1)])) rfl ?_
  refine Goes.retR X3 hx hlk Bd.returns rfl rfl (hb hby d21_26) ?_ (by decide) (by decide)
  show (Q21 Z x1 x2 h0 n0) _ _ _
  rw [e3]
  exact ⟨b1, k1, rfl, N3, K3, sz_b1, E_b1, V_b1⟩
theorem d22_0 : decode method_2_code 0 = .ok (.iload_n 0, 1) := by decide +kernel
theorem d22_1 : decode method_2_code 1 = .ok (.newarray .long, 2) := by decide +kernel
theorem d22_3 : decode method_2_code 3 = .ok (.astore 5, 2) := by decide +kernel
theorem d22_5 : decode method_2_code 5 = .ok (.iload_n 0, 1) := by decide +kernel
theorem d22_6 : decode method_2_code 6 = .ok (.ifCond .le 8, 3) := by decide +kernel
theorem d22_9 : decode method_2_code 9 = .ok (.aload 5, 2) := by decide +kernel
theorem d22_11 : decode method_2_code 11 = .ok (.iconst 0, 1) := by decide +kernel
theorem d22_12 : decode method_2_code 12 = .ok (.lload_n 1, 1) := by decide +kernel
theorem d22_13 : decode method_2_code 13 = .ok (.lastore, 1) := by decide +kernel
theorem d22_14 : decode method_2_code 14 = .ok (.iload_n 0, 1) := by decide +kernel
theorem d22_15 : decode method_2_code 15 = .ok (.iconst 1, 1) := by decide +kernel
theorem d22_16 : decode method_2_code 16 = .ok (.if_icmp .le 8, 3) := by decide +kernel
theorem d22_19 : decode method_2_code 19 = .ok (.aload 5, 2) := by decide +kernel
theorem d22_21 : decode method_2_code 21 = .ok (.iconst 1, 1) := by decide +kernel
theorem d22_22 : decode method_2_code 22 = .ok (.lload_n 3, 1) := by decide +kernel
theorem d22_23 : decode method_2_code 23 = .ok (.lastore, 1) := by decide +kernel
theorem d22_24 : decode method_2_code 24 = .ok (.aload 5, 2) := by decide +kernel
theorem d22_26 : decode method_2_code 26 = .ok (.areturn, 1) := by decide +kernel
theorem pn22 : plainName "com/example/marks_across_domains/marksacrossdomains/BitsUnionPinLaw" = true := by first | (simp [plainName, overriddenIn]; done) | decide +kernel
theorem ef22 (m : MethodId) (x1 : Int64) (x2 : Int64) : entryFrame m #[(.int (2 : Int32)), (.long x1), (.long x2)] 6 = (mkF m 0 #[.val (.int (2 : Int32)), .val (.long x1), .second, .val (.long x2), .second, .unset] []) := by first | (simp [entryFrame, mkF, argsToLocals, Value.category]; done) | rfl
def Q22 (Z : State) (x1 : Int64) (x2 : Int64) (h0 : Heap) (n0 : Nat) (v : Option Value) (h : Heap) (L : List Loc) : Prop := ∃ (b : Addr) (k : ClassId), v = some (.ref b) ∧ Fr n0 L ∧ Keep h0 h [] ∧ h0.size ≤ b ∧ Exa Z h b "[J" ∧ Arv Z h b k .long (2 : Int32) [(.long x1), (.long x2)] (.long (0 : Int64))
set_option maxRecDepth 65536 in
set_option maxHeartbeats 40000000 in
theorem rm22 (l : Launch) (Z : State) (a0 : Array Value) (hw : ∀ d ∈ tables_1, d.before a0 Z = true) (ws : List Jvm.Cond) (x1 : Int64) (x2 : Int64) (h0 : Heap) (n0 : Nat) (Z0 : n0 ≤ h0.size) :
    MetFree l (⟨"com/example/marks_across_domains/marksacrossdomains/BitsUnionPinLaw", "make", "(IJJ)[J"⟩ : MethodName) (head1 (Jvm.Cond.code (⟨"com/example/marks_across_domains/marksacrossdomains/BitsUnionPinLaw", "make", "(IJJ)[J"⟩ : MethodName) method_2_code 6 (some (.array .long)) :: ws) ({ frames := 0, cells := 1, slots := 2, locals := 0 } : Room)) (fun a U => a = #[(.int (2 : Int32)), (.long x1), (.long x2)] ∧ Z.Warmed39 U.vm ∧ U.heap = h0) (fun _ _ _ _ _ => True) (fun _ U o U' => ∃ v L, o = .returned v ∧ (Q22 Z x1 x2 h0 n0) v U'.heap L ∧ FrameEnd U o U' L ({ frames := 0, cells := 1, slots := 2, locals := 0 } : Room).cells ({ frames := 0, cells := 1, slots := 2, locals := 0 } : Room).slots) := by
  refine MetFree.of_bodySF (plainFor_of_name pn22) hisR ?_
  intro p e s m args below meth c s₁ Bd hml0 hP hK
  obtain ⟨rfl, hZ, hh⟩ := hP
  have hx := Bd.exec
  have hby := Bd.bytes
  have hml : c.maxLocals = 6 := hml0
  have hlk : meth.locks = false := BodyLoose.notSynchronized Bd
  have hown : s.vm.findClass "com/example/marks_across_domains/marksacrossdomains/BitsUnionPinLaw" = some m.cls := findClass_of_methodNamed Bd.named
  have hnm := (name_of_methodNamed Bd.named Bd.method).1
  have hci : ∀ i v, (i, v) ∈ ([] : List (Nat × Int32)) → (Jvm.Cond.constant "com/example/marks_across_domains/marksacrossdomains/BitsUnionPinLaw" i v).before #[(.int (2 : Int32)), (.long x1), (.long x2)] s = true := own_ci0
  have hcl : ∀ i v, (i, v) ∈ ([] : List (Nat × Int64)) → (Jvm.Cond.constantLong "com/example/marks_across_domains/marksacrossdomains/BitsUnionPinLaw" i v).before #[(.int (2 : Int32)), (.long x1), (.long x2)] s = true := own_ci0
  have X0 : Stand p l e ({ frames := 0, cells := 1, slots := 2, locals := 0 } : Room) s m #[(.int (2 : Int32)), (.long x1), (.long x2)] below meth c s₁ [] 0 0 := Stand.of_body Bd
  have e0 : s₁.heap = h0 := by rw [← hh, Bd.state]; rfl
  have N0 := Fr.nil n0
  show Goes p e below s (Q22 Z x1 x2 h0 n0) ({ frames := 0, cells := 1, slots := 2, locals := 0 } : Room).cells ({ frames := 0, cells := 1, slots := 2, locals := 0 } : Room).slots (s₁.setTop (entryFrame m #[(.int (2 : Int32)), (.long x1), (.long x2)] 6))
  refine Goes.cast (ef22 m x1 x2) ?_
  have K0 : Keep h0 h0 [] := Keep.refl h0 _
  refine Goes.run X0 hx hown hci hcl hby (L := [(0, .iload_n 0, 1)]) (by decide +kernel) rfl (g' := (mkF m 1 #[.val (.int (2 : Int32)), .val (.long x1), .second, .val (.long x2), .second, .unset] [(.int (2 : Int32))])) rfl ?_
  obtain ⟨T1, h1, k1, X1, e1, E1, A1, B1, st1⟩ := newPE X0 hx hZ (hw _ (List.mem_of_getElem? (i := 4) rfl)) e0 (g := (mkF m 1 #[.val (.int (2 : Int32)), .val (.long x1), .second, .val (.long x2), .second, .unset] [(.int (2 : Int32))])) rfl (hb hby d22_1) rfl (by decide) (cap := 2) (by decide) (by decide) (by decide) (by decide) (ad := "[J") (by decide)
  obtain ⟨b1, g1⟩ : ∃ z, z = h0.size := ⟨_, rfl⟩
  rw [← g1] at A1 B1 st1
  have g_b1 : n0 ≤ b1 := Nat.le_trans Z0 (Nat.le_of_eq g1.symm)
  have sz_b1 : h0.size ≤ b1 := Nat.le_trans K0.1 (Nat.le_of_eq g1.symm)
  have Zn1 : n0 ≤ h1.size := Nat.le_trans Z0 E1.1
  have K1 := K0.ext E1
  have E_b1 : Exa Z h1 b1 "[J" := B1
  have V_b1 : Arv Z h1 b1 k1 .long (2 : Int32) [(.long (0 : Int64)), (.long (0 : Int64))] (.long (0 : Int64)) := (Arv.new A1 (by decide)).pad (pad_rep [] (.long (0 : Int64)) 2)
  refine Goes.st (B := T1.setTop (mkF m 3 #[.val (.int (2 : Int32)), .val (.long x1), .second, .val (.long x2), .second, .unset] [(.ref b1)])) st1 ?_
  refine Goes.run X1 hx hown hci hcl hby (L := [(3, .astore 5, 2), (5, .iload_n 0, 1)]) (by decide +kernel) rfl (g' := (mkF m 6 #[.val (.int (2 : Int32)), .val (.long x1), .second, .val (.long x2), .second, .val (.ref b1)] [(.int (2 : Int32))])) rfl ?_
  have hc6_2 : (0 : Int32) < (2 : Int32) := by decide
  refine Goes.st (B := T1.setTop (mkF m 9 #[.val (.int (2 : Int32)), .val (.long x1), .second, .val (.long x2), .second, .val (.ref b1)] [])) (fun t k => ?_) ?_
  · refine XS.ifNo X1.here hx rfl (hb hby d22_6) rfl ((if0 _ _).trans (tlt hc6_2).2.2.2) ?_
    exact k
  refine Goes.run X1 hx hown hci hcl hby (L := [(9, .aload 5, 2), (11, .iconst 0, 1), (12, .lload_n 1, 1)]) (by decide +kernel) rfl (g' := (mkF m 13 #[.val (.int (2 : Int32)), .val (.long x1), .second, .val (.long x2), .second, .val (.ref b1)] [(.long x1), (.int (0 : Int32)), (.ref b1)])) rfl ?_
  obtain ⟨cl3, Ar3, q3, S3, M3, Hs3, G3⟩ := id V_b1
  have hin3 : ¬ ((0 : Int32) < 0 ∨ cl3.slots.size ≤ ((0 : Int32)).toNatClampNeg) := inb_of S3 ⟨(by decide), (by decide)⟩
  obtain ⟨T3, h3, X3, e3, W3, st3⟩ := stJ X1 hx hZ e1 Ar3 (j := (0 : Int32)) hin3 (g := (mkF m 13 #[.val (.int (2 : Int32)), .val (.long x1), .second, .val (.long x2), .second, .val (.ref b1)] [(.long x1), (.int (0 : Int32)), (.ref b1)])) rfl rfl (hb hby d22_13)
  have E_b1 := E_b1.wr W3
  have Zn3 : n0 ≤ h3.size := Nat.le_trans Zn1 (Keep.of_wr W3).1
  have K3 := K1.wr W3 (Or.inr sz_b1)
  have N3 := Fr.snoc X3 N0 g_b1
  have V_b1 : Arv Z h3 b1 k1 .long (2 : Int32) [(.long x1), (.long (0 : Int64))] (.long (0 : Int64)) := Arv.set Ar3 q3 S3 M3 Hs3 G3 rfl W3 0 rfl (Nat.le_of_ble_eq_true rfl)
  refine Goes.st (B := T3.setTop (mkF m 14 #[.val (.int (2 : Int32)), .val (.long x1), .second, .val (.long x2), .second, .val (.ref b1)] [])) st3 ?_
  refine Goes.run X3 hx hown hci hcl hby (L := [(14, .iload_n 0, 1), (15, .iconst 1, 1)]) (by decide +kernel) rfl (g' := (mkF m 16 #[.val (.int (2 : Int32)), .val (.long x1), .second, .val (.long x2), .second, .val (.ref b1)] [(.int (1 : Int32)), (.int (2 : Int32))])) rfl ?_
  have hc16_4 : (1 : Int32) < (2 : Int32) := by decide
  refine Goes.st (B := T3.setTop (mkF m 19 #[.val (.int (2 : Int32)), .val (.long x1), .second, .val (.long x2), .second, .val (.ref b1)] [])) (fun t k => ?_) ?_
  · refine XS.icmpNo X3.here hx rfl (hb hby d22_16) rfl (tlt hc16_4).2.2.2 ?_
    exact k
  refine Goes.run X3 hx hown hci hcl hby (L := [(19, .aload 5, 2), (21, .iconst 1, 1), (22, .lload_n 3, 1)]) (by decide +kernel) rfl (g' := (mkF m 23 #[.val (.int (2 : Int32)), .val (.long x1), .second, .val (.long x2), .second, .val (.ref b1)] [(.long x2), (.int (1 : Int32)), (.ref b1)])) rfl ?_
  obtain ⟨cl5, Ar5, q5, S5, M5, Hs5, G5⟩ := id V_b1
  have hin5 : ¬ ((1 : Int32) < 0 ∨ cl5.slots.size ≤ ((1 : Int32)).toNatClampNeg) := inb_of S5 ⟨(by decide), (by decide)⟩
  obtain ⟨T5, h5, X5, e5, W5, st5⟩ := stJ X3 hx hZ e3 Ar5 (j := (1 : Int32)) hin5 (g := (mkF m 23 #[.val (.int (2 : Int32)), .val (.long x1), .second, .val (.long x2), .second, .val (.ref b1)] [(.long x2), (.int (1 : Int32)), (.ref b1)])) rfl rfl (hb hby d22_23)
  have E_b1 := E_b1.wr W5
  have Zn5 : n0 ≤ h5.size := Nat.le_trans Zn3 (Keep.of_wr W5).1
  have K5 := K3.wr W5 (Or.inr sz_b1)
  have N5 := Fr.snoc X5 N3 g_b1
  have V_b1 : Arv Z h5 b1 k1 .long (2 : Int32) [(.long x1), (.long x2)] (.long (0 : Int64)) := Arv.set Ar5 q5 S5 M5 Hs5 G5 rfl W5 1 rfl (Nat.le_of_ble_eq_true rfl)
  refine Goes.st (B := T5.setTop (mkF m 24 #[.val (.int (2 : Int32)), .val (.long x1), .second, .val (.long x2), .second, .val (.ref b1)] [])) st5 ?_
  refine Goes.run X5 hx hown hci hcl hby (L := [(24, .aload 5, 2)]) (by decide +kernel) rfl (g' := (mkF m 26 #[.val (.int (2 : Int32)), .val (.long x1), .second, .val (.long x2), .second, .val (.ref b1)] [(.ref b1)])) rfl ?_
  refine Goes.retR X5 hx hlk Bd.returns rfl rfl (hb hby d22_26) ?_ (by decide) (by decide)
  show (Q22 Z x1 x2 h0 n0) _ _ _
  rw [e5]
  exact ⟨b1, k1, rfl, N5, K5, sz_b1, E_b1, V_b1⟩
theorem d1_0 : decode jdk_29_method_65_code 0 = .ok (.iload_n 0, 1) := by decide +kernel
theorem d1_1 : decode jdk_29_method_65_code 1 = .ok (.iload_n 1, 1) := by decide +kernel
theorem d1_2 : decode jdk_29_method_65_code 2 = .ok (.if_icmp .lt 7, 3) := by decide +kernel
theorem d1_5 : decode jdk_29_method_65_code 5 = .ok (.iload_n 0, 1) := by decide +kernel
theorem d1_6 : decode jdk_29_method_65_code 6 = .ok (.goto 4, 3) := by decide +kernel
theorem d1_9 : decode jdk_29_method_65_code 9 = .ok (.iload_n 1, 1) := by decide +kernel
theorem d1_10 : decode jdk_29_method_65_code 10 = .ok (.ireturn, 1) := by decide +kernel
theorem ef1 (m : MethodId) (x0 : Int32) (x1 : Int32) : entryFrame m #[(.int x0), (.int x1)] 2 = (mkF m 0 #[.val (.int x0), .val (.int x1)] []) := by first | (simp [entryFrame, mkF, argsToLocals, Value.category]; done) | rfl
def r1 (x0 : Int32) (x1 : Int32) : Int32 := (if x0 < x1 then x1 else x0)
set_option maxRecDepth 65536 in
set_option maxHeartbeats 40000000 in
theorem rm1 (l : Launch) (Z : State) (a0 : Array Value) (hw : ∀ d ∈ tables_1, d.before a0 Z = true) (ws : List Jvm.Cond) (x0 : Int32) (x1 : Int32) (h0 : Heap) (n0 : Nat) (Z0 : n0 ≤ h0.size) :
    MetFree l (⟨"java/lang/Math", "max", "(II)I"⟩ : MethodName) (head1 (Jvm.Cond.code (⟨"java/lang/Math", "max", "(II)I"⟩ : MethodName) jdk_29_method_65_code 2 (some .int) :: ws) ({ frames := 0, cells := 0, slots := 0, locals := 0 } : Room)) (fun a U => a = #[(.int x0), (.int x1)] ∧ Z.Warmed39 U.vm ∧ U.heap = h0) (fun _ _ _ _ _ => True) (fun _ U o U' => ∃ v L, o = .returned v ∧ (QP (some (.int (r1 x0 x1))) h0 n0) v U'.heap L ∧ FrameEnd U o U' L ({ frames := 0, cells := 0, slots := 0, locals := 0 } : Room).cells ({ frames := 0, cells := 0, slots := 0, locals := 0 } : Room).slots) := by
  refine MetFree.of_bodySF (Jvm.Free.JP.mathPlain rfl (by decide +kernel)) hisR ?_
  intro p e s m args below meth c s₁ Bd hml0 hP hK
  obtain ⟨rfl, hZ, hh⟩ := hP
  have hx := Bd.exec
  have hby := Bd.bytes
  have hml : c.maxLocals = 2 := hml0
  have hlk : meth.locks = false := BodyLoose.notSynchronized Bd
  have hown : s.vm.findClass "java/lang/Math" = some m.cls := findClass_of_methodNamed Bd.named
  have hnm := (name_of_methodNamed Bd.named Bd.method).1
  have hci : ∀ i v, (i, v) ∈ ([] : List (Nat × Int32)) → (Jvm.Cond.constant "java/lang/Math" i v).before #[(.int x0), (.int x1)] s = true := own_ci0
  have hcl : ∀ i v, (i, v) ∈ ([] : List (Nat × Int64)) → (Jvm.Cond.constantLong "java/lang/Math" i v).before #[(.int x0), (.int x1)] s = true := own_ci0
  have X0 : Stand p l e ({ frames := 0, cells := 0, slots := 0, locals := 0 } : Room) s m #[(.int x0), (.int x1)] below meth c s₁ [] 0 0 := Stand.of_body Bd
  have e0 : s₁.heap = h0 := by rw [← hh, Bd.state]; rfl
  have N0 := Fr.nil n0
  show Goes p e below s (QP (some (.int (r1 x0 x1))) h0 n0) ({ frames := 0, cells := 0, slots := 0, locals := 0 } : Room).cells ({ frames := 0, cells := 0, slots := 0, locals := 0 } : Room).slots (s₁.setTop (entryFrame m #[(.int x0), (.int x1)] 2))
  refine Goes.cast (ef1 m x0 x1) ?_
  refine Goes.run X0 hx hown hci hcl hby (L := [(0, .iload_n 0, 1), (1, .iload_n 1, 1)]) (by decide +kernel) rfl (g' := (mkF m 2 #[.val (.int x0), .val (.int x1)] [(.int x1), (.int x0)])) rfl ?_
  by_cases hc2_1 : x0 < x1
  · skip
    refine Goes.st (B := s₁.setTop (mkF m 9 #[.val (.int x0), .val (.int x1)] [])) (fun t k => ?_) ?_
    · refine XS.icmpYes X0.here hx rfl (pc0 := 2) (pc' := 9) rfl (hb hby d1_2) rfl (tlt hc2_1).1 (by decide) (by decide) ?_
      exact k
    refine Goes.run X0 hx hown hci hcl hby (L := [(9, .iload_n 1, 1)]) (by decide +kernel) rfl (g' := (mkF m 10 #[.val (.int x0), .val (.int x1)] [(.int x1)])) rfl ?_
    exact Goes.retI X0 hx hlk Bd.returns (hb hby d1_10) ⟨(congrArg (fun z => some (Value.int z)) (show (r1 x0 x1) = x1 from (if_pos hc2_1)).symm), N0, e0⟩ (by decide) (by decide)
  · skip
    refine Goes.st (B := s₁.setTop (mkF m 5 #[.val (.int x0), .val (.int x1)] [])) (fun t k => ?_) ?_
    · refine XS.icmpNo X0.here hx rfl (hb hby d1_2) rfl (flt hc2_1).1 ?_
      exact k
    refine Goes.run X0 hx hown hci hcl hby (L := [(5, .iload_n 0, 1), (6, .goto 4, 3)]) (by decide +kernel) rfl (g' := (mkF m 10 #[.val (.int x0), .val (.int x1)] [(.int x0)])) rfl ?_
    exact Goes.retI X0 hx hlk Bd.returns (hb hby d1_10) ⟨(congrArg (fun z => some (Value.int z)) (show (r1 x0 x1) = x0 from (if_neg hc2_1)).symm), N0, e0⟩ (by decide) (by decide)
theorem d300_0 : decode prog_3_method_8_code 0 = .ok (.aload_n 0, 1) := by decide +kernel
theorem d300_1 : decode prog_3_method_8_code 1 = .ok (.arraylength, 1) := by decide +kernel
theorem d300_2 : decode prog_3_method_8_code 2 = .ok (.aload_n 1, 1) := by decide +kernel
theorem d300_3 : decode prog_3_method_8_code 3 = .ok (.arraylength, 1) := by decide +kernel
theorem d300_4 : decode prog_3_method_8_code 4 = .ok (.if_icmp .lt 7, 3) := by decide +kernel
theorem d300_7 : decode prog_3_method_8_code 7 = .ok (.aload_n 0, 1) := by decide +kernel
theorem d300_8 : decode prog_3_method_8_code 8 = .ok (.goto 4, 3) := by decide +kernel
theorem d300_12 : decode prog_3_method_8_code 12 = .ok (.astore_n 2, 1) := by decide +kernel
theorem d300_13 : decode prog_3_method_8_code 13 = .ok (.aload_n 0, 1) := by decide +kernel
theorem d300_14 : decode prog_3_method_8_code 14 = .ok (.arraylength, 1) := by decide +kernel
theorem d300_15 : decode prog_3_method_8_code 15 = .ok (.aload_n 1, 1) := by decide +kernel
theorem d300_16 : decode prog_3_method_8_code 16 = .ok (.arraylength, 1) := by decide +kernel
theorem d300_17 : decode prog_3_method_8_code 17 = .ok (.if_icmp .lt 7, 3) := by decide +kernel
theorem d300_20 : decode prog_3_method_8_code 20 = .ok (.aload_n 1, 1) := by decide +kernel
theorem d300_21 : decode prog_3_method_8_code 21 = .ok (.goto 4, 3) := by decide +kernel
theorem d300_25 : decode prog_3_method_8_code 25 = .ok (.astore_n 3, 1) := by decide +kernel
theorem d300_26 : decode prog_3_method_8_code 26 = .ok (.aload_n 2, 1) := by decide +kernel
theorem d300_27 : decode prog_3_method_8_code 27 = .ok (.invokevirtual 43, 3) := by decide +kernel
theorem d300_30 : decode prog_3_method_8_code 30 = .ok (.checkcast 44, 3) := by decide +kernel
theorem d300_33 : decode prog_3_method_8_code 33 = .ok (.astore 4, 2) := by decide +kernel
theorem d300_35 : decode prog_3_method_8_code 35 = .ok (.iconst 0, 1) := by decide +kernel
theorem d300_36 : decode prog_3_method_8_code 36 = .ok (.istore 5, 2) := by decide +kernel
theorem d300_38 : decode prog_3_method_8_code 38 = .ok (.iload 5, 2) := by decide +kernel
theorem d300_40 : decode prog_3_method_8_code 40 = .ok (.aload_n 3, 1) := by decide +kernel
theorem d300_41 : decode prog_3_method_8_code 41 = .ok (.arraylength, 1) := by decide +kernel
theorem d300_42 : decode prog_3_method_8_code 42 = .ok (.if_icmp .ge 21, 3) := by decide +kernel
theorem d300_63 : decode prog_3_method_8_code 63 = .ok (.aload 4, 2) := by decide +kernel
theorem d300_65 : decode prog_3_method_8_code 65 = .ok (.areturn, 1) := by decide +kernel
theorem pn300 : plainName "com/example/marks_across_domains/marksacrossdomains/Bits" = true := by first | (simp [plainName, overriddenIn]; done) | decide +kernel
theorem ef300 (m : MethodId) (x0 : Addr) (x1 : Addr) : entryFrame m #[(.ref x0), (.ref x1)] 6 = (mkF m 0 #[.val (.ref x0), .val (.ref x1), .unset, .unset, .unset, .unset] []) := by first | (simp [entryFrame, mkF, argsToLocals, Value.category]; done) | rfl
def Q300 (Z : State) (x0 : Addr) (x1 : Addr) (kx : ClassId) (ky : ClassId) (h0 : Heap) (n0 : Nat) (v : Option Value) (h : Heap) (L : List Loc) : Prop := ∃ (b : Addr) (k : ClassId), v = some (.ref b) ∧ Fr n0 L ∧ Keep h0 h [] ∧ h0.size ≤ b ∧ Exa Z h b "[J" ∧ Arv Z h b k .long (0 : Int32) [] (.long (0 : Int64))
set_option maxRecDepth 65536 in
set_option maxHeartbeats 40000000 in
theorem rm300 (l : Launch) (Z : State) (a0 : Array Value) (hw : ∀ d ∈ tables_1, d.before a0 Z = true) (ws : List Jvm.Cond) (x0 : Addr) (x1 : Addr) (kx : ClassId) (ky : ClassId) (h0 : Heap) (n0 : Nat) (Z0 : n0 ≤ h0.size) (E_x0 : Exa Z h0 x0 "[J") (V_x0 : Arv Z h0 x0 kx .long (0 : Int32) [] (.long (0 : Int64))) (E_x1 : Exa Z h0 x1 "[J") (V_x1 : Arv Z h0 x1 ky .long (0 : Int32) [] (.long (0 : Int64))) :
    MetFree l (⟨"com/example/marks_across_domains/marksacrossdomains/Bits", "union", "([J[J)[J"⟩ : MethodName) (head1 (Jvm.Cond.code (⟨"com/example/marks_across_domains/marksacrossdomains/Bits", "union", "([J[J)[J"⟩ : MethodName) prog_3_method_8_code 6 (some (.array .long)) :: ws) ({ frames := 1, cells := 1, slots := 0, locals := 14 } : Room)) (fun a U => a = #[(.ref x0), (.ref x1)] ∧ Z.Warmed39 U.vm ∧ U.heap = h0) (fun _ _ _ _ _ => True) (fun _ U o U' => ∃ v L, o = .returned v ∧ (Q300 Z x0 x1 kx ky h0 n0) v U'.heap L ∧ FrameEnd U o U' L ({ frames := 1, cells := 1, slots := 0, locals := 14 } : Room).cells ({ frames := 1, cells := 1, slots := 0, locals := 14 } : Room).slots) := by
  refine MetFree.of_bodySF (plainFor_of_name pn300) hisR ?_
  intro p e s m args below meth c s₁ Bd hml0 hP hK
  obtain ⟨rfl, hZ, hh⟩ := hP
  have hx := Bd.exec
  have hby := Bd.bytes
  have hml : c.maxLocals = 6 := hml0
  have hlk : meth.locks = false := BodyLoose.notSynchronized Bd
  have hown : s.vm.findClass "com/example/marks_across_domains/marksacrossdomains/Bits" = some m.cls := findClass_of_methodNamed Bd.named
  have hnm := (name_of_methodNamed Bd.named Bd.method).1
  have hci : ∀ i v, (i, v) ∈ ([] : List (Nat × Int32)) → (Jvm.Cond.constant "com/example/marks_across_domains/marksacrossdomains/Bits" i v).before #[(.ref x0), (.ref x1)] s = true := own_ci0
  have hcl : ∀ i v, (i, v) ∈ ([] : List (Nat × Int64)) → (Jvm.Cond.constantLong "com/example/marks_across_domains/marksacrossdomains/Bits" i v).before #[(.ref x0), (.ref x1)] s = true := own_ci0
  have X0 : Stand p l e ({ frames := 1, cells := 1, slots := 0, locals := 14 } : Room) s m #[(.ref x0), (.ref x1)] below meth c s₁ [] 0 0 := Stand.of_body Bd
  have e0 : s₁.heap = h0 := by rw [← hh, Bd.state]; rfl
  have N0 := Fr.nil n0
  show Goes p e below s (Q300 Z x0 x1 kx ky h0 n0) ({ frames := 1, cells := 1, slots := 0, locals := 14 } : Room).cells ({ frames := 1, cells := 1, slots := 0, locals := 14 } : Room).slots (s₁.setTop (entryFrame m #[(.ref x0), (.ref x1)] 6))
  refine Goes.cast (ef300 m x0 x1) ?_
  have K0 : Keep h0 h0 [] := Keep.refl h0 _
  refine Goes.run X0 hx hown hci hcl hby (L := [(0, .aload_n 0, 1)]) (by decide +kernel) rfl (g' := (mkF m 1 #[.val (.ref x0), .val (.ref x1), .unset, .unset, .unset, .unset] [(.ref x0)])) rfl ?_
  obtain ⟨cl1, Ar1, q1, S1, M1, Hs1, G1⟩ := id V_x0
  refine Goes.st (B := s₁.setTop (mkF m 2 #[.val (.ref x0), .val (.ref x1), .unset, .unset, .unset, .unset] [(.int (0 : Int32))])) (fun t k => ?_) ?_
  · refine X0.arraylength hx (cell := cl1) (by rw [e0]; exact Ar1.1) (State.isArrayOf_alike hZ.alike Ar1.2.1) (g := (mkF m 1 #[.val (.ref x0), .val (.ref x1), .unset, .unset, .unset, .unset] [(.ref x0)])) rfl (rest := []) rfl (hb hby d300_1) _ ?_
    rw [len_of S1 M1]
    exact k
  refine Goes.run X0 hx hown hci hcl hby (L := [(2, .aload_n 1, 1)]) (by decide +kernel) rfl (g' := (mkF m 3 #[.val (.ref x0), .val (.ref x1), .unset, .unset, .unset, .unset] [(.ref x1), (.int (0 : Int32))])) rfl ?_
  obtain ⟨cl2, Ar2, q2, S2, M2, Hs2, G2⟩ := id V_x1
  refine Goes.st (B := s₁.setTop (mkF m 4 #[.val (.ref x0), .val (.ref x1), .unset, .unset, .unset, .unset] [(.int (0 : Int32)), (.int (0 : Int32))])) (fun t k => ?_) ?_
  · refine X0.arraylength hx (cell := cl2) (by rw [e0]; exact Ar2.1) (State.isArrayOf_alike hZ.alike Ar2.2.1) (g := (mkF m 3 #[.val (.ref x0), .val (.ref x1), .unset, .unset, .unset, .unset] [(.ref x1), (.int (0 : Int32))])) rfl (rest := [(.int (0 : Int32))]) rfl (hb hby d300_3) _ ?_
    rw [len_of S2 M2]
    exact k
  have hc4_3 : ¬ ((0 : Int32) < (0 : Int32)) := Int32.lt_irrefl
  refine Goes.st (B := s₁.setTop (mkF m 7 #[.val (.ref x0), .val (.ref x1), .unset, .unset, .unset, .unset] [])) (fun t k => ?_) ?_
  · refine XS.icmpNo X0.here hx rfl (hb hby d300_4) rfl (flt hc4_3).1 ?_
    exact k
  refine Goes.run X0 hx hown hci hcl hby (L := [(7, .aload_n 0, 1), (8, .goto 4, 3), (12, .astore_n 2, 1), (13, .aload_n 0, 1)]) (by decide +kernel) rfl (g' := (mkF m 14 #[.val (.ref x0), .val (.ref x1), .val (.ref x0), .unset, .unset, .unset] [(.ref x0)])) rfl ?_
  obtain ⟨cl4, Ar4, q4, S4, M4, Hs4, G4⟩ := id V_x0
  refine Goes.st (B := s₁.setTop (mkF m 15 #[.val (.ref x0), .val (.ref x1), .val (.ref x0), .unset, .unset, .unset] [(.int (0 : Int32))])) (fun t k => ?_) ?_
  · refine X0.arraylength hx (cell := cl4) (by rw [e0]; exact Ar4.1) (State.isArrayOf_alike hZ.alike Ar4.2.1) (g := (mkF m 14 #[.val (.ref x0), .val (.ref x1), .val (.ref x0), .unset, .unset, .unset] [(.ref x0)])) rfl (rest := []) rfl (hb hby d300_14) _ ?_
    rw [len_of S4 M4]
    exact k
  refine Goes.run X0 hx hown hci hcl hby (L := [(15, .aload_n 1, 1)]) (by decide +kernel) rfl (g' := (mkF m 16 #[.val (.ref x0), .val (.ref x1), .val (.ref x0), .unset, .unset, .unset] [(.ref x1), (.int (0 : Int32))])) rfl ?_
  obtain ⟨cl5, Ar5, q5, S5, M5, Hs5, G5⟩ := id V_x1
  refine Goes.st (B := s₁.setTop (mkF m 17 #[.val (.ref x0), .val (.ref x1), .val (.ref x0), .unset, .unset, .unset] [(.int (0 : Int32)), (.int (0 : Int32))])) (fun t k => ?_) ?_
  · refine X0.arraylength hx (cell := cl5) (by rw [e0]; exact Ar5.1) (State.isArrayOf_alike hZ.alike Ar5.2.1) (g := (mkF m 16 #[.val (.ref x0), .val (.ref x1), .val (.ref x0), .unset, .unset, .unset] [(.ref x1), (.int (0 : Int32))])) rfl (rest := [(.int (0 : Int32))]) rfl (hb hby d300_16) _ ?_
    rw [len_of S5 M5]
    exact k
  have hc17_6 : ¬ ((0 : Int32) < (0 : Int32)) := Int32.lt_irrefl
  refine Goes.st (B := s₁.setTop (mkF m 20 #[.val (.ref x0), .val (.ref x1), .val (.ref x0), .unset, .unset, .unset] [])) (fun t k => ?_) ?_
  · refine XS.icmpNo X0.here hx rfl (hb hby d300_17) rfl (flt hc17_6).1 ?_
    exact k
  refine Goes.run X0 hx hown hci hcl hby (L := [(20, .aload_n 1, 1), (21, .goto 4, 3), (25, .astore_n 3, 1), (26, .aload_n 2, 1)]) (by decide +kernel) rfl (g' := (mkF m 27 #[.val (.ref x0), .val (.ref x1), .val (.ref x0), .val (.ref x1), .unset, .unset] [(.ref x0)])) rfl ?_
  obtain ⟨T7, h7, X7, e7, E7, A7, B7, st7⟩ := cloneH X0 hx hZ hown (hw _ (List.mem_of_getElem? (i := 9) rfl)) (hw _ (List.mem_of_getElem? (i := 10) rfl)) (hw _ (List.mem_of_getElem? (i := 14) rfl)) (hw _ (List.mem_of_getElem? (i := 12) rfl)) (hw _ (List.mem_of_getElem? (i := 13) rfl)) (hw _ (List.mem_of_getElem? (i := 15) rfl)) e0 V_x0.arh E_x0 (g := (mkF m 27 #[.val (.ref x0), .val (.ref x1), .val (.ref x0), .val (.ref x1), .unset, .unset] [(.ref x0)])) rfl (by rw [hml]; rfl) rfl (hb hby d300_27) (by decide) (W := 0) (cap := 0) (by show 2 * 0 + _ ≤ _; exact Nat.le_of_eq rfl) (by decide) (by decide) (by decide) (by decide)
  obtain ⟨b7, g7⟩ : ∃ z, z = h0.size := ⟨_, rfl⟩
  rw [← g7] at A7 B7 st7
  have ne_x0_b7 : x0 ≠ b7 := Nat.ne_of_lt (Nat.lt_of_lt_of_le E_x0.lt (Nat.le_of_eq g7.symm))
  have ne_x1_b7 : x1 ≠ b7 := Nat.ne_of_lt (Nat.lt_of_lt_of_le E_x1.lt (Nat.le_of_eq g7.symm))
  have g_b7 : n0 ≤ b7 := Nat.le_trans Z0 (Nat.le_of_eq g7.symm)
  have sz_b7 : h0.size ≤ b7 := Nat.le_trans K0.1 (Nat.le_of_eq g7.symm)
  have E_x0 := E_x0.ext E7
  have V_x0 := V_x0.ext E7
  have E_x1 := E_x1.ext E7
  have V_x1 := V_x1.ext E7
  have Zn7 : n0 ≤ h7.size := Nat.le_trans Z0 E7.1
  have K7 := K0.ext E7
  have E_b7 : Exa Z h7 b7 "[J" := B7
  have V_b7 : Arv Z h7 b7 kx .long (0 : Int32) [] (.long (0 : Int64)) := A7
  refine Goes.st (B := T7.setTop (mkF m 30 #[.val (.ref x0), .val (.ref x1), .val (.ref x0), .val (.ref x1), .unset, .unset] [(.ref b7)])) st7 ?_
  obtain ⟨T8, X8, e8, st8⟩ := castY X7 hx hZ hown (hw _ (List.mem_of_getElem? (i := 16) rfl)) e7 (Ins.self E_b7) (g := (mkF m 30 #[.val (.ref x0), .val (.ref x1), .val (.ref x0), .val (.ref x1), .unset, .unset] [(.ref b7)])) rfl rfl (hb hby d300_30)
  refine Goes.st (B := T8.setTop (mkF m 33 #[.val (.ref x0), .val (.ref x1), .val (.ref x0), .val (.ref x1), .unset, .unset] [(.ref b7)])) st8 ?_
  refine Goes.run X8 hx hown hci hcl hby (L := [(33, .astore 4, 2), (35, .iconst 0, 1), (36, .istore 5, 2), (38, .iload 5, 2), (40, .aload_n 3, 1)]) (by decide +kernel) rfl (g' := (mkF m 41 #[.val (.ref x0), .val (.ref x1), .val (.ref x0), .val (.ref x1), .val (.ref b7), .val (.int (0 : Int32))] [(.ref x1), (.int (0 : Int32))])) rfl ?_
  obtain ⟨cl9, Ar9, q9, S9, M9, Hs9, G9⟩ := id V_x1
  refine Goes.st (B := T8.setTop (mkF m 42 #[.val (.ref x0), .val (.ref x1), .val (.ref x0), .val (.ref x1), .val (.ref b7), .val (.int (0 : Int32))] [(.int (0 : Int32)), (.int (0 : Int32))])) (fun t k => ?_) ?_
  · refine X8.arraylength hx (cell := cl9) (by rw [e8]; exact Ar9.1) (State.isArrayOf_alike hZ.alike Ar9.2.1) (g := (mkF m 41 #[.val (.ref x0), .val (.ref x1), .val (.ref x0), .val (.ref x1), .val (.ref b7), .val (.int (0 : Int32))] [(.ref x1), (.int (0 : Int32))])) rfl (rest := [(.int (0 : Int32))]) rfl (hb hby d300_41) _ ?_
    rw [len_of S9 M9]
    exact k
  have hc42_10 : ¬ ((0 : Int32) < (0 : Int32)) := Int32.lt_irrefl
  refine Goes.st (B := T8.setTop (mkF m 63 #[.val (.ref x0), .val (.ref x1), .val (.ref x0), .val (.ref x1), .val (.ref b7), .val (.int (0 : Int32))] [])) (fun t k => ?_) ?_
  · refine XS.icmpYes X8.here hx rfl (pc0 := 42) (pc' := 63) rfl (hb hby d300_42) rfl (flt hc42_10).2.1 (by decide) (by decide) ?_
    exact k
  refine Goes.run X8 hx hown hci hcl hby (L := [(63, .aload 4, 2)]) (by decide +kernel) rfl (g' := (mkF m 65 #[.val (.ref x0), .val (.ref x1), .val (.ref x0), .val (.ref x1), .val (.ref b7), .val (.int (0 : Int32))] [(.ref b7)])) rfl ?_
  refine Goes.retR X8 hx hlk Bd.returns rfl rfl (hb hby d300_65) ?_ (by decide) (by decide)
  show (Q300 Z x0 x1 kx ky h0 n0) _ _ _
  rw [e8]
  exact ⟨b7, kx, rfl, N0, K7, sz_b7, E_b7, V_b7⟩
theorem d301_0 : decode prog_3_method_8_code 0 = .ok (.aload_n 0, 1) := by decide +kernel
theorem d301_1 : decode prog_3_method_8_code 1 = .ok (.arraylength, 1) := by decide +kernel
theorem d301_2 : decode prog_3_method_8_code 2 = .ok (.aload_n 1, 1) := by decide +kernel
theorem d301_3 : decode prog_3_method_8_code 3 = .ok (.arraylength, 1) := by decide +kernel
theorem d301_4 : decode prog_3_method_8_code 4 = .ok (.if_icmp .lt 7, 3) := by decide +kernel
theorem d301_11 : decode prog_3_method_8_code 11 = .ok (.aload_n 1, 1) := by decide +kernel
theorem d301_12 : decode prog_3_method_8_code 12 = .ok (.astore_n 2, 1) := by decide +kernel
theorem d301_13 : decode prog_3_method_8_code 13 = .ok (.aload_n 0, 1) := by decide +kernel
theorem d301_14 : decode prog_3_method_8_code 14 = .ok (.arraylength, 1) := by decide +kernel
theorem d301_15 : decode prog_3_method_8_code 15 = .ok (.aload_n 1, 1) := by decide +kernel
theorem d301_16 : decode prog_3_method_8_code 16 = .ok (.arraylength, 1) := by decide +kernel
theorem d301_17 : decode prog_3_method_8_code 17 = .ok (.if_icmp .lt 7, 3) := by decide +kernel
theorem d301_24 : decode prog_3_method_8_code 24 = .ok (.aload_n 0, 1) := by decide +kernel
theorem d301_25 : decode prog_3_method_8_code 25 = .ok (.astore_n 3, 1) := by decide +kernel
theorem d301_26 : decode prog_3_method_8_code 26 = .ok (.aload_n 2, 1) := by decide +kernel
theorem d301_27 : decode prog_3_method_8_code 27 = .ok (.invokevirtual 43, 3) := by decide +kernel
theorem d301_30 : decode prog_3_method_8_code 30 = .ok (.checkcast 44, 3) := by decide +kernel
theorem d301_33 : decode prog_3_method_8_code 33 = .ok (.astore 4, 2) := by decide +kernel
theorem d301_35 : decode prog_3_method_8_code 35 = .ok (.iconst 0, 1) := by decide +kernel
theorem d301_36 : decode prog_3_method_8_code 36 = .ok (.istore 5, 2) := by decide +kernel
theorem d301_38 : decode prog_3_method_8_code 38 = .ok (.iload 5, 2) := by decide +kernel
theorem d301_40 : decode prog_3_method_8_code 40 = .ok (.aload_n 3, 1) := by decide +kernel
theorem d301_41 : decode prog_3_method_8_code 41 = .ok (.arraylength, 1) := by decide +kernel
theorem d301_42 : decode prog_3_method_8_code 42 = .ok (.if_icmp .ge 21, 3) := by decide +kernel
theorem d301_63 : decode prog_3_method_8_code 63 = .ok (.aload 4, 2) := by decide +kernel
theorem d301_65 : decode prog_3_method_8_code 65 = .ok (.areturn, 1) := by decide +kernel
theorem pn301 : plainName "com/example/marks_across_domains/marksacrossdomains/Bits" = true := by first | (simp [plainName, overriddenIn]; done) | decide +kernel
theorem ef301 (m : MethodId) (x0 : Addr) (x1 : Addr) : entryFrame m #[(.ref x0), (.ref x1)] 6 = (mkF m 0 #[.val (.ref x0), .val (.ref x1), .unset, .unset, .unset, .unset] []) := by first | (simp [entryFrame, mkF, argsToLocals, Value.category]; done) | rfl
def Q301 (Z : State) (x0 : Addr) (x1 : Addr) (kx : ClassId) (ky : ClassId) (t0 : Int64) (h0 : Heap) (n0 : Nat) (v : Option Value) (h : Heap) (L : List Loc) : Prop := ∃ (b : Addr) (k : ClassId), v = some (.ref b) ∧ Fr n0 L ∧ Keep h0 h [] ∧ h0.size ≤ b ∧ Exa Z h b "[J" ∧ Arv Z h b k .long (1 : Int32) [(.long t0)] (.long (0 : Int64))
set_option maxRecDepth 65536 in
set_option maxHeartbeats 40000000 in
theorem rm301 (l : Launch) (Z : State) (a0 : Array Value) (hw : ∀ d ∈ tables_1, d.before a0 Z = true) (ws : List Jvm.Cond) (x0 : Addr) (x1 : Addr) (kx : ClassId) (ky : ClassId) (t0 : Int64) (h0 : Heap) (n0 : Nat) (Z0 : n0 ≤ h0.size) (E_x0 : Exa Z h0 x0 "[J") (V_x0 : Arv Z h0 x0 kx .long (0 : Int32) [] (.long (0 : Int64))) (E_x1 : Exa Z h0 x1 "[J") (V_x1 : Arv Z h0 x1 ky .long (1 : Int32) [(.long t0)] (.long (0 : Int64))) :
    MetFree l (⟨"com/example/marks_across_domains/marksacrossdomains/Bits", "union", "([J[J)[J"⟩ : MethodName) (head1 (Jvm.Cond.code (⟨"com/example/marks_across_domains/marksacrossdomains/Bits", "union", "([J[J)[J"⟩ : MethodName) prog_3_method_8_code 6 (some (.array .long)) :: ws) ({ frames := 1, cells := 1, slots := 1, locals := 14 } : Room)) (fun a U => a = #[(.ref x0), (.ref x1)] ∧ Z.Warmed39 U.vm ∧ U.heap = h0) (fun _ _ _ _ _ => True) (fun _ U o U' => ∃ v L, o = .returned v ∧ (Q301 Z x0 x1 kx ky t0 h0 n0) v U'.heap L ∧ FrameEnd U o U' L ({ frames := 1, cells := 1, slots := 1, locals := 14 } : Room).cells ({ frames := 1, cells := 1, slots := 1, locals := 14 } : Room).slots) := by
  refine MetFree.of_bodySF (plainFor_of_name pn301) hisR ?_
  intro p e s m args below meth c s₁ Bd hml0 hP hK
  obtain ⟨rfl, hZ, hh⟩ := hP
  have hx := Bd.exec
  have hby := Bd.bytes
  have hml : c.maxLocals = 6 := hml0
  have hlk : meth.locks = false := BodyLoose.notSynchronized Bd
  have hown : s.vm.findClass "com/example/marks_across_domains/marksacrossdomains/Bits" = some m.cls := findClass_of_methodNamed Bd.named
  have hnm := (name_of_methodNamed Bd.named Bd.method).1
  have hci : ∀ i v, (i, v) ∈ ([] : List (Nat × Int32)) → (Jvm.Cond.constant "com/example/marks_across_domains/marksacrossdomains/Bits" i v).before #[(.ref x0), (.ref x1)] s = true := own_ci0
  have hcl : ∀ i v, (i, v) ∈ ([] : List (Nat × Int64)) → (Jvm.Cond.constantLong "com/example/marks_across_domains/marksacrossdomains/Bits" i v).before #[(.ref x0), (.ref x1)] s = true := own_ci0
  have X0 : Stand p l e ({ frames := 1, cells := 1, slots := 1, locals := 14 } : Room) s m #[(.ref x0), (.ref x1)] below meth c s₁ [] 0 0 := Stand.of_body Bd
  have e0 : s₁.heap = h0 := by rw [← hh, Bd.state]; rfl
  have N0 := Fr.nil n0
  show Goes p e below s (Q301 Z x0 x1 kx ky t0 h0 n0) ({ frames := 1, cells := 1, slots := 1, locals := 14 } : Room).cells ({ frames := 1, cells := 1, slots := 1, locals := 14 } : Room).slots (s₁.setTop (entryFrame m #[(.ref x0), (.ref x1)] 6))
  refine Goes.cast (ef301 m x0 x1) ?_
  have K0 : Keep h0 h0 [] := Keep.refl h0 _
  refine Goes.run X0 hx hown hci hcl hby (L := [(0, .aload_n 0, 1)]) (by decide +kernel) rfl (g' := (mkF m 1 #[.val (.ref x0), .val (.ref x1), .unset, .unset, .unset, .unset] [(.ref x0)])) rfl ?_
  obtain ⟨cl1, Ar1, q1, S1, M1, Hs1, G1⟩ := id V_x0
  refine Goes.st (B := s₁.setTop (mkF m 2 #[.val (.ref x0), .val (.ref x1), .unset, .unset, .unset, .unset] [(.int (0 : Int32))])) (fun t k => ?_) ?_
  · refine X0.arraylength hx (cell := cl1) (by rw [e0]; exact Ar1.1) (State.isArrayOf_alike hZ.alike Ar1.2.1) (g := (mkF m 1 #[.val (.ref x0), .val (.ref x1), .unset, .unset, .unset, .unset] [(.ref x0)])) rfl (rest := []) rfl (hb hby d301_1) _ ?_
    rw [len_of S1 M1]
    exact k
  refine Goes.run X0 hx hown hci hcl hby (L := [(2, .aload_n 1, 1)]) (by decide +kernel) rfl (g' := (mkF m 3 #[.val (.ref x0), .val (.ref x1), .unset, .unset, .unset, .unset] [(.ref x1), (.int (0 : Int32))])) rfl ?_
  obtain ⟨cl2, Ar2, q2, S2, M2, Hs2, G2⟩ := id V_x1
  refine Goes.st (B := s₁.setTop (mkF m 4 #[.val (.ref x0), .val (.ref x1), .unset, .unset, .unset, .unset] [(.int (1 : Int32)), (.int (0 : Int32))])) (fun t k => ?_) ?_
  · refine X0.arraylength hx (cell := cl2) (by rw [e0]; exact Ar2.1) (State.isArrayOf_alike hZ.alike Ar2.2.1) (g := (mkF m 3 #[.val (.ref x0), .val (.ref x1), .unset, .unset, .unset, .unset] [(.ref x1), (.int (0 : Int32))])) rfl (rest := [(.int (0 : Int32))]) rfl (hb hby d301_3) _ ?_
    rw [len_of S2 M2]
    exact k
  have hc4_3 : (0 : Int32) < (1 : Int32) := by decide
  refine Goes.st (B := s₁.setTop (mkF m 11 #[.val (.ref x0), .val (.ref x1), .unset, .unset, .unset, .unset] [])) (fun t k => ?_) ?_
  · refine XS.icmpYes X0.here hx rfl (pc0 := 4) (pc' := 11) rfl (hb hby d301_4) rfl (tlt hc4_3).1 (by decide) (by decide) ?_
    exact k
  refine Goes.run X0 hx hown hci hcl hby (L := [(11, .aload_n 1, 1), (12, .astore_n 2, 1), (13, .aload_n 0, 1)]) (by decide +kernel) rfl (g' := (mkF m 14 #[.val (.ref x0), .val (.ref x1), .val (.ref x1), .unset, .unset, .unset] [(.ref x0)])) rfl ?_
  obtain ⟨cl4, Ar4, q4, S4, M4, Hs4, G4⟩ := id V_x0
  refine Goes.st (B := s₁.setTop (mkF m 15 #[.val (.ref x0), .val (.ref x1), .val (.ref x1), .unset, .unset, .unset] [(.int (0 : Int32))])) (fun t k => ?_) ?_
  · refine X0.arraylength hx (cell := cl4) (by rw [e0]; exact Ar4.1) (State.isArrayOf_alike hZ.alike Ar4.2.1) (g := (mkF m 14 #[.val (.ref x0), .val (.ref x1), .val (.ref x1), .unset, .unset, .unset] [(.ref x0)])) rfl (rest := []) rfl (hb hby d301_14) _ ?_
    rw [len_of S4 M4]
    exact k
  refine Goes.run X0 hx hown hci hcl hby (L := [(15, .aload_n 1, 1)]) (by decide +kernel) rfl (g' := (mkF m 16 #[.val (.ref x0), .val (.ref x1), .val (.ref x1), .unset, .unset, .unset] [(.ref x1), (.int (0 : Int32))])) rfl ?_
  obtain ⟨cl5, Ar5, q5, S5, M5, Hs5, G5⟩ := id V_x1
  refine Goes.st (B := s₁.setTop (mkF m 17 #[.val (.ref x0), .val (.ref x1), .val (.ref x1), .unset, .unset, .unset] [(.int (1 : Int32)), (.int (0 : Int32))])) (fun t k => ?_) ?_
  · refine X0.arraylength hx (cell := cl5) (by rw [e0]; exact Ar5.1) (State.isArrayOf_alike hZ.alike Ar5.2.1) (g := (mkF m 16 #[.val (.ref x0), .val (.ref x1), .val (.ref x1), .unset, .unset, .unset] [(.ref x1), (.int (0 : Int32))])) rfl (rest := [(.int (0 : Int32))]) rfl (hb hby d301_16) _ ?_
    rw [len_of S5 M5]
    exact k
  have hc17_6 : (0 : Int32) < (1 : Int32) := by decide
  refine Goes.st (B := s₁.setTop (mkF m 24 #[.val (.ref x0), .val (.ref x1), .val (.ref x1), .unset, .unset, .unset] [])) (fun t k => ?_) ?_
  · refine XS.icmpYes X0.here hx rfl (pc0 := 17) (pc' := 24) rfl (hb hby d301_17) rfl (tlt hc17_6).1 (by decide) (by decide) ?_
    exact k
  refine Goes.run X0 hx hown hci hcl hby (L := [(24, .aload_n 0, 1), (25, .astore_n 3, 1), (26, .aload_n 2, 1)]) (by decide +kernel) rfl (g' := (mkF m 27 #[.val (.ref x0), .val (.ref x1), .val (.ref x1), .val (.ref x0), .unset, .unset] [(.ref x1)])) rfl ?_
  obtain ⟨T7, h7, X7, e7, E7, A7, B7, st7⟩ := cloneH X0 hx hZ hown (hw _ (List.mem_of_getElem? (i := 9) rfl)) (hw _ (List.mem_of_getElem? (i := 10) rfl)) (hw _ (List.mem_of_getElem? (i := 14) rfl)) (hw _ (List.mem_of_getElem? (i := 12) rfl)) (hw _ (List.mem_of_getElem? (i := 13) rfl)) (hw _ (List.mem_of_getElem? (i := 15) rfl)) e0 V_x1.arh E_x1 (g := (mkF m 27 #[.val (.ref x0), .val (.ref x1), .val (.ref x1), .val (.ref x0), .unset, .unset] [(.ref x1)])) rfl (by rw [hml]; rfl) rfl (hb hby d301_27) (by decide) (W := 0) (cap := 1) (by show 2 * 0 + _ ≤ _; exact Nat.le_of_eq rfl) (by decide) (by decide) (by decide) (by decide)
  obtain ⟨b7, g7⟩ : ∃ z, z = h0.size := ⟨_, rfl⟩
  rw [← g7] at A7 B7 st7
  have ne_x0_b7 : x0 ≠ b7 := Nat.ne_of_lt (Nat.lt_of_lt_of_le E_x0.lt (Nat.le_of_eq g7.symm))
  have ne_x1_b7 : x1 ≠ b7 := Nat.ne_of_lt (Nat.lt_of_lt_of_le E_x1.lt (Nat.le_of_eq g7.symm))
  have g_b7 : n0 ≤ b7 := Nat.le_trans Z0 (Nat.le_of_eq g7.symm)
  have sz_b7 : h0.size ≤ b7 := Nat.le_trans K0.1 (Nat.le_of_eq g7.symm)
  have E_x0 := E_x0.ext E7
  have V_x0 := V_x0.ext E7
  have E_x1 := E_x1.ext E7
  have V_x1 := V_x1.ext E7
  have Zn7 : n0 ≤ h7.size := Nat.le_trans Z0 E7.1
  have K7 := K0.ext E7
  have E_b7 : Exa Z h7 b7 "[J" := B7
  have V_b7 : Arv Z h7 b7 ky .long (1 : Int32) [(.long t0)] (.long (0 : Int64)) := A7
  refine Goes.st (B := T7.setTop (mkF m 30 #[.val (.ref x0), .val (.ref x1), .val (.ref x1), .val (.ref x0), .unset, .unset] [(.ref b7)])) st7 ?_
  obtain ⟨T8, X8, e8, st8⟩ := castY X7 hx hZ hown (hw _ (List.mem_of_getElem? (i := 16) rfl)) e7 (Ins.self E_b7) (g := (mkF m 30 #[.val (.ref x0), .val (.ref x1), .val (.ref x1), .val (.ref x0), .unset, .unset] [(.ref b7)])) rfl rfl (hb hby d301_30)
  refine Goes.st (B := T8.setTop (mkF m 33 #[.val (.ref x0), .val (.ref x1), .val (.ref x1), .val (.ref x0), .unset, .unset] [(.ref b7)])) st8 ?_
  refine Goes.run X8 hx hown hci hcl hby (L := [(33, .astore 4, 2), (35, .iconst 0, 1), (36, .istore 5, 2), (38, .iload 5, 2), (40, .aload_n 3, 1)]) (by decide +kernel) rfl (g' := (mkF m 41 #[.val (.ref x0), .val (.ref x1), .val (.ref x1), .val (.ref x0), .val (.ref b7), .val (.int (0 : Int32))] [(.ref x0), (.int (0 : Int32))])) rfl ?_
  obtain ⟨cl9, Ar9, q9, S9, M9, Hs9, G9⟩ := id V_x0
  refine Goes.st (B := T8.setTop (mkF m 42 #[.val (.ref x0), .val (.ref x1), .val (.ref x1), .val (.ref x0), .val (.ref b7), .val (.int (0 : Int32))] [(.int (0 : Int32)), (.int (0 : Int32))])) (fun t k => ?_) ?_
  · refine X8.arraylength hx (cell := cl9) (by rw [e8]; exact Ar9.1) (State.isArrayOf_alike hZ.alike Ar9.2.1) (g := (mkF m 41 #[.val (.ref x0), .val (.ref x1), .val (.ref x1), .val (.ref x0), .val (.ref b7), .val (.int (0 : Int32))] [(.ref x0), (.int (0 : Int32))])) rfl (rest := [(.int (0 : Int32))]) rfl (hb hby d301_41) _ ?_
    rw [len_of S9 M9]
    exact k
  have hc42_10 : ¬ ((0 : Int32) < (0 : Int32)) := Int32.lt_irrefl
  refine Goes.st (B := T8.setTop (mkF m 63 #[.val (.ref x0), .val (.ref x1), .val (.ref x1), .val (.ref x0), .val (.ref b7), .val (.int (0 : Int32))] [])) (fun t k => ?_) ?_
  · refine XS.icmpYes X8.here hx rfl (pc0 := 42) (pc' := 63) rfl (hb hby d301_42) rfl (flt hc42_10).2.1 (by decide) (by decide) ?_
    exact k
  refine Goes.run X8 hx hown hci hcl hby (L := [(63, .aload 4, 2)]) (by decide +kernel) rfl (g' := (mkF m 65 #[.val (.ref x0), .val (.ref x1), .val (.ref x1), .val (.ref x0), .val (.ref b7), .val (.int (0 : Int32))] [(.ref b7)])) rfl ?_
  refine Goes.retR X8 hx hlk Bd.returns rfl rfl (hb hby d301_65) ?_ (by decide) (by decide)
  show (Q301 Z x0 x1 kx ky t0 h0 n0) _ _ _
  rw [e8]
  exact ⟨b7, ky, rfl, N0, K7, sz_b7, E_b7, V_b7⟩
theorem d302_0 : decode prog_3_method_8_code 0 = .ok (.aload_n 0, 1) := by decide +kernel
theorem d302_1 : decode prog_3_method_8_code 1 = .ok (.arraylength, 1) := by decide +kernel
theorem d302_2 : decode prog_3_method_8_code 2 = .ok (.aload_n 1, 1) := by decide +kernel
theorem d302_3 : decode prog_3_method_8_code 3 = .ok (.arraylength, 1) := by decide +kernel
theorem d302_4 : decode prog_3_method_8_code 4 = .ok (.if_icmp .lt 7, 3) := by decide +kernel
theorem d302_11 : decode prog_3_method_8_code 11 = .ok (.aload_n 1, 1) := by decide +kernel
theorem d302_12 : decode prog_3_method_8_code 12 = .ok (.astore_n 2, 1) := by decide +kernel
theorem d302_13 : decode prog_3_method_8_code 13 = .ok (.aload_n 0, 1) := by decide +kernel
theorem d302_14 : decode prog_3_method_8_code 14 = .ok (.arraylength, 1) := by decide +kernel
theorem d302_15 : decode prog_3_method_8_code 15 = .ok (.aload_n 1, 1) := by decide +kernel
theorem d302_16 : decode prog_3_method_8_code 16 = .ok (.arraylength, 1) := by decide +kernel
theorem d302_17 : decode prog_3_method_8_code 17 = .ok (.if_icmp .lt 7, 3) := by decide +kernel
theorem d302_24 : decode prog_3_method_8_code 24 = .ok (.aload_n 0, 1) := by decide +kernel
theorem d302_25 : decode prog_3_method_8_code 25 = .ok (.astore_n 3, 1) := by decide +kernel
theorem d302_26 : decode prog_3_method_8_code 26 = .ok (.aload_n 2, 1) := by decide +kernel
theorem d302_27 : decode prog_3_method_8_code 27 = .ok (.invokevirtual 43, 3) := by decide +kernel
theorem d302_30 : decode prog_3_method_8_code 30 = .ok (.checkcast 44, 3) := by decide +kernel
theorem d302_33 : decode prog_3_method_8_code 33 = .ok (.astore 4, 2) := by decide +kernel
theorem d302_35 : decode prog_3_method_8_code 35 = .ok (.iconst 0, 1) := by decide +kernel
theorem d302_36 : decode prog_3_method_8_code 36 = .ok (.istore 5, 2) := by decide +kernel
theorem d302_38 : decode prog_3_method_8_code 38 = .ok (.iload 5, 2) := by decide +kernel
theorem d302_40 : decode prog_3_method_8_code 40 = .ok (.aload_n 3, 1) := by decide +kernel
theorem d302_41 : decode prog_3_method_8_code 41 = .ok (.arraylength, 1) := by decide +kernel
theorem d302_42 : decode prog_3_method_8_code 42 = .ok (.if_icmp .ge 21, 3) := by decide +kernel
theorem d302_63 : decode prog_3_method_8_code 63 = .ok (.aload 4, 2) := by decide +kernel
theorem d302_65 : decode prog_3_method_8_code 65 = .ok (.areturn, 1) := by decide +kernel
theorem pn302 : plainName "com/example/marks_across_domains/marksacrossdomains/Bits" = true := by first | (simp [plainName, overriddenIn]; done) | decide +kernel
theorem ef302 (m : MethodId) (x0 : Addr) (x1 : Addr) : entryFrame m #[(.ref x0), (.ref x1)] 6 = (mkF m 0 #[.val (.ref x0), .val (.ref x1), .unset, .unset, .unset, .unset] []) := by first | (simp [entryFrame, mkF, argsToLocals, Value.category]; done) | rfl
def Q302 (Z : State) (x0 : Addr) (x1 : Addr) (kx : ClassId) (ky : ClassId) (t0 : Int64) (t1 : Int64) (h0 : Heap) (n0 : Nat) (v : Option Value) (h : Heap) (L : List Loc) : Prop := ∃ (b : Addr) (k : ClassId), v = some (.ref b) ∧ Fr n0 L ∧ Keep h0 h [] ∧ h0.size ≤ b ∧ Exa Z h b "[J" ∧ Arv Z h b k .long (2 : Int32) [(.long t0), (.long t1)] (.long (0 : Int64))
set_option maxRecDepth 65536 in
set_option maxHeartbeats 40000000 in
theorem rm302 (l : Launch) (Z : State) (a0 : Array Value) (hw : ∀ d ∈ tables_1, d.before a0 Z = true) (ws : List Jvm.Cond) (x0 : Addr) (x1 : Addr) (kx : ClassId) (ky : ClassId) (t0 : Int64) (t1 : Int64) (h0 : Heap) (n0 : Nat) (Z0 : n0 ≤ h0.size) (E_x0 : Exa Z h0 x0 "[J") (V_x0 : Arv Z h0 x0 kx .long (0 : Int32) [] (.long (0 : Int64))) (E_x1 : Exa Z h0 x1 "[J") (V_x1 : Arv Z h0 x1 ky .long (2 : Int32) [(.long t0), (.long t1)] (.long (0 : Int64))) :
    MetFree l (⟨"com/example/marks_across_domains/marksacrossdomains/Bits", "union", "([J[J)[J"⟩ : MethodName) (head1 (Jvm.Cond.code (⟨"com/example/marks_across_domains/marksacrossdomains/Bits", "union", "([J[J)[J"⟩ : MethodName) prog_3_method_8_code 6 (some (.array .long)) :: ws) ({ frames := 1, cells := 1, slots := 2, locals := 14 } : Room)) (fun a U => a = #[(.ref x0), (.ref x1)] ∧ Z.Warmed39 U.vm ∧ U.heap = h0) (fun _ _ _ _ _ => True) (fun _ U o U' => ∃ v L, o = .returned v ∧ (Q302 Z x0 x1 kx ky t0 t1 h0 n0) v U'.heap L ∧ FrameEnd U o U' L ({ frames := 1, cells := 1, slots := 2, locals := 14 } : Room).cells ({ frames := 1, cells := 1, slots := 2, locals := 14 } : Room).slots) := by
  refine MetFree.of_bodySF (plainFor_of_name pn302) hisR ?_
  intro p e s m args below meth c s₁ Bd hml0 hP hK
  obtain ⟨rfl, hZ, hh⟩ := hP
  have hx := Bd.exec
  have hby := Bd.bytes
  have hml : c.maxLocals = 6 := hml0
  have hlk : meth.locks = false := BodyLoose.notSynchronized Bd
  have hown : s.vm.findClass "com/example/marks_across_domains/marksacrossdomains/Bits" = some m.cls := findClass_of_methodNamed Bd.named
  have hnm := (name_of_methodNamed Bd.named Bd.method).1
  have hci : ∀ i v, (i, v) ∈ ([] : List (Nat × Int32)) → (Jvm.Cond.constant "com/example/marks_across_domains/marksacrossdomains/Bits" i v).before #[(.ref x0), (.ref x1)] s = true := own_ci0
  have hcl : ∀ i v, (i, v) ∈ ([] : List (Nat × Int64)) → (Jvm.Cond.constantLong "com/example/marks_across_domains/marksacrossdomains/Bits" i v).before #[(.ref x0), (.ref x1)] s = true := own_ci0
  have X0 : Stand p l e ({ frames := 1, cells := 1, slots := 2, locals := 14 } : Room) s m #[(.ref x0), (.ref x1)] below meth c s₁ [] 0 0 := Stand.of_body Bd
  have e0 : s₁.heap = h0 := by rw [← hh, Bd.state]; rfl
  have N0 := Fr.nil n0
  show Goes p e below s (Q302 Z x0 x1 kx ky t0 t1 h0 n0) ({ frames := 1, cells := 1, slots := 2, locals := 14 } : Room).cells ({ frames := 1, cells := 1, slots := 2, locals := 14 } : Room).slots (s₁.setTop (entryFrame m #[(.ref x0), (.ref x1)] 6))
  refine Goes.cast (ef302 m x0 x1) ?_
  have K0 : Keep h0 h0 [] := Keep.refl h0 _
  refine Goes.run X0 hx hown hci hcl hby (L := [(0, .aload_n 0, 1)]) (by decide +kernel) rfl (g' := (mkF m 1 #[.val (.ref x0), .val (.ref x1), .unset, .unset, .unset, .unset] [(.ref x0)])) rfl ?_
  obtain ⟨cl1, Ar1, q1, S1, M1, Hs1, G1⟩ := id V_x0
  refine Goes.st (B := s₁.setTop (mkF m 2 #[.val (.ref x0), .val (.ref x1), .unset, .unset, .unset, .unset] [(.int (0 : Int32))])) (fun t k => ?_) ?_
  · refine X0.arraylength hx (cell := cl1) (by rw [e0]; exact Ar1.1) (State.isArrayOf_alike hZ.alike Ar1.2.1) (g := (mkF m 1 #[.val (.ref x0), .val (.ref x1), .unset, .unset, .unset, .unset] [(.ref x0)])) rfl (rest := []) rfl (hb hby d302_1) _ ?_
    rw [len_of S1 M1]
    exact k
  refine Goes.run X0 hx hown hci hcl hby (L := [(2, .aload_n 1, 1)]) (by decide +kernel) rfl (g' := (mkF m 3 #[.val (.ref x0), .val (.ref x1), .unset, .unset, .unset, .unset] [(.ref x1), (.int (0 : Int32))])) rfl ?_
  obtain ⟨cl2, Ar2, q2, S2, M2, Hs2, G2⟩ := id V_x1
  refine Goes.st (B := s₁.setTop (mkF m 4 #[.val (.ref x0), .val (.ref x1), .unset, .unset, .unset, .unset] [(.int (2 : Int32)), (.int (0 : Int32))])) (fun t k => ?_) ?_
  · refine X0.arraylength hx (cell := cl2) (by rw [e0]; exact Ar2.1) (State.isArrayOf_alike hZ.alike Ar2.2.1) (g := (mkF m 3 #[.val (.ref x0), .val (.ref x1), .unset, .unset, .unset, .unset] [(.ref x1), (.int (0 : Int32))])) rfl (rest := [(.int (0 : Int32))]) rfl (hb hby d302_3) _ ?_
    rw [len_of S2 M2]
    exact k
  have hc4_3 : (0 : Int32) < (2 : Int32) := by decide
  refine Goes.st (B := s₁.setTop (mkF m 11 #[.val (.ref x0), .val (.ref x1), .unset, .unset, .unset, .unset] [])) (fun t k => ?_) ?_
  · refine XS.icmpYes X0.here hx rfl (pc0 := 4) (pc' := 11) rfl (hb hby d302_4) rfl (tlt hc4_3).1 (by decide) (by decide) ?_
    exact k
  refine Goes.run X0 hx hown hci hcl hby (L := [(11, .aload_n 1, 1), (12, .astore_n 2, 1), (13, .aload_n 0, 1)]) (by decide +kernel) rfl (g' := (mkF m 14 #[.val (.ref x0), .val (.ref x1), .val (.ref x1), .unset, .unset, .unset] [(.ref x0)])) rfl ?_
  obtain ⟨cl4, Ar4, q4, S4, M4, Hs4, G4⟩ := id V_x0
  refine Goes.st (B := s₁.setTop (mkF m 15 #[.val (.ref x0), .val (.ref x1), .val (.ref x1), .unset, .unset, .unset] [(.int (0 : Int32))])) (fun t k => ?_) ?_
  · refine X0.arraylength hx (cell := cl4) (by rw [e0]; exact Ar4.1) (State.isArrayOf_alike hZ.alike Ar4.2.1) (g := (mkF m 14 #[.val (.ref x0), .val (.ref x1), .val (.ref x1), .unset, .unset, .unset] [(.ref x0)])) rfl (rest := []) rfl (hb hby d302_14) _ ?_
    rw [len_of S4 M4]
    exact k
  refine Goes.run X0 hx hown hci hcl hby (L := [(15, .aload_n 1, 1)]) (by decide +kernel) rfl (g' := (mkF m 16 #[.val (.ref x0), .val (.ref x1), .val (.ref x1), .unset, .unset, .unset] [(.ref x1), (.int (0 : Int32))])) rfl ?_
  obtain ⟨cl5, Ar5, q5, S5, M5, Hs5, G5⟩ := id V_x1
  refine Goes.st (B := s₁.setTop (mkF m 17 #[.val (.ref x0), .val (.ref x1), .val (.ref x1), .unset, .unset, .unset] [(.int (2 : Int32)), (.int (0 : Int32))])) (fun t k => ?_) ?_
  · refine X0.arraylength hx (cell := cl5) (by rw [e0]; exact Ar5.1) (State.isArrayOf_alike hZ.alike Ar5.2.1) (g := (mkF m 16 #[.val (.ref x0), .val (.ref x1), .val (.ref x1), .unset, .unset, .unset] [(.ref x1), (.int (0 : Int32))])) rfl (rest := [(.int (0 : Int32))]) rfl (hb hby d302_16) _ ?_
    rw [len_of S5 M5]
    exact k
  have hc17_6 : (0 : Int32) < (2 : Int32) := by decide
  refine Goes.st (B := s₁.setTop (mkF m 24 #[.val (.ref x0), .val (.ref x1), .val (.ref x1), .unset, .unset, .unset] [])) (fun t k => ?_) ?_
  · refine XS.icmpYes X0.here hx rfl (pc0 := 17) (pc' := 24) rfl (hb hby d302_17) rfl (tlt hc17_6).1 (by decide) (by decide) ?_
    exact k
  refine Goes.run X0 hx hown hci hcl hby (L := [(24, .aload_n 0, 1), (25, .astore_n 3, 1), (26, .aload_n 2, 1)]) (by decide +kernel) rfl (g' := (mkF m 27 #[.val (.ref x0), .val (.ref x1), .val (.ref x1), .val (.ref x0), .unset, .unset] [(.ref x1)])) rfl ?_
  obtain ⟨T7, h7, X7, e7, E7, A7, B7, st7⟩ := cloneH X0 hx hZ hown (hw _ (List.mem_of_getElem? (i := 9) rfl)) (hw _ (List.mem_of_getElem? (i := 10) rfl)) (hw _ (List.mem_of_getElem? (i := 14) rfl)) (hw _ (List.mem_of_getElem? (i := 12) rfl)) (hw _ (List.mem_of_getElem? (i := 13) rfl)) (hw _ (List.mem_of_getElem? (i := 15) rfl)) e0 V_x1.arh E_x1 (g := (mkF m 27 #[.val (.ref x0), .val (.ref x1), .val (.ref x1), .val (.ref x0), .unset, .unset] [(.ref x1)])) rfl (by rw [hml]; rfl) rfl (hb hby d302_27) (by decide) (W := 0) (cap := 2) (by show 2 * 0 + _ ≤ _; exact Nat.le_of_eq rfl) (by decide) (by decide) (by decide) (by decide)
  obtain ⟨b7, g7⟩ : ∃ z, z = h0.size := ⟨_, rfl⟩
  rw [← g7] at A7 B7 st7
  have ne_x0_b7 : x0 ≠ b7 := Nat.ne_of_lt (Nat.lt_of_lt_of_le E_x0.lt (Nat.le_of_eq g7.symm))
  have ne_x1_b7 : x1 ≠ b7 := Nat.ne_of_lt (Nat.lt_of_lt_of_le E_x1.lt (Nat.le_of_eq g7.symm))
  have g_b7 : n0 ≤ b7 := Nat.le_trans Z0 (Nat.le_of_eq g7.symm)
  have sz_b7 : h0.size ≤ b7 := Nat.le_trans K0.1 (Nat.le_of_eq g7.symm)
  have E_x0 := E_x0.ext E7
  have V_x0 := V_x0.ext E7
  have E_x1 := E_x1.ext E7
  have V_x1 := V_x1.ext E7
  have Zn7 : n0 ≤ h7.size := Nat.le_trans Z0 E7.1
  have K7 := K0.ext E7
  have E_b7 : Exa Z h7 b7 "[J" := B7
  have V_b7 : Arv Z h7 b7 ky .long (2 : Int32) [(.long t0), (.long t1)] (.long (0 : Int64)) := A7
  refine Goes.st (B := T7.setTop (mkF m 30 #[.val (.ref x0), .val (.ref x1), .val (.ref x1), .val (.ref x0), .unset, .unset] [(.ref b7)])) st7 ?_
  obtain ⟨T8, X8, e8, st8⟩ := castY X7 hx hZ hown (hw _ (List.mem_of_getElem? (i := 16) rfl)) e7 (Ins.self E_b7) (g := (mkF m 30 #[.val (.ref x0), .val (.ref x1), .val (.ref x1), .val (.ref x0), .unset, .unset] [(.ref b7)])) rfl rfl (hb hby d302_30)
  refine Goes.st (B := T8.setTop (mkF m 33 #[.val (.ref x0), .val (.ref x1), .val (.ref x1), .val (.ref x0), .unset, .unset] [(.ref b7)])) st8 ?_
  refine Goes.run X8 hx hown hci hcl hby (L := [(33, .astore 4, 2), (35, .iconst 0, 1), (36, .istore 5, 2), (38, .iload 5, 2), (40, .aload_n 3, 1)]) (by decide +kernel) rfl (g' := (mkF m 41 #[.val (.ref x0), .val (.ref x1), .val (.ref x1), .val (.ref x0), .val (.ref b7), .val (.int (0 : Int32))] [(.ref x0), (.int (0 : Int32))])) rfl ?_
  obtain ⟨cl9, Ar9, q9, S9, M9, Hs9, G9⟩ := id V_x0
  refine Goes.st (B := T8.setTop (mkF m 42 #[.val (.ref x0), .val (.ref x1), .val (.ref x1), .val (.ref x0), .val (.ref b7), .val (.int (0 : Int32))] [(.int (0 : Int32)), (.int (0 : Int32))])) (fun t k => ?_) ?_
  · refine X8.arraylength hx (cell := cl9) (by rw [e8]; exact Ar9.1) (State.isArrayOf_alike hZ.alike Ar9.2.1) (g := (mkF m 41 #[.val (.ref x0), .val (.ref x1), .val (.ref x1), .val (.ref x0), .val (.ref b7), .val (.int (0 : Int32))] [(.ref x0), (.int (0 : Int32))])) rfl (rest := [(.int (0 : Int32))]) rfl (hb hby d302_41) _ ?_
    rw [len_of S9 M9]
    exact k
  have hc42_10 : ¬ ((0 : Int32) < (0 : Int32)) := Int32.lt_irrefl
  refine Goes.st (B := T8.setTop (mkF m 63 #[.val (.ref x0), .val (.ref x1), .val (.ref x1), .val (.ref x0), .val (.ref b7), .val (.int (0 : Int32))] [])) (fun t k => ?_) ?_
  · refine XS.icmpYes X8.here hx rfl (pc0 := 42) (pc' := 63) rfl (hb hby d302_42) rfl (flt hc42_10).2.1 (by decide) (by decide) ?_
    exact k
  refine Goes.run X8 hx hown hci hcl hby (L := [(63, .aload 4, 2)]) (by decide +kernel) rfl (g' := (mkF m 65 #[.val (.ref x0), .val (.ref x1), .val (.ref x1), .val (.ref x0), .val (.ref b7), .val (.int (0 : Int32))] [(.ref b7)])) rfl ?_
  refine Goes.retR X8 hx hlk Bd.returns rfl rfl (hb hby d302_65) ?_ (by decide) (by decide)
  show (Q302 Z x0 x1 kx ky t0 t1 h0 n0) _ _ _
  rw [e8]
  exact ⟨b7, ky, rfl, N0, K7, sz_b7, E_b7, V_b7⟩
theorem d310_0 : decode prog_3_method_8_code 0 = .ok (.aload_n 0, 1) := by decide +kernel
theorem d310_1 : decode prog_3_method_8_code 1 = .ok (.arraylength, 1) := by decide +kernel
theorem d310_2 : decode prog_3_method_8_code 2 = .ok (.aload_n 1, 1) := by decide +kernel
theorem d310_3 : decode prog_3_method_8_code 3 = .ok (.arraylength, 1) := by decide +kernel
theorem d310_4 : decode prog_3_method_8_code 4 = .ok (.if_icmp .lt 7, 3) := by decide +kernel
theorem d310_7 : decode prog_3_method_8_code 7 = .ok (.aload_n 0, 1) := by decide +kernel
theorem d310_8 : decode prog_3_method_8_code 8 = .ok (.goto 4, 3) := by decide +kernel
theorem d310_12 : decode prog_3_method_8_code 12 = .ok (.astore_n 2, 1) := by decide +kernel
theorem d310_13 : decode prog_3_method_8_code 13 = .ok (.aload_n 0, 1) := by decide +kernel
theorem d310_14 : decode prog_3_method_8_code 14 = .ok (.arraylength, 1) := by decide +kernel
theorem d310_15 : decode prog_3_method_8_code 15 = .ok (.aload_n 1, 1) := by decide +kernel
theorem d310_16 : decode prog_3_method_8_code 16 = .ok (.arraylength, 1) := by decide +kernel
theorem d310_17 : decode prog_3_method_8_code 17 = .ok (.if_icmp .lt 7, 3) := by decide +kernel
theorem d310_20 : decode prog_3_method_8_code 20 = .ok (.aload_n 1, 1) := by decide +kernel
theorem d310_21 : decode prog_3_method_8_code 21 = .ok (.goto 4, 3) := by decide +kernel
theorem d310_25 : decode prog_3_method_8_code 25 = .ok (.astore_n 3, 1) := by decide +kernel
theorem d310_26 : decode prog_3_method_8_code 26 = .ok (.aload_n 2, 1) := by decide +kernel
theorem d310_27 : decode prog_3_method_8_code 27 = .ok (.invokevirtual 43, 3) := by decide +kernel
theorem d310_30 : decode prog_3_method_8_code 30 = .ok (.checkcast 44, 3) := by decide +kernel
theorem d310_33 : decode prog_3_method_8_code 33 = .ok (.astore 4, 2) := by decide +kernel
theorem d310_35 : decode prog_3_method_8_code 35 = .ok (.iconst 0, 1) := by decide +kernel
theorem d310_36 : decode prog_3_method_8_code 36 = .ok (.istore 5, 2) := by decide +kernel
theorem d310_38 : decode prog_3_method_8_code 38 = .ok (.iload 5, 2) := by decide +kernel
theorem d310_40 : decode prog_3_method_8_code 40 = .ok (.aload_n 3, 1) := by decide +kernel
theorem d310_41 : decode prog_3_method_8_code 41 = .ok (.arraylength, 1) := by decide +kernel
theorem d310_42 : decode prog_3_method_8_code 42 = .ok (.if_icmp .ge 21, 3) := by decide +kernel
theorem d310_63 : decode prog_3_method_8_code 63 = .ok (.aload 4, 2) := by decide +kernel
theorem d310_65 : decode prog_3_method_8_code 65 = .ok (.areturn, 1) := by decide +kernel
theorem pn310 : plainName "com/example/marks_across_domains/marksacrossdomains/Bits" = true := by first | (simp [plainName, overriddenIn]; done) | decide +kernel
theorem ef310 (m : MethodId) (x0 : Addr) (x1 : Addr) : entryFrame m #[(.ref x0), (.ref x1)] 6 = (mkF m 0 #[.val (.ref x0), .val (.ref x1), .unset, .unset, .unset, .unset] []) := by first | (simp [entryFrame, mkF, argsToLocals, Value.category]; done) | rfl
def Q310 (Z : State) (x0 : Addr) (x1 : Addr) (kx : ClassId) (ky : ClassId) (u0 : Int64) (h0 : Heap) (n0 : Nat) (v : Option Value) (h : Heap) (L : List Loc) : Prop := ∃ (b : Addr) (k : ClassId), v = some (.ref b) ∧ Fr n0 L ∧ Keep h0 h [] ∧ h0.size ≤ b ∧ Exa Z h b "[J" ∧ Arv Z h b k .long (1 : Int32) [(.long u0)] (.long (0 : Int64))
set_option maxRecDepth 65536 in
set_option maxHeartbeats 40000000 in
theorem rm310 (l : Launch) (Z : State) (a0 : Array Value) (hw : ∀ d ∈ tables_1, d.before a0 Z = true) (ws : List Jvm.Cond) (x0 : Addr) (x1 : Addr) (kx : ClassId) (ky : ClassId) (u0 : Int64) (h0 : Heap) (n0 : Nat) (Z0 : n0 ≤ h0.size) (E_x0 : Exa Z h0 x0 "[J") (V_x0 : Arv Z h0 x0 kx .long (1 : Int32) [(.long u0)] (.long (0 : Int64))) (E_x1 : Exa Z h0 x1 "[J") (V_x1 : Arv Z h0 x1 ky .long (0 : Int32) [] (.long (0 : Int64))) :
    MetFree l (⟨"com/example/marks_across_domains/marksacrossdomains/Bits", "union", "([J[J)[J"⟩ : MethodName) (head1 (Jvm.Cond.code (⟨"com/example/marks_across_domains/marksacrossdomains/Bits", "union", "([J[J)[J"⟩ : MethodName) prog_3_method_8_code 6 (some (.array .long)) :: ws) ({ frames := 1, cells := 1, slots := 1, locals := 14 } : Room)) (fun a U => a = #[(.ref x0), (.ref x1)] ∧ Z.Warmed39 U.vm ∧ U.heap = h0) (fun _ _ _ _ _ => True) (fun _ U o U' => ∃ v L, o = .returned v ∧ (Q310 Z x0 x1 kx ky u0 h0 n0) v U'.heap L ∧ FrameEnd U o U' L ({ frames := 1, cells := 1, slots := 1, locals := 14 } : Room).cells ({ frames := 1, cells := 1, slots := 1, locals := 14 } : Room).slots) := by
  refine MetFree.of_bodySF (plainFor_of_name pn310) hisR ?_
  intro p e s m args below meth c s₁ Bd hml0 hP hK
  obtain ⟨rfl, hZ, hh⟩ := hP
  have hx := Bd.exec
  have hby := Bd.bytes
  have hml : c.maxLocals = 6 := hml0
  have hlk : meth.locks = false := BodyLoose.notSynchronized Bd
  have hown : s.vm.findClass "com/example/marks_across_domains/marksacrossdomains/Bits" = some m.cls := findClass_of_methodNamed Bd.named
  have hnm := (name_of_methodNamed Bd.named Bd.method).1
  have hci : ∀ i v, (i, v) ∈ ([] : List (Nat × Int32)) → (Jvm.Cond.constant "com/example/marks_across_domains/marksacrossdomains/Bits" i v).before #[(.ref x0), (.ref x1)] s = true := own_ci0
  have hcl : ∀ i v, (i, v) ∈ ([] : List (Nat × Int64)) → (Jvm.Cond.constantLong "com/example/marks_across_domains/marksacrossdomains/Bits" i v).before #[(.ref x0), (.ref x1)] s = true := own_ci0
  have X0 : Stand p l e ({ frames := 1, cells := 1, slots := 1, locals := 14 } : Room) s m #[(.ref x0), (.ref x1)] below meth c s₁ [] 0 0 := Stand.of_body Bd
  have e0 : s₁.heap = h0 := by rw [← hh, Bd.state]; rfl
  have N0 := Fr.nil n0
  show Goes p e below s (Q310 Z x0 x1 kx ky u0 h0 n0) ({ frames := 1, cells := 1, slots := 1, locals := 14 } : Room).cells ({ frames := 1, cells := 1, slots := 1, locals := 14 } : Room).slots (s₁.setTop (entryFrame m #[(.ref x0), (.ref x1)] 6))
  refine Goes.cast (ef310 m x0 x1) ?_
  have K0 : Keep h0 h0 [] := Keep.refl h0 _
  refine Goes.run X0 hx hown hci hcl hby (L := [(0, .aload_n 0, 1)]) (by decide +kernel) rfl (g' := (mkF m 1 #[.val (.ref x0), .val (.ref x1), .unset, .unset, .unset, .unset] [(.ref x0)])) rfl ?_
  obtain ⟨cl1, Ar1, q1, S1, M1, Hs1, G1⟩ := id V_x0
  refine Goes.st (B := s₁.setTop (mkF m 2 #[.val (.ref x0), .val (.ref x1), .unset, .unset, .unset, .unset] [(.int (1 : Int32))])) (fun t k => ?_) ?_
  · refine X0.arraylength hx (cell := cl1) (by rw [e0]; exact Ar1.1) (State.isArrayOf_alike hZ.alike Ar1.2.1) (g := (mkF m 1 #[.val (.ref x0), .val (.ref x1), .unset, .unset, .unset, .unset] [(.ref x0)])) rfl (rest := []) rfl (hb hby d310_1) _ ?_
    rw [len_of S1 M1]
    exact k
  refine Goes.run X0 hx hown hci hcl hby (L := [(2, .aload_n 1, 1)]) (by decide +kernel) rfl (g' := (mkF m 3 #[.val (.ref x0), .val (.ref x1), .unset, .unset, .unset, .unset] [(.ref x1), (.int (1 : Int32))])) rfl ?_
  obtain ⟨cl2, Ar2, q2, S2, M2, Hs2, G2⟩ := id V_x1
  refine Goes.st (B := s₁.setTop (mkF m 4 #[.val (.ref x0), .val (.ref x1), .unset, .unset, .unset, .unset] [(.int (0 : Int32)), (.int (1 : Int32))])) (fun t k => ?_) ?_
  · refine X0.arraylength hx (cell := cl2) (by rw [e0]; exact Ar2.1) (State.isArrayOf_alike hZ.alike Ar2.2.1) (g := (mkF m 3 #[.val (.ref x0), .val (.ref x1), .unset, .unset, .unset, .unset] [(.ref x1), (.int (1 : Int32))])) rfl (rest := [(.int (1 : Int32))]) rfl (hb hby d310_3) _ ?_
    rw [len_of S2 M2]
    exact k
  have hc4_3 : ¬ ((1 : Int32) < (0 : Int32)) := by decide
  refine Goes.st (B := s₁.setTop (mkF m 7 #[.val (.ref x0), .val (.ref x1), .unset, .unset, .unset, .unset] [])) (fun t k => ?_) ?_
  · refine XS.icmpNo X0.here hx rfl (hb hby d310_4) rfl (flt hc4_3).1 ?_
    exact k
  refine Goes.run X0 hx hown hci hcl hby (L := [(7, .aload_n 0, 1), (8, .goto 4, 3), (12, .astore_n 2, 1), (13, .aload_n 0, 1)]) (by decide +kernel) rfl (g' := (mkF m 14 #[.val (.ref x0), .val (.ref x1), .val (.ref x0), .unset, .unset, .unset] [(.ref x0)])) rfl ?_
  obtain ⟨cl4, Ar4, q4, S4, M4, Hs4, G4⟩ := id V_x0
  refine Goes.st (B := s₁.setTop (mkF m 15 #[.val (.ref x0), .val (.ref x1), .val (.ref x0), .unset, .unset, .unset] [(.int (1 : Int32))])) (fun t k => ?_) ?_
  · refine X0.arraylength hx (cell := cl4) (by rw [e0]; exact Ar4.1) (State.isArrayOf_alike hZ.alike Ar4.2.1) (g := (mkF m 14 #[.val (.ref x0), .val (.ref x1), .val (.ref x0), .unset, .unset, .unset] [(.ref x0)])) rfl (rest := []) rfl (hb hby d310_14) _ ?_
    rw [len_of S4 M4]
    exact k
  refine Goes.run X0 hx hown hci hcl hby (L := [(15, .aload_n 1, 1)]) (by decide +kernel) rfl (g' := (mkF m 16 #[.val (.ref x0), .val (.ref x1), .val (.ref x0), .unset, .unset, .unset] [(.ref x1), (.int (1 : Int32))])) rfl ?_
  obtain ⟨cl5, Ar5, q5, S5, M5, Hs5, G5⟩ := id V_x1
  refine Goes.st (B := s₁.setTop (mkF m 17 #[.val (.ref x0), .val (.ref x1), .val (.ref x0), .unset, .unset, .unset] [(.int (0 : Int32)), (.int (1 : Int32))])) (fun t k => ?_) ?_
  · refine X0.arraylength hx (cell := cl5) (by rw [e0]; exact Ar5.1) (State.isArrayOf_alike hZ.alike Ar5.2.1) (g := (mkF m 16 #[.val (.ref x0), .val (.ref x1), .val (.ref x0), .unset, .unset, .unset] [(.ref x1), (.int (1 : Int32))])) rfl (rest := [(.int (1 : Int32))]) rfl (hb hby d310_16) _ ?_
    rw [len_of S5 M5]
    exact k
  have hc17_6 : ¬ ((1 : Int32) < (0 : Int32)) := by decide
  refine Goes.st (B := s₁.setTop (mkF m 20 #[.val (.ref x0), .val (.ref x1), .val (.ref x0), .unset, .unset, .unset] [])) (fun t k => ?_) ?_
  · refine XS.icmpNo X0.here hx rfl (hb hby d310_17) rfl (flt hc17_6).1 ?_
    exact k
  refine Goes.run X0 hx hown hci hcl hby (L := [(20, .aload_n 1, 1), (21, .goto 4, 3), (25, .astore_n 3, 1), (26, .aload_n 2, 1)]) (by decide +kernel) rfl (g' := (mkF m 27 #[.val (.ref x0), .val (.ref x1), .val (.ref x0), .val (.ref x1), .unset, .unset] [(.ref x0)])) rfl ?_
  obtain ⟨T7, h7, X7, e7, E7, A7, B7, st7⟩ := cloneH X0 hx hZ hown (hw _ (List.mem_of_getElem? (i := 9) rfl)) (hw _ (List.mem_of_getElem? (i := 10) rfl)) (hw _ (List.mem_of_getElem? (i := 14) rfl)) (hw _ (List.mem_of_getElem? (i := 12) rfl)) (hw _ (List.mem_of_getElem? (i := 13) rfl)) (hw _ (List.mem_of_getElem? (i := 15) rfl)) e0 V_x0.arh E_x0 (g := (mkF m 27 #[.val (.ref x0), .val (.ref x1), .val (.ref x0), .val (.ref x1), .unset, .unset] [(.ref x0)])) rfl (by rw [hml]; rfl) rfl (hb hby d310_27) (by decide) (W := 0) (cap := 1) (by show 2 * 0 + _ ≤ _; exact Nat.le_of_eq rfl) (by decide) (by decide) (by decide) (by decide)
  obtain ⟨b7, g7⟩ : ∃ z, z = h0.size := ⟨_, rfl⟩
  rw [← g7] at A7 B7 st7
  have ne_x0_b7 : x0 ≠ b7 := Nat.ne_of_lt (Nat.lt_of_lt_of_le E_x0.lt (Nat.le_of_eq g7.symm))
  have ne_x1_b7 : x1 ≠ b7 := Nat.ne_of_lt (Nat.lt_of_lt_of_le E_x1.lt (Nat.le_of_eq g7.symm))
  have g_b7 : n0 ≤ b7 := Nat.le_trans Z0 (Nat.le_of_eq g7.symm)
  have sz_b7 : h0.size ≤ b7 := Nat.le_trans K0.1 (Nat.le_of_eq g7.symm)
  have E_x0 := E_x0.ext E7
  have V_x0 := V_x0.ext E7
  have E_x1 := E_x1.ext E7
  have V_x1 := V_x1.ext E7
  have Zn7 : n0 ≤ h7.size := Nat.le_trans Z0 E7.1
  have K7 := K0.ext E7
  have E_b7 : Exa Z h7 b7 "[J" := B7
  have V_b7 : Arv Z h7 b7 kx .long (1 : Int32) [(.long u0)] (.long (0 : Int64)) := A7
  refine Goes.st (B := T7.setTop (mkF m 30 #[.val (.ref x0), .val (.ref x1), .val (.ref x0), .val (.ref x1), .unset, .unset] [(.ref b7)])) st7 ?_
  obtain ⟨T8, X8, e8, st8⟩ := castY X7 hx hZ hown (hw _ (List.mem_of_getElem? (i := 16) rfl)) e7 (Ins.self E_b7) (g := (mkF m 30 #[.val (.ref x0), .val (.ref x1), .val (.ref x0), .val (.ref x1), .unset, .unset] [(.ref b7)])) rfl rfl (hb hby d310_30)
  refine Goes.st (B := T8.setTop (mkF m 33 #[.val (.ref x0), .val (.ref x1), .val (.ref x0), .val (.ref x1), .unset, .unset] [(.ref b7)])) st8 ?_
  refine Goes.run X8 hx hown hci hcl hby (L := [(33, .astore 4, 2), (35, .iconst 0, 1), (36, .istore 5, 2), (38, .iload 5, 2), (40, .aload_n 3, 1)]) (by decide +kernel) rfl (g' := (mkF m 41 #[.val (.ref x0), .val (.ref x1), .val (.ref x0), .val (.ref x1), .val (.ref b7), .val (.int (0 : Int32))] [(.ref x1), (.int (0 : Int32))])) rfl ?_
  obtain ⟨cl9, Ar9, q9, S9, M9, Hs9, G9⟩ := id V_x1
  refine Goes.st (B := T8.setTop (mkF m 42 #[.val (.ref x0), .val (.ref x1), .val (.ref x0), .val (.ref x1), .val (.ref b7), .val (.int (0 : Int32))] [(.int (0 : Int32)), (.int (0 : Int32))])) (fun t k => ?_) ?_
  · refine X8.arraylength hx (cell := cl9) (by rw [e8]; exact Ar9.1) (State.isArrayOf_alike hZ.alike Ar9.2.1) (g := (mkF m 41 #[.val (.ref x0), .val (.ref x1), .val (.ref x0), .val (.ref x1), .val (.ref b7), .val (.int (0 : Int32))] [(.ref x1), (.int (0 : Int32))])) rfl (rest := [(.int (0 : Int32))]) rfl (hb hby d310_41) _ ?_
    rw [len_of S9 M9]
    exact k
  have hc42_10 : ¬ ((0 : Int32) < (0 : Int32)) := Int32.lt_irrefl
  refine Goes.st (B := T8.setTop (mkF m 63 #[.val (.ref x0), .val (.ref x1), .val (.ref x0), .val (.ref x1), .val (.ref b7), .val (.int (0 : Int32))] [])) (fun t k => ?_) ?_
  · refine XS.icmpYes X8.here hx rfl (pc0 := 42) (pc' := 63) rfl (hb hby d310_42) rfl (flt hc42_10).2.1 (by decide) (by decide) ?_
    exact k
  refine Goes.run X8 hx hown hci hcl hby (L := [(63, .aload 4, 2)]) (by decide +kernel) rfl (g' := (mkF m 65 #[.val (.ref x0), .val (.ref x1), .val (.ref x0), .val (.ref x1), .val (.ref b7), .val (.int (0 : Int32))] [(.ref b7)])) rfl ?_
  refine Goes.retR X8 hx hlk Bd.returns rfl rfl (hb hby d310_65) ?_ (by decide) (by decide)
  show (Q310 Z x0 x1 kx ky u0 h0 n0) _ _ _
  rw [e8]
  exact ⟨b7, kx, rfl, N0, K7, sz_b7, E_b7, V_b7⟩
theorem d311_0 : decode prog_3_method_8_code 0 = .ok (.aload_n 0, 1) := by decide +kernel
theorem d311_1 : decode prog_3_method_8_code 1 = .ok (.arraylength, 1) := by decide +kernel
theorem d311_2 : decode prog_3_method_8_code 2 = .ok (.aload_n 1, 1) := by decide +kernel
theorem d311_3 : decode prog_3_method_8_code 3 = .ok (.arraylength, 1) := by decide +kernel
theorem d311_4 : decode prog_3_method_8_code 4 = .ok (.if_icmp .lt 7, 3) := by decide +kernel
theorem d311_7 : decode prog_3_method_8_code 7 = .ok (.aload_n 0, 1) := by decide +kernel
theorem d311_8 : decode prog_3_method_8_code 8 = .ok (.goto 4, 3) := by decide +kernel
theorem d311_12 : decode prog_3_method_8_code 12 = .ok (.astore_n 2, 1) := by decide +kernel
theorem d311_13 : decode prog_3_method_8_code 13 = .ok (.aload_n 0, 1) := by decide +kernel
theorem d311_14 : decode prog_3_method_8_code 14 = .ok (.arraylength, 1) := by decide +kernel
theorem d311_15 : decode prog_3_method_8_code 15 = .ok (.aload_n 1, 1) := by decide +kernel
theorem d311_16 : decode prog_3_method_8_code 16 = .ok (.arraylength, 1) := by decide +kernel
theorem d311_17 : decode prog_3_method_8_code 17 = .ok (.if_icmp .lt 7, 3) := by decide +kernel
theorem d311_20 : decode prog_3_method_8_code 20 = .ok (.aload_n 1, 1) := by decide +kernel
theorem d311_21 : decode prog_3_method_8_code 21 = .ok (.goto 4, 3) := by decide +kernel
theorem d311_25 : decode prog_3_method_8_code 25 = .ok (.astore_n 3, 1) := by decide +kernel
theorem d311_26 : decode prog_3_method_8_code 26 = .ok (.aload_n 2, 1) := by decide +kernel
theorem d311_27 : decode prog_3_method_8_code 27 = .ok (.invokevirtual 43, 3) := by decide +kernel
theorem d311_30 : decode prog_3_method_8_code 30 = .ok (.checkcast 44, 3) := by decide +kernel
theorem d311_33 : decode prog_3_method_8_code 33 = .ok (.astore 4, 2) := by decide +kernel
theorem d311_35 : decode prog_3_method_8_code 35 = .ok (.iconst 0, 1) := by decide +kernel
theorem d311_36 : decode prog_3_method_8_code 36 = .ok (.istore 5, 2) := by decide +kernel
theorem d311_38 : decode prog_3_method_8_code 38 = .ok (.iload 5, 2) := by decide +kernel
theorem d311_40 : decode prog_3_method_8_code 40 = .ok (.aload_n 3, 1) := by decide +kernel
theorem d311_41 : decode prog_3_method_8_code 41 = .ok (.arraylength, 1) := by decide +kernel
theorem d311_42 : decode prog_3_method_8_code 42 = .ok (.if_icmp .ge 21, 3) := by decide +kernel
theorem d311_45 : decode prog_3_method_8_code 45 = .ok (.aload 4, 2) := by decide +kernel
theorem d311_47 : decode prog_3_method_8_code 47 = .ok (.iload 5, 2) := by decide +kernel
theorem d311_49 : decode prog_3_method_8_code 49 = .ok (.dup2, 1) := by decide +kernel
theorem d311_50 : decode prog_3_method_8_code 50 = .ok (.laload, 1) := by decide +kernel
theorem d311_51 : decode prog_3_method_8_code 51 = .ok (.aload_n 3, 1) := by decide +kernel
theorem d311_52 : decode prog_3_method_8_code 52 = .ok (.iload 5, 2) := by decide +kernel
theorem d311_54 : decode prog_3_method_8_code 54 = .ok (.laload, 1) := by decide +kernel
theorem d311_55 : decode prog_3_method_8_code 55 = .ok (.lor, 1) := by decide +kernel
theorem d311_56 : decode prog_3_method_8_code 56 = .ok (.lastore, 1) := by decide +kernel
theorem d311_57 : decode prog_3_method_8_code 57 = .ok (.iinc 5 1, 3) := by decide +kernel
theorem d311_60 : decode prog_3_method_8_code 60 = .ok (.goto (-22), 3) := by decide +kernel
theorem d311_63 : decode prog_3_method_8_code 63 = .ok (.aload 4, 2) := by decide +kernel
theorem d311_65 : decode prog_3_method_8_code 65 = .ok (.areturn, 1) := by decide +kernel
theorem pn311 : plainName "com/example/marks_across_domains/marksacrossdomains/Bits" = true := by first | (simp [plainName, overriddenIn]; done) | decide +kernel
theorem ef311 (m : MethodId) (x0 : Addr) (x1 : Addr) : entryFrame m #[(.ref x0), (.ref x1)] 6 = (mkF m 0 #[.val (.ref x0), .val (.ref x1), .unset, .unset, .unset, .unset] []) := by first | (simp [entryFrame, mkF, argsToLocals, Value.category]; done) | rfl
def Q311 (Z : State) (x0 : Addr) (x1 : Addr) (kx : ClassId) (ky : ClassId) (u0 : Int64) (t0 : Int64) (h0 : Heap) (n0 : Nat) (v : Option Value) (h : Heap) (L : List Loc) : Prop := ∃ (b : Addr) (k : ClassId), v = some (.ref b) ∧ Fr n0 L ∧ Keep h0 h [] ∧ h0.size ≤ b ∧ Exa Z h b "[J" ∧ Arv Z h b k .long (1 : Int32) [(.long (u0 ||| t0))] (.long (0 : Int64))
set_option maxRecDepth 65536 in
set_option maxHeartbeats 40000000 in
theorem rm311 (l : Launch) (Z : State) (a0 : Array Value) (hw : ∀ d ∈ tables_1, d.before a0 Z = true) (ws : List Jvm.Cond) (x0 : Addr) (x1 : Addr) (kx : ClassId) (ky : ClassId) (u0 : Int64) (t0 : Int64) (h0 : Heap) (n0 : Nat) (Z0 : n0 ≤ h0.size) (E_x0 : Exa Z h0 x0 "[J") (V_x0 : Arv Z h0 x0 kx .long (1 : Int32) [(.long u0)] (.long (0 : Int64))) (E_x1 : Exa Z h0 x1 "[J") (V_x1 : Arv Z h0 x1 ky .long (1 : Int32) [(.long t0)] (.long (0 : Int64))) :
    MetFree l (⟨"com/example/marks_across_domains/marksacrossdomains/Bits", "union", "([J[J)[J"⟩ : MethodName) (head1 (Jvm.Cond.code (⟨"com/example/marks_across_domains/marksacrossdomains/Bits", "union", "([J[J)[J"⟩ : MethodName) prog_3_method_8_code 6 (some (.array .long)) :: ws) ({ frames := 1, cells := 1, slots := 1, locals := 14 } : Room)) (fun a U => a = #[(.ref x0), (.ref x1)] ∧ Z.Warmed39 U.vm ∧ U.heap = h0) (fun _ _ _ _ _ => True) (fun _ U o U' => ∃ v L, o = .returned v ∧ (Q311 Z x0 x1 kx ky u0 t0 h0 n0) v U'.heap L ∧ FrameEnd U o U' L ({ frames := 1, cells := 1, slots := 1, locals := 14 } : Room).cells ({ frames := 1, cells := 1, slots := 1, locals := 14 } : Room).slots) := by
  refine MetFree.of_bodySF (plainFor_of_name pn311) hisR ?_
  intro p e s m args below meth c s₁ Bd hml0 hP hK
  obtain ⟨rfl, hZ, hh⟩ := hP
  have hx := Bd.exec
  have hby := Bd.bytes
  have hml : c.maxLocals = 6 := hml0
  have hlk : meth.locks = false := BodyLoose.notSynchronized Bd
  have hown : s.vm.findClass "com/example/marks_across_domains/marksacrossdomains/Bits" = some m.cls := findClass_of_methodNamed Bd.named
  have hnm := (name_of_methodNamed Bd.named Bd.method).1
  have hci : ∀ i v, (i, v) ∈ ([] : List (Nat × Int32)) → (Jvm.Cond.constant "com/example/marks_across_domains/marksacrossdomains/Bits" i v).before #[(.ref x0), (.ref x1)] s = true := own_ci0
  have hcl : ∀ i v, (i, v) ∈ ([] : List (Nat × Int64)) → (Jvm.Cond.constantLong "com/example/marks_across_domains/marksacrossdomains/Bits" i v).before #[(.ref x0), (.ref x1)] s = true := own_ci0
  have X0 : Stand p l e ({ frames := 1, cells := 1, slots := 1, locals := 14 } : Room) s m #[(.ref x0), (.ref x1)] below meth c s₁ [] 0 0 := Stand.of_body Bd
  have e0 : s₁.heap = h0 := by rw [← hh, Bd.state]; rfl
  have N0 := Fr.nil n0
  show Goes p e below s (Q311 Z x0 x1 kx ky u0 t0 h0 n0) ({ frames := 1, cells := 1, slots := 1, locals := 14 } : Room).cells ({ frames := 1, cells := 1, slots := 1, locals := 14 } : Room).slots (s₁.setTop (entryFrame m #[(.ref x0), (.ref x1)] 6))
  refine Goes.cast (ef311 m x0 x1) ?_
  have K0 : Keep h0 h0 [] := Keep.refl h0 _
  refine Goes.run X0 hx hown hci hcl hby (L := [(0, .aload_n 0, 1)]) (by decide +kernel) rfl (g' := (mkF m 1 #[.val (.ref x0), .val (.ref x1), .unset, .unset, .unset, .unset] [(.ref x0)])) rfl ?_
  obtain ⟨cl1, Ar1, q1, S1, M1, Hs1, G1⟩ := id V_x0
  refine Goes.st (B := s₁.setTop (mkF m 2 #[.val (.ref x0), .val (.ref x1), .unset, .unset, .unset, .unset] [(.int (1 : Int32))])) (fun t k => ?_) ?_
  · refine X0.arraylength hx (cell := cl1) (by rw [e0]; exact Ar1.1) (State.isArrayOf_alike hZ.alike Ar1.2.1) (g := (mkF m 1 #[.val (.ref x0), .val (.ref x1), .unset, .unset, .unset, .unset] [(.ref x0)])) rfl (rest := []) rfl (hb hby d311_1) _ ?_
    rw [len_of S1 M1]
    exact k
  refine Goes.run X0 hx hown hci hcl hby (L := [(2, .aload_n 1, 1)]) (by decide +kernel) rfl (g' := (mkF m 3 #[.val (.ref x0), .val (.ref x1), .unset, .unset, .unset, .unset] [(.ref x1), (.int (1 : Int32))])) rfl ?_
  obtain ⟨cl2, Ar2, q2, S2, M2, Hs2, G2⟩ := id V_x1
  refine Goes.st (B := s₁.setTop (mkF m 4 #[.val (.ref x0), .val (.ref x1), .unset, .unset, .unset, .unset] [(.int (1 : Int32)), (.int (1 : Int32))])) (fun t k => ?_) ?_
  · refine X0.arraylength hx (cell := cl2) (by rw [e0]; exact Ar2.1) (State.isArrayOf_alike hZ.alike Ar2.2.1) (g := (mkF m 3 #[.val (.ref x0), .val (.ref x1), .unset, .unset, .unset, .unset] [(.ref x1), (.int (1 : Int32))])) rfl (rest := [(.int (1 : Int32))]) rfl (hb hby d311_3) _ ?_
    rw [len_of S2 M2]
    exact k
  have hc4_3 : ¬ ((1 : Int32) < (1 : Int32)) := Int32.lt_irrefl
  refine Goes.st (B := s₁.setTop (mkF m 7 #[.val (.ref x0), .val (.ref x1), .unset, .unset, .unset, .unset] [])) (fun t k => ?_) ?_
  · refine XS.icmpNo X0.here hx rfl (hb hby d311_4) rfl (flt hc4_3).1 ?_
    exact k
  refine Goes.run X0 hx hown hci hcl hby (L := [(7, .aload_n 0, 1), (8, .goto 4, 3), (12, .astore_n 2, 1), (13, .aload_n 0, 1)]) (by decide +kernel) rfl (g' := (mkF m 14 #[.val (.ref x0), .val (.ref x1), .val (.ref x0), .unset, .unset, .unset] [(.ref x0)])) rfl ?_
  obtain ⟨cl4, Ar4, q4, S4, M4, Hs4, G4⟩ := id V_x0
  refine Goes.st (B := s₁.setTop (mkF m 15 #[.val (.ref x0), .val (.ref x1), .val (.ref x0), .unset, .unset, .unset] [(.int (1 : Int32))])) (fun t k => ?_) ?_
  · refine X0.arraylength hx (cell := cl4) (by rw [e0]; exact Ar4.1) (State.isArrayOf_alike hZ.alike Ar4.2.1) (g := (mkF m 14 #[.val (.ref x0), .val (.ref x1), .val (.ref x0), .unset, .unset, .unset] [(.ref x0)])) rfl (rest := []) rfl (hb hby d311_14) _ ?_
    rw [len_of S4 M4]
    exact k
  refine Goes.run X0 hx hown hci hcl hby (L := [(15, .aload_n 1, 1)]) (by decide +kernel) rfl (g' := (mkF m 16 #[.val (.ref x0), .val (.ref x1), .val (.ref x0), .unset, .unset, .unset] [(.ref x1), (.int (1 : Int32))])) rfl ?_
  obtain ⟨cl5, Ar5, q5, S5, M5, Hs5, G5⟩ := id V_x1
  refine Goes.st (B := s₁.setTop (mkF m 17 #[.val (.ref x0), .val (.ref x1), .val (.ref x0), .unset, .unset, .unset] [(.int (1 : Int32)), (.int (1 : Int32))])) (fun t k => ?_) ?_
  · refine X0.arraylength hx (cell := cl5) (by rw [e0]; exact Ar5.1) (State.isArrayOf_alike hZ.alike Ar5.2.1) (g := (mkF m 16 #[.val (.ref x0), .val (.ref x1), .val (.ref x0), .unset, .unset, .unset] [(.ref x1), (.int (1 : Int32))])) rfl (rest := [(.int (1 : Int32))]) rfl (hb hby d311_16) _ ?_
    rw [len_of S5 M5]
    exact k
  have hc17_6 : ¬ ((1 : Int32) < (1 : Int32)) := Int32.lt_irrefl
  refine Goes.st (B := s₁.setTop (mkF m 20 #[.val (.ref x0), .val (.ref x1), .val (.ref x0), .unset, .unset, .unset] [])) (fun t k => ?_) ?_
  · refine XS.icmpNo X0.here hx rfl (hb hby d311_17) rfl (flt hc17_6).1 ?_
    exact k
  refine Goes.run X0 hx hown hci hcl hby (L := [(20, .aload_n 1, 1), (21, .goto 4, 3), (25, .astore_n 3, 1), (26, .aload_n 2, 1)]) (by decide +kernel) rfl (g' := (mkF m 27 #[.val (.ref x0), .val (.ref x1), .val (.ref x0), .val (.ref x1), .unset, .unset] [(.ref x0)])) rfl ?_
  obtain ⟨T7, h7, X7, e7, E7, A7, B7, st7⟩ := cloneH X0 hx hZ hown (hw _ (List.mem_of_getElem? (i := 9) rfl)) (hw _ (List.mem_of_getElem? (i := 10) rfl)) (hw _ (List.mem_of_getElem? (i := 14) rfl)) (hw _ (List.mem_of_getElem? (i := 12) rfl)) (hw _ (List.mem_of_getElem? (i := 13) rfl)) (hw _ (List.mem_of_getElem? (i := 15) rfl)) e0 V_x0.arh E_x0 (g := (mkF m 27 #[.val (.ref x0), .val (.ref x1), .val (.ref x0), .val (.ref x1), .unset, .unset] [(.ref x0)])) rfl (by rw [hml]; rfl) rfl (hb hby d311_27) (by decide) (W := 0) (cap := 1) (by show 2 * 0 + _ ≤ _; exact Nat.le_of_eq rfl) (by decide) (by decide) (by decide) (by decide)
  obtain ⟨b7, g7⟩ : ∃ z, z = h0.size := ⟨_, rfl⟩
  rw [← g7] at A7 B7 st7
  have ne_x0_b7 : x0 ≠ b7 := Nat.ne_of_lt (Nat.lt_of_lt_of_le E_x0.lt (Nat.le_of_eq g7.symm))
  have ne_x1_b7 : x1 ≠ b7 := Nat.ne_of_lt (Nat.lt_of_lt_of_le E_x1.lt (Nat.le_of_eq g7.symm))
  have g_b7 : n0 ≤ b7 := Nat.le_trans Z0 (Nat.le_of_eq g7.symm)
  have sz_b7 : h0.size ≤ b7 := Nat.le_trans K0.1 (Nat.le_of_eq g7.symm)
  have E_x0 := E_x0.ext E7
  have V_x0 := V_x0.ext E7
  have E_x1 := E_x1.ext E7
  have V_x1 := V_x1.ext E7
  have Zn7 : n0 ≤ h7.size := Nat.le_trans Z0 E7.1
  have K7 := K0.ext E7
  have E_b7 : Exa Z h7 b7 "[J" := B7
  have V_b7 : Arv Z h7 b7 kx .long (1 : Int32) [(.long u0)] (.long (0 : Int64)) := A7
  refine Goes.st (B := T7.setTop (mkF m 30 #[.val (.ref x0), .val (.ref x1), .val (.ref x0), .val (.ref x1), .unset, .unset] [(.ref b7)])) st7 ?_
  obtain ⟨T8, X8, e8, st8⟩ := castY X7 hx hZ hown (hw _ (List.mem_of_getElem? (i := 16) rfl)) e7 (Ins.self E_b7) (g := (mkF m 30 #[.val (.ref x0), .val (.ref x1), .val (.ref x0), .val (.ref x1), .unset, .unset] [(.ref b7)])) rfl rfl (hb hby d311_30)
  refine Goes.st (B := T8.setTop (mkF m 33 #[.val (.ref x0), .val (.ref x1), .val (.ref x0), .val (.ref x1), .unset, .unset] [(.ref b7)])) st8 ?_
  refine Goes.run X8 hx hown hci hcl hby (L := [(33, .astore 4, 2), (35, .iconst 0, 1), (36, .istore 5, 2), (38, .iload 5, 2), (40, .aload_n 3, 1)]) (by decide +kernel) rfl (g' := (mkF m 41 #[.val (.ref x0), .val (.ref x1), .val (.ref x0), .val (.ref x1), .val (.ref b7), .val (.int (0 : Int32))] [(.ref x1), (.int (0 : Int32))])) rfl ?_
  obtain ⟨cl9, Ar9, q9, S9, M9, Hs9, G9⟩ := id V_x1
  refine Goes.st (B := T8.setTop (mkF m 42 #[.val (.ref x0), .val (.ref x1), .val (.ref x0), .val (.ref x1), .val (.ref b7), .val (.int (0 : Int32))] [(.int (1 : Int32)), (.int (0 : Int32))])) (fun t k => ?_) ?_
  · refine X8.arraylength hx (cell := cl9) (by rw [e8]; exact Ar9.1) (State.isArrayOf_alike hZ.alike Ar9.2.1) (g := (mkF m 41 #[.val (.ref x0), .val (.ref x1), .val (.ref x0), .val (.ref x1), .val (.ref b7), .val (.int (0 : Int32))] [(.ref x1), (.int (0 : Int32))])) rfl (rest := [(.int (0 : Int32))]) rfl (hb hby d311_41) _ ?_
    rw [len_of S9 M9]
    exact k
  have hc42_10 : (0 : Int32) < (1 : Int32) := by decide
  refine Goes.st (B := T8.setTop (mkF m 45 #[.val (.ref x0), .val (.ref x1), .val (.ref x0), .val (.ref x1), .val (.ref b7), .val (.int (0 : Int32))] [])) (fun t k => ?_) ?_
  · refine XS.icmpNo X8.here hx rfl (hb hby d311_42) rfl (tlt hc42_10).2.1 ?_
    exact k
  refine Goes.run X8 hx hown hci hcl hby (L := [(45, .aload 4, 2), (47, .iload 5, 2)]) (by decide +kernel) rfl (g' := (mkF m 49 #[.val (.ref x0), .val (.ref x1), .val (.ref x0), .val (.ref x1), .val (.ref b7), .val (.int (0 : Int32))] [(.int (0 : Int32)), (.ref b7)])) rfl ?_
  refine Goes.st (B := T8.setTop (mkF m 50 #[.val (.ref x0), .val (.ref x1), .val (.ref x0), .val (.ref x1), .val (.ref b7), .val (.int (0 : Int32))] [(.int (0 : Int32)), (.ref b7), (.int (0 : Int32)), (.ref b7)])) (fun t k => ?_) ?_
  · refine Jvm.Free.XT.dup2 X8.here hx rfl (hb hby d311_49) rfl rfl rfl ?_
    exact k
  obtain ⟨cl11, Ar11, q11, S11, M11, Hs11, G11⟩ := id V_b7
  have hin11 : ¬ ((0 : Int32) < 0 ∨ cl11.slots.size ≤ ((0 : Int32)).toNatClampNeg) := inb_of S11 ⟨(by decide), (by decide)⟩
  have hat11 : cl11.slots[((0 : Int32)).toNatClampNeg]? = some (.long u0) := Hs11.at hin11 rfl
  refine Goes.st (B := T8.setTop (mkF m 51 #[.val (.ref x0), .val (.ref x1), .val (.ref x0), .val (.ref x1), .val (.ref b7), .val (.int (0 : Int32))] [(.long u0), (.int (0 : Int32)), (.ref b7)])) (X8.laload hx (j := (0 : Int32)) (v := (.long u0)) (by rw [e8]; exact Ar11.1) (State.isArrayOf_alike hZ.alike Ar11.2.1) Ar11.2.2 hin11 hat11 (g := (mkF m 50 #[.val (.ref x0), .val (.ref x1), .val (.ref x0), .val (.ref x1), .val (.ref b7), .val (.int (0 : Int32))] [(.int (0 : Int32)), (.ref b7), (.int (0 : Int32)), (.ref b7)])) rfl rfl (hb hby d311_50)) ?_
  refine Goes.run X8 hx hown hci hcl hby (L := [(51, .aload_n 3, 1), (52, .iload 5, 2)]) (by decide +kernel) rfl (g' := (mkF m 54 #[.val (.ref x0), .val (.ref x1), .val (.ref x0), .val (.ref x1), .val (.ref b7), .val (.int (0 : Int32))] [(.int (0 : Int32)), (.ref x1), (.long u0), (.int (0 : Int32)), (.ref b7)])) rfl ?_
  obtain ⟨cl12, Ar12, q12, S12, M12, Hs12, G12⟩ := id V_x1
  have hin12 : ¬ ((0 : Int32) < 0 ∨ cl12.slots.size ≤ ((0 : Int32)).toNatClampNeg) := inb_of S12 ⟨(by decide), (by decide)⟩
  have hat12 : cl12.slots[((0 : Int32)).toNatClampNeg]? = some (.long t0) := Hs12.at hin12 rfl
  refine Goes.st (B := T8.setTop (mkF m 55 #[.val (.ref x0), .val (.ref x1), .val (.ref x0), .val (.ref x1), .val (.ref b7), .val (.int (0 : Int32))] [(.long t0), (.long u0), (.int (0 : Int32)), (.ref b7)])) (X8.laload hx (j := (0 : Int32)) (v := (.long t0)) (by rw [e8]; exact Ar12.1) (State.isArrayOf_alike hZ.alike Ar12.2.1) Ar12.2.2 hin12 hat12 (g := (mkF m 54 #[.val (.ref x0), .val (.ref x1), .val (.ref x0), .val (.ref x1), .val (.ref b7), .val (.int (0 : Int32))] [(.int (0 : Int32)), (.ref x1), (.long u0), (.int (0 : Int32)), (.ref b7)])) rfl rfl (hb hby d311_54)) ?_
  refine Goes.run X8 hx hown hci hcl hby (L := [(55, .lor, 1)]) (by decide +kernel) rfl (g' := (mkF m 56 #[.val (.ref x0), .val (.ref x1), .val (.ref x0), .val (.ref x1), .val (.ref b7), .val (.int (0 : Int32))] [(.long (u0 ||| t0)), (.int (0 : Int32)), (.ref b7)])) rfl ?_
  obtain ⟨cl13, Ar13, q13, S13, M13, Hs13, G13⟩ := id V_b7
  have hin13 : ¬ ((0 : Int32) < 0 ∨ cl13.slots.size ≤ ((0 : Int32)).toNatClampNeg) := inb_of S13 ⟨(by decide), (by decide)⟩
  obtain ⟨T13, h13, X13, e13, W13, st13⟩ := stJ X8 hx hZ e8 Ar13 (j := (0 : Int32)) hin13 (g := (mkF m 56 #[.val (.ref x0), .val (.ref x1), .val (.ref x0), .val (.ref x1), .val (.ref b7), .val (.int (0 : Int32))] [(.long (u0 ||| t0)), (.int (0 : Int32)), (.ref b7)])) rfl rfl (hb hby d311_56)
  have E_x0 := E_x0.wr W13
  have V_x0 := V_x0.other W13 ne_x0_b7
  have E_x1 := E_x1.wr W13
  have V_x1 := V_x1.other W13 ne_x1_b7
  have E_b7 := E_b7.wr W13
  have Zn13 : n0 ≤ h13.size := Nat.le_trans Zn7 (Keep.of_wr W13).1
  have K13 := K7.wr W13 (Or.inr sz_b7)
  have N13 := Fr.snoc X13 N0 g_b7
  have V_b7 : Arv Z h13 b7 kx .long (1 : Int32) [(.long (u0 ||| t0))] (.long (0 : Int64)) := Arv.set Ar13 q13 S13 M13 Hs13 G13 rfl W13 0 rfl (Nat.le_of_ble_eq_true rfl)
  refine Goes.st (B := T13.setTop (mkF m 57 #[.val (.ref x0), .val (.ref x1), .val (.ref x0), .val (.ref x1), .val (.ref b7), .val (.int (0 : Int32))] [])) st13 ?_
  refine Goes.run X13 hx hown hci hcl hby (L := [(57, .iinc 5 1, 3), (60, .goto (-22), 3), (38, .iload 5, 2), (40, .aload_n 3, 1)]) (by decide +kernel) rfl (g' := (mkF m 41 #[.val (.ref x0), .val (.ref x1), .val (.ref x0), .val (.ref x1), .val (.ref b7), .val (.int (1 : Int32))] [(.ref x1), (.int (1 : Int32))])) rfl ?_
  obtain ⟨cl14, Ar14, q14, S14, M14, Hs14, G14⟩ := id V_x1
  refine Goes.st (B := T13.setTop (mkF m 42 #[.val (.ref x0), .val (.ref x1), .val (.ref x0), .val (.ref x1), .val (.ref b7), .val (.int (1 : Int32))] [(.int (1 : Int32)), (.int (1 : Int32))])) (fun t k => ?_) ?_
  · refine X13.arraylength hx (cell := cl14) (by rw [e13]; exact Ar14.1) (State.isArrayOf_alike hZ.alike Ar14.2.1) (g := (mkF m 41 #[.val (.ref x0), .val (.ref x1), .val (.ref x0), .val (.ref x1), .val (.ref b7), .val (.int (1 : Int32))] [(.ref x1), (.int (1 : Int32))])) rfl (rest := [(.int (1 : Int32))]) rfl (hb hby d311_41) _ ?_
    rw [len_of S14 M14]
    exact k
  have hc42_15 : ¬ ((1 : Int32) < (1 : Int32)) := Int32.lt_irrefl
  refine Goes.st (B := T13.setTop (mkF m 63 #[.val (.ref x0), .val (.ref x1), .val (.ref x0), .val (.ref x1), .val (.ref b7), .val (.int (1 : Int32))] [])) (fun t k => ?_) ?_
  · refine XS.icmpYes X13.here hx rfl (pc0 := 42) (pc' := 63) rfl (hb hby d311_42) rfl (flt hc42_15).2.1 (by decide) (by decide) ?_
    exact k
  refine Goes.run X13 hx hown hci hcl hby (L := [(63, .aload 4, 2)]) (by decide +kernel) rfl (g' := (mkF m 65 #[.val (.ref x0), .val (.ref x1), .val (.ref x0), .val (.ref x1), .val (.ref b7), .val (.int (1 : Int32))] [(.ref b7)])) rfl ?_
  refine Goes.retR X13 hx hlk Bd.returns rfl rfl (hb hby d311_65) ?_ (by decide) (by decide)
  show (Q311 Z x0 x1 kx ky u0 t0 h0 n0) _ _ _
  rw [e13]
  exact ⟨b7, kx, rfl, N13, K13, sz_b7, E_b7, V_b7⟩
theorem d312_0 : decode prog_3_method_8_code 0 = .ok (.aload_n 0, 1) := by decide +kernel
theorem d312_1 : decode prog_3_method_8_code 1 = .ok (.arraylength, 1) := by decide +kernel
theorem d312_2 : decode prog_3_method_8_code 2 = .ok (.aload_n 1, 1) := by decide +kernel
theorem d312_3 : decode prog_3_method_8_code 3 = .ok (.arraylength, 1) := by decide +kernel
theorem d312_4 : decode prog_3_method_8_code 4 = .ok (.if_icmp .lt 7, 3) := by decide +kernel
theorem d312_11 : decode prog_3_method_8_code 11 = .ok (.aload_n 1, 1) := by decide +kernel
theorem d312_12 : decode prog_3_method_8_code 12 = .ok (.astore_n 2, 1) := by decide +kernel
theorem d312_13 : decode prog_3_method_8_code 13 = .ok (.aload_n 0, 1) := by decide +kernel
theorem d312_14 : decode prog_3_method_8_code 14 = .ok (.arraylength, 1) := by decide +kernel
theorem d312_15 : decode prog_3_method_8_code 15 = .ok (.aload_n 1, 1) := by decide +kernel
theorem d312_16 : decode prog_3_method_8_code 16 = .ok (.arraylength, 1) := by decide +kernel
theorem d312_17 : decode prog_3_method_8_code 17 = .ok (.if_icmp .lt 7, 3) := by decide +kernel
theorem d312_24 : decode prog_3_method_8_code 24 = .ok (.aload_n 0, 1) := by decide +kernel
theorem d312_25 : decode prog_3_method_8_code 25 = .ok (.astore_n 3, 1) := by decide +kernel
theorem d312_26 : decode prog_3_method_8_code 26 = .ok (.aload_n 2, 1) := by decide +kernel
theorem d312_27 : decode prog_3_method_8_code 27 = .ok (.invokevirtual 43, 3) := by decide +kernel
theorem d312_30 : decode prog_3_method_8_code 30 = .ok (.checkcast 44, 3) := by decide +kernel
theorem d312_33 : decode prog_3_method_8_code 33 = .ok (.astore 4, 2) := by decide +kernel
theorem d312_35 : decode prog_3_method_8_code 35 = .ok (.iconst 0, 1) := by decide +kernel
theorem d312_36 : decode prog_3_method_8_code 36 = .ok (.istore 5, 2) := by decide +kernel
theorem d312_38 : decode prog_3_method_8_code 38 = .ok (.iload 5, 2) := by decide +kernel
theorem d312_40 : decode prog_3_method_8_code 40 = .ok (.aload_n 3, 1) := by decide +kernel
theorem d312_41 : decode prog_3_method_8_code 41 = .ok (.arraylength, 1) := by decide +kernel
theorem d312_42 : decode prog_3_method_8_code 42 = .ok (.if_icmp .ge 21, 3) := by decide +kernel
theorem d312_45 : decode prog_3_method_8_code 45 = .ok (.aload 4, 2) := by decide +kernel
theorem d312_47 : decode prog_3_method_8_code 47 = .ok (.iload 5, 2) := by decide +kernel
theorem d312_49 : decode prog_3_method_8_code 49 = .ok (.dup2, 1) := by decide +kernel
theorem d312_50 : decode prog_3_method_8_code 50 = .ok (.laload, 1) := by decide +kernel
theorem d312_51 : decode prog_3_method_8_code 51 = .ok (.aload_n 3, 1) := by decide +kernel
theorem d312_52 : decode prog_3_method_8_code 52 = .ok (.iload 5, 2) := by decide +kernel
theorem d312_54 : decode prog_3_method_8_code 54 = .ok (.laload, 1) := by decide +kernel
theorem d312_55 : decode prog_3_method_8_code 55 = .ok (.lor, 1) := by decide +kernel
theorem d312_56 : decode prog_3_method_8_code 56 = .ok (.lastore, 1) := by decide +kernel
theorem d312_57 : decode prog_3_method_8_code 57 = .ok (.iinc 5 1, 3) := by decide +kernel
theorem d312_60 : decode prog_3_method_8_code 60 = .ok (.goto (-22), 3) := by decide +kernel
theorem d312_63 : decode prog_3_method_8_code 63 = .ok (.aload 4, 2) := by decide +kernel
theorem d312_65 : decode prog_3_method_8_code 65 = .ok (.areturn, 1) := by decide +kernel
theorem pn312 : plainName "com/example/marks_across_domains/marksacrossdomains/Bits" = true := by first | (simp [plainName, overriddenIn]; done) | decide +kernel
theorem ef312 (m : MethodId) (x0 : Addr) (x1 : Addr) : entryFrame m #[(.ref x0), (.ref x1)] 6 = (mkF m 0 #[.val (.ref x0), .val (.ref x1), .unset, .unset, .unset, .unset] []) := by first | (simp [entryFrame, mkF, argsToLocals, Value.category]; done) | rfl
def Q312 (Z : State) (x0 : Addr) (x1 : Addr) (kx : ClassId) (ky : ClassId) (u0 : Int64) (t0 : Int64) (t1 : Int64) (h0 : Heap) (n0 : Nat) (v : Option Value) (h : Heap) (L : List Loc) : Prop := ∃ (b : Addr) (k : ClassId), v = some (.ref b) ∧ Fr n0 L ∧ Keep h0 h [] ∧ h0.size ≤ b ∧ Exa Z h b "[J" ∧ Arv Z h b k .long (2 : Int32) [(.long (t0 ||| u0)), (.long t1)] (.long (0 : Int64))
set_option maxRecDepth 65536 in
set_option maxHeartbeats 40000000 in
theorem rm312 (l : Launch) (Z : State) (a0 : Array Value) (hw : ∀ d ∈ tables_1, d.before a0 Z = true) (ws : List Jvm.Cond) (x0 : Addr) (x1 : Addr) (kx : ClassId) (ky : ClassId) (u0 : Int64) (t0 : Int64) (t1 : Int64) (h0 : Heap) (n0 : Nat) (Z0 : n0 ≤ h0.size) (E_x0 : Exa Z h0 x0 "[J") (V_x0 : Arv Z h0 x0 kx .long (1 : Int32) [(.long u0)] (.long (0 : Int64))) (E_x1 : Exa Z h0 x1 "[J") (V_x1 : Arv Z h0 x1 ky .long (2 : Int32) [(.long t0), (.long t1)] (.long (0 : Int64))) :
    MetFree l (⟨"com/example/marks_across_domains/marksacrossdomains/Bits", "union", "([J[J)[J"⟩ : MethodName) (head1 (Jvm.Cond.code (⟨"com/example/marks_across_domains/marksacrossdomains/Bits", "union", "([J[J)[J"⟩ : MethodName) prog_3_method_8_code 6 (some (.array .long)) :: ws) ({ frames := 1, cells := 1, slots := 2, locals := 14 } : Room)) (fun a U => a = #[(.ref x0), (.ref x1)] ∧ Z.Warmed39 U.vm ∧ U.heap = h0) (fun _ _ _ _ _ => True) (fun _ U o U' => ∃ v L, o = .returned v ∧ (Q312 Z x0 x1 kx ky u0 t0 t1 h0 n0) v U'.heap L ∧ FrameEnd U o U' L ({ frames := 1, cells := 1, slots := 2, locals := 14 } : Room).cells ({ frames := 1, cells := 1, slots := 2, locals := 14 } : Room).slots) := by
  refine MetFree.of_bodySF (plainFor_of_name pn312) hisR ?_
  intro p e s m args below meth c s₁ Bd hml0 hP hK
  obtain ⟨rfl, hZ, hh⟩ := hP
  have hx := Bd.exec
  have hby := Bd.bytes
  have hml : c.maxLocals = 6 := hml0
  have hlk : meth.locks = false := BodyLoose.notSynchronized Bd
  have hown : s.vm.findClass "com/example/marks_across_domains/marksacrossdomains/Bits" = some m.cls := findClass_of_methodNamed Bd.named
  have hnm := (name_of_methodNamed Bd.named Bd.method).1
  have hci : ∀ i v, (i, v) ∈ ([] : List (Nat × Int32)) → (Jvm.Cond.constant "com/example/marks_across_domains/marksacrossdomains/Bits" i v).before #[(.ref x0), (.ref x1)] s = true := own_ci0
  have hcl : ∀ i v, (i, v) ∈ ([] : List (Nat × Int64)) → (Jvm.Cond.constantLong "com/example/marks_across_domains/marksacrossdomains/Bits" i v).before #[(.ref x0), (.ref x1)] s = true := own_ci0
  have X0 : Stand p l e ({ frames := 1, cells := 1, slots := 2, locals := 14 } : Room) s m #[(.ref x0), (.ref x1)] below meth c s₁ [] 0 0 := Stand.of_body Bd
  have e0 : s₁.heap = h0 := by rw [← hh, Bd.state]; rfl
  have N0 := Fr.nil n0
  show Goes p e below s (Q312 Z x0 x1 kx ky u0 t0 t1 h0 n0) ({ frames := 1, cells := 1, slots := 2, locals := 14 } : Room).cells ({ frames := 1, cells := 1, slots := 2, locals := 14 } : Room).slots (s₁.setTop (entryFrame m #[(.ref x0), (.ref x1)] 6))
  refine Goes.cast (ef312 m x0 x1) ?_
  have K0 : Keep h0 h0 [] := Keep.refl h0 _
  refine Goes.run X0 hx hown hci hcl hby (L := [(0, .aload_n 0, 1)]) (by decide +kernel) rfl (g' := (mkF m 1 #[.val (.ref x0), .val (.ref x1), .unset, .unset, .unset, .unset] [(.ref x0)])) rfl ?_
  obtain ⟨cl1, Ar1, q1, S1, M1, Hs1, G1⟩ := id V_x0
  refine Goes.st (B := s₁.setTop (mkF m 2 #[.val (.ref x0), .val (.ref x1), .unset, .unset, .unset, .unset] [(.int (1 : Int32))])) (fun t k => ?_) ?_
  · refine X0.arraylength hx (cell := cl1) (by rw [e0]; exact Ar1.1) (State.isArrayOf_alike hZ.alike Ar1.2.1) (g := (mkF m 1 #[.val (.ref x0), .val (.ref x1), .unset, .unset, .unset, .unset] [(.ref x0)])) rfl (rest := []) rfl (hb hby d312_1) _ ?_
    rw [len_of S1 M1]
    exact k
  refine Goes.run X0 hx hown hci hcl hby (L := [(2, .aload_n 1, 1)]) (by decide +kernel) rfl (g' := (mkF m 3 #[.val (.ref x0), .val (.ref x1), .unset, .unset, .unset, .unset] [(.ref x1), (.int (1 : Int32))])) rfl ?_
  obtain ⟨cl2, Ar2, q2, S2, M2, Hs2, G2⟩ := id V_x1
  refine Goes.st (B := s₁.setTop (mkF m 4 #[.val (.ref x0), .val (.ref x1), .unset, .unset, .unset, .unset] [(.int (2 : Int32)), (.int (1 : Int32))])) (fun t k => ?_) ?_
  · refine X0.arraylength hx (cell := cl2) (by rw [e0]; exact Ar2.1) (State.isArrayOf_alike hZ.alike Ar2.2.1) (g := (mkF m 3 #[.val (.ref x0), .val (.ref x1), .unset, .unset, .unset, .unset] [(.ref x1), (.int (1 : Int32))])) rfl (rest := [(.int (1 : Int32))]) rfl (hb hby d312_3) _ ?_
    rw [len_of S2 M2]
    exact k
  have hc4_3 : (1 : Int32) < (2 : Int32) := by decide
  refine Goes.st (B := s₁.setTop (mkF m 11 #[.val (.ref x0), .val (.ref x1), .unset, .unset, .unset, .unset] [])) (fun t k => ?_) ?_
  · refine XS.icmpYes X0.here hx rfl (pc0 := 4) (pc' := 11) rfl (hb hby d312_4) rfl (tlt hc4_3).1 (by decide) (by decide) ?_
    exact k
  refine Goes.run X0 hx hown hci hcl hby (L := [(11, .aload_n 1, 1), (12, .astore_n 2, 1), (13, .aload_n 0, 1)]) (by decide +kernel) rfl (g' := (mkF m 14 #[.val (.ref x0), .val (.ref x1), .val (.ref x1), .unset, .unset, .unset] [(.ref x0)])) rfl ?_
  obtain ⟨cl4, Ar4, q4, S4, M4, Hs4, G4⟩ := id V_x0
  refine Goes.st (B := s₁.setTop (mkF m 15 #[.val (.ref x0), .val (.ref x1), .val (.ref x1), .unset, .unset, .unset] [(.int (1 : Int32))])) (fun t k => ?_) ?_
  · refine X0.arraylength hx (cell := cl4) (by rw [e0]; exact Ar4.1) (State.isArrayOf_alike hZ.alike Ar4.2.1) (g := (mkF m 14 #[.val (.ref x0), .val (.ref x1), .val (.ref x1), .unset, .unset, .unset] [(.ref x0)])) rfl (rest := []) rfl (hb hby d312_14) _ ?_
    rw [len_of S4 M4]
    exact k
  refine Goes.run X0 hx hown hci hcl hby (L := [(15, .aload_n 1, 1)]) (by decide +kernel) rfl (g' := (mkF m 16 #[.val (.ref x0), .val (.ref x1), .val (.ref x1), .unset, .unset, .unset] [(.ref x1), (.int (1 : Int32))])) rfl ?_
  obtain ⟨cl5, Ar5, q5, S5, M5, Hs5, G5⟩ := id V_x1
  refine Goes.st (B := s₁.setTop (mkF m 17 #[.val (.ref x0), .val (.ref x1), .val (.ref x1), .unset, .unset, .unset] [(.int (2 : Int32)), (.int (1 : Int32))])) (fun t k => ?_) ?_
  · refine X0.arraylength hx (cell := cl5) (by rw [e0]; exact Ar5.1) (State.isArrayOf_alike hZ.alike Ar5.2.1) (g := (mkF m 16 #[.val (.ref x0), .val (.ref x1), .val (.ref x1), .unset, .unset, .unset] [(.ref x1), (.int (1 : Int32))])) rfl (rest := [(.int (1 : Int32))]) rfl (hb hby d312_16) _ ?_
    rw [len_of S5 M5]
    exact k
  have hc17_6 : (1 : Int32) < (2 : Int32) := by decide
  refine Goes.st (B := s₁.setTop (mkF m 24 #[.val (.ref x0), .val (.ref x1), .val (.ref x1), .unset, .unset, .unset] [])) (fun t k => ?_) ?_
  · refine XS.icmpYes X0.here hx rfl (pc0 := 17) (pc' := 24) rfl (hb hby d312_17) rfl (tlt hc17_6).1 (by decide) (by decide) ?_
    exact k
  refine Goes.run X0 hx hown hci hcl hby (L := [(24, .aload_n 0, 1), (25, .astore_n 3, 1), (26, .aload_n 2, 1)]) (by decide +kernel) rfl (g' := (mkF m 27 #[.val (.ref x0), .val (.ref x1), .val (.ref x1), .val (.ref x0), .unset, .unset] [(.ref x1)])) rfl ?_
  obtain ⟨T7, h7, X7, e7, E7, A7, B7, st7⟩ := cloneH X0 hx hZ hown (hw _ (List.mem_of_getElem? (i := 9) rfl)) (hw _ (List.mem_of_getElem? (i := 10) rfl)) (hw _ (List.mem_of_getElem? (i := 14) rfl)) (hw _ (List.mem_of_getElem? (i := 12) rfl)) (hw _ (List.mem_of_getElem? (i := 13) rfl)) (hw _ (List.mem_of_getElem? (i := 15) rfl)) e0 V_x1.arh E_x1 (g := (mkF m 27 #[.val (.ref x0), .val (.ref x1), .val (.ref x1), .val (.ref x0), .unset, .unset] [(.ref x1)])) rfl (by rw [hml]; rfl) rfl (hb hby d312_27) (by decide) (W := 0) (cap := 2) (by show 2 * 0 + _ ≤ _; exact Nat.le_of_eq rfl) (by decide) (by decide) (by decide) (by decide)
  obtain ⟨b7, g7⟩ : ∃ z, z = h0.size := ⟨_, rfl⟩
  rw [← g7] at A7 B7 st7
  have ne_x0_b7 : x0 ≠ b7 := Nat.ne_of_lt (Nat.lt_of_lt_of_le E_x0.lt (Nat.le_of_eq g7.symm))
  have ne_x1_b7 : x1 ≠ b7 := Nat.ne_of_lt (Nat.lt_of_lt_of_le E_x1.lt (Nat.le_of_eq g7.symm))
  have g_b7 : n0 ≤ b7 := Nat.le_trans Z0 (Nat.le_of_eq g7.symm)
  have sz_b7 : h0.size ≤ b7 := Nat.le_trans K0.1 (Nat.le_of_eq g7.symm)
  have E_x0 := E_x0.ext E7
  have V_x0 := V_x0.ext E7
  have E_x1 := E_x1.ext E7
  have V_x1 := V_x1.ext E7
  have Zn7 : n0 ≤ h7.size := Nat.le_trans Z0 E7.1
  have K7 := K0.ext E7
  have E_b7 : Exa Z h7 b7 "[J" := B7
  have V_b7 : Arv Z h7 b7 ky .long (2 : Int32) [(.long t0), (.long t1)] (.long (0 : Int64)) := A7
  refine Goes.st (B := T7.setTop (mkF m 30 #[.val (.ref x0), .val (.ref x1), .val (.ref x1), .val (.ref x0), .unset, .unset] [(.ref b7)])) st7 ?_
  obtain ⟨T8, X8, e8, st8⟩ := castY X7 hx hZ hown (hw _ (List.mem_of_getElem? (i := 16) rfl)) e7 (Ins.self E_b7) (g := (mkF m 30 #[.val (.ref x0), .val (.ref x1), .val (.ref x1), .val (.ref x0), .unset, .unset] [(.ref b7)])) rfl rfl (hb hby d312_30)
  refine Goes.st (B := T8.setTop (mkF m 33 #[.val (.ref x0), .val (.ref x1), .val (.ref x1), .val (.ref x0), .unset, .unset] [(.ref b7)])) st8 ?_
  refine Goes.run X8 hx hown hci hcl hby (L := [(33, .astore 4, 2), (35, .iconst 0, 1), (36, .istore 5, 2), (38, .iload 5, 2), (40, .aload_n 3, 1)]) (by decide +kernel) rfl (g' := (mkF m 41 #[.val (.ref x0), .val (.ref x1), .val (.ref x1), .val (.ref x0), .val (.ref b7), .val (.int (0 : Int32))] [(.ref x0), (.int (0 : Int32))])) rfl ?_
  obtain ⟨cl9, Ar9, q9, S9, M9, Hs9, G9⟩ := id V_x0
  refine Goes.st (B := T8.setTop (mkF m 42 #[.val (.ref x0), .val (.ref x1), .val (.ref x1), .val (.ref x0), .val (.ref b7), .val (.int (0 : Int32))] [(.int (1 : Int32)), (.int (0 : Int32))])) (fun t k => ?_) ?_
  · refine X8.arraylength hx (cell := cl9) (by rw [e8]; exact Ar9.1) (State.isArrayOf_alike hZ.alike Ar9.2.1) (g := (mkF m 41 #[.val (.ref x0), .val (.ref x1), .val (.ref x1), .val (.ref x0), .val (.ref b7), .val (.int (0 : Int32))] [(.ref x0), (.int (0 : Int32))])) rfl (rest := [(.int (0 : Int32))]) rfl (hb hby d312_41) _ ?_
    rw [len_of S9 M9]
    exact k
  have hc42_10 : (0 : Int32) < (1 : Int32) := by decide
  refine Goes.st (B := T8.setTop (mkF m 45 #[.val (.ref x0), .val (.ref x1), .val (.ref x1), .val (.ref x0), .val (.ref b7), .val (.int (0 : Int32))] [])) (fun t k => ?_) ?_
  · refine XS.icmpNo X8.here hx rfl (hb hby d312_42) rfl (tlt hc42_10).2.1 ?_
    exact k
  refine Goes.run X8 hx hown hci hcl hby (L := [(45, .aload 4, 2), (47, .iload 5, 2)]) (by decide +kernel) rfl (g' := (mkF m 49 #[.val (.ref x0), .val (.ref x1), .val (.ref x1), .val (.ref x0), .val (.ref b7), .val (.int (0 : Int32))] [(.int (0 : Int32)), (.ref b7)])) rfl ?_
  refine Goes.st (B := T8.setTop (mkF m 50 #[.val (.ref x0), .val (.ref x1), .val (.ref x1), .val (.ref x0), .val (.ref b7), .val (.int (0 : Int32))] [(.int (0 : Int32)), (.ref b7), (.int (0 : Int32)), (.ref b7)])) (fun t k => ?_) ?_
  · refine Jvm.Free.XT.dup2 X8.here hx rfl (hb hby d312_49) rfl rfl rfl ?_
    exact k
  obtain ⟨cl11, Ar11, q11, S11, M11, Hs11, G11⟩ := id V_b7
  have hin11 : ¬ ((0 : Int32) < 0 ∨ cl11.slots.size ≤ ((0 : Int32)).toNatClampNeg) := inb_of S11 ⟨(by decide), (by decide)⟩
  have hat11 : cl11.slots[((0 : Int32)).toNatClampNeg]? = some (.long t0) := Hs11.at hin11 rfl
  refine Goes.st (B := T8.setTop (mkF m 51 #[.val (.ref x0), .val (.ref x1), .val (.ref x1), .val (.ref x0), .val (.ref b7), .val (.int (0 : Int32))] [(.long t0), (.int (0 : Int32)), (.ref b7)])) (X8.laload hx (j := (0 : Int32)) (v := (.long t0)) (by rw [e8]; exact Ar11.1) (State.isArrayOf_alike hZ.alike Ar11.2.1) Ar11.2.2 hin11 hat11 (g := (mkF m 50 #[.val (.ref x0), .val (.ref x1), .val (.ref x1), .val (.ref x0), .val (.ref b7), .val (.int (0 : Int32))] [(.int (0 : Int32)), (.ref b7), (.int (0 : Int32)), (.ref b7)])) rfl rfl (hb hby d312_50)) ?_
  refine Goes.run X8 hx hown hci hcl hby (L := [(51, .aload_n 3, 1), (52, .iload 5, 2)]) (by decide +kernel) rfl (g' := (mkF m 54 #[.val (.ref x0), .val (.ref x1), .val (.ref x1), .val (.ref x0), .val (.ref b7), .val (.int (0 : Int32))] [(.int (0 : Int32)), (.ref x0), (.long t0), (.int (0 : Int32)), (.ref b7)])) rfl ?_
  obtain ⟨cl12, Ar12, q12, S12, M12, Hs12, G12⟩ := id V_x0
  have hin12 : ¬ ((0 : Int32) < 0 ∨ cl12.slots.size ≤ ((0 : Int32)).toNatClampNeg) := inb_of S12 ⟨(by decide), (by decide)⟩
  have hat12 : cl12.slots[((0 : Int32)).toNatClampNeg]? = some (.long u0) := Hs12.at hin12 rfl
  refine Goes.st (B := T8.setTop (mkF m 55 #[.val (.ref x0), .val (.ref x1), .val (.ref x1), .val (.ref x0), .val (.ref b7), .val (.int (0 : Int32))] [(.long u0), (.long t0), (.int (0 : Int32)), (.ref b7)])) (X8.laload hx (j := (0 : Int32)) (v := (.long u0)) (by rw [e8]; exact Ar12.1) (State.isArrayOf_alike hZ.alike Ar12.2.1) Ar12.2.2 hin12 hat12 (g := (mkF m 54 #[.val (.ref x0), .val (.ref x1), .val (.ref x1), .val (.ref x0), .val (.ref b7), .val (.int (0 : Int32))] [(.int (0 : Int32)), (.ref x0), (.long t0), (.int (0 : Int32)), (.ref b7)])) rfl rfl (hb hby d312_54)) ?_
  refine Goes.run X8 hx hown hci hcl hby (L := [(55, .lor, 1)]) (by decide +kernel) rfl (g' := (mkF m 56 #[.val (.ref x0), .val (.ref x1), .val (.ref x1), .val (.ref x0), .val (.ref b7), .val (.int (0 : Int32))] [(.long (t0 ||| u0)), (.int (0 : Int32)), (.ref b7)])) rfl ?_
  obtain ⟨cl13, Ar13, q13, S13, M13, Hs13, G13⟩ := id V_b7
  have hin13 : ¬ ((0 : Int32) < 0 ∨ cl13.slots.size ≤ ((0 : Int32)).toNatClampNeg) := inb_of S13 ⟨(by decide), (by decide)⟩
  obtain ⟨T13, h13, X13, e13, W13, st13⟩ := stJ X8 hx hZ e8 Ar13 (j := (0 : Int32)) hin13 (g := (mkF m 56 #[.val (.ref x0), .val (.ref x1), .val (.ref x1), .val (.ref x0), .val (.ref b7), .val (.int (0 : Int32))] [(.long (t0 ||| u0)), (.int (0 : Int32)), (.ref b7)])) rfl rfl (hb hby d312_56)
  have E_x0 := E_x0.wr W13
  have V_x0 := V_x0.other W13 ne_x0_b7
  have E_x1 := E_x1.wr W13
  have V_x1 := V_x1.other W13 ne_x1_b7
  have E_b7 := E_b7.wr W13
  have Zn13 : n0 ≤ h13.size := Nat.le_trans Zn7 (Keep.of_wr W13).1
  have K13 := K7.wr W13 (Or.inr sz_b7)
  have N13 := Fr.snoc X13 N0 g_b7
  have V_b7 : Arv Z h13 b7 ky .long (2 : Int32) [(.long (t0 ||| u0)), (.long t1)] (.long (0 : Int64)) := Arv.set Ar13 q13 S13 M13 Hs13 G13 rfl W13 0 rfl (Nat.le_of_ble_eq_true rfl)
  refine Goes.st (B := T13.setTop (mkF m 57 #[.val (.ref x0), .val (.ref x1), .val (.ref x1), .val (.ref x0), .val (.ref b7), .val (.int (0 : Int32))] [])) st13 ?_
  refine Goes.run X13 hx hown hci hcl hby (L := [(57, .iinc 5 1, 3), (60, .goto (-22), 3), (38, .iload 5, 2), (40, .aload_n 3, 1)]) (by decide +kernel) rfl (g' := (mkF m 41 #[.val (.ref x0), .val (.ref x1), .val (.ref x1), .val (.ref x0), .val (.ref b7), .val (.int (1 : Int32))] [(.ref x0), (.int (1 : Int32))])) rfl ?_
  obtain ⟨cl14, Ar14, q14, S14, M14, Hs14, G14⟩ := id V_x0
  refine Goes.st (B := T13.setTop (mkF m 42 #[.val (.ref x0), .val (.ref x1), .val (.ref x1), .val (.ref x0), .val (.ref b7), .val (.int (1 : Int32))] [(.int (1 : Int32)), (.int (1 : Int32))])) (fun t k => ?_) ?_
  · refine X13.arraylength hx (cell := cl14) (by rw [e13]; exact Ar14.1) (State.isArrayOf_alike hZ.alike Ar14.2.1) (g := (mkF m 41 #[.val (.ref x0), .val (.ref x1), .val (.ref x1), .val (.ref x0), .val (.ref b7), .val (.int (1 : Int32))] [(.ref x0), (.int (1 : Int32))])) rfl (rest := [(.int (1 : Int32))]) rfl (hb hby d312_41) _ ?_
    rw [len_of S14 M14]
    exact k
  have hc42_15 : ¬ ((1 : Int32) < (1 : Int32)) := Int32.lt_irrefl
  refine Goes.st (B := T13.setTop (mkF m 63 #[.val (.ref x0), .val (.ref x1), .val (.ref x1), .val (.ref x0), .val (.ref b7), .val (.int (1 : Int32))] [])) (fun t k => ?_) ?_
  · refine XS.icmpYes X13.here hx rfl (pc0 := 42) (pc' := 63) rfl (hb hby d312_42) rfl (flt hc42_15).2.1 (by decide) (by decide) ?_
    exact k
  refine Goes.run X13 hx hown hci hcl hby (L := [(63, .aload 4, 2)]) (by decide +kernel) rfl (g' := (mkF m 65 #[.val (.ref x0), .val (.ref x1), .val (.ref x1), .val (.ref x0), .val (.ref b7), .val (.int (1 : Int32))] [(.ref b7)])) rfl ?_
  refine Goes.retR X13 hx hlk Bd.returns rfl rfl (hb hby d312_65) ?_ (by decide) (by decide)
  show (Q312 Z x0 x1 kx ky u0 t0 t1 h0 n0) _ _ _
  rw [e13]
  exact ⟨b7, ky, rfl, N13, K13, sz_b7, E_b7, V_b7⟩
theorem d320_0 : decode prog_3_method_8_code 0 = .ok (.aload_n 0, 1) := by decide +kernel
theorem d320_1 : decode prog_3_method_8_code 1 = .ok (.arraylength, 1) := by decide +kernel
theorem d320_2 : decode prog_3_method_8_code 2 = .ok (.aload_n 1, 1) := by decide +kernel
theorem d320_3 : decode prog_3_method_8_code 3 = .ok (.arraylength, 1) := by decide +kernel
theorem d320_4 : decode prog_3_method_8_code 4 = .ok (.if_icmp .lt 7, 3) := by decide +kernel
theorem d320_7 : decode prog_3_method_8_code 7 = .ok (.aload_n 0, 1) := by decide +kernel
theorem d320_8 : decode prog_3_method_8_code 8 = .ok (.goto 4, 3) := by decide +kernel
theorem d320_12 : decode prog_3_method_8_code 12 = .ok (.astore_n 2, 1) := by decide +kernel
theorem d320_13 : decode prog_3_method_8_code 13 = .ok (.aload_n 0, 1) := by decide +kernel
theorem d320_14 : decode prog_3_method_8_code 14 = .ok (.arraylength, 1) := by decide +kernel
theorem d320_15 : decode prog_3_method_8_code 15 = .ok (.aload_n 1, 1) := by decide +kernel
theorem d320_16 : decode prog_3_method_8_code 16 = .ok (.arraylength, 1) := by decide +kernel
theorem d320_17 : decode prog_3_method_8_code 17 = .ok (.if_icmp .lt 7, 3) := by decide +kernel
theorem d320_20 : decode prog_3_method_8_code 20 = .ok (.aload_n 1, 1) := by decide +kernel
theorem d320_21 : decode prog_3_method_8_code 21 = .ok (.goto 4, 3) := by decide +kernel
theorem d320_25 : decode prog_3_method_8_code 25 = .ok (.astore_n 3, 1) := by decide +kernel
theorem d320_26 : decode prog_3_method_8_code 26 = .ok (.aload_n 2, 1) := by decide +kernel
theorem d320_27 : decode prog_3_method_8_code 27 = .ok (.invokevirtual 43, 3) := by decide +kernel
theorem d320_30 : decode prog_3_method_8_code 30 = .ok (.checkcast 44, 3) := by decide +kernel
theorem d320_33 : decode prog_3_method_8_code 33 = .ok (.astore 4, 2) := by decide +kernel
theorem d320_35 : decode prog_3_method_8_code 35 = .ok (.iconst 0, 1) := by decide +kernel
theorem d320_36 : decode prog_3_method_8_code 36 = .ok (.istore 5, 2) := by decide +kernel
theorem d320_38 : decode prog_3_method_8_code 38 = .ok (.iload 5, 2) := by decide +kernel
theorem d320_40 : decode prog_3_method_8_code 40 = .ok (.aload_n 3, 1) := by decide +kernel
theorem d320_41 : decode prog_3_method_8_code 41 = .ok (.arraylength, 1) := by decide +kernel
theorem d320_42 : decode prog_3_method_8_code 42 = .ok (.if_icmp .ge 21, 3) := by decide +kernel
theorem d320_63 : decode prog_3_method_8_code 63 = .ok (.aload 4, 2) := by decide +kernel
theorem d320_65 : decode prog_3_method_8_code 65 = .ok (.areturn, 1) := by decide +kernel
theorem pn320 : plainName "com/example/marks_across_domains/marksacrossdomains/Bits" = true := by first | (simp [plainName, overriddenIn]; done) | decide +kernel
theorem ef320 (m : MethodId) (x0 : Addr) (x1 : Addr) : entryFrame m #[(.ref x0), (.ref x1)] 6 = (mkF m 0 #[.val (.ref x0), .val (.ref x1), .unset, .unset, .unset, .unset] []) := by first | (simp [entryFrame, mkF, argsToLocals, Value.category]; done) | rfl
def Q320 (Z : State) (x0 : Addr) (x1 : Addr) (kx : ClassId) (ky : ClassId) (u0 : Int64) (u1 : Int64) (h0 : Heap) (n0 : Nat) (v : Option Value) (h : Heap) (L : List Loc) : Prop := ∃ (b : Addr) (k : ClassId), v = some (.ref b) ∧ Fr n0 L ∧ Keep h0 h [] ∧ h0.size ≤ b ∧ Exa Z h b "[J" ∧ Arv Z h b k .long (2 : Int32) [(.long u0), (.long u1)] (.long (0 : Int64))
set_option maxRecDepth 65536 in
set_option maxHeartbeats 40000000 in
theorem rm320 (l : Launch) (Z : State) (a0 : Array Value) (hw : ∀ d ∈ tables_1, d.before a0 Z = true) (ws : List Jvm.Cond) (x0 : Addr) (x1 : Addr) (kx : ClassId) (ky : ClassId) (u0 : Int64) (u1 : Int64) (h0 : Heap) (n0 : Nat) (Z0 : n0 ≤ h0.size) (E_x0 : Exa Z h0 x0 "[J") (V_x0 : Arv Z h0 x0 kx .long (2 : Int32) [(.long u0), (.long u1)] (.long (0 : Int64))) (E_x1 : Exa Z h0 x1 "[J") (V_x1 : Arv Z h0 x1 ky .long (0 : Int32) [] (.long (0 : Int64))) :
    MetFree l (⟨"com/example/marks_across_domains/marksacrossdomains/Bits", "union", "([J[J)[J"⟩ : MethodName) (head1 (Jvm.Cond.code (⟨"com/example/marks_across_domains/marksacrossdomains/Bits", "union", "([J[J)[J"⟩ : MethodName) prog_3_method_8_code 6 (some (.array .long)) :: ws) ({ frames := 1, cells := 1, slots := 2, locals := 14 } : Room)) (fun a U => a = #[(.ref x0), (.ref x1)] ∧ Z.Warmed39 U.vm ∧ U.heap = h0) (fun _ _ _ _ _ => True) (fun _ U o U' => ∃ v L, o = .returned v ∧ (Q320 Z x0 x1 kx ky u0 u1 h0 n0) v U'.heap L ∧ FrameEnd U o U' L ({ frames := 1, cells := 1, slots := 2, locals := 14 } : Room).cells ({ frames := 1, cells := 1, slots := 2, locals := 14 } : Room).slots) := by
  refine MetFree.of_bodySF (plainFor_of_name pn320) hisR ?_
  intro p e s m args below meth c s₁ Bd hml0 hP hK
  obtain ⟨rfl, hZ, hh⟩ := hP
  have hx := Bd.exec
  have hby := Bd.bytes
  have hml : c.maxLocals = 6 := hml0
  have hlk : meth.locks = false := BodyLoose.notSynchronized Bd
  have hown : s.vm.findClass "com/example/marks_across_domains/marksacrossdomains/Bits" = some m.cls := findClass_of_methodNamed Bd.named
  have hnm := (name_of_methodNamed Bd.named Bd.method).1
  have hci : ∀ i v, (i, v) ∈ ([] : List (Nat × Int32)) → (Jvm.Cond.constant "com/example/marks_across_domains/marksacrossdomains/Bits" i v).before #[(.ref x0), (.ref x1)] s = true := own_ci0
  have hcl : ∀ i v, (i, v) ∈ ([] : List (Nat × Int64)) → (Jvm.Cond.constantLong "com/example/marks_across_domains/marksacrossdomains/Bits" i v).before #[(.ref x0), (.ref x1)] s = true := own_ci0
  have X0 : Stand p l e ({ frames := 1, cells := 1, slots := 2, locals := 14 } : Room) s m #[(.ref x0), (.ref x1)] below meth c s₁ [] 0 0 := Stand.of_body Bd
  have e0 : s₁.heap = h0 := by rw [← hh, Bd.state]; rfl
  have N0 := Fr.nil n0
  show Goes p e below s (Q320 Z x0 x1 kx ky u0 u1 h0 n0) ({ frames := 1, cells := 1, slots := 2, locals := 14 } : Room).cells ({ frames := 1, cells := 1, slots := 2, locals := 14 } : Room).slots (s₁.setTop (entryFrame m #[(.ref x0), (.ref x1)] 6))
  refine Goes.cast (ef320 m x0 x1) ?_
  have K0 : Keep h0 h0 [] := Keep.refl h0 _
  refine Goes.run X0 hx hown hci hcl hby (L := [(0, .aload_n 0, 1)]) (by decide +kernel) rfl (g' := (mkF m 1 #[.val (.ref x0), .val (.ref x1), .unset, .unset, .unset, .unset] [(.ref x0)])) rfl ?_
  obtain ⟨cl1, Ar1, q1, S1, M1, Hs1, G1⟩ := id V_x0
  refine Goes.st (B := s₁.setTop (mkF m 2 #[.val (.ref x0), .val (.ref x1), .unset, .unset, .unset, .unset] [(.int (2 : Int32))])) (fun t k => ?_) ?_
  · refine X0.arraylength hx (cell := cl1) (by rw [e0]; exact Ar1.1) (State.isArrayOf_alike hZ.alike Ar1.2.1) (g := (mkF m 1 #[.val (.ref x0), .val (.ref x1), .unset, .unset, .unset, .unset] [(.ref x0)])) rfl (rest := []) rfl (hb hby d320_1) _ ?_
    rw [len_of S1 M1]
    exact k
  refine Goes.run X0 hx hown hci hcl hby (L := [(2, .aload_n 1, 1)]) (by decide +kernel) rfl (g' := (mkF m 3 #[.val (.ref x0), .val (.ref x1), .unset, .unset, .unset, .unset] [(.ref x1), (.int (2 : Int32))])) rfl ?_
  obtain ⟨cl2, Ar2, q2, S2, M2, Hs2, G2⟩ := id V_x1
  refine Goes.st (B := s₁.setTop (mkF m 4 #[.val (.ref x0), .val (.ref x1), .unset, .unset, .unset, .unset] [(.int (0 : Int32)), (.int (2 : Int32))])) (fun t k => ?_) ?_
  · refine X0.arraylength hx (cell := cl2) (by rw [e0]; exact Ar2.1) (State.isArrayOf_alike hZ.alike Ar2.2.1) (g := (mkF m 3 #[.val (.ref x0), .val (.ref x1), .unset, .unset, .unset, .unset] [(.ref x1), (.int (2 : Int32))])) rfl (rest := [(.int (2 : Int32))]) rfl (hb hby d320_3) _ ?_
    rw [len_of S2 M2]
    exact k
  have hc4_3 : ¬ ((2 : Int32) < (0 : Int32)) := by decide
  refine Goes.st (B := s₁.setTop (mkF m 7 #[.val (.ref x0), .val (.ref x1), .unset, .unset, .unset, .unset] [])) (fun t k => ?_) ?_
  · refine XS.icmpNo X0.here hx rfl (hb hby d320_4) rfl (flt hc4_3).1 ?_
    exact k
  refine Goes.run X0 hx hown hci hcl hby (L := [(7, .aload_n 0, 1), (8, .goto 4, 3), (12, .astore_n 2, 1), (13, .aload_n 0, 1)]) (by decide +kernel) rfl (g' := (mkF m 14 #[.val (.ref x0), .val (.ref x1), .val (.ref x0), .unset, .unset, .unset] [(.ref x0)])) rfl ?_
  obtain ⟨cl4, Ar4, q4, S4, M4, Hs4, G4⟩ := id V_x0
  refine Goes.st (B := s₁.setTop (mkF m 15 #[.val (.ref x0), .val (.ref x1), .val (.ref x0), .unset, .unset, .unset] [(.int (2 : Int32))])) (fun t k => ?_) ?_
  · refine X0.arraylength hx (cell := cl4) (by rw [e0]; exact Ar4.1) (State.isArrayOf_alike hZ.alike Ar4.2.1) (g := (mkF m 14 #[.val (.ref x0), .val (.ref x1), .val (.ref x0), .unset, .unset, .unset] [(.ref x0)])) rfl (rest := []) rfl (hb hby d320_14) _ ?_
    rw [len_of S4 M4]
    exact k
  refine Goes.run X0 hx hown hci hcl hby (L := [(15, .aload_n 1, 1)]) (by decide +kernel) rfl (g' := (mkF m 16 #[.val (.ref x0), .val (.ref x1), .val (.ref x0), .unset, .unset, .unset] [(.ref x1), (.int (2 : Int32))])) rfl ?_
  obtain ⟨cl5, Ar5, q5, S5, M5, Hs5, G5⟩ := id V_x1
  refine Goes.st (B := s₁.setTop (mkF m 17 #[.val (.ref x0), .val (.ref x1), .val (.ref x0), .unset, .unset, .unset] [(.int (0 : Int32)), (.int (2 : Int32))])) (fun t k => ?_) ?_
  · refine X0.arraylength hx (cell := cl5) (by rw [e0]; exact Ar5.1) (State.isArrayOf_alike hZ.alike Ar5.2.1) (g := (mkF m 16 #[.val (.ref x0), .val (.ref x1), .val (.ref x0), .unset, .unset, .unset] [(.ref x1), (.int (2 : Int32))])) rfl (rest := [(.int (2 : Int32))]) rfl (hb hby d320_16) _ ?_
    rw [len_of S5 M5]
    exact k
  have hc17_6 : ¬ ((2 : Int32) < (0 : Int32)) := by decide
  refine Goes.st (B := s₁.setTop (mkF m 20 #[.val (.ref x0), .val (.ref x1), .val (.ref x0), .unset, .unset, .unset] [])) (fun t k => ?_) ?_
  · refine XS.icmpNo X0.here hx rfl (hb hby d320_17) rfl (flt hc17_6).1 ?_
    exact k
  refine Goes.run X0 hx hown hci hcl hby (L := [(20, .aload_n 1, 1), (21, .goto 4, 3), (25, .astore_n 3, 1), (26, .aload_n 2, 1)]) (by decide +kernel) rfl (g' := (mkF m 27 #[.val (.ref x0), .val (.ref x1), .val (.ref x0), .val (.ref x1), .unset, .unset] [(.ref x0)])) rfl ?_
  obtain ⟨T7, h7, X7, e7, E7, A7, B7, st7⟩ := cloneH X0 hx hZ hown (hw _ (List.mem_of_getElem? (i := 9) rfl)) (hw _ (List.mem_of_getElem? (i := 10) rfl)) (hw _ (List.mem_of_getElem? (i := 14) rfl)) (hw _ (List.mem_of_getElem? (i := 12) rfl)) (hw _ (List.mem_of_getElem? (i := 13) rfl)) (hw _ (List.mem_of_getElem? (i := 15) rfl)) e0 V_x0.arh E_x0 (g := (mkF m 27 #[.val (.ref x0), .val (.ref x1), .val (.ref x0), .val (.ref x1), .unset, .unset] [(.ref x0)])) rfl (by rw [hml]; rfl) rfl (hb hby d320_27) (by decide) (W := 0) (cap := 2) (by show 2 * 0 + _ ≤ _; exact Nat.le_of_eq rfl) (by decide) (by decide) (by decide) (by decide)
  obtain ⟨b7, g7⟩ : ∃ z, z = h0.size := ⟨_, rfl⟩
  rw [← g7] at A7 B7 st7
  have ne_x0_b7 : x0 ≠ b7 := Nat.ne_of_lt (Nat.lt_of_lt_of_le E_x0.lt (Nat.le_of_eq g7.symm))
  have ne_x1_b7 : x1 ≠ b7 := Nat.ne_of_lt (Nat.lt_of_lt_of_le E_x1.lt (Nat.le_of_eq g7.symm))
  have g_b7 : n0 ≤ b7 := Nat.le_trans Z0 (Nat.le_of_eq g7.symm)
  have sz_b7 : h0.size ≤ b7 := Nat.le_trans K0.1 (Nat.le_of_eq g7.symm)
  have E_x0 := E_x0.ext E7
  have V_x0 := V_x0.ext E7
  have E_x1 := E_x1.ext E7
  have V_x1 := V_x1.ext E7
  have Zn7 : n0 ≤ h7.size := Nat.le_trans Z0 E7.1
  have K7 := K0.ext E7
  have E_b7 : Exa Z h7 b7 "[J" := B7
  have V_b7 : Arv Z h7 b7 kx .long (2 : Int32) [(.long u0), (.long u1)] (.long (0 : Int64)) := A7
  refine Goes.st (B := T7.setTop (mkF m 30 #[.val (.ref x0), .val (.ref x1), .val (.ref x0), .val (.ref x1), .unset, .unset] [(.ref b7)])) st7 ?_
  obtain ⟨T8, X8, e8, st8⟩ := castY X7 hx hZ hown (hw _ (List.mem_of_getElem? (i := 16) rfl)) e7 (Ins.self E_b7) (g := (mkF m 30 #[.val (.ref x0), .val (.ref x1), .val (.ref x0), .val (.ref x1), .unset, .unset] [(.ref b7)])) rfl rfl (hb hby d320_30)
  refine Goes.st (B := T8.setTop (mkF m 33 #[.val (.ref x0), .val (.ref x1), .val (.ref x0), .val (.ref x1), .unset, .unset] [(.ref b7)])) st8 ?_
  refine Goes.run X8 hx hown hci hcl hby (L := [(33, .astore 4, 2), (35, .iconst 0, 1), (36, .istore 5, 2), (38, .iload 5, 2), (40, .aload_n 3, 1)]) (by decide +kernel) rfl (g' := (mkF m 41 #[.val (.ref x0), .val (.ref x1), .val (.ref x0), .val (.ref x1), .val (.ref b7), .val (.int (0 : Int32))] [(.ref x1), (.int (0 : Int32))])) rfl ?_
  obtain ⟨cl9, Ar9, q9, S9, M9, Hs9, G9⟩ := id V_x1
  refine Goes.st (B := T8.setTop (mkF m 42 #[.val (.ref x0), .val (.ref x1), .val (.ref x0), .val (.ref x1), .val (.ref b7), .val (.int (0 : Int32))] [(.int (0 : Int32)), (.int (0 : Int32))])) (fun t k => ?_) ?_
  · refine X8.arraylength hx (cell := cl9) (by rw [e8]; exact Ar9.1) (State.isArrayOf_alike hZ.alike Ar9.2.1) (g := (mkF m 41 #[.val (.ref x0), .val (.ref x1), .val (.ref x0), .val (.ref x1), .val (.ref b7), .val (.int (0 : Int32))] [(.ref x1), (.int (0 : Int32))])) rfl (rest := [(.int (0 : Int32))]) rfl (hb hby d320_41) _ ?_
    rw [len_of S9 M9]
    exact k
  have hc42_10 : ¬ ((0 : Int32) < (0 : Int32)) := Int32.lt_irrefl
  refine Goes.st (B := T8.setTop (mkF m 63 #[.val (.ref x0), .val (.ref x1), .val (.ref x0), .val (.ref x1), .val (.ref b7), .val (.int (0 : Int32))] [])) (fun t k => ?_) ?_
  · refine XS.icmpYes X8.here hx rfl (pc0 := 42) (pc' := 63) rfl (hb hby d320_42) rfl (flt hc42_10).2.1 (by decide) (by decide) ?_
    exact k
  refine Goes.run X8 hx hown hci hcl hby (L := [(63, .aload 4, 2)]) (by decide +kernel) rfl (g' := (mkF m 65 #[.val (.ref x0), .val (.ref x1), .val (.ref x0), .val (.ref x1), .val (.ref b7), .val (.int (0 : Int32))] [(.ref b7)])) rfl ?_
  refine Goes.retR X8 hx hlk Bd.returns rfl rfl (hb hby d320_65) ?_ (by decide) (by decide)
  show (Q320 Z x0 x1 kx ky u0 u1 h0 n0) _ _ _
  rw [e8]
  exact ⟨b7, kx, rfl, N0, K7, sz_b7, E_b7, V_b7⟩
theorem d321_0 : decode prog_3_method_8_code 0 = .ok (.aload_n 0, 1) := by decide +kernel
theorem d321_1 : decode prog_3_method_8_code 1 = .ok (.arraylength, 1) := by decide +kernel
theorem d321_2 : decode prog_3_method_8_code 2 = .ok (.aload_n 1, 1) := by decide +kernel
theorem d321_3 : decode prog_3_method_8_code 3 = .ok (.arraylength, 1) := by decide +kernel
theorem d321_4 : decode prog_3_method_8_code 4 = .ok (.if_icmp .lt 7, 3) := by decide +kernel
theorem d321_7 : decode prog_3_method_8_code 7 = .ok (.aload_n 0, 1) := by decide +kernel
theorem d321_8 : decode prog_3_method_8_code 8 = .ok (.goto 4, 3) := by decide +kernel
theorem d321_12 : decode prog_3_method_8_code 12 = .ok (.astore_n 2, 1) := by decide +kernel
theorem d321_13 : decode prog_3_method_8_code 13 = .ok (.aload_n 0, 1) := by decide +kernel
theorem d321_14 : decode prog_3_method_8_code 14 = .ok (.arraylength, 1) := by decide +kernel
theorem d321_15 : decode prog_3_method_8_code 15 = .ok (.aload_n 1, 1) := by decide +kernel
theorem d321_16 : decode prog_3_method_8_code 16 = .ok (.arraylength, 1) := by decide +kernel
theorem d321_17 : decode prog_3_method_8_code 17 = .ok (.if_icmp .lt 7, 3) := by decide +kernel
theorem d321_20 : decode prog_3_method_8_code 20 = .ok (.aload_n 1, 1) := by decide +kernel
theorem d321_21 : decode prog_3_method_8_code 21 = .ok (.goto 4, 3) := by decide +kernel
theorem d321_25 : decode prog_3_method_8_code 25 = .ok (.astore_n 3, 1) := by decide +kernel
theorem d321_26 : decode prog_3_method_8_code 26 = .ok (.aload_n 2, 1) := by decide +kernel
theorem d321_27 : decode prog_3_method_8_code 27 = .ok (.invokevirtual 43, 3) := by decide +kernel
theorem d321_30 : decode prog_3_method_8_code 30 = .ok (.checkcast 44, 3) := by decide +kernel
theorem d321_33 : decode prog_3_method_8_code 33 = .ok (.astore 4, 2) := by decide +kernel
theorem d321_35 : decode prog_3_method_8_code 35 = .ok (.iconst 0, 1) := by decide +kernel
theorem d321_36 : decode prog_3_method_8_code 36 = .ok (.istore 5, 2) := by decide +kernel
theorem d321_38 : decode prog_3_method_8_code 38 = .ok (.iload 5, 2) := by decide +kernel
theorem d321_40 : decode prog_3_method_8_code 40 = .ok (.aload_n 3, 1) := by decide +kernel
theorem d321_41 : decode prog_3_method_8_code 41 = .ok (.arraylength, 1) := by decide +kernel
theorem d321_42 : decode prog_3_method_8_code 42 = .ok (.if_icmp .ge 21, 3) := by decide +kernel
theorem d321_45 : decode prog_3_method_8_code 45 = .ok (.aload 4, 2) := by decide +kernel
theorem d321_47 : decode prog_3_method_8_code 47 = .ok (.iload 5, 2) := by decide +kernel
theorem d321_49 : decode prog_3_method_8_code 49 = .ok (.dup2, 1) := by decide +kernel
theorem d321_50 : decode prog_3_method_8_code 50 = .ok (.laload, 1) := by decide +kernel
theorem d321_51 : decode prog_3_method_8_code 51 = .ok (.aload_n 3, 1) := by decide +kernel
theorem d321_52 : decode prog_3_method_8_code 52 = .ok (.iload 5, 2) := by decide +kernel
theorem d321_54 : decode prog_3_method_8_code 54 = .ok (.laload, 1) := by decide +kernel
theorem d321_55 : decode prog_3_method_8_code 55 = .ok (.lor, 1) := by decide +kernel
theorem d321_56 : decode prog_3_method_8_code 56 = .ok (.lastore, 1) := by decide +kernel
theorem d321_57 : decode prog_3_method_8_code 57 = .ok (.iinc 5 1, 3) := by decide +kernel
theorem d321_60 : decode prog_3_method_8_code 60 = .ok (.goto (-22), 3) := by decide +kernel
theorem d321_63 : decode prog_3_method_8_code 63 = .ok (.aload 4, 2) := by decide +kernel
theorem d321_65 : decode prog_3_method_8_code 65 = .ok (.areturn, 1) := by decide +kernel
theorem pn321 : plainName "com/example/marks_across_domains/marksacrossdomains/Bits" = true := by first | (simp [plainName, overriddenIn]; done) | decide +kernel
theorem ef321 (m : MethodId) (x0 : Addr) (x1 : Addr) : entryFrame m #[(.ref x0), (.ref x1)] 6 = (mkF m 0 #[.val (.ref x0), .val (.ref x1), .unset, .unset, .unset, .unset] []) := by first | (simp [entryFrame, mkF, argsToLocals, Value.category]; done) | rfl
def Q321 (Z : State) (x0 : Addr) (x1 : Addr) (kx : ClassId) (ky : ClassId) (u0 : Int64) (u1 : Int64) (t0 : Int64) (h0 : Heap) (n0 : Nat) (v : Option Value) (h : Heap) (L : List Loc) : Prop := ∃ (b : Addr) (k : ClassId), v = some (.ref b) ∧ Fr n0 L ∧ Keep h0 h [] ∧ h0.size ≤ b ∧ Exa Z h b "[J" ∧ Arv Z h b k .long (2 : Int32) [(.long (u0 ||| t0)), (.long u1)] (.long (0 : Int64))
set_option maxRecDepth 65536 in
set_option maxHeartbeats 40000000 in
theorem rm321 (l : Launch) (Z : State) (a0 : Array Value) (hw : ∀ d ∈ tables_1, d.before a0 Z = true) (ws : List Jvm.Cond) (x0 : Addr) (x1 : Addr) (kx : ClassId) (ky : ClassId) (u0 : Int64) (u1 : Int64) (t0 : Int64) (h0 : Heap) (n0 : Nat) (Z0 : n0 ≤ h0.size) (E_x0 : Exa Z h0 x0 "[J") (V_x0 : Arv Z h0 x0 kx .long (2 : Int32) [(.long u0), (.long u1)] (.long (0 : Int64))) (E_x1 : Exa Z h0 x1 "[J") (V_x1 : Arv Z h0 x1 ky .long (1 : Int32) [(.long t0)] (.long (0 : Int64))) :
    MetFree l (⟨"com/example/marks_across_domains/marksacrossdomains/Bits", "union", "([J[J)[J"⟩ : MethodName) (head1 (Jvm.Cond.code (⟨"com/example/marks_across_domains/marksacrossdomains/Bits", "union", "([J[J)[J"⟩ : MethodName) prog_3_method_8_code 6 (some (.array .long)) :: ws) ({ frames := 1, cells := 1, slots := 2, locals := 14 } : Room)) (fun a U => a = #[(.ref x0), (.ref x1)] ∧ Z.Warmed39 U.vm ∧ U.heap = h0) (fun _ _ _ _ _ => True) (fun _ U o U' => ∃ v L, o = .returned v ∧ (Q321 Z x0 x1 kx ky u0 u1 t0 h0 n0) v U'.heap L ∧ FrameEnd U o U' L ({ frames := 1, cells := 1, slots := 2, locals := 14 } : Room).cells ({ frames := 1, cells := 1, slots := 2, locals := 14 } : Room).slots) := by
  refine MetFree.of_bodySF (plainFor_of_name pn321) hisR ?_
  intro p e s m args below meth c s₁ Bd hml0 hP hK
  obtain ⟨rfl, hZ, hh⟩ := hP
  have hx := Bd.exec
  have hby := Bd.bytes
  have hml : c.maxLocals = 6 := hml0
  have hlk : meth.locks = false := BodyLoose.notSynchronized Bd
  have hown : s.vm.findClass "com/example/marks_across_domains/marksacrossdomains/Bits" = some m.cls := findClass_of_methodNamed Bd.named
  have hnm := (name_of_methodNamed Bd.named Bd.method).1
  have hci : ∀ i v, (i, v) ∈ ([] : List (Nat × Int32)) → (Jvm.Cond.constant "com/example/marks_across_domains/marksacrossdomains/Bits" i v).before #[(.ref x0), (.ref x1)] s = true := own_ci0
  have hcl : ∀ i v, (i, v) ∈ ([] : List (Nat × Int64)) → (Jvm.Cond.constantLong "com/example/marks_across_domains/marksacrossdomains/Bits" i v).before #[(.ref x0), (.ref x1)] s = true := own_ci0
  have X0 : Stand p l e ({ frames := 1, cells := 1, slots := 2, locals := 14 } : Room) s m #[(.ref x0), (.ref x1)] below meth c s₁ [] 0 0 := Stand.of_body Bd
  have e0 : s₁.heap = h0 := by rw [← hh, Bd.state]; rfl
  have N0 := Fr.nil n0
  show Goes p e below s (Q321 Z x0 x1 kx ky u0 u1 t0 h0 n0) ({ frames := 1, cells := 1, slots := 2, locals := 14 } : Room).cells ({ frames := 1, cells := 1, slots := 2, locals := 14 } : Room).slots (s₁.setTop (entryFrame m #[(.ref x0), (.ref x1)] 6))
  refine Goes.cast (ef321 m x0 x1) ?_
  have K0 : Keep h0 h0 [] := Keep.refl h0 _
  refine Goes.run X0 hx hown hci hcl hby (L := [(0, .aload_n 0, 1)]) (by decide +kernel) rfl (g' := (mkF m 1 #[.val (.ref x0), .val (.ref x1), .unset, .unset, .unset, .unset] [(.ref x0)])) rfl ?_
  obtain ⟨cl1, Ar1, q1, S1, M1, Hs1, G1⟩ := id V_x0
  refine Goes.st (B := s₁.setTop (mkF m 2 #[.val (.ref x0), .val (.ref x1), .unset, .unset, .unset, .unset] [(.int (2 : Int32))])) (fun t k => ?_) ?_
  · refine X0.arraylength hx (cell := cl1) (by rw [e0]; exact Ar1.1) (State.isArrayOf_alike hZ.alike Ar1.2.1) (g := (mkF m 1 #[.val (.ref x0), .val (.ref x1), .unset, .unset, .unset, .unset] [(.ref x0)])) rfl (rest := []) rfl (hb hby d321_1) _ ?_
    rw [len_of S1 M1]
    exact k
  refine Goes.run X0 hx hown hci hcl hby (L := [(2, .aload_n 1, 1)]) (by decide +kernel) rfl (g' := (mkF m 3 #[.val (.ref x0), .val (.ref x1), .unset, .unset, .unset, .unset] [(.ref x1), (.int (2 : Int32))])) rfl ?_
  obtain ⟨cl2, Ar2, q2, S2, M2, Hs2, G2⟩ := id V_x1
  refine Goes.st (B := s₁.setTop (mkF m 4 #[.val (.ref x0), .val (.ref x1), .unset, .unset, .unset, .unset] [(.int (1 : Int32)), (.int (2 : Int32))])) (fun t k => ?_) ?_
  · refine X0.arraylength hx (cell := cl2) (by rw [e0]; exact Ar2.1) (State.isArrayOf_alike hZ.alike Ar2.2.1) (g := (mkF m 3 #[.val (.ref x0), .val (.ref x1), .unset, .unset, .unset, .unset] [(.ref x1), (.int (2 : Int32))])) rfl (rest := [(.int (2 : Int32))]) rfl (hb hby d321_3) _ ?_
    rw [len_of S2 M2]
    exact k
  have hc4_3 : ¬ ((2 : Int32) < (1 : Int32)) := by decide
  refine Goes.st (B := s₁.setTop (mkF m 7 #[.val (.ref x0), .val (.ref x1), .unset, .unset, .unset, .unset] [])) (fun t k => ?_) ?_
  · refine XS.icmpNo X0.here hx rfl (hb hby d321_4) rfl (flt hc4_3).1 ?_
    exact k
  refine Goes.run X0 hx hown hci hcl hby (L := [(7, .aload_n 0, 1), (8, .goto 4, 3), (12, .astore_n 2, 1), (13, .aload_n 0, 1)]) (by decide +kernel) rfl (g' := (mkF m 14 #[.val (.ref x0), .val (.ref x1), .val (.ref x0), .unset, .unset, .unset] [(.ref x0)])) rfl ?_
  obtain ⟨cl4, Ar4, q4, S4, M4, Hs4, G4⟩ := id V_x0
  refine Goes.st (B := s₁.setTop (mkF m 15 #[.val (.ref x0), .val (.ref x1), .val (.ref x0), .unset, .unset, .unset] [(.int (2 : Int32))])) (fun t k => ?_) ?_
  · refine X0.arraylength hx (cell := cl4) (by rw [e0]; exact Ar4.1) (State.isArrayOf_alike hZ.alike Ar4.2.1) (g := (mkF m 14 #[.val (.ref x0), .val (.ref x1), .val (.ref x0), .unset, .unset, .unset] [(.ref x0)])) rfl (rest := []) rfl (hb hby d321_14) _ ?_
    rw [len_of S4 M4]
    exact k
  refine Goes.run X0 hx hown hci hcl hby (L := [(15, .aload_n 1, 1)]) (by decide +kernel) rfl (g' := (mkF m 16 #[.val (.ref x0), .val (.ref x1), .val (.ref x0), .unset, .unset, .unset] [(.ref x1), (.int (2 : Int32))])) rfl ?_
  obtain ⟨cl5, Ar5, q5, S5, M5, Hs5, G5⟩ := id V_x1
  refine Goes.st (B := s₁.setTop (mkF m 17 #[.val (.ref x0), .val (.ref x1), .val (.ref x0), .unset, .unset, .unset] [(.int (1 : Int32)), (.int (2 : Int32))])) (fun t k => ?_) ?_
  · refine X0.arraylength hx (cell := cl5) (by rw [e0]; exact Ar5.1) (State.isArrayOf_alike hZ.alike Ar5.2.1) (g := (mkF m 16 #[.val (.ref x0), .val (.ref x1), .val (.ref x0), .unset, .unset, .unset] [(.ref x1), (.int (2 : Int32))])) rfl (rest := [(.int (2 : Int32))]) rfl (hb hby d321_16) _ ?_
    rw [len_of S5 M5]
    exact k
  have hc17_6 : ¬ ((2 : Int32) < (1 : Int32)) := by decide
  refine Goes.st (B := s₁.setTop (mkF m 20 #[.val (.ref x0), .val (.ref x1), .val (.ref x0), .unset, .unset, .unset] [])) (fun t k => ?_) ?_
  · refine XS.icmpNo X0.here hx rfl (hb hby d321_17) rfl (flt hc17_6).1 ?_
    exact k
  refine Goes.run X0 hx hown hci hcl hby (L := [(20, .aload_n 1, 1), (21, .goto 4, 3), (25, .astore_n 3, 1), (26, .aload_n 2, 1)]) (by decide +kernel) rfl (g' := (mkF m 27 #[.val (.ref x0), .val (.ref x1), .val (.ref x0), .val (.ref x1), .unset, .unset] [(.ref x0)])) rfl ?_
  obtain ⟨T7, h7, X7, e7, E7, A7, B7, st7⟩ := cloneH X0 hx hZ hown (hw _ (List.mem_of_getElem? (i := 9) rfl)) (hw _ (List.mem_of_getElem? (i := 10) rfl)) (hw _ (List.mem_of_getElem? (i := 14) rfl)) (hw _ (List.mem_of_getElem? (i := 12) rfl)) (hw _ (List.mem_of_getElem? (i := 13) rfl)) (hw _ (List.mem_of_getElem? (i := 15) rfl)) e0 V_x0.arh E_x0 (g := (mkF m 27 #[.val (.ref x0), .val (.ref x1), .val (.ref x0), .val (.ref x1), .unset, .unset] [(.ref x0)])) rfl (by rw [hml]; rfl) rfl (hb hby d321_27) (by decide) (W := 0) (cap := 2) (by show 2 * 0 + _ ≤ _; exact Nat.le_of_eq rfl) (by decide) (by decide) (by decide) (by decide)
  obtain ⟨b7, g7⟩ : ∃ z, z = h0.size := ⟨_, rfl⟩
  rw [← g7] at A7 B7 st7
  have ne_x0_b7 : x0 ≠ b7 := Nat.ne_of_lt (Nat.lt_of_lt_of_le E_x0.lt (Nat.le_of_eq g7.symm))
  have ne_x1_b7 : x1 ≠ b7 := Nat.ne_of_lt (Nat.lt_of_lt_of_le E_x1.lt (Nat.le_of_eq g7.symm))
  have g_b7 : n0 ≤ b7 := Nat.le_trans Z0 (Nat.le_of_eq g7.symm)
  have sz_b7 : h0.size ≤ b7 := Nat.le_trans K0.1 (Nat.le_of_eq g7.symm)
  have E_x0 := E_x0.ext E7
  have V_x0 := V_x0.ext E7
  have E_x1 := E_x1.ext E7
  have V_x1 := V_x1.ext E7
  have Zn7 : n0 ≤ h7.size := Nat.le_trans Z0 E7.1
  have K7 := K0.ext E7
  have E_b7 : Exa Z h7 b7 "[J" := B7
  have V_b7 : Arv Z h7 b7 kx .long (2 : Int32) [(.long u0), (.long u1)] (.long (0 : Int64)) := A7
  refine Goes.st (B := T7.setTop (mkF m 30 #[.val (.ref x0), .val (.ref x1), .val (.ref x0), .val (.ref x1), .unset, .unset] [(.ref b7)])) st7 ?_
  obtain ⟨T8, X8, e8, st8⟩ := castY X7 hx hZ hown (hw _ (List.mem_of_getElem? (i := 16) rfl)) e7 (Ins.self E_b7) (g := (mkF m 30 #[.val (.ref x0), .val (.ref x1), .val (.ref x0), .val (.ref x1), .unset, .unset] [(.ref b7)])) rfl rfl (hb hby d321_30)
  refine Goes.st (B := T8.setTop (mkF m 33 #[.val (.ref x0), .val (.ref x1), .val (.ref x0), .val (.ref x1), .unset, .unset] [(.ref b7)])) st8 ?_
  refine Goes.run X8 hx hown hci hcl hby (L := [(33, .astore 4, 2), (35, .iconst 0, 1), (36, .istore 5, 2), (38, .iload 5, 2), (40, .aload_n 3, 1)]) (by decide +kernel) rfl (g' := (mkF m 41 #[.val (.ref x0), .val (.ref x1), .val (.ref x0), .val (.ref x1), .val (.ref b7), .val (.int (0 : Int32))] [(.ref x1), (.int (0 : Int32))])) rfl ?_
  obtain ⟨cl9, Ar9, q9, S9, M9, Hs9, G9⟩ := id V_x1
  refine Goes.st (B := T8.setTop (mkF m 42 #[.val (.ref x0), .val (.ref x1), .val (.ref x0), .val (.ref x1), .val (.ref b7), .val (.int (0 : Int32))] [(.int (1 : Int32)), (.int (0 : Int32))])) (fun t k => ?_) ?_
  · refine X8.arraylength hx (cell := cl9) (by rw [e8]; exact Ar9.1) (State.isArrayOf_alike hZ.alike Ar9.2.1) (g := (mkF m 41 #[.val (.ref x0), .val (.ref x1), .val (.ref x0), .val (.ref x1), .val (.ref b7), .val (.int (0 : Int32))] [(.ref x1), (.int (0 : Int32))])) rfl (rest := [(.int (0 : Int32))]) rfl (hb hby d321_41) _ ?_
    rw [len_of S9 M9]
    exact k
  have hc42_10 : (0 : Int32) < (1 : Int32) := by decide
  refine Goes.st (B := T8.setTop (mkF m 45 #[.val (.ref x0), .val (.ref x1), .val (.ref x0), .val (.ref x1), .val (.ref b7), .val (.int (0 : Int32))] [])) (fun t k => ?_) ?_
  · refine XS.icmpNo X8.here hx rfl (hb hby d321_42) rfl (tlt hc42_10).2.1 ?_
    exact k
  refine Goes.run X8 hx hown hci hcl hby (L := [(45, .aload 4, 2), (47, .iload 5, 2)]) (by decide +kernel) rfl (g' := (mkF m 49 #[.val (.ref x0), .val (.ref x1), .val (.ref x0), .val (.ref x1), .val (.ref b7), .val (.int (0 : Int32))] [(.int (0 : Int32)), (.ref b7)])) rfl ?_
  refine Goes.st (B := T8.setTop (mkF m 50 #[.val (.ref x0), .val (.ref x1), .val (.ref x0), .val (.ref x1), .val (.ref b7), .val (.int (0 : Int32))] [(.int (0 : Int32)), (.ref b7), (.int (0 : Int32)), (.ref b7)])) (fun t k => ?_) ?_
  · refine Jvm.Free.XT.dup2 X8.here hx rfl (hb hby d321_49) rfl rfl rfl ?_
    exact k
  obtain ⟨cl11, Ar11, q11, S11, M11, Hs11, G11⟩ := id V_b7
  have hin11 : ¬ ((0 : Int32) < 0 ∨ cl11.slots.size ≤ ((0 : Int32)).toNatClampNeg) := inb_of S11 ⟨(by decide), (by decide)⟩
  have hat11 : cl11.slots[((0 : Int32)).toNatClampNeg]? = some (.long u0) := Hs11.at hin11 rfl
  refine Goes.st (B := T8.setTop (mkF m 51 #[.val (.ref x0), .val (.ref x1), .val (.ref x0), .val (.ref x1), .val (.ref b7), .val (.int (0 : Int32))] [(.long u0), (.int (0 : Int32)), (.ref b7)])) (X8.laload hx (j := (0 : Int32)) (v := (.long u0)) (by rw [e8]; exact Ar11.1) (State.isArrayOf_alike hZ.alike Ar11.2.1) Ar11.2.2 hin11 hat11 (g := (mkF m 50 #[.val (.ref x0), .val (.ref x1), .val (.ref x0), .val (.ref x1), .val (.ref b7), .val (.int (0 : Int32))] [(.int (0 : Int32)), (.ref b7), (.int (0 : Int32)), (.ref b7)])) rfl rfl (hb hby d321_50)) ?_
  refine Goes.run X8 hx hown hci hcl hby (L := [(51, .aload_n 3, 1), (52, .iload 5, 2)]) (by decide +kernel) rfl (g' := (mkF m 54 #[.val (.ref x0), .val (.ref x1), .val (.ref x0), .val (.ref x1), .val (.ref b7), .val (.int (0 : Int32))] [(.int (0 : Int32)), (.ref x1), (.long u0), (.int (0 : Int32)), (.ref b7)])) rfl ?_
  obtain ⟨cl12, Ar12, q12, S12, M12, Hs12, G12⟩ := id V_x1
  have hin12 : ¬ ((0 : Int32) < 0 ∨ cl12.slots.size ≤ ((0 : Int32)).toNatClampNeg) := inb_of S12 ⟨(by decide), (by decide)⟩
  have hat12 : cl12.slots[((0 : Int32)).toNatClampNeg]? = some (.long t0) := Hs12.at hin12 rfl
  refine Goes.st (B := T8.setTop (mkF m 55 #[.val (.ref x0), .val (.ref x1), .val (.ref x0), .val (.ref x1), .val (.ref b7), .val (.int (0 : Int32))] [(.long t0), (.long u0), (.int (0 : Int32)), (.ref b7)])) (X8.laload hx (j := (0 : Int32)) (v := (.long t0)) (by rw [e8]; exact Ar12.1) (State.isArrayOf_alike hZ.alike Ar12.2.1) Ar12.2.2 hin12 hat12 (g := (mkF m 54 #[.val (.ref x0), .val (.ref x1), .val (.ref x0), .val (.ref x1), .val (.ref b7), .val (.int (0 : Int32))] [(.int (0 : Int32)), (.ref x1), (.long u0), (.int (0 : Int32)), (.ref b7)])) rfl rfl (hb hby d321_54)) ?_
  refine Goes.run X8 hx hown hci hcl hby (L := [(55, .lor, 1)]) (by decide +kernel) rfl (g' := (mkF m 56 #[.val (.ref x0), .val (.ref x1), .val (.ref x0), .val (.ref x1), .val (.ref b7), .val (.int (0 : Int32))] [(.long (u0 ||| t0)), (.int (0 : Int32)), (.ref b7)])) rfl ?_
  obtain ⟨cl13, Ar13, q13, S13, M13, Hs13, G13⟩ := id V_b7
  have hin13 : ¬ ((0 : Int32) < 0 ∨ cl13.slots.size ≤ ((0 : Int32)).toNatClampNeg) := inb_of S13 ⟨(by decide), (by decide)⟩
  obtain ⟨T13, h13, X13, e13, W13, st13⟩ := stJ X8 hx hZ e8 Ar13 (j := (0 : Int32)) hin13 (g := (mkF m 56 #[.val (.ref x0), .val (.ref x1), .val (.ref x0), .val (.ref x1), .val (.ref b7), .val (.int (0 : Int32))] [(.long (u0 ||| t0)), (.int (0 : Int32)), (.ref b7)])) rfl rfl (hb hby d321_56)
  have E_x0 := E_x0.wr W13
  have V_x0 := V_x0.other W13 ne_x0_b7
  have E_x1 := E_x1.wr W13
  have V_x1 := V_x1.other W13 ne_x1_b7
  have E_b7 := E_b7.wr W13
  have Zn13 : n0 ≤ h13.size := Nat.le_trans Zn7 (Keep.of_wr W13).1
  have K13 := K7.wr W13 (Or.inr sz_b7)
  have N13 := Fr.snoc X13 N0 g_b7
  have V_b7 : Arv Z h13 b7 kx .long (2 : Int32) [(.long (u0 ||| t0)), (.long u1)] (.long (0 : Int64)) := Arv.set Ar13 q13 S13 M13 Hs13 G13 rfl W13 0 rfl (Nat.le_of_ble_eq_true rfl)
  refine Goes.st (B := T13.setTop (mkF m 57 #[.val (.ref x0), .val (.ref x1), .val (.ref x0), .val (.ref x1), .val (.ref b7), .val (.int (0 : Int32))] [])) st13 ?_
  refine Goes.run X13 hx hown hci hcl hby (L := [(57, .iinc 5 1, 3), (60, .goto (-22), 3), (38, .iload 5, 2), (40, .aload_n 3, 1)]) (by decide +kernel) rfl (g' := (mkF m 41 #[.val (.ref x0), .val (.ref x1), .val (.ref x0), .val (.ref x1), .val (.ref b7), .val (.int (1 : Int32))] [(.ref x1), (.int (1 : Int32))])) rfl ?_
  obtain ⟨cl14, Ar14, q14, S14, M14, Hs14, G14⟩ := id V_x1
  refine Goes.st (B := T13.setTop (mkF m 42 #[.val (.ref x0), .val (.ref x1), .val (.ref x0), .val (.ref x1), .val (.ref b7), .val (.int (1 : Int32))] [(.int (1 : Int32)), (.int (1 : Int32))])) (fun t k => ?_) ?_
  · refine X13.arraylength hx (cell := cl14) (by rw [e13]; exact Ar14.1) (State.isArrayOf_alike hZ.alike Ar14.2.1) (g := (mkF m 41 #[.val (.ref x0), .val (.ref x1), .val (.ref x0), .val (.ref x1), .val (.ref b7), .val (.int (1 : Int32))] [(.ref x1), (.int (1 : Int32))])) rfl (rest := [(.int (1 : Int32))]) rfl (hb hby d321_41) _ ?_
    rw [len_of S14 M14]
    exact k
  have hc42_15 : ¬ ((1 : Int32) < (1 : Int32)) := Int32.lt_irrefl
  refine Goes.st (B := T13.setTop (mkF m 63 #[.val (.ref x0), .val (.ref x1), .val (.ref x0), .val (.ref x1), .val (.ref b7), .val (.int (1 : Int32))] [])) (fun t k => ?_) ?_
  · refine XS.icmpYes X13.here hx rfl (pc0 := 42) (pc' := 63) rfl (hb hby d321_42) rfl (flt hc42_15).2.1 (by decide) (by decide) ?_
    exact k
  refine Goes.run X13 hx hown hci hcl hby (L := [(63, .aload 4, 2)]) (by decide +kernel) rfl (g' := (mkF m 65 #[.val (.ref x0), .val (.ref x1), .val (.ref x0), .val (.ref x1), .val (.ref b7), .val (.int (1 : Int32))] [(.ref b7)])) rfl ?_
  refine Goes.retR X13 hx hlk Bd.returns rfl rfl (hb hby d321_65) ?_ (by decide) (by decide)
  show (Q321 Z x0 x1 kx ky u0 u1 t0 h0 n0) _ _ _
  rw [e13]
  exact ⟨b7, kx, rfl, N13, K13, sz_b7, E_b7, V_b7⟩
theorem d322_0 : decode prog_3_method_8_code 0 = .ok (.aload_n 0, 1) := by decide +kernel
theorem d322_1 : decode prog_3_method_8_code 1 = .ok (.arraylength, 1) := by decide +kernel
theorem d322_2 : decode prog_3_method_8_code 2 = .ok (.aload_n 1, 1) := by decide +kernel
theorem d322_3 : decode prog_3_method_8_code 3 = .ok (.arraylength, 1) := by decide +kernel
theorem d322_4 : decode prog_3_method_8_code 4 = .ok (.if_icmp .lt 7, 3) := by decide +kernel
theorem d322_7 : decode prog_3_method_8_code 7 = .ok (.aload_n 0, 1) := by decide +kernel
theorem d322_8 : decode prog_3_method_8_code 8 = .ok (.goto 4, 3) := by decide +kernel
theorem d322_12 : decode prog_3_method_8_code 12 = .ok (.astore_n 2, 1) := by decide +kernel
theorem d322_13 : decode prog_3_method_8_code 13 = .ok (.aload_n 0, 1) := by decide +kernel
theorem d322_14 : decode prog_3_method_8_code 14 = .ok (.arraylength, 1) := by decide +kernel
theorem d322_15 : decode prog_3_method_8_code 15 = .ok (.aload_n 1, 1) := by decide +kernel
theorem d322_16 : decode prog_3_method_8_code 16 = .ok (.arraylength, 1) := by decide +kernel
theorem d322_17 : decode prog_3_method_8_code 17 = .ok (.if_icmp .lt 7, 3) := by decide +kernel
theorem d322_20 : decode prog_3_method_8_code 20 = .ok (.aload_n 1, 1) := by decide +kernel
theorem d322_21 : decode prog_3_method_8_code 21 = .ok (.goto 4, 3) := by decide +kernel
theorem d322_25 : decode prog_3_method_8_code 25 = .ok (.astore_n 3, 1) := by decide +kernel
theorem d322_26 : decode prog_3_method_8_code 26 = .ok (.aload_n 2, 1) := by decide +kernel
theorem d322_27 : decode prog_3_method_8_code 27 = .ok (.invokevirtual 43, 3) := by decide +kernel
theorem d322_30 : decode prog_3_method_8_code 30 = .ok (.checkcast 44, 3) := by decide +kernel
theorem d322_33 : decode prog_3_method_8_code 33 = .ok (.astore 4, 2) := by decide +kernel
theorem d322_35 : decode prog_3_method_8_code 35 = .ok (.iconst 0, 1) := by decide +kernel
theorem d322_36 : decode prog_3_method_8_code 36 = .ok (.istore 5, 2) := by decide +kernel
theorem d322_38 : decode prog_3_method_8_code 38 = .ok (.iload 5, 2) := by decide +kernel
theorem d322_40 : decode prog_3_method_8_code 40 = .ok (.aload_n 3, 1) := by decide +kernel
theorem d322_41 : decode prog_3_method_8_code 41 = .ok (.arraylength, 1) := by decide +kernel
theorem d322_42 : decode prog_3_method_8_code 42 = .ok (.if_icmp .ge 21, 3) := by decide +kernel
theorem d322_45 : decode prog_3_method_8_code 45 = .ok (.aload 4, 2) := by decide +kernel
theorem d322_47 : decode prog_3_method_8_code 47 = .ok (.iload 5, 2) := by decide +kernel
theorem d322_49 : decode prog_3_method_8_code 49 = .ok (.dup2, 1) := by decide +kernel
theorem d322_50 : decode prog_3_method_8_code 50 = .ok (.laload, 1) := by decide +kernel
theorem d322_51 : decode prog_3_method_8_code 51 = .ok (.aload_n 3, 1) := by decide +kernel
theorem d322_52 : decode prog_3_method_8_code 52 = .ok (.iload 5, 2) := by decide +kernel
theorem d322_54 : decode prog_3_method_8_code 54 = .ok (.laload, 1) := by decide +kernel
theorem d322_55 : decode prog_3_method_8_code 55 = .ok (.lor, 1) := by decide +kernel
theorem d322_56 : decode prog_3_method_8_code 56 = .ok (.lastore, 1) := by decide +kernel
theorem d322_57 : decode prog_3_method_8_code 57 = .ok (.iinc 5 1, 3) := by decide +kernel
theorem d322_60 : decode prog_3_method_8_code 60 = .ok (.goto (-22), 3) := by decide +kernel
theorem d322_63 : decode prog_3_method_8_code 63 = .ok (.aload 4, 2) := by decide +kernel
theorem d322_65 : decode prog_3_method_8_code 65 = .ok (.areturn, 1) := by decide +kernel
theorem pn322 : plainName "com/example/marks_across_domains/marksacrossdomains/Bits" = true := by first | (simp [plainName, overriddenIn]; done) | decide +kernel
theorem ef322 (m : MethodId) (x0 : Addr) (x1 : Addr) : entryFrame m #[(.ref x0), (.ref x1)] 6 = (mkF m 0 #[.val (.ref x0), .val (.ref x1), .unset, .unset, .unset, .unset] []) := by first | (simp [entryFrame, mkF, argsToLocals, Value.category]; done) | rfl
def Q322 (Z : State) (x0 : Addr) (x1 : Addr) (kx : ClassId) (ky : ClassId) (u0 : Int64) (u1 : Int64) (t0 : Int64) (t1 : Int64) (h0 : Heap) (n0 : Nat) (v : Option Value) (h : Heap) (L : List Loc) : Prop := ∃ (b : Addr) (k : ClassId), v = some (.ref b) ∧ Fr n0 L ∧ Keep h0 h [] ∧ h0.size ≤ b ∧ Exa Z h b "[J" ∧ Arv Z h b k .long (2 : Int32) [(.long (u0 ||| t0)), (.long (u1 ||| t1))] (.long (0 : Int64))
set_option maxRecDepth 65536 in
set_option maxHeartbeats 40000000 in
theorem rm322 (l : Launch) (Z : State) (a0 : Array Value) (hw : ∀ d ∈ tables_1, d.before a0 Z = true) (ws : List Jvm.Cond) (x0 : Addr) (x1 : Addr) (kx : ClassId) (ky : ClassId) (u0 : Int64) (u1 : Int64) (t0 : Int64) (t1 : Int64) (h0 : Heap) (n0 : Nat) (Z0 : n0 ≤ h0.size) (E_x0 : Exa Z h0 x0 "[J") (V_x0 : Arv Z h0 x0 kx .long (2 : Int32) [(.long u0), (.long u1)] (.long (0 : Int64))) (E_x1 : Exa Z h0 x1 "[J") (V_x1 : Arv Z h0 x1 ky .long (2 : Int32) [(.long t0), (.long t1)] (.long (0 : Int64))) :
    MetFree l (⟨"com/example/marks_across_domains/marksacrossdomains/Bits", "union", "([J[J)[J"⟩ : MethodName) (head1 (Jvm.Cond.code (⟨"com/example/marks_across_domains/marksacrossdomains/Bits", "union", "([J[J)[J"⟩ : MethodName) prog_3_method_8_code 6 (some (.array .long)) :: ws) ({ frames := 1, cells := 1, slots := 2, locals := 14 } : Room)) (fun a U => a = #[(.ref x0), (.ref x1)] ∧ Z.Warmed39 U.vm ∧ U.heap = h0) (fun _ _ _ _ _ => True) (fun _ U o U' => ∃ v L, o = .returned v ∧ (Q322 Z x0 x1 kx ky u0 u1 t0 t1 h0 n0) v U'.heap L ∧ FrameEnd U o U' L ({ frames := 1, cells := 1, slots := 2, locals := 14 } : Room).cells ({ frames := 1, cells := 1, slots := 2, locals := 14 } : Room).slots) := by
  refine MetFree.of_bodySF (plainFor_of_name pn322) hisR ?_
  intro p e s m args below meth c s₁ Bd hml0 hP hK
  obtain ⟨rfl, hZ, hh⟩ := hP
  have hx := Bd.exec
  have hby := Bd.bytes
  have hml : c.maxLocals = 6 := hml0
  have hlk : meth.locks = false := BodyLoose.notSynchronized Bd
  have hown : s.vm.findClass "com/example/marks_across_domains/marksacrossdomains/Bits" = some m.cls := findClass_of_methodNamed Bd.named
  have hnm := (name_of_methodNamed Bd.named Bd.method).1
  have hci : ∀ i v, (i, v) ∈ ([] : List (Nat × Int32)) → (Jvm.Cond.constant "com/example/marks_across_domains/marksacrossdomains/Bits" i v).before #[(.ref x0), (.ref x1)] s = true := own_ci0
  have hcl : ∀ i v, (i, v) ∈ ([] : List (Nat × Int64)) → (Jvm.Cond.constantLong "com/example/marks_across_domains/marksacrossdomains/Bits" i v).before #[(.ref x0), (.ref x1)] s = true := own_ci0
  have X0 : Stand p l e ({ frames := 1, cells := 1, slots := 2, locals := 14 } : Room) s m #[(.ref x0), (.ref x1)] below meth c s₁ [] 0 0 := Stand.of_body Bd
  have e0 : s₁.heap = h0 := by rw [← hh, Bd.state]; rfl
  have N0 := Fr.nil n0
  show Goes p e below s (Q322 Z x0 x1 kx ky u0 u1 t0 t1 h0 n0) ({ frames := 1, cells := 1, slots := 2, locals := 14 } : Room).cells ({ frames := 1, cells := 1, slots := 2, locals := 14 } : Room).slots (s₁.setTop (entryFrame m #[(.ref x0), (.ref x1)] 6))
  refine Goes.cast (ef322 m x0 x1) ?_
  have K0 : Keep h0 h0 [] := Keep.refl h0 _
  refine Goes.run X0 hx hown hci hcl hby (L := [(0, .aload_n 0, 1)]) (by decide +kernel) rfl (g' := (mkF m 1 #[.val (.ref x0), .val (.ref x1), .unset, .unset, .unset, .unset] [(.ref x0)])) rfl ?_
  obtain ⟨cl1, Ar1, q1, S1, M1, Hs1, G1⟩ := id V_x0
  refine Goes.st (B := s₁.setTop (mkF m 2 #[.val (.ref x0), .val (.ref x1), .unset, .unset, .unset, .unset] [(.int (2 : Int32))])) (fun t k => ?_) ?_
  · refine X0.arraylength hx (cell := cl1) (by rw [e0]; exact Ar1.1) (State.isArrayOf_alike hZ.alike Ar1.2.1) (g := (mkF m 1 #[.val (.ref x0), .val (.ref x1), .unset, .unset, .unset, .unset] [(.ref x0)])) rfl (rest := []) rfl (hb hby d322_1) _ ?_
    rw [len_of S1 M1]
    exact k
  refine Goes.run X0 hx hown hci hcl hby (L := [(2, .aload_n 1, 1)]) (by decide +kernel) rfl (g' := (mkF m 3 #[.val (.ref x0), .val (.ref x1), .unset, .unset, .unset, .unset] [(.ref x1), (.int (2 : Int32))])) rfl ?_
  obtain ⟨cl2, Ar2, q2, S2, M2, Hs2, G2⟩ := id V_x1
  refine Goes.st (B := s₁.setTop (mkF m 4 #[.val (.ref x0), .val (.ref x1), .unset, .unset, .unset, .unset] [(.int (2 : Int32)), (.int (2 : Int32))])) (fun t k => ?_) ?_
  · refine X0.arraylength hx (cell := cl2) (by rw [e0]; exact Ar2.1) (State.isArrayOf_alike hZ.alike Ar2.2.1) (g := (mkF m 3 #[.val (.ref x0), .val (.ref x1), .unset, .unset, .unset, .unset] [(.ref x1), (.int (2 : Int32))])) rfl (rest := [(.int (2 : Int32))]) rfl (hb hby d322_3) _ ?_
    rw [len_of S2 M2]
    exact k
  have hc4_3 : ¬ ((2 : Int32) < (2 : Int32)) := Int32.lt_irrefl
  refine Goes.st (B := s₁.setTop (mkF m 7 #[.val (.ref x0), .val (.ref x1), .unset, .unset, .unset, .unset] [])) (fun t k => ?_) ?_
  · refine XS.icmpNo X0.here hx rfl (hb hby d322_4) rfl (flt hc4_3).1 ?_
    exact k
  refine Goes.run X0 hx hown hci hcl hby (L := [(7, .aload_n 0, 1), (8, .goto 4, 3), (12, .astore_n 2, 1), (13, .aload_n 0, 1)]) (by decide +kernel) rfl (g' := (mkF m 14 #[.val (.ref x0), .val (.ref x1), .val (.ref x0), .unset, .unset, .unset] [(.ref x0)])) rfl ?_
  obtain ⟨cl4, Ar4, q4, S4, M4, Hs4, G4⟩ := id V_x0
  refine Goes.st (B := s₁.setTop (mkF m 15 #[.val (.ref x0), .val (.ref x1), .val (.ref x0), .unset, .unset, .unset] [(.int (2 : Int32))])) (fun t k => ?_) ?_
  · refine X0.arraylength hx (cell := cl4) (by rw [e0]; exact Ar4.1) (State.isArrayOf_alike hZ.alike Ar4.2.1) (g := (mkF m 14 #[.val (.ref x0), .val (.ref x1), .val (.ref x0), .unset, .unset, .unset] [(.ref x0)])) rfl (rest := []) rfl (hb hby d322_14) _ ?_
    rw [len_of S4 M4]
    exact k
  refine Goes.run X0 hx hown hci hcl hby (L := [(15, .aload_n 1, 1)]) (by decide +kernel) rfl (g' := (mkF m 16 #[.val (.ref x0), .val (.ref x1), .val (.ref x0), .unset, .unset, .unset] [(.ref x1), (.int (2 : Int32))])) rfl ?_
  obtain ⟨cl5, Ar5, q5, S5, M5, Hs5, G5⟩ := id V_x1
  refine Goes.st (B := s₁.setTop (mkF m 17 #[.val (.ref x0), .val (.ref x1), .val (.ref x0), .unset, .unset, .unset] [(.int (2 : Int32)), (.int (2 : Int32))])) (fun t k => ?_) ?_
  · refine X0.arraylength hx (cell := cl5) (by rw [e0]; exact Ar5.1) (State.isArrayOf_alike hZ.alike Ar5.2.1) (g := (mkF m 16 #[.val (.ref x0), .val (.ref x1), .val (.ref x0), .unset, .unset, .unset] [(.ref x1), (.int (2 : Int32))])) rfl (rest := [(.int (2 : Int32))]) rfl (hb hby d322_16) _ ?_
    rw [len_of S5 M5]
    exact k
  have hc17_6 : ¬ ((2 : Int32) < (2 : Int32)) := Int32.lt_irrefl
  refine Goes.st (B := s₁.setTop (mkF m 20 #[.val (.ref x0), .val (.ref x1), .val (.ref x0), .unset, .unset, .unset] [])) (fun t k => ?_) ?_
  · refine XS.icmpNo X0.here hx rfl (hb hby d322_17) rfl (flt hc17_6).1 ?_
    exact k
  refine Goes.run X0 hx hown hci hcl hby (L := [(20, .aload_n 1, 1), (21, .goto 4, 3), (25, .astore_n 3, 1), (26, .aload_n 2, 1)]) (by decide +kernel) rfl (g' := (mkF m 27 #[.val (.ref x0), .val (.ref x1), .val (.ref x0), .val (.ref x1), .unset, .unset] [(.ref x0)])) rfl ?_
  obtain ⟨T7, h7, X7, e7, E7, A7, B7, st7⟩ := cloneH X0 hx hZ hown (hw _ (List.mem_of_getElem? (i := 9) rfl)) (hw _ (List.mem_of_getElem? (i := 10) rfl)) (hw _ (List.mem_of_getElem? (i := 14) rfl)) (hw _ (List.mem_of_getElem? (i := 12) rfl)) (hw _ (List.mem_of_getElem? (i := 13) rfl)) (hw _ (List.mem_of_getElem? (i := 15) rfl)) e0 V_x0.arh E_x0 (g := (mkF m 27 #[.val (.ref x0), .val (.ref x1), .val (.ref x0), .val (.ref x1), .unset, .unset] [(.ref x0)])) rfl (by rw [hml]; rfl) rfl (hb hby d322_27) (by decide) (W := 0) (cap := 2) (by show 2 * 0 + _ ≤ _; exact Nat.le_of_eq rfl) (by decide) (by decide) (by decide) (by decide)
  obtain ⟨b7, g7⟩ : ∃ z, z = h0.size := ⟨_, rfl⟩
  rw [← g7] at A7 B7 st7
  have ne_x0_b7 : x0 ≠ b7 := Nat.ne_of_lt (Nat.lt_of_lt_of_le E_x0.lt (Nat.le_of_eq g7.symm))
  have ne_x1_b7 : x1 ≠ b7 := Nat.ne_of_lt (Nat.lt_of_lt_of_le E_x1.lt (Nat.le_of_eq g7.symm))
  have g_b7 : n0 ≤ b7 := Nat.le_trans Z0 (Nat.le_of_eq g7.symm)
  have sz_b7 : h0.size ≤ b7 := Nat.le_trans K0.1 (Nat.le_of_eq g7.symm)
  have E_x0 := E_x0.ext E7
  have V_x0 := V_x0.ext E7
  have E_x1 := E_x1.ext E7
  have V_x1 := V_x1.ext E7
  have Zn7 : n0 ≤ h7.size := Nat.le_trans Z0 E7.1
  have K7 := K0.ext E7
  have E_b7 : Exa Z h7 b7 "[J" := B7
  have V_b7 : Arv Z h7 b7 kx .long (2 : Int32) [(.long u0), (.long u1)] (.long (0 : Int64)) := A7
  refine Goes.st (B := T7.setTop (mkF m 30 #[.val (.ref x0), .val (.ref x1), .val (.ref x0), .val (.ref x1), .unset, .unset] [(.ref b7)])) st7 ?_
  obtain ⟨T8, X8, e8, st8⟩ := castY X7 hx hZ hown (hw _ (List.mem_of_getElem? (i := 16) rfl)) e7 (Ins.self E_b7) (g := (mkF m 30 #[.val (.ref x0), .val (.ref x1), .val (.ref x0), .val (.ref x1), .unset, .unset] [(.ref b7)])) rfl rfl (hb hby d322_30)
  refine Goes.st (B := T8.setTop (mkF m 33 #[.val (.ref x0), .val (.ref x1), .val (.ref x0), .val (.ref x1), .unset, .unset] [(.ref b7)])) st8 ?_
  refine Goes.run X8 hx hown hci hcl hby (L := [(33, .astore 4, 2), (35, .iconst 0, 1), (36, .istore 5, 2), (38, .iload 5, 2), (40, .aload_n 3, 1)]) (by decide +kernel) rfl (g' := (mkF m 41 #[.val (.ref x0), .val (.ref x1), .val (.ref x0), .val (.ref x1), .val (.ref b7), .val (.int (0 : Int32))] [(.ref x1), (.int (0 : Int32))])) rfl ?_
  obtain ⟨cl9, Ar9, q9, S9, M9, Hs9, G9⟩ := id V_x1
  refine Goes.st (B := T8.setTop (mkF m 42 #[.val (.ref x0), .val (.ref x1), .val (.ref x0), .val (.ref x1), .val (.ref b7), .val (.int (0 : Int32))] [(.int (2 : Int32)), (.int (0 : Int32))])) (fun t k => ?_) ?_
  · refine X8.arraylength hx (cell := cl9) (by rw [e8]; exact Ar9.1) (State.isArrayOf_alike hZ.alike Ar9.2.1) (g := (mkF m 41 #[.val (.ref x0), .val (.ref x1), .val (.ref x0), .val (.ref x1), .val (.ref b7), .val (.int (0 : Int32))] [(.ref x1), (.int (0 : Int32))])) rfl (rest := [(.int (0 : Int32))]) rfl (hb hby d322_41) _ ?_
    rw [len_of S9 M9]
    exact k
  have hc42_10 : (0 : Int32) < (2 : Int32) := by decide
  refine Goes.st (B := T8.setTop (mkF m 45 #[.val (.ref x0), .val (.ref x1), .val (.ref x0), .val (.ref x1), .val (.ref b7), .val (.int (0 : Int32))] [])) (fun t k => ?_) ?_
  · refine XS.icmpNo X8.here hx rfl (hb hby d322_42) rfl (tlt hc42_10).2.1 ?_
    exact k
  refine Goes.run X8 hx hown hci hcl hby (L := [(45, .aload 4, 2), (47, .iload 5, 2)]) (by decide +kernel) rfl (g' := (mkF m 49 #[.val (.ref x0), .val (.ref x1), .val (.ref x0), .val (.ref x1), .val (.ref b7), .val (.int (0 : Int32))] [(.int (0 : Int32)), (.ref b7)])) rfl ?_
  refine Goes.st (B := T8.setTop (mkF m 50 #[.val (.ref x0), .val (.ref x1), .val (.ref x0), .val (.ref x1), .val (.ref b7), .val (.int (0 : Int32))] [(.int (0 : Int32)), (.ref b7), (.int (0 : Int32)), (.ref b7)])) (fun t k => ?_) ?_
  · refine Jvm.Free.XT.dup2 X8.here hx rfl (hb hby d322_49) rfl rfl rfl ?_
    exact k
  obtain ⟨cl11, Ar11, q11, S11, M11, Hs11, G11⟩ := id V_b7
  have hin11 : ¬ ((0 : Int32) < 0 ∨ cl11.slots.size ≤ ((0 : Int32)).toNatClampNeg) := inb_of S11 ⟨(by decide), (by decide)⟩
  have hat11 : cl11.slots[((0 : Int32)).toNatClampNeg]? = some (.long u0) := Hs11.at hin11 rfl
  refine Goes.st (B := T8.setTop (mkF m 51 #[.val (.ref x0), .val (.ref x1), .val (.ref x0), .val (.ref x1), .val (.ref b7), .val (.int (0 : Int32))] [(.long u0), (.int (0 : Int32)), (.ref b7)])) (X8.laload hx (j := (0 : Int32)) (v := (.long u0)) (by rw [e8]; exact Ar11.1) (State.isArrayOf_alike hZ.alike Ar11.2.1) Ar11.2.2 hin11 hat11 (g := (mkF m 50 #[.val (.ref x0), .val (.ref x1), .val (.ref x0), .val (.ref x1), .val (.ref b7), .val (.int (0 : Int32))] [(.int (0 : Int32)), (.ref b7), (.int (0 : Int32)), (.ref b7)])) rfl rfl (hb hby d322_50)) ?_
  refine Goes.run X8 hx hown hci hcl hby (L := [(51, .aload_n 3, 1), (52, .iload 5, 2)]) (by decide +kernel) rfl (g' := (mkF m 54 #[.val (.ref x0), .val (.ref x1), .val (.ref x0), .val (.ref x1), .val (.ref b7), .val (.int (0 : Int32))] [(.int (0 : Int32)), (.ref x1), (.long u0), (.int (0 : Int32)), (.ref b7)])) rfl ?_
  obtain ⟨cl12, Ar12, q12, S12, M12, Hs12, G12⟩ := id V_x1
  have hin12 : ¬ ((0 : Int32) < 0 ∨ cl12.slots.size ≤ ((0 : Int32)).toNatClampNeg) := inb_of S12 ⟨(by decide), (by decide)⟩
  have hat12 : cl12.slots[((0 : Int32)).toNatClampNeg]? = some (.long t0) := Hs12.at hin12 rfl
  refine Goes.st (B := T8.setTop (mkF m 55 #[.val (.ref x0), .val (.ref x1), .val (.ref x0), .val (.ref x1), .val (.ref b7), .val (.int (0 : Int32))] [(.long t0), (.long u0), (.int (0 : Int32)), (.ref b7)])) (X8.laload hx (j := (0 : Int32)) (v := (.long t0)) (by rw [e8]; exact Ar12.1) (State.isArrayOf_alike hZ.alike Ar12.2.1) Ar12.2.2 hin12 hat12 (g := (mkF m 54 #[.val (.ref x0), .val (.ref x1), .val (.ref x0), .val (.ref x1), .val (.ref b7), .val (.int (0 : Int32))] [(.int (0 : Int32)), (.ref x1), (.long u0), (.int (0 : Int32)), (.ref b7)])) rfl rfl (hb hby d322_54)) ?_
  refine Goes.run X8 hx hown hci hcl hby (L := [(55, .lor, 1)]) (by decide +kernel) rfl (g' := (mkF m 56 #[.val (.ref x0), .val (.ref x1), .val (.ref x0), .val (.ref x1), .val (.ref b7), .val (.int (0 : Int32))] [(.long (u0 ||| t0)), (.int (0 : Int32)), (.ref b7)])) rfl ?_
  obtain ⟨cl13, Ar13, q13, S13, M13, Hs13, G13⟩ := id V_b7
  have hin13 : ¬ ((0 : Int32) < 0 ∨ cl13.slots.size ≤ ((0 : Int32)).toNatClampNeg) := inb_of S13 ⟨(by decide), (by decide)⟩
  obtain ⟨T13, h13, X13, e13, W13, st13⟩ := stJ X8 hx hZ e8 Ar13 (j := (0 : Int32)) hin13 (g := (mkF m 56 #[.val (.ref x0), .val (.ref x1), .val (.ref x0), .val (.ref x1), .val (.ref b7), .val (.int (0 : Int32))] [(.long (u0 ||| t0)), (.int (0 : Int32)), (.ref b7)])) rfl rfl (hb hby d322_56)
  have E_x0 := E_x0.wr W13
  have V_x0 := V_x0.other W13 ne_x0_b7
  have E_x1 := E_x1.wr W13
  have V_x1 := V_x1.other W13 ne_x1_b7
  have E_b7 := E_b7.wr W13
  have Zn13 : n0 ≤ h13.size := Nat.le_trans Zn7 (Keep.of_wr W13).1
  have K13 := K7.wr W13 (Or.inr sz_b7)
  have N13 := Fr.snoc X13 N0 g_b7
  have V_b7 : Arv Z h13 b7 kx .long (2 : Int32) [(.long (u0 ||| t0)), (.long u1)] (.long (0 : Int64)) := Arv.set Ar13 q13 S13 M13 Hs13 G13 rfl W13 0 rfl (Nat.le_of_ble_eq_true rfl)
  refine Goes.st (B := T13.setTop (mkF m 57 #[.val (.ref x0), .val (.ref x1), .val (.ref x0), .val (.ref x1), .val (.ref b7), .val (.int (0 : Int32))] [])) st13 ?_
  refine Goes.run X13 hx hown hci hcl hby (L := [(57, .iinc 5 1, 3), (60, .goto (-22), 3), (38, .iload 5, 2), (40, .aload_n 3, 1)]) (by decide +kernel) rfl (g' := (mkF m 41 #[.val (.ref x0), .val (.ref x1), .val (.ref x0), .val (.ref x1), .val (.ref b7), .val (.int (1 : Int32))] [(.ref x1), (.int (1 : Int32))])) rfl ?_
  obtain ⟨cl14, Ar14, q14, S14, M14, Hs14, G14⟩ := id V_x1
  refine Goes.st (B := T13.setTop (mkF m 42 #[.val (.ref x0), .val (.ref x1), .val (.ref x0), .val (.ref x1), .val (.ref b7), .val (.int (1 : Int32))] [(.int (2 : Int32)), (.int (1 : Int32))])) (fun t k => ?_) ?_
  · refine X13.arraylength hx (cell := cl14) (by rw [e13]; exact Ar14.1) (State.isArrayOf_alike hZ.alike Ar14.2.1) (g := (mkF m 41 #[.val (.ref x0), .val (.ref x1), .val (.ref x0), .val (.ref x1), .val (.ref b7), .val (.int (1 : Int32))] [(.ref x1), (.int (1 : Int32))])) rfl (rest := [(.int (1 : Int32))]) rfl (hb hby d322_41) _ ?_
    rw [len_of S14 M14]
    exact k
  have hc42_15 : (1 : Int32) < (2 : Int32) := by decide
  refine Goes.st (B := T13.setTop (mkF m 45 #[.val (.ref x0), .val (.ref x1), .val (.ref x0), .val (.ref x1), .val (.ref b7), .val (.int (1 : Int32))] [])) (fun t k => ?_) ?_
  · refine XS.icmpNo X13.here hx rfl (hb hby d322_42) rfl (tlt hc42_15).2.1 ?_
    exact k
  refine Goes.run X13 hx hown hci hcl hby (L := [(45, .aload 4, 2), (47, .iload 5, 2)]) (by decide +kernel) rfl (g' := (mkF m 49 #[.val (.ref x0), .val (.ref x1), .val (.ref x0), .val (.ref x1), .val (.ref b7), .val (.int (1 : Int32))] [(.int (1 : Int32)), (.ref b7)])) rfl ?_
  refine Goes.st (B := T13.setTop (mkF m 50 #[.val (.ref x0), .val (.ref x1), .val (.ref x0), .val (.ref x1), .val (.ref b7), .val (.int (1 : Int32))] [(.int (1 : Int32)), (.ref b7), (.int (1 : Int32)), (.ref b7)])) (fun t k => ?_) ?_
  · refine Jvm.Free.XT.dup2 X13.here hx rfl (hb hby d322_49) rfl rfl rfl ?_
    exact k
  obtain ⟨cl16, Ar16, q16, S16, M16, Hs16, G16⟩ := id V_b7
  have hin16 : ¬ ((1 : Int32) < 0 ∨ cl16.slots.size ≤ ((1 : Int32)).toNatClampNeg) := inb_of S16 ⟨(by decide), (by decide)⟩
  have hat16 : cl16.slots[((1 : Int32)).toNatClampNeg]? = some (.long u1) := Hs16.at hin16 rfl
  refine Goes.st (B := T13.setTop (mkF m 51 #[.val (.ref x0), .val (.ref x1), .val (.ref x0), .val (.ref x1), .val (.ref b7), .val (.int (1 : Int32))] [(.long u1), (.int (1 : Int32)), (.ref b7)])) (X13.laload hx (j := (1 : Int32)) (v := (.long u1)) (by rw [e13]; exact Ar16.1) (State.isArrayOf_alike hZ.alike Ar16.2.1) Ar16.2.2 hin16 hat16 (g := (mkF m 50 #[.val (.ref x0), .val (.ref x1), .val (.ref x0), .val (.ref x1), .val (.ref b7), .val (.int (1 : Int32))] [(.int (1 : Int32)), (.ref b7), (.int (1 : Int32)), (.ref b7)])) rfl rfl (hb hby d322_50)) ?_
  refine Goes.run X13 hx hown hci hcl hby (L := [(51, .aload_n 3, 1), (52, .iload 5, 2)]) (by decide +kernel) rfl (g' := (mkF m 54 #[.val (.ref x0), .val (.ref x1), .val (.ref x0), .val (.ref x1), .val (.ref b7), .val (.int (1 : Int32))] [(.int (1 : Int32)), (.ref x1), (.long u1), (.int (1 : Int32)), (.ref b7)])) rfl ?_
  obtain ⟨cl17, Ar17, q17, S17, M17, Hs17, G17⟩ := id V_x1
  have hin17 : ¬ ((1 : Int32) < 0 ∨ cl17.slots.size ≤ ((1 : Int32)).toNatClampNeg) := inb_of S17 ⟨(by decide), (by decide)⟩
  have hat17 : cl17.slots[((1 : Int32)).toNatClampNeg]? = some (.long t1) := Hs17.at hin17 rfl
  refine Goes.st (B := T13.setTop (mkF m 55 #[.val (.ref x0), .val (.ref x1), .val (.ref x0), .val (.ref x1), .val (.ref b7), .val (.int (1 : Int32))] [(.long t1), (.long u1), (.int (1 : Int32)), (.ref b7)])) (X13.laload hx (j := (1 : Int32)) (v := (.long t1)) (by rw [e13]; exact Ar17.1) (State.isArrayOf_alike hZ.alike Ar17.2.1) Ar17.2.2 hin17 hat17 (g := (mkF m 54 #[.val (.ref x0), .val (.ref x1), .val (.ref x0), .val (.ref x1), .val (.ref b7), .val (.int (1 : Int32))] [(.int (1 : Int32)), (.ref x1), (.long u1), (.int (1 : Int32)), (.ref b7)])) rfl rfl (hb hby d322_54)) ?_
  refine Goes.run X13 hx hown hci hcl hby (L := [(55, .lor, 1)]) (by decide +kernel) rfl (g' := (mkF m 56 #[.val (.ref x0), .val (.ref x1), .val (.ref x0), .val (.ref x1), .val (.ref b7), .val (.int (1 : Int32))] [(.long (u1 ||| t1)), (.int (1 : Int32)), (.ref b7)])) rfl ?_
  obtain ⟨cl18, Ar18, q18, S18, M18, Hs18, G18⟩ := id V_b7
  have hin18 : ¬ ((1 : Int32) < 0 ∨ cl18.slots.size ≤ ((1 : Int32)).toNatClampNeg) := inb_of S18 ⟨(by decide), (by decide)⟩
  obtain ⟨T18, h18, X18, e18, W18, st18⟩ := stJ X13 hx hZ e13 Ar18 (j := (1 : Int32)) hin18 (g := (mkF m 56 #[.val (.ref x0), .val (.ref x1), .val (.ref x0), .val (.ref x1), .val (.ref b7), .val (.int (1 : Int32))] [(.long (u1 ||| t1)), (.int (1 : Int32)), (.ref b7)])) rfl rfl (hb hby d322_56)
  have E_x0 := E_x0.wr W18
  have V_x0 := V_x0.other W18 ne_x0_b7
  have E_x1 := E_x1.wr W18
  have V_x1 := V_x1.other W18 ne_x1_b7
  have E_b7 := E_b7.wr W18
  have Zn18 : n0 ≤ h18.size := Nat.le_trans Zn13 (Keep.of_wr W18).1
  have K18 := K13.wr W18 (Or.inr sz_b7)
  have N18 := Fr.snoc X18 N13 g_b7
  have V_b7 : Arv Z h18 b7 kx .long (2 : Int32) [(.long (u0 ||| t0)), (.long (u1 ||| t1))] (.long (0 : Int64)) := Arv.set Ar18 q18 S18 M18 Hs18 G18 rfl W18 1 rfl (Nat.le_of_ble_eq_true rfl)
  refine Goes.st (B := T18.setTop (mkF m 57 #[.val (.ref x0), .val (.ref x1), .val (.ref x0), .val (.ref x1), .val (.ref b7), .val (.int (1 : Int32))] [])) st18 ?_
  refine Goes.run X18 hx hown hci hcl hby (L := [(57, .iinc 5 1, 3), (60, .goto (-22), 3), (38, .iload 5, 2), (40, .aload_n 3, 1)]) (by decide +kernel) rfl (g' := (mkF m 41 #[.val (.ref x0), .val (.ref x1), .val (.ref x0), .val (.ref x1), .val (.ref b7), .val (.int (2 : Int32))] [(.ref x1), (.int (2 : Int32))])) rfl ?_
  obtain ⟨cl19, Ar19, q19, S19, M19, Hs19, G19⟩ := id V_x1
  refine Goes.st (B := T18.setTop (mkF m 42 #[.val (.ref x0), .val (.ref x1), .val (.ref x0), .val (.ref x1), .val (.ref b7), .val (.int (2 : Int32))] [(.int (2 : Int32)), (.int (2 : Int32))])) (fun t k => ?_) ?_
  · refine X18.arraylength hx (cell := cl19) (by rw [e18]; exact Ar19.1) (State.isArrayOf_alike hZ.alike Ar19.2.1) (g := (mkF m 41 #[.val (.ref x0), .val (.ref x1), .val (.ref x0), .val (.ref x1), .val (.ref b7), .val (.int (2 : Int32))] [(.ref x1), (.int (2 : Int32))])) rfl (rest := [(.int (2 : Int32))]) rfl (hb hby d322_41) _ ?_
    rw [len_of S19 M19]
    exact k
  have hc42_20 : ¬ ((2 : Int32) < (2 : Int32)) := Int32.lt_irrefl
  refine Goes.st (B := T18.setTop (mkF m 63 #[.val (.ref x0), .val (.ref x1), .val (.ref x0), .val (.ref x1), .val (.ref b7), .val (.int (2 : Int32))] [])) (fun t k => ?_) ?_
  · refine XS.icmpYes X18.here hx rfl (pc0 := 42) (pc' := 63) rfl (hb hby d322_42) rfl (flt hc42_20).2.1 (by decide) (by decide) ?_
    exact k
  refine Goes.run X18 hx hown hci hcl hby (L := [(63, .aload 4, 2)]) (by decide +kernel) rfl (g' := (mkF m 65 #[.val (.ref x0), .val (.ref x1), .val (.ref x0), .val (.ref x1), .val (.ref b7), .val (.int (2 : Int32))] [(.ref b7)])) rfl ?_
  refine Goes.retR X18 hx hlk Bd.returns rfl rfl (hb hby d322_65) ?_ (by decide) (by decide)
  show (Q322 Z x0 x1 kx ky u0 u1 t0 t1 h0 n0) _ _ _
  rw [e18]
  exact ⟨b7, kx, rfl, N18, K18, sz_b7, E_b7, V_b7⟩
theorem pn0 : plainName "com/example/marks_across_domains/marksacrossdomains/BitsUnionPinLaw" = true := by first | (simp [plainName, overriddenIn]; done) | decide +kernel
theorem pd0_0 : parseMethodDescriptor "(IJJ)[J" = some ⟨[.int, .long, .long], some (.array .long)⟩ := by decide +kernel
theorem pd0_1 : parseMethodDescriptor "([J[J)[J" = some ⟨[(.array .long), (.array .long)], some (.array .long)⟩ := by decide +kernel
theorem pd0_2 : parseMethodDescriptor "(II)I" = some ⟨[.int, .int], some .int⟩ := by decide +kernel
theorem ef0 (m : MethodId) (x0 : Int32) (x1 : Int64) (x2 : Int64) (x3 : Int64) (x4 : Int64) : entryFrame m #[(.int x0), (.long x1), (.long x2), (.long x3), (.long x4)] maxLocals = (mkF m 0 #[.val (.int x0), .val (.long x1), .second, .val (.long x2), .second, .val (.long x3), .second, .val (.long x4), .second, .unset, .unset, .unset, .unset, .unset, .unset, .unset, .unset, .unset, .unset] []) := by first | (simp [entryFrame, mkF, argsToLocals, Value.category, maxLocals]; done) | rfl
def w0_6l (x0 : Int32) (x1 : Int64) (x2 : Int64) (x3 : Int64) (x4 : Int64) : Int32 := (x0 &&& (255 : Int32))
def w0_7 (x0 : Int32) (x1 : Int64) (x2 : Int64) (x3 : Int64) (x4 : Int64) : Int32 := ((w0_6l x0 x1 x2 x3 x4) - ((w0_6l x0 x1 x2 x3 x4) / (3 : Int32)) * (3 : Int32))
def w0_18l (x0 : Int32) (x1 : Int64) (x2 : Int64) (x3 : Int64) (x4 : Int64) : Int32 := (((x0.toUInt32 >>> ((8 : Int32) &&& 31).toUInt32).toInt32) &&& (255 : Int32))
def w0_19 (x0 : Int32) (x1 : Int64) (x2 : Int64) (x3 : Int64) (x4 : Int64) : Int32 := ((w0_18l x0 x1 x2 x3 x4) - ((w0_18l x0 x1 x2 x3 x4) / (3 : Int32)) * (3 : Int32))
def w0_91 (x0 : Int32) (x1 : Int64) (x2 : Int64) (x3 : Int64) (x4 : Int64) : Int64 := ((0 : Int64) ||| (0 : Int64))
def w0_91_a (x0 : Int32) (x1 : Int64) (x2 : Int64) (x3 : Int64) (x4 : Int64) : Int64 := ((0 : Int64) ||| x3)
def w0_117 (x0 : Int32) (x1 : Int64) (x2 : Int64) (x3 : Int64) (x4 : Int64) : Int64 := ((0 : Int64) ||| x4)
def w0_91_b (x0 : Int32) (x1 : Int64) (x2 : Int64) (x3 : Int64) (x4 : Int64) : Int64 := (x1 ||| (0 : Int64))
def w0_91_c (x0 : Int32) (x1 : Int64) (x2 : Int64) (x3 : Int64) (x4 : Int64) : Int64 := (x1 ||| x3)
def w0_117_a (x0 : Int32) (x1 : Int64) (x2 : Int64) (x3 : Int64) (x4 : Int64) : Int64 := (x2 ||| (0 : Int64))
def w0_117_b (x0 : Int32) (x1 : Int64) (x2 : Int64) (x3 : Int64) (x4 : Int64) : Int64 := (x2 ||| x4)
def r0 (x0 : Int32) (x1 : Int64) (x2 : Int64) (x3 : Int64) (x4 : Int64) : Int32 := (if (w0_7 x0 x1 x2 x3 x4) = (0 : Int32) then (if (w0_19 x0 x1 x2 x3 x4) = (0 : Int32) then (1 : Int32) else (if (w0_19 x0 x1 x2 x3 x4) = (1 : Int32) then (if x3 = (w0_91_a x0 x1 x2 x3 x4) then (1 : Int32) else (0 : Int32)) else (if x3 = (w0_91_a x0 x1 x2 x3 x4) then (if x4 = (w0_117 x0 x1 x2 x3 x4) then (1 : Int32) else (0 : Int32)) else (0 : Int32)))) else (if (w0_7 x0 x1 x2 x3 x4) = (1 : Int32) then (if (w0_19 x0 x1 x2 x3 x4) = (0 : Int32) then (if x1 = (w0_91_b x0 x1 x2 x3 x4) then (1 : Int32) else (0 : Int32)) else (if (w0_19 x0 x1 x2 x3 x4) = (1 : Int32) then (if (x1 ||| x3) = (w0_91_c x0 x1 x2 x3 x4) then (1 : Int32) else (0 : Int32)) else (if (x3 ||| x1) = (w0_91_c x0 x1 x2 x3 x4) then (if x4 = (w0_117 x0 x1 x2 x3 x4) then (1 : Int32) else (0 : Int32)) else (0 : Int32)))) else (if (w0_19 x0 x1 x2 x3 x4) = (0 : Int32) then (if x1 = (w0_91_b x0 x1 x2 x3 x4) then (if x2 = (w0_117_a x0 x1 x2 x3 x4) then (1 : Int32) else (0 : Int32)) else (0 : Int32)) else (if (w0_19 x0 x1 x2 x3 x4) = (1 : Int32) then (if (x1 ||| x3) = (w0_91_c x0 x1 x2 x3 x4) then (if x2 = (w0_117_a x0 x1 x2 x3 x4) then (1 : Int32) else (0 : Int32)) else (0 : Int32)) else (if (x1 ||| x3) = (w0_91_c x0 x1 x2 x3 x4) then (if (x2 ||| x4) = (w0_117_b x0 x1 x2 x3 x4) then (1 : Int32) else (0 : Int32)) else (0 : Int32))))))
theorem own_r3 {u : Int32} {a : Int} (hu : u.toInt = a) (h0 : 0 ≤ a) : (u - (u / (3 : Int32)) * (3 : Int32)) = 0 ∨ (u - (u / (3 : Int32)) * (3 : Int32)) = 1 ∨ (u - (u / (3 : Int32)) * (3 : Int32)) = 2 := by
  have e := own_r32 hu (show (3 : Int32).toInt = 3 by decide) h0
  rw [own_eq32 e (show (0 : Int32).toInt = 0 by decide), own_eq32 e (show (1 : Int32).toInt = 1 by decide), own_eq32 e (show (2 : Int32).toInt = 2 by decide)]
  omega
theorem own_l9 (x0 : Int32) (x1 x2 x3 x4 : Int64) (h0 : ¬ w0_7 x0 x1 x2 x3 x4 = 0) (h1 : ¬ w0_7 x0 x1 x2 x3 x4 = 1) : w0_7 x0 x1 x2 x3 x4 = 2 := by
  obtain ⟨A, m0, a0, -, -⟩ := own_m32 x0 (255 : Int32) (k := 8) (by decide) (by decide)
  rcases own_r3 m0 a0 with h | h | h
  · exact absurd h h0
  · exact absurd h h1
  · exact h
theorem own_l10 (x0 : Int32) (x1 x2 x3 x4 : Int64) (h0 : ¬ w0_19 x0 x1 x2 x3 x4 = 0) (h1 : ¬ w0_19 x0 x1 x2 x3 x4 = 1) : w0_19 x0 x1 x2 x3 x4 = 2 := by
  obtain ⟨A, m0, a0, -, -⟩ := own_m32 ((x0.toUInt32 >>> ((8 : Int32) &&& 31).toUInt32).toInt32) (255 : Int32) (k := 8) (by decide) (by decide)
  rcases own_r3 m0 a0 with h | h | h
  · exact absurd h h0
  · exact absurd h h1
  · exact h
theorem law_true (x0 : Int32) (x1 x2 x3 x4 : Int64) : r0 x0 x1 x2 x3 x4 = 1 := by
  have e1 : w0_91_a x0 x1 x2 x3 x4 = x3 := Int64.zero_or
  have e2 : w0_117 x0 x1 x2 x3 x4 = x4 := Int64.zero_or
  have e3 : w0_91_b x0 x1 x2 x3 x4 = x1 := Int64.or_zero
  have e4 : w0_91_c x0 x1 x2 x3 x4 = x1 ||| x3 := rfl
  have e5 : w0_117_a x0 x1 x2 x3 x4 = x2 := Int64.or_zero
  have e6 : w0_117_b x0 x1 x2 x3 x4 = x2 ||| x4 := rfl
  have e7 : x3 ||| x1 = x1 ||| x3 := Int64.or_comm x3 x1
  unfold r0
  simp only [e1, e2, e3, e4, e5, e6, e7, if_true, ite_self]
set_option maxRecDepth 65536 in
set_option maxHeartbeats 40000000 in
theorem rm0 (l : Launch) (Z : State) (a0 : Array Value) (hw : ∀ d ∈ tables_1, d.before a0 Z = true) (ws : List Jvm.Cond) (x0 : Int32) (x1 : Int64) (x2 : Int64) (x3 : Int64) (x4 : Int64) (h0 : Heap) (n0 : Nat) (Z0 : n0 ≤ h0.size) :
    MetFree l x (head1 (Jvm.Cond.code x code maxLocals ret :: ws) room_1) (fun a U => a = #[(.int x0), (.long x1), (.long x2), (.long x3), (.long x4)] ∧ Z.Warmed39 U.vm ∧ U.heap = h0) (fun _ _ _ _ _ => True) (fun _ U o U' => ∃ v L, o = .returned v ∧ (QL (some (.int (r0 x0 x1 x2 x3 x4))) n0) v U'.heap L ∧ FrameEnd U o U' L room_1.cells room_1.slots) := by
  refine MetFree.of_bodySF (plainFor_of_name pn0) hisR ?_
  intro p e s m args below meth c s₁ Bd hml0 hP hK
  obtain ⟨rfl, hZ, hh⟩ := hP
  have hx := Bd.exec
  have hby := Bd.bytes
  have hml : c.maxLocals = 19 := hml0
  have hlk : meth.locks = false := BodyLoose.notSynchronized Bd
  have hown : s.vm.findClass "com/example/marks_across_domains/marksacrossdomains/BitsUnionPinLaw" = some m.cls := findClass_of_methodNamed Bd.named
  have hnm := (name_of_methodNamed Bd.named Bd.method).1
  have hci : ∀ i v, (i, v) ∈ ([] : List (Nat × Int32)) → (Jvm.Cond.constant "com/example/marks_across_domains/marksacrossdomains/BitsUnionPinLaw" i v).before #[(.int x0), (.long x1), (.long x2), (.long x3), (.long x4)] s = true := own_ci0
  have hcl : ∀ i v, (i, v) ∈ ([] : List (Nat × Int64)) → (Jvm.Cond.constantLong "com/example/marks_across_domains/marksacrossdomains/BitsUnionPinLaw" i v).before #[(.int x0), (.long x1), (.long x2), (.long x3), (.long x4)] s = true := own_ci0
  have X0 : Stand p l e room_1 s m #[(.int x0), (.long x1), (.long x2), (.long x3), (.long x4)] below meth c s₁ [] 0 0 := Stand.of_body Bd
  have e0 : s₁.heap = h0 := by rw [← hh, Bd.state]; rfl
  have N0 := Fr.nil n0
  show Goes p e below s (QL (some (.int (r0 x0 x1 x2 x3 x4))) n0) room_1.cells room_1.slots (s₁.setTop (entryFrame m #[(.int x0), (.long x1), (.long x2), (.long x3), (.long x4)] maxLocals))
  refine Goes.cast (ef0 m x0 x1 x2 x3 x4) ?_
  refine Goes.run X0 hx hown hci hcl hby (L := [(0, .iload_n 0, 1), (1, .sipush 255, 3), (4, .iand, 1), (5, .iconst 3, 1), (6, .irem, 1), (7, .istore 9, 2)]) (by decide +kernel) rfl (g' := (mkF m 9 #[.val (.int x0), .val (.long x1), .second, .val (.long x2), .second, .val (.long x3), .second, .val (.long x4), .second, .val (.int (w0_7 x0 x1 x2 x3 x4)), .unset, .unset, .unset, .unset, .unset, .unset, .unset, .unset, .unset] [])) rfl ?_
  refine Goes.run X0 hx hown hci hcl hby (L := [(9, .iload_n 0, 1), (10, .bipush 8, 2), (12, .iushr, 1), (13, .sipush 255, 3), (16, .iand, 1), (17, .iconst 3, 1)]) (by decide +kernel) rfl (g' := (mkF m 18 #[.val (.int x0), .val (.long x1), .second, .val (.long x2), .second, .val (.long x3), .second, .val (.long x4), .second, .val (.int (w0_7 x0 x1 x2 x3 x4)), .unset, .unset, .unset, .unset, .unset, .unset, .unset, .unset, .unset] [(.int (3 : Int32)), (.int (((x0.toUInt32 >>> ((8 : Int32) &&& 31).toUInt32).toInt32) &&& (255 : Int32)))])) rfl ?_
  refine Goes.run X0 hx hown hci hcl hby (L := [(18, .irem, 1), (19, .istore 10, 2)]) (by decide +kernel) rfl (g' := (mkF m 21 #[.val (.int x0), .val (.long x1), .second, .val (.long x2), .second, .val (.long x3), .second, .val (.long x4), .second, .val (.int (w0_7 x0 x1 x2 x3 x4)), .val (.int (w0_19 x0 x1 x2 x3 x4)), .unset, .unset, .unset, .unset, .unset, .unset, .unset, .unset] [])) rfl ?_
  by_cases hs21_1 : (w0_7 x0 x1 x2 x3 x4) = (0 : Int32)
  · skip
    rw [hs21_1]
    by_cases hs21_2 : (w0_19 x0 x1 x2 x3 x4) = (0 : Int32)
    · skip
      rw [hs21_2]
      refine Goes.run X0 hx hown hci hcl hby (L := [(21, .iload 9, 2), (23, .lload_n 1, 1), (24, .lload_n 3, 1)]) (by decide +kernel) rfl (g' := (mkF m 25 #[.val (.int x0), .val (.long x1), .second, .val (.long x2), .second, .val (.long x3), .second, .val (.long x4), .second, .val (.int (0 : Int32)), .val (.int (0 : Int32)), .unset, .unset, .unset, .unset, .unset, .unset, .unset, .unset] [(.long x2), (.long x1), (.int (0 : Int32))])) rfl ?_
      obtain ⟨_, _, ⟨T3, L3, k3, n3⟩, -, X3, ⟨Lc3, hQ3, l3, y3, z3⟩, st3⟩ := Jvm.LawKit.callS X0 hx (y := (⟨"com/example/marks_across_domains/marksacrossdomains/BitsUnionPinLaw", "make", "(IJJ)[J"⟩ : MethodName)) hown (mvT hZ (hw _ (List.mem_of_getElem? (i := 0) rfl))) (mvT hZ (hw _ (List.mem_of_getElem? (i := 1) rfl))) (mvT hZ (hw _ (List.mem_of_getElem? (i := 2) rfl))) (mvT hZ (hw _ (List.mem_of_getElem? (i := 3) rfl))) (by decide) (backOf (W := 0) (rm20 l Z a0 hw [] x1 x2 h0 n0 Z0 ) hZ (hw _ (List.mem_of_getElem? (i := 3) rfl)) (hw _ (List.mem_of_getElem? (i := 2) rfl)) (by decide) (by decide)) (g := (mkF m 25 #[.val (.int x0), .val (.long x1), .second, .val (.long x2), .second, .val (.long x3), .second, .val (.long x4), .second, .val (.int (0 : Int32)), .val (.int (0 : Int32)), .unset, .unset, .unset, .unset, .unset, .unset, .unset, .unset] [(.long x2), (.long x1), (.int (0 : Int32))])) rfl (by rw [hml]; rfl) (argsL := [(.int (0 : Int32)), (.long x1), (.long x2)]) (rest := []) (lenOf pd0_0 rfl) rfl (by show 2 * 0 + _ ≤ _; exact Nat.le_of_eq rfl) (hb hby at_25) (fun _ _ => ⟨rfl, e0, (by decide : 0 + 1 ≤ _), (by decide : 0 + 0 ≤ _)⟩)
      dsimp only [Pt.U, Pt.locs, Pt.cells, Pt.slots] at X3 l3 y3 z3 st3 hQ3
      subst l3 y3 z3
      obtain ⟨h3, eh3⟩ : ∃ z, z = T3.heap := ⟨_, rfl⟩
      rw [← eh3] at hQ3
      have e3 : T3.heap = h3 := eh3.symm
      obtain ⟨b3, kc3, rfl, N3q, Kq3, szq3, o3_0, o3_1⟩ := hQ3
      have g_b3 : n0 ≤ b3 := Nat.le_trans Z0 szq3
      have N3 := Fr.app N0 N3q
      have E_b3 : Exa Z h3 b3 "[J" := o3_0
      have V_b3 : Arv Z h3 b3 kc3 .long (0 : Int32) [] (.long (0 : Int64)) := o3_1
      have Zn3 : n0 ≤ h3.size := Nat.le_trans Z0 Kq3.1
      refine Goes.st (B := T3.setTop (mkF m 28 #[.val (.int x0), .val (.long x1), .second, .val (.long x2), .second, .val (.long x3), .second, .val (.long x4), .second, .val (.int (0 : Int32)), .val (.int (0 : Int32)), .unset, .unset, .unset, .unset, .unset, .unset, .unset, .unset] [(.ref b3)])) st3 ?_
      refine Goes.run X3 hx hown hci hcl hby (L := [(28, .astore 11, 2), (30, .iload 10, 2), (32, .lload 5, 2), (34, .lload 7, 2)]) (by decide +kernel) rfl (g' := (mkF m 36 #[.val (.int x0), .val (.long x1), .second, .val (.long x2), .second, .val (.long x3), .second, .val (.long x4), .second, .val (.int (0 : Int32)), .val (.int (0 : Int32)), .val (.ref b3), .unset, .unset, .unset, .unset, .unset, .unset, .unset] [(.long x4), (.long x3), (.int (0 : Int32))])) rfl ?_
      obtain ⟨_, _, ⟨T4, L4, k4, n4⟩, -, X4, ⟨Lc4, hQ4, l4, y4, z4⟩, st4⟩ := Jvm.LawKit.callS X3 hx (y := (⟨"com/example/marks_across_domains/marksacrossdomains/BitsUnionPinLaw", "make", "(IJJ)[J"⟩ : MethodName)) hown (mvT hZ (hw _ (List.mem_of_getElem? (i := 0) rfl))) (mvT hZ (hw _ (List.mem_of_getElem? (i := 1) rfl))) (mvT hZ (hw _ (List.mem_of_getElem? (i := 2) rfl))) (mvT hZ (hw _ (List.mem_of_getElem? (i := 3) rfl))) (by decide) (backOf (W := 0) (rm20 l Z a0 hw [] x3 x4 h3 n0 Zn3 ) hZ (hw _ (List.mem_of_getElem? (i := 3) rfl)) (hw _ (List.mem_of_getElem? (i := 2) rfl)) (by decide) (by decide)) (g := (mkF m 36 #[.val (.int x0), .val (.long x1), .second, .val (.long x2), .second, .val (.long x3), .second, .val (.long x4), .second, .val (.int (0 : Int32)), .val (.int (0 : Int32)), .val (.ref b3), .unset, .unset, .unset, .unset, .unset, .unset, .unset] [(.long x4), (.long x3), (.int (0 : Int32))])) rfl (by rw [hml]; rfl) (argsL := [(.int (0 : Int32)), (.long x3), (.long x4)]) (rest := []) (lenOf pd0_0 rfl) rfl (by show 2 * 0 + _ ≤ _; exact Nat.le_of_eq rfl) (hb hby at_36) (fun _ _ => ⟨rfl, e3, (by decide : 1 + 1 ≤ _), (by decide : 0 + 0 ≤ _)⟩)
      dsimp only [Pt.U, Pt.locs, Pt.cells, Pt.slots] at X4 l4 y4 z4 st4 hQ4
      subst l4 y4 z4
      obtain ⟨h4, eh4⟩ : ∃ z, z = T4.heap := ⟨_, rfl⟩
      rw [← eh4] at hQ4
      have e4 : T4.heap = h4 := eh4.symm
      obtain ⟨b4, kc4, rfl, N4q, Kq4, szq4, o4_0, o4_1⟩ := hQ4
      have ne_b3_b4 : b3 ≠ b4 := Nat.ne_of_lt (Nat.lt_of_lt_of_le E_b3.lt szq4)
      have g_b4 : n0 ≤ b4 := Nat.le_trans Zn3 szq4
      have N4 := Fr.app N3 N4q
      have E_b3 := E_b3.keep Kq4
      have V_b3 := V_b3.keep Kq4 nin0
      have E_b4 : Exa Z h4 b4 "[J" := o4_0
      have V_b4 : Arv Z h4 b4 kc4 .long (0 : Int32) [] (.long (0 : Int64)) := o4_1
      have Zn4 : n0 ≤ h4.size := Nat.le_trans Zn3 Kq4.1
      refine Goes.st (B := T4.setTop (mkF m 39 #[.val (.int x0), .val (.long x1), .second, .val (.long x2), .second, .val (.long x3), .second, .val (.long x4), .second, .val (.int (0 : Int32)), .val (.int (0 : Int32)), .val (.ref b3), .unset, .unset, .unset, .unset, .unset, .unset, .unset] [(.ref b4)])) st4 ?_
      refine Goes.run X4 hx hown hci hcl hby (L := [(39, .astore 12, 2), (41, .aload 11, 2), (43, .aload 12, 2)]) (by decide +kernel) rfl (g' := (mkF m 45 #[.val (.int x0), .val (.long x1), .second, .val (.long x2), .second, .val (.long x3), .second, .val (.long x4), .second, .val (.int (0 : Int32)), .val (.int (0 : Int32)), .val (.ref b3), .val (.ref b4), .unset, .unset, .unset, .unset, .unset, .unset] [(.ref b4), (.ref b3)])) rfl ?_
      obtain ⟨_, _, ⟨T5, L5, k5, n5⟩, -, X5, ⟨Lc5, hQ5, l5, y5, z5⟩, st5⟩ := Jvm.LawKit.callS X4 hx (y := (⟨"com/example/marks_across_domains/marksacrossdomains/Bits", "union", "([J[J)[J"⟩ : MethodName)) hown (mvT hZ (hw _ (List.mem_of_getElem? (i := 5) rfl))) (mvT hZ (hw _ (List.mem_of_getElem? (i := 6) rfl))) (mvT hZ (hw _ (List.mem_of_getElem? (i := 7) rfl))) (mvT hZ (hw _ (List.mem_of_getElem? (i := 8) rfl))) (by decide) (backOf (W := 0) (rm300 l Z a0 hw [] b3 b4 kc3 kc4 h4 n0 Zn4 E_b3 V_b3 E_b4 V_b4) hZ (hw _ (List.mem_of_getElem? (i := 8) rfl)) (hw _ (List.mem_of_getElem? (i := 7) rfl)) (by decide) (by decide)) (g := (mkF m 45 #[.val (.int x0), .val (.long x1), .second, .val (.long x2), .second, .val (.long x3), .second, .val (.long x4), .second, .val (.int (0 : Int32)), .val (.int (0 : Int32)), .val (.ref b3), .val (.ref b4), .unset, .unset, .unset, .unset, .unset, .unset] [(.ref b4), (.ref b3)])) rfl (by rw [hml]; rfl) (argsL := [(.ref b3), (.ref b4)]) (rest := []) (lenOf pd0_1 rfl) rfl (by show 2 * 0 + _ ≤ _; exact Nat.le_of_eq rfl) (hb hby at_45) (fun _ _ => ⟨rfl, e4, (by decide : 2 + 1 ≤ _), (by decide : 0 + 0 ≤ _)⟩)
      dsimp only [Pt.U, Pt.locs, Pt.cells, Pt.slots] at X5 l5 y5 z5 st5 hQ5
      subst l5 y5 z5
      obtain ⟨h5, eh5⟩ : ∃ z, z = T5.heap := ⟨_, rfl⟩
      rw [← eh5] at hQ5
      have e5 : T5.heap = h5 := eh5.symm
      obtain ⟨b5, kc5, rfl, N5q, Kq5, szq5, o5_0, o5_1⟩ := hQ5
      have ne_b3_b5 : b3 ≠ b5 := Nat.ne_of_lt (Nat.lt_of_lt_of_le E_b3.lt szq5)
      have ne_b4_b5 : b4 ≠ b5 := Nat.ne_of_lt (Nat.lt_of_lt_of_le E_b4.lt szq5)
      have g_b5 : n0 ≤ b5 := Nat.le_trans Zn4 szq5
      have N5 := Fr.app N4 N5q
      have E_b3 := E_b3.keep Kq5
      have V_b3 := V_b3.keep Kq5 nin0
      have E_b4 := E_b4.keep Kq5
      have V_b4 := V_b4.keep Kq5 nin0
      have E_b5 : Exa Z h5 b5 "[J" := o5_0
      have V_b5 : Arv Z h5 b5 kc5 .long (0 : Int32) [] (.long (0 : Int64)) := o5_1
      have Zn5 : n0 ≤ h5.size := Nat.le_trans Zn4 Kq5.1
      refine Goes.st (B := T5.setTop (mkF m 48 #[.val (.int x0), .val (.long x1), .second, .val (.long x2), .second, .val (.long x3), .second, .val (.long x4), .second, .val (.int (0 : Int32)), .val (.int (0 : Int32)), .val (.ref b3), .val (.ref b4), .unset, .unset, .unset, .unset, .unset, .unset] [(.ref b5)])) st5 ?_
      refine Goes.run X5 hx hown hci hcl hby (L := [(48, .astore 13, 2), (50, .iload 9, 2), (52, .iload 10, 2)]) (by decide +kernel) rfl (g' := (mkF m 54 #[.val (.int x0), .val (.long x1), .second, .val (.long x2), .second, .val (.long x3), .second, .val (.long x4), .second, .val (.int (0 : Int32)), .val (.int (0 : Int32)), .val (.ref b3), .val (.ref b4), .val (.ref b5), .unset, .unset, .unset, .unset, .unset] [(.int (0 : Int32)), (.int (0 : Int32))])) rfl ?_
      obtain ⟨_, _, ⟨T6, L6, k6, n6⟩, -, X6, ⟨Lc6, hQ6, l6, y6, z6⟩, st6⟩ := Jvm.LawKit.callS X5 hx (y := (⟨"java/lang/Math", "max", "(II)I"⟩ : MethodName)) hown (mvT hZ (hw _ (List.mem_of_getElem? (i := 18) rfl))) (mvT hZ (hw _ (List.mem_of_getElem? (i := 19) rfl))) (mvT hZ (hw _ (List.mem_of_getElem? (i := 20) rfl))) (mvT hZ (hw _ (List.mem_of_getElem? (i := 21) rfl))) (by decide) (backOf (W := 0) (rm1 l Z a0 hw [] (0 : Int32) (0 : Int32) h5 n0 Zn5 ) hZ (hw _ (List.mem_of_getElem? (i := 21) rfl)) (hw _ (List.mem_of_getElem? (i := 20) rfl)) (by decide) (by decide)) (g := (mkF m 54 #[.val (.int x0), .val (.long x1), .second, .val (.long x2), .second, .val (.long x3), .second, .val (.long x4), .second, .val (.int (0 : Int32)), .val (.int (0 : Int32)), .val (.ref b3), .val (.ref b4), .val (.ref b5), .unset, .unset, .unset, .unset, .unset] [(.int (0 : Int32)), (.int (0 : Int32))])) rfl (by rw [hml]; rfl) (argsL := [(.int (0 : Int32)), (.int (0 : Int32))]) (rest := []) (lenOf pd0_2 rfl) rfl (by show 2 * 0 + _ ≤ _; exact Nat.le_of_eq rfl) (hb hby at_54) (fun _ _ => ⟨rfl, e5, (by decide : 3 + 0 ≤ _), (by decide : 0 + 0 ≤ _)⟩)
      dsimp only [Pt.U, Pt.locs, Pt.cells, Pt.slots] at X6 l6 y6 z6 st6 hQ6
      subst l6 y6 z6
      obtain ⟨rfl, N6q, e6⟩ := hQ6
      have N6 := Fr.app N5 N6q
      refine Goes.st (B := T6.setTop (mkF m 57 #[.val (.int x0), .val (.long x1), .second, .val (.long x2), .second, .val (.long x3), .second, .val (.long x4), .second, .val (.int (0 : Int32)), .val (.int (0 : Int32)), .val (.ref b3), .val (.ref b4), .val (.ref b5), .unset, .unset, .unset, .unset, .unset] [(.int (0 : Int32))])) st6 ?_
      refine Goes.run X6 hx hown hci hcl hby (L := [(57, .istore 14, 2), (59, .aload 13, 2)]) (by decide +kernel) rfl (g' := (mkF m 61 #[.val (.int x0), .val (.long x1), .second, .val (.long x2), .second, .val (.long x3), .second, .val (.long x4), .second, .val (.int (0 : Int32)), .val (.int (0 : Int32)), .val (.ref b3), .val (.ref b4), .val (.ref b5), .val (.int (0 : Int32)), .unset, .unset, .unset, .unset] [(.ref b5)])) rfl ?_
      obtain ⟨cl7, Ar7, q7, S7, M7, Hs7, G7⟩ := id V_b5
      refine Goes.st (B := T6.setTop (mkF m 62 #[.val (.int x0), .val (.long x1), .second, .val (.long x2), .second, .val (.long x3), .second, .val (.long x4), .second, .val (.int (0 : Int32)), .val (.int (0 : Int32)), .val (.ref b3), .val (.ref b4), .val (.ref b5), .val (.int (0 : Int32)), .unset, .unset, .unset, .unset] [(.int (0 : Int32))])) (fun t k => ?_) ?_
      · refine X6.arraylength hx (cell := cl7) (by rw [e6]; exact Ar7.1) (State.isArrayOf_alike hZ.alike Ar7.2.1) (g := (mkF m 61 #[.val (.int x0), .val (.long x1), .second, .val (.long x2), .second, .val (.long x3), .second, .val (.long x4), .second, .val (.int (0 : Int32)), .val (.int (0 : Int32)), .val (.ref b3), .val (.ref b4), .val (.ref b5), .val (.int (0 : Int32)), .unset, .unset, .unset, .unset] [(.ref b5)])) rfl (rest := []) rfl (hb hby at_61) _ ?_
        rw [len_of S7 M7]
        exact k
      refine Goes.run X6 hx hown hci hcl hby (L := [(62, .iload 14, 2)]) (by decide +kernel) rfl (g' := (mkF m 64 #[.val (.int x0), .val (.long x1), .second, .val (.long x2), .second, .val (.long x3), .second, .val (.long x4), .second, .val (.int (0 : Int32)), .val (.int (0 : Int32)), .val (.ref b3), .val (.ref b4), .val (.ref b5), .val (.int (0 : Int32)), .unset, .unset, .unset, .unset] [(.int (0 : Int32)), (.int (0 : Int32))])) rfl ?_
      have hc64_8 : (0 : Int32) = (0 : Int32) := rfl
      refine Goes.st (B := T6.setTop (mkF m 69 #[.val (.int x0), .val (.long x1), .second, .val (.long x2), .second, .val (.long x3), .second, .val (.long x4), .second, .val (.int (0 : Int32)), .val (.int (0 : Int32)), .val (.ref b3), .val (.ref b4), .val (.ref b5), .val (.int (0 : Int32)), .unset, .unset, .unset, .unset] [])) (fun t k => ?_) ?_
      · refine XS.icmpYes X6.here hx rfl (pc0 := 64) (pc' := 69) rfl (hb hby at_64) rfl (teq hc64_8).1 (by decide) (by decide) ?_
        exact k
      refine Goes.run X6 hx hown hci hcl hby (L := [(69, .iload 9, 2)]) (by decide +kernel) rfl (g' := (mkF m 71 #[.val (.int x0), .val (.long x1), .second, .val (.long x2), .second, .val (.long x3), .second, .val (.long x4), .second, .val (.int (0 : Int32)), .val (.int (0 : Int32)), .val (.ref b3), .val (.ref b4), .val (.ref b5), .val (.int (0 : Int32)), .unset, .unset, .unset, .unset] [(.int (0 : Int32))])) rfl ?_
      have hc71_9 : ¬ ((0 : Int32) < (0 : Int32)) := Int32.lt_irrefl
      refine Goes.st (B := T6.setTop (mkF m 78 #[.val (.int x0), .val (.long x1), .second, .val (.long x2), .second, .val (.long x3), .second, .val (.long x4), .second, .val (.int (0 : Int32)), .val (.int (0 : Int32)), .val (.ref b3), .val (.ref b4), .val (.ref b5), .val (.int (0 : Int32)), .unset, .unset, .unset, .unset] [])) (fun t k => ?_) ?_
      · refine XS.ifYes X6.here hx rfl (pc0 := 71) (pc' := 78) rfl (hb hby at_71) rfl ((if0 _ _).trans (flt hc71_9).2.2.2) (by decide) (by decide) ?_
        exact k
      refine Goes.run X6 hx hown hci hcl hby (L := [(78, .lconst 0, 1), (79, .iload 10, 2)]) (by decide +kernel) rfl (g' := (mkF m 81 #[.val (.int x0), .val (.long x1), .second, .val (.long x2), .second, .val (.long x3), .second, .val (.long x4), .second, .val (.int (0 : Int32)), .val (.int (0 : Int32)), .val (.ref b3), .val (.ref b4), .val (.ref b5), .val (.int (0 : Int32)), .unset, .unset, .unset, .unset] [(.int (0 : Int32)), (.long (0 : Int64))])) rfl ?_
      have hc81_10 : ¬ ((0 : Int32) < (0 : Int32)) := Int32.lt_irrefl
      refine Goes.st (B := T6.setTop (mkF m 89 #[.val (.int x0), .val (.long x1), .second, .val (.long x2), .second, .val (.long x3), .second, .val (.long x4), .second, .val (.int (0 : Int32)), .val (.int (0 : Int32)), .val (.ref b3), .val (.ref b4), .val (.ref b5), .val (.int (0 : Int32)), .unset, .unset, .unset, .unset] [(.long (0 : Int64))])) (fun t k => ?_) ?_
      · refine XS.ifYes X6.here hx rfl (pc0 := 81) (pc' := 89) rfl (hb hby at_81) rfl ((if0 _ _).trans (flt hc81_10).2.2.2) (by decide) (by decide) ?_
        exact k
      refine Goes.run X6 hx hown hci hcl hby (L := [(89, .lconst 0, 1), (90, .lor, 1), (91, .lstore 15, 2), (93, .iload 9, 2), (95, .iconst 1, 1)]) (by decide +kernel) rfl (g' := (mkF m 96 #[.val (.int x0), .val (.long x1), .second, .val (.long x2), .second, .val (.long x3), .second, .val (.long x4), .second, .val (.int (0 : Int32)), .val (.int (0 : Int32)), .val (.ref b3), .val (.ref b4), .val (.ref b5), .val (.int (0 : Int32)), .val (.long (w0_91 x0 x1 x2 x3 x4)), .second, .unset, .unset] [(.int (1 : Int32)), (.int (0 : Int32))])) rfl ?_
      have hc96_11 : ¬ ((1 : Int32) < (0 : Int32)) := by decide
      refine Goes.st (B := T6.setTop (mkF m 103 #[.val (.int x0), .val (.long x1), .second, .val (.long x2), .second, .val (.long x3), .second, .val (.long x4), .second, .val (.int (0 : Int32)), .val (.int (0 : Int32)), .val (.ref b3), .val (.ref b4), .val (.ref b5), .val (.int (0 : Int32)), .val (.long (w0_91 x0 x1 x2 x3 x4)), .second, .unset, .unset] [])) (fun t k => ?_) ?_
      · refine XS.icmpYes X6.here hx rfl (pc0 := 96) (pc' := 103) rfl (hb hby at_96) rfl (flt hc96_11).2.2.2 (by decide) (by decide) ?_
        exact k
      refine Goes.run X6 hx hown hci hcl hby (L := [(103, .lconst 0, 1), (104, .iload 10, 2), (106, .iconst 1, 1)]) (by decide +kernel) rfl (g' := (mkF m 107 #[.val (.int x0), .val (.long x1), .second, .val (.long x2), .second, .val (.long x3), .second, .val (.long x4), .second, .val (.int (0 : Int32)), .val (.int (0 : Int32)), .val (.ref b3), .val (.ref b4), .val (.ref b5), .val (.int (0 : Int32)), .val (.long (w0_91 x0 x1 x2 x3 x4)), .second, .unset, .unset] [(.int (1 : Int32)), (.int (0 : Int32)), (.long (0 : Int64))])) rfl ?_
      have hc107_12 : ¬ ((1 : Int32) < (0 : Int32)) := by decide
      refine Goes.st (B := T6.setTop (mkF m 115 #[.val (.int x0), .val (.long x1), .second, .val (.long x2), .second, .val (.long x3), .second, .val (.long x4), .second, .val (.int (0 : Int32)), .val (.int (0 : Int32)), .val (.ref b3), .val (.ref b4), .val (.ref b5), .val (.int (0 : Int32)), .val (.long (w0_91 x0 x1 x2 x3 x4)), .second, .unset, .unset] [(.long (0 : Int64))])) (fun t k => ?_) ?_
      · refine XS.icmpYes X6.here hx rfl (pc0 := 107) (pc' := 115) rfl (hb hby at_107) rfl (flt hc107_12).2.2.2 (by decide) (by decide) ?_
        exact k
      refine Goes.run X6 hx hown hci hcl hby (L := [(115, .lconst 0, 1), (116, .lor, 1), (117, .lstore 17, 2), (119, .iload 14, 2)]) (by decide +kernel) rfl (g' := (mkF m 121 #[.val (.int x0), .val (.long x1), .second, .val (.long x2), .second, .val (.long x3), .second, .val (.long x4), .second, .val (.int (0 : Int32)), .val (.int (0 : Int32)), .val (.ref b3), .val (.ref b4), .val (.ref b5), .val (.int (0 : Int32)), .val (.long (w0_91 x0 x1 x2 x3 x4)), .second, .val (.long (w0_91 x0 x1 x2 x3 x4)), .second] [(.int (0 : Int32))])) rfl ?_
      have hc121_13 : ¬ ((0 : Int32) < (0 : Int32)) := Int32.lt_irrefl
      refine Goes.st (B := T6.setTop (mkF m 136 #[.val (.int x0), .val (.long x1), .second, .val (.long x2), .second, .val (.long x3), .second, .val (.long x4), .second, .val (.int (0 : Int32)), .val (.int (0 : Int32)), .val (.ref b3), .val (.ref b4), .val (.ref b5), .val (.int (0 : Int32)), .val (.long (w0_91 x0 x1 x2 x3 x4)), .second, .val (.long (w0_91 x0 x1 x2 x3 x4)), .second] [])) (fun t k => ?_) ?_
      · refine XS.ifYes X6.here hx rfl (pc0 := 121) (pc' := 136) rfl (hb hby at_121) rfl ((if0 _ _).trans (flt hc121_13).2.2.2) (by decide) (by decide) ?_
        exact k
      refine Goes.run X6 hx hown hci hcl hby (L := [(136, .iload 14, 2), (138, .iconst 1, 1)]) (by decide +kernel) rfl (g' := (mkF m 139 #[.val (.int x0), .val (.long x1), .second, .val (.long x2), .second, .val (.long x3), .second, .val (.long x4), .second, .val (.int (0 : Int32)), .val (.int (0 : Int32)), .val (.ref b3), .val (.ref b4), .val (.ref b5), .val (.int (0 : Int32)), .val (.long (w0_91 x0 x1 x2 x3 x4)), .second, .val (.long (w0_91 x0 x1 x2 x3 x4)), .second] [(.int (1 : Int32)), (.int (0 : Int32))])) rfl ?_
      have hc139_14 : ¬ ((1 : Int32) < (0 : Int32)) := by decide
      refine Goes.st (B := T6.setTop (mkF m 154 #[.val (.int x0), .val (.long x1), .second, .val (.long x2), .second, .val (.long x3), .second, .val (.long x4), .second, .val (.int (0 : Int32)), .val (.int (0 : Int32)), .val (.ref b3), .val (.ref b4), .val (.ref b5), .val (.int (0 : Int32)), .val (.long (w0_91 x0 x1 x2 x3 x4)), .second, .val (.long (w0_91 x0 x1 x2 x3 x4)), .second] [])) (fun t k => ?_) ?_
      · refine XS.icmpYes X6.here hx rfl (pc0 := 139) (pc' := 154) rfl (hb hby at_139) rfl (flt hc139_14).2.2.2 (by decide) (by decide) ?_
        exact k
      refine Goes.run X6 hx hown hci hcl hby (L := [(154, .aload 11, 2)]) (by decide +kernel) rfl (g' := (mkF m 156 #[.val (.int x0), .val (.long x1), .second, .val (.long x2), .second, .val (.long x3), .second, .val (.long x4), .second, .val (.int (0 : Int32)), .val (.int (0 : Int32)), .val (.ref b3), .val (.ref b4), .val (.ref b5), .val (.int (0 : Int32)), .val (.long (w0_91 x0 x1 x2 x3 x4)), .second, .val (.long (w0_91 x0 x1 x2 x3 x4)), .second] [(.ref b3)])) rfl ?_
      obtain ⟨cl15, Ar15, q15, S15, M15, Hs15, G15⟩ := id V_b3
      refine Goes.st (B := T6.setTop (mkF m 157 #[.val (.int x0), .val (.long x1), .second, .val (.long x2), .second, .val (.long x3), .second, .val (.long x4), .second, .val (.int (0 : Int32)), .val (.int (0 : Int32)), .val (.ref b3), .val (.ref b4), .val (.ref b5), .val (.int (0 : Int32)), .val (.long (w0_91 x0 x1 x2 x3 x4)), .second, .val (.long (w0_91 x0 x1 x2 x3 x4)), .second] [(.int (0 : Int32))])) (fun t k => ?_) ?_
      · refine X6.arraylength hx (cell := cl15) (by rw [e6]; exact Ar15.1) (State.isArrayOf_alike hZ.alike Ar15.2.1) (g := (mkF m 156 #[.val (.int x0), .val (.long x1), .second, .val (.long x2), .second, .val (.long x3), .second, .val (.long x4), .second, .val (.int (0 : Int32)), .val (.int (0 : Int32)), .val (.ref b3), .val (.ref b4), .val (.ref b5), .val (.int (0 : Int32)), .val (.long (w0_91 x0 x1 x2 x3 x4)), .second, .val (.long (w0_91 x0 x1 x2 x3 x4)), .second] [(.ref b3)])) rfl (rest := []) rfl (hb hby at_156) _ ?_
        rw [len_of S15 M15]
        exact k
      refine Goes.run X6 hx hown hci hcl hby (L := [(157, .iload 9, 2)]) (by decide +kernel) rfl (g' := (mkF m 159 #[.val (.int x0), .val (.long x1), .second, .val (.long x2), .second, .val (.long x3), .second, .val (.long x4), .second, .val (.int (0 : Int32)), .val (.int (0 : Int32)), .val (.ref b3), .val (.ref b4), .val (.ref b5), .val (.int (0 : Int32)), .val (.long (w0_91 x0 x1 x2 x3 x4)), .second, .val (.long (w0_91 x0 x1 x2 x3 x4)), .second] [(.int (0 : Int32)), (.int (0 : Int32))])) rfl ?_
      have hc159_16 : (0 : Int32) = (0 : Int32) := rfl
      refine Goes.st (B := T6.setTop (mkF m 162 #[.val (.int x0), .val (.long x1), .second, .val (.long x2), .second, .val (.long x3), .second, .val (.long x4), .second, .val (.int (0 : Int32)), .val (.int (0 : Int32)), .val (.ref b3), .val (.ref b4), .val (.ref b5), .val (.int (0 : Int32)), .val (.long (w0_91 x0 x1 x2 x3 x4)), .second, .val (.long (w0_91 x0 x1 x2 x3 x4)), .second] [])) (fun t k => ?_) ?_
      · refine XS.icmpNo X6.here hx rfl (hb hby at_159) rfl (teq hc159_16).2 ?_
        exact k
      refine Goes.run X6 hx hown hci hcl hby (L := [(162, .aload 12, 2)]) (by decide +kernel) rfl (g' := (mkF m 164 #[.val (.int x0), .val (.long x1), .second, .val (.long x2), .second, .val (.long x3), .second, .val (.long x4), .second, .val (.int (0 : Int32)), .val (.int (0 : Int32)), .val (.ref b3), .val (.ref b4), .val (.ref b5), .val (.int (0 : Int32)), .val (.long (w0_91 x0 x1 x2 x3 x4)), .second, .val (.long (w0_91 x0 x1 x2 x3 x4)), .second] [(.ref b4)])) rfl ?_
      obtain ⟨cl17, Ar17, q17, S17, M17, Hs17, G17⟩ := id V_b4
      refine Goes.st (B := T6.setTop (mkF m 165 #[.val (.int x0), .val (.long x1), .second, .val (.long x2), .second, .val (.long x3), .second, .val (.long x4), .second, .val (.int (0 : Int32)), .val (.int (0 : Int32)), .val (.ref b3), .val (.ref b4), .val (.ref b5), .val (.int (0 : Int32)), .val (.long (w0_91 x0 x1 x2 x3 x4)), .second, .val (.long (w0_91 x0 x1 x2 x3 x4)), .second] [(.int (0 : Int32))])) (fun t k => ?_) ?_
      · refine X6.arraylength hx (cell := cl17) (by rw [e6]; exact Ar17.1) (State.isArrayOf_alike hZ.alike Ar17.2.1) (g := (mkF m 164 #[.val (.int x0), .val (.long x1), .second, .val (.long x2), .second, .val (.long x3), .second, .val (.long x4), .second, .val (.int (0 : Int32)), .val (.int (0 : Int32)), .val (.ref b3), .val (.ref b4), .val (.ref b5), .val (.int (0 : Int32)), .val (.long (w0_91 x0 x1 x2 x3 x4)), .second, .val (.long (w0_91 x0 x1 x2 x3 x4)), .second] [(.ref b4)])) rfl (rest := []) rfl (hb hby at_164) _ ?_
        rw [len_of S17 M17]
        exact k
      refine Goes.run X6 hx hown hci hcl hby (L := [(165, .iload 10, 2)]) (by decide +kernel) rfl (g' := (mkF m 167 #[.val (.int x0), .val (.long x1), .second, .val (.long x2), .second, .val (.long x3), .second, .val (.long x4), .second, .val (.int (0 : Int32)), .val (.int (0 : Int32)), .val (.ref b3), .val (.ref b4), .val (.ref b5), .val (.int (0 : Int32)), .val (.long (w0_91 x0 x1 x2 x3 x4)), .second, .val (.long (w0_91 x0 x1 x2 x3 x4)), .second] [(.int (0 : Int32)), (.int (0 : Int32))])) rfl ?_
      have hc167_18 : (0 : Int32) = (0 : Int32) := rfl
      refine Goes.st (B := T6.setTop (mkF m 172 #[.val (.int x0), .val (.long x1), .second, .val (.long x2), .second, .val (.long x3), .second, .val (.long x4), .second, .val (.int (0 : Int32)), .val (.int (0 : Int32)), .val (.ref b3), .val (.ref b4), .val (.ref b5), .val (.int (0 : Int32)), .val (.long (w0_91 x0 x1 x2 x3 x4)), .second, .val (.long (w0_91 x0 x1 x2 x3 x4)), .second] [])) (fun t k => ?_) ?_
      · refine XS.icmpYes X6.here hx rfl (pc0 := 167) (pc' := 172) rfl (hb hby at_167) rfl (teq hc167_18).1 (by decide) (by decide) ?_
        exact k
      refine Goes.run X6 hx hown hci hcl hby (L := [(172, .iload 9, 2)]) (by decide +kernel) rfl (g' := (mkF m 174 #[.val (.int x0), .val (.long x1), .second, .val (.long x2), .second, .val (.long x3), .second, .val (.long x4), .second, .val (.int (0 : Int32)), .val (.int (0 : Int32)), .val (.ref b3), .val (.ref b4), .val (.ref b5), .val (.int (0 : Int32)), .val (.long (w0_91 x0 x1 x2 x3 x4)), .second, .val (.long (w0_91 x0 x1 x2 x3 x4)), .second] [(.int (0 : Int32))])) rfl ?_
      have hc174_19 : ¬ ((0 : Int32) < (0 : Int32)) := Int32.lt_irrefl
      refine Goes.st (B := T6.setTop (mkF m 188 #[.val (.int x0), .val (.long x1), .second, .val (.long x2), .second, .val (.long x3), .second, .val (.long x4), .second, .val (.int (0 : Int32)), .val (.int (0 : Int32)), .val (.ref b3), .val (.ref b4), .val (.ref b5), .val (.int (0 : Int32)), .val (.long (w0_91 x0 x1 x2 x3 x4)), .second, .val (.long (w0_91 x0 x1 x2 x3 x4)), .second] [])) (fun t k => ?_) ?_
      · refine XS.ifYes X6.here hx rfl (pc0 := 174) (pc' := 188) rfl (hb hby at_174) rfl ((if0 _ _).trans (flt hc174_19).2.2.2) (by decide) (by decide) ?_
        exact k
      refine Goes.run X6 hx hown hci hcl hby (L := [(188, .iload 9, 2), (190, .iconst 1, 1)]) (by decide +kernel) rfl (g' := (mkF m 191 #[.val (.int x0), .val (.long x1), .second, .val (.long x2), .second, .val (.long x3), .second, .val (.long x4), .second, .val (.int (0 : Int32)), .val (.int (0 : Int32)), .val (.ref b3), .val (.ref b4), .val (.ref b5), .val (.int (0 : Int32)), .val (.long (w0_91 x0 x1 x2 x3 x4)), .second, .val (.long (w0_91 x0 x1 x2 x3 x4)), .second] [(.int (1 : Int32)), (.int (0 : Int32))])) rfl ?_
      have hc191_20 : ¬ ((1 : Int32) < (0 : Int32)) := by decide
      refine Goes.st (B := T6.setTop (mkF m 205 #[.val (.int x0), .val (.long x1), .second, .val (.long x2), .second, .val (.long x3), .second, .val (.long x4), .second, .val (.int (0 : Int32)), .val (.int (0 : Int32)), .val (.ref b3), .val (.ref b4), .val (.ref b5), .val (.int (0 : Int32)), .val (.long (w0_91 x0 x1 x2 x3 x4)), .second, .val (.long (w0_91 x0 x1 x2 x3 x4)), .second] [])) (fun t k => ?_) ?_
      · refine XS.icmpYes X6.here hx rfl (pc0 := 191) (pc' := 205) rfl (hb hby at_191) rfl (flt hc191_20).2.2.2 (by decide) (by decide) ?_
        exact k
      refine Goes.run X6 hx hown hci hcl hby (L := [(205, .iload 10, 2)]) (by decide +kernel) rfl (g' := (mkF m 207 #[.val (.int x0), .val (.long x1), .second, .val (.long x2), .second, .val (.long x3), .second, .val (.long x4), .second, .val (.int (0 : Int32)), .val (.int (0 : Int32)), .val (.ref b3), .val (.ref b4), .val (.ref b5), .val (.int (0 : Int32)), .val (.long (w0_91 x0 x1 x2 x3 x4)), .second, .val (.long (w0_91 x0 x1 x2 x3 x4)), .second] [(.int (0 : Int32))])) rfl ?_
      have hc207_21 : ¬ ((0 : Int32) < (0 : Int32)) := Int32.lt_irrefl
      refine Goes.st (B := T6.setTop (mkF m 222 #[.val (.int x0), .val (.long x1), .second, .val (.long x2), .second, .val (.long x3), .second, .val (.long x4), .second, .val (.int (0 : Int32)), .val (.int (0 : Int32)), .val (.ref b3), .val (.ref b4), .val (.ref b5), .val (.int (0 : Int32)), .val (.long (w0_91 x0 x1 x2 x3 x4)), .second, .val (.long (w0_91 x0 x1 x2 x3 x4)), .second] [])) (fun t k => ?_) ?_
      · refine XS.ifYes X6.here hx rfl (pc0 := 207) (pc' := 222) rfl (hb hby at_207) rfl ((if0 _ _).trans (flt hc207_21).2.2.2) (by decide) (by decide) ?_
        exact k
      refine Goes.run X6 hx hown hci hcl hby (L := [(222, .iload 10, 2), (224, .iconst 1, 1)]) (by decide +kernel) rfl (g' := (mkF m 225 #[.val (.int x0), .val (.long x1), .second, .val (.long x2), .second, .val (.long x3), .second, .val (.long x4), .second, .val (.int (0 : Int32)), .val (.int (0 : Int32)), .val (.ref b3), .val (.ref b4), .val (.ref b5), .val (.int (0 : Int32)), .val (.long (w0_91 x0 x1 x2 x3 x4)), .second, .val (.long (w0_91 x0 x1 x2 x3 x4)), .second] [(.int (1 : Int32)), (.int (0 : Int32))])) rfl ?_
      have hc225_22 : ¬ ((1 : Int32) < (0 : Int32)) := by decide
      refine Goes.st (B := T6.setTop (mkF m 240 #[.val (.int x0), .val (.long x1), .second, .val (.long x2), .second, .val (.long x3), .second, .val (.long x4), .second, .val (.int (0 : Int32)), .val (.int (0 : Int32)), .val (.ref b3), .val (.ref b4), .val (.ref b5), .val (.int (0 : Int32)), .val (.long (w0_91 x0 x1 x2 x3 x4)), .second, .val (.long (w0_91 x0 x1 x2 x3 x4)), .second] [])) (fun t k => ?_) ?_
      · refine XS.icmpYes X6.here hx rfl (pc0 := 225) (pc' := 240) rfl (hb hby at_225) rfl (flt hc225_22).2.2.2 (by decide) (by decide) ?_
        exact k
      refine Goes.run X6 hx hown hci hcl hby (L := [(240, .iconst 1, 1)]) (by decide +kernel) rfl (g' := (mkF m 241 #[.val (.int x0), .val (.long x1), .second, .val (.long x2), .second, .val (.long x3), .second, .val (.long x4), .second, .val (.int (0 : Int32)), .val (.int (0 : Int32)), .val (.ref b3), .val (.ref b4), .val (.ref b5), .val (.int (0 : Int32)), .val (.long (w0_91 x0 x1 x2 x3 x4)), .second, .val (.long (w0_91 x0 x1 x2 x3 x4)), .second] [(.int (1 : Int32))])) rfl ?_
      exact Goes.retB X6 hx hlk (t := .boolean) Bd.returns (by simp) (hb hby at_241) rfl ⟨(congrArg (fun z => some (Value.int z)) (show (r0 x0 x1 x2 x3 x4) = (1 : Int32) from ((if_pos hs21_1).trans (if_pos hs21_2))).symm), N6⟩ (by decide) (by decide)
    · skip
      by_cases hs21_23 : (w0_19 x0 x1 x2 x3 x4) = (1 : Int32)
      · skip
        rw [hs21_23]
        refine Goes.run X0 hx hown hci hcl hby (L := [(21, .iload 9, 2), (23, .lload_n 1, 1), (24, .lload_n 3, 1)]) (by decide +kernel) rfl (g' := (mkF m 25 #[.val (.int x0), .val (.long x1), .second, .val (.long x2), .second, .val (.long x3), .second, .val (.long x4), .second, .val (.int (0 : Int32)), .val (.int (1 : Int32)), .unset, .unset, .unset, .unset, .unset, .unset, .unset, .unset] [(.long x2), (.long x1), (.int (0 : Int32))])) rfl ?_
        obtain ⟨_, _, ⟨T24, L24, k24, n24⟩, -, X24, ⟨Lc24, hQ24, l24, y24, z24⟩, st24⟩ := Jvm.LawKit.callS X0 hx (y := (⟨"com/example/marks_across_domains/marksacrossdomains/BitsUnionPinLaw", "make", "(IJJ)[J"⟩ : MethodName)) hown (mvT hZ (hw _ (List.mem_of_getElem? (i := 0) rfl))) (mvT hZ (hw _ (List.mem_of_getElem? (i := 1) rfl))) (mvT hZ (hw _ (List.mem_of_getElem? (i := 2) rfl))) (mvT hZ (hw _ (List.mem_of_getElem? (i := 3) rfl))) (by decide) (backOf (W := 0) (rm20 l Z a0 hw [] x1 x2 h0 n0 Z0 ) hZ (hw _ (List.mem_of_getElem? (i := 3) rfl)) (hw _ (List.mem_of_getElem? (i := 2) rfl)) (by decide) (by decide)) (g := (mkF m 25 #[.val (.int x0), .val (.long x1), .second, .val (.long x2), .second, .val (.long x3), .second, .val (.long x4), .second, .val (.int (0 : Int32)), .val (.int (1 : Int32)), .unset, .unset, .unset, .unset, .unset, .unset, .unset, .unset] [(.long x2), (.long x1), (.int (0 : Int32))])) rfl (by rw [hml]; rfl) (argsL := [(.int (0 : Int32)), (.long x1), (.long x2)]) (rest := []) (lenOf pd0_0 rfl) rfl (by show 2 * 0 + _ ≤ _; exact Nat.le_of_eq rfl) (hb hby at_25) (fun _ _ => ⟨rfl, e0, (by decide : 0 + 1 ≤ _), (by decide : 0 + 0 ≤ _)⟩)
        dsimp only [Pt.U, Pt.locs, Pt.cells, Pt.slots] at X24 l24 y24 z24 st24 hQ24
        subst l24 y24 z24
        obtain ⟨h24, eh24⟩ : ∃ z, z = T24.heap := ⟨_, rfl⟩
        rw [← eh24] at hQ24
        have e24 : T24.heap = h24 := eh24.symm
        obtain ⟨b24, kc24, rfl, N24q, Kq24, szq24, o24_0, o24_1⟩ := hQ24
        have g_b24 : n0 ≤ b24 := Nat.le_trans Z0 szq24
        have N24 := Fr.app N0 N24q
        have E_b24 : Exa Z h24 b24 "[J" := o24_0
        have V_b24 : Arv Z h24 b24 kc24 .long (0 : Int32) [] (.long (0 : Int64)) := o24_1
        have Zn24 : n0 ≤ h24.size := Nat.le_trans Z0 Kq24.1
        refine Goes.st (B := T24.setTop (mkF m 28 #[.val (.int x0), .val (.long x1), .second, .val (.long x2), .second, .val (.long x3), .second, .val (.long x4), .second, .val (.int (0 : Int32)), .val (.int (1 : Int32)), .unset, .unset, .unset, .unset, .unset, .unset, .unset, .unset] [(.ref b24)])) st24 ?_
        refine Goes.run X24 hx hown hci hcl hby (L := [(28, .astore 11, 2), (30, .iload 10, 2), (32, .lload 5, 2), (34, .lload 7, 2)]) (by decide +kernel) rfl (g' := (mkF m 36 #[.val (.int x0), .val (.long x1), .second, .val (.long x2), .second, .val (.long x3), .second, .val (.long x4), .second, .val (.int (0 : Int32)), .val (.int (1 : Int32)), .val (.ref b24), .unset, .unset, .unset, .unset, .unset, .unset, .unset] [(.long x4), (.long x3), (.int (1 : Int32))])) rfl ?_
        obtain ⟨_, _, ⟨T25, L25, k25, n25⟩, -, X25, ⟨Lc25, hQ25, l25, y25, z25⟩, st25⟩ := Jvm.LawKit.callS X24 hx (y := (⟨"com/example/marks_across_domains/marksacrossdomains/BitsUnionPinLaw", "make", "(IJJ)[J"⟩ : MethodName)) hown (mvT hZ (hw _ (List.mem_of_getElem? (i := 0) rfl))) (mvT hZ (hw _ (List.mem_of_getElem? (i := 1) rfl))) (mvT hZ (hw _ (List.mem_of_getElem? (i := 2) rfl))) (mvT hZ (hw _ (List.mem_of_getElem? (i := 3) rfl))) (by decide) (backOf (W := 0) (rm21 l Z a0 hw [] x3 x4 h24 n0 Zn24 ) hZ (hw _ (List.mem_of_getElem? (i := 3) rfl)) (hw _ (List.mem_of_getElem? (i := 2) rfl)) (by decide) (by decide)) (g := (mkF m 36 #[.val (.int x0), .val (.long x1), .second, .val (.long x2), .second, .val (.long x3), .second, .val (.long x4), .second, .val (.int (0 : Int32)), .val (.int (1 : Int32)), .val (.ref b24), .unset, .unset, .unset, .unset, .unset, .unset, .unset] [(.long x4), (.long x3), (.int (1 : Int32))])) rfl (by rw [hml]; rfl) (argsL := [(.int (1 : Int32)), (.long x3), (.long x4)]) (rest := []) (lenOf pd0_0 rfl) rfl (by show 2 * 0 + _ ≤ _; exact Nat.le_of_eq rfl) (hb hby at_36) (fun _ _ => ⟨rfl, e24, (by decide : 1 + 1 ≤ _), (by decide : 0 + 1 ≤ _)⟩)
        dsimp only [Pt.U, Pt.locs, Pt.cells, Pt.slots] at X25 l25 y25 z25 st25 hQ25
        subst l25 y25 z25
        obtain ⟨h25, eh25⟩ : ∃ z, z = T25.heap := ⟨_, rfl⟩
        rw [← eh25] at hQ25
        have e25 : T25.heap = h25 := eh25.symm
        obtain ⟨b25, kc25, rfl, N25q, Kq25, szq25, o25_0, o25_1⟩ := hQ25
        have ne_b24_b25 : b24 ≠ b25 := Nat.ne_of_lt (Nat.lt_of_lt_of_le E_b24.lt szq25)
        have g_b25 : n0 ≤ b25 := Nat.le_trans Zn24 szq25
        have N25 := Fr.app N24 N25q
        have E_b24 := E_b24.keep Kq25
        have V_b24 := V_b24.keep Kq25 nin0
        have E_b25 : Exa Z h25 b25 "[J" := o25_0
        have V_b25 : Arv Z h25 b25 kc25 .long (1 : Int32) [(.long x3)] (.long (0 : Int64)) := o25_1
        have Zn25 : n0 ≤ h25.size := Nat.le_trans Zn24 Kq25.1
        refine Goes.st (B := T25.setTop (mkF m 39 #[.val (.int x0), .val (.long x1), .second, .val (.long x2), .second, .val (.long x3), .second, .val (.long x4), .second, .val (.int (0 : Int32)), .val (.int (1 : Int32)), .val (.ref b24), .unset, .unset, .unset, .unset, .unset, .unset, .unset] [(.ref b25)])) st25 ?_
        refine Goes.run X25 hx hown hci hcl hby (L := [(39, .astore 12, 2), (41, .aload 11, 2), (43, .aload 12, 2)]) (by decide +kernel) rfl (g' := (mkF m 45 #[.val (.int x0), .val (.long x1), .second, .val (.long x2), .second, .val (.long x3), .second, .val (.long x4), .second, .val (.int (0 : Int32)), .val (.int (1 : Int32)), .val (.ref b24), .val (.ref b25), .unset, .unset, .unset, .unset, .unset, .unset] [(.ref b25), (.ref b24)])) rfl ?_
        obtain ⟨_, _, ⟨T26, L26, k26, n26⟩, -, X26, ⟨Lc26, hQ26, l26, y26, z26⟩, st26⟩ := Jvm.LawKit.callS X25 hx (y := (⟨"com/example/marks_across_domains/marksacrossdomains/Bits", "union", "([J[J)[J"⟩ : MethodName)) hown (mvT hZ (hw _ (List.mem_of_getElem? (i := 5) rfl))) (mvT hZ (hw _ (List.mem_of_getElem? (i := 6) rfl))) (mvT hZ (hw _ (List.mem_of_getElem? (i := 7) rfl))) (mvT hZ (hw _ (List.mem_of_getElem? (i := 8) rfl))) (by decide) (backOf (W := 0) (rm301 l Z a0 hw [] b24 b25 kc24 kc25 x3 h25 n0 Zn25 E_b24 V_b24 E_b25 V_b25) hZ (hw _ (List.mem_of_getElem? (i := 8) rfl)) (hw _ (List.mem_of_getElem? (i := 7) rfl)) (by decide) (by decide)) (g := (mkF m 45 #[.val (.int x0), .val (.long x1), .second, .val (.long x2), .second, .val (.long x3), .second, .val (.long x4), .second, .val (.int (0 : Int32)), .val (.int (1 : Int32)), .val (.ref b24), .val (.ref b25), .unset, .unset, .unset, .unset, .unset, .unset] [(.ref b25), (.ref b24)])) rfl (by rw [hml]; rfl) (argsL := [(.ref b24), (.ref b25)]) (rest := []) (lenOf pd0_1 rfl) rfl (by show 2 * 0 + _ ≤ _; exact Nat.le_of_eq rfl) (hb hby at_45) (fun _ _ => ⟨rfl, e25, (by decide : 2 + 1 ≤ _), (by decide : 1 + 1 ≤ _)⟩)
        dsimp only [Pt.U, Pt.locs, Pt.cells, Pt.slots] at X26 l26 y26 z26 st26 hQ26
        subst l26 y26 z26
        obtain ⟨h26, eh26⟩ : ∃ z, z = T26.heap := ⟨_, rfl⟩
        rw [← eh26] at hQ26
        have e26 : T26.heap = h26 := eh26.symm
        obtain ⟨b26, kc26, rfl, N26q, Kq26, szq26, o26_0, o26_1⟩ := hQ26
        have ne_b24_b26 : b24 ≠ b26 := Nat.ne_of_lt (Nat.lt_of_lt_of_le E_b24.lt szq26)
        have ne_b25_b26 : b25 ≠ b26 := Nat.ne_of_lt (Nat.lt_of_lt_of_le E_b25.lt szq26)
        have g_b26 : n0 ≤ b26 := Nat.le_trans Zn25 szq26
        have N26 := Fr.app N25 N26q
        have E_b24 := E_b24.keep Kq26
        have V_b24 := V_b24.keep Kq26 nin0
        have E_b25 := E_b25.keep Kq26
        have V_b25 := V_b25.keep Kq26 nin0
        have E_b26 : Exa Z h26 b26 "[J" := o26_0
        have V_b26 : Arv Z h26 b26 kc26 .long (1 : Int32) [(.long x3)] (.long (0 : Int64)) := o26_1
        have Zn26 : n0 ≤ h26.size := Nat.le_trans Zn25 Kq26.1
        refine Goes.st (B := T26.setTop (mkF m 48 #[.val (.int x0), .val (.long x1), .second, .val (.long x2), .second, .val (.long x3), .second, .val (.long x4), .second, .val (.int (0 : Int32)), .val (.int (1 : Int32)), .val (.ref b24), .val (.ref b25), .unset, .unset, .unset, .unset, .unset, .unset] [(.ref b26)])) st26 ?_
        refine Goes.run X26 hx hown hci hcl hby (L := [(48, .astore 13, 2), (50, .iload 9, 2), (52, .iload 10, 2)]) (by decide +kernel) rfl (g' := (mkF m 54 #[.val (.int x0), .val (.long x1), .second, .val (.long x2), .second, .val (.long x3), .second, .val (.long x4), .second, .val (.int (0 : Int32)), .val (.int (1 : Int32)), .val (.ref b24), .val (.ref b25), .val (.ref b26), .unset, .unset, .unset, .unset, .unset] [(.int (1 : Int32)), (.int (0 : Int32))])) rfl ?_
        obtain ⟨_, _, ⟨T27, L27, k27, n27⟩, -, X27, ⟨Lc27, hQ27, l27, y27, z27⟩, st27⟩ := Jvm.LawKit.callS X26 hx (y := (⟨"java/lang/Math", "max", "(II)I"⟩ : MethodName)) hown (mvT hZ (hw _ (List.mem_of_getElem? (i := 18) rfl))) (mvT hZ (hw _ (List.mem_of_getElem? (i := 19) rfl))) (mvT hZ (hw _ (List.mem_of_getElem? (i := 20) rfl))) (mvT hZ (hw _ (List.mem_of_getElem? (i := 21) rfl))) (by decide) (backOf (W := 0) (rm1 l Z a0 hw [] (0 : Int32) (1 : Int32) h26 n0 Zn26 ) hZ (hw _ (List.mem_of_getElem? (i := 21) rfl)) (hw _ (List.mem_of_getElem? (i := 20) rfl)) (by decide) (by decide)) (g := (mkF m 54 #[.val (.int x0), .val (.long x1), .second, .val (.long x2), .second, .val (.long x3), .second, .val (.long x4), .second, .val (.int (0 : Int32)), .val (.int (1 : Int32)), .val (.ref b24), .val (.ref b25), .val (.ref b26), .unset, .unset, .unset, .unset, .unset] [(.int (1 : Int32)), (.int (0 : Int32))])) rfl (by rw [hml]; rfl) (argsL := [(.int (0 : Int32)), (.int (1 : Int32))]) (rest := []) (lenOf pd0_2 rfl) rfl (by show 2 * 0 + _ ≤ _; exact Nat.le_of_eq rfl) (hb hby at_54) (fun _ _ => ⟨rfl, e26, (by decide : 3 + 0 ≤ _), (by decide : 2 + 0 ≤ _)⟩)
        dsimp only [Pt.U, Pt.locs, Pt.cells, Pt.slots] at X27 l27 y27 z27 st27 hQ27
        subst l27 y27 z27
        obtain ⟨rfl, N27q, e27⟩ := hQ27
        have N27 := Fr.app N26 N27q
        refine Goes.st (B := T27.setTop (mkF m 57 #[.val (.int x0), .val (.long x1), .second, .val (.long x2), .second, .val (.long x3), .second, .val (.long x4), .second, .val (.int (0 : Int32)), .val (.int (1 : Int32)), .val (.ref b24), .val (.ref b25), .val (.ref b26), .unset, .unset, .unset, .unset, .unset] [(.int (1 : Int32))])) st27 ?_
        refine Goes.run X27 hx hown hci hcl hby (L := [(57, .istore 14, 2), (59, .aload 13, 2)]) (by decide +kernel) rfl (g' := (mkF m 61 #[.val (.int x0), .val (.long x1), .second, .val (.long x2), .second, .val (.long x3), .second, .val (.long x4), .second, .val (.int (0 : Int32)), .val (.int (1 : Int32)), .val (.ref b24), .val (.ref b25), .val (.ref b26), .val (.int (1 : Int32)), .unset, .unset, .unset, .unset] [(.ref b26)])) rfl ?_
        obtain ⟨cl28, Ar28, q28, S28, M28, Hs28, G28⟩ := id V_b26
        refine Goes.st (B := T27.setTop (mkF m 62 #[.val (.int x0), .val (.long x1), .second, .val (.long x2), .second, .val (.long x3), .second, .val (.long x4), .second, .val (.int (0 : Int32)), .val (.int (1 : Int32)), .val (.ref b24), .val (.ref b25), .val (.ref b26), .val (.int (1 : Int32)), .unset, .unset, .unset, .unset] [(.int (1 : Int32))])) (fun t k => ?_) ?_
        · refine X27.arraylength hx (cell := cl28) (by rw [e27]; exact Ar28.1) (State.isArrayOf_alike hZ.alike Ar28.2.1) (g := (mkF m 61 #[.val (.int x0), .val (.long x1), .second, .val (.long x2), .second, .val (.long x3), .second, .val (.long x4), .second, .val (.int (0 : Int32)), .val (.int (1 : Int32)), .val (.ref b24), .val (.ref b25), .val (.ref b26), .val (.int (1 : Int32)), .unset, .unset, .unset, .unset] [(.ref b26)])) rfl (rest := []) rfl (hb hby at_61) _ ?_
          rw [len_of S28 M28]
          exact k
        refine Goes.run X27 hx hown hci hcl hby (L := [(62, .iload 14, 2)]) (by decide +kernel) rfl (g' := (mkF m 64 #[.val (.int x0), .val (.long x1), .second, .val (.long x2), .second, .val (.long x3), .second, .val (.long x4), .second, .val (.int (0 : Int32)), .val (.int (1 : Int32)), .val (.ref b24), .val (.ref b25), .val (.ref b26), .val (.int (1 : Int32)), .unset, .unset, .unset, .unset] [(.int (1 : Int32)), (.int (1 : Int32))])) rfl ?_
        have hc64_29 : (1 : Int32) = (1 : Int32) := rfl
        refine Goes.st (B := T27.setTop (mkF m 69 #[.val (.int x0), .val (.long x1), .second, .val (.long x2), .second, .val (.long x3), .second, .val (.long x4), .second, .val (.int (0 : Int32)), .val (.int (1 : Int32)), .val (.ref b24), .val (.ref b25), .val (.ref b26), .val (.int (1 : Int32)), .unset, .unset, .unset, .unset] [])) (fun t k => ?_) ?_
        · refine XS.icmpYes X27.here hx rfl (pc0 := 64) (pc' := 69) rfl (hb hby at_64) rfl (teq hc64_29).1 (by decide) (by decide) ?_
          exact k
        refine Goes.run X27 hx hown hci hcl hby (L := [(69, .iload 9, 2)]) (by decide +kernel) rfl (g' := (mkF m 71 #[.val (.int x0), .val (.long x1), .second, .val (.long x2), .second, .val (.long x3), .second, .val (.long x4), .second, .val (.int (0 : Int32)), .val (.int (1 : Int32)), .val (.ref b24), .val (.ref b25), .val (.ref b26), .val (.int (1 : Int32)), .unset, .unset, .unset, .unset] [(.int (0 : Int32))])) rfl ?_
        have hc71_30 : ¬ ((0 : Int32) < (0 : Int32)) := Int32.lt_irrefl
        refine Goes.st (B := T27.setTop (mkF m 78 #[.val (.int x0), .val (.long x1), .second, .val (.long x2), .second, .val (.long x3), .second, .val (.long x4), .second, .val (.int (0 : Int32)), .val (.int (1 : Int32)), .val (.ref b24), .val (.ref b25), .val (.ref b26), .val (.int (1 : Int32)), .unset, .unset, .unset, .unset] [])) (fun t k => ?_) ?_
        · refine XS.ifYes X27.here hx rfl (pc0 := 71) (pc' := 78) rfl (hb hby at_71) rfl ((if0 _ _).trans (flt hc71_30).2.2.2) (by decide) (by decide) ?_
          exact k
        refine Goes.run X27 hx hown hci hcl hby (L := [(78, .lconst 0, 1), (79, .iload 10, 2)]) (by decide +kernel) rfl (g' := (mkF m 81 #[.val (.int x0), .val (.long x1), .second, .val (.long x2), .second, .val (.long x3), .second, .val (.long x4), .second, .val (.int (0 : Int32)), .val (.int (1 : Int32)), .val (.ref b24), .val (.ref b25), .val (.ref b26), .val (.int (1 : Int32)), .unset, .unset, .unset, .unset] [(.int (1 : Int32)), (.long (0 : Int64))])) rfl ?_
        have hc81_31 : (0 : Int32) < (1 : Int32) := by decide
        refine Goes.st (B := T27.setTop (mkF m 84 #[.val (.int x0), .val (.long x1), .second, .val (.long x2), .second, .val (.long x3), .second, .val (.long x4), .second, .val (.int (0 : Int32)), .val (.int (1 : Int32)), .val (.ref b24), .val (.ref b25), .val (.ref b26), .val (.int (1 : Int32)), .unset, .unset, .unset, .unset] [(.long (0 : Int64))])) (fun t k => ?_) ?_
        · refine XS.ifNo X27.here hx rfl (hb hby at_81) rfl ((if0 _ _).trans (tlt hc81_31).2.2.2) ?_
          exact k
        refine Goes.run X27 hx hown hci hcl hby (L := [(84, .lload 5, 2), (86, .goto 4, 3), (90, .lor, 1), (91, .lstore 15, 2), (93, .iload 9, 2), (95, .iconst 1, 1)]) (by decide +kernel) rfl (g' := (mkF m 96 #[.val (.int x0), .val (.long x1), .second, .val (.long x2), .second, .val (.long x3), .second, .val (.long x4), .second, .val (.int (0 : Int32)), .val (.int (1 : Int32)), .val (.ref b24), .val (.ref b25), .val (.ref b26), .val (.int (1 : Int32)), .val (.long (w0_91_a x0 x1 x2 x3 x4)), .second, .unset, .unset] [(.int (1 : Int32)), (.int (0 : Int32))])) rfl ?_
        have hc96_32 : ¬ ((1 : Int32) < (0 : Int32)) := by decide
        refine Goes.st (B := T27.setTop (mkF m 103 #[.val (.int x0), .val (.long x1), .second, .val (.long x2), .second, .val (.long x3), .second, .val (.long x4), .second, .val (.int (0 : Int32)), .val (.int (1 : Int32)), .val (.ref b24), .val (.ref b25), .val (.ref b26), .val (.int (1 : Int32)), .val (.long (w0_91_a x0 x1 x2 x3 x4)), .second, .unset, .unset] [])) (fun t k => ?_) ?_
        · refine XS.icmpYes X27.here hx rfl (pc0 := 96) (pc' := 103) rfl (hb hby at_96) rfl (flt hc96_32).2.2.2 (by decide) (by decide) ?_
          exact k
        refine Goes.run X27 hx hown hci hcl hby (L := [(103, .lconst 0, 1), (104, .iload 10, 2), (106, .iconst 1, 1)]) (by decide +kernel) rfl (g' := (mkF m 107 #[.val (.int x0), .val (.long x1), .second, .val (.long x2), .second, .val (.long x3), .second, .val (.long x4), .second, .val (.int (0 : Int32)), .val (.int (1 : Int32)), .val (.ref b24), .val (.ref b25), .val (.ref b26), .val (.int (1 : Int32)), .val (.long (w0_91_a x0 x1 x2 x3 x4)), .second, .unset, .unset] [(.int (1 : Int32)), (.int (1 : Int32)), (.long (0 : Int64))])) rfl ?_
        have hc107_33 : ¬ ((1 : Int32) < (1 : Int32)) := Int32.lt_irrefl
        refine Goes.st (B := T27.setTop (mkF m 115 #[.val (.int x0), .val (.long x1), .second, .val (.long x2), .second, .val (.long x3), .second, .val (.long x4), .second, .val (.int (0 : Int32)), .val (.int (1 : Int32)), .val (.ref b24), .val (.ref b25), .val (.ref b26), .val (.int (1 : Int32)), .val (.long (w0_91_a x0 x1 x2 x3 x4)), .second, .unset, .unset] [(.long (0 : Int64))])) (fun t k => ?_) ?_
        · refine XS.icmpYes X27.here hx rfl (pc0 := 107) (pc' := 115) rfl (hb hby at_107) rfl (flt hc107_33).2.2.2 (by decide) (by decide) ?_
          exact k
        refine Goes.run X27 hx hown hci hcl hby (L := [(115, .lconst 0, 1), (116, .lor, 1), (117, .lstore 17, 2), (119, .iload 14, 2)]) (by decide +kernel) rfl (g' := (mkF m 121 #[.val (.int x0), .val (.long x1), .second, .val (.long x2), .second, .val (.long x3), .second, .val (.long x4), .second, .val (.int (0 : Int32)), .val (.int (1 : Int32)), .val (.ref b24), .val (.ref b25), .val (.ref b26), .val (.int (1 : Int32)), .val (.long (w0_91_a x0 x1 x2 x3 x4)), .second, .val (.long (w0_91 x0 x1 x2 x3 x4)), .second] [(.int (1 : Int32))])) rfl ?_
        have hc121_34 : (0 : Int32) < (1 : Int32) := by decide
        refine Goes.st (B := T27.setTop (mkF m 124 #[.val (.int x0), .val (.long x1), .second, .val (.long x2), .second, .val (.long x3), .second, .val (.long x4), .second, .val (.int (0 : Int32)), .val (.int (1 : Int32)), .val (.ref b24), .val (.ref b25), .val (.ref b26), .val (.int (1 : Int32)), .val (.long (w0_91_a x0 x1 x2 x3 x4)), .second, .val (.long (w0_91 x0 x1 x2 x3 x4)), .second] [])) (fun t k => ?_) ?_
        · refine XS.ifNo X27.here hx rfl (hb hby at_121) rfl ((if0 _ _).trans (tlt hc121_34).2.2.2) ?_
          exact k
        refine Goes.run X27 hx hown hci hcl hby (L := [(124, .aload 13, 2), (126, .iconst 0, 1)]) (by decide +kernel) rfl (g' := (mkF m 127 #[.val (.int x0), .val (.long x1), .second, .val (.long x2), .second, .val (.long x3), .second, .val (.long x4), .second, .val (.int (0 : Int32)), .val (.int (1 : Int32)), .val (.ref b24), .val (.ref b25), .val (.ref b26), .val (.int (1 : Int32)), .val (.long (w0_91_a x0 x1 x2 x3 x4)), .second, .val (.long (w0_91 x0 x1 x2 x3 x4)), .second] [(.int (0 : Int32)), (.ref b26)])) rfl ?_
        obtain ⟨cl35, Ar35, q35, S35, M35, Hs35, G35⟩ := id V_b26
        have hin35 : ¬ ((0 : Int32) < 0 ∨ cl35.slots.size ≤ ((0 : Int32)).toNatClampNeg) := inb_of S35 ⟨(by decide), (by decide)⟩
        have hat35 : cl35.slots[((0 : Int32)).toNatClampNeg]? = some (.long x3) := Hs35.at hin35 rfl
        refine Goes.st (B := T27.setTop (mkF m 128 #[.val (.int x0), .val (.long x1), .second, .val (.long x2), .second, .val (.long x3), .second, .val (.long x4), .second, .val (.int (0 : Int32)), .val (.int (1 : Int32)), .val (.ref b24), .val (.ref b25), .val (.ref b26), .val (.int (1 : Int32)), .val (.long (w0_91_a x0 x1 x2 x3 x4)), .second, .val (.long (w0_91 x0 x1 x2 x3 x4)), .second] [(.long x3)])) (X27.laload hx (j := (0 : Int32)) (v := (.long x3)) (by rw [e27]; exact Ar35.1) (State.isArrayOf_alike hZ.alike Ar35.2.1) Ar35.2.2 hin35 hat35 (g := (mkF m 127 #[.val (.int x0), .val (.long x1), .second, .val (.long x2), .second, .val (.long x3), .second, .val (.long x4), .second, .val (.int (0 : Int32)), .val (.int (1 : Int32)), .val (.ref b24), .val (.ref b25), .val (.ref b26), .val (.int (1 : Int32)), .val (.long (w0_91_a x0 x1 x2 x3 x4)), .second, .val (.long (w0_91 x0 x1 x2 x3 x4)), .second] [(.int (0 : Int32)), (.ref b26)])) rfl rfl (hb hby at_127)) ?_
        refine Goes.run X27 hx hown hci hcl hby (L := [(128, .lload 15, 2), (130, .lcmp, 1)]) (by decide +kernel) rfl (g' := (mkF m 131 #[.val (.int x0), .val (.long x1), .second, .val (.long x2), .second, .val (.long x3), .second, .val (.long x4), .second, .val (.int (0 : Int32)), .val (.int (1 : Int32)), .val (.ref b24), .val (.ref b25), .val (.ref b26), .val (.int (1 : Int32)), .val (.long (w0_91_a x0 x1 x2 x3 x4)), .second, .val (.long (w0_91 x0 x1 x2 x3 x4)), .second] [(.int (lcmpW x3 (w0_91_a x0 x1 x2 x3 x4)))])) rfl ?_
        by_cases hc131_36 : x3 = (w0_91_a x0 x1 x2 x3 x4)
        · skip
          refine Goes.st (B := T27.setTop (mkF m 136 #[.val (.int x0), .val (.long x1), .second, .val (.long x2), .second, .val (.long x3), .second, .val (.long x4), .second, .val (.int (0 : Int32)), .val (.int (1 : Int32)), .val (.ref b24), .val (.ref b25), .val (.ref b26), .val (.int (1 : Int32)), .val (.long (w0_91_a x0 x1 x2 x3 x4)), .second, .val (.long (w0_91 x0 x1 x2 x3 x4)), .second] [])) (fun t k => ?_) ?_
          · refine XS.ifYes X27.here hx rfl (pc0 := 131) (pc' := 136) rfl (hb hby at_131) rfl (teqL hc131_36).1 (by decide) (by decide) ?_
            exact k
          refine Goes.run X27 hx hown hci hcl hby (L := [(136, .iload 14, 2), (138, .iconst 1, 1)]) (by decide +kernel) rfl (g' := (mkF m 139 #[.val (.int x0), .val (.long x1), .second, .val (.long x2), .second, .val (.long x3), .second, .val (.long x4), .second, .val (.int (0 : Int32)), .val (.int (1 : Int32)), .val (.ref b24), .val (.ref b25), .val (.ref b26), .val (.int (1 : Int32)), .val (.long (w0_91_a x0 x1 x2 x3 x4)), .second, .val (.long (w0_91 x0 x1 x2 x3 x4)), .second] [(.int (1 : Int32)), (.int (1 : Int32))])) rfl ?_
          have hc139_37 : ¬ ((1 : Int32) < (1 : Int32)) := Int32.lt_irrefl
          refine Goes.st (B := T27.setTop (mkF m 154 #[.val (.int x0), .val (.long x1), .second, .val (.long x2), .second, .val (.long x3), .second, .val (.long x4), .second, .val (.int (0 : Int32)), .val (.int (1 : Int32)), .val (.ref b24), .val (.ref b25), .val (.ref b26), .val (.int (1 : Int32)), .val (.long (w0_91_a x0 x1 x2 x3 x4)), .second, .val (.long (w0_91 x0 x1 x2 x3 x4)), .second] [])) (fun t k => ?_) ?_
          · refine XS.icmpYes X27.here hx rfl (pc0 := 139) (pc' := 154) rfl (hb hby at_139) rfl (flt hc139_37).2.2.2 (by decide) (by decide) ?_
            exact k
          refine Goes.run X27 hx hown hci hcl hby (L := [(154, .aload 11, 2)]) (by decide +kernel) rfl (g' := (mkF m 156 #[.val (.int x0), .val (.long x1), .second, .val (.long x2), .second, .val (.long x3), .second, .val (.long x4), .second, .val (.int (0 : Int32)), .val (.int (1 : Int32)), .val (.ref b24), .val (.ref b25), .val (.ref b26), .val (.int (1 : Int32)), .val (.long (w0_91_a x0 x1 x2 x3 x4)), .second, .val (.long (w0_91 x0 x1 x2 x3 x4)), .second] [(.ref b24)])) rfl ?_
          obtain ⟨cl38, Ar38, q38, S38, M38, Hs38, G38⟩ := id V_b24
          refine Goes.st (B := T27.setTop (mkF m 157 #[.val (.int x0), .val (.long x1), .second, .val (.long x2), .second, .val (.long x3), .second, .val (.long x4), .second, .val (.int (0 : Int32)), .val (.int (1 : Int32)), .val (.ref b24), .val (.ref b25), .val (.ref b26), .val (.int (1 : Int32)), .val (.long (w0_91_a x0 x1 x2 x3 x4)), .second, .val (.long (w0_91 x0 x1 x2 x3 x4)), .second] [(.int (0 : Int32))])) (fun t k => ?_) ?_
          · refine X27.arraylength hx (cell := cl38) (by rw [e27]; exact Ar38.1) (State.isArrayOf_alike hZ.alike Ar38.2.1) (g := (mkF m 156 #[.val (.int x0), .val (.long x1), .second, .val (.long x2), .second, .val (.long x3), .second, .val (.long x4), .second, .val (.int (0 : Int32)), .val (.int (1 : Int32)), .val (.ref b24), .val (.ref b25), .val (.ref b26), .val (.int (1 : Int32)), .val (.long (w0_91_a x0 x1 x2 x3 x4)), .second, .val (.long (w0_91 x0 x1 x2 x3 x4)), .second] [(.ref b24)])) rfl (rest := []) rfl (hb hby at_156) _ ?_
            rw [len_of S38 M38]
            exact k
          refine Goes.run X27 hx hown hci hcl hby (L := [(157, .iload 9, 2)]) (by decide +kernel) rfl (g' := (mkF m 159 #[.val (.int x0), .val (.long x1), .second, .val (.long x2), .second, .val (.long x3), .second, .val (.long x4), .second, .val (.int (0 : Int32)), .val (.int (1 : Int32)), .val (.ref b24), .val (.ref b25), .val (.ref b26), .val (.int (1 : Int32)), .val (.long (w0_91_a x0 x1 x2 x3 x4)), .second, .val (.long (w0_91 x0 x1 x2 x3 x4)), .second] [(.int (0 : Int32)), (.int (0 : Int32))])) rfl ?_
          have hc159_39 : (0 : Int32) = (0 : Int32) := rfl
          refine Goes.st (B := T27.setTop (mkF m 162 #[.val (.int x0), .val (.long x1), .second, .val (.long x2), .second, .val (.long x3), .second, .val (.long x4), .second, .val (.int (0 : Int32)), .val (.int (1 : Int32)), .val (.ref b24), .val (.ref b25), .val (.ref b26), .val (.int (1 : Int32)), .val (.long (w0_91_a x0 x1 x2 x3 x4)), .second, .val (.long (w0_91 x0 x1 x2 x3 x4)), .second] [])) (fun t k => ?_) ?_
          · refine XS.icmpNo X27.here hx rfl (hb hby at_159) rfl (teq hc159_39).2 ?_
            exact k
          refine Goes.run X27 hx hown hci hcl hby (L := [(162, .aload 12, 2)]) (by decide +kernel) rfl (g' := (mkF m 164 #[.val (.int x0), .val (.long x1), .second, .val (.long x2), .second, .val (.long x3), .second, .val (.long x4), .second, .val (.int (0 : Int32)), .val (.int (1 : Int32)), .val (.ref b24), .val (.ref b25), .val (.ref b26), .val (.int (1 : Int32)), .val (.long (w0_91_a x0 x1 x2 x3 x4)), .second, .val (.long (w0_91 x0 x1 x2 x3 x4)), .second] [(.ref b25)])) rfl ?_
          obtain ⟨cl40, Ar40, q40, S40, M40, Hs40, G40⟩ := id V_b25
          refine Goes.st (B := T27.setTop (mkF m 165 #[.val (.int x0), .val (.long x1), .second, .val (.long x2), .second, .val (.long x3), .second, .val (.long x4), .second, .val (.int (0 : Int32)), .val (.int (1 : Int32)), .val (.ref b24), .val (.ref b25), .val (.ref b26), .val (.int (1 : Int32)), .val (.long (w0_91_a x0 x1 x2 x3 x4)), .second, .val (.long (w0_91 x0 x1 x2 x3 x4)), .second] [(.int (1 : Int32))])) (fun t k => ?_) ?_
          · refine X27.arraylength hx (cell := cl40) (by rw [e27]; exact Ar40.1) (State.isArrayOf_alike hZ.alike Ar40.2.1) (g := (mkF m 164 #[.val (.int x0), .val (.long x1), .second, .val (.long x2), .second, .val (.long x3), .second, .val (.long x4), .second, .val (.int (0 : Int32)), .val (.int (1 : Int32)), .val (.ref b24), .val (.ref b25), .val (.ref b26), .val (.int (1 : Int32)), .val (.long (w0_91_a x0 x1 x2 x3 x4)), .second, .val (.long (w0_91 x0 x1 x2 x3 x4)), .second] [(.ref b25)])) rfl (rest := []) rfl (hb hby at_164) _ ?_
            rw [len_of S40 M40]
            exact k
          refine Goes.run X27 hx hown hci hcl hby (L := [(165, .iload 10, 2)]) (by decide +kernel) rfl (g' := (mkF m 167 #[.val (.int x0), .val (.long x1), .second, .val (.long x2), .second, .val (.long x3), .second, .val (.long x4), .second, .val (.int (0 : Int32)), .val (.int (1 : Int32)), .val (.ref b24), .val (.ref b25), .val (.ref b26), .val (.int (1 : Int32)), .val (.long (w0_91_a x0 x1 x2 x3 x4)), .second, .val (.long (w0_91 x0 x1 x2 x3 x4)), .second] [(.int (1 : Int32)), (.int (1 : Int32))])) rfl ?_
          have hc167_41 : (1 : Int32) = (1 : Int32) := rfl
          refine Goes.st (B := T27.setTop (mkF m 172 #[.val (.int x0), .val (.long x1), .second, .val (.long x2), .second, .val (.long x3), .second, .val (.long x4), .second, .val (.int (0 : Int32)), .val (.int (1 : Int32)), .val (.ref b24), .val (.ref b25), .val (.ref b26), .val (.int (1 : Int32)), .val (.long (w0_91_a x0 x1 x2 x3 x4)), .second, .val (.long (w0_91 x0 x1 x2 x3 x4)), .second] [])) (fun t k => ?_) ?_
          · refine XS.icmpYes X27.here hx rfl (pc0 := 167) (pc' := 172) rfl (hb hby at_167) rfl (teq hc167_41).1 (by decide) (by decide) ?_
            exact k
          refine Goes.run X27 hx hown hci hcl hby (L := [(172, .iload 9, 2)]) (by decide +kernel) rfl (g' := (mkF m 174 #[.val (.int x0), .val (.long x1), .second, .val (.long x2), .second, .val (.long x3), .second, .val (.long x4), .second, .val (.int (0 : Int32)), .val (.int (1 : Int32)), .val (.ref b24), .val (.ref b25), .val (.ref b26), .val (.int (1 : Int32)), .val (.long (w0_91_a x0 x1 x2 x3 x4)), .second, .val (.long (w0_91 x0 x1 x2 x3 x4)), .second] [(.int (0 : Int32))])) rfl ?_
          have hc174_42 : ¬ ((0 : Int32) < (0 : Int32)) := Int32.lt_irrefl
          refine Goes.st (B := T27.setTop (mkF m 188 #[.val (.int x0), .val (.long x1), .second, .val (.long x2), .second, .val (.long x3), .second, .val (.long x4), .second, .val (.int (0 : Int32)), .val (.int (1 : Int32)), .val (.ref b24), .val (.ref b25), .val (.ref b26), .val (.int (1 : Int32)), .val (.long (w0_91_a x0 x1 x2 x3 x4)), .second, .val (.long (w0_91 x0 x1 x2 x3 x4)), .second] [])) (fun t k => ?_) ?_
          · refine XS.ifYes X27.here hx rfl (pc0 := 174) (pc' := 188) rfl (hb hby at_174) rfl ((if0 _ _).trans (flt hc174_42).2.2.2) (by decide) (by decide) ?_
            exact k
          refine Goes.run X27 hx hown hci hcl hby (L := [(188, .iload 9, 2), (190, .iconst 1, 1)]) (by decide +kernel) rfl (g' := (mkF m 191 #[.val (.int x0), .val (.long x1), .second, .val (.long x2), .second, .val (.long x3), .second, .val (.long x4), .second, .val (.int (0 : Int32)), .val (.int (1 : Int32)), .val (.ref b24), .val (.ref b25), .val (.ref b26), .val (.int (1 : Int32)), .val (.long (w0_91_a x0 x1 x2 x3 x4)), .second, .val (.long (w0_91 x0 x1 x2 x3 x4)), .second] [(.int (1 : Int32)), (.int (0 : Int32))])) rfl ?_
          have hc191_43 : ¬ ((1 : Int32) < (0 : Int32)) := by decide
          refine Goes.st (B := T27.setTop (mkF m 205 #[.val (.int x0), .val (.long x1), .second, .val (.long x2), .second, .val (.long x3), .second, .val (.long x4), .second, .val (.int (0 : Int32)), .val (.int (1 : Int32)), .val (.ref b24), .val (.ref b25), .val (.ref b26), .val (.int (1 : Int32)), .val (.long (w0_91_a x0 x1 x2 x3 x4)), .second, .val (.long (w0_91 x0 x1 x2 x3 x4)), .second] [])) (fun t k => ?_) ?_
          · refine XS.icmpYes X27.here hx rfl (pc0 := 191) (pc' := 205) rfl (hb hby at_191) rfl (flt hc191_43).2.2.2 (by decide) (by decide) ?_
            exact k
          refine Goes.run X27 hx hown hci hcl hby (L := [(205, .iload 10, 2)]) (by decide +kernel) rfl (g' := (mkF m 207 #[.val (.int x0), .val (.long x1), .second, .val (.long x2), .second, .val (.long x3), .second, .val (.long x4), .second, .val (.int (0 : Int32)), .val (.int (1 : Int32)), .val (.ref b24), .val (.ref b25), .val (.ref b26), .val (.int (1 : Int32)), .val (.long (w0_91_a x0 x1 x2 x3 x4)), .second, .val (.long (w0_91 x0 x1 x2 x3 x4)), .second] [(.int (1 : Int32))])) rfl ?_
          have hc207_44 : (0 : Int32) < (1 : Int32) := by decide
          refine Goes.st (B := T27.setTop (mkF m 210 #[.val (.int x0), .val (.long x1), .second, .val (.long x2), .second, .val (.long x3), .second, .val (.long x4), .second, .val (.int (0 : Int32)), .val (.int (1 : Int32)), .val (.ref b24), .val (.ref b25), .val (.ref b26), .val (.int (1 : Int32)), .val (.long (w0_91_a x0 x1 x2 x3 x4)), .second, .val (.long (w0_91 x0 x1 x2 x3 x4)), .second] [])) (fun t k => ?_) ?_
          · refine XS.ifNo X27.here hx rfl (hb hby at_207) rfl ((if0 _ _).trans (tlt hc207_44).2.2.2) ?_
            exact k
          refine Goes.run X27 hx hown hci hcl hby (L := [(210, .aload 12, 2), (212, .iconst 0, 1)]) (by decide +kernel) rfl (g' := (mkF m 213 #[.val (.int x0), .val (.long x1), .second, .val (.long x2), .second, .val (.long x3), .second, .val (.long x4), .second, .val (.int (0 : Int32)), .val (.int (1 : Int32)), .val (.ref b24), .val (.ref b25), .val (.ref b26), .val (.int (1 : Int32)), .val (.long (w0_91_a x0 x1 x2 x3 x4)), .second, .val (.long (w0_91 x0 x1 x2 x3 x4)), .second] [(.int (0 : Int32)), (.ref b25)])) rfl ?_
          obtain ⟨cl45, Ar45, q45, S45, M45, Hs45, G45⟩ := id V_b25
          have hin45 : ¬ ((0 : Int32) < 0 ∨ cl45.slots.size ≤ ((0 : Int32)).toNatClampNeg) := inb_of S45 ⟨(by decide), (by decide)⟩
          have hat45 : cl45.slots[((0 : Int32)).toNatClampNeg]? = some (.long x3) := Hs45.at hin45 rfl
          refine Goes.st (B := T27.setTop (mkF m 214 #[.val (.int x0), .val (.long x1), .second, .val (.long x2), .second, .val (.long x3), .second, .val (.long x4), .second, .val (.int (0 : Int32)), .val (.int (1 : Int32)), .val (.ref b24), .val (.ref b25), .val (.ref b26), .val (.int (1 : Int32)), .val (.long (w0_91_a x0 x1 x2 x3 x4)), .second, .val (.long (w0_91 x0 x1 x2 x3 x4)), .second] [(.long x3)])) (X27.laload hx (j := (0 : Int32)) (v := (.long x3)) (by rw [e27]; exact Ar45.1) (State.isArrayOf_alike hZ.alike Ar45.2.1) Ar45.2.2 hin45 hat45 (g := (mkF m 213 #[.val (.int x0), .val (.long x1), .second, .val (.long x2), .second, .val (.long x3), .second, .val (.long x4), .second, .val (.int (0 : Int32)), .val (.int (1 : Int32)), .val (.ref b24), .val (.ref b25), .val (.ref b26), .val (.int (1 : Int32)), .val (.long (w0_91_a x0 x1 x2 x3 x4)), .second, .val (.long (w0_91 x0 x1 x2 x3 x4)), .second] [(.int (0 : Int32)), (.ref b25)])) rfl rfl (hb hby at_213)) ?_
          refine Goes.run X27 hx hown hci hcl hby (L := [(214, .lload 5, 2), (216, .lcmp, 1)]) (by decide +kernel) rfl (g' := (mkF m 217 #[.val (.int x0), .val (.long x1), .second, .val (.long x2), .second, .val (.long x3), .second, .val (.long x4), .second, .val (.int (0 : Int32)), .val (.int (1 : Int32)), .val (.ref b24), .val (.ref b25), .val (.ref b26), .val (.int (1 : Int32)), .val (.long (w0_91_a x0 x1 x2 x3 x4)), .second, .val (.long (w0_91 x0 x1 x2 x3 x4)), .second] [(.int (lcmpW x3 x3))])) rfl ?_
          have hc217_46 : x3 = x3 := rfl
          refine Goes.st (B := T27.setTop (mkF m 222 #[.val (.int x0), .val (.long x1), .second, .val (.long x2), .second, .val (.long x3), .second, .val (.long x4), .second, .val (.int (0 : Int32)), .val (.int (1 : Int32)), .val (.ref b24), .val (.ref b25), .val (.ref b26), .val (.int (1 : Int32)), .val (.long (w0_91_a x0 x1 x2 x3 x4)), .second, .val (.long (w0_91 x0 x1 x2 x3 x4)), .second] [])) (fun t k => ?_) ?_
          · refine XS.ifYes X27.here hx rfl (pc0 := 217) (pc' := 222) rfl (hb hby at_217) rfl (teqL hc217_46).1 (by decide) (by decide) ?_
            exact k
          refine Goes.run X27 hx hown hci hcl hby (L := [(222, .iload 10, 2), (224, .iconst 1, 1)]) (by decide +kernel) rfl (g' := (mkF m 225 #[.val (.int x0), .val (.long x1), .second, .val (.long x2), .second, .val (.long x3), .second, .val (.long x4), .second, .val (.int (0 : Int32)), .val (.int (1 : Int32)), .val (.ref b24), .val (.ref b25), .val (.ref b26), .val (.int (1 : Int32)), .val (.long (w0_91_a x0 x1 x2 x3 x4)), .second, .val (.long (w0_91 x0 x1 x2 x3 x4)), .second] [(.int (1 : Int32)), (.int (1 : Int32))])) rfl ?_
          have hc225_47 : ¬ ((1 : Int32) < (1 : Int32)) := Int32.lt_irrefl
          refine Goes.st (B := T27.setTop (mkF m 240 #[.val (.int x0), .val (.long x1), .second, .val (.long x2), .second, .val (.long x3), .second, .val (.long x4), .second, .val (.int (0 : Int32)), .val (.int (1 : Int32)), .val (.ref b24), .val (.ref b25), .val (.ref b26), .val (.int (1 : Int32)), .val (.long (w0_91_a x0 x1 x2 x3 x4)), .second, .val (.long (w0_91 x0 x1 x2 x3 x4)), .second] [])) (fun t k => ?_) ?_
          · refine XS.icmpYes X27.here hx rfl (pc0 := 225) (pc' := 240) rfl (hb hby at_225) rfl (flt hc225_47).2.2.2 (by decide) (by decide) ?_
            exact k
          refine Goes.run X27 hx hown hci hcl hby (L := [(240, .iconst 1, 1)]) (by decide +kernel) rfl (g' := (mkF m 241 #[.val (.int x0), .val (.long x1), .second, .val (.long x2), .second, .val (.long x3), .second, .val (.long x4), .second, .val (.int (0 : Int32)), .val (.int (1 : Int32)), .val (.ref b24), .val (.ref b25), .val (.ref b26), .val (.int (1 : Int32)), .val (.long (w0_91_a x0 x1 x2 x3 x4)), .second, .val (.long (w0_91 x0 x1 x2 x3 x4)), .second] [(.int (1 : Int32))])) rfl ?_
          exact Goes.retB X27 hx hlk (t := .boolean) Bd.returns (by simp) (hb hby at_241) rfl ⟨(congrArg (fun z => some (Value.int z)) (show (r0 x0 x1 x2 x3 x4) = (1 : Int32) from ((((if_pos hs21_1).trans (if_neg hs21_2)).trans (if_pos hs21_23)).trans (if_pos hc131_36))).symm), N27⟩ (by decide) (by decide)
        · skip
          refine Goes.st (B := T27.setTop (mkF m 134 #[.val (.int x0), .val (.long x1), .second, .val (.long x2), .second, .val (.long x3), .second, .val (.long x4), .second, .val (.int (0 : Int32)), .val (.int (1 : Int32)), .val (.ref b24), .val (.ref b25), .val (.ref b26), .val (.int (1 : Int32)), .val (.long (w0_91_a x0 x1 x2 x3 x4)), .second, .val (.long (w0_91 x0 x1 x2 x3 x4)), .second] [])) (fun t k => ?_) ?_
          · refine XS.ifNo X27.here hx rfl (hb hby at_131) rfl (feqL hc131_36).1 ?_
            exact k
          refine Goes.run X27 hx hown hci hcl hby (L := [(134, .iconst 0, 1)]) (by decide +kernel) rfl (g' := (mkF m 135 #[.val (.int x0), .val (.long x1), .second, .val (.long x2), .second, .val (.long x3), .second, .val (.long x4), .second, .val (.int (0 : Int32)), .val (.int (1 : Int32)), .val (.ref b24), .val (.ref b25), .val (.ref b26), .val (.int (1 : Int32)), .val (.long (w0_91_a x0 x1 x2 x3 x4)), .second, .val (.long (w0_91 x0 x1 x2 x3 x4)), .second] [(.int (0 : Int32))])) rfl ?_
          exact Goes.retB X27 hx hlk (t := .boolean) Bd.returns (by simp) (hb hby at_135) rfl ⟨(congrArg (fun z => some (Value.int z)) (show (r0 x0 x1 x2 x3 x4) = (0 : Int32) from ((((if_pos hs21_1).trans (if_neg hs21_2)).trans (if_pos hs21_23)).trans (if_neg hc131_36))).symm), N27⟩ (by decide) (by decide)
      · skip
        have hs21_48 : (w0_19 x0 x1 x2 x3 x4) = (2 : Int32) := own_l10 x0 x1 x2 x3 x4 hs21_2 hs21_23
        rw [hs21_48]
        refine Goes.run X0 hx hown hci hcl hby (L := [(21, .iload 9, 2), (23, .lload_n 1, 1), (24, .lload_n 3, 1)]) (by decide +kernel) rfl (g' := (mkF m 25 #[.val (.int x0), .val (.long x1), .second, .val (.long x2), .second, .val (.long x3), .second, .val (.long x4), .second, .val (.int (0 : Int32)), .val (.int (2 : Int32)), .unset, .unset, .unset, .unset, .unset, .unset, .unset, .unset] [(.long x2), (.long x1), (.int (0 : Int32))])) rfl ?_
        obtain ⟨_, _, ⟨T49, L49, k49, n49⟩, -, X49, ⟨Lc49, hQ49, l49, y49, z49⟩, st49⟩ := Jvm.LawKit.callS X0 hx (y := (⟨"com/example/marks_across_domains/marksacrossdomains/BitsUnionPinLaw", "make", "(IJJ)[J"⟩ : MethodName)) hown (mvT hZ (hw _ (List.mem_of_getElem? (i := 0) rfl))) (mvT hZ (hw _ (List.mem_of_getElem? (i := 1) rfl))) (mvT hZ (hw _ (List.mem_of_getElem? (i := 2) rfl))) (mvT hZ (hw _ (List.mem_of_getElem? (i := 3) rfl))) (by decide) (backOf (W := 0) (rm20 l Z a0 hw [] x1 x2 h0 n0 Z0 ) hZ (hw _ (List.mem_of_getElem? (i := 3) rfl)) (hw _ (List.mem_of_getElem? (i := 2) rfl)) (by decide) (by decide)) (g := (mkF m 25 #[.val (.int x0), .val (.long x1), .second, .val (.long x2), .second, .val (.long x3), .second, .val (.long x4), .second, .val (.int (0 : Int32)), .val (.int (2 : Int32)), .unset, .unset, .unset, .unset, .unset, .unset, .unset, .unset] [(.long x2), (.long x1), (.int (0 : Int32))])) rfl (by rw [hml]; rfl) (argsL := [(.int (0 : Int32)), (.long x1), (.long x2)]) (rest := []) (lenOf pd0_0 rfl) rfl (by show 2 * 0 + _ ≤ _; exact Nat.le_of_eq rfl) (hb hby at_25) (fun _ _ => ⟨rfl, e0, (by decide : 0 + 1 ≤ _), (by decide : 0 + 0 ≤ _)⟩)
        dsimp only [Pt.U, Pt.locs, Pt.cells, Pt.slots] at X49 l49 y49 z49 st49 hQ49
        subst l49 y49 z49
        obtain ⟨h49, eh49⟩ : ∃ z, z = T49.heap := ⟨_, rfl⟩
        rw [← eh49] at hQ49
        have e49 : T49.heap = h49 := eh49.symm
        obtain ⟨b49, kc49, rfl, N49q, Kq49, szq49, o49_0, o49_1⟩ := hQ49
        have g_b49 : n0 ≤ b49 := Nat.le_trans Z0 szq49
        have N49 := Fr.app N0 N49q
        have E_b49 : Exa Z h49 b49 "[J" := o49_0
        have V_b49 : Arv Z h49 b49 kc49 .long (0 : Int32) [] (.long (0 : Int64)) := o49_1
        have Zn49 : n0 ≤ h49.size := Nat.le_trans Z0 Kq49.1
        refine Goes.st (B := T49.setTop (mkF m 28 #[.val (.int x0), .val (.long x1), .second, .val (.long x2), .second, .val (.long x3), .second, .val (.long x4), .second, .val (.int (0 : Int32)), .val (.int (2 : Int32)), .unset, .unset, .unset, .unset, .unset, .unset, .unset, .unset] [(.ref b49)])) st49 ?_
        refine Goes.run X49 hx hown hci hcl hby (L := [(28, .astore 11, 2), (30, .iload 10, 2), (32, .lload 5, 2), (34, .lload 7, 2)]) (by decide +kernel) rfl (g' := (mkF m 36 #[.val (.int x0), .val (.long x1), .second, .val (.long x2), .second, .val (.long x3), .second, .val (.long x4), .second, .val (.int (0 : Int32)), .val (.int (2 : Int32)), .val (.ref b49), .unset, .unset, .unset, .unset, .unset, .unset, .unset] [(.long x4), (.long x3), (.int (2 : Int32))])) rfl ?_
        obtain ⟨_, _, ⟨T50, L50, k50, n50⟩, -, X50, ⟨Lc50, hQ50, l50, y50, z50⟩, st50⟩ := Jvm.LawKit.callS X49 hx (y := (⟨"com/example/marks_across_domains/marksacrossdomains/BitsUnionPinLaw", "make", "(IJJ)[J"⟩ : MethodName)) hown (mvT hZ (hw _ (List.mem_of_getElem? (i := 0) rfl))) (mvT hZ (hw _ (List.mem_of_getElem? (i := 1) rfl))) (mvT hZ (hw _ (List.mem_of_getElem? (i := 2) rfl))) (mvT hZ (hw _ (List.mem_of_getElem? (i := 3) rfl))) (by decide) (backOf (W := 0) (rm22 l Z a0 hw [] x3 x4 h49 n0 Zn49 ) hZ (hw _ (List.mem_of_getElem? (i := 3) rfl)) (hw _ (List.mem_of_getElem? (i := 2) rfl)) (by decide) (by decide)) (g := (mkF m 36 #[.val (.int x0), .val (.long x1), .second, .val (.long x2), .second, .val (.long x3), .second, .val (.long x4), .second, .val (.int (0 : Int32)), .val (.int (2 : Int32)), .val (.ref b49), .unset, .unset, .unset, .unset, .unset, .unset, .unset] [(.long x4), (.long x3), (.int (2 : Int32))])) rfl (by rw [hml]; rfl) (argsL := [(.int (2 : Int32)), (.long x3), (.long x4)]) (rest := []) (lenOf pd0_0 rfl) rfl (by show 2 * 0 + _ ≤ _; exact Nat.le_of_eq rfl) (hb hby at_36) (fun _ _ => ⟨rfl, e49, (by decide : 1 + 1 ≤ _), (by decide : 0 + 2 ≤ _)⟩)
        dsimp only [Pt.U, Pt.locs, Pt.cells, Pt.slots] at X50 l50 y50 z50 st50 hQ50
        subst l50 y50 z50
        obtain ⟨h50, eh50⟩ : ∃ z, z = T50.heap := ⟨_, rfl⟩
        rw [← eh50] at hQ50
        have e50 : T50.heap = h50 := eh50.symm
        obtain ⟨b50, kc50, rfl, N50q, Kq50, szq50, o50_0, o50_1⟩ := hQ50
        have ne_b49_b50 : b49 ≠ b50 := Nat.ne_of_lt (Nat.lt_of_lt_of_le E_b49.lt szq50)
        have g_b50 : n0 ≤ b50 := Nat.le_trans Zn49 szq50
        have N50 := Fr.app N49 N50q
        have E_b49 := E_b49.keep Kq50
        have V_b49 := V_b49.keep Kq50 nin0
        have E_b50 : Exa Z h50 b50 "[J" := o50_0
        have V_b50 : Arv Z h50 b50 kc50 .long (2 : Int32) [(.long x3), (.long x4)] (.long (0 : Int64)) := o50_1
        have Zn50 : n0 ≤ h50.size := Nat.le_trans Zn49 Kq50.1
        refine Goes.st (B := T50.setTop (mkF m 39 #[.val (.int x0), .val (.long x1), .second, .val (.long x2), .second, .val (.long x3), .second, .val (.long x4), .second, .val (.int (0 : Int32)), .val (.int (2 : Int32)), .val (.ref b49), .unset, .unset, .unset, .unset, .unset, .unset, .unset] [(.ref b50)])) st50 ?_
        refine Goes.run X50 hx hown hci hcl hby (L := [(39, .astore 12, 2), (41, .aload 11, 2), (43, .aload 12, 2)]) (by decide +kernel) rfl (g' := (mkF m 45 #[.val (.int x0), .val (.long x1), .second, .val (.long x2), .second, .val (.long x3), .second, .val (.long x4), .second, .val (.int (0 : Int32)), .val (.int (2 : Int32)), .val (.ref b49), .val (.ref b50), .unset, .unset, .unset, .unset, .unset, .unset] [(.ref b50), (.ref b49)])) rfl ?_
        obtain ⟨_, _, ⟨T51, L51, k51, n51⟩, -, X51, ⟨Lc51, hQ51, l51, y51, z51⟩, st51⟩ := Jvm.LawKit.callS X50 hx (y := (⟨"com/example/marks_across_domains/marksacrossdomains/Bits", "union", "([J[J)[J"⟩ : MethodName)) hown (mvT hZ (hw _ (List.mem_of_getElem? (i := 5) rfl))) (mvT hZ (hw _ (List.mem_of_getElem? (i := 6) rfl))) (mvT hZ (hw _ (List.mem_of_getElem? (i := 7) rfl))) (mvT hZ (hw _ (List.mem_of_getElem? (i := 8) rfl))) (by decide) (backOf (W := 0) (rm302 l Z a0 hw [] b49 b50 kc49 kc50 x3 x4 h50 n0 Zn50 E_b49 V_b49 E_b50 V_b50) hZ (hw _ (List.mem_of_getElem? (i := 8) rfl)) (hw _ (List.mem_of_getElem? (i := 7) rfl)) (by decide) (by decide)) (g := (mkF m 45 #[.val (.int x0), .val (.long x1), .second, .val (.long x2), .second, .val (.long x3), .second, .val (.long x4), .second, .val (.int (0 : Int32)), .val (.int (2 : Int32)), .val (.ref b49), .val (.ref b50), .unset, .unset, .unset, .unset, .unset, .unset] [(.ref b50), (.ref b49)])) rfl (by rw [hml]; rfl) (argsL := [(.ref b49), (.ref b50)]) (rest := []) (lenOf pd0_1 rfl) rfl (by show 2 * 0 + _ ≤ _; exact Nat.le_of_eq rfl) (hb hby at_45) (fun _ _ => ⟨rfl, e50, (by decide : 2 + 1 ≤ _), (by decide : 2 + 2 ≤ _)⟩)
        dsimp only [Pt.U, Pt.locs, Pt.cells, Pt.slots] at X51 l51 y51 z51 st51 hQ51
        subst l51 y51 z51
        obtain ⟨h51, eh51⟩ : ∃ z, z = T51.heap := ⟨_, rfl⟩
        rw [← eh51] at hQ51
        have e51 : T51.heap = h51 := eh51.symm
        obtain ⟨b51, kc51, rfl, N51q, Kq51, szq51, o51_0, o51_1⟩ := hQ51
        have ne_b49_b51 : b49 ≠ b51 := Nat.ne_of_lt (Nat.lt_of_lt_of_le E_b49.lt szq51)
        have ne_b50_b51 : b50 ≠ b51 := Nat.ne_of_lt (Nat.lt_of_lt_of_le E_b50.lt szq51)
        have g_b51 : n0 ≤ b51 := Nat.le_trans Zn50 szq51
        have N51 := Fr.app N50 N51q
        have E_b49 := E_b49.keep Kq51
        have V_b49 := V_b49.keep Kq51 nin0
        have E_b50 := E_b50.keep Kq51
        have V_b50 := V_b50.keep Kq51 nin0
        have E_b51 : Exa Z h51 b51 "[J" := o51_0
        have V_b51 : Arv Z h51 b51 kc51 .long (2 : Int32) [(.long x3), (.long x4)] (.long (0 : Int64)) := o51_1
        have Zn51 : n0 ≤ h51.size := Nat.le_trans Zn50 Kq51.1
        refine Goes.st (B := T51.setTop (mkF m 48 #[.val (.int x0), .val (.long x1), .second, .val (.long x2), .second, .val (.long x3), .second, .val (.long x4), .second, .val (.int (0 : Int32)), .val (.int (2 : Int32)), .val (.ref b49), .val (.ref b50), .unset, .unset, .unset, .unset, .unset, .unset] [(.ref b51)])) st51 ?_
        refine Goes.run X51 hx hown hci hcl hby (L := [(48, .astore 13, 2), (50, .iload 9, 2), (52, .iload 10, 2)]) (by decide +kernel) rfl (g' := (mkF m 54 #[.val (.int x0), .val (.long x1), .second, .val (.long x2), .second, .val (.long x3), .second, .val (.long x4), .second, .val (.int (0 : Int32)), .val (.int (2 : Int32)), .val (.ref b49), .val (.ref b50), .val (.ref b51), .unset, .unset, .unset, .unset, .unset] [(.int (2 : Int32)), (.int (0 : Int32))])) rfl ?_
        obtain ⟨_, _, ⟨T52, L52, k52, n52⟩, -, X52, ⟨Lc52, hQ52, l52, y52, z52⟩, st52⟩ := Jvm.LawKit.callS X51 hx (y := (⟨"java/lang/Math", "max", "(II)I"⟩ : MethodName)) hown (mvT hZ (hw _ (List.mem_of_getElem? (i := 18) rfl))) (mvT hZ (hw _ (List.mem_of_getElem? (i := 19) rfl))) (mvT hZ (hw _ (List.mem_of_getElem? (i := 20) rfl))) (mvT hZ (hw _ (List.mem_of_getElem? (i := 21) rfl))) (by decide) (backOf (W := 0) (rm1 l Z a0 hw [] (0 : Int32) (2 : Int32) h51 n0 Zn51 ) hZ (hw _ (List.mem_of_getElem? (i := 21) rfl)) (hw _ (List.mem_of_getElem? (i := 20) rfl)) (by decide) (by decide)) (g := (mkF m 54 #[.val (.int x0), .val (.long x1), .second, .val (.long x2), .second, .val (.long x3), .second, .val (.long x4), .second, .val (.int (0 : Int32)), .val (.int (2 : Int32)), .val (.ref b49), .val (.ref b50), .val (.ref b51), .unset, .unset, .unset, .unset, .unset] [(.int (2 : Int32)), (.int (0 : Int32))])) rfl (by rw [hml]; rfl) (argsL := [(.int (0 : Int32)), (.int (2 : Int32))]) (rest := []) (lenOf pd0_2 rfl) rfl (by show 2 * 0 + _ ≤ _; exact Nat.le_of_eq rfl) (hb hby at_54) (fun _ _ => ⟨rfl, e51, (by decide : 3 + 0 ≤ _), (by decide : 4 + 0 ≤ _)⟩)
        dsimp only [Pt.U, Pt.locs, Pt.cells, Pt.slots] at X52 l52 y52 z52 st52 hQ52
        subst l52 y52 z52
        obtain ⟨rfl, N52q, e52⟩ := hQ52
        have N52 := Fr.app N51 N52q
        refine Goes.st (B := T52.setTop (mkF m 57 #[.val (.int x0), .val (.long x1), .second, .val (.long x2), .second, .val (.long x3), .second, .val (.long x4), .second, .val (.int (0 : Int32)), .val (.int (2 : Int32)), .val (.ref b49), .val (.ref b50), .val (.ref b51), .unset, .unset, .unset, .unset, .unset] [(.int (2 : Int32))])) st52 ?_
        refine Goes.run X52 hx hown hci hcl hby (L := [(57, .istore 14, 2), (59, .aload 13, 2)]) (by decide +kernel) rfl (g' := (mkF m 61 #[.val (.int x0), .val (.long x1), .second, .val (.long x2), .second, .val (.long x3), .second, .val (.long x4), .second, .val (.int (0 : Int32)), .val (.int (2 : Int32)), .val (.ref b49), .val (.ref b50), .val (.ref b51), .val (.int (2 : Int32)), .unset, .unset, .unset, .unset] [(.ref b51)])) rfl ?_
        obtain ⟨cl53, Ar53, q53, S53, M53, Hs53, G53⟩ := id V_b51
        refine Goes.st (B := T52.setTop (mkF m 62 #[.val (.int x0), .val (.long x1), .second, .val (.long x2), .second, .val (.long x3), .second, .val (.long x4), .second, .val (.int (0 : Int32)), .val (.int (2 : Int32)), .val (.ref b49), .val (.ref b50), .val (.ref b51), .val (.int (2 : Int32)), .unset, .unset, .unset, .unset] [(.int (2 : Int32))])) (fun t k => ?_) ?_
        · refine X52.arraylength hx (cell := cl53) (by rw [e52]; exact Ar53.1) (State.isArrayOf_alike hZ.alike Ar53.2.1) (g := (mkF m 61 #[.val (.int x0), .val (.long x1), .second, .val (.long x2), .second, .val (.long x3), .second, .val (.long x4), .second, .val (.int (0 : Int32)), .val (.int (2 : Int32)), .val (.ref b49), .val (.ref b50), .val (.ref b51), .val (.int (2 : Int32)), .unset, .unset, .unset, .unset] [(.ref b51)])) rfl (rest := []) rfl (hb hby at_61) _ ?_
          rw [len_of S53 M53]
          exact k
        refine Goes.run X52 hx hown hci hcl hby (L := [(62, .iload 14, 2)]) (by decide +kernel) rfl (g' := (mkF m 64 #[.val (.int x0), .val (.long x1), .second, .val (.long x2), .second, .val (.long x3), .second, .val (.long x4), .second, .val (.int (0 : Int32)), .val (.int (2 : Int32)), .val (.ref b49), .val (.ref b50), .val (.ref b51), .val (.int (2 : Int32)), .unset, .unset, .unset, .unset] [(.int (2 : Int32)), (.int (2 : Int32))])) rfl ?_
        have hc64_54 : (2 : Int32) = (2 : Int32) := rfl
        refine Goes.st (B := T52.setTop (mkF m 69 #[.val (.int x0), .val (.long x1), .second, .val (.long x2), .second, .val (.long x3), .second, .val (.long x4), .second, .val (.int (0 : Int32)), .val (.int (2 : Int32)), .val (.ref b49), .val (.ref b50), .val (.ref b51), .val (.int (2 : Int32)), .unset, .unset, .unset, .unset] [])) (fun t k => ?_) ?_
        · refine XS.icmpYes X52.here hx rfl (pc0 := 64) (pc' := 69) rfl (hb hby at_64) rfl (teq hc64_54).1 (by decide) (by decide) ?_
          exact k
        refine Goes.run X52 hx hown hci hcl hby (L := [(69, .iload 9, 2)]) (by decide +kernel) rfl (g' := (mkF m 71 #[.val (.int x0), .val (.long x1), .second, .val (.long x2), .second, .val (.long x3), .second, .val (.long x4), .second, .val (.int (0 : Int32)), .val (.int (2 : Int32)), .val (.ref b49), .val (.ref b50), .val (.ref b51), .val (.int (2 : Int32)), .unset, .unset, .unset, .unset] [(.int (0 : Int32))])) rfl ?_
        have hc71_55 : ¬ ((0 : Int32) < (0 : Int32)) := Int32.lt_irrefl
        refine Goes.st (B := T52.setTop (mkF m 78 #[.val (.int x0), .val (.long x1), .second, .val (.long x2), .second, .val (.long x3), .second, .val (.long x4), .second, .val (.int (0 : Int32)), .val (.int (2 : Int32)), .val (.ref b49), .val (.ref b50), .val (.ref b51), .val (.int (2 : Int32)), .unset, .unset, .unset, .unset] [])) (fun t k => ?_) ?_
        · refine XS.ifYes X52.here hx rfl (pc0 := 71) (pc' := 78) rfl (hb hby at_71) rfl ((if0 _ _).trans (flt hc71_55).2.2.2) (by decide) (by decide) ?_
          exact k
        refine Goes.run X52 hx hown hci hcl hby (L := [(78, .lconst 0, 1), (79, .iload 10, 2)]) (by decide +kernel) rfl (g' := (mkF m 81 #[.val (.int x0), .val (.long x1), .second, .val (.long x2), .second, .val (.long x3), .second, .val (.long x4), .second, .val (.int (0 : Int32)), .val (.int (2 : Int32)), .val (.ref b49), .val (.ref b50), .val (.ref b51), .val (.int (2 : Int32)), .unset, .unset, .unset, .unset] [(.int (2 : Int32)), (.long (0 : Int64))])) rfl ?_
        have hc81_56 : (0 : Int32) < (2 : Int32) := by decide
        refine Goes.st (B := T52.setTop (mkF m 84 #[.val (.int x0), .val (.long x1), .second, .val (.long x2), .second, .val (.long x3), .second, .val (.long x4), .second, .val (.int (0 : Int32)), .val (.int (2 : Int32)), .val (.ref b49), .val (.ref b50), .val (.ref b51), .val (.int (2 : Int32)), .unset, .unset, .unset, .unset] [(.long (0 : Int64))])) (fun t k => ?_) ?_
        · refine XS.ifNo X52.here hx rfl (hb hby at_81) rfl ((if0 _ _).trans (tlt hc81_56).2.2.2) ?_
          exact k
        refine Goes.run X52 hx hown hci hcl hby (L := [(84, .lload 5, 2), (86, .goto 4, 3), (90, .lor, 1), (91, .lstore 15, 2), (93, .iload 9, 2), (95, .iconst 1, 1)]) (by decide +kernel) rfl (g' := (mkF m 96 #[.val (.int x0), .val (.long x1), .second, .val (.long x2), .second, .val (.long x3), .second, .val (.long x4), .second, .val (.int (0 : Int32)), .val (.int (2 : Int32)), .val (.ref b49), .val (.ref b50), .val (.ref b51), .val (.int (2 : Int32)), .val (.long (w0_91_a x0 x1 x2 x3 x4)), .second, .unset, .unset] [(.int (1 : Int32)), (.int (0 : Int32))])) rfl ?_
        have hc96_57 : ¬ ((1 : Int32) < (0 : Int32)) := by decide
        refine Goes.st (B := T52.setTop (mkF m 103 #[.val (.int x0), .val (.long x1), .second, .val (.long x2), .second, .val (.long x3), .second, .val (.long x4), .second, .val (.int (0 : Int32)), .val (.int (2 : Int32)), .val (.ref b49), .val (.ref b50), .val (.ref b51), .val (.int (2 : Int32)), .val (.long (w0_91_a x0 x1 x2 x3 x4)), .second, .unset, .unset] [])) (fun t k => ?_) ?_
        · refine XS.icmpYes X52.here hx rfl (pc0 := 96) (pc' := 103) rfl (hb hby at_96) rfl (flt hc96_57).2.2.2 (by decide) (by decide) ?_
          exact k
        refine Goes.run X52 hx hown hci hcl hby (L := [(103, .lconst 0, 1), (104, .iload 10, 2), (106, .iconst 1, 1)]) (by decide +kernel) rfl (g' := (mkF m 107 #[.val (.int x0), .val (.long x1), .second, .val (.long x2), .second, .val (.long x3), .second, .val (.long x4), .second, .val (.int (0 : Int32)), .val (.int (2 : Int32)), .val (.ref b49), .val (.ref b50), .val (.ref b51), .val (.int (2 : Int32)), .val (.long (w0_91_a x0 x1 x2 x3 x4)), .second, .unset, .unset] [(.int (1 : Int32)), (.int (2 : Int32)), (.long (0 : Int64))])) rfl ?_
        have hc107_58 : (1 : Int32) < (2 : Int32) := by decide
        refine Goes.st (B := T52.setTop (mkF m 110 #[.val (.int x0), .val (.long x1), .second, .val (.long x2), .second, .val (.long x3), .second, .val (.long x4), .second, .val (.int (0 : Int32)), .val (.int (2 : Int32)), .val (.ref b49), .val (.ref b50), .val (.ref b51), .val (.int (2 : Int32)), .val (.long (w0_91_a x0 x1 x2 x3 x4)), .second, .unset, .unset] [(.long (0 : Int64))])) (fun t k => ?_) ?_
        · refine XS.icmpNo X52.here hx rfl (hb hby at_107) rfl (tlt hc107_58).2.2.2 ?_
          exact k
        refine Goes.run X52 hx hown hci hcl hby (L := [(110, .lload 7, 2), (112, .goto 4, 3), (116, .lor, 1), (117, .lstore 17, 2), (119, .iload 14, 2)]) (by decide +kernel) rfl (g' := (mkF m 121 #[.val (.int x0), .val (.long x1), .second, .val (.long x2), .second, .val (.long x3), .second, .val (.long x4), .second, .val (.int (0 : Int32)), .val (.int (2 : Int32)), .val (.ref b49), .val (.ref b50), .val (.ref b51), .val (.int (2 : Int32)), .val (.long (w0_91_a x0 x1 x2 x3 x4)), .second, .val (.long (w0_117 x0 x1 x2 x3 x4)), .second] [(.int (2 : Int32))])) rfl ?_
        have hc121_59 : (0 : Int32) < (2 : Int32) := by decide
        refine Goes.st (B := T52.setTop (mkF m 124 #[.val (.int x0), .val (.long x1), .second, .val (.long x2), .second, .val (.long x3), .second, .val (.long x4), .second, .val (.int (0 : Int32)), .val (.int (2 : Int32)), .val (.ref b49), .val (.ref b50), .val (.ref b51), .val (.int (2 : Int32)), .val (.long (w0_91_a x0 x1 x2 x3 x4)), .second, .val (.long (w0_117 x0 x1 x2 x3 x4)), .second] [])) (fun t k => ?_) ?_
        · refine XS.ifNo X52.here hx rfl (hb hby at_121) rfl ((if0 _ _).trans (tlt hc121_59).2.2.2) ?_
          exact k
        refine Goes.run X52 hx hown hci hcl hby (L := [(124, .aload 13, 2), (126, .iconst 0, 1)]) (by decide +kernel) rfl (g' := (mkF m 127 #[.val (.int x0), .val (.long x1), .second, .val (.long x2), .second, .val (.long x3), .second, .val (.long x4), .second, .val (.int (0 : Int32)), .val (.int (2 : Int32)), .val (.ref b49), .val (.ref b50), .val (.ref b51), .val (.int (2 : Int32)), .val (.long (w0_91_a x0 x1 x2 x3 x4)), .second, .val (.long (w0_117 x0 x1 x2 x3 x4)), .second] [(.int (0 : Int32)), (.ref b51)])) rfl ?_
        obtain ⟨cl60, Ar60, q60, S60, M60, Hs60, G60⟩ := id V_b51
        have hin60 : ¬ ((0 : Int32) < 0 ∨ cl60.slots.size ≤ ((0 : Int32)).toNatClampNeg) := inb_of S60 ⟨(by decide), (by decide)⟩
        have hat60 : cl60.slots[((0 : Int32)).toNatClampNeg]? = some (.long x3) := Hs60.at hin60 rfl
        refine Goes.st (B := T52.setTop (mkF m 128 #[.val (.int x0), .val (.long x1), .second, .val (.long x2), .second, .val (.long x3), .second, .val (.long x4), .second, .val (.int (0 : Int32)), .val (.int (2 : Int32)), .val (.ref b49), .val (.ref b50), .val (.ref b51), .val (.int (2 : Int32)), .val (.long (w0_91_a x0 x1 x2 x3 x4)), .second, .val (.long (w0_117 x0 x1 x2 x3 x4)), .second] [(.long x3)])) (X52.laload hx (j := (0 : Int32)) (v := (.long x3)) (by rw [e52]; exact Ar60.1) (State.isArrayOf_alike hZ.alike Ar60.2.1) Ar60.2.2 hin60 hat60 (g := (mkF m 127 #[.val (.int x0), .val (.long x1), .second, .val (.long x2), .second, .val (.long x3), .second, .val (.long x4), .second, .val (.int (0 : Int32)), .val (.int (2 : Int32)), .val (.ref b49), .val (.ref b50), .val (.ref b51), .val (.int (2 : Int32)), .val (.long (w0_91_a x0 x1 x2 x3 x4)), .second, .val (.long (w0_117 x0 x1 x2 x3 x4)), .second] [(.int (0 : Int32)), (.ref b51)])) rfl rfl (hb hby at_127)) ?_
        refine Goes.run X52 hx hown hci hcl hby (L := [(128, .lload 15, 2), (130, .lcmp, 1)]) (by decide +kernel) rfl (g' := (mkF m 131 #[.val (.int x0), .val (.long x1), .second, .val (.long x2), .second, .val (.long x3), .second, .val (.long x4), .second, .val (.int (0 : Int32)), .val (.int (2 : Int32)), .val (.ref b49), .val (.ref b50), .val (.ref b51), .val (.int (2 : Int32)), .val (.long (w0_91_a x0 x1 x2 x3 x4)), .second, .val (.long (w0_117 x0 x1 x2 x3 x4)), .second] [(.int (lcmpW x3 (w0_91_a x0 x1 x2 x3 x4)))])) rfl ?_
        by_cases hc131_61 : x3 = (w0_91_a x0 x1 x2 x3 x4)
        · skip
          refine Goes.st (B := T52.setTop (mkF m 136 #[.val (.int x0), .val (.long x1), .second, .val (.long x2), .second, .val (.long x3), .second, .val (.long x4), .second, .val (.int (0 : Int32)), .val (.int (2 : Int32)), .val (.ref b49), .val (.ref b50), .val (.ref b51), .val (.int (2 : Int32)), .val (.long (w0_91_a x0 x1 x2 x3 x4)), .second, .val (.long (w0_117 x0 x1 x2 x3 x4)), .second] [])) (fun t k => ?_) ?_
          · refine XS.ifYes X52.here hx rfl (pc0 := 131) (pc' := 136) rfl (hb hby at_131) rfl (teqL hc131_61).1 (by decide) (by decide) ?_
            exact k
          refine Goes.run X52 hx hown hci hcl hby (L := [(136, .iload 14, 2), (138, .iconst 1, 1)]) (by decide +kernel) rfl (g' := (mkF m 139 #[.val (.int x0), .val (.long x1), .second, .val (.long x2), .second, .val (.long x3), .second, .val (.long x4), .second, .val (.int (0 : Int32)), .val (.int (2 : Int32)), .val (.ref b49), .val (.ref b50), .val (.ref b51), .val (.int (2 : Int32)), .val (.long (w0_91_a x0 x1 x2 x3 x4)), .second, .val (.long (w0_117 x0 x1 x2 x3 x4)), .second] [(.int (1 : Int32)), (.int (2 : Int32))])) rfl ?_
          have hc139_62 : (1 : Int32) < (2 : Int32) := by decide
          refine Goes.st (B := T52.setTop (mkF m 142 #[.val (.int x0), .val (.long x1), .second, .val (.long x2), .second, .val (.long x3), .second, .val (.long x4), .second, .val (.int (0 : Int32)), .val (.int (2 : Int32)), .val (.ref b49), .val (.ref b50), .val (.ref b51), .val (.int (2 : Int32)), .val (.long (w0_91_a x0 x1 x2 x3 x4)), .second, .val (.long (w0_117 x0 x1 x2 x3 x4)), .second] [])) (fun t k => ?_) ?_
          · refine XS.icmpNo X52.here hx rfl (hb hby at_139) rfl (tlt hc139_62).2.2.2 ?_
            exact k
          refine Goes.run X52 hx hown hci hcl hby (L := [(142, .aload 13, 2), (144, .iconst 1, 1)]) (by decide +kernel) rfl (g' := (mkF m 145 #[.val (.int x0), .val (.long x1), .second, .val (.long x2), .second, .val (.long x3), .second, .val (.long x4), .second, .val (.int (0 : Int32)), .val (.int (2 : Int32)), .val (.ref b49), .val (.ref b50), .val (.ref b51), .val (.int (2 : Int32)), .val (.long (w0_91_a x0 x1 x2 x3 x4)), .second, .val (.long (w0_117 x0 x1 x2 x3 x4)), .second] [(.int (1 : Int32)), (.ref b51)])) rfl ?_
          obtain ⟨cl63, Ar63, q63, S63, M63, Hs63, G63⟩ := id V_b51
          have hin63 : ¬ ((1 : Int32) < 0 ∨ cl63.slots.size ≤ ((1 : Int32)).toNatClampNeg) := inb_of S63 ⟨(by decide), (by decide)⟩
          have hat63 : cl63.slots[((1 : Int32)).toNatClampNeg]? = some (.long x4) := Hs63.at hin63 rfl
          refine Goes.st (B := T52.setTop (mkF m 146 #[.val (.int x0), .val (.long x1), .second, .val (.long x2), .second, .val (.long x3), .second, .val (.long x4), .second, .val (.int (0 : Int32)), .val (.int (2 : Int32)), .val (.ref b49), .val (.ref b50), .val (.ref b51), .val (.int (2 : Int32)), .val (.long (w0_91_a x0 x1 x2 x3 x4)), .second, .val (.long (w0_117 x0 x1 x2 x3 x4)), .second] [(.long x4)])) (X52.laload hx (j := (1 : Int32)) (v := (.long x4)) (by rw [e52]; exact Ar63.1) (State.isArrayOf_alike hZ.alike Ar63.2.1) Ar63.2.2 hin63 hat63 (g := (mkF m 145 #[.val (.int x0), .val (.long x1), .second, .val (.long x2), .second, .val (.long x3), .second, .val (.long x4), .second, .val (.int (0 : Int32)), .val (.int (2 : Int32)), .val (.ref b49), .val (.ref b50), .val (.ref b51), .val (.int (2 : Int32)), .val (.long (w0_91_a x0 x1 x2 x3 x4)), .second, .val (.long (w0_117 x0 x1 x2 x3 x4)), .second] [(.int (1 : Int32)), (.ref b51)])) rfl rfl (hb hby at_145)) ?_
          refine Goes.run X52 hx hown hci hcl hby (L := [(146, .lload 17, 2), (148, .lcmp, 1)]) (by decide +kernel) rfl (g' := (mkF m 149 #[.val (.int x0), .val (.long x1), .second, .val (.long x2), .second, .val (.long x3), .second, .val (.long x4), .second, .val (.int (0 : Int32)), .val (.int (2 : Int32)), .val (.ref b49), .val (.ref b50), .val (.ref b51), .val (.int (2 : Int32)), .val (.long (w0_91_a x0 x1 x2 x3 x4)), .second, .val (.long (w0_117 x0 x1 x2 x3 x4)), .second] [(.int (lcmpW x4 (w0_117 x0 x1 x2 x3 x4)))])) rfl ?_
          by_cases hc149_64 : x4 = (w0_117 x0 x1 x2 x3 x4)
          · skip
            refine Goes.st (B := T52.setTop (mkF m 154 #[.val (.int x0), .val (.long x1), .second, .val (.long x2), .second, .val (.long x3), .second, .val (.long x4), .second, .val (.int (0 : Int32)), .val (.int (2 : Int32)), .val (.ref b49), .val (.ref b50), .val (.ref b51), .val (.int (2 : Int32)), .val (.long (w0_91_a x0 x1 x2 x3 x4)), .second, .val (.long (w0_117 x0 x1 x2 x3 x4)), .second] [])) (fun t k => ?_) ?_
            · refine XS.ifYes X52.here hx rfl (pc0 := 149) (pc' := 154) rfl (hb hby at_149) rfl (teqL hc149_64).1 (by decide) (by decide) ?_
              exact k
            refine Goes.run X52 hx hown hci hcl hby (L := [(154, .aload 11, 2)]) (by decide +kernel) rfl (g' := (mkF m 156 #[.val (.int x0), .val (.long x1), .second, .val (.long x2), .second, .val (.long x3), .second, .val (.long x4), .second, .val (.int (0 : Int32)), .val (.int (2 : Int32)), .val (.ref b49), .val (.ref b50), .val (.ref b51), .val (.int (2 : Int32)), .val (.long (w0_91_a x0 x1 x2 x3 x4)), .second, .val (.long (w0_117 x0 x1 x2 x3 x4)), .second] [(.ref b49)])) rfl ?_
            obtain ⟨cl65, Ar65, q65, S65, M65, Hs65, G65⟩ := id V_b49
            refine Goes.st (B := T52.setTop (mkF m 157 #[.val (.int x0), .val (.long x1), .second, .val (.long x2), .second, .val (.long x3), .second, .val (.long x4), .second, .val (.int (0 : Int32)), .val (.int (2 : Int32)), .val (.ref b49), .val (.ref b50), .val (.ref b51), .val (.int (2 : Int32)), .val (.long (w0_91_a x0 x1 x2 x3 x4)), .second, .val (.long (w0_117 x0 x1 x2 x3 x4)), .second] [(.int (0 : Int32))])) (fun t k => ?_) ?_
            · refine X52.arraylength hx (cell := cl65) (by rw [e52]; exact Ar65.1) (State.isArrayOf_alike hZ.alike Ar65.2.1) (g := (mkF m 156 #[.val (.int x0), .val (.long x1), .second, .val (.long x2), .second, .val (.long x3), .second, .val (.long x4), .second, .val (.int (0 : Int32)), .val (.int (2 : Int32)), .val (.ref b49), .val (.ref b50), .val (.ref b51), .val (.int (2 : Int32)), .val (.long (w0_91_a x0 x1 x2 x3 x4)), .second, .val (.long (w0_117 x0 x1 x2 x3 x4)), .second] [(.ref b49)])) rfl (rest := []) rfl (hb hby at_156) _ ?_
              rw [len_of S65 M65]
              exact k
            refine Goes.run X52 hx hown hci hcl hby (L := [(157, .iload 9, 2)]) (by decide +kernel) rfl (g' := (mkF m 159 #[.val (.int x0), .val (.long x1), .second, .val (.long x2), .second, .val (.long x3), .second, .val (.long x4), .second, .val (.int (0 : Int32)), .val (.int (2 : Int32)), .val (.ref b49), .val (.ref b50), .val (.ref b51), .val (.int (2 : Int32)), .val (.long (w0_91_a x0 x1 x2 x3 x4)), .second, .val (.long (w0_117 x0 x1 x2 x3 x4)), .second] [(.int (0 : Int32)), (.int (0 : Int32))])) rfl ?_
            have hc159_66 : (0 : Int32) = (0 : Int32) := rfl
            refine Goes.st (B := T52.setTop (mkF m 162 #[.val (.int x0), .val (.long x1), .second, .val (.long x2), .second, .val (.long x3), .second, .val (.long x4), .second, .val (.int (0 : Int32)), .val (.int (2 : Int32)), .val (.ref b49), .val (.ref b50), .val (.ref b51), .val (.int (2 : Int32)), .val (.long (w0_91_a x0 x1 x2 x3 x4)), .second, .val (.long (w0_117 x0 x1 x2 x3 x4)), .second] [])) (fun t k => ?_) ?_
            · refine XS.icmpNo X52.here hx rfl (hb hby at_159) rfl (teq hc159_66).2 ?_
              exact k
            refine Goes.run X52 hx hown hci hcl hby (L := [(162, .aload 12, 2)]) (by decide +kernel) rfl (g' := (mkF m 164 #[.val (.int x0), .val (.long x1), .second, .val (.long x2), .second, .val (.long x3), .second, .val (.long x4), .second, .val (.int (0 : Int32)), .val (.int (2 : Int32)), .val (.ref b49), .val (.ref b50), .val (.ref b51), .val (.int (2 : Int32)), .val (.long (w0_91_a x0 x1 x2 x3 x4)), .second, .val (.long (w0_117 x0 x1 x2 x3 x4)), .second] [(.ref b50)])) rfl ?_
            obtain ⟨cl67, Ar67, q67, S67, M67, Hs67, G67⟩ := id V_b50
            refine Goes.st (B := T52.setTop (mkF m 165 #[.val (.int x0), .val (.long x1), .second, .val (.long x2), .second, .val (.long x3), .second, .val (.long x4), .second, .val (.int (0 : Int32)), .val (.int (2 : Int32)), .val (.ref b49), .val (.ref b50), .val (.ref b51), .val (.int (2 : Int32)), .val (.long (w0_91_a x0 x1 x2 x3 x4)), .second, .val (.long (w0_117 x0 x1 x2 x3 x4)), .second] [(.int (2 : Int32))])) (fun t k => ?_) ?_
            · refine X52.arraylength hx (cell := cl67) (by rw [e52]; exact Ar67.1) (State.isArrayOf_alike hZ.alike Ar67.2.1) (g := (mkF m 164 #[.val (.int x0), .val (.long x1), .second, .val (.long x2), .second, .val (.long x3), .second, .val (.long x4), .second, .val (.int (0 : Int32)), .val (.int (2 : Int32)), .val (.ref b49), .val (.ref b50), .val (.ref b51), .val (.int (2 : Int32)), .val (.long (w0_91_a x0 x1 x2 x3 x4)), .second, .val (.long (w0_117 x0 x1 x2 x3 x4)), .second] [(.ref b50)])) rfl (rest := []) rfl (hb hby at_164) _ ?_
              rw [len_of S67 M67]
              exact k
            refine Goes.run X52 hx hown hci hcl hby (L := [(165, .iload 10, 2)]) (by decide +kernel) rfl (g' := (mkF m 167 #[.val (.int x0), .val (.long x1), .second, .val (.long x2), .second, .val (.long x3), .second, .val (.long x4), .second, .val (.int (0 : Int32)), .val (.int (2 : Int32)), .val (.ref b49), .val (.ref b50), .val (.ref b51), .val (.int (2 : Int32)), .val (.long (w0_91_a x0 x1 x2 x3 x4)), .second, .val (.long (w0_117 x0 x1 x2 x3 x4)), .second] [(.int (2 : Int32)), (.int (2 : Int32))])) rfl ?_
            have hc167_68 : (2 : Int32) = (2 : Int32) := rfl
            refine Goes.st (B := T52.setTop (mkF m 172 #[.val (.int x0), .val (.long x1), .second, .val (.long x2), .second, .val (.long x3), .second, .val (.long x4), .second, .val (.int (0 : Int32)), .val (.int (2 : Int32)), .val (.ref b49), .val (.ref b50), .val (.ref b51), .val (.int (2 : Int32)), .val (.long (w0_91_a x0 x1 x2 x3 x4)), .second, .val (.long (w0_117 x0 x1 x2 x3 x4)), .second] [])) (fun t k => ?_) ?_
            · refine XS.icmpYes X52.here hx rfl (pc0 := 167) (pc' := 172) rfl (hb hby at_167) rfl (teq hc167_68).1 (by decide) (by decide) ?_
              exact k
            refine Goes.run X52 hx hown hci hcl hby (L := [(172, .iload 9, 2)]) (by decide +kernel) rfl (g' := (mkF m 174 #[.val (.int x0), .val (.long x1), .second, .val (.long x2), .second, .val (.long x3), .second, .val (.long x4), .second, .val (.int (0 : Int32)), .val (.int (2 : Int32)), .val (.ref b49), .val (.ref b50), .val (.ref b51), .val (.int (2 : Int32)), .val (.long (w0_91_a x0 x1 x2 x3 x4)), .second, .val (.long (w0_117 x0 x1 x2 x3 x4)), .second] [(.int (0 : Int32))])) rfl ?_
            have hc174_69 : ¬ ((0 : Int32) < (0 : Int32)) := Int32.lt_irrefl
            refine Goes.st (B := T52.setTop (mkF m 188 #[.val (.int x0), .val (.long x1), .second, .val (.long x2), .second, .val (.long x3), .second, .val (.long x4), .second, .val (.int (0 : Int32)), .val (.int (2 : Int32)), .val (.ref b49), .val (.ref b50), .val (.ref b51), .val (.int (2 : Int32)), .val (.long (w0_91_a x0 x1 x2 x3 x4)), .second, .val (.long (w0_117 x0 x1 x2 x3 x4)), .second] [])) (fun t k => ?_) ?_
            · refine XS.ifYes X52.here hx rfl (pc0 := 174) (pc' := 188) rfl (hb hby at_174) rfl ((if0 _ _).trans (flt hc174_69).2.2.2) (by decide) (by decide) ?_
              exact k
            refine Goes.run X52 hx hown hci hcl hby (L := [(188, .iload 9, 2), (190, .iconst 1, 1)]) (by decide +kernel) rfl (g' := (mkF m 191 #[.val (.int x0), .val (.long x1), .second, .val (.long x2), .second, .val (.long x3), .second, .val (.long x4), .second, .val (.int (0 : Int32)), .val (.int (2 : Int32)), .val (.ref b49), .val (.ref b50), .val (.ref b51), .val (.int (2 : Int32)), .val (.long (w0_91_a x0 x1 x2 x3 x4)), .second, .val (.long (w0_117 x0 x1 x2 x3 x4)), .second] [(.int (1 : Int32)), (.int (0 : Int32))])) rfl ?_
            have hc191_70 : ¬ ((1 : Int32) < (0 : Int32)) := by decide
            refine Goes.st (B := T52.setTop (mkF m 205 #[.val (.int x0), .val (.long x1), .second, .val (.long x2), .second, .val (.long x3), .second, .val (.long x4), .second, .val (.int (0 : Int32)), .val (.int (2 : Int32)), .val (.ref b49), .val (.ref b50), .val (.ref b51), .val (.int (2 : Int32)), .val (.long (w0_91_a x0 x1 x2 x3 x4)), .second, .val (.long (w0_117 x0 x1 x2 x3 x4)), .second] [])) (fun t k => ?_) ?_
            · refine XS.icmpYes X52.here hx rfl (pc0 := 191) (pc' := 205) rfl (hb hby at_191) rfl (flt hc191_70).2.2.2 (by decide) (by decide) ?_
              exact k
            refine Goes.run X52 hx hown hci hcl hby (L := [(205, .iload 10, 2)]) (by decide +kernel) rfl (g' := (mkF m 207 #[.val (.int x0), .val (.long x1), .second, .val (.long x2), .second, .val (.long x3), .second, .val (.long x4), .second, .val (.int (0 : Int32)), .val (.int (2 : Int32)), .val (.ref b49), .val (.ref b50), .val (.ref b51), .val (.int (2 : Int32)), .val (.long (w0_91_a x0 x1 x2 x3 x4)), .second, .val (.long (w0_117 x0 x1 x2 x3 x4)), .second] [(.int (2 : Int32))])) rfl ?_
            have hc207_71 : (0 : Int32) < (2 : Int32) := by decide
            refine Goes.st (B := T52.setTop (mkF m 210 #[.val (.int x0), .val (.long x1), .second, .val (.long x2), .second, .val (.long x3), .second, .val (.long x4), .second, .val (.int (0 : Int32)), .val (.int (2 : Int32)), .val (.ref b49), .val (.ref b50), .val (.ref b51), .val (.int (2 : Int32)), .val (.long (w0_91_a x0 x1 x2 x3 x4)), .second, .val (.long (w0_117 x0 x1 x2 x3 x4)), .second] [])) (fun t k => ?_) ?_
            · refine XS.ifNo X52.here hx rfl (hb hby at_207) rfl ((if0 _ _).trans (tlt hc207_71).2.2.2) ?_
              exact k
            refine Goes.run X52 hx hown hci hcl hby (L := [(210, .aload 12, 2), (212, .iconst 0, 1)]) (by decide +kernel) rfl (g' := (mkF m 213 #[.val (.int x0), .val (.long x1), .second, .val (.long x2), .second, .val (.long x3), .second, .val (.long x4), .second, .val (.int (0 : Int32)), .val (.int (2 : Int32)), .val (.ref b49), .val (.ref b50), .val (.ref b51), .val (.int (2 : Int32)), .val (.long (w0_91_a x0 x1 x2 x3 x4)), .second, .val (.long (w0_117 x0 x1 x2 x3 x4)), .second] [(.int (0 : Int32)), (.ref b50)])) rfl ?_
            obtain ⟨cl72, Ar72, q72, S72, M72, Hs72, G72⟩ := id V_b50
            have hin72 : ¬ ((0 : Int32) < 0 ∨ cl72.slots.size ≤ ((0 : Int32)).toNatClampNeg) := inb_of S72 ⟨(by decide), (by decide)⟩
            have hat72 : cl72.slots[((0 : Int32)).toNatClampNeg]? = some (.long x3) := Hs72.at hin72 rfl
            refine Goes.st (B := T52.setTop (mkF m 214 #[.val (.int x0), .val (.long x1), .second, .val (.long x2), .second, .val (.long x3), .second, .val (.long x4), .second, .val (.int (0 : Int32)), .val (.int (2 : Int32)), .val (.ref b49), .val (.ref b50), .val (.ref b51), .val (.int (2 : Int32)), .val (.long (w0_91_a x0 x1 x2 x3 x4)), .second, .val (.long (w0_117 x0 x1 x2 x3 x4)), .second] [(.long x3)])) (X52.laload hx (j := (0 : Int32)) (v := (.long x3)) (by rw [e52]; exact Ar72.1) (State.isArrayOf_alike hZ.alike Ar72.2.1) Ar72.2.2 hin72 hat72 (g := (mkF m 213 #[.val (.int x0), .val (.long x1), .second, .val (.long x2), .second, .val (.long x3), .second, .val (.long x4), .second, .val (.int (0 : Int32)), .val (.int (2 : Int32)), .val (.ref b49), .val (.ref b50), .val (.ref b51), .val (.int (2 : Int32)), .val (.long (w0_91_a x0 x1 x2 x3 x4)), .second, .val (.long (w0_117 x0 x1 x2 x3 x4)), .second] [(.int (0 : Int32)), (.ref b50)])) rfl rfl (hb hby at_213)) ?_
            refine Goes.run X52 hx hown hci hcl hby (L := [(214, .lload 5, 2), (216, .lcmp, 1)]) (by decide +kernel) rfl (g' := (mkF m 217 #[.val (.int x0), .val (.long x1), .second, .val (.long x2), .second, .val (.long x3), .second, .val (.long x4), .second, .val (.int (0 : Int32)), .val (.int (2 : Int32)), .val (.ref b49), .val (.ref b50), .val (.ref b51), .val (.int (2 : Int32)), .val (.long (w0_91_a x0 x1 x2 x3 x4)), .second, .val (.long (w0_117 x0 x1 x2 x3 x4)), .second] [(.int (lcmpW x3 x3))])) rfl ?_
            have hc217_73 : x3 = x3 := rfl
            refine Goes.st (B := T52.setTop (mkF m 222 #[.val (.int x0), .val (.long x1), .second, .val (.long x2), .second, .val (.long x3), .second, .val (.long x4), .second, .val (.int (0 : Int32)), .val (.int (2 : Int32)), .val (.ref b49), .val (.ref b50), .val (.ref b51), .val (.int (2 : Int32)), .val (.long (w0_91_a x0 x1 x2 x3 x4)), .second, .val (.long (w0_117 x0 x1 x2 x3 x4)), .second] [])) (fun t k => ?_) ?_
            · refine XS.ifYes X52.here hx rfl (pc0 := 217) (pc' := 222) rfl (hb hby at_217) rfl (teqL hc217_73).1 (by decide) (by decide) ?_
              exact k
            refine Goes.run X52 hx hown hci hcl hby (L := [(222, .iload 10, 2), (224, .iconst 1, 1)]) (by decide +kernel) rfl (g' := (mkF m 225 #[.val (.int x0), .val (.long x1), .second, .val (.long x2), .second, .val (.long x3), .second, .val (.long x4), .second, .val (.int (0 : Int32)), .val (.int (2 : Int32)), .val (.ref b49), .val (.ref b50), .val (.ref b51), .val (.int (2 : Int32)), .val (.long (w0_91_a x0 x1 x2 x3 x4)), .second, .val (.long (w0_117 x0 x1 x2 x3 x4)), .second] [(.int (1 : Int32)), (.int (2 : Int32))])) rfl ?_
            have hc225_74 : (1 : Int32) < (2 : Int32) := by decide
            refine Goes.st (B := T52.setTop (mkF m 228 #[.val (.int x0), .val (.long x1), .second, .val (.long x2), .second, .val (.long x3), .second, .val (.long x4), .second, .val (.int (0 : Int32)), .val (.int (2 : Int32)), .val (.ref b49), .val (.ref b50), .val (.ref b51), .val (.int (2 : Int32)), .val (.long (w0_91_a x0 x1 x2 x3 x4)), .second, .val (.long (w0_117 x0 x1 x2 x3 x4)), .second] [])) (fun t k => ?_) ?_
            · refine XS.icmpNo X52.here hx rfl (hb hby at_225) rfl (tlt hc225_74).2.2.2 ?_
              exact k
            refine Goes.run X52 hx hown hci hcl hby (L := [(228, .aload 12, 2), (230, .iconst 1, 1)]) (by decide +kernel) rfl (g' := (mkF m 231 #[.val (.int x0), .val (.long x1), .second, .val (.long x2), .second, .val (.long x3), .second, .val (.long x4), .second, .val (.int (0 : Int32)), .val (.int (2 : Int32)), .val (.ref b49), .val (.ref b50), .val (.ref b51), .val (.int (2 : Int32)), .val (.long (w0_91_a x0 x1 x2 x3 x4)), .second, .val (.long (w0_117 x0 x1 x2 x3 x4)), .second] [(.int (1 : Int32)), (.ref b50)])) rfl ?_
            obtain ⟨cl75, Ar75, q75, S75, M75, Hs75, G75⟩ := id V_b50
            have hin75 : ¬ ((1 : Int32) < 0 ∨ cl75.slots.size ≤ ((1 : Int32)).toNatClampNeg) := inb_of S75 ⟨(by decide), (by decide)⟩
            have hat75 : cl75.slots[((1 : Int32)).toNatClampNeg]? = some (.long x4) := Hs75.at hin75 rfl
            refine Goes.st (B := T52.setTop (mkF m 232 #[.val (.int x0), .val (.long x1), .second, .val (.long x2), .second, .val (.long x3), .second, .val (.long x4), .second, .val (.int (0 : Int32)), .val (.int (2 : Int32)), .val (.ref b49), .val (.ref b50), .val (.ref b51), .val (.int (2 : Int32)), .val (.long (w0_91_a x0 x1 x2 x3 x4)), .second, .val (.long (w0_117 x0 x1 x2 x3 x4)), .second] [(.long x4)])) (X52.laload hx (j := (1 : Int32)) (v := (.long x4)) (by rw [e52]; exact Ar75.1) (State.isArrayOf_alike hZ.alike Ar75.2.1) Ar75.2.2 hin75 hat75 (g := (mkF m 231 #[.val (.int x0), .val (.long x1), .second, .val (.long x2), .second, .val (.long x3), .second, .val (.long x4), .second, .val (.int (0 : Int32)), .val (.int (2 : Int32)), .val (.ref b49), .val (.ref b50), .val (.ref b51), .val (.int (2 : Int32)), .val (.long (w0_91_a x0 x1 x2 x3 x4)), .second, .val (.long (w0_117 x0 x1 x2 x3 x4)), .second] [(.int (1 : Int32)), (.ref b50)])) rfl rfl (hb hby at_231)) ?_
            refine Goes.run X52 hx hown hci hcl hby (L := [(232, .lload 7, 2), (234, .lcmp, 1)]) (by decide +kernel) rfl (g' := (mkF m 235 #[.val (.int x0), .val (.long x1), .second, .val (.long x2), .second, .val (.long x3), .second, .val (.long x4), .second, .val (.int (0 : Int32)), .val (.int (2 : Int32)), .val (.ref b49), .val (.ref b50), .val (.ref b51), .val (.int (2 : Int32)), .val (.long (w0_91_a x0 x1 x2 x3 x4)), .second, .val (.long (w0_117 x0 x1 x2 x3 x4)), .second] [(.int (lcmpW x4 x4))])) rfl ?_
            have hc235_76 : x4 = x4 := rfl
            refine Goes.st (B := T52.setTop (mkF m 240 #[.val (.int x0), .val (.long x1), .second, .val (.long x2), .second, .val (.long x3), .second, .val (.long x4), .second, .val (.int (0 : Int32)), .val (.int (2 : Int32)), .val (.ref b49), .val (.ref b50), .val (.ref b51), .val (.int (2 : Int32)), .val (.long (w0_91_a x0 x1 x2 x3 x4)), .second, .val (.long (w0_117 x0 x1 x2 x3 x4)), .second] [])) (fun t k => ?_) ?_
            · refine XS.ifYes X52.here hx rfl (pc0 := 235) (pc' := 240) rfl (hb hby at_235) rfl (teqL hc235_76).1 (by decide) (by decide) ?_
              exact k
            refine Goes.run X52 hx hown hci hcl hby (L := [(240, .iconst 1, 1)]) (by decide +kernel) rfl (g' := (mkF m 241 #[.val (.int x0), .val (.long x1), .second, .val (.long x2), .second, .val (.long x3), .second, .val (.long x4), .second, .val (.int (0 : Int32)), .val (.int (2 : Int32)), .val (.ref b49), .val (.ref b50), .val (.ref b51), .val (.int (2 : Int32)), .val (.long (w0_91_a x0 x1 x2 x3 x4)), .second, .val (.long (w0_117 x0 x1 x2 x3 x4)), .second] [(.int (1 : Int32))])) rfl ?_
            exact Goes.retB X52 hx hlk (t := .boolean) Bd.returns (by simp) (hb hby at_241) rfl ⟨(congrArg (fun z => some (Value.int z)) (show (r0 x0 x1 x2 x3 x4) = (1 : Int32) from (((((if_pos hs21_1).trans (if_neg hs21_2)).trans (if_neg hs21_23)).trans (if_pos hc131_61)).trans (if_pos hc149_64))).symm), N52⟩ (by decide) (by decide)
          · skip
            refine Goes.st (B := T52.setTop (mkF m 152 #[.val (.int x0), .val (.long x1), .second, .val (.long x2), .second, .val (.long x3), .second, .val (.long x4), .second, .val (.int (0 : Int32)), .val (.int (2 : Int32)), .val (.ref b49), .val (.ref b50), .val (.ref b51), .val (.int (2 : Int32)), .val (.long (w0_91_a x0 x1 x2 x3 x4)), .second, .val (.long (w0_117 x0 x1 x2 x3 x4)), .second] [])) (fun t k => ?_) ?_
            · refine XS.ifNo X52.here hx rfl (hb hby at_149) rfl (feqL hc149_64).1 ?_
              exact k
            refine Goes.run X52 hx hown hci hcl hby (L := [(152, .iconst 0, 1)]) (by decide +kernel) rfl (g' := (mkF m 153 #[.val (.int x0), .val (.long x1), .second, .val (.long x2), .second, .val (.long x3), .second, .val (.long x4), .second, .val (.int (0 : Int32)), .val (.int (2 : Int32)), .val (.ref b49), .val (.ref b50), .val (.ref b51), .val (.int (2 : Int32)), .val (.long (w0_91_a x0 x1 x2 x3 x4)), .second, .val (.long (w0_117 x0 x1 x2 x3 x4)), .second] [(.int (0 : Int32))])) rfl ?_
            exact Goes.retB X52 hx hlk (t := .boolean) Bd.returns (by simp) (hb hby at_153) rfl ⟨(congrArg (fun z => some (Value.int z)) (show (r0 x0 x1 x2 x3 x4) = (0 : Int32) from (((((if_pos hs21_1).trans (if_neg hs21_2)).trans (if_neg hs21_23)).trans (if_pos hc131_61)).trans (if_neg hc149_64))).symm), N52⟩ (by decide) (by decide)
        · skip
          refine Goes.st (B := T52.setTop (mkF m 134 #[.val (.int x0), .val (.long x1), .second, .val (.long x2), .second, .val (.long x3), .second, .val (.long x4), .second, .val (.int (0 : Int32)), .val (.int (2 : Int32)), .val (.ref b49), .val (.ref b50), .val (.ref b51), .val (.int (2 : Int32)), .val (.long (w0_91_a x0 x1 x2 x3 x4)), .second, .val (.long (w0_117 x0 x1 x2 x3 x4)), .second] [])) (fun t k => ?_) ?_
          · refine XS.ifNo X52.here hx rfl (hb hby at_131) rfl (feqL hc131_61).1 ?_
            exact k
          refine Goes.run X52 hx hown hci hcl hby (L := [(134, .iconst 0, 1)]) (by decide +kernel) rfl (g' := (mkF m 135 #[.val (.int x0), .val (.long x1), .second, .val (.long x2), .second, .val (.long x3), .second, .val (.long x4), .second, .val (.int (0 : Int32)), .val (.int (2 : Int32)), .val (.ref b49), .val (.ref b50), .val (.ref b51), .val (.int (2 : Int32)), .val (.long (w0_91_a x0 x1 x2 x3 x4)), .second, .val (.long (w0_117 x0 x1 x2 x3 x4)), .second] [(.int (0 : Int32))])) rfl ?_
          exact Goes.retB X52 hx hlk (t := .boolean) Bd.returns (by simp) (hb hby at_135) rfl ⟨(congrArg (fun z => some (Value.int z)) (show (r0 x0 x1 x2 x3 x4) = (0 : Int32) from ((((if_pos hs21_1).trans (if_neg hs21_2)).trans (if_neg hs21_23)).trans (if_neg hc131_61))).symm), N52⟩ (by decide) (by decide)
  · skip
    by_cases hs21_77 : (w0_7 x0 x1 x2 x3 x4) = (1 : Int32)
    · skip
      rw [hs21_77]
      by_cases hs21_78 : (w0_19 x0 x1 x2 x3 x4) = (0 : Int32)
      · skip
        rw [hs21_78]
        refine Goes.run X0 hx hown hci hcl hby (L := [(21, .iload 9, 2), (23, .lload_n 1, 1), (24, .lload_n 3, 1)]) (by decide +kernel) rfl (g' := (mkF m 25 #[.val (.int x0), .val (.long x1), .second, .val (.long x2), .second, .val (.long x3), .second, .val (.long x4), .second, .val (.int (1 : Int32)), .val (.int (0 : Int32)), .unset, .unset, .unset, .unset, .unset, .unset, .unset, .unset] [(.long x2), (.long x1), (.int (1 : Int32))])) rfl ?_
        obtain ⟨_, _, ⟨T79, L79, k79, n79⟩, -, X79, ⟨Lc79, hQ79, l79, y79, z79⟩, st79⟩ := Jvm.LawKit.callS X0 hx (y := (⟨"com/example/marks_across_domains/marksacrossdomains/BitsUnionPinLaw", "make", "(IJJ)[J"⟩ : MethodName)) hown (mvT hZ (hw _ (List.mem_of_getElem? (i := 0) rfl))) (mvT hZ (hw _ (List.mem_of_getElem? (i := 1) rfl))) (mvT hZ (hw _ (List.mem_of_getElem? (i := 2) rfl))) (mvT hZ (hw _ (List.mem_of_getElem? (i := 3) rfl))) (by decide) (backOf (W := 0) (rm21 l Z a0 hw [] x1 x2 h0 n0 Z0 ) hZ (hw _ (List.mem_of_getElem? (i := 3) rfl)) (hw _ (List.mem_of_getElem? (i := 2) rfl)) (by decide) (by decide)) (g := (mkF m 25 #[.val (.int x0), .val (.long x1), .second, .val (.long x2), .second, .val (.long x3), .second, .val (.long x4), .second, .val (.int (1 : Int32)), .val (.int (0 : Int32)), .unset, .unset, .unset, .unset, .unset, .unset, .unset, .unset] [(.long x2), (.long x1), (.int (1 : Int32))])) rfl (by rw [hml]; rfl) (argsL := [(.int (1 : Int32)), (.long x1), (.long x2)]) (rest := []) (lenOf pd0_0 rfl) rfl (by show 2 * 0 + _ ≤ _; exact Nat.le_of_eq rfl) (hb hby at_25) (fun _ _ => ⟨rfl, e0, (by decide : 0 + 1 ≤ _), (by decide : 0 + 1 ≤ _)⟩)
        dsimp only [Pt.U, Pt.locs, Pt.cells, Pt.slots] at X79 l79 y79 z79 st79 hQ79
        subst l79 y79 z79
        obtain ⟨h79, eh79⟩ : ∃ z, z = T79.heap := ⟨_, rfl⟩
        rw [← eh79] at hQ79
        have e79 : T79.heap = h79 := eh79.symm
        obtain ⟨b79, kc79, rfl, N79q, Kq79, szq79, o79_0, o79_1⟩ := hQ79
        have g_b79 : n0 ≤ b79 := Nat.le_trans Z0 szq79
        have N79 := Fr.app N0 N79q
        have E_b79 : Exa Z h79 b79 "[J" := o79_0
        have V_b79 : Arv Z h79 b79 kc79 .long (1 : Int32) [(.long x1)] (.long (0 : Int64)) := o79_1
        have Zn79 : n0 ≤ h79.size := Nat.le_trans Z0 Kq79.1
        refine Goes.st (B := T79.setTop (mkF m 28 #[.val (.int x0), .val (.long x1), .second, .val (.long x2), .second, .val (.long x3), .second, .val (.long x4), .second, .val (.int (1 : Int32)), .val (.int (0 : Int32)), .unset, .unset, .unset, .unset, .unset, .unset, .unset, .unset] [(.ref b79)])) st79 ?_
        refine Goes.run X79 hx hown hci hcl hby (L := [(28, .astore 11, 2), (30, .iload 10, 2), (32, .lload 5, 2), (34, .lload 7, 2)]) (by decide +kernel) rfl (g' := (mkF m 36 #[.val (.int x0), .val (.long x1), .second, .val (.long x2), .second, .val (.long x3), .second, .val (.long x4), .second, .val (.int (1 : Int32)), .val (.int (0 : Int32)), .val (.ref b79), .unset, .unset, .unset, .unset, .unset, .unset, .unset] [(.long x4), (.long x3), (.int (0 : Int32))])) rfl ?_
        obtain ⟨_, _, ⟨T80, L80, k80, n80⟩, -, X80, ⟨Lc80, hQ80, l80, y80, z80⟩, st80⟩ := Jvm.LawKit.callS X79 hx (y := (⟨"com/example/marks_across_domains/marksacrossdomains/BitsUnionPinLaw", "make", "(IJJ)[J"⟩ : MethodName)) hown (mvT hZ (hw _ (List.mem_of_getElem? (i := 0) rfl))) (mvT hZ (hw _ (List.mem_of_getElem? (i := 1) rfl))) (mvT hZ (hw _ (List.mem_of_getElem? (i := 2) rfl))) (mvT hZ (hw _ (List.mem_of_getElem? (i := 3) rfl))) (by decide) (backOf (W := 0) (rm20 l Z a0 hw [] x3 x4 h79 n0 Zn79 ) hZ (hw _ (List.mem_of_getElem? (i := 3) rfl)) (hw _ (List.mem_of_getElem? (i := 2) rfl)) (by decide) (by decide)) (g := (mkF m 36 #[.val (.int x0), .val (.long x1), .second, .val (.long x2), .second, .val (.long x3), .second, .val (.long x4), .second, .val (.int (1 : Int32)), .val (.int (0 : Int32)), .val (.ref b79), .unset, .unset, .unset, .unset, .unset, .unset, .unset] [(.long x4), (.long x3), (.int (0 : Int32))])) rfl (by rw [hml]; rfl) (argsL := [(.int (0 : Int32)), (.long x3), (.long x4)]) (rest := []) (lenOf pd0_0 rfl) rfl (by show 2 * 0 + _ ≤ _; exact Nat.le_of_eq rfl) (hb hby at_36) (fun _ _ => ⟨rfl, e79, (by decide : 1 + 1 ≤ _), (by decide : 1 + 0 ≤ _)⟩)
        dsimp only [Pt.U, Pt.locs, Pt.cells, Pt.slots] at X80 l80 y80 z80 st80 hQ80
        subst l80 y80 z80
        obtain ⟨h80, eh80⟩ : ∃ z, z = T80.heap := ⟨_, rfl⟩
        rw [← eh80] at hQ80
        have e80 : T80.heap = h80 := eh80.symm
        obtain ⟨b80, kc80, rfl, N80q, Kq80, szq80, o80_0, o80_1⟩ := hQ80
        have ne_b79_b80 : b79 ≠ b80 := Nat.ne_of_lt (Nat.lt_of_lt_of_le E_b79.lt szq80)
        have g_b80 : n0 ≤ b80 := Nat.le_trans Zn79 szq80
        have N80 := Fr.app N79 N80q
        have E_b79 := E_b79.keep Kq80
        have V_b79 := V_b79.keep Kq80 nin0
        have E_b80 : Exa Z h80 b80 "[J" := o80_0
        have V_b80 : Arv Z h80 b80 kc80 .long (0 : Int32) [] (.long (0 : Int64)) := o80_1
        have Zn80 : n0 ≤ h80.size := Nat.le_trans Zn79 Kq80.1
        refine Goes.st (B := T80.setTop (mkF m 39 #[.val (.int x0), .val (.long x1), .second, .val (.long x2), .second, .val (.long x3), .second, .val (.long x4), .second, .val (.int (1 : Int32)), .val (.int (0 : Int32)), .val (.ref b79), .unset, .unset, .unset, .unset, .unset, .unset, .unset] [(.ref b80)])) st80 ?_
        refine Goes.run X80 hx hown hci hcl hby (L := [(39, .astore 12, 2), (41, .aload 11, 2), (43, .aload 12, 2)]) (by decide +kernel) rfl (g' := (mkF m 45 #[.val (.int x0), .val (.long x1), .second, .val (.long x2), .second, .val (.long x3), .second, .val (.long x4), .second, .val (.int (1 : Int32)), .val (.int (0 : Int32)), .val (.ref b79), .val (.ref b80), .unset, .unset, .unset, .unset, .unset, .unset] [(.ref b80), (.ref b79)])) rfl ?_
        obtain ⟨_, _, ⟨T81, L81, k81, n81⟩, -, X81, ⟨Lc81, hQ81, l81, y81, z81⟩, st81⟩ := Jvm.LawKit.callS X80 hx (y := (⟨"com/example/marks_across_domains/marksacrossdomains/Bits", "union", "([J[J)[J"⟩ : MethodName)) hown (mvT hZ (hw _ (List.mem_of_getElem? (i := 5) rfl))) (mvT hZ (hw _ (List.mem_of_getElem? (i := 6) rfl))) (mvT hZ (hw _ (List.mem_of_getElem? (i := 7) rfl))) (mvT hZ (hw _ (List.mem_of_getElem? (i := 8) rfl))) (by decide) (backOf (W := 0) (rm310 l Z a0 hw [] b79 b80 kc79 kc80 x1 h80 n0 Zn80 E_b79 V_b79 E_b80 V_b80) hZ (hw _ (List.mem_of_getElem? (i := 8) rfl)) (hw _ (List.mem_of_getElem? (i := 7) rfl)) (by decide) (by decide)) (g := (mkF m 45 #[.val (.int x0), .val (.long x1), .second, .val (.long x2), .second, .val (.long x3), .second, .val (.long x4), .second, .val (.int (1 : Int32)), .val (.int (0 : Int32)), .val (.ref b79), .val (.ref b80), .unset, .unset, .unset, .unset, .unset, .unset] [(.ref b80), (.ref b79)])) rfl (by rw [hml]; rfl) (argsL := [(.ref b79), (.ref b80)]) (rest := []) (lenOf pd0_1 rfl) rfl (by show 2 * 0 + _ ≤ _; exact Nat.le_of_eq rfl) (hb hby at_45) (fun _ _ => ⟨rfl, e80, (by decide : 2 + 1 ≤ _), (by decide : 1 + 1 ≤ _)⟩)
        dsimp only [Pt.U, Pt.locs, Pt.cells, Pt.slots] at X81 l81 y81 z81 st81 hQ81
        subst l81 y81 z81
        obtain ⟨h81, eh81⟩ : ∃ z, z = T81.heap := ⟨_, rfl⟩
        rw [← eh81] at hQ81
        have e81 : T81.heap = h81 := eh81.symm
        obtain ⟨b81, kc81, rfl, N81q, Kq81, szq81, o81_0, o81_1⟩ := hQ81
        have ne_b79_b81 : b79 ≠ b81 := Nat.ne_of_lt (Nat.lt_of_lt_of_le E_b79.lt szq81)
        have ne_b80_b81 : b80 ≠ b81 := Nat.ne_of_lt (Nat.lt_of_lt_of_le E_b80.lt szq81)
        have g_b81 : n0 ≤ b81 := Nat.le_trans Zn80 szq81
        have N81 := Fr.app N80 N81q
        have E_b79 := E_b79.keep Kq81
        have V_b79 := V_b79.keep Kq81 nin0
        have E_b80 := E_b80.keep Kq81
        have V_b80 := V_b80.keep Kq81 nin0
        have E_b81 : Exa Z h81 b81 "[J" := o81_0
        have V_b81 : Arv Z h81 b81 kc81 .long (1 : Int32) [(.long x1)] (.long (0 : Int64)) := o81_1
        have Zn81 : n0 ≤ h81.size := Nat.le_trans Zn80 Kq81.1
        refine Goes.st (B := T81.setTop (mkF m 48 #[.val (.int x0), .val (.long x1), .second, .val (.long x2), .second, .val (.long x3), .second, .val (.long x4), .second, .val (.int (1 : Int32)), .val (.int (0 : Int32)), .val (.ref b79), .val (.ref b80), .unset, .unset, .unset, .unset, .unset, .unset] [(.ref b81)])) st81 ?_
        refine Goes.run X81 hx hown hci hcl hby (L := [(48, .astore 13, 2), (50, .iload 9, 2), (52, .iload 10, 2)]) (by decide +kernel) rfl (g' := (mkF m 54 #[.val (.int x0), .val (.long x1), .second, .val (.long x2), .second, .val (.long x3), .second, .val (.long x4), .second, .val (.int (1 : Int32)), .val (.int (0 : Int32)), .val (.ref b79), .val (.ref b80), .val (.ref b81), .unset, .unset, .unset, .unset, .unset] [(.int (0 : Int32)), (.int (1 : Int32))])) rfl ?_
        obtain ⟨_, _, ⟨T82, L82, k82, n82⟩, -, X82, ⟨Lc82, hQ82, l82, y82, z82⟩, st82⟩ := Jvm.LawKit.callS X81 hx (y := (⟨"java/lang/Math", "max", "(II)I"⟩ : MethodName)) hown (mvT hZ (hw _ (List.mem_of_getElem? (i := 18) rfl))) (mvT hZ (hw _ (List.mem_of_getElem? (i := 19) rfl))) (mvT hZ (hw _ (List.mem_of_getElem? (i := 20) rfl))) (mvT hZ (hw _ (List.mem_of_getElem? (i := 21) rfl))) (by decide) (backOf (W := 0) (rm1 l Z a0 hw [] (1 : Int32) (0 : Int32) h81 n0 Zn81 ) hZ (hw _ (List.mem_of_getElem? (i := 21) rfl)) (hw _ (List.mem_of_getElem? (i := 20) rfl)) (by decide) (by decide)) (g := (mkF m 54 #[.val (.int x0), .val (.long x1), .second, .val (.long x2), .second, .val (.long x3), .second, .val (.long x4), .second, .val (.int (1 : Int32)), .val (.int (0 : Int32)), .val (.ref b79), .val (.ref b80), .val (.ref b81), .unset, .unset, .unset, .unset, .unset] [(.int (0 : Int32)), (.int (1 : Int32))])) rfl (by rw [hml]; rfl) (argsL := [(.int (1 : Int32)), (.int (0 : Int32))]) (rest := []) (lenOf pd0_2 rfl) rfl (by show 2 * 0 + _ ≤ _; exact Nat.le_of_eq rfl) (hb hby at_54) (fun _ _ => ⟨rfl, e81, (by decide : 3 + 0 ≤ _), (by decide : 2 + 0 ≤ _)⟩)
        dsimp only [Pt.U, Pt.locs, Pt.cells, Pt.slots] at X82 l82 y82 z82 st82 hQ82
        subst l82 y82 z82
        obtain ⟨rfl, N82q, e82⟩ := hQ82
        have N82 := Fr.app N81 N82q
        refine Goes.st (B := T82.setTop (mkF m 57 #[.val (.int x0), .val (.long x1), .second, .val (.long x2), .second, .val (.long x3), .second, .val (.long x4), .second, .val (.int (1 : Int32)), .val (.int (0 : Int32)), .val (.ref b79), .val (.ref b80), .val (.ref b81), .unset, .unset, .unset, .unset, .unset] [(.int (1 : Int32))])) st82 ?_
        refine Goes.run X82 hx hown hci hcl hby (L := [(57, .istore 14, 2), (59, .aload 13, 2)]) (by decide +kernel) rfl (g' := (mkF m 61 #[.val (.int x0), .val (.long x1), .second, .val (.long x2), .second, .val (.long x3), .second, .val (.long x4), .second, .val (.int (1 : Int32)), .val (.int (0 : Int32)), .val (.ref b79), .val (.ref b80), .val (.ref b81), .val (.int (1 : Int32)), .unset, .unset, .unset, .unset] [(.ref b81)])) rfl ?_
        obtain ⟨cl83, Ar83, q83, S83, M83, Hs83, G83⟩ := id V_b81
        refine Goes.st (B := T82.setTop (mkF m 62 #[.val (.int x0), .val (.long x1), .second, .val (.long x2), .second, .val (.long x3), .second, .val (.long x4), .second, .val (.int (1 : Int32)), .val (.int (0 : Int32)), .val (.ref b79), .val (.ref b80), .val (.ref b81), .val (.int (1 : Int32)), .unset, .unset, .unset, .unset] [(.int (1 : Int32))])) (fun t k => ?_) ?_
        · refine X82.arraylength hx (cell := cl83) (by rw [e82]; exact Ar83.1) (State.isArrayOf_alike hZ.alike Ar83.2.1) (g := (mkF m 61 #[.val (.int x0), .val (.long x1), .second, .val (.long x2), .second, .val (.long x3), .second, .val (.long x4), .second, .val (.int (1 : Int32)), .val (.int (0 : Int32)), .val (.ref b79), .val (.ref b80), .val (.ref b81), .val (.int (1 : Int32)), .unset, .unset, .unset, .unset] [(.ref b81)])) rfl (rest := []) rfl (hb hby at_61) _ ?_
          rw [len_of S83 M83]
          exact k
        refine Goes.run X82 hx hown hci hcl hby (L := [(62, .iload 14, 2)]) (by decide +kernel) rfl (g' := (mkF m 64 #[.val (.int x0), .val (.long x1), .second, .val (.long x2), .second, .val (.long x3), .second, .val (.long x4), .second, .val (.int (1 : Int32)), .val (.int (0 : Int32)), .val (.ref b79), .val (.ref b80), .val (.ref b81), .val (.int (1 : Int32)), .unset, .unset, .unset, .unset] [(.int (1 : Int32)), (.int (1 : Int32))])) rfl ?_
        have hc64_84 : (1 : Int32) = (1 : Int32) := rfl
        refine Goes.st (B := T82.setTop (mkF m 69 #[.val (.int x0), .val (.long x1), .second, .val (.long x2), .second, .val (.long x3), .second, .val (.long x4), .second, .val (.int (1 : Int32)), .val (.int (0 : Int32)), .val (.ref b79), .val (.ref b80), .val (.ref b81), .val (.int (1 : Int32)), .unset, .unset, .unset, .unset] [])) (fun t k => ?_) ?_
        · refine XS.icmpYes X82.here hx rfl (pc0 := 64) (pc' := 69) rfl (hb hby at_64) rfl (teq hc64_84).1 (by decide) (by decide) ?_
          exact k
        refine Goes.run X82 hx hown hci hcl hby (L := [(69, .iload 9, 2)]) (by decide +kernel) rfl (g' := (mkF m 71 #[.val (.int x0), .val (.long x1), .second, .val (.long x2), .second, .val (.long x3), .second, .val (.long x4), .second, .val (.int (1 : Int32)), .val (.int (0 : Int32)), .val (.ref b79), .val (.ref b80), .val (.ref b81), .val (.int (1 : Int32)), .unset, .unset, .unset, .unset] [(.int (1 : Int32))])) rfl ?_
        have hc71_85 : (0 : Int32) < (1 : Int32) := by decide
        refine Goes.st (B := T82.setTop (mkF m 74 #[.val (.int x0), .val (.long x1), .second, .val (.long x2), .second, .val (.long x3), .second, .val (.long x4), .second, .val (.int (1 : Int32)), .val (.int (0 : Int32)), .val (.ref b79), .val (.ref b80), .val (.ref b81), .val (.int (1 : Int32)), .unset, .unset, .unset, .unset] [])) (fun t k => ?_) ?_
        · refine XS.ifNo X82.here hx rfl (hb hby at_71) rfl ((if0 _ _).trans (tlt hc71_85).2.2.2) ?_
          exact k
        refine Goes.run X82 hx hown hci hcl hby (L := [(74, .lload_n 1, 1), (75, .goto 4, 3), (79, .iload 10, 2)]) (by decide +kernel) rfl (g' := (mkF m 81 #[.val (.int x0), .val (.long x1), .second, .val (.long x2), .second, .val (.long x3), .second, .val (.long x4), .second, .val (.int (1 : Int32)), .val (.int (0 : Int32)), .val (.ref b79), .val (.ref b80), .val (.ref b81), .val (.int (1 : Int32)), .unset, .unset, .unset, .unset] [(.int (0 : Int32)), (.long x1)])) rfl ?_
        have hc81_86 : ¬ ((0 : Int32) < (0 : Int32)) := Int32.lt_irrefl
        refine Goes.st (B := T82.setTop (mkF m 89 #[.val (.int x0), .val (.long x1), .second, .val (.long x2), .second, .val (.long x3), .second, .val (.long x4), .second, .val (.int (1 : Int32)), .val (.int (0 : Int32)), .val (.ref b79), .val (.ref b80), .val (.ref b81), .val (.int (1 : Int32)), .unset, .unset, .unset, .unset] [(.long x1)])) (fun t k => ?_) ?_
        · refine XS.ifYes X82.here hx rfl (pc0 := 81) (pc' := 89) rfl (hb hby at_81) rfl ((if0 _ _).trans (flt hc81_86).2.2.2) (by decide) (by decide) ?_
          exact k
        refine Goes.run X82 hx hown hci hcl hby (L := [(89, .lconst 0, 1), (90, .lor, 1), (91, .lstore 15, 2), (93, .iload 9, 2), (95, .iconst 1, 1)]) (by decide +kernel) rfl (g' := (mkF m 96 #[.val (.int x0), .val (.long x1), .second, .val (.long x2), .second, .val (.long x3), .second, .val (.long x4), .second, .val (.int (1 : Int32)), .val (.int (0 : Int32)), .val (.ref b79), .val (.ref b80), .val (.ref b81), .val (.int (1 : Int32)), .val (.long (w0_91_b x0 x1 x2 x3 x4)), .second, .unset, .unset] [(.int (1 : Int32)), (.int (1 : Int32))])) rfl ?_
        have hc96_87 : ¬ ((1 : Int32) < (1 : Int32)) := Int32.lt_irrefl
        refine Goes.st (B := T82.setTop (mkF m 103 #[.val (.int x0), .val (.long x1), .second, .val (.long x2), .second, .val (.long x3), .second, .val (.long x4), .second, .val (.int (1 : Int32)), .val (.int (0 : Int32)), .val (.ref b79), .val (.ref b80), .val (.ref b81), .val (.int (1 : Int32)), .val (.long (w0_91_b x0 x1 x2 x3 x4)), .second, .unset, .unset] [])) (fun t k => ?_) ?_
        · refine XS.icmpYes X82.here hx rfl (pc0 := 96) (pc' := 103) rfl (hb hby at_96) rfl (flt hc96_87).2.2.2 (by decide) (by decide) ?_
          exact k
        refine Goes.run X82 hx hown hci hcl hby (L := [(103, .lconst 0, 1), (104, .iload 10, 2), (106, .iconst 1, 1)]) (by decide +kernel) rfl (g' := (mkF m 107 #[.val (.int x0), .val (.long x1), .second, .val (.long x2), .second, .val (.long x3), .second, .val (.long x4), .second, .val (.int (1 : Int32)), .val (.int (0 : Int32)), .val (.ref b79), .val (.ref b80), .val (.ref b81), .val (.int (1 : Int32)), .val (.long (w0_91_b x0 x1 x2 x3 x4)), .second, .unset, .unset] [(.int (1 : Int32)), (.int (0 : Int32)), (.long (0 : Int64))])) rfl ?_
        have hc107_88 : ¬ ((1 : Int32) < (0 : Int32)) := by decide
        refine Goes.st (B := T82.setTop (mkF m 115 #[.val (.int x0), .val (.long x1), .second, .val (.long x2), .second, .val (.long x3), .second, .val (.long x4), .second, .val (.int (1 : Int32)), .val (.int (0 : Int32)), .val (.ref b79), .val (.ref b80), .val (.ref b81), .val (.int (1 : Int32)), .val (.long (w0_91_b x0 x1 x2 x3 x4)), .second, .unset, .unset] [(.long (0 : Int64))])) (fun t k => ?_) ?_
        · refine XS.icmpYes X82.here hx rfl (pc0 := 107) (pc' := 115) rfl (hb hby at_107) rfl (flt hc107_88).2.2.2 (by decide) (by decide) ?_
          exact k
        refine Goes.run X82 hx hown hci hcl hby (L := [(115, .lconst 0, 1), (116, .lor, 1), (117, .lstore 17, 2), (119, .iload 14, 2)]) (by decide +kernel) rfl (g' := (mkF m 121 #[.val (.int x0), .val (.long x1), .second, .val (.long x2), .second, .val (.long x3), .second, .val (.long x4), .second, .val (.int (1 : Int32)), .val (.int (0 : Int32)), .val (.ref b79), .val (.ref b80), .val (.ref b81), .val (.int (1 : Int32)), .val (.long (w0_91_b x0 x1 x2 x3 x4)), .second, .val (.long (w0_91 x0 x1 x2 x3 x4)), .second] [(.int (1 : Int32))])) rfl ?_
        have hc121_89 : (0 : Int32) < (1 : Int32) := by decide
        refine Goes.st (B := T82.setTop (mkF m 124 #[.val (.int x0), .val (.long x1), .second, .val (.long x2), .second, .val (.long x3), .second, .val (.long x4), .second, .val (.int (1 : Int32)), .val (.int (0 : Int32)), .val (.ref b79), .val (.ref b80), .val (.ref b81), .val (.int (1 : Int32)), .val (.long (w0_91_b x0 x1 x2 x3 x4)), .second, .val (.long (w0_91 x0 x1 x2 x3 x4)), .second] [])) (fun t k => ?_) ?_
        · refine XS.ifNo X82.here hx rfl (hb hby at_121) rfl ((if0 _ _).trans (tlt hc121_89).2.2.2) ?_
          exact k
        refine Goes.run X82 hx hown hci hcl hby (L := [(124, .aload 13, 2), (126, .iconst 0, 1)]) (by decide +kernel) rfl (g' := (mkF m 127 #[.val (.int x0), .val (.long x1), .second, .val (.long x2), .second, .val (.long x3), .second, .val (.long x4), .second, .val (.int (1 : Int32)), .val (.int (0 : Int32)), .val (.ref b79), .val (.ref b80), .val (.ref b81), .val (.int (1 : Int32)), .val (.long (w0_91_b x0 x1 x2 x3 x4)), .second, .val (.long (w0_91 x0 x1 x2 x3 x4)), .second] [(.int (0 : Int32)), (.ref b81)])) rfl ?_
        obtain ⟨cl90, Ar90, q90, S90, M90, Hs90, G90⟩ := id V_b81
        have hin90 : ¬ ((0 : Int32) < 0 ∨ cl90.slots.size ≤ ((0 : Int32)).toNatClampNeg) := inb_of S90 ⟨(by decide), (by decide)⟩
        have hat90 : cl90.slots[((0 : Int32)).toNatClampNeg]? = some (.long x1) := Hs90.at hin90 rfl
        refine Goes.st (B := T82.setTop (mkF m 128 #[.val (.int x0), .val (.long x1), .second, .val (.long x2), .second, .val (.long x3), .second, .val (.long x4), .second, .val (.int (1 : Int32)), .val (.int (0 : Int32)), .val (.ref b79), .val (.ref b80), .val (.ref b81), .val (.int (1 : Int32)), .val (.long (w0_91_b x0 x1 x2 x3 x4)), .second, .val (.long (w0_91 x0 x1 x2 x3 x4)), .second] [(.long x1)])) (X82.laload hx (j := (0 : Int32)) (v := (.long x1)) (by rw [e82]; exact Ar90.1) (State.isArrayOf_alike hZ.alike Ar90.2.1) Ar90.2.2 hin90 hat90 (g := (mkF m 127 #[.val (.int x0), .val (.long x1), .second, .val (.long x2), .second, .val (.long x3), .second, .val (.long x4), .second, .val (.int (1 : Int32)), .val (.int (0 : Int32)), .val (.ref b79), .val (.ref b80), .val (.ref b81), .val (.int (1 : Int32)), .val (.long (w0_91_b x0 x1 x2 x3 x4)), .second, .val (.long (w0_91 x0 x1 x2 x3 x4)), .second] [(.int (0 : Int32)), (.ref b81)])) rfl rfl (hb hby at_127)) ?_
        refine Goes.run X82 hx hown hci hcl hby (L := [(128, .lload 15, 2), (130, .lcmp, 1)]) (by decide +kernel) rfl (g' := (mkF m 131 #[.val (.int x0), .val (.long x1), .second, .val (.long x2), .second, .val (.long x3), .second, .val (.long x4), .second, .val (.int (1 : Int32)), .val (.int (0 : Int32)), .val (.ref b79), .val (.ref b80), .val (.ref b81), .val (.int (1 : Int32)), .val (.long (w0_91_b x0 x1 x2 x3 x4)), .second, .val (.long (w0_91 x0 x1 x2 x3 x4)), .second] [(.int (lcmpW x1 (w0_91_b x0 x1 x2 x3 x4)))])) rfl ?_
        by_cases hc131_91 : x1 = (w0_91_b x0 x1 x2 x3 x4)
        · skip
          refine Goes.st (B := T82.setTop (mkF m 136 #[.val (.int x0), .val (.long x1), .second, .val (.long x2), .second, .val (.long x3), .second, .val (.long x4), .second, .val (.int (1 : Int32)), .val (.int (0 : Int32)), .val (.ref b79), .val (.ref b80), .val (.ref b81), .val (.int (1 : Int32)), .val (.long (w0_91_b x0 x1 x2 x3 x4)), .second, .val (.long (w0_91 x0 x1 x2 x3 x4)), .second] [])) (fun t k => ?_) ?_
          · refine XS.ifYes X82.here hx rfl (pc0 := 131) (pc' := 136) rfl (hb hby at_131) rfl (teqL hc131_91).1 (by decide) (by decide) ?_
            exact k
          refine Goes.run X82 hx hown hci hcl hby (L := [(136, .iload 14, 2), (138, .iconst 1, 1)]) (by decide +kernel) rfl (g' := (mkF m 139 #[.val (.int x0), .val (.long x1), .second, .val (.long x2), .second, .val (.long x3), .second, .val (.long x4), .second, .val (.int (1 : Int32)), .val (.int (0 : Int32)), .val (.ref b79), .val (.ref b80), .val (.ref b81), .val (.int (1 : Int32)), .val (.long (w0_91_b x0 x1 x2 x3 x4)), .second, .val (.long (w0_91 x0 x1 x2 x3 x4)), .second] [(.int (1 : Int32)), (.int (1 : Int32))])) rfl ?_
          have hc139_92 : ¬ ((1 : Int32) < (1 : Int32)) := Int32.lt_irrefl
          refine Goes.st (B := T82.setTop (mkF m 154 #[.val (.int x0), .val (.long x1), .second, .val (.long x2), .second, .val (.long x3), .second, .val (.long x4), .second, .val (.int (1 : Int32)), .val (.int (0 : Int32)), .val (.ref b79), .val (.ref b80), .val (.ref b81), .val (.int (1 : Int32)), .val (.long (w0_91_b x0 x1 x2 x3 x4)), .second, .val (.long (w0_91 x0 x1 x2 x3 x4)), .second] [])) (fun t k => ?_) ?_
          · refine XS.icmpYes X82.here hx rfl (pc0 := 139) (pc' := 154) rfl (hb hby at_139) rfl (flt hc139_92).2.2.2 (by decide) (by decide) ?_
            exact k
          refine Goes.run X82 hx hown hci hcl hby (L := [(154, .aload 11, 2)]) (by decide +kernel) rfl (g' := (mkF m 156 #[.val (.int x0), .val (.long x1), .second, .val (.long x2), .second, .val (.long x3), .second, .val (.long x4), .second, .val (.int (1 : Int32)), .val (.int (0 : Int32)), .val (.ref b79), .val (.ref b80), .val (.ref b81), .val (.int (1 : Int32)), .val (.long (w0_91_b x0 x1 x2 x3 x4)), .second, .val (.long (w0_91 x0 x1 x2 x3 x4)), .second] [(.ref b79)])) rfl ?_
          obtain ⟨cl93, Ar93, q93, S93, M93, Hs93, G93⟩ := id V_b79
          refine Goes.st (B := T82.setTop (mkF m 157 #[.val (.int x0), .val (.long x1), .second, .val (.long x2), .second, .val (.long x3), .second, .val (.long x4), .second, .val (.int (1 : Int32)), .val (.int (0 : Int32)), .val (.ref b79), .val (.ref b80), .val (.ref b81), .val (.int (1 : Int32)), .val (.long (w0_91_b x0 x1 x2 x3 x4)), .second, .val (.long (w0_91 x0 x1 x2 x3 x4)), .second] [(.int (1 : Int32))])) (fun t k => ?_) ?_
          · refine X82.arraylength hx (cell := cl93) (by rw [e82]; exact Ar93.1) (State.isArrayOf_alike hZ.alike Ar93.2.1) (g := (mkF m 156 #[.val (.int x0), .val (.long x1), .second, .val (.long x2), .second, .val (.long x3), .second, .val (.long x4), .second, .val (.int (1 : Int32)), .val (.int (0 : Int32)), .val (.ref b79), .val (.ref b80), .val (.ref b81), .val (.int (1 : Int32)), .val (.long (w0_91_b x0 x1 x2 x3 x4)), .second, .val (.long (w0_91 x0 x1 x2 x3 x4)), .second] [(.ref b79)])) rfl (rest := []) rfl (hb hby at_156) _ ?_
            rw [len_of S93 M93]
            exact k
          refine Goes.run X82 hx hown hci hcl hby (L := [(157, .iload 9, 2)]) (by decide +kernel) rfl (g' := (mkF m 159 #[.val (.int x0), .val (.long x1), .second, .val (.long x2), .second, .val (.long x3), .second, .val (.long x4), .second, .val (.int (1 : Int32)), .val (.int (0 : Int32)), .val (.ref b79), .val (.ref b80), .val (.ref b81), .val (.int (1 : Int32)), .val (.long (w0_91_b x0 x1 x2 x3 x4)), .second, .val (.long (w0_91 x0 x1 x2 x3 x4)), .second] [(.int (1 : Int32)), (.int (1 : Int32))])) rfl ?_
          have hc159_94 : (1 : Int32) = (1 : Int32) := rfl
          refine Goes.st (B := T82.setTop (mkF m 162 #[.val (.int x0), .val (.long x1), .second, .val (.long x2), .second, .val (.long x3), .second, .val (.long x4), .second, .val (.int (1 : Int32)), .val (.int (0 : Int32)), .val (.ref b79), .val (.ref b80), .val (.ref b81), .val (.int (1 : Int32)), .val (.long (w0_91_b x0 x1 x2 x3 x4)), .second, .val (.long (w0_91 x0 x1 x2 x3 x4)), .second] [])) (fun t k => ?_) ?_
          · refine XS.icmpNo X82.here hx rfl (hb hby at_159) rfl (teq hc159_94).2 ?_
            exact k
          refine Goes.run X82 hx hown hci hcl hby (L := [(162, .aload 12, 2)]) (by decide +kernel) rfl (g' := (mkF m 164 #[.val (.int x0), .val (.long x1), .second, .val (.long x2), .second, .val (.long x3), .second, .val (.long x4), .second, .val (.int (1 : Int32)), .val (.int (0 : Int32)), .val (.ref b79), .val (.ref b80), .val (.ref b81), .val (.int (1 : Int32)), .val (.long (w0_91_b x0 x1 x2 x3 x4)), .second, .val (.long (w0_91 x0 x1 x2 x3 x4)), .second] [(.ref b80)])) rfl ?_
          obtain ⟨cl95, Ar95, q95, S95, M95, Hs95, G95⟩ := id V_b80
          refine Goes.st (B := T82.setTop (mkF m 165 #[.val (.int x0), .val (.long x1), .second, .val (.long x2), .second, .val (.long x3), .second, .val (.long x4), .second, .val (.int (1 : Int32)), .val (.int (0 : Int32)), .val (.ref b79), .val (.ref b80), .val (.ref b81), .val (.int (1 : Int32)), .val (.long (w0_91_b x0 x1 x2 x3 x4)), .second, .val (.long (w0_91 x0 x1 x2 x3 x4)), .second] [(.int (0 : Int32))])) (fun t k => ?_) ?_
          · refine X82.arraylength hx (cell := cl95) (by rw [e82]; exact Ar95.1) (State.isArrayOf_alike hZ.alike Ar95.2.1) (g := (mkF m 164 #[.val (.int x0), .val (.long x1), .second, .val (.long x2), .second, .val (.long x3), .second, .val (.long x4), .second, .val (.int (1 : Int32)), .val (.int (0 : Int32)), .val (.ref b79), .val (.ref b80), .val (.ref b81), .val (.int (1 : Int32)), .val (.long (w0_91_b x0 x1 x2 x3 x4)), .second, .val (.long (w0_91 x0 x1 x2 x3 x4)), .second] [(.ref b80)])) rfl (rest := []) rfl (hb hby at_164) _ ?_
            rw [len_of S95 M95]
            exact k
          refine Goes.run X82 hx hown hci hcl hby (L := [(165, .iload 10, 2)]) (by decide +kernel) rfl (g' := (mkF m 167 #[.val (.int x0), .val (.long x1), .second, .val (.long x2), .second, .val (.long x3), .second, .val (.long x4), .second, .val (.int (1 : Int32)), .val (.int (0 : Int32)), .val (.ref b79), .val (.ref b80), .val (.ref b81), .val (.int (1 : Int32)), .val (.long (w0_91_b x0 x1 x2 x3 x4)), .second, .val (.long (w0_91 x0 x1 x2 x3 x4)), .second] [(.int (0 : Int32)), (.int (0 : Int32))])) rfl ?_
          have hc167_96 : (0 : Int32) = (0 : Int32) := rfl
          refine Goes.st (B := T82.setTop (mkF m 172 #[.val (.int x0), .val (.long x1), .second, .val (.long x2), .second, .val (.long x3), .second, .val (.long x4), .second, .val (.int (1 : Int32)), .val (.int (0 : Int32)), .val (.ref b79), .val (.ref b80), .val (.ref b81), .val (.int (1 : Int32)), .val (.long (w0_91_b x0 x1 x2 x3 x4)), .second, .val (.long (w0_91 x0 x1 x2 x3 x4)), .second] [])) (fun t k => ?_) ?_
          · refine XS.icmpYes X82.here hx rfl (pc0 := 167) (pc' := 172) rfl (hb hby at_167) rfl (teq hc167_96).1 (by decide) (by decide) ?_
            exact k
          refine Goes.run X82 hx hown hci hcl hby (L := [(172, .iload 9, 2)]) (by decide +kernel) rfl (g' := (mkF m 174 #[.val (.int x0), .val (.long x1), .second, .val (.long x2), .second, .val (.long x3), .second, .val (.long x4), .second, .val (.int (1 : Int32)), .val (.int (0 : Int32)), .val (.ref b79), .val (.ref b80), .val (.ref b81), .val (.int (1 : Int32)), .val (.long (w0_91_b x0 x1 x2 x3 x4)), .second, .val (.long (w0_91 x0 x1 x2 x3 x4)), .second] [(.int (1 : Int32))])) rfl ?_
          have hc174_97 : (0 : Int32) < (1 : Int32) := by decide
          refine Goes.st (B := T82.setTop (mkF m 177 #[.val (.int x0), .val (.long x1), .second, .val (.long x2), .second, .val (.long x3), .second, .val (.long x4), .second, .val (.int (1 : Int32)), .val (.int (0 : Int32)), .val (.ref b79), .val (.ref b80), .val (.ref b81), .val (.int (1 : Int32)), .val (.long (w0_91_b x0 x1 x2 x3 x4)), .second, .val (.long (w0_91 x0 x1 x2 x3 x4)), .second] [])) (fun t k => ?_) ?_
          · refine XS.ifNo X82.here hx rfl (hb hby at_174) rfl ((if0 _ _).trans (tlt hc174_97).2.2.2) ?_
            exact k
          refine Goes.run X82 hx hown hci hcl hby (L := [(177, .aload 11, 2), (179, .iconst 0, 1)]) (by decide +kernel) rfl (g' := (mkF m 180 #[.val (.int x0), .val (.long x1), .second, .val (.long x2), .second, .val (.long x3), .second, .val (.long x4), .second, .val (.int (1 : Int32)), .val (.int (0 : Int32)), .val (.ref b79), .val (.ref b80), .val (.ref b81), .val (.int (1 : Int32)), .val (.long (w0_91_b x0 x1 x2 x3 x4)), .second, .val (.long (w0_91 x0 x1 x2 x3 x4)), .second] [(.int (0 : Int32)), (.ref b79)])) rfl ?_
          obtain ⟨cl98, Ar98, q98, S98, M98, Hs98, G98⟩ := id V_b79
          have hin98 : ¬ ((0 : Int32) < 0 ∨ cl98.slots.size ≤ ((0 : Int32)).toNatClampNeg) := inb_of S98 ⟨(by decide), (by decide)⟩
          have hat98 : cl98.slots[((0 : Int32)).toNatClampNeg]? = some (.long x1) := Hs98.at hin98 rfl
          refine Goes.st (B := T82.setTop (mkF m 181 #[.val (.int x0), .val (.long x1), .second, .val (.long x2), .second, .val (.long x3), .second, .val (.long x4), .second, .val (.int (1 : Int32)), .val (.int (0 : Int32)), .val (.ref b79), .val (.ref b80), .val (.ref b81), .val (.int (1 : Int32)), .val (.long (w0_91_b x0 x1 x2 x3 x4)), .second, .val (.long (w0_91 x0 x1 x2 x3 x4)), .second] [(.long x1)])) (X82.laload hx (j := (0 : Int32)) (v := (.long x1)) (by rw [e82]; exact Ar98.1) (State.isArrayOf_alike hZ.alike Ar98.2.1) Ar98.2.2 hin98 hat98 (g := (mkF m 180 #[.val (.int x0), .val (.long x1), .second, .val (.long x2), .second, .val (.long x3), .second, .val (.long x4), .second, .val (.int (1 : Int32)), .val (.int (0 : Int32)), .val (.ref b79), .val (.ref b80), .val (.ref b81), .val (.int (1 : Int32)), .val (.long (w0_91_b x0 x1 x2 x3 x4)), .second, .val (.long (w0_91 x0 x1 x2 x3 x4)), .second] [(.int (0 : Int32)), (.ref b79)])) rfl rfl (hb hby at_180)) ?_
          refine Goes.run X82 hx hown hci hcl hby (L := [(181, .lload_n 1, 1), (182, .lcmp, 1)]) (by decide +kernel) rfl (g' := (mkF m 183 #[.val (.int x0), .val (.long x1), .second, .val (.long x2), .second, .val (.long x3), .second, .val (.long x4), .second, .val (.int (1 : Int32)), .val (.int (0 : Int32)), .val (.ref b79), .val (.ref b80), .val (.ref b81), .val (.int (1 : Int32)), .val (.long (w0_91_b x0 x1 x2 x3 x4)), .second, .val (.long (w0_91 x0 x1 x2 x3 x4)), .second] [(.int (lcmpW x1 x1))])) rfl ?_
          have hc183_99 : x1 = x1 := rfl
          refine Goes.st (B := T82.setTop (mkF m 188 #[.val (.int x0), .val (.long x1), .second, .val (.long x2), .second, .val (.long x3), .second, .val (.long x4), .second, .val (.int (1 : Int32)), .val (.int (0 : Int32)), .val (.ref b79), .val (.ref b80), .val (.ref b81), .val (.int (1 : Int32)), .val (.long (w0_91_b x0 x1 x2 x3 x4)), .second, .val (.long (w0_91 x0 x1 x2 x3 x4)), .second] [])) (fun t k => ?_) ?_
          · refine XS.ifYes X82.here hx rfl (pc0 := 183) (pc' := 188) rfl (hb hby at_183) rfl (teqL hc183_99).1 (by decide) (by decide) ?_
            exact k
          refine Goes.run X82 hx hown hci hcl hby (L := [(188, .iload 9, 2), (190, .iconst 1, 1)]) (by decide +kernel) rfl (g' := (mkF m 191 #[.val (.int x0), .val (.long x1), .second, .val (.long x2), .second, .val (.long x3), .second, .val (.long x4), .second, .val (.int (1 : Int32)), .val (.int (0 : Int32)), .val (.ref b79), .val (.ref b80), .val (.ref b81), .val (.int (1 : Int32)), .val (.long (w0_91_b x0 x1 x2 x3 x4)), .second, .val (.long (w0_91 x0 x1 x2 x3 x4)), .second] [(.int (1 : Int32)), (.int (1 : Int32))])) rfl ?_
          have hc191_100 : ¬ ((1 : Int32) < (1 : Int32)) := Int32.lt_irrefl
          refine Goes.st (B := T82.setTop (mkF m 205 #[.val (.int x0), .val (.long x1), .second, .val (.long x2), .second, .val (.long x3), .second, .val (.long x4), .second, .val (.int (1 : Int32)), .val (.int (0 : Int32)), .val (.ref b79), .val (.ref b80), .val (.ref b81), .val (.int (1 : Int32)), .val (.long (w0_91_b x0 x1 x2 x3 x4)), .second, .val (.long (w0_91 x0 x1 x2 x3 x4)), .second] [])) (fun t k => ?_) ?_
          · refine XS.icmpYes X82.here hx rfl (pc0 := 191) (pc' := 205) rfl (hb hby at_191) rfl (flt hc191_100).2.2.2 (by decide) (by decide) ?_
            exact k
          refine Goes.run X82 hx hown hci hcl hby (L := [(205, .iload 10, 2)]) (by decide +kernel) rfl (g' := (mkF m 207 #[.val (.int x0), .val (.long x1), .second, .val (.long x2), .second, .val (.long x3), .second, .val (.long x4), .second, .val (.int (1 : Int32)), .val (.int (0 : Int32)), .val (.ref b79), .val (.ref b80), .val (.ref b81), .val (.int (1 : Int32)), .val (.long (w0_91_b x0 x1 x2 x3 x4)), .second, .val (.long (w0_91 x0 x1 x2 x3 x4)), .second] [(.int (0 : Int32))])) rfl ?_
          have hc207_101 : ¬ ((0 : Int32) < (0 : Int32)) := Int32.lt_irrefl
          refine Goes.st (B := T82.setTop (mkF m 222 #[.val (.int x0), .val (.long x1), .second, .val (.long x2), .second, .val (.long x3), .second, .val (.long x4), .second, .val (.int (1 : Int32)), .val (.int (0 : Int32)), .val (.ref b79), .val (.ref b80), .val (.ref b81), .val (.int (1 : Int32)), .val (.long (w0_91_b x0 x1 x2 x3 x4)), .second, .val (.long (w0_91 x0 x1 x2 x3 x4)), .second] [])) (fun t k => ?_) ?_
          · refine XS.ifYes X82.here hx rfl (pc0 := 207) (pc' := 222) rfl (hb hby at_207) rfl ((if0 _ _).trans (flt hc207_101).2.2.2) (by decide) (by decide) ?_
            exact k
          refine Goes.run X82 hx hown hci hcl hby (L := [(222, .iload 10, 2), (224, .iconst 1, 1)]) (by decide +kernel) rfl (g' := (mkF m 225 #[.val (.int x0), .val (.long x1), .second, .val (.long x2), .second, .val (.long x3), .second, .val (.long x4), .second, .val (.int (1 : Int32)), .val (.int (0 : Int32)), .val (.ref b79), .val (.ref b80), .val (.ref b81), .val (.int (1 : Int32)), .val (.long (w0_91_b x0 x1 x2 x3 x4)), .second, .val (.long (w0_91 x0 x1 x2 x3 x4)), .second] [(.int (1 : Int32)), (.int (0 : Int32))])) rfl ?_
          have hc225_102 : ¬ ((1 : Int32) < (0 : Int32)) := by decide
          refine Goes.st (B := T82.setTop (mkF m 240 #[.val (.int x0), .val (.long x1), .second, .val (.long x2), .second, .val (.long x3), .second, .val (.long x4), .second, .val (.int (1 : Int32)), .val (.int (0 : Int32)), .val (.ref b79), .val (.ref b80), .val (.ref b81), .val (.int (1 : Int32)), .val (.long (w0_91_b x0 x1 x2 x3 x4)), .second, .val (.long (w0_91 x0 x1 x2 x3 x4)), .second] [])) (fun t k => ?_) ?_
          · refine XS.icmpYes X82.here hx rfl (pc0 := 225) (pc' := 240) rfl (hb hby at_225) rfl (flt hc225_102).2.2.2 (by decide) (by decide) ?_
            exact k
          refine Goes.run X82 hx hown hci hcl hby (L := [(240, .iconst 1, 1)]) (by decide +kernel) rfl (g' := (mkF m 241 #[.val (.int x0), .val (.long x1), .second, .val (.long x2), .second, .val (.long x3), .second, .val (.long x4), .second, .val (.int (1 : Int32)), .val (.int (0 : Int32)), .val (.ref b79), .val (.ref b80), .val (.ref b81), .val (.int (1 : Int32)), .val (.long (w0_91_b x0 x1 x2 x3 x4)), .second, .val (.long (w0_91 x0 x1 x2 x3 x4)), .second] [(.int (1 : Int32))])) rfl ?_
          exact Goes.retB X82 hx hlk (t := .boolean) Bd.returns (by simp) (hb hby at_241) rfl ⟨(congrArg (fun z => some (Value.int z)) (show (r0 x0 x1 x2 x3 x4) = (1 : Int32) from ((((if_neg hs21_1).trans (if_pos hs21_77)).trans (if_pos hs21_78)).trans (if_pos hc131_91))).symm), N82⟩ (by decide) (by decide)
        · skip
          refine Goes.st (B := T82.setTop (mkF m 134 #[.val (.int x0), .val (.long x1), .second, .val (.long x2), .second, .val (.long x3), .second, .val (.long x4), .second, .val (.int (1 : Int32)), .val (.int (0 : Int32)), .val (.ref b79), .val (.ref b80), .val (.ref b81), .val (.int (1 : Int32)), .val (.long (w0_91_b x0 x1 x2 x3 x4)), .second, .val (.long (w0_91 x0 x1 x2 x3 x4)), .second] [])) (fun t k => ?_) ?_
          · refine XS.ifNo X82.here hx rfl (hb hby at_131) rfl (feqL hc131_91).1 ?_
            exact k
          refine Goes.run X82 hx hown hci hcl hby (L := [(134, .iconst 0, 1)]) (by decide +kernel) rfl (g' := (mkF m 135 #[.val (.int x0), .val (.long x1), .second, .val (.long x2), .second, .val (.long x3), .second, .val (.long x4), .second, .val (.int (1 : Int32)), .val (.int (0 : Int32)), .val (.ref b79), .val (.ref b80), .val (.ref b81), .val (.int (1 : Int32)), .val (.long (w0_91_b x0 x1 x2 x3 x4)), .second, .val (.long (w0_91 x0 x1 x2 x3 x4)), .second] [(.int (0 : Int32))])) rfl ?_
          exact Goes.retB X82 hx hlk (t := .boolean) Bd.returns (by simp) (hb hby at_135) rfl ⟨(congrArg (fun z => some (Value.int z)) (show (r0 x0 x1 x2 x3 x4) = (0 : Int32) from ((((if_neg hs21_1).trans (if_pos hs21_77)).trans (if_pos hs21_78)).trans (if_neg hc131_91))).symm), N82⟩ (by decide) (by decide)
      · skip
        by_cases hs21_103 : (w0_19 x0 x1 x2 x3 x4) = (1 : Int32)
        · skip
          rw [hs21_103]
          refine Goes.run X0 hx hown hci hcl hby (L := [(21, .iload 9, 2), (23, .lload_n 1, 1), (24, .lload_n 3, 1)]) (by decide +kernel) rfl (g' := (mkF m 25 #[.val (.int x0), .val (.long x1), .second, .val (.long x2), .second, .val (.long x3), .second, .val (.long x4), .second, .val (.int (1 : Int32)), .val (.int (1 : Int32)), .unset, .unset, .unset, .unset, .unset, .unset, .unset, .unset] [(.long x2), (.long x1), (.int (1 : Int32))])) rfl ?_
          obtain ⟨_, _, ⟨T104, L104, k104, n104⟩, -, X104, ⟨Lc104, hQ104, l104, y104, z104⟩, st104⟩ := Jvm.LawKit.callS X0 hx (y := (⟨"com/example/marks_across_domains/marksacrossdomains/BitsUnionPinLaw", "make", "(IJJ)[J"⟩ : MethodName)) hown (mvT hZ (hw _ (List.mem_of_getElem? (i := 0) rfl))) (mvT hZ (hw _ (List.mem_of_getElem? (i := 1) rfl))) (mvT hZ (hw _ (List.mem_of_getElem? (i := 2) rfl))) (mvT hZ (hw _ (List.mem_of_getElem? (i := 3) rfl))) (by decide) (backOf (W := 0) (rm21 l Z a0 hw [] x1 x2 h0 n0 Z0 ) hZ (hw _ (List.mem_of_getElem? (i := 3) rfl)) (hw _ (List.mem_of_getElem? (i := 2) rfl)) (by decide) (by decide)) (g := (mkF m 25 #[.val (.int x0), .val (.long x1), .second, .val (.long x2), .second, .val (.long x3), .second, .val (.long x4), .second, .val (.int (1 : Int32)), .val (.int (1 : Int32)), .unset, .unset, .unset, .unset, .unset, .unset, .unset, .unset] [(.long x2), (.long x1), (.int (1 : Int32))])) rfl (by rw [hml]; rfl) (argsL := [(.int (1 : Int32)), (.long x1), (.long x2)]) (rest := []) (lenOf pd0_0 rfl) rfl (by show 2 * 0 + _ ≤ _; exact Nat.le_of_eq rfl) (hb hby at_25) (fun _ _ => ⟨rfl, e0, (by decide : 0 + 1 ≤ _), (by decide : 0 + 1 ≤ _)⟩)
          dsimp only [Pt.U, Pt.locs, Pt.cells, Pt.slots] at X104 l104 y104 z104 st104 hQ104
          subst l104 y104 z104
          obtain ⟨h104, eh104⟩ : ∃ z, z = T104.heap := ⟨_, rfl⟩
          rw [← eh104] at hQ104
          have e104 : T104.heap = h104 := eh104.symm
          obtain ⟨b104, kc104, rfl, N104q, Kq104, szq104, o104_0, o104_1⟩ := hQ104
          have g_b104 : n0 ≤ b104 := Nat.le_trans Z0 szq104
          have N104 := Fr.app N0 N104q
          have E_b104 : Exa Z h104 b104 "[J" := o104_0
          have V_b104 : Arv Z h104 b104 kc104 .long (1 : Int32) [(.long x1)] (.long (0 : Int64)) := o104_1
          have Zn104 : n0 ≤ h104.size := Nat.le_trans Z0 Kq104.1
          refine Goes.st (B := T104.setTop (mkF m 28 #[.val (.int x0), .val (.long x1), .second, .val (.long x2), .second, .val (.long x3), .second, .val (.long x4), .second, .val (.int (1 : Int32)), .val (.int (1 : Int32)), .unset, .unset, .unset, .unset, .unset, .unset, .unset, .unset] [(.ref b104)])) st104 ?_
          refine Goes.run X104 hx hown hci hcl hby (L := [(28, .astore 11, 2), (30, .iload 10, 2), (32, .lload 5, 2), (34, .lload 7, 2)]) (by decide +kernel) rfl (g' := (mkF m 36 #[.val (.int x0), .val (.long x1), .second, .val (.long x2), .second, .val (.long x3), .second, .val (.long x4), .second, .val (.int (1 : Int32)), .val (.int (1 : Int32)), .val (.ref b104), .unset, .unset, .unset, .unset, .unset, .unset, .unset] [(.long x4), (.long x3), (.int (1 : Int32))])) rfl ?_
          obtain ⟨_, _, ⟨T105, L105, k105, n105⟩, -, X105, ⟨Lc105, hQ105, l105, y105, z105⟩, st105⟩ := Jvm.LawKit.callS X104 hx (y := (⟨"com/example/marks_across_domains/marksacrossdomains/BitsUnionPinLaw", "make", "(IJJ)[J"⟩ : MethodName)) hown (mvT hZ (hw _ (List.mem_of_getElem? (i := 0) rfl))) (mvT hZ (hw _ (List.mem_of_getElem? (i := 1) rfl))) (mvT hZ (hw _ (List.mem_of_getElem? (i := 2) rfl))) (mvT hZ (hw _ (List.mem_of_getElem? (i := 3) rfl))) (by decide) (backOf (W := 0) (rm21 l Z a0 hw [] x3 x4 h104 n0 Zn104 ) hZ (hw _ (List.mem_of_getElem? (i := 3) rfl)) (hw _ (List.mem_of_getElem? (i := 2) rfl)) (by decide) (by decide)) (g := (mkF m 36 #[.val (.int x0), .val (.long x1), .second, .val (.long x2), .second, .val (.long x3), .second, .val (.long x4), .second, .val (.int (1 : Int32)), .val (.int (1 : Int32)), .val (.ref b104), .unset, .unset, .unset, .unset, .unset, .unset, .unset] [(.long x4), (.long x3), (.int (1 : Int32))])) rfl (by rw [hml]; rfl) (argsL := [(.int (1 : Int32)), (.long x3), (.long x4)]) (rest := []) (lenOf pd0_0 rfl) rfl (by show 2 * 0 + _ ≤ _; exact Nat.le_of_eq rfl) (hb hby at_36) (fun _ _ => ⟨rfl, e104, (by decide : 1 + 1 ≤ _), (by decide : 1 + 1 ≤ _)⟩)
          dsimp only [Pt.U, Pt.locs, Pt.cells, Pt.slots] at X105 l105 y105 z105 st105 hQ105
          subst l105 y105 z105
          obtain ⟨h105, eh105⟩ : ∃ z, z = T105.heap := ⟨_, rfl⟩
          rw [← eh105] at hQ105
          have e105 : T105.heap = h105 := eh105.symm
          obtain ⟨b105, kc105, rfl, N105q, Kq105, szq105, o105_0, o105_1⟩ := hQ105
          have ne_b104_b105 : b104 ≠ b105 := Nat.ne_of_lt (Nat.lt_of_lt_of_le E_b104.lt szq105)
          have g_b105 : n0 ≤ b105 := Nat.le_trans Zn104 szq105
          have N105 := Fr.app N104 N105q
          have E_b104 := E_b104.keep Kq105
          have V_b104 := V_b104.keep Kq105 nin0
          have E_b105 : Exa Z h105 b105 "[J" := o105_0
          have V_b105 : Arv Z h105 b105 kc105 .long (1 : Int32) [(.long x3)] (.long (0 : Int64)) := o105_1
          have Zn105 : n0 ≤ h105.size := Nat.le_trans Zn104 Kq105.1
          refine Goes.st (B := T105.setTop (mkF m 39 #[.val (.int x0), .val (.long x1), .second, .val (.long x2), .second, .val (.long x3), .second, .val (.long x4), .second, .val (.int (1 : Int32)), .val (.int (1 : Int32)), .val (.ref b104), .unset, .unset, .unset, .unset, .unset, .unset, .unset] [(.ref b105)])) st105 ?_
          refine Goes.run X105 hx hown hci hcl hby (L := [(39, .astore 12, 2), (41, .aload 11, 2), (43, .aload 12, 2)]) (by decide +kernel) rfl (g' := (mkF m 45 #[.val (.int x0), .val (.long x1), .second, .val (.long x2), .second, .val (.long x3), .second, .val (.long x4), .second, .val (.int (1 : Int32)), .val (.int (1 : Int32)), .val (.ref b104), .val (.ref b105), .unset, .unset, .unset, .unset, .unset, .unset] [(.ref b105), (.ref b104)])) rfl ?_
          obtain ⟨_, _, ⟨T106, L106, k106, n106⟩, -, X106, ⟨Lc106, hQ106, l106, y106, z106⟩, st106⟩ := Jvm.LawKit.callS X105 hx (y := (⟨"com/example/marks_across_domains/marksacrossdomains/Bits", "union", "([J[J)[J"⟩ : MethodName)) hown (mvT hZ (hw _ (List.mem_of_getElem? (i := 5) rfl))) (mvT hZ (hw _ (List.mem_of_getElem? (i := 6) rfl))) (mvT hZ (hw _ (List.mem_of_getElem? (i := 7) rfl))) (mvT hZ (hw _ (List.mem_of_getElem? (i := 8) rfl))) (by decide) (backOf (W := 0) (rm311 l Z a0 hw [] b104 b105 kc104 kc105 x1 x3 h105 n0 Zn105 E_b104 V_b104 E_b105 V_b105) hZ (hw _ (List.mem_of_getElem? (i := 8) rfl)) (hw _ (List.mem_of_getElem? (i := 7) rfl)) (by decide) (by decide)) (g := (mkF m 45 #[.val (.int x0), .val (.long x1), .second, .val (.long x2), .second, .val (.long x3), .second, .val (.long x4), .second, .val (.int (1 : Int32)), .val (.int (1 : Int32)), .val (.ref b104), .val (.ref b105), .unset, .unset, .unset, .unset, .unset, .unset] [(.ref b105), (.ref b104)])) rfl (by rw [hml]; rfl) (argsL := [(.ref b104), (.ref b105)]) (rest := []) (lenOf pd0_1 rfl) rfl (by show 2 * 0 + _ ≤ _; exact Nat.le_of_eq rfl) (hb hby at_45) (fun _ _ => ⟨rfl, e105, (by decide : 2 + 1 ≤ _), (by decide : 2 + 1 ≤ _)⟩)
          dsimp only [Pt.U, Pt.locs, Pt.cells, Pt.slots] at X106 l106 y106 z106 st106 hQ106
          subst l106 y106 z106
          obtain ⟨h106, eh106⟩ : ∃ z, z = T106.heap := ⟨_, rfl⟩
          rw [← eh106] at hQ106
          have e106 : T106.heap = h106 := eh106.symm
          obtain ⟨b106, kc106, rfl, N106q, Kq106, szq106, o106_0, o106_1⟩ := hQ106
          have ne_b104_b106 : b104 ≠ b106 := Nat.ne_of_lt (Nat.lt_of_lt_of_le E_b104.lt szq106)
          have ne_b105_b106 : b105 ≠ b106 := Nat.ne_of_lt (Nat.lt_of_lt_of_le E_b105.lt szq106)
          have g_b106 : n0 ≤ b106 := Nat.le_trans Zn105 szq106
          have N106 := Fr.app N105 N106q
          have E_b104 := E_b104.keep Kq106
          have V_b104 := V_b104.keep Kq106 nin0
          have E_b105 := E_b105.keep Kq106
          have V_b105 := V_b105.keep Kq106 nin0
          have E_b106 : Exa Z h106 b106 "[J" := o106_0
          have V_b106 : Arv Z h106 b106 kc106 .long (1 : Int32) [(.long (x1 ||| x3))] (.long (0 : Int64)) := o106_1
          have Zn106 : n0 ≤ h106.size := Nat.le_trans Zn105 Kq106.1
          refine Goes.st (B := T106.setTop (mkF m 48 #[.val (.int x0), .val (.long x1), .second, .val (.long x2), .second, .val (.long x3), .second, .val (.long x4), .second, .val (.int (1 : Int32)), .val (.int (1 : Int32)), .val (.ref b104), .val (.ref b105), .unset, .unset, .unset, .unset, .unset, .unset] [(.ref b106)])) st106 ?_
          refine Goes.run X106 hx hown hci hcl hby (L := [(48, .astore 13, 2), (50, .iload 9, 2), (52, .iload 10, 2)]) (by decide +kernel) rfl (g' := (mkF m 54 #[.val (.int x0), .val (.long x1), .second, .val (.long x2), .second, .val (.long x3), .second, .val (.long x4), .second, .val (.int (1 : Int32)), .val (.int (1 : Int32)), .val (.ref b104), .val (.ref b105), .val (.ref b106), .unset, .unset, .unset, .unset, .unset] [(.int (1 : Int32)), (.int (1 : Int32))])) rfl ?_
          obtain ⟨_, _, ⟨T107, L107, k107, n107⟩, -, X107, ⟨Lc107, hQ107, l107, y107, z107⟩, st107⟩ := Jvm.LawKit.callS X106 hx (y := (⟨"java/lang/Math", "max", "(II)I"⟩ : MethodName)) hown (mvT hZ (hw _ (List.mem_of_getElem? (i := 18) rfl))) (mvT hZ (hw _ (List.mem_of_getElem? (i := 19) rfl))) (mvT hZ (hw _ (List.mem_of_getElem? (i := 20) rfl))) (mvT hZ (hw _ (List.mem_of_getElem? (i := 21) rfl))) (by decide) (backOf (W := 0) (rm1 l Z a0 hw [] (1 : Int32) (1 : Int32) h106 n0 Zn106 ) hZ (hw _ (List.mem_of_getElem? (i := 21) rfl)) (hw _ (List.mem_of_getElem? (i := 20) rfl)) (by decide) (by decide)) (g := (mkF m 54 #[.val (.int x0), .val (.long x1), .second, .val (.long x2), .second, .val (.long x3), .second, .val (.long x4), .second, .val (.int (1 : Int32)), .val (.int (1 : Int32)), .val (.ref b104), .val (.ref b105), .val (.ref b106), .unset, .unset, .unset, .unset, .unset] [(.int (1 : Int32)), (.int (1 : Int32))])) rfl (by rw [hml]; rfl) (argsL := [(.int (1 : Int32)), (.int (1 : Int32))]) (rest := []) (lenOf pd0_2 rfl) rfl (by show 2 * 0 + _ ≤ _; exact Nat.le_of_eq rfl) (hb hby at_54) (fun _ _ => ⟨rfl, e106, (by decide : 3 + 0 ≤ _), (by decide : 3 + 0 ≤ _)⟩)
          dsimp only [Pt.U, Pt.locs, Pt.cells, Pt.slots] at X107 l107 y107 z107 st107 hQ107
          subst l107 y107 z107
          obtain ⟨rfl, N107q, e107⟩ := hQ107
          have N107 := Fr.app N106 N107q
          refine Goes.st (B := T107.setTop (mkF m 57 #[.val (.int x0), .val (.long x1), .second, .val (.long x2), .second, .val (.long x3), .second, .val (.long x4), .second, .val (.int (1 : Int32)), .val (.int (1 : Int32)), .val (.ref b104), .val (.ref b105), .val (.ref b106), .unset, .unset, .unset, .unset, .unset] [(.int (1 : Int32))])) st107 ?_
          refine Goes.run X107 hx hown hci hcl hby (L := [(57, .istore 14, 2), (59, .aload 13, 2)]) (by decide +kernel) rfl (g' := (mkF m 61 #[.val (.int x0), .val (.long x1), .second, .val (.long x2), .second, .val (.long x3), .second, .val (.long x4), .second, .val (.int (1 : Int32)), .val (.int (1 : Int32)), .val (.ref b104), .val (.ref b105), .val (.ref b106), .val (.int (1 : Int32)), .unset, .unset, .unset, .unset] [(.ref b106)])) rfl ?_
          obtain ⟨cl108, Ar108, q108, S108, M108, Hs108, G108⟩ := id V_b106
          refine Goes.st (B := T107.setTop (mkF m 62 #[.val (.int x0), .val (.long x1), .second, .val (.long x2), .second, .val (.long x3), .second, .val (.long x4), .second, .val (.int (1 : Int32)), .val (.int (1 : Int32)), .val (.ref b104), .val (.ref b105), .val (.ref b106), .val (.int (1 : Int32)), .unset, .unset, .unset, .unset] [(.int (1 : Int32))])) (fun t k => ?_) ?_
          · refine X107.arraylength hx (cell := cl108) (by rw [e107]; exact Ar108.1) (State.isArrayOf_alike hZ.alike Ar108.2.1) (g := (mkF m 61 #[.val (.int x0), .val (.long x1), .second, .val (.long x2), .second, .val (.long x3), .second, .val (.long x4), .second, .val (.int (1 : Int32)), .val (.int (1 : Int32)), .val (.ref b104), .val (.ref b105), .val (.ref b106), .val (.int (1 : Int32)), .unset, .unset, .unset, .unset] [(.ref b106)])) rfl (rest := []) rfl (hb hby at_61) _ ?_
            rw [len_of S108 M108]
            exact k
          refine Goes.run X107 hx hown hci hcl hby (L := [(62, .iload 14, 2)]) (by decide +kernel) rfl (g' := (mkF m 64 #[.val (.int x0), .val (.long x1), .second, .val (.long x2), .second, .val (.long x3), .second, .val (.long x4), .second, .val (.int (1 : Int32)), .val (.int (1 : Int32)), .val (.ref b104), .val (.ref b105), .val (.ref b106), .val (.int (1 : Int32)), .unset, .unset, .unset, .unset] [(.int (1 : Int32)), (.int (1 : Int32))])) rfl ?_
          have hc64_109 : (1 : Int32) = (1 : Int32) := rfl
          refine Goes.st (B := T107.setTop (mkF m 69 #[.val (.int x0), .val (.long x1), .second, .val (.long x2), .second, .val (.long x3), .second, .val (.long x4), .second, .val (.int (1 : Int32)), .val (.int (1 : Int32)), .val (.ref b104), .val (.ref b105), .val (.ref b106), .val (.int (1 : Int32)), .unset, .unset, .unset, .unset] [])) (fun t k => ?_) ?_
          · refine XS.icmpYes X107.here hx rfl (pc0 := 64) (pc' := 69) rfl (hb hby at_64) rfl (teq hc64_109).1 (by decide) (by decide) ?_
            exact k
          refine Goes.run X107 hx hown hci hcl hby (L := [(69, .iload 9, 2)]) (by decide +kernel) rfl (g' := (mkF m 71 #[.val (.int x0), .val (.long x1), .second, .val (.long x2), .second, .val (.long x3), .second, .val (.long x4), .second, .val (.int (1 : Int32)), .val (.int (1 : Int32)), .val (.ref b104), .val (.ref b105), .val (.ref b106), .val (.int (1 : Int32)), .unset, .unset, .unset, .unset] [(.int (1 : Int32))])) rfl ?_
          have hc71_110 : (0 : Int32) < (1 : Int32) := by decide
          refine Goes.st (B := T107.setTop (mkF m 74 #[.val (.int x0), .val (.long x1), .second, .val (.long x2), .second, .val (.long x3), .second, .val (.long x4), .second, .val (.int (1 : Int32)), .val (.int (1 : Int32)), .val (.ref b104), .val (.ref b105), .val (.ref b106), .val (.int (1 : Int32)), .unset, .unset, .unset, .unset] [])) (fun t k => ?_) ?_
          · refine XS.ifNo X107.here hx rfl (hb hby at_71) rfl ((if0 _ _).trans (tlt hc71_110).2.2.2) ?_
            exact k
          refine Goes.run X107 hx hown hci hcl hby (L := [(74, .lload_n 1, 1), (75, .goto 4, 3), (79, .iload 10, 2)]) (by decide +kernel) rfl (g' := (mkF m 81 #[.val (.int x0), .val (.long x1), .second, .val (.long x2), .second, .val (.long x3), .second, .val (.long x4), .second, .val (.int (1 : Int32)), .val (.int (1 : Int32)), .val (.ref b104), .val (.ref b105), .val (.ref b106), .val (.int (1 : Int32)), .unset, .unset, .unset, .unset] [(.int (1 : Int32)), (.long x1)])) rfl ?_
          have hc81_111 : (0 : Int32) < (1 : Int32) := by decide
          refine Goes.st (B := T107.setTop (mkF m 84 #[.val (.int x0), .val (.long x1), .second, .val (.long x2), .second, .val (.long x3), .second, .val (.long x4), .second, .val (.int (1 : Int32)), .val (.int (1 : Int32)), .val (.ref b104), .val (.ref b105), .val (.ref b106), .val (.int (1 : Int32)), .unset, .unset, .unset, .unset] [(.long x1)])) (fun t k => ?_) ?_
          · refine XS.ifNo X107.here hx rfl (hb hby at_81) rfl ((if0 _ _).trans (tlt hc81_111).2.2.2) ?_
            exact k
          refine Goes.run X107 hx hown hci hcl hby (L := [(84, .lload 5, 2), (86, .goto 4, 3), (90, .lor, 1), (91, .lstore 15, 2), (93, .iload 9, 2), (95, .iconst 1, 1)]) (by decide +kernel) rfl (g' := (mkF m 96 #[.val (.int x0), .val (.long x1), .second, .val (.long x2), .second, .val (.long x3), .second, .val (.long x4), .second, .val (.int (1 : Int32)), .val (.int (1 : Int32)), .val (.ref b104), .val (.ref b105), .val (.ref b106), .val (.int (1 : Int32)), .val (.long (w0_91_c x0 x1 x2 x3 x4)), .second, .unset, .unset] [(.int (1 : Int32)), (.int (1 : Int32))])) rfl ?_
          have hc96_112 : ¬ ((1 : Int32) < (1 : Int32)) := Int32.lt_irrefl
          refine Goes.st (B := T107.setTop (mkF m 103 #[.val (.int x0), .val (.long x1), .second, .val (.long x2), .second, .val (.long x3), .second, .val (.long x4), .second, .val (.int (1 : Int32)), .val (.int (1 : Int32)), .val (.ref b104), .val (.ref b105), .val (.ref b106), .val (.int (1 : Int32)), .val (.long (w0_91_c x0 x1 x2 x3 x4)), .second, .unset, .unset] [])) (fun t k => ?_) ?_
          · refine XS.icmpYes X107.here hx rfl (pc0 := 96) (pc' := 103) rfl (hb hby at_96) rfl (flt hc96_112).2.2.2 (by decide) (by decide) ?_
            exact k
          refine Goes.run X107 hx hown hci hcl hby (L := [(103, .lconst 0, 1), (104, .iload 10, 2), (106, .iconst 1, 1)]) (by decide +kernel) rfl (g' := (mkF m 107 #[.val (.int x0), .val (.long x1), .second, .val (.long x2), .second, .val (.long x3), .second, .val (.long x4), .second, .val (.int (1 : Int32)), .val (.int (1 : Int32)), .val (.ref b104), .val (.ref b105), .val (.ref b106), .val (.int (1 : Int32)), .val (.long (w0_91_c x0 x1 x2 x3 x4)), .second, .unset, .unset] [(.int (1 : Int32)), (.int (1 : Int32)), (.long (0 : Int64))])) rfl ?_
          have hc107_113 : ¬ ((1 : Int32) < (1 : Int32)) := Int32.lt_irrefl
          refine Goes.st (B := T107.setTop (mkF m 115 #[.val (.int x0), .val (.long x1), .second, .val (.long x2), .second, .val (.long x3), .second, .val (.long x4), .second, .val (.int (1 : Int32)), .val (.int (1 : Int32)), .val (.ref b104), .val (.ref b105), .val (.ref b106), .val (.int (1 : Int32)), .val (.long (w0_91_c x0 x1 x2 x3 x4)), .second, .unset, .unset] [(.long (0 : Int64))])) (fun t k => ?_) ?_
          · refine XS.icmpYes X107.here hx rfl (pc0 := 107) (pc' := 115) rfl (hb hby at_107) rfl (flt hc107_113).2.2.2 (by decide) (by decide) ?_
            exact k
          refine Goes.run X107 hx hown hci hcl hby (L := [(115, .lconst 0, 1), (116, .lor, 1), (117, .lstore 17, 2), (119, .iload 14, 2)]) (by decide +kernel) rfl (g' := (mkF m 121 #[.val (.int x0), .val (.long x1), .second, .val (.long x2), .second, .val (.long x3), .second, .val (.long x4), .second, .val (.int (1 : Int32)), .val (.int (1 : Int32)), .val (.ref b104), .val (.ref b105), .val (.ref b106), .val (.int (1 : Int32)), .val (.long (w0_91_c x0 x1 x2 x3 x4)), .second, .val (.long (w0_91 x0 x1 x2 x3 x4)), .second] [(.int (1 : Int32))])) rfl ?_
          have hc121_114 : (0 : Int32) < (1 : Int32) := by decide
          refine Goes.st (B := T107.setTop (mkF m 124 #[.val (.int x0), .val (.long x1), .second, .val (.long x2), .second, .val (.long x3), .second, .val (.long x4), .second, .val (.int (1 : Int32)), .val (.int (1 : Int32)), .val (.ref b104), .val (.ref b105), .val (.ref b106), .val (.int (1 : Int32)), .val (.long (w0_91_c x0 x1 x2 x3 x4)), .second, .val (.long (w0_91 x0 x1 x2 x3 x4)), .second] [])) (fun t k => ?_) ?_
          · refine XS.ifNo X107.here hx rfl (hb hby at_121) rfl ((if0 _ _).trans (tlt hc121_114).2.2.2) ?_
            exact k
          refine Goes.run X107 hx hown hci hcl hby (L := [(124, .aload 13, 2), (126, .iconst 0, 1)]) (by decide +kernel) rfl (g' := (mkF m 127 #[.val (.int x0), .val (.long x1), .second, .val (.long x2), .second, .val (.long x3), .second, .val (.long x4), .second, .val (.int (1 : Int32)), .val (.int (1 : Int32)), .val (.ref b104), .val (.ref b105), .val (.ref b106), .val (.int (1 : Int32)), .val (.long (w0_91_c x0 x1 x2 x3 x4)), .second, .val (.long (w0_91 x0 x1 x2 x3 x4)), .second] [(.int (0 : Int32)), (.ref b106)])) rfl ?_
          obtain ⟨cl115, Ar115, q115, S115, M115, Hs115, G115⟩ := id V_b106
          have hin115 : ¬ ((0 : Int32) < 0 ∨ cl115.slots.size ≤ ((0 : Int32)).toNatClampNeg) := inb_of S115 ⟨(by decide), (by decide)⟩
          have hat115 : cl115.slots[((0 : Int32)).toNatClampNeg]? = some (.long (x1 ||| x3)) := Hs115.at hin115 rfl
          refine Goes.st (B := T107.setTop (mkF m 128 #[.val (.int x0), .val (.long x1), .second, .val (.long x2), .second, .val (.long x3), .second, .val (.long x4), .second, .val (.int (1 : Int32)), .val (.int (1 : Int32)), .val (.ref b104), .val (.ref b105), .val (.ref b106), .val (.int (1 : Int32)), .val (.long (w0_91_c x0 x1 x2 x3 x4)), .second, .val (.long (w0_91 x0 x1 x2 x3 x4)), .second] [(.long (x1 ||| x3))])) (X107.laload hx (j := (0 : Int32)) (v := (.long (x1 ||| x3))) (by rw [e107]; exact Ar115.1) (State.isArrayOf_alike hZ.alike Ar115.2.1) Ar115.2.2 hin115 hat115 (g := (mkF m 127 #[.val (.int x0), .val (.long x1), .second, .val (.long x2), .second, .val (.long x3), .second, .val (.long x4), .second, .val (.int (1 : Int32)), .val (.int (1 : Int32)), .val (.ref b104), .val (.ref b105), .val (.ref b106), .val (.int (1 : Int32)), .val (.long (w0_91_c x0 x1 x2 x3 x4)), .second, .val (.long (w0_91 x0 x1 x2 x3 x4)), .second] [(.int (0 : Int32)), (.ref b106)])) rfl rfl (hb hby at_127)) ?_
          refine Goes.run X107 hx hown hci hcl hby (L := [(128, .lload 15, 2), (130, .lcmp, 1)]) (by decide +kernel) rfl (g' := (mkF m 131 #[.val (.int x0), .val (.long x1), .second, .val (.long x2), .second, .val (.long x3), .second, .val (.long x4), .second, .val (.int (1 : Int32)), .val (.int (1 : Int32)), .val (.ref b104), .val (.ref b105), .val (.ref b106), .val (.int (1 : Int32)), .val (.long (w0_91_c x0 x1 x2 x3 x4)), .second, .val (.long (w0_91 x0 x1 x2 x3 x4)), .second] [(.int (lcmpW (x1 ||| x3) (w0_91_c x0 x1 x2 x3 x4)))])) rfl ?_
          by_cases hc131_116 : (x1 ||| x3) = (w0_91_c x0 x1 x2 x3 x4)
          · skip
            refine Goes.st (B := T107.setTop (mkF m 136 #[.val (.int x0), .val (.long x1), .second, .val (.long x2), .second, .val (.long x3), .second, .val (.long x4), .second, .val (.int (1 : Int32)), .val (.int (1 : Int32)), .val (.ref b104), .val (.ref b105), .val (.ref b106), .val (.int (1 : Int32)), .val (.long (w0_91_c x0 x1 x2 x3 x4)), .second, .val (.long (w0_91 x0 x1 x2 x3 x4)), .second] [])) (fun t k => ?_) ?_
            · refine XS.ifYes X107.here hx rfl (pc0 := 131) (pc' := 136) rfl (hb hby at_131) rfl (teqL hc131_116).1 (by decide) (by decide) ?_
              exact k
            refine Goes.run X107 hx hown hci hcl hby (L := [(136, .iload 14, 2), (138, .iconst 1, 1)]) (by decide +kernel) rfl (g' := (mkF m 139 #[.val (.int x0), .val (.long x1), .second, .val (.long x2), .second, .val (.long x3), .second, .val (.long x4), .second, .val (.int (1 : Int32)), .val (.int (1 : Int32)), .val (.ref b104), .val (.ref b105), .val (.ref b106), .val (.int (1 : Int32)), .val (.long (w0_91_c x0 x1 x2 x3 x4)), .second, .val (.long (w0_91 x0 x1 x2 x3 x4)), .second] [(.int (1 : Int32)), (.int (1 : Int32))])) rfl ?_
            have hc139_117 : ¬ ((1 : Int32) < (1 : Int32)) := Int32.lt_irrefl
            refine Goes.st (B := T107.setTop (mkF m 154 #[.val (.int x0), .val (.long x1), .second, .val (.long x2), .second, .val (.long x3), .second, .val (.long x4), .second, .val (.int (1 : Int32)), .val (.int (1 : Int32)), .val (.ref b104), .val (.ref b105), .val (.ref b106), .val (.int (1 : Int32)), .val (.long (w0_91_c x0 x1 x2 x3 x4)), .second, .val (.long (w0_91 x0 x1 x2 x3 x4)), .second] [])) (fun t k => ?_) ?_
            · refine XS.icmpYes X107.here hx rfl (pc0 := 139) (pc' := 154) rfl (hb hby at_139) rfl (flt hc139_117).2.2.2 (by decide) (by decide) ?_
              exact k
            refine Goes.run X107 hx hown hci hcl hby (L := [(154, .aload 11, 2)]) (by decide +kernel) rfl (g' := (mkF m 156 #[.val (.int x0), .val (.long x1), .second, .val (.long x2), .second, .val (.long x3), .second, .val (.long x4), .second, .val (.int (1 : Int32)), .val (.int (1 : Int32)), .val (.ref b104), .val (.ref b105), .val (.ref b106), .val (.int (1 : Int32)), .val (.long (w0_91_c x0 x1 x2 x3 x4)), .second, .val (.long (w0_91 x0 x1 x2 x3 x4)), .second] [(.ref b104)])) rfl ?_
            obtain ⟨cl118, Ar118, q118, S118, M118, Hs118, G118⟩ := id V_b104
            refine Goes.st (B := T107.setTop (mkF m 157 #[.val (.int x0), .val (.long x1), .second, .val (.long x2), .second, .val (.long x3), .second, .val (.long x4), .second, .val (.int (1 : Int32)), .val (.int (1 : Int32)), .val (.ref b104), .val (.ref b105), .val (.ref b106), .val (.int (1 : Int32)), .val (.long (w0_91_c x0 x1 x2 x3 x4)), .second, .val (.long (w0_91 x0 x1 x2 x3 x4)), .second] [(.int (1 : Int32))])) (fun t k => ?_) ?_
            · refine X107.arraylength hx (cell := cl118) (by rw [e107]; exact Ar118.1) (State.isArrayOf_alike hZ.alike Ar118.2.1) (g := (mkF m 156 #[.val (.int x0), .val (.long x1), .second, .val (.long x2), .second, .val (.long x3), .second, .val (.long x4), .second, .val (.int (1 : Int32)), .val (.int (1 : Int32)), .val (.ref b104), .val (.ref b105), .val (.ref b106), .val (.int (1 : Int32)), .val (.long (w0_91_c x0 x1 x2 x3 x4)), .second, .val (.long (w0_91 x0 x1 x2 x3 x4)), .second] [(.ref b104)])) rfl (rest := []) rfl (hb hby at_156) _ ?_
              rw [len_of S118 M118]
              exact k
            refine Goes.run X107 hx hown hci hcl hby (L := [(157, .iload 9, 2)]) (by decide +kernel) rfl (g' := (mkF m 159 #[.val (.int x0), .val (.long x1), .second, .val (.long x2), .second, .val (.long x3), .second, .val (.long x4), .second, .val (.int (1 : Int32)), .val (.int (1 : Int32)), .val (.ref b104), .val (.ref b105), .val (.ref b106), .val (.int (1 : Int32)), .val (.long (w0_91_c x0 x1 x2 x3 x4)), .second, .val (.long (w0_91 x0 x1 x2 x3 x4)), .second] [(.int (1 : Int32)), (.int (1 : Int32))])) rfl ?_
            have hc159_119 : (1 : Int32) = (1 : Int32) := rfl
            refine Goes.st (B := T107.setTop (mkF m 162 #[.val (.int x0), .val (.long x1), .second, .val (.long x2), .second, .val (.long x3), .second, .val (.long x4), .second, .val (.int (1 : Int32)), .val (.int (1 : Int32)), .val (.ref b104), .val (.ref b105), .val (.ref b106), .val (.int (1 : Int32)), .val (.long (w0_91_c x0 x1 x2 x3 x4)), .second, .val (.long (w0_91 x0 x1 x2 x3 x4)), .second] [])) (fun t k => ?_) ?_
            · refine XS.icmpNo X107.here hx rfl (hb hby at_159) rfl (teq hc159_119).2 ?_
              exact k
            refine Goes.run X107 hx hown hci hcl hby (L := [(162, .aload 12, 2)]) (by decide +kernel) rfl (g' := (mkF m 164 #[.val (.int x0), .val (.long x1), .second, .val (.long x2), .second, .val (.long x3), .second, .val (.long x4), .second, .val (.int (1 : Int32)), .val (.int (1 : Int32)), .val (.ref b104), .val (.ref b105), .val (.ref b106), .val (.int (1 : Int32)), .val (.long (w0_91_c x0 x1 x2 x3 x4)), .second, .val (.long (w0_91 x0 x1 x2 x3 x4)), .second] [(.ref b105)])) rfl ?_
            obtain ⟨cl120, Ar120, q120, S120, M120, Hs120, G120⟩ := id V_b105
            refine Goes.st (B := T107.setTop (mkF m 165 #[.val (.int x0), .val (.long x1), .second, .val (.long x2), .second, .val (.long x3), .second, .val (.long x4), .second, .val (.int (1 : Int32)), .val (.int (1 : Int32)), .val (.ref b104), .val (.ref b105), .val (.ref b106), .val (.int (1 : Int32)), .val (.long (w0_91_c x0 x1 x2 x3 x4)), .second, .val (.long (w0_91 x0 x1 x2 x3 x4)), .second] [(.int (1 : Int32))])) (fun t k => ?_) ?_
            · refine X107.arraylength hx (cell := cl120) (by rw [e107]; exact Ar120.1) (State.isArrayOf_alike hZ.alike Ar120.2.1) (g := (mkF m 164 #[.val (.int x0), .val (.long x1), .second, .val (.long x2), .second, .val (.long x3), .second, .val (.long x4), .second, .val (.int (1 : Int32)), .val (.int (1 : Int32)), .val (.ref b104), .val (.ref b105), .val (.ref b106), .val (.int (1 : Int32)), .val (.long (w0_91_c x0 x1 x2 x3 x4)), .second, .val (.long (w0_91 x0 x1 x2 x3 x4)), .second] [(.ref b105)])) rfl (rest := []) rfl (hb hby at_164) _ ?_
              rw [len_of S120 M120]
              exact k
            refine Goes.run X107 hx hown hci hcl hby (L := [(165, .iload 10, 2)]) (by decide +kernel) rfl (g' := (mkF m 167 #[.val (.int x0), .val (.long x1), .second, .val (.long x2), .second, .val (.long x3), .second, .val (.long x4), .second, .val (.int (1 : Int32)), .val (.int (1 : Int32)), .val (.ref b104), .val (.ref b105), .val (.ref b106), .val (.int (1 : Int32)), .val (.long (w0_91_c x0 x1 x2 x3 x4)), .second, .val (.long (w0_91 x0 x1 x2 x3 x4)), .second] [(.int (1 : Int32)), (.int (1 : Int32))])) rfl ?_
            have hc167_121 : (1 : Int32) = (1 : Int32) := rfl
            refine Goes.st (B := T107.setTop (mkF m 172 #[.val (.int x0), .val (.long x1), .second, .val (.long x2), .second, .val (.long x3), .second, .val (.long x4), .second, .val (.int (1 : Int32)), .val (.int (1 : Int32)), .val (.ref b104), .val (.ref b105), .val (.ref b106), .val (.int (1 : Int32)), .val (.long (w0_91_c x0 x1 x2 x3 x4)), .second, .val (.long (w0_91 x0 x1 x2 x3 x4)), .second] [])) (fun t k => ?_) ?_
            · refine XS.icmpYes X107.here hx rfl (pc0 := 167) (pc' := 172) rfl (hb hby at_167) rfl (teq hc167_121).1 (by decide) (by decide) ?_
              exact k
            refine Goes.run X107 hx hown hci hcl hby (L := [(172, .iload 9, 2)]) (by decide +kernel) rfl (g' := (mkF m 174 #[.val (.int x0), .val (.long x1), .second, .val (.long x2), .second, .val (.long x3), .second, .val (.long x4), .second, .val (.int (1 : Int32)), .val (.int (1 : Int32)), .val (.ref b104), .val (.ref b105), .val (.ref b106), .val (.int (1 : Int32)), .val (.long (w0_91_c x0 x1 x2 x3 x4)), .second, .val (.long (w0_91 x0 x1 x2 x3 x4)), .second] [(.int (1 : Int32))])) rfl ?_
            have hc174_122 : (0 : Int32) < (1 : Int32) := by decide
            refine Goes.st (B := T107.setTop (mkF m 177 #[.val (.int x0), .val (.long x1), .second, .val (.long x2), .second, .val (.long x3), .second, .val (.long x4), .second, .val (.int (1 : Int32)), .val (.int (1 : Int32)), .val (.ref b104), .val (.ref b105), .val (.ref b106), .val (.int (1 : Int32)), .val (.long (w0_91_c x0 x1 x2 x3 x4)), .second, .val (.long (w0_91 x0 x1 x2 x3 x4)), .second] [])) (fun t k => ?_) ?_
            · refine XS.ifNo X107.here hx rfl (hb hby at_174) rfl ((if0 _ _).trans (tlt hc174_122).2.2.2) ?_
              exact k
            refine Goes.run X107 hx hown hci hcl hby (L := [(177, .aload 11, 2), (179, .iconst 0, 1)]) (by decide +kernel) rfl (g' := (mkF m 180 #[.val (.int x0), .val (.long x1), .second, .val (.long x2), .second, .val (.long x3), .second, .val (.long x4), .second, .val (.int (1 : Int32)), .val (.int (1 : Int32)), .val (.ref b104), .val (.ref b105), .val (.ref b106), .val (.int (1 : Int32)), .val (.long (w0_91_c x0 x1 x2 x3 x4)), .second, .val (.long (w0_91 x0 x1 x2 x3 x4)), .second] [(.int (0 : Int32)), (.ref b104)])) rfl ?_
            obtain ⟨cl123, Ar123, q123, S123, M123, Hs123, G123⟩ := id V_b104
            have hin123 : ¬ ((0 : Int32) < 0 ∨ cl123.slots.size ≤ ((0 : Int32)).toNatClampNeg) := inb_of S123 ⟨(by decide), (by decide)⟩
            have hat123 : cl123.slots[((0 : Int32)).toNatClampNeg]? = some (.long x1) := Hs123.at hin123 rfl
            refine Goes.st (B := T107.setTop (mkF m 181 #[.val (.int x0), .val (.long x1), .second, .val (.long x2), .second, .val (.long x3), .second, .val (.long x4), .second, .val (.int (1 : Int32)), .val (.int (1 : Int32)), .val (.ref b104), .val (.ref b105), .val (.ref b106), .val (.int (1 : Int32)), .val (.long (w0_91_c x0 x1 x2 x3 x4)), .second, .val (.long (w0_91 x0 x1 x2 x3 x4)), .second] [(.long x1)])) (X107.laload hx (j := (0 : Int32)) (v := (.long x1)) (by rw [e107]; exact Ar123.1) (State.isArrayOf_alike hZ.alike Ar123.2.1) Ar123.2.2 hin123 hat123 (g := (mkF m 180 #[.val (.int x0), .val (.long x1), .second, .val (.long x2), .second, .val (.long x3), .second, .val (.long x4), .second, .val (.int (1 : Int32)), .val (.int (1 : Int32)), .val (.ref b104), .val (.ref b105), .val (.ref b106), .val (.int (1 : Int32)), .val (.long (w0_91_c x0 x1 x2 x3 x4)), .second, .val (.long (w0_91 x0 x1 x2 x3 x4)), .second] [(.int (0 : Int32)), (.ref b104)])) rfl rfl (hb hby at_180)) ?_
            refine Goes.run X107 hx hown hci hcl hby (L := [(181, .lload_n 1, 1), (182, .lcmp, 1)]) (by decide +kernel) rfl (g' := (mkF m 183 #[.val (.int x0), .val (.long x1), .second, .val (.long x2), .second, .val (.long x3), .second, .val (.long x4), .second, .val (.int (1 : Int32)), .val (.int (1 : Int32)), .val (.ref b104), .val (.ref b105), .val (.ref b106), .val (.int (1 : Int32)), .val (.long (w0_91_c x0 x1 x2 x3 x4)), .second, .val (.long (w0_91 x0 x1 x2 x3 x4)), .second] [(.int (lcmpW x1 x1))])) rfl ?_
            have hc183_124 : x1 = x1 := rfl
            refine Goes.st (B := T107.setTop (mkF m 188 #[.val (.int x0), .val (.long x1), .second, .val (.long x2), .second, .val (.long x3), .second, .val (.long x4), .second, .val (.int (1 : Int32)), .val (.int (1 : Int32)), .val (.ref b104), .val (.ref b105), .val (.ref b106), .val (.int (1 : Int32)), .val (.long (w0_91_c x0 x1 x2 x3 x4)), .second, .val (.long (w0_91 x0 x1 x2 x3 x4)), .second] [])) (fun t k => ?_) ?_
            · refine XS.ifYes X107.here hx rfl (pc0 := 183) (pc' := 188) rfl (hb hby at_183) rfl (teqL hc183_124).1 (by decide) (by decide) ?_
              exact k
            refine Goes.run X107 hx hown hci hcl hby (L := [(188, .iload 9, 2), (190, .iconst 1, 1)]) (by decide +kernel) rfl (g' := (mkF m 191 #[.val (.int x0), .val (.long x1), .second, .val (.long x2), .second, .val (.long x3), .second, .val (.long x4), .second, .val (.int (1 : Int32)), .val (.int (1 : Int32)), .val (.ref b104), .val (.ref b105), .val (.ref b106), .val (.int (1 : Int32)), .val (.long (w0_91_c x0 x1 x2 x3 x4)), .second, .val (.long (w0_91 x0 x1 x2 x3 x4)), .second] [(.int (1 : Int32)), (.int (1 : Int32))])) rfl ?_
            have hc191_125 : ¬ ((1 : Int32) < (1 : Int32)) := Int32.lt_irrefl
            refine Goes.st (B := T107.setTop (mkF m 205 #[.val (.int x0), .val (.long x1), .second, .val (.long x2), .second, .val (.long x3), .second, .val (.long x4), .second, .val (.int (1 : Int32)), .val (.int (1 : Int32)), .val (.ref b104), .val (.ref b105), .val (.ref b106), .val (.int (1 : Int32)), .val (.long (w0_91_c x0 x1 x2 x3 x4)), .second, .val (.long (w0_91 x0 x1 x2 x3 x4)), .second] [])) (fun t k => ?_) ?_
            · refine XS.icmpYes X107.here hx rfl (pc0 := 191) (pc' := 205) rfl (hb hby at_191) rfl (flt hc191_125).2.2.2 (by decide) (by decide) ?_
              exact k
            refine Goes.run X107 hx hown hci hcl hby (L := [(205, .iload 10, 2)]) (by decide +kernel) rfl (g' := (mkF m 207 #[.val (.int x0), .val (.long x1), .second, .val (.long x2), .second, .val (.long x3), .second, .val (.long x4), .second, .val (.int (1 : Int32)), .val (.int (1 : Int32)), .val (.ref b104), .val (.ref b105), .val (.ref b106), .val (.int (1 : Int32)), .val (.long (w0_91_c x0 x1 x2 x3 x4)), .second, .val (.long (w0_91 x0 x1 x2 x3 x4)), .second] [(.int (1 : Int32))])) rfl ?_
            have hc207_126 : (0 : Int32) < (1 : Int32) := by decide
            refine Goes.st (B := T107.setTop (mkF m 210 #[.val (.int x0), .val (.long x1), .second, .val (.long x2), .second, .val (.long x3), .second, .val (.long x4), .second, .val (.int (1 : Int32)), .val (.int (1 : Int32)), .val (.ref b104), .val (.ref b105), .val (.ref b106), .val (.int (1 : Int32)), .val (.long (w0_91_c x0 x1 x2 x3 x4)), .second, .val (.long (w0_91 x0 x1 x2 x3 x4)), .second] [])) (fun t k => ?_) ?_
            · refine XS.ifNo X107.here hx rfl (hb hby at_207) rfl ((if0 _ _).trans (tlt hc207_126).2.2.2) ?_
              exact k
            refine Goes.run X107 hx hown hci hcl hby (L := [(210, .aload 12, 2), (212, .iconst 0, 1)]) (by decide +kernel) rfl (g' := (mkF m 213 #[.val (.int x0), .val (.long x1), .second, .val (.long x2), .second, .val (.long x3), .second, .val (.long x4), .second, .val (.int (1 : Int32)), .val (.int (1 : Int32)), .val (.ref b104), .val (.ref b105), .val (.ref b106), .val (.int (1 : Int32)), .val (.long (w0_91_c x0 x1 x2 x3 x4)), .second, .val (.long (w0_91 x0 x1 x2 x3 x4)), .second] [(.int (0 : Int32)), (.ref b105)])) rfl ?_
            obtain ⟨cl127, Ar127, q127, S127, M127, Hs127, G127⟩ := id V_b105
            have hin127 : ¬ ((0 : Int32) < 0 ∨ cl127.slots.size ≤ ((0 : Int32)).toNatClampNeg) := inb_of S127 ⟨(by decide), (by decide)⟩
            have hat127 : cl127.slots[((0 : Int32)).toNatClampNeg]? = some (.long x3) := Hs127.at hin127 rfl
            refine Goes.st (B := T107.setTop (mkF m 214 #[.val (.int x0), .val (.long x1), .second, .val (.long x2), .second, .val (.long x3), .second, .val (.long x4), .second, .val (.int (1 : Int32)), .val (.int (1 : Int32)), .val (.ref b104), .val (.ref b105), .val (.ref b106), .val (.int (1 : Int32)), .val (.long (w0_91_c x0 x1 x2 x3 x4)), .second, .val (.long (w0_91 x0 x1 x2 x3 x4)), .second] [(.long x3)])) (X107.laload hx (j := (0 : Int32)) (v := (.long x3)) (by rw [e107]; exact Ar127.1) (State.isArrayOf_alike hZ.alike Ar127.2.1) Ar127.2.2 hin127 hat127 (g := (mkF m 213 #[.val (.int x0), .val (.long x1), .second, .val (.long x2), .second, .val (.long x3), .second, .val (.long x4), .second, .val (.int (1 : Int32)), .val (.int (1 : Int32)), .val (.ref b104), .val (.ref b105), .val (.ref b106), .val (.int (1 : Int32)), .val (.long (w0_91_c x0 x1 x2 x3 x4)), .second, .val (.long (w0_91 x0 x1 x2 x3 x4)), .second] [(.int (0 : Int32)), (.ref b105)])) rfl rfl (hb hby at_213)) ?_
            refine Goes.run X107 hx hown hci hcl hby (L := [(214, .lload 5, 2), (216, .lcmp, 1)]) (by decide +kernel) rfl (g' := (mkF m 217 #[.val (.int x0), .val (.long x1), .second, .val (.long x2), .second, .val (.long x3), .second, .val (.long x4), .second, .val (.int (1 : Int32)), .val (.int (1 : Int32)), .val (.ref b104), .val (.ref b105), .val (.ref b106), .val (.int (1 : Int32)), .val (.long (w0_91_c x0 x1 x2 x3 x4)), .second, .val (.long (w0_91 x0 x1 x2 x3 x4)), .second] [(.int (lcmpW x3 x3))])) rfl ?_
            have hc217_128 : x3 = x3 := rfl
            refine Goes.st (B := T107.setTop (mkF m 222 #[.val (.int x0), .val (.long x1), .second, .val (.long x2), .second, .val (.long x3), .second, .val (.long x4), .second, .val (.int (1 : Int32)), .val (.int (1 : Int32)), .val (.ref b104), .val (.ref b105), .val (.ref b106), .val (.int (1 : Int32)), .val (.long (w0_91_c x0 x1 x2 x3 x4)), .second, .val (.long (w0_91 x0 x1 x2 x3 x4)), .second] [])) (fun t k => ?_) ?_
            · refine XS.ifYes X107.here hx rfl (pc0 := 217) (pc' := 222) rfl (hb hby at_217) rfl (teqL hc217_128).1 (by decide) (by decide) ?_
              exact k
            refine Goes.run X107 hx hown hci hcl hby (L := [(222, .iload 10, 2), (224, .iconst 1, 1)]) (by decide +kernel) rfl (g' := (mkF m 225 #[.val (.int x0), .val (.long x1), .second, .val (.long x2), .second, .val (.long x3), .second, .val (.long x4), .second, .val (.int (1 : Int32)), .val (.int (1 : Int32)), .val (.ref b104), .val (.ref b105), .val (.ref b106), .val (.int (1 : Int32)), .val (.long (w0_91_c x0 x1 x2 x3 x4)), .second, .val (.long (w0_91 x0 x1 x2 x3 x4)), .second] [(.int (1 : Int32)), (.int (1 : Int32))])) rfl ?_
            have hc225_129 : ¬ ((1 : Int32) < (1 : Int32)) := Int32.lt_irrefl
            refine Goes.st (B := T107.setTop (mkF m 240 #[.val (.int x0), .val (.long x1), .second, .val (.long x2), .second, .val (.long x3), .second, .val (.long x4), .second, .val (.int (1 : Int32)), .val (.int (1 : Int32)), .val (.ref b104), .val (.ref b105), .val (.ref b106), .val (.int (1 : Int32)), .val (.long (w0_91_c x0 x1 x2 x3 x4)), .second, .val (.long (w0_91 x0 x1 x2 x3 x4)), .second] [])) (fun t k => ?_) ?_
            · refine XS.icmpYes X107.here hx rfl (pc0 := 225) (pc' := 240) rfl (hb hby at_225) rfl (flt hc225_129).2.2.2 (by decide) (by decide) ?_
              exact k
            refine Goes.run X107 hx hown hci hcl hby (L := [(240, .iconst 1, 1)]) (by decide +kernel) rfl (g' := (mkF m 241 #[.val (.int x0), .val (.long x1), .second, .val (.long x2), .second, .val (.long x3), .second, .val (.long x4), .second, .val (.int (1 : Int32)), .val (.int (1 : Int32)), .val (.ref b104), .val (.ref b105), .val (.ref b106), .val (.int (1 : Int32)), .val (.long (w0_91_c x0 x1 x2 x3 x4)), .second, .val (.long (w0_91 x0 x1 x2 x3 x4)), .second] [(.int (1 : Int32))])) rfl ?_
            exact Goes.retB X107 hx hlk (t := .boolean) Bd.returns (by simp) (hb hby at_241) rfl ⟨(congrArg (fun z => some (Value.int z)) (show (r0 x0 x1 x2 x3 x4) = (1 : Int32) from (((((if_neg hs21_1).trans (if_pos hs21_77)).trans (if_neg hs21_78)).trans (if_pos hs21_103)).trans (if_pos hc131_116))).symm), N107⟩ (by decide) (by decide)
          · skip
            refine Goes.st (B := T107.setTop (mkF m 134 #[.val (.int x0), .val (.long x1), .second, .val (.long x2), .second, .val (.long x3), .second, .val (.long x4), .second, .val (.int (1 : Int32)), .val (.int (1 : Int32)), .val (.ref b104), .val (.ref b105), .val (.ref b106), .val (.int (1 : Int32)), .val (.long (w0_91_c x0 x1 x2 x3 x4)), .second, .val (.long (w0_91 x0 x1 x2 x3 x4)), .second] [])) (fun t k => ?_) ?_
            · refine XS.ifNo X107.here hx rfl (hb hby at_131) rfl (feqL hc131_116).1 ?_
              exact k
            refine Goes.run X107 hx hown hci hcl hby (L := [(134, .iconst 0, 1)]) (by decide +kernel) rfl (g' := (mkF m 135 #[.val (.int x0), .val (.long x1), .second, .val (.long x2), .second, .val (.long x3), .second, .val (.long x4), .second, .val (.int (1 : Int32)), .val (.int (1 : Int32)), .val (.ref b104), .val (.ref b105), .val (.ref b106), .val (.int (1 : Int32)), .val (.long (w0_91_c x0 x1 x2 x3 x4)), .second, .val (.long (w0_91 x0 x1 x2 x3 x4)), .second] [(.int (0 : Int32))])) rfl ?_
            exact Goes.retB X107 hx hlk (t := .boolean) Bd.returns (by simp) (hb hby at_135) rfl ⟨(congrArg (fun z => some (Value.int z)) (show (r0 x0 x1 x2 x3 x4) = (0 : Int32) from (((((if_neg hs21_1).trans (if_pos hs21_77)).trans (if_neg hs21_78)).trans (if_pos hs21_103)).trans (if_neg hc131_116))).symm), N107⟩ (by decide) (by decide)
        · skip
          have hs21_130 : (w0_19 x0 x1 x2 x3 x4) = (2 : Int32) := own_l10 x0 x1 x2 x3 x4 hs21_78 hs21_103
          rw [hs21_130]
          refine Goes.run X0 hx hown hci hcl hby (L := [(21, .iload 9, 2), (23, .lload_n 1, 1), (24, .lload_n 3, 1)]) (by decide +kernel) rfl (g' := (mkF m 25 #[.val (.int x0), .val (.long x1), .second, .val (.long x2), .second, .val (.long x3), .second, .val (.long x4), .second, .val (.int (1 : Int32)), .val (.int (2 : Int32)), .unset, .unset, .unset, .unset, .unset, .unset, .unset, .unset] [(.long x2), (.long x1), (.int (1 : Int32))])) rfl ?_
          obtain ⟨_, _, ⟨T131, L131, k131, n131⟩, -, X131, ⟨Lc131, hQ131, l131, y131, z131⟩, st131⟩ := Jvm.LawKit.callS X0 hx (y := (⟨"com/example/marks_across_domains/marksacrossdomains/BitsUnionPinLaw", "make", "(IJJ)[J"⟩ : MethodName)) hown (mvT hZ (hw _ (List.mem_of_getElem? (i := 0) rfl))) (mvT hZ (hw _ (List.mem_of_getElem? (i := 1) rfl))) (mvT hZ (hw _ (List.mem_of_getElem? (i := 2) rfl))) (mvT hZ (hw _ (List.mem_of_getElem? (i := 3) rfl))) (by decide) (backOf (W := 0) (rm21 l Z a0 hw [] x1 x2 h0 n0 Z0 ) hZ (hw _ (List.mem_of_getElem? (i := 3) rfl)) (hw _ (List.mem_of_getElem? (i := 2) rfl)) (by decide) (by decide)) (g := (mkF m 25 #[.val (.int x0), .val (.long x1), .second, .val (.long x2), .second, .val (.long x3), .second, .val (.long x4), .second, .val (.int (1 : Int32)), .val (.int (2 : Int32)), .unset, .unset, .unset, .unset, .unset, .unset, .unset, .unset] [(.long x2), (.long x1), (.int (1 : Int32))])) rfl (by rw [hml]; rfl) (argsL := [(.int (1 : Int32)), (.long x1), (.long x2)]) (rest := []) (lenOf pd0_0 rfl) rfl (by show 2 * 0 + _ ≤ _; exact Nat.le_of_eq rfl) (hb hby at_25) (fun _ _ => ⟨rfl, e0, (by decide : 0 + 1 ≤ _), (by decide : 0 + 1 ≤ _)⟩)
          dsimp only [Pt.U, Pt.locs, Pt.cells, Pt.slots] at X131 l131 y131 z131 st131 hQ131
          subst l131 y131 z131
          obtain ⟨h131, eh131⟩ : ∃ z, z = T131.heap := ⟨_, rfl⟩
          rw [← eh131] at hQ131
          have e131 : T131.heap = h131 := eh131.symm
          obtain ⟨b131, kc131, rfl, N131q, Kq131, szq131, o131_0, o131_1⟩ := hQ131
          have g_b131 : n0 ≤ b131 := Nat.le_trans Z0 szq131
          have N131 := Fr.app N0 N131q
          have E_b131 : Exa Z h131 b131 "[J" := o131_0
          have V_b131 : Arv Z h131 b131 kc131 .long (1 : Int32) [(.long x1)] (.long (0 : Int64)) := o131_1
          have Zn131 : n0 ≤ h131.size := Nat.le_trans Z0 Kq131.1
          refine Goes.st (B := T131.setTop (mkF m 28 #[.val (.int x0), .val (.long x1), .second, .val (.long x2), .second, .val (.long x3), .second, .val (.long x4), .second, .val (.int (1 : Int32)), .val (.int (2 : Int32)), .unset, .unset, .unset, .unset, .unset, .unset, .unset, .unset] [(.ref b131)])) st131 ?_
          refine Goes.run X131 hx hown hci hcl hby (L := [(28, .astore 11, 2), (30, .iload 10, 2), (32, .lload 5, 2), (34, .lload 7, 2)]) (by decide +kernel) rfl (g' := (mkF m 36 #[.val (.int x0), .val (.long x1), .second, .val (.long x2), .second, .val (.long x3), .second, .val (.long x4), .second, .val (.int (1 : Int32)), .val (.int (2 : Int32)), .val (.ref b131), .unset, .unset, .unset, .unset, .unset, .unset, .unset] [(.long x4), (.long x3), (.int (2 : Int32))])) rfl ?_
          obtain ⟨_, _, ⟨T132, L132, k132, n132⟩, -, X132, ⟨Lc132, hQ132, l132, y132, z132⟩, st132⟩ := Jvm.LawKit.callS X131 hx (y := (⟨"com/example/marks_across_domains/marksacrossdomains/BitsUnionPinLaw", "make", "(IJJ)[J"⟩ : MethodName)) hown (mvT hZ (hw _ (List.mem_of_getElem? (i := 0) rfl))) (mvT hZ (hw _ (List.mem_of_getElem? (i := 1) rfl))) (mvT hZ (hw _ (List.mem_of_getElem? (i := 2) rfl))) (mvT hZ (hw _ (List.mem_of_getElem? (i := 3) rfl))) (by decide) (backOf (W := 0) (rm22 l Z a0 hw [] x3 x4 h131 n0 Zn131 ) hZ (hw _ (List.mem_of_getElem? (i := 3) rfl)) (hw _ (List.mem_of_getElem? (i := 2) rfl)) (by decide) (by decide)) (g := (mkF m 36 #[.val (.int x0), .val (.long x1), .second, .val (.long x2), .second, .val (.long x3), .second, .val (.long x4), .second, .val (.int (1 : Int32)), .val (.int (2 : Int32)), .val (.ref b131), .unset, .unset, .unset, .unset, .unset, .unset, .unset] [(.long x4), (.long x3), (.int (2 : Int32))])) rfl (by rw [hml]; rfl) (argsL := [(.int (2 : Int32)), (.long x3), (.long x4)]) (rest := []) (lenOf pd0_0 rfl) rfl (by show 2 * 0 + _ ≤ _; exact Nat.le_of_eq rfl) (hb hby at_36) (fun _ _ => ⟨rfl, e131, (by decide : 1 + 1 ≤ _), (by decide : 1 + 2 ≤ _)⟩)
          dsimp only [Pt.U, Pt.locs, Pt.cells, Pt.slots] at X132 l132 y132 z132 st132 hQ132
          subst l132 y132 z132
          obtain ⟨h132, eh132⟩ : ∃ z, z = T132.heap := ⟨_, rfl⟩
          rw [← eh132] at hQ132
          have e132 : T132.heap = h132 := eh132.symm
          obtain ⟨b132, kc132, rfl, N132q, Kq132, szq132, o132_0, o132_1⟩ := hQ132
          have ne_b131_b132 : b131 ≠ b132 := Nat.ne_of_lt (Nat.lt_of_lt_of_le E_b131.lt szq132)
          have g_b132 : n0 ≤ b132 := Nat.le_trans Zn131 szq132
          have N132 := Fr.app N131 N132q
          have E_b131 := E_b131.keep Kq132
          have V_b131 := V_b131.keep Kq132 nin0
          have E_b132 : Exa Z h132 b132 "[J" := o132_0
          have V_b132 : Arv Z h132 b132 kc132 .long (2 : Int32) [(.long x3), (.long x4)] (.long (0 : Int64)) := o132_1
          have Zn132 : n0 ≤ h132.size := Nat.le_trans Zn131 Kq132.1
          refine Goes.st (B := T132.setTop (mkF m 39 #[.val (.int x0), .val (.long x1), .second, .val (.long x2), .second, .val (.long x3), .second, .val (.long x4), .second, .val (.int (1 : Int32)), .val (.int (2 : Int32)), .val (.ref b131), .unset, .unset, .unset, .unset, .unset, .unset, .unset] [(.ref b132)])) st132 ?_
          refine Goes.run X132 hx hown hci hcl hby (L := [(39, .astore 12, 2), (41, .aload 11, 2), (43, .aload 12, 2)]) (by decide +kernel) rfl (g' := (mkF m 45 #[.val (.int x0), .val (.long x1), .second, .val (.long x2), .second, .val (.long x3), .second, .val (.long x4), .second, .val (.int (1 : Int32)), .val (.int (2 : Int32)), .val (.ref b131), .val (.ref b132), .unset, .unset, .unset, .unset, .unset, .unset] [(.ref b132), (.ref b131)])) rfl ?_
          obtain ⟨_, _, ⟨T133, L133, k133, n133⟩, -, X133, ⟨Lc133, hQ133, l133, y133, z133⟩, st133⟩ := Jvm.LawKit.callS X132 hx (y := (⟨"com/example/marks_across_domains/marksacrossdomains/Bits", "union", "([J[J)[J"⟩ : MethodName)) hown (mvT hZ (hw _ (List.mem_of_getElem? (i := 5) rfl))) (mvT hZ (hw _ (List.mem_of_getElem? (i := 6) rfl))) (mvT hZ (hw _ (List.mem_of_getElem? (i := 7) rfl))) (mvT hZ (hw _ (List.mem_of_getElem? (i := 8) rfl))) (by decide) (backOf (W := 0) (rm312 l Z a0 hw [] b131 b132 kc131 kc132 x1 x3 x4 h132 n0 Zn132 E_b131 V_b131 E_b132 V_b132) hZ (hw _ (List.mem_of_getElem? (i := 8) rfl)) (hw _ (List.mem_of_getElem? (i := 7) rfl)) (by decide) (by decide)) (g := (mkF m 45 #[.val (.int x0), .val (.long x1), .second, .val (.long x2), .second, .val (.long x3), .second, .val (.long x4), .second, .val (.int (1 : Int32)), .val (.int (2 : Int32)), .val (.ref b131), .val (.ref b132), .unset, .unset, .unset, .unset, .unset, .unset] [(.ref b132), (.ref b131)])) rfl (by rw [hml]; rfl) (argsL := [(.ref b131), (.ref b132)]) (rest := []) (lenOf pd0_1 rfl) rfl (by show 2 * 0 + _ ≤ _; exact Nat.le_of_eq rfl) (hb hby at_45) (fun _ _ => ⟨rfl, e132, (by decide : 2 + 1 ≤ _), (by decide : 3 + 2 ≤ _)⟩)
          dsimp only [Pt.U, Pt.locs, Pt.cells, Pt.slots] at X133 l133 y133 z133 st133 hQ133
          subst l133 y133 z133
          obtain ⟨h133, eh133⟩ : ∃ z, z = T133.heap := ⟨_, rfl⟩
          rw [← eh133] at hQ133
          have e133 : T133.heap = h133 := eh133.symm
          obtain ⟨b133, kc133, rfl, N133q, Kq133, szq133, o133_0, o133_1⟩ := hQ133
          have ne_b131_b133 : b131 ≠ b133 := Nat.ne_of_lt (Nat.lt_of_lt_of_le E_b131.lt szq133)
          have ne_b132_b133 : b132 ≠ b133 := Nat.ne_of_lt (Nat.lt_of_lt_of_le E_b132.lt szq133)
          have g_b133 : n0 ≤ b133 := Nat.le_trans Zn132 szq133
          have N133 := Fr.app N132 N133q
          have E_b131 := E_b131.keep Kq133
          have V_b131 := V_b131.keep Kq133 nin0
          have E_b132 := E_b132.keep Kq133
          have V_b132 := V_b132.keep Kq133 nin0
          have E_b133 : Exa Z h133 b133 "[J" := o133_0
          have V_b133 : Arv Z h133 b133 kc133 .long (2 : Int32) [(.long (x3 ||| x1)), (.long x4)] (.long (0 : Int64)) := o133_1
          have Zn133 : n0 ≤ h133.size := Nat.le_trans Zn132 Kq133.1
          refine Goes.st (B := T133.setTop (mkF m 48 #[.val (.int x0), .val (.long x1), .second, .val (.long x2), .second, .val (.long x3), .second, .val (.long x4), .second, .val (.int (1 : Int32)), .val (.int (2 : Int32)), .val (.ref b131), .val (.ref b132), .unset, .unset, .unset, .unset, .unset, .unset] [(.ref b133)])) st133 ?_
          refine Goes.run X133 hx hown hci hcl hby (L := [(48, .astore 13, 2), (50, .iload 9, 2), (52, .iload 10, 2)]) (by decide +kernel) rfl (g' := (mkF m 54 #[.val (.int x0), .val (.long x1), .second, .val (.long x2), .second, .val (.long x3), .second, .val (.long x4), .second, .val (.int (1 : Int32)), .val (.int (2 : Int32)), .val (.ref b131), .val (.ref b132), .val (.ref b133), .unset, .unset, .unset, .unset, .unset] [(.int (2 : Int32)), (.int (1 : Int32))])) rfl ?_
          obtain ⟨_, _, ⟨T134, L134, k134, n134⟩, -, X134, ⟨Lc134, hQ134, l134, y134, z134⟩, st134⟩ := Jvm.LawKit.callS X133 hx (y := (⟨"java/lang/Math", "max", "(II)I"⟩ : MethodName)) hown (mvT hZ (hw _ (List.mem_of_getElem? (i := 18) rfl))) (mvT hZ (hw _ (List.mem_of_getElem? (i := 19) rfl))) (mvT hZ (hw _ (List.mem_of_getElem? (i := 20) rfl))) (mvT hZ (hw _ (List.mem_of_getElem? (i := 21) rfl))) (by decide) (backOf (W := 0) (rm1 l Z a0 hw [] (1 : Int32) (2 : Int32) h133 n0 Zn133 ) hZ (hw _ (List.mem_of_getElem? (i := 21) rfl)) (hw _ (List.mem_of_getElem? (i := 20) rfl)) (by decide) (by decide)) (g := (mkF m 54 #[.val (.int x0), .val (.long x1), .second, .val (.long x2), .second, .val (.long x3), .second, .val (.long x4), .second, .val (.int (1 : Int32)), .val (.int (2 : Int32)), .val (.ref b131), .val (.ref b132), .val (.ref b133), .unset, .unset, .unset, .unset, .unset] [(.int (2 : Int32)), (.int (1 : Int32))])) rfl (by rw [hml]; rfl) (argsL := [(.int (1 : Int32)), (.int (2 : Int32))]) (rest := []) (lenOf pd0_2 rfl) rfl (by show 2 * 0 + _ ≤ _; exact Nat.le_of_eq rfl) (hb hby at_54) (fun _ _ => ⟨rfl, e133, (by decide : 3 + 0 ≤ _), (by decide : 5 + 0 ≤ _)⟩)
          dsimp only [Pt.U, Pt.locs, Pt.cells, Pt.slots] at X134 l134 y134 z134 st134 hQ134
          subst l134 y134 z134
          obtain ⟨rfl, N134q, e134⟩ := hQ134
          have N134 := Fr.app N133 N134q
          refine Goes.st (B := T134.setTop (mkF m 57 #[.val (.int x0), .val (.long x1), .second, .val (.long x2), .second, .val (.long x3), .second, .val (.long x4), .second, .val (.int (1 : Int32)), .val (.int (2 : Int32)), .val (.ref b131), .val (.ref b132), .val (.ref b133), .unset, .unset, .unset, .unset, .unset] [(.int (2 : Int32))])) st134 ?_
          refine Goes.run X134 hx hown hci hcl hby (L := [(57, .istore 14, 2), (59, .aload 13, 2)]) (by decide +kernel) rfl (g' := (mkF m 61 #[.val (.int x0), .val (.long x1), .second, .val (.long x2), .second, .val (.long x3), .second, .val (.long x4), .second, .val (.int (1 : Int32)), .val (.int (2 : Int32)), .val (.ref b131), .val (.ref b132), .val (.ref b133), .val (.int (2 : Int32)), .unset, .unset, .unset, .unset] [(.ref b133)])) rfl ?_
          obtain ⟨cl135, Ar135, q135, S135, M135, Hs135, G135⟩ := id V_b133
          refine Goes.st (B := T134.setTop (mkF m 62 #[.val (.int x0), .val (.long x1), .second, .val (.long x2), .second, .val (.long x3), .second, .val (.long x4), .second, .val (.int (1 : Int32)), .val (.int (2 : Int32)), .val (.ref b131), .val (.ref b132), .val (.ref b133), .val (.int (2 : Int32)), .unset, .unset, .unset, .unset] [(.int (2 : Int32))])) (fun t k => ?_) ?_
          · refine X134.arraylength hx (cell := cl135) (by rw [e134]; exact Ar135.1) (State.isArrayOf_alike hZ.alike Ar135.2.1) (g := (mkF m 61 #[.val (.int x0), .val (.long x1), .second, .val (.long x2), .second, .val (.long x3), .second, .val (.long x4), .second, .val (.int (1 : Int32)), .val (.int (2 : Int32)), .val (.ref b131), .val (.ref b132), .val (.ref b133), .val (.int (2 : Int32)), .unset, .unset, .unset, .unset] [(.ref b133)])) rfl (rest := []) rfl (hb hby at_61) _ ?_
            rw [len_of S135 M135]
            exact k
          refine Goes.run X134 hx hown hci hcl hby (L := [(62, .iload 14, 2)]) (by decide +kernel) rfl (g' := (mkF m 64 #[.val (.int x0), .val (.long x1), .second, .val (.long x2), .second, .val (.long x3), .second, .val (.long x4), .second, .val (.int (1 : Int32)), .val (.int (2 : Int32)), .val (.ref b131), .val (.ref b132), .val (.ref b133), .val (.int (2 : Int32)), .unset, .unset, .unset, .unset] [(.int (2 : Int32)), (.int (2 : Int32))])) rfl ?_
          have hc64_136 : (2 : Int32) = (2 : Int32) := rfl
          refine Goes.st (B := T134.setTop (mkF m 69 #[.val (.int x0), .val (.long x1), .second, .val (.long x2), .second, .val (.long x3), .second, .val (.long x4), .second, .val (.int (1 : Int32)), .val (.int (2 : Int32)), .val (.ref b131), .val (.ref b132), .val (.ref b133), .val (.int (2 : Int32)), .unset, .unset, .unset, .unset] [])) (fun t k => ?_) ?_
          · refine XS.icmpYes X134.here hx rfl (pc0 := 64) (pc' := 69) rfl (hb hby at_64) rfl (teq hc64_136).1 (by decide) (by decide) ?_
            exact k
          refine Goes.run X134 hx hown hci hcl hby (L := [(69, .iload 9, 2)]) (by decide +kernel) rfl (g' := (mkF m 71 #[.val (.int x0), .val (.long x1), .second, .val (.long x2), .second, .val (.long x3), .second, .val (.long x4), .second, .val (.int (1 : Int32)), .val (.int (2 : Int32)), .val (.ref b131), .val (.ref b132), .val (.ref b133), .val (.int (2 : Int32)), .unset, .unset, .unset, .unset] [(.int (1 : Int32))])) rfl ?_
          have hc71_137 : (0 : Int32) < (1 : Int32) := by decide
          refine Goes.st (B := T134.setTop (mkF m 74 #[.val (.int x0), .val (.long x1), .second, .val (.long x2), .second, .val (.long x3), .second, .val (.long x4), .second, .val (.int (1 : Int32)), .val (.int (2 : Int32)), .val (.ref b131), .val (.ref b132), .val (.ref b133), .val (.int (2 : Int32)), .unset, .unset, .unset, .unset] [])) (fun t k => ?_) ?_
          · refine XS.ifNo X134.here hx rfl (hb hby at_71) rfl ((if0 _ _).trans (tlt hc71_137).2.2.2) ?_
            exact k
          refine Goes.run X134 hx hown hci hcl hby (L := [(74, .lload_n 1, 1), (75, .goto 4, 3), (79, .iload 10, 2)]) (by decide +kernel) rfl (g' := (mkF m 81 #[.val (.int x0), .val (.long x1), .second, .val (.long x2), .second, .val (.long x3), .second, .val (.long x4), .second, .val (.int (1 : Int32)), .val (.int (2 : Int32)), .val (.ref b131), .val (.ref b132), .val (.ref b133), .val (.int (2 : Int32)), .unset, .unset, .unset, .unset] [(.int (2 : Int32)), (.long x1)])) rfl ?_
          have hc81_138 : (0 : Int32) < (2 : Int32) := by decide
          refine Goes.st (B := T134.setTop (mkF m 84 #[.val (.int x0), .val (.long x1), .second, .val (.long x2), .second, .val (.long x3), .second, .val (.long x4), .second, .val (.int (1 : Int32)), .val (.int (2 : Int32)), .val (.ref b131), .val (.ref b132), .val (.ref b133), .val (.int (2 : Int32)), .unset, .unset, .unset, .unset] [(.long x1)])) (fun t k => ?_) ?_
          · refine XS.ifNo X134.here hx rfl (hb hby at_81) rfl ((if0 _ _).trans (tlt hc81_138).2.2.2) ?_
            exact k
          refine Goes.run X134 hx hown hci hcl hby (L := [(84, .lload 5, 2), (86, .goto 4, 3), (90, .lor, 1), (91, .lstore 15, 2), (93, .iload 9, 2), (95, .iconst 1, 1)]) (by decide +kernel) rfl (g' := (mkF m 96 #[.val (.int x0), .val (.long x1), .second, .val (.long x2), .second, .val (.long x3), .second, .val (.long x4), .second, .val (.int (1 : Int32)), .val (.int (2 : Int32)), .val (.ref b131), .val (.ref b132), .val (.ref b133), .val (.int (2 : Int32)), .val (.long (w0_91_c x0 x1 x2 x3 x4)), .second, .unset, .unset] [(.int (1 : Int32)), (.int (1 : Int32))])) rfl ?_
          have hc96_139 : ¬ ((1 : Int32) < (1 : Int32)) := Int32.lt_irrefl
          refine Goes.st (B := T134.setTop (mkF m 103 #[.val (.int x0), .val (.long x1), .second, .val (.long x2), .second, .val (.long x3), .second, .val (.long x4), .second, .val (.int (1 : Int32)), .val (.int (2 : Int32)), .val (.ref b131), .val (.ref b132), .val (.ref b133), .val (.int (2 : Int32)), .val (.long (w0_91_c x0 x1 x2 x3 x4)), .second, .unset, .unset] [])) (fun t k => ?_) ?_
          · refine XS.icmpYes X134.here hx rfl (pc0 := 96) (pc' := 103) rfl (hb hby at_96) rfl (flt hc96_139).2.2.2 (by decide) (by decide) ?_
            exact k
          refine Goes.run X134 hx hown hci hcl hby (L := [(103, .lconst 0, 1), (104, .iload 10, 2), (106, .iconst 1, 1)]) (by decide +kernel) rfl (g' := (mkF m 107 #[.val (.int x0), .val (.long x1), .second, .val (.long x2), .second, .val (.long x3), .second, .val (.long x4), .second, .val (.int (1 : Int32)), .val (.int (2 : Int32)), .val (.ref b131), .val (.ref b132), .val (.ref b133), .val (.int (2 : Int32)), .val (.long (w0_91_c x0 x1 x2 x3 x4)), .second, .unset, .unset] [(.int (1 : Int32)), (.int (2 : Int32)), (.long (0 : Int64))])) rfl ?_
          have hc107_140 : (1 : Int32) < (2 : Int32) := by decide
          refine Goes.st (B := T134.setTop (mkF m 110 #[.val (.int x0), .val (.long x1), .second, .val (.long x2), .second, .val (.long x3), .second, .val (.long x4), .second, .val (.int (1 : Int32)), .val (.int (2 : Int32)), .val (.ref b131), .val (.ref b132), .val (.ref b133), .val (.int (2 : Int32)), .val (.long (w0_91_c x0 x1 x2 x3 x4)), .second, .unset, .unset] [(.long (0 : Int64))])) (fun t k => ?_) ?_
          · refine XS.icmpNo X134.here hx rfl (hb hby at_107) rfl (tlt hc107_140).2.2.2 ?_
            exact k
          refine Goes.run X134 hx hown hci hcl hby (L := [(110, .lload 7, 2), (112, .goto 4, 3), (116, .lor, 1), (117, .lstore 17, 2), (119, .iload 14, 2)]) (by decide +kernel) rfl (g' := (mkF m 121 #[.val (.int x0), .val (.long x1), .second, .val (.long x2), .second, .val (.long x3), .second, .val (.long x4), .second, .val (.int (1 : Int32)), .val (.int (2 : Int32)), .val (.ref b131), .val (.ref b132), .val (.ref b133), .val (.int (2 : Int32)), .val (.long (w0_91_c x0 x1 x2 x3 x4)), .second, .val (.long (w0_117 x0 x1 x2 x3 x4)), .second] [(.int (2 : Int32))])) rfl ?_
          have hc121_141 : (0 : Int32) < (2 : Int32) := by decide
          refine Goes.st (B := T134.setTop (mkF m 124 #[.val (.int x0), .val (.long x1), .second, .val (.long x2), .second, .val (.long x3), .second, .val (.long x4), .second, .val (.int (1 : Int32)), .val (.int (2 : Int32)), .val (.ref b131), .val (.ref b132), .val (.ref b133), .val (.int (2 : Int32)), .val (.long (w0_91_c x0 x1 x2 x3 x4)), .second, .val (.long (w0_117 x0 x1 x2 x3 x4)), .second] [])) (fun t k => ?_) ?_
          · refine XS.ifNo X134.here hx rfl (hb hby at_121) rfl ((if0 _ _).trans (tlt hc121_141).2.2.2) ?_
            exact k
          refine Goes.run X134 hx hown hci hcl hby (L := [(124, .aload 13, 2), (126, .iconst 0, 1)]) (by decide +kernel) rfl (g' := (mkF m 127 #[.val (.int x0), .val (.long x1), .second, .val (.long x2), .second, .val (.long x3), .second, .val (.long x4), .second, .val (.int (1 : Int32)), .val (.int (2 : Int32)), .val (.ref b131), .val (.ref b132), .val (.ref b133), .val (.int (2 : Int32)), .val (.long (w0_91_c x0 x1 x2 x3 x4)), .second, .val (.long (w0_117 x0 x1 x2 x3 x4)), .second] [(.int (0 : Int32)), (.ref b133)])) rfl ?_
          obtain ⟨cl142, Ar142, q142, S142, M142, Hs142, G142⟩ := id V_b133
          have hin142 : ¬ ((0 : Int32) < 0 ∨ cl142.slots.size ≤ ((0 : Int32)).toNatClampNeg) := inb_of S142 ⟨(by decide), (by decide)⟩
          have hat142 : cl142.slots[((0 : Int32)).toNatClampNeg]? = some (.long (x3 ||| x1)) := Hs142.at hin142 rfl
          refine Goes.st (B := T134.setTop (mkF m 128 #[.val (.int x0), .val (.long x1), .second, .val (.long x2), .second, .val (.long x3), .second, .val (.long x4), .second, .val (.int (1 : Int32)), .val (.int (2 : Int32)), .val (.ref b131), .val (.ref b132), .val (.ref b133), .val (.int (2 : Int32)), .val (.long (w0_91_c x0 x1 x2 x3 x4)), .second, .val (.long (w0_117 x0 x1 x2 x3 x4)), .second] [(.long (x3 ||| x1))])) (X134.laload hx (j := (0 : Int32)) (v := (.long (x3 ||| x1))) (by rw [e134]; exact Ar142.1) (State.isArrayOf_alike hZ.alike Ar142.2.1) Ar142.2.2 hin142 hat142 (g := (mkF m 127 #[.val (.int x0), .val (.long x1), .second, .val (.long x2), .second, .val (.long x3), .second, .val (.long x4), .second, .val (.int (1 : Int32)), .val (.int (2 : Int32)), .val (.ref b131), .val (.ref b132), .val (.ref b133), .val (.int (2 : Int32)), .val (.long (w0_91_c x0 x1 x2 x3 x4)), .second, .val (.long (w0_117 x0 x1 x2 x3 x4)), .second] [(.int (0 : Int32)), (.ref b133)])) rfl rfl (hb hby at_127)) ?_
          refine Goes.run X134 hx hown hci hcl hby (L := [(128, .lload 15, 2), (130, .lcmp, 1)]) (by decide +kernel) rfl (g' := (mkF m 131 #[.val (.int x0), .val (.long x1), .second, .val (.long x2), .second, .val (.long x3), .second, .val (.long x4), .second, .val (.int (1 : Int32)), .val (.int (2 : Int32)), .val (.ref b131), .val (.ref b132), .val (.ref b133), .val (.int (2 : Int32)), .val (.long (w0_91_c x0 x1 x2 x3 x4)), .second, .val (.long (w0_117 x0 x1 x2 x3 x4)), .second] [(.int (lcmpW (x3 ||| x1) (w0_91_c x0 x1 x2 x3 x4)))])) rfl ?_
          by_cases hc131_143 : (x3 ||| x1) = (w0_91_c x0 x1 x2 x3 x4)
          · skip
            refine Goes.st (B := T134.setTop (mkF m 136 #[.val (.int x0), .val (.long x1), .second, .val (.long x2), .second, .val (.long x3), .second, .val (.long x4), .second, .val (.int (1 : Int32)), .val (.int (2 : Int32)), .val (.ref b131), .val (.ref b132), .val (.ref b133), .val (.int (2 : Int32)), .val (.long (w0_91_c x0 x1 x2 x3 x4)), .second, .val (.long (w0_117 x0 x1 x2 x3 x4)), .second] [])) (fun t k => ?_) ?_
            · refine XS.ifYes X134.here hx rfl (pc0 := 131) (pc' := 136) rfl (hb hby at_131) rfl (teqL hc131_143).1 (by decide) (by decide) ?_
              exact k
            refine Goes.run X134 hx hown hci hcl hby (L := [(136, .iload 14, 2), (138, .iconst 1, 1)]) (by decide +kernel) rfl (g' := (mkF m 139 #[.val (.int x0), .val (.long x1), .second, .val (.long x2), .second, .val (.long x3), .second, .val (.long x4), .second, .val (.int (1 : Int32)), .val (.int (2 : Int32)), .val (.ref b131), .val (.ref b132), .val (.ref b133), .val (.int (2 : Int32)), .val (.long (w0_91_c x0 x1 x2 x3 x4)), .second, .val (.long (w0_117 x0 x1 x2 x3 x4)), .second] [(.int (1 : Int32)), (.int (2 : Int32))])) rfl ?_
            have hc139_144 : (1 : Int32) < (2 : Int32) := by decide
            refine Goes.st (B := T134.setTop (mkF m 142 #[.val (.int x0), .val (.long x1), .second, .val (.long x2), .second, .val (.long x3), .second, .val (.long x4), .second, .val (.int (1 : Int32)), .val (.int (2 : Int32)), .val (.ref b131), .val (.ref b132), .val (.ref b133), .val (.int (2 : Int32)), .val (.long (w0_91_c x0 x1 x2 x3 x4)), .second, .val (.long (w0_117 x0 x1 x2 x3 x4)), .second] [])) (fun t k => ?_) ?_
            · refine XS.icmpNo X134.here hx rfl (hb hby at_139) rfl (tlt hc139_144).2.2.2 ?_
              exact k
            refine Goes.run X134 hx hown hci hcl hby (L := [(142, .aload 13, 2), (144, .iconst 1, 1)]) (by decide +kernel) rfl (g' := (mkF m 145 #[.val (.int x0), .val (.long x1), .second, .val (.long x2), .second, .val (.long x3), .second, .val (.long x4), .second, .val (.int (1 : Int32)), .val (.int (2 : Int32)), .val (.ref b131), .val (.ref b132), .val (.ref b133), .val (.int (2 : Int32)), .val (.long (w0_91_c x0 x1 x2 x3 x4)), .second, .val (.long (w0_117 x0 x1 x2 x3 x4)), .second] [(.int (1 : Int32)), (.ref b133)])) rfl ?_
            obtain ⟨cl145, Ar145, q145, S145, M145, Hs145, G145⟩ := id V_b133
            have hin145 : ¬ ((1 : Int32) < 0 ∨ cl145.slots.size ≤ ((1 : Int32)).toNatClampNeg) := inb_of S145 ⟨(by decide), (by decide)⟩
            have hat145 : cl145.slots[((1 : Int32)).toNatClampNeg]? = some (.long x4) := Hs145.at hin145 rfl
            refine Goes.st (B := T134.setTop (mkF m 146 #[.val (.int x0), .val (.long x1), .second, .val (.long x2), .second, .val (.long x3), .second, .val (.long x4), .second, .val (.int (1 : Int32)), .val (.int (2 : Int32)), .val (.ref b131), .val (.ref b132), .val (.ref b133), .val (.int (2 : Int32)), .val (.long (w0_91_c x0 x1 x2 x3 x4)), .second, .val (.long (w0_117 x0 x1 x2 x3 x4)), .second] [(.long x4)])) (X134.laload hx (j := (1 : Int32)) (v := (.long x4)) (by rw [e134]; exact Ar145.1) (State.isArrayOf_alike hZ.alike Ar145.2.1) Ar145.2.2 hin145 hat145 (g := (mkF m 145 #[.val (.int x0), .val (.long x1), .second, .val (.long x2), .second, .val (.long x3), .second, .val (.long x4), .second, .val (.int (1 : Int32)), .val (.int (2 : Int32)), .val (.ref b131), .val (.ref b132), .val (.ref b133), .val (.int (2 : Int32)), .val (.long (w0_91_c x0 x1 x2 x3 x4)), .second, .val (.long (w0_117 x0 x1 x2 x3 x4)), .second] [(.int (1 : Int32)), (.ref b133)])) rfl rfl (hb hby at_145)) ?_
            refine Goes.run X134 hx hown hci hcl hby (L := [(146, .lload 17, 2), (148, .lcmp, 1)]) (by decide +kernel) rfl (g' := (mkF m 149 #[.val (.int x0), .val (.long x1), .second, .val (.long x2), .second, .val (.long x3), .second, .val (.long x4), .second, .val (.int (1 : Int32)), .val (.int (2 : Int32)), .val (.ref b131), .val (.ref b132), .val (.ref b133), .val (.int (2 : Int32)), .val (.long (w0_91_c x0 x1 x2 x3 x4)), .second, .val (.long (w0_117 x0 x1 x2 x3 x4)), .second] [(.int (lcmpW x4 (w0_117 x0 x1 x2 x3 x4)))])) rfl ?_
            by_cases hc149_146 : x4 = (w0_117 x0 x1 x2 x3 x4)
            · skip
              refine Goes.st (B := T134.setTop (mkF m 154 #[.val (.int x0), .val (.long x1), .second, .val (.long x2), .second, .val (.long x3), .second, .val (.long x4), .second, .val (.int (1 : Int32)), .val (.int (2 : Int32)), .val (.ref b131), .val (.ref b132), .val (.ref b133), .val (.int (2 : Int32)), .val (.long (w0_91_c x0 x1 x2 x3 x4)), .second, .val (.long (w0_117 x0 x1 x2 x3 x4)), .second] [])) (fun t k => ?_) ?_
              · refine XS.ifYes X134.here hx rfl (pc0 := 149) (pc' := 154) rfl (hb hby at_149) rfl (teqL hc149_146).1 (by decide) (by decide) ?_
                exact k
              refine Goes.run X134 hx hown hci hcl hby (L := [(154, .aload 11, 2)]) (by decide +kernel) rfl (g' := (mkF m 156 #[.val (.int x0), .val (.long x1), .second, .val (.long x2), .second, .val (.long x3), .second, .val (.long x4), .second, .val (.int (1 : Int32)), .val (.int (2 : Int32)), .val (.ref b131), .val (.ref b132), .val (.ref b133), .val (.int (2 : Int32)), .val (.long (w0_91_c x0 x1 x2 x3 x4)), .second, .val (.long (w0_117 x0 x1 x2 x3 x4)), .second] [(.ref b131)])) rfl ?_
              obtain ⟨cl147, Ar147, q147, S147, M147, Hs147, G147⟩ := id V_b131
              refine Goes.st (B := T134.setTop (mkF m 157 #[.val (.int x0), .val (.long x1), .second, .val (.long x2), .second, .val (.long x3), .second, .val (.long x4), .second, .val (.int (1 : Int32)), .val (.int (2 : Int32)), .val (.ref b131), .val (.ref b132), .val (.ref b133), .val (.int (2 : Int32)), .val (.long (w0_91_c x0 x1 x2 x3 x4)), .second, .val (.long (w0_117 x0 x1 x2 x3 x4)), .second] [(.int (1 : Int32))])) (fun t k => ?_) ?_
              · refine X134.arraylength hx (cell := cl147) (by rw [e134]; exact Ar147.1) (State.isArrayOf_alike hZ.alike Ar147.2.1) (g := (mkF m 156 #[.val (.int x0), .val (.long x1), .second, .val (.long x2), .second, .val (.long x3), .second, .val (.long x4), .second, .val (.int (1 : Int32)), .val (.int (2 : Int32)), .val (.ref b131), .val (.ref b132), .val (.ref b133), .val (.int (2 : Int32)), .val (.long (w0_91_c x0 x1 x2 x3 x4)), .second, .val (.long (w0_117 x0 x1 x2 x3 x4)), .second] [(.ref b131)])) rfl (rest := []) rfl (hb hby at_156) _ ?_
                rw [len_of S147 M147]
                exact k
              refine Goes.run X134 hx hown hci hcl hby (L := [(157, .iload 9, 2)]) (by decide +kernel) rfl (g' := (mkF m 159 #[.val (.int x0), .val (.long x1), .second, .val (.long x2), .second, .val (.long x3), .second, .val (.long x4), .second, .val (.int (1 : Int32)), .val (.int (2 : Int32)), .val (.ref b131), .val (.ref b132), .val (.ref b133), .val (.int (2 : Int32)), .val (.long (w0_91_c x0 x1 x2 x3 x4)), .second, .val (.long (w0_117 x0 x1 x2 x3 x4)), .second] [(.int (1 : Int32)), (.int (1 : Int32))])) rfl ?_
              have hc159_148 : (1 : Int32) = (1 : Int32) := rfl
              refine Goes.st (B := T134.setTop (mkF m 162 #[.val (.int x0), .val (.long x1), .second, .val (.long x2), .second, .val (.long x3), .second, .val (.long x4), .second, .val (.int (1 : Int32)), .val (.int (2 : Int32)), .val (.ref b131), .val (.ref b132), .val (.ref b133), .val (.int (2 : Int32)), .val (.long (w0_91_c x0 x1 x2 x3 x4)), .second, .val (.long (w0_117 x0 x1 x2 x3 x4)), .second] [])) (fun t k => ?_) ?_
              · refine XS.icmpNo X134.here hx rfl (hb hby at_159) rfl (teq hc159_148).2 ?_
                exact k
              refine Goes.run X134 hx hown hci hcl hby (L := [(162, .aload 12, 2)]) (by decide +kernel) rfl (g' := (mkF m 164 #[.val (.int x0), .val (.long x1), .second, .val (.long x2), .second, .val (.long x3), .second, .val (.long x4), .second, .val (.int (1 : Int32)), .val (.int (2 : Int32)), .val (.ref b131), .val (.ref b132), .val (.ref b133), .val (.int (2 : Int32)), .val (.long (w0_91_c x0 x1 x2 x3 x4)), .second, .val (.long (w0_117 x0 x1 x2 x3 x4)), .second] [(.ref b132)])) rfl ?_
              obtain ⟨cl149, Ar149, q149, S149, M149, Hs149, G149⟩ := id V_b132
              refine Goes.st (B := T134.setTop (mkF m 165 #[.val (.int x0), .val (.long x1), .second, .val (.long x2), .second, .val (.long x3), .second, .val (.long x4), .second, .val (.int (1 : Int32)), .val (.int (2 : Int32)), .val (.ref b131), .val (.ref b132), .val (.ref b133), .val (.int (2 : Int32)), .val (.long (w0_91_c x0 x1 x2 x3 x4)), .second, .val (.long (w0_117 x0 x1 x2 x3 x4)), .second] [(.int (2 : Int32))])) (fun t k => ?_) ?_
              · refine X134.arraylength hx (cell := cl149) (by rw [e134]; exact Ar149.1) (State.isArrayOf_alike hZ.alike Ar149.2.1) (g := (mkF m 164 #[.val (.int x0), .val (.long x1), .second, .val (.long x2), .second, .val (.long x3), .second, .val (.long x4), .second, .val (.int (1 : Int32)), .val (.int (2 : Int32)), .val (.ref b131), .val (.ref b132), .val (.ref b133), .val (.int (2 : Int32)), .val (.long (w0_91_c x0 x1 x2 x3 x4)), .second, .val (.long (w0_117 x0 x1 x2 x3 x4)), .second] [(.ref b132)])) rfl (rest := []) rfl (hb hby at_164) _ ?_
                rw [len_of S149 M149]
                exact k
              refine Goes.run X134 hx hown hci hcl hby (L := [(165, .iload 10, 2)]) (by decide +kernel) rfl (g' := (mkF m 167 #[.val (.int x0), .val (.long x1), .second, .val (.long x2), .second, .val (.long x3), .second, .val (.long x4), .second, .val (.int (1 : Int32)), .val (.int (2 : Int32)), .val (.ref b131), .val (.ref b132), .val (.ref b133), .val (.int (2 : Int32)), .val (.long (w0_91_c x0 x1 x2 x3 x4)), .second, .val (.long (w0_117 x0 x1 x2 x3 x4)), .second] [(.int (2 : Int32)), (.int (2 : Int32))])) rfl ?_
              have hc167_150 : (2 : Int32) = (2 : Int32) := rfl
              refine Goes.st (B := T134.setTop (mkF m 172 #[.val (.int x0), .val (.long x1), .second, .val (.long x2), .second, .val (.long x3), .second, .val (.long x4), .second, .val (.int (1 : Int32)), .val (.int (2 : Int32)), .val (.ref b131), .val (.ref b132), .val (.ref b133), .val (.int (2 : Int32)), .val (.long (w0_91_c x0 x1 x2 x3 x4)), .second, .val (.long (w0_117 x0 x1 x2 x3 x4)), .second] [])) (fun t k => ?_) ?_
              · refine XS.icmpYes X134.here hx rfl (pc0 := 167) (pc' := 172) rfl (hb hby at_167) rfl (teq hc167_150).1 (by decide) (by decide) ?_
                exact k
              refine Goes.run X134 hx hown hci hcl hby (L := [(172, .iload 9, 2)]) (by decide +kernel) rfl (g' := (mkF m 174 #[.val (.int x0), .val (.long x1), .second, .val (.long x2), .second, .val (.long x3), .second, .val (.long x4), .second, .val (.int (1 : Int32)), .val (.int (2 : Int32)), .val (.ref b131), .val (.ref b132), .val (.ref b133), .val (.int (2 : Int32)), .val (.long (w0_91_c x0 x1 x2 x3 x4)), .second, .val (.long (w0_117 x0 x1 x2 x3 x4)), .second] [(.int (1 : Int32))])) rfl ?_
              have hc174_151 : (0 : Int32) < (1 : Int32) := by decide
              refine Goes.st (B := T134.setTop (mkF m 177 #[.val (.int x0), .val (.long x1), .second, .val (.long x2), .second, .val (.long x3), .second, .val (.long x4), .second, .val (.int (1 : Int32)), .val (.int (2 : Int32)), .val (.ref b131), .val (.ref b132), .val (.ref b133), .val (.int (2 : Int32)), .val (.long (w0_91_c x0 x1 x2 x3 x4)), .second, .val (.long (w0_117 x0 x1 x2 x3 x4)), .second] [])) (fun t k => ?_) ?_
              · refine XS.ifNo X134.here hx rfl (hb hby at_174) rfl ((if0 _ _).trans (tlt hc174_151).2.2.2) ?_
                exact k
              refine Goes.run X134 hx hown hci hcl hby (L := [(177, .aload 11, 2), (179, .iconst 0, 1)]) (by decide +kernel) rfl (g' := (mkF m 180 #[.val (.int x0), .val (.long x1), .second, .val (.long x2), .second, .val (.long x3), .second, .val (.long x4), .second, .val (.int (1 : Int32)), .val (.int (2 : Int32)), .val (.ref b131), .val (.ref b132), .val (.ref b133), .val (.int (2 : Int32)), .val (.long (w0_91_c x0 x1 x2 x3 x4)), .second, .val (.long (w0_117 x0 x1 x2 x3 x4)), .second] [(.int (0 : Int32)), (.ref b131)])) rfl ?_
              obtain ⟨cl152, Ar152, q152, S152, M152, Hs152, G152⟩ := id V_b131
              have hin152 : ¬ ((0 : Int32) < 0 ∨ cl152.slots.size ≤ ((0 : Int32)).toNatClampNeg) := inb_of S152 ⟨(by decide), (by decide)⟩
              have hat152 : cl152.slots[((0 : Int32)).toNatClampNeg]? = some (.long x1) := Hs152.at hin152 rfl
              refine Goes.st (B := T134.setTop (mkF m 181 #[.val (.int x0), .val (.long x1), .second, .val (.long x2), .second, .val (.long x3), .second, .val (.long x4), .second, .val (.int (1 : Int32)), .val (.int (2 : Int32)), .val (.ref b131), .val (.ref b132), .val (.ref b133), .val (.int (2 : Int32)), .val (.long (w0_91_c x0 x1 x2 x3 x4)), .second, .val (.long (w0_117 x0 x1 x2 x3 x4)), .second] [(.long x1)])) (X134.laload hx (j := (0 : Int32)) (v := (.long x1)) (by rw [e134]; exact Ar152.1) (State.isArrayOf_alike hZ.alike Ar152.2.1) Ar152.2.2 hin152 hat152 (g := (mkF m 180 #[.val (.int x0), .val (.long x1), .second, .val (.long x2), .second, .val (.long x3), .second, .val (.long x4), .second, .val (.int (1 : Int32)), .val (.int (2 : Int32)), .val (.ref b131), .val (.ref b132), .val (.ref b133), .val (.int (2 : Int32)), .val (.long (w0_91_c x0 x1 x2 x3 x4)), .second, .val (.long (w0_117 x0 x1 x2 x3 x4)), .second] [(.int (0 : Int32)), (.ref b131)])) rfl rfl (hb hby at_180)) ?_
              refine Goes.run X134 hx hown hci hcl hby (L := [(181, .lload_n 1, 1), (182, .lcmp, 1)]) (by decide +kernel) rfl (g' := (mkF m 183 #[.val (.int x0), .val (.long x1), .second, .val (.long x2), .second, .val (.long x3), .second, .val (.long x4), .second, .val (.int (1 : Int32)), .val (.int (2 : Int32)), .val (.ref b131), .val (.ref b132), .val (.ref b133), .val (.int (2 : Int32)), .val (.long (w0_91_c x0 x1 x2 x3 x4)), .second, .val (.long (w0_117 x0 x1 x2 x3 x4)), .second] [(.int (lcmpW x1 x1))])) rfl ?_
              have hc183_153 : x1 = x1 := rfl
              refine Goes.st (B := T134.setTop (mkF m 188 #[.val (.int x0), .val (.long x1), .second, .val (.long x2), .second, .val (.long x3), .second, .val (.long x4), .second, .val (.int (1 : Int32)), .val (.int (2 : Int32)), .val (.ref b131), .val (.ref b132), .val (.ref b133), .val (.int (2 : Int32)), .val (.long (w0_91_c x0 x1 x2 x3 x4)), .second, .val (.long (w0_117 x0 x1 x2 x3 x4)), .second] [])) (fun t k => ?_) ?_
              · refine XS.ifYes X134.here hx rfl (pc0 := 183) (pc' := 188) rfl (hb hby at_183) rfl (teqL hc183_153).1 (by decide) (by decide) ?_
                exact k
              refine Goes.run X134 hx hown hci hcl hby (L := [(188, .iload 9, 2), (190, .iconst 1, 1)]) (by decide +kernel) rfl (g' := (mkF m 191 #[.val (.int x0), .val (.long x1), .second, .val (.long x2), .second, .val (.long x3), .second, .val (.long x4), .second, .val (.int (1 : Int32)), .val (.int (2 : Int32)), .val (.ref b131), .val (.ref b132), .val (.ref b133), .val (.int (2 : Int32)), .val (.long (w0_91_c x0 x1 x2 x3 x4)), .second, .val (.long (w0_117 x0 x1 x2 x3 x4)), .second] [(.int (1 : Int32)), (.int (1 : Int32))])) rfl ?_
              have hc191_154 : ¬ ((1 : Int32) < (1 : Int32)) := Int32.lt_irrefl
              refine Goes.st (B := T134.setTop (mkF m 205 #[.val (.int x0), .val (.long x1), .second, .val (.long x2), .second, .val (.long x3), .second, .val (.long x4), .second, .val (.int (1 : Int32)), .val (.int (2 : Int32)), .val (.ref b131), .val (.ref b132), .val (.ref b133), .val (.int (2 : Int32)), .val (.long (w0_91_c x0 x1 x2 x3 x4)), .second, .val (.long (w0_117 x0 x1 x2 x3 x4)), .second] [])) (fun t k => ?_) ?_
              · refine XS.icmpYes X134.here hx rfl (pc0 := 191) (pc' := 205) rfl (hb hby at_191) rfl (flt hc191_154).2.2.2 (by decide) (by decide) ?_
                exact k
              refine Goes.run X134 hx hown hci hcl hby (L := [(205, .iload 10, 2)]) (by decide +kernel) rfl (g' := (mkF m 207 #[.val (.int x0), .val (.long x1), .second, .val (.long x2), .second, .val (.long x3), .second, .val (.long x4), .second, .val (.int (1 : Int32)), .val (.int (2 : Int32)), .val (.ref b131), .val (.ref b132), .val (.ref b133), .val (.int (2 : Int32)), .val (.long (w0_91_c x0 x1 x2 x3 x4)), .second, .val (.long (w0_117 x0 x1 x2 x3 x4)), .second] [(.int (2 : Int32))])) rfl ?_
              have hc207_155 : (0 : Int32) < (2 : Int32) := by decide
              refine Goes.st (B := T134.setTop (mkF m 210 #[.val (.int x0), .val (.long x1), .second, .val (.long x2), .second, .val (.long x3), .second, .val (.long x4), .second, .val (.int (1 : Int32)), .val (.int (2 : Int32)), .val (.ref b131), .val (.ref b132), .val (.ref b133), .val (.int (2 : Int32)), .val (.long (w0_91_c x0 x1 x2 x3 x4)), .second, .val (.long (w0_117 x0 x1 x2 x3 x4)), .second] [])) (fun t k => ?_) ?_
              · refine XS.ifNo X134.here hx rfl (hb hby at_207) rfl ((if0 _ _).trans (tlt hc207_155).2.2.2) ?_
                exact k
              refine Goes.run X134 hx hown hci hcl hby (L := [(210, .aload 12, 2), (212, .iconst 0, 1)]) (by decide +kernel) rfl (g' := (mkF m 213 #[.val (.int x0), .val (.long x1), .second, .val (.long x2), .second, .val (.long x3), .second, .val (.long x4), .second, .val (.int (1 : Int32)), .val (.int (2 : Int32)), .val (.ref b131), .val (.ref b132), .val (.ref b133), .val (.int (2 : Int32)), .val (.long (w0_91_c x0 x1 x2 x3 x4)), .second, .val (.long (w0_117 x0 x1 x2 x3 x4)), .second] [(.int (0 : Int32)), (.ref b132)])) rfl ?_
              obtain ⟨cl156, Ar156, q156, S156, M156, Hs156, G156⟩ := id V_b132
              have hin156 : ¬ ((0 : Int32) < 0 ∨ cl156.slots.size ≤ ((0 : Int32)).toNatClampNeg) := inb_of S156 ⟨(by decide), (by decide)⟩
              have hat156 : cl156.slots[((0 : Int32)).toNatClampNeg]? = some (.long x3) := Hs156.at hin156 rfl
              refine Goes.st (B := T134.setTop (mkF m 214 #[.val (.int x0), .val (.long x1), .second, .val (.long x2), .second, .val (.long x3), .second, .val (.long x4), .second, .val (.int (1 : Int32)), .val (.int (2 : Int32)), .val (.ref b131), .val (.ref b132), .val (.ref b133), .val (.int (2 : Int32)), .val (.long (w0_91_c x0 x1 x2 x3 x4)), .second, .val (.long (w0_117 x0 x1 x2 x3 x4)), .second] [(.long x3)])) (X134.laload hx (j := (0 : Int32)) (v := (.long x3)) (by rw [e134]; exact Ar156.1) (State.isArrayOf_alike hZ.alike Ar156.2.1) Ar156.2.2 hin156 hat156 (g := (mkF m 213 #[.val (.int x0), .val (.long x1), .second, .val (.long x2), .second, .val (.long x3), .second, .val (.long x4), .second, .val (.int (1 : Int32)), .val (.int (2 : Int32)), .val (.ref b131), .val (.ref b132), .val (.ref b133), .val (.int (2 : Int32)), .val (.long (w0_91_c x0 x1 x2 x3 x4)), .second, .val (.long (w0_117 x0 x1 x2 x3 x4)), .second] [(.int (0 : Int32)), (.ref b132)])) rfl rfl (hb hby at_213)) ?_
              refine Goes.run X134 hx hown hci hcl hby (L := [(214, .lload 5, 2), (216, .lcmp, 1)]) (by decide +kernel) rfl (g' := (mkF m 217 #[.val (.int x0), .val (.long x1), .second, .val (.long x2), .second, .val (.long x3), .second, .val (.long x4), .second, .val (.int (1 : Int32)), .val (.int (2 : Int32)), .val (.ref b131), .val (.ref b132), .val (.ref b133), .val (.int (2 : Int32)), .val (.long (w0_91_c x0 x1 x2 x3 x4)), .second, .val (.long (w0_117 x0 x1 x2 x3 x4)), .second] [(.int (lcmpW x3 x3))])) rfl ?_
              have hc217_157 : x3 = x3 := rfl
              refine Goes.st (B := T134.setTop (mkF m 222 #[.val (.int x0), .val (.long x1), .second, .val (.long x2), .second, .val (.long x3), .second, .val (.long x4), .second, .val (.int (1 : Int32)), .val (.int (2 : Int32)), .val (.ref b131), .val (.ref b132), .val (.ref b133), .val (.int (2 : Int32)), .val (.long (w0_91_c x0 x1 x2 x3 x4)), .second, .val (.long (w0_117 x0 x1 x2 x3 x4)), .second] [])) (fun t k => ?_) ?_
              · refine XS.ifYes X134.here hx rfl (pc0 := 217) (pc' := 222) rfl (hb hby at_217) rfl (teqL hc217_157).1 (by decide) (by decide) ?_
                exact k
              refine Goes.run X134 hx hown hci hcl hby (L := [(222, .iload 10, 2), (224, .iconst 1, 1)]) (by decide +kernel) rfl (g' := (mkF m 225 #[.val (.int x0), .val (.long x1), .second, .val (.long x2), .second, .val (.long x3), .second, .val (.long x4), .second, .val (.int (1 : Int32)), .val (.int (2 : Int32)), .val (.ref b131), .val (.ref b132), .val (.ref b133), .val (.int (2 : Int32)), .val (.long (w0_91_c x0 x1 x2 x3 x4)), .second, .val (.long (w0_117 x0 x1 x2 x3 x4)), .second] [(.int (1 : Int32)), (.int (2 : Int32))])) rfl ?_
              have hc225_158 : (1 : Int32) < (2 : Int32) := by decide
              refine Goes.st (B := T134.setTop (mkF m 228 #[.val (.int x0), .val (.long x1), .second, .val (.long x2), .second, .val (.long x3), .second, .val (.long x4), .second, .val (.int (1 : Int32)), .val (.int (2 : Int32)), .val (.ref b131), .val (.ref b132), .val (.ref b133), .val (.int (2 : Int32)), .val (.long (w0_91_c x0 x1 x2 x3 x4)), .second, .val (.long (w0_117 x0 x1 x2 x3 x4)), .second] [])) (fun t k => ?_) ?_
              · refine XS.icmpNo X134.here hx rfl (hb hby at_225) rfl (tlt hc225_158).2.2.2 ?_
                exact k
              refine Goes.run X134 hx hown hci hcl hby (L := [(228, .aload 12, 2), (230, .iconst 1, 1)]) (by decide +kernel) rfl (g' := (mkF m 231 #[.val (.int x0), .val (.long x1), .second, .val (.long x2), .second, .val (.long x3), .second, .val (.long x4), .second, .val (.int (1 : Int32)), .val (.int (2 : Int32)), .val (.ref b131), .val (.ref b132), .val (.ref b133), .val (.int (2 : Int32)), .val (.long (w0_91_c x0 x1 x2 x3 x4)), .second, .val (.long (w0_117 x0 x1 x2 x3 x4)), .second] [(.int (1 : Int32)), (.ref b132)])) rfl ?_
              obtain ⟨cl159, Ar159, q159, S159, M159, Hs159, G159⟩ := id V_b132
              have hin159 : ¬ ((1 : Int32) < 0 ∨ cl159.slots.size ≤ ((1 : Int32)).toNatClampNeg) := inb_of S159 ⟨(by decide), (by decide)⟩
              have hat159 : cl159.slots[((1 : Int32)).toNatClampNeg]? = some (.long x4) := Hs159.at hin159 rfl
              refine Goes.st (B := T134.setTop (mkF m 232 #[.val (.int x0), .val (.long x1), .second, .val (.long x2), .second, .val (.long x3), .second, .val (.long x4), .second, .val (.int (1 : Int32)), .val (.int (2 : Int32)), .val (.ref b131), .val (.ref b132), .val (.ref b133), .val (.int (2 : Int32)), .val (.long (w0_91_c x0 x1 x2 x3 x4)), .second, .val (.long (w0_117 x0 x1 x2 x3 x4)), .second] [(.long x4)])) (X134.laload hx (j := (1 : Int32)) (v := (.long x4)) (by rw [e134]; exact Ar159.1) (State.isArrayOf_alike hZ.alike Ar159.2.1) Ar159.2.2 hin159 hat159 (g := (mkF m 231 #[.val (.int x0), .val (.long x1), .second, .val (.long x2), .second, .val (.long x3), .second, .val (.long x4), .second, .val (.int (1 : Int32)), .val (.int (2 : Int32)), .val (.ref b131), .val (.ref b132), .val (.ref b133), .val (.int (2 : Int32)), .val (.long (w0_91_c x0 x1 x2 x3 x4)), .second, .val (.long (w0_117 x0 x1 x2 x3 x4)), .second] [(.int (1 : Int32)), (.ref b132)])) rfl rfl (hb hby at_231)) ?_
              refine Goes.run X134 hx hown hci hcl hby (L := [(232, .lload 7, 2), (234, .lcmp, 1)]) (by decide +kernel) rfl (g' := (mkF m 235 #[.val (.int x0), .val (.long x1), .second, .val (.long x2), .second, .val (.long x3), .second, .val (.long x4), .second, .val (.int (1 : Int32)), .val (.int (2 : Int32)), .val (.ref b131), .val (.ref b132), .val (.ref b133), .val (.int (2 : Int32)), .val (.long (w0_91_c x0 x1 x2 x3 x4)), .second, .val (.long (w0_117 x0 x1 x2 x3 x4)), .second] [(.int (lcmpW x4 x4))])) rfl ?_
              have hc235_160 : x4 = x4 := rfl
              refine Goes.st (B := T134.setTop (mkF m 240 #[.val (.int x0), .val (.long x1), .second, .val (.long x2), .second, .val (.long x3), .second, .val (.long x4), .second, .val (.int (1 : Int32)), .val (.int (2 : Int32)), .val (.ref b131), .val (.ref b132), .val (.ref b133), .val (.int (2 : Int32)), .val (.long (w0_91_c x0 x1 x2 x3 x4)), .second, .val (.long (w0_117 x0 x1 x2 x3 x4)), .second] [])) (fun t k => ?_) ?_
              · refine XS.ifYes X134.here hx rfl (pc0 := 235) (pc' := 240) rfl (hb hby at_235) rfl (teqL hc235_160).1 (by decide) (by decide) ?_
                exact k
              refine Goes.run X134 hx hown hci hcl hby (L := [(240, .iconst 1, 1)]) (by decide +kernel) rfl (g' := (mkF m 241 #[.val (.int x0), .val (.long x1), .second, .val (.long x2), .second, .val (.long x3), .second, .val (.long x4), .second, .val (.int (1 : Int32)), .val (.int (2 : Int32)), .val (.ref b131), .val (.ref b132), .val (.ref b133), .val (.int (2 : Int32)), .val (.long (w0_91_c x0 x1 x2 x3 x4)), .second, .val (.long (w0_117 x0 x1 x2 x3 x4)), .second] [(.int (1 : Int32))])) rfl ?_
              exact Goes.retB X134 hx hlk (t := .boolean) Bd.returns (by simp) (hb hby at_241) rfl ⟨(congrArg (fun z => some (Value.int z)) (show (r0 x0 x1 x2 x3 x4) = (1 : Int32) from ((((((if_neg hs21_1).trans (if_pos hs21_77)).trans (if_neg hs21_78)).trans (if_neg hs21_103)).trans (if_pos hc131_143)).trans (if_pos hc149_146))).symm), N134⟩ (by decide) (by decide)
            · skip
              refine Goes.st (B := T134.setTop (mkF m 152 #[.val (.int x0), .val (.long x1), .second, .val (.long x2), .second, .val (.long x3), .second, .val (.long x4), .second, .val (.int (1 : Int32)), .val (.int (2 : Int32)), .val (.ref b131), .val (.ref b132), .val (.ref b133), .val (.int (2 : Int32)), .val (.long (w0_91_c x0 x1 x2 x3 x4)), .second, .val (.long (w0_117 x0 x1 x2 x3 x4)), .second] [])) (fun t k => ?_) ?_
              · refine XS.ifNo X134.here hx rfl (hb hby at_149) rfl (feqL hc149_146).1 ?_
                exact k
              refine Goes.run X134 hx hown hci hcl hby (L := [(152, .iconst 0, 1)]) (by decide +kernel) rfl (g' := (mkF m 153 #[.val (.int x0), .val (.long x1), .second, .val (.long x2), .second, .val (.long x3), .second, .val (.long x4), .second, .val (.int (1 : Int32)), .val (.int (2 : Int32)), .val (.ref b131), .val (.ref b132), .val (.ref b133), .val (.int (2 : Int32)), .val (.long (w0_91_c x0 x1 x2 x3 x4)), .second, .val (.long (w0_117 x0 x1 x2 x3 x4)), .second] [(.int (0 : Int32))])) rfl ?_
              exact Goes.retB X134 hx hlk (t := .boolean) Bd.returns (by simp) (hb hby at_153) rfl ⟨(congrArg (fun z => some (Value.int z)) (show (r0 x0 x1 x2 x3 x4) = (0 : Int32) from ((((((if_neg hs21_1).trans (if_pos hs21_77)).trans (if_neg hs21_78)).trans (if_neg hs21_103)).trans (if_pos hc131_143)).trans (if_neg hc149_146))).symm), N134⟩ (by decide) (by decide)
          · skip
            refine Goes.st (B := T134.setTop (mkF m 134 #[.val (.int x0), .val (.long x1), .second, .val (.long x2), .second, .val (.long x3), .second, .val (.long x4), .second, .val (.int (1 : Int32)), .val (.int (2 : Int32)), .val (.ref b131), .val (.ref b132), .val (.ref b133), .val (.int (2 : Int32)), .val (.long (w0_91_c x0 x1 x2 x3 x4)), .second, .val (.long (w0_117 x0 x1 x2 x3 x4)), .second] [])) (fun t k => ?_) ?_
            · refine XS.ifNo X134.here hx rfl (hb hby at_131) rfl (feqL hc131_143).1 ?_
              exact k
            refine Goes.run X134 hx hown hci hcl hby (L := [(134, .iconst 0, 1)]) (by decide +kernel) rfl (g' := (mkF m 135 #[.val (.int x0), .val (.long x1), .second, .val (.long x2), .second, .val (.long x3), .second, .val (.long x4), .second, .val (.int (1 : Int32)), .val (.int (2 : Int32)), .val (.ref b131), .val (.ref b132), .val (.ref b133), .val (.int (2 : Int32)), .val (.long (w0_91_c x0 x1 x2 x3 x4)), .second, .val (.long (w0_117 x0 x1 x2 x3 x4)), .second] [(.int (0 : Int32))])) rfl ?_
            exact Goes.retB X134 hx hlk (t := .boolean) Bd.returns (by simp) (hb hby at_135) rfl ⟨(congrArg (fun z => some (Value.int z)) (show (r0 x0 x1 x2 x3 x4) = (0 : Int32) from (((((if_neg hs21_1).trans (if_pos hs21_77)).trans (if_neg hs21_78)).trans (if_neg hs21_103)).trans (if_neg hc131_143))).symm), N134⟩ (by decide) (by decide)
    · skip
      have hs21_161 : (w0_7 x0 x1 x2 x3 x4) = (2 : Int32) := own_l9 x0 x1 x2 x3 x4 hs21_1 hs21_77
      rw [hs21_161]
      by_cases hs21_162 : (w0_19 x0 x1 x2 x3 x4) = (0 : Int32)
      · skip
        rw [hs21_162]
        refine Goes.run X0 hx hown hci hcl hby (L := [(21, .iload 9, 2), (23, .lload_n 1, 1), (24, .lload_n 3, 1)]) (by decide +kernel) rfl (g' := (mkF m 25 #[.val (.int x0), .val (.long x1), .second, .val (.long x2), .second, .val (.long x3), .second, .val (.long x4), .second, .val (.int (2 : Int32)), .val (.int (0 : Int32)), .unset, .unset, .unset, .unset, .unset, .unset, .unset, .unset] [(.long x2), (.long x1), (.int (2 : Int32))])) rfl ?_
        obtain ⟨_, _, ⟨T163, L163, k163, n163⟩, -, X163, ⟨Lc163, hQ163, l163, y163, z163⟩, st163⟩ := Jvm.LawKit.callS X0 hx (y := (⟨"com/example/marks_across_domains/marksacrossdomains/BitsUnionPinLaw", "make", "(IJJ)[J"⟩ : MethodName)) hown (mvT hZ (hw _ (List.mem_of_getElem? (i := 0) rfl))) (mvT hZ (hw _ (List.mem_of_getElem? (i := 1) rfl))) (mvT hZ (hw _ (List.mem_of_getElem? (i := 2) rfl))) (mvT hZ (hw _ (List.mem_of_getElem? (i := 3) rfl))) (by decide) (backOf (W := 0) (rm22 l Z a0 hw [] x1 x2 h0 n0 Z0 ) hZ (hw _ (List.mem_of_getElem? (i := 3) rfl)) (hw _ (List.mem_of_getElem? (i := 2) rfl)) (by decide) (by decide)) (g := (mkF m 25 #[.val (.int x0), .val (.long x1), .second, .val (.long x2), .second, .val (.long x3), .second, .val (.long x4), .second, .val (.int (2 : Int32)), .val (.int (0 : Int32)), .unset, .unset, .unset, .unset, .unset, .unset, .unset, .unset] [(.long x2), (.long x1), (.int (2 : Int32))])) rfl (by rw [hml]; rfl) (argsL := [(.int (2 : Int32)), (.long x1), (.long x2)]) (rest := []) (lenOf pd0_0 rfl) rfl (by show 2 * 0 + _ ≤ _; exact Nat.le_of_eq rfl) (hb hby at_25) (fun _ _ => ⟨rfl, e0, (by decide : 0 + 1 ≤ _), (by decide : 0 + 2 ≤ _)⟩)
        dsimp only [Pt.U, Pt.locs, Pt.cells, Pt.slots] at X163 l163 y163 z163 st163 hQ163
        subst l163 y163 z163
        obtain ⟨h163, eh163⟩ : ∃ z, z = T163.heap := ⟨_, rfl⟩
        rw [← eh163] at hQ163
        have e163 : T163.heap = h163 := eh163.symm
        obtain ⟨b163, kc163, rfl, N163q, Kq163, szq163, o163_0, o163_1⟩ := hQ163
        have g_b163 : n0 ≤ b163 := Nat.le_trans Z0 szq163
        have N163 := Fr.app N0 N163q
        have E_b163 : Exa Z h163 b163 "[J" := o163_0
        have V_b163 : Arv Z h163 b163 kc163 .long (2 : Int32) [(.long x1), (.long x2)] (.long (0 : Int64)) := o163_1
        have Zn163 : n0 ≤ h163.size := Nat.le_trans Z0 Kq163.1
        refine Goes.st (B := T163.setTop (mkF m 28 #[.val (.int x0), .val (.long x1), .second, .val (.long x2), .second, .val (.long x3), .second, .val (.long x4), .second, .val (.int (2 : Int32)), .val (.int (0 : Int32)), .unset, .unset, .unset, .unset, .unset, .unset, .unset, .unset] [(.ref b163)])) st163 ?_
        refine Goes.run X163 hx hown hci hcl hby (L := [(28, .astore 11, 2), (30, .iload 10, 2), (32, .lload 5, 2), (34, .lload 7, 2)]) (by decide +kernel) rfl (g' := (mkF m 36 #[.val (.int x0), .val (.long x1), .second, .val (.long x2), .second, .val (.long x3), .second, .val (.long x4), .second, .val (.int (2 : Int32)), .val (.int (0 : Int32)), .val (.ref b163), .unset, .unset, .unset, .unset, .unset, .unset, .unset] [(.long x4), (.long x3), (.int (0 : Int32))])) rfl ?_
        obtain ⟨_, _, ⟨T164, L164, k164, n164⟩, -, X164, ⟨Lc164, hQ164, l164, y164, z164⟩, st164⟩ := Jvm.LawKit.callS X163 hx (y := (⟨"com/example/marks_across_domains/marksacrossdomains/BitsUnionPinLaw", "make", "(IJJ)[J"⟩ : MethodName)) hown (mvT hZ (hw _ (List.mem_of_getElem? (i := 0) rfl))) (mvT hZ (hw _ (List.mem_of_getElem? (i := 1) rfl))) (mvT hZ (hw _ (List.mem_of_getElem? (i := 2) rfl))) (mvT hZ (hw _ (List.mem_of_getElem? (i := 3) rfl))) (by decide) (backOf (W := 0) (rm20 l Z a0 hw [] x3 x4 h163 n0 Zn163 ) hZ (hw _ (List.mem_of_getElem? (i := 3) rfl)) (hw _ (List.mem_of_getElem? (i := 2) rfl)) (by decide) (by decide)) (g := (mkF m 36 #[.val (.int x0), .val (.long x1), .second, .val (.long x2), .second, .val (.long x3), .second, .val (.long x4), .second, .val (.int (2 : Int32)), .val (.int (0 : Int32)), .val (.ref b163), .unset, .unset, .unset, .unset, .unset, .unset, .unset] [(.long x4), (.long x3), (.int (0 : Int32))])) rfl (by rw [hml]; rfl) (argsL := [(.int (0 : Int32)), (.long x3), (.long x4)]) (rest := []) (lenOf pd0_0 rfl) rfl (by show 2 * 0 + _ ≤ _; exact Nat.le_of_eq rfl) (hb hby at_36) (fun _ _ => ⟨rfl, e163, (by decide : 1 + 1 ≤ _), (by decide : 2 + 0 ≤ _)⟩)
        dsimp only [Pt.U, Pt.locs, Pt.cells, Pt.slots] at X164 l164 y164 z164 st164 hQ164
        subst l164 y164 z164
        obtain ⟨h164, eh164⟩ : ∃ z, z = T164.heap := ⟨_, rfl⟩
        rw [← eh164] at hQ164
        have e164 : T164.heap = h164 := eh164.symm
        obtain ⟨b164, kc164, rfl, N164q, Kq164, szq164, o164_0, o164_1⟩ := hQ164
        have ne_b163_b164 : b163 ≠ b164 := Nat.ne_of_lt (Nat.lt_of_lt_of_le E_b163.lt szq164)
        have g_b164 : n0 ≤ b164 := Nat.le_trans Zn163 szq164
        have N164 := Fr.app N163 N164q
        have E_b163 := E_b163.keep Kq164
        have V_b163 := V_b163.keep Kq164 nin0
        have E_b164 : Exa Z h164 b164 "[J" := o164_0
        have V_b164 : Arv Z h164 b164 kc164 .long (0 : Int32) [] (.long (0 : Int64)) := o164_1
        have Zn164 : n0 ≤ h164.size := Nat.le_trans Zn163 Kq164.1
        refine Goes.st (B := T164.setTop (mkF m 39 #[.val (.int x0), .val (.long x1), .second, .val (.long x2), .second, .val (.long x3), .second, .val (.long x4), .second, .val (.int (2 : Int32)), .val (.int (0 : Int32)), .val (.ref b163), .unset, .unset, .unset, .unset, .unset, .unset, .unset] [(.ref b164)])) st164 ?_
        refine Goes.run X164 hx hown hci hcl hby (L := [(39, .astore 12, 2), (41, .aload 11, 2), (43, .aload 12, 2)]) (by decide +kernel) rfl (g' := (mkF m 45 #[.val (.int x0), .val (.long x1), .second, .val (.long x2), .second, .val (.long x3), .second, .val (.long x4), .second, .val (.int (2 : Int32)), .val (.int (0 : Int32)), .val (.ref b163), .val (.ref b164), .unset, .unset, .unset, .unset, .unset, .unset] [(.ref b164), (.ref b163)])) rfl ?_
        obtain ⟨_, _, ⟨T165, L165, k165, n165⟩, -, X165, ⟨Lc165, hQ165, l165, y165, z165⟩, st165⟩ := Jvm.LawKit.callS X164 hx (y := (⟨"com/example/marks_across_domains/marksacrossdomains/Bits", "union", "([J[J)[J"⟩ : MethodName)) hown (mvT hZ (hw _ (List.mem_of_getElem? (i := 5) rfl))) (mvT hZ (hw _ (List.mem_of_getElem? (i := 6) rfl))) (mvT hZ (hw _ (List.mem_of_getElem? (i := 7) rfl))) (mvT hZ (hw _ (List.mem_of_getElem? (i := 8) rfl))) (by decide) (backOf (W := 0) (rm320 l Z a0 hw [] b163 b164 kc163 kc164 x1 x2 h164 n0 Zn164 E_b163 V_b163 E_b164 V_b164) hZ (hw _ (List.mem_of_getElem? (i := 8) rfl)) (hw _ (List.mem_of_getElem? (i := 7) rfl)) (by decide) (by decide)) (g := (mkF m 45 #[.val (.int x0), .val (.long x1), .second, .val (.long x2), .second, .val (.long x3), .second, .val (.long x4), .second, .val (.int (2 : Int32)), .val (.int (0 : Int32)), .val (.ref b163), .val (.ref b164), .unset, .unset, .unset, .unset, .unset, .unset] [(.ref b164), (.ref b163)])) rfl (by rw [hml]; rfl) (argsL := [(.ref b163), (.ref b164)]) (rest := []) (lenOf pd0_1 rfl) rfl (by show 2 * 0 + _ ≤ _; exact Nat.le_of_eq rfl) (hb hby at_45) (fun _ _ => ⟨rfl, e164, (by decide : 2 + 1 ≤ _), (by decide : 2 + 2 ≤ _)⟩)
        dsimp only [Pt.U, Pt.locs, Pt.cells, Pt.slots] at X165 l165 y165 z165 st165 hQ165
        subst l165 y165 z165
        obtain ⟨h165, eh165⟩ : ∃ z, z = T165.heap := ⟨_, rfl⟩
        rw [← eh165] at hQ165
        have e165 : T165.heap = h165 := eh165.symm
        obtain ⟨b165, kc165, rfl, N165q, Kq165, szq165, o165_0, o165_1⟩ := hQ165
        have ne_b163_b165 : b163 ≠ b165 := Nat.ne_of_lt (Nat.lt_of_lt_of_le E_b163.lt szq165)
        have ne_b164_b165 : b164 ≠ b165 := Nat.ne_of_lt (Nat.lt_of_lt_of_le E_b164.lt szq165)
        have g_b165 : n0 ≤ b165 := Nat.le_trans Zn164 szq165
        have N165 := Fr.app N164 N165q
        have E_b163 := E_b163.keep Kq165
        have V_b163 := V_b163.keep Kq165 nin0
        have E_b164 := E_b164.keep Kq165
        have V_b164 := V_b164.keep Kq165 nin0
        have E_b165 : Exa Z h165 b165 "[J" := o165_0
        have V_b165 : Arv Z h165 b165 kc165 .long (2 : Int32) [(.long x1), (.long x2)] (.long (0 : Int64)) := o165_1
        have Zn165 : n0 ≤ h165.size := Nat.le_trans Zn164 Kq165.1
        refine Goes.st (B := T165.setTop (mkF m 48 #[.val (.int x0), .val (.long x1), .second, .val (.long x2), .second, .val (.long x3), .second, .val (.long x4), .second, .val (.int (2 : Int32)), .val (.int (0 : Int32)), .val (.ref b163), .val (.ref b164), .unset, .unset, .unset, .unset, .unset, .unset] [(.ref b165)])) st165 ?_
        refine Goes.run X165 hx hown hci hcl hby (L := [(48, .astore 13, 2), (50, .iload 9, 2), (52, .iload 10, 2)]) (by decide +kernel) rfl (g' := (mkF m 54 #[.val (.int x0), .val (.long x1), .second, .val (.long x2), .second, .val (.long x3), .second, .val (.long x4), .second, .val (.int (2 : Int32)), .val (.int (0 : Int32)), .val (.ref b163), .val (.ref b164), .val (.ref b165), .unset, .unset, .unset, .unset, .unset] [(.int (0 : Int32)), (.int (2 : Int32))])) rfl ?_
        obtain ⟨_, _, ⟨T166, L166, k166, n166⟩, -, X166, ⟨Lc166, hQ166, l166, y166, z166⟩, st166⟩ := Jvm.LawKit.callS X165 hx (y := (⟨"java/lang/Math", "max", "(II)I"⟩ : MethodName)) hown (mvT hZ (hw _ (List.mem_of_getElem? (i := 18) rfl))) (mvT hZ (hw _ (List.mem_of_getElem? (i := 19) rfl))) (mvT hZ (hw _ (List.mem_of_getElem? (i := 20) rfl))) (mvT hZ (hw _ (List.mem_of_getElem? (i := 21) rfl))) (by decide) (backOf (W := 0) (rm1 l Z a0 hw [] (2 : Int32) (0 : Int32) h165 n0 Zn165 ) hZ (hw _ (List.mem_of_getElem? (i := 21) rfl)) (hw _ (List.mem_of_getElem? (i := 20) rfl)) (by decide) (by decide)) (g := (mkF m 54 #[.val (.int x0), .val (.long x1), .second, .val (.long x2), .second, .val (.long x3), .second, .val (.long x4), .second, .val (.int (2 : Int32)), .val (.int (0 : Int32)), .val (.ref b163), .val (.ref b164), .val (.ref b165), .unset, .unset, .unset, .unset, .unset] [(.int (0 : Int32)), (.int (2 : Int32))])) rfl (by rw [hml]; rfl) (argsL := [(.int (2 : Int32)), (.int (0 : Int32))]) (rest := []) (lenOf pd0_2 rfl) rfl (by show 2 * 0 + _ ≤ _; exact Nat.le_of_eq rfl) (hb hby at_54) (fun _ _ => ⟨rfl, e165, (by decide : 3 + 0 ≤ _), (by decide : 4 + 0 ≤ _)⟩)
        dsimp only [Pt.U, Pt.locs, Pt.cells, Pt.slots] at X166 l166 y166 z166 st166 hQ166
        subst l166 y166 z166
        obtain ⟨rfl, N166q, e166⟩ := hQ166
        have N166 := Fr.app N165 N166q
        refine Goes.st (B := T166.setTop (mkF m 57 #[.val (.int x0), .val (.long x1), .second, .val (.long x2), .second, .val (.long x3), .second, .val (.long x4), .second, .val (.int (2 : Int32)), .val (.int (0 : Int32)), .val (.ref b163), .val (.ref b164), .val (.ref b165), .unset, .unset, .unset, .unset, .unset] [(.int (2 : Int32))])) st166 ?_
        refine Goes.run X166 hx hown hci hcl hby (L := [(57, .istore 14, 2), (59, .aload 13, 2)]) (by decide +kernel) rfl (g' := (mkF m 61 #[.val (.int x0), .val (.long x1), .second, .val (.long x2), .second, .val (.long x3), .second, .val (.long x4), .second, .val (.int (2 : Int32)), .val (.int (0 : Int32)), .val (.ref b163), .val (.ref b164), .val (.ref b165), .val (.int (2 : Int32)), .unset, .unset, .unset, .unset] [(.ref b165)])) rfl ?_
        obtain ⟨cl167, Ar167, q167, S167, M167, Hs167, G167⟩ := id V_b165
        refine Goes.st (B := T166.setTop (mkF m 62 #[.val (.int x0), .val (.long x1), .second, .val (.long x2), .second, .val (.long x3), .second, .val (.long x4), .second, .val (.int (2 : Int32)), .val (.int (0 : Int32)), .val (.ref b163), .val (.ref b164), .val (.ref b165), .val (.int (2 : Int32)), .unset, .unset, .unset, .unset] [(.int (2 : Int32))])) (fun t k => ?_) ?_
        · refine X166.arraylength hx (cell := cl167) (by rw [e166]; exact Ar167.1) (State.isArrayOf_alike hZ.alike Ar167.2.1) (g := (mkF m 61 #[.val (.int x0), .val (.long x1), .second, .val (.long x2), .second, .val (.long x3), .second, .val (.long x4), .second, .val (.int (2 : Int32)), .val (.int (0 : Int32)), .val (.ref b163), .val (.ref b164), .val (.ref b165), .val (.int (2 : Int32)), .unset, .unset, .unset, .unset] [(.ref b165)])) rfl (rest := []) rfl (hb hby at_61) _ ?_
          rw [len_of S167 M167]
          exact k
        refine Goes.run X166 hx hown hci hcl hby (L := [(62, .iload 14, 2)]) (by decide +kernel) rfl (g' := (mkF m 64 #[.val (.int x0), .val (.long x1), .second, .val (.long x2), .second, .val (.long x3), .second, .val (.long x4), .second, .val (.int (2 : Int32)), .val (.int (0 : Int32)), .val (.ref b163), .val (.ref b164), .val (.ref b165), .val (.int (2 : Int32)), .unset, .unset, .unset, .unset] [(.int (2 : Int32)), (.int (2 : Int32))])) rfl ?_
        have hc64_168 : (2 : Int32) = (2 : Int32) := rfl
        refine Goes.st (B := T166.setTop (mkF m 69 #[.val (.int x0), .val (.long x1), .second, .val (.long x2), .second, .val (.long x3), .second, .val (.long x4), .second, .val (.int (2 : Int32)), .val (.int (0 : Int32)), .val (.ref b163), .val (.ref b164), .val (.ref b165), .val (.int (2 : Int32)), .unset, .unset, .unset, .unset] [])) (fun t k => ?_) ?_
        · refine XS.icmpYes X166.here hx rfl (pc0 := 64) (pc' := 69) rfl (hb hby at_64) rfl (teq hc64_168).1 (by decide) (by decide) ?_
          exact k
        refine Goes.run X166 hx hown hci hcl hby (L := [(69, .iload 9, 2)]) (by decide +kernel) rfl (g' := (mkF m 71 #[.val (.int x0), .val (.long x1), .second, .val (.long x2), .second, .val (.long x3), .second, .val (.long x4), .second, .val (.int (2 : Int32)), .val (.int (0 : Int32)), .val (.ref b163), .val (.ref b164), .val (.ref b165), .val (.int (2 : Int32)), .unset, .unset, .unset, .unset] [(.int (2 : Int32))])) rfl ?_
        have hc71_169 : (0 : Int32) < (2 : Int32) := by decide
        refine Goes.st (B := T166.setTop (mkF m 74 #[.val (.int x0), .val (.long x1), .second, .val (.long x2), .second, .val (.long x3), .second, .val (.long x4), .second, .val (.int (2 : Int32)), .val (.int (0 : Int32)), .val (.ref b163), .val (.ref b164), .val (.ref b165), .val (.int (2 : Int32)), .unset, .unset, .unset, .unset] [])) (fun t k => ?_) ?_
        · refine XS.ifNo X166.here hx rfl (hb hby at_71) rfl ((if0 _ _).trans (tlt hc71_169).2.2.2) ?_
          exact k
        refine Goes.run X166 hx hown hci hcl hby (L := [(74, .lload_n 1, 1), (75, .goto 4, 3), (79, .iload 10, 2)]) (by decide +kernel) rfl (g' := (mkF m 81 #[.val (.int x0), .val (.long x1), .second, .val (.long x2), .second, .val (.long x3), .second, .val (.long x4), .second, .val (.int (2 : Int32)), .val (.int (0 : Int32)), .val (.ref b163), .val (.ref b164), .val (.ref b165), .val (.int (2 : Int32)), .unset, .unset, .unset, .unset] [(.int (0 : Int32)), (.long x1)])) rfl ?_
        have hc81_170 : ¬ ((0 : Int32) < (0 : Int32)) := Int32.lt_irrefl
        refine Goes.st (B := T166.setTop (mkF m 89 #[.val (.int x0), .val (.long x1), .second, .val (.long x2), .second, .val (.long x3), .second, .val (.long x4), .second, .val (.int (2 : Int32)), .val (.int (0 : Int32)), .val (.ref b163), .val (.ref b164), .val (.ref b165), .val (.int (2 : Int32)), .unset, .unset, .unset, .unset] [(.long x1)])) (fun t k => ?_) ?_
        · refine XS.ifYes X166.here hx rfl (pc0 := 81) (pc' := 89) rfl (hb hby at_81) rfl ((if0 _ _).trans (flt hc81_170).2.2.2) (by decide) (by decide) ?_
          exact k
        refine Goes.run X166 hx hown hci hcl hby (L := [(89, .lconst 0, 1), (90, .lor, 1), (91, .lstore 15, 2), (93, .iload 9, 2), (95, .iconst 1, 1)]) (by decide +kernel) rfl (g' := (mkF m 96 #[.val (.int x0), .val (.long x1), .second, .val (.long x2), .second, .val (.long x3), .second, .val (.long x4), .second, .val (.int (2 : Int32)), .val (.int (0 : Int32)), .val (.ref b163), .val (.ref b164), .val (.ref b165), .val (.int (2 : Int32)), .val (.long (w0_91_b x0 x1 x2 x3 x4)), .second, .unset, .unset] [(.int (1 : Int32)), (.int (2 : Int32))])) rfl ?_
        have hc96_171 : (1 : Int32) < (2 : Int32) := by decide
        refine Goes.st (B := T166.setTop (mkF m 99 #[.val (.int x0), .val (.long x1), .second, .val (.long x2), .second, .val (.long x3), .second, .val (.long x4), .second, .val (.int (2 : Int32)), .val (.int (0 : Int32)), .val (.ref b163), .val (.ref b164), .val (.ref b165), .val (.int (2 : Int32)), .val (.long (w0_91_b x0 x1 x2 x3 x4)), .second, .unset, .unset] [])) (fun t k => ?_) ?_
        · refine XS.icmpNo X166.here hx rfl (hb hby at_96) rfl (tlt hc96_171).2.2.2 ?_
          exact k
        refine Goes.run X166 hx hown hci hcl hby (L := [(99, .lload_n 3, 1), (100, .goto 4, 3), (104, .iload 10, 2), (106, .iconst 1, 1)]) (by decide +kernel) rfl (g' := (mkF m 107 #[.val (.int x0), .val (.long x1), .second, .val (.long x2), .second, .val (.long x3), .second, .val (.long x4), .second, .val (.int (2 : Int32)), .val (.int (0 : Int32)), .val (.ref b163), .val (.ref b164), .val (.ref b165), .val (.int (2 : Int32)), .val (.long (w0_91_b x0 x1 x2 x3 x4)), .second, .unset, .unset] [(.int (1 : Int32)), (.int (0 : Int32)), (.long x2)])) rfl ?_
        have hc107_172 : ¬ ((1 : Int32) < (0 : Int32)) := by decide
        refine Goes.st (B := T166.setTop (mkF m 115 #[.val (.int x0), .val (.long x1), .second, .val (.long x2), .second, .val (.long x3), .second, .val (.long x4), .second, .val (.int (2 : Int32)), .val (.int (0 : Int32)), .val (.ref b163), .val (.ref b164), .val (.ref b165), .val (.int (2 : Int32)), .val (.long (w0_91_b x0 x1 x2 x3 x4)), .second, .unset, .unset] [(.long x2)])) (fun t k => ?_) ?_
        · refine XS.icmpYes X166.here hx rfl (pc0 := 107) (pc' := 115) rfl (hb hby at_107) rfl (flt hc107_172).2.2.2 (by decide) (by decide) ?_
          exact k
        refine Goes.run X166 hx hown hci hcl hby (L := [(115, .lconst 0, 1), (116, .lor, 1), (117, .lstore 17, 2), (119, .iload 14, 2)]) (by decide +kernel) rfl (g' := (mkF m 121 #[.val (.int x0), .val (.long x1), .second, .val (.long x2), .second, .val (.long x3), .second, .val (.long x4), .second, .val (.int (2 : Int32)), .val (.int (0 : Int32)), .val (.ref b163), .val (.ref b164), .val (.ref b165), .val (.int (2 : Int32)), .val (.long (w0_91_b x0 x1 x2 x3 x4)), .second, .val (.long (w0_117_a x0 x1 x2 x3 x4)), .second] [(.int (2 : Int32))])) rfl ?_
        have hc121_173 : (0 : Int32) < (2 : Int32) := by decide
        refine Goes.st (B := T166.setTop (mkF m 124 #[.val (.int x0), .val (.long x1), .second, .val (.long x2), .second, .val (.long x3), .second, .val (.long x4), .second, .val (.int (2 : Int32)), .val (.int (0 : Int32)), .val (.ref b163), .val (.ref b164), .val (.ref b165), .val (.int (2 : Int32)), .val (.long (w0_91_b x0 x1 x2 x3 x4)), .second, .val (.long (w0_117_a x0 x1 x2 x3 x4)), .second] [])) (fun t k => ?_) ?_
        · refine XS.ifNo X166.here hx rfl (hb hby at_121) rfl ((if0 _ _).trans (tlt hc121_173).2.2.2) ?_
          exact k
        refine Goes.run X166 hx hown hci hcl hby (L := [(124, .aload 13, 2), (126, .iconst 0, 1)]) (by decide +kernel) rfl (g' := (mkF m 127 #[.val (.int x0), .val (.long x1), .second, .val (.long x2), .second, .val (.long x3), .second, .val (.long x4), .second, .val (.int (2 : Int32)), .val (.int (0 : Int32)), .val (.ref b163), .val (.ref b164), .val (.ref b165), .val (.int (2 : Int32)), .val (.long (w0_91_b x0 x1 x2 x3 x4)), .second, .val (.long (w0_117_a x0 x1 x2 x3 x4)), .second] [(.int (0 : Int32)), (.ref b165)])) rfl ?_
        obtain ⟨cl174, Ar174, q174, S174, M174, Hs174, G174⟩ := id V_b165
        have hin174 : ¬ ((0 : Int32) < 0 ∨ cl174.slots.size ≤ ((0 : Int32)).toNatClampNeg) := inb_of S174 ⟨(by decide), (by decide)⟩
        have hat174 : cl174.slots[((0 : Int32)).toNatClampNeg]? = some (.long x1) := Hs174.at hin174 rfl
        refine Goes.st (B := T166.setTop (mkF m 128 #[.val (.int x0), .val (.long x1), .second, .val (.long x2), .second, .val (.long x3), .second, .val (.long x4), .second, .val (.int (2 : Int32)), .val (.int (0 : Int32)), .val (.ref b163), .val (.ref b164), .val (.ref b165), .val (.int (2 : Int32)), .val (.long (w0_91_b x0 x1 x2 x3 x4)), .second, .val (.long (w0_117_a x0 x1 x2 x3 x4)), .second] [(.long x1)])) (X166.laload hx (j := (0 : Int32)) (v := (.long x1)) (by rw [e166]; exact Ar174.1) (State.isArrayOf_alike hZ.alike Ar174.2.1) Ar174.2.2 hin174 hat174 (g := (mkF m 127 #[.val (.int x0), .val (.long x1), .second, .val (.long x2), .second, .val (.long x3), .second, .val (.long x4), .second, .val (.int (2 : Int32)), .val (.int (0 : Int32)), .val (.ref b163), .val (.ref b164), .val (.ref b165), .val (.int (2 : Int32)), .val (.long (w0_91_b x0 x1 x2 x3 x4)), .second, .val (.long (w0_117_a x0 x1 x2 x3 x4)), .second] [(.int (0 : Int32)), (.ref b165)])) rfl rfl (hb hby at_127)) ?_
        refine Goes.run X166 hx hown hci hcl hby (L := [(128, .lload 15, 2), (130, .lcmp, 1)]) (by decide +kernel) rfl (g' := (mkF m 131 #[.val (.int x0), .val (.long x1), .second, .val (.long x2), .second, .val (.long x3), .second, .val (.long x4), .second, .val (.int (2 : Int32)), .val (.int (0 : Int32)), .val (.ref b163), .val (.ref b164), .val (.ref b165), .val (.int (2 : Int32)), .val (.long (w0_91_b x0 x1 x2 x3 x4)), .second, .val (.long (w0_117_a x0 x1 x2 x3 x4)), .second] [(.int (lcmpW x1 (w0_91_b x0 x1 x2 x3 x4)))])) rfl ?_
        by_cases hc131_175 : x1 = (w0_91_b x0 x1 x2 x3 x4)
        · skip
          refine Goes.st (B := T166.setTop (mkF m 136 #[.val (.int x0), .val (.long x1), .second, .val (.long x2), .second, .val (.long x3), .second, .val (.long x4), .second, .val (.int (2 : Int32)), .val (.int (0 : Int32)), .val (.ref b163), .val (.ref b164), .val (.ref b165), .val (.int (2 : Int32)), .val (.long (w0_91_b x0 x1 x2 x3 x4)), .second, .val (.long (w0_117_a x0 x1 x2 x3 x4)), .second] [])) (fun t k => ?_) ?_
          · refine XS.ifYes X166.here hx rfl (pc0 := 131) (pc' := 136) rfl (hb hby at_131) rfl (teqL hc131_175).1 (by decide) (by decide) ?_
            exact k
          refine Goes.run X166 hx hown hci hcl hby (L := [(136, .iload 14, 2), (138, .iconst 1, 1)]) (by decide +kernel) rfl (g' := (mkF m 139 #[.val (.int x0), .val (.long x1), .second, .val (.long x2), .second, .val (.long x3), .second, .val (.long x4), .second, .val (.int (2 : Int32)), .val (.int (0 : Int32)), .val (.ref b163), .val (.ref b164), .val (.ref b165), .val (.int (2 : Int32)), .val (.long (w0_91_b x0 x1 x2 x3 x4)), .second, .val (.long (w0_117_a x0 x1 x2 x3 x4)), .second] [(.int (1 : Int32)), (.int (2 : Int32))])) rfl ?_
          have hc139_176 : (1 : Int32) < (2 : Int32) := by decide
          refine Goes.st (B := T166.setTop (mkF m 142 #[.val (.int x0), .val (.long x1), .second, .val (.long x2), .second, .val (.long x3), .second, .val (.long x4), .second, .val (.int (2 : Int32)), .val (.int (0 : Int32)), .val (.ref b163), .val (.ref b164), .val (.ref b165), .val (.int (2 : Int32)), .val (.long (w0_91_b x0 x1 x2 x3 x4)), .second, .val (.long (w0_117_a x0 x1 x2 x3 x4)), .second] [])) (fun t k => ?_) ?_
          · refine XS.icmpNo X166.here hx rfl (hb hby at_139) rfl (tlt hc139_176).2.2.2 ?_
            exact k
          refine Goes.run X166 hx hown hci hcl hby (L := [(142, .aload 13, 2), (144, .iconst 1, 1)]) (by decide +kernel) rfl (g' := (mkF m 145 #[.val (.int x0), .val (.long x1), .second, .val (.long x2), .second, .val (.long x3), .second, .val (.long x4), .second, .val (.int (2 : Int32)), .val (.int (0 : Int32)), .val (.ref b163), .val (.ref b164), .val (.ref b165), .val (.int (2 : Int32)), .val (.long (w0_91_b x0 x1 x2 x3 x4)), .second, .val (.long (w0_117_a x0 x1 x2 x3 x4)), .second] [(.int (1 : Int32)), (.ref b165)])) rfl ?_
          obtain ⟨cl177, Ar177, q177, S177, M177, Hs177, G177⟩ := id V_b165
          have hin177 : ¬ ((1 : Int32) < 0 ∨ cl177.slots.size ≤ ((1 : Int32)).toNatClampNeg) := inb_of S177 ⟨(by decide), (by decide)⟩
          have hat177 : cl177.slots[((1 : Int32)).toNatClampNeg]? = some (.long x2) := Hs177.at hin177 rfl
          refine Goes.st (B := T166.setTop (mkF m 146 #[.val (.int x0), .val (.long x1), .second, .val (.long x2), .second, .val (.long x3), .second, .val (.long x4), .second, .val (.int (2 : Int32)), .val (.int (0 : Int32)), .val (.ref b163), .val (.ref b164), .val (.ref b165), .val (.int (2 : Int32)), .val (.long (w0_91_b x0 x1 x2 x3 x4)), .second, .val (.long (w0_117_a x0 x1 x2 x3 x4)), .second] [(.long x2)])) (X166.laload hx (j := (1 : Int32)) (v := (.long x2)) (by rw [e166]; exact Ar177.1) (State.isArrayOf_alike hZ.alike Ar177.2.1) Ar177.2.2 hin177 hat177 (g := (mkF m 145 #[.val (.int x0), .val (.long x1), .second, .val (.long x2), .second, .val (.long x3), .second, .val (.long x4), .second, .val (.int (2 : Int32)), .val (.int (0 : Int32)), .val (.ref b163), .val (.ref b164), .val (.ref b165), .val (.int (2 : Int32)), .val (.long (w0_91_b x0 x1 x2 x3 x4)), .second, .val (.long (w0_117_a x0 x1 x2 x3 x4)), .second] [(.int (1 : Int32)), (.ref b165)])) rfl rfl (hb hby at_145)) ?_
          refine Goes.run X166 hx hown hci hcl hby (L := [(146, .lload 17, 2), (148, .lcmp, 1)]) (by decide +kernel) rfl (g' := (mkF m 149 #[.val (.int x0), .val (.long x1), .second, .val (.long x2), .second, .val (.long x3), .second, .val (.long x4), .second, .val (.int (2 : Int32)), .val (.int (0 : Int32)), .val (.ref b163), .val (.ref b164), .val (.ref b165), .val (.int (2 : Int32)), .val (.long (w0_91_b x0 x1 x2 x3 x4)), .second, .val (.long (w0_117_a x0 x1 x2 x3 x4)), .second] [(.int (lcmpW x2 (w0_117_a x0 x1 x2 x3 x4)))])) rfl ?_
          by_cases hc149_178 : x2 = (w0_117_a x0 x1 x2 x3 x4)
          · skip
            refine Goes.st (B := T166.setTop (mkF m 154 #[.val (.int x0), .val (.long x1), .second, .val (.long x2), .second, .val (.long x3), .second, .val (.long x4), .second, .val (.int (2 : Int32)), .val (.int (0 : Int32)), .val (.ref b163), .val (.ref b164), .val (.ref b165), .val (.int (2 : Int32)), .val (.long (w0_91_b x0 x1 x2 x3 x4)), .second, .val (.long (w0_117_a x0 x1 x2 x3 x4)), .second] [])) (fun t k => ?_) ?_
            · refine XS.ifYes X166.here hx rfl (pc0 := 149) (pc' := 154) rfl (hb hby at_149) rfl (teqL hc149_178).1 (by decide) (by decide) ?_
              exact k
            refine Goes.run X166 hx hown hci hcl hby (L := [(154, .aload 11, 2)]) (by decide +kernel) rfl (g' := (mkF m 156 #[.val (.int x0), .val (.long x1), .second, .val (.long x2), .second, .val (.long x3), .second, .val (.long x4), .second, .val (.int (2 : Int32)), .val (.int (0 : Int32)), .val (.ref b163), .val (.ref b164), .val (.ref b165), .val (.int (2 : Int32)), .val (.long (w0_91_b x0 x1 x2 x3 x4)), .second, .val (.long (w0_117_a x0 x1 x2 x3 x4)), .second] [(.ref b163)])) rfl ?_
            obtain ⟨cl179, Ar179, q179, S179, M179, Hs179, G179⟩ := id V_b163
            refine Goes.st (B := T166.setTop (mkF m 157 #[.val (.int x0), .val (.long x1), .second, .val (.long x2), .second, .val (.long x3), .second, .val (.long x4), .second, .val (.int (2 : Int32)), .val (.int (0 : Int32)), .val (.ref b163), .val (.ref b164), .val (.ref b165), .val (.int (2 : Int32)), .val (.long (w0_91_b x0 x1 x2 x3 x4)), .second, .val (.long (w0_117_a x0 x1 x2 x3 x4)), .second] [(.int (2 : Int32))])) (fun t k => ?_) ?_
            · refine X166.arraylength hx (cell := cl179) (by rw [e166]; exact Ar179.1) (State.isArrayOf_alike hZ.alike Ar179.2.1) (g := (mkF m 156 #[.val (.int x0), .val (.long x1), .second, .val (.long x2), .second, .val (.long x3), .second, .val (.long x4), .second, .val (.int (2 : Int32)), .val (.int (0 : Int32)), .val (.ref b163), .val (.ref b164), .val (.ref b165), .val (.int (2 : Int32)), .val (.long (w0_91_b x0 x1 x2 x3 x4)), .second, .val (.long (w0_117_a x0 x1 x2 x3 x4)), .second] [(.ref b163)])) rfl (rest := []) rfl (hb hby at_156) _ ?_
              rw [len_of S179 M179]
              exact k
            refine Goes.run X166 hx hown hci hcl hby (L := [(157, .iload 9, 2)]) (by decide +kernel) rfl (g' := (mkF m 159 #[.val (.int x0), .val (.long x1), .second, .val (.long x2), .second, .val (.long x3), .second, .val (.long x4), .second, .val (.int (2 : Int32)), .val (.int (0 : Int32)), .val (.ref b163), .val (.ref b164), .val (.ref b165), .val (.int (2 : Int32)), .val (.long (w0_91_b x0 x1 x2 x3 x4)), .second, .val (.long (w0_117_a x0 x1 x2 x3 x4)), .second] [(.int (2 : Int32)), (.int (2 : Int32))])) rfl ?_
            have hc159_180 : (2 : Int32) = (2 : Int32) := rfl
            refine Goes.st (B := T166.setTop (mkF m 162 #[.val (.int x0), .val (.long x1), .second, .val (.long x2), .second, .val (.long x3), .second, .val (.long x4), .second, .val (.int (2 : Int32)), .val (.int (0 : Int32)), .val (.ref b163), .val (.ref b164), .val (.ref b165), .val (.int (2 : Int32)), .val (.long (w0_91_b x0 x1 x2 x3 x4)), .second, .val (.long (w0_117_a x0 x1 x2 x3 x4)), .second] [])) (fun t k => ?_) ?_
            · refine XS.icmpNo X166.here hx rfl (hb hby at_159) rfl (teq hc159_180).2 ?_
              exact k
            refine Goes.run X166 hx hown hci hcl hby (L := [(162, .aload 12, 2)]) (by decide +kernel) rfl (g' := (mkF m 164 #[.val (.int x0), .val (.long x1), .second, .val (.long x2), .second, .val (.long x3), .second, .val (.long x4), .second, .val (.int (2 : Int32)), .val (.int (0 : Int32)), .val (.ref b163), .val (.ref b164), .val (.ref b165), .val (.int (2 : Int32)), .val (.long (w0_91_b x0 x1 x2 x3 x4)), .second, .val (.long (w0_117_a x0 x1 x2 x3 x4)), .second] [(.ref b164)])) rfl ?_
            obtain ⟨cl181, Ar181, q181, S181, M181, Hs181, G181⟩ := id V_b164
            refine Goes.st (B := T166.setTop (mkF m 165 #[.val (.int x0), .val (.long x1), .second, .val (.long x2), .second, .val (.long x3), .second, .val (.long x4), .second, .val (.int (2 : Int32)), .val (.int (0 : Int32)), .val (.ref b163), .val (.ref b164), .val (.ref b165), .val (.int (2 : Int32)), .val (.long (w0_91_b x0 x1 x2 x3 x4)), .second, .val (.long (w0_117_a x0 x1 x2 x3 x4)), .second] [(.int (0 : Int32))])) (fun t k => ?_) ?_
            · refine X166.arraylength hx (cell := cl181) (by rw [e166]; exact Ar181.1) (State.isArrayOf_alike hZ.alike Ar181.2.1) (g := (mkF m 164 #[.val (.int x0), .val (.long x1), .second, .val (.long x2), .second, .val (.long x3), .second, .val (.long x4), .second, .val (.int (2 : Int32)), .val (.int (0 : Int32)), .val (.ref b163), .val (.ref b164), .val (.ref b165), .val (.int (2 : Int32)), .val (.long (w0_91_b x0 x1 x2 x3 x4)), .second, .val (.long (w0_117_a x0 x1 x2 x3 x4)), .second] [(.ref b164)])) rfl (rest := []) rfl (hb hby at_164) _ ?_
              rw [len_of S181 M181]
              exact k
            refine Goes.run X166 hx hown hci hcl hby (L := [(165, .iload 10, 2)]) (by decide +kernel) rfl (g' := (mkF m 167 #[.val (.int x0), .val (.long x1), .second, .val (.long x2), .second, .val (.long x3), .second, .val (.long x4), .second, .val (.int (2 : Int32)), .val (.int (0 : Int32)), .val (.ref b163), .val (.ref b164), .val (.ref b165), .val (.int (2 : Int32)), .val (.long (w0_91_b x0 x1 x2 x3 x4)), .second, .val (.long (w0_117_a x0 x1 x2 x3 x4)), .second] [(.int (0 : Int32)), (.int (0 : Int32))])) rfl ?_
            have hc167_182 : (0 : Int32) = (0 : Int32) := rfl
            refine Goes.st (B := T166.setTop (mkF m 172 #[.val (.int x0), .val (.long x1), .second, .val (.long x2), .second, .val (.long x3), .second, .val (.long x4), .second, .val (.int (2 : Int32)), .val (.int (0 : Int32)), .val (.ref b163), .val (.ref b164), .val (.ref b165), .val (.int (2 : Int32)), .val (.long (w0_91_b x0 x1 x2 x3 x4)), .second, .val (.long (w0_117_a x0 x1 x2 x3 x4)), .second] [])) (fun t k => ?_) ?_
            · refine XS.icmpYes X166.here hx rfl (pc0 := 167) (pc' := 172) rfl (hb hby at_167) rfl (teq hc167_182).1 (by decide) (by decide) ?_
              exact k
            refine Goes.run X166 hx hown hci hcl hby (L := [(172, .iload 9, 2)]) (by decide +kernel) rfl (g' := (mkF m 174 #[.val (.int x0), .val (.long x1), .second, .val (.long x2), .second, .val (.long x3), .second, .val (.long x4), .second, .val (.int (2 : Int32)), .val (.int (0 : Int32)), .val (.ref b163), .val (.ref b164), .val (.ref b165), .val (.int (2 : Int32)), .val (.long (w0_91_b x0 x1 x2 x3 x4)), .second, .val (.long (w0_117_a x0 x1 x2 x3 x4)), .second] [(.int (2 : Int32))])) rfl ?_
            have hc174_183 : (0 : Int32) < (2 : Int32) := by decide
            refine Goes.st (B := T166.setTop (mkF m 177 #[.val (.int x0), .val (.long x1), .second, .val (.long x2), .second, .val (.long x3), .second, .val (.long x4), .second, .val (.int (2 : Int32)), .val (.int (0 : Int32)), .val (.ref b163), .val (.ref b164), .val (.ref b165), .val (.int (2 : Int32)), .val (.long (w0_91_b x0 x1 x2 x3 x4)), .second, .val (.long (w0_117_a x0 x1 x2 x3 x4)), .second] [])) (fun t k => ?_) ?_
            · refine XS.ifNo X166.here hx rfl (hb hby at_174) rfl ((if0 _ _).trans (tlt hc174_183).2.2.2) ?_
              exact k
            refine Goes.run X166 hx hown hci hcl hby (L := [(177, .aload 11, 2), (179, .iconst 0, 1)]) (by decide +kernel) rfl (g' := (mkF m 180 #[.val (.int x0), .val (.long x1), .second, .val (.long x2), .second, .val (.long x3), .second, .val (.long x4), .second, .val (.int (2 : Int32)), .val (.int (0 : Int32)), .val (.ref b163), .val (.ref b164), .val (.ref b165), .val (.int (2 : Int32)), .val (.long (w0_91_b x0 x1 x2 x3 x4)), .second, .val (.long (w0_117_a x0 x1 x2 x3 x4)), .second] [(.int (0 : Int32)), (.ref b163)])) rfl ?_
            obtain ⟨cl184, Ar184, q184, S184, M184, Hs184, G184⟩ := id V_b163
            have hin184 : ¬ ((0 : Int32) < 0 ∨ cl184.slots.size ≤ ((0 : Int32)).toNatClampNeg) := inb_of S184 ⟨(by decide), (by decide)⟩
            have hat184 : cl184.slots[((0 : Int32)).toNatClampNeg]? = some (.long x1) := Hs184.at hin184 rfl
            refine Goes.st (B := T166.setTop (mkF m 181 #[.val (.int x0), .val (.long x1), .second, .val (.long x2), .second, .val (.long x3), .second, .val (.long x4), .second, .val (.int (2 : Int32)), .val (.int (0 : Int32)), .val (.ref b163), .val (.ref b164), .val (.ref b165), .val (.int (2 : Int32)), .val (.long (w0_91_b x0 x1 x2 x3 x4)), .second, .val (.long (w0_117_a x0 x1 x2 x3 x4)), .second] [(.long x1)])) (X166.laload hx (j := (0 : Int32)) (v := (.long x1)) (by rw [e166]; exact Ar184.1) (State.isArrayOf_alike hZ.alike Ar184.2.1) Ar184.2.2 hin184 hat184 (g := (mkF m 180 #[.val (.int x0), .val (.long x1), .second, .val (.long x2), .second, .val (.long x3), .second, .val (.long x4), .second, .val (.int (2 : Int32)), .val (.int (0 : Int32)), .val (.ref b163), .val (.ref b164), .val (.ref b165), .val (.int (2 : Int32)), .val (.long (w0_91_b x0 x1 x2 x3 x4)), .second, .val (.long (w0_117_a x0 x1 x2 x3 x4)), .second] [(.int (0 : Int32)), (.ref b163)])) rfl rfl (hb hby at_180)) ?_
            refine Goes.run X166 hx hown hci hcl hby (L := [(181, .lload_n 1, 1), (182, .lcmp, 1)]) (by decide +kernel) rfl (g' := (mkF m 183 #[.val (.int x0), .val (.long x1), .second, .val (.long x2), .second, .val (.long x3), .second, .val (.long x4), .second, .val (.int (2 : Int32)), .val (.int (0 : Int32)), .val (.ref b163), .val (.ref b164), .val (.ref b165), .val (.int (2 : Int32)), .val (.long (w0_91_b x0 x1 x2 x3 x4)), .second, .val (.long (w0_117_a x0 x1 x2 x3 x4)), .second] [(.int (lcmpW x1 x1))])) rfl ?_
            have hc183_185 : x1 = x1 := rfl
            refine Goes.st (B := T166.setTop (mkF m 188 #[.val (.int x0), .val (.long x1), .second, .val (.long x2), .second, .val (.long x3), .second, .val (.long x4), .second, .val (.int (2 : Int32)), .val (.int (0 : Int32)), .val (.ref b163), .val (.ref b164), .val (.ref b165), .val (.int (2 : Int32)), .val (.long (w0_91_b x0 x1 x2 x3 x4)), .second, .val (.long (w0_117_a x0 x1 x2 x3 x4)), .second] [])) (fun t k => ?_) ?_
            · refine XS.ifYes X166.here hx rfl (pc0 := 183) (pc' := 188) rfl (hb hby at_183) rfl (teqL hc183_185).1 (by decide) (by decide) ?_
              exact k
            refine Goes.run X166 hx hown hci hcl hby (L := [(188, .iload 9, 2), (190, .iconst 1, 1)]) (by decide +kernel) rfl (g' := (mkF m 191 #[.val (.int x0), .val (.long x1), .second, .val (.long x2), .second, .val (.long x3), .second, .val (.long x4), .second, .val (.int (2 : Int32)), .val (.int (0 : Int32)), .val (.ref b163), .val (.ref b164), .val (.ref b165), .val (.int (2 : Int32)), .val (.long (w0_91_b x0 x1 x2 x3 x4)), .second, .val (.long (w0_117_a x0 x1 x2 x3 x4)), .second] [(.int (1 : Int32)), (.int (2 : Int32))])) rfl ?_
            have hc191_186 : (1 : Int32) < (2 : Int32) := by decide
            refine Goes.st (B := T166.setTop (mkF m 194 #[.val (.int x0), .val (.long x1), .second, .val (.long x2), .second, .val (.long x3), .second, .val (.long x4), .second, .val (.int (2 : Int32)), .val (.int (0 : Int32)), .val (.ref b163), .val (.ref b164), .val (.ref b165), .val (.int (2 : Int32)), .val (.long (w0_91_b x0 x1 x2 x3 x4)), .second, .val (.long (w0_117_a x0 x1 x2 x3 x4)), .second] [])) (fun t k => ?_) ?_
            · refine XS.icmpNo X166.here hx rfl (hb hby at_191) rfl (tlt hc191_186).2.2.2 ?_
              exact k
            refine Goes.run X166 hx hown hci hcl hby (L := [(194, .aload 11, 2), (196, .iconst 1, 1)]) (by decide +kernel) rfl (g' := (mkF m 197 #[.val (.int x0), .val (.long x1), .second, .val (.long x2), .second, .val (.long x3), .second, .val (.long x4), .second, .val (.int (2 : Int32)), .val (.int (0 : Int32)), .val (.ref b163), .val (.ref b164), .val (.ref b165), .val (.int (2 : Int32)), .val (.long (w0_91_b x0 x1 x2 x3 x4)), .second, .val (.long (w0_117_a x0 x1 x2 x3 x4)), .second] [(.int (1 : Int32)), (.ref b163)])) rfl ?_
            obtain ⟨cl187, Ar187, q187, S187, M187, Hs187, G187⟩ := id V_b163
            have hin187 : ¬ ((1 : Int32) < 0 ∨ cl187.slots.size ≤ ((1 : Int32)).toNatClampNeg) := inb_of S187 ⟨(by decide), (by decide)⟩
            have hat187 : cl187.slots[((1 : Int32)).toNatClampNeg]? = some (.long x2) := Hs187.at hin187 rfl
            refine Goes.st (B := T166.setTop (mkF m 198 #[.val (.int x0), .val (.long x1), .second, .val (.long x2), .second, .val (.long x3), .second, .val (.long x4), .second, .val (.int (2 : Int32)), .val (.int (0 : Int32)), .val (.ref b163), .val (.ref b164), .val (.ref b165), .val (.int (2 : Int32)), .val (.long (w0_91_b x0 x1 x2 x3 x4)), .second, .val (.long (w0_117_a x0 x1 x2 x3 x4)), .second] [(.long x2)])) (X166.laload hx (j := (1 : Int32)) (v := (.long x2)) (by rw [e166]; exact Ar187.1) (State.isArrayOf_alike hZ.alike Ar187.2.1) Ar187.2.2 hin187 hat187 (g := (mkF m 197 #[.val (.int x0), .val (.long x1), .second, .val (.long x2), .second, .val (.long x3), .second, .val (.long x4), .second, .val (.int (2 : Int32)), .val (.int (0 : Int32)), .val (.ref b163), .val (.ref b164), .val (.ref b165), .val (.int (2 : Int32)), .val (.long (w0_91_b x0 x1 x2 x3 x4)), .second, .val (.long (w0_117_a x0 x1 x2 x3 x4)), .second] [(.int (1 : Int32)), (.ref b163)])) rfl rfl (hb hby at_197)) ?_
            refine Goes.run X166 hx hown hci hcl hby (L := [(198, .lload_n 3, 1), (199, .lcmp, 1)]) (by decide +kernel) rfl (g' := (mkF m 200 #[.val (.int x0), .val (.long x1), .second, .val (.long x2), .second, .val (.long x3), .second, .val (.long x4), .second, .val (.int (2 : Int32)), .val (.int (0 : Int32)), .val (.ref b163), .val (.ref b164), .val (.ref b165), .val (.int (2 : Int32)), .val (.long (w0_91_b x0 x1 x2 x3 x4)), .second, .val (.long (w0_117_a x0 x1 x2 x3 x4)), .second] [(.int (lcmpW x2 x2))])) rfl ?_
            have hc200_188 : x2 = x2 := rfl
            refine Goes.st (B := T166.setTop (mkF m 205 #[.val (.int x0), .val (.long x1), .second, .val (.long x2), .second, .val (.long x3), .second, .val (.long x4), .second, .val (.int (2 : Int32)), .val (.int (0 : Int32)), .val (.ref b163), .val (.ref b164), .val (.ref b165), .val (.int (2 : Int32)), .val (.long (w0_91_b x0 x1 x2 x3 x4)), .second, .val (.long (w0_117_a x0 x1 x2 x3 x4)), .second] [])) (fun t k => ?_) ?_
            · refine XS.ifYes X166.here hx rfl (pc0 := 200) (pc' := 205) rfl (hb hby at_200) rfl (teqL hc200_188).1 (by decide) (by decide) ?_
              exact k
            refine Goes.run X166 hx hown hci hcl hby (L := [(205, .iload 10, 2)]) (by decide +kernel) rfl (g' := (mkF m 207 #[.val (.int x0), .val (.long x1), .second, .val (.long x2), .second, .val (.long x3), .second, .val (.long x4), .second, .val (.int (2 : Int32)), .val (.int (0 : Int32)), .val (.ref b163), .val (.ref b164), .val (.ref b165), .val (.int (2 : Int32)), .val (.long (w0_91_b x0 x1 x2 x3 x4)), .second, .val (.long (w0_117_a x0 x1 x2 x3 x4)), .second] [(.int (0 : Int32))])) rfl ?_
            have hc207_189 : ¬ ((0 : Int32) < (0 : Int32)) := Int32.lt_irrefl
            refine Goes.st (B := T166.setTop (mkF m 222 #[.val (.int x0), .val (.long x1), .second, .val (.long x2), .second, .val (.long x3), .second, .val (.long x4), .second, .val (.int (2 : Int32)), .val (.int (0 : Int32)), .val (.ref b163), .val (.ref b164), .val (.ref b165), .val (.int (2 : Int32)), .val (.long (w0_91_b x0 x1 x2 x3 x4)), .second, .val (.long (w0_117_a x0 x1 x2 x3 x4)), .second] [])) (fun t k => ?_) ?_
            · refine XS.ifYes X166.here hx rfl (pc0 := 207) (pc' := 222) rfl (hb hby at_207) rfl ((if0 _ _).trans (flt hc207_189).2.2.2) (by decide) (by decide) ?_
              exact k
            refine Goes.run X166 hx hown hci hcl hby (L := [(222, .iload 10, 2), (224, .iconst 1, 1)]) (by decide +kernel) rfl (g' := (mkF m 225 #[.val (.int x0), .val (.long x1), .second, .val (.long x2), .second, .val (.long x3), .second, .val (.long x4), .second, .val (.int (2 : Int32)), .val (.int (0 : Int32)), .val (.ref b163), .val (.ref b164), .val (.ref b165), .val (.int (2 : Int32)), .val (.long (w0_91_b x0 x1 x2 x3 x4)), .second, .val (.long (w0_117_a x0 x1 x2 x3 x4)), .second] [(.int (1 : Int32)), (.int (0 : Int32))])) rfl ?_
            have hc225_190 : ¬ ((1 : Int32) < (0 : Int32)) := by decide
            refine Goes.st (B := T166.setTop (mkF m 240 #[.val (.int x0), .val (.long x1), .second, .val (.long x2), .second, .val (.long x3), .second, .val (.long x4), .second, .val (.int (2 : Int32)), .val (.int (0 : Int32)), .val (.ref b163), .val (.ref b164), .val (.ref b165), .val (.int (2 : Int32)), .val (.long (w0_91_b x0 x1 x2 x3 x4)), .second, .val (.long (w0_117_a x0 x1 x2 x3 x4)), .second] [])) (fun t k => ?_) ?_
            · refine XS.icmpYes X166.here hx rfl (pc0 := 225) (pc' := 240) rfl (hb hby at_225) rfl (flt hc225_190).2.2.2 (by decide) (by decide) ?_
              exact k
            refine Goes.run X166 hx hown hci hcl hby (L := [(240, .iconst 1, 1)]) (by decide +kernel) rfl (g' := (mkF m 241 #[.val (.int x0), .val (.long x1), .second, .val (.long x2), .second, .val (.long x3), .second, .val (.long x4), .second, .val (.int (2 : Int32)), .val (.int (0 : Int32)), .val (.ref b163), .val (.ref b164), .val (.ref b165), .val (.int (2 : Int32)), .val (.long (w0_91_b x0 x1 x2 x3 x4)), .second, .val (.long (w0_117_a x0 x1 x2 x3 x4)), .second] [(.int (1 : Int32))])) rfl ?_
            exact Goes.retB X166 hx hlk (t := .boolean) Bd.returns (by simp) (hb hby at_241) rfl ⟨(congrArg (fun z => some (Value.int z)) (show (r0 x0 x1 x2 x3 x4) = (1 : Int32) from (((((if_neg hs21_1).trans (if_neg hs21_77)).trans (if_pos hs21_162)).trans (if_pos hc131_175)).trans (if_pos hc149_178))).symm), N166⟩ (by decide) (by decide)
          · skip
            refine Goes.st (B := T166.setTop (mkF m 152 #[.val (.int x0), .val (.long x1), .second, .val (.long x2), .second, .val (.long x3), .second, .val (.long x4), .second, .val (.int (2 : Int32)), .val (.int (0 : Int32)), .val (.ref b163), .val (.ref b164), .val (.ref b165), .val (.int (2 : Int32)), .val (.long (w0_91_b x0 x1 x2 x3 x4)), .second, .val (.long (w0_117_a x0 x1 x2 x3 x4)), .second] [])) (fun t k => ?_) ?_
            · refine XS.ifNo X166.here hx rfl (hb hby at_149) rfl (feqL hc149_178).1 ?_
              exact k
            refine Goes.run X166 hx hown hci hcl hby (L := [(152, .iconst 0, 1)]) (by decide +kernel) rfl (g' := (mkF m 153 #[.val (.int x0), .val (.long x1), .second, .val (.long x2), .second, .val (.long x3), .second, .val (.long x4), .second, .val (.int (2 : Int32)), .val (.int (0 : Int32)), .val (.ref b163), .val (.ref b164), .val (.ref b165), .val (.int (2 : Int32)), .val (.long (w0_91_b x0 x1 x2 x3 x4)), .second, .val (.long (w0_117_a x0 x1 x2 x3 x4)), .second] [(.int (0 : Int32))])) rfl ?_
            exact Goes.retB X166 hx hlk (t := .boolean) Bd.returns (by simp) (hb hby at_153) rfl ⟨(congrArg (fun z => some (Value.int z)) (show (r0 x0 x1 x2 x3 x4) = (0 : Int32) from (((((if_neg hs21_1).trans (if_neg hs21_77)).trans (if_pos hs21_162)).trans (if_pos hc131_175)).trans (if_neg hc149_178))).symm), N166⟩ (by decide) (by decide)
        · skip
          refine Goes.st (B := T166.setTop (mkF m 134 #[.val (.int x0), .val (.long x1), .second, .val (.long x2), .second, .val (.long x3), .second, .val (.long x4), .second, .val (.int (2 : Int32)), .val (.int (0 : Int32)), .val (.ref b163), .val (.ref b164), .val (.ref b165), .val (.int (2 : Int32)), .val (.long (w0_91_b x0 x1 x2 x3 x4)), .second, .val (.long (w0_117_a x0 x1 x2 x3 x4)), .second] [])) (fun t k => ?_) ?_
          · refine XS.ifNo X166.here hx rfl (hb hby at_131) rfl (feqL hc131_175).1 ?_
            exact k
          refine Goes.run X166 hx hown hci hcl hby (L := [(134, .iconst 0, 1)]) (by decide +kernel) rfl (g' := (mkF m 135 #[.val (.int x0), .val (.long x1), .second, .val (.long x2), .second, .val (.long x3), .second, .val (.long x4), .second, .val (.int (2 : Int32)), .val (.int (0 : Int32)), .val (.ref b163), .val (.ref b164), .val (.ref b165), .val (.int (2 : Int32)), .val (.long (w0_91_b x0 x1 x2 x3 x4)), .second, .val (.long (w0_117_a x0 x1 x2 x3 x4)), .second] [(.int (0 : Int32))])) rfl ?_
          exact Goes.retB X166 hx hlk (t := .boolean) Bd.returns (by simp) (hb hby at_135) rfl ⟨(congrArg (fun z => some (Value.int z)) (show (r0 x0 x1 x2 x3 x4) = (0 : Int32) from ((((if_neg hs21_1).trans (if_neg hs21_77)).trans (if_pos hs21_162)).trans (if_neg hc131_175))).symm), N166⟩ (by decide) (by decide)
      · skip
        by_cases hs21_191 : (w0_19 x0 x1 x2 x3 x4) = (1 : Int32)
        · skip
          rw [hs21_191]
          refine Goes.run X0 hx hown hci hcl hby (L := [(21, .iload 9, 2), (23, .lload_n 1, 1), (24, .lload_n 3, 1)]) (by decide +kernel) rfl (g' := (mkF m 25 #[.val (.int x0), .val (.long x1), .second, .val (.long x2), .second, .val (.long x3), .second, .val (.long x4), .second, .val (.int (2 : Int32)), .val (.int (1 : Int32)), .unset, .unset, .unset, .unset, .unset, .unset, .unset, .unset] [(.long x2), (.long x1), (.int (2 : Int32))])) rfl ?_
          obtain ⟨_, _, ⟨T192, L192, k192, n192⟩, -, X192, ⟨Lc192, hQ192, l192, y192, z192⟩, st192⟩ := Jvm.LawKit.callS X0 hx (y := (⟨"com/example/marks_across_domains/marksacrossdomains/BitsUnionPinLaw", "make", "(IJJ)[J"⟩ : MethodName)) hown (mvT hZ (hw _ (List.mem_of_getElem? (i := 0) rfl))) (mvT hZ (hw _ (List.mem_of_getElem? (i := 1) rfl))) (mvT hZ (hw _ (List.mem_of_getElem? (i := 2) rfl))) (mvT hZ (hw _ (List.mem_of_getElem? (i := 3) rfl))) (by decide) (backOf (W := 0) (rm22 l Z a0 hw [] x1 x2 h0 n0 Z0 ) hZ (hw _ (List.mem_of_getElem? (i := 3) rfl)) (hw _ (List.mem_of_getElem? (i := 2) rfl)) (by decide) (by decide)) (g := (mkF m 25 #[.val (.int x0), .val (.long x1), .second, .val (.long x2), .second, .val (.long x3), .second, .val (.long x4), .second, .val (.int (2 : Int32)), .val (.int (1 : Int32)), .unset, .unset, .unset, .unset, .unset, .unset, .unset, .unset] [(.long x2), (.long x1), (.int (2 : Int32))])) rfl (by rw [hml]; rfl) (argsL := [(.int (2 : Int32)), (.long x1), (.long x2)]) (rest := []) (lenOf pd0_0 rfl) rfl (by show 2 * 0 + _ ≤ _; exact Nat.le_of_eq rfl) (hb hby at_25) (fun _ _ => ⟨rfl, e0, (by decide : 0 + 1 ≤ _), (by decide : 0 + 2 ≤ _)⟩)
          dsimp only [Pt.U, Pt.locs, Pt.cells, Pt.slots] at X192 l192 y192 z192 st192 hQ192
          subst l192 y192 z192
          obtain ⟨h192, eh192⟩ : ∃ z, z = T192.heap := ⟨_, rfl⟩
          rw [← eh192] at hQ192
          have e192 : T192.heap = h192 := eh192.symm
          obtain ⟨b192, kc192, rfl, N192q, Kq192, szq192, o192_0, o192_1⟩ := hQ192
          have g_b192 : n0 ≤ b192 := Nat.le_trans Z0 szq192
          have N192 := Fr.app N0 N192q
          have E_b192 : Exa Z h192 b192 "[J" := o192_0
          have V_b192 : Arv Z h192 b192 kc192 .long (2 : Int32) [(.long x1), (.long x2)] (.long (0 : Int64)) := o192_1
          have Zn192 : n0 ≤ h192.size := Nat.le_trans Z0 Kq192.1
          refine Goes.st (B := T192.setTop (mkF m 28 #[.val (.int x0), .val (.long x1), .second, .val (.long x2), .second, .val (.long x3), .second, .val (.long x4), .second, .val (.int (2 : Int32)), .val (.int (1 : Int32)), .unset, .unset, .unset, .unset, .unset, .unset, .unset, .unset] [(.ref b192)])) st192 ?_
          refine Goes.run X192 hx hown hci hcl hby (L := [(28, .astore 11, 2), (30, .iload 10, 2), (32, .lload 5, 2), (34, .lload 7, 2)]) (by decide +kernel) rfl (g' := (mkF m 36 #[.val (.int x0), .val (.long x1), .second, .val (.long x2), .second, .val (.long x3), .second, .val (.long x4), .second, .val (.int (2 : Int32)), .val (.int (1 : Int32)), .val (.ref b192), .unset, .unset, .unset, .unset, .unset, .unset, .unset] [(.long x4), (.long x3), (.int (1 : Int32))])) rfl ?_
          obtain ⟨_, _, ⟨T193, L193, k193, n193⟩, -, X193, ⟨Lc193, hQ193, l193, y193, z193⟩, st193⟩ := Jvm.LawKit.callS X192 hx (y := (⟨"com/example/marks_across_domains/marksacrossdomains/BitsUnionPinLaw", "make", "(IJJ)[J"⟩ : MethodName)) hown (mvT hZ (hw _ (List.mem_of_getElem? (i := 0) rfl))) (mvT hZ (hw _ (List.mem_of_getElem? (i := 1) rfl))) (mvT hZ (hw _ (List.mem_of_getElem? (i := 2) rfl))) (mvT hZ (hw _ (List.mem_of_getElem? (i := 3) rfl))) (by decide) (backOf (W := 0) (rm21 l Z a0 hw [] x3 x4 h192 n0 Zn192 ) hZ (hw _ (List.mem_of_getElem? (i := 3) rfl)) (hw _ (List.mem_of_getElem? (i := 2) rfl)) (by decide) (by decide)) (g := (mkF m 36 #[.val (.int x0), .val (.long x1), .second, .val (.long x2), .second, .val (.long x3), .second, .val (.long x4), .second, .val (.int (2 : Int32)), .val (.int (1 : Int32)), .val (.ref b192), .unset, .unset, .unset, .unset, .unset, .unset, .unset] [(.long x4), (.long x3), (.int (1 : Int32))])) rfl (by rw [hml]; rfl) (argsL := [(.int (1 : Int32)), (.long x3), (.long x4)]) (rest := []) (lenOf pd0_0 rfl) rfl (by show 2 * 0 + _ ≤ _; exact Nat.le_of_eq rfl) (hb hby at_36) (fun _ _ => ⟨rfl, e192, (by decide : 1 + 1 ≤ _), (by decide : 2 + 1 ≤ _)⟩)
          dsimp only [Pt.U, Pt.locs, Pt.cells, Pt.slots] at X193 l193 y193 z193 st193 hQ193
          subst l193 y193 z193
          obtain ⟨h193, eh193⟩ : ∃ z, z = T193.heap := ⟨_, rfl⟩
          rw [← eh193] at hQ193
          have e193 : T193.heap = h193 := eh193.symm
          obtain ⟨b193, kc193, rfl, N193q, Kq193, szq193, o193_0, o193_1⟩ := hQ193
          have ne_b192_b193 : b192 ≠ b193 := Nat.ne_of_lt (Nat.lt_of_lt_of_le E_b192.lt szq193)
          have g_b193 : n0 ≤ b193 := Nat.le_trans Zn192 szq193
          have N193 := Fr.app N192 N193q
          have E_b192 := E_b192.keep Kq193
          have V_b192 := V_b192.keep Kq193 nin0
          have E_b193 : Exa Z h193 b193 "[J" := o193_0
          have V_b193 : Arv Z h193 b193 kc193 .long (1 : Int32) [(.long x3)] (.long (0 : Int64)) := o193_1
          have Zn193 : n0 ≤ h193.size := Nat.le_trans Zn192 Kq193.1
          refine Goes.st (B := T193.setTop (mkF m 39 #[.val (.int x0), .val (.long x1), .second, .val (.long x2), .second, .val (.long x3), .second, .val (.long x4), .second, .val (.int (2 : Int32)), .val (.int (1 : Int32)), .val (.ref b192), .unset, .unset, .unset, .unset, .unset, .unset, .unset] [(.ref b193)])) st193 ?_
          refine Goes.run X193 hx hown hci hcl hby (L := [(39, .astore 12, 2), (41, .aload 11, 2), (43, .aload 12, 2)]) (by decide +kernel) rfl (g' := (mkF m 45 #[.val (.int x0), .val (.long x1), .second, .val (.long x2), .second, .val (.long x3), .second, .val (.long x4), .second, .val (.int (2 : Int32)), .val (.int (1 : Int32)), .val (.ref b192), .val (.ref b193), .unset, .unset, .unset, .unset, .unset, .unset] [(.ref b193), (.ref b192)])) rfl ?_
          obtain ⟨_, _, ⟨T194, L194, k194, n194⟩, -, X194, ⟨Lc194, hQ194, l194, y194, z194⟩, st194⟩ := Jvm.LawKit.callS X193 hx (y := (⟨"com/example/marks_across_domains/marksacrossdomains/Bits", "union", "([J[J)[J"⟩ : MethodName)) hown (mvT hZ (hw _ (List.mem_of_getElem? (i := 5) rfl))) (mvT hZ (hw _ (List.mem_of_getElem? (i := 6) rfl))) (mvT hZ (hw _ (List.mem_of_getElem? (i := 7) rfl))) (mvT hZ (hw _ (List.mem_of_getElem? (i := 8) rfl))) (by decide) (backOf (W := 0) (rm321 l Z a0 hw [] b192 b193 kc192 kc193 x1 x2 x3 h193 n0 Zn193 E_b192 V_b192 E_b193 V_b193) hZ (hw _ (List.mem_of_getElem? (i := 8) rfl)) (hw _ (List.mem_of_getElem? (i := 7) rfl)) (by decide) (by decide)) (g := (mkF m 45 #[.val (.int x0), .val (.long x1), .second, .val (.long x2), .second, .val (.long x3), .second, .val (.long x4), .second, .val (.int (2 : Int32)), .val (.int (1 : Int32)), .val (.ref b192), .val (.ref b193), .unset, .unset, .unset, .unset, .unset, .unset] [(.ref b193), (.ref b192)])) rfl (by rw [hml]; rfl) (argsL := [(.ref b192), (.ref b193)]) (rest := []) (lenOf pd0_1 rfl) rfl (by show 2 * 0 + _ ≤ _; exact Nat.le_of_eq rfl) (hb hby at_45) (fun _ _ => ⟨rfl, e193, (by decide : 2 + 1 ≤ _), (by decide : 3 + 2 ≤ _)⟩)
          dsimp only [Pt.U, Pt.locs, Pt.cells, Pt.slots] at X194 l194 y194 z194 st194 hQ194
          subst l194 y194 z194
          obtain ⟨h194, eh194⟩ : ∃ z, z = T194.heap := ⟨_, rfl⟩
          rw [← eh194] at hQ194
          have e194 : T194.heap = h194 := eh194.symm
          obtain ⟨b194, kc194, rfl, N194q, Kq194, szq194, o194_0, o194_1⟩ := hQ194
          have ne_b192_b194 : b192 ≠ b194 := Nat.ne_of_lt (Nat.lt_of_lt_of_le E_b192.lt szq194)
          have ne_b193_b194 : b193 ≠ b194 := Nat.ne_of_lt (Nat.lt_of_lt_of_le E_b193.lt szq194)
          have g_b194 : n0 ≤ b194 := Nat.le_trans Zn193 szq194
          have N194 := Fr.app N193 N194q
          have E_b192 := E_b192.keep Kq194
          have V_b192 := V_b192.keep Kq194 nin0
          have E_b193 := E_b193.keep Kq194
          have V_b193 := V_b193.keep Kq194 nin0
          have E_b194 : Exa Z h194 b194 "[J" := o194_0
          have V_b194 : Arv Z h194 b194 kc194 .long (2 : Int32) [(.long (x1 ||| x3)), (.long x2)] (.long (0 : Int64)) := o194_1
          have Zn194 : n0 ≤ h194.size := Nat.le_trans Zn193 Kq194.1
          refine Goes.st (B := T194.setTop (mkF m 48 #[.val (.int x0), .val (.long x1), .second, .val (.long x2), .second, .val (.long x3), .second, .val (.long x4), .second, .val (.int (2 : Int32)), .val (.int (1 : Int32)), .val (.ref b192), .val (.ref b193), .unset, .unset, .unset, .unset, .unset, .unset] [(.ref b194)])) st194 ?_
          refine Goes.run X194 hx hown hci hcl hby (L := [(48, .astore 13, 2), (50, .iload 9, 2), (52, .iload 10, 2)]) (by decide +kernel) rfl (g' := (mkF m 54 #[.val (.int x0), .val (.long x1), .second, .val (.long x2), .second, .val (.long x3), .second, .val (.long x4), .second, .val (.int (2 : Int32)), .val (.int (1 : Int32)), .val (.ref b192), .val (.ref b193), .val (.ref b194), .unset, .unset, .unset, .unset, .unset] [(.int (1 : Int32)), (.int (2 : Int32))])) rfl ?_
          obtain ⟨_, _, ⟨T195, L195, k195, n195⟩, -, X195, ⟨Lc195, hQ195, l195, y195, z195⟩, st195⟩ := Jvm.LawKit.callS X194 hx (y := (⟨"java/lang/Math", "max", "(II)I"⟩ : MethodName)) hown (mvT hZ (hw _ (List.mem_of_getElem? (i := 18) rfl))) (mvT hZ (hw _ (List.mem_of_getElem? (i := 19) rfl))) (mvT hZ (hw _ (List.mem_of_getElem? (i := 20) rfl))) (mvT hZ (hw _ (List.mem_of_getElem? (i := 21) rfl))) (by decide) (backOf (W := 0) (rm1 l Z a0 hw [] (2 : Int32) (1 : Int32) h194 n0 Zn194 ) hZ (hw _ (List.mem_of_getElem? (i := 21) rfl)) (hw _ (List.mem_of_getElem? (i := 20) rfl)) (by decide) (by decide)) (g := (mkF m 54 #[.val (.int x0), .val (.long x1), .second, .val (.long x2), .second, .val (.long x3), .second, .val (.long x4), .second, .val (.int (2 : Int32)), .val (.int (1 : Int32)), .val (.ref b192), .val (.ref b193), .val (.ref b194), .unset, .unset, .unset, .unset, .unset] [(.int (1 : Int32)), (.int (2 : Int32))])) rfl (by rw [hml]; rfl) (argsL := [(.int (2 : Int32)), (.int (1 : Int32))]) (rest := []) (lenOf pd0_2 rfl) rfl (by show 2 * 0 + _ ≤ _; exact Nat.le_of_eq rfl) (hb hby at_54) (fun _ _ => ⟨rfl, e194, (by decide : 3 + 0 ≤ _), (by decide : 5 + 0 ≤ _)⟩)
          dsimp only [Pt.U, Pt.locs, Pt.cells, Pt.slots] at X195 l195 y195 z195 st195 hQ195
          subst l195 y195 z195
          obtain ⟨rfl, N195q, e195⟩ := hQ195
          have N195 := Fr.app N194 N195q
          refine Goes.st (B := T195.setTop (mkF m 57 #[.val (.int x0), .val (.long x1), .second, .val (.long x2), .second, .val (.long x3), .second, .val (.long x4), .second, .val (.int (2 : Int32)), .val (.int (1 : Int32)), .val (.ref b192), .val (.ref b193), .val (.ref b194), .unset, .unset, .unset, .unset, .unset] [(.int (2 : Int32))])) st195 ?_
          refine Goes.run X195 hx hown hci hcl hby (L := [(57, .istore 14, 2), (59, .aload 13, 2)]) (by decide +kernel) rfl (g' := (mkF m 61 #[.val (.int x0), .val (.long x1), .second, .val (.long x2), .second, .val (.long x3), .second, .val (.long x4), .second, .val (.int (2 : Int32)), .val (.int (1 : Int32)), .val (.ref b192), .val (.ref b193), .val (.ref b194), .val (.int (2 : Int32)), .unset, .unset, .unset, .unset] [(.ref b194)])) rfl ?_
          obtain ⟨cl196, Ar196, q196, S196, M196, Hs196, G196⟩ := id V_b194
          refine Goes.st (B := T195.setTop (mkF m 62 #[.val (.int x0), .val (.long x1), .second, .val (.long x2), .second, .val (.long x3), .second, .val (.long x4), .second, .val (.int (2 : Int32)), .val (.int (1 : Int32)), .val (.ref b192), .val (.ref b193), .val (.ref b194), .val (.int (2 : Int32)), .unset, .unset, .unset, .unset] [(.int (2 : Int32))])) (fun t k => ?_) ?_
          · refine X195.arraylength hx (cell := cl196) (by rw [e195]; exact Ar196.1) (State.isArrayOf_alike hZ.alike Ar196.2.1) (g := (mkF m 61 #[.val (.int x0), .val (.long x1), .second, .val (.long x2), .second, .val (.long x3), .second, .val (.long x4), .second, .val (.int (2 : Int32)), .val (.int (1 : Int32)), .val (.ref b192), .val (.ref b193), .val (.ref b194), .val (.int (2 : Int32)), .unset, .unset, .unset, .unset] [(.ref b194)])) rfl (rest := []) rfl (hb hby at_61) _ ?_
            rw [len_of S196 M196]
            exact k
          refine Goes.run X195 hx hown hci hcl hby (L := [(62, .iload 14, 2)]) (by decide +kernel) rfl (g' := (mkF m 64 #[.val (.int x0), .val (.long x1), .second, .val (.long x2), .second, .val (.long x3), .second, .val (.long x4), .second, .val (.int (2 : Int32)), .val (.int (1 : Int32)), .val (.ref b192), .val (.ref b193), .val (.ref b194), .val (.int (2 : Int32)), .unset, .unset, .unset, .unset] [(.int (2 : Int32)), (.int (2 : Int32))])) rfl ?_
          have hc64_197 : (2 : Int32) = (2 : Int32) := rfl
          refine Goes.st (B := T195.setTop (mkF m 69 #[.val (.int x0), .val (.long x1), .second, .val (.long x2), .second, .val (.long x3), .second, .val (.long x4), .second, .val (.int (2 : Int32)), .val (.int (1 : Int32)), .val (.ref b192), .val (.ref b193), .val (.ref b194), .val (.int (2 : Int32)), .unset, .unset, .unset, .unset] [])) (fun t k => ?_) ?_
          · refine XS.icmpYes X195.here hx rfl (pc0 := 64) (pc' := 69) rfl (hb hby at_64) rfl (teq hc64_197).1 (by decide) (by decide) ?_
            exact k
          refine Goes.run X195 hx hown hci hcl hby (L := [(69, .iload 9, 2)]) (by decide +kernel) rfl (g' := (mkF m 71 #[.val (.int x0), .val (.long x1), .second, .val (.long x2), .second, .val (.long x3), .second, .val (.long x4), .second, .val (.int (2 : Int32)), .val (.int (1 : Int32)), .val (.ref b192), .val (.ref b193), .val (.ref b194), .val (.int (2 : Int32)), .unset, .unset, .unset, .unset] [(.int (2 : Int32))])) rfl ?_
          have hc71_198 : (0 : Int32) < (2 : Int32) := by decide
          refine Goes.st (B := T195.setTop (mkF m 74 #[.val (.int x0), .val (.long x1), .second, .val (.long x2), .second, .val (.long x3), .second, .val (.long x4), .second, .val (.int (2 : Int32)), .val (.int (1 : Int32)), .val (.ref b192), .val (.ref b193), .val (.ref b194), .val (.int (2 : Int32)), .unset, .unset, .unset, .unset] [])) (fun t k => ?_) ?_
          · refine XS.ifNo X195.here hx rfl (hb hby at_71) rfl ((if0 _ _).trans (tlt hc71_198).2.2.2) ?_
            exact k
          refine Goes.run X195 hx hown hci hcl hby (L := [(74, .lload_n 1, 1), (75, .goto 4, 3), (79, .iload 10, 2)]) (by decide +kernel) rfl (g' := (mkF m 81 #[.val (.int x0), .val (.long x1), .second, .val (.long x2), .second, .val (.long x3), .second, .val (.long x4), .second, .val (.int (2 : Int32)), .val (.int (1 : Int32)), .val (.ref b192), .val (.ref b193), .val (.ref b194), .val (.int (2 : Int32)), .unset, .unset, .unset, .unset] [(.int (1 : Int32)), (.long x1)])) rfl ?_
          have hc81_199 : (0 : Int32) < (1 : Int32) := by decide
          refine Goes.st (B := T195.setTop (mkF m 84 #[.val (.int x0), .val (.long x1), .second, .val (.long x2), .second, .val (.long x3), .second, .val (.long x4), .second, .val (.int (2 : Int32)), .val (.int (1 : Int32)), .val (.ref b192), .val (.ref b193), .val (.ref b194), .val (.int (2 : Int32)), .unset, .unset, .unset, .unset] [(.long x1)])) (fun t k => ?_) ?_
          · refine XS.ifNo X195.here hx rfl (hb hby at_81) rfl ((if0 _ _).trans (tlt hc81_199).2.2.2) ?_
            exact k
          refine Goes.run X195 hx hown hci hcl hby (L := [(84, .lload 5, 2), (86, .goto 4, 3), (90, .lor, 1), (91, .lstore 15, 2), (93, .iload 9, 2), (95, .iconst 1, 1)]) (by decide +kernel) rfl (g' := (mkF m 96 #[.val (.int x0), .val (.long x1), .second, .val (.long x2), .second, .val (.long x3), .second, .val (.long x4), .second, .val (.int (2 : Int32)), .val (.int (1 : Int32)), .val (.ref b192), .val (.ref b193), .val (.ref b194), .val (.int (2 : Int32)), .val (.long (w0_91_c x0 x1 x2 x3 x4)), .second, .unset, .unset] [(.int (1 : Int32)), (.int (2 : Int32))])) rfl ?_
          have hc96_200 : (1 : Int32) < (2 : Int32) := by decide
          refine Goes.st (B := T195.setTop (mkF m 99 #[.val (.int x0), .val (.long x1), .second, .val (.long x2), .second, .val (.long x3), .second, .val (.long x4), .second, .val (.int (2 : Int32)), .val (.int (1 : Int32)), .val (.ref b192), .val (.ref b193), .val (.ref b194), .val (.int (2 : Int32)), .val (.long (w0_91_c x0 x1 x2 x3 x4)), .second, .unset, .unset] [])) (fun t k => ?_) ?_
          · refine XS.icmpNo X195.here hx rfl (hb hby at_96) rfl (tlt hc96_200).2.2.2 ?_
            exact k
          refine Goes.run X195 hx hown hci hcl hby (L := [(99, .lload_n 3, 1), (100, .goto 4, 3), (104, .iload 10, 2), (106, .iconst 1, 1)]) (by decide +kernel) rfl (g' := (mkF m 107 #[.val (.int x0), .val (.long x1), .second, .val (.long x2), .second, .val (.long x3), .second, .val (.long x4), .second, .val (.int (2 : Int32)), .val (.int (1 : Int32)), .val (.ref b192), .val (.ref b193), .val (.ref b194), .val (.int (2 : Int32)), .val (.long (w0_91_c x0 x1 x2 x3 x4)), .second, .unset, .unset] [(.int (1 : Int32)), (.int (1 : Int32)), (.long x2)])) rfl ?_
          have hc107_201 : ¬ ((1 : Int32) < (1 : Int32)) := Int32.lt_irrefl
          refine Goes.st (B := T195.setTop (mkF m 115 #[.val (.int x0), .val (.long x1), .second, .val (.long x2), .second, .val (.long x3), .second, .val (.long x4), .second, .val (.int (2 : Int32)), .val (.int (1 : Int32)), .val (.ref b192), .val (.ref b193), .val (.ref b194), .val (.int (2 : Int32)), .val (.long (w0_91_c x0 x1 x2 x3 x4)), .second, .unset, .unset] [(.long x2)])) (fun t k => ?_) ?_
          · refine XS.icmpYes X195.here hx rfl (pc0 := 107) (pc' := 115) rfl (hb hby at_107) rfl (flt hc107_201).2.2.2 (by decide) (by decide) ?_
            exact k
          refine Goes.run X195 hx hown hci hcl hby (L := [(115, .lconst 0, 1), (116, .lor, 1), (117, .lstore 17, 2), (119, .iload 14, 2)]) (by decide +kernel) rfl (g' := (mkF m 121 #[.val (.int x0), .val (.long x1), .second, .val (.long x2), .second, .val (.long x3), .second, .val (.long x4), .second, .val (.int (2 : Int32)), .val (.int (1 : Int32)), .val (.ref b192), .val (.ref b193), .val (.ref b194), .val (.int (2 : Int32)), .val (.long (w0_91_c x0 x1 x2 x3 x4)), .second, .val (.long (w0_117_a x0 x1 x2 x3 x4)), .second] [(.int (2 : Int32))])) rfl ?_
          have hc121_202 : (0 : Int32) < (2 : Int32) := by decide
          refine Goes.st (B := T195.setTop (mkF m 124 #[.val (.int x0), .val (.long x1), .second, .val (.long x2), .second, .val (.long x3), .second, .val (.long x4), .second, .val (.int (2 : Int32)), .val (.int (1 : Int32)), .val (.ref b192), .val (.ref b193), .val (.ref b194), .val (.int (2 : Int32)), .val (.long (w0_91_c x0 x1 x2 x3 x4)), .second, .val (.long (w0_117_a x0 x1 x2 x3 x4)), .second] [])) (fun t k => ?_) ?_
          · refine XS.ifNo X195.here hx rfl (hb hby at_121) rfl ((if0 _ _).trans (tlt hc121_202).2.2.2) ?_
            exact k
          refine Goes.run X195 hx hown hci hcl hby (L := [(124, .aload 13, 2), (126, .iconst 0, 1)]) (by decide +kernel) rfl (g' := (mkF m 127 #[.val (.int x0), .val (.long x1), .second, .val (.long x2), .second, .val (.long x3), .second, .val (.long x4), .second, .val (.int (2 : Int32)), .val (.int (1 : Int32)), .val (.ref b192), .val (.ref b193), .val (.ref b194), .val (.int (2 : Int32)), .val (.long (w0_91_c x0 x1 x2 x3 x4)), .second, .val (.long (w0_117_a x0 x1 x2 x3 x4)), .second] [(.int (0 : Int32)), (.ref b194)])) rfl ?_
          obtain ⟨cl203, Ar203, q203, S203, M203, Hs203, G203⟩ := id V_b194
          have hin203 : ¬ ((0 : Int32) < 0 ∨ cl203.slots.size ≤ ((0 : Int32)).toNatClampNeg) := inb_of S203 ⟨(by decide), (by decide)⟩
          have hat203 : cl203.slots[((0 : Int32)).toNatClampNeg]? = some (.long (x1 ||| x3)) := Hs203.at hin203 rfl
          refine Goes.st (B := T195.setTop (mkF m 128 #[.val (.int x0), .val (.long x1), .second, .val (.long x2), .second, .val (.long x3), .second, .val (.long x4), .second, .val (.int (2 : Int32)), .val (.int (1 : Int32)), .val (.ref b192), .val (.ref b193), .val (.ref b194), .val (.int (2 : Int32)), .val (.long (w0_91_c x0 x1 x2 x3 x4)), .second, .val (.long (w0_117_a x0 x1 x2 x3 x4)), .second] [(.long (x1 ||| x3))])) (X195.laload hx (j := (0 : Int32)) (v := (.long (x1 ||| x3))) (by rw [e195]; exact Ar203.1) (State.isArrayOf_alike hZ.alike Ar203.2.1) Ar203.2.2 hin203 hat203 (g := (mkF m 127 #[.val (.int x0), .val (.long x1), .second, .val (.long x2), .second, .val (.long x3), .second, .val (.long x4), .second, .val (.int (2 : Int32)), .val (.int (1 : Int32)), .val (.ref b192), .val (.ref b193), .val (.ref b194), .val (.int (2 : Int32)), .val (.long (w0_91_c x0 x1 x2 x3 x4)), .second, .val (.long (w0_117_a x0 x1 x2 x3 x4)), .second] [(.int (0 : Int32)), (.ref b194)])) rfl rfl (hb hby at_127)) ?_
          refine Goes.run X195 hx hown hci hcl hby (L := [(128, .lload 15, 2), (130, .lcmp, 1)]) (by decide +kernel) rfl (g' := (mkF m 131 #[.val (.int x0), .val (.long x1), .second, .val (.long x2), .second, .val (.long x3), .second, .val (.long x4), .second, .val (.int (2 : Int32)), .val (.int (1 : Int32)), .val (.ref b192), .val (.ref b193), .val (.ref b194), .val (.int (2 : Int32)), .val (.long (w0_91_c x0 x1 x2 x3 x4)), .second, .val (.long (w0_117_a x0 x1 x2 x3 x4)), .second] [(.int (lcmpW (x1 ||| x3) (w0_91_c x0 x1 x2 x3 x4)))])) rfl ?_
          by_cases hc131_204 : (x1 ||| x3) = (w0_91_c x0 x1 x2 x3 x4)
          · skip
            refine Goes.st (B := T195.setTop (mkF m 136 #[.val (.int x0), .val (.long x1), .second, .val (.long x2), .second, .val (.long x3), .second, .val (.long x4), .second, .val (.int (2 : Int32)), .val (.int (1 : Int32)), .val (.ref b192), .val (.ref b193), .val (.ref b194), .val (.int (2 : Int32)), .val (.long (w0_91_c x0 x1 x2 x3 x4)), .second, .val (.long (w0_117_a x0 x1 x2 x3 x4)), .second] [])) (fun t k => ?_) ?_
            · refine XS.ifYes X195.here hx rfl (pc0 := 131) (pc' := 136) rfl (hb hby at_131) rfl (teqL hc131_204).1 (by decide) (by decide) ?_
              exact k
            refine Goes.run X195 hx hown hci hcl hby (L := [(136, .iload 14, 2), (138, .iconst 1, 1)]) (by decide +kernel) rfl (g' := (mkF m 139 #[.val (.int x0), .val (.long x1), .second, .val (.long x2), .second, .val (.long x3), .second, .val (.long x4), .second, .val (.int (2 : Int32)), .val (.int (1 : Int32)), .val (.ref b192), .val (.ref b193), .val (.ref b194), .val (.int (2 : Int32)), .val (.long (w0_91_c x0 x1 x2 x3 x4)), .second, .val (.long (w0_117_a x0 x1 x2 x3 x4)), .second] [(.int (1 : Int32)), (.int (2 : Int32))])) rfl ?_
            have hc139_205 : (1 : Int32) < (2 : Int32) := by decide
            refine Goes.st (B := T195.setTop (mkF m 142 #[.val (.int x0), .val (.long x1), .second, .val (.long x2), .second, .val (.long x3), .second, .val (.long x4), .second, .val (.int (2 : Int32)), .val (.int (1 : Int32)), .val (.ref b192), .val (.ref b193), .val (.ref b194), .val (.int (2 : Int32)), .val (.long (w0_91_c x0 x1 x2 x3 x4)), .second, .val (.long (w0_117_a x0 x1 x2 x3 x4)), .second] [])) (fun t k => ?_) ?_
            · refine XS.icmpNo X195.here hx rfl (hb hby at_139) rfl (tlt hc139_205).2.2.2 ?_
              exact k
            refine Goes.run X195 hx hown hci hcl hby (L := [(142, .aload 13, 2), (144, .iconst 1, 1)]) (by decide +kernel) rfl (g' := (mkF m 145 #[.val (.int x0), .val (.long x1), .second, .val (.long x2), .second, .val (.long x3), .second, .val (.long x4), .second, .val (.int (2 : Int32)), .val (.int (1 : Int32)), .val (.ref b192), .val (.ref b193), .val (.ref b194), .val (.int (2 : Int32)), .val (.long (w0_91_c x0 x1 x2 x3 x4)), .second, .val (.long (w0_117_a x0 x1 x2 x3 x4)), .second] [(.int (1 : Int32)), (.ref b194)])) rfl ?_
            obtain ⟨cl206, Ar206, q206, S206, M206, Hs206, G206⟩ := id V_b194
            have hin206 : ¬ ((1 : Int32) < 0 ∨ cl206.slots.size ≤ ((1 : Int32)).toNatClampNeg) := inb_of S206 ⟨(by decide), (by decide)⟩
            have hat206 : cl206.slots[((1 : Int32)).toNatClampNeg]? = some (.long x2) := Hs206.at hin206 rfl
            refine Goes.st (B := T195.setTop (mkF m 146 #[.val (.int x0), .val (.long x1), .second, .val (.long x2), .second, .val (.long x3), .second, .val (.long x4), .second, .val (.int (2 : Int32)), .val (.int (1 : Int32)), .val (.ref b192), .val (.ref b193), .val (.ref b194), .val (.int (2 : Int32)), .val (.long (w0_91_c x0 x1 x2 x3 x4)), .second, .val (.long (w0_117_a x0 x1 x2 x3 x4)), .second] [(.long x2)])) (X195.laload hx (j := (1 : Int32)) (v := (.long x2)) (by rw [e195]; exact Ar206.1) (State.isArrayOf_alike hZ.alike Ar206.2.1) Ar206.2.2 hin206 hat206 (g := (mkF m 145 #[.val (.int x0), .val (.long x1), .second, .val (.long x2), .second, .val (.long x3), .second, .val (.long x4), .second, .val (.int (2 : Int32)), .val (.int (1 : Int32)), .val (.ref b192), .val (.ref b193), .val (.ref b194), .val (.int (2 : Int32)), .val (.long (w0_91_c x0 x1 x2 x3 x4)), .second, .val (.long (w0_117_a x0 x1 x2 x3 x4)), .second] [(.int (1 : Int32)), (.ref b194)])) rfl rfl (hb hby at_145)) ?_
            refine Goes.run X195 hx hown hci hcl hby (L := [(146, .lload 17, 2), (148, .lcmp, 1)]) (by decide +kernel) rfl (g' := (mkF m 149 #[.val (.int x0), .val (.long x1), .second, .val (.long x2), .second, .val (.long x3), .second, .val (.long x4), .second, .val (.int (2 : Int32)), .val (.int (1 : Int32)), .val (.ref b192), .val (.ref b193), .val (.ref b194), .val (.int (2 : Int32)), .val (.long (w0_91_c x0 x1 x2 x3 x4)), .second, .val (.long (w0_117_a x0 x1 x2 x3 x4)), .second] [(.int (lcmpW x2 (w0_117_a x0 x1 x2 x3 x4)))])) rfl ?_
            by_cases hc149_207 : x2 = (w0_117_a x0 x1 x2 x3 x4)
            · skip
              refine Goes.st (B := T195.setTop (mkF m 154 #[.val (.int x0), .val (.long x1), .second, .val (.long x2), .second, .val (.long x3), .second, .val (.long x4), .second, .val (.int (2 : Int32)), .val (.int (1 : Int32)), .val (.ref b192), .val (.ref b193), .val (.ref b194), .val (.int (2 : Int32)), .val (.long (w0_91_c x0 x1 x2 x3 x4)), .second, .val (.long (w0_117_a x0 x1 x2 x3 x4)), .second] [])) (fun t k => ?_) ?_
              · refine XS.ifYes X195.here hx rfl (pc0 := 149) (pc' := 154) rfl (hb hby at_149) rfl (teqL hc149_207).1 (by decide) (by decide) ?_
                exact k
              refine Goes.run X195 hx hown hci hcl hby (L := [(154, .aload 11, 2)]) (by decide +kernel) rfl (g' := (mkF m 156 #[.val (.int x0), .val (.long x1), .second, .val (.long x2), .second, .val (.long x3), .second, .val (.long x4), .second, .val (.int (2 : Int32)), .val (.int (1 : Int32)), .val (.ref b192), .val (.ref b193), .val (.ref b194), .val (.int (2 : Int32)), .val (.long (w0_91_c x0 x1 x2 x3 x4)), .second, .val (.long (w0_117_a x0 x1 x2 x3 x4)), .second] [(.ref b192)])) rfl ?_
              obtain ⟨cl208, Ar208, q208, S208, M208, Hs208, G208⟩ := id V_b192
              refine Goes.st (B := T195.setTop (mkF m 157 #[.val (.int x0), .val (.long x1), .second, .val (.long x2), .second, .val (.long x3), .second, .val (.long x4), .second, .val (.int (2 : Int32)), .val (.int (1 : Int32)), .val (.ref b192), .val (.ref b193), .val (.ref b194), .val (.int (2 : Int32)), .val (.long (w0_91_c x0 x1 x2 x3 x4)), .second, .val (.long (w0_117_a x0 x1 x2 x3 x4)), .second] [(.int (2 : Int32))])) (fun t k => ?_) ?_
              · refine X195.arraylength hx (cell := cl208) (by rw [e195]; exact Ar208.1) (State.isArrayOf_alike hZ.alike Ar208.2.1) (g := (mkF m 156 #[.val (.int x0), .val (.long x1), .second, .val (.long x2), .second, .val (.long x3), .second, .val (.long x4), .second, .val (.int (2 : Int32)), .val (.int (1 : Int32)), .val (.ref b192), .val (.ref b193), .val (.ref b194), .val (.int (2 : Int32)), .val (.long (w0_91_c x0 x1 x2 x3 x4)), .second, .val (.long (w0_117_a x0 x1 x2 x3 x4)), .second] [(.ref b192)])) rfl (rest := []) rfl (hb hby at_156) _ ?_
                rw [len_of S208 M208]
                exact k
              refine Goes.run X195 hx hown hci hcl hby (L := [(157, .iload 9, 2)]) (by decide +kernel) rfl (g' := (mkF m 159 #[.val (.int x0), .val (.long x1), .second, .val (.long x2), .second, .val (.long x3), .second, .val (.long x4), .second, .val (.int (2 : Int32)), .val (.int (1 : Int32)), .val (.ref b192), .val (.ref b193), .val (.ref b194), .val (.int (2 : Int32)), .val (.long (w0_91_c x0 x1 x2 x3 x4)), .second, .val (.long (w0_117_a x0 x1 x2 x3 x4)), .second] [(.int (2 : Int32)), (.int (2 : Int32))])) rfl ?_
              have hc159_209 : (2 : Int32) = (2 : Int32) := rfl
              refine Goes.st (B := T195.setTop (mkF m 162 #[.val (.int x0), .val (.long x1), .second, .val (.long x2), .second, .val (.long x3), .second, .val (.long x4), .second, .val (.int (2 : Int32)), .val (.int (1 : Int32)), .val (.ref b192), .val (.ref b193), .val (.ref b194), .val (.int (2 : Int32)), .val (.long (w0_91_c x0 x1 x2 x3 x4)), .second, .val (.long (w0_117_a x0 x1 x2 x3 x4)), .second] [])) (fun t k => ?_) ?_
              · refine XS.icmpNo X195.here hx rfl (hb hby at_159) rfl (teq hc159_209).2 ?_
                exact k
              refine Goes.run X195 hx hown hci hcl hby (L := [(162, .aload 12, 2)]) (by decide +kernel) rfl (g' := (mkF m 164 #[.val (.int x0), .val (.long x1), .second, .val (.long x2), .second, .val (.long x3), .second, .val (.long x4), .second, .val (.int (2 : Int32)), .val (.int (1 : Int32)), .val (.ref b192), .val (.ref b193), .val (.ref b194), .val (.int (2 : Int32)), .val (.long (w0_91_c x0 x1 x2 x3 x4)), .second, .val (.long (w0_117_a x0 x1 x2 x3 x4)), .second] [(.ref b193)])) rfl ?_
              obtain ⟨cl210, Ar210, q210, S210, M210, Hs210, G210⟩ := id V_b193
              refine Goes.st (B := T195.setTop (mkF m 165 #[.val (.int x0), .val (.long x1), .second, .val (.long x2), .second, .val (.long x3), .second, .val (.long x4), .second, .val (.int (2 : Int32)), .val (.int (1 : Int32)), .val (.ref b192), .val (.ref b193), .val (.ref b194), .val (.int (2 : Int32)), .val (.long (w0_91_c x0 x1 x2 x3 x4)), .second, .val (.long (w0_117_a x0 x1 x2 x3 x4)), .second] [(.int (1 : Int32))])) (fun t k => ?_) ?_
              · refine X195.arraylength hx (cell := cl210) (by rw [e195]; exact Ar210.1) (State.isArrayOf_alike hZ.alike Ar210.2.1) (g := (mkF m 164 #[.val (.int x0), .val (.long x1), .second, .val (.long x2), .second, .val (.long x3), .second, .val (.long x4), .second, .val (.int (2 : Int32)), .val (.int (1 : Int32)), .val (.ref b192), .val (.ref b193), .val (.ref b194), .val (.int (2 : Int32)), .val (.long (w0_91_c x0 x1 x2 x3 x4)), .second, .val (.long (w0_117_a x0 x1 x2 x3 x4)), .second] [(.ref b193)])) rfl (rest := []) rfl (hb hby at_164) _ ?_
                rw [len_of S210 M210]
                exact k
              refine Goes.run X195 hx hown hci hcl hby (L := [(165, .iload 10, 2)]) (by decide +kernel) rfl (g' := (mkF m 167 #[.val (.int x0), .val (.long x1), .second, .val (.long x2), .second, .val (.long x3), .second, .val (.long x4), .second, .val (.int (2 : Int32)), .val (.int (1 : Int32)), .val (.ref b192), .val (.ref b193), .val (.ref b194), .val (.int (2 : Int32)), .val (.long (w0_91_c x0 x1 x2 x3 x4)), .second, .val (.long (w0_117_a x0 x1 x2 x3 x4)), .second] [(.int (1 : Int32)), (.int (1 : Int32))])) rfl ?_
              have hc167_211 : (1 : Int32) = (1 : Int32) := rfl
              refine Goes.st (B := T195.setTop (mkF m 172 #[.val (.int x0), .val (.long x1), .second, .val (.long x2), .second, .val (.long x3), .second, .val (.long x4), .second, .val (.int (2 : Int32)), .val (.int (1 : Int32)), .val (.ref b192), .val (.ref b193), .val (.ref b194), .val (.int (2 : Int32)), .val (.long (w0_91_c x0 x1 x2 x3 x4)), .second, .val (.long (w0_117_a x0 x1 x2 x3 x4)), .second] [])) (fun t k => ?_) ?_
              · refine XS.icmpYes X195.here hx rfl (pc0 := 167) (pc' := 172) rfl (hb hby at_167) rfl (teq hc167_211).1 (by decide) (by decide) ?_
                exact k
              refine Goes.run X195 hx hown hci hcl hby (L := [(172, .iload 9, 2)]) (by decide +kernel) rfl (g' := (mkF m 174 #[.val (.int x0), .val (.long x1), .second, .val (.long x2), .second, .val (.long x3), .second, .val (.long x4), .second, .val (.int (2 : Int32)), .val (.int (1 : Int32)), .val (.ref b192), .val (.ref b193), .val (.ref b194), .val (.int (2 : Int32)), .val (.long (w0_91_c x0 x1 x2 x3 x4)), .second, .val (.long (w0_117_a x0 x1 x2 x3 x4)), .second] [(.int (2 : Int32))])) rfl ?_
              have hc174_212 : (0 : Int32) < (2 : Int32) := by decide
              refine Goes.st (B := T195.setTop (mkF m 177 #[.val (.int x0), .val (.long x1), .second, .val (.long x2), .second, .val (.long x3), .second, .val (.long x4), .second, .val (.int (2 : Int32)), .val (.int (1 : Int32)), .val (.ref b192), .val (.ref b193), .val (.ref b194), .val (.int (2 : Int32)), .val (.long (w0_91_c x0 x1 x2 x3 x4)), .second, .val (.long (w0_117_a x0 x1 x2 x3 x4)), .second] [])) (fun t k => ?_) ?_
              · refine XS.ifNo X195.here hx rfl (hb hby at_174) rfl ((if0 _ _).trans (tlt hc174_212).2.2.2) ?_
                exact k
              refine Goes.run X195 hx hown hci hcl hby (L := [(177, .aload 11, 2), (179, .iconst 0, 1)]) (by decide +kernel) rfl (g' := (mkF m 180 #[.val (.int x0), .val (.long x1), .second, .val (.long x2), .second, .val (.long x3), .second, .val (.long x4), .second, .val (.int (2 : Int32)), .val (.int (1 : Int32)), .val (.ref b192), .val (.ref b193), .val (.ref b194), .val (.int (2 : Int32)), .val (.long (w0_91_c x0 x1 x2 x3 x4)), .second, .val (.long (w0_117_a x0 x1 x2 x3 x4)), .second] [(.int (0 : Int32)), (.ref b192)])) rfl ?_
              obtain ⟨cl213, Ar213, q213, S213, M213, Hs213, G213⟩ := id V_b192
              have hin213 : ¬ ((0 : Int32) < 0 ∨ cl213.slots.size ≤ ((0 : Int32)).toNatClampNeg) := inb_of S213 ⟨(by decide), (by decide)⟩
              have hat213 : cl213.slots[((0 : Int32)).toNatClampNeg]? = some (.long x1) := Hs213.at hin213 rfl
              refine Goes.st (B := T195.setTop (mkF m 181 #[.val (.int x0), .val (.long x1), .second, .val (.long x2), .second, .val (.long x3), .second, .val (.long x4), .second, .val (.int (2 : Int32)), .val (.int (1 : Int32)), .val (.ref b192), .val (.ref b193), .val (.ref b194), .val (.int (2 : Int32)), .val (.long (w0_91_c x0 x1 x2 x3 x4)), .second, .val (.long (w0_117_a x0 x1 x2 x3 x4)), .second] [(.long x1)])) (X195.laload hx (j := (0 : Int32)) (v := (.long x1)) (by rw [e195]; exact Ar213.1) (State.isArrayOf_alike hZ.alike Ar213.2.1) Ar213.2.2 hin213 hat213 (g := (mkF m 180 #[.val (.int x0), .val (.long x1), .second, .val (.long x2), .second, .val (.long x3), .second, .val (.long x4), .second, .val (.int (2 : Int32)), .val (.int (1 : Int32)), .val (.ref b192), .val (.ref b193), .val (.ref b194), .val (.int (2 : Int32)), .val (.long (w0_91_c x0 x1 x2 x3 x4)), .second, .val (.long (w0_117_a x0 x1 x2 x3 x4)), .second] [(.int (0 : Int32)), (.ref b192)])) rfl rfl (hb hby at_180)) ?_
              refine Goes.run X195 hx hown hci hcl hby (L := [(181, .lload_n 1, 1), (182, .lcmp, 1)]) (by decide +kernel) rfl (g' := (mkF m 183 #[.val (.int x0), .val (.long x1), .second, .val (.long x2), .second, .val (.long x3), .second, .val (.long x4), .second, .val (.int (2 : Int32)), .val (.int (1 : Int32)), .val (.ref b192), .val (.ref b193), .val (.ref b194), .val (.int (2 : Int32)), .val (.long (w0_91_c x0 x1 x2 x3 x4)), .second, .val (.long (w0_117_a x0 x1 x2 x3 x4)), .second] [(.int (lcmpW x1 x1))])) rfl ?_
              have hc183_214 : x1 = x1 := rfl
              refine Goes.st (B := T195.setTop (mkF m 188 #[.val (.int x0), .val (.long x1), .second, .val (.long x2), .second, .val (.long x3), .second, .val (.long x4), .second, .val (.int (2 : Int32)), .val (.int (1 : Int32)), .val (.ref b192), .val (.ref b193), .val (.ref b194), .val (.int (2 : Int32)), .val (.long (w0_91_c x0 x1 x2 x3 x4)), .second, .val (.long (w0_117_a x0 x1 x2 x3 x4)), .second] [])) (fun t k => ?_) ?_
              · refine XS.ifYes X195.here hx rfl (pc0 := 183) (pc' := 188) rfl (hb hby at_183) rfl (teqL hc183_214).1 (by decide) (by decide) ?_
                exact k
              refine Goes.run X195 hx hown hci hcl hby (L := [(188, .iload 9, 2), (190, .iconst 1, 1)]) (by decide +kernel) rfl (g' := (mkF m 191 #[.val (.int x0), .val (.long x1), .second, .val (.long x2), .second, .val (.long x3), .second, .val (.long x4), .second, .val (.int (2 : Int32)), .val (.int (1 : Int32)), .val (.ref b192), .val (.ref b193), .val (.ref b194), .val (.int (2 : Int32)), .val (.long (w0_91_c x0 x1 x2 x3 x4)), .second, .val (.long (w0_117_a x0 x1 x2 x3 x4)), .second] [(.int (1 : Int32)), (.int (2 : Int32))])) rfl ?_
              have hc191_215 : (1 : Int32) < (2 : Int32) := by decide
              refine Goes.st (B := T195.setTop (mkF m 194 #[.val (.int x0), .val (.long x1), .second, .val (.long x2), .second, .val (.long x3), .second, .val (.long x4), .second, .val (.int (2 : Int32)), .val (.int (1 : Int32)), .val (.ref b192), .val (.ref b193), .val (.ref b194), .val (.int (2 : Int32)), .val (.long (w0_91_c x0 x1 x2 x3 x4)), .second, .val (.long (w0_117_a x0 x1 x2 x3 x4)), .second] [])) (fun t k => ?_) ?_
              · refine XS.icmpNo X195.here hx rfl (hb hby at_191) rfl (tlt hc191_215).2.2.2 ?_
                exact k
              refine Goes.run X195 hx hown hci hcl hby (L := [(194, .aload 11, 2), (196, .iconst 1, 1)]) (by decide +kernel) rfl (g' := (mkF m 197 #[.val (.int x0), .val (.long x1), .second, .val (.long x2), .second, .val (.long x3), .second, .val (.long x4), .second, .val (.int (2 : Int32)), .val (.int (1 : Int32)), .val (.ref b192), .val (.ref b193), .val (.ref b194), .val (.int (2 : Int32)), .val (.long (w0_91_c x0 x1 x2 x3 x4)), .second, .val (.long (w0_117_a x0 x1 x2 x3 x4)), .second] [(.int (1 : Int32)), (.ref b192)])) rfl ?_
              obtain ⟨cl216, Ar216, q216, S216, M216, Hs216, G216⟩ := id V_b192
              have hin216 : ¬ ((1 : Int32) < 0 ∨ cl216.slots.size ≤ ((1 : Int32)).toNatClampNeg) := inb_of S216 ⟨(by decide), (by decide)⟩
              have hat216 : cl216.slots[((1 : Int32)).toNatClampNeg]? = some (.long x2) := Hs216.at hin216 rfl
              refine Goes.st (B := T195.setTop (mkF m 198 #[.val (.int x0), .val (.long x1), .second, .val (.long x2), .second, .val (.long x3), .second, .val (.long x4), .second, .val (.int (2 : Int32)), .val (.int (1 : Int32)), .val (.ref b192), .val (.ref b193), .val (.ref b194), .val (.int (2 : Int32)), .val (.long (w0_91_c x0 x1 x2 x3 x4)), .second, .val (.long (w0_117_a x0 x1 x2 x3 x4)), .second] [(.long x2)])) (X195.laload hx (j := (1 : Int32)) (v := (.long x2)) (by rw [e195]; exact Ar216.1) (State.isArrayOf_alike hZ.alike Ar216.2.1) Ar216.2.2 hin216 hat216 (g := (mkF m 197 #[.val (.int x0), .val (.long x1), .second, .val (.long x2), .second, .val (.long x3), .second, .val (.long x4), .second, .val (.int (2 : Int32)), .val (.int (1 : Int32)), .val (.ref b192), .val (.ref b193), .val (.ref b194), .val (.int (2 : Int32)), .val (.long (w0_91_c x0 x1 x2 x3 x4)), .second, .val (.long (w0_117_a x0 x1 x2 x3 x4)), .second] [(.int (1 : Int32)), (.ref b192)])) rfl rfl (hb hby at_197)) ?_
              refine Goes.run X195 hx hown hci hcl hby (L := [(198, .lload_n 3, 1), (199, .lcmp, 1)]) (by decide +kernel) rfl (g' := (mkF m 200 #[.val (.int x0), .val (.long x1), .second, .val (.long x2), .second, .val (.long x3), .second, .val (.long x4), .second, .val (.int (2 : Int32)), .val (.int (1 : Int32)), .val (.ref b192), .val (.ref b193), .val (.ref b194), .val (.int (2 : Int32)), .val (.long (w0_91_c x0 x1 x2 x3 x4)), .second, .val (.long (w0_117_a x0 x1 x2 x3 x4)), .second] [(.int (lcmpW x2 x2))])) rfl ?_
              have hc200_217 : x2 = x2 := rfl
              refine Goes.st (B := T195.setTop (mkF m 205 #[.val (.int x0), .val (.long x1), .second, .val (.long x2), .second, .val (.long x3), .second, .val (.long x4), .second, .val (.int (2 : Int32)), .val (.int (1 : Int32)), .val (.ref b192), .val (.ref b193), .val (.ref b194), .val (.int (2 : Int32)), .val (.long (w0_91_c x0 x1 x2 x3 x4)), .second, .val (.long (w0_117_a x0 x1 x2 x3 x4)), .second] [])) (fun t k => ?_) ?_
              · refine XS.ifYes X195.here hx rfl (pc0 := 200) (pc' := 205) rfl (hb hby at_200) rfl (teqL hc200_217).1 (by decide) (by decide) ?_
                exact k
              refine Goes.run X195 hx hown hci hcl hby (L := [(205, .iload 10, 2)]) (by decide +kernel) rfl (g' := (mkF m 207 #[.val (.int x0), .val (.long x1), .second, .val (.long x2), .second, .val (.long x3), .second, .val (.long x4), .second, .val (.int (2 : Int32)), .val (.int (1 : Int32)), .val (.ref b192), .val (.ref b193), .val (.ref b194), .val (.int (2 : Int32)), .val (.long (w0_91_c x0 x1 x2 x3 x4)), .second, .val (.long (w0_117_a x0 x1 x2 x3 x4)), .second] [(.int (1 : Int32))])) rfl ?_
              have hc207_218 : (0 : Int32) < (1 : Int32) := by decide
              refine Goes.st (B := T195.setTop (mkF m 210 #[.val (.int x0), .val (.long x1), .second, .val (.long x2), .second, .val (.long x3), .second, .val (.long x4), .second, .val (.int (2 : Int32)), .val (.int (1 : Int32)), .val (.ref b192), .val (.ref b193), .val (.ref b194), .val (.int (2 : Int32)), .val (.long (w0_91_c x0 x1 x2 x3 x4)), .second, .val (.long (w0_117_a x0 x1 x2 x3 x4)), .second] [])) (fun t k => ?_) ?_
              · refine XS.ifNo X195.here hx rfl (hb hby at_207) rfl ((if0 _ _).trans (tlt hc207_218).2.2.2) ?_
                exact k
              refine Goes.run X195 hx hown hci hcl hby (L := [(210, .aload 12, 2), (212, .iconst 0, 1)]) (by decide +kernel) rfl (g' := (mkF m 213 #[.val (.int x0), .val (.long x1), .second, .val (.long x2), .second, .val (.long x3), .second, .val (.long x4), .second, .val (.int (2 : Int32)), .val (.int (1 : Int32)), .val (.ref b192), .val (.ref b193), .val (.ref b194), .val (.int (2 : Int32)), .val (.long (w0_91_c x0 x1 x2 x3 x4)), .second, .val (.long (w0_117_a x0 x1 x2 x3 x4)), .second] [(.int (0 : Int32)), (.ref b193)])) rfl ?_
              obtain ⟨cl219, Ar219, q219, S219, M219, Hs219, G219⟩ := id V_b193
              have hin219 : ¬ ((0 : Int32) < 0 ∨ cl219.slots.size ≤ ((0 : Int32)).toNatClampNeg) := inb_of S219 ⟨(by decide), (by decide)⟩
              have hat219 : cl219.slots[((0 : Int32)).toNatClampNeg]? = some (.long x3) := Hs219.at hin219 rfl
              refine Goes.st (B := T195.setTop (mkF m 214 #[.val (.int x0), .val (.long x1), .second, .val (.long x2), .second, .val (.long x3), .second, .val (.long x4), .second, .val (.int (2 : Int32)), .val (.int (1 : Int32)), .val (.ref b192), .val (.ref b193), .val (.ref b194), .val (.int (2 : Int32)), .val (.long (w0_91_c x0 x1 x2 x3 x4)), .second, .val (.long (w0_117_a x0 x1 x2 x3 x4)), .second] [(.long x3)])) (X195.laload hx (j := (0 : Int32)) (v := (.long x3)) (by rw [e195]; exact Ar219.1) (State.isArrayOf_alike hZ.alike Ar219.2.1) Ar219.2.2 hin219 hat219 (g := (mkF m 213 #[.val (.int x0), .val (.long x1), .second, .val (.long x2), .second, .val (.long x3), .second, .val (.long x4), .second, .val (.int (2 : Int32)), .val (.int (1 : Int32)), .val (.ref b192), .val (.ref b193), .val (.ref b194), .val (.int (2 : Int32)), .val (.long (w0_91_c x0 x1 x2 x3 x4)), .second, .val (.long (w0_117_a x0 x1 x2 x3 x4)), .second] [(.int (0 : Int32)), (.ref b193)])) rfl rfl (hb hby at_213)) ?_
              refine Goes.run X195 hx hown hci hcl hby (L := [(214, .lload 5, 2), (216, .lcmp, 1)]) (by decide +kernel) rfl (g' := (mkF m 217 #[.val (.int x0), .val (.long x1), .second, .val (.long x2), .second, .val (.long x3), .second, .val (.long x4), .second, .val (.int (2 : Int32)), .val (.int (1 : Int32)), .val (.ref b192), .val (.ref b193), .val (.ref b194), .val (.int (2 : Int32)), .val (.long (w0_91_c x0 x1 x2 x3 x4)), .second, .val (.long (w0_117_a x0 x1 x2 x3 x4)), .second] [(.int (lcmpW x3 x3))])) rfl ?_
              have hc217_220 : x3 = x3 := rfl
              refine Goes.st (B := T195.setTop (mkF m 222 #[.val (.int x0), .val (.long x1), .second, .val (.long x2), .second, .val (.long x3), .second, .val (.long x4), .second, .val (.int (2 : Int32)), .val (.int (1 : Int32)), .val (.ref b192), .val (.ref b193), .val (.ref b194), .val (.int (2 : Int32)), .val (.long (w0_91_c x0 x1 x2 x3 x4)), .second, .val (.long (w0_117_a x0 x1 x2 x3 x4)), .second] [])) (fun t k => ?_) ?_
              · refine XS.ifYes X195.here hx rfl (pc0 := 217) (pc' := 222) rfl (hb hby at_217) rfl (teqL hc217_220).1 (by decide) (by decide) ?_
                exact k
              refine Goes.run X195 hx hown hci hcl hby (L := [(222, .iload 10, 2), (224, .iconst 1, 1)]) (by decide +kernel) rfl (g' := (mkF m 225 #[.val (.int x0), .val (.long x1), .second, .val (.long x2), .second, .val (.long x3), .second, .val (.long x4), .second, .val (.int (2 : Int32)), .val (.int (1 : Int32)), .val (.ref b192), .val (.ref b193), .val (.ref b194), .val (.int (2 : Int32)), .val (.long (w0_91_c x0 x1 x2 x3 x4)), .second, .val (.long (w0_117_a x0 x1 x2 x3 x4)), .second] [(.int (1 : Int32)), (.int (1 : Int32))])) rfl ?_
              have hc225_221 : ¬ ((1 : Int32) < (1 : Int32)) := Int32.lt_irrefl
              refine Goes.st (B := T195.setTop (mkF m 240 #[.val (.int x0), .val (.long x1), .second, .val (.long x2), .second, .val (.long x3), .second, .val (.long x4), .second, .val (.int (2 : Int32)), .val (.int (1 : Int32)), .val (.ref b192), .val (.ref b193), .val (.ref b194), .val (.int (2 : Int32)), .val (.long (w0_91_c x0 x1 x2 x3 x4)), .second, .val (.long (w0_117_a x0 x1 x2 x3 x4)), .second] [])) (fun t k => ?_) ?_
              · refine XS.icmpYes X195.here hx rfl (pc0 := 225) (pc' := 240) rfl (hb hby at_225) rfl (flt hc225_221).2.2.2 (by decide) (by decide) ?_
                exact k
              refine Goes.run X195 hx hown hci hcl hby (L := [(240, .iconst 1, 1)]) (by decide +kernel) rfl (g' := (mkF m 241 #[.val (.int x0), .val (.long x1), .second, .val (.long x2), .second, .val (.long x3), .second, .val (.long x4), .second, .val (.int (2 : Int32)), .val (.int (1 : Int32)), .val (.ref b192), .val (.ref b193), .val (.ref b194), .val (.int (2 : Int32)), .val (.long (w0_91_c x0 x1 x2 x3 x4)), .second, .val (.long (w0_117_a x0 x1 x2 x3 x4)), .second] [(.int (1 : Int32))])) rfl ?_
              exact Goes.retB X195 hx hlk (t := .boolean) Bd.returns (by simp) (hb hby at_241) rfl ⟨(congrArg (fun z => some (Value.int z)) (show (r0 x0 x1 x2 x3 x4) = (1 : Int32) from ((((((if_neg hs21_1).trans (if_neg hs21_77)).trans (if_neg hs21_162)).trans (if_pos hs21_191)).trans (if_pos hc131_204)).trans (if_pos hc149_207))).symm), N195⟩ (by decide) (by decide)
            · skip
              refine Goes.st (B := T195.setTop (mkF m 152 #[.val (.int x0), .val (.long x1), .second, .val (.long x2), .second, .val (.long x3), .second, .val (.long x4), .second, .val (.int (2 : Int32)), .val (.int (1 : Int32)), .val (.ref b192), .val (.ref b193), .val (.ref b194), .val (.int (2 : Int32)), .val (.long (w0_91_c x0 x1 x2 x3 x4)), .second, .val (.long (w0_117_a x0 x1 x2 x3 x4)), .second] [])) (fun t k => ?_) ?_
              · refine XS.ifNo X195.here hx rfl (hb hby at_149) rfl (feqL hc149_207).1 ?_
                exact k
              refine Goes.run X195 hx hown hci hcl hby (L := [(152, .iconst 0, 1)]) (by decide +kernel) rfl (g' := (mkF m 153 #[.val (.int x0), .val (.long x1), .second, .val (.long x2), .second, .val (.long x3), .second, .val (.long x4), .second, .val (.int (2 : Int32)), .val (.int (1 : Int32)), .val (.ref b192), .val (.ref b193), .val (.ref b194), .val (.int (2 : Int32)), .val (.long (w0_91_c x0 x1 x2 x3 x4)), .second, .val (.long (w0_117_a x0 x1 x2 x3 x4)), .second] [(.int (0 : Int32))])) rfl ?_
              exact Goes.retB X195 hx hlk (t := .boolean) Bd.returns (by simp) (hb hby at_153) rfl ⟨(congrArg (fun z => some (Value.int z)) (show (r0 x0 x1 x2 x3 x4) = (0 : Int32) from ((((((if_neg hs21_1).trans (if_neg hs21_77)).trans (if_neg hs21_162)).trans (if_pos hs21_191)).trans (if_pos hc131_204)).trans (if_neg hc149_207))).symm), N195⟩ (by decide) (by decide)
          · skip
            refine Goes.st (B := T195.setTop (mkF m 134 #[.val (.int x0), .val (.long x1), .second, .val (.long x2), .second, .val (.long x3), .second, .val (.long x4), .second, .val (.int (2 : Int32)), .val (.int (1 : Int32)), .val (.ref b192), .val (.ref b193), .val (.ref b194), .val (.int (2 : Int32)), .val (.long (w0_91_c x0 x1 x2 x3 x4)), .second, .val (.long (w0_117_a x0 x1 x2 x3 x4)), .second] [])) (fun t k => ?_) ?_
            · refine XS.ifNo X195.here hx rfl (hb hby at_131) rfl (feqL hc131_204).1 ?_
              exact k
            refine Goes.run X195 hx hown hci hcl hby (L := [(134, .iconst 0, 1)]) (by decide +kernel) rfl (g' := (mkF m 135 #[.val (.int x0), .val (.long x1), .second, .val (.long x2), .second, .val (.long x3), .second, .val (.long x4), .second, .val (.int (2 : Int32)), .val (.int (1 : Int32)), .val (.ref b192), .val (.ref b193), .val (.ref b194), .val (.int (2 : Int32)), .val (.long (w0_91_c x0 x1 x2 x3 x4)), .second, .val (.long (w0_117_a x0 x1 x2 x3 x4)), .second] [(.int (0 : Int32))])) rfl ?_
            exact Goes.retB X195 hx hlk (t := .boolean) Bd.returns (by simp) (hb hby at_135) rfl ⟨(congrArg (fun z => some (Value.int z)) (show (r0 x0 x1 x2 x3 x4) = (0 : Int32) from (((((if_neg hs21_1).trans (if_neg hs21_77)).trans (if_neg hs21_162)).trans (if_pos hs21_191)).trans (if_neg hc131_204))).symm), N195⟩ (by decide) (by decide)
        · skip
          have hs21_222 : (w0_19 x0 x1 x2 x3 x4) = (2 : Int32) := own_l10 x0 x1 x2 x3 x4 hs21_162 hs21_191
          rw [hs21_222]
          refine Goes.run X0 hx hown hci hcl hby (L := [(21, .iload 9, 2), (23, .lload_n 1, 1), (24, .lload_n 3, 1)]) (by decide +kernel) rfl (g' := (mkF m 25 #[.val (.int x0), .val (.long x1), .second, .val (.long x2), .second, .val (.long x3), .second, .val (.long x4), .second, .val (.int (2 : Int32)), .val (.int (2 : Int32)), .unset, .unset, .unset, .unset, .unset, .unset, .unset, .unset] [(.long x2), (.long x1), (.int (2 : Int32))])) rfl ?_
          obtain ⟨_, _, ⟨T223, L223, k223, n223⟩, -, X223, ⟨Lc223, hQ223, l223, y223, z223⟩, st223⟩ := Jvm.LawKit.callS X0 hx (y := (⟨"com/example/marks_across_domains/marksacrossdomains/BitsUnionPinLaw", "make", "(IJJ)[J"⟩ : MethodName)) hown (mvT hZ (hw _ (List.mem_of_getElem? (i := 0) rfl))) (mvT hZ (hw _ (List.mem_of_getElem? (i := 1) rfl))) (mvT hZ (hw _ (List.mem_of_getElem? (i := 2) rfl))) (mvT hZ (hw _ (List.mem_of_getElem? (i := 3) rfl))) (by decide) (backOf (W := 0) (rm22 l Z a0 hw [] x1 x2 h0 n0 Z0 ) hZ (hw _ (List.mem_of_getElem? (i := 3) rfl)) (hw _ (List.mem_of_getElem? (i := 2) rfl)) (by decide) (by decide)) (g := (mkF m 25 #[.val (.int x0), .val (.long x1), .second, .val (.long x2), .second, .val (.long x3), .second, .val (.long x4), .second, .val (.int (2 : Int32)), .val (.int (2 : Int32)), .unset, .unset, .unset, .unset, .unset, .unset, .unset, .unset] [(.long x2), (.long x1), (.int (2 : Int32))])) rfl (by rw [hml]; rfl) (argsL := [(.int (2 : Int32)), (.long x1), (.long x2)]) (rest := []) (lenOf pd0_0 rfl) rfl (by show 2 * 0 + _ ≤ _; exact Nat.le_of_eq rfl) (hb hby at_25) (fun _ _ => ⟨rfl, e0, (by decide : 0 + 1 ≤ _), (by decide : 0 + 2 ≤ _)⟩)
          dsimp only [Pt.U, Pt.locs, Pt.cells, Pt.slots] at X223 l223 y223 z223 st223 hQ223
          subst l223 y223 z223
          obtain ⟨h223, eh223⟩ : ∃ z, z = T223.heap := ⟨_, rfl⟩
          rw [← eh223] at hQ223
          have e223 : T223.heap = h223 := eh223.symm
          obtain ⟨b223, kc223, rfl, N223q, Kq223, szq223, o223_0, o223_1⟩ := hQ223
          have g_b223 : n0 ≤ b223 := Nat.le_trans Z0 szq223
          have N223 := Fr.app N0 N223q
          have E_b223 : Exa Z h223 b223 "[J" := o223_0
          have V_b223 : Arv Z h223 b223 kc223 .long (2 : Int32) [(.long x1), (.long x2)] (.long (0 : Int64)) := o223_1
          have Zn223 : n0 ≤ h223.size := Nat.le_trans Z0 Kq223.1
          refine Goes.st (B := T223.setTop (mkF m 28 #[.val (.int x0), .val (.long x1), .second, .val (.long x2), .second, .val (.long x3), .second, .val (.long x4), .second, .val (.int (2 : Int32)), .val (.int (2 : Int32)), .unset, .unset, .unset, .unset, .unset, .unset, .unset, .unset] [(.ref b223)])) st223 ?_
          refine Goes.run X223 hx hown hci hcl hby (L := [(28, .astore 11, 2), (30, .iload 10, 2), (32, .lload 5, 2), (34, .lload 7, 2)]) (by decide +kernel) rfl (g' := (mkF m 36 #[.val (.int x0), .val (.long x1), .second, .val (.long x2), .second, .val (.long x3), .second, .val (.long x4), .second, .val (.int (2 : Int32)), .val (.int (2 : Int32)), .val (.ref b223), .unset, .unset, .unset, .unset, .unset, .unset, .unset] [(.long x4), (.long x3), (.int (2 : Int32))])) rfl ?_
          obtain ⟨_, _, ⟨T224, L224, k224, n224⟩, -, X224, ⟨Lc224, hQ224, l224, y224, z224⟩, st224⟩ := Jvm.LawKit.callS X223 hx (y := (⟨"com/example/marks_across_domains/marksacrossdomains/BitsUnionPinLaw", "make", "(IJJ)[J"⟩ : MethodName)) hown (mvT hZ (hw _ (List.mem_of_getElem? (i := 0) rfl))) (mvT hZ (hw _ (List.mem_of_getElem? (i := 1) rfl))) (mvT hZ (hw _ (List.mem_of_getElem? (i := 2) rfl))) (mvT hZ (hw _ (List.mem_of_getElem? (i := 3) rfl))) (by decide) (backOf (W := 0) (rm22 l Z a0 hw [] x3 x4 h223 n0 Zn223 ) hZ (hw _ (List.mem_of_getElem? (i := 3) rfl)) (hw _ (List.mem_of_getElem? (i := 2) rfl)) (by decide) (by decide)) (g := (mkF m 36 #[.val (.int x0), .val (.long x1), .second, .val (.long x2), .second, .val (.long x3), .second, .val (.long x4), .second, .val (.int (2 : Int32)), .val (.int (2 : Int32)), .val (.ref b223), .unset, .unset, .unset, .unset, .unset, .unset, .unset] [(.long x4), (.long x3), (.int (2 : Int32))])) rfl (by rw [hml]; rfl) (argsL := [(.int (2 : Int32)), (.long x3), (.long x4)]) (rest := []) (lenOf pd0_0 rfl) rfl (by show 2 * 0 + _ ≤ _; exact Nat.le_of_eq rfl) (hb hby at_36) (fun _ _ => ⟨rfl, e223, (by decide : 1 + 1 ≤ _), (by decide : 2 + 2 ≤ _)⟩)
          dsimp only [Pt.U, Pt.locs, Pt.cells, Pt.slots] at X224 l224 y224 z224 st224 hQ224
          subst l224 y224 z224
          obtain ⟨h224, eh224⟩ : ∃ z, z = T224.heap := ⟨_, rfl⟩
          rw [← eh224] at hQ224
          have e224 : T224.heap = h224 := eh224.symm
          obtain ⟨b224, kc224, rfl, N224q, Kq224, szq224, o224_0, o224_1⟩ := hQ224
          have ne_b223_b224 : b223 ≠ b224 := Nat.ne_of_lt (Nat.lt_of_lt_of_le E_b223.lt szq224)
          have g_b224 : n0 ≤ b224 := Nat.le_trans Zn223 szq224
          have N224 := Fr.app N223 N224q
          have E_b223 := E_b223.keep Kq224
          have V_b223 := V_b223.keep Kq224 nin0
          have E_b224 : Exa Z h224 b224 "[J" := o224_0
          have V_b224 : Arv Z h224 b224 kc224 .long (2 : Int32) [(.long x3), (.long x4)] (.long (0 : Int64)) := o224_1
          have Zn224 : n0 ≤ h224.size := Nat.le_trans Zn223 Kq224.1
          refine Goes.st (B := T224.setTop (mkF m 39 #[.val (.int x0), .val (.long x1), .second, .val (.long x2), .second, .val (.long x3), .second, .val (.long x4), .second, .val (.int (2 : Int32)), .val (.int (2 : Int32)), .val (.ref b223), .unset, .unset, .unset, .unset, .unset, .unset, .unset] [(.ref b224)])) st224 ?_
          refine Goes.run X224 hx hown hci hcl hby (L := [(39, .astore 12, 2), (41, .aload 11, 2), (43, .aload 12, 2)]) (by decide +kernel) rfl (g' := (mkF m 45 #[.val (.int x0), .val (.long x1), .second, .val (.long x2), .second, .val (.long x3), .second, .val (.long x4), .second, .val (.int (2 : Int32)), .val (.int (2 : Int32)), .val (.ref b223), .val (.ref b224), .unset, .unset, .unset, .unset, .unset, .unset] [(.ref b224), (.ref b223)])) rfl ?_
          obtain ⟨_, _, ⟨T225, L225, k225, n225⟩, -, X225, ⟨Lc225, hQ225, l225, y225, z225⟩, st225⟩ := Jvm.LawKit.callS X224 hx (y := (⟨"com/example/marks_across_domains/marksacrossdomains/Bits", "union", "([J[J)[J"⟩ : MethodName)) hown (mvT hZ (hw _ (List.mem_of_getElem? (i := 5) rfl))) (mvT hZ (hw _ (List.mem_of_getElem? (i := 6) rfl))) (mvT hZ (hw _ (List.mem_of_getElem? (i := 7) rfl))) (mvT hZ (hw _ (List.mem_of_getElem? (i := 8) rfl))) (by decide) (backOf (W := 0) (rm322 l Z a0 hw [] b223 b224 kc223 kc224 x1 x2 x3 x4 h224 n0 Zn224 E_b223 V_b223 E_b224 V_b224) hZ (hw _ (List.mem_of_getElem? (i := 8) rfl)) (hw _ (List.mem_of_getElem? (i := 7) rfl)) (by decide) (by decide)) (g := (mkF m 45 #[.val (.int x0), .val (.long x1), .second, .val (.long x2), .second, .val (.long x3), .second, .val (.long x4), .second, .val (.int (2 : Int32)), .val (.int (2 : Int32)), .val (.ref b223), .val (.ref b224), .unset, .unset, .unset, .unset, .unset, .unset] [(.ref b224), (.ref b223)])) rfl (by rw [hml]; rfl) (argsL := [(.ref b223), (.ref b224)]) (rest := []) (lenOf pd0_1 rfl) rfl (by show 2 * 0 + _ ≤ _; exact Nat.le_of_eq rfl) (hb hby at_45) (fun _ _ => ⟨rfl, e224, (by decide : 2 + 1 ≤ _), (by decide : 4 + 2 ≤ _)⟩)
          dsimp only [Pt.U, Pt.locs, Pt.cells, Pt.slots] at X225 l225 y225 z225 st225 hQ225
          subst l225 y225 z225
          obtain ⟨h225, eh225⟩ : ∃ z, z = T225.heap := ⟨_, rfl⟩
          rw [← eh225] at hQ225
          have e225 : T225.heap = h225 := eh225.symm
          obtain ⟨b225, kc225, rfl, N225q, Kq225, szq225, o225_0, o225_1⟩ := hQ225
          have ne_b223_b225 : b223 ≠ b225 := Nat.ne_of_lt (Nat.lt_of_lt_of_le E_b223.lt szq225)
          have ne_b224_b225 : b224 ≠ b225 := Nat.ne_of_lt (Nat.lt_of_lt_of_le E_b224.lt szq225)
          have g_b225 : n0 ≤ b225 := Nat.le_trans Zn224 szq225
          have N225 := Fr.app N224 N225q
          have E_b223 := E_b223.keep Kq225
          have V_b223 := V_b223.keep Kq225 nin0
          have E_b224 := E_b224.keep Kq225
          have V_b224 := V_b224.keep Kq225 nin0
          have E_b225 : Exa Z h225 b225 "[J" := o225_0
          have V_b225 : Arv Z h225 b225 kc225 .long (2 : Int32) [(.long (x1 ||| x3)), (.long (x2 ||| x4))] (.long (0 : Int64)) := o225_1
          have Zn225 : n0 ≤ h225.size := Nat.le_trans Zn224 Kq225.1
          refine Goes.st (B := T225.setTop (mkF m 48 #[.val (.int x0), .val (.long x1), .second, .val (.long x2), .second, .val (.long x3), .second, .val (.long x4), .second, .val (.int (2 : Int32)), .val (.int (2 : Int32)), .val (.ref b223), .val (.ref b224), .unset, .unset, .unset, .unset, .unset, .unset] [(.ref b225)])) st225 ?_
          refine Goes.run X225 hx hown hci hcl hby (L := [(48, .astore 13, 2), (50, .iload 9, 2), (52, .iload 10, 2)]) (by decide +kernel) rfl (g' := (mkF m 54 #[.val (.int x0), .val (.long x1), .second, .val (.long x2), .second, .val (.long x3), .second, .val (.long x4), .second, .val (.int (2 : Int32)), .val (.int (2 : Int32)), .val (.ref b223), .val (.ref b224), .val (.ref b225), .unset, .unset, .unset, .unset, .unset] [(.int (2 : Int32)), (.int (2 : Int32))])) rfl ?_
          obtain ⟨_, _, ⟨T226, L226, k226, n226⟩, -, X226, ⟨Lc226, hQ226, l226, y226, z226⟩, st226⟩ := Jvm.LawKit.callS X225 hx (y := (⟨"java/lang/Math", "max", "(II)I"⟩ : MethodName)) hown (mvT hZ (hw _ (List.mem_of_getElem? (i := 18) rfl))) (mvT hZ (hw _ (List.mem_of_getElem? (i := 19) rfl))) (mvT hZ (hw _ (List.mem_of_getElem? (i := 20) rfl))) (mvT hZ (hw _ (List.mem_of_getElem? (i := 21) rfl))) (by decide) (backOf (W := 0) (rm1 l Z a0 hw [] (2 : Int32) (2 : Int32) h225 n0 Zn225 ) hZ (hw _ (List.mem_of_getElem? (i := 21) rfl)) (hw _ (List.mem_of_getElem? (i := 20) rfl)) (by decide) (by decide)) (g := (mkF m 54 #[.val (.int x0), .val (.long x1), .second, .val (.long x2), .second, .val (.long x3), .second, .val (.long x4), .second, .val (.int (2 : Int32)), .val (.int (2 : Int32)), .val (.ref b223), .val (.ref b224), .val (.ref b225), .unset, .unset, .unset, .unset, .unset] [(.int (2 : Int32)), (.int (2 : Int32))])) rfl (by rw [hml]; rfl) (argsL := [(.int (2 : Int32)), (.int (2 : Int32))]) (rest := []) (lenOf pd0_2 rfl) rfl (by show 2 * 0 + _ ≤ _; exact Nat.le_of_eq rfl) (hb hby at_54) (fun _ _ => ⟨rfl, e225, (by decide : 3 + 0 ≤ _), (by decide : 6 + 0 ≤ _)⟩)
          dsimp only [Pt.U, Pt.locs, Pt.cells, Pt.slots] at X226 l226 y226 z226 st226 hQ226
          subst l226 y226 z226
          obtain ⟨rfl, N226q, e226⟩ := hQ226
          have N226 := Fr.app N225 N226q
          refine Goes.st (B := T226.setTop (mkF m 57 #[.val (.int x0), .val (.long x1), .second, .val (.long x2), .second, .val (.long x3), .second, .val (.long x4), .second, .val (.int (2 : Int32)), .val (.int (2 : Int32)), .val (.ref b223), .val (.ref b224), .val (.ref b225), .unset, .unset, .unset, .unset, .unset] [(.int (2 : Int32))])) st226 ?_
          refine Goes.run X226 hx hown hci hcl hby (L := [(57, .istore 14, 2), (59, .aload 13, 2)]) (by decide +kernel) rfl (g' := (mkF m 61 #[.val (.int x0), .val (.long x1), .second, .val (.long x2), .second, .val (.long x3), .second, .val (.long x4), .second, .val (.int (2 : Int32)), .val (.int (2 : Int32)), .val (.ref b223), .val (.ref b224), .val (.ref b225), .val (.int (2 : Int32)), .unset, .unset, .unset, .unset] [(.ref b225)])) rfl ?_
          obtain ⟨cl227, Ar227, q227, S227, M227, Hs227, G227⟩ := id V_b225
          refine Goes.st (B := T226.setTop (mkF m 62 #[.val (.int x0), .val (.long x1), .second, .val (.long x2), .second, .val (.long x3), .second, .val (.long x4), .second, .val (.int (2 : Int32)), .val (.int (2 : Int32)), .val (.ref b223), .val (.ref b224), .val (.ref b225), .val (.int (2 : Int32)), .unset, .unset, .unset, .unset] [(.int (2 : Int32))])) (fun t k => ?_) ?_
          · refine X226.arraylength hx (cell := cl227) (by rw [e226]; exact Ar227.1) (State.isArrayOf_alike hZ.alike Ar227.2.1) (g := (mkF m 61 #[.val (.int x0), .val (.long x1), .second, .val (.long x2), .second, .val (.long x3), .second, .val (.long x4), .second, .val (.int (2 : Int32)), .val (.int (2 : Int32)), .val (.ref b223), .val (.ref b224), .val (.ref b225), .val (.int (2 : Int32)), .unset, .unset, .unset, .unset] [(.ref b225)])) rfl (rest := []) rfl (hb hby at_61) _ ?_
            rw [len_of S227 M227]
            exact k
          refine Goes.run X226 hx hown hci hcl hby (L := [(62, .iload 14, 2)]) (by decide +kernel) rfl (g' := (mkF m 64 #[.val (.int x0), .val (.long x1), .second, .val (.long x2), .second, .val (.long x3), .second, .val (.long x4), .second, .val (.int (2 : Int32)), .val (.int (2 : Int32)), .val (.ref b223), .val (.ref b224), .val (.ref b225), .val (.int (2 : Int32)), .unset, .unset, .unset, .unset] [(.int (2 : Int32)), (.int (2 : Int32))])) rfl ?_
          have hc64_228 : (2 : Int32) = (2 : Int32) := rfl
          refine Goes.st (B := T226.setTop (mkF m 69 #[.val (.int x0), .val (.long x1), .second, .val (.long x2), .second, .val (.long x3), .second, .val (.long x4), .second, .val (.int (2 : Int32)), .val (.int (2 : Int32)), .val (.ref b223), .val (.ref b224), .val (.ref b225), .val (.int (2 : Int32)), .unset, .unset, .unset, .unset] [])) (fun t k => ?_) ?_
          · refine XS.icmpYes X226.here hx rfl (pc0 := 64) (pc' := 69) rfl (hb hby at_64) rfl (teq hc64_228).1 (by decide) (by decide) ?_
            exact k
          refine Goes.run X226 hx hown hci hcl hby (L := [(69, .iload 9, 2)]) (by decide +kernel) rfl (g' := (mkF m 71 #[.val (.int x0), .val (.long x1), .second, .val (.long x2), .second, .val (.long x3), .second, .val (.long x4), .second, .val (.int (2 : Int32)), .val (.int (2 : Int32)), .val (.ref b223), .val (.ref b224), .val (.ref b225), .val (.int (2 : Int32)), .unset, .unset, .unset, .unset] [(.int (2 : Int32))])) rfl ?_
          have hc71_229 : (0 : Int32) < (2 : Int32) := by decide
          refine Goes.st (B := T226.setTop (mkF m 74 #[.val (.int x0), .val (.long x1), .second, .val (.long x2), .second, .val (.long x3), .second, .val (.long x4), .second, .val (.int (2 : Int32)), .val (.int (2 : Int32)), .val (.ref b223), .val (.ref b224), .val (.ref b225), .val (.int (2 : Int32)), .unset, .unset, .unset, .unset] [])) (fun t k => ?_) ?_
          · refine XS.ifNo X226.here hx rfl (hb hby at_71) rfl ((if0 _ _).trans (tlt hc71_229).2.2.2) ?_
            exact k
          refine Goes.run X226 hx hown hci hcl hby (L := [(74, .lload_n 1, 1), (75, .goto 4, 3), (79, .iload 10, 2)]) (by decide +kernel) rfl (g' := (mkF m 81 #[.val (.int x0), .val (.long x1), .second, .val (.long x2), .second, .val (.long x3), .second, .val (.long x4), .second, .val (.int (2 : Int32)), .val (.int (2 : Int32)), .val (.ref b223), .val (.ref b224), .val (.ref b225), .val (.int (2 : Int32)), .unset, .unset, .unset, .unset] [(.int (2 : Int32)), (.long x1)])) rfl ?_
          have hc81_230 : (0 : Int32) < (2 : Int32) := by decide
          refine Goes.st (B := T226.setTop (mkF m 84 #[.val (.int x0), .val (.long x1), .second, .val (.long x2), .second, .val (.long x3), .second, .val (.long x4), .second, .val (.int (2 : Int32)), .val (.int (2 : Int32)), .val (.ref b223), .val (.ref b224), .val (.ref b225), .val (.int (2 : Int32)), .unset, .unset, .unset, .unset] [(.long x1)])) (fun t k => ?_) ?_
          · refine XS.ifNo X226.here hx rfl (hb hby at_81) rfl ((if0 _ _).trans (tlt hc81_230).2.2.2) ?_
            exact k
          refine Goes.run X226 hx hown hci hcl hby (L := [(84, .lload 5, 2), (86, .goto 4, 3), (90, .lor, 1), (91, .lstore 15, 2), (93, .iload 9, 2), (95, .iconst 1, 1)]) (by decide +kernel) rfl (g' := (mkF m 96 #[.val (.int x0), .val (.long x1), .second, .val (.long x2), .second, .val (.long x3), .second, .val (.long x4), .second, .val (.int (2 : Int32)), .val (.int (2 : Int32)), .val (.ref b223), .val (.ref b224), .val (.ref b225), .val (.int (2 : Int32)), .val (.long (w0_91_c x0 x1 x2 x3 x4)), .second, .unset, .unset] [(.int (1 : Int32)), (.int (2 : Int32))])) rfl ?_
          have hc96_231 : (1 : Int32) < (2 : Int32) := by decide
          refine Goes.st (B := T226.setTop (mkF m 99 #[.val (.int x0), .val (.long x1), .second, .val (.long x2), .second, .val (.long x3), .second, .val (.long x4), .second, .val (.int (2 : Int32)), .val (.int (2 : Int32)), .val (.ref b223), .val (.ref b224), .val (.ref b225), .val (.int (2 : Int32)), .val (.long (w0_91_c x0 x1 x2 x3 x4)), .second, .unset, .unset] [])) (fun t k => ?_) ?_
          · refine XS.icmpNo X226.here hx rfl (hb hby at_96) rfl (tlt hc96_231).2.2.2 ?_
            exact k
          refine Goes.run X226 hx hown hci hcl hby (L := [(99, .lload_n 3, 1), (100, .goto 4, 3), (104, .iload 10, 2), (106, .iconst 1, 1)]) (by decide +kernel) rfl (g' := (mkF m 107 #[.val (.int x0), .val (.long x1), .second, .val (.long x2), .second, .val (.long x3), .second, .val (.long x4), .second, .val (.int (2 : Int32)), .val (.int (2 : Int32)), .val (.ref b223), .val (.ref b224), .val (.ref b225), .val (.int (2 : Int32)), .val (.long (w0_91_c x0 x1 x2 x3 x4)), .second, .unset, .unset] [(.int (1 : Int32)), (.int (2 : Int32)), (.long x2)])) rfl ?_
          have hc107_232 : (1 : Int32) < (2 : Int32) := by decide
          refine Goes.st (B := T226.setTop (mkF m 110 #[.val (.int x0), .val (.long x1), .second, .val (.long x2), .second, .val (.long x3), .second, .val (.long x4), .second, .val (.int (2 : Int32)), .val (.int (2 : Int32)), .val (.ref b223), .val (.ref b224), .val (.ref b225), .val (.int (2 : Int32)), .val (.long (w0_91_c x0 x1 x2 x3 x4)), .second, .unset, .unset] [(.long x2)])) (fun t k => ?_) ?_
          · refine XS.icmpNo X226.here hx rfl (hb hby at_107) rfl (tlt hc107_232).2.2.2 ?_
            exact k
          refine Goes.run X226 hx hown hci hcl hby (L := [(110, .lload 7, 2), (112, .goto 4, 3), (116, .lor, 1), (117, .lstore 17, 2), (119, .iload 14, 2)]) (by decide +kernel) rfl (g' := (mkF m 121 #[.val (.int x0), .val (.long x1), .second, .val (.long x2), .second, .val (.long x3), .second, .val (.long x4), .second, .val (.int (2 : Int32)), .val (.int (2 : Int32)), .val (.ref b223), .val (.ref b224), .val (.ref b225), .val (.int (2 : Int32)), .val (.long (w0_91_c x0 x1 x2 x3 x4)), .second, .val (.long (w0_117_b x0 x1 x2 x3 x4)), .second] [(.int (2 : Int32))])) rfl ?_
          have hc121_233 : (0 : Int32) < (2 : Int32) := by decide
          refine Goes.st (B := T226.setTop (mkF m 124 #[.val (.int x0), .val (.long x1), .second, .val (.long x2), .second, .val (.long x3), .second, .val (.long x4), .second, .val (.int (2 : Int32)), .val (.int (2 : Int32)), .val (.ref b223), .val (.ref b224), .val (.ref b225), .val (.int (2 : Int32)), .val (.long (w0_91_c x0 x1 x2 x3 x4)), .second, .val (.long (w0_117_b x0 x1 x2 x3 x4)), .second] [])) (fun t k => ?_) ?_
          · refine XS.ifNo X226.here hx rfl (hb hby at_121) rfl ((if0 _ _).trans (tlt hc121_233).2.2.2) ?_
            exact k
          refine Goes.run X226 hx hown hci hcl hby (L := [(124, .aload 13, 2), (126, .iconst 0, 1)]) (by decide +kernel) rfl (g' := (mkF m 127 #[.val (.int x0), .val (.long x1), .second, .val (.long x2), .second, .val (.long x3), .second, .val (.long x4), .second, .val (.int (2 : Int32)), .val (.int (2 : Int32)), .val (.ref b223), .val (.ref b224), .val (.ref b225), .val (.int (2 : Int32)), .val (.long (w0_91_c x0 x1 x2 x3 x4)), .second, .val (.long (w0_117_b x0 x1 x2 x3 x4)), .second] [(.int (0 : Int32)), (.ref b225)])) rfl ?_
          obtain ⟨cl234, Ar234, q234, S234, M234, Hs234, G234⟩ := id V_b225
          have hin234 : ¬ ((0 : Int32) < 0 ∨ cl234.slots.size ≤ ((0 : Int32)).toNatClampNeg) := inb_of S234 ⟨(by decide), (by decide)⟩
          have hat234 : cl234.slots[((0 : Int32)).toNatClampNeg]? = some (.long (x1 ||| x3)) := Hs234.at hin234 rfl
          refine Goes.st (B := T226.setTop (mkF m 128 #[.val (.int x0), .val (.long x1), .second, .val (.long x2), .second, .val (.long x3), .second, .val (.long x4), .second, .val (.int (2 : Int32)), .val (.int (2 : Int32)), .val (.ref b223), .val (.ref b224), .val (.ref b225), .val (.int (2 : Int32)), .val (.long (w0_91_c x0 x1 x2 x3 x4)), .second, .val (.long (w0_117_b x0 x1 x2 x3 x4)), .second] [(.long (x1 ||| x3))])) (X226.laload hx (j := (0 : Int32)) (v := (.long (x1 ||| x3))) (by rw [e226]; exact Ar234.1) (State.isArrayOf_alike hZ.alike Ar234.2.1) Ar234.2.2 hin234 hat234 (g := (mkF m 127 #[.val (.int x0), .val (.long x1), .second, .val (.long x2), .second, .val (.long x3), .second, .val (.long x4), .second, .val (.int (2 : Int32)), .val (.int (2 : Int32)), .val (.ref b223), .val (.ref b224), .val (.ref b225), .val (.int (2 : Int32)), .val (.long (w0_91_c x0 x1 x2 x3 x4)), .second, .val (.long (w0_117_b x0 x1 x2 x3 x4)), .second] [(.int (0 : Int32)), (.ref b225)])) rfl rfl (hb hby at_127)) ?_
          refine Goes.run X226 hx hown hci hcl hby (L := [(128, .lload 15, 2), (130, .lcmp, 1)]) (by decide +kernel) rfl (g' := (mkF m 131 #[.val (.int x0), .val (.long x1), .second, .val (.long x2), .second, .val (.long x3), .second, .val (.long x4), .second, .val (.int (2 : Int32)), .val (.int (2 : Int32)), .val (.ref b223), .val (.ref b224), .val (.ref b225), .val (.int (2 : Int32)), .val (.long (w0_91_c x0 x1 x2 x3 x4)), .second, .val (.long (w0_117_b x0 x1 x2 x3 x4)), .second] [(.int (lcmpW (x1 ||| x3) (w0_91_c x0 x1 x2 x3 x4)))])) rfl ?_
          by_cases hc131_235 : (x1 ||| x3) = (w0_91_c x0 x1 x2 x3 x4)
          · skip
            refine Goes.st (B := T226.setTop (mkF m 136 #[.val (.int x0), .val (.long x1), .second, .val (.long x2), .second, .val (.long x3), .second, .val (.long x4), .second, .val (.int (2 : Int32)), .val (.int (2 : Int32)), .val (.ref b223), .val (.ref b224), .val (.ref b225), .val (.int (2 : Int32)), .val (.long (w0_91_c x0 x1 x2 x3 x4)), .second, .val (.long (w0_117_b x0 x1 x2 x3 x4)), .second] [])) (fun t k => ?_) ?_
            · refine XS.ifYes X226.here hx rfl (pc0 := 131) (pc' := 136) rfl (hb hby at_131) rfl (teqL hc131_235).1 (by decide) (by decide) ?_
              exact k
            refine Goes.run X226 hx hown hci hcl hby (L := [(136, .iload 14, 2), (138, .iconst 1, 1)]) (by decide +kernel) rfl (g' := (mkF m 139 #[.val (.int x0), .val (.long x1), .second, .val (.long x2), .second, .val (.long x3), .second, .val (.long x4), .second, .val (.int (2 : Int32)), .val (.int (2 : Int32)), .val (.ref b223), .val (.ref b224), .val (.ref b225), .val (.int (2 : Int32)), .val (.long (w0_91_c x0 x1 x2 x3 x4)), .second, .val (.long (w0_117_b x0 x1 x2 x3 x4)), .second] [(.int (1 : Int32)), (.int (2 : Int32))])) rfl ?_
            have hc139_236 : (1 : Int32) < (2 : Int32) := by decide
            refine Goes.st (B := T226.setTop (mkF m 142 #[.val (.int x0), .val (.long x1), .second, .val (.long x2), .second, .val (.long x3), .second, .val (.long x4), .second, .val (.int (2 : Int32)), .val (.int (2 : Int32)), .val (.ref b223), .val (.ref b224), .val (.ref b225), .val (.int (2 : Int32)), .val (.long (w0_91_c x0 x1 x2 x3 x4)), .second, .val (.long (w0_117_b x0 x1 x2 x3 x4)), .second] [])) (fun t k => ?_) ?_
            · refine XS.icmpNo X226.here hx rfl (hb hby at_139) rfl (tlt hc139_236).2.2.2 ?_
              exact k
            refine Goes.run X226 hx hown hci hcl hby (L := [(142, .aload 13, 2), (144, .iconst 1, 1)]) (by decide +kernel) rfl (g' := (mkF m 145 #[.val (.int x0), .val (.long x1), .second, .val (.long x2), .second, .val (.long x3), .second, .val (.long x4), .second, .val (.int (2 : Int32)), .val (.int (2 : Int32)), .val (.ref b223), .val (.ref b224), .val (.ref b225), .val (.int (2 : Int32)), .val (.long (w0_91_c x0 x1 x2 x3 x4)), .second, .val (.long (w0_117_b x0 x1 x2 x3 x4)), .second] [(.int (1 : Int32)), (.ref b225)])) rfl ?_
            obtain ⟨cl237, Ar237, q237, S237, M237, Hs237, G237⟩ := id V_b225
            have hin237 : ¬ ((1 : Int32) < 0 ∨ cl237.slots.size ≤ ((1 : Int32)).toNatClampNeg) := inb_of S237 ⟨(by decide), (by decide)⟩
            have hat237 : cl237.slots[((1 : Int32)).toNatClampNeg]? = some (.long (x2 ||| x4)) := Hs237.at hin237 rfl
            refine Goes.st (B := T226.setTop (mkF m 146 #[.val (.int x0), .val (.long x1), .second, .val (.long x2), .second, .val (.long x3), .second, .val (.long x4), .second, .val (.int (2 : Int32)), .val (.int (2 : Int32)), .val (.ref b223), .val (.ref b224), .val (.ref b225), .val (.int (2 : Int32)), .val (.long (w0_91_c x0 x1 x2 x3 x4)), .second, .val (.long (w0_117_b x0 x1 x2 x3 x4)), .second] [(.long (x2 ||| x4))])) (X226.laload hx (j := (1 : Int32)) (v := (.long (x2 ||| x4))) (by rw [e226]; exact Ar237.1) (State.isArrayOf_alike hZ.alike Ar237.2.1) Ar237.2.2 hin237 hat237 (g := (mkF m 145 #[.val (.int x0), .val (.long x1), .second, .val (.long x2), .second, .val (.long x3), .second, .val (.long x4), .second, .val (.int (2 : Int32)), .val (.int (2 : Int32)), .val (.ref b223), .val (.ref b224), .val (.ref b225), .val (.int (2 : Int32)), .val (.long (w0_91_c x0 x1 x2 x3 x4)), .second, .val (.long (w0_117_b x0 x1 x2 x3 x4)), .second] [(.int (1 : Int32)), (.ref b225)])) rfl rfl (hb hby at_145)) ?_
            refine Goes.run X226 hx hown hci hcl hby (L := [(146, .lload 17, 2), (148, .lcmp, 1)]) (by decide +kernel) rfl (g' := (mkF m 149 #[.val (.int x0), .val (.long x1), .second, .val (.long x2), .second, .val (.long x3), .second, .val (.long x4), .second, .val (.int (2 : Int32)), .val (.int (2 : Int32)), .val (.ref b223), .val (.ref b224), .val (.ref b225), .val (.int (2 : Int32)), .val (.long (w0_91_c x0 x1 x2 x3 x4)), .second, .val (.long (w0_117_b x0 x1 x2 x3 x4)), .second] [(.int (lcmpW (x2 ||| x4) (w0_117_b x0 x1 x2 x3 x4)))])) rfl ?_
            by_cases hc149_238 : (x2 ||| x4) = (w0_117_b x0 x1 x2 x3 x4)
            · skip
              refine Goes.st (B := T226.setTop (mkF m 154 #[.val (.int x0), .val (.long x1), .second, .val (.long x2), .second, .val (.long x3), .second, .val (.long x4), .second, .val (.int (2 : Int32)), .val (.int (2 : Int32)), .val (.ref b223), .val (.ref b224), .val (.ref b225), .val (.int (2 : Int32)), .val (.long (w0_91_c x0 x1 x2 x3 x4)), .second, .val (.long (w0_117_b x0 x1 x2 x3 x4)), .second] [])) (fun t k => ?_) ?_
              · refine XS.ifYes X226.here hx rfl (pc0 := 149) (pc' := 154) rfl (hb hby at_149) rfl (teqL hc149_238).1 (by decide) (by decide) ?_
                exact k
              refine Goes.run X226 hx hown hci hcl hby (L := [(154, .aload 11, 2)]) (by decide +kernel) rfl (g' := (mkF m 156 #[.val (.int x0), .val (.long x1), .second, .val (.long x2), .second, .val (.long x3), .second, .val (.long x4), .second, .val (.int (2 : Int32)), .val (.int (2 : Int32)), .val (.ref b223), .val (.ref b224), .val (.ref b225), .val (.int (2 : Int32)), .val (.long (w0_91_c x0 x1 x2 x3 x4)), .second, .val (.long (w0_117_b x0 x1 x2 x3 x4)), .second] [(.ref b223)])) rfl ?_
              obtain ⟨cl239, Ar239, q239, S239, M239, Hs239, G239⟩ := id V_b223
              refine Goes.st (B := T226.setTop (mkF m 157 #[.val (.int x0), .val (.long x1), .second, .val (.long x2), .second, .val (.long x3), .second, .val (.long x4), .second, .val (.int (2 : Int32)), .val (.int (2 : Int32)), .val (.ref b223), .val (.ref b224), .val (.ref b225), .val (.int (2 : Int32)), .val (.long (w0_91_c x0 x1 x2 x3 x4)), .second, .val (.long (w0_117_b x0 x1 x2 x3 x4)), .second] [(.int (2 : Int32))])) (fun t k => ?_) ?_
              · refine X226.arraylength hx (cell := cl239) (by rw [e226]; exact Ar239.1) (State.isArrayOf_alike hZ.alike Ar239.2.1) (g := (mkF m 156 #[.val (.int x0), .val (.long x1), .second, .val (.long x2), .second, .val (.long x3), .second, .val (.long x4), .second, .val (.int (2 : Int32)), .val (.int (2 : Int32)), .val (.ref b223), .val (.ref b224), .val (.ref b225), .val (.int (2 : Int32)), .val (.long (w0_91_c x0 x1 x2 x3 x4)), .second, .val (.long (w0_117_b x0 x1 x2 x3 x4)), .second] [(.ref b223)])) rfl (rest := []) rfl (hb hby at_156) _ ?_
                rw [len_of S239 M239]
                exact k
              refine Goes.run X226 hx hown hci hcl hby (L := [(157, .iload 9, 2)]) (by decide +kernel) rfl (g' := (mkF m 159 #[.val (.int x0), .val (.long x1), .second, .val (.long x2), .second, .val (.long x3), .second, .val (.long x4), .second, .val (.int (2 : Int32)), .val (.int (2 : Int32)), .val (.ref b223), .val (.ref b224), .val (.ref b225), .val (.int (2 : Int32)), .val (.long (w0_91_c x0 x1 x2 x3 x4)), .second, .val (.long (w0_117_b x0 x1 x2 x3 x4)), .second] [(.int (2 : Int32)), (.int (2 : Int32))])) rfl ?_
              have hc159_240 : (2 : Int32) = (2 : Int32) := rfl
              refine Goes.st (B := T226.setTop (mkF m 162 #[.val (.int x0), .val (.long x1), .second, .val (.long x2), .second, .val (.long x3), .second, .val (.long x4), .second, .val (.int (2 : Int32)), .val (.int (2 : Int32)), .val (.ref b223), .val (.ref b224), .val (.ref b225), .val (.int (2 : Int32)), .val (.long (w0_91_c x0 x1 x2 x3 x4)), .second, .val (.long (w0_117_b x0 x1 x2 x3 x4)), .second] [])) (fun t k => ?_) ?_
              · refine XS.icmpNo X226.here hx rfl (hb hby at_159) rfl (teq hc159_240).2 ?_
                exact k
              refine Goes.run X226 hx hown hci hcl hby (L := [(162, .aload 12, 2)]) (by decide +kernel) rfl (g' := (mkF m 164 #[.val (.int x0), .val (.long x1), .second, .val (.long x2), .second, .val (.long x3), .second, .val (.long x4), .second, .val (.int (2 : Int32)), .val (.int (2 : Int32)), .val (.ref b223), .val (.ref b224), .val (.ref b225), .val (.int (2 : Int32)), .val (.long (w0_91_c x0 x1 x2 x3 x4)), .second, .val (.long (w0_117_b x0 x1 x2 x3 x4)), .second] [(.ref b224)])) rfl ?_
              obtain ⟨cl241, Ar241, q241, S241, M241, Hs241, G241⟩ := id V_b224
              refine Goes.st (B := T226.setTop (mkF m 165 #[.val (.int x0), .val (.long x1), .second, .val (.long x2), .second, .val (.long x3), .second, .val (.long x4), .second, .val (.int (2 : Int32)), .val (.int (2 : Int32)), .val (.ref b223), .val (.ref b224), .val (.ref b225), .val (.int (2 : Int32)), .val (.long (w0_91_c x0 x1 x2 x3 x4)), .second, .val (.long (w0_117_b x0 x1 x2 x3 x4)), .second] [(.int (2 : Int32))])) (fun t k => ?_) ?_
              · refine X226.arraylength hx (cell := cl241) (by rw [e226]; exact Ar241.1) (State.isArrayOf_alike hZ.alike Ar241.2.1) (g := (mkF m 164 #[.val (.int x0), .val (.long x1), .second, .val (.long x2), .second, .val (.long x3), .second, .val (.long x4), .second, .val (.int (2 : Int32)), .val (.int (2 : Int32)), .val (.ref b223), .val (.ref b224), .val (.ref b225), .val (.int (2 : Int32)), .val (.long (w0_91_c x0 x1 x2 x3 x4)), .second, .val (.long (w0_117_b x0 x1 x2 x3 x4)), .second] [(.ref b224)])) rfl (rest := []) rfl (hb hby at_164) _ ?_
                rw [len_of S241 M241]
                exact k
              refine Goes.run X226 hx hown hci hcl hby (L := [(165, .iload 10, 2)]) (by decide +kernel) rfl (g' := (mkF m 167 #[.val (.int x0), .val (.long x1), .second, .val (.long x2), .second, .val (.long x3), .second, .val (.long x4), .second, .val (.int (2 : Int32)), .val (.int (2 : Int32)), .val (.ref b223), .val (.ref b224), .val (.ref b225), .val (.int (2 : Int32)), .val (.long (w0_91_c x0 x1 x2 x3 x4)), .second, .val (.long (w0_117_b x0 x1 x2 x3 x4)), .second] [(.int (2 : Int32)), (.int (2 : Int32))])) rfl ?_
              have hc167_242 : (2 : Int32) = (2 : Int32) := rfl
              refine Goes.st (B := T226.setTop (mkF m 172 #[.val (.int x0), .val (.long x1), .second, .val (.long x2), .second, .val (.long x3), .second, .val (.long x4), .second, .val (.int (2 : Int32)), .val (.int (2 : Int32)), .val (.ref b223), .val (.ref b224), .val (.ref b225), .val (.int (2 : Int32)), .val (.long (w0_91_c x0 x1 x2 x3 x4)), .second, .val (.long (w0_117_b x0 x1 x2 x3 x4)), .second] [])) (fun t k => ?_) ?_
              · refine XS.icmpYes X226.here hx rfl (pc0 := 167) (pc' := 172) rfl (hb hby at_167) rfl (teq hc167_242).1 (by decide) (by decide) ?_
                exact k
              refine Goes.run X226 hx hown hci hcl hby (L := [(172, .iload 9, 2)]) (by decide +kernel) rfl (g' := (mkF m 174 #[.val (.int x0), .val (.long x1), .second, .val (.long x2), .second, .val (.long x3), .second, .val (.long x4), .second, .val (.int (2 : Int32)), .val (.int (2 : Int32)), .val (.ref b223), .val (.ref b224), .val (.ref b225), .val (.int (2 : Int32)), .val (.long (w0_91_c x0 x1 x2 x3 x4)), .second, .val (.long (w0_117_b x0 x1 x2 x3 x4)), .second] [(.int (2 : Int32))])) rfl ?_
              have hc174_243 : (0 : Int32) < (2 : Int32) := by decide
              refine Goes.st (B := T226.setTop (mkF m 177 #[.val (.int x0), .val (.long x1), .second, .val (.long x2), .second, .val (.long x3), .second, .val (.long x4), .second, .val (.int (2 : Int32)), .val (.int (2 : Int32)), .val (.ref b223), .val (.ref b224), .val (.ref b225), .val (.int (2 : Int32)), .val (.long (w0_91_c x0 x1 x2 x3 x4)), .second, .val (.long (w0_117_b x0 x1 x2 x3 x4)), .second] [])) (fun t k => ?_) ?_
              · refine XS.ifNo X226.here hx rfl (hb hby at_174) rfl ((if0 _ _).trans (tlt hc174_243).2.2.2) ?_
                exact k
              refine Goes.run X226 hx hown hci hcl hby (L := [(177, .aload 11, 2), (179, .iconst 0, 1)]) (by decide +kernel) rfl (g' := (mkF m 180 #[.val (.int x0), .val (.long x1), .second, .val (.long x2), .second, .val (.long x3), .second, .val (.long x4), .second, .val (.int (2 : Int32)), .val (.int (2 : Int32)), .val (.ref b223), .val (.ref b224), .val (.ref b225), .val (.int (2 : Int32)), .val (.long (w0_91_c x0 x1 x2 x3 x4)), .second, .val (.long (w0_117_b x0 x1 x2 x3 x4)), .second] [(.int (0 : Int32)), (.ref b223)])) rfl ?_
              obtain ⟨cl244, Ar244, q244, S244, M244, Hs244, G244⟩ := id V_b223
              have hin244 : ¬ ((0 : Int32) < 0 ∨ cl244.slots.size ≤ ((0 : Int32)).toNatClampNeg) := inb_of S244 ⟨(by decide), (by decide)⟩
              have hat244 : cl244.slots[((0 : Int32)).toNatClampNeg]? = some (.long x1) := Hs244.at hin244 rfl
              refine Goes.st (B := T226.setTop (mkF m 181 #[.val (.int x0), .val (.long x1), .second, .val (.long x2), .second, .val (.long x3), .second, .val (.long x4), .second, .val (.int (2 : Int32)), .val (.int (2 : Int32)), .val (.ref b223), .val (.ref b224), .val (.ref b225), .val (.int (2 : Int32)), .val (.long (w0_91_c x0 x1 x2 x3 x4)), .second, .val (.long (w0_117_b x0 x1 x2 x3 x4)), .second] [(.long x1)])) (X226.laload hx (j := (0 : Int32)) (v := (.long x1)) (by rw [e226]; exact Ar244.1) (State.isArrayOf_alike hZ.alike Ar244.2.1) Ar244.2.2 hin244 hat244 (g := (mkF m 180 #[.val (.int x0), .val (.long x1), .second, .val (.long x2), .second, .val (.long x3), .second, .val (.long x4), .second, .val (.int (2 : Int32)), .val (.int (2 : Int32)), .val (.ref b223), .val (.ref b224), .val (.ref b225), .val (.int (2 : Int32)), .val (.long (w0_91_c x0 x1 x2 x3 x4)), .second, .val (.long (w0_117_b x0 x1 x2 x3 x4)), .second] [(.int (0 : Int32)), (.ref b223)])) rfl rfl (hb hby at_180)) ?_
              refine Goes.run X226 hx hown hci hcl hby (L := [(181, .lload_n 1, 1), (182, .lcmp, 1)]) (by decide +kernel) rfl (g' := (mkF m 183 #[.val (.int x0), .val (.long x1), .second, .val (.long x2), .second, .val (.long x3), .second, .val (.long x4), .second, .val (.int (2 : Int32)), .val (.int (2 : Int32)), .val (.ref b223), .val (.ref b224), .val (.ref b225), .val (.int (2 : Int32)), .val (.long (w0_91_c x0 x1 x2 x3 x4)), .second, .val (.long (w0_117_b x0 x1 x2 x3 x4)), .second] [(.int (lcmpW x1 x1))])) rfl ?_
              have hc183_245 : x1 = x1 := rfl
              refine Goes.st (B := T226.setTop (mkF m 188 #[.val (.int x0), .val (.long x1), .second, .val (.long x2), .second, .val (.long x3), .second, .val (.long x4), .second, .val (.int (2 : Int32)), .val (.int (2 : Int32)), .val (.ref b223), .val (.ref b224), .val (.ref b225), .val (.int (2 : Int32)), .val (.long (w0_91_c x0 x1 x2 x3 x4)), .second, .val (.long (w0_117_b x0 x1 x2 x3 x4)), .second] [])) (fun t k => ?_) ?_
              · refine XS.ifYes X226.here hx rfl (pc0 := 183) (pc' := 188) rfl (hb hby at_183) rfl (teqL hc183_245).1 (by decide) (by decide) ?_
                exact k
              refine Goes.run X226 hx hown hci hcl hby (L := [(188, .iload 9, 2), (190, .iconst 1, 1)]) (by decide +kernel) rfl (g' := (mkF m 191 #[.val (.int x0), .val (.long x1), .second, .val (.long x2), .second, .val (.long x3), .second, .val (.long x4), .second, .val (.int (2 : Int32)), .val (.int (2 : Int32)), .val (.ref b223), .val (.ref b224), .val (.ref b225), .val (.int (2 : Int32)), .val (.long (w0_91_c x0 x1 x2 x3 x4)), .second, .val (.long (w0_117_b x0 x1 x2 x3 x4)), .second] [(.int (1 : Int32)), (.int (2 : Int32))])) rfl ?_
              have hc191_246 : (1 : Int32) < (2 : Int32) := by decide
              refine Goes.st (B := T226.setTop (mkF m 194 #[.val (.int x0), .val (.long x1), .second, .val (.long x2), .second, .val (.long x3), .second, .val (.long x4), .second, .val (.int (2 : Int32)), .val (.int (2 : Int32)), .val (.ref b223), .val (.ref b224), .val (.ref b225), .val (.int (2 : Int32)), .val (.long (w0_91_c x0 x1 x2 x3 x4)), .second, .val (.long (w0_117_b x0 x1 x2 x3 x4)), .second] [])) (fun t k => ?_) ?_
              · refine XS.icmpNo X226.here hx rfl (hb hby at_191) rfl (tlt hc191_246).2.2.2 ?_
                exact k
              refine Goes.run X226 hx hown hci hcl hby (L := [(194, .aload 11, 2), (196, .iconst 1, 1)]) (by decide +kernel) rfl (g' := (mkF m 197 #[.val (.int x0), .val (.long x1), .second, .val (.long x2), .second, .val (.long x3), .second, .val (.long x4), .second, .val (.int (2 : Int32)), .val (.int (2 : Int32)), .val (.ref b223), .val (.ref b224), .val (.ref b225), .val (.int (2 : Int32)), .val (.long (w0_91_c x0 x1 x2 x3 x4)), .second, .val (.long (w0_117_b x0 x1 x2 x3 x4)), .second] [(.int (1 : Int32)), (.ref b223)])) rfl ?_
              obtain ⟨cl247, Ar247, q247, S247, M247, Hs247, G247⟩ := id V_b223
              have hin247 : ¬ ((1 : Int32) < 0 ∨ cl247.slots.size ≤ ((1 : Int32)).toNatClampNeg) := inb_of S247 ⟨(by decide), (by decide)⟩
              have hat247 : cl247.slots[((1 : Int32)).toNatClampNeg]? = some (.long x2) := Hs247.at hin247 rfl
              refine Goes.st (B := T226.setTop (mkF m 198 #[.val (.int x0), .val (.long x1), .second, .val (.long x2), .second, .val (.long x3), .second, .val (.long x4), .second, .val (.int (2 : Int32)), .val (.int (2 : Int32)), .val (.ref b223), .val (.ref b224), .val (.ref b225), .val (.int (2 : Int32)), .val (.long (w0_91_c x0 x1 x2 x3 x4)), .second, .val (.long (w0_117_b x0 x1 x2 x3 x4)), .second] [(.long x2)])) (X226.laload hx (j := (1 : Int32)) (v := (.long x2)) (by rw [e226]; exact Ar247.1) (State.isArrayOf_alike hZ.alike Ar247.2.1) Ar247.2.2 hin247 hat247 (g := (mkF m 197 #[.val (.int x0), .val (.long x1), .second, .val (.long x2), .second, .val (.long x3), .second, .val (.long x4), .second, .val (.int (2 : Int32)), .val (.int (2 : Int32)), .val (.ref b223), .val (.ref b224), .val (.ref b225), .val (.int (2 : Int32)), .val (.long (w0_91_c x0 x1 x2 x3 x4)), .second, .val (.long (w0_117_b x0 x1 x2 x3 x4)), .second] [(.int (1 : Int32)), (.ref b223)])) rfl rfl (hb hby at_197)) ?_
              refine Goes.run X226 hx hown hci hcl hby (L := [(198, .lload_n 3, 1), (199, .lcmp, 1)]) (by decide +kernel) rfl (g' := (mkF m 200 #[.val (.int x0), .val (.long x1), .second, .val (.long x2), .second, .val (.long x3), .second, .val (.long x4), .second, .val (.int (2 : Int32)), .val (.int (2 : Int32)), .val (.ref b223), .val (.ref b224), .val (.ref b225), .val (.int (2 : Int32)), .val (.long (w0_91_c x0 x1 x2 x3 x4)), .second, .val (.long (w0_117_b x0 x1 x2 x3 x4)), .second] [(.int (lcmpW x2 x2))])) rfl ?_
              have hc200_248 : x2 = x2 := rfl
              refine Goes.st (B := T226.setTop (mkF m 205 #[.val (.int x0), .val (.long x1), .second, .val (.long x2), .second, .val (.long x3), .second, .val (.long x4), .second, .val (.int (2 : Int32)), .val (.int (2 : Int32)), .val (.ref b223), .val (.ref b224), .val (.ref b225), .val (.int (2 : Int32)), .val (.long (w0_91_c x0 x1 x2 x3 x4)), .second, .val (.long (w0_117_b x0 x1 x2 x3 x4)), .second] [])) (fun t k => ?_) ?_
              · refine XS.ifYes X226.here hx rfl (pc0 := 200) (pc' := 205) rfl (hb hby at_200) rfl (teqL hc200_248).1 (by decide) (by decide) ?_
                exact k
              refine Goes.run X226 hx hown hci hcl hby (L := [(205, .iload 10, 2)]) (by decide +kernel) rfl (g' := (mkF m 207 #[.val (.int x0), .val (.long x1), .second, .val (.long x2), .second, .val (.long x3), .second, .val (.long x4), .second, .val (.int (2 : Int32)), .val (.int (2 : Int32)), .val (.ref b223), .val (.ref b224), .val (.ref b225), .val (.int (2 : Int32)), .val (.long (w0_91_c x0 x1 x2 x3 x4)), .second, .val (.long (w0_117_b x0 x1 x2 x3 x4)), .second] [(.int (2 : Int32))])) rfl ?_
              have hc207_249 : (0 : Int32) < (2 : Int32) := by decide
              refine Goes.st (B := T226.setTop (mkF m 210 #[.val (.int x0), .val (.long x1), .second, .val (.long x2), .second, .val (.long x3), .second, .val (.long x4), .second, .val (.int (2 : Int32)), .val (.int (2 : Int32)), .val (.ref b223), .val (.ref b224), .val (.ref b225), .val (.int (2 : Int32)), .val (.long (w0_91_c x0 x1 x2 x3 x4)), .second, .val (.long (w0_117_b x0 x1 x2 x3 x4)), .second] [])) (fun t k => ?_) ?_
              · refine XS.ifNo X226.here hx rfl (hb hby at_207) rfl ((if0 _ _).trans (tlt hc207_249).2.2.2) ?_
                exact k
              refine Goes.run X226 hx hown hci hcl hby (L := [(210, .aload 12, 2), (212, .iconst 0, 1)]) (by decide +kernel) rfl (g' := (mkF m 213 #[.val (.int x0), .val (.long x1), .second, .val (.long x2), .second, .val (.long x3), .second, .val (.long x4), .second, .val (.int (2 : Int32)), .val (.int (2 : Int32)), .val (.ref b223), .val (.ref b224), .val (.ref b225), .val (.int (2 : Int32)), .val (.long (w0_91_c x0 x1 x2 x3 x4)), .second, .val (.long (w0_117_b x0 x1 x2 x3 x4)), .second] [(.int (0 : Int32)), (.ref b224)])) rfl ?_
              obtain ⟨cl250, Ar250, q250, S250, M250, Hs250, G250⟩ := id V_b224
              have hin250 : ¬ ((0 : Int32) < 0 ∨ cl250.slots.size ≤ ((0 : Int32)).toNatClampNeg) := inb_of S250 ⟨(by decide), (by decide)⟩
              have hat250 : cl250.slots[((0 : Int32)).toNatClampNeg]? = some (.long x3) := Hs250.at hin250 rfl
              refine Goes.st (B := T226.setTop (mkF m 214 #[.val (.int x0), .val (.long x1), .second, .val (.long x2), .second, .val (.long x3), .second, .val (.long x4), .second, .val (.int (2 : Int32)), .val (.int (2 : Int32)), .val (.ref b223), .val (.ref b224), .val (.ref b225), .val (.int (2 : Int32)), .val (.long (w0_91_c x0 x1 x2 x3 x4)), .second, .val (.long (w0_117_b x0 x1 x2 x3 x4)), .second] [(.long x3)])) (X226.laload hx (j := (0 : Int32)) (v := (.long x3)) (by rw [e226]; exact Ar250.1) (State.isArrayOf_alike hZ.alike Ar250.2.1) Ar250.2.2 hin250 hat250 (g := (mkF m 213 #[.val (.int x0), .val (.long x1), .second, .val (.long x2), .second, .val (.long x3), .second, .val (.long x4), .second, .val (.int (2 : Int32)), .val (.int (2 : Int32)), .val (.ref b223), .val (.ref b224), .val (.ref b225), .val (.int (2 : Int32)), .val (.long (w0_91_c x0 x1 x2 x3 x4)), .second, .val (.long (w0_117_b x0 x1 x2 x3 x4)), .second] [(.int (0 : Int32)), (.ref b224)])) rfl rfl (hb hby at_213)) ?_
              refine Goes.run X226 hx hown hci hcl hby (L := [(214, .lload 5, 2), (216, .lcmp, 1)]) (by decide +kernel) rfl (g' := (mkF m 217 #[.val (.int x0), .val (.long x1), .second, .val (.long x2), .second, .val (.long x3), .second, .val (.long x4), .second, .val (.int (2 : Int32)), .val (.int (2 : Int32)), .val (.ref b223), .val (.ref b224), .val (.ref b225), .val (.int (2 : Int32)), .val (.long (w0_91_c x0 x1 x2 x3 x4)), .second, .val (.long (w0_117_b x0 x1 x2 x3 x4)), .second] [(.int (lcmpW x3 x3))])) rfl ?_
              have hc217_251 : x3 = x3 := rfl
              refine Goes.st (B := T226.setTop (mkF m 222 #[.val (.int x0), .val (.long x1), .second, .val (.long x2), .second, .val (.long x3), .second, .val (.long x4), .second, .val (.int (2 : Int32)), .val (.int (2 : Int32)), .val (.ref b223), .val (.ref b224), .val (.ref b225), .val (.int (2 : Int32)), .val (.long (w0_91_c x0 x1 x2 x3 x4)), .second, .val (.long (w0_117_b x0 x1 x2 x3 x4)), .second] [])) (fun t k => ?_) ?_
              · refine XS.ifYes X226.here hx rfl (pc0 := 217) (pc' := 222) rfl (hb hby at_217) rfl (teqL hc217_251).1 (by decide) (by decide) ?_
                exact k
              refine Goes.run X226 hx hown hci hcl hby (L := [(222, .iload 10, 2), (224, .iconst 1, 1)]) (by decide +kernel) rfl (g' := (mkF m 225 #[.val (.int x0), .val (.long x1), .second, .val (.long x2), .second, .val (.long x3), .second, .val (.long x4), .second, .val (.int (2 : Int32)), .val (.int (2 : Int32)), .val (.ref b223), .val (.ref b224), .val (.ref b225), .val (.int (2 : Int32)), .val (.long (w0_91_c x0 x1 x2 x3 x4)), .second, .val (.long (w0_117_b x0 x1 x2 x3 x4)), .second] [(.int (1 : Int32)), (.int (2 : Int32))])) rfl ?_
              have hc225_252 : (1 : Int32) < (2 : Int32) := by decide
              refine Goes.st (B := T226.setTop (mkF m 228 #[.val (.int x0), .val (.long x1), .second, .val (.long x2), .second, .val (.long x3), .second, .val (.long x4), .second, .val (.int (2 : Int32)), .val (.int (2 : Int32)), .val (.ref b223), .val (.ref b224), .val (.ref b225), .val (.int (2 : Int32)), .val (.long (w0_91_c x0 x1 x2 x3 x4)), .second, .val (.long (w0_117_b x0 x1 x2 x3 x4)), .second] [])) (fun t k => ?_) ?_
              · refine XS.icmpNo X226.here hx rfl (hb hby at_225) rfl (tlt hc225_252).2.2.2 ?_
                exact k
              refine Goes.run X226 hx hown hci hcl hby (L := [(228, .aload 12, 2), (230, .iconst 1, 1)]) (by decide +kernel) rfl (g' := (mkF m 231 #[.val (.int x0), .val (.long x1), .second, .val (.long x2), .second, .val (.long x3), .second, .val (.long x4), .second, .val (.int (2 : Int32)), .val (.int (2 : Int32)), .val (.ref b223), .val (.ref b224), .val (.ref b225), .val (.int (2 : Int32)), .val (.long (w0_91_c x0 x1 x2 x3 x4)), .second, .val (.long (w0_117_b x0 x1 x2 x3 x4)), .second] [(.int (1 : Int32)), (.ref b224)])) rfl ?_
              obtain ⟨cl253, Ar253, q253, S253, M253, Hs253, G253⟩ := id V_b224
              have hin253 : ¬ ((1 : Int32) < 0 ∨ cl253.slots.size ≤ ((1 : Int32)).toNatClampNeg) := inb_of S253 ⟨(by decide), (by decide)⟩
              have hat253 : cl253.slots[((1 : Int32)).toNatClampNeg]? = some (.long x4) := Hs253.at hin253 rfl
              refine Goes.st (B := T226.setTop (mkF m 232 #[.val (.int x0), .val (.long x1), .second, .val (.long x2), .second, .val (.long x3), .second, .val (.long x4), .second, .val (.int (2 : Int32)), .val (.int (2 : Int32)), .val (.ref b223), .val (.ref b224), .val (.ref b225), .val (.int (2 : Int32)), .val (.long (w0_91_c x0 x1 x2 x3 x4)), .second, .val (.long (w0_117_b x0 x1 x2 x3 x4)), .second] [(.long x4)])) (X226.laload hx (j := (1 : Int32)) (v := (.long x4)) (by rw [e226]; exact Ar253.1) (State.isArrayOf_alike hZ.alike Ar253.2.1) Ar253.2.2 hin253 hat253 (g := (mkF m 231 #[.val (.int x0), .val (.long x1), .second, .val (.long x2), .second, .val (.long x3), .second, .val (.long x4), .second, .val (.int (2 : Int32)), .val (.int (2 : Int32)), .val (.ref b223), .val (.ref b224), .val (.ref b225), .val (.int (2 : Int32)), .val (.long (w0_91_c x0 x1 x2 x3 x4)), .second, .val (.long (w0_117_b x0 x1 x2 x3 x4)), .second] [(.int (1 : Int32)), (.ref b224)])) rfl rfl (hb hby at_231)) ?_
              refine Goes.run X226 hx hown hci hcl hby (L := [(232, .lload 7, 2), (234, .lcmp, 1)]) (by decide +kernel) rfl (g' := (mkF m 235 #[.val (.int x0), .val (.long x1), .second, .val (.long x2), .second, .val (.long x3), .second, .val (.long x4), .second, .val (.int (2 : Int32)), .val (.int (2 : Int32)), .val (.ref b223), .val (.ref b224), .val (.ref b225), .val (.int (2 : Int32)), .val (.long (w0_91_c x0 x1 x2 x3 x4)), .second, .val (.long (w0_117_b x0 x1 x2 x3 x4)), .second] [(.int (lcmpW x4 x4))])) rfl ?_
              have hc235_254 : x4 = x4 := rfl
              refine Goes.st (B := T226.setTop (mkF m 240 #[.val (.int x0), .val (.long x1), .second, .val (.long x2), .second, .val (.long x3), .second, .val (.long x4), .second, .val (.int (2 : Int32)), .val (.int (2 : Int32)), .val (.ref b223), .val (.ref b224), .val (.ref b225), .val (.int (2 : Int32)), .val (.long (w0_91_c x0 x1 x2 x3 x4)), .second, .val (.long (w0_117_b x0 x1 x2 x3 x4)), .second] [])) (fun t k => ?_) ?_
              · refine XS.ifYes X226.here hx rfl (pc0 := 235) (pc' := 240) rfl (hb hby at_235) rfl (teqL hc235_254).1 (by decide) (by decide) ?_
                exact k
              refine Goes.run X226 hx hown hci hcl hby (L := [(240, .iconst 1, 1)]) (by decide +kernel) rfl (g' := (mkF m 241 #[.val (.int x0), .val (.long x1), .second, .val (.long x2), .second, .val (.long x3), .second, .val (.long x4), .second, .val (.int (2 : Int32)), .val (.int (2 : Int32)), .val (.ref b223), .val (.ref b224), .val (.ref b225), .val (.int (2 : Int32)), .val (.long (w0_91_c x0 x1 x2 x3 x4)), .second, .val (.long (w0_117_b x0 x1 x2 x3 x4)), .second] [(.int (1 : Int32))])) rfl ?_
              exact Goes.retB X226 hx hlk (t := .boolean) Bd.returns (by simp) (hb hby at_241) rfl ⟨(congrArg (fun z => some (Value.int z)) (show (r0 x0 x1 x2 x3 x4) = (1 : Int32) from ((((((if_neg hs21_1).trans (if_neg hs21_77)).trans (if_neg hs21_162)).trans (if_neg hs21_191)).trans (if_pos hc131_235)).trans (if_pos hc149_238))).symm), N226⟩ (by decide) (by decide)
            · skip
              refine Goes.st (B := T226.setTop (mkF m 152 #[.val (.int x0), .val (.long x1), .second, .val (.long x2), .second, .val (.long x3), .second, .val (.long x4), .second, .val (.int (2 : Int32)), .val (.int (2 : Int32)), .val (.ref b223), .val (.ref b224), .val (.ref b225), .val (.int (2 : Int32)), .val (.long (w0_91_c x0 x1 x2 x3 x4)), .second, .val (.long (w0_117_b x0 x1 x2 x3 x4)), .second] [])) (fun t k => ?_) ?_
              · refine XS.ifNo X226.here hx rfl (hb hby at_149) rfl (feqL hc149_238).1 ?_
                exact k
              refine Goes.run X226 hx hown hci hcl hby (L := [(152, .iconst 0, 1)]) (by decide +kernel) rfl (g' := (mkF m 153 #[.val (.int x0), .val (.long x1), .second, .val (.long x2), .second, .val (.long x3), .second, .val (.long x4), .second, .val (.int (2 : Int32)), .val (.int (2 : Int32)), .val (.ref b223), .val (.ref b224), .val (.ref b225), .val (.int (2 : Int32)), .val (.long (w0_91_c x0 x1 x2 x3 x4)), .second, .val (.long (w0_117_b x0 x1 x2 x3 x4)), .second] [(.int (0 : Int32))])) rfl ?_
              exact Goes.retB X226 hx hlk (t := .boolean) Bd.returns (by simp) (hb hby at_153) rfl ⟨(congrArg (fun z => some (Value.int z)) (show (r0 x0 x1 x2 x3 x4) = (0 : Int32) from ((((((if_neg hs21_1).trans (if_neg hs21_77)).trans (if_neg hs21_162)).trans (if_neg hs21_191)).trans (if_pos hc131_235)).trans (if_neg hc149_238))).symm), N226⟩ (by decide) (by decide)
          · skip
            refine Goes.st (B := T226.setTop (mkF m 134 #[.val (.int x0), .val (.long x1), .second, .val (.long x2), .second, .val (.long x3), .second, .val (.long x4), .second, .val (.int (2 : Int32)), .val (.int (2 : Int32)), .val (.ref b223), .val (.ref b224), .val (.ref b225), .val (.int (2 : Int32)), .val (.long (w0_91_c x0 x1 x2 x3 x4)), .second, .val (.long (w0_117_b x0 x1 x2 x3 x4)), .second] [])) (fun t k => ?_) ?_
            · refine XS.ifNo X226.here hx rfl (hb hby at_131) rfl (feqL hc131_235).1 ?_
              exact k
            refine Goes.run X226 hx hown hci hcl hby (L := [(134, .iconst 0, 1)]) (by decide +kernel) rfl (g' := (mkF m 135 #[.val (.int x0), .val (.long x1), .second, .val (.long x2), .second, .val (.long x3), .second, .val (.long x4), .second, .val (.int (2 : Int32)), .val (.int (2 : Int32)), .val (.ref b223), .val (.ref b224), .val (.ref b225), .val (.int (2 : Int32)), .val (.long (w0_91_c x0 x1 x2 x3 x4)), .second, .val (.long (w0_117_b x0 x1 x2 x3 x4)), .second] [(.int (0 : Int32))])) rfl ?_
            exact Goes.retB X226 hx hlk (t := .boolean) Bd.returns (by simp) (hb hby at_135) rfl ⟨(congrArg (fun z => some (Value.int z)) (show (r0 x0 x1 x2 x3 x4) = (0 : Int32) from (((((if_neg hs21_1).trans (if_neg hs21_77)).trans (if_neg hs21_162)).trans (if_neg hs21_191)).trans (if_neg hc131_235))).symm), N226⟩ (by decide) (by decide)
set_option maxRecDepth 65536 in
set_option maxHeartbeats 40000000 in
theorem comes_1 {Post : Tables → Env → Array Value → State → Outcome → State → Prop} (hpost : ∀ tb e args s v u, (limb_1_1.after args s (.returned v) u = true ∧ limb_1_2.after args s (.returned v) u = true ∧ True) → FrameEnd s (.returned v) u (Jvm.fieldLocs frame_1_writes args s ++ Jvm.arrayLocs frame_1_arrays args s ++ Jvm.staticLocs frame_1_statics s) 16 128 → Post tb e args s (.returned v) u) :
    ArmFor flags0 classFile x code maxLocals ret World_1 tables_1 room_1 Calls_1 rest_1 Pre_1 Post := by
  intro l hfl _ _ p e ha hc hk s m args below hf hA hF happ hP
  obtain ⟨hcalls, hrest, hpre⟩ := hP
  obtain ⟨-, -, -, hnamed, -, -, -, hat⟩ := (Spec.applies_iff hf).mp happ
  obtain ⟨hg, hn⟩ := and_e (Cond.before_iff.mp (show (Jvm.Cond.and given_1 narrow_1).before args s = true from hpre))
  obtain ⟨g0, g0r⟩ := and_e hg
  obtain ⟨g1, g1r⟩ := and_e g0r
  obtain ⟨g2, g2r⟩ := and_e g1r
  obtain ⟨g3, g3r⟩ := and_e g2r
  obtain ⟨g4, g5⟩ := and_e g3r
  obtain ⟨w0, w1, w2, w3, w4, rfl⟩ : ∃ w0 w1 w2 w3 w4 : Value, args = #[w0, w1, w2, w3, w4] := by
    have hs : args.size = 5 := by simpa [Cond.value, given_1] using g0
    obtain ⟨L⟩ := args
    match L, hs with
    | [w0, w1, w2, w3, w4], _ => exact ⟨w0, w1, w2, w3, w4, rfl⟩
  have hw := fun d (hd : d ∈ tables_1) => atoms_spec (ws := Jvm.Cond.code x code maxLocals ret :: tables_1) hat d (List.mem_cons_of_mem _ hd)
  have hfit : Fit s := fun {y c} hc i hi => by
    obtain ⟨ha, rfl⟩ := Array.getElem?_eq_some_iff.mp hc
    have q := List.all_eq_true.mp ((Array.all_eq_true_iff_forall_mem.mp hF) _ (Array.getElem_mem ha)) i (List.mem_range.mpr hi)
    simpa [Array.getElem?_eq_getElem hi] using q
  obtain ⟨i0, ei0⟩ := is_v g1
  obtain rfl : w0 = (.int i0) := Option.some.inj ei0
  obtain ⟨i1, ei1⟩ := isL_v g2
  obtain rfl : w1 = (.long i1) := Option.some.inj ei1
  obtain ⟨i2, ei2⟩ := isL_v g3
  obtain rfl : w2 = (.long i2) := Option.some.inj ei2
  obtain ⟨i3, ei3⟩ := isL_v g4
  obtain rfl : w3 = (.long i3) := Option.some.inj ei3
  obtain ⟨i4, ei4⟩ := isL_v g5
  obtain rfl : w4 = (.long i4) := Option.some.inj ei4
  obtain ⟨n, o, h1, h2, h3, v, L, rfl, hv, hq⟩ := rm0 l s _ hw tables_1 i0 i1 i2 i3 i4  s.heap s.heap.size (Nat.le_refl _)  p e ha hc hk s m _ below hf ((Spec.applies_iff_loose hf).mp happ).1 ⟨rfl, State.Warmed39.refl s, rfl⟩ trivial
  have N := hv.2
  have hv1 : v = some (.int 1) := hv.1.trans (congrArg (fun z => some (Value.int z)) (law_true i0 i1 i2 i3 i4))
  subst hv1
  refine ⟨n, _, h1, h2, h3, hpost _ _ _ _ _ _ ⟨Cond.after_iff.mpr rfl, Cond.after_iff.mpr (eq_i res_at (Term.int_eval (1)) rfl), trivial⟩ ⟨hq.1, hq.2.1, (hq.2.2.sift fun y hy => Or.inr (N y hy)).mono (by decide) (by decide)⟩⟩
theorem main_1_1 : Claimed_1_1 := comes_1 fun _ _ _ _ _ _ h hF => ⟨h.1, hF⟩
theorem main_1_2 : Claimed_1_2 := comes_1 fun _ _ _ _ _ _ h hF => ⟨h.2.1, hF⟩
end Jvm.Pilot.@@N@@
namespace Jvm.Pilot.@@N@@
open Jvm Jvm.ClassFile Sem Op Lib Jvm.Free Jvm.Stand Jvm.Pilot.@@N@@.Jvm.D
/-! MADE BY PROGRAM (witnessworld.py) out of the Statement's table words and the real class files: 12 classes; the members and pool entries that the words name. The judged class is class 1, her method 2. -/
namespace start1
open Jvm.ClassFile
def u (s : String) : CpInfo := .utf8 (stringToUtf16 s)
/-- a pool by its gaps: so many unusable entries, then the entry; so many at the end -/
def gap : Nat → List CpInfo → List CpInfo
  | 0, r => r
  | n + 1, r => .unusable :: gap n r
def poolList (es : List (Nat × CpInfo)) (last : Nat) : List CpInfo := es.foldr (fun e r => gap e.1 (e.2 :: r)) (gap last [])
def pool (es : List (Nat × CpInfo)) (last : Nat) : Array CpInfo := ⟨poolList es last⟩
def fileOf (pool : Array CpInfo) (this : Nat) (attrs : Array Attribute := #[]) (ms : Array MethodInfo := #[]) (fl : Nat := 33) (sup : Nat := 0) (ifs : Array Nat := #[]) (fds : Array FieldInfo := #[]) : ClassFile where
  minorVersion := 0
  majorVersion := 65
  constantPool := pool
  accessFlags := fl
  thisClass := this
  superClass := sup
  interfaces := ifs
  fields := fds
  methods := ms
  attributes := attrs
def plain (name : String) (sup : Option ClassId) : Class where
  name := name
  kind := .ordinary
  loader := none
  accessFlags := 33
  super := sup
  interfaces := #[]
  cf := none
  fields := #[]
  methods := #[]
  instanceTypes := #[]
  staticTypes := #[]
  resolved := #[]
  callSites := []
  init := .initialized
  statics := none
  mirror := none

def pool0 : Array CpInfo := pool [(5, u "<init>"), (0, u "()V"), (1, .class_ 10), (1, u "java/lang/Object"), (85, u "clone"), (0, u "()Ljava/lang/Object;")] 26

def k0m0 : Method := { name := "<init>", desc := "()V", sig := { parameters := [], returnType := none }, accessFlags := 1, code := none }
def k0m1 : Method := { name := "clone", desc := "()Ljava/lang/Object;", sig := { parameters := [], returnType := some (.object "java/lang/Object") }, accessFlags := 260, code := none }
/-- java/lang/Object -/
def k0 : Class := { plain "java/lang/Object" none with
  accessFlags := 33
  interfaces := #[]
  cf := some (fileOf pool0 8 #[] #[{ accessFlags := 1, nameIndex := 5, descriptorIndex := 6, attributes := #[] }, { accessFlags := 260, nameIndex := 96, descriptorIndex := 97, attributes := #[] }] 33 0 #[] #[])
  fields := #[]
  methods := #[k0m0, k0m1]
  instanceTypes := #[]
  staticTypes := #[]
  resolved := Array.replicate 124 none
  statics := none }

def pool1 : Array CpInfo := pool [(2, .class_ 4), (1, u "java/lang/Object"), (0, u "<init>"), (0, u "()V"), (0, .methodref 8 9), (0, .class_ 10), (0, .nameAndType 11 12), (0, u "com/example/marks_across_domains/marksacrossdomains/BitsUnionPinLaw"), (0, u "make"), (0, u "(IJJ)[J"), (0, .methodref 14 15), (0, .class_ 16), (0, .nameAndType 17 18), (0, u "com/example/marks_across_domains/marksacrossdomains/Bits"), (0, u "union"), (0, u "([J[J)[J"), (0, .methodref 20 21), (0, .class_ 22), (0, .nameAndType 23 24), (0, u "java/lang/Math"), (0, u "max"), (0, u "(II)I"), (5, u "law"), (0, u "(IJJJJ)Z")] 2

def k1m0 : Method := { name := "<init>", desc := "()V", sig := { parameters := [], returnType := none }, accessFlags := 2, code := none }
def k1c1 : Code := { maxStack := 4, maxLocals := 6, code := method_2_code, exceptionTable := #[], attributes := #[] }
def k1m1 : Method := { name := "make", desc := "(IJJ)[J", sig := { parameters := [.int, .long, .long], returnType := some (.array .long) }, accessFlags := 10, code := some k1c1 }
def k1c2 : Code := { maxStack := 5, maxLocals := 19, code := code, exceptionTable := #[], attributes := #[] }
def k1m2 : Method := { name := "law", desc := "(IJJJJ)Z", sig := { parameters := [.int, .long, .long, .long, .long], returnType := some .boolean }, accessFlags := 9, code := some k1c2 }
/-- com/example/marks_across_domains/marksacrossdomains/BitsUnionPinLaw -/
def k1 : Class := { plain "com/example/marks_across_domains/marksacrossdomains/BitsUnionPinLaw" (some 0) with
  accessFlags := 49
  interfaces := #[]
  cf := some (fileOf pool1 8 #[] #[{ accessFlags := 2, nameIndex := 5, descriptorIndex := 6, attributes := #[] }, { accessFlags := 10, nameIndex := 11, descriptorIndex := 12, attributes := #[] }, { accessFlags := 9, nameIndex := 30, descriptorIndex := 31, attributes := #[] }] 49 2 #[] #[])
  fields := #[]
  methods := #[k1m0, k1m1, k1m2]
  instanceTypes := #[]
  staticTypes := #[]
  resolved := Array.replicate 34 none
  statics := none }

def pool2 : Array CpInfo := pool [(2, .class_ 4), (1, u "java/lang/Object"), (0, u "<init>"), (0, u "()V"), (15, .class_ 24), (1, u "com/example/marks_across_domains/marksacrossdomains/Bits"), (18, .methodref 44 45), (0, .class_ 46), (0, .nameAndType 47 48), (0, u "[J"), (0, u "clone"), (0, u "()Ljava/lang/Object;"), (8, u "NONE"), (14, u "union"), (0, u "([J[J)[J")] 6

def k2m0 : Method := { name := "<init>", desc := "()V", sig := { parameters := [], returnType := none }, accessFlags := 2, code := none }
def k2c1 : Code := { maxStack := 6, maxLocals := 6, code := prog_3_method_8_code, exceptionTable := #[], attributes := #[] }
def k2m1 : Method := { name := "union", desc := "([J[J)[J", sig := { parameters := [(.array .long), (.array .long)], returnType := some (.array .long) }, accessFlags := 8, code := some k2c1 }
/-- com/example/marks_across_domains/marksacrossdomains/Bits -/
def k2 : Class := { plain "com/example/marks_across_domains/marksacrossdomains/Bits" (some 0) with
  accessFlags := 48
  interfaces := #[]
  cf := some (fileOf pool2 22 #[] #[{ accessFlags := 2, nameIndex := 5, descriptorIndex := 6, attributes := #[] }, { accessFlags := 8, nameIndex := 72, descriptorIndex := 73, attributes := #[] }] 48 2 #[] #[{ accessFlags := 24, nameIndex := 57, descriptorIndex := 46, attributes := #[] }])
  fields := #[{ name := "NONE", type := (.array .long), accessFlags := 24, slot := 0, constantValue := 0 }]
  methods := #[k2m0, k2m1]
  instanceTypes := #[]
  staticTypes := #[(.array .long)]
  resolved := Array.replicate 80 none
  statics := none }

def pool3 : Array CpInfo := pool [(1, .class_ 2), (0, u "java/lang/Cloneable"), (0, .class_ 4), (0, u "java/lang/Object")] 2

/-- java/lang/Cloneable -/
def k3 : Class := { plain "java/lang/Cloneable" (some 0) with
  accessFlags := 1537
  interfaces := #[]
  cf := some (fileOf pool3 1 #[] #[] 1537 3 #[] #[])
  fields := #[]
  methods := #[]
  instanceTypes := #[]
  staticTypes := #[]
  resolved := Array.replicate 7 none
  statics := none }

def pool4 : Array CpInfo := pool [(1, .class_ 2), (0, u "java/lang/Math"), (1, .class_ 6), (1, u "java/lang/Object"), (0, u "<init>"), (0, u "()V"), (89, .class_ 100), (1, u "java/lang/Math$RandomNumberGeneratorHolder"), (71, u "negativeZeroFloatBits"), (0, u "J"), (2, u "negativeZeroDoubleBits"), (21, u "max"), (46, u "$assertionsDisabled"), (0, u "Z"), (88, u "(II)I"), (2, u "twoToTheDoubleScaleDown"), (0, u "D"), (4, u "twoToTheDoubleScaleUp"), (9, u "E"), (3, u "PI"), (2, u "TAU"), (2, u "DEGREES_TO_RADIANS"), (0, u "RADIANS_TO_DEGREES")] 94

def k4m0 : Method := { name := "<init>", desc := "()V", sig := { parameters := [], returnType := none }, accessFlags := 2, code := none }
def k4c1 : Code := { maxStack := 2, maxLocals := 2, code := jdk_29_method_65_code, exceptionTable := #[], attributes := #[] }
def k4m1 : Method := { name := "max", desc := "(II)I", sig := { parameters := [.int, .int], returnType := some .int }, accessFlags := 9, code := some k4c1 }
/-- java/lang/Math -/
def k4 : Class := { plain "java/lang/Math" (some 0) with
  accessFlags := 49
  interfaces := #[]
  cf := some (fileOf pool4 1 #[.nestMembers #[98]] #[{ accessFlags := 2, nameIndex := 7, descriptorIndex := 8, attributes := #[] }, { accessFlags := 9, nameIndex := 198, descriptorIndex := 335, attributes := #[] }] 49 4 #[] #[{ accessFlags := 25, nameIndex := 354, descriptorIndex := 339, attributes := #[] }, { accessFlags := 25, nameIndex := 358, descriptorIndex := 339, attributes := #[] }, { accessFlags := 25, nameIndex := 361, descriptorIndex := 339, attributes := #[] }, { accessFlags := 26, nameIndex := 364, descriptorIndex := 339, attributes := #[] }, { accessFlags := 26, nameIndex := 365, descriptorIndex := 339, attributes := #[] }, { accessFlags := 26, nameIndex := 172, descriptorIndex := 173, attributes := #[] }, { accessFlags := 26, nameIndex := 176, descriptorIndex := 173, attributes := #[] }, { accessFlags := 8, nameIndex := 344, descriptorIndex := 339, attributes := #[] }, { accessFlags := 8, nameIndex := 338, descriptorIndex := 339, attributes := #[] }, { accessFlags := 4120, nameIndex := 245, descriptorIndex := 246, attributes := #[] }])
  fields := #[{ name := "E", type := .double, accessFlags := 25, slot := 0, constantValue := 0 }, { name := "PI", type := .double, accessFlags := 25, slot := 1, constantValue := 0 }, { name := "TAU", type := .double, accessFlags := 25, slot := 2, constantValue := 0 }, { name := "DEGREES_TO_RADIANS", type := .double, accessFlags := 26, slot := 3, constantValue := 0 }, { name := "RADIANS_TO_DEGREES", type := .double, accessFlags := 26, slot := 4, constantValue := 0 }, { name := "negativeZeroFloatBits", type := .long, accessFlags := 26, slot := 5, constantValue := 0 }, { name := "negativeZeroDoubleBits", type := .long, accessFlags := 26, slot := 6, constantValue := 0 }, { name := "twoToTheDoubleScaleUp", type := .double, accessFlags := 8, slot := 7, constantValue := 0 }, { name := "twoToTheDoubleScaleDown", type := .double, accessFlags := 8, slot := 8, constantValue := 0 }, { name := "$assertionsDisabled", type := .boolean, accessFlags := 4120, slot := 9, constantValue := 0 }]
  methods := #[k4m0, k4m1]
  instanceTypes := #[]
  staticTypes := #[.double, .double, .double, .double, .double, .long, .long, .double, .double, .boolean]
  resolved := Array.replicate 460 none
  statics := none }

def pool5 : Array CpInfo := pool [(1, u "java/io/Serializable"), (0, .class_ 1), (0, u "java/lang/Object"), (0, .class_ 3)] 3

/-- java/io/Serializable -/
def k5 : Class := { plain "java/io/Serializable" (some 0) with
  accessFlags := 1537
  interfaces := #[]
  cf := some (fileOf pool5 2 #[] #[] 1537 4 #[] #[])
  fields := #[]
  methods := #[]
  instanceTypes := #[]
  staticTypes := #[]
  resolved := Array.replicate 8 none
  statics := none }

/-- the primitive byte -/
def k6 : Class := { plain "byte" none with kind := .primitive 'B', accessFlags := 0x411 }
/-- [B -/
def k7 : Class := { plain "[B" (some 0) with kind := .array 6 .byte, interfaces := #[3, 5], accessFlags := 1041 }

/-- the primitive int -/
def k8 : Class := { plain "int" none with kind := .primitive 'I', accessFlags := 0x411 }
/-- [I -/
def k9 : Class := { plain "[I" (some 0) with kind := .array 8 .int, interfaces := #[3, 5], accessFlags := 1041 }

/-- the primitive long -/
def k10 : Class := { plain "long" none with kind := .primitive 'J', accessFlags := 0x411 }
/-- [J -/
def k11 : Class := { plain "[J" (some 0) with kind := .array 10 .long, interfaces := #[3, 5], accessFlags := 1041 }

def heap : Heap := #[]
def classes : Array Class := #[k0, k1, k2, k3, k4, k5, k6, k7, k8, k9, k10, k11]
def interned : List (Array UInt16 × Addr) := []
def slotsUsed : Nat := 0
def theMethod : MethodId := ⟨1, 2⟩
def args0 : Array Value := #[.int 5, .long 7, .long 9, .long 11, .long 3]
def aboutOver (below : List Frame) : State where
  vm := { classes := classes, interned := interned.toArray }
  heap := heap
  slotsUsed := slotsUsed
  threads := #[{ frames := .invoking theMethod args0 :: below }]
def below0 : List Frame := [.native { method := ⟨0, 0⟩, args := #[] }]
def about1 : State := aboutOver below0
def p0 : Program := .bare "" "" ""
def e0 : Env := launch0.env 0 0 0
theorem w_frames : about1.frames = Frame.invoking theMethod args0 :: below0 := rfl
set_option maxRecDepth 65536 in
theorem w_args : argsFit about1.vm theMethod args0 = true := by decide +kernel
set_option maxRecDepth 65536 in
theorem w_heap : heapFits about1 = true := by decide +kernel
set_option maxRecDepth 65536 in
theorem w_runnable : about1.curStatus? = some .runnable := by decide +kernel
set_option maxRecDepth 65536 in
theorem w_alone : about1.alone = true := by decide +kernel
set_option maxRecDepth 65536 in
theorem w_named : about1.methodNamed? x = some theMethod := by decide +kernel
set_option maxRecDepth 65536 in
theorem w_hears : about1.hears theMethod below0 = true := by decide +kernel
set_option maxRecDepth 65536 in
theorem w_ripe : about1.ripe theMethod args0 below0 = true := by decide +kernel
theorem w_running : about1.status = .running := rfl
set_option maxRecDepth 65536 in
theorem w_room : about1.hasRoom e0.platform room_1 = true :=
  launch0.hasRoom_least _ room_1 (by decide +kernel) (by decide +kernel) (by decide +kernel) (by decide +kernel) (by decide +kernel) (by decide +kernel)
theorem allAtoms_all (ts : List Jvm.Cond) (a : Array Jvm.Value) (st : Jvm.State) : (allAtoms ts).before a st = ts.all (fun c => c.before a st) := by
  induction ts with
  | nil => rfl
  | cons c t ih =>
    show (Jvm.Cond.and c (allAtoms t)).before a st = _
    rw [Jvm.Cond.before_and, ih, List.all_cons]
def words1 : List Jvm.Cond := Jvm.Cond.code x code maxLocals ret :: tables_1
/-- a 'code' word, met by the world's own term for the bytes: nothing is compared byte by byte -/
theorem code_word {y : MethodName} {bytes : ByteArray} {mx : Nat} {rt : Option FieldType} {a : Array Value} {s : State} {m : MethodId} {meth : Method} {c : Code} (h1 : s.methodNamed? y = some m) (h2 : s.vm.method? m = some meth) (h3 : meth.code = some c) (h4 : c.code = bytes)
    (h5 : (c.maxLocals == mx && c.exceptionTable.isEmpty && decide (c.maxStack ≤ mostOperands) && decide (meth.sig.returnType = rt) && !meth.locks && decide (parseMethodDescriptor y.desc = some meth.sig)) = true) : (Jvm.Cond.code y bytes mx rt).before a s = true := by
  simp only [Bool.and_eq_true, beq_iff_eq, Bool.not_eq_true', decide_eq_true_eq] at h5
  obtain ⟨⟨⟨⟨⟨g1, g2⟩, g3⟩, g4⟩, g5⟩, g6⟩ := h5
  simp [Cond.before, Cond.holds, Cond.value, h1, h2, h3, h4, g1, g2, g3, g4, g5, g6]
def isCode : Jvm.Cond → Bool
  | .code _ _ _ _ => true
  | _ => false
theorem all_split {L : List Jvm.Cond} {P : Jvm.Cond → Bool} (h1 : L.all (fun c => isCode c || P c) = true) (h2 : ∀ c ∈ L.filter isCode, P c = true) : L.all P = true := by
  refine List.all_eq_true.mpr fun c hc => ?_
  have h := List.all_eq_true.mp h1 c hc
  rcases Bool.eq_false_or_eq_true (isCode c) with hi | hi
  · exact h2 c (List.mem_filter.mpr ⟨hc, hi⟩)
  · simpa [hi] using h
set_option maxRecDepth 65536 in
theorem w_c0 : (Jvm.Cond.code x code maxLocals ret).before args0 about1 = true := code_word (m := ⟨1, 2⟩) (meth := k1m2) (c := k1c2) (by decide +kernel) rfl rfl rfl (by decide +kernel)
set_option maxRecDepth 65536 in
theorem w_c1 : (Jvm.Cond.code ({ cls := "com/example/marks_across_domains/marksacrossdomains/BitsUnionPinLaw", name := "make", desc := "(IJJ)[J" } : Jvm.MethodName) method_2_code (6 : Nat) (Option.some (Jvm.ClassFile.FieldType.array Jvm.ClassFile.FieldType.long))).before args0 about1 = true := code_word (m := ⟨1, 1⟩) (meth := k1m1) (c := k1c1) (by decide +kernel) rfl rfl rfl (by decide +kernel)
set_option maxRecDepth 65536 in
theorem w_c2 : (Jvm.Cond.code ({ cls := "com/example/marks_across_domains/marksacrossdomains/Bits", name := "union", desc := "([J[J)[J" } : Jvm.MethodName) prog_3_method_8_code (6 : Nat) (Option.some (Jvm.ClassFile.FieldType.array Jvm.ClassFile.FieldType.long))).before args0 about1 = true := code_word (m := ⟨2, 1⟩) (meth := k2m1) (c := k2c1) (by decide +kernel) rfl rfl rfl (by decide +kernel)
set_option maxRecDepth 65536 in
theorem w_c3 : (Jvm.Cond.code ({ cls := "java/lang/Math", name := "max", desc := "(II)I" } : Jvm.MethodName) jdk_29_method_65_code (2 : Nat) (Option.some Jvm.ClassFile.FieldType.int)).before args0 about1 = true := code_word (m := ⟨4, 1⟩) (meth := k4m1) (c := k4c1) (by decide +kernel) rfl rfl rfl (by decide +kernel)
def codes1 : List Jvm.Cond := [Jvm.Cond.code x code maxLocals ret, Jvm.Cond.code ({ cls := "com/example/marks_across_domains/marksacrossdomains/BitsUnionPinLaw", name := "make", desc := "(IJJ)[J" } : Jvm.MethodName) method_2_code (6 : Nat) (Option.some (Jvm.ClassFile.FieldType.array Jvm.ClassFile.FieldType.long)), Jvm.Cond.code ({ cls := "com/example/marks_across_domains/marksacrossdomains/Bits", name := "union", desc := "([J[J)[J" } : Jvm.MethodName) prog_3_method_8_code (6 : Nat) (Option.some (Jvm.ClassFile.FieldType.array Jvm.ClassFile.FieldType.long)), Jvm.Cond.code ({ cls := "java/lang/Math", name := "max", desc := "(II)I" } : Jvm.MethodName) jdk_29_method_65_code (2 : Nat) (Option.some Jvm.ClassFile.FieldType.int)]
set_option maxRecDepth 65536 in
theorem codes_eq : words1.filter isCode = codes1 := rfl
theorem w_codes : ∀ c ∈ words1.filter isCode, c.before args0 about1 = true := by
  rw [codes_eq]
  intro c hc
  simp only [codes1, List.mem_cons, List.not_mem_nil, or_false] at hc
  rcases hc with rfl | rfl | rfl | rfl
  · exact w_c0
  · exact w_c1
  · exact w_c2
  · exact w_c3
set_option maxRecDepth 65536 in
theorem w_t1 : words1.all (fun c => isCode c || c.before args0 about1) = true := by decide +kernel
theorem w_tables : (allAtoms (Jvm.Cond.code x code maxLocals ret :: tables_1)).before args0 about1 = true := by
  rw [allAtoms_all]
  show words1.all (fun c => c.before args0 about1) = true
  refine all_split ?_ w_codes
  rw [w_t1]
set_option maxRecDepth 65536 in
theorem w_case : (Jvm.Cond.and given_1 narrow_1).before args0 about1 = true := by decide +kernel
theorem w_applies : (headSpec (Jvm.Cond.code x code maxLocals ret :: tables_1) room_1).applies x e0.platform about1 = true :=
  (Spec.applies_iff w_frames).mpr ⟨w_running, w_runnable, w_alone, w_named, w_hears, w_ripe, w_room, w_tables⟩
theorem atStart : AtStart classFile x code maxLocals ret World_1 tables_1 room_1 Calls_1 rest_1 Pre_1 launch0 p0 e0 about1 theMethod args0 below0 :=
  ⟨lists_1, trivial, launch0.admits_env _ _ _, launch0.least_env, fairChoices_fair.cas, fairChoices_fair.clock, w_frames, w_args, w_heap, w_applies, trivial, trivial, w_case⟩
end start1
theorem witness_1 : WitnessClaimed_1 := ⟨start1.p0, start1.e0, start1.about1, start1.theMethod, start1.args0, start1.below0, start1.atStart⟩
end Jvm.Pilot.@@N@@
