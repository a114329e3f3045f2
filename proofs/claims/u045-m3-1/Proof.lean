import JvmDerived
import JvmDerived.Pilot.@@N@@Statement
import JvmDerived.Pilot.@@N@@Code
set_option linter.unusedVariables false
set_option linter.unusedSimpArgs false
@@BLOCK:NumsL.lean.txt@@
namespace Jvm.Pilot.@@N@@
open Jvm Jvm.ClassFile Sem Op Lib Jvm.Free Jvm.Stand Jvm.LawKit Jvm.RoadKit Bundle Jvm.Pilot.@@N@@.Jvm.D
def Goes (p : Program) (e : Env) (below : List Frame) (s : State) (Q : Option Value → Heap → List Loc → Prop) (kc ks : Nat) (A : State) : Prop :=
  ∃ s₂ o, Steps p.tables e below A s₂ ∧ s₂.status = .running ∧ Ended s₂ below o ∧ ∃ v L, o = .returned v ∧ Q v s₂.heap L ∧ FrameEnd s o s₂ L kc ks
def QL (w : Option Value) (n0 : Nat) (v : Option Value) (h : Heap) (L : List Loc) : Prop := v = w ∧ Fr n0 L
theorem own_selp {s : State} {args : Array Value} {y : MethodName} {n : Nat} (hins : (Cond.instantiable y.cls n).before args s = true) (hpriv : (Cond.privateMethod y).before args s = true) (hinst : (Cond.instanceMethod y).before args s = true) (hy : y.cls ≠ "java/lang/invoke/MethodHandle" ∧ y.cls ≠ "java/lang/invoke/VarHandle") : (Cond.selects y.cls y y).before args s = true := by
  obtain ⟨c, k, hc, hk, -, hniab, -, -⟩ := Cond.instantiable_spec hins
  exact selects_self_of_private hc hk (Bool.or_eq_false_iff.mp hniab).1 (Cond.privateMethod_at hpriv) hinst hy
def QP (w : Option Value) (h0 : Heap) (n0 : Nat) (v : Option Value) (h : Heap) (L : List Loc) : Prop := v = w ∧ Fr n0 L ∧ h = h0
section OwnGoes
variable {p : Program} {l : Launch} {e : Env} {R : Room} {s : State} {m : MethodId} {args : Array Value} {below : List Frame} {meth : Method} {c : Code} {T : State} {locs : List Loc} {cells slots kc ks : Nat} {Q : Option Value → Heap → List Loc → Prop}
theorem Goes.st {A B : State} (h : ∀ t, Steps p.tables e below B t → Steps p.tables e below A t) (g : Goes p e below s Q kc ks B) : Goes p e below s Q kc ks A := by
  obtain ⟨s₂, o, h1, r⟩ := g
  exact ⟨s₂, o, h _ h1, r⟩
theorem Goes.cast {g g' : JFrame} (q : g = g') (h : Goes p e below s Q kc ks (T.setTop g')) : Goes p e below s Q kc ks (T.setTop g) := q ▸ h
theorem Goes.retI (X : Stand p l e R s m args below meth c T locs cells slots) (hx : p.tables.exec = Jvm.exec) (hlk : meth.locks = false) (hret : meth.sig.returnType = some .int) {pc : Nat} {Ls : Array Slot} {z : Int32} {rest : List Value} (hd : decode c.code pc = .ok (.ireturn, 1)) (hQ : Q (some (.int z)) T.heap locs) (h1 : cells ≤ kc) (h2 : slots ≤ ks) : Goes p e below s Q kc ks (T.setTop (mkF m pc Ls (.int z :: rest))) := by
  obtain ⟨fs, hr, hrun, hended, hW, hsame⟩ := X.leave (v := some (.int z)) (fun h => by rw [hret] at h; cases h)
  exact ⟨_, _, retOut X hx hret rfl (Or.inl ⟨rfl, Or.inl rfl, _, rfl⟩) hd hr, hrun, hended, _, _, rfl, hQ, ⟨_, rfl⟩, hW, hsame.mono h1 h2⟩
theorem Goes.retJ (X : Stand p l e R s m args below meth c T locs cells slots) (hx : p.tables.exec = Jvm.exec) (hlk : meth.locks = false) (hret : meth.sig.returnType = some .long) {pc : Nat} {Ls : Array Slot} {z : Int64} {rest : List Value} (hd : decode c.code pc = .ok (.lreturn, 1)) (hQ : Q (some (.long z)) T.heap locs) (h1 : cells ≤ kc) (h2 : slots ≤ ks) : Goes p e below s Q kc ks (T.setTop (mkF m pc Ls (.long z :: rest))) := by
  obtain ⟨fs, hr, hrun, hended, hW, hsame⟩ := X.leave (v := some (.long z)) (fun h => by rw [hret] at h; cases h)
  exact ⟨_, _, retOut X hx hret rfl (Or.inr (Or.inl ⟨rfl, rfl, _, rfl⟩)) hd hr, hrun, hended, _, _, rfl, hQ, ⟨_, rfl⟩, hW, hsame.mono h1 h2⟩
theorem Goes.retR (X : Stand p l e R s m args below meth c T locs cells slots) (hx : p.tables.exec = Jvm.exec) (hlk : meth.locks = false) {t : FieldType} (hret : meth.sig.returnType = some t) {w : Value} (ht : t.isReference = true) (hw : w.isRef = true) {pc : Nat} {Ls : Array Slot} {rest : List Value} (hd : decode c.code pc = .ok (.areturn, 1)) (hQ : Q (some w) T.heap locs) (h1 : cells ≤ kc) (h2 : slots ≤ ks) : Goes p e below s Q kc ks (T.setTop (mkF m pc Ls (w :: rest))) := by
  obtain ⟨fs, hr, hrun, hended, hW, hsame⟩ := X.leave (v := some w) (fun h => by rw [hret] at h; cases h)
  have hn : narrow t w = w := by cases t <;> cases w <;> first | rfl | (simp [FieldType.isReference] at ht) | (simp [Value.isRef] at hw)
  exact ⟨_, _, retOut X hx hret hn (Or.inr (Or.inr (Or.inr (Or.inr ⟨rfl, ht, hw⟩)))) hd hr, hrun, hended, _, _, rfl, hQ, ⟨_, rfl⟩, hW, hsame.mono h1 h2⟩
theorem Goes.retB (X : Stand p l e R s m args below meth c T locs cells slots) (hx : p.tables.exec = Jvm.exec) (hlk : meth.locks = false) {t : FieldType} (hret : meth.sig.returnType = some t) (ht : t = .boolean ∨ t = .byte ∨ t = .char ∨ t = .short) {pc : Nat} {Ls : Array Slot} {z : Int32} {rest : List Value} (hd : decode c.code pc = .ok (.ireturn, 1)) (hz : nar t z = z) (hQ : Q (some (.int z)) T.heap locs) (h1 : cells ≤ kc) (h2 : slots ≤ ks) : Goes p e below s Q kc ks (T.setTop (mkF m pc Ls (.int z :: rest))) := by
  obtain ⟨fs, hr, hrun, hended, hW, hsame⟩ := X.leave (v := some (.int z)) (fun h => by rw [hret] at h; cases h)
  exact ⟨_, _, retN X hx hret ht hd (by rw [hz]; exact hr), hrun, hended, _, _, rfl, hQ, ⟨_, rfl⟩, hW, hsame.mono h1 h2⟩
theorem Goes.retV (X : Stand p l e R s m args below meth c T locs cells slots) (hx : p.tables.exec = Jvm.exec) (hlk : meth.locks = false) (hret : meth.sig.returnType = none) {pc : Nat} {Ls : Array Slot} (hd : decode c.code pc = .ok (.return_, 1)) (hQ : Q none T.heap locs) (h1 : cells ≤ kc) (h2 : slots ≤ ks) : Goes p e below s Q kc ks (T.setTop (mkF m pc Ls [])) := by
  obtain ⟨fs, hr, hrun, hended, hW, hsame⟩ := X.leave (v := none) (fun _ => rfl)
  exact ⟨_, _, X.returnOut hx hret hd hr, hrun, hended, _, _, rfl, hQ, ⟨_, rfl⟩, hW, hsame.mono h1 h2⟩
end OwnGoes
theorem tltL {x y : Int64} (h : x < y) : ifCond.holds .lt (lcmpW x y) = true ∧ ifCond.holds .ge (lcmpW x y) = false ∧ ifCond.holds .gt (lcmpW y x) = true ∧ ifCond.holds .le (lcmpW y x) = false :=
  ⟨(if0 _ _).trans (tlt ((lw_lt x y).mpr h)).1, (if0 _ _).trans (tlt ((lw_lt x y).mpr h)).2.1, (if0 _ _).trans (tlt ((lw_gt y x).mpr h)).2.2.1, (if0 _ _).trans (tlt ((lw_gt y x).mpr h)).2.2.2⟩
theorem fltL {x y : Int64} (h : ¬ x < y) : ifCond.holds .lt (lcmpW x y) = false ∧ ifCond.holds .ge (lcmpW x y) = true ∧ ifCond.holds .gt (lcmpW y x) = false ∧ ifCond.holds .le (lcmpW y x) = true :=
  ⟨(if0 _ _).trans (flt fun q => h ((lw_lt x y).mp q)).1, (if0 _ _).trans (flt fun q => h ((lw_lt x y).mp q)).2.1, (if0 _ _).trans (flt fun q => h ((lw_gt y x).mp q)).2.2.1, (if0 _ _).trans (flt fun q => h ((lw_gt y x).mp q)).2.2.2⟩
theorem teqL {x y : Int64} (h : x = y) : ifCond.holds .eq (lcmpW x y) = true ∧ ifCond.holds .ne (lcmpW x y) = false :=
  ⟨(if0 _ _).trans (teq ((lw_eq x y).mpr h)).1, (if0 _ _).trans (teq ((lw_eq x y).mpr h)).2⟩
theorem feqL {x y : Int64} (h : ¬ x = y) : ifCond.holds .eq (lcmpW x y) = false ∧ ifCond.holds .ne (lcmpW x y) = true :=
  ⟨(if0 _ _).trans (feq fun q => h ((lw_eq x y).mp q)).1, (if0 _ _).trans (feq fun q => h ((lw_eq x y).mp q)).2⟩
def own_look {α : Type} (i : Nat) : List (Nat × α) → Option α
  | [] => none
  | (j, v) :: r => if i = j then some v else own_look i r
theorem own_look_mem {α : Type} {i : Nat} {v : α} : ∀ {L : List (Nat × α)}, own_look i L = some v → (i, v) ∈ L
  | [], h => by cases h
  | (j, w) :: r, h => by
    unfold own_look at h
    by_cases q : i = j
    · rw [if_pos q] at h; cases h; subst q; exact List.mem_cons_self
    · rw [if_neg q] at h; exact List.mem_cons_of_mem _ (own_look_mem h)
def own_pstep (ci : List (Nat × Int32)) (cl : List (Nat × Int64)) (i : Instr) (n : Nat) (g : JFrame) : Option JFrame :=
  match i with
  | .iload_n k => if n = 1 then (match g.locals[k.val]? with | some (.val (.int v)) => some { g with pc := g.pc + 1, stack := .int v :: g.stack } | _ => none) else none
  | .iload k => if n = 2 then (match g.locals[k]? with | some (.val (.int v)) => some { g with pc := g.pc + 2, stack := .int v :: g.stack } | _ => none) else none
  | .lload_n k => if n = 1 then (match g.locals[k.val]? with | some (.val (.long v)) => some { g with pc := g.pc + 1, stack := .long v :: g.stack } | _ => none) else none
  | .lload k => if n = 2 then (match g.locals[k]? with | some (.val (.long v)) => some { g with pc := g.pc + 2, stack := .long v :: g.stack } | _ => none) else none
  | .aload_n k => if n = 1 then (match g.locals[k.val]? with | some (.val v) => if v.isRef = true then some { g with pc := g.pc + 1, stack := v :: g.stack } else none | _ => none) else none
  | .aload k => if n = 2 then (match g.locals[k]? with | some (.val v) => if v.isRef = true then some { g with pc := g.pc + 2, stack := v :: g.stack } else none | _ => none) else none
  | .istore_n k => if n = 1 then (match g.stack with | .int x :: rest => (match storeLocals g.locals k.val (.int x) with | some l' => some { g with pc := g.pc + 1, stack := rest, locals := l' } | none => none) | _ => none) else none
  | .istore k => if n = 2 then (match g.stack with | .int x :: rest => (match storeLocals g.locals k (.int x) with | some l' => some { g with pc := g.pc + 2, stack := rest, locals := l' } | none => none) | _ => none) else none
  | .lstore_n k => if n = 1 then (match g.stack with | .long x :: rest => (match storeLocals g.locals k.val (.long x) with | some l' => some { g with pc := g.pc + 1, stack := rest, locals := l' } | none => none) | _ => none) else none
  | .lstore k => if n = 2 then (match g.stack with | .long x :: rest => (match storeLocals g.locals k (.long x) with | some l' => some { g with pc := g.pc + 2, stack := rest, locals := l' } | none => none) | _ => none) else none
  | .astore_n k => if n = 1 then (match g.stack with | x :: rest => (if x.isRef = true then (match storeLocals g.locals k.val x with | some l' => some { g with pc := g.pc + 1, stack := rest, locals := l' } | none => none) else none) | _ => none) else none
  | .astore k => if n = 2 then (match g.stack with | x :: rest => (if x.isRef = true then (match storeLocals g.locals k x with | some l' => some { g with pc := g.pc + 2, stack := rest, locals := l' } | none => none) else none) | _ => none) else none
  | .iconst i => if n = 1 then (some { g with pc := g.pc + 1, stack := .int (Int32.ofInt i) :: g.stack }) else none
  | .bipush i => if n = 2 then (some { g with pc := g.pc + 2, stack := .int (Int8.ofInt i).toInt32 :: g.stack }) else none
  | .sipush i => if n = 3 then (some { g with pc := g.pc + 3, stack := .int (Int16.ofInt i).toInt32 :: g.stack }) else none
  | .lconst k => if n = 1 then (some { g with pc := g.pc + 1, stack := .long (Int64.ofNat k) :: g.stack }) else none
  | .aconst_null => if n = 1 then (some { g with pc := g.pc + 1, stack := .null :: g.stack }) else none
  | .iadd => if n = 1 then (match g.stack with | .int y :: .int x :: rest => some { g with pc := g.pc + 1, stack := .int (x + y) :: rest } | _ => none) else none
  | .ladd => if n = 1 then (match g.stack with | .long y :: .long x :: rest => some { g with pc := g.pc + 1, stack := .long (x + y) :: rest } | _ => none) else none
  | .isub => if n = 1 then (match g.stack with | .int y :: .int x :: rest => some { g with pc := g.pc + 1, stack := .int (x - y) :: rest } | _ => none) else none
  | .lsub => if n = 1 then (match g.stack with | .long y :: .long x :: rest => some { g with pc := g.pc + 1, stack := .long (x - y) :: rest } | _ => none) else none
  | .imul => if n = 1 then (match g.stack with | .int y :: .int x :: rest => some { g with pc := g.pc + 1, stack := .int (x * y) :: rest } | _ => none) else none
  | .lmul => if n = 1 then (match g.stack with | .long y :: .long x :: rest => some { g with pc := g.pc + 1, stack := .long (x * y) :: rest } | _ => none) else none
  | .iand => if n = 1 then (match g.stack with | .int y :: .int x :: rest => some { g with pc := g.pc + 1, stack := .int (x &&& y) :: rest } | _ => none) else none
  | .land => if n = 1 then (match g.stack with | .long y :: .long x :: rest => some { g with pc := g.pc + 1, stack := .long (x &&& y) :: rest } | _ => none) else none
  | .ior => if n = 1 then (match g.stack with | .int y :: .int x :: rest => some { g with pc := g.pc + 1, stack := .int (x ||| y) :: rest } | _ => none) else none
  | .lor => if n = 1 then (match g.stack with | .long y :: .long x :: rest => some { g with pc := g.pc + 1, stack := .long (x ||| y) :: rest } | _ => none) else none
  | .ixor => if n = 1 then (match g.stack with | .int y :: .int x :: rest => some { g with pc := g.pc + 1, stack := .int (x ^^^ y) :: rest } | _ => none) else none
  | .lxor => if n = 1 then (match g.stack with | .long y :: .long x :: rest => some { g with pc := g.pc + 1, stack := .long (x ^^^ y) :: rest } | _ => none) else none
  | .ishl => if n = 1 then (match g.stack with | .int y :: .int x :: rest => some { g with pc := g.pc + 1, stack := .int (x <<< (y &&& 31)) :: rest } | _ => none) else none
  | .ishr => if n = 1 then (match g.stack with | .int y :: .int x :: rest => some { g with pc := g.pc + 1, stack := .int (x >>> (y &&& 31)) :: rest } | _ => none) else none
  | .iushr => if n = 1 then (match g.stack with | .int y :: .int x :: rest => some { g with pc := g.pc + 1, stack := .int ((x.toUInt32 >>> (y &&& 31).toUInt32).toInt32) :: rest } | _ => none) else none
  | .lshl => if n = 1 then (match g.stack with | .int y :: .long x :: rest => some { g with pc := g.pc + 1, stack := .long (x <<< (y &&& 0x3f).toInt64) :: rest } | _ => none) else none
  | .lshr => if n = 1 then (match g.stack with | .int y :: .long x :: rest => some { g with pc := g.pc + 1, stack := .long (x >>> (y &&& 0x3f).toInt64) :: rest } | _ => none) else none
  | .lushr => if n = 1 then (match g.stack with | .int y :: .long x :: rest => some { g with pc := g.pc + 1, stack := .long ((x.toUInt64 >>> (y &&& 0x3f).toInt64.toUInt64).toInt64) :: rest } | _ => none) else none
  | .lcmp => if n = 1 then (match g.stack with | .long y :: .long x :: rest => some { g with pc := g.pc + 1, stack := .int (if x > y then 1 else if x = y then 0 else -1) :: rest } | _ => none) else none
  | .ineg => if n = 1 then (match g.stack with | .int v :: rest => some { g with pc := g.pc + 1, stack := .int (-v) :: rest } | _ => none) else none
  | .lneg => if n = 1 then (match g.stack with | .long v :: rest => some { g with pc := g.pc + 1, stack := .long (-v) :: rest } | _ => none) else none
  | .i2l => if n = 1 then (match g.stack with | .int v :: rest => some { g with pc := g.pc + 1, stack := .long (v.toInt64) :: rest } | _ => none) else none
  | .l2i => if n = 1 then (match g.stack with | .long v :: rest => some { g with pc := g.pc + 1, stack := .int (v.toInt32) :: rest } | _ => none) else none
  | .i2b => if n = 1 then (match g.stack with | .int v :: rest => some { g with pc := g.pc + 1, stack := .int (v.toInt8.toInt32) :: rest } | _ => none) else none
  | .i2c => if n = 1 then (match g.stack with | .int v :: rest => some { g with pc := g.pc + 1, stack := .int (v.toUInt32.toUInt16.toUInt32.toInt32) :: rest } | _ => none) else none
  | .i2s => if n = 1 then (match g.stack with | .int v :: rest => some { g with pc := g.pc + 1, stack := .int (v.toInt16.toInt32) :: rest } | _ => none) else none
  | .iinc k cst => if n = 3 then (match g.locals[k]? with | some (.val (.int x)) => (match storeLocals g.locals k (.int (x + Int32.ofInt cst)) with | some l' => some { g with pc := g.pc + 3, locals := l' } | none => none) | _ => none) else none
  | .dup => if n = 1 then (match g.stack with | x :: rest => (if x.category = 1 then some { g with pc := g.pc + 1, stack := x :: x :: rest } else none) | _ => none) else none
  | .pop => if n = 1 then (match g.stack with | x :: rest => (if x.category = 1 then some { g with pc := g.pc + 1, stack := rest } else none) | _ => none) else none
  | .goto o => if n = 3 then (if 0 ≤ (g.pc : Int) + o then some { g with pc := ((g.pc : Int) + o).toNat } else none) else none
  | .ldc i => if n = 2 then (match own_look i ci with | some v => some { g with pc := g.pc + 2, stack := .int v :: g.stack } | none => none) else none
  | .ldc_w i => if n = 3 then (match own_look i ci with | some v => some { g with pc := g.pc + 3, stack := .int v :: g.stack } | none => none) else none
  | .ldc2_w i => if n = 3 then (match own_look i cl with | some v => some { g with pc := g.pc + 3, stack := .long v :: g.stack } | none => none) else none
  | .idiv => if n = 1 then (match g.stack with | .int y :: .int x :: rest => (if y = 0 then none else some { g with pc := g.pc + 1, stack := .int (x / y) :: rest }) | _ => none) else none
  | .irem => if n = 1 then (match g.stack with | .int y :: .int x :: rest => (if y = 0 then none else some { g with pc := g.pc + 1, stack := .int (x - (x / y) * y) :: rest }) | _ => none) else none
  | .ldiv => if n = 1 then (match g.stack with | .long y :: .long x :: rest => (if y = 0 then none else some { g with pc := g.pc + 1, stack := .long (x / y) :: rest }) | _ => none) else none
  | .lrem => if n = 1 then (match g.stack with | .long y :: .long x :: rest => (if y = 0 then none else some { g with pc := g.pc + 1, stack := .long (x - (x / y) * y) :: rest }) | _ => none) else none
  | _ => none
section OwnRun
variable {p : Program} {l : Launch} {e : Env} {R : Room} {s : State} {m : MethodId} {args : Array Value} {below : List Frame} {meth : Method} {c : Code} {T target : State} {locs : List Loc} {cells slots kc ks : Nat} {own : String} {ci : List (Nat × Int32)} {cl : List (Nat × Int64)} {Q : Option Value → Heap → List Loc → Prop}
set_option maxHeartbeats 4000000 in
theorem own_pstep_ok (X : Stand p l e R s m args below meth c T locs cells slots) (hx : p.tables.exec = Jvm.exec) (hown : s.vm.findClass own = some m.cls) (hci : ∀ i v, (i, v) ∈ ci → (Cond.constant own i v).before args s = true) (hcl : ∀ i v, (i, v) ∈ cl → (Cond.constantLong own i v).before args s = true)
    {g g' : JFrame} (hg : g.method = m) {i : Instr} {n : Nat} (hd : decode c.code g.pc = .ok (i, n)) (hp : own_pstep ci cl i n g = some g') : (∀ target, Steps p.tables e below (T.setTop g') target → Steps p.tables e below (T.setTop g) target) ∧ g'.method = m := by
  cases i
  all_goals first
    | (exact absurd hp (by intro q; cases q))
    | skip
  case iload_n k =>
    by_cases hn : n = 1
    · subst hn
      replace hp : (match g.locals[k.val]? with | some (.val (.int v)) => some { g with pc := g.pc + 1, stack := .int v :: g.stack } | _ => none) = some g' := hp
      split at hp
      · skip
        cases hp
        exact ⟨fun _ hr => XS.iloadN X.here hx hg hd (by assumption) hr, hg⟩
      · cases hp
    · exact absurd hp (by intro q; rw [show own_pstep ci cl (.iload_n k) n g = none from if_neg hn] at q; cases q)
  case iload k =>
    by_cases hn : n = 2
    · subst hn
      replace hp : (match g.locals[k]? with | some (.val (.int v)) => some { g with pc := g.pc + 2, stack := .int v :: g.stack } | _ => none) = some g' := hp
      split at hp
      · skip
        cases hp
        exact ⟨fun _ hr => XS.iload X.here hx hg hd (by assumption) hr, hg⟩
      · cases hp
    · exact absurd hp (by intro q; rw [show own_pstep ci cl (.iload k) n g = none from if_neg hn] at q; cases q)
  case lload_n k =>
    by_cases hn : n = 1
    · subst hn
      replace hp : (match g.locals[k.val]? with | some (.val (.long v)) => some { g with pc := g.pc + 1, stack := .long v :: g.stack } | _ => none) = some g' := hp
      split at hp
      · skip
        cases hp
        exact ⟨fun _ hr => XS.lloadN X.here hx hg hd (by assumption) hr, hg⟩
      · cases hp
    · exact absurd hp (by intro q; rw [show own_pstep ci cl (.lload_n k) n g = none from if_neg hn] at q; cases q)
  case lload k =>
    by_cases hn : n = 2
    · subst hn
      replace hp : (match g.locals[k]? with | some (.val (.long v)) => some { g with pc := g.pc + 2, stack := .long v :: g.stack } | _ => none) = some g' := hp
      split at hp
      · skip
        cases hp
        exact ⟨fun _ hr => XS.lload X.here hx hg hd (by assumption) hr, hg⟩
      · cases hp
    · exact absurd hp (by intro q; rw [show own_pstep ci cl (.lload k) n g = none from if_neg hn] at q; cases q)
  case aload_n k =>
    by_cases hn : n = 1
    · subst hn
      replace hp : (match g.locals[k.val]? with | some (.val v) => if v.isRef = true then some { g with pc := g.pc + 1, stack := v :: g.stack } else none | _ => none) = some g' := hp
      split at hp
      · skip
        split at hp
        · skip
          cases hp
          exact ⟨fun _ hr => XS.aloadN X.here hx hg hd (by assumption) (by assumption) hr, hg⟩
        · cases hp
      · cases hp
    · exact absurd hp (by intro q; rw [show own_pstep ci cl (.aload_n k) n g = none from if_neg hn] at q; cases q)
  case aload k =>
    by_cases hn : n = 2
    · subst hn
      replace hp : (match g.locals[k]? with | some (.val v) => if v.isRef = true then some { g with pc := g.pc + 2, stack := v :: g.stack } else none | _ => none) = some g' := hp
      split at hp
      · skip
        split at hp
        · skip
          cases hp
          exact ⟨fun _ hr => XS.aload X.here hx hg hd (by assumption) (by assumption) hr, hg⟩
        · cases hp
      · cases hp
    · exact absurd hp (by intro q; rw [show own_pstep ci cl (.aload k) n g = none from if_neg hn] at q; cases q)
  case istore_n k =>
    by_cases hn : n = 1
    · subst hn
      replace hp : (match g.stack with | .int x :: rest => (match storeLocals g.locals k.val (.int x) with | some l' => some { g with pc := g.pc + 1, stack := rest, locals := l' } | none => none) | _ => none) = some g' := hp
      split at hp
      · skip
        split at hp
        · skip
          cases hp
          exact ⟨fun _ hr => XS.istoreN X.here hx hg hd (by assumption) (by assumption) hr, hg⟩
        · cases hp
      · cases hp
    · exact absurd hp (by intro q; rw [show own_pstep ci cl (.istore_n k) n g = none from if_neg hn] at q; cases q)
  case istore k =>
    by_cases hn : n = 2
    · subst hn
      replace hp : (match g.stack with | .int x :: rest => (match storeLocals g.locals k (.int x) with | some l' => some { g with pc := g.pc + 2, stack := rest, locals := l' } | none => none) | _ => none) = some g' := hp
      split at hp
      · skip
        split at hp
        · skip
          cases hp
          exact ⟨fun _ hr => XS.istore X.here hx hg hd (by assumption) (by assumption) hr, hg⟩
        · cases hp
      · cases hp
    · exact absurd hp (by intro q; rw [show own_pstep ci cl (.istore k) n g = none from if_neg hn] at q; cases q)
  case lstore_n k =>
    by_cases hn : n = 1
    · subst hn
      replace hp : (match g.stack with | .long x :: rest => (match storeLocals g.locals k.val (.long x) with | some l' => some { g with pc := g.pc + 1, stack := rest, locals := l' } | none => none) | _ => none) = some g' := hp
      split at hp
      · skip
        split at hp
        · skip
          cases hp
          exact ⟨fun _ hr => XS.lstoreN X.here hx hg hd (by assumption) (by assumption) hr, hg⟩
        · cases hp
      · cases hp
    · exact absurd hp (by intro q; rw [show own_pstep ci cl (.lstore_n k) n g = none from if_neg hn] at q; cases q)
  case lstore k =>
    by_cases hn : n = 2
    · subst hn
      replace hp : (match g.stack with | .long x :: rest => (match storeLocals g.locals k (.long x) with | some l' => some { g with pc := g.pc + 2, stack := rest, locals := l' } | none => none) | _ => none) = some g' := hp
      split at hp
      · skip
        split at hp
        · skip
          cases hp
          exact ⟨fun _ hr => XS.lstore X.here hx hg hd (by assumption) (by assumption) hr, hg⟩
        · cases hp
      · cases hp
    · exact absurd hp (by intro q; rw [show own_pstep ci cl (.lstore k) n g = none from if_neg hn] at q; cases q)
  case astore_n k =>
    by_cases hn : n = 1
    · subst hn
      replace hp : (match g.stack with | x :: rest => (if x.isRef = true then (match storeLocals g.locals k.val x with | some l' => some { g with pc := g.pc + 1, stack := rest, locals := l' } | none => none) else none) | _ => none) = some g' := hp
      split at hp
      · skip
        split at hp
        · skip
          split at hp
          · skip
            cases hp
            exact ⟨fun _ hr => XS.astoreN X.here hx hg hd (by assumption) (by assumption) (by assumption) hr, hg⟩
          · cases hp
        · cases hp
      · cases hp
    · exact absurd hp (by intro q; rw [show own_pstep ci cl (.astore_n k) n g = none from if_neg hn] at q; cases q)
  case astore k =>
    by_cases hn : n = 2
    · subst hn
      replace hp : (match g.stack with | x :: rest => (if x.isRef = true then (match storeLocals g.locals k x with | some l' => some { g with pc := g.pc + 2, stack := rest, locals := l' } | none => none) else none) | _ => none) = some g' := hp
      split at hp
      · skip
        split at hp
        · skip
          split at hp
          · skip
            cases hp
            exact ⟨fun _ hr => XS.astore X.here hx hg hd (by assumption) (by assumption) (by assumption) hr, hg⟩
          · cases hp
        · cases hp
      · cases hp
    · exact absurd hp (by intro q; rw [show own_pstep ci cl (.astore k) n g = none from if_neg hn] at q; cases q)
  case iconst i =>
    by_cases hn : n = 1
    · subst hn
      replace hp : (some { g with pc := g.pc + 1, stack := .int (Int32.ofInt i) :: g.stack }) = some g' := hp
      cases hp
      exact ⟨fun _ hr => XS.iconst X.here hx hg hd hr, hg⟩
    · exact absurd hp (by intro q; rw [show own_pstep ci cl (.iconst i) n g = none from if_neg hn] at q; cases q)
  case bipush i =>
    by_cases hn : n = 2
    · subst hn
      replace hp : (some { g with pc := g.pc + 2, stack := .int (Int8.ofInt i).toInt32 :: g.stack }) = some g' := hp
      cases hp
      exact ⟨fun _ hr => XS.bipush X.here hx hg hd hr, hg⟩
    · exact absurd hp (by intro q; rw [show own_pstep ci cl (.bipush i) n g = none from if_neg hn] at q; cases q)
  case sipush i =>
    by_cases hn : n = 3
    · subst hn
      replace hp : (some { g with pc := g.pc + 3, stack := .int (Int16.ofInt i).toInt32 :: g.stack }) = some g' := hp
      cases hp
      exact ⟨fun _ hr => XS.sipush X.here hx hg hd hr, hg⟩
    · exact absurd hp (by intro q; rw [show own_pstep ci cl (.sipush i) n g = none from if_neg hn] at q; cases q)
  case lconst k =>
    by_cases hn : n = 1
    · subst hn
      replace hp : (some { g with pc := g.pc + 1, stack := .long (Int64.ofNat k) :: g.stack }) = some g' := hp
      cases hp
      exact ⟨fun _ hr => XS.lconst X.here hx hg hd hr, hg⟩
    · exact absurd hp (by intro q; rw [show own_pstep ci cl (.lconst k) n g = none from if_neg hn] at q; cases q)
  case aconst_null =>
    by_cases hn : n = 1
    · subst hn
      replace hp : (some { g with pc := g.pc + 1, stack := .null :: g.stack }) = some g' := hp
      cases hp
      exact ⟨fun _ hr => XS.aconstNull X.here hx hg hd hr, hg⟩
    · exact absurd hp (by intro q; rw [show own_pstep ci cl (.aconst_null) n g = none from if_neg hn] at q; cases q)
  case iadd =>
    by_cases hn : n = 1
    · subst hn
      replace hp : (match g.stack with | .int y :: .int x :: rest => some { g with pc := g.pc + 1, stack := .int (x + y) :: rest } | _ => none) = some g' := hp
      split at hp
      · skip
        cases hp
        exact ⟨fun _ hr => XS.iadd X.here hx hg hd (by assumption) hr, hg⟩
      · cases hp
    · exact absurd hp (by intro q; rw [show own_pstep ci cl (.iadd) n g = none from if_neg hn] at q; cases q)
  case ladd =>
    by_cases hn : n = 1
    · subst hn
      replace hp : (match g.stack with | .long y :: .long x :: rest => some { g with pc := g.pc + 1, stack := .long (x + y) :: rest } | _ => none) = some g' := hp
      split at hp
      · skip
        cases hp
        exact ⟨fun _ hr => XS.ladd X.here hx hg hd (by assumption) hr, hg⟩
      · cases hp
    · exact absurd hp (by intro q; rw [show own_pstep ci cl (.ladd) n g = none from if_neg hn] at q; cases q)
  case isub =>
    by_cases hn : n = 1
    · subst hn
      replace hp : (match g.stack with | .int y :: .int x :: rest => some { g with pc := g.pc + 1, stack := .int (x - y) :: rest } | _ => none) = some g' := hp
      split at hp
      · skip
        cases hp
        exact ⟨fun _ hr => XS.isub X.here hx hg hd (by assumption) hr, hg⟩
      · cases hp
    · exact absurd hp (by intro q; rw [show own_pstep ci cl (.isub) n g = none from if_neg hn] at q; cases q)
  case lsub =>
    by_cases hn : n = 1
    · subst hn
      replace hp : (match g.stack with | .long y :: .long x :: rest => some { g with pc := g.pc + 1, stack := .long (x - y) :: rest } | _ => none) = some g' := hp
      split at hp
      · skip
        cases hp
        exact ⟨fun _ hr => XS.lsub X.here hx hg hd (by assumption) hr, hg⟩
      · cases hp
    · exact absurd hp (by intro q; rw [show own_pstep ci cl (.lsub) n g = none from if_neg hn] at q; cases q)
  case imul =>
    by_cases hn : n = 1
    · subst hn
      replace hp : (match g.stack with | .int y :: .int x :: rest => some { g with pc := g.pc + 1, stack := .int (x * y) :: rest } | _ => none) = some g' := hp
      split at hp
      · skip
        cases hp
        exact ⟨fun _ hr => XS.imul X.here hx hg hd (by assumption) hr, hg⟩
      · cases hp
    · exact absurd hp (by intro q; rw [show own_pstep ci cl (.imul) n g = none from if_neg hn] at q; cases q)
  case lmul =>
    by_cases hn : n = 1
    · subst hn
      replace hp : (match g.stack with | .long y :: .long x :: rest => some { g with pc := g.pc + 1, stack := .long (x * y) :: rest } | _ => none) = some g' := hp
      split at hp
      · skip
        cases hp
        exact ⟨fun _ hr => XS.lmul X.here hx hg hd (by assumption) hr, hg⟩
      · cases hp
    · exact absurd hp (by intro q; rw [show own_pstep ci cl (.lmul) n g = none from if_neg hn] at q; cases q)
  case iand =>
    by_cases hn : n = 1
    · subst hn
      replace hp : (match g.stack with | .int y :: .int x :: rest => some { g with pc := g.pc + 1, stack := .int (x &&& y) :: rest } | _ => none) = some g' := hp
      split at hp
      · skip
        cases hp
        exact ⟨fun _ hr => XS.iand X.here hx hg hd (by assumption) hr, hg⟩
      · cases hp
    · exact absurd hp (by intro q; rw [show own_pstep ci cl (.iand) n g = none from if_neg hn] at q; cases q)
  case land =>
    by_cases hn : n = 1
    · subst hn
      replace hp : (match g.stack with | .long y :: .long x :: rest => some { g with pc := g.pc + 1, stack := .long (x &&& y) :: rest } | _ => none) = some g' := hp
      split at hp
      · skip
        cases hp
        exact ⟨fun _ hr => XS.land X.here hx hg hd (by assumption) hr, hg⟩
      · cases hp
    · exact absurd hp (by intro q; rw [show own_pstep ci cl (.land) n g = none from if_neg hn] at q; cases q)
  case ior =>
    by_cases hn : n = 1
    · subst hn
      replace hp : (match g.stack with | .int y :: .int x :: rest => some { g with pc := g.pc + 1, stack := .int (x ||| y) :: rest } | _ => none) = some g' := hp
      split at hp
      · skip
        cases hp
        exact ⟨fun _ hr => XS.ior X.here hx hg hd (by assumption) hr, hg⟩
      · cases hp
    · exact absurd hp (by intro q; rw [show own_pstep ci cl (.ior) n g = none from if_neg hn] at q; cases q)
  case lor =>
    by_cases hn : n = 1
    · subst hn
      replace hp : (match g.stack with | .long y :: .long x :: rest => some { g with pc := g.pc + 1, stack := .long (x ||| y) :: rest } | _ => none) = some g' := hp
      split at hp
      · skip
        cases hp
        exact ⟨fun _ hr => XS.lor X.here hx hg hd (by assumption) hr, hg⟩
      · cases hp
    · exact absurd hp (by intro q; rw [show own_pstep ci cl (.lor) n g = none from if_neg hn] at q; cases q)
  case ixor =>
    by_cases hn : n = 1
    · subst hn
      replace hp : (match g.stack with | .int y :: .int x :: rest => some { g with pc := g.pc + 1, stack := .int (x ^^^ y) :: rest } | _ => none) = some g' := hp
      split at hp
      · skip
        cases hp
        exact ⟨fun _ hr => XS.ixor X.here hx hg hd (by assumption) hr, hg⟩
      · cases hp
    · exact absurd hp (by intro q; rw [show own_pstep ci cl (.ixor) n g = none from if_neg hn] at q; cases q)
  case lxor =>
    by_cases hn : n = 1
    · subst hn
      replace hp : (match g.stack with | .long y :: .long x :: rest => some { g with pc := g.pc + 1, stack := .long (x ^^^ y) :: rest } | _ => none) = some g' := hp
      split at hp
      · skip
        cases hp
        exact ⟨fun _ hr => XS.lxor X.here hx hg hd (by assumption) hr, hg⟩
      · cases hp
    · exact absurd hp (by intro q; rw [show own_pstep ci cl (.lxor) n g = none from if_neg hn] at q; cases q)
  case ishl =>
    by_cases hn : n = 1
    · subst hn
      replace hp : (match g.stack with | .int y :: .int x :: rest => some { g with pc := g.pc + 1, stack := .int (x <<< (y &&& 31)) :: rest } | _ => none) = some g' := hp
      split at hp
      · skip
        cases hp
        exact ⟨fun _ hr => XS.ishl X.here hx hg hd (by assumption) hr, hg⟩
      · cases hp
    · exact absurd hp (by intro q; rw [show own_pstep ci cl (.ishl) n g = none from if_neg hn] at q; cases q)
  case ishr =>
    by_cases hn : n = 1
    · subst hn
      replace hp : (match g.stack with | .int y :: .int x :: rest => some { g with pc := g.pc + 1, stack := .int (x >>> (y &&& 31)) :: rest } | _ => none) = some g' := hp
      split at hp
      · skip
        cases hp
        exact ⟨fun _ hr => XS.ishr X.here hx hg hd (by assumption) hr, hg⟩
      · cases hp
    · exact absurd hp (by intro q; rw [show own_pstep ci cl (.ishr) n g = none from if_neg hn] at q; cases q)
  case iushr =>
    by_cases hn : n = 1
    · subst hn
      replace hp : (match g.stack with | .int y :: .int x :: rest => some { g with pc := g.pc + 1, stack := .int ((x.toUInt32 >>> (y &&& 31).toUInt32).toInt32) :: rest } | _ => none) = some g' := hp
      split at hp
      · skip
        cases hp
        exact ⟨fun _ hr => XS.iushr X.here hx hg hd (by assumption) hr, hg⟩
      · cases hp
    · exact absurd hp (by intro q; rw [show own_pstep ci cl (.iushr) n g = none from if_neg hn] at q; cases q)
  case lshl =>
    by_cases hn : n = 1
    · subst hn
      replace hp : (match g.stack with | .int y :: .long x :: rest => some { g with pc := g.pc + 1, stack := .long (x <<< (y &&& 0x3f).toInt64) :: rest } | _ => none) = some g' := hp
      split at hp
      · skip
        cases hp
        exact ⟨fun _ hr => XS.lshl X.here hx hg hd (by assumption) hr, hg⟩
      · cases hp
    · exact absurd hp (by intro q; rw [show own_pstep ci cl (.lshl) n g = none from if_neg hn] at q; cases q)
  case lshr =>
    by_cases hn : n = 1
    · subst hn
      replace hp : (match g.stack with | .int y :: .long x :: rest => some { g with pc := g.pc + 1, stack := .long (x >>> (y &&& 0x3f).toInt64) :: rest } | _ => none) = some g' := hp
      split at hp
      · skip
        cases hp
        exact ⟨fun _ hr => XS.lshr X.here hx hg hd (by assumption) hr, hg⟩
      · cases hp
    · exact absurd hp (by intro q; rw [show own_pstep ci cl (.lshr) n g = none from if_neg hn] at q; cases q)
  case lushr =>
    by_cases hn : n = 1
    · subst hn
      replace hp : (match g.stack with | .int y :: .long x :: rest => some { g with pc := g.pc + 1, stack := .long ((x.toUInt64 >>> (y &&& 0x3f).toInt64.toUInt64).toInt64) :: rest } | _ => none) = some g' := hp
      split at hp
      · skip
        cases hp
        exact ⟨fun _ hr => XS.lushr X.here hx hg hd (by assumption) hr, hg⟩
      · cases hp
    · exact absurd hp (by intro q; rw [show own_pstep ci cl (.lushr) n g = none from if_neg hn] at q; cases q)
  case lcmp =>
    by_cases hn : n = 1
    · subst hn
      replace hp : (match g.stack with | .long y :: .long x :: rest => some { g with pc := g.pc + 1, stack := .int (if x > y then 1 else if x = y then 0 else -1) :: rest } | _ => none) = some g' := hp
      split at hp
      · skip
        cases hp
        exact ⟨fun _ hr => XS.lcmp X.here hx hg hd (by assumption) hr, hg⟩
      · cases hp
    · exact absurd hp (by intro q; rw [show own_pstep ci cl (.lcmp) n g = none from if_neg hn] at q; cases q)
  case ineg =>
    by_cases hn : n = 1
    · subst hn
      replace hp : (match g.stack with | .int v :: rest => some { g with pc := g.pc + 1, stack := .int (-v) :: rest } | _ => none) = some g' := hp
      split at hp
      · skip
        cases hp
        exact ⟨fun _ hr => XS.ineg X.here hx hg hd (by assumption) hr, hg⟩
      · cases hp
    · exact absurd hp (by intro q; rw [show own_pstep ci cl (.ineg) n g = none from if_neg hn] at q; cases q)
  case lneg =>
    by_cases hn : n = 1
    · subst hn
      replace hp : (match g.stack with | .long v :: rest => some { g with pc := g.pc + 1, stack := .long (-v) :: rest } | _ => none) = some g' := hp
      split at hp
      · skip
        cases hp
        exact ⟨fun _ hr => XS.lneg X.here hx hg hd (by assumption) hr, hg⟩
      · cases hp
    · exact absurd hp (by intro q; rw [show own_pstep ci cl (.lneg) n g = none from if_neg hn] at q; cases q)
  case i2l =>
    by_cases hn : n = 1
    · subst hn
      replace hp : (match g.stack with | .int v :: rest => some { g with pc := g.pc + 1, stack := .long (v.toInt64) :: rest } | _ => none) = some g' := hp
      split at hp
      · skip
        cases hp
        exact ⟨fun _ hr => XS.i2l X.here hx hg hd (by assumption) hr, hg⟩
      · cases hp
    · exact absurd hp (by intro q; rw [show own_pstep ci cl (.i2l) n g = none from if_neg hn] at q; cases q)
  case l2i =>
    by_cases hn : n = 1
    · subst hn
      replace hp : (match g.stack with | .long v :: rest => some { g with pc := g.pc + 1, stack := .int (v.toInt32) :: rest } | _ => none) = some g' := hp
      split at hp
      · skip
        cases hp
        exact ⟨fun _ hr => XS.l2i X.here hx hg hd (by assumption) hr, hg⟩
      · cases hp
    · exact absurd hp (by intro q; rw [show own_pstep ci cl (.l2i) n g = none from if_neg hn] at q; cases q)
  case i2b =>
    by_cases hn : n = 1
    · subst hn
      replace hp : (match g.stack with | .int v :: rest => some { g with pc := g.pc + 1, stack := .int (v.toInt8.toInt32) :: rest } | _ => none) = some g' := hp
      split at hp
      · skip
        cases hp
        exact ⟨fun _ hr => XS.i2b X.here hx hg hd (by assumption) hr, hg⟩
      · cases hp
    · exact absurd hp (by intro q; rw [show own_pstep ci cl (.i2b) n g = none from if_neg hn] at q; cases q)
  case i2c =>
    by_cases hn : n = 1
    · subst hn
      replace hp : (match g.stack with | .int v :: rest => some { g with pc := g.pc + 1, stack := .int (v.toUInt32.toUInt16.toUInt32.toInt32) :: rest } | _ => none) = some g' := hp
      split at hp
      · skip
        cases hp
        exact ⟨fun _ hr => XS.i2c X.here hx hg hd (by assumption) hr, hg⟩
      · cases hp
    · exact absurd hp (by intro q; rw [show own_pstep ci cl (.i2c) n g = none from if_neg hn] at q; cases q)
  case i2s =>
    by_cases hn : n = 1
    · subst hn
      replace hp : (match g.stack with | .int v :: rest => some { g with pc := g.pc + 1, stack := .int (v.toInt16.toInt32) :: rest } | _ => none) = some g' := hp
      split at hp
      · skip
        cases hp
        exact ⟨fun _ hr => XS.i2s X.here hx hg hd (by assumption) hr, hg⟩
      · cases hp
    · exact absurd hp (by intro q; rw [show own_pstep ci cl (.i2s) n g = none from if_neg hn] at q; cases q)
  case iinc k cst =>
    by_cases hn : n = 3
    · subst hn
      replace hp : (match g.locals[k]? with | some (.val (.int x)) => (match storeLocals g.locals k (.int (x + Int32.ofInt cst)) with | some l' => some { g with pc := g.pc + 3, locals := l' } | none => none) | _ => none) = some g' := hp
      split at hp
      · skip
        split at hp
        · skip
          cases hp
          exact ⟨fun _ hr => XS.iinc X.here hx hg hd (by assumption) (by assumption) hr, hg⟩
        · cases hp
      · cases hp
    · exact absurd hp (by intro q; rw [show own_pstep ci cl (.iinc k cst) n g = none from if_neg hn] at q; cases q)
  case dup =>
    by_cases hn : n = 1
    · subst hn
      replace hp : (match g.stack with | x :: rest => (if x.category = 1 then some { g with pc := g.pc + 1, stack := x :: x :: rest } else none) | _ => none) = some g' := hp
      split at hp
      · skip
        split at hp
        · skip
          cases hp
          exact ⟨fun _ hr => XS.dup X.here hx hg hd (by assumption) (by assumption) hr, hg⟩
        · cases hp
      · cases hp
    · exact absurd hp (by intro q; rw [show own_pstep ci cl (.dup) n g = none from if_neg hn] at q; cases q)
  case pop =>
    by_cases hn : n = 1
    · subst hn
      replace hp : (match g.stack with | x :: rest => (if x.category = 1 then some { g with pc := g.pc + 1, stack := rest } else none) | _ => none) = some g' := hp
      split at hp
      · skip
        split at hp
        · skip
          cases hp
          exact ⟨fun _ hr => XS.pop X.here hx hg hd (by assumption) (by assumption) hr, hg⟩
        · cases hp
      · cases hp
    · exact absurd hp (by intro q; rw [show own_pstep ci cl (.pop) n g = none from if_neg hn] at q; cases q)
  case goto o =>
    by_cases hn : n = 3
    · subst hn
      replace hp : (if 0 ≤ (g.pc : Int) + o then some { g with pc := ((g.pc : Int) + o).toNat } else none) = some g' := hp
      split at hp
      · skip
        cases hp
        exact ⟨fun _ hr => XS.goto X.here hx hg rfl hd (by assumption) rfl hr, hg⟩
      · cases hp
    · exact absurd hp (by intro q; rw [show own_pstep ci cl (.goto o) n g = none from if_neg hn] at q; cases q)
  case ldc i =>
    by_cases hn : n = 2
    · subst hn
      replace hp : (match own_look i ci with | some v => some { g with pc := g.pc + 2, stack := .int v :: g.stack } | none => none) = some g' := hp
      split at hp
      · skip
        cases hp
        exact ⟨fun _ hr => X.ldcInt hx hown (hci _ _ (own_look_mem (by assumption))) hg hd _ hr, hg⟩
      · cases hp
    · exact absurd hp (by intro q; rw [show own_pstep ci cl (.ldc i) n g = none from if_neg hn] at q; cases q)
  case ldc_w i =>
    by_cases hn : n = 3
    · subst hn
      replace hp : (match own_look i ci with | some v => some { g with pc := g.pc + 3, stack := .int v :: g.stack } | none => none) = some g' := hp
      split at hp
      · skip
        cases hp
        exact ⟨fun _ hr => X.ldcwInt hx hown (hci _ _ (own_look_mem (by assumption))) hg hd _ hr, hg⟩
      · cases hp
    · exact absurd hp (by intro q; rw [show own_pstep ci cl (.ldc_w i) n g = none from if_neg hn] at q; cases q)
  case ldc2_w i =>
    by_cases hn : n = 3
    · subst hn
      replace hp : (match own_look i cl with | some v => some { g with pc := g.pc + 3, stack := .long v :: g.stack } | none => none) = some g' := hp
      split at hp
      · skip
        cases hp
        exact ⟨fun _ hr => X.ldc2Long hx hown (hcl _ _ (own_look_mem (by assumption))) hg hd _ hr, hg⟩
      · cases hp
    · exact absurd hp (by intro q; rw [show own_pstep ci cl (.ldc2_w i) n g = none from if_neg hn] at q; cases q)
  case idiv =>
    by_cases hn : n = 1
    · subst hn
      replace hp : (match g.stack with | .int y :: .int x :: rest => (if y = 0 then none else some { g with pc := g.pc + 1, stack := .int (x / y) :: rest }) | _ => none) = some g' := hp
      split at hp
      · skip
        split at hp
        · cases hp
        · cases hp; exact ⟨fun _ hr => XS.idiv X.here hx hg hd (by assumption) (by assumption) hr, hg⟩
      · cases hp
    · exact absurd hp (by intro q; rw [show own_pstep ci cl (.idiv) n g = none from if_neg hn] at q; cases q)
  case irem =>
    by_cases hn : n = 1
    · subst hn
      replace hp : (match g.stack with | .int y :: .int x :: rest => (if y = 0 then none else some { g with pc := g.pc + 1, stack := .int (x - (x / y) * y) :: rest }) | _ => none) = some g' := hp
      split at hp
      · skip
        split at hp
        · cases hp
        · cases hp; exact ⟨fun _ hr => XS.irem X.here hx hg hd (by assumption) (by assumption) hr, hg⟩
      · cases hp
    · exact absurd hp (by intro q; rw [show own_pstep ci cl (.irem) n g = none from if_neg hn] at q; cases q)
  case ldiv =>
    by_cases hn : n = 1
    · subst hn
      replace hp : (match g.stack with | .long y :: .long x :: rest => (if y = 0 then none else some { g with pc := g.pc + 1, stack := .long (x / y) :: rest }) | _ => none) = some g' := hp
      split at hp
      · skip
        split at hp
        · cases hp
        · cases hp; exact ⟨fun _ hr => XS.ldiv X.here hx hg hd (by assumption) (by assumption) hr, hg⟩
      · cases hp
    · exact absurd hp (by intro q; rw [show own_pstep ci cl (.ldiv) n g = none from if_neg hn] at q; cases q)
  case lrem =>
    by_cases hn : n = 1
    · subst hn
      replace hp : (match g.stack with | .long y :: .long x :: rest => (if y = 0 then none else some { g with pc := g.pc + 1, stack := .long (x - (x / y) * y) :: rest }) | _ => none) = some g' := hp
      split at hp
      · skip
        split at hp
        · cases hp
        · cases hp; exact ⟨fun _ hr => XS.lrem X.here hx hg hd (by assumption) (by assumption) hr, hg⟩
      · cases hp
    · exact absurd hp (by intro q; rw [show own_pstep ci cl (.lrem) n g = none from if_neg hn] at q; cases q)
def own_decs (code : ByteArray) (L : List (Nat × Instr × Nat)) : Bool := L.all fun q => decide (decode code q.1 = .ok (q.2.1, q.2.2))
def own_prun (ci : List (Nat × Int32)) (cl : List (Nat × Int64)) : List (Nat × Instr × Nat) → JFrame → Option JFrame
  | [], g => some g
  | (pc, i, n) :: r, g => if g.pc = pc then (match own_pstep ci cl i n g with | some g' => own_prun ci cl r g' | none => none) else none
theorem own_prun_ok (X : Stand p l e R s m args below meth c T locs cells slots) (hx : p.tables.exec = Jvm.exec) (hown : s.vm.findClass own = some m.cls) (hci : ∀ i v, (i, v) ∈ ci → (Cond.constant own i v).before args s = true) (hcl : ∀ i v, (i, v) ∈ cl → (Cond.constantLong own i v).before args s = true) {code : ByteArray} (hby : c.code = code) :
    ∀ (L : List (Nat × Instr × Nat)) (g g' : JFrame), g.method = m → own_decs code L = true → own_prun ci cl L g = some g' → Steps p.tables e below (T.setTop g') target → Steps p.tables e below (T.setTop g) target := by
  intro L
  induction L with
  | nil => intro g g' _ _ hp hr; cases hp; exact hr
  | cons q r ih =>
    intro g g' hg hd hp hr
    obtain ⟨pc, i, n⟩ := q
    have hd' : decide (decode code pc = .ok (i, n)) = true ∧ own_decs code r = true := by
      have : (decide (decode code pc = .ok (i, n)) && own_decs code r) = true := hd
      simpa using this
    replace hp : (if g.pc = pc then (match own_pstep ci cl i n g with | some g' => own_prun ci cl r g' | none => none) else none) = some g' := hp
    by_cases hpc : g.pc = pc
    · rw [if_pos hpc] at hp
      cases hs : own_pstep ci cl i n g with
      | none => rw [hs] at hp; cases hp
      | some g1 =>
        rw [hs] at hp
        have q := own_pstep_ok X hx hown hci hcl hg (i := i) (n := n) (by rw [hby, hpc]; exact of_decide_eq_true hd'.1) hs
        exact q.1 _ (ih g1 g' q.2 hd'.2 hp hr)
    · rw [if_neg hpc] at hp; cases hp
theorem Goes.run (X : Stand p l e R s m args below meth c T locs cells slots) (hx : p.tables.exec = Jvm.exec) (hown : s.vm.findClass own = some m.cls) (hci : ∀ i v, (i, v) ∈ ci → (Cond.constant own i v).before args s = true) (hcl : ∀ i v, (i, v) ∈ cl → (Cond.constantLong own i v).before args s = true) {code : ByteArray} (hby : c.code = code)
    {L : List (Nat × Instr × Nat)} (hd : own_decs code L = true) {g g' : JFrame} (hg : g.method = m) (hp : own_prun ci cl L g = some g') (h : Goes p e below s Q kc ks (T.setTop g')) : Goes p e below s Q kc ks (T.setTop g) :=
  Goes.st (fun _ k => own_prun_ok X hx hown hci hcl hby L g g' hg hd hp k) h
theorem own_ci0 {α : Type} {P : Nat → α → Prop} : ∀ i v, (i, v) ∈ ([] : List (Nat × α)) → P i v := fun _ _ q => nomatch q
theorem own_ciS {α : Type} {P : Nat → α → Prop} {j : Nat} {w : α} {L : List (Nat × α)} (h : P j w) (r : ∀ i v, (i, v) ∈ L → P i v) : ∀ i v, (i, v) ∈ (j, w) :: L → P i v := fun i v q => (List.mem_cons.mp q).elim (fun z => by cases z; exact h) (r i v)
end OwnRun
theorem own_rem32 (x y : Int32) : (x - (x / y) * y).toInt = x.toInt.tmod y.toInt := by
  have a := (x % y).toInt_lt; have b := (x % y).le_toInt
  rw [Int32.toInt_mod] at a b
  rw [Int32.toInt_sub, Int32.toInt_mul, Int32.toInt_div, Int.bmod_mul_bmod, Int.sub_bmod_bmod, Int.mul_comm, ← Int.tmod_def]
  exact Jvm.Kit.bmod32 b a
section OwnNums
variable {x y : Int64} {u v : Int32} {a b : Int}
theorem own_r32 (hx : u.toInt = a) (hy : v.toInt = b) (h0 : 0 ≤ a) : (u - (u / v) * v).toInt = a % b := by subst hx hy; rw [own_rem32, Int.tmod_eq_emod_of_nonneg h0]
theorem own_r64 (hx : x.toInt = a) (hy : y.toInt = b) (h0 : 0 ≤ a) : (x - (x / y) * y).toInt = a % b := by subst hx hy; rw [Jvm.Kit.i64_rem, Int.tmod_eq_emod_of_nonneg h0]
theorem own_mul64 (hx : x.toInt = a) (hy : y.toInt = b) (h1 : -2 ^ 63 ≤ a * b) (h2 : a * b < 2 ^ 63) : (x * y).toInt = a * b := by subst hx hy; exact Jvm.Kit.i64_mul h1 h2
theorem own_mul32 (hx : u.toInt = a) (hy : v.toInt = b) (h1 : -2 ^ 31 ≤ a * b) (h2 : a * b < 2 ^ 31) : (u * v).toInt = a * b := by subst hx hy; exact Jvm.Kit.i32_mul h1 h2
theorem own_add64 (hx : x.toInt = a) (hy : y.toInt = b) (h1 : -2 ^ 63 ≤ a + b) (h2 : a + b < 2 ^ 63) : (x + y).toInt = a + b := by subst hx hy; exact Jvm.Kit.i64_add h1 h2
theorem own_add32 (hx : u.toInt = a) (hy : v.toInt = b) (h1 : -2 ^ 31 ≤ a + b) (h2 : a + b < 2 ^ 31) : (u + v).toInt = a + b := by subst hx hy; exact Jvm.Kit.i32_add h1 h2
theorem own_sub64 (hx : x.toInt = a) (hy : y.toInt = b) (h1 : -2 ^ 63 ≤ a - b) (h2 : a - b < 2 ^ 63) : (x - y).toInt = a - b := by subst hx hy; exact Jvm.Kit.i64_sub h1 h2
theorem own_sub32 (hx : u.toInt = a) (hy : v.toInt = b) (h1 : -2 ^ 31 ≤ a - b) (h2 : a - b < 2 ^ 31) : (u - v).toInt = a - b := by subst hx hy; exact Jvm.Kit.i32_sub h1 h2
theorem own_i2l (hx : u.toInt = a) : u.toInt64.toInt = a := by subst hx; exact Jvm.Kit.i64_of_i32 u
theorem own_lt64 (hx : x.toInt = a) (hy : y.toInt = b) : x < y ↔ a < b := by rw [Int64.lt_iff_toInt_lt, hx, hy]
theorem own_lt32 (hx : u.toInt = a) (hy : v.toInt = b) : u < v ↔ a < b := by rw [Int32.lt_iff_toInt_lt, hx, hy]
theorem own_eq64 (hx : x.toInt = a) (hy : y.toInt = b) : x = y ↔ a = b := by rw [← Int64.toInt_inj, hx, hy]
theorem own_eq32 (hx : u.toInt = a) (hy : v.toInt = b) : u = v ↔ a = b := by rw [← Int32.toInt_inj, hx, hy]
theorem own_m32 (u : Int32) (m : Int32) {k : Nat} (hk : k < 32) (hm : m.toBitVec.toNat = 2 ^ k - 1) : ∃ a : Int, (u &&& m).toInt = a ∧ 0 ≤ a ∧ a < 2 ^ k ∧ a = u.toInt % 2 ^ k := by
  refine ⟨_, Jvm.Kit.i32_mask u m hk hm, Int.emod_nonneg _ (Int.ne_of_gt (Int.pow_pos (by decide))), Int.emod_lt_of_pos _ (Int.pow_pos (by decide)), rfl⟩
theorem own_m64 (x : Int64) (m : Int64) {k : Nat} (hk : k < 64) (hm : m.toBitVec.toNat = 2 ^ k - 1) : ∃ a : Int, (x &&& m).toInt = a ∧ 0 ≤ a ∧ a < 2 ^ k ∧ a = x.toInt % 2 ^ k := by
  refine ⟨_, Jvm.Kit.i64_mask x m hk hm, Int.emod_nonneg _ (Int.ne_of_gt (Int.pow_pos (by decide))), Int.emod_lt_of_pos _ (Int.pow_pos (by decide)), rfl⟩
theorem own_nm {P : Int → Prop} {z : Int} (h : P z) : ∃ a, a = z ∧ P a := ⟨z, rfl, h⟩
end OwnNums
theorem own_nat32 {u : Int32} {a : Int} (hu : u.toInt = a) (h0 : 0 ≤ a) {N : Nat} (h1 : a < N) : ∃ n : Nat, n < N ∧ u = Int32.ofNat n ∧ a = (n : Int) := by
  have q := u.toInt_lt
  refine ⟨a.toNat, by omega, ?_, by omega⟩
  apply Int32.toInt_inj.mp
  rw [Int32.toInt_ofNat_of_lt (by omega), hu]; omega
theorem own_bv64 {x : Int64} {a : Int} (hx : x.toInt = a) (h0 : 0 ≤ a) : (x.toBitVec.toNat : Int) = a := by
  have e : x.toInt = x.toBitVec.toInt := rfl
  have hb := x.toBitVec.isLt
  rw [e, BitVec.toInt_eq_toNat_cond] at hx
  split at hx <;> omega
theorem own_bv32 {x : Int32} {a : Int} (hx : x.toInt = a) (h0 : 0 ≤ a) : (x.toBitVec.toNat : Int) = a := by
  have e : x.toInt = x.toBitVec.toInt := rfl
  have hb := x.toBitVec.isLt
  rw [e, BitVec.toInt_eq_toNat_cond] at hx
  split at hx <;> omega
theorem own_shn (y : Int32) : ((y &&& 0x3f).toInt64.toUInt64).toNat < 64 := by
  obtain ⟨a, h1, h2, h3, -⟩ := own_m32 y (0x3f : Int32) (k := 6) (by decide) (by decide)
  have h4 := own_bv64 (own_i2l h1) h2
  have e : ((y &&& 0x3f).toInt64.toUInt64).toNat = (y &&& 0x3f).toInt64.toBitVec.toNat := rfl
  rw [e]
  omega
theorem own_ushr0 {x : Int64} {a : Int} (hx : x.toInt = a) (h0 : 0 ≤ a) (y : Int32) : ∃ b : Int, ((x.toUInt64 >>> (y &&& 0x3f).toInt64.toUInt64).toInt64).toInt = b ∧ 0 ≤ b ∧ b ≤ a := by
  refine ⟨_, Jvm.Kit.i64_lushr (by rw [Jvm.Kit.i64_nonneg, hx]; exact h0) rfl (own_shn y), ?_, ?_⟩
  · rw [hx]; exact Int.ediv_nonneg h0 (Int.le_of_lt (Int.pow_pos (by decide)))
  · rw [hx]; exact Int.ediv_le_self _ h0
theorem own_ushrk {x : Int64} {a : Int} (hx : x.toInt = a) (h0 : 0 ≤ a) {n : UInt64} {k : Nat} (hn : n.toNat = k) (hk : k < 64) {d : Int} (hd : (2 : Int) ^ k = d) : ((x.toUInt64 >>> n).toInt64).toInt = a / d := by
  rw [Jvm.Kit.i64_lushr (by rw [Jvm.Kit.i64_nonneg, hx]; exact h0) hn hk, hx, hd]
theorem own_ofbv32 {x : Int32} (h : x.toBitVec.toNat < 2 ^ 31) : x.toInt = (x.toBitVec.toNat : Int) := by
  have e : x.toInt = x.toBitVec.toInt := rfl
  rw [e, BitVec.toInt_eq_toNat_cond, if_pos (by omega)]
theorem own_xor32 {x y : Int32} {a b : Int} (hx : x.toInt = a) (hy : y.toInt = b) (h0 : 0 ≤ a) (h1 : 0 ≤ b) : ∃ c : Int, (x ^^^ y).toInt = c ∧ 0 ≤ c := by
  have p := own_bv32 hx h0; have q := own_bv32 hy h1
  have r := x.toInt_lt; have s := y.toInt_lt
  have e : (x ^^^ y).toBitVec.toNat = x.toBitVec.toNat ^^^ y.toBitVec.toNat := by simp [Int32.toBitVec_xor, BitVec.toNat_xor]
  have l : (x ^^^ y).toBitVec.toNat < 2 ^ 31 := by rw [e]; exact Nat.xor_lt_two_pow (by omega) (by omega)
  exact ⟨_, own_ofbv32 l, Int.natCast_nonneg _⟩
theorem d1_0 : decode method_2_code 0 = .ok (.iload_n 0, 1) := by decide +kernel
theorem d1_1 : decode method_2_code 1 = .ok (.istore 5, 2) := by decide +kernel
theorem d1_3 : decode method_2_code 3 = .ok (.iload 5, 2) := by decide +kernel
theorem d1_5 : decode method_2_code 5 = .ok (.iconst 2, 1) := by decide +kernel
theorem d1_6 : decode method_2_code 6 = .ok (.if_icmp .ne 12, 3) := by decide +kernel
theorem d1_9 : decode method_2_code 9 = .ok (.lload_n 3, 1) := by decide +kernel
theorem d1_10 : decode method_2_code 10 = .ok (.lconst 0, 1) := by decide +kernel
theorem d1_11 : decode method_2_code 11 = .ok (.lcmp, 1) := by decide +kernel
theorem d1_12 : decode method_2_code 12 = .ok (.ifCond .ne 6, 3) := by decide +kernel
theorem d1_15 : decode method_2_code 15 = .ok (.iconst 1, 1) := by decide +kernel
theorem d1_16 : decode method_2_code 16 = .ok (.istore 5, 2) := by decide +kernel
theorem d1_18 : decode method_2_code 18 = .ok (.iload 5, 2) := by decide +kernel
theorem d1_20 : decode method_2_code 20 = .ok (.iconst 1, 1) := by decide +kernel
theorem d1_21 : decode method_2_code 21 = .ok (.if_icmp .ne 12, 3) := by decide +kernel
theorem d1_24 : decode method_2_code 24 = .ok (.lload_n 1, 1) := by decide +kernel
theorem d1_25 : decode method_2_code 25 = .ok (.lconst 0, 1) := by decide +kernel
theorem d1_26 : decode method_2_code 26 = .ok (.lcmp, 1) := by decide +kernel
theorem d1_27 : decode method_2_code 27 = .ok (.ifCond .ne 6, 3) := by decide +kernel
theorem d1_30 : decode method_2_code 30 = .ok (.iconst 0, 1) := by decide +kernel
theorem d1_31 : decode method_2_code 31 = .ok (.istore 5, 2) := by decide +kernel
theorem d1_33 : decode method_2_code 33 = .ok (.iload 5, 2) := by decide +kernel
theorem d1_35 : decode method_2_code 35 = .ok (.ireturn, 1) := by decide +kernel
theorem pn1 : plainName "com/example/marks_across_domains/marksacrossdomains/BitsContainsPinLaw" = true := by first | (simp [plainName, overriddenIn]; done) | decide +kernel
theorem ef1 (m : MethodId) (x0 : Int32) (x1 : Int64) (x2 : Int64) : entryFrame m #[(.int x0), (.long x1), (.long x2)] 6 = (mkF m 0 #[.val (.int x0), .val (.long x1), .second, .val (.long x2), .second, .unset] []) := by first | (simp [entryFrame, mkF, argsToLocals, Value.category]; done) | rfl
def j1_18_5 (x0 : Int32) (x1 : Int64) (x2 : Int64) : Int32 := (if x0 = (2 : Int32) then (if x2 = (0 : Int64) then (1 : Int32) else x0) else x0)
def j1_33_5 (x0 : Int32) (x1 : Int64) (x2 : Int64) : Int32 := (if (j1_18_5 x0 x1 x2) = (1 : Int32) then (if x1 = (0 : Int64) then (0 : Int32) else (j1_18_5 x0 x1 x2)) else (j1_18_5 x0 x1 x2))
def r1 (x0 : Int32) (x1 : Int64) (x2 : Int64) : Int32 := (j1_33_5 x0 x1 x2)
set_option maxRecDepth 65536 in
set_option maxHeartbeats 40000000 in
theorem rm1 (l : Launch) (Z : State) (a0 : Array Value) (hw : ∀ d ∈ tables_1, d.before a0 Z = true) (ws : List Jvm.Cond) (x0 : Int32) (x1 : Int64) (x2 : Int64) (h0 : Heap) (n0 : Nat) (Z0 : n0 ≤ h0.size) :
    MetFree l (⟨"com/example/marks_across_domains/marksacrossdomains/BitsContainsPinLaw", "trim", "(IJJ)I"⟩ : MethodName) (head1 (Jvm.Cond.code (⟨"com/example/marks_across_domains/marksacrossdomains/BitsContainsPinLaw", "trim", "(IJJ)I"⟩ : MethodName) method_2_code 6 (some .int) :: ws) ({ frames := 0, cells := 0, slots := 0, locals := 0 } : Room)) (fun a U => a = #[(.int x0), (.long x1), (.long x2)] ∧ Z.Warmed39 U.vm ∧ U.heap = h0) (fun _ _ _ _ _ => True) (fun _ U o U' => ∃ v L, o = .returned v ∧ (QP (some (.int (r1 x0 x1 x2))) h0 n0) v U'.heap L ∧ FrameEnd U o U' L ({ frames := 0, cells := 0, slots := 0, locals := 0 } : Room).cells ({ frames := 0, cells := 0, slots := 0, locals := 0 } : Room).slots) := by
  refine MetFree.of_bodySF (plainFor_of_name pn1) hisR ?_
  intro p e s m args below meth c s₁ Bd hml0 hP hK
  obtain ⟨rfl, hZ, hh⟩ := hP
  have hx := Bd.exec
  have hby := Bd.bytes
  have hml : c.maxLocals = 6 := hml0
  have hlk : meth.locks = false := BodyLoose.notSynchronized Bd
  have hown : s.vm.findClass "com/example/marks_across_domains/marksacrossdomains/BitsContainsPinLaw" = some m.cls := findClass_of_methodNamed Bd.named
  have hnm := (name_of_methodNamed Bd.named Bd.method).1
  have hci : ∀ i v, (i, v) ∈ ([] : List (Nat × Int32)) → (Jvm.Cond.constant "com/example/marks_across_domains/marksacrossdomains/BitsContainsPinLaw" i v).before #[(.int x0), (.long x1), (.long x2)] s = true := own_ci0
  have hcl : ∀ i v, (i, v) ∈ ([(17, -1)] : List (Nat × Int64)) → (Jvm.Cond.constantLong "com/example/marks_across_domains/marksacrossdomains/BitsContainsPinLaw" i v).before #[(.int x0), (.long x1), (.long x2)] s = true := (own_ciS (mvT hZ (hw _ (List.mem_of_getElem? (i := 8) rfl))) own_ci0)
  have X0 : Stand p l e ({ frames := 0, cells := 0, slots := 0, locals := 0 } : Room) s m #[(.int x0), (.long x1), (.long x2)] below meth c s₁ [] 0 0 := Stand.of_body Bd
  have e0 : s₁.heap = h0 := by rw [← hh, Bd.state]; rfl
  have N0 := Fr.nil n0
  show Goes p e below s (QP (some (.int (r1 x0 x1 x2))) h0 n0) ({ frames := 0, cells := 0, slots := 0, locals := 0 } : Room).cells ({ frames := 0, cells := 0, slots := 0, locals := 0 } : Room).slots (s₁.setTop (entryFrame m #[(.int x0), (.long x1), (.long x2)] 6))
  refine Goes.cast (ef1 m x0 x1 x2) ?_
  refine Goes.run X0 hx hown hci hcl hby (L := [(0, .iload_n 0, 1), (1, .istore 5, 2), (3, .iload 5, 2), (5, .iconst 2, 1)]) (by decide +kernel) rfl (g' := (mkF m 6 #[.val (.int x0), .val (.long x1), .second, .val (.long x2), .second, .val (.int x0)] [(.int (2 : Int32)), (.int x0)])) rfl ?_
  have jn18_3 : Goes p e below s (QP (some (.int (r1 x0 x1 x2))) h0 n0) ({ frames := 0, cells := 0, slots := 0, locals := 0 } : Room).cells ({ frames := 0, cells := 0, slots := 0, locals := 0 } : Room).slots (s₁.setTop (mkF m 18 #[.val (.int x0), .val (.long x1), .second, .val (.long x2), .second, .val (.int (j1_18_5 x0 x1 x2))] [])) := by
    refine Goes.run X0 hx hown hci hcl hby (L := [(18, .iload 5, 2), (20, .iconst 1, 1)]) (by decide +kernel) rfl (g' := (mkF m 21 #[.val (.int x0), .val (.long x1), .second, .val (.long x2), .second, .val (.int (j1_18_5 x0 x1 x2))] [(.int (1 : Int32)), (.int (j1_18_5 x0 x1 x2))])) rfl ?_
    have jn33_6 : Goes p e below s (QP (some (.int (r1 x0 x1 x2))) h0 n0) ({ frames := 0, cells := 0, slots := 0, locals := 0 } : Room).cells ({ frames := 0, cells := 0, slots := 0, locals := 0 } : Room).slots (s₁.setTop (mkF m 33 #[.val (.int x0), .val (.long x1), .second, .val (.long x2), .second, .val (.int (j1_33_5 x0 x1 x2))] [])) := by
      refine Goes.run X0 hx hown hci hcl hby (L := [(33, .iload 5, 2)]) (by decide +kernel) rfl (g' := (mkF m 35 #[.val (.int x0), .val (.long x1), .second, .val (.long x2), .second, .val (.int (j1_33_5 x0 x1 x2))] [(.int (j1_33_5 x0 x1 x2))])) rfl ?_
      exact Goes.retI X0 hx hlk Bd.returns (hb hby d1_35) ⟨(congrArg (fun z => some (Value.int z)) (show (r1 x0 x1 x2) = (j1_33_5 x0 x1 x2) from rfl).symm), N0, e0⟩ (by decide) (by decide)
    by_cases hc21_4 : (j1_18_5 x0 x1 x2) = (1 : Int32)
    · skip
      refine Goes.st (B := s₁.setTop (mkF m 24 #[.val (.int x0), .val (.long x1), .second, .val (.long x2), .second, .val (.int (j1_18_5 x0 x1 x2))] [])) (fun t k => ?_) ?_
      · refine XS.icmpNo X0.here hx rfl (hb hby d1_21) rfl (teq hc21_4).2 ?_
        exact k
      refine Goes.run X0 hx hown hci hcl hby (L := [(24, .lload_n 1, 1), (25, .lconst 0, 1), (26, .lcmp, 1)]) (by decide +kernel) rfl (g' := (mkF m 27 #[.val (.int x0), .val (.long x1), .second, .val (.long x2), .second, .val (.int (j1_18_5 x0 x1 x2))] [(.int (lcmpW x1 (0 : Int64)))])) rfl ?_
      by_cases hc27_7 : x1 = (0 : Int64)
      · skip
        refine Goes.st (B := s₁.setTop (mkF m 30 #[.val (.int x0), .val (.long x1), .second, .val (.long x2), .second, .val (.int (j1_18_5 x0 x1 x2))] [])) (fun t k => ?_) ?_
        · refine XS.ifNo X0.here hx rfl (hb hby d1_27) rfl (teqL hc27_7).2 ?_
          exact k
        refine Goes.run X0 hx hown hci hcl hby (L := [(30, .iconst 0, 1), (31, .istore 5, 2)]) (by decide +kernel) rfl (g' := (mkF m 33 #[.val (.int x0), .val (.long x1), .second, .val (.long x2), .second, .val (.int (0 : Int32))] [])) rfl ?_
        have q := jn33_6
        rw [show (j1_33_5 x0 x1 x2) = (0 : Int32) from ((if_pos hc21_4).trans (if_pos hc27_7))] at q
        exact q
      · skip
        refine Goes.st (B := s₁.setTop (mkF m 33 #[.val (.int x0), .val (.long x1), .second, .val (.long x2), .second, .val (.int (j1_18_5 x0 x1 x2))] [])) (fun t k => ?_) ?_
        · refine XS.ifYes X0.here hx rfl (pc0 := 27) (pc' := 33) rfl (hb hby d1_27) rfl (feqL hc27_7).2 (by decide) (by decide) ?_
          exact k
        have q := jn33_6
        rw [show (j1_33_5 x0 x1 x2) = (j1_18_5 x0 x1 x2) from ((if_pos hc21_4).trans (if_neg hc27_7))] at q
        exact q
    · skip
      refine Goes.st (B := s₁.setTop (mkF m 33 #[.val (.int x0), .val (.long x1), .second, .val (.long x2), .second, .val (.int (j1_18_5 x0 x1 x2))] [])) (fun t k => ?_) ?_
      · refine XS.icmpYes X0.here hx rfl (pc0 := 21) (pc' := 33) rfl (hb hby d1_21) rfl (feq hc21_4).2 (by decide) (by decide) ?_
        exact k
      have q := jn33_6
      rw [show (j1_33_5 x0 x1 x2) = (j1_18_5 x0 x1 x2) from (if_neg hc21_4)] at q
      exact q
  by_cases hc6_1 : x0 = (2 : Int32)
  · skip
    refine Goes.st (B := s₁.setTop (mkF m 9 #[.val (.int x0), .val (.long x1), .second, .val (.long x2), .second, .val (.int x0)] [])) (fun t k => ?_) ?_
    · refine XS.icmpNo X0.here hx rfl (hb hby d1_6) rfl (teq hc6_1).2 ?_
      exact k
    refine Goes.run X0 hx hown hci hcl hby (L := [(9, .lload_n 3, 1), (10, .lconst 0, 1), (11, .lcmp, 1)]) (by decide +kernel) rfl (g' := (mkF m 12 #[.val (.int x0), .val (.long x1), .second, .val (.long x2), .second, .val (.int x0)] [(.int (lcmpW x2 (0 : Int64)))])) rfl ?_
    by_cases hc12_8 : x2 = (0 : Int64)
    · skip
      refine Goes.st (B := s₁.setTop (mkF m 15 #[.val (.int x0), .val (.long x1), .second, .val (.long x2), .second, .val (.int x0)] [])) (fun t k => ?_) ?_
      · refine XS.ifNo X0.here hx rfl (hb hby d1_12) rfl (teqL hc12_8).2 ?_
        exact k
      refine Goes.run X0 hx hown hci hcl hby (L := [(15, .iconst 1, 1), (16, .istore 5, 2)]) (by decide +kernel) rfl (g' := (mkF m 18 #[.val (.int x0), .val (.long x1), .second, .val (.long x2), .second, .val (.int (1 : Int32))] [])) rfl ?_
      have q := jn18_3
      rw [show (j1_18_5 x0 x1 x2) = (1 : Int32) from ((if_pos hc6_1).trans (if_pos hc12_8))] at q
      exact q
    · skip
      refine Goes.st (B := s₁.setTop (mkF m 18 #[.val (.int x0), .val (.long x1), .second, .val (.long x2), .second, .val (.int x0)] [])) (fun t k => ?_) ?_
      · refine XS.ifYes X0.here hx rfl (pc0 := 12) (pc' := 18) rfl (hb hby d1_12) rfl (feqL hc12_8).2 (by decide) (by decide) ?_
        exact k
      have q := jn18_3
      rw [show (j1_18_5 x0 x1 x2) = x0 from ((if_pos hc6_1).trans (if_neg hc12_8))] at q
      exact q
  · skip
    refine Goes.st (B := s₁.setTop (mkF m 18 #[.val (.int x0), .val (.long x1), .second, .val (.long x2), .second, .val (.int x0)] [])) (fun t k => ?_) ?_
    · refine XS.icmpYes X0.here hx rfl (pc0 := 6) (pc' := 18) rfl (hb hby d1_6) rfl (feq hc6_1).2 (by decide) (by decide) ?_
      exact k
    have q := jn18_3
    rw [show (j1_18_5 x0 x1 x2) = x0 from (if_neg hc6_1)] at q
    exact q
theorem d20_0 : decode method_3_code 0 = .ok (.iload_n 0, 1) := by decide +kernel
theorem d20_1 : decode method_3_code 1 = .ok (.newarray .long, 2) := by decide +kernel
theorem d20_3 : decode method_3_code 3 = .ok (.astore 5, 2) := by decide +kernel
theorem d20_5 : decode method_3_code 5 = .ok (.iload_n 0, 1) := by decide +kernel
theorem d20_6 : decode method_3_code 6 = .ok (.iconst 1, 1) := by decide +kernel
theorem d20_7 : decode method_3_code 7 = .ok (.if_icmp .lt 8, 3) := by decide +kernel
theorem d20_15 : decode method_3_code 15 = .ok (.iload_n 0, 1) := by decide +kernel
theorem d20_16 : decode method_3_code 16 = .ok (.iconst 2, 1) := by decide +kernel
theorem d20_17 : decode method_3_code 17 = .ok (.if_icmp .lt 8, 3) := by decide +kernel
theorem d20_25 : decode method_3_code 25 = .ok (.aload 5, 2) := by decide +kernel
theorem d20_27 : decode method_3_code 27 = .ok (.areturn, 1) := by decide +kernel
theorem pn20 : plainName "com/example/marks_across_domains/marksacrossdomains/BitsContainsPinLaw" = true := by first | (simp [plainName, overriddenIn]; done) | decide +kernel
theorem ef20 (m : MethodId) (x1 : Int64) (x2 : Int64) : entryFrame m #[(.int (0 : Int32)), (.long x1), (.long x2)] 6 = (mkF m 0 #[.val (.int (0 : Int32)), .val (.long x1), .second, .val (.long x2), .second, .unset] []) := by first | (simp [entryFrame, mkF, argsToLocals, Value.category]; done) | rfl
def Q20 (Z : State) (x1 : Int64) (x2 : Int64) (h0 : Heap) (n0 : Nat) (v : Option Value) (h : Heap) (L : List Loc) : Prop := ∃ (b : Addr) (k : ClassId), v = some (.ref b) ∧ Fr n0 L ∧ Keep h0 h [] ∧ h0.size ≤ b ∧ Exa Z h b "[J" ∧ Arv Z h b k .long (0 : Int32) [] (.long (0 : Int64))
set_option maxRecDepth 65536 in
set_option maxHeartbeats 40000000 in
theorem rm20 (l : Launch) (Z : State) (a0 : Array Value) (hw : ∀ d ∈ tables_1, d.before a0 Z = true) (ws : List Jvm.Cond) (x1 : Int64) (x2 : Int64) (h0 : Heap) (n0 : Nat) (Z0 : n0 ≤ h0.size) :
    MetFree l (⟨"com/example/marks_across_domains/marksacrossdomains/BitsContainsPinLaw", "make", "(IJJ)[J"⟩ : MethodName) (head1 (Jvm.Cond.code (⟨"com/example/marks_across_domains/marksacrossdomains/BitsContainsPinLaw", "make", "(IJJ)[J"⟩ : MethodName) method_3_code 6 (some (.array .long)) :: ws) ({ frames := 0, cells := 1, slots := 0, locals := 0 } : Room)) (fun a U => a = #[(.int (0 : Int32)), (.long x1), (.long x2)] ∧ Z.Warmed39 U.vm ∧ U.heap = h0) (fun _ _ _ _ _ => True) (fun _ U o U' => ∃ v L, o = .returned v ∧ (Q20 Z x1 x2 h0 n0) v U'.heap L ∧ FrameEnd U o U' L ({ frames := 0, cells := 1, slots := 0, locals := 0 } : Room).cells ({ frames := 0, cells := 1, slots := 0, locals := 0 } : Room).slots) := by
  refine MetFree.of_bodySF (plainFor_of_name pn20) hisR ?_
  intro p e s m args below meth c s₁ Bd hml0 hP hK
  obtain ⟨rfl, hZ, hh⟩ := hP
  have hx := Bd.exec
  have hby := Bd.bytes
  have hml : c.maxLocals = 6 := hml0
  have hlk : meth.locks = false := BodyLoose.notSynchronized Bd
  have hown : s.vm.findClass "com/example/marks_across_domains/marksacrossdomains/BitsContainsPinLaw" = some m.cls := findClass_of_methodNamed Bd.named
  have hnm := (name_of_methodNamed Bd.named Bd.method).1
  have hci : ∀ i v, (i, v) ∈ ([] : List (Nat × Int32)) → (Jvm.Cond.constant "com/example/marks_across_domains/marksacrossdomains/BitsContainsPinLaw" i v).before #[(.int (0 : Int32)), (.long x1), (.long x2)] s = true := own_ci0
  have hcl : ∀ i v, (i, v) ∈ ([(17, -1)] : List (Nat × Int64)) → (Jvm.Cond.constantLong "com/example/marks_across_domains/marksacrossdomains/BitsContainsPinLaw" i v).before #[(.int (0 : Int32)), (.long x1), (.long x2)] s = true := (own_ciS (mvT hZ (hw _ (List.mem_of_getElem? (i := 8) rfl))) own_ci0)
  have X0 : Stand p l e ({ frames := 0, cells := 1, slots := 0, locals := 0 } : Room) s m #[(.int (0 : Int32)), (.long x1), (.long x2)] below meth c s₁ [] 0 0 := Stand.of_body Bd
  have e0 : s₁.heap = h0 := by rw [← hh, Bd.state]; rfl
  have N0 := Fr.nil n0
  show Goes p e below s (Q20 Z x1 x2 h0 n0) ({ frames := 0, cells := 1, slots := 0, locals := 0 } : Room).cells ({ frames := 0, cells := 1, slots := 0, locals := 0 } : Room).slots (s₁.setTop (entryFrame m #[(.int (0 : Int32)), (.long x1), (.long x2)] 6))
  refine Goes.cast (ef20 m x1 x2) ?_
  have K0 : Keep h0 h0 [] := Keep.refl h0 _
  refine Goes.run X0 hx hown hci hcl hby (L := [(0, .iload_n 0, 1)]) (by decide +kernel) rfl (g' := (mkF m 1 #[.val (.int (0 : Int32)), .val (.long x1), .second, .val (.long x2), .second, .unset] [(.int (0 : Int32))])) rfl ?_
  obtain ⟨T1, h1, k1, X1, e1, E1, A1, B1, st1⟩ := newPE X0 hx hZ (hw _ (List.mem_of_getElem? (i := 7) rfl)) e0 (g := (mkF m 1 #[.val (.int (0 : Int32)), .val (.long x1), .second, .val (.long x2), .second, .unset] [(.int (0 : Int32))])) rfl (hb hby d20_1) rfl (by decide) (cap := 0) (by decide) (by decide) (by decide) (by decide) (ad := "[J") (by decide)
  obtain ⟨b1, g1⟩ : ∃ z, z = h0.size := ⟨_, rfl⟩
  rw [← g1] at A1 B1 st1
  have g_b1 : n0 ≤ b1 := Nat.le_trans Z0 (Nat.le_of_eq g1.symm)
  have sz_b1 : h0.size ≤ b1 := Nat.le_trans K0.1 (Nat.le_of_eq g1.symm)
  have Zn1 : n0 ≤ h1.size := Nat.le_trans Z0 E1.1
  have K1 := K0.ext E1
  have E_b1 : Exa Z h1 b1 "[J" := B1
  have V_b1 : Arv Z h1 b1 k1 .long (0 : Int32) [] (.long (0 : Int64)) := (Arv.new A1 (by decide)).pad (pad_rep [] (.long (0 : Int64)) 0)
  refine Goes.st (B := T1.setTop (mkF m 3 #[.val (.int (0 : Int32)), .val (.long x1), .second, .val (.long x2), .second, .unset] [(.ref b1)])) st1 ?_
  refine Goes.run X1 hx hown hci hcl hby (L := [(3, .astore 5, 2), (5, .iload_n 0, 1), (6, .iconst 1, 1)]) (by decide +kernel) rfl (g' := (mkF m 7 #[.val (.int (0 : Int32)), .val (.long x1), .second, .val (.long x2), .second, .val (.ref b1)] [(.int (1 : Int32)), (.int (0 : Int32))])) rfl ?_
  have hc7_2 : (0 : Int32) < (1 : Int32) := by decide
  refine Goes.st (B := T1.setTop (mkF m 15 #[.val (.int (0 : Int32)), .val (.long x1), .second, .val (.long x2), .second, .val (.ref b1)] [])) (fun t k => ?_) ?_
  · refine XS.icmpYes X1.here hx rfl (pc0 := 7) (pc' := 15) rfl (hb hby d20_7) rfl (tlt hc7_2).1 (by decide) (by decide) ?_
    exact k
  refine Goes.run X1 hx hown hci hcl hby (L := [(15, .iload_n 0, 1), (16, .iconst 2, 1)]) (by decide +kernel) rfl (g' := (mkF m 17 #[.val (.int (0 : Int32)), .val (.long x1), .second, .val (.long x2), .second, .val (.ref b1)] [(.int (2 : Int32)), (.int (0 : Int32))])) rfl ?_
  have hc17_3 : (0 : Int32) < (2 : Int32) := by decide
  refine Goes.st (B := T1.setTop (mkF m 25 #[.val (.int (0 : Int32)), .val (.long x1), .second, .val (.long x2), .second, .val (.ref b1)] [])) (fun t k => ?_) ?_
  · refine XS.icmpYes X1.here hx rfl (pc0 := 17) (pc' := 25) rfl (hb hby d20_17) rfl (tlt hc17_3).1 (by decide) (by decide) ?_
    exact k
  refine Goes.run X1 hx hown hci hcl hby (L := [(25, .aload 5, 2)]) (by decide +kernel) rfl (g' := (mkF m 27 #[.val (.int (0 : Int32)), .val (.long x1), .second, .val (.long x2), .second, .val (.ref b1)] [(.ref b1)])) rfl ?_
  refine Goes.retR X1 hx hlk Bd.returns rfl rfl (hb hby d20_27) ?_ (by decide) (by decide)
  show (Q20 Z x1 x2 h0 n0) _ _ _
  rw [e1]
  exact ⟨b1, k1, rfl, N0, K1, sz_b1, E_b1, V_b1⟩
theorem d21_0 : decode method_3_code 0 = .ok (.iload_n 0, 1) := by decide +kernel
theorem d21_1 : decode method_3_code 1 = .ok (.newarray .long, 2) := by decide +kernel
theorem d21_3 : decode method_3_code 3 = .ok (.astore 5, 2) := by decide +kernel
theorem d21_5 : decode method_3_code 5 = .ok (.iload_n 0, 1) := by decide +kernel
theorem d21_6 : decode method_3_code 6 = .ok (.iconst 1, 1) := by decide +kernel
theorem d21_7 : decode method_3_code 7 = .ok (.if_icmp .lt 8, 3) := by decide +kernel
theorem d21_10 : decode method_3_code 10 = .ok (.aload 5, 2) := by decide +kernel
theorem d21_12 : decode method_3_code 12 = .ok (.iconst 0, 1) := by decide +kernel
theorem d21_13 : decode method_3_code 13 = .ok (.lload_n 1, 1) := by decide +kernel
theorem d21_14 : decode method_3_code 14 = .ok (.lastore, 1) := by decide +kernel
theorem d21_15 : decode method_3_code 15 = .ok (.iload_n 0, 1) := by decide +kernel
theorem d21_16 : decode method_3_code 16 = .ok (.iconst 2, 1) := by decide +kernel
theorem d21_17 : decode method_3_code 17 = .ok (.if_icmp .lt 8, 3) := by decide +kernel
theorem d21_25 : decode method_3_code 25 = .ok (.aload 5, 2) := by decide +kernel
theorem d21_27 : decode method_3_code 27 = .ok (.areturn, 1) := by decide +kernel
theorem pn21 : plainName "com/example/marks_across_domains/marksacrossdomains/BitsContainsPinLaw" = true := by first | (simp [plainName, overriddenIn]; done) | decide +kernel
theorem ef21 (m : MethodId) (x1 : Int64) (x2 : Int64) : entryFrame m #[(.int (1 : Int32)), (.long x1), (.long x2)] 6 = (mkF m 0 #[.val (.int (1 : Int32)), .val (.long x1), .second, .val (.long x2), .second, .unset] []) := by first | (simp [entryFrame, mkF, argsToLocals, Value.category]; done) | rfl
def Q21 (Z : State) (x1 : Int64) (x2 : Int64) (h0 : Heap) (n0 : Nat) (v : Option Value) (h : Heap) (L : List Loc) : Prop := ∃ (b : Addr) (k : ClassId), v = some (.ref b) ∧ Fr n0 L ∧ Keep h0 h [] ∧ h0.size ≤ b ∧ Exa Z h b "[J" ∧ Arv Z h b k .long (1 : Int32) [(.long x1)] (.long (0 : Int64))
set_option maxRecDepth 65536 in
set_option maxHeartbeats 40000000 in
theorem rm21 (l : Launch) (Z : State) (a0 : Array Value) (hw : ∀ d ∈ tables_1, d.before a0 Z = true) (ws : List Jvm.Cond) (x1 : Int64) (x2 : Int64) (h0 : Heap) (n0 : Nat) (Z0 : n0 ≤ h0.size) :
    MetFree l (⟨"com/example/marks_across_domains/marksacrossdomains/BitsContainsPinLaw", "make", "(IJJ)[J"⟩ : MethodName) (head1 (Jvm.Cond.code (⟨"com/example/marks_across_domains/marksacrossdomains/BitsContainsPinLaw", "make", "(IJJ)[J"⟩ : MethodName) method_3_code 6 (some (.array .long)) :: ws) ({ frames := 0, cells := 1, slots := 1, locals := 0 } : Room)) (fun a U => a = #[(.int (1 : Int32)), (.long x1), (.long x2)] ∧ Z.Warmed39 U.vm ∧ U.heap = h0) (fun _ _ _ _ _ => True) (fun _ U o U' => ∃ v L, o = .returned v ∧ (Q21 Z x1 x2 h0 n0) v U'.heap L ∧ FrameEnd U o U' L ({ frames := 0, cells := 1, slots := 1, locals := 0 } : Room).cells ({ frames := 0, cells := 1, slots := 1, locals := 0 } : Room).slots) := by
  refine MetFree.of_bodySF (plainFor_of_name pn21) hisR ?_
  intro p e s m args below meth c s₁ Bd hml0 hP hK
  obtain ⟨rfl, hZ, hh⟩ := hP
  have hx := Bd.exec
  have hby := Bd.bytes
  have hml : c.maxLocals = 6 := hml0
  have hlk : meth.locks = false := BodyLoose.notSynchronized Bd
  have hown : s.vm.findClass "com/example/marks_across_domains/marksacrossdomains/BitsContainsPinLaw" = some m.cls := findClass_of_methodNamed Bd.named
  have hnm := (name_of_methodNamed Bd.named Bd.method).1
  have hci : ∀ i v, (i, v) ∈ ([] : List (Nat × Int32)) → (Jvm.Cond.constant "com/example/marks_across_domains/marksacrossdomains/BitsContainsPinLaw" i v).before #[(.int (1 : Int32)), (.long x1), (.long x2)] s = true := own_ci0
  have hcl : ∀ i v, (i, v) ∈ ([(17, -1)] : List (Nat × Int64)) → (Jvm.Cond.constantLong "com/example/marks_across_domains/marksacrossdomains/BitsContainsPinLaw" i v).before #[(.int (1 : Int32)), (.long x1), (.long x2)] s = true := (own_ciS (mvT hZ (hw _ (List.mem_of_getElem? (i := 8) rfl))) own_ci0)
  have X0 : Stand p l e ({ frames := 0, cells := 1, slots := 1, locals := 0 } : Room) s m #[(.int (1 : Int32)), (.long x1), (.long x2)] below meth c s₁ [] 0 0 := Stand.of_body Bd
  have e0 : s₁.heap = h0 := by rw [← hh, Bd.state]; rfl
  have N0 := Fr.nil n0
  show Goes p e below s (Q21 Z x1 x2 h0 n0) ({ frames := 0, cells := 1, slots := 1, locals := 0 } : Room).cells ({ frames := 0, cells := 1, slots := 1, locals := 0 } : Room).slots (s₁.setTop (entryFrame m #[(.int (1 : Int32)), (.long x1), (.long x2)] 6))
  refine Goes.cast (ef21 m x1 x2) ?_
  have K0 : Keep h0 h0 [] := Keep.refl h0 _
  refine Goes.run X0 hx hown hci hcl hby (L := [(0, .iload_n 0, 1)]) (by decide +kernel) rfl (g' := (mkF m 1 #[.val (.int (1 : Int32)), .val (.long x1), .second, .val (.long x2), .second, .unset] [(.int (1 : Int32))])) rfl ?_
  obtain ⟨T1, h1, k1, X1, e1, E1, A1, B1, st1⟩ := newPE X0 hx hZ (hw _ (List.mem_of_getElem? (i := 7) rfl)) e0 (g := (mkF m 1 #[.val (.int (1 : Int32)), .val (.long x1), .second, .val (.long x2), .second, .unset] [(.int (1 : Int32))])) rfl (hb hby d21_1) rfl (by decide) (cap := 1) (by decide) (by decide) (by decide) (by decide) (ad := "[J") (by decide)
  obtain ⟨b1, g1⟩ : ∃ z, z = h0.size := ⟨_, rfl⟩
  rw [← g1] at A1 B1 st1
  have g_b1 : n0 ≤ b1 := Nat.le_trans Z0 (Nat.le_of_eq g1.symm)
  have sz_b1 : h0.size ≤ b1 := Nat.le_trans K0.1 (Nat.le_of_eq g1.symm)
  have Zn1 : n0 ≤ h1.size := Nat.le_trans Z0 E1.1
  have K1 := K0.ext E1
  have E_b1 : Exa Z h1 b1 "[J" := B1
  have V_b1 : Arv Z h1 b1 k1 .long (1 : Int32) [(.long (0 : Int64))] (.long (0 : Int64)) := (Arv.new A1 (by decide)).pad (pad_rep [] (.long (0 : Int64)) 1)
  refine Goes.st (B := T1.setTop (mkF m 3 #[.val (.int (1 : Int32)), .val (.long x1), .second, .val (.long x2), .second, .unset] [(.ref b1)])) st1 ?_
  refine Goes.run X1 hx hown hci hcl hby (L := [(3, .astore 5, 2), (5, .iload_n 0, 1), (6, .iconst 1, 1)]) (by decide +kernel) rfl (g' := (mkF m 7 #[.val (.int (1 : Int32)), .val (.long x1), .second, .val (.long x2), .second, .val (.ref b1)] [(.int (1 : Int32)), (.int (1 : Int32))])) rfl ?_
  have hc7_2 : ¬ ((1 : Int32) < (1 : Int32)) := Int32.lt_irrefl
  refine Goes.st (B := T1.setTop (mkF m 10 #[.val (.int (1 : Int32)), .val (.long x1), .second, .val (.long x2), .second, .val (.ref b1)] [])) (fun t k => ?_) ?_
  · refine XS.icmpNo X1.here hx rfl (hb hby d21_7) rfl (flt hc7_2).1 ?_
    exact k
  refine Goes.run X1 hx hown hci hcl hby (L := [(10, .aload 5, 2), (12, .iconst 0, 1), (13, .lload_n 1, 1)]) (by decide +kernel) rfl (g' := (mkF m 14 #[.val (.int (1 : Int32)), .val (.long x1), .second, .val (.long x2), .second, .val (.ref b1)] [(.long x1), (.int (0 : Int32)), (.ref b1)])) rfl ?_
  obtain ⟨cl3, Ar3, q3, S3, M3, Hs3, G3⟩ := id V_b1
  have hin3 : ¬ ((0 : Int32) < 0 ∨ cl3.slots.size ≤ ((0 : Int32)).toNatClampNeg) := inb_of S3 ⟨(by decide), (by decide)⟩
  obtain ⟨T3, h3, X3, e3, W3, st3⟩ := stJ X1 hx hZ e1 Ar3 (j := (0 : Int32)) hin3 (g := (mkF m 14 #[.val (.int (1 : Int32)), .val (.long x1), .second, .val (.long x2), .second, .val (.ref b1)] [(.long x1), (.int (0 : Int32)), (.ref b1)])) rfl rfl (hb hby d21_14)
  have E_b1 := E_b1.wr W3
  have Zn3 : n0 ≤ h3.size := Nat.le_trans Zn1 (Keep.of_wr W3).1
  have K3 := K1.wr W3 (Or.inr sz_b1)
  have N3 := Fr.snoc X3 N0 g_b1
  have V_b1 : Arv Z h3 b1 k1 .long (1 : Int32) [(.long x1)] (.long (0 : Int64)) := Arv.set Ar3 q3 S3 M3 Hs3 G3 rfl W3 0 rfl (Nat.le_of_ble_eq_true rfl)
  refine Goes.st (B := T3.setTop (mkF m 15 #[.val (.int (1 : Int32)), .val (.long x1), .second, .val (.long x2), .second, .val (.ref b1)] [])) st3 ?_
  refine Goes.run X3 hx hown hci hcl hby (L := [(15, .iload_n 0, 1), (16, .iconst 2, 1)]) (by decide +kernel) rfl (g' := (mkF m 17 #[.val (.int (1 : Int32)), .val (.long x1), .second, .val (.long x2), .second, .val (.ref b1)] [(.int (2 : Int32)), (.int (1 : Int32))])) rfl ?_
  have hc17_4 : (1 : Int32) < (2 : Int32) := by decide
  refine Goes.st (B := T3.setTop (mkF m 25 #[.val (.int (1 : Int32)), .val (.long x1), .second, .val (.long x2), .second, .val (.ref b1)] [])) (fun t k => ?_) ?_
  · refine XS.icmpYes X3.here hx rfl (pc0 := 17) (pc' := 25) rfl (hb hby d21_17) rfl (tlt hc17_4).1 (by decide) (by decide) ?_
    exact k
  refine Goes.run X3 hx hown hci hcl hby (L := [(25, .aload 5, 2)]) (by decide +kernel) rfl (g' := (mkF m 27 #[.val (.int (1 : Int32)), .val (.long x1), .second, .val (.long x2), .second, .val (.ref b1)] [(.ref b1)])) rfl ?_
  refine Goes.retR X3 hx hlk Bd.returns rfl rfl (hb hby d21_27) ?_ (by decide) (by decide)
  show (Q21 Z x1 x2 h0 n0) _ _ _
  rw [e3]
  exact ⟨b1, k1, rfl, N3, K3, sz_b1, E_b1, V_b1⟩
theorem d22_0 : decode method_3_code 0 = .ok (.iload_n 0, 1) := by decide +kernel
theorem d22_1 : decode method_3_code 1 = .ok (.newarray .long, 2) := by decide +kernel
theorem d22_3 : decode method_3_code 3 = .ok (.astore 5, 2) := by decide +kernel
theorem d22_5 : decode method_3_code 5 = .ok (.iload_n 0, 1) := by decide +kernel
theorem d22_6 : decode method_3_code 6 = .ok (.iconst 1, 1) := by decide +kernel
theorem d22_7 : decode method_3_code 7 = .ok (.if_icmp .lt 8, 3) := by decide +kernel
theorem d22_10 : decode method_3_code 10 = .ok (.aload 5, 2) := by decide +kernel
theorem d22_12 : decode method_3_code 12 = .ok (.iconst 0, 1) := by decide +kernel
theorem d22_13 : decode method_3_code 13 = .ok (.lload_n 1, 1) := by decide +kernel
theorem d22_14 : decode method_3_code 14 = .ok (.lastore, 1) := by decide +kernel
theorem d22_15 : decode method_3_code 15 = .ok (.iload_n 0, 1) := by decide +kernel
theorem d22_16 : decode method_3_code 16 = .ok (.iconst 2, 1) := by decide +kernel
theorem d22_17 : decode method_3_code 17 = .ok (.if_icmp .lt 8, 3) := by decide +kernel
theorem d22_20 : decode method_3_code 20 = .ok (.aload 5, 2) := by decide +kernel
theorem d22_22 : decode method_3_code 22 = .ok (.iconst 1, 1) := by decide +kernel
theorem d22_23 : decode method_3_code 23 = .ok (.lload_n 3, 1) := by decide +kernel
theorem d22_24 : decode method_3_code 24 = .ok (.lastore, 1) := by decide +kernel
theorem d22_25 : decode method_3_code 25 = .ok (.aload 5, 2) := by decide +kernel
theorem d22_27 : decode method_3_code 27 = .ok (.areturn, 1) := by decide +kernel
theorem pn22 : plainName "com/example/marks_across_domains/marksacrossdomains/BitsContainsPinLaw" = true := by first | (simp [plainName, overriddenIn]; done) | decide +kernel
theorem ef22 (m : MethodId) (x1 : Int64) (x2 : Int64) : entryFrame m #[(.int (2 : Int32)), (.long x1), (.long x2)] 6 = (mkF m 0 #[.val (.int (2 : Int32)), .val (.long x1), .second, .val (.long x2), .second, .unset] []) := by first | (simp [entryFrame, mkF, argsToLocals, Value.category]; done) | rfl
def Q22 (Z : State) (x1 : Int64) (x2 : Int64) (h0 : Heap) (n0 : Nat) (v : Option Value) (h : Heap) (L : List Loc) : Prop := ∃ (b : Addr) (k : ClassId), v = some (.ref b) ∧ Fr n0 L ∧ Keep h0 h [] ∧ h0.size ≤ b ∧ Exa Z h b "[J" ∧ Arv Z h b k .long (2 : Int32) [(.long x1), (.long x2)] (.long (0 : Int64))
set_option maxRecDepth 65536 in
set_option maxHeartbeats 40000000 in
theorem rm22 (l : Launch) (Z : State) (a0 : Array Value) (hw : ∀ d ∈ tables_1, d.before a0 Z = true) (ws : List Jvm.Cond) (x1 : Int64) (x2 : Int64) (h0 : Heap) (n0 : Nat) (Z0 : n0 ≤ h0.size) :
    MetFree l (⟨"com/example/marks_across_domains/marksacrossdomains/BitsContainsPinLaw", "make", "(IJJ)[J"⟩ : MethodName) (head1 (Jvm.Cond.code (⟨"com/example/marks_across_domains/marksacrossdomains/BitsContainsPinLaw", "make", "(IJJ)[J"⟩ : MethodName) method_3_code 6 (some (.array .long)) :: ws) ({ frames := 0, cells := 1, slots := 2, locals := 0 } : Room)) (fun a U => a = #[(.int (2 : Int32)), (.long x1), (.long x2)] ∧ Z.Warmed39 U.vm ∧ U.heap = h0) (fun _ _ _ _ _ => True) (fun _ U o U' => ∃ v L, o = .returned v ∧ (Q22 Z x1 x2 h0 n0) v U'.heap L ∧ FrameEnd U o U' L ({ frames := 0, cells := 1, slots := 2, locals := 0 } : Room).cells ({ frames := 0, cells := 1, slots := 2, locals := 0 } : Room).slots) := by
  refine MetFree.of_bodySF (plainFor_of_name pn22) hisR ?_
  intro p e s m args below meth c s₁ Bd hml0 hP hK
  obtain ⟨rfl, hZ, hh⟩ := hP
  have hx := Bd.exec
  have hby := Bd.bytes
  have hml : c.maxLocals = 6 := hml0
  have hlk : meth.locks = false := BodyLoose.notSynchronized Bd
  have hown : s.vm.findClass "com/example/marks_across_domains/marksacrossdomains/BitsContainsPinLaw" = some m.cls := findClass_of_methodNamed Bd.named
  have hnm := (name_of_methodNamed Bd.named Bd.method).1
  have hci : ∀ i v, (i, v) ∈ ([] : List (Nat × Int32)) → (Jvm.Cond.constant "com/example/marks_across_domains/marksacrossdomains/BitsContainsPinLaw" i v).before #[(.int (2 : Int32)), (.long x1), (.long x2)] s = true := own_ci0
  have hcl : ∀ i v, (i, v) ∈ ([(17, -1)] : List (Nat × Int64)) → (Jvm.Cond.constantLong "com/example/marks_across_domains/marksacrossdomains/BitsContainsPinLaw" i v).before #[(.int (2 : Int32)), (.long x1), (.long x2)] s = true := (own_ciS (mvT hZ (hw _ (List.mem_of_getElem? (i := 8) rfl))) own_ci0)
  have X0 : Stand p l e ({ frames := 0, cells := 1, slots := 2, locals := 0 } : Room) s m #[(.int (2 : Int32)), (.long x1), (.long x2)] below meth c s₁ [] 0 0 := Stand.of_body Bd
  have e0 : s₁.heap = h0 := by rw [← hh, Bd.state]; rfl
  have N0 := Fr.nil n0
  show Goes p e below s (Q22 Z x1 x2 h0 n0) ({ frames := 0, cells := 1, slots := 2, locals := 0 } : Room).cells ({ frames := 0, cells := 1, slots := 2, locals := 0 } : Room).slots (s₁.setTop (entryFrame m #[(.int (2 : Int32)), (.long x1), (.long x2)] 6))
  refine Goes.cast (ef22 m x1 x2) ?_
  have K0 : Keep h0 h0 [] := Keep.refl h0 _
  refine Goes.run X0 hx hown hci hcl hby (L := [(0, .iload_n 0, 1)]) (by decide +kernel) rfl (g' := (mkF m 1 #[.val (.int (2 : Int32)), .val (.long x1), .second, .val (.long x2), .second, .unset] [(.int (2 : Int32))])) rfl ?_
  obtain ⟨T1, h1, k1, X1, e1, E1, A1, B1, st1⟩ := newPE X0 hx hZ (hw _ (List.mem_of_getElem? (i := 7) rfl)) e0 (g := (mkF m 1 #[.val (.int (2 : Int32)), .val (.long x1), .second, .val (.long x2), .second, .unset] [(.int (2 : Int32))])) rfl (hb hby d22_1) rfl (by decide) (cap := 2) (by decide) (by decide) (by decide) (by decide) (ad := "[J") (by decide)
  obtain ⟨b1, g1⟩ : ∃ z, z = h0.size := ⟨_, rfl⟩
  rw [← g1] at A1 B1 st1
  have g_b1 : n0 ≤ b1 := Nat.le_trans Z0 (Nat.le_of_eq g1.symm)
  have sz_b1 : h0.size ≤ b1 := Nat.le_trans K0.1 (Nat.le_of_eq g1.symm)
  have Zn1 : n0 ≤ h1.size := Nat.le_trans Z0 E1.1
  have K1 := K0.ext E1
  have E_b1 : Exa Z h1 b1 "[J" := B1
  have V_b1 : Arv Z h1 b1 k1 .long (2 : Int32) [(.long (0 : Int64)), (.long (0 : Int64))] (.long (0 : Int64)) := (Arv.new A1 (by decide)).pad (pad_rep [] (.long (0 : Int64)) 2)
  refine Goes.st (B := T1.setTop (mkF m 3 #[.val (.int (2 : Int32)), .val (.long x1), .second, .val (.long x2), .second, .unset] [(.ref b1)])) st1 ?_
  refine Goes.run X1 hx hown hci hcl hby (L := [(3, .astore 5, 2), (5, .iload_n 0, 1), (6, .iconst 1, 1)]) (by decide +kernel) rfl (g' := (mkF m 7 #[.val (.int (2 : Int32)), .val (.long x1), .second, .val (.long x2), .second, .val (.ref b1)] [(.int (1 : Int32)), (.int (2 : Int32))])) rfl ?_
  have hc7_2 : ¬ ((2 : Int32) < (1 : Int32)) := by decide
  refine Goes.st (B := T1.setTop (mkF m 10 #[.val (.int (2 : Int32)), .val (.long x1), .second, .val (.long x2), .second, .val (.ref b1)] [])) (fun t k => ?_) ?_
  · refine XS.icmpNo X1.here hx rfl (hb hby d22_7) rfl (flt hc7_2).1 ?_
    exact k
  refine Goes.run X1 hx hown hci hcl hby (L := [(10, .aload 5, 2), (12, .iconst 0, 1), (13, .lload_n 1, 1)]) (by decide +kernel) rfl (g' := (mkF m 14 #[.val (.int (2 : Int32)), .val (.long x1), .second, .val (.long x2), .second, .val (.ref b1)] [(.long x1), (.int (0 : Int32)), (.ref b1)])) rfl ?_
  obtain ⟨cl3, Ar3, q3, S3, M3, Hs3, G3⟩ := id V_b1
  have hin3 : ¬ ((0 : Int32) < 0 ∨ cl3.slots.size ≤ ((0 : Int32)).toNatClampNeg) := inb_of S3 ⟨(by decide), (by decide)⟩
  obtain ⟨T3, h3, X3, e3, W3, st3⟩ := stJ X1 hx hZ e1 Ar3 (j := (0 : Int32)) hin3 (g := (mkF m 14 #[.val (.int (2 : Int32)), .val (.long x1), .second, .val (.long x2), .second, .val (.ref b1)] [(.long x1), (.int (0 : Int32)), (.ref b1)])) rfl rfl (hb hby d22_14)
  have E_b1 := E_b1.wr W3
  have Zn3 : n0 ≤ h3.size := Nat.le_trans Zn1 (Keep.of_wr W3).1
  have K3 := K1.wr W3 (Or.inr sz_b1)
  have N3 := Fr.snoc X3 N0 g_b1
  have V_b1 : Arv Z h3 b1 k1 .long (2 : Int32) [(.long x1), (.long (0 : Int64))] (.long (0 : Int64)) := Arv.set Ar3 q3 S3 M3 Hs3 G3 rfl W3 0 rfl (Nat.le_of_ble_eq_true rfl)
  refine Goes.st (B := T3.setTop (mkF m 15 #[.val (.int (2 : Int32)), .val (.long x1), .second, .val (.long x2), .second, .val (.ref b1)] [])) st3 ?_
  refine Goes.run X3 hx hown hci hcl hby (L := [(15, .iload_n 0, 1), (16, .iconst 2, 1)]) (by decide +kernel) rfl (g' := (mkF m 17 #[.val (.int (2 : Int32)), .val (.long x1), .second, .val (.long x2), .second, .val (.ref b1)] [(.int (2 : Int32)), (.int (2 : Int32))])) rfl ?_
  have hc17_4 : ¬ ((2 : Int32) < (2 : Int32)) := Int32.lt_irrefl
  refine Goes.st (B := T3.setTop (mkF m 20 #[.val (.int (2 : Int32)), .val (.long x1), .second, .val (.long x2), .second, .val (.ref b1)] [])) (fun t k => ?_) ?_
  · refine XS.icmpNo X3.here hx rfl (hb hby d22_17) rfl (flt hc17_4).1 ?_
    exact k
  refine Goes.run X3 hx hown hci hcl hby (L := [(20, .aload 5, 2), (22, .iconst 1, 1), (23, .lload_n 3, 1)]) (by decide +kernel) rfl (g' := (mkF m 24 #[.val (.int (2 : Int32)), .val (.long x1), .second, .val (.long x2), .second, .val (.ref b1)] [(.long x2), (.int (1 : Int32)), (.ref b1)])) rfl ?_
  obtain ⟨cl5, Ar5, q5, S5, M5, Hs5, G5⟩ := id V_b1
  have hin5 : ¬ ((1 : Int32) < 0 ∨ cl5.slots.size ≤ ((1 : Int32)).toNatClampNeg) := inb_of S5 ⟨(by decide), (by decide)⟩
  obtain ⟨T5, h5, X5, e5, W5, st5⟩ := stJ X3 hx hZ e3 Ar5 (j := (1 : Int32)) hin5 (g := (mkF m 24 #[.val (.int (2 : Int32)), .val (.long x1), .second, .val (.long x2), .second, .val (.ref b1)] [(.long x2), (.int (1 : Int32)), (.ref b1)])) rfl rfl (hb hby d22_24)
  have E_b1 := E_b1.wr W5
  have Zn5 : n0 ≤ h5.size := Nat.le_trans Zn3 (Keep.of_wr W5).1
  have K5 := K3.wr W5 (Or.inr sz_b1)
  have N5 := Fr.snoc X5 N3 g_b1
  have V_b1 : Arv Z h5 b1 k1 .long (2 : Int32) [(.long x1), (.long x2)] (.long (0 : Int64)) := Arv.set Ar5 q5 S5 M5 Hs5 G5 rfl W5 1 rfl (Nat.le_of_ble_eq_true rfl)
  refine Goes.st (B := T5.setTop (mkF m 25 #[.val (.int (2 : Int32)), .val (.long x1), .second, .val (.long x2), .second, .val (.ref b1)] [])) st5 ?_
  refine Goes.run X5 hx hown hci hcl hby (L := [(25, .aload 5, 2)]) (by decide +kernel) rfl (g' := (mkF m 27 #[.val (.int (2 : Int32)), .val (.long x1), .second, .val (.long x2), .second, .val (.ref b1)] [(.ref b1)])) rfl ?_
  refine Goes.retR X5 hx hlk Bd.returns rfl rfl (hb hby d22_27) ?_ (by decide) (by decide)
  show (Q22 Z x1 x2 h0 n0) _ _ _
  rw [e5]
  exact ⟨b1, k1, rfl, N5, K5, sz_b1, E_b1, V_b1⟩
theorem d300_0 : decode prog_3_method_7_code 0 = .ok (.aload_n 1, 1) := by decide +kernel
theorem d300_1 : decode prog_3_method_7_code 1 = .ok (.arraylength, 1) := by decide +kernel
theorem d300_2 : decode prog_3_method_7_code 2 = .ok (.aload_n 0, 1) := by decide +kernel
theorem d300_3 : decode prog_3_method_7_code 3 = .ok (.arraylength, 1) := by decide +kernel
theorem d300_4 : decode prog_3_method_7_code 4 = .ok (.if_icmp .le 5, 3) := by decide +kernel
theorem d300_9 : decode prog_3_method_7_code 9 = .ok (.iconst 0, 1) := by decide +kernel
theorem d300_10 : decode prog_3_method_7_code 10 = .ok (.istore_n 2, 1) := by decide +kernel
theorem d300_11 : decode prog_3_method_7_code 11 = .ok (.iload_n 2, 1) := by decide +kernel
theorem d300_12 : decode prog_3_method_7_code 12 = .ok (.aload_n 1, 1) := by decide +kernel
theorem d300_13 : decode prog_3_method_7_code 13 = .ok (.arraylength, 1) := by decide +kernel
theorem d300_14 : decode prog_3_method_7_code 14 = .ok (.if_icmp .ge 27, 3) := by decide +kernel
theorem d300_41 : decode prog_3_method_7_code 41 = .ok (.iconst 1, 1) := by decide +kernel
theorem d300_42 : decode prog_3_method_7_code 42 = .ok (.ireturn, 1) := by decide +kernel
theorem pn300 : plainName "com/example/marks_across_domains/marksacrossdomains/Bits" = true := by first | (simp [plainName, overriddenIn]; done) | decide +kernel
theorem ef300 (m : MethodId) (x0 : Addr) (x1 : Addr) : entryFrame m #[(.ref x0), (.ref x1)] 3 = (mkF m 0 #[.val (.ref x0), .val (.ref x1), .unset] []) := by first | (simp [entryFrame, mkF, argsToLocals, Value.category]; done) | rfl
def r300  : Int32 := (1 : Int32)
set_option maxRecDepth 65536 in
set_option maxHeartbeats 40000000 in
theorem rm300 (l : Launch) (Z : State) (a0 : Array Value) (hw : ∀ d ∈ tables_1, d.before a0 Z = true) (ws : List Jvm.Cond) (x0 : Addr) (x1 : Addr) (kx : ClassId) (ky : ClassId) (h0 : Heap) (n0 : Nat) (Z0 : n0 ≤ h0.size) (V_x0 : Arv Z h0 x0 kx .long (0 : Int32) [] (.long (0 : Int64))) (V_x1 : Arv Z h0 x1 ky .long (0 : Int32) [] (.long (0 : Int64))) :
    MetFree l (⟨"com/example/marks_across_domains/marksacrossdomains/Bits", "contains", "([J[J)Z"⟩ : MethodName) (head1 (Jvm.Cond.code (⟨"com/example/marks_across_domains/marksacrossdomains/Bits", "contains", "([J[J)Z"⟩ : MethodName) prog_3_method_7_code 3 (some .boolean) :: ws) ({ frames := 0, cells := 0, slots := 0, locals := 0 } : Room)) (fun a U => a = #[(.ref x0), (.ref x1)] ∧ Z.Warmed39 U.vm ∧ U.heap = h0) (fun _ _ _ _ _ => True) (fun _ U o U' => ∃ v L, o = .returned v ∧ (QP (some (.int (r300 ))) h0 n0) v U'.heap L ∧ FrameEnd U o U' L ({ frames := 0, cells := 0, slots := 0, locals := 0 } : Room).cells ({ frames := 0, cells := 0, slots := 0, locals := 0 } : Room).slots) := by
  refine MetFree.of_bodySF (plainFor_of_name pn300) hisR ?_
  intro p e s m args below meth c s₁ Bd hml0 hP hK
  obtain ⟨rfl, hZ, hh⟩ := hP
  have hx := Bd.exec
  have hby := Bd.bytes
  have hml : c.maxLocals = 3 := hml0
  have hlk : meth.locks = false := BodyLoose.notSynchronized Bd
  have hown : s.vm.findClass "com/example/marks_across_domains/marksacrossdomains/Bits" = some m.cls := findClass_of_methodNamed Bd.named
  have hnm := (name_of_methodNamed Bd.named Bd.method).1
  have hci : ∀ i v, (i, v) ∈ ([] : List (Nat × Int32)) → (Jvm.Cond.constant "com/example/marks_across_domains/marksacrossdomains/Bits" i v).before #[(.ref x0), (.ref x1)] s = true := own_ci0
  have hcl : ∀ i v, (i, v) ∈ ([(7, -1)] : List (Nat × Int64)) → (Jvm.Cond.constantLong "com/example/marks_across_domains/marksacrossdomains/Bits" i v).before #[(.ref x0), (.ref x1)] s = true := (own_ciS (mvT hZ (hw _ (List.mem_of_getElem? (i := 13) rfl))) own_ci0)
  have X0 : Stand p l e ({ frames := 0, cells := 0, slots := 0, locals := 0 } : Room) s m #[(.ref x0), (.ref x1)] below meth c s₁ [] 0 0 := Stand.of_body Bd
  have e0 : s₁.heap = h0 := by rw [← hh, Bd.state]; rfl
  have N0 := Fr.nil n0
  show Goes p e below s (QP (some (.int (r300 ))) h0 n0) ({ frames := 0, cells := 0, slots := 0, locals := 0 } : Room).cells ({ frames := 0, cells := 0, slots := 0, locals := 0 } : Room).slots (s₁.setTop (entryFrame m #[(.ref x0), (.ref x1)] 3))
  refine Goes.cast (ef300 m x0 x1) ?_
  refine Goes.run X0 hx hown hci hcl hby (L := [(0, .aload_n 1, 1)]) (by decide +kernel) rfl (g' := (mkF m 1 #[.val (.ref x0), .val (.ref x1), .unset] [(.ref x1)])) rfl ?_
  obtain ⟨cl1, Ar1, q1, S1, M1, Hs1, G1⟩ := id V_x1
  refine Goes.st (B := s₁.setTop (mkF m 2 #[.val (.ref x0), .val (.ref x1), .unset] [(.int (0 : Int32))])) (fun t k => ?_) ?_
  · refine X0.arraylength hx (cell := cl1) (by rw [e0]; exact Ar1.1) (State.isArrayOf_alike hZ.alike Ar1.2.1) (g := (mkF m 1 #[.val (.ref x0), .val (.ref x1), .unset] [(.ref x1)])) rfl (rest := []) rfl (hb hby d300_1) _ ?_
    rw [len_of S1 M1]
    exact k
  refine Goes.run X0 hx hown hci hcl hby (L := [(2, .aload_n 0, 1)]) (by decide +kernel) rfl (g' := (mkF m 3 #[.val (.ref x0), .val (.ref x1), .unset] [(.ref x0), (.int (0 : Int32))])) rfl ?_
  obtain ⟨cl2, Ar2, q2, S2, M2, Hs2, G2⟩ := id V_x0
  refine Goes.st (B := s₁.setTop (mkF m 4 #[.val (.ref x0), .val (.ref x1), .unset] [(.int (0 : Int32)), (.int (0 : Int32))])) (fun t k => ?_) ?_
  · refine X0.arraylength hx (cell := cl2) (by rw [e0]; exact Ar2.1) (State.isArrayOf_alike hZ.alike Ar2.2.1) (g := (mkF m 3 #[.val (.ref x0), .val (.ref x1), .unset] [(.ref x0), (.int (0 : Int32))])) rfl (rest := [(.int (0 : Int32))]) rfl (hb hby d300_3) _ ?_
    rw [len_of S2 M2]
    exact k
  have hc4_3 : ¬ ((0 : Int32) < (0 : Int32)) := Int32.lt_irrefl
  refine Goes.st (B := s₁.setTop (mkF m 9 #[.val (.ref x0), .val (.ref x1), .unset] [])) (fun t k => ?_) ?_
  · refine XS.icmpYes X0.here hx rfl (pc0 := 4) (pc' := 9) rfl (hb hby d300_4) rfl (flt hc4_3).2.2.2 (by decide) (by decide) ?_
    exact k
  refine Goes.run X0 hx hown hci hcl hby (L := [(9, .iconst 0, 1), (10, .istore_n 2, 1), (11, .iload_n 2, 1), (12, .aload_n 1, 1)]) (by decide +kernel) rfl (g' := (mkF m 13 #[.val (.ref x0), .val (.ref x1), .val (.int (0 : Int32))] [(.ref x1), (.int (0 : Int32))])) rfl ?_
  obtain ⟨cl4, Ar4, q4, S4, M4, Hs4, G4⟩ := id V_x1
  refine Goes.st (B := s₁.setTop (mkF m 14 #[.val (.ref x0), .val (.ref x1), .val (.int (0 : Int32))] [(.int (0 : Int32)), (.int (0 : Int32))])) (fun t k => ?_) ?_
  · refine X0.arraylength hx (cell := cl4) (by rw [e0]; exact Ar4.1) (State.isArrayOf_alike hZ.alike Ar4.2.1) (g := (mkF m 13 #[.val (.ref x0), .val (.ref x1), .val (.int (0 : Int32))] [(.ref x1), (.int (0 : Int32))])) rfl (rest := [(.int (0 : Int32))]) rfl (hb hby d300_13) _ ?_
    rw [len_of S4 M4]
    exact k
  have hc14_5 : ¬ ((0 : Int32) < (0 : Int32)) := Int32.lt_irrefl
  refine Goes.st (B := s₁.setTop (mkF m 41 #[.val (.ref x0), .val (.ref x1), .val (.int (0 : Int32))] [])) (fun t k => ?_) ?_
  · refine XS.icmpYes X0.here hx rfl (pc0 := 14) (pc' := 41) rfl (hb hby d300_14) rfl (flt hc14_5).2.1 (by decide) (by decide) ?_
    exact k
  refine Goes.run X0 hx hown hci hcl hby (L := [(41, .iconst 1, 1)]) (by decide +kernel) rfl (g' := (mkF m 42 #[.val (.ref x0), .val (.ref x1), .val (.int (0 : Int32))] [(.int (1 : Int32))])) rfl ?_
  exact Goes.retB X0 hx hlk (t := .boolean) Bd.returns (by simp) (hb hby d300_42) rfl ⟨(congrArg (fun z => some (Value.int z)) (show (r300 ) = (1 : Int32) from rfl).symm), N0, e0⟩ (by decide) (by decide)
theorem d301_0 : decode prog_3_method_7_code 0 = .ok (.aload_n 1, 1) := by decide +kernel
theorem d301_1 : decode prog_3_method_7_code 1 = .ok (.arraylength, 1) := by decide +kernel
theorem d301_2 : decode prog_3_method_7_code 2 = .ok (.aload_n 0, 1) := by decide +kernel
theorem d301_3 : decode prog_3_method_7_code 3 = .ok (.arraylength, 1) := by decide +kernel
theorem d301_4 : decode prog_3_method_7_code 4 = .ok (.if_icmp .le 5, 3) := by decide +kernel
theorem d301_7 : decode prog_3_method_7_code 7 = .ok (.iconst 0, 1) := by decide +kernel
theorem d301_8 : decode prog_3_method_7_code 8 = .ok (.ireturn, 1) := by decide +kernel
theorem pn301 : plainName "com/example/marks_across_domains/marksacrossdomains/Bits" = true := by first | (simp [plainName, overriddenIn]; done) | decide +kernel
theorem ef301 (m : MethodId) (x0 : Addr) (x1 : Addr) : entryFrame m #[(.ref x0), (.ref x1)] 3 = (mkF m 0 #[.val (.ref x0), .val (.ref x1), .unset] []) := by first | (simp [entryFrame, mkF, argsToLocals, Value.category]; done) | rfl
def r301 (t0 : Int64) : Int32 := (0 : Int32)
set_option maxRecDepth 65536 in
set_option maxHeartbeats 40000000 in
theorem rm301 (l : Launch) (Z : State) (a0 : Array Value) (hw : ∀ d ∈ tables_1, d.before a0 Z = true) (ws : List Jvm.Cond) (x0 : Addr) (x1 : Addr) (kx : ClassId) (ky : ClassId) (t0 : Int64) (h0 : Heap) (n0 : Nat) (Z0 : n0 ≤ h0.size) (V_x0 : Arv Z h0 x0 kx .long (0 : Int32) [] (.long (0 : Int64))) (V_x1 : Arv Z h0 x1 ky .long (1 : Int32) [(.long t0)] (.long (0 : Int64))) :
    MetFree l (⟨"com/example/marks_across_domains/marksacrossdomains/Bits", "contains", "([J[J)Z"⟩ : MethodName) (head1 (Jvm.Cond.code (⟨"com/example/marks_across_domains/marksacrossdomains/Bits", "contains", "([J[J)Z"⟩ : MethodName) prog_3_method_7_code 3 (some .boolean) :: ws) ({ frames := 0, cells := 0, slots := 0, locals := 0 } : Room)) (fun a U => a = #[(.ref x0), (.ref x1)] ∧ Z.Warmed39 U.vm ∧ U.heap = h0) (fun _ _ _ _ _ => True) (fun _ U o U' => ∃ v L, o = .returned v ∧ (QP (some (.int (r301 t0))) h0 n0) v U'.heap L ∧ FrameEnd U o U' L ({ frames := 0, cells := 0, slots := 0, locals := 0 } : Room).cells ({ frames := 0, cells := 0, slots := 0, locals := 0 } : Room).slots) := by
  refine MetFree.of_bodySF (plainFor_of_name pn301) hisR ?_
  intro p e s m args below meth c s₁ Bd hml0 hP hK
  obtain ⟨rfl, hZ, hh⟩ := hP
  have hx := Bd.exec
  have hby := Bd.bytes
  have hml : c.maxLocals = 3 := hml0
  have hlk : meth.locks = false := BodyLoose.notSynchronized Bd
  have hown : s.vm.findClass "com/example/marks_across_domains/marksacrossdomains/Bits" = some m.cls := findClass_of_methodNamed Bd.named
  have hnm := (name_of_methodNamed Bd.named Bd.method).1
  have hci : ∀ i v, (i, v) ∈ ([] : List (Nat × Int32)) → (Jvm.Cond.constant "com/example/marks_across_domains/marksacrossdomains/Bits" i v).before #[(.ref x0), (.ref x1)] s = true := own_ci0
  have hcl : ∀ i v, (i, v) ∈ ([(7, -1)] : List (Nat × Int64)) → (Jvm.Cond.constantLong "com/example/marks_across_domains/marksacrossdomains/Bits" i v).before #[(.ref x0), (.ref x1)] s = true := (own_ciS (mvT hZ (hw _ (List.mem_of_getElem? (i := 13) rfl))) own_ci0)
  have X0 : Stand p l e ({ frames := 0, cells := 0, slots := 0, locals := 0 } : Room) s m #[(.ref x0), (.ref x1)] below meth c s₁ [] 0 0 := Stand.of_body Bd
  have e0 : s₁.heap = h0 := by rw [← hh, Bd.state]; rfl
  have N0 := Fr.nil n0
  show Goes p e below s (QP (some (.int (r301 t0))) h0 n0) ({ frames := 0, cells := 0, slots := 0, locals := 0 } : Room).cells ({ frames := 0, cells := 0, slots := 0, locals := 0 } : Room).slots (s₁.setTop (entryFrame m #[(.ref x0), (.ref x1)] 3))
  refine Goes.cast (ef301 m x0 x1) ?_
  refine Goes.run X0 hx hown hci hcl hby (L := [(0, .aload_n 1, 1)]) (by decide +kernel) rfl (g' := (mkF m 1 #[.val (.ref x0), .val (.ref x1), .unset] [(.ref x1)])) rfl ?_
  obtain ⟨cl1, Ar1, q1, S1, M1, Hs1, G1⟩ := id V_x1
  refine Goes.st (B := s₁.setTop (mkF m 2 #[.val (.ref x0), .val (.ref x1), .unset] [(.int (1 : Int32))])) (fun t k => ?_) ?_
  · refine X0.arraylength hx (cell := cl1) (by rw [e0]; exact Ar1.1) (State.isArrayOf_alike hZ.alike Ar1.2.1) (g := (mkF m 1 #[.val (.ref x0), .val (.ref x1), .unset] [(.ref x1)])) rfl (rest := []) rfl (hb hby d301_1) _ ?_
    rw [len_of S1 M1]
    exact k
  refine Goes.run X0 hx hown hci hcl hby (L := [(2, .aload_n 0, 1)]) (by decide +kernel) rfl (g' := (mkF m 3 #[.val (.ref x0), .val (.ref x1), .unset] [(.ref x0), (.int (1 : Int32))])) rfl ?_
  obtain ⟨cl2, Ar2, q2, S2, M2, Hs2, G2⟩ := id V_x0
  refine Goes.st (B := s₁.setTop (mkF m 4 #[.val (.ref x0), .val (.ref x1), .unset] [(.int (0 : Int32)), (.int (1 : Int32))])) (fun t k => ?_) ?_
  · refine X0.arraylength hx (cell := cl2) (by rw [e0]; exact Ar2.1) (State.isArrayOf_alike hZ.alike Ar2.2.1) (g := (mkF m 3 #[.val (.ref x0), .val (.ref x1), .unset] [(.ref x0), (.int (1 : Int32))])) rfl (rest := [(.int (1 : Int32))]) rfl (hb hby d301_3) _ ?_
    rw [len_of S2 M2]
    exact k
  have hc4_3 : (0 : Int32) < (1 : Int32) := by decide
  refine Goes.st (B := s₁.setTop (mkF m 7 #[.val (.ref x0), .val (.ref x1), .unset] [])) (fun t k => ?_) ?_
  · refine XS.icmpNo X0.here hx rfl (hb hby d301_4) rfl (tlt hc4_3).2.2.2 ?_
    exact k
  refine Goes.run X0 hx hown hci hcl hby (L := [(7, .iconst 0, 1)]) (by decide +kernel) rfl (g' := (mkF m 8 #[.val (.ref x0), .val (.ref x1), .unset] [(.int (0 : Int32))])) rfl ?_
  exact Goes.retB X0 hx hlk (t := .boolean) Bd.returns (by simp) (hb hby d301_8) rfl ⟨(congrArg (fun z => some (Value.int z)) (show (r301 t0) = (0 : Int32) from rfl).symm), N0, e0⟩ (by decide) (by decide)
theorem d302_0 : decode prog_3_method_7_code 0 = .ok (.aload_n 1, 1) := by decide +kernel
theorem d302_1 : decode prog_3_method_7_code 1 = .ok (.arraylength, 1) := by decide +kernel
theorem d302_2 : decode prog_3_method_7_code 2 = .ok (.aload_n 0, 1) := by decide +kernel
theorem d302_3 : decode prog_3_method_7_code 3 = .ok (.arraylength, 1) := by decide +kernel
theorem d302_4 : decode prog_3_method_7_code 4 = .ok (.if_icmp .le 5, 3) := by decide +kernel
theorem d302_7 : decode prog_3_method_7_code 7 = .ok (.iconst 0, 1) := by decide +kernel
theorem d302_8 : decode prog_3_method_7_code 8 = .ok (.ireturn, 1) := by decide +kernel
theorem pn302 : plainName "com/example/marks_across_domains/marksacrossdomains/Bits" = true := by first | (simp [plainName, overriddenIn]; done) | decide +kernel
theorem ef302 (m : MethodId) (x0 : Addr) (x1 : Addr) : entryFrame m #[(.ref x0), (.ref x1)] 3 = (mkF m 0 #[.val (.ref x0), .val (.ref x1), .unset] []) := by first | (simp [entryFrame, mkF, argsToLocals, Value.category]; done) | rfl
def r302 (t0 : Int64) (t1 : Int64) : Int32 := (0 : Int32)
set_option maxRecDepth 65536 in
set_option maxHeartbeats 40000000 in
theorem rm302 (l : Launch) (Z : State) (a0 : Array Value) (hw : ∀ d ∈ tables_1, d.before a0 Z = true) (ws : List Jvm.Cond) (x0 : Addr) (x1 : Addr) (kx : ClassId) (ky : ClassId) (t0 : Int64) (t1 : Int64) (h0 : Heap) (n0 : Nat) (Z0 : n0 ≤ h0.size) (V_x0 : Arv Z h0 x0 kx .long (0 : Int32) [] (.long (0 : Int64))) (V_x1 : Arv Z h0 x1 ky .long (2 : Int32) [(.long t0), (.long t1)] (.long (0 : Int64))) :
    MetFree l (⟨"com/example/marks_across_domains/marksacrossdomains/Bits", "contains", "([J[J)Z"⟩ : MethodName) (head1 (Jvm.Cond.code (⟨"com/example/marks_across_domains/marksacrossdomains/Bits", "contains", "([J[J)Z"⟩ : MethodName) prog_3_method_7_code 3 (some .boolean) :: ws) ({ frames := 0, cells := 0, slots := 0, locals := 0 } : Room)) (fun a U => a = #[(.ref x0), (.ref x1)] ∧ Z.Warmed39 U.vm ∧ U.heap = h0) (fun _ _ _ _ _ => True) (fun _ U o U' => ∃ v L, o = .returned v ∧ (QP (some (.int (r302 t0 t1))) h0 n0) v U'.heap L ∧ FrameEnd U o U' L ({ frames := 0, cells := 0, slots := 0, locals := 0 } : Room).cells ({ frames := 0, cells := 0, slots := 0, locals := 0 } : Room).slots) := by
  refine MetFree.of_bodySF (plainFor_of_name pn302) hisR ?_
  intro p e s m args below meth c s₁ Bd hml0 hP hK
  obtain ⟨rfl, hZ, hh⟩ := hP
  have hx := Bd.exec
  have hby := Bd.bytes
  have hml : c.maxLocals = 3 := hml0
  have hlk : meth.locks = false := BodyLoose.notSynchronized Bd
  have hown : s.vm.findClass "com/example/marks_across_domains/marksacrossdomains/Bits" = some m.cls := findClass_of_methodNamed Bd.named
  have hnm := (name_of_methodNamed Bd.named Bd.method).1
  have hci : ∀ i v, (i, v) ∈ ([] : List (Nat × Int32)) → (Jvm.Cond.constant "com/example/marks_across_domains/marksacrossdomains/Bits" i v).before #[(.ref x0), (.ref x1)] s = true := own_ci0
  have hcl : ∀ i v, (i, v) ∈ ([(7, -1)] : List (Nat × Int64)) → (Jvm.Cond.constantLong "com/example/marks_across_domains/marksacrossdomains/Bits" i v).before #[(.ref x0), (.ref x1)] s = true := (own_ciS (mvT hZ (hw _ (List.mem_of_getElem? (i := 13) rfl))) own_ci0)
  have X0 : Stand p l e ({ frames := 0, cells := 0, slots := 0, locals := 0 } : Room) s m #[(.ref x0), (.ref x1)] below meth c s₁ [] 0 0 := Stand.of_body Bd
  have e0 : s₁.heap = h0 := by rw [← hh, Bd.state]; rfl
  have N0 := Fr.nil n0
  show Goes p e below s (QP (some (.int (r302 t0 t1))) h0 n0) ({ frames := 0, cells := 0, slots := 0, locals := 0 } : Room).cells ({ frames := 0, cells := 0, slots := 0, locals := 0 } : Room).slots (s₁.setTop (entryFrame m #[(.ref x0), (.ref x1)] 3))
  refine Goes.cast (ef302 m x0 x1) ?_
  refine Goes.run X0 hx hown hci hcl hby (L := [(0, .aload_n 1, 1)]) (by decide +kernel) rfl (g' := (mkF m 1 #[.val (.ref x0), .val (.ref x1), .unset] [(.ref x1)])) rfl ?_
  obtain ⟨cl1, Ar1, q1, S1, M1, Hs1, G1⟩ := id V_x1
  refine Goes.st (B := s₁.setTop (mkF m 2 #[.val (.ref x0), .val (.ref x1), .unset] [(.int (2 : Int32))])) (fun t k => ?_) ?_
  · refine X0.arraylength hx (cell := cl1) (by rw [e0]; exact Ar1.1) (State.isArrayOf_alike hZ.alike Ar1.2.1) (g := (mkF m 1 #[.val (.ref x0), .val (.ref x1), .unset] [(.ref x1)])) rfl (rest := []) rfl (hb hby d302_1) _ ?_
    rw [len_of S1 M1]
    exact k
  refine Goes.run X0 hx hown hci hcl hby (L := [(2, .aload_n 0, 1)]) (by decide +kernel) rfl (g' := (mkF m 3 #[.val (.ref x0), .val (.ref x1), .unset] [(.ref x0), (.int (2 : Int32))])) rfl ?_
  obtain ⟨cl2, Ar2, q2, S2, M2, Hs2, G2⟩ := id V_x0
  refine Goes.st (B := s₁.setTop (mkF m 4 #[.val (.ref x0), .val (.ref x1), .unset] [(.int (0 : Int32)), (.int (2 : Int32))])) (fun t k => ?_) ?_
  · refine X0.arraylength hx (cell := cl2) (by rw [e0]; exact Ar2.1) (State.isArrayOf_alike hZ.alike Ar2.2.1) (g := (mkF m 3 #[.val (.ref x0), .val (.ref x1), .unset] [(.ref x0), (.int (2 : Int32))])) rfl (rest := [(.int (2 : Int32))]) rfl (hb hby d302_3) _ ?_
    rw [len_of S2 M2]
    exact k
  have hc4_3 : (0 : Int32) < (2 : Int32) := by decide
  refine Goes.st (B := s₁.setTop (mkF m 7 #[.val (.ref x0), .val (.ref x1), .unset] [])) (fun t k => ?_) ?_
  · refine XS.icmpNo X0.here hx rfl (hb hby d302_4) rfl (tlt hc4_3).2.2.2 ?_
    exact k
  refine Goes.run X0 hx hown hci hcl hby (L := [(7, .iconst 0, 1)]) (by decide +kernel) rfl (g' := (mkF m 8 #[.val (.ref x0), .val (.ref x1), .unset] [(.int (0 : Int32))])) rfl ?_
  exact Goes.retB X0 hx hlk (t := .boolean) Bd.returns (by simp) (hb hby d302_8) rfl ⟨(congrArg (fun z => some (Value.int z)) (show (r302 t0 t1) = (0 : Int32) from rfl).symm), N0, e0⟩ (by decide) (by decide)
theorem d310_0 : decode prog_3_method_7_code 0 = .ok (.aload_n 1, 1) := by decide +kernel
theorem d310_1 : decode prog_3_method_7_code 1 = .ok (.arraylength, 1) := by decide +kernel
theorem d310_2 : decode prog_3_method_7_code 2 = .ok (.aload_n 0, 1) := by decide +kernel
theorem d310_3 : decode prog_3_method_7_code 3 = .ok (.arraylength, 1) := by decide +kernel
theorem d310_4 : decode prog_3_method_7_code 4 = .ok (.if_icmp .le 5, 3) := by decide +kernel
theorem d310_9 : decode prog_3_method_7_code 9 = .ok (.iconst 0, 1) := by decide +kernel
theorem d310_10 : decode prog_3_method_7_code 10 = .ok (.istore_n 2, 1) := by decide +kernel
theorem d310_11 : decode prog_3_method_7_code 11 = .ok (.iload_n 2, 1) := by decide +kernel
theorem d310_12 : decode prog_3_method_7_code 12 = .ok (.aload_n 1, 1) := by decide +kernel
theorem d310_13 : decode prog_3_method_7_code 13 = .ok (.arraylength, 1) := by decide +kernel
theorem d310_14 : decode prog_3_method_7_code 14 = .ok (.if_icmp .ge 27, 3) := by decide +kernel
theorem d310_41 : decode prog_3_method_7_code 41 = .ok (.iconst 1, 1) := by decide +kernel
theorem d310_42 : decode prog_3_method_7_code 42 = .ok (.ireturn, 1) := by decide +kernel
theorem pn310 : plainName "com/example/marks_across_domains/marksacrossdomains/Bits" = true := by first | (simp [plainName, overriddenIn]; done) | decide +kernel
theorem ef310 (m : MethodId) (x0 : Addr) (x1 : Addr) : entryFrame m #[(.ref x0), (.ref x1)] 3 = (mkF m 0 #[.val (.ref x0), .val (.ref x1), .unset] []) := by first | (simp [entryFrame, mkF, argsToLocals, Value.category]; done) | rfl
def r310 (u0 : Int64) : Int32 := (1 : Int32)
set_option maxRecDepth 65536 in
set_option maxHeartbeats 40000000 in
theorem rm310 (l : Launch) (Z : State) (a0 : Array Value) (hw : ∀ d ∈ tables_1, d.before a0 Z = true) (ws : List Jvm.Cond) (x0 : Addr) (x1 : Addr) (kx : ClassId) (ky : ClassId) (u0 : Int64) (h0 : Heap) (n0 : Nat) (Z0 : n0 ≤ h0.size) (V_x0 : Arv Z h0 x0 kx .long (1 : Int32) [(.long u0)] (.long (0 : Int64))) (V_x1 : Arv Z h0 x1 ky .long (0 : Int32) [] (.long (0 : Int64))) :
    MetFree l (⟨"com/example/marks_across_domains/marksacrossdomains/Bits", "contains", "([J[J)Z"⟩ : MethodName) (head1 (Jvm.Cond.code (⟨"com/example/marks_across_domains/marksacrossdomains/Bits", "contains", "([J[J)Z"⟩ : MethodName) prog_3_method_7_code 3 (some .boolean) :: ws) ({ frames := 0, cells := 0, slots := 0, locals := 0 } : Room)) (fun a U => a = #[(.ref x0), (.ref x1)] ∧ Z.Warmed39 U.vm ∧ U.heap = h0) (fun _ _ _ _ _ => True) (fun _ U o U' => ∃ v L, o = .returned v ∧ (QP (some (.int (r310 u0))) h0 n0) v U'.heap L ∧ FrameEnd U o U' L ({ frames := 0, cells := 0, slots := 0, locals := 0 } : Room).cells ({ frames := 0, cells := 0, slots := 0, locals := 0 } : Room).slots) := by
  refine MetFree.of_bodySF (plainFor_of_name pn310) hisR ?_
  intro p e s m args below meth c s₁ Bd hml0 hP hK
  obtain ⟨rfl, hZ, hh⟩ := hP
  have hx := Bd.exec
  have hby := Bd.bytes
  have hml : c.maxLocals = 3 := hml0
  have hlk : meth.locks = false := BodyLoose.notSynchronized Bd
  have hown : s.vm.findClass "com/example/marks_across_domains/marksacrossdomains/Bits" = some m.cls := findClass_of_methodNamed Bd.named
  have hnm := (name_of_methodNamed Bd.named Bd.method).1
  have hci : ∀ i v, (i, v) ∈ ([] : List (Nat × Int32)) → (Jvm.Cond.constant "com/example/marks_across_domains/marksacrossdomains/Bits" i v).before #[(.ref x0), (.ref x1)] s = true := own_ci0
  have hcl : ∀ i v, (i, v) ∈ ([(7, -1)] : List (Nat × Int64)) → (Jvm.Cond.constantLong "com/example/marks_across_domains/marksacrossdomains/Bits" i v).before #[(.ref x0), (.ref x1)] s = true := (own_ciS (mvT hZ (hw _ (List.mem_of_getElem? (i := 13) rfl))) own_ci0)
  have X0 : Stand p l e ({ frames := 0, cells := 0, slots := 0, locals := 0 } : Room) s m #[(.ref x0), (.ref x1)] below meth c s₁ [] 0 0 := Stand.of_body Bd
  have e0 : s₁.heap = h0 := by rw [← hh, Bd.state]; rfl
  have N0 := Fr.nil n0
  show Goes p e below s (QP (some (.int (r310 u0))) h0 n0) ({ frames := 0, cells := 0, slots := 0, locals := 0 } : Room).cells ({ frames := 0, cells := 0, slots := 0, locals := 0 } : Room).slots (s₁.setTop (entryFrame m #[(.ref x0), (.ref x1)] 3))
  refine Goes.cast (ef310 m x0 x1) ?_
  refine Goes.run X0 hx hown hci hcl hby (L := [(0, .aload_n 1, 1)]) (by decide +kernel) rfl (g' := (mkF m 1 #[.val (.ref x0), .val (.ref x1), .unset] [(.ref x1)])) rfl ?_
  obtain ⟨cl1, Ar1, q1, S1, M1, Hs1, G1⟩ := id V_x1
  refine Goes.st (B := s₁.setTop (mkF m 2 #[.val (.ref x0), .val (.ref x1), .unset] [(.int (0 : Int32))])) (fun t k => ?_) ?_
  · refine X0.arraylength hx (cell := cl1) (by rw [e0]; exact Ar1.1) (State.isArrayOf_alike hZ.alike Ar1.2.1) (g := (mkF m 1 #[.val (.ref x0), .val (.ref x1), .unset] [(.ref x1)])) rfl (rest := []) rfl (hb hby d310_1) _ ?_
    rw [len_of S1 M1]
    exact k
  refine Goes.run X0 hx hown hci hcl hby (L := [(2, .aload_n 0, 1)]) (by decide +kernel) rfl (g' := (mkF m 3 #[.val (.ref x0), .val (.ref x1), .unset] [(.ref x0), (.int (0 : Int32))])) rfl ?_
  obtain ⟨cl2, Ar2, q2, S2, M2, Hs2, G2⟩ := id V_x0
  refine Goes.st (B := s₁.setTop (mkF m 4 #[.val (.ref x0), .val (.ref x1), .unset] [(.int (1 : Int32)), (.int (0 : Int32))])) (fun t k => ?_) ?_
  · refine X0.arraylength hx (cell := cl2) (by rw [e0]; exact Ar2.1) (State.isArrayOf_alike hZ.alike Ar2.2.1) (g := (mkF m 3 #[.val (.ref x0), .val (.ref x1), .unset] [(.ref x0), (.int (0 : Int32))])) rfl (rest := [(.int (0 : Int32))]) rfl (hb hby d310_3) _ ?_
    rw [len_of S2 M2]
    exact k
  have hc4_3 : ¬ ((1 : Int32) < (0 : Int32)) := by decide
  refine Goes.st (B := s₁.setTop (mkF m 9 #[.val (.ref x0), .val (.ref x1), .unset] [])) (fun t k => ?_) ?_
  · refine XS.icmpYes X0.here hx rfl (pc0 := 4) (pc' := 9) rfl (hb hby d310_4) rfl (flt hc4_3).2.2.2 (by decide) (by decide) ?_
    exact k
  refine Goes.run X0 hx hown hci hcl hby (L := [(9, .iconst 0, 1), (10, .istore_n 2, 1), (11, .iload_n 2, 1), (12, .aload_n 1, 1)]) (by decide +kernel) rfl (g' := (mkF m 13 #[.val (.ref x0), .val (.ref x1), .val (.int (0 : Int32))] [(.ref x1), (.int (0 : Int32))])) rfl ?_
  obtain ⟨cl4, Ar4, q4, S4, M4, Hs4, G4⟩ := id V_x1
  refine Goes.st (B := s₁.setTop (mkF m 14 #[.val (.ref x0), .val (.ref x1), .val (.int (0 : Int32))] [(.int (0 : Int32)), (.int (0 : Int32))])) (fun t k => ?_) ?_
  · refine X0.arraylength hx (cell := cl4) (by rw [e0]; exact Ar4.1) (State.isArrayOf_alike hZ.alike Ar4.2.1) (g := (mkF m 13 #[.val (.ref x0), .val (.ref x1), .val (.int (0 : Int32))] [(.ref x1), (.int (0 : Int32))])) rfl (rest := [(.int (0 : Int32))]) rfl (hb hby d310_13) _ ?_
    rw [len_of S4 M4]
    exact k
  have hc14_5 : ¬ ((0 : Int32) < (0 : Int32)) := Int32.lt_irrefl
  refine Goes.st (B := s₁.setTop (mkF m 41 #[.val (.ref x0), .val (.ref x1), .val (.int (0 : Int32))] [])) (fun t k => ?_) ?_
  · refine XS.icmpYes X0.here hx rfl (pc0 := 14) (pc' := 41) rfl (hb hby d310_14) rfl (flt hc14_5).2.1 (by decide) (by decide) ?_
    exact k
  refine Goes.run X0 hx hown hci hcl hby (L := [(41, .iconst 1, 1)]) (by decide +kernel) rfl (g' := (mkF m 42 #[.val (.ref x0), .val (.ref x1), .val (.int (0 : Int32))] [(.int (1 : Int32))])) rfl ?_
  exact Goes.retB X0 hx hlk (t := .boolean) Bd.returns (by simp) (hb hby d310_42) rfl ⟨(congrArg (fun z => some (Value.int z)) (show (r310 u0) = (1 : Int32) from rfl).symm), N0, e0⟩ (by decide) (by decide)
theorem d311_0 : decode prog_3_method_7_code 0 = .ok (.aload_n 1, 1) := by decide +kernel
theorem d311_1 : decode prog_3_method_7_code 1 = .ok (.arraylength, 1) := by decide +kernel
theorem d311_2 : decode prog_3_method_7_code 2 = .ok (.aload_n 0, 1) := by decide +kernel
theorem d311_3 : decode prog_3_method_7_code 3 = .ok (.arraylength, 1) := by decide +kernel
theorem d311_4 : decode prog_3_method_7_code 4 = .ok (.if_icmp .le 5, 3) := by decide +kernel
theorem d311_9 : decode prog_3_method_7_code 9 = .ok (.iconst 0, 1) := by decide +kernel
theorem d311_10 : decode prog_3_method_7_code 10 = .ok (.istore_n 2, 1) := by decide +kernel
theorem d311_11 : decode prog_3_method_7_code 11 = .ok (.iload_n 2, 1) := by decide +kernel
theorem d311_12 : decode prog_3_method_7_code 12 = .ok (.aload_n 1, 1) := by decide +kernel
theorem d311_13 : decode prog_3_method_7_code 13 = .ok (.arraylength, 1) := by decide +kernel
theorem d311_14 : decode prog_3_method_7_code 14 = .ok (.if_icmp .ge 27, 3) := by decide +kernel
theorem d311_17 : decode prog_3_method_7_code 17 = .ok (.aload_n 1, 1) := by decide +kernel
theorem d311_18 : decode prog_3_method_7_code 18 = .ok (.iload_n 2, 1) := by decide +kernel
theorem d311_19 : decode prog_3_method_7_code 19 = .ok (.laload, 1) := by decide +kernel
theorem d311_20 : decode prog_3_method_7_code 20 = .ok (.aload_n 0, 1) := by decide +kernel
theorem d311_21 : decode prog_3_method_7_code 21 = .ok (.iload_n 2, 1) := by decide +kernel
theorem d311_22 : decode prog_3_method_7_code 22 = .ok (.laload, 1) := by decide +kernel
theorem d311_23 : decode prog_3_method_7_code 23 = .ok (.ldc2_w 7, 3) := by decide +kernel
theorem d311_26 : decode prog_3_method_7_code 26 = .ok (.lxor, 1) := by decide +kernel
theorem d311_27 : decode prog_3_method_7_code 27 = .ok (.land, 1) := by decide +kernel
theorem d311_28 : decode prog_3_method_7_code 28 = .ok (.lconst 0, 1) := by decide +kernel
theorem d311_29 : decode prog_3_method_7_code 29 = .ok (.lcmp, 1) := by decide +kernel
theorem d311_30 : decode prog_3_method_7_code 30 = .ok (.ifCond .eq 5, 3) := by decide +kernel
theorem d311_33 : decode prog_3_method_7_code 33 = .ok (.iconst 0, 1) := by decide +kernel
theorem d311_34 : decode prog_3_method_7_code 34 = .ok (.ireturn, 1) := by decide +kernel
theorem d311_35 : decode prog_3_method_7_code 35 = .ok (.iinc 2 1, 3) := by decide +kernel
theorem d311_38 : decode prog_3_method_7_code 38 = .ok (.goto (-27), 3) := by decide +kernel
theorem d311_41 : decode prog_3_method_7_code 41 = .ok (.iconst 1, 1) := by decide +kernel
theorem d311_42 : decode prog_3_method_7_code 42 = .ok (.ireturn, 1) := by decide +kernel
theorem pn311 : plainName "com/example/marks_across_domains/marksacrossdomains/Bits" = true := by first | (simp [plainName, overriddenIn]; done) | decide +kernel
theorem ef311 (m : MethodId) (x0 : Addr) (x1 : Addr) : entryFrame m #[(.ref x0), (.ref x1)] 3 = (mkF m 0 #[.val (.ref x0), .val (.ref x1), .unset] []) := by first | (simp [entryFrame, mkF, argsToLocals, Value.category]; done) | rfl
def r311 (u0 : Int64) (t0 : Int64) : Int32 := (if (t0 &&& (u0 ^^^ (-1 : Int64))) = (0 : Int64) then (1 : Int32) else (0 : Int32))
set_option maxRecDepth 65536 in
set_option maxHeartbeats 40000000 in
theorem rm311 (l : Launch) (Z : State) (a0 : Array Value) (hw : ∀ d ∈ tables_1, d.before a0 Z = true) (ws : List Jvm.Cond) (x0 : Addr) (x1 : Addr) (kx : ClassId) (ky : ClassId) (u0 : Int64) (t0 : Int64) (h0 : Heap) (n0 : Nat) (Z0 : n0 ≤ h0.size) (V_x0 : Arv Z h0 x0 kx .long (1 : Int32) [(.long u0)] (.long (0 : Int64))) (V_x1 : Arv Z h0 x1 ky .long (1 : Int32) [(.long t0)] (.long (0 : Int64))) :
    MetFree l (⟨"com/example/marks_across_domains/marksacrossdomains/Bits", "contains", "([J[J)Z"⟩ : MethodName) (head1 (Jvm.Cond.code (⟨"com/example/marks_across_domains/marksacrossdomains/Bits", "contains", "([J[J)Z"⟩ : MethodName) prog_3_method_7_code 3 (some .boolean) :: ws) ({ frames := 0, cells := 0, slots := 0, locals := 0 } : Room)) (fun a U => a = #[(.ref x0), (.ref x1)] ∧ Z.Warmed39 U.vm ∧ U.heap = h0) (fun _ _ _ _ _ => True) (fun _ U o U' => ∃ v L, o = .returned v ∧ (QP (some (.int (r311 u0 t0))) h0 n0) v U'.heap L ∧ FrameEnd U o U' L ({ frames := 0, cells := 0, slots := 0, locals := 0 } : Room).cells ({ frames := 0, cells := 0, slots := 0, locals := 0 } : Room).slots) := by
  refine MetFree.of_bodySF (plainFor_of_name pn311) hisR ?_
  intro p e s m args below meth c s₁ Bd hml0 hP hK
  obtain ⟨rfl, hZ, hh⟩ := hP
  have hx := Bd.exec
  have hby := Bd.bytes
  have hml : c.maxLocals = 3 := hml0
  have hlk : meth.locks = false := BodyLoose.notSynchronized Bd
  have hown : s.vm.findClass "com/example/marks_across_domains/marksacrossdomains/Bits" = some m.cls := findClass_of_methodNamed Bd.named
  have hnm := (name_of_methodNamed Bd.named Bd.method).1
  have hci : ∀ i v, (i, v) ∈ ([] : List (Nat × Int32)) → (Jvm.Cond.constant "com/example/marks_across_domains/marksacrossdomains/Bits" i v).before #[(.ref x0), (.ref x1)] s = true := own_ci0
  have hcl : ∀ i v, (i, v) ∈ ([(7, -1)] : List (Nat × Int64)) → (Jvm.Cond.constantLong "com/example/marks_across_domains/marksacrossdomains/Bits" i v).before #[(.ref x0), (.ref x1)] s = true := (own_ciS (mvT hZ (hw _ (List.mem_of_getElem? (i := 13) rfl))) own_ci0)
  have X0 : Stand p l e ({ frames := 0, cells := 0, slots := 0, locals := 0 } : Room) s m #[(.ref x0), (.ref x1)] below meth c s₁ [] 0 0 := Stand.of_body Bd
  have e0 : s₁.heap = h0 := by rw [← hh, Bd.state]; rfl
  have N0 := Fr.nil n0
  show Goes p e below s (QP (some (.int (r311 u0 t0))) h0 n0) ({ frames := 0, cells := 0, slots := 0, locals := 0 } : Room).cells ({ frames := 0, cells := 0, slots := 0, locals := 0 } : Room).slots (s₁.setTop (entryFrame m #[(.ref x0), (.ref x1)] 3))
  refine Goes.cast (ef311 m x0 x1) ?_
  refine Goes.run X0 hx hown hci hcl hby (L := [(0, .aload_n 1, 1)]) (by decide +kernel) rfl (g' := (mkF m 1 #[.val (.ref x0), .val (.ref x1), .unset] [(.ref x1)])) rfl ?_
  obtain ⟨cl1, Ar1, q1, S1, M1, Hs1, G1⟩ := id V_x1
  refine Goes.st (B := s₁.setTop (mkF m 2 #[.val (.ref x0), .val (.ref x1), .unset] [(.int (1 : Int32))])) (fun t k => ?_) ?_
  · refine X0.arraylength hx (cell := cl1) (by rw [e0]; exact Ar1.1) (State.isArrayOf_alike hZ.alike Ar1.2.1) (g := (mkF m 1 #[.val (.ref x0), .val (.ref x1), .unset] [(.ref x1)])) rfl (rest := []) rfl (hb hby d311_1) _ ?_
    rw [len_of S1 M1]
    exact k
  refine Goes.run X0 hx hown hci hcl hby (L := [(2, .aload_n 0, 1)]) (by decide +kernel) rfl (g' := (mkF m 3 #[.val (.ref x0), .val (.ref x1), .unset] [(.ref x0), (.int (1 : Int32))])) rfl ?_
  obtain ⟨cl2, Ar2, q2, S2, M2, Hs2, G2⟩ := id V_x0
  refine Goes.st (B := s₁.setTop (mkF m 4 #[.val (.ref x0), .val (.ref x1), .unset] [(.int (1 : Int32)), (.int (1 : Int32))])) (fun t k => ?_) ?_
  · refine X0.arraylength hx (cell := cl2) (by rw [e0]; exact Ar2.1) (State.isArrayOf_alike hZ.alike Ar2.2.1) (g := (mkF m 3 #[.val (.ref x0), .val (.ref x1), .unset] [(.ref x0), (.int (1 : Int32))])) rfl (rest := [(.int (1 : Int32))]) rfl (hb hby d311_3) _ ?_
    rw [len_of S2 M2]
    exact k
  have hc4_3 : ¬ ((1 : Int32) < (1 : Int32)) := Int32.lt_irrefl
  refine Goes.st (B := s₁.setTop (mkF m 9 #[.val (.ref x0), .val (.ref x1), .unset] [])) (fun t k => ?_) ?_
  · refine XS.icmpYes X0.here hx rfl (pc0 := 4) (pc' := 9) rfl (hb hby d311_4) rfl (flt hc4_3).2.2.2 (by decide) (by decide) ?_
    exact k
  refine Goes.run X0 hx hown hci hcl hby (L := [(9, .iconst 0, 1), (10, .istore_n 2, 1), (11, .iload_n 2, 1), (12, .aload_n 1, 1)]) (by decide +kernel) rfl (g' := (mkF m 13 #[.val (.ref x0), .val (.ref x1), .val (.int (0 : Int32))] [(.ref x1), (.int (0 : Int32))])) rfl ?_
  obtain ⟨cl4, Ar4, q4, S4, M4, Hs4, G4⟩ := id V_x1
  refine Goes.st (B := s₁.setTop (mkF m 14 #[.val (.ref x0), .val (.ref x1), .val (.int (0 : Int32))] [(.int (1 : Int32)), (.int (0 : Int32))])) (fun t k => ?_) ?_
  · refine X0.arraylength hx (cell := cl4) (by rw [e0]; exact Ar4.1) (State.isArrayOf_alike hZ.alike Ar4.2.1) (g := (mkF m 13 #[.val (.ref x0), .val (.ref x1), .val (.int (0 : Int32))] [(.ref x1), (.int (0 : Int32))])) rfl (rest := [(.int (0 : Int32))]) rfl (hb hby d311_13) _ ?_
    rw [len_of S4 M4]
    exact k
  have hc14_5 : (0 : Int32) < (1 : Int32) := by decide
  refine Goes.st (B := s₁.setTop (mkF m 17 #[.val (.ref x0), .val (.ref x1), .val (.int (0 : Int32))] [])) (fun t k => ?_) ?_
  · refine XS.icmpNo X0.here hx rfl (hb hby d311_14) rfl (tlt hc14_5).2.1 ?_
    exact k
  refine Goes.run X0 hx hown hci hcl hby (L := [(17, .aload_n 1, 1), (18, .iload_n 2, 1)]) (by decide +kernel) rfl (g' := (mkF m 19 #[.val (.ref x0), .val (.ref x1), .val (.int (0 : Int32))] [(.int (0 : Int32)), (.ref x1)])) rfl ?_
  obtain ⟨cl6, Ar6, q6, S6, M6, Hs6, G6⟩ := id V_x1
  have hin6 : ¬ ((0 : Int32) < 0 ∨ cl6.slots.size ≤ ((0 : Int32)).toNatClampNeg) := inb_of S6 ⟨(by decide), (by decide)⟩
  have hat6 : cl6.slots[((0 : Int32)).toNatClampNeg]? = some (.long t0) := Hs6.at hin6 rfl
  refine Goes.st (B := s₁.setTop (mkF m 20 #[.val (.ref x0), .val (.ref x1), .val (.int (0 : Int32))] [(.long t0)])) (X0.laload hx (j := (0 : Int32)) (v := (.long t0)) (by rw [e0]; exact Ar6.1) (State.isArrayOf_alike hZ.alike Ar6.2.1) Ar6.2.2 hin6 hat6 (g := (mkF m 19 #[.val (.ref x0), .val (.ref x1), .val (.int (0 : Int32))] [(.int (0 : Int32)), (.ref x1)])) rfl rfl (hb hby d311_19)) ?_
  refine Goes.run X0 hx hown hci hcl hby (L := [(20, .aload_n 0, 1), (21, .iload_n 2, 1)]) (by decide +kernel) rfl (g' := (mkF m 22 #[.val (.ref x0), .val (.ref x1), .val (.int (0 : Int32))] [(.int (0 : Int32)), (.ref x0), (.long t0)])) rfl ?_
  obtain ⟨cl7, Ar7, q7, S7, M7, Hs7, G7⟩ := id V_x0
  have hin7 : ¬ ((0 : Int32) < 0 ∨ cl7.slots.size ≤ ((0 : Int32)).toNatClampNeg) := inb_of S7 ⟨(by decide), (by decide)⟩
  have hat7 : cl7.slots[((0 : Int32)).toNatClampNeg]? = some (.long u0) := Hs7.at hin7 rfl
  refine Goes.st (B := s₁.setTop (mkF m 23 #[.val (.ref x0), .val (.ref x1), .val (.int (0 : Int32))] [(.long u0), (.long t0)])) (X0.laload hx (j := (0 : Int32)) (v := (.long u0)) (by rw [e0]; exact Ar7.1) (State.isArrayOf_alike hZ.alike Ar7.2.1) Ar7.2.2 hin7 hat7 (g := (mkF m 22 #[.val (.ref x0), .val (.ref x1), .val (.int (0 : Int32))] [(.int (0 : Int32)), (.ref x0), (.long t0)])) rfl rfl (hb hby d311_22)) ?_
  refine Goes.run X0 hx hown hci hcl hby (L := [(23, .ldc2_w 7, 3), (26, .lxor, 1), (27, .land, 1), (28, .lconst 0, 1), (29, .lcmp, 1)]) (by decide +kernel) rfl (g' := (mkF m 30 #[.val (.ref x0), .val (.ref x1), .val (.int (0 : Int32))] [(.int (lcmpW (t0 &&& (u0 ^^^ (-1 : Int64))) (0 : Int64)))])) rfl ?_
  by_cases hc30_8 : (t0 &&& (u0 ^^^ (-1 : Int64))) = (0 : Int64)
  · skip
    refine Goes.st (B := s₁.setTop (mkF m 35 #[.val (.ref x0), .val (.ref x1), .val (.int (0 : Int32))] [])) (fun t k => ?_) ?_
    · refine XS.ifYes X0.here hx rfl (pc0 := 30) (pc' := 35) rfl (hb hby d311_30) rfl (teqL hc30_8).1 (by decide) (by decide) ?_
      exact k
    refine Goes.run X0 hx hown hci hcl hby (L := [(35, .iinc 2 1, 3), (38, .goto (-27), 3), (11, .iload_n 2, 1), (12, .aload_n 1, 1)]) (by decide +kernel) rfl (g' := (mkF m 13 #[.val (.ref x0), .val (.ref x1), .val (.int (1 : Int32))] [(.ref x1), (.int (1 : Int32))])) rfl ?_
    obtain ⟨cl9, Ar9, q9, S9, M9, Hs9, G9⟩ := id V_x1
    refine Goes.st (B := s₁.setTop (mkF m 14 #[.val (.ref x0), .val (.ref x1), .val (.int (1 : Int32))] [(.int (1 : Int32)), (.int (1 : Int32))])) (fun t k => ?_) ?_
    · refine X0.arraylength hx (cell := cl9) (by rw [e0]; exact Ar9.1) (State.isArrayOf_alike hZ.alike Ar9.2.1) (g := (mkF m 13 #[.val (.ref x0), .val (.ref x1), .val (.int (1 : Int32))] [(.ref x1), (.int (1 : Int32))])) rfl (rest := [(.int (1 : Int32))]) rfl (hb hby d311_13) _ ?_
      rw [len_of S9 M9]
      exact k
    have hc14_10 : ¬ ((1 : Int32) < (1 : Int32)) := Int32.lt_irrefl
    refine Goes.st (B := s₁.setTop (mkF m 41 #[.val (.ref x0), .val (.ref x1), .val (.int (1 : Int32))] [])) (fun t k => ?_) ?_
    · refine XS.icmpYes X0.here hx rfl (pc0 := 14) (pc' := 41) rfl (hb hby d311_14) rfl (flt hc14_10).2.1 (by decide) (by decide) ?_
      exact k
    refine Goes.run X0 hx hown hci hcl hby (L := [(41, .iconst 1, 1)]) (by decide +kernel) rfl (g' := (mkF m 42 #[.val (.ref x0), .val (.ref x1), .val (.int (1 : Int32))] [(.int (1 : Int32))])) rfl ?_
    exact Goes.retB X0 hx hlk (t := .boolean) Bd.returns (by simp) (hb hby d311_42) rfl ⟨(congrArg (fun z => some (Value.int z)) (show (r311 u0 t0) = (1 : Int32) from (if_pos hc30_8)).symm), N0, e0⟩ (by decide) (by decide)
  · skip
    refine Goes.st (B := s₁.setTop (mkF m 33 #[.val (.ref x0), .val (.ref x1), .val (.int (0 : Int32))] [])) (fun t k => ?_) ?_
    · refine XS.ifNo X0.here hx rfl (hb hby d311_30) rfl (feqL hc30_8).1 ?_
      exact k
    refine Goes.run X0 hx hown hci hcl hby (L := [(33, .iconst 0, 1)]) (by decide +kernel) rfl (g' := (mkF m 34 #[.val (.ref x0), .val (.ref x1), .val (.int (0 : Int32))] [(.int (0 : Int32))])) rfl ?_
    exact Goes.retB X0 hx hlk (t := .boolean) Bd.returns (by simp) (hb hby d311_34) rfl ⟨(congrArg (fun z => some (Value.int z)) (show (r311 u0 t0) = (0 : Int32) from (if_neg hc30_8)).symm), N0, e0⟩ (by decide) (by decide)
theorem d312_0 : decode prog_3_method_7_code 0 = .ok (.aload_n 1, 1) := by decide +kernel
theorem d312_1 : decode prog_3_method_7_code 1 = .ok (.arraylength, 1) := by decide +kernel
theorem d312_2 : decode prog_3_method_7_code 2 = .ok (.aload_n 0, 1) := by decide +kernel
theorem d312_3 : decode prog_3_method_7_code 3 = .ok (.arraylength, 1) := by decide +kernel
theorem d312_4 : decode prog_3_method_7_code 4 = .ok (.if_icmp .le 5, 3) := by decide +kernel
theorem d312_7 : decode prog_3_method_7_code 7 = .ok (.iconst 0, 1) := by decide +kernel
theorem d312_8 : decode prog_3_method_7_code 8 = .ok (.ireturn, 1) := by decide +kernel
theorem pn312 : plainName "com/example/marks_across_domains/marksacrossdomains/Bits" = true := by first | (simp [plainName, overriddenIn]; done) | decide +kernel
theorem ef312 (m : MethodId) (x0 : Addr) (x1 : Addr) : entryFrame m #[(.ref x0), (.ref x1)] 3 = (mkF m 0 #[.val (.ref x0), .val (.ref x1), .unset] []) := by first | (simp [entryFrame, mkF, argsToLocals, Value.category]; done) | rfl
def r312 (u0 : Int64) (t0 : Int64) (t1 : Int64) : Int32 := (0 : Int32)
set_option maxRecDepth 65536 in
set_option maxHeartbeats 40000000 in
theorem rm312 (l : Launch) (Z : State) (a0 : Array Value) (hw : ∀ d ∈ tables_1, d.before a0 Z = true) (ws : List Jvm.Cond) (x0 : Addr) (x1 : Addr) (kx : ClassId) (ky : ClassId) (u0 : Int64) (t0 : Int64) (t1 : Int64) (h0 : Heap) (n0 : Nat) (Z0 : n0 ≤ h0.size) (V_x0 : Arv Z h0 x0 kx .long (1 : Int32) [(.long u0)] (.long (0 : Int64))) (V_x1 : Arv Z h0 x1 ky .long (2 : Int32) [(.long t0), (.long t1)] (.long (0 : Int64))) :
    MetFree l (⟨"com/example/marks_across_domains/marksacrossdomains/Bits", "contains", "([J[J)Z"⟩ : MethodName) (head1 (Jvm.Cond.code (⟨"com/example/marks_across_domains/marksacrossdomains/Bits", "contains", "([J[J)Z"⟩ : MethodName) prog_3_method_7_code 3 (some .boolean) :: ws) ({ frames := 0, cells := 0, slots := 0, locals := 0 } : Room)) (fun a U => a = #[(.ref x0), (.ref x1)] ∧ Z.Warmed39 U.vm ∧ U.heap = h0) (fun _ _ _ _ _ => True) (fun _ U o U' => ∃ v L, o = .returned v ∧ (QP (some (.int (r312 u0 t0 t1))) h0 n0) v U'.heap L ∧ FrameEnd U o U' L ({ frames := 0, cells := 0, slots := 0, locals := 0 } : Room).cells ({ frames := 0, cells := 0, slots := 0, locals := 0 } : Room).slots) := by
  refine MetFree.of_bodySF (plainFor_of_name pn312) hisR ?_
  intro p e s m args below meth c s₁ Bd hml0 hP hK
  obtain ⟨rfl, hZ, hh⟩ := hP
  have hx := Bd.exec
  have hby := Bd.bytes
  have hml : c.maxLocals = 3 := hml0
  have hlk : meth.locks = false := BodyLoose.notSynchronized Bd
  have hown : s.vm.findClass "com/example/marks_across_domains/marksacrossdomains/Bits" = some m.cls := findClass_of_methodNamed Bd.named
  have hnm := (name_of_methodNamed Bd.named Bd.method).1
  have hci : ∀ i v, (i, v) ∈ ([] : List (Nat × Int32)) → (Jvm.Cond.constant "com/example/marks_across_domains/marksacrossdomains/Bits" i v).before #[(.ref x0), (.ref x1)] s = true := own_ci0
  have hcl : ∀ i v, (i, v) ∈ ([(7, -1)] : List (Nat × Int64)) → (Jvm.Cond.constantLong "com/example/marks_across_domains/marksacrossdomains/Bits" i v).before #[(.ref x0), (.ref x1)] s = true := (own_ciS (mvT hZ (hw _ (List.mem_of_getElem? (i := 13) rfl))) own_ci0)
  have X0 : Stand p l e ({ frames := 0, cells := 0, slots := 0, locals := 0 } : Room) s m #[(.ref x0), (.ref x1)] below meth c s₁ [] 0 0 := Stand.of_body Bd
  have e0 : s₁.heap = h0 := by rw [← hh, Bd.state]; rfl
  have N0 := Fr.nil n0
  show Goes p e below s (QP (some (.int (r312 u0 t0 t1))) h0 n0) ({ frames := 0, cells := 0, slots := 0, locals := 0 } : Room).cells ({ frames := 0, cells := 0, slots := 0, locals := 0 } : Room).slots (s₁.setTop (entryFrame m #[(.ref x0), (.ref x1)] 3))
  refine Goes.cast (ef312 m x0 x1) ?_
  refine Goes.run X0 hx hown hci hcl hby (L := [(0, .aload_n 1, 1)]) (by decide +kernel) rfl (g' := (mkF m 1 #[.val (.ref x0), .val (.ref x1), .unset] [(.ref x1)])) rfl ?_
  obtain ⟨cl1, Ar1, q1, S1, M1, Hs1, G1⟩ := id V_x1
  refine Goes.st (B := s₁.setTop (mkF m 2 #[.val (.ref x0), .val (.ref x1), .unset] [(.int (2 : Int32))])) (fun t k => ?_) ?_
  · refine X0.arraylength hx (cell := cl1) (by rw [e0]; exact Ar1.1) (State.isArrayOf_alike hZ.alike Ar1.2.1) (g := (mkF m 1 #[.val (.ref x0), .val (.ref x1), .unset] [(.ref x1)])) rfl (rest := []) rfl (hb hby d312_1) _ ?_
    rw [len_of S1 M1]
    exact k
  refine Goes.run X0 hx hown hci hcl hby (L := [(2, .aload_n 0, 1)]) (by decide +kernel) rfl (g' := (mkF m 3 #[.val (.ref x0), .val (.ref x1), .unset] [(.ref x0), (.int (2 : Int32))])) rfl ?_
  obtain ⟨cl2, Ar2, q2, S2, M2, Hs2, G2⟩ := id V_x0
  refine Goes.st (B := s₁.setTop (mkF m 4 #[.val (.ref x0), .val (.ref x1), .unset] [(.int (1 : Int32)), (.int (2 : Int32))])) (fun t k => ?_) ?_
  · refine X0.arraylength hx (cell := cl2) (by rw [e0]; exact Ar2.1) (State.isArrayOf_alike hZ.alike Ar2.2.1) (g := (mkF m 3 #[.val (.ref x0), .val (.ref x1), .unset] [(.ref x0), (.int (2 : Int32))])) rfl (rest := [(.int (2 : Int32))]) rfl (hb hby d312_3) _ ?_
    rw [len_of S2 M2]
    exact k
  have hc4_3 : (1 : Int32) < (2 : Int32) := by decide
  refine Goes.st (B := s₁.setTop (mkF m 7 #[.val (.ref x0), .val (.ref x1), .unset] [])) (fun t k => ?_) ?_
  · refine XS.icmpNo X0.here hx rfl (hb hby d312_4) rfl (tlt hc4_3).2.2.2 ?_
    exact k
  refine Goes.run X0 hx hown hci hcl hby (L := [(7, .iconst 0, 1)]) (by decide +kernel) rfl (g' := (mkF m 8 #[.val (.ref x0), .val (.ref x1), .unset] [(.int (0 : Int32))])) rfl ?_
  exact Goes.retB X0 hx hlk (t := .boolean) Bd.returns (by simp) (hb hby d312_8) rfl ⟨(congrArg (fun z => some (Value.int z)) (show (r312 u0 t0 t1) = (0 : Int32) from rfl).symm), N0, e0⟩ (by decide) (by decide)
theorem d320_0 : decode prog_3_method_7_code 0 = .ok (.aload_n 1, 1) := by decide +kernel
theorem d320_1 : decode prog_3_method_7_code 1 = .ok (.arraylength, 1) := by decide +kernel
theorem d320_2 : decode prog_3_method_7_code 2 = .ok (.aload_n 0, 1) := by decide +kernel
theorem d320_3 : decode prog_3_method_7_code 3 = .ok (.arraylength, 1) := by decide +kernel
theorem d320_4 : decode prog_3_method_7_code 4 = .ok (.if_icmp .le 5, 3) := by decide +kernel
theorem d320_9 : decode prog_3_method_7_code 9 = .ok (.iconst 0, 1) := by decide +kernel
theorem d320_10 : decode prog_3_method_7_code 10 = .ok (.istore_n 2, 1) := by decide +kernel
theorem d320_11 : decode prog_3_method_7_code 11 = .ok (.iload_n 2, 1) := by decide +kernel
theorem d320_12 : decode prog_3_method_7_code 12 = .ok (.aload_n 1, 1) := by decide +kernel
theorem d320_13 : decode prog_3_method_7_code 13 = .ok (.arraylength, 1) := by decide +kernel
theorem d320_14 : decode prog_3_method_7_code 14 = .ok (.if_icmp .ge 27, 3) := by decide +kernel
theorem d320_41 : decode prog_3_method_7_code 41 = .ok (.iconst 1, 1) := by decide +kernel
theorem d320_42 : decode prog_3_method_7_code 42 = .ok (.ireturn, 1) := by decide +kernel
theorem pn320 : plainName "com/example/marks_across_domains/marksacrossdomains/Bits" = true := by first | (simp [plainName, overriddenIn]; done) | decide +kernel
theorem ef320 (m : MethodId) (x0 : Addr) (x1 : Addr) : entryFrame m #[(.ref x0), (.ref x1)] 3 = (mkF m 0 #[.val (.ref x0), .val (.ref x1), .unset] []) := by first | (simp [entryFrame, mkF, argsToLocals, Value.category]; done) | rfl
def r320 (u0 : Int64) (u1 : Int64) : Int32 := (1 : Int32)
set_option maxRecDepth 65536 in
set_option maxHeartbeats 40000000 in
theorem rm320 (l : Launch) (Z : State) (a0 : Array Value) (hw : ∀ d ∈ tables_1, d.before a0 Z = true) (ws : List Jvm.Cond) (x0 : Addr) (x1 : Addr) (kx : ClassId) (ky : ClassId) (u0 : Int64) (u1 : Int64) (h0 : Heap) (n0 : Nat) (Z0 : n0 ≤ h0.size) (V_x0 : Arv Z h0 x0 kx .long (2 : Int32) [(.long u0), (.long u1)] (.long (0 : Int64))) (V_x1 : Arv Z h0 x1 ky .long (0 : Int32) [] (.long (0 : Int64))) :
    MetFree l (⟨"com/example/marks_across_domains/marksacrossdomains/Bits", "contains", "([J[J)Z"⟩ : MethodName) (head1 (Jvm.Cond.code (⟨"com/example/marks_across_domains/marksacrossdomains/Bits", "contains", "([J[J)Z"⟩ : MethodName) prog_3_method_7_code 3 (some .boolean) :: ws) ({ frames := 0, cells := 0, slots := 0, locals := 0 } : Room)) (fun a U => a = #[(.ref x0), (.ref x1)] ∧ Z.Warmed39 U.vm ∧ U.heap = h0) (fun _ _ _ _ _ => True) (fun _ U o U' => ∃ v L, o = .returned v ∧ (QP (some (.int (r320 u0 u1))) h0 n0) v U'.heap L ∧ FrameEnd U o U' L ({ frames := 0, cells := 0, slots := 0, locals := 0 } : Room).cells ({ frames := 0, cells := 0, slots := 0, locals := 0 } : Room).slots) := by
  refine MetFree.of_bodySF (plainFor_of_name pn320) hisR ?_
  intro p e s m args below meth c s₁ Bd hml0 hP hK
  obtain ⟨rfl, hZ, hh⟩ := hP
  have hx := Bd.exec
  have hby := Bd.bytes
  have hml : c.maxLocals = 3 := hml0
  have hlk : meth.locks = false := BodyLoose.notSynchronized Bd
  have hown : s.vm.findClass "com/example/marks_across_domains/marksacrossdomains/Bits" = some m.cls := findClass_of_methodNamed Bd.named
  have hnm := (name_of_methodNamed Bd.named Bd.method).1
  have hci : ∀ i v, (i, v) ∈ ([] : List (Nat × Int32)) → (Jvm.Cond.constant "com/example/marks_across_domains/marksacrossdomains/Bits" i v).before #[(.ref x0), (.ref x1)] s = true := own_ci0
  have hcl : ∀ i v, (i, v) ∈ ([(7, -1)] : List (Nat × Int64)) → (Jvm.Cond.constantLong "com/example/marks_across_domains/marksacrossdomains/Bits" i v).before #[(.ref x0), (.ref x1)] s = true := (own_ciS (mvT hZ (hw _ (List.mem_of_getElem? (i := 13) rfl))) own_ci0)
  have X0 : Stand p l e ({ frames := 0, cells := 0, slots := 0, locals := 0 } : Room) s m #[(.ref x0), (.ref x1)] below meth c s₁ [] 0 0 := Stand.of_body Bd
  have e0 : s₁.heap = h0 := by rw [← hh, Bd.state]; rfl
  have N0 := Fr.nil n0
  show Goes p e below s (QP (some (.int (r320 u0 u1))) h0 n0) ({ frames := 0, cells := 0, slots := 0, locals := 0 } : Room).cells ({ frames := 0, cells := 0, slots := 0, locals := 0 } : Room).slots (s₁.setTop (entryFrame m #[(.ref x0), (.ref x1)] 3))
  refine Goes.cast (ef320 m x0 x1) ?_
  refine Goes.run X0 hx hown hci hcl hby (L := [(0, .aload_n 1, 1)]) (by decide +kernel) rfl (g' := (mkF m 1 #[.val (.ref x0), .val (.ref x1), .unset] [(.ref x1)])) rfl ?_
  obtain ⟨cl1, Ar1, q1, S1, M1, Hs1, G1⟩ := id V_x1
  refine Goes.st (B := s₁.setTop (mkF m 2 #[.val (.ref x0), .val (.ref x1), .unset] [(.int (0 : Int32))])) (fun t k => ?_) ?_
  · refine X0.arraylength hx (cell := cl1) (by rw [e0]; exact Ar1.1) (State.isArrayOf_alike hZ.alike Ar1.2.1) (g := (mkF m 1 #[.val (.ref x0), .val (.ref x1), .unset] [(.ref x1)])) rfl (rest := []) rfl (hb hby d320_1) _ ?_
    rw [len_of S1 M1]
    exact k
  refine Goes.run X0 hx hown hci hcl hby (L := [(2, .aload_n 0, 1)]) (by decide +kernel) rfl (g' := (mkF m 3 #[.val (.ref x0), .val (.ref x1), .unset] [(.ref x0), (.int (0 : Int32))])) rfl ?_
  obtain ⟨cl2, Ar2, q2, S2, M2, Hs2, G2⟩ := id V_x0
  refine Goes.st (B := s₁.setTop (mkF m 4 #[.val (.ref x0), .val (.ref x1), .unset] [(.int (2 : Int32)), (.int (0 : Int32))])) (fun t k => ?_) ?_
  · refine X0.arraylength hx (cell := cl2) (by rw [e0]; exact Ar2.1) (State.isArrayOf_alike hZ.alike Ar2.2.1) (g := (mkF m 3 #[.val (.ref x0), .val (.ref x1), .unset] [(.ref x0), (.int (0 : Int32))])) rfl (rest := [(.int (0 : Int32))]) rfl (hb hby d320_3) _ ?_
    rw [len_of S2 M2]
    exact k
  have hc4_3 : ¬ ((2 : Int32) < (0 : Int32)) := by decide
  refine Goes.st (B := s₁.setTop (mkF m 9 #[.val (.ref x0), .val (.ref x1), .unset] [])) (fun t k => ?_) ?_
  · refine XS.icmpYes X0.here hx rfl (pc0 := 4) (pc' := 9) rfl (hb hby d320_4) rfl (flt hc4_3).2.2.2 (by decide) (by decide) ?_
    exact k
  refine Goes.run X0 hx hown hci hcl hby (L := [(9, .iconst 0, 1), (10, .istore_n 2, 1), (11, .iload_n 2, 1), (12, .aload_n 1, 1)]) (by decide +kernel) rfl (g' := (mkF m 13 #[.val (.ref x0), .val (.ref x1), .val (.int (0 : Int32))] [(.ref x1), (.int (0 : Int32))])) rfl ?_
  obtain ⟨cl4, Ar4, q4, S4, M4, Hs4, G4⟩ := id V_x1
  refine Goes.st (B := s₁.setTop (mkF m 14 #[.val (.ref x0), .val (.ref x1), .val (.int (0 : Int32))] [(.int (0 : Int32)), (.int (0 : Int32))])) (fun t k => ?_) ?_
  · refine X0.arraylength hx (cell := cl4) (by rw [e0]; exact Ar4.1) (State.isArrayOf_alike hZ.alike Ar4.2.1) (g := (mkF m 13 #[.val (.ref x0), .val (.ref x1), .val (.int (0 : Int32))] [(.ref x1), (.int (0 : Int32))])) rfl (rest := [(.int (0 : Int32))]) rfl (hb hby d320_13) _ ?_
    rw [len_of S4 M4]
    exact k
  have hc14_5 : ¬ ((0 : Int32) < (0 : Int32)) := Int32.lt_irrefl
  refine Goes.st (B := s₁.setTop (mkF m 41 #[.val (.ref x0), .val (.ref x1), .val (.int (0 : Int32))] [])) (fun t k => ?_) ?_
  · refine XS.icmpYes X0.here hx rfl (pc0 := 14) (pc' := 41) rfl (hb hby d320_14) rfl (flt hc14_5).2.1 (by decide) (by decide) ?_
    exact k
  refine Goes.run X0 hx hown hci hcl hby (L := [(41, .iconst 1, 1)]) (by decide +kernel) rfl (g' := (mkF m 42 #[.val (.ref x0), .val (.ref x1), .val (.int (0 : Int32))] [(.int (1 : Int32))])) rfl ?_
  exact Goes.retB X0 hx hlk (t := .boolean) Bd.returns (by simp) (hb hby d320_42) rfl ⟨(congrArg (fun z => some (Value.int z)) (show (r320 u0 u1) = (1 : Int32) from rfl).symm), N0, e0⟩ (by decide) (by decide)
theorem d321_0 : decode prog_3_method_7_code 0 = .ok (.aload_n 1, 1) := by decide +kernel
theorem d321_1 : decode prog_3_method_7_code 1 = .ok (.arraylength, 1) := by decide +kernel
theorem d321_2 : decode prog_3_method_7_code 2 = .ok (.aload_n 0, 1) := by decide +kernel
theorem d321_3 : decode prog_3_method_7_code 3 = .ok (.arraylength, 1) := by decide +kernel
theorem d321_4 : decode prog_3_method_7_code 4 = .ok (.if_icmp .le 5, 3) := by decide +kernel
theorem d321_9 : decode prog_3_method_7_code 9 = .ok (.iconst 0, 1) := by decide +kernel
theorem d321_10 : decode prog_3_method_7_code 10 = .ok (.istore_n 2, 1) := by decide +kernel
theorem d321_11 : decode prog_3_method_7_code 11 = .ok (.iload_n 2, 1) := by decide +kernel
theorem d321_12 : decode prog_3_method_7_code 12 = .ok (.aload_n 1, 1) := by decide +kernel
theorem d321_13 : decode prog_3_method_7_code 13 = .ok (.arraylength, 1) := by decide +kernel
theorem d321_14 : decode prog_3_method_7_code 14 = .ok (.if_icmp .ge 27, 3) := by decide +kernel
theorem d321_17 : decode prog_3_method_7_code 17 = .ok (.aload_n 1, 1) := by decide +kernel
theorem d321_18 : decode prog_3_method_7_code 18 = .ok (.iload_n 2, 1) := by decide +kernel
theorem d321_19 : decode prog_3_method_7_code 19 = .ok (.laload, 1) := by decide +kernel
theorem d321_20 : decode prog_3_method_7_code 20 = .ok (.aload_n 0, 1) := by decide +kernel
theorem d321_21 : decode prog_3_method_7_code 21 = .ok (.iload_n 2, 1) := by decide +kernel
theorem d321_22 : decode prog_3_method_7_code 22 = .ok (.laload, 1) := by decide +kernel
theorem d321_23 : decode prog_3_method_7_code 23 = .ok (.ldc2_w 7, 3) := by decide +kernel
theorem d321_26 : decode prog_3_method_7_code 26 = .ok (.lxor, 1) := by decide +kernel
theorem d321_27 : decode prog_3_method_7_code 27 = .ok (.land, 1) := by decide +kernel
theorem d321_28 : decode prog_3_method_7_code 28 = .ok (.lconst 0, 1) := by decide +kernel
theorem d321_29 : decode prog_3_method_7_code 29 = .ok (.lcmp, 1) := by decide +kernel
theorem d321_30 : decode prog_3_method_7_code 30 = .ok (.ifCond .eq 5, 3) := by decide +kernel
theorem d321_33 : decode prog_3_method_7_code 33 = .ok (.iconst 0, 1) := by decide +kernel
theorem d321_34 : decode prog_3_method_7_code 34 = .ok (.ireturn, 1) := by decide +kernel
theorem d321_35 : decode prog_3_method_7_code 35 = .ok (.iinc 2 1, 3) := by decide +kernel
theorem d321_38 : decode prog_3_method_7_code 38 = .ok (.goto (-27), 3) := by decide +kernel
theorem d321_41 : decode prog_3_method_7_code 41 = .ok (.iconst 1, 1) := by decide +kernel
theorem d321_42 : decode prog_3_method_7_code 42 = .ok (.ireturn, 1) := by decide +kernel
theorem pn321 : plainName "com/example/marks_across_domains/marksacrossdomains/Bits" = true := by first | (simp [plainName, overriddenIn]; done) | decide +kernel
theorem ef321 (m : MethodId) (x0 : Addr) (x1 : Addr) : entryFrame m #[(.ref x0), (.ref x1)] 3 = (mkF m 0 #[.val (.ref x0), .val (.ref x1), .unset] []) := by first | (simp [entryFrame, mkF, argsToLocals, Value.category]; done) | rfl
def r321 (u0 : Int64) (u1 : Int64) (t0 : Int64) : Int32 := (if (t0 &&& (u0 ^^^ (-1 : Int64))) = (0 : Int64) then (1 : Int32) else (0 : Int32))
set_option maxRecDepth 65536 in
set_option maxHeartbeats 40000000 in
theorem rm321 (l : Launch) (Z : State) (a0 : Array Value) (hw : ∀ d ∈ tables_1, d.before a0 Z = true) (ws : List Jvm.Cond) (x0 : Addr) (x1 : Addr) (kx : ClassId) (ky : ClassId) (u0 : Int64) (u1 : Int64) (t0 : Int64) (h0 : Heap) (n0 : Nat) (Z0 : n0 ≤ h0.size) (V_x0 : Arv Z h0 x0 kx .long (2 : Int32) [(.long u0), (.long u1)] (.long (0 : Int64))) (V_x1 : Arv Z h0 x1 ky .long (1 : Int32) [(.long t0)] (.long (0 : Int64))) :
    MetFree l (⟨"com/example/marks_across_domains/marksacrossdomains/Bits", "contains", "([J[J)Z"⟩ : MethodName) (head1 (Jvm.Cond.code (⟨"com/example/marks_across_domains/marksacrossdomains/Bits", "contains", "([J[J)Z"⟩ : MethodName) prog_3_method_7_code 3 (some .boolean) :: ws) ({ frames := 0, cells := 0, slots := 0, locals := 0 } : Room)) (fun a U => a = #[(.ref x0), (.ref x1)] ∧ Z.Warmed39 U.vm ∧ U.heap = h0) (fun _ _ _ _ _ => True) (fun _ U o U' => ∃ v L, o = .returned v ∧ (QP (some (.int (r321 u0 u1 t0))) h0 n0) v U'.heap L ∧ FrameEnd U o U' L ({ frames := 0, cells := 0, slots := 0, locals := 0 } : Room).cells ({ frames := 0, cells := 0, slots := 0, locals := 0 } : Room).slots) := by
  refine MetFree.of_bodySF (plainFor_of_name pn321) hisR ?_
  intro p e s m args below meth c s₁ Bd hml0 hP hK
  obtain ⟨rfl, hZ, hh⟩ := hP
  have hx := Bd.exec
  have hby := Bd.bytes
  have hml : c.maxLocals = 3 := hml0
  have hlk : meth.locks = false := BodyLoose.notSynchronized Bd
  have hown : s.vm.findClass "com/example/marks_across_domains/marksacrossdomains/Bits" = some m.cls := findClass_of_methodNamed Bd.named
  have hnm := (name_of_methodNamed Bd.named Bd.method).1
  have hci : ∀ i v, (i, v) ∈ ([] : List (Nat × Int32)) → (Jvm.Cond.constant "com/example/marks_across_domains/marksacrossdomains/Bits" i v).before #[(.ref x0), (.ref x1)] s = true := own_ci0
  have hcl : ∀ i v, (i, v) ∈ ([(7, -1)] : List (Nat × Int64)) → (Jvm.Cond.constantLong "com/example/marks_across_domains/marksacrossdomains/Bits" i v).before #[(.ref x0), (.ref x1)] s = true := (own_ciS (mvT hZ (hw _ (List.mem_of_getElem? (i := 13) rfl))) own_ci0)
  have X0 : Stand p l e ({ frames := 0, cells := 0, slots := 0, locals := 0 } : Room) s m #[(.ref x0), (.ref x1)] below meth c s₁ [] 0 0 := Stand.of_body Bd
  have e0 : s₁.heap = h0 := by rw [← hh, Bd.state]; rfl
  have N0 := Fr.nil n0
  show Goes p e below s (QP (some (.int (r321 u0 u1 t0))) h0 n0) ({ frames := 0, cells := 0, slots := 0, locals := 0 } : Room).cells ({ frames := 0, cells := 0, slots := 0, locals := 0 } : Room).slots (s₁.setTop (entryFrame m #[(.ref x0), (.ref x1)] 3))
  refine Goes.cast (ef321 m x0 x1) ?_
  refine Goes.run X0 hx hown hci hcl hby (L := [(0, .aload_n 1, 1)]) (by decide +kernel) rfl (g' := (mkF m 1 #[.val (.ref x0), .val (.ref x1), .unset] [(.ref x1)])) rfl ?_
  obtain ⟨cl1, Ar1, q1, S1, M1, Hs1, G1⟩ := id V_x1
  refine Goes.st (B := s₁.setTop (mkF m 2 #[.val (.ref x0), .val (.ref x1), .unset] [(.int (1 : Int32))])) (fun t k => ?_) ?_
  · refine X0.arraylength hx (cell := cl1) (by rw [e0]; exact Ar1.1) (State.isArrayOf_alike hZ.alike Ar1.2.1) (g := (mkF m 1 #[.val (.ref x0), .val (.ref x1), .unset] [(.ref x1)])) rfl (rest := []) rfl (hb hby d321_1) _ ?_
    rw [len_of S1 M1]
    exact k
  refine Goes.run X0 hx hown hci hcl hby (L := [(2, .aload_n 0, 1)]) (by decide +kernel) rfl (g' := (mkF m 3 #[.val (.ref x0), .val (.ref x1), .unset] [(.ref x0), (.int (1 : Int32))])) rfl ?_
  obtain ⟨cl2, Ar2, q2, S2, M2, Hs2, G2⟩ := id V_x0
  refine Goes.st (B := s₁.setTop (mkF m 4 #[.val (.ref x0), .val (.ref x1), .unset] [(.int (2 : Int32)), (.int (1 : Int32))])) (fun t k => ?_) ?_
  · refine X0.arraylength hx (cell := cl2) (by rw [e0]; exact Ar2.1) (State.isArrayOf_alike hZ.alike Ar2.2.1) (g := (mkF m 3 #[.val (.ref x0), .val (.ref x1), .unset] [(.ref x0), (.int (1 : Int32))])) rfl (rest := [(.int (1 : Int32))]) rfl (hb hby d321_3) _ ?_
    rw [len_of S2 M2]
    exact k
  have hc4_3 : ¬ ((2 : Int32) < (1 : Int32)) := by decide
  refine Goes.st (B := s₁.setTop (mkF m 9 #[.val (.ref x0), .val (.ref x1), .unset] [])) (fun t k => ?_) ?_
  · refine XS.icmpYes X0.here hx rfl (pc0 := 4) (pc' := 9) rfl (hb hby d321_4) rfl (flt hc4_3).2.2.2 (by decide) (by decide) ?_
    exact k
  refine Goes.run X0 hx hown hci hcl hby (L := [(9, .iconst 0, 1), (10, .istore_n 2, 1), (11, .iload_n 2, 1), (12, .aload_n 1, 1)]) (by decide +kernel) rfl (g' := (mkF m 13 #[.val (.ref x0), .val (.ref x1), .val (.int (0 : Int32))] [(.ref x1), (.int (0 : Int32))])) rfl ?_
  obtain ⟨cl4, Ar4, q4, S4, M4, Hs4, G4⟩ := id V_x1
  refine Goes.st (B := s₁.setTop (mkF m 14 #[.val (.ref x0), .val (.ref x1), .val (.int (0 : Int32))] [(.int (1 : Int32)), (.int (0 : Int32))])) (fun t k => ?_) ?_
  · refine X0.arraylength hx (cell := cl4) (by rw [e0]; exact Ar4.1) (State.isArrayOf_alike hZ.alike Ar4.2.1) (g := (mkF m 13 #[.val (.ref x0), .val (.ref x1), .val (.int (0 : Int32))] [(.ref x1), (.int (0 : Int32))])) rfl (rest := [(.int (0 : Int32))]) rfl (hb hby d321_13) _ ?_
    rw [len_of S4 M4]
    exact k
  have hc14_5 : (0 : Int32) < (1 : Int32) := by decide
  refine Goes.st (B := s₁.setTop (mkF m 17 #[.val (.ref x0), .val (.ref x1), .val (.int (0 : Int32))] [])) (fun t k => ?_) ?_
  · refine XS.icmpNo X0.here hx rfl (hb hby d321_14) rfl (tlt hc14_5).2.1 ?_
    exact k
  refine Goes.run X0 hx hown hci hcl hby (L := [(17, .aload_n 1, 1), (18, .iload_n 2, 1)]) (by decide +kernel) rfl (g' := (mkF m 19 #[.val (.ref x0), .val (.ref x1), .val (.int (0 : Int32))] [(.int (0 : Int32)), (.ref x1)])) rfl ?_
  obtain ⟨cl6, Ar6, q6, S6, M6, Hs6, G6⟩ := id V_x1
  have hin6 : ¬ ((0 : Int32) < 0 ∨ cl6.slots.size ≤ ((0 : Int32)).toNatClampNeg) := inb_of S6 ⟨(by decide), (by decide)⟩
  have hat6 : cl6.slots[((0 : Int32)).toNatClampNeg]? = some (.long t0) := Hs6.at hin6 rfl
  refine Goes.st (B := s₁.setTop (mkF m 20 #[.val (.ref x0), .val (.ref x1), .val (.int (0 : Int32))] [(.long t0)])) (X0.laload hx (j := (0 : Int32)) (v := (.long t0)) (by rw [e0]; exact Ar6.1) (State.isArrayOf_alike hZ.alike Ar6.2.1) Ar6.2.2 hin6 hat6 (g := (mkF m 19 #[.val (.ref x0), .val (.ref x1), .val (.int (0 : Int32))] [(.int (0 : Int32)), (.ref x1)])) rfl rfl (hb hby d321_19)) ?_
  refine Goes.run X0 hx hown hci hcl hby (L := [(20, .aload_n 0, 1), (21, .iload_n 2, 1)]) (by decide +kernel) rfl (g' := (mkF m 22 #[.val (.ref x0), .val (.ref x1), .val (.int (0 : Int32))] [(.int (0 : Int32)), (.ref x0), (.long t0)])) rfl ?_
  obtain ⟨cl7, Ar7, q7, S7, M7, Hs7, G7⟩ := id V_x0
  have hin7 : ¬ ((0 : Int32) < 0 ∨ cl7.slots.size ≤ ((0 : Int32)).toNatClampNeg) := inb_of S7 ⟨(by decide), (by decide)⟩
  have hat7 : cl7.slots[((0 : Int32)).toNatClampNeg]? = some (.long u0) := Hs7.at hin7 rfl
  refine Goes.st (B := s₁.setTop (mkF m 23 #[.val (.ref x0), .val (.ref x1), .val (.int (0 : Int32))] [(.long u0), (.long t0)])) (X0.laload hx (j := (0 : Int32)) (v := (.long u0)) (by rw [e0]; exact Ar7.1) (State.isArrayOf_alike hZ.alike Ar7.2.1) Ar7.2.2 hin7 hat7 (g := (mkF m 22 #[.val (.ref x0), .val (.ref x1), .val (.int (0 : Int32))] [(.int (0 : Int32)), (.ref x0), (.long t0)])) rfl rfl (hb hby d321_22)) ?_
  refine Goes.run X0 hx hown hci hcl hby (L := [(23, .ldc2_w 7, 3), (26, .lxor, 1), (27, .land, 1), (28, .lconst 0, 1), (29, .lcmp, 1)]) (by decide +kernel) rfl (g' := (mkF m 30 #[.val (.ref x0), .val (.ref x1), .val (.int (0 : Int32))] [(.int (lcmpW (t0 &&& (u0 ^^^ (-1 : Int64))) (0 : Int64)))])) rfl ?_
  by_cases hc30_8 : (t0 &&& (u0 ^^^ (-1 : Int64))) = (0 : Int64)
  · skip
    refine Goes.st (B := s₁.setTop (mkF m 35 #[.val (.ref x0), .val (.ref x1), .val (.int (0 : Int32))] [])) (fun t k => ?_) ?_
    · refine XS.ifYes X0.here hx rfl (pc0 := 30) (pc' := 35) rfl (hb hby d321_30) rfl (teqL hc30_8).1 (by decide) (by decide) ?_
      exact k
    refine Goes.run X0 hx hown hci hcl hby (L := [(35, .iinc 2 1, 3), (38, .goto (-27), 3), (11, .iload_n 2, 1), (12, .aload_n 1, 1)]) (by decide +kernel) rfl (g' := (mkF m 13 #[.val (.ref x0), .val (.ref x1), .val (.int (1 : Int32))] [(.ref x1), (.int (1 : Int32))])) rfl ?_
    obtain ⟨cl9, Ar9, q9, S9, M9, Hs9, G9⟩ := id V_x1
    refine Goes.st (B := s₁.setTop (mkF m 14 #[.val (.ref x0), .val (.ref x1), .val (.int (1 : Int32))] [(.int (1 : Int32)), (.int (1 : Int32))])) (fun t k => ?_) ?_
    · refine X0.arraylength hx (cell := cl9) (by rw [e0]; exact Ar9.1) (State.isArrayOf_alike hZ.alike Ar9.2.1) (g := (mkF m 13 #[.val (.ref x0), .val (.ref x1), .val (.int (1 : Int32))] [(.ref x1), (.int (1 : Int32))])) rfl (rest := [(.int (1 : Int32))]) rfl (hb hby d321_13) _ ?_
      rw [len_of S9 M9]
      exact k
    have hc14_10 : ¬ ((1 : Int32) < (1 : Int32)) := Int32.lt_irrefl
    refine Goes.st (B := s₁.setTop (mkF m 41 #[.val (.ref x0), .val (.ref x1), .val (.int (1 : Int32))] [])) (fun t k => ?_) ?_
    · refine XS.icmpYes X0.here hx rfl (pc0 := 14) (pc' := 41) rfl (hb hby d321_14) rfl (flt hc14_10).2.1 (by decide) (by decide) ?_
      exact k
    refine Goes.run X0 hx hown hci hcl hby (L := [(41, .iconst 1, 1)]) (by decide +kernel) rfl (g' := (mkF m 42 #[.val (.ref x0), .val (.ref x1), .val (.int (1 : Int32))] [(.int (1 : Int32))])) rfl ?_
    exact Goes.retB X0 hx hlk (t := .boolean) Bd.returns (by simp) (hb hby d321_42) rfl ⟨(congrArg (fun z => some (Value.int z)) (show (r321 u0 u1 t0) = (1 : Int32) from (if_pos hc30_8)).symm), N0, e0⟩ (by decide) (by decide)
  · skip
    refine Goes.st (B := s₁.setTop (mkF m 33 #[.val (.ref x0), .val (.ref x1), .val (.int (0 : Int32))] [])) (fun t k => ?_) ?_
    · refine XS.ifNo X0.here hx rfl (hb hby d321_30) rfl (feqL hc30_8).1 ?_
      exact k
    refine Goes.run X0 hx hown hci hcl hby (L := [(33, .iconst 0, 1)]) (by decide +kernel) rfl (g' := (mkF m 34 #[.val (.ref x0), .val (.ref x1), .val (.int (0 : Int32))] [(.int (0 : Int32))])) rfl ?_
    exact Goes.retB X0 hx hlk (t := .boolean) Bd.returns (by simp) (hb hby d321_34) rfl ⟨(congrArg (fun z => some (Value.int z)) (show (r321 u0 u1 t0) = (0 : Int32) from (if_neg hc30_8)).symm), N0, e0⟩ (by decide) (by decide)
theorem d322_0 : decode prog_3_method_7_code 0 = .ok (.aload_n 1, 1) := by decide +kernel
theorem d322_1 : decode prog_3_method_7_code 1 = .ok (.arraylength, 1) := by decide +kernel
theorem d322_2 : decode prog_3_method_7_code 2 = .ok (.aload_n 0, 1) := by decide +kernel
theorem d322_3 : decode prog_3_method_7_code 3 = .ok (.arraylength, 1) := by decide +kernel
theorem d322_4 : decode prog_3_method_7_code 4 = .ok (.if_icmp .le 5, 3) := by decide +kernel
theorem d322_9 : decode prog_3_method_7_code 9 = .ok (.iconst 0, 1) := by decide +kernel
theorem d322_10 : decode prog_3_method_7_code 10 = .ok (.istore_n 2, 1) := by decide +kernel
theorem d322_11 : decode prog_3_method_7_code 11 = .ok (.iload_n 2, 1) := by decide +kernel
theorem d322_12 : decode prog_3_method_7_code 12 = .ok (.aload_n 1, 1) := by decide +kernel
theorem d322_13 : decode prog_3_method_7_code 13 = .ok (.arraylength, 1) := by decide +kernel
theorem d322_14 : decode prog_3_method_7_code 14 = .ok (.if_icmp .ge 27, 3) := by decide +kernel
theorem d322_17 : decode prog_3_method_7_code 17 = .ok (.aload_n 1, 1) := by decide +kernel
theorem d322_18 : decode prog_3_method_7_code 18 = .ok (.iload_n 2, 1) := by decide +kernel
theorem d322_19 : decode prog_3_method_7_code 19 = .ok (.laload, 1) := by decide +kernel
theorem d322_20 : decode prog_3_method_7_code 20 = .ok (.aload_n 0, 1) := by decide +kernel
theorem d322_21 : decode prog_3_method_7_code 21 = .ok (.iload_n 2, 1) := by decide +kernel
theorem d322_22 : decode prog_3_method_7_code 22 = .ok (.laload, 1) := by decide +kernel
theorem d322_23 : decode prog_3_method_7_code 23 = .ok (.ldc2_w 7, 3) := by decide +kernel
theorem d322_26 : decode prog_3_method_7_code 26 = .ok (.lxor, 1) := by decide +kernel
theorem d322_27 : decode prog_3_method_7_code 27 = .ok (.land, 1) := by decide +kernel
theorem d322_28 : decode prog_3_method_7_code 28 = .ok (.lconst 0, 1) := by decide +kernel
theorem d322_29 : decode prog_3_method_7_code 29 = .ok (.lcmp, 1) := by decide +kernel
theorem d322_30 : decode prog_3_method_7_code 30 = .ok (.ifCond .eq 5, 3) := by decide +kernel
theorem d322_33 : decode prog_3_method_7_code 33 = .ok (.iconst 0, 1) := by decide +kernel
theorem d322_34 : decode prog_3_method_7_code 34 = .ok (.ireturn, 1) := by decide +kernel
theorem d322_35 : decode prog_3_method_7_code 35 = .ok (.iinc 2 1, 3) := by decide +kernel
theorem d322_38 : decode prog_3_method_7_code 38 = .ok (.goto (-27), 3) := by decide +kernel
theorem d322_41 : decode prog_3_method_7_code 41 = .ok (.iconst 1, 1) := by decide +kernel
theorem d322_42 : decode prog_3_method_7_code 42 = .ok (.ireturn, 1) := by decide +kernel
theorem pn322 : plainName "com/example/marks_across_domains/marksacrossdomains/Bits" = true := by first | (simp [plainName, overriddenIn]; done) | decide +kernel
theorem ef322 (m : MethodId) (x0 : Addr) (x1 : Addr) : entryFrame m #[(.ref x0), (.ref x1)] 3 = (mkF m 0 #[.val (.ref x0), .val (.ref x1), .unset] []) := by first | (simp [entryFrame, mkF, argsToLocals, Value.category]; done) | rfl
def r322 (u0 : Int64) (u1 : Int64) (t0 : Int64) (t1 : Int64) : Int32 := (if (t0 &&& (u0 ^^^ (-1 : Int64))) = (0 : Int64) then (if (t1 &&& (u1 ^^^ (-1 : Int64))) = (0 : Int64) then (1 : Int32) else (0 : Int32)) else (0 : Int32))
set_option maxRecDepth 65536 in
set_option maxHeartbeats 40000000 in
theorem rm322 (l : Launch) (Z : State) (a0 : Array Value) (hw : ∀ d ∈ tables_1, d.before a0 Z = true) (ws : List Jvm.Cond) (x0 : Addr) (x1 : Addr) (kx : ClassId) (ky : ClassId) (u0 : Int64) (u1 : Int64) (t0 : Int64) (t1 : Int64) (h0 : Heap) (n0 : Nat) (Z0 : n0 ≤ h0.size) (V_x0 : Arv Z h0 x0 kx .long (2 : Int32) [(.long u0), (.long u1)] (.long (0 : Int64))) (V_x1 : Arv Z h0 x1 ky .long (2 : Int32) [(.long t0), (.long t1)] (.long (0 : Int64))) :
    MetFree l (⟨"com/example/marks_across_domains/marksacrossdomains/Bits", "contains", "([J[J)Z"⟩ : MethodName) (head1 (Jvm.Cond.code (⟨"com/example/marks_across_domains/marksacrossdomains/Bits", "contains", "([J[J)Z"⟩ : MethodName) prog_3_method_7_code 3 (some .boolean) :: ws) ({ frames := 0, cells := 0, slots := 0, locals := 0 } : Room)) (fun a U => a = #[(.ref x0), (.ref x1)] ∧ Z.Warmed39 U.vm ∧ U.heap = h0) (fun _ _ _ _ _ => True) (fun _ U o U' => ∃ v L, o = .returned v ∧ (QP (some (.int (r322 u0 u1 t0 t1))) h0 n0) v U'.heap L ∧ FrameEnd U o U' L ({ frames := 0, cells := 0, slots := 0, locals := 0 } : Room).cells ({ frames := 0, cells := 0, slots := 0, locals := 0 } : Room).slots) := by
  refine MetFree.of_bodySF (plainFor_of_name pn322) hisR ?_
  intro p e s m args below meth c s₁ Bd hml0 hP hK
  obtain ⟨rfl, hZ, hh⟩ := hP
  have hx := Bd.exec
  have hby := Bd.bytes
  have hml : c.maxLocals = 3 := hml0
  have hlk : meth.locks = false := BodyLoose.notSynchronized Bd
  have hown : s.vm.findClass "com/example/marks_across_domains/marksacrossdomains/Bits" = some m.cls := findClass_of_methodNamed Bd.named
  have hnm := (name_of_methodNamed Bd.named Bd.method).1
  have hci : ∀ i v, (i, v) ∈ ([] : List (Nat × Int32)) → (Jvm.Cond.constant "com/example/marks_across_domains/marksacrossdomains/Bits" i v).before #[(.ref x0), (.ref x1)] s = true := own_ci0
  have hcl : ∀ i v, (i, v) ∈ ([(7, -1)] : List (Nat × Int64)) → (Jvm.Cond.constantLong "com/example/marks_across_domains/marksacrossdomains/Bits" i v).before #[(.ref x0), (.ref x1)] s = true := (own_ciS (mvT hZ (hw _ (List.mem_of_getElem? (i := 13) rfl))) own_ci0)
  have X0 : Stand p l e ({ frames := 0, cells := 0, slots := 0, locals := 0 } : Room) s m #[(.ref x0), (.ref x1)] below meth c s₁ [] 0 0 := Stand.of_body Bd
  have e0 : s₁.heap = h0 := by rw [← hh, Bd.state]; rfl
  have N0 := Fr.nil n0
  show Goes p e below s (QP (some (.int (r322 u0 u1 t0 t1))) h0 n0) ({ frames := 0, cells := 0, slots := 0, locals := 0 } : Room).cells ({ frames := 0, cells := 0, slots := 0, locals := 0 } : Room).slots (s₁.setTop (entryFrame m #[(.ref x0), (.ref x1)] 3))
  refine Goes.cast (ef322 m x0 x1) ?_
  refine Goes.run X0 hx hown hci hcl hby (L := [(0, .aload_n 1, 1)]) (by decide +kernel) rfl (g' := (mkF m 1 #[.val (.ref x0), .val (.ref x1), .unset] [(.ref x1)])) rfl ?_
  obtain ⟨cl1, Ar1, q1, S1, M1, Hs1, G1⟩ := id V_x1
  refine Goes.st (B := s₁.setTop (mkF m 2 #[.val (.ref x0), .val (.ref x1), .unset] [(.int (2 : Int32))])) (fun t k => ?_) ?_
  · refine X0.arraylength hx (cell := cl1) (by rw [e0]; exact Ar1.1) (State.isArrayOf_alike hZ.alike Ar1.2.1) (g := (mkF m 1 #[.val (.ref x0), .val (.ref x1), .unset] [(.ref x1)])) rfl (rest := []) rfl (hb hby d322_1) _ ?_
    rw [len_of S1 M1]
    exact k
  refine Goes.run X0 hx hown hci hcl hby (L := [(2, .aload_n 0, 1)]) (by decide +kernel) rfl (g' := (mkF m 3 #[.val (.ref x0), .val (.ref x1), .unset] [(.ref x0), (.int (2 : Int32))])) rfl ?_
  obtain ⟨cl2, Ar2, q2, S2, M2, Hs2, G2⟩ := id V_x0
  refine Goes.st (B := s₁.setTop (mkF m 4 #[.val (.ref x0), .val (.ref x1), .unset] [(.int (2 : Int32)), (.int (2 : Int32))])) (fun t k => ?_) ?_
  · refine X0.arraylength hx (cell := cl2) (by rw [e0]; exact Ar2.1) (State.isArrayOf_alike hZ.alike Ar2.2.1) (g := (mkF m 3 #[.val (.ref x0), .val (.ref x1), .unset] [(.ref x0), (.int (2 : Int32))])) rfl (rest := [(.int (2 : Int32))]) rfl (hb hby d322_3) _ ?_
    rw [len_of S2 M2]
    exact k
  have hc4_3 : ¬ ((2 : Int32) < (2 : Int32)) := Int32.lt_irrefl
  refine Goes.st (B := s₁.setTop (mkF m 9 #[.val (.ref x0), .val (.ref x1), .unset] [])) (fun t k => ?_) ?_
  · refine XS.icmpYes X0.here hx rfl (pc0 := 4) (pc' := 9) rfl (hb hby d322_4) rfl (flt hc4_3).2.2.2 (by decide) (by decide) ?_
    exact k
  refine Goes.run X0 hx hown hci hcl hby (L := [(9, .iconst 0, 1), (10, .istore_n 2, 1), (11, .iload_n 2, 1), (12, .aload_n 1, 1)]) (by decide +kernel) rfl (g' := (mkF m 13 #[.val (.ref x0), .val (.ref x1), .val (.int (0 : Int32))] [(.ref x1), (.int (0 : Int32))])) rfl ?_
  obtain ⟨cl4, Ar4, q4, S4, M4, Hs4, G4⟩ := id V_x1
  refine Goes.st (B := s₁.setTop (mkF m 14 #[.val (.ref x0), .val (.ref x1), .val (.int (0 : Int32))] [(.int (2 : Int32)), (.int (0 : Int32))])) (fun t k => ?_) ?_
  · refine X0.arraylength hx (cell := cl4) (by rw [e0]; exact Ar4.1) (State.isArrayOf_alike hZ.alike Ar4.2.1) (g := (mkF m 13 #[.val (.ref x0), .val (.ref x1), .val (.int (0 : Int32))] [(.ref x1), (.int (0 : Int32))])) rfl (rest := [(.int (0 : Int32))]) rfl (hb hby d322_13) _ ?_
    rw [len_of S4 M4]
    exact k
  have hc14_5 : (0 : Int32) < (2 : Int32) := by decide
  refine Goes.st (B := s₁.setTop (mkF m 17 #[.val (.ref x0), .val (.ref x1), .val (.int (0 : Int32))] [])) (fun t k => ?_) ?_
  · refine XS.icmpNo X0.here hx rfl (hb hby d322_14) rfl (tlt hc14_5).2.1 ?_
    exact k
  refine Goes.run X0 hx hown hci hcl hby (L := [(17, .aload_n 1, 1), (18, .iload_n 2, 1)]) (by decide +kernel) rfl (g' := (mkF m 19 #[.val (.ref x0), .val (.ref x1), .val (.int (0 : Int32))] [(.int (0 : Int32)), (.ref x1)])) rfl ?_
  obtain ⟨cl6, Ar6, q6, S6, M6, Hs6, G6⟩ := id V_x1
  have hin6 : ¬ ((0 : Int32) < 0 ∨ cl6.slots.size ≤ ((0 : Int32)).toNatClampNeg) := inb_of S6 ⟨(by decide), (by decide)⟩
  have hat6 : cl6.slots[((0 : Int32)).toNatClampNeg]? = some (.long t0) := Hs6.at hin6 rfl
  refine Goes.st (B := s₁.setTop (mkF m 20 #[.val (.ref x0), .val (.ref x1), .val (.int (0 : Int32))] [(.long t0)])) (X0.laload hx (j := (0 : Int32)) (v := (.long t0)) (by rw [e0]; exact Ar6.1) (State.isArrayOf_alike hZ.alike Ar6.2.1) Ar6.2.2 hin6 hat6 (g := (mkF m 19 #[.val (.ref x0), .val (.ref x1), .val (.int (0 : Int32))] [(.int (0 : Int32)), (.ref x1)])) rfl rfl (hb hby d322_19)) ?_
  refine Goes.run X0 hx hown hci hcl hby (L := [(20, .aload_n 0, 1), (21, .iload_n 2, 1)]) (by decide +kernel) rfl (g' := (mkF m 22 #[.val (.ref x0), .val (.ref x1), .val (.int (0 : Int32))] [(.int (0 : Int32)), (.ref x0), (.long t0)])) rfl ?_
  obtain ⟨cl7, Ar7, q7, S7, M7, Hs7, G7⟩ := id V_x0
  have hin7 : ¬ ((0 : Int32) < 0 ∨ cl7.slots.size ≤ ((0 : Int32)).toNatClampNeg) := inb_of S7 ⟨(by decide), (by decide)⟩
  have hat7 : cl7.slots[((0 : Int32)).toNatClampNeg]? = some (.long u0) := Hs7.at hin7 rfl
  refine Goes.st (B := s₁.setTop (mkF m 23 #[.val (.ref x0), .val (.ref x1), .val (.int (0 : Int32))] [(.long u0), (.long t0)])) (X0.laload hx (j := (0 : Int32)) (v := (.long u0)) (by rw [e0]; exact Ar7.1) (State.isArrayOf_alike hZ.alike Ar7.2.1) Ar7.2.2 hin7 hat7 (g := (mkF m 22 #[.val (.ref x0), .val (.ref x1), .val (.int (0 : Int32))] [(.int (0 : Int32)), (.ref x0), (.long t0)])) rfl rfl (hb hby d322_22)) ?_
  refine Goes.run X0 hx hown hci hcl hby (L := [(23, .ldc2_w 7, 3), (26, .lxor, 1), (27, .land, 1), (28, .lconst 0, 1), (29, .lcmp, 1)]) (by decide +kernel) rfl (g' := (mkF m 30 #[.val (.ref x0), .val (.ref x1), .val (.int (0 : Int32))] [(.int (lcmpW (t0 &&& (u0 ^^^ (-1 : Int64))) (0 : Int64)))])) rfl ?_
  by_cases hc30_8 : (t0 &&& (u0 ^^^ (-1 : Int64))) = (0 : Int64)
  · skip
    refine Goes.st (B := s₁.setTop (mkF m 35 #[.val (.ref x0), .val (.ref x1), .val (.int (0 : Int32))] [])) (fun t k => ?_) ?_
    · refine XS.ifYes X0.here hx rfl (pc0 := 30) (pc' := 35) rfl (hb hby d322_30) rfl (teqL hc30_8).1 (by decide) (by decide) ?_
      exact k
    refine Goes.run X0 hx hown hci hcl hby (L := [(35, .iinc 2 1, 3), (38, .goto (-27), 3), (11, .iload_n 2, 1), (12, .aload_n 1, 1)]) (by decide +kernel) rfl (g' := (mkF m 13 #[.val (.ref x0), .val (.ref x1), .val (.int (1 : Int32))] [(.ref x1), (.int (1 : Int32))])) rfl ?_
    obtain ⟨cl9, Ar9, q9, S9, M9, Hs9, G9⟩ := id V_x1
    refine Goes.st (B := s₁.setTop (mkF m 14 #[.val (.ref x0), .val (.ref x1), .val (.int (1 : Int32))] [(.int (2 : Int32)), (.int (1 : Int32))])) (fun t k => ?_) ?_
    · refine X0.arraylength hx (cell := cl9) (by rw [e0]; exact Ar9.1) (State.isArrayOf_alike hZ.alike Ar9.2.1) (g := (mkF m 13 #[.val (.ref x0), .val (.ref x1), .val (.int (1 : Int32))] [(.ref x1), (.int (1 : Int32))])) rfl (rest := [(.int (1 : Int32))]) rfl (hb hby d322_13) _ ?_
      rw [len_of S9 M9]
      exact k
    have hc14_10 : (1 : Int32) < (2 : Int32) := by decide
    refine Goes.st (B := s₁.setTop (mkF m 17 #[.val (.ref x0), .val (.ref x1), .val (.int (1 : Int32))] [])) (fun t k => ?_) ?_
    · refine XS.icmpNo X0.here hx rfl (hb hby d322_14) rfl (tlt hc14_10).2.1 ?_
      exact k
    refine Goes.run X0 hx hown hci hcl hby (L := [(17, .aload_n 1, 1), (18, .iload_n 2, 1)]) (by decide +kernel) rfl (g' := (mkF m 19 #[.val (.ref x0), .val (.ref x1), .val (.int (1 : Int32))] [(.int (1 : Int32)), (.ref x1)])) rfl ?_
    obtain ⟨cl11, Ar11, q11, S11, M11, Hs11, G11⟩ := id V_x1
    have hin11 : ¬ ((1 : Int32) < 0 ∨ cl11.slots.size ≤ ((1 : Int32)).toNatClampNeg) := inb_of S11 ⟨(by decide), (by decide)⟩
    have hat11 : cl11.slots[((1 : Int32)).toNatClampNeg]? = some (.long t1) := Hs11.at hin11 rfl
    refine Goes.st (B := s₁.setTop (mkF m 20 #[.val (.ref x0), .val (.ref x1), .val (.int (1 : Int32))] [(.long t1)])) (X0.laload hx (j := (1 : Int32)) (v := (.long t1)) (by rw [e0]; exact Ar11.1) (State.isArrayOf_alike hZ.alike Ar11.2.1) Ar11.2.2 hin11 hat11 (g := (mkF m 19 #[.val (.ref x0), .val (.ref x1), .val (.int (1 : Int32))] [(.int (1 : Int32)), (.ref x1)])) rfl rfl (hb hby d322_19)) ?_
    refine Goes.run X0 hx hown hci hcl hby (L := [(20, .aload_n 0, 1), (21, .iload_n 2, 1)]) (by decide +kernel) rfl (g' := (mkF m 22 #[.val (.ref x0), .val (.ref x1), .val (.int (1 : Int32))] [(.int (1 : Int32)), (.ref x0), (.long t1)])) rfl ?_
    obtain ⟨cl12, Ar12, q12, S12, M12, Hs12, G12⟩ := id V_x0
    have hin12 : ¬ ((1 : Int32) < 0 ∨ cl12.slots.size ≤ ((1 : Int32)).toNatClampNeg) := inb_of S12 ⟨(by decide), (by decide)⟩
    have hat12 : cl12.slots[((1 : Int32)).toNatClampNeg]? = some (.long u1) := Hs12.at hin12 rfl
    refine Goes.st (B := s₁.setTop (mkF m 23 #[.val (.ref x0), .val (.ref x1), .val (.int (1 : Int32))] [(.long u1), (.long t1)])) (X0.laload hx (j := (1 : Int32)) (v := (.long u1)) (by rw [e0]; exact Ar12.1) (State.isArrayOf_alike hZ.alike Ar12.2.1) Ar12.2.2 hin12 hat12 (g := (mkF m 22 #[.val (.ref x0), .val (.ref x1), .val (.int (1 : Int32))] [(.int (1 : Int32)), (.ref x0), (.long t1)])) rfl rfl (hb hby d322_22)) ?_
    refine Goes.run X0 hx hown hci hcl hby (L := [(23, .ldc2_w 7, 3), (26, .lxor, 1), (27, .land, 1), (28, .lconst 0, 1), (29, .lcmp, 1)]) (by decide +kernel) rfl (g' := (mkF m 30 #[.val (.ref x0), .val (.ref x1), .val (.int (1 : Int32))] [(.int (lcmpW (t1 &&& (u1 ^^^ (-1 : Int64))) (0 : Int64)))])) rfl ?_
    by_cases hc30_13 : (t1 &&& (u1 ^^^ (-1 : Int64))) = (0 : Int64)
    · skip
      refine Goes.st (B := s₁.setTop (mkF m 35 #[.val (.ref x0), .val (.ref x1), .val (.int (1 : Int32))] [])) (fun t k => ?_) ?_
      · refine XS.ifYes X0.here hx rfl (pc0 := 30) (pc' := 35) rfl (hb hby d322_30) rfl (teqL hc30_13).1 (by decide) (by decide) ?_
        exact k
      refine Goes.run X0 hx hown hci hcl hby (L := [(35, .iinc 2 1, 3), (38, .goto (-27), 3), (11, .iload_n 2, 1), (12, .aload_n 1, 1)]) (by decide +kernel) rfl (g' := (mkF m 13 #[.val (.ref x0), .val (.ref x1), .val (.int (2 : Int32))] [(.ref x1), (.int (2 : Int32))])) rfl ?_
      obtain ⟨cl14, Ar14, q14, S14, M14, Hs14, G14⟩ := id V_x1
      refine Goes.st (B := s₁.setTop (mkF m 14 #[.val (.ref x0), .val (.ref x1), .val (.int (2 : Int32))] [(.int (2 : Int32)), (.int (2 : Int32))])) (fun t k => ?_) ?_
      · refine X0.arraylength hx (cell := cl14) (by rw [e0]; exact Ar14.1) (State.isArrayOf_alike hZ.alike Ar14.2.1) (g := (mkF m 13 #[.val (.ref x0), .val (.ref x1), .val (.int (2 : Int32))] [(.ref x1), (.int (2 : Int32))])) rfl (rest := [(.int (2 : Int32))]) rfl (hb hby d322_13) _ ?_
        rw [len_of S14 M14]
        exact k
      have hc14_15 : ¬ ((2 : Int32) < (2 : Int32)) := Int32.lt_irrefl
      refine Goes.st (B := s₁.setTop (mkF m 41 #[.val (.ref x0), .val (.ref x1), .val (.int (2 : Int32))] [])) (fun t k => ?_) ?_
      · refine XS.icmpYes X0.here hx rfl (pc0 := 14) (pc' := 41) rfl (hb hby d322_14) rfl (flt hc14_15).2.1 (by decide) (by decide) ?_
        exact k
      refine Goes.run X0 hx hown hci hcl hby (L := [(41, .iconst 1, 1)]) (by decide +kernel) rfl (g' := (mkF m 42 #[.val (.ref x0), .val (.ref x1), .val (.int (2 : Int32))] [(.int (1 : Int32))])) rfl ?_
      exact Goes.retB X0 hx hlk (t := .boolean) Bd.returns (by simp) (hb hby d322_42) rfl ⟨(congrArg (fun z => some (Value.int z)) (show (r322 u0 u1 t0 t1) = (1 : Int32) from ((if_pos hc30_8).trans (if_pos hc30_13))).symm), N0, e0⟩ (by decide) (by decide)
    · skip
      refine Goes.st (B := s₁.setTop (mkF m 33 #[.val (.ref x0), .val (.ref x1), .val (.int (1 : Int32))] [])) (fun t k => ?_) ?_
      · refine XS.ifNo X0.here hx rfl (hb hby d322_30) rfl (feqL hc30_13).1 ?_
        exact k
      refine Goes.run X0 hx hown hci hcl hby (L := [(33, .iconst 0, 1)]) (by decide +kernel) rfl (g' := (mkF m 34 #[.val (.ref x0), .val (.ref x1), .val (.int (1 : Int32))] [(.int (0 : Int32))])) rfl ?_
      exact Goes.retB X0 hx hlk (t := .boolean) Bd.returns (by simp) (hb hby d322_34) rfl ⟨(congrArg (fun z => some (Value.int z)) (show (r322 u0 u1 t0 t1) = (0 : Int32) from ((if_pos hc30_8).trans (if_neg hc30_13))).symm), N0, e0⟩ (by decide) (by decide)
  · skip
    refine Goes.st (B := s₁.setTop (mkF m 33 #[.val (.ref x0), .val (.ref x1), .val (.int (0 : Int32))] [])) (fun t k => ?_) ?_
    · refine XS.ifNo X0.here hx rfl (hb hby d322_30) rfl (feqL hc30_8).1 ?_
      exact k
    refine Goes.run X0 hx hown hci hcl hby (L := [(33, .iconst 0, 1)]) (by decide +kernel) rfl (g' := (mkF m 34 #[.val (.ref x0), .val (.ref x1), .val (.int (0 : Int32))] [(.int (0 : Int32))])) rfl ?_
    exact Goes.retB X0 hx hlk (t := .boolean) Bd.returns (by simp) (hb hby d322_34) rfl ⟨(congrArg (fun z => some (Value.int z)) (show (r322 u0 u1 t0 t1) = (0 : Int32) from (if_neg hc30_8)).symm), N0, e0⟩ (by decide) (by decide)
theorem pn0 : plainName "com/example/marks_across_domains/marksacrossdomains/BitsContainsPinLaw" = true := by first | (simp [plainName, overriddenIn]; done) | decide +kernel
theorem pd0_0 : parseMethodDescriptor "(IJJ)I" = some ⟨[.int, .long, .long], some .int⟩ := by decide +kernel
theorem pd0_1 : parseMethodDescriptor "(IJJ)[J" = some ⟨[.int, .long, .long], some (.array .long)⟩ := by decide +kernel
theorem pd0_2 : parseMethodDescriptor "([J[J)Z" = some ⟨[(.array .long), (.array .long)], some .boolean⟩ := by decide +kernel
theorem ef0 (m : MethodId) (x0 : Int64) (x1 : Int64) (x2 : Int64) (x3 : Int64) (x4 : Int32) : entryFrame m #[(.long x0), (.long x1), (.long x2), (.long x3), (.int x4)] maxLocals = (mkF m 0 #[.val (.long x0), .second, .val (.long x1), .second, .val (.long x2), .second, .val (.long x3), .second, .val (.int x4), .unset, .unset, .unset, .unset, .unset, .unset, .unset, .unset, .unset, .unset, .unset, .unset, .unset, .unset, .unset, .unset, .unset, .unset] []) := by first | (simp [entryFrame, mkF, argsToLocals, Value.category, maxLocals]; done) | rfl
def w0_5l (x0 : Int64) (x1 : Int64) (x2 : Int64) (x3 : Int64) (x4 : Int32) : Int32 := (x4 &&& (3 : Int32))
def w0_6 (x0 : Int64) (x1 : Int64) (x2 : Int64) (x3 : Int64) (x4 : Int32) : Int32 := ((w0_5l x0 x1 x2 x3 x4) - ((w0_5l x0 x1 x2 x3 x4) / (3 : Int32)) * (3 : Int32))
def w0_15l (x0 : Int64) (x1 : Int64) (x2 : Int64) (x3 : Int64) (x4 : Int32) : Int32 := (((x4.toUInt32 >>> ((2 : Int32) &&& 31).toUInt32).toInt32) &&& (3 : Int32))
def w0_16 (x0 : Int64) (x1 : Int64) (x2 : Int64) (x3 : Int64) (x4 : Int32) : Int32 := ((w0_15l x0 x1 x2 x3 x4) - ((w0_15l x0 x1 x2 x3 x4) / (3 : Int32)) * (3 : Int32))
def j0_32_s0 (x0 : Int64) (x1 : Int64) (x2 : Int64) (x3 : Int64) (x4 : Int32) : Int32 := (if (((x4.toUInt32 >>> ((4 : Int32) &&& 31).toUInt32).toInt32) &&& (1 : Int32)) = (0 : Int32) then (0 : Int32) else (1 : Int32))
def j0_48_s0 (x0 : Int64) (x1 : Int64) (x2 : Int64) (x3 : Int64) (x4 : Int32) : Int64 := (if (j0_32_s0 x0 x1 x2 x3 x4) = (0 : Int32) then x2 else (x2 &&& x0))
def j0_64_s0 (x0 : Int64) (x1 : Int64) (x2 : Int64) (x3 : Int64) (x4 : Int32) : Int64 := (if (j0_32_s0 x0 x1 x2 x3 x4) = (0 : Int32) then x3 else (x3 &&& x1))
def w0_73 (x0 : Int64) (x1 : Int64) (x2 : Int64) (x3 : Int64) (x4 : Int32) : Int32 := (r1 (w0_6 x0 x1 x2 x3 x4) x0 x1)
def w0_84 (x0 : Int64) (x1 : Int64) (x2 : Int64) (x3 : Int64) (x4 : Int32) : Int32 := (r1 (w0_16 x0 x1 x2 x3 x4) (j0_48_s0 x0 x1 x2 x3 x4) (j0_64_s0 x0 x1 x2 x3 x4))
def j0_193_s0 (x0 : Int64) (x1 : Int64) (x2 : Int64) (x3 : Int64) (x4 : Int32) : Int32 := (if ((0 : Int64) &&& ((0 : Int64) ^^^ (-1 : Int64))) = (0 : Int64) then (if ((0 : Int64) &&& ((0 : Int64) ^^^ (-1 : Int64))) = (0 : Int64) then (1 : Int32) else (0 : Int32)) else (0 : Int32))
def j0_193_s0_a (x0 : Int64) (x1 : Int64) (x2 : Int64) (x3 : Int64) (x4 : Int32) : Int32 := (if ((j0_48_s0 x0 x1 x2 x3 x4) &&& ((0 : Int64) ^^^ (-1 : Int64))) = (0 : Int64) then (if ((0 : Int64) &&& ((0 : Int64) ^^^ (-1 : Int64))) = (0 : Int64) then (1 : Int32) else (0 : Int32)) else (0 : Int32))
def j0_193_s0_b (x0 : Int64) (x1 : Int64) (x2 : Int64) (x3 : Int64) (x4 : Int32) : Int32 := (if ((j0_48_s0 x0 x1 x2 x3 x4) &&& ((0 : Int64) ^^^ (-1 : Int64))) = (0 : Int64) then (if ((j0_64_s0 x0 x1 x2 x3 x4) &&& ((0 : Int64) ^^^ (-1 : Int64))) = (0 : Int64) then (1 : Int32) else (0 : Int32)) else (0 : Int32))
def j0_193_s0_c (x0 : Int64) (x1 : Int64) (x2 : Int64) (x3 : Int64) (x4 : Int32) : Int32 := (if ((0 : Int64) &&& (x0 ^^^ (-1 : Int64))) = (0 : Int64) then (if ((0 : Int64) &&& ((0 : Int64) ^^^ (-1 : Int64))) = (0 : Int64) then (1 : Int32) else (0 : Int32)) else (0 : Int32))
def j0_193_s0_d (x0 : Int64) (x1 : Int64) (x2 : Int64) (x3 : Int64) (x4 : Int32) : Int32 := (if ((j0_48_s0 x0 x1 x2 x3 x4) &&& (x0 ^^^ (-1 : Int64))) = (0 : Int64) then (if ((0 : Int64) &&& ((0 : Int64) ^^^ (-1 : Int64))) = (0 : Int64) then (1 : Int32) else (0 : Int32)) else (0 : Int32))
def j0_193_s0_e (x0 : Int64) (x1 : Int64) (x2 : Int64) (x3 : Int64) (x4 : Int32) : Int32 := (if ((j0_48_s0 x0 x1 x2 x3 x4) &&& (x0 ^^^ (-1 : Int64))) = (0 : Int64) then (if ((j0_64_s0 x0 x1 x2 x3 x4) &&& ((0 : Int64) ^^^ (-1 : Int64))) = (0 : Int64) then (1 : Int32) else (0 : Int32)) else (0 : Int32))
def j0_193_s0_f (x0 : Int64) (x1 : Int64) (x2 : Int64) (x3 : Int64) (x4 : Int32) : Int32 := (if ((0 : Int64) &&& (x0 ^^^ (-1 : Int64))) = (0 : Int64) then (if ((0 : Int64) &&& (x1 ^^^ (-1 : Int64))) = (0 : Int64) then (1 : Int32) else (0 : Int32)) else (0 : Int32))
def j0_193_s0_g (x0 : Int64) (x1 : Int64) (x2 : Int64) (x3 : Int64) (x4 : Int32) : Int32 := (if ((j0_48_s0 x0 x1 x2 x3 x4) &&& (x0 ^^^ (-1 : Int64))) = (0 : Int64) then (if ((0 : Int64) &&& (x1 ^^^ (-1 : Int64))) = (0 : Int64) then (1 : Int32) else (0 : Int32)) else (0 : Int32))
def j0_193_s0_h (x0 : Int64) (x1 : Int64) (x2 : Int64) (x3 : Int64) (x4 : Int32) : Int32 := (if ((j0_48_s0 x0 x1 x2 x3 x4) &&& (x0 ^^^ (-1 : Int64))) = (0 : Int64) then (if ((j0_64_s0 x0 x1 x2 x3 x4) &&& (x1 ^^^ (-1 : Int64))) = (0 : Int64) then (1 : Int32) else (0 : Int32)) else (0 : Int32))
def r0 (x0 : Int64) (x1 : Int64) (x2 : Int64) (x3 : Int64) (x4 : Int32) : Int32 := (if (w0_73 x0 x1 x2 x3 x4) = (0 : Int32) then (if (w0_84 x0 x1 x2 x3 x4) = (0 : Int32) then (if r300 = (j0_193_s0 x0 x1 x2 x3 x4) then (1 : Int32) else (0 : Int32)) else (if (w0_84 x0 x1 x2 x3 x4) = (1 : Int32) then (if (r301 (j0_48_s0 x0 x1 x2 x3 x4)) = (j0_193_s0_a x0 x1 x2 x3 x4) then (1 : Int32) else (0 : Int32)) else (if (r302 (j0_48_s0 x0 x1 x2 x3 x4) (j0_64_s0 x0 x1 x2 x3 x4)) = (j0_193_s0_b x0 x1 x2 x3 x4) then (1 : Int32) else (0 : Int32)))) else (if (w0_73 x0 x1 x2 x3 x4) = (1 : Int32) then (if (w0_84 x0 x1 x2 x3 x4) = (0 : Int32) then (if (r310 x0) = (j0_193_s0_c x0 x1 x2 x3 x4) then (1 : Int32) else (0 : Int32)) else (if (w0_84 x0 x1 x2 x3 x4) = (1 : Int32) then (if (r311 x0 (j0_48_s0 x0 x1 x2 x3 x4)) = (j0_193_s0_d x0 x1 x2 x3 x4) then (1 : Int32) else (0 : Int32)) else (if (r312 x0 (j0_48_s0 x0 x1 x2 x3 x4) (j0_64_s0 x0 x1 x2 x3 x4)) = (j0_193_s0_e x0 x1 x2 x3 x4) then (1 : Int32) else (0 : Int32)))) else (if (w0_84 x0 x1 x2 x3 x4) = (0 : Int32) then (if (r320 x0 x1) = (j0_193_s0_f x0 x1 x2 x3 x4) then (1 : Int32) else (0 : Int32)) else (if (w0_84 x0 x1 x2 x3 x4) = (1 : Int32) then (if (r321 x0 x1 (j0_48_s0 x0 x1 x2 x3 x4)) = (j0_193_s0_g x0 x1 x2 x3 x4) then (1 : Int32) else (0 : Int32)) else (if (r322 x0 x1 (j0_48_s0 x0 x1 x2 x3 x4) (j0_64_s0 x0 x1 x2 x3 x4)) = (j0_193_s0_h x0 x1 x2 x3 x4) then (1 : Int32) else (0 : Int32))))))
theorem own_and1 (y : Int64) : y &&& ((0 : Int64) ^^^ (-1 : Int64)) = y := by
  have e : ((0 : Int64) ^^^ (-1 : Int64)) = -1 := by decide
  rw [e]
  apply Int64.toBitVec_inj.mp
  rw [Int64.toBitVec_and, show (-1 : Int64).toBitVec = BitVec.allOnes 64 by decide, BitVec.and_allOnes]
theorem own_and0 (y : Int64) : (0 : Int64) &&& y = 0 := Int64.zero_and
theorem own_tri (x : Int32) : (x - (x / (3 : Int32)) * (3 : Int32)).toInt = x.toInt.tmod 3 := own_rem32 x 3
theorem own_r3 {u : Int32} {a : Int} (hu : u.toInt = a) (h0 : 0 ≤ a) : (u - (u / (3 : Int32)) * (3 : Int32)) = 0 ∨ (u - (u / (3 : Int32)) * (3 : Int32)) = 1 ∨ (u - (u / (3 : Int32)) * (3 : Int32)) = 2 := by
  have e := own_r32 hu (show (3 : Int32).toInt = 3 by decide) h0
  rw [own_eq32 e (show (0 : Int32).toInt = 0 by decide), own_eq32 e (show (1 : Int32).toInt = 1 by decide), own_eq32 e (show (2 : Int32).toInt = 2 by decide)]
  omega
theorem own_trim (x : Int32) (u v : Int64) (hx : x = 0 ∨ x = 1 ∨ x = 2) : (r1 x u v = 0 ∨ r1 x u v = 1 ∨ r1 x u v = 2) ∧ (r1 x u v = 1 → u ≠ 0) ∧ (r1 x u v = 2 → v ≠ 0) := by
  have d1 : ¬ ((1 : Int32) = 0) := by decide
  have d2 : ¬ ((2 : Int32) = 0) := by decide
  have d3 : ¬ ((2 : Int32) = 1) := by decide
  have d4 : ¬ ((1 : Int32) = 2) := by decide
  have d5 : ¬ ((0 : Int32) = 1) := by decide
  have d6 : ¬ ((0 : Int32) = 2) := by decide
  unfold r1 j1_33_5 j1_18_5
  rcases hx with rfl | rfl | rfl
  · by_cases hu : u = 0 <;> by_cases hv : v = 0 <;> simp [hu, hv]
  · by_cases hu : u = 0 <;> by_cases hv : v = 0 <;> simp [hu, hv]
  · by_cases hu : u = 0 <;> by_cases hv : v = 0 <;> simp [hu, hv]
theorem own_t9 (x0 x1 x2 x3 : Int64) (x4 : Int32) : w0_73 x0 x1 x2 x3 x4 = 0 ∨ w0_73 x0 x1 x2 x3 x4 = 1 ∨ w0_73 x0 x1 x2 x3 x4 = 2 := by
  obtain ⟨A, m0, a0, -, -⟩ := own_m32 x4 (3 : Int32) (k := 2) (by decide) (by decide)
  exact (own_trim _ _ _ (own_r3 m0 a0)).1
theorem own_t10 (x0 x1 x2 x3 : Int64) (x4 : Int32) : (w0_84 x0 x1 x2 x3 x4 = 0 ∨ w0_84 x0 x1 x2 x3 x4 = 1 ∨ w0_84 x0 x1 x2 x3 x4 = 2) ∧ (w0_84 x0 x1 x2 x3 x4 = 1 → j0_48_s0 x0 x1 x2 x3 x4 ≠ 0) ∧ (w0_84 x0 x1 x2 x3 x4 = 2 → j0_64_s0 x0 x1 x2 x3 x4 ≠ 0) := by
  obtain ⟨A, m0, a0, -, -⟩ := own_m32 ((x4.toUInt32 >>> ((2 : Int32) &&& 31).toUInt32).toInt32) (3 : Int32) (k := 2) (by decide) (by decide)
  exact own_trim _ _ _ (own_r3 m0 a0)
theorem own_l9 (x0 x1 x2 x3 : Int64) (x4 : Int32) (h0 : ¬ w0_73 x0 x1 x2 x3 x4 = 0) (h1 : ¬ w0_73 x0 x1 x2 x3 x4 = 1) : w0_73 x0 x1 x2 x3 x4 = 2 := by
  rcases own_t9 x0 x1 x2 x3 x4 with h | h | h
  · exact absurd h h0
  · exact absurd h h1
  · exact h
theorem own_l10 (x0 x1 x2 x3 : Int64) (x4 : Int32) (h0 : ¬ w0_84 x0 x1 x2 x3 x4 = 0) (h1 : ¬ w0_84 x0 x1 x2 x3 x4 = 1) : w0_84 x0 x1 x2 x3 x4 = 2 := by
  rcases (own_t10 x0 x1 x2 x3 x4).1 with h | h | h
  · exact absurd h h0
  · exact absurd h h1
  · exact h
theorem law_true (x0 x1 x2 x3 : Int64) (x4 : Int32) : r0 x0 x1 x2 x3 x4 = 1 := by
  have q1 := (own_t10 x0 x1 x2 x3 x4).2.1
  have q2 : ¬ w0_84 x0 x1 x2 x3 x4 = 0 → ¬ w0_84 x0 x1 x2 x3 x4 = 1 → j0_64_s0 x0 x1 x2 x3 x4 ≠ 0 := fun a b => (own_t10 x0 x1 x2 x3 x4).2.2 (own_l10 x0 x1 x2 x3 x4 a b)
  unfold r0 j0_193_s0 j0_193_s0_a j0_193_s0_b j0_193_s0_c j0_193_s0_d j0_193_s0_e j0_193_s0_f j0_193_s0_g j0_193_s0_h r300 r301 r302 r310 r311 r312 r320 r321 r322
  generalize w0_73 x0 x1 x2 x3 x4 = la at *
  generalize w0_84 x0 x1 x2 x3 x4 = lb at *
  generalize j0_48_s0 x0 x1 x2 x3 x4 = t0 at *
  generalize j0_64_s0 x0 x1 x2 x3 x4 = t1 at *
  simp only [own_and1, own_and0, if_true]
  by_cases h1 : la = 0
  · rw [if_pos h1]
    by_cases h2 : lb = 0
    · rw [if_pos h2]
    · rw [if_neg h2]
      by_cases h3 : lb = 1
      · rw [if_pos h3, if_neg (q1 h3)]; rfl
      · rw [if_neg h3]
        by_cases h4 : t0 = 0
        · rw [if_pos h4, if_neg (q2 h2 h3)]; rfl
        · rw [if_neg h4]; rfl
  · rw [if_neg h1]
    by_cases h5 : la = 1
    · rw [if_pos h5]
      by_cases h2 : lb = 0
      · rw [if_pos h2]
      · rw [if_neg h2]
        by_cases h3 : lb = 1
        · rw [if_pos h3]
        · rw [if_neg h3, if_neg (q2 h2 h3)]
          by_cases h4 : t0 &&& (x0 ^^^ (-1 : Int64)) = 0
          · rw [if_pos h4]; rfl
          · rw [if_neg h4]; rfl
    · rw [if_neg h5]
      by_cases h2 : lb = 0
      · rw [if_pos h2]
      · rw [if_neg h2]
        by_cases h3 : lb = 1
        · rw [if_pos h3]
        · rw [if_neg h3]
set_option maxRecDepth 65536 in
set_option maxHeartbeats 40000000 in
theorem rm0 (l : Launch) (Z : State) (a0 : Array Value) (hw : ∀ d ∈ tables_1, d.before a0 Z = true) (ws : List Jvm.Cond) (x0 : Int64) (x1 : Int64) (x2 : Int64) (x3 : Int64) (x4 : Int32) (h0 : Heap) (n0 : Nat) (Z0 : n0 ≤ h0.size) :
    MetFree l x (head1 (Jvm.Cond.code x code maxLocals ret :: ws) room_1) (fun a U => a = #[(.long x0), (.long x1), (.long x2), (.long x3), (.int x4)] ∧ Z.Warmed39 U.vm ∧ U.heap = h0) (fun _ _ _ _ _ => True) (fun _ U o U' => ∃ v L, o = .returned v ∧ (QL (some (.int (r0 x0 x1 x2 x3 x4))) n0) v U'.heap L ∧ FrameEnd U o U' L room_1.cells room_1.slots) := by
  refine MetFree.of_bodySF (plainFor_of_name pn0) hisR ?_
  intro p e s m args below meth c s₁ Bd hml0 hP hK
  obtain ⟨rfl, hZ, hh⟩ := hP
  have hx := Bd.exec
  have hby := Bd.bytes
  have hml : c.maxLocals = 27 := hml0
  have hlk : meth.locks = false := BodyLoose.notSynchronized Bd
  have hown : s.vm.findClass "com/example/marks_across_domains/marksacrossdomains/BitsContainsPinLaw" = some m.cls := findClass_of_methodNamed Bd.named
  have hnm := (name_of_methodNamed Bd.named Bd.method).1
  have hci : ∀ i v, (i, v) ∈ ([] : List (Nat × Int32)) → (Jvm.Cond.constant "com/example/marks_across_domains/marksacrossdomains/BitsContainsPinLaw" i v).before #[(.long x0), (.long x1), (.long x2), (.long x3), (.int x4)] s = true := own_ci0
  have hcl : ∀ i v, (i, v) ∈ ([(17, -1)] : List (Nat × Int64)) → (Jvm.Cond.constantLong "com/example/marks_across_domains/marksacrossdomains/BitsContainsPinLaw" i v).before #[(.long x0), (.long x1), (.long x2), (.long x3), (.int x4)] s = true := (own_ciS (mvT hZ (hw _ (List.mem_of_getElem? (i := 8) rfl))) own_ci0)
  have X0 : Stand p l e room_1 s m #[(.long x0), (.long x1), (.long x2), (.long x3), (.int x4)] below meth c s₁ [] 0 0 := Stand.of_body Bd
  have e0 : s₁.heap = h0 := by rw [← hh, Bd.state]; rfl
  have N0 := Fr.nil n0
  show Goes p e below s (QL (some (.int (r0 x0 x1 x2 x3 x4))) n0) room_1.cells room_1.slots (s₁.setTop (entryFrame m #[(.long x0), (.long x1), (.long x2), (.long x3), (.int x4)] maxLocals))
  refine Goes.cast (ef0 m x0 x1 x2 x3 x4) ?_
  refine Goes.run X0 hx hown hci hcl hby (L := [(0, .iload 8, 2), (2, .iconst 3, 1), (3, .iand, 1), (4, .iconst 3, 1), (5, .irem, 1), (6, .istore 9, 2)]) (by decide +kernel) rfl (g' := (mkF m 8 #[.val (.long x0), .second, .val (.long x1), .second, .val (.long x2), .second, .val (.long x3), .second, .val (.int x4), .val (.int (w0_6 x0 x1 x2 x3 x4)), .unset, .unset, .unset, .unset, .unset, .unset, .unset, .unset, .unset, .unset, .unset, .unset, .unset, .unset, .unset, .unset, .unset] [])) rfl ?_
  refine Goes.run X0 hx hown hci hcl hby (L := [(8, .iload 8, 2), (10, .iconst 2, 1), (11, .iushr, 1), (12, .iconst 3, 1), (13, .iand, 1), (14, .iconst 3, 1)]) (by decide +kernel) rfl (g' := (mkF m 15 #[.val (.long x0), .second, .val (.long x1), .second, .val (.long x2), .second, .val (.long x3), .second, .val (.int x4), .val (.int (w0_6 x0 x1 x2 x3 x4)), .unset, .unset, .unset, .unset, .unset, .unset, .unset, .unset, .unset, .unset, .unset, .unset, .unset, .unset, .unset, .unset, .unset] [(.int (3 : Int32)), (.int (((x4.toUInt32 >>> ((2 : Int32) &&& 31).toUInt32).toInt32) &&& (3 : Int32)))])) rfl ?_
  refine Goes.run X0 hx hown hci hcl hby (L := [(15, .irem, 1), (16, .istore 10, 2), (18, .iload 8, 2), (20, .iconst 4, 1), (21, .iushr, 1), (22, .iconst 1, 1)]) (by decide +kernel) rfl (g' := (mkF m 23 #[.val (.long x0), .second, .val (.long x1), .second, .val (.long x2), .second, .val (.long x3), .second, .val (.int x4), .val (.int (w0_6 x0 x1 x2 x3 x4)), .val (.int (w0_16 x0 x1 x2 x3 x4)), .unset, .unset, .unset, .unset, .unset, .unset, .unset, .unset, .unset, .unset, .unset, .unset, .unset, .unset, .unset, .unset] [(.int (1 : Int32)), (.int ((x4.toUInt32 >>> ((4 : Int32) &&& 31).toUInt32).toInt32))])) rfl ?_
  refine Goes.run X0 hx hown hci hcl hby (L := [(23, .iand, 1)]) (by decide +kernel) rfl (g' := (mkF m 24 #[.val (.long x0), .second, .val (.long x1), .second, .val (.long x2), .second, .val (.long x3), .second, .val (.int x4), .val (.int (w0_6 x0 x1 x2 x3 x4)), .val (.int (w0_16 x0 x1 x2 x3 x4)), .unset, .unset, .unset, .unset, .unset, .unset, .unset, .unset, .unset, .unset, .unset, .unset, .unset, .unset, .unset, .unset] [(.int (((x4.toUInt32 >>> ((4 : Int32) &&& 31).toUInt32).toInt32) &&& (1 : Int32)))])) rfl ?_
  have jn32_2 : Goes p e below s (QL (some (.int (r0 x0 x1 x2 x3 x4))) n0) room_1.cells room_1.slots (s₁.setTop (mkF m 32 #[.val (.long x0), .second, .val (.long x1), .second, .val (.long x2), .second, .val (.long x3), .second, .val (.int x4), .val (.int (w0_6 x0 x1 x2 x3 x4)), .val (.int (w0_16 x0 x1 x2 x3 x4)), .unset, .unset, .unset, .unset, .unset, .unset, .unset, .unset, .unset, .unset, .unset, .unset, .unset, .unset, .unset, .unset] [(.int (j0_32_s0 x0 x1 x2 x3 x4))])) := by
    refine Goes.run X0 hx hown hci hcl hby (L := [(32, .istore 11, 2), (34, .iload 11, 2)]) (by decide +kernel) rfl (g' := (mkF m 36 #[.val (.long x0), .second, .val (.long x1), .second, .val (.long x2), .second, .val (.long x3), .second, .val (.int x4), .val (.int (w0_6 x0 x1 x2 x3 x4)), .val (.int (w0_16 x0 x1 x2 x3 x4)), .val (.int (j0_32_s0 x0 x1 x2 x3 x4)), .unset, .unset, .unset, .unset, .unset, .unset, .unset, .unset, .unset, .unset, .unset, .unset, .unset, .unset, .unset] [(.int (j0_32_s0 x0 x1 x2 x3 x4))])) rfl ?_
    have jn48_4 : Goes p e below s (QL (some (.int (r0 x0 x1 x2 x3 x4))) n0) room_1.cells room_1.slots (s₁.setTop (mkF m 48 #[.val (.long x0), .second, .val (.long x1), .second, .val (.long x2), .second, .val (.long x3), .second, .val (.int x4), .val (.int (w0_6 x0 x1 x2 x3 x4)), .val (.int (w0_16 x0 x1 x2 x3 x4)), .val (.int (j0_32_s0 x0 x1 x2 x3 x4)), .unset, .unset, .unset, .unset, .unset, .unset, .unset, .unset, .unset, .unset, .unset, .unset, .unset, .unset, .unset] [(.long (j0_48_s0 x0 x1 x2 x3 x4))])) := by
      refine Goes.run X0 hx hown hci hcl hby (L := [(48, .lstore 12, 2), (50, .iload 11, 2)]) (by decide +kernel) rfl (g' := (mkF m 52 #[.val (.long x0), .second, .val (.long x1), .second, .val (.long x2), .second, .val (.long x3), .second, .val (.int x4), .val (.int (w0_6 x0 x1 x2 x3 x4)), .val (.int (w0_16 x0 x1 x2 x3 x4)), .val (.int (j0_32_s0 x0 x1 x2 x3 x4)), .val (.long (j0_48_s0 x0 x1 x2 x3 x4)), .second, .unset, .unset, .unset, .unset, .unset, .unset, .unset, .unset, .unset, .unset, .unset, .unset, .unset] [(.int (j0_32_s0 x0 x1 x2 x3 x4))])) rfl ?_
      have jn64_6 : Goes p e below s (QL (some (.int (r0 x0 x1 x2 x3 x4))) n0) room_1.cells room_1.slots (s₁.setTop (mkF m 64 #[.val (.long x0), .second, .val (.long x1), .second, .val (.long x2), .second, .val (.long x3), .second, .val (.int x4), .val (.int (w0_6 x0 x1 x2 x3 x4)), .val (.int (w0_16 x0 x1 x2 x3 x4)), .val (.int (j0_32_s0 x0 x1 x2 x3 x4)), .val (.long (j0_48_s0 x0 x1 x2 x3 x4)), .second, .unset, .unset, .unset, .unset, .unset, .unset, .unset, .unset, .unset, .unset, .unset, .unset, .unset] [(.long (j0_64_s0 x0 x1 x2 x3 x4))])) := by
        refine Goes.run X0 hx hown hci hcl hby (L := [(64, .lstore 14, 2), (66, .iload 9, 2), (68, .lload_n 0, 1), (69, .lload_n 2, 1)]) (by decide +kernel) rfl (g' := (mkF m 70 #[.val (.long x0), .second, .val (.long x1), .second, .val (.long x2), .second, .val (.long x3), .second, .val (.int x4), .val (.int (w0_6 x0 x1 x2 x3 x4)), .val (.int (w0_16 x0 x1 x2 x3 x4)), .val (.int (j0_32_s0 x0 x1 x2 x3 x4)), .val (.long (j0_48_s0 x0 x1 x2 x3 x4)), .second, .val (.long (j0_64_s0 x0 x1 x2 x3 x4)), .second, .unset, .unset, .unset, .unset, .unset, .unset, .unset, .unset, .unset, .unset, .unset] [(.long x1), (.long x0), (.int (w0_6 x0 x1 x2 x3 x4))])) rfl ?_
        obtain ⟨_, _, ⟨T7, L7, k7, n7⟩, -, X7, ⟨Lc7, hQ7, l7, y7, z7⟩, st7⟩ := Jvm.LawKit.callS X0 hx (y := (⟨"com/example/marks_across_domains/marksacrossdomains/BitsContainsPinLaw", "trim", "(IJJ)I"⟩ : MethodName)) hown (mvT hZ (hw _ (List.mem_of_getElem? (i := 0) rfl))) (mvT hZ (hw _ (List.mem_of_getElem? (i := 1) rfl))) (mvT hZ (hw _ (List.mem_of_getElem? (i := 2) rfl))) (mvT hZ (hw _ (List.mem_of_getElem? (i := 3) rfl))) (by decide) (backOf (W := 0) (rm1 l Z a0 hw [] (w0_6 x0 x1 x2 x3 x4) x0 x1 h0 n0 Z0 ) hZ (hw _ (List.mem_of_getElem? (i := 3) rfl)) (hw _ (List.mem_of_getElem? (i := 2) rfl)) (by decide) (by decide)) (g := (mkF m 70 #[.val (.long x0), .second, .val (.long x1), .second, .val (.long x2), .second, .val (.long x3), .second, .val (.int x4), .val (.int (w0_6 x0 x1 x2 x3 x4)), .val (.int (w0_16 x0 x1 x2 x3 x4)), .val (.int (j0_32_s0 x0 x1 x2 x3 x4)), .val (.long (j0_48_s0 x0 x1 x2 x3 x4)), .second, .val (.long (j0_64_s0 x0 x1 x2 x3 x4)), .second, .unset, .unset, .unset, .unset, .unset, .unset, .unset, .unset, .unset, .unset, .unset] [(.long x1), (.long x0), (.int (w0_6 x0 x1 x2 x3 x4))])) rfl (by rw [hml]; rfl) (argsL := [(.int (w0_6 x0 x1 x2 x3 x4)), (.long x0), (.long x1)]) (rest := []) (lenOf pd0_0 rfl) rfl (by show 2 * 0 + _ ≤ _; exact Nat.le_of_eq rfl) (hb hby at_70) (fun _ _ => ⟨rfl, e0, (by decide : 0 + 0 ≤ _), (by decide : 0 + 0 ≤ _)⟩)
        dsimp only [Pt.U, Pt.locs, Pt.cells, Pt.slots] at X7 l7 y7 z7 st7 hQ7
        subst l7 y7 z7
        obtain ⟨rfl, N7q, e7⟩ := hQ7
        have N7 := Fr.app N0 N7q
        refine Goes.st (B := T7.setTop (mkF m 73 #[.val (.long x0), .second, .val (.long x1), .second, .val (.long x2), .second, .val (.long x3), .second, .val (.int x4), .val (.int (w0_6 x0 x1 x2 x3 x4)), .val (.int (w0_16 x0 x1 x2 x3 x4)), .val (.int (j0_32_s0 x0 x1 x2 x3 x4)), .val (.long (j0_48_s0 x0 x1 x2 x3 x4)), .second, .val (.long (j0_64_s0 x0 x1 x2 x3 x4)), .second, .unset, .unset, .unset, .unset, .unset, .unset, .unset, .unset, .unset, .unset, .unset] [(.int (r1 (w0_6 x0 x1 x2 x3 x4) x0 x1))])) st7 ?_
        refine Goes.run X7 hx hown hci hcl hby (L := [(73, .istore 9, 2), (75, .iload 10, 2), (77, .lload 12, 2), (79, .lload 14, 2)]) (by decide +kernel) rfl (g' := (mkF m 81 #[.val (.long x0), .second, .val (.long x1), .second, .val (.long x2), .second, .val (.long x3), .second, .val (.int x4), .val (.int (w0_73 x0 x1 x2 x3 x4)), .val (.int (w0_16 x0 x1 x2 x3 x4)), .val (.int (j0_32_s0 x0 x1 x2 x3 x4)), .val (.long (j0_48_s0 x0 x1 x2 x3 x4)), .second, .val (.long (j0_64_s0 x0 x1 x2 x3 x4)), .second, .unset, .unset, .unset, .unset, .unset, .unset, .unset, .unset, .unset, .unset, .unset] [(.long (j0_64_s0 x0 x1 x2 x3 x4)), (.long (j0_48_s0 x0 x1 x2 x3 x4)), (.int (w0_16 x0 x1 x2 x3 x4))])) rfl ?_
        obtain ⟨_, _, ⟨T8, L8, k8, n8⟩, -, X8, ⟨Lc8, hQ8, l8, y8, z8⟩, st8⟩ := Jvm.LawKit.callS X7 hx (y := (⟨"com/example/marks_across_domains/marksacrossdomains/BitsContainsPinLaw", "trim", "(IJJ)I"⟩ : MethodName)) hown (mvT hZ (hw _ (List.mem_of_getElem? (i := 0) rfl))) (mvT hZ (hw _ (List.mem_of_getElem? (i := 1) rfl))) (mvT hZ (hw _ (List.mem_of_getElem? (i := 2) rfl))) (mvT hZ (hw _ (List.mem_of_getElem? (i := 3) rfl))) (by decide) (backOf (W := 0) (rm1 l Z a0 hw [] (w0_16 x0 x1 x2 x3 x4) (j0_48_s0 x0 x1 x2 x3 x4) (j0_64_s0 x0 x1 x2 x3 x4) h0 n0 Z0 ) hZ (hw _ (List.mem_of_getElem? (i := 3) rfl)) (hw _ (List.mem_of_getElem? (i := 2) rfl)) (by decide) (by decide)) (g := (mkF m 81 #[.val (.long x0), .second, .val (.long x1), .second, .val (.long x2), .second, .val (.long x3), .second, .val (.int x4), .val (.int (w0_73 x0 x1 x2 x3 x4)), .val (.int (w0_16 x0 x1 x2 x3 x4)), .val (.int (j0_32_s0 x0 x1 x2 x3 x4)), .val (.long (j0_48_s0 x0 x1 x2 x3 x4)), .second, .val (.long (j0_64_s0 x0 x1 x2 x3 x4)), .second, .unset, .unset, .unset, .unset, .unset, .unset, .unset, .unset, .unset, .unset, .unset] [(.long (j0_64_s0 x0 x1 x2 x3 x4)), (.long (j0_48_s0 x0 x1 x2 x3 x4)), (.int (w0_16 x0 x1 x2 x3 x4))])) rfl (by rw [hml]; rfl) (argsL := [(.int (w0_16 x0 x1 x2 x3 x4)), (.long (j0_48_s0 x0 x1 x2 x3 x4)), (.long (j0_64_s0 x0 x1 x2 x3 x4))]) (rest := []) (lenOf pd0_0 rfl) rfl (by show 2 * 0 + _ ≤ _; exact Nat.le_of_eq rfl) (hb hby at_81) (fun _ _ => ⟨rfl, e7, (by decide : 0 + 0 ≤ _), (by decide : 0 + 0 ≤ _)⟩)
        dsimp only [Pt.U, Pt.locs, Pt.cells, Pt.slots] at X8 l8 y8 z8 st8 hQ8
        subst l8 y8 z8
        obtain ⟨rfl, N8q, e8⟩ := hQ8
        have N8 := Fr.app N7 N8q
        refine Goes.st (B := T8.setTop (mkF m 84 #[.val (.long x0), .second, .val (.long x1), .second, .val (.long x2), .second, .val (.long x3), .second, .val (.int x4), .val (.int (w0_73 x0 x1 x2 x3 x4)), .val (.int (w0_16 x0 x1 x2 x3 x4)), .val (.int (j0_32_s0 x0 x1 x2 x3 x4)), .val (.long (j0_48_s0 x0 x1 x2 x3 x4)), .second, .val (.long (j0_64_s0 x0 x1 x2 x3 x4)), .second, .unset, .unset, .unset, .unset, .unset, .unset, .unset, .unset, .unset, .unset, .unset] [(.int (r1 (w0_16 x0 x1 x2 x3 x4) (j0_48_s0 x0 x1 x2 x3 x4) (j0_64_s0 x0 x1 x2 x3 x4)))])) st8 ?_
        refine Goes.run X8 hx hown hci hcl hby (L := [(84, .istore 10, 2)]) (by decide +kernel) rfl (g' := (mkF m 86 #[.val (.long x0), .second, .val (.long x1), .second, .val (.long x2), .second, .val (.long x3), .second, .val (.int x4), .val (.int (w0_73 x0 x1 x2 x3 x4)), .val (.int (w0_84 x0 x1 x2 x3 x4)), .val (.int (j0_32_s0 x0 x1 x2 x3 x4)), .val (.long (j0_48_s0 x0 x1 x2 x3 x4)), .second, .val (.long (j0_64_s0 x0 x1 x2 x3 x4)), .second, .unset, .unset, .unset, .unset, .unset, .unset, .unset, .unset, .unset, .unset, .unset] [])) rfl ?_
        by_cases hs86_9 : (w0_73 x0 x1 x2 x3 x4) = (0 : Int32)
        · skip
          rw [hs86_9]
          by_cases hs86_10 : (w0_84 x0 x1 x2 x3 x4) = (0 : Int32)
          · skip
            rw [hs86_10]
            refine Goes.run X8 hx hown hci hcl hby (L := [(86, .iload 9, 2), (88, .lload_n 0, 1), (89, .lload_n 2, 1)]) (by decide +kernel) rfl (g' := (mkF m 90 #[.val (.long x0), .second, .val (.long x1), .second, .val (.long x2), .second, .val (.long x3), .second, .val (.int x4), .val (.int (0 : Int32)), .val (.int (0 : Int32)), .val (.int (j0_32_s0 x0 x1 x2 x3 x4)), .val (.long (j0_48_s0 x0 x1 x2 x3 x4)), .second, .val (.long (j0_64_s0 x0 x1 x2 x3 x4)), .second, .unset, .unset, .unset, .unset, .unset, .unset, .unset, .unset, .unset, .unset, .unset] [(.long x1), (.long x0), (.int (0 : Int32))])) rfl ?_
            obtain ⟨_, _, ⟨T11, L11, k11, n11⟩, -, X11, ⟨Lc11, hQ11, l11, y11, z11⟩, st11⟩ := Jvm.LawKit.callS X8 hx (y := (⟨"com/example/marks_across_domains/marksacrossdomains/BitsContainsPinLaw", "make", "(IJJ)[J"⟩ : MethodName)) hown (mvT hZ (hw _ (List.mem_of_getElem? (i := 4) rfl))) (mvT hZ (hw _ (List.mem_of_getElem? (i := 5) rfl))) (mvT hZ (hw _ (List.mem_of_getElem? (i := 2) rfl))) (mvT hZ (hw _ (List.mem_of_getElem? (i := 6) rfl))) (by decide) (backOf (W := 0) (rm20 l Z a0 hw [] x0 x1 h0 n0 Z0 ) hZ (hw _ (List.mem_of_getElem? (i := 6) rfl)) (hw _ (List.mem_of_getElem? (i := 2) rfl)) (by decide) (by decide)) (g := (mkF m 90 #[.val (.long x0), .second, .val (.long x1), .second, .val (.long x2), .second, .val (.long x3), .second, .val (.int x4), .val (.int (0 : Int32)), .val (.int (0 : Int32)), .val (.int (j0_32_s0 x0 x1 x2 x3 x4)), .val (.long (j0_48_s0 x0 x1 x2 x3 x4)), .second, .val (.long (j0_64_s0 x0 x1 x2 x3 x4)), .second, .unset, .unset, .unset, .unset, .unset, .unset, .unset, .unset, .unset, .unset, .unset] [(.long x1), (.long x0), (.int (0 : Int32))])) rfl (by rw [hml]; rfl) (argsL := [(.int (0 : Int32)), (.long x0), (.long x1)]) (rest := []) (lenOf pd0_1 rfl) rfl (by show 2 * 0 + _ ≤ _; exact Nat.le_of_eq rfl) (hb hby at_90) (fun _ _ => ⟨rfl, e8, (by decide : 0 + 1 ≤ _), (by decide : 0 + 0 ≤ _)⟩)
            dsimp only [Pt.U, Pt.locs, Pt.cells, Pt.slots] at X11 l11 y11 z11 st11 hQ11
            subst l11 y11 z11
            obtain ⟨h11, eh11⟩ : ∃ z, z = T11.heap := ⟨_, rfl⟩
            rw [← eh11] at hQ11
            have e11 : T11.heap = h11 := eh11.symm
            obtain ⟨b11, kc11, rfl, N11q, Kq11, szq11, o11_0, o11_1⟩ := hQ11
            have g_b11 : n0 ≤ b11 := Nat.le_trans Z0 szq11
            have N11 := Fr.app N8 N11q
            have E_b11 : Exa Z h11 b11 "[J" := o11_0
            have V_b11 : Arv Z h11 b11 kc11 .long (0 : Int32) [] (.long (0 : Int64)) := o11_1
            have Zn11 : n0 ≤ h11.size := Nat.le_trans Z0 Kq11.1
            refine Goes.st (B := T11.setTop (mkF m 93 #[.val (.long x0), .second, .val (.long x1), .second, .val (.long x2), .second, .val (.long x3), .second, .val (.int x4), .val (.int (0 : Int32)), .val (.int (0 : Int32)), .val (.int (j0_32_s0 x0 x1 x2 x3 x4)), .val (.long (j0_48_s0 x0 x1 x2 x3 x4)), .second, .val (.long (j0_64_s0 x0 x1 x2 x3 x4)), .second, .unset, .unset, .unset, .unset, .unset, .unset, .unset, .unset, .unset, .unset, .unset] [(.ref b11)])) st11 ?_
            refine Goes.run X11 hx hown hci hcl hby (L := [(93, .astore 16, 2), (95, .iload 10, 2), (97, .lload 12, 2), (99, .lload 14, 2)]) (by decide +kernel) rfl (g' := (mkF m 101 #[.val (.long x0), .second, .val (.long x1), .second, .val (.long x2), .second, .val (.long x3), .second, .val (.int x4), .val (.int (0 : Int32)), .val (.int (0 : Int32)), .val (.int (j0_32_s0 x0 x1 x2 x3 x4)), .val (.long (j0_48_s0 x0 x1 x2 x3 x4)), .second, .val (.long (j0_64_s0 x0 x1 x2 x3 x4)), .second, .val (.ref b11), .unset, .unset, .unset, .unset, .unset, .unset, .unset, .unset, .unset, .unset] [(.long (j0_64_s0 x0 x1 x2 x3 x4)), (.long (j0_48_s0 x0 x1 x2 x3 x4)), (.int (0 : Int32))])) rfl ?_
            obtain ⟨_, _, ⟨T12, L12, k12, n12⟩, -, X12, ⟨Lc12, hQ12, l12, y12, z12⟩, st12⟩ := Jvm.LawKit.callS X11 hx (y := (⟨"com/example/marks_across_domains/marksacrossdomains/BitsContainsPinLaw", "make", "(IJJ)[J"⟩ : MethodName)) hown (mvT hZ (hw _ (List.mem_of_getElem? (i := 4) rfl))) (mvT hZ (hw _ (List.mem_of_getElem? (i := 5) rfl))) (mvT hZ (hw _ (List.mem_of_getElem? (i := 2) rfl))) (mvT hZ (hw _ (List.mem_of_getElem? (i := 6) rfl))) (by decide) (backOf (W := 0) (rm20 l Z a0 hw [] (j0_48_s0 x0 x1 x2 x3 x4) (j0_64_s0 x0 x1 x2 x3 x4) h11 n0 Zn11 ) hZ (hw _ (List.mem_of_getElem? (i := 6) rfl)) (hw _ (List.mem_of_getElem? (i := 2) rfl)) (by decide) (by decide)) (g := (mkF m 101 #[.val (.long x0), .second, .val (.long x1), .second, .val (.long x2), .second, .val (.long x3), .second, .val (.int x4), .val (.int (0 : Int32)), .val (.int (0 : Int32)), .val (.int (j0_32_s0 x0 x1 x2 x3 x4)), .val (.long (j0_48_s0 x0 x1 x2 x3 x4)), .second, .val (.long (j0_64_s0 x0 x1 x2 x3 x4)), .second, .val (.ref b11), .unset, .unset, .unset, .unset, .unset, .unset, .unset, .unset, .unset, .unset] [(.long (j0_64_s0 x0 x1 x2 x3 x4)), (.long (j0_48_s0 x0 x1 x2 x3 x4)), (.int (0 : Int32))])) rfl (by rw [hml]; rfl) (argsL := [(.int (0 : Int32)), (.long (j0_48_s0 x0 x1 x2 x3 x4)), (.long (j0_64_s0 x0 x1 x2 x3 x4))]) (rest := []) (lenOf pd0_1 rfl) rfl (by show 2 * 0 + _ ≤ _; exact Nat.le_of_eq rfl) (hb hby at_101) (fun _ _ => ⟨rfl, e11, (by decide : 1 + 1 ≤ _), (by decide : 0 + 0 ≤ _)⟩)
            dsimp only [Pt.U, Pt.locs, Pt.cells, Pt.slots] at X12 l12 y12 z12 st12 hQ12
            subst l12 y12 z12
            obtain ⟨h12, eh12⟩ : ∃ z, z = T12.heap := ⟨_, rfl⟩
            rw [← eh12] at hQ12
            have e12 : T12.heap = h12 := eh12.symm
            obtain ⟨b12, kc12, rfl, N12q, Kq12, szq12, o12_0, o12_1⟩ := hQ12
            have ne_b11_b12 : b11 ≠ b12 := Nat.ne_of_lt (Nat.lt_of_lt_of_le E_b11.lt szq12)
            have g_b12 : n0 ≤ b12 := Nat.le_trans Zn11 szq12
            have N12 := Fr.app N11 N12q
            have E_b11 := E_b11.keep Kq12
            have V_b11 := V_b11.keep Kq12 nin0
            have E_b12 : Exa Z h12 b12 "[J" := o12_0
            have V_b12 : Arv Z h12 b12 kc12 .long (0 : Int32) [] (.long (0 : Int64)) := o12_1
            have Zn12 : n0 ≤ h12.size := Nat.le_trans Zn11 Kq12.1
            refine Goes.st (B := T12.setTop (mkF m 104 #[.val (.long x0), .second, .val (.long x1), .second, .val (.long x2), .second, .val (.long x3), .second, .val (.int x4), .val (.int (0 : Int32)), .val (.int (0 : Int32)), .val (.int (j0_32_s0 x0 x1 x2 x3 x4)), .val (.long (j0_48_s0 x0 x1 x2 x3 x4)), .second, .val (.long (j0_64_s0 x0 x1 x2 x3 x4)), .second, .val (.ref b11), .unset, .unset, .unset, .unset, .unset, .unset, .unset, .unset, .unset, .unset] [(.ref b12)])) st12 ?_
            refine Goes.run X12 hx hown hci hcl hby (L := [(104, .astore 17, 2), (106, .iload 9, 2), (108, .iconst 1, 1)]) (by decide +kernel) rfl (g' := (mkF m 109 #[.val (.long x0), .second, .val (.long x1), .second, .val (.long x2), .second, .val (.long x3), .second, .val (.int x4), .val (.int (0 : Int32)), .val (.int (0 : Int32)), .val (.int (j0_32_s0 x0 x1 x2 x3 x4)), .val (.long (j0_48_s0 x0 x1 x2 x3 x4)), .second, .val (.long (j0_64_s0 x0 x1 x2 x3 x4)), .second, .val (.ref b11), .val (.ref b12), .unset, .unset, .unset, .unset, .unset, .unset, .unset, .unset, .unset] [(.int (1 : Int32)), (.int (0 : Int32))])) rfl ?_
            have hc109_13 : (0 : Int32) < (1 : Int32) := by decide
            refine Goes.st (B := T12.setTop (mkF m 116 #[.val (.long x0), .second, .val (.long x1), .second, .val (.long x2), .second, .val (.long x3), .second, .val (.int x4), .val (.int (0 : Int32)), .val (.int (0 : Int32)), .val (.int (j0_32_s0 x0 x1 x2 x3 x4)), .val (.long (j0_48_s0 x0 x1 x2 x3 x4)), .second, .val (.long (j0_64_s0 x0 x1 x2 x3 x4)), .second, .val (.ref b11), .val (.ref b12), .unset, .unset, .unset, .unset, .unset, .unset, .unset, .unset, .unset] [])) (fun t k => ?_) ?_
            · refine XS.icmpYes X12.here hx rfl (pc0 := 109) (pc' := 116) rfl (hb hby at_109) rfl (tlt hc109_13).1 (by decide) (by decide) ?_
              exact k
            refine Goes.run X12 hx hown hci hcl hby (L := [(116, .lconst 0, 1), (117, .lstore 18, 2), (119, .iload 9, 2), (121, .iconst 2, 1)]) (by decide +kernel) rfl (g' := (mkF m 122 #[.val (.long x0), .second, .val (.long x1), .second, .val (.long x2), .second, .val (.long x3), .second, .val (.int x4), .val (.int (0 : Int32)), .val (.int (0 : Int32)), .val (.int (j0_32_s0 x0 x1 x2 x3 x4)), .val (.long (j0_48_s0 x0 x1 x2 x3 x4)), .second, .val (.long (j0_64_s0 x0 x1 x2 x3 x4)), .second, .val (.ref b11), .val (.ref b12), .val (.long (0 : Int64)), .second, .unset, .unset, .unset, .unset, .unset, .unset, .unset] [(.int (2 : Int32)), (.int (0 : Int32))])) rfl ?_
            have hc122_14 : (0 : Int32) < (2 : Int32) := by decide
            refine Goes.st (B := T12.setTop (mkF m 129 #[.val (.long x0), .second, .val (.long x1), .second, .val (.long x2), .second, .val (.long x3), .second, .val (.int x4), .val (.int (0 : Int32)), .val (.int (0 : Int32)), .val (.int (j0_32_s0 x0 x1 x2 x3 x4)), .val (.long (j0_48_s0 x0 x1 x2 x3 x4)), .second, .val (.long (j0_64_s0 x0 x1 x2 x3 x4)), .second, .val (.ref b11), .val (.ref b12), .val (.long (0 : Int64)), .second, .unset, .unset, .unset, .unset, .unset, .unset, .unset] [])) (fun t k => ?_) ?_
            · refine XS.icmpYes X12.here hx rfl (pc0 := 122) (pc' := 129) rfl (hb hby at_122) rfl (tlt hc122_14).1 (by decide) (by decide) ?_
              exact k
            refine Goes.run X12 hx hown hci hcl hby (L := [(129, .lconst 0, 1), (130, .lstore 20, 2), (132, .iload 10, 2), (134, .iconst 1, 1)]) (by decide +kernel) rfl (g' := (mkF m 135 #[.val (.long x0), .second, .val (.long x1), .second, .val (.long x2), .second, .val (.long x3), .second, .val (.int x4), .val (.int (0 : Int32)), .val (.int (0 : Int32)), .val (.int (j0_32_s0 x0 x1 x2 x3 x4)), .val (.long (j0_48_s0 x0 x1 x2 x3 x4)), .second, .val (.long (j0_64_s0 x0 x1 x2 x3 x4)), .second, .val (.ref b11), .val (.ref b12), .val (.long (0 : Int64)), .second, .val (.long (0 : Int64)), .second, .unset, .unset, .unset, .unset, .unset] [(.int (1 : Int32)), (.int (0 : Int32))])) rfl ?_
            have hc135_15 : (0 : Int32) < (1 : Int32) := by decide
            refine Goes.st (B := T12.setTop (mkF m 143 #[.val (.long x0), .second, .val (.long x1), .second, .val (.long x2), .second, .val (.long x3), .second, .val (.int x4), .val (.int (0 : Int32)), .val (.int (0 : Int32)), .val (.int (j0_32_s0 x0 x1 x2 x3 x4)), .val (.long (j0_48_s0 x0 x1 x2 x3 x4)), .second, .val (.long (j0_64_s0 x0 x1 x2 x3 x4)), .second, .val (.ref b11), .val (.ref b12), .val (.long (0 : Int64)), .second, .val (.long (0 : Int64)), .second, .unset, .unset, .unset, .unset, .unset] [])) (fun t k => ?_) ?_
            · refine XS.icmpYes X12.here hx rfl (pc0 := 135) (pc' := 143) rfl (hb hby at_135) rfl (tlt hc135_15).1 (by decide) (by decide) ?_
              exact k
            refine Goes.run X12 hx hown hci hcl hby (L := [(143, .lconst 0, 1), (144, .lstore 22, 2), (146, .iload 10, 2), (148, .iconst 2, 1)]) (by decide +kernel) rfl (g' := (mkF m 149 #[.val (.long x0), .second, .val (.long x1), .second, .val (.long x2), .second, .val (.long x3), .second, .val (.int x4), .val (.int (0 : Int32)), .val (.int (0 : Int32)), .val (.int (j0_32_s0 x0 x1 x2 x3 x4)), .val (.long (j0_48_s0 x0 x1 x2 x3 x4)), .second, .val (.long (j0_64_s0 x0 x1 x2 x3 x4)), .second, .val (.ref b11), .val (.ref b12), .val (.long (0 : Int64)), .second, .val (.long (0 : Int64)), .second, .val (.long (0 : Int64)), .second, .unset, .unset, .unset] [(.int (2 : Int32)), (.int (0 : Int32))])) rfl ?_
            have hc149_16 : (0 : Int32) < (2 : Int32) := by decide
            refine Goes.st (B := T12.setTop (mkF m 157 #[.val (.long x0), .second, .val (.long x1), .second, .val (.long x2), .second, .val (.long x3), .second, .val (.int x4), .val (.int (0 : Int32)), .val (.int (0 : Int32)), .val (.int (j0_32_s0 x0 x1 x2 x3 x4)), .val (.long (j0_48_s0 x0 x1 x2 x3 x4)), .second, .val (.long (j0_64_s0 x0 x1 x2 x3 x4)), .second, .val (.ref b11), .val (.ref b12), .val (.long (0 : Int64)), .second, .val (.long (0 : Int64)), .second, .val (.long (0 : Int64)), .second, .unset, .unset, .unset] [])) (fun t k => ?_) ?_
            · refine XS.icmpYes X12.here hx rfl (pc0 := 149) (pc' := 157) rfl (hb hby at_149) rfl (tlt hc149_16).1 (by decide) (by decide) ?_
              exact k
            refine Goes.run X12 hx hown hci hcl hby (L := [(157, .lconst 0, 1), (158, .lstore 24, 2), (160, .lload 22, 2), (162, .lload 18, 2), (164, .ldc2_w 17, 3), (167, .lxor, 1)]) (by decide +kernel) rfl (g' := (mkF m 168 #[.val (.long x0), .second, .val (.long x1), .second, .val (.long x2), .second, .val (.long x3), .second, .val (.int x4), .val (.int (0 : Int32)), .val (.int (0 : Int32)), .val (.int (j0_32_s0 x0 x1 x2 x3 x4)), .val (.long (j0_48_s0 x0 x1 x2 x3 x4)), .second, .val (.long (j0_64_s0 x0 x1 x2 x3 x4)), .second, .val (.ref b11), .val (.ref b12), .val (.long (0 : Int64)), .second, .val (.long (0 : Int64)), .second, .val (.long (0 : Int64)), .second, .val (.long (0 : Int64)), .second, .unset] [(.long ((0 : Int64) ^^^ (-1 : Int64))), (.long (0 : Int64))])) rfl ?_
            refine Goes.run X12 hx hown hci hcl hby (L := [(168, .land, 1), (169, .lconst 0, 1), (170, .lcmp, 1)]) (by decide +kernel) rfl (g' := (mkF m 171 #[.val (.long x0), .second, .val (.long x1), .second, .val (.long x2), .second, .val (.long x3), .second, .val (.int x4), .val (.int (0 : Int32)), .val (.int (0 : Int32)), .val (.int (j0_32_s0 x0 x1 x2 x3 x4)), .val (.long (j0_48_s0 x0 x1 x2 x3 x4)), .second, .val (.long (j0_64_s0 x0 x1 x2 x3 x4)), .second, .val (.ref b11), .val (.ref b12), .val (.long (0 : Int64)), .second, .val (.long (0 : Int64)), .second, .val (.long (0 : Int64)), .second, .val (.long (0 : Int64)), .second, .unset] [(.int (lcmpW ((0 : Int64) &&& ((0 : Int64) ^^^ (-1 : Int64))) (0 : Int64)))])) rfl ?_
            have jn193_19 : Goes p e below s (QL (some (.int (r0 x0 x1 x2 x3 x4))) n0) room_1.cells room_1.slots (T12.setTop (mkF m 193 #[.val (.long x0), .second, .val (.long x1), .second, .val (.long x2), .second, .val (.long x3), .second, .val (.int x4), .val (.int (0 : Int32)), .val (.int (0 : Int32)), .val (.int (j0_32_s0 x0 x1 x2 x3 x4)), .val (.long (j0_48_s0 x0 x1 x2 x3 x4)), .second, .val (.long (j0_64_s0 x0 x1 x2 x3 x4)), .second, .val (.ref b11), .val (.ref b12), .val (.long (0 : Int64)), .second, .val (.long (0 : Int64)), .second, .val (.long (0 : Int64)), .second, .val (.long (0 : Int64)), .second, .unset] [(.int (j0_193_s0 x0 x1 x2 x3 x4))])) := by
              refine Goes.run X12 hx hown hci hcl hby (L := [(193, .istore 26, 2), (195, .aload 16, 2), (197, .aload 17, 2)]) (by decide +kernel) rfl (g' := (mkF m 199 #[.val (.long x0), .second, .val (.long x1), .second, .val (.long x2), .second, .val (.long x3), .second, .val (.int x4), .val (.int (0 : Int32)), .val (.int (0 : Int32)), .val (.int (j0_32_s0 x0 x1 x2 x3 x4)), .val (.long (j0_48_s0 x0 x1 x2 x3 x4)), .second, .val (.long (j0_64_s0 x0 x1 x2 x3 x4)), .second, .val (.ref b11), .val (.ref b12), .val (.long (0 : Int64)), .second, .val (.long (0 : Int64)), .second, .val (.long (0 : Int64)), .second, .val (.long (0 : Int64)), .second, .val (.int (j0_193_s0 x0 x1 x2 x3 x4))] [(.ref b12), (.ref b11)])) rfl ?_
              obtain ⟨_, _, ⟨T20, L20, k20, n20⟩, -, X20, ⟨Lc20, hQ20, l20, y20, z20⟩, st20⟩ := Jvm.LawKit.callS X12 hx (y := (⟨"com/example/marks_across_domains/marksacrossdomains/Bits", "contains", "([J[J)Z"⟩ : MethodName)) hown (mvT hZ (hw _ (List.mem_of_getElem? (i := 9) rfl))) (mvT hZ (hw _ (List.mem_of_getElem? (i := 10) rfl))) (mvT hZ (hw _ (List.mem_of_getElem? (i := 11) rfl))) (mvT hZ (hw _ (List.mem_of_getElem? (i := 12) rfl))) (by decide) (backOf (W := 0) (rm300 l Z a0 hw [] b11 b12 kc11 kc12 h12 n0 Zn12 V_b11 V_b12) hZ (hw _ (List.mem_of_getElem? (i := 12) rfl)) (hw _ (List.mem_of_getElem? (i := 11) rfl)) (by decide) (by decide)) (g := (mkF m 199 #[.val (.long x0), .second, .val (.long x1), .second, .val (.long x2), .second, .val (.long x3), .second, .val (.int x4), .val (.int (0 : Int32)), .val (.int (0 : Int32)), .val (.int (j0_32_s0 x0 x1 x2 x3 x4)), .val (.long (j0_48_s0 x0 x1 x2 x3 x4)), .second, .val (.long (j0_64_s0 x0 x1 x2 x3 x4)), .second, .val (.ref b11), .val (.ref b12), .val (.long (0 : Int64)), .second, .val (.long (0 : Int64)), .second, .val (.long (0 : Int64)), .second, .val (.long (0 : Int64)), .second, .val (.int (j0_193_s0 x0 x1 x2 x3 x4))] [(.ref b12), (.ref b11)])) rfl (by rw [hml]; rfl) (argsL := [(.ref b11), (.ref b12)]) (rest := []) (lenOf pd0_2 rfl) rfl (by show 2 * 0 + _ ≤ _; exact Nat.le_of_eq rfl) (hb hby at_199) (fun _ _ => ⟨rfl, e12, (by decide : 2 + 0 ≤ _), (by decide : 0 + 0 ≤ _)⟩)
              dsimp only [Pt.U, Pt.locs, Pt.cells, Pt.slots] at X20 l20 y20 z20 st20 hQ20
              subst l20 y20 z20
              obtain ⟨rfl, N20q, e20⟩ := hQ20
              have N20 := Fr.app N12 N20q
              refine Goes.st (B := T20.setTop (mkF m 202 #[.val (.long x0), .second, .val (.long x1), .second, .val (.long x2), .second, .val (.long x3), .second, .val (.int x4), .val (.int (0 : Int32)), .val (.int (0 : Int32)), .val (.int (j0_32_s0 x0 x1 x2 x3 x4)), .val (.long (j0_48_s0 x0 x1 x2 x3 x4)), .second, .val (.long (j0_64_s0 x0 x1 x2 x3 x4)), .second, .val (.ref b11), .val (.ref b12), .val (.long (0 : Int64)), .second, .val (.long (0 : Int64)), .second, .val (.long (0 : Int64)), .second, .val (.long (0 : Int64)), .second, .val (.int (j0_193_s0 x0 x1 x2 x3 x4))] [(.int r300)])) st20 ?_
              refine Goes.run X20 hx hown hci hcl hby (L := [(202, .iload 26, 2)]) (by decide +kernel) rfl (g' := (mkF m 204 #[.val (.long x0), .second, .val (.long x1), .second, .val (.long x2), .second, .val (.long x3), .second, .val (.int x4), .val (.int (0 : Int32)), .val (.int (0 : Int32)), .val (.int (j0_32_s0 x0 x1 x2 x3 x4)), .val (.long (j0_48_s0 x0 x1 x2 x3 x4)), .second, .val (.long (j0_64_s0 x0 x1 x2 x3 x4)), .second, .val (.ref b11), .val (.ref b12), .val (.long (0 : Int64)), .second, .val (.long (0 : Int64)), .second, .val (.long (0 : Int64)), .second, .val (.long (0 : Int64)), .second, .val (.int (j0_193_s0 x0 x1 x2 x3 x4))] [(.int (j0_193_s0 x0 x1 x2 x3 x4)), (.int r300)])) rfl ?_
              by_cases hc204_21 : r300 = (j0_193_s0 x0 x1 x2 x3 x4)
              · skip
                refine Goes.st (B := T20.setTop (mkF m 207 #[.val (.long x0), .second, .val (.long x1), .second, .val (.long x2), .second, .val (.long x3), .second, .val (.int x4), .val (.int (0 : Int32)), .val (.int (0 : Int32)), .val (.int (j0_32_s0 x0 x1 x2 x3 x4)), .val (.long (j0_48_s0 x0 x1 x2 x3 x4)), .second, .val (.long (j0_64_s0 x0 x1 x2 x3 x4)), .second, .val (.ref b11), .val (.ref b12), .val (.long (0 : Int64)), .second, .val (.long (0 : Int64)), .second, .val (.long (0 : Int64)), .second, .val (.long (0 : Int64)), .second, .val (.int (j0_193_s0 x0 x1 x2 x3 x4))] [])) (fun t k => ?_) ?_
                · refine XS.icmpNo X20.here hx rfl (hb hby at_204) rfl (teq hc204_21).2 ?_
                  exact k
                refine Goes.run X20 hx hown hci hcl hby (L := [(207, .iconst 1, 1), (208, .goto 4, 3)]) (by decide +kernel) rfl (g' := (mkF m 212 #[.val (.long x0), .second, .val (.long x1), .second, .val (.long x2), .second, .val (.long x3), .second, .val (.int x4), .val (.int (0 : Int32)), .val (.int (0 : Int32)), .val (.int (j0_32_s0 x0 x1 x2 x3 x4)), .val (.long (j0_48_s0 x0 x1 x2 x3 x4)), .second, .val (.long (j0_64_s0 x0 x1 x2 x3 x4)), .second, .val (.ref b11), .val (.ref b12), .val (.long (0 : Int64)), .second, .val (.long (0 : Int64)), .second, .val (.long (0 : Int64)), .second, .val (.long (0 : Int64)), .second, .val (.int (j0_193_s0 x0 x1 x2 x3 x4))] [(.int (1 : Int32))])) rfl ?_
                exact Goes.retB X20 hx hlk (t := .boolean) Bd.returns (by simp) (hb hby at_212) rfl ⟨(congrArg (fun z => some (Value.int z)) (show (r0 x0 x1 x2 x3 x4) = (1 : Int32) from (((if_pos hs86_9).trans (if_pos hs86_10)).trans (if_pos hc204_21))).symm), N20⟩ (by decide) (by decide)
              · skip
                refine Goes.st (B := T20.setTop (mkF m 211 #[.val (.long x0), .second, .val (.long x1), .second, .val (.long x2), .second, .val (.long x3), .second, .val (.int x4), .val (.int (0 : Int32)), .val (.int (0 : Int32)), .val (.int (j0_32_s0 x0 x1 x2 x3 x4)), .val (.long (j0_48_s0 x0 x1 x2 x3 x4)), .second, .val (.long (j0_64_s0 x0 x1 x2 x3 x4)), .second, .val (.ref b11), .val (.ref b12), .val (.long (0 : Int64)), .second, .val (.long (0 : Int64)), .second, .val (.long (0 : Int64)), .second, .val (.long (0 : Int64)), .second, .val (.int (j0_193_s0 x0 x1 x2 x3 x4))] [])) (fun t k => ?_) ?_
                · refine XS.icmpYes X20.here hx rfl (pc0 := 204) (pc' := 211) rfl (hb hby at_204) rfl (feq hc204_21).2 (by decide) (by decide) ?_
                  exact k
                refine Goes.run X20 hx hown hci hcl hby (L := [(211, .iconst 0, 1)]) (by decide +kernel) rfl (g' := (mkF m 212 #[.val (.long x0), .second, .val (.long x1), .second, .val (.long x2), .second, .val (.long x3), .second, .val (.int x4), .val (.int (0 : Int32)), .val (.int (0 : Int32)), .val (.int (j0_32_s0 x0 x1 x2 x3 x4)), .val (.long (j0_48_s0 x0 x1 x2 x3 x4)), .second, .val (.long (j0_64_s0 x0 x1 x2 x3 x4)), .second, .val (.ref b11), .val (.ref b12), .val (.long (0 : Int64)), .second, .val (.long (0 : Int64)), .second, .val (.long (0 : Int64)), .second, .val (.long (0 : Int64)), .second, .val (.int (j0_193_s0 x0 x1 x2 x3 x4))] [(.int (0 : Int32))])) rfl ?_
                exact Goes.retB X20 hx hlk (t := .boolean) Bd.returns (by simp) (hb hby at_212) rfl ⟨(congrArg (fun z => some (Value.int z)) (show (r0 x0 x1 x2 x3 x4) = (0 : Int32) from (((if_pos hs86_9).trans (if_pos hs86_10)).trans (if_neg hc204_21))).symm), N20⟩ (by decide) (by decide)
            by_cases hc171_17 : ((0 : Int64) &&& ((0 : Int64) ^^^ (-1 : Int64))) = (0 : Int64)
            · skip
              refine Goes.st (B := T12.setTop (mkF m 174 #[.val (.long x0), .second, .val (.long x1), .second, .val (.long x2), .second, .val (.long x3), .second, .val (.int x4), .val (.int (0 : Int32)), .val (.int (0 : Int32)), .val (.int (j0_32_s0 x0 x1 x2 x3 x4)), .val (.long (j0_48_s0 x0 x1 x2 x3 x4)), .second, .val (.long (j0_64_s0 x0 x1 x2 x3 x4)), .second, .val (.ref b11), .val (.ref b12), .val (.long (0 : Int64)), .second, .val (.long (0 : Int64)), .second, .val (.long (0 : Int64)), .second, .val (.long (0 : Int64)), .second, .unset] [])) (fun t k => ?_) ?_
              · refine XS.ifNo X12.here hx rfl (hb hby at_171) rfl (teqL hc171_17).2 ?_
                exact k
              refine Goes.run X12 hx hown hci hcl hby (L := [(174, .lload 24, 2), (176, .lload 20, 2), (178, .ldc2_w 17, 3), (181, .lxor, 1), (182, .land, 1), (183, .lconst 0, 1)]) (by decide +kernel) rfl (g' := (mkF m 184 #[.val (.long x0), .second, .val (.long x1), .second, .val (.long x2), .second, .val (.long x3), .second, .val (.int x4), .val (.int (0 : Int32)), .val (.int (0 : Int32)), .val (.int (j0_32_s0 x0 x1 x2 x3 x4)), .val (.long (j0_48_s0 x0 x1 x2 x3 x4)), .second, .val (.long (j0_64_s0 x0 x1 x2 x3 x4)), .second, .val (.ref b11), .val (.ref b12), .val (.long (0 : Int64)), .second, .val (.long (0 : Int64)), .second, .val (.long (0 : Int64)), .second, .val (.long (0 : Int64)), .second, .unset] [(.long (0 : Int64)), (.long ((0 : Int64) &&& ((0 : Int64) ^^^ (-1 : Int64))))])) rfl ?_
              refine Goes.run X12 hx hown hci hcl hby (L := [(184, .lcmp, 1)]) (by decide +kernel) rfl (g' := (mkF m 185 #[.val (.long x0), .second, .val (.long x1), .second, .val (.long x2), .second, .val (.long x3), .second, .val (.int x4), .val (.int (0 : Int32)), .val (.int (0 : Int32)), .val (.int (j0_32_s0 x0 x1 x2 x3 x4)), .val (.long (j0_48_s0 x0 x1 x2 x3 x4)), .second, .val (.long (j0_64_s0 x0 x1 x2 x3 x4)), .second, .val (.ref b11), .val (.ref b12), .val (.long (0 : Int64)), .second, .val (.long (0 : Int64)), .second, .val (.long (0 : Int64)), .second, .val (.long (0 : Int64)), .second, .unset] [(.int (lcmpW ((0 : Int64) &&& ((0 : Int64) ^^^ (-1 : Int64))) (0 : Int64)))])) rfl ?_
              by_cases hc185_22 : ((0 : Int64) &&& ((0 : Int64) ^^^ (-1 : Int64))) = (0 : Int64)
              · skip
                refine Goes.st (B := T12.setTop (mkF m 188 #[.val (.long x0), .second, .val (.long x1), .second, .val (.long x2), .second, .val (.long x3), .second, .val (.int x4), .val (.int (0 : Int32)), .val (.int (0 : Int32)), .val (.int (j0_32_s0 x0 x1 x2 x3 x4)), .val (.long (j0_48_s0 x0 x1 x2 x3 x4)), .second, .val (.long (j0_64_s0 x0 x1 x2 x3 x4)), .second, .val (.ref b11), .val (.ref b12), .val (.long (0 : Int64)), .second, .val (.long (0 : Int64)), .second, .val (.long (0 : Int64)), .second, .val (.long (0 : Int64)), .second, .unset] [])) (fun t k => ?_) ?_
                · refine XS.ifNo X12.here hx rfl (hb hby at_185) rfl (teqL hc185_22).2 ?_
                  exact k
                refine Goes.run X12 hx hown hci hcl hby (L := [(188, .iconst 1, 1), (189, .goto 4, 3)]) (by decide +kernel) rfl (g' := (mkF m 193 #[.val (.long x0), .second, .val (.long x1), .second, .val (.long x2), .second, .val (.long x3), .second, .val (.int x4), .val (.int (0 : Int32)), .val (.int (0 : Int32)), .val (.int (j0_32_s0 x0 x1 x2 x3 x4)), .val (.long (j0_48_s0 x0 x1 x2 x3 x4)), .second, .val (.long (j0_64_s0 x0 x1 x2 x3 x4)), .second, .val (.ref b11), .val (.ref b12), .val (.long (0 : Int64)), .second, .val (.long (0 : Int64)), .second, .val (.long (0 : Int64)), .second, .val (.long (0 : Int64)), .second, .unset] [(.int (1 : Int32))])) rfl ?_
                have q := jn193_19
                rw [show (j0_193_s0 x0 x1 x2 x3 x4) = (1 : Int32) from ((if_pos hc171_17).trans (if_pos hc185_22))] at q
                exact q
              · skip
                refine Goes.st (B := T12.setTop (mkF m 192 #[.val (.long x0), .second, .val (.long x1), .second, .val (.long x2), .second, .val (.long x3), .second, .val (.int x4), .val (.int (0 : Int32)), .val (.int (0 : Int32)), .val (.int (j0_32_s0 x0 x1 x2 x3 x4)), .val (.long (j0_48_s0 x0 x1 x2 x3 x4)), .second, .val (.long (j0_64_s0 x0 x1 x2 x3 x4)), .second, .val (.ref b11), .val (.ref b12), .val (.long (0 : Int64)), .second, .val (.long (0 : Int64)), .second, .val (.long (0 : Int64)), .second, .val (.long (0 : Int64)), .second, .unset] [])) (fun t k => ?_) ?_
                · refine XS.ifYes X12.here hx rfl (pc0 := 185) (pc' := 192) rfl (hb hby at_185) rfl (feqL hc185_22).2 (by decide) (by decide) ?_
                  exact k
                refine Goes.run X12 hx hown hci hcl hby (L := [(192, .iconst 0, 1)]) (by decide +kernel) rfl (g' := (mkF m 193 #[.val (.long x0), .second, .val (.long x1), .second, .val (.long x2), .second, .val (.long x3), .second, .val (.int x4), .val (.int (0 : Int32)), .val (.int (0 : Int32)), .val (.int (j0_32_s0 x0 x1 x2 x3 x4)), .val (.long (j0_48_s0 x0 x1 x2 x3 x4)), .second, .val (.long (j0_64_s0 x0 x1 x2 x3 x4)), .second, .val (.ref b11), .val (.ref b12), .val (.long (0 : Int64)), .second, .val (.long (0 : Int64)), .second, .val (.long (0 : Int64)), .second, .val (.long (0 : Int64)), .second, .unset] [(.int (0 : Int32))])) rfl ?_
                have q := jn193_19
                rw [show (j0_193_s0 x0 x1 x2 x3 x4) = (0 : Int32) from ((if_pos hc171_17).trans (if_neg hc185_22))] at q
                exact q
            · skip
              refine Goes.st (B := T12.setTop (mkF m 192 #[.val (.long x0), .second, .val (.long x1), .second, .val (.long x2), .second, .val (.long x3), .second, .val (.int x4), .val (.int (0 : Int32)), .val (.int (0 : Int32)), .val (.int (j0_32_s0 x0 x1 x2 x3 x4)), .val (.long (j0_48_s0 x0 x1 x2 x3 x4)), .second, .val (.long (j0_64_s0 x0 x1 x2 x3 x4)), .second, .val (.ref b11), .val (.ref b12), .val (.long (0 : Int64)), .second, .val (.long (0 : Int64)), .second, .val (.long (0 : Int64)), .second, .val (.long (0 : Int64)), .second, .unset] [])) (fun t k => ?_) ?_
              · refine XS.ifYes X12.here hx rfl (pc0 := 171) (pc' := 192) rfl (hb hby at_171) rfl (feqL hc171_17).2 (by decide) (by decide) ?_
                exact k
              refine Goes.run X12 hx hown hci hcl hby (L := [(192, .iconst 0, 1)]) (by decide +kernel) rfl (g' := (mkF m 193 #[.val (.long x0), .second, .val (.long x1), .second, .val (.long x2), .second, .val (.long x3), .second, .val (.int x4), .val (.int (0 : Int32)), .val (.int (0 : Int32)), .val (.int (j0_32_s0 x0 x1 x2 x3 x4)), .val (.long (j0_48_s0 x0 x1 x2 x3 x4)), .second, .val (.long (j0_64_s0 x0 x1 x2 x3 x4)), .second, .val (.ref b11), .val (.ref b12), .val (.long (0 : Int64)), .second, .val (.long (0 : Int64)), .second, .val (.long (0 : Int64)), .second, .val (.long (0 : Int64)), .second, .unset] [(.int (0 : Int32))])) rfl ?_
              have q := jn193_19
              rw [show (j0_193_s0 x0 x1 x2 x3 x4) = (0 : Int32) from (if_neg hc171_17)] at q
              exact q
          · skip
            by_cases hs86_23 : (w0_84 x0 x1 x2 x3 x4) = (1 : Int32)
            · skip
              rw [hs86_23]
              refine Goes.run X8 hx hown hci hcl hby (L := [(86, .iload 9, 2), (88, .lload_n 0, 1), (89, .lload_n 2, 1)]) (by decide +kernel) rfl (g' := (mkF m 90 #[.val (.long x0), .second, .val (.long x1), .second, .val (.long x2), .second, .val (.long x3), .second, .val (.int x4), .val (.int (0 : Int32)), .val (.int (1 : Int32)), .val (.int (j0_32_s0 x0 x1 x2 x3 x4)), .val (.long (j0_48_s0 x0 x1 x2 x3 x4)), .second, .val (.long (j0_64_s0 x0 x1 x2 x3 x4)), .second, .unset, .unset, .unset, .unset, .unset, .unset, .unset, .unset, .unset, .unset, .unset] [(.long x1), (.long x0), (.int (0 : Int32))])) rfl ?_
              obtain ⟨_, _, ⟨T24, L24, k24, n24⟩, -, X24, ⟨Lc24, hQ24, l24, y24, z24⟩, st24⟩ := Jvm.LawKit.callS X8 hx (y := (⟨"com/example/marks_across_domains/marksacrossdomains/BitsContainsPinLaw", "make", "(IJJ)[J"⟩ : MethodName)) hown (mvT hZ (hw _ (List.mem_of_getElem? (i := 4) rfl))) (mvT hZ (hw _ (List.mem_of_getElem? (i := 5) rfl))) (mvT hZ (hw _ (List.mem_of_getElem? (i := 2) rfl))) (mvT hZ (hw _ (List.mem_of_getElem? (i := 6) rfl))) (by decide) (backOf (W := 0) (rm20 l Z a0 hw [] x0 x1 h0 n0 Z0 ) hZ (hw _ (List.mem_of_getElem? (i := 6) rfl)) (hw _ (List.mem_of_getElem? (i := 2) rfl)) (by decide) (by decide)) (g := (mkF m 90 #[.val (.long x0), .second, .val (.long x1), .second, .val (.long x2), .second, .val (.long x3), .second, .val (.int x4), .val (.int (0 : Int32)), .val (.int (1 : Int32)), .val (.int (j0_32_s0 x0 x1 x2 x3 x4)), .val (.long (j0_48_s0 x0 x1 x2 x3 x4)), .second, .val (.long (j0_64_s0 x0 x1 x2 x3 x4)), .second, .unset, .unset, .unset, .unset, .unset, .unset, .unset, .unset, .unset, .unset, .unset] [(.long x1), (.long x0), (.int (0 : Int32))])) rfl (by rw [hml]; rfl) (argsL := [(.int (0 : Int32)), (.long x0), (.long x1)]) (rest := []) (lenOf pd0_1 rfl) rfl (by show 2 * 0 + _ ≤ _; exact Nat.le_of_eq rfl) (hb hby at_90) (fun _ _ => ⟨rfl, e8, (by decide : 0 + 1 ≤ _), (by decide : 0 + 0 ≤ _)⟩)
              dsimp only [Pt.U, Pt.locs, Pt.cells, Pt.slots] at X24 l24 y24 z24 st24 hQ24
              subst l24 y24 z24
              obtain ⟨h24, eh24⟩ : ∃ z, z = T24.heap := ⟨_, rfl⟩
              rw [← eh24] at hQ24
              have e24 : T24.heap = h24 := eh24.symm
              obtain ⟨b24, kc24, rfl, N24q, Kq24, szq24, o24_0, o24_1⟩ := hQ24
              have g_b24 : n0 ≤ b24 := Nat.le_trans Z0 szq24
              have N24 := Fr.app N8 N24q
              have E_b24 : Exa Z h24 b24 "[J" := o24_0
              have V_b24 : Arv Z h24 b24 kc24 .long (0 : Int32) [] (.long (0 : Int64)) := o24_1
              have Zn24 : n0 ≤ h24.size := Nat.le_trans Z0 Kq24.1
              refine Goes.st (B := T24.setTop (mkF m 93 #[.val (.long x0), .second, .val (.long x1), .second, .val (.long x2), .second, .val (.long x3), .second, .val (.int x4), .val (.int (0 : Int32)), .val (.int (1 : Int32)), .val (.int (j0_32_s0 x0 x1 x2 x3 x4)), .val (.long (j0_48_s0 x0 x1 x2 x3 x4)), .second, .val (.long (j0_64_s0 x0 x1 x2 x3 x4)), .second, .unset, .unset, .unset, .unset, .unset, .unset, .unset, .unset, .unset, .unset, .unset] [(.ref b24)])) st24 ?_
              refine Goes.run X24 hx hown hci hcl hby (L := [(93, .astore 16, 2), (95, .iload 10, 2), (97, .lload 12, 2), (99, .lload 14, 2)]) (by decide +kernel) rfl (g' := (mkF m 101 #[.val (.long x0), .second, .val (.long x1), .second, .val (.long x2), .second, .val (.long x3), .second, .val (.int x4), .val (.int (0 : Int32)), .val (.int (1 : Int32)), .val (.int (j0_32_s0 x0 x1 x2 x3 x4)), .val (.long (j0_48_s0 x0 x1 x2 x3 x4)), .second, .val (.long (j0_64_s0 x0 x1 x2 x3 x4)), .second, .val (.ref b24), .unset, .unset, .unset, .unset, .unset, .unset, .unset, .unset, .unset, .unset] [(.long (j0_64_s0 x0 x1 x2 x3 x4)), (.long (j0_48_s0 x0 x1 x2 x3 x4)), (.int (1 : Int32))])) rfl ?_
              obtain ⟨_, _, ⟨T25, L25, k25, n25⟩, -, X25, ⟨Lc25, hQ25, l25, y25, z25⟩, st25⟩ := Jvm.LawKit.callS X24 hx (y := (⟨"com/example/marks_across_domains/marksacrossdomains/BitsContainsPinLaw", "make", "(IJJ)[J"⟩ : MethodName)) hown (mvT hZ (hw _ (List.mem_of_getElem? (i := 4) rfl))) (mvT hZ (hw _ (List.mem_of_getElem? (i := 5) rfl))) (mvT hZ (hw _ (List.mem_of_getElem? (i := 2) rfl))) (mvT hZ (hw _ (List.mem_of_getElem? (i := 6) rfl))) (by decide) (backOf (W := 0) (rm21 l Z a0 hw [] (j0_48_s0 x0 x1 x2 x3 x4) (j0_64_s0 x0 x1 x2 x3 x4) h24 n0 Zn24 ) hZ (hw _ (List.mem_of_getElem? (i := 6) rfl)) (hw _ (List.mem_of_getElem? (i := 2) rfl)) (by decide) (by decide)) (g := (mkF m 101 #[.val (.long x0), .second, .val (.long x1), .second, .val (.long x2), .second, .val (.long x3), .second, .val (.int x4), .val (.int (0 : Int32)), .val (.int (1 : Int32)), .val (.int (j0_32_s0 x0 x1 x2 x3 x4)), .val (.long (j0_48_s0 x0 x1 x2 x3 x4)), .second, .val (.long (j0_64_s0 x0 x1 x2 x3 x4)), .second, .val (.ref b24), .unset, .unset, .unset, .unset, .unset, .unset, .unset, .unset, .unset, .unset] [(.long (j0_64_s0 x0 x1 x2 x3 x4)), (.long (j0_48_s0 x0 x1 x2 x3 x4)), (.int (1 : Int32))])) rfl (by rw [hml]; rfl) (argsL := [(.int (1 : Int32)), (.long (j0_48_s0 x0 x1 x2 x3 x4)), (.long (j0_64_s0 x0 x1 x2 x3 x4))]) (rest := []) (lenOf pd0_1 rfl) rfl (by show 2 * 0 + _ ≤ _; exact Nat.le_of_eq rfl) (hb hby at_101) (fun _ _ => ⟨rfl, e24, (by decide : 1 + 1 ≤ _), (by decide : 0 + 1 ≤ _)⟩)
              dsimp only [Pt.U, Pt.locs, Pt.cells, Pt.slots] at X25 l25 y25 z25 st25 hQ25
              subst l25 y25 z25
              obtain ⟨h25, eh25⟩ : ∃ z, z = T25.heap := ⟨_, rfl⟩
              rw [← eh25] at hQ25
              have e25 : T25.heap = h25 := eh25.symm
              obtain ⟨b25, kc25, rfl, N25q, Kq25, szq25, o25_0, o25_1⟩ := hQ25
              have ne_b24_b25 : b24 ≠ b25 := Nat.ne_of_lt (Nat.lt_of_lt_of_le E_b24.lt szq25)
              have g_b25 : n0 ≤ b25 := Nat.le_trans Zn24 szq25
              have N25 := Fr.app N24 N25q
              have E_b24 := E_b24.keep Kq25
              have V_b24 := V_b24.keep Kq25 nin0
              have E_b25 : Exa Z h25 b25 "[J" := o25_0
              have V_b25 : Arv Z h25 b25 kc25 .long (1 : Int32) [(.long (j0_48_s0 x0 x1 x2 x3 x4))] (.long (0 : Int64)) := o25_1
              have Zn25 : n0 ≤ h25.size := Nat.le_trans Zn24 Kq25.1
              refine Goes.st (B := T25.setTop (mkF m 104 #[.val (.long x0), .second, .val (.long x1), .second, .val (.long x2), .second, .val (.long x3), .second, .val (.int x4), .val (.int (0 : Int32)), .val (.int (1 : Int32)), .val (.int (j0_32_s0 x0 x1 x2 x3 x4)), .val (.long (j0_48_s0 x0 x1 x2 x3 x4)), .second, .val (.long (j0_64_s0 x0 x1 x2 x3 x4)), .second, .val (.ref b24), .unset, .unset, .unset, .unset, .unset, .unset, .unset, .unset, .unset, .unset] [(.ref b25)])) st25 ?_
              refine Goes.run X25 hx hown hci hcl hby (L := [(104, .astore 17, 2), (106, .iload 9, 2), (108, .iconst 1, 1)]) (by decide +kernel) rfl (g' := (mkF m 109 #[.val (.long x0), .second, .val (.long x1), .second, .val (.long x2), .second, .val (.long x3), .second, .val (.int x4), .val (.int (0 : Int32)), .val (.int (1 : Int32)), .val (.int (j0_32_s0 x0 x1 x2 x3 x4)), .val (.long (j0_48_s0 x0 x1 x2 x3 x4)), .second, .val (.long (j0_64_s0 x0 x1 x2 x3 x4)), .second, .val (.ref b24), .val (.ref b25), .unset, .unset, .unset, .unset, .unset, .unset, .unset, .unset, .unset] [(.int (1 : Int32)), (.int (0 : Int32))])) rfl ?_
              have hc109_26 : (0 : Int32) < (1 : Int32) := by decide
              refine Goes.st (B := T25.setTop (mkF m 116 #[.val (.long x0), .second, .val (.long x1), .second, .val (.long x2), .second, .val (.long x3), .second, .val (.int x4), .val (.int (0 : Int32)), .val (.int (1 : Int32)), .val (.int (j0_32_s0 x0 x1 x2 x3 x4)), .val (.long (j0_48_s0 x0 x1 x2 x3 x4)), .second, .val (.long (j0_64_s0 x0 x1 x2 x3 x4)), .second, .val (.ref b24), .val (.ref b25), .unset, .unset, .unset, .unset, .unset, .unset, .unset, .unset, .unset] [])) (fun t k => ?_) ?_
              · refine XS.icmpYes X25.here hx rfl (pc0 := 109) (pc' := 116) rfl (hb hby at_109) rfl (tlt hc109_26).1 (by decide) (by decide) ?_
                exact k
              refine Goes.run X25 hx hown hci hcl hby (L := [(116, .lconst 0, 1), (117, .lstore 18, 2), (119, .iload 9, 2), (121, .iconst 2, 1)]) (by decide +kernel) rfl (g' := (mkF m 122 #[.val (.long x0), .second, .val (.long x1), .second, .val (.long x2), .second, .val (.long x3), .second, .val (.int x4), .val (.int (0 : Int32)), .val (.int (1 : Int32)), .val (.int (j0_32_s0 x0 x1 x2 x3 x4)), .val (.long (j0_48_s0 x0 x1 x2 x3 x4)), .second, .val (.long (j0_64_s0 x0 x1 x2 x3 x4)), .second, .val (.ref b24), .val (.ref b25), .val (.long (0 : Int64)), .second, .unset, .unset, .unset, .unset, .unset, .unset, .unset] [(.int (2 : Int32)), (.int (0 : Int32))])) rfl ?_
              have hc122_27 : (0 : Int32) < (2 : Int32) := by decide
              refine Goes.st (B := T25.setTop (mkF m 129 #[.val (.long x0), .second, .val (.long x1), .second, .val (.long x2), .second, .val (.long x3), .second, .val (.int x4), .val (.int (0 : Int32)), .val (.int (1 : Int32)), .val (.int (j0_32_s0 x0 x1 x2 x3 x4)), .val (.long (j0_48_s0 x0 x1 x2 x3 x4)), .second, .val (.long (j0_64_s0 x0 x1 x2 x3 x4)), .second, .val (.ref b24), .val (.ref b25), .val (.long (0 : Int64)), .second, .unset, .unset, .unset, .unset, .unset, .unset, .unset] [])) (fun t k => ?_) ?_
              · refine XS.icmpYes X25.here hx rfl (pc0 := 122) (pc' := 129) rfl (hb hby at_122) rfl (tlt hc122_27).1 (by decide) (by decide) ?_
                exact k
              refine Goes.run X25 hx hown hci hcl hby (L := [(129, .lconst 0, 1), (130, .lstore 20, 2), (132, .iload 10, 2), (134, .iconst 1, 1)]) (by decide +kernel) rfl (g' := (mkF m 135 #[.val (.long x0), .second, .val (.long x1), .second, .val (.long x2), .second, .val (.long x3), .second, .val (.int x4), .val (.int (0 : Int32)), .val (.int (1 : Int32)), .val (.int (j0_32_s0 x0 x1 x2 x3 x4)), .val (.long (j0_48_s0 x0 x1 x2 x3 x4)), .second, .val (.long (j0_64_s0 x0 x1 x2 x3 x4)), .second, .val (.ref b24), .val (.ref b25), .val (.long (0 : Int64)), .second, .val (.long (0 : Int64)), .second, .unset, .unset, .unset, .unset, .unset] [(.int (1 : Int32)), (.int (1 : Int32))])) rfl ?_
              have hc135_28 : ¬ ((1 : Int32) < (1 : Int32)) := Int32.lt_irrefl
              refine Goes.st (B := T25.setTop (mkF m 138 #[.val (.long x0), .second, .val (.long x1), .second, .val (.long x2), .second, .val (.long x3), .second, .val (.int x4), .val (.int (0 : Int32)), .val (.int (1 : Int32)), .val (.int (j0_32_s0 x0 x1 x2 x3 x4)), .val (.long (j0_48_s0 x0 x1 x2 x3 x4)), .second, .val (.long (j0_64_s0 x0 x1 x2 x3 x4)), .second, .val (.ref b24), .val (.ref b25), .val (.long (0 : Int64)), .second, .val (.long (0 : Int64)), .second, .unset, .unset, .unset, .unset, .unset] [])) (fun t k => ?_) ?_
              · refine XS.icmpNo X25.here hx rfl (hb hby at_135) rfl (flt hc135_28).1 ?_
                exact k
              refine Goes.run X25 hx hown hci hcl hby (L := [(138, .lload 12, 2), (140, .goto 4, 3), (144, .lstore 22, 2), (146, .iload 10, 2), (148, .iconst 2, 1)]) (by decide +kernel) rfl (g' := (mkF m 149 #[.val (.long x0), .second, .val (.long x1), .second, .val (.long x2), .second, .val (.long x3), .second, .val (.int x4), .val (.int (0 : Int32)), .val (.int (1 : Int32)), .val (.int (j0_32_s0 x0 x1 x2 x3 x4)), .val (.long (j0_48_s0 x0 x1 x2 x3 x4)), .second, .val (.long (j0_64_s0 x0 x1 x2 x3 x4)), .second, .val (.ref b24), .val (.ref b25), .val (.long (0 : Int64)), .second, .val (.long (0 : Int64)), .second, .val (.long (j0_48_s0 x0 x1 x2 x3 x4)), .second, .unset, .unset, .unset] [(.int (2 : Int32)), (.int (1 : Int32))])) rfl ?_
              have hc149_29 : (1 : Int32) < (2 : Int32) := by decide
              refine Goes.st (B := T25.setTop (mkF m 157 #[.val (.long x0), .second, .val (.long x1), .second, .val (.long x2), .second, .val (.long x3), .second, .val (.int x4), .val (.int (0 : Int32)), .val (.int (1 : Int32)), .val (.int (j0_32_s0 x0 x1 x2 x3 x4)), .val (.long (j0_48_s0 x0 x1 x2 x3 x4)), .second, .val (.long (j0_64_s0 x0 x1 x2 x3 x4)), .second, .val (.ref b24), .val (.ref b25), .val (.long (0 : Int64)), .second, .val (.long (0 : Int64)), .second, .val (.long (j0_48_s0 x0 x1 x2 x3 x4)), .second, .unset, .unset, .unset] [])) (fun t k => ?_) ?_
              · refine XS.icmpYes X25.here hx rfl (pc0 := 149) (pc' := 157) rfl (hb hby at_149) rfl (tlt hc149_29).1 (by decide) (by decide) ?_
                exact k
              refine Goes.run X25 hx hown hci hcl hby (L := [(157, .lconst 0, 1), (158, .lstore 24, 2), (160, .lload 22, 2), (162, .lload 18, 2), (164, .ldc2_w 17, 3), (167, .lxor, 1)]) (by decide +kernel) rfl (g' := (mkF m 168 #[.val (.long x0), .second, .val (.long x1), .second, .val (.long x2), .second, .val (.long x3), .second, .val (.int x4), .val (.int (0 : Int32)), .val (.int (1 : Int32)), .val (.int (j0_32_s0 x0 x1 x2 x3 x4)), .val (.long (j0_48_s0 x0 x1 x2 x3 x4)), .second, .val (.long (j0_64_s0 x0 x1 x2 x3 x4)), .second, .val (.ref b24), .val (.ref b25), .val (.long (0 : Int64)), .second, .val (.long (0 : Int64)), .second, .val (.long (j0_48_s0 x0 x1 x2 x3 x4)), .second, .val (.long (0 : Int64)), .second, .unset] [(.long ((0 : Int64) ^^^ (-1 : Int64))), (.long (j0_48_s0 x0 x1 x2 x3 x4))])) rfl ?_
              refine Goes.run X25 hx hown hci hcl hby (L := [(168, .land, 1), (169, .lconst 0, 1), (170, .lcmp, 1)]) (by decide +kernel) rfl (g' := (mkF m 171 #[.val (.long x0), .second, .val (.long x1), .second, .val (.long x2), .second, .val (.long x3), .second, .val (.int x4), .val (.int (0 : Int32)), .val (.int (1 : Int32)), .val (.int (j0_32_s0 x0 x1 x2 x3 x4)), .val (.long (j0_48_s0 x0 x1 x2 x3 x4)), .second, .val (.long (j0_64_s0 x0 x1 x2 x3 x4)), .second, .val (.ref b24), .val (.ref b25), .val (.long (0 : Int64)), .second, .val (.long (0 : Int64)), .second, .val (.long (j0_48_s0 x0 x1 x2 x3 x4)), .second, .val (.long (0 : Int64)), .second, .unset] [(.int (lcmpW ((j0_48_s0 x0 x1 x2 x3 x4) &&& ((0 : Int64) ^^^ (-1 : Int64))) (0 : Int64)))])) rfl ?_
              have jn193_32 : Goes p e below s (QL (some (.int (r0 x0 x1 x2 x3 x4))) n0) room_1.cells room_1.slots (T25.setTop (mkF m 193 #[.val (.long x0), .second, .val (.long x1), .second, .val (.long x2), .second, .val (.long x3), .second, .val (.int x4), .val (.int (0 : Int32)), .val (.int (1 : Int32)), .val (.int (j0_32_s0 x0 x1 x2 x3 x4)), .val (.long (j0_48_s0 x0 x1 x2 x3 x4)), .second, .val (.long (j0_64_s0 x0 x1 x2 x3 x4)), .second, .val (.ref b24), .val (.ref b25), .val (.long (0 : Int64)), .second, .val (.long (0 : Int64)), .second, .val (.long (j0_48_s0 x0 x1 x2 x3 x4)), .second, .val (.long (0 : Int64)), .second, .unset] [(.int (j0_193_s0_a x0 x1 x2 x3 x4))])) := by
                refine Goes.run X25 hx hown hci hcl hby (L := [(193, .istore 26, 2), (195, .aload 16, 2), (197, .aload 17, 2)]) (by decide +kernel) rfl (g' := (mkF m 199 #[.val (.long x0), .second, .val (.long x1), .second, .val (.long x2), .second, .val (.long x3), .second, .val (.int x4), .val (.int (0 : Int32)), .val (.int (1 : Int32)), .val (.int (j0_32_s0 x0 x1 x2 x3 x4)), .val (.long (j0_48_s0 x0 x1 x2 x3 x4)), .second, .val (.long (j0_64_s0 x0 x1 x2 x3 x4)), .second, .val (.ref b24), .val (.ref b25), .val (.long (0 : Int64)), .second, .val (.long (0 : Int64)), .second, .val (.long (j0_48_s0 x0 x1 x2 x3 x4)), .second, .val (.long (0 : Int64)), .second, .val (.int (j0_193_s0_a x0 x1 x2 x3 x4))] [(.ref b25), (.ref b24)])) rfl ?_
                obtain ⟨_, _, ⟨T33, L33, k33, n33⟩, -, X33, ⟨Lc33, hQ33, l33, y33, z33⟩, st33⟩ := Jvm.LawKit.callS X25 hx (y := (⟨"com/example/marks_across_domains/marksacrossdomains/Bits", "contains", "([J[J)Z"⟩ : MethodName)) hown (mvT hZ (hw _ (List.mem_of_getElem? (i := 9) rfl))) (mvT hZ (hw _ (List.mem_of_getElem? (i := 10) rfl))) (mvT hZ (hw _ (List.mem_of_getElem? (i := 11) rfl))) (mvT hZ (hw _ (List.mem_of_getElem? (i := 12) rfl))) (by decide) (backOf (W := 0) (rm301 l Z a0 hw [] b24 b25 kc24 kc25 (j0_48_s0 x0 x1 x2 x3 x4) h25 n0 Zn25 V_b24 V_b25) hZ (hw _ (List.mem_of_getElem? (i := 12) rfl)) (hw _ (List.mem_of_getElem? (i := 11) rfl)) (by decide) (by decide)) (g := (mkF m 199 #[.val (.long x0), .second, .val (.long x1), .second, .val (.long x2), .second, .val (.long x3), .second, .val (.int x4), .val (.int (0 : Int32)), .val (.int (1 : Int32)), .val (.int (j0_32_s0 x0 x1 x2 x3 x4)), .val (.long (j0_48_s0 x0 x1 x2 x3 x4)), .second, .val (.long (j0_64_s0 x0 x1 x2 x3 x4)), .second, .val (.ref b24), .val (.ref b25), .val (.long (0 : Int64)), .second, .val (.long (0 : Int64)), .second, .val (.long (j0_48_s0 x0 x1 x2 x3 x4)), .second, .val (.long (0 : Int64)), .second, .val (.int (j0_193_s0_a x0 x1 x2 x3 x4))] [(.ref b25), (.ref b24)])) rfl (by rw [hml]; rfl) (argsL := [(.ref b24), (.ref b25)]) (rest := []) (lenOf pd0_2 rfl) rfl (by show 2 * 0 + _ ≤ _; exact Nat.le_of_eq rfl) (hb hby at_199) (fun _ _ => ⟨rfl, e25, (by decide : 2 + 0 ≤ _), (by decide : 1 + 0 ≤ _)⟩)
                dsimp only [Pt.U, Pt.locs, Pt.cells, Pt.slots] at X33 l33 y33 z33 st33 hQ33
                subst l33 y33 z33
                obtain ⟨rfl, N33q, e33⟩ := hQ33
                have N33 := Fr.app N25 N33q
                refine Goes.st (B := T33.setTop (mkF m 202 #[.val (.long x0), .second, .val (.long x1), .second, .val (.long x2), .second, .val (.long x3), .second, .val (.int x4), .val (.int (0 : Int32)), .val (.int (1 : Int32)), .val (.int (j0_32_s0 x0 x1 x2 x3 x4)), .val (.long (j0_48_s0 x0 x1 x2 x3 x4)), .second, .val (.long (j0_64_s0 x0 x1 x2 x3 x4)), .second, .val (.ref b24), .val (.ref b25), .val (.long (0 : Int64)), .second, .val (.long (0 : Int64)), .second, .val (.long (j0_48_s0 x0 x1 x2 x3 x4)), .second, .val (.long (0 : Int64)), .second, .val (.int (j0_193_s0_a x0 x1 x2 x3 x4))] [(.int (r301 (j0_48_s0 x0 x1 x2 x3 x4)))])) st33 ?_
                refine Goes.run X33 hx hown hci hcl hby (L := [(202, .iload 26, 2)]) (by decide +kernel) rfl (g' := (mkF m 204 #[.val (.long x0), .second, .val (.long x1), .second, .val (.long x2), .second, .val (.long x3), .second, .val (.int x4), .val (.int (0 : Int32)), .val (.int (1 : Int32)), .val (.int (j0_32_s0 x0 x1 x2 x3 x4)), .val (.long (j0_48_s0 x0 x1 x2 x3 x4)), .second, .val (.long (j0_64_s0 x0 x1 x2 x3 x4)), .second, .val (.ref b24), .val (.ref b25), .val (.long (0 : Int64)), .second, .val (.long (0 : Int64)), .second, .val (.long (j0_48_s0 x0 x1 x2 x3 x4)), .second, .val (.long (0 : Int64)), .second, .val (.int (j0_193_s0_a x0 x1 x2 x3 x4))] [(.int (j0_193_s0_a x0 x1 x2 x3 x4)), (.int (r301 (j0_48_s0 x0 x1 x2 x3 x4)))])) rfl ?_
                by_cases hc204_34 : (r301 (j0_48_s0 x0 x1 x2 x3 x4)) = (j0_193_s0_a x0 x1 x2 x3 x4)
                · skip
                  refine Goes.st (B := T33.setTop (mkF m 207 #[.val (.long x0), .second, .val (.long x1), .second, .val (.long x2), .second, .val (.long x3), .second, .val (.int x4), .val (.int (0 : Int32)), .val (.int (1 : Int32)), .val (.int (j0_32_s0 x0 x1 x2 x3 x4)), .val (.long (j0_48_s0 x0 x1 x2 x3 x4)), .second, .val (.long (j0_64_s0 x0 x1 x2 x3 x4)), .second, .val (.ref b24), .val (.ref b25), .val (.long (0 : Int64)), .second, .val (.long (0 : Int64)), .second, .val (.long (j0_48_s0 x0 x1 x2 x3 x4)), .second, .val (.long (0 : Int64)), .second, .val (.int (j0_193_s0_a x0 x1 x2 x3 x4))] [])) (fun t k => ?_) ?_
                  · refine XS.icmpNo X33.here hx rfl (hb hby at_204) rfl (teq hc204_34).2 ?_
                    exact k
                  refine Goes.run X33 hx hown hci hcl hby (L := [(207, .iconst 1, 1), (208, .goto 4, 3)]) (by decide +kernel) rfl (g' := (mkF m 212 #[.val (.long x0), .second, .val (.long x1), .second, .val (.long x2), .second, .val (.long x3), .second, .val (.int x4), .val (.int (0 : Int32)), .val (.int (1 : Int32)), .val (.int (j0_32_s0 x0 x1 x2 x3 x4)), .val (.long (j0_48_s0 x0 x1 x2 x3 x4)), .second, .val (.long (j0_64_s0 x0 x1 x2 x3 x4)), .second, .val (.ref b24), .val (.ref b25), .val (.long (0 : Int64)), .second, .val (.long (0 : Int64)), .second, .val (.long (j0_48_s0 x0 x1 x2 x3 x4)), .second, .val (.long (0 : Int64)), .second, .val (.int (j0_193_s0_a x0 x1 x2 x3 x4))] [(.int (1 : Int32))])) rfl ?_
                  exact Goes.retB X33 hx hlk (t := .boolean) Bd.returns (by simp) (hb hby at_212) rfl ⟨(congrArg (fun z => some (Value.int z)) (show (r0 x0 x1 x2 x3 x4) = (1 : Int32) from ((((if_pos hs86_9).trans (if_neg hs86_10)).trans (if_pos hs86_23)).trans (if_pos hc204_34))).symm), N33⟩ (by decide) (by decide)
                · skip
                  refine Goes.st (B := T33.setTop (mkF m 211 #[.val (.long x0), .second, .val (.long x1), .second, .val (.long x2), .second, .val (.long x3), .second, .val (.int x4), .val (.int (0 : Int32)), .val (.int (1 : Int32)), .val (.int (j0_32_s0 x0 x1 x2 x3 x4)), .val (.long (j0_48_s0 x0 x1 x2 x3 x4)), .second, .val (.long (j0_64_s0 x0 x1 x2 x3 x4)), .second, .val (.ref b24), .val (.ref b25), .val (.long (0 : Int64)), .second, .val (.long (0 : Int64)), .second, .val (.long (j0_48_s0 x0 x1 x2 x3 x4)), .second, .val (.long (0 : Int64)), .second, .val (.int (j0_193_s0_a x0 x1 x2 x3 x4))] [])) (fun t k => ?_) ?_
                  · refine XS.icmpYes X33.here hx rfl (pc0 := 204) (pc' := 211) rfl (hb hby at_204) rfl (feq hc204_34).2 (by decide) (by decide) ?_
                    exact k
                  refine Goes.run X33 hx hown hci hcl hby (L := [(211, .iconst 0, 1)]) (by decide +kernel) rfl (g' := (mkF m 212 #[.val (.long x0), .second, .val (.long x1), .second, .val (.long x2), .second, .val (.long x3), .second, .val (.int x4), .val (.int (0 : Int32)), .val (.int (1 : Int32)), .val (.int (j0_32_s0 x0 x1 x2 x3 x4)), .val (.long (j0_48_s0 x0 x1 x2 x3 x4)), .second, .val (.long (j0_64_s0 x0 x1 x2 x3 x4)), .second, .val (.ref b24), .val (.ref b25), .val (.long (0 : Int64)), .second, .val (.long (0 : Int64)), .second, .val (.long (j0_48_s0 x0 x1 x2 x3 x4)), .second, .val (.long (0 : Int64)), .second, .val (.int (j0_193_s0_a x0 x1 x2 x3 x4))] [(.int (0 : Int32))])) rfl ?_
                  exact Goes.retB X33 hx hlk (t := .boolean) Bd.returns (by simp) (hb hby at_212) rfl ⟨(congrArg (fun z => some (Value.int z)) (show (r0 x0 x1 x2 x3 x4) = (0 : Int32) from ((((if_pos hs86_9).trans (if_neg hs86_10)).trans (if_pos hs86_23)).trans (if_neg hc204_34))).symm), N33⟩ (by decide) (by decide)
              by_cases hc171_30 : ((j0_48_s0 x0 x1 x2 x3 x4) &&& ((0 : Int64) ^^^ (-1 : Int64))) = (0 : Int64)
              · skip
                refine Goes.st (B := T25.setTop (mkF m 174 #[.val (.long x0), .second, .val (.long x1), .second, .val (.long x2), .second, .val (.long x3), .second, .val (.int x4), .val (.int (0 : Int32)), .val (.int (1 : Int32)), .val (.int (j0_32_s0 x0 x1 x2 x3 x4)), .val (.long (j0_48_s0 x0 x1 x2 x3 x4)), .second, .val (.long (j0_64_s0 x0 x1 x2 x3 x4)), .second, .val (.ref b24), .val (.ref b25), .val (.long (0 : Int64)), .second, .val (.long (0 : Int64)), .second, .val (.long (j0_48_s0 x0 x1 x2 x3 x4)), .second, .val (.long (0 : Int64)), .second, .unset] [])) (fun t k => ?_) ?_
                · refine XS.ifNo X25.here hx rfl (hb hby at_171) rfl (teqL hc171_30).2 ?_
                  exact k
                refine Goes.run X25 hx hown hci hcl hby (L := [(174, .lload 24, 2), (176, .lload 20, 2), (178, .ldc2_w 17, 3), (181, .lxor, 1), (182, .land, 1), (183, .lconst 0, 1)]) (by decide +kernel) rfl (g' := (mkF m 184 #[.val (.long x0), .second, .val (.long x1), .second, .val (.long x2), .second, .val (.long x3), .second, .val (.int x4), .val (.int (0 : Int32)), .val (.int (1 : Int32)), .val (.int (j0_32_s0 x0 x1 x2 x3 x4)), .val (.long (j0_48_s0 x0 x1 x2 x3 x4)), .second, .val (.long (j0_64_s0 x0 x1 x2 x3 x4)), .second, .val (.ref b24), .val (.ref b25), .val (.long (0 : Int64)), .second, .val (.long (0 : Int64)), .second, .val (.long (j0_48_s0 x0 x1 x2 x3 x4)), .second, .val (.long (0 : Int64)), .second, .unset] [(.long (0 : Int64)), (.long ((0 : Int64) &&& ((0 : Int64) ^^^ (-1 : Int64))))])) rfl ?_
                refine Goes.run X25 hx hown hci hcl hby (L := [(184, .lcmp, 1)]) (by decide +kernel) rfl (g' := (mkF m 185 #[.val (.long x0), .second, .val (.long x1), .second, .val (.long x2), .second, .val (.long x3), .second, .val (.int x4), .val (.int (0 : Int32)), .val (.int (1 : Int32)), .val (.int (j0_32_s0 x0 x1 x2 x3 x4)), .val (.long (j0_48_s0 x0 x1 x2 x3 x4)), .second, .val (.long (j0_64_s0 x0 x1 x2 x3 x4)), .second, .val (.ref b24), .val (.ref b25), .val (.long (0 : Int64)), .second, .val (.long (0 : Int64)), .second, .val (.long (j0_48_s0 x0 x1 x2 x3 x4)), .second, .val (.long (0 : Int64)), .second, .unset] [(.int (lcmpW ((0 : Int64) &&& ((0 : Int64) ^^^ (-1 : Int64))) (0 : Int64)))])) rfl ?_
                by_cases hc185_35 : ((0 : Int64) &&& ((0 : Int64) ^^^ (-1 : Int64))) = (0 : Int64)
                · skip
                  refine Goes.st (B := T25.setTop (mkF m 188 #[.val (.long x0), .second, .val (.long x1), .second, .val (.long x2), .second, .val (.long x3), .second, .val (.int x4), .val (.int (0 : Int32)), .val (.int (1 : Int32)), .val (.int (j0_32_s0 x0 x1 x2 x3 x4)), .val (.long (j0_48_s0 x0 x1 x2 x3 x4)), .second, .val (.long (j0_64_s0 x0 x1 x2 x3 x4)), .second, .val (.ref b24), .val (.ref b25), .val (.long (0 : Int64)), .second, .val (.long (0 : Int64)), .second, .val (.long (j0_48_s0 x0 x1 x2 x3 x4)), .second, .val (.long (0 : Int64)), .second, .unset] [])) (fun t k => ?_) ?_
                  · refine XS.ifNo X25.here hx rfl (hb hby at_185) rfl (teqL hc185_35).2 ?_
                    exact k
                  refine Goes.run X25 hx hown hci hcl hby (L := [(188, .iconst 1, 1), (189, .goto 4, 3)]) (by decide +kernel) rfl (g' := (mkF m 193 #[.val (.long x0), .second, .val (.long x1), .second, .val (.long x2), .second, .val (.long x3), .second, .val (.int x4), .val (.int (0 : Int32)), .val (.int (1 : Int32)), .val (.int (j0_32_s0 x0 x1 x2 x3 x4)), .val (.long (j0_48_s0 x0 x1 x2 x3 x4)), .second, .val (.long (j0_64_s0 x0 x1 x2 x3 x4)), .second, .val (.ref b24), .val (.ref b25), .val (.long (0 : Int64)), .second, .val (.long (0 : Int64)), .second, .val (.long (j0_48_s0 x0 x1 x2 x3 x4)), .second, .val (.long (0 : Int64)), .second, .unset] [(.int (1 : Int32))])) rfl ?_
                  have q := jn193_32
                  rw [show (j0_193_s0_a x0 x1 x2 x3 x4) = (1 : Int32) from ((if_pos hc171_30).trans (if_pos hc185_35))] at q
                  exact q
                · skip
                  refine Goes.st (B := T25.setTop (mkF m 192 #[.val (.long x0), .second, .val (.long x1), .second, .val (.long x2), .second, .val (.long x3), .second, .val (.int x4), .val (.int (0 : Int32)), .val (.int (1 : Int32)), .val (.int (j0_32_s0 x0 x1 x2 x3 x4)), .val (.long (j0_48_s0 x0 x1 x2 x3 x4)), .second, .val (.long (j0_64_s0 x0 x1 x2 x3 x4)), .second, .val (.ref b24), .val (.ref b25), .val (.long (0 : Int64)), .second, .val (.long (0 : Int64)), .second, .val (.long (j0_48_s0 x0 x1 x2 x3 x4)), .second, .val (.long (0 : Int64)), .second, .unset] [])) (fun t k => ?_) ?_
                  · refine XS.ifYes X25.here hx rfl (pc0 := 185) (pc' := 192) rfl (hb hby at_185) rfl (feqL hc185_35).2 (by decide) (by decide) ?_
                    exact k
                  refine Goes.run X25 hx hown hci hcl hby (L := [(192, .iconst 0, 1)]) (by decide +kernel) rfl (g' := (mkF m 193 #[.val (.long x0), .second, .val (.long x1), .second, .val (.long x2), .second, .val (.long x3), .second, .val (.int x4), .val (.int (0 : Int32)), .val (.int (1 : Int32)), .val (.int (j0_32_s0 x0 x1 x2 x3 x4)), .val (.long (j0_48_s0 x0 x1 x2 x3 x4)), .second, .val (.long (j0_64_s0 x0 x1 x2 x3 x4)), .second, .val (.ref b24), .val (.ref b25), .val (.long (0 : Int64)), .second, .val (.long (0 : Int64)), .second, .val (.long (j0_48_s0 x0 x1 x2 x3 x4)), .second, .val (.long (0 : Int64)), .second, .unset] [(.int (0 : Int32))])) rfl ?_
                  have q := jn193_32
                  rw [show (j0_193_s0_a x0 x1 x2 x3 x4) = (0 : Int32) from ((if_pos hc171_30).trans (if_neg hc185_35))] at q
                  exact q
              · skip
                refine Goes.st (B := T25.setTop (mkF m 192 #[.val (.long x0), .second, .val (.long x1), .second, .val (.long x2), .second, .val (.long x3), .second, .val (.int x4), .val (.int (0 : Int32)), .val (.int (1 : Int32)), .val (.int (j0_32_s0 x0 x1 x2 x3 x4)), .val (.long (j0_48_s0 x0 x1 x2 x3 x4)), .second, .val (.long (j0_64_s0 x0 x1 x2 x3 x4)), .second, .val (.ref b24), .val (.ref b25), .val (.long (0 : Int64)), .second, .val (.long (0 : Int64)), .second, .val (.long (j0_48_s0 x0 x1 x2 x3 x4)), .second, .val (.long (0 : Int64)), .second, .unset] [])) (fun t k => ?_) ?_
                · refine XS.ifYes X25.here hx rfl (pc0 := 171) (pc' := 192) rfl (hb hby at_171) rfl (feqL hc171_30).2 (by decide) (by decide) ?_
                  exact k
                refine Goes.run X25 hx hown hci hcl hby (L := [(192, .iconst 0, 1)]) (by decide +kernel) rfl (g' := (mkF m 193 #[.val (.long x0), .second, .val (.long x1), .second, .val (.long x2), .second, .val (.long x3), .second, .val (.int x4), .val (.int (0 : Int32)), .val (.int (1 : Int32)), .val (.int (j0_32_s0 x0 x1 x2 x3 x4)), .val (.long (j0_48_s0 x0 x1 x2 x3 x4)), .second, .val (.long (j0_64_s0 x0 x1 x2 x3 x4)), .second, .val (.ref b24), .val (.ref b25), .val (.long (0 : Int64)), .second, .val (.long (0 : Int64)), .second, .val (.long (j0_48_s0 x0 x1 x2 x3 x4)), .second, .val (.long (0 : Int64)), .second, .unset] [(.int (0 : Int32))])) rfl ?_
                have q := jn193_32
                rw [show (j0_193_s0_a x0 x1 x2 x3 x4) = (0 : Int32) from (if_neg hc171_30)] at q
                exact q
            · skip
              have hs86_36 : (w0_84 x0 x1 x2 x3 x4) = (2 : Int32) := own_l10 x0 x1 x2 x3 x4 hs86_10 hs86_23
              rw [hs86_36]
              refine Goes.run X8 hx hown hci hcl hby (L := [(86, .iload 9, 2), (88, .lload_n 0, 1), (89, .lload_n 2, 1)]) (by decide +kernel) rfl (g' := (mkF m 90 #[.val (.long x0), .second, .val (.long x1), .second, .val (.long x2), .second, .val (.long x3), .second, .val (.int x4), .val (.int (0 : Int32)), .val (.int (2 : Int32)), .val (.int (j0_32_s0 x0 x1 x2 x3 x4)), .val (.long (j0_48_s0 x0 x1 x2 x3 x4)), .second, .val (.long (j0_64_s0 x0 x1 x2 x3 x4)), .second, .unset, .unset, .unset, .unset, .unset, .unset, .unset, .unset, .unset, .unset, .unset] [(.long x1), (.long x0), (.int (0 : Int32))])) rfl ?_
              obtain ⟨_, _, ⟨T37, L37, k37, n37⟩, -, X37, ⟨Lc37, hQ37, l37, y37, z37⟩, st37⟩ := Jvm.LawKit.callS X8 hx (y := (⟨"com/example/marks_across_domains/marksacrossdomains/BitsContainsPinLaw", "make", "(IJJ)[J"⟩ : MethodName)) hown (mvT hZ (hw _ (List.mem_of_getElem? (i := 4) rfl))) (mvT hZ (hw _ (List.mem_of_getElem? (i := 5) rfl))) (mvT hZ (hw _ (List.mem_of_getElem? (i := 2) rfl))) (mvT hZ (hw _ (List.mem_of_getElem? (i := 6) rfl))) (by decide) (backOf (W := 0) (rm20 l Z a0 hw [] x0 x1 h0 n0 Z0 ) hZ (hw _ (List.mem_of_getElem? (i := 6) rfl)) (hw _ (List.mem_of_getElem? (i := 2) rfl)) (by decide) (by decide)) (g := (mkF m 90 #[.val (.long x0), .second, .val (.long x1), .second, .val (.long x2), .second, .val (.long x3), .second, .val (.int x4), .val (.int (0 : Int32)), .val (.int (2 : Int32)), .val (.int (j0_32_s0 x0 x1 x2 x3 x4)), .val (.long (j0_48_s0 x0 x1 x2 x3 x4)), .second, .val (.long (j0_64_s0 x0 x1 x2 x3 x4)), .second, .unset, .unset, .unset, .unset, .unset, .unset, .unset, .unset, .unset, .unset, .unset] [(.long x1), (.long x0), (.int (0 : Int32))])) rfl (by rw [hml]; rfl) (argsL := [(.int (0 : Int32)), (.long x0), (.long x1)]) (rest := []) (lenOf pd0_1 rfl) rfl (by show 2 * 0 + _ ≤ _; exact Nat.le_of_eq rfl) (hb hby at_90) (fun _ _ => ⟨rfl, e8, (by decide : 0 + 1 ≤ _), (by decide : 0 + 0 ≤ _)⟩)
              dsimp only [Pt.U, Pt.locs, Pt.cells, Pt.slots] at X37 l37 y37 z37 st37 hQ37
              subst l37 y37 z37
              obtain ⟨h37, eh37⟩ : ∃ z, z = T37.heap := ⟨_, rfl⟩
              rw [← eh37] at hQ37
              have e37 : T37.heap = h37 := eh37.symm
              obtain ⟨b37, kc37, rfl, N37q, Kq37, szq37, o37_0, o37_1⟩ := hQ37
              have g_b37 : n0 ≤ b37 := Nat.le_trans Z0 szq37
              have N37 := Fr.app N8 N37q
              have E_b37 : Exa Z h37 b37 "[J" := o37_0
              have V_b37 : Arv Z h37 b37 kc37 .long (0 : Int32) [] (.long (0 : Int64)) := o37_1
              have Zn37 : n0 ≤ h37.size := Nat.le_trans Z0 Kq37.1
              refine Goes.st (B := T37.setTop (mkF m 93 #[.val (.long x0), .second, .val (.long x1), .second, .val (.long x2), .second, .val (.long x3), .second, .val (.int x4), .val (.int (0 : Int32)), .val (.int (2 : Int32)), .val (.int (j0_32_s0 x0 x1 x2 x3 x4)), .val (.long (j0_48_s0 x0 x1 x2 x3 x4)), .second, .val (.long (j0_64_s0 x0 x1 x2 x3 x4)), .second, .unset, .unset, .unset, .unset, .unset, .unset, .unset, .unset, .unset, .unset, .unset] [(.ref b37)])) st37 ?_
              refine Goes.run X37 hx hown hci hcl hby (L := [(93, .astore 16, 2), (95, .iload 10, 2), (97, .lload 12, 2), (99, .lload 14, 2)]) (by decide +kernel) rfl (g' := (mkF m 101 #[.val (.long x0), .second, .val (.long x1), .second, .val (.long x2), .second, .val (.long x3), .second, .val (.int x4), .val (.int (0 : Int32)), .val (.int (2 : Int32)), .val (.int (j0_32_s0 x0 x1 x2 x3 x4)), .val (.long (j0_48_s0 x0 x1 x2 x3 x4)), .second, .val (.long (j0_64_s0 x0 x1 x2 x3 x4)), .second, .val (.ref b37), .unset, .unset, .unset, .unset, .unset, .unset, .unset, .unset, .unset, .unset] [(.long (j0_64_s0 x0 x1 x2 x3 x4)), (.long (j0_48_s0 x0 x1 x2 x3 x4)), (.int (2 : Int32))])) rfl ?_
              obtain ⟨_, _, ⟨T38, L38, k38, n38⟩, -, X38, ⟨Lc38, hQ38, l38, y38, z38⟩, st38⟩ := Jvm.LawKit.callS X37 hx (y := (⟨"com/example/marks_across_domains/marksacrossdomains/BitsContainsPinLaw", "make", "(IJJ)[J"⟩ : MethodName)) hown (mvT hZ (hw _ (List.mem_of_getElem? (i := 4) rfl))) (mvT hZ (hw _ (List.mem_of_getElem? (i := 5) rfl))) (mvT hZ (hw _ (List.mem_of_getElem? (i := 2) rfl))) (mvT hZ (hw _ (List.mem_of_getElem? (i := 6) rfl))) (by decide) (backOf (W := 0) (rm22 l Z a0 hw [] (j0_48_s0 x0 x1 x2 x3 x4) (j0_64_s0 x0 x1 x2 x3 x4) h37 n0 Zn37 ) hZ (hw _ (List.mem_of_getElem? (i := 6) rfl)) (hw _ (List.mem_of_getElem? (i := 2) rfl)) (by decide) (by decide)) (g := (mkF m 101 #[.val (.long x0), .second, .val (.long x1), .second, .val (.long x2), .second, .val (.long x3), .second, .val (.int x4), .val (.int (0 : Int32)), .val (.int (2 : Int32)), .val (.int (j0_32_s0 x0 x1 x2 x3 x4)), .val (.long (j0_48_s0 x0 x1 x2 x3 x4)), .second, .val (.long (j0_64_s0 x0 x1 x2 x3 x4)), .second, .val (.ref b37), .unset, .unset, .unset, .unset, .unset, .unset, .unset, .unset, .unset, .unset] [(.long (j0_64_s0 x0 x1 x2 x3 x4)), (.long (j0_48_s0 x0 x1 x2 x3 x4)), (.int (2 : Int32))])) rfl (by rw [hml]; rfl) (argsL := [(.int (2 : Int32)), (.long (j0_48_s0 x0 x1 x2 x3 x4)), (.long (j0_64_s0 x0 x1 x2 x3 x4))]) (rest := []) (lenOf pd0_1 rfl) rfl (by show 2 * 0 + _ ≤ _; exact Nat.le_of_eq rfl) (hb hby at_101) (fun _ _ => ⟨rfl, e37, (by decide : 1 + 1 ≤ _), (by decide : 0 + 2 ≤ _)⟩)
              dsimp only [Pt.U, Pt.locs, Pt.cells, Pt.slots] at X38 l38 y38 z38 st38 hQ38
              subst l38 y38 z38
              obtain ⟨h38, eh38⟩ : ∃ z, z = T38.heap := ⟨_, rfl⟩
              rw [← eh38] at hQ38
              have e38 : T38.heap = h38 := eh38.symm
              obtain ⟨b38, kc38, rfl, N38q, Kq38, szq38, o38_0, o38_1⟩ := hQ38
              have ne_b37_b38 : b37 ≠ b38 := Nat.ne_of_lt (Nat.lt_of_lt_of_le E_b37.lt szq38)
              have g_b38 : n0 ≤ b38 := Nat.le_trans Zn37 szq38
              have N38 := Fr.app N37 N38q
              have E_b37 := E_b37.keep Kq38
              have V_b37 := V_b37.keep Kq38 nin0
              have E_b38 : Exa Z h38 b38 "[J" := o38_0
              have V_b38 : Arv Z h38 b38 kc38 .long (2 : Int32) [(.long (j0_48_s0 x0 x1 x2 x3 x4)), (.long (j0_64_s0 x0 x1 x2 x3 x4))] (.long (0 : Int64)) := o38_1
              have Zn38 : n0 ≤ h38.size := Nat.le_trans Zn37 Kq38.1
              refine Goes.st (B := T38.setTop (mkF m 104 #[.val (.long x0), .second, .val (.long x1), .second, .val (.long x2), .second, .val (.long x3), .second, .val (.int x4), .val (.int (0 : Int32)), .val (.int (2 : Int32)), .val (.int (j0_32_s0 x0 x1 x2 x3 x4)), .val (.long (j0_48_s0 x0 x1 x2 x3 x4)), .second, .val (.long (j0_64_s0 x0 x1 x2 x3 x4)), .second, .val (.ref b37), .unset, .unset, .unset, .unset, .unset, .unset, .unset, .unset, .unset, .unset] [(.ref b38)])) st38 ?_
              refine Goes.run X38 hx hown hci hcl hby (L := [(104, .astore 17, 2), (106, .iload 9, 2), (108, .iconst 1, 1)]) (by decide +kernel) rfl (g' := (mkF m 109 #[.val (.long x0), .second, .val (.long x1), .second, .val (.long x2), .second, .val (.long x3), .second, .val (.int x4), .val (.int (0 : Int32)), .val (.int (2 : Int32)), .val (.int (j0_32_s0 x0 x1 x2 x3 x4)), .val (.long (j0_48_s0 x0 x1 x2 x3 x4)), .second, .val (.long (j0_64_s0 x0 x1 x2 x3 x4)), .second, .val (.ref b37), .val (.ref b38), .unset, .unset, .unset, .unset, .unset, .unset, .unset, .unset, .unset] [(.int (1 : Int32)), (.int (0 : Int32))])) rfl ?_
              have hc109_39 : (0 : Int32) < (1 : Int32) := by decide
              refine Goes.st (B := T38.setTop (mkF m 116 #[.val (.long x0), .second, .val (.long x1), .second, .val (.long x2), .second, .val (.long x3), .second, .val (.int x4), .val (.int (0 : Int32)), .val (.int (2 : Int32)), .val (.int (j0_32_s0 x0 x1 x2 x3 x4)), .val (.long (j0_48_s0 x0 x1 x2 x3 x4)), .second, .val (.long (j0_64_s0 x0 x1 x2 x3 x4)), .second, .val (.ref b37), .val (.ref b38), .unset, .unset, .unset, .unset, .unset, .unset, .unset, .unset, .unset] [])) (fun t k => ?_) ?_
              · refine XS.icmpYes X38.here hx rfl (pc0 := 109) (pc' := 116) rfl (hb hby at_109) rfl (tlt hc109_39).1 (by decide) (by decide) ?_
                exact k
              refine Goes.run X38 hx hown hci hcl hby (L := [(116, .lconst 0, 1), (117, .lstore 18, 2), (119, .iload 9, 2), (121, .iconst 2, 1)]) (by decide +kernel) rfl (g' := (mkF m 122 #[.val (.long x0), .second, .val (.long x1), .second, .val (.long x2), .second, .val (.long x3), .second, .val (.int x4), .val (.int (0 : Int32)), .val (.int (2 : Int32)), .val (.int (j0_32_s0 x0 x1 x2 x3 x4)), .val (.long (j0_48_s0 x0 x1 x2 x3 x4)), .second, .val (.long (j0_64_s0 x0 x1 x2 x3 x4)), .second, .val (.ref b37), .val (.ref b38), .val (.long (0 : Int64)), .second, .unset, .unset, .unset, .unset, .unset, .unset, .unset] [(.int (2 : Int32)), (.int (0 : Int32))])) rfl ?_
              have hc122_40 : (0 : Int32) < (2 : Int32) := by decide
              refine Goes.st (B := T38.setTop (mkF m 129 #[.val (.long x0), .second, .val (.long x1), .second, .val (.long x2), .second, .val (.long x3), .second, .val (.int x4), .val (.int (0 : Int32)), .val (.int (2 : Int32)), .val (.int (j0_32_s0 x0 x1 x2 x3 x4)), .val (.long (j0_48_s0 x0 x1 x2 x3 x4)), .second, .val (.long (j0_64_s0 x0 x1 x2 x3 x4)), .second, .val (.ref b37), .val (.ref b38), .val (.long (0 : Int64)), .second, .unset, .unset, .unset, .unset, .unset, .unset, .unset] [])) (fun t k => ?_) ?_
              · refine XS.icmpYes X38.here hx rfl (pc0 := 122) (pc' := 129) rfl (hb hby at_122) rfl (tlt hc122_40).1 (by decide) (by decide) ?_
                exact k
              refine Goes.run X38 hx hown hci hcl hby (L := [(129, .lconst 0, 1), (130, .lstore 20, 2), (132, .iload 10, 2), (134, .iconst 1, 1)]) (by decide +kernel) rfl (g' := (mkF m 135 #[.val (.long x0), .second, .val (.long x1), .second, .val (.long x2), .second, .val (.long x3), .second, .val (.int x4), .val (.int (0 : Int32)), .val (.int (2 : Int32)), .val (.int (j0_32_s0 x0 x1 x2 x3 x4)), .val (.long (j0_48_s0 x0 x1 x2 x3 x4)), .second, .val (.long (j0_64_s0 x0 x1 x2 x3 x4)), .second, .val (.ref b37), .val (.ref b38), .val (.long (0 : Int64)), .second, .val (.long (0 : Int64)), .second, .unset, .unset, .unset, .unset, .unset] [(.int (1 : Int32)), (.int (2 : Int32))])) rfl ?_
              have hc135_41 : ¬ ((2 : Int32) < (1 : Int32)) := by decide
              refine Goes.st (B := T38.setTop (mkF m 138 #[.val (.long x0), .second, .val (.long x1), .second, .val (.long x2), .second, .val (.long x3), .second, .val (.int x4), .val (.int (0 : Int32)), .val (.int (2 : Int32)), .val (.int (j0_32_s0 x0 x1 x2 x3 x4)), .val (.long (j0_48_s0 x0 x1 x2 x3 x4)), .second, .val (.long (j0_64_s0 x0 x1 x2 x3 x4)), .second, .val (.ref b37), .val (.ref b38), .val (.long (0 : Int64)), .second, .val (.long (0 : Int64)), .second, .unset, .unset, .unset, .unset, .unset] [])) (fun t k => ?_) ?_
              · refine XS.icmpNo X38.here hx rfl (hb hby at_135) rfl (flt hc135_41).1 ?_
                exact k
              refine Goes.run X38 hx hown hci hcl hby (L := [(138, .lload 12, 2), (140, .goto 4, 3), (144, .lstore 22, 2), (146, .iload 10, 2), (148, .iconst 2, 1)]) (by decide +kernel) rfl (g' := (mkF m 149 #[.val (.long x0), .second, .val (.long x1), .second, .val (.long x2), .second, .val (.long x3), .second, .val (.int x4), .val (.int (0 : Int32)), .val (.int (2 : Int32)), .val (.int (j0_32_s0 x0 x1 x2 x3 x4)), .val (.long (j0_48_s0 x0 x1 x2 x3 x4)), .second, .val (.long (j0_64_s0 x0 x1 x2 x3 x4)), .second, .val (.ref b37), .val (.ref b38), .val (.long (0 : Int64)), .second, .val (.long (0 : Int64)), .second, .val (.long (j0_48_s0 x0 x1 x2 x3 x4)), .second, .unset, .unset, .unset] [(.int (2 : Int32)), (.int (2 : Int32))])) rfl ?_
              have hc149_42 : ¬ ((2 : Int32) < (2 : Int32)) := Int32.lt_irrefl
              refine Goes.st (B := T38.setTop (mkF m 152 #[.val (.long x0), .second, .val (.long x1), .second, .val (.long x2), .second, .val (.long x3), .second, .val (.int x4), .val (.int (0 : Int32)), .val (.int (2 : Int32)), .val (.int (j0_32_s0 x0 x1 x2 x3 x4)), .val (.long (j0_48_s0 x0 x1 x2 x3 x4)), .second, .val (.long (j0_64_s0 x0 x1 x2 x3 x4)), .second, .val (.ref b37), .val (.ref b38), .val (.long (0 : Int64)), .second, .val (.long (0 : Int64)), .second, .val (.long (j0_48_s0 x0 x1 x2 x3 x4)), .second, .unset, .unset, .unset] [])) (fun t k => ?_) ?_
              · refine XS.icmpNo X38.here hx rfl (hb hby at_149) rfl (flt hc149_42).1 ?_
                exact k
              refine Goes.run X38 hx hown hci hcl hby (L := [(152, .lload 14, 2), (154, .goto 4, 3), (158, .lstore 24, 2), (160, .lload 22, 2), (162, .lload 18, 2), (164, .ldc2_w 17, 3)]) (by decide +kernel) rfl (g' := (mkF m 167 #[.val (.long x0), .second, .val (.long x1), .second, .val (.long x2), .second, .val (.long x3), .second, .val (.int x4), .val (.int (0 : Int32)), .val (.int (2 : Int32)), .val (.int (j0_32_s0 x0 x1 x2 x3 x4)), .val (.long (j0_48_s0 x0 x1 x2 x3 x4)), .second, .val (.long (j0_64_s0 x0 x1 x2 x3 x4)), .second, .val (.ref b37), .val (.ref b38), .val (.long (0 : Int64)), .second, .val (.long (0 : Int64)), .second, .val (.long (j0_48_s0 x0 x1 x2 x3 x4)), .second, .val (.long (j0_64_s0 x0 x1 x2 x3 x4)), .second, .unset] [(.long (-1 : Int64)), (.long (0 : Int64)), (.long (j0_48_s0 x0 x1 x2 x3 x4))])) rfl ?_
              refine Goes.run X38 hx hown hci hcl hby (L := [(167, .lxor, 1), (168, .land, 1), (169, .lconst 0, 1), (170, .lcmp, 1)]) (by decide +kernel) rfl (g' := (mkF m 171 #[.val (.long x0), .second, .val (.long x1), .second, .val (.long x2), .second, .val (.long x3), .second, .val (.int x4), .val (.int (0 : Int32)), .val (.int (2 : Int32)), .val (.int (j0_32_s0 x0 x1 x2 x3 x4)), .val (.long (j0_48_s0 x0 x1 x2 x3 x4)), .second, .val (.long (j0_64_s0 x0 x1 x2 x3 x4)), .second, .val (.ref b37), .val (.ref b38), .val (.long (0 : Int64)), .second, .val (.long (0 : Int64)), .second, .val (.long (j0_48_s0 x0 x1 x2 x3 x4)), .second, .val (.long (j0_64_s0 x0 x1 x2 x3 x4)), .second, .unset] [(.int (lcmpW ((j0_48_s0 x0 x1 x2 x3 x4) &&& ((0 : Int64) ^^^ (-1 : Int64))) (0 : Int64)))])) rfl ?_
              have jn193_45 : Goes p e below s (QL (some (.int (r0 x0 x1 x2 x3 x4))) n0) room_1.cells room_1.slots (T38.setTop (mkF m 193 #[.val (.long x0), .second, .val (.long x1), .second, .val (.long x2), .second, .val (.long x3), .second, .val (.int x4), .val (.int (0 : Int32)), .val (.int (2 : Int32)), .val (.int (j0_32_s0 x0 x1 x2 x3 x4)), .val (.long (j0_48_s0 x0 x1 x2 x3 x4)), .second, .val (.long (j0_64_s0 x0 x1 x2 x3 x4)), .second, .val (.ref b37), .val (.ref b38), .val (.long (0 : Int64)), .second, .val (.long (0 : Int64)), .second, .val (.long (j0_48_s0 x0 x1 x2 x3 x4)), .second, .val (.long (j0_64_s0 x0 x1 x2 x3 x4)), .second, .unset] [(.int (j0_193_s0_b x0 x1 x2 x3 x4))])) := by
                refine Goes.run X38 hx hown hci hcl hby (L := [(193, .istore 26, 2), (195, .aload 16, 2), (197, .aload 17, 2)]) (by decide +kernel) rfl (g' := (mkF m 199 #[.val (.long x0), .second, .val (.long x1), .second, .val (.long x2), .second, .val (.long x3), .second, .val (.int x4), .val (.int (0 : Int32)), .val (.int (2 : Int32)), .val (.int (j0_32_s0 x0 x1 x2 x3 x4)), .val (.long (j0_48_s0 x0 x1 x2 x3 x4)), .second, .val (.long (j0_64_s0 x0 x1 x2 x3 x4)), .second, .val (.ref b37), .val (.ref b38), .val (.long (0 : Int64)), .second, .val (.long (0 : Int64)), .second, .val (.long (j0_48_s0 x0 x1 x2 x3 x4)), .second, .val (.long (j0_64_s0 x0 x1 x2 x3 x4)), .second, .val (.int (j0_193_s0_b x0 x1 x2 x3 x4))] [(.ref b38), (.ref b37)])) rfl ?_
                obtain ⟨_, _, ⟨T46, L46, k46, n46⟩, -, X46, ⟨Lc46, hQ46, l46, y46, z46⟩, st46⟩ := Jvm.LawKit.callS X38 hx (y := (⟨"com/example/marks_across_domains/marksacrossdomains/Bits", "contains", "([J[J)Z"⟩ : MethodName)) hown (mvT hZ (hw _ (List.mem_of_getElem? (i := 9) rfl))) (mvT hZ (hw _ (List.mem_of_getElem? (i := 10) rfl))) (mvT hZ (hw _ (List.mem_of_getElem? (i := 11) rfl))) (mvT hZ (hw _ (List.mem_of_getElem? (i := 12) rfl))) (by decide) (backOf (W := 0) (rm302 l Z a0 hw [] b37 b38 kc37 kc38 (j0_48_s0 x0 x1 x2 x3 x4) (j0_64_s0 x0 x1 x2 x3 x4) h38 n0 Zn38 V_b37 V_b38) hZ (hw _ (List.mem_of_getElem? (i := 12) rfl)) (hw _ (List.mem_of_getElem? (i := 11) rfl)) (by decide) (by decide)) (g := (mkF m 199 #[.val (.long x0), .second, .val (.long x1), .second, .val (.long x2), .second, .val (.long x3), .second, .val (.int x4), .val (.int (0 : Int32)), .val (.int (2 : Int32)), .val (.int (j0_32_s0 x0 x1 x2 x3 x4)), .val (.long (j0_48_s0 x0 x1 x2 x3 x4)), .second, .val (.long (j0_64_s0 x0 x1 x2 x3 x4)), .second, .val (.ref b37), .val (.ref b38), .val (.long (0 : Int64)), .second, .val (.long (0 : Int64)), .second, .val (.long (j0_48_s0 x0 x1 x2 x3 x4)), .second, .val (.long (j0_64_s0 x0 x1 x2 x3 x4)), .second, .val (.int (j0_193_s0_b x0 x1 x2 x3 x4))] [(.ref b38), (.ref b37)])) rfl (by rw [hml]; rfl) (argsL := [(.ref b37), (.ref b38)]) (rest := []) (lenOf pd0_2 rfl) rfl (by show 2 * 0 + _ ≤ _; exact Nat.le_of_eq rfl) (hb hby at_199) (fun _ _ => ⟨rfl, e38, (by decide : 2 + 0 ≤ _), (by decide : 2 + 0 ≤ _)⟩)
                dsimp only [Pt.U, Pt.locs, Pt.cells, Pt.slots] at X46 l46 y46 z46 st46 hQ46
                subst l46 y46 z46
                obtain ⟨rfl, N46q, e46⟩ := hQ46
                have N46 := Fr.app N38 N46q
                refine Goes.st (B := T46.setTop (mkF m 202 #[.val (.long x0), .second, .val (.long x1), .second, .val (.long x2), .second, .val (.long x3), .second, .val (.int x4), .val (.int (0 : Int32)), .val (.int (2 : Int32)), .val (.int (j0_32_s0 x0 x1 x2 x3 x4)), .val (.long (j0_48_s0 x0 x1 x2 x3 x4)), .second, .val (.long (j0_64_s0 x0 x1 x2 x3 x4)), .second, .val (.ref b37), .val (.ref b38), .val (.long (0 : Int64)), .second, .val (.long (0 : Int64)), .second, .val (.long (j0_48_s0 x0 x1 x2 x3 x4)), .second, .val (.long (j0_64_s0 x0 x1 x2 x3 x4)), .second, .val (.int (j0_193_s0_b x0 x1 x2 x3 x4))] [(.int (r302 (j0_48_s0 x0 x1 x2 x3 x4) (j0_64_s0 x0 x1 x2 x3 x4)))])) st46 ?_
                refine Goes.run X46 hx hown hci hcl hby (L := [(202, .iload 26, 2)]) (by decide +kernel) rfl (g' := (mkF m 204 #[.val (.long x0), .second, .val (.long x1), .second, .val (.long x2), .second, .val (.long x3), .second, .val (.int x4), .val (.int (0 : Int32)), .val (.int (2 : Int32)), .val (.int (j0_32_s0 x0 x1 x2 x3 x4)), .val (.long (j0_48_s0 x0 x1 x2 x3 x4)), .second, .val (.long (j0_64_s0 x0 x1 x2 x3 x4)), .second, .val (.ref b37), .val (.ref b38), .val (.long (0 : Int64)), .second, .val (.long (0 : Int64)), .second, .val (.long (j0_48_s0 x0 x1 x2 x3 x4)), .second, .val (.long (j0_64_s0 x0 x1 x2 x3 x4)), .second, .val (.int (j0_193_s0_b x0 x1 x2 x3 x4))] [(.int (j0_193_s0_b x0 x1 x2 x3 x4)), (.int (r302 (j0_48_s0 x0 x1 x2 x3 x4) (j0_64_s0 x0 x1 x2 x3 x4)))])) rfl ?_
                by_cases hc204_47 : (r302 (j0_48_s0 x0 x1 x2 x3 x4) (j0_64_s0 x0 x1 x2 x3 x4)) = (j0_193_s0_b x0 x1 x2 x3 x4)
                · skip
                  refine Goes.st (B := T46.setTop (mkF m 207 #[.val (.long x0), .second, .val (.long x1), .second, .val (.long x2), .second, .val (.long x3), .second, .val (.int x4), .val (.int (0 : Int32)), .val (.int (2 : Int32)), .val (.int (j0_32_s0 x0 x1 x2 x3 x4)), .val (.long (j0_48_s0 x0 x1 x2 x3 x4)), .second, .val (.long (j0_64_s0 x0 x1 x2 x3 x4)), .second, .val (.ref b37), .val (.ref b38), .val (.long (0 : Int64)), .second, .val (.long (0 : Int64)), .second, .val (.long (j0_48_s0 x0 x1 x2 x3 x4)), .second, .val (.long (j0_64_s0 x0 x1 x2 x3 x4)), .second, .val (.int (j0_193_s0_b x0 x1 x2 x3 x4))] [])) (fun t k => ?_) ?_
                  · refine XS.icmpNo X46.here hx rfl (hb hby at_204) rfl (teq hc204_47).2 ?_
                    exact k
                  refine Goes.run X46 hx hown hci hcl hby (L := [(207, .iconst 1, 1), (208, .goto 4, 3)]) (by decide +kernel) rfl (g' := (mkF m 212 #[.val (.long x0), .second, .val (.long x1), .second, .val (.long x2), .second, .val (.long x3), .second, .val (.int x4), .val (.int (0 : Int32)), .val (.int (2 : Int32)), .val (.int (j0_32_s0 x0 x1 x2 x3 x4)), .val (.long (j0_48_s0 x0 x1 x2 x3 x4)), .second, .val (.long (j0_64_s0 x0 x1 x2 x3 x4)), .second, .val (.ref b37), .val (.ref b38), .val (.long (0 : Int64)), .second, .val (.long (0 : Int64)), .second, .val (.long (j0_48_s0 x0 x1 x2 x3 x4)), .second, .val (.long (j0_64_s0 x0 x1 x2 x3 x4)), .second, .val (.int (j0_193_s0_b x0 x1 x2 x3 x4))] [(.int (1 : Int32))])) rfl ?_
                  exact Goes.retB X46 hx hlk (t := .boolean) Bd.returns (by simp) (hb hby at_212) rfl ⟨(congrArg (fun z => some (Value.int z)) (show (r0 x0 x1 x2 x3 x4) = (1 : Int32) from ((((if_pos hs86_9).trans (if_neg hs86_10)).trans (if_neg hs86_23)).trans (if_pos hc204_47))).symm), N46⟩ (by decide) (by decide)
                · skip
                  refine Goes.st (B := T46.setTop (mkF m 211 #[.val (.long x0), .second, .val (.long x1), .second, .val (.long x2), .second, .val (.long x3), .second, .val (.int x4), .val (.int (0 : Int32)), .val (.int (2 : Int32)), .val (.int (j0_32_s0 x0 x1 x2 x3 x4)), .val (.long (j0_48_s0 x0 x1 x2 x3 x4)), .second, .val (.long (j0_64_s0 x0 x1 x2 x3 x4)), .second, .val (.ref b37), .val (.ref b38), .val (.long (0 : Int64)), .second, .val (.long (0 : Int64)), .second, .val (.long (j0_48_s0 x0 x1 x2 x3 x4)), .second, .val (.long (j0_64_s0 x0 x1 x2 x3 x4)), .second, .val (.int (j0_193_s0_b x0 x1 x2 x3 x4))] [])) (fun t k => ?_) ?_
                  · refine XS.icmpYes X46.here hx rfl (pc0 := 204) (pc' := 211) rfl (hb hby at_204) rfl (feq hc204_47).2 (by decide) (by decide) ?_
                    exact k
                  refine Goes.run X46 hx hown hci hcl hby (L := [(211, .iconst 0, 1)]) (by decide +kernel) rfl (g' := (mkF m 212 #[.val (.long x0), .second, .val (.long x1), .second, .val (.long x2), .second, .val (.long x3), .second, .val (.int x4), .val (.int (0 : Int32)), .val (.int (2 : Int32)), .val (.int (j0_32_s0 x0 x1 x2 x3 x4)), .val (.long (j0_48_s0 x0 x1 x2 x3 x4)), .second, .val (.long (j0_64_s0 x0 x1 x2 x3 x4)), .second, .val (.ref b37), .val (.ref b38), .val (.long (0 : Int64)), .second, .val (.long (0 : Int64)), .second, .val (.long (j0_48_s0 x0 x1 x2 x3 x4)), .second, .val (.long (j0_64_s0 x0 x1 x2 x3 x4)), .second, .val (.int (j0_193_s0_b x0 x1 x2 x3 x4))] [(.int (0 : Int32))])) rfl ?_
                  exact Goes.retB X46 hx hlk (t := .boolean) Bd.returns (by simp) (hb hby at_212) rfl ⟨(congrArg (fun z => some (Value.int z)) (show (r0 x0 x1 x2 x3 x4) = (0 : Int32) from ((((if_pos hs86_9).trans (if_neg hs86_10)).trans (if_neg hs86_23)).trans (if_neg hc204_47))).symm), N46⟩ (by decide) (by decide)
              by_cases hc171_43 : ((j0_48_s0 x0 x1 x2 x3 x4) &&& ((0 : Int64) ^^^ (-1 : Int64))) = (0 : Int64)
              · skip
                refine Goes.st (B := T38.setTop (mkF m 174 #[.val (.long x0), .second, .val (.long x1), .second, .val (.long x2), .second, .val (.long x3), .second, .val (.int x4), .val (.int (0 : Int32)), .val (.int (2 : Int32)), .val (.int (j0_32_s0 x0 x1 x2 x3 x4)), .val (.long (j0_48_s0 x0 x1 x2 x3 x4)), .second, .val (.long (j0_64_s0 x0 x1 x2 x3 x4)), .second, .val (.ref b37), .val (.ref b38), .val (.long (0 : Int64)), .second, .val (.long (0 : Int64)), .second, .val (.long (j0_48_s0 x0 x1 x2 x3 x4)), .second, .val (.long (j0_64_s0 x0 x1 x2 x3 x4)), .second, .unset] [])) (fun t k => ?_) ?_
                · refine XS.ifNo X38.here hx rfl (hb hby at_171) rfl (teqL hc171_43).2 ?_
                  exact k
                refine Goes.run X38 hx hown hci hcl hby (L := [(174, .lload 24, 2), (176, .lload 20, 2), (178, .ldc2_w 17, 3), (181, .lxor, 1), (182, .land, 1), (183, .lconst 0, 1)]) (by decide +kernel) rfl (g' := (mkF m 184 #[.val (.long x0), .second, .val (.long x1), .second, .val (.long x2), .second, .val (.long x3), .second, .val (.int x4), .val (.int (0 : Int32)), .val (.int (2 : Int32)), .val (.int (j0_32_s0 x0 x1 x2 x3 x4)), .val (.long (j0_48_s0 x0 x1 x2 x3 x4)), .second, .val (.long (j0_64_s0 x0 x1 x2 x3 x4)), .second, .val (.ref b37), .val (.ref b38), .val (.long (0 : Int64)), .second, .val (.long (0 : Int64)), .second, .val (.long (j0_48_s0 x0 x1 x2 x3 x4)), .second, .val (.long (j0_64_s0 x0 x1 x2 x3 x4)), .second, .unset] [(.long (0 : Int64)), (.long ((j0_64_s0 x0 x1 x2 x3 x4) &&& ((0 : Int64) ^^^ (-1 : Int64))))])) rfl ?_
                refine Goes.run X38 hx hown hci hcl hby (L := [(184, .lcmp, 1)]) (by decide +kernel) rfl (g' := (mkF m 185 #[.val (.long x0), .second, .val (.long x1), .second, .val (.long x2), .second, .val (.long x3), .second, .val (.int x4), .val (.int (0 : Int32)), .val (.int (2 : Int32)), .val (.int (j0_32_s0 x0 x1 x2 x3 x4)), .val (.long (j0_48_s0 x0 x1 x2 x3 x4)), .second, .val (.long (j0_64_s0 x0 x1 x2 x3 x4)), .second, .val (.ref b37), .val (.ref b38), .val (.long (0 : Int64)), .second, .val (.long (0 : Int64)), .second, .val (.long (j0_48_s0 x0 x1 x2 x3 x4)), .second, .val (.long (j0_64_s0 x0 x1 x2 x3 x4)), .second, .unset] [(.int (lcmpW ((j0_64_s0 x0 x1 x2 x3 x4) &&& ((0 : Int64) ^^^ (-1 : Int64))) (0 : Int64)))])) rfl ?_
                by_cases hc185_48 : ((j0_64_s0 x0 x1 x2 x3 x4) &&& ((0 : Int64) ^^^ (-1 : Int64))) = (0 : Int64)
                · skip
                  refine Goes.st (B := T38.setTop (mkF m 188 #[.val (.long x0), .second, .val (.long x1), .second, .val (.long x2), .second, .val (.long x3), .second, .val (.int x4), .val (.int (0 : Int32)), .val (.int (2 : Int32)), .val (.int (j0_32_s0 x0 x1 x2 x3 x4)), .val (.long (j0_48_s0 x0 x1 x2 x3 x4)), .second, .val (.long (j0_64_s0 x0 x1 x2 x3 x4)), .second, .val (.ref b37), .val (.ref b38), .val (.long (0 : Int64)), .second, .val (.long (0 : Int64)), .second, .val (.long (j0_48_s0 x0 x1 x2 x3 x4)), .second, .val (.long (j0_64_s0 x0 x1 x2 x3 x4)), .second, .unset] [])) (fun t k => ?_) ?_
                  · refine XS.ifNo X38.here hx rfl (hb hby at_185) rfl (teqL hc185_48).2 ?_
                    exact k
                  refine Goes.run X38 hx hown hci hcl hby (L := [(188, .iconst 1, 1), (189, .goto 4, 3)]) (by decide +kernel) rfl (g' := (mkF m 193 #[.val (.long x0), .second, .val (.long x1), .second, .val (.long x2), .second, .val (.long x3), .second, .val (.int x4), .val (.int (0 : Int32)), .val (.int (2 : Int32)), .val (.int (j0_32_s0 x0 x1 x2 x3 x4)), .val (.long (j0_48_s0 x0 x1 x2 x3 x4)), .second, .val (.long (j0_64_s0 x0 x1 x2 x3 x4)), .second, .val (.ref b37), .val (.ref b38), .val (.long (0 : Int64)), .second, .val (.long (0 : Int64)), .second, .val (.long (j0_48_s0 x0 x1 x2 x3 x4)), .second, .val (.long (j0_64_s0 x0 x1 x2 x3 x4)), .second, .unset] [(.int (1 : Int32))])) rfl ?_
                  have q := jn193_45
                  rw [show (j0_193_s0_b x0 x1 x2 x3 x4) = (1 : Int32) from ((if_pos hc171_43).trans (if_pos hc185_48))] at q
                  exact q
                · skip
                  refine Goes.st (B := T38.setTop (mkF m 192 #[.val (.long x0), .second, .val (.long x1), .second, .val (.long x2), .second, .val (.long x3), .second, .val (.int x4), .val (.int (0 : Int32)), .val (.int (2 : Int32)), .val (.int (j0_32_s0 x0 x1 x2 x3 x4)), .val (.long (j0_48_s0 x0 x1 x2 x3 x4)), .second, .val (.long (j0_64_s0 x0 x1 x2 x3 x4)), .second, .val (.ref b37), .val (.ref b38), .val (.long (0 : Int64)), .second, .val (.long (0 : Int64)), .second, .val (.long (j0_48_s0 x0 x1 x2 x3 x4)), .second, .val (.long (j0_64_s0 x0 x1 x2 x3 x4)), .second, .unset] [])) (fun t k => ?_) ?_
                  · refine XS.ifYes X38.here hx rfl (pc0 := 185) (pc' := 192) rfl (hb hby at_185) rfl (feqL hc185_48).2 (by decide) (by decide) ?_
                    exact k
                  refine Goes.run X38 hx hown hci hcl hby (L := [(192, .iconst 0, 1)]) (by decide +kernel) rfl (g' := (mkF m 193 #[.val (.long x0), .second, .val (.long x1), .second, .val (.long x2), .second, .val (.long x3), .second, .val (.int x4), .val (.int (0 : Int32)), .val (.int (2 : Int32)), .val (.int (j0_32_s0 x0 x1 x2 x3 x4)), .val (.long (j0_48_s0 x0 x1 x2 x3 x4)), .second, .val (.long (j0_64_s0 x0 x1 x2 x3 x4)), .second, .val (.ref b37), .val (.ref b38), .val (.long (0 : Int64)), .second, .val (.long (0 : Int64)), .second, .val (.long (j0_48_s0 x0 x1 x2 x3 x4)), .second, .val (.long (j0_64_s0 x0 x1 x2 x3 x4)), .second, .unset] [(.int (0 : Int32))])) rfl ?_
                  have q := jn193_45
                  rw [show (j0_193_s0_b x0 x1 x2 x3 x4) = (0 : Int32) from ((if_pos hc171_43).trans (if_neg hc185_48))] at q
                  exact q
              · skip
                refine Goes.st (B := T38.setTop (mkF m 192 #[.val (.long x0), .second, .val (.long x1), .second, .val (.long x2), .second, .val (.long x3), .second, .val (.int x4), .val (.int (0 : Int32)), .val (.int (2 : Int32)), .val (.int (j0_32_s0 x0 x1 x2 x3 x4)), .val (.long (j0_48_s0 x0 x1 x2 x3 x4)), .second, .val (.long (j0_64_s0 x0 x1 x2 x3 x4)), .second, .val (.ref b37), .val (.ref b38), .val (.long (0 : Int64)), .second, .val (.long (0 : Int64)), .second, .val (.long (j0_48_s0 x0 x1 x2 x3 x4)), .second, .val (.long (j0_64_s0 x0 x1 x2 x3 x4)), .second, .unset] [])) (fun t k => ?_) ?_
                · refine XS.ifYes X38.here hx rfl (pc0 := 171) (pc' := 192) rfl (hb hby at_171) rfl (feqL hc171_43).2 (by decide) (by decide) ?_
                  exact k
                refine Goes.run X38 hx hown hci hcl hby (L := [(192, .iconst 0, 1)]) (by decide +kernel) rfl (g' := (mkF m 193 #[.val (.long x0), .second, .val (.long x1), .second, .val (.long x2), .second, .val (.long x3), .second, .val (.int x4), .val (.int (0 : Int32)), .val (.int (2 : Int32)), .val (.int (j0_32_s0 x0 x1 x2 x3 x4)), .val (.long (j0_48_s0 x0 x1 x2 x3 x4)), .second, .val (.long (j0_64_s0 x0 x1 x2 x3 x4)), .second, .val (.ref b37), .val (.ref b38), .val (.long (0 : Int64)), .second, .val (.long (0 : Int64)), .second, .val (.long (j0_48_s0 x0 x1 x2 x3 x4)), .second, .val (.long (j0_64_s0 x0 x1 x2 x3 x4)), .second, .unset] [(.int (0 : Int32))])) rfl ?_
                have q := jn193_45
                rw [show (j0_193_s0_b x0 x1 x2 x3 x4) = (0 : Int32) from (if_neg hc171_43)] at q
                exact q
        · skip
          by_cases hs86_49 : (w0_73 x0 x1 x2 x3 x4) = (1 : Int32)
          · skip
            rw [hs86_49]
            by_cases hs86_50 : (w0_84 x0 x1 x2 x3 x4) = (0 : Int32)
            · skip
              rw [hs86_50]
              refine Goes.run X8 hx hown hci hcl hby (L := [(86, .iload 9, 2), (88, .lload_n 0, 1), (89, .lload_n 2, 1)]) (by decide +kernel) rfl (g' := (mkF m 90 #[.val (.long x0), .second, .val (.long x1), .second, .val (.long x2), .second, .val (.long x3), .second, .val (.int x4), .val (.int (1 : Int32)), .val (.int (0 : Int32)), .val (.int (j0_32_s0 x0 x1 x2 x3 x4)), .val (.long (j0_48_s0 x0 x1 x2 x3 x4)), .second, .val (.long (j0_64_s0 x0 x1 x2 x3 x4)), .second, .unset, .unset, .unset, .unset, .unset, .unset, .unset, .unset, .unset, .unset, .unset] [(.long x1), (.long x0), (.int (1 : Int32))])) rfl ?_
              obtain ⟨_, _, ⟨T51, L51, k51, n51⟩, -, X51, ⟨Lc51, hQ51, l51, y51, z51⟩, st51⟩ := Jvm.LawKit.callS X8 hx (y := (⟨"com/example/marks_across_domains/marksacrossdomains/BitsContainsPinLaw", "make", "(IJJ)[J"⟩ : MethodName)) hown (mvT hZ (hw _ (List.mem_of_getElem? (i := 4) rfl))) (mvT hZ (hw _ (List.mem_of_getElem? (i := 5) rfl))) (mvT hZ (hw _ (List.mem_of_getElem? (i := 2) rfl))) (mvT hZ (hw _ (List.mem_of_getElem? (i := 6) rfl))) (by decide) (backOf (W := 0) (rm21 l Z a0 hw [] x0 x1 h0 n0 Z0 ) hZ (hw _ (List.mem_of_getElem? (i := 6) rfl)) (hw _ (List.mem_of_getElem? (i := 2) rfl)) (by decide) (by decide)) (g := (mkF m 90 #[.val (.long x0), .second, .val (.long x1), .second, .val (.long x2), .second, .val (.long x3), .second, .val (.int x4), .val (.int (1 : Int32)), .val (.int (0 : Int32)), .val (.int (j0_32_s0 x0 x1 x2 x3 x4)), .val (.long (j0_48_s0 x0 x1 x2 x3 x4)), .second, .val (.long (j0_64_s0 x0 x1 x2 x3 x4)), .second, .unset, .unset, .unset, .unset, .unset, .unset, .unset, .unset, .unset, .unset, .unset] [(.long x1), (.long x0), (.int (1 : Int32))])) rfl (by rw [hml]; rfl) (argsL := [(.int (1 : Int32)), (.long x0), (.long x1)]) (rest := []) (lenOf pd0_1 rfl) rfl (by show 2 * 0 + _ ≤ _; exact Nat.le_of_eq rfl) (hb hby at_90) (fun _ _ => ⟨rfl, e8, (by decide : 0 + 1 ≤ _), (by decide : 0 + 1 ≤ _)⟩)
              dsimp only [Pt.U, Pt.locs, Pt.cells, Pt.slots] at X51 l51 y51 z51 st51 hQ51
              subst l51 y51 z51
              obtain ⟨h51, eh51⟩ : ∃ z, z = T51.heap := ⟨_, rfl⟩
              rw [← eh51] at hQ51
              have e51 : T51.heap = h51 := eh51.symm
              obtain ⟨b51, kc51, rfl, N51q, Kq51, szq51, o51_0, o51_1⟩ := hQ51
              have g_b51 : n0 ≤ b51 := Nat.le_trans Z0 szq51
              have N51 := Fr.app N8 N51q
              have E_b51 : Exa Z h51 b51 "[J" := o51_0
              have V_b51 : Arv Z h51 b51 kc51 .long (1 : Int32) [(.long x0)] (.long (0 : Int64)) := o51_1
              have Zn51 : n0 ≤ h51.size := Nat.le_trans Z0 Kq51.1
              refine Goes.st (B := T51.setTop (mkF m 93 #[.val (.long x0), .second, .val (.long x1), .second, .val (.long x2), .second, .val (.long x3), .second, .val (.int x4), .val (.int (1 : Int32)), .val (.int (0 : Int32)), .val (.int (j0_32_s0 x0 x1 x2 x3 x4)), .val (.long (j0_48_s0 x0 x1 x2 x3 x4)), .second, .val (.long (j0_64_s0 x0 x1 x2 x3 x4)), .second, .unset, .unset, .unset, .unset, .unset, .unset, .unset, .unset, .unset, .unset, .unset] [(.ref b51)])) st51 ?_
              refine Goes.run X51 hx hown hci hcl hby (L := [(93, .astore 16, 2), (95, .iload 10, 2), (97, .lload 12, 2), (99, .lload 14, 2)]) (by decide +kernel) rfl (g' := (mkF m 101 #[.val (.long x0), .second, .val (.long x1), .second, .val (.long x2), .second, .val (.long x3), .second, .val (.int x4), .val (.int (1 : Int32)), .val (.int (0 : Int32)), .val (.int (j0_32_s0 x0 x1 x2 x3 x4)), .val (.long (j0_48_s0 x0 x1 x2 x3 x4)), .second, .val (.long (j0_64_s0 x0 x1 x2 x3 x4)), .second, .val (.ref b51), .unset, .unset, .unset, .unset, .unset, .unset, .unset, .unset, .unset, .unset] [(.long (j0_64_s0 x0 x1 x2 x3 x4)), (.long (j0_48_s0 x0 x1 x2 x3 x4)), (.int (0 : Int32))])) rfl ?_
              obtain ⟨_, _, ⟨T52, L52, k52, n52⟩, -, X52, ⟨Lc52, hQ52, l52, y52, z52⟩, st52⟩ := Jvm.LawKit.callS X51 hx (y := (⟨"com/example/marks_across_domains/marksacrossdomains/BitsContainsPinLaw", "make", "(IJJ)[J"⟩ : MethodName)) hown (mvT hZ (hw _ (List.mem_of_getElem? (i := 4) rfl))) (mvT hZ (hw _ (List.mem_of_getElem? (i := 5) rfl))) (mvT hZ (hw _ (List.mem_of_getElem? (i := 2) rfl))) (mvT hZ (hw _ (List.mem_of_getElem? (i := 6) rfl))) (by decide) (backOf (W := 0) (rm20 l Z a0 hw [] (j0_48_s0 x0 x1 x2 x3 x4) (j0_64_s0 x0 x1 x2 x3 x4) h51 n0 Zn51 ) hZ (hw _ (List.mem_of_getElem? (i := 6) rfl)) (hw _ (List.mem_of_getElem? (i := 2) rfl)) (by decide) (by decide)) (g := (mkF m 101 #[.val (.long x0), .second, .val (.long x1), .second, .val (.long x2), .second, .val (.long x3), .second, .val (.int x4), .val (.int (1 : Int32)), .val (.int (0 : Int32)), .val (.int (j0_32_s0 x0 x1 x2 x3 x4)), .val (.long (j0_48_s0 x0 x1 x2 x3 x4)), .second, .val (.long (j0_64_s0 x0 x1 x2 x3 x4)), .second, .val (.ref b51), .unset, .unset, .unset, .unset, .unset, .unset, .unset, .unset, .unset, .unset] [(.long (j0_64_s0 x0 x1 x2 x3 x4)), (.long (j0_48_s0 x0 x1 x2 x3 x4)), (.int (0 : Int32))])) rfl (by rw [hml]; rfl) (argsL := [(.int (0 : Int32)), (.long (j0_48_s0 x0 x1 x2 x3 x4)), (.long (j0_64_s0 x0 x1 x2 x3 x4))]) (rest := []) (lenOf pd0_1 rfl) rfl (by show 2 * 0 + _ ≤ _; exact Nat.le_of_eq rfl) (hb hby at_101) (fun _ _ => ⟨rfl, e51, (by decide : 1 + 1 ≤ _), (by decide : 1 + 0 ≤ _)⟩)
              dsimp only [Pt.U, Pt.locs, Pt.cells, Pt.slots] at X52 l52 y52 z52 st52 hQ52
              subst l52 y52 z52
              obtain ⟨h52, eh52⟩ : ∃ z, z = T52.heap := ⟨_, rfl⟩
              rw [← eh52] at hQ52
              have e52 : T52.heap = h52 := eh52.symm
              obtain ⟨b52, kc52, rfl, N52q, Kq52, szq52, o52_0, o52_1⟩ := hQ52
              have ne_b51_b52 : b51 ≠ b52 := Nat.ne_of_lt (Nat.lt_of_lt_of_le E_b51.lt szq52)
              have g_b52 : n0 ≤ b52 := Nat.le_trans Zn51 szq52
              have N52 := Fr.app N51 N52q
              have E_b51 := E_b51.keep Kq52
              have V_b51 := V_b51.keep Kq52 nin0
              have E_b52 : Exa Z h52 b52 "[J" := o52_0
              have V_b52 : Arv Z h52 b52 kc52 .long (0 : Int32) [] (.long (0 : Int64)) := o52_1
              have Zn52 : n0 ≤ h52.size := Nat.le_trans Zn51 Kq52.1
              refine Goes.st (B := T52.setTop (mkF m 104 #[.val (.long x0), .second, .val (.long x1), .second, .val (.long x2), .second, .val (.long x3), .second, .val (.int x4), .val (.int (1 : Int32)), .val (.int (0 : Int32)), .val (.int (j0_32_s0 x0 x1 x2 x3 x4)), .val (.long (j0_48_s0 x0 x1 x2 x3 x4)), .second, .val (.long (j0_64_s0 x0 x1 x2 x3 x4)), .second, .val (.ref b51), .unset, .unset, .unset, .unset, .unset, .unset, .unset, .unset, .unset, .unset] [(.ref b52)])) st52 ?_
              refine Goes.run X52 hx hown hci hcl hby (L := [(104, .astore 17, 2), (106, .iload 9, 2), (108, .iconst 1, 1)]) (by decide +kernel) rfl (g' := (mkF m 109 #[.val (.long x0), .second, .val (.long x1), .second, .val (.long x2), .second, .val (.long x3), .second, .val (.int x4), .val (.int (1 : Int32)), .val (.int (0 : Int32)), .val (.int (j0_32_s0 x0 x1 x2 x3 x4)), .val (.long (j0_48_s0 x0 x1 x2 x3 x4)), .second, .val (.long (j0_64_s0 x0 x1 x2 x3 x4)), .second, .val (.ref b51), .val (.ref b52), .unset, .unset, .unset, .unset, .unset, .unset, .unset, .unset, .unset] [(.int (1 : Int32)), (.int (1 : Int32))])) rfl ?_
              have hc109_53 : ¬ ((1 : Int32) < (1 : Int32)) := Int32.lt_irrefl
              refine Goes.st (B := T52.setTop (mkF m 112 #[.val (.long x0), .second, .val (.long x1), .second, .val (.long x2), .second, .val (.long x3), .second, .val (.int x4), .val (.int (1 : Int32)), .val (.int (0 : Int32)), .val (.int (j0_32_s0 x0 x1 x2 x3 x4)), .val (.long (j0_48_s0 x0 x1 x2 x3 x4)), .second, .val (.long (j0_64_s0 x0 x1 x2 x3 x4)), .second, .val (.ref b51), .val (.ref b52), .unset, .unset, .unset, .unset, .unset, .unset, .unset, .unset, .unset] [])) (fun t k => ?_) ?_
              · refine XS.icmpNo X52.here hx rfl (hb hby at_109) rfl (flt hc109_53).1 ?_
                exact k
              refine Goes.run X52 hx hown hci hcl hby (L := [(112, .lload_n 0, 1), (113, .goto 4, 3), (117, .lstore 18, 2), (119, .iload 9, 2), (121, .iconst 2, 1)]) (by decide +kernel) rfl (g' := (mkF m 122 #[.val (.long x0), .second, .val (.long x1), .second, .val (.long x2), .second, .val (.long x3), .second, .val (.int x4), .val (.int (1 : Int32)), .val (.int (0 : Int32)), .val (.int (j0_32_s0 x0 x1 x2 x3 x4)), .val (.long (j0_48_s0 x0 x1 x2 x3 x4)), .second, .val (.long (j0_64_s0 x0 x1 x2 x3 x4)), .second, .val (.ref b51), .val (.ref b52), .val (.long x0), .second, .unset, .unset, .unset, .unset, .unset, .unset, .unset] [(.int (2 : Int32)), (.int (1 : Int32))])) rfl ?_
              have hc122_54 : (1 : Int32) < (2 : Int32) := by decide
              refine Goes.st (B := T52.setTop (mkF m 129 #[.val (.long x0), .second, .val (.long x1), .second, .val (.long x2), .second, .val (.long x3), .second, .val (.int x4), .val (.int (1 : Int32)), .val (.int (0 : Int32)), .val (.int (j0_32_s0 x0 x1 x2 x3 x4)), .val (.long (j0_48_s0 x0 x1 x2 x3 x4)), .second, .val (.long (j0_64_s0 x0 x1 x2 x3 x4)), .second, .val (.ref b51), .val (.ref b52), .val (.long x0), .second, .unset, .unset, .unset, .unset, .unset, .unset, .unset] [])) (fun t k => ?_) ?_
              · refine XS.icmpYes X52.here hx rfl (pc0 := 122) (pc' := 129) rfl (hb hby at_122) rfl (tlt hc122_54).1 (by decide) (by decide) ?_
                exact k
              refine Goes.run X52 hx hown hci hcl hby (L := [(129, .lconst 0, 1), (130, .lstore 20, 2), (132, .iload 10, 2), (134, .iconst 1, 1)]) (by decide +kernel) rfl (g' := (mkF m 135 #[.val (.long x0), .second, .val (.long x1), .second, .val (.long x2), .second, .val (.long x3), .second, .val (.int x4), .val (.int (1 : Int32)), .val (.int (0 : Int32)), .val (.int (j0_32_s0 x0 x1 x2 x3 x4)), .val (.long (j0_48_s0 x0 x1 x2 x3 x4)), .second, .val (.long (j0_64_s0 x0 x1 x2 x3 x4)), .second, .val (.ref b51), .val (.ref b52), .val (.long x0), .second, .val (.long (0 : Int64)), .second, .unset, .unset, .unset, .unset, .unset] [(.int (1 : Int32)), (.int (0 : Int32))])) rfl ?_
              have hc135_55 : (0 : Int32) < (1 : Int32) := by decide
              refine Goes.st (B := T52.setTop (mkF m 143 #[.val (.long x0), .second, .val (.long x1), .second, .val (.long x2), .second, .val (.long x3), .second, .val (.int x4), .val (.int (1 : Int32)), .val (.int (0 : Int32)), .val (.int (j0_32_s0 x0 x1 x2 x3 x4)), .val (.long (j0_48_s0 x0 x1 x2 x3 x4)), .second, .val (.long (j0_64_s0 x0 x1 x2 x3 x4)), .second, .val (.ref b51), .val (.ref b52), .val (.long x0), .second, .val (.long (0 : Int64)), .second, .unset, .unset, .unset, .unset, .unset] [])) (fun t k => ?_) ?_
              · refine XS.icmpYes X52.here hx rfl (pc0 := 135) (pc' := 143) rfl (hb hby at_135) rfl (tlt hc135_55).1 (by decide) (by decide) ?_
                exact k
              refine Goes.run X52 hx hown hci hcl hby (L := [(143, .lconst 0, 1), (144, .lstore 22, 2), (146, .iload 10, 2), (148, .iconst 2, 1)]) (by decide +kernel) rfl (g' := (mkF m 149 #[.val (.long x0), .second, .val (.long x1), .second, .val (.long x2), .second, .val (.long x3), .second, .val (.int x4), .val (.int (1 : Int32)), .val (.int (0 : Int32)), .val (.int (j0_32_s0 x0 x1 x2 x3 x4)), .val (.long (j0_48_s0 x0 x1 x2 x3 x4)), .second, .val (.long (j0_64_s0 x0 x1 x2 x3 x4)), .second, .val (.ref b51), .val (.ref b52), .val (.long x0), .second, .val (.long (0 : Int64)), .second, .val (.long (0 : Int64)), .second, .unset, .unset, .unset] [(.int (2 : Int32)), (.int (0 : Int32))])) rfl ?_
              have hc149_56 : (0 : Int32) < (2 : Int32) := by decide
              refine Goes.st (B := T52.setTop (mkF m 157 #[.val (.long x0), .second, .val (.long x1), .second, .val (.long x2), .second, .val (.long x3), .second, .val (.int x4), .val (.int (1 : Int32)), .val (.int (0 : Int32)), .val (.int (j0_32_s0 x0 x1 x2 x3 x4)), .val (.long (j0_48_s0 x0 x1 x2 x3 x4)), .second, .val (.long (j0_64_s0 x0 x1 x2 x3 x4)), .second, .val (.ref b51), .val (.ref b52), .val (.long x0), .second, .val (.long (0 : Int64)), .second, .val (.long (0 : Int64)), .second, .unset, .unset, .unset] [])) (fun t k => ?_) ?_
              · refine XS.icmpYes X52.here hx rfl (pc0 := 149) (pc' := 157) rfl (hb hby at_149) rfl (tlt hc149_56).1 (by decide) (by decide) ?_
                exact k
              refine Goes.run X52 hx hown hci hcl hby (L := [(157, .lconst 0, 1), (158, .lstore 24, 2), (160, .lload 22, 2), (162, .lload 18, 2), (164, .ldc2_w 17, 3), (167, .lxor, 1)]) (by decide +kernel) rfl (g' := (mkF m 168 #[.val (.long x0), .second, .val (.long x1), .second, .val (.long x2), .second, .val (.long x3), .second, .val (.int x4), .val (.int (1 : Int32)), .val (.int (0 : Int32)), .val (.int (j0_32_s0 x0 x1 x2 x3 x4)), .val (.long (j0_48_s0 x0 x1 x2 x3 x4)), .second, .val (.long (j0_64_s0 x0 x1 x2 x3 x4)), .second, .val (.ref b51), .val (.ref b52), .val (.long x0), .second, .val (.long (0 : Int64)), .second, .val (.long (0 : Int64)), .second, .val (.long (0 : Int64)), .second, .unset] [(.long (x0 ^^^ (-1 : Int64))), (.long (0 : Int64))])) rfl ?_
              refine Goes.run X52 hx hown hci hcl hby (L := [(168, .land, 1), (169, .lconst 0, 1), (170, .lcmp, 1)]) (by decide +kernel) rfl (g' := (mkF m 171 #[.val (.long x0), .second, .val (.long x1), .second, .val (.long x2), .second, .val (.long x3), .second, .val (.int x4), .val (.int (1 : Int32)), .val (.int (0 : Int32)), .val (.int (j0_32_s0 x0 x1 x2 x3 x4)), .val (.long (j0_48_s0 x0 x1 x2 x3 x4)), .second, .val (.long (j0_64_s0 x0 x1 x2 x3 x4)), .second, .val (.ref b51), .val (.ref b52), .val (.long x0), .second, .val (.long (0 : Int64)), .second, .val (.long (0 : Int64)), .second, .val (.long (0 : Int64)), .second, .unset] [(.int (lcmpW ((0 : Int64) &&& (x0 ^^^ (-1 : Int64))) (0 : Int64)))])) rfl ?_
              have jn193_59 : Goes p e below s (QL (some (.int (r0 x0 x1 x2 x3 x4))) n0) room_1.cells room_1.slots (T52.setTop (mkF m 193 #[.val (.long x0), .second, .val (.long x1), .second, .val (.long x2), .second, .val (.long x3), .second, .val (.int x4), .val (.int (1 : Int32)), .val (.int (0 : Int32)), .val (.int (j0_32_s0 x0 x1 x2 x3 x4)), .val (.long (j0_48_s0 x0 x1 x2 x3 x4)), .second, .val (.long (j0_64_s0 x0 x1 x2 x3 x4)), .second, .val (.ref b51), .val (.ref b52), .val (.long x0), .second, .val (.long (0 : Int64)), .second, .val (.long (0 : Int64)), .second, .val (.long (0 : Int64)), .second, .unset] [(.int (j0_193_s0_c x0 x1 x2 x3 x4))])) := by
                refine Goes.run X52 hx hown hci hcl hby (L := [(193, .istore 26, 2), (195, .aload 16, 2), (197, .aload 17, 2)]) (by decide +kernel) rfl (g' := (mkF m 199 #[.val (.long x0), .second, .val (.long x1), .second, .val (.long x2), .second, .val (.long x3), .second, .val (.int x4), .val (.int (1 : Int32)), .val (.int (0 : Int32)), .val (.int (j0_32_s0 x0 x1 x2 x3 x4)), .val (.long (j0_48_s0 x0 x1 x2 x3 x4)), .second, .val (.long (j0_64_s0 x0 x1 x2 x3 x4)), .second, .val (.ref b51), .val (.ref b52), .val (.long x0), .second, .val (.long (0 : Int64)), .second, .val (.long (0 : Int64)), .second, .val (.long (0 : Int64)), .second, .val (.int (j0_193_s0_c x0 x1 x2 x3 x4))] [(.ref b52), (.ref b51)])) rfl ?_
                obtain ⟨_, _, ⟨T60, L60, k60, n60⟩, -, X60, ⟨Lc60, hQ60, l60, y60, z60⟩, st60⟩ := Jvm.LawKit.callS X52 hx (y := (⟨"com/example/marks_across_domains/marksacrossdomains/Bits", "contains", "([J[J)Z"⟩ : MethodName)) hown (mvT hZ (hw _ (List.mem_of_getElem? (i := 9) rfl))) (mvT hZ (hw _ (List.mem_of_getElem? (i := 10) rfl))) (mvT hZ (hw _ (List.mem_of_getElem? (i := 11) rfl))) (mvT hZ (hw _ (List.mem_of_getElem? (i := 12) rfl))) (by decide) (backOf (W := 0) (rm310 l Z a0 hw [] b51 b52 kc51 kc52 x0 h52 n0 Zn52 V_b51 V_b52) hZ (hw _ (List.mem_of_getElem? (i := 12) rfl)) (hw _ (List.mem_of_getElem? (i := 11) rfl)) (by decide) (by decide)) (g := (mkF m 199 #[.val (.long x0), .second, .val (.long x1), .second, .val (.long x2), .second, .val (.long x3), .second, .val (.int x4), .val (.int (1 : Int32)), .val (.int (0 : Int32)), .val (.int (j0_32_s0 x0 x1 x2 x3 x4)), .val (.long (j0_48_s0 x0 x1 x2 x3 x4)), .second, .val (.long (j0_64_s0 x0 x1 x2 x3 x4)), .second, .val (.ref b51), .val (.ref b52), .val (.long x0), .second, .val (.long (0 : Int64)), .second, .val (.long (0 : Int64)), .second, .val (.long (0 : Int64)), .second, .val (.int (j0_193_s0_c x0 x1 x2 x3 x4))] [(.ref b52), (.ref b51)])) rfl (by rw [hml]; rfl) (argsL := [(.ref b51), (.ref b52)]) (rest := []) (lenOf pd0_2 rfl) rfl (by show 2 * 0 + _ ≤ _; exact Nat.le_of_eq rfl) (hb hby at_199) (fun _ _ => ⟨rfl, e52, (by decide : 2 + 0 ≤ _), (by decide : 1 + 0 ≤ _)⟩)
                dsimp only [Pt.U, Pt.locs, Pt.cells, Pt.slots] at X60 l60 y60 z60 st60 hQ60
                subst l60 y60 z60
                obtain ⟨rfl, N60q, e60⟩ := hQ60
                have N60 := Fr.app N52 N60q
                refine Goes.st (B := T60.setTop (mkF m 202 #[.val (.long x0), .second, .val (.long x1), .second, .val (.long x2), .second, .val (.long x3), .second, .val (.int x4), .val (.int (1 : Int32)), .val (.int (0 : Int32)), .val (.int (j0_32_s0 x0 x1 x2 x3 x4)), .val (.long (j0_48_s0 x0 x1 x2 x3 x4)), .second, .val (.long (j0_64_s0 x0 x1 x2 x3 x4)), .second, .val (.ref b51), .val (.ref b52), .val (.long x0), .second, .val (.long (0 : Int64)), .second, .val (.long (0 : Int64)), .second, .val (.long (0 : Int64)), .second, .val (.int (j0_193_s0_c x0 x1 x2 x3 x4))] [(.int (r310 x0))])) st60 ?_
                refine Goes.run X60 hx hown hci hcl hby (L := [(202, .iload 26, 2)]) (by decide +kernel) rfl (g' := (mkF m 204 #[.val (.long x0), .second, .val (.long x1), .second, .val (.long x2), .second, .val (.long x3), .second, .val (.int x4), .val (.int (1 : Int32)), .val (.int (0 : Int32)), .val (.int (j0_32_s0 x0 x1 x2 x3 x4)), .val (.long (j0_48_s0 x0 x1 x2 x3 x4)), .second, .val (.long (j0_64_s0 x0 x1 x2 x3 x4)), .second, .val (.ref b51), .val (.ref b52), .val (.long x0), .second, .val (.long (0 : Int64)), .second, .val (.long (0 : Int64)), .second, .val (.long (0 : Int64)), .second, .val (.int (j0_193_s0_c x0 x1 x2 x3 x4))] [(.int (j0_193_s0_c x0 x1 x2 x3 x4)), (.int (r310 x0))])) rfl ?_
                by_cases hc204_61 : (r310 x0) = (j0_193_s0_c x0 x1 x2 x3 x4)
                · skip
                  refine Goes.st (B := T60.setTop (mkF m 207 #[.val (.long x0), .second, .val (.long x1), .second, .val (.long x2), .second, .val (.long x3), .second, .val (.int x4), .val (.int (1 : Int32)), .val (.int (0 : Int32)), .val (.int (j0_32_s0 x0 x1 x2 x3 x4)), .val (.long (j0_48_s0 x0 x1 x2 x3 x4)), .second, .val (.long (j0_64_s0 x0 x1 x2 x3 x4)), .second, .val (.ref b51), .val (.ref b52), .val (.long x0), .second, .val (.long (0 : Int64)), .second, .val (.long (0 : Int64)), .second, .val (.long (0 : Int64)), .second, .val (.int (j0_193_s0_c x0 x1 x2 x3 x4))] [])) (fun t k => ?_) ?_
                  · refine XS.icmpNo X60.here hx rfl (hb hby at_204) rfl (teq hc204_61).2 ?_
                    exact k
                  refine Goes.run X60 hx hown hci hcl hby (L := [(207, .iconst 1, 1), (208, .goto 4, 3)]) (by decide +kernel) rfl (g' := (mkF m 212 #[.val (.long x0), .second, .val (.long x1), .second, .val (.long x2), .second, .val (.long x3), .second, .val (.int x4), .val (.int (1 : Int32)), .val (.int (0 : Int32)), .val (.int (j0_32_s0 x0 x1 x2 x3 x4)), .val (.long (j0_48_s0 x0 x1 x2 x3 x4)), .second, .val (.long (j0_64_s0 x0 x1 x2 x3 x4)), .second, .val (.ref b51), .val (.ref b52), .val (.long x0), .second, .val (.long (0 : Int64)), .second, .val (.long (0 : Int64)), .second, .val (.long (0 : Int64)), .second, .val (.int (j0_193_s0_c x0 x1 x2 x3 x4))] [(.int (1 : Int32))])) rfl ?_
                  exact Goes.retB X60 hx hlk (t := .boolean) Bd.returns (by simp) (hb hby at_212) rfl ⟨(congrArg (fun z => some (Value.int z)) (show (r0 x0 x1 x2 x3 x4) = (1 : Int32) from ((((if_neg hs86_9).trans (if_pos hs86_49)).trans (if_pos hs86_50)).trans (if_pos hc204_61))).symm), N60⟩ (by decide) (by decide)
                · skip
                  refine Goes.st (B := T60.setTop (mkF m 211 #[.val (.long x0), .second, .val (.long x1), .second, .val (.long x2), .second, .val (.long x3), .second, .val (.int x4), .val (.int (1 : Int32)), .val (.int (0 : Int32)), .val (.int (j0_32_s0 x0 x1 x2 x3 x4)), .val (.long (j0_48_s0 x0 x1 x2 x3 x4)), .second, .val (.long (j0_64_s0 x0 x1 x2 x3 x4)), .second, .val (.ref b51), .val (.ref b52), .val (.long x0), .second, .val (.long (0 : Int64)), .second, .val (.long (0 : Int64)), .second, .val (.long (0 : Int64)), .second, .val (.int (j0_193_s0_c x0 x1 x2 x3 x4))] [])) (fun t k => ?_) ?_
                  · refine XS.icmpYes X60.here hx rfl (pc0 := 204) (pc' := 211) rfl (hb hby at_204) rfl (feq hc204_61).2 (by decide) (by decide) ?_
                    exact k
                  refine Goes.run X60 hx hown hci hcl hby (L := [(211, .iconst 0, 1)]) (by decide +kernel) rfl (g' := (mkF m 212 #[.val (.long x0), .second, .val (.long x1), .second, .val (.long x2), .second, .val (.long x3), .second, .val (.int x4), .val (.int (1 : Int32)), .val (.int (0 : Int32)), .val (.int (j0_32_s0 x0 x1 x2 x3 x4)), .val (.long (j0_48_s0 x0 x1 x2 x3 x4)), .second, .val (.long (j0_64_s0 x0 x1 x2 x3 x4)), .second, .val (.ref b51), .val (.ref b52), .val (.long x0), .second, .val (.long (0 : Int64)), .second, .val (.long (0 : Int64)), .second, .val (.long (0 : Int64)), .second, .val (.int (j0_193_s0_c x0 x1 x2 x3 x4))] [(.int (0 : Int32))])) rfl ?_
                  exact Goes.retB X60 hx hlk (t := .boolean) Bd.returns (by simp) (hb hby at_212) rfl ⟨(congrArg (fun z => some (Value.int z)) (show (r0 x0 x1 x2 x3 x4) = (0 : Int32) from ((((if_neg hs86_9).trans (if_pos hs86_49)).trans (if_pos hs86_50)).trans (if_neg hc204_61))).symm), N60⟩ (by decide) (by decide)
              by_cases hc171_57 : ((0 : Int64) &&& (x0 ^^^ (-1 : Int64))) = (0 : Int64)
              · skip
                refine Goes.st (B := T52.setTop (mkF m 174 #[.val (.long x0), .second, .val (.long x1), .second, .val (.long x2), .second, .val (.long x3), .second, .val (.int x4), .val (.int (1 : Int32)), .val (.int (0 : Int32)), .val (.int (j0_32_s0 x0 x1 x2 x3 x4)), .val (.long (j0_48_s0 x0 x1 x2 x3 x4)), .second, .val (.long (j0_64_s0 x0 x1 x2 x3 x4)), .second, .val (.ref b51), .val (.ref b52), .val (.long x0), .second, .val (.long (0 : Int64)), .second, .val (.long (0 : Int64)), .second, .val (.long (0 : Int64)), .second, .unset] [])) (fun t k => ?_) ?_
                · refine XS.ifNo X52.here hx rfl (hb hby at_171) rfl (teqL hc171_57).2 ?_
                  exact k
                refine Goes.run X52 hx hown hci hcl hby (L := [(174, .lload 24, 2), (176, .lload 20, 2), (178, .ldc2_w 17, 3), (181, .lxor, 1), (182, .land, 1), (183, .lconst 0, 1)]) (by decide +kernel) rfl (g' := (mkF m 184 #[.val (.long x0), .second, .val (.long x1), .second, .val (.long x2), .second, .val (.long x3), .second, .val (.int x4), .val (.int (1 : Int32)), .val (.int (0 : Int32)), .val (.int (j0_32_s0 x0 x1 x2 x3 x4)), .val (.long (j0_48_s0 x0 x1 x2 x3 x4)), .second, .val (.long (j0_64_s0 x0 x1 x2 x3 x4)), .second, .val (.ref b51), .val (.ref b52), .val (.long x0), .second, .val (.long (0 : Int64)), .second, .val (.long (0 : Int64)), .second, .val (.long (0 : Int64)), .second, .unset] [(.long (0 : Int64)), (.long ((0 : Int64) &&& ((0 : Int64) ^^^ (-1 : Int64))))])) rfl ?_
                refine Goes.run X52 hx hown hci hcl hby (L := [(184, .lcmp, 1)]) (by decide +kernel) rfl (g' := (mkF m 185 #[.val (.long x0), .second, .val (.long x1), .second, .val (.long x2), .second, .val (.long x3), .second, .val (.int x4), .val (.int (1 : Int32)), .val (.int (0 : Int32)), .val (.int (j0_32_s0 x0 x1 x2 x3 x4)), .val (.long (j0_48_s0 x0 x1 x2 x3 x4)), .second, .val (.long (j0_64_s0 x0 x1 x2 x3 x4)), .second, .val (.ref b51), .val (.ref b52), .val (.long x0), .second, .val (.long (0 : Int64)), .second, .val (.long (0 : Int64)), .second, .val (.long (0 : Int64)), .second, .unset] [(.int (lcmpW ((0 : Int64) &&& ((0 : Int64) ^^^ (-1 : Int64))) (0 : Int64)))])) rfl ?_
                by_cases hc185_62 : ((0 : Int64) &&& ((0 : Int64) ^^^ (-1 : Int64))) = (0 : Int64)
                · skip
                  refine Goes.st (B := T52.setTop (mkF m 188 #[.val (.long x0), .second, .val (.long x1), .second, .val (.long x2), .second, .val (.long x3), .second, .val (.int x4), .val (.int (1 : Int32)), .val (.int (0 : Int32)), .val (.int (j0_32_s0 x0 x1 x2 x3 x4)), .val (.long (j0_48_s0 x0 x1 x2 x3 x4)), .second, .val (.long (j0_64_s0 x0 x1 x2 x3 x4)), .second, .val (.ref b51), .val (.ref b52), .val (.long x0), .second, .val (.long (0 : Int64)), .second, .val (.long (0 : Int64)), .second, .val (.long (0 : Int64)), .second, .unset] [])) (fun t k => ?_) ?_
                  · refine XS.ifNo X52.here hx rfl (hb hby at_185) rfl (teqL hc185_62).2 ?_
                    exact k
                  refine Goes.run X52 hx hown hci hcl hby (L := [(188, .iconst 1, 1), (189, .goto 4, 3)]) (by decide +kernel) rfl (g' := (mkF m 193 #[.val (.long x0), .second, .val (.long x1), .second, .val (.long x2), .second, .val (.long x3), .second, .val (.int x4), .val (.int (1 : Int32)), .val (.int (0 : Int32)), .val (.int (j0_32_s0 x0 x1 x2 x3 x4)), .val (.long (j0_48_s0 x0 x1 x2 x3 x4)), .second, .val (.long (j0_64_s0 x0 x1 x2 x3 x4)), .second, .val (.ref b51), .val (.ref b52), .val (.long x0), .second, .val (.long (0 : Int64)), .second, .val (.long (0 : Int64)), .second, .val (.long (0 : Int64)), .second, .unset] [(.int (1 : Int32))])) rfl ?_
                  have q := jn193_59
                  rw [show (j0_193_s0_c x0 x1 x2 x3 x4) = (1 : Int32) from ((if_pos hc171_57).trans (if_pos hc185_62))] at q
                  exact q
                · skip
                  refine Goes.st (B := T52.setTop (mkF m 192 #[.val (.long x0), .second, .val (.long x1), .second, .val (.long x2), .second, .val (.long x3), .second, .val (.int x4), .val (.int (1 : Int32)), .val (.int (0 : Int32)), .val (.int (j0_32_s0 x0 x1 x2 x3 x4)), .val (.long (j0_48_s0 x0 x1 x2 x3 x4)), .second, .val (.long (j0_64_s0 x0 x1 x2 x3 x4)), .second, .val (.ref b51), .val (.ref b52), .val (.long x0), .second, .val (.long (0 : Int64)), .second, .val (.long (0 : Int64)), .second, .val (.long (0 : Int64)), .second, .unset] [])) (fun t k => ?_) ?_
                  · refine XS.ifYes X52.here hx rfl (pc0 := 185) (pc' := 192) rfl (hb hby at_185) rfl (feqL hc185_62).2 (by decide) (by decide) ?_
                    exact k
                  refine Goes.run X52 hx hown hci hcl hby (L := [(192, .iconst 0, 1)]) (by decide +kernel) rfl (g' := (mkF m 193 #[.val (.long x0), .second, .val (.long x1), .second, .val (.long x2), .second, .val (.long x3), .second, .val (.int x4), .val (.int (1 : Int32)), .val (.int (0 : Int32)), .val (.int (j0_32_s0 x0 x1 x2 x3 x4)), .val (.long (j0_48_s0 x0 x1 x2 x3 x4)), .second, .val (.long (j0_64_s0 x0 x1 x2 x3 x4)), .second, .val (.ref b51), .val (.ref b52), .val (.long x0), .second, .val (.long (0 : Int64)), .second, .val (.long (0 : Int64)), .second, .val (.long (0 : Int64)), .second, .unset] [(.int (0 : Int32))])) rfl ?_
                  have q := jn193_59
                  rw [show (j0_193_s0_c x0 x1 x2 x3 x4) = (0 : Int32) from ((if_pos hc171_57).trans (if_neg hc185_62))] at q
                  exact q
              · skip
                refine Goes.st (B := T52.setTop (mkF m 192 #[.val (.long x0), .second, .val (.long x1), .second, .val (.long x2), .second, .val (.long x3), .second, .val (.int x4), .val (.int (1 : Int32)), .val (.int (0 : Int32)), .val (.int (j0_32_s0 x0 x1 x2 x3 x4)), .val (.long (j0_48_s0 x0 x1 x2 x3 x4)), .second, .val (.long (j0_64_s0 x0 x1 x2 x3 x4)), .second, .val (.ref b51), .val (.ref b52), .val (.long x0), .second, .val (.long (0 : Int64)), .second, .val (.long (0 : Int64)), .second, .val (.long (0 : Int64)), .second, .unset] [])) (fun t k => ?_) ?_
                · refine XS.ifYes X52.here hx rfl (pc0 := 171) (pc' := 192) rfl (hb hby at_171) rfl (feqL hc171_57).2 (by decide) (by decide) ?_
                  exact k
                refine Goes.run X52 hx hown hci hcl hby (L := [(192, .iconst 0, 1)]) (by decide +kernel) rfl (g' := (mkF m 193 #[.val (.long x0), .second, .val (.long x1), .second, .val (.long x2), .second, .val (.long x3), .second, .val (.int x4), .val (.int (1 : Int32)), .val (.int (0 : Int32)), .val (.int (j0_32_s0 x0 x1 x2 x3 x4)), .val (.long (j0_48_s0 x0 x1 x2 x3 x4)), .second, .val (.long (j0_64_s0 x0 x1 x2 x3 x4)), .second, .val (.ref b51), .val (.ref b52), .val (.long x0), .second, .val (.long (0 : Int64)), .second, .val (.long (0 : Int64)), .second, .val (.long (0 : Int64)), .second, .unset] [(.int (0 : Int32))])) rfl ?_
                have q := jn193_59
                rw [show (j0_193_s0_c x0 x1 x2 x3 x4) = (0 : Int32) from (if_neg hc171_57)] at q
                exact q
            · skip
              by_cases hs86_63 : (w0_84 x0 x1 x2 x3 x4) = (1 : Int32)
              · skip
                rw [hs86_63]
                refine Goes.run X8 hx hown hci hcl hby (L := [(86, .iload 9, 2), (88, .lload_n 0, 1), (89, .lload_n 2, 1)]) (by decide +kernel) rfl (g' := (mkF m 90 #[.val (.long x0), .second, .val (.long x1), .second, .val (.long x2), .second, .val (.long x3), .second, .val (.int x4), .val (.int (1 : Int32)), .val (.int (1 : Int32)), .val (.int (j0_32_s0 x0 x1 x2 x3 x4)), .val (.long (j0_48_s0 x0 x1 x2 x3 x4)), .second, .val (.long (j0_64_s0 x0 x1 x2 x3 x4)), .second, .unset, .unset, .unset, .unset, .unset, .unset, .unset, .unset, .unset, .unset, .unset] [(.long x1), (.long x0), (.int (1 : Int32))])) rfl ?_
                obtain ⟨_, _, ⟨T64, L64, k64, n64⟩, -, X64, ⟨Lc64, hQ64, l64, y64, z64⟩, st64⟩ := Jvm.LawKit.callS X8 hx (y := (⟨"com/example/marks_across_domains/marksacrossdomains/BitsContainsPinLaw", "make", "(IJJ)[J"⟩ : MethodName)) hown (mvT hZ (hw _ (List.mem_of_getElem? (i := 4) rfl))) (mvT hZ (hw _ (List.mem_of_getElem? (i := 5) rfl))) (mvT hZ (hw _ (List.mem_of_getElem? (i := 2) rfl))) (mvT hZ (hw _ (List.mem_of_getElem? (i := 6) rfl))) (by decide) (backOf (W := 0) (rm21 l Z a0 hw [] x0 x1 h0 n0 Z0 ) hZ (hw _ (List.mem_of_getElem? (i := 6) rfl)) (hw _ (List.mem_of_getElem? (i := 2) rfl)) (by decide) (by decide)) (g := (mkF m 90 #[.val (.long x0), .second, .val (.long x1), .second, .val (.long x2), .second, .val (.long x3), .second, .val (.int x4), .val (.int (1 : Int32)), .val (.int (1 : Int32)), .val (.int (j0_32_s0 x0 x1 x2 x3 x4)), .val (.long (j0_48_s0 x0 x1 x2 x3 x4)), .second, .val (.long (j0_64_s0 x0 x1 x2 x3 x4)), .second, .unset, .unset, .unset, .unset, .unset, .unset, .unset, .unset, .unset, .unset, .unset] [(.long x1), (.long x0), (.int (1 : Int32))])) rfl (by rw [hml]; rfl) (argsL := [(.int (1 : Int32)), (.long x0), (.long x1)]) (rest := []) (lenOf pd0_1 rfl) rfl (by show 2 * 0 + _ ≤ _; exact Nat.le_of_eq rfl) (hb hby at_90) (fun _ _ => ⟨rfl, e8, (by decide : 0 + 1 ≤ _), (by decide : 0 + 1 ≤ _)⟩)
                dsimp only [Pt.U, Pt.locs, Pt.cells, Pt.slots] at X64 l64 y64 z64 st64 hQ64
                subst l64 y64 z64
                obtain ⟨h64, eh64⟩ : ∃ z, z = T64.heap := ⟨_, rfl⟩
                rw [← eh64] at hQ64
                have e64 : T64.heap = h64 := eh64.symm
                obtain ⟨b64, kc64, rfl, N64q, Kq64, szq64, o64_0, o64_1⟩ := hQ64
                have g_b64 : n0 ≤ b64 := Nat.le_trans Z0 szq64
                have N64 := Fr.app N8 N64q
                have E_b64 : Exa Z h64 b64 "[J" := o64_0
                have V_b64 : Arv Z h64 b64 kc64 .long (1 : Int32) [(.long x0)] (.long (0 : Int64)) := o64_1
                have Zn64 : n0 ≤ h64.size := Nat.le_trans Z0 Kq64.1
                refine Goes.st (B := T64.setTop (mkF m 93 #[.val (.long x0), .second, .val (.long x1), .second, .val (.long x2), .second, .val (.long x3), .second, .val (.int x4), .val (.int (1 : Int32)), .val (.int (1 : Int32)), .val (.int (j0_32_s0 x0 x1 x2 x3 x4)), .val (.long (j0_48_s0 x0 x1 x2 x3 x4)), .second, .val (.long (j0_64_s0 x0 x1 x2 x3 x4)), .second, .unset, .unset, .unset, .unset, .unset, .unset, .unset, .unset, .unset, .unset, .unset] [(.ref b64)])) st64 ?_
                refine Goes.run X64 hx hown hci hcl hby (L := [(93, .astore 16, 2), (95, .iload 10, 2), (97, .lload 12, 2), (99, .lload 14, 2)]) (by decide +kernel) rfl (g' := (mkF m 101 #[.val (.long x0), .second, .val (.long x1), .second, .val (.long x2), .second, .val (.long x3), .second, .val (.int x4), .val (.int (1 : Int32)), .val (.int (1 : Int32)), .val (.int (j0_32_s0 x0 x1 x2 x3 x4)), .val (.long (j0_48_s0 x0 x1 x2 x3 x4)), .second, .val (.long (j0_64_s0 x0 x1 x2 x3 x4)), .second, .val (.ref b64), .unset, .unset, .unset, .unset, .unset, .unset, .unset, .unset, .unset, .unset] [(.long (j0_64_s0 x0 x1 x2 x3 x4)), (.long (j0_48_s0 x0 x1 x2 x3 x4)), (.int (1 : Int32))])) rfl ?_
                obtain ⟨_, _, ⟨T65, L65, k65, n65⟩, -, X65, ⟨Lc65, hQ65, l65, y65, z65⟩, st65⟩ := Jvm.LawKit.callS X64 hx (y := (⟨"com/example/marks_across_domains/marksacrossdomains/BitsContainsPinLaw", "make", "(IJJ)[J"⟩ : MethodName)) hown (mvT hZ (hw _ (List.mem_of_getElem? (i := 4) rfl))) (mvT hZ (hw _ (List.mem_of_getElem? (i := 5) rfl))) (mvT hZ (hw _ (List.mem_of_getElem? (i := 2) rfl))) (mvT hZ (hw _ (List.mem_of_getElem? (i := 6) rfl))) (by decide) (backOf (W := 0) (rm21 l Z a0 hw [] (j0_48_s0 x0 x1 x2 x3 x4) (j0_64_s0 x0 x1 x2 x3 x4) h64 n0 Zn64 ) hZ (hw _ (List.mem_of_getElem? (i := 6) rfl)) (hw _ (List.mem_of_getElem? (i := 2) rfl)) (by decide) (by decide)) (g := (mkF m 101 #[.val (.long x0), .second, .val (.long x1), .second, .val (.long x2), .second, .val (.long x3), .second, .val (.int x4), .val (.int (1 : Int32)), .val (.int (1 : Int32)), .val (.int (j0_32_s0 x0 x1 x2 x3 x4)), .val (.long (j0_48_s0 x0 x1 x2 x3 x4)), .second, .val (.long (j0_64_s0 x0 x1 x2 x3 x4)), .second, .val (.ref b64), .unset, .unset, .unset, .unset, .unset, .unset, .unset, .unset, .unset, .unset] [(.long (j0_64_s0 x0 x1 x2 x3 x4)), (.long (j0_48_s0 x0 x1 x2 x3 x4)), (.int (1 : Int32))])) rfl (by rw [hml]; rfl) (argsL := [(.int (1 : Int32)), (.long (j0_48_s0 x0 x1 x2 x3 x4)), (.long (j0_64_s0 x0 x1 x2 x3 x4))]) (rest := []) (lenOf pd0_1 rfl) rfl (by show 2 * 0 + _ ≤ _; exact Nat.le_of_eq rfl) (hb hby at_101) (fun _ _ => ⟨rfl, e64, (by decide : 1 + 1 ≤ _), (by decide : 1 + 1 ≤ _)⟩)
                dsimp only [Pt.U, Pt.locs, Pt.cells, Pt.slots] at X65 l65 y65 z65 st65 hQ65
                subst l65 y65 z65
                obtain ⟨h65, eh65⟩ : ∃ z, z = T65.heap := ⟨_, rfl⟩
                rw [← eh65] at hQ65
                have e65 : T65.heap = h65 := eh65.symm
                obtain ⟨b65, kc65, rfl, N65q, Kq65, szq65, o65_0, o65_1⟩ := hQ65
                have ne_b64_b65 : b64 ≠ b65 := Nat.ne_of_lt (Nat.lt_of_lt_of_le E_b64.lt szq65)
                have g_b65 : n0 ≤ b65 := Nat.le_trans Zn64 szq65
                have N65 := Fr.app N64 N65q
                have E_b64 := E_b64.keep Kq65
                have V_b64 := V_b64.keep Kq65 nin0
                have E_b65 : Exa Z h65 b65 "[J" := o65_0
                have V_b65 : Arv Z h65 b65 kc65 .long (1 : Int32) [(.long (j0_48_s0 x0 x1 x2 x3 x4))] (.long (0 : Int64)) := o65_1
                have Zn65 : n0 ≤ h65.size := Nat.le_trans Zn64 Kq65.1
                refine Goes.st (B := T65.setTop (mkF m 104 #[.val (.long x0), .second, .val (.long x1), .second, .val (.long x2), .second, .val (.long x3), .second, .val (.int x4), .val (.int (1 : Int32)), .val (.int (1 : Int32)), .val (.int (j0_32_s0 x0 x1 x2 x3 x4)), .val (.long (j0_48_s0 x0 x1 x2 x3 x4)), .second, .val (.long (j0_64_s0 x0 x1 x2 x3 x4)), .second, .val (.ref b64), .unset, .unset, .unset, .unset, .unset, .unset, .unset, .unset, .unset, .unset] [(.ref b65)])) st65 ?_
                refine Goes.run X65 hx hown hci hcl hby (L := [(104, .astore 17, 2), (106, .iload 9, 2), (108, .iconst 1, 1)]) (by decide +kernel) rfl (g' := (mkF m 109 #[.val (.long x0), .second, .val (.long x1), .second, .val (.long x2), .second, .val (.long x3), .second, .val (.int x4), .val (.int (1 : Int32)), .val (.int (1 : Int32)), .val (.int (j0_32_s0 x0 x1 x2 x3 x4)), .val (.long (j0_48_s0 x0 x1 x2 x3 x4)), .second, .val (.long (j0_64_s0 x0 x1 x2 x3 x4)), .second, .val (.ref b64), .val (.ref b65), .unset, .unset, .unset, .unset, .unset, .unset, .unset, .unset, .unset] [(.int (1 : Int32)), (.int (1 : Int32))])) rfl ?_
                have hc109_66 : ¬ ((1 : Int32) < (1 : Int32)) := Int32.lt_irrefl
                refine Goes.st (B := T65.setTop (mkF m 112 #[.val (.long x0), .second, .val (.long x1), .second, .val (.long x2), .second, .val (.long x3), .second, .val (.int x4), .val (.int (1 : Int32)), .val (.int (1 : Int32)), .val (.int (j0_32_s0 x0 x1 x2 x3 x4)), .val (.long (j0_48_s0 x0 x1 x2 x3 x4)), .second, .val (.long (j0_64_s0 x0 x1 x2 x3 x4)), .second, .val (.ref b64), .val (.ref b65), .unset, .unset, .unset, .unset, .unset, .unset, .unset, .unset, .unset] [])) (fun t k => ?_) ?_
                · refine XS.icmpNo X65.here hx rfl (hb hby at_109) rfl (flt hc109_66).1 ?_
                  exact k
                refine Goes.run X65 hx hown hci hcl hby (L := [(112, .lload_n 0, 1), (113, .goto 4, 3), (117, .lstore 18, 2), (119, .iload 9, 2), (121, .iconst 2, 1)]) (by decide +kernel) rfl (g' := (mkF m 122 #[.val (.long x0), .second, .val (.long x1), .second, .val (.long x2), .second, .val (.long x3), .second, .val (.int x4), .val (.int (1 : Int32)), .val (.int (1 : Int32)), .val (.int (j0_32_s0 x0 x1 x2 x3 x4)), .val (.long (j0_48_s0 x0 x1 x2 x3 x4)), .second, .val (.long (j0_64_s0 x0 x1 x2 x3 x4)), .second, .val (.ref b64), .val (.ref b65), .val (.long x0), .second, .unset, .unset, .unset, .unset, .unset, .unset, .unset] [(.int (2 : Int32)), (.int (1 : Int32))])) rfl ?_
                have hc122_67 : (1 : Int32) < (2 : Int32) := by decide
                refine Goes.st (B := T65.setTop (mkF m 129 #[.val (.long x0), .second, .val (.long x1), .second, .val (.long x2), .second, .val (.long x3), .second, .val (.int x4), .val (.int (1 : Int32)), .val (.int (1 : Int32)), .val (.int (j0_32_s0 x0 x1 x2 x3 x4)), .val (.long (j0_48_s0 x0 x1 x2 x3 x4)), .second, .val (.long (j0_64_s0 x0 x1 x2 x3 x4)), .second, .val (.ref b64), .val (.ref b65), .val (.long x0), .second, .unset, .unset, .unset, .unset, .unset, .unset, .unset] [])) (fun t k => ?_) ?_
                · refine XS.icmpYes X65.here hx rfl (pc0 := 122) (pc' := 129) rfl (hb hby at_122) rfl (tlt hc122_67).1 (by decide) (by decide) ?_
                  exact k
                refine Goes.run X65 hx hown hci hcl hby (L := [(129, .lconst 0, 1), (130, .lstore 20, 2), (132, .iload 10, 2), (134, .iconst 1, 1)]) (by decide +kernel) rfl (g' := (mkF m 135 #[.val (.long x0), .second, .val (.long x1), .second, .val (.long x2), .second, .val (.long x3), .second, .val (.int x4), .val (.int (1 : Int32)), .val (.int (1 : Int32)), .val (.int (j0_32_s0 x0 x1 x2 x3 x4)), .val (.long (j0_48_s0 x0 x1 x2 x3 x4)), .second, .val (.long (j0_64_s0 x0 x1 x2 x3 x4)), .second, .val (.ref b64), .val (.ref b65), .val (.long x0), .second, .val (.long (0 : Int64)), .second, .unset, .unset, .unset, .unset, .unset] [(.int (1 : Int32)), (.int (1 : Int32))])) rfl ?_
                have hc135_68 : ¬ ((1 : Int32) < (1 : Int32)) := Int32.lt_irrefl
                refine Goes.st (B := T65.setTop (mkF m 138 #[.val (.long x0), .second, .val (.long x1), .second, .val (.long x2), .second, .val (.long x3), .second, .val (.int x4), .val (.int (1 : Int32)), .val (.int (1 : Int32)), .val (.int (j0_32_s0 x0 x1 x2 x3 x4)), .val (.long (j0_48_s0 x0 x1 x2 x3 x4)), .second, .val (.long (j0_64_s0 x0 x1 x2 x3 x4)), .second, .val (.ref b64), .val (.ref b65), .val (.long x0), .second, .val (.long (0 : Int64)), .second, .unset, .unset, .unset, .unset, .unset] [])) (fun t k => ?_) ?_
                · refine XS.icmpNo X65.here hx rfl (hb hby at_135) rfl (flt hc135_68).1 ?_
                  exact k
                refine Goes.run X65 hx hown hci hcl hby (L := [(138, .lload 12, 2), (140, .goto 4, 3), (144, .lstore 22, 2), (146, .iload 10, 2), (148, .iconst 2, 1)]) (by decide +kernel) rfl (g' := (mkF m 149 #[.val (.long x0), .second, .val (.long x1), .second, .val (.long x2), .second, .val (.long x3), .second, .val (.int x4), .val (.int (1 : Int32)), .val (.int (1 : Int32)), .val (.int (j0_32_s0 x0 x1 x2 x3 x4)), .val (.long (j0_48_s0 x0 x1 x2 x3 x4)), .second, .val (.long (j0_64_s0 x0 x1 x2 x3 x4)), .second, .val (.ref b64), .val (.ref b65), .val (.long x0), .second, .val (.long (0 : Int64)), .second, .val (.long (j0_48_s0 x0 x1 x2 x3 x4)), .second, .unset, .unset, .unset] [(.int (2 : Int32)), (.int (1 : Int32))])) rfl ?_
                have hc149_69 : (1 : Int32) < (2 : Int32) := by decide
                refine Goes.st (B := T65.setTop (mkF m 157 #[.val (.long x0), .second, .val (.long x1), .second, .val (.long x2), .second, .val (.long x3), .second, .val (.int x4), .val (.int (1 : Int32)), .val (.int (1 : Int32)), .val (.int (j0_32_s0 x0 x1 x2 x3 x4)), .val (.long (j0_48_s0 x0 x1 x2 x3 x4)), .second, .val (.long (j0_64_s0 x0 x1 x2 x3 x4)), .second, .val (.ref b64), .val (.ref b65), .val (.long x0), .second, .val (.long (0 : Int64)), .second, .val (.long (j0_48_s0 x0 x1 x2 x3 x4)), .second, .unset, .unset, .unset] [])) (fun t k => ?_) ?_
                · refine XS.icmpYes X65.here hx rfl (pc0 := 149) (pc' := 157) rfl (hb hby at_149) rfl (tlt hc149_69).1 (by decide) (by decide) ?_
                  exact k
                refine Goes.run X65 hx hown hci hcl hby (L := [(157, .lconst 0, 1), (158, .lstore 24, 2), (160, .lload 22, 2), (162, .lload 18, 2), (164, .ldc2_w 17, 3), (167, .lxor, 1)]) (by decide +kernel) rfl (g' := (mkF m 168 #[.val (.long x0), .second, .val (.long x1), .second, .val (.long x2), .second, .val (.long x3), .second, .val (.int x4), .val (.int (1 : Int32)), .val (.int (1 : Int32)), .val (.int (j0_32_s0 x0 x1 x2 x3 x4)), .val (.long (j0_48_s0 x0 x1 x2 x3 x4)), .second, .val (.long (j0_64_s0 x0 x1 x2 x3 x4)), .second, .val (.ref b64), .val (.ref b65), .val (.long x0), .second, .val (.long (0 : Int64)), .second, .val (.long (j0_48_s0 x0 x1 x2 x3 x4)), .second, .val (.long (0 : Int64)), .second, .unset] [(.long (x0 ^^^ (-1 : Int64))), (.long (j0_48_s0 x0 x1 x2 x3 x4))])) rfl ?_
                refine Goes.run X65 hx hown hci hcl hby (L := [(168, .land, 1), (169, .lconst 0, 1), (170, .lcmp, 1)]) (by decide +kernel) rfl (g' := (mkF m 171 #[.val (.long x0), .second, .val (.long x1), .second, .val (.long x2), .second, .val (.long x3), .second, .val (.int x4), .val (.int (1 : Int32)), .val (.int (1 : Int32)), .val (.int (j0_32_s0 x0 x1 x2 x3 x4)), .val (.long (j0_48_s0 x0 x1 x2 x3 x4)), .second, .val (.long (j0_64_s0 x0 x1 x2 x3 x4)), .second, .val (.ref b64), .val (.ref b65), .val (.long x0), .second, .val (.long (0 : Int64)), .second, .val (.long (j0_48_s0 x0 x1 x2 x3 x4)), .second, .val (.long (0 : Int64)), .second, .unset] [(.int (lcmpW ((j0_48_s0 x0 x1 x2 x3 x4) &&& (x0 ^^^ (-1 : Int64))) (0 : Int64)))])) rfl ?_
                have jn193_72 : Goes p e below s (QL (some (.int (r0 x0 x1 x2 x3 x4))) n0) room_1.cells room_1.slots (T65.setTop (mkF m 193 #[.val (.long x0), .second, .val (.long x1), .second, .val (.long x2), .second, .val (.long x3), .second, .val (.int x4), .val (.int (1 : Int32)), .val (.int (1 : Int32)), .val (.int (j0_32_s0 x0 x1 x2 x3 x4)), .val (.long (j0_48_s0 x0 x1 x2 x3 x4)), .second, .val (.long (j0_64_s0 x0 x1 x2 x3 x4)), .second, .val (.ref b64), .val (.ref b65), .val (.long x0), .second, .val (.long (0 : Int64)), .second, .val (.long (j0_48_s0 x0 x1 x2 x3 x4)), .second, .val (.long (0 : Int64)), .second, .unset] [(.int (j0_193_s0_d x0 x1 x2 x3 x4))])) := by
                  refine Goes.run X65 hx hown hci hcl hby (L := [(193, .istore 26, 2), (195, .aload 16, 2), (197, .aload 17, 2)]) (by decide +kernel) rfl (g' := (mkF m 199 #[.val (.long x0), .second, .val (.long x1), .second, .val (.long x2), .second, .val (.long x3), .second, .val (.int x4), .val (.int (1 : Int32)), .val (.int (1 : Int32)), .val (.int (j0_32_s0 x0 x1 x2 x3 x4)), .val (.long (j0_48_s0 x0 x1 x2 x3 x4)), .second, .val (.long (j0_64_s0 x0 x1 x2 x3 x4)), .second, .val (.ref b64), .val (.ref b65), .val (.long x0), .second, .val (.long (0 : Int64)), .second, .val (.long (j0_48_s0 x0 x1 x2 x3 x4)), .second, .val (.long (0 : Int64)), .second, .val (.int (j0_193_s0_d x0 x1 x2 x3 x4))] [(.ref b65), (.ref b64)])) rfl ?_
                  obtain ⟨_, _, ⟨T73, L73, k73, n73⟩, -, X73, ⟨Lc73, hQ73, l73, y73, z73⟩, st73⟩ := Jvm.LawKit.callS X65 hx (y := (⟨"com/example/marks_across_domains/marksacrossdomains/Bits", "contains", "([J[J)Z"⟩ : MethodName)) hown (mvT hZ (hw _ (List.mem_of_getElem? (i := 9) rfl))) (mvT hZ (hw _ (List.mem_of_getElem? (i := 10) rfl))) (mvT hZ (hw _ (List.mem_of_getElem? (i := 11) rfl))) (mvT hZ (hw _ (List.mem_of_getElem? (i := 12) rfl))) (by decide) (backOf (W := 0) (rm311 l Z a0 hw [] b64 b65 kc64 kc65 x0 (j0_48_s0 x0 x1 x2 x3 x4) h65 n0 Zn65 V_b64 V_b65) hZ (hw _ (List.mem_of_getElem? (i := 12) rfl)) (hw _ (List.mem_of_getElem? (i := 11) rfl)) (by decide) (by decide)) (g := (mkF m 199 #[.val (.long x0), .second, .val (.long x1), .second, .val (.long x2), .second, .val (.long x3), .second, .val (.int x4), .val (.int (1 : Int32)), .val (.int (1 : Int32)), .val (.int (j0_32_s0 x0 x1 x2 x3 x4)), .val (.long (j0_48_s0 x0 x1 x2 x3 x4)), .second, .val (.long (j0_64_s0 x0 x1 x2 x3 x4)), .second, .val (.ref b64), .val (.ref b65), .val (.long x0), .second, .val (.long (0 : Int64)), .second, .val (.long (j0_48_s0 x0 x1 x2 x3 x4)), .second, .val (.long (0 : Int64)), .second, .val (.int (j0_193_s0_d x0 x1 x2 x3 x4))] [(.ref b65), (.ref b64)])) rfl (by rw [hml]; rfl) (argsL := [(.ref b64), (.ref b65)]) (rest := []) (lenOf pd0_2 rfl) rfl (by show 2 * 0 + _ ≤ _; exact Nat.le_of_eq rfl) (hb hby at_199) (fun _ _ => ⟨rfl, e65, (by decide : 2 + 0 ≤ _), (by decide : 2 + 0 ≤ _)⟩)
                  dsimp only [Pt.U, Pt.locs, Pt.cells, Pt.slots] at X73 l73 y73 z73 st73 hQ73
                  subst l73 y73 z73
                  obtain ⟨rfl, N73q, e73⟩ := hQ73
                  have N73 := Fr.app N65 N73q
                  refine Goes.st (B := T73.setTop (mkF m 202 #[.val (.long x0), .second, .val (.long x1), .second, .val (.long x2), .second, .val (.long x3), .second, .val (.int x4), .val (.int (1 : Int32)), .val (.int (1 : Int32)), .val (.int (j0_32_s0 x0 x1 x2 x3 x4)), .val (.long (j0_48_s0 x0 x1 x2 x3 x4)), .second, .val (.long (j0_64_s0 x0 x1 x2 x3 x4)), .second, .val (.ref b64), .val (.ref b65), .val (.long x0), .second, .val (.long (0 : Int64)), .second, .val (.long (j0_48_s0 x0 x1 x2 x3 x4)), .second, .val (.long (0 : Int64)), .second, .val (.int (j0_193_s0_d x0 x1 x2 x3 x4))] [(.int (r311 x0 (j0_48_s0 x0 x1 x2 x3 x4)))])) st73 ?_
                  refine Goes.run X73 hx hown hci hcl hby (L := [(202, .iload 26, 2)]) (by decide +kernel) rfl (g' := (mkF m 204 #[.val (.long x0), .second, .val (.long x1), .second, .val (.long x2), .second, .val (.long x3), .second, .val (.int x4), .val (.int (1 : Int32)), .val (.int (1 : Int32)), .val (.int (j0_32_s0 x0 x1 x2 x3 x4)), .val (.long (j0_48_s0 x0 x1 x2 x3 x4)), .second, .val (.long (j0_64_s0 x0 x1 x2 x3 x4)), .second, .val (.ref b64), .val (.ref b65), .val (.long x0), .second, .val (.long (0 : Int64)), .second, .val (.long (j0_48_s0 x0 x1 x2 x3 x4)), .second, .val (.long (0 : Int64)), .second, .val (.int (j0_193_s0_d x0 x1 x2 x3 x4))] [(.int (j0_193_s0_d x0 x1 x2 x3 x4)), (.int (r311 x0 (j0_48_s0 x0 x1 x2 x3 x4)))])) rfl ?_
                  by_cases hc204_74 : (r311 x0 (j0_48_s0 x0 x1 x2 x3 x4)) = (j0_193_s0_d x0 x1 x2 x3 x4)
                  · skip
                    refine Goes.st (B := T73.setTop (mkF m 207 #[.val (.long x0), .second, .val (.long x1), .second, .val (.long x2), .second, .val (.long x3), .second, .val (.int x4), .val (.int (1 : Int32)), .val (.int (1 : Int32)), .val (.int (j0_32_s0 x0 x1 x2 x3 x4)), .val (.long (j0_48_s0 x0 x1 x2 x3 x4)), .second, .val (.long (j0_64_s0 x0 x1 x2 x3 x4)), .second, .val (.ref b64), .val (.ref b65), .val (.long x0), .second, .val (.long (0 : Int64)), .second, .val (.long (j0_48_s0 x0 x1 x2 x3 x4)), .second, .val (.long (0 : Int64)), .second, .val (.int (j0_193_s0_d x0 x1 x2 x3 x4))] [])) (fun t k => ?_) ?_
                    · refine XS.icmpNo X73.here hx rfl (hb hby at_204) rfl (teq hc204_74).2 ?_
                      exact k
                    refine Goes.run X73 hx hown hci hcl hby (L := [(207, .iconst 1, 1), (208, .goto 4, 3)]) (by decide +kernel) rfl (g' := (mkF m 212 #[.val (.long x0), .second, .val (.long x1), .second, .val (.long x2), .second, .val (.long x3), .second, .val (.int x4), .val (.int (1 : Int32)), .val (.int (1 : Int32)), .val (.int (j0_32_s0 x0 x1 x2 x3 x4)), .val (.long (j0_48_s0 x0 x1 x2 x3 x4)), .second, .val (.long (j0_64_s0 x0 x1 x2 x3 x4)), .second, .val (.ref b64), .val (.ref b65), .val (.long x0), .second, .val (.long (0 : Int64)), .second, .val (.long (j0_48_s0 x0 x1 x2 x3 x4)), .second, .val (.long (0 : Int64)), .second, .val (.int (j0_193_s0_d x0 x1 x2 x3 x4))] [(.int (1 : Int32))])) rfl ?_
                    exact Goes.retB X73 hx hlk (t := .boolean) Bd.returns (by simp) (hb hby at_212) rfl ⟨(congrArg (fun z => some (Value.int z)) (show (r0 x0 x1 x2 x3 x4) = (1 : Int32) from (((((if_neg hs86_9).trans (if_pos hs86_49)).trans (if_neg hs86_50)).trans (if_pos hs86_63)).trans (if_pos hc204_74))).symm), N73⟩ (by decide) (by decide)
                  · skip
                    refine Goes.st (B := T73.setTop (mkF m 211 #[.val (.long x0), .second, .val (.long x1), .second, .val (.long x2), .second, .val (.long x3), .second, .val (.int x4), .val (.int (1 : Int32)), .val (.int (1 : Int32)), .val (.int (j0_32_s0 x0 x1 x2 x3 x4)), .val (.long (j0_48_s0 x0 x1 x2 x3 x4)), .second, .val (.long (j0_64_s0 x0 x1 x2 x3 x4)), .second, .val (.ref b64), .val (.ref b65), .val (.long x0), .second, .val (.long (0 : Int64)), .second, .val (.long (j0_48_s0 x0 x1 x2 x3 x4)), .second, .val (.long (0 : Int64)), .second, .val (.int (j0_193_s0_d x0 x1 x2 x3 x4))] [])) (fun t k => ?_) ?_
                    · refine XS.icmpYes X73.here hx rfl (pc0 := 204) (pc' := 211) rfl (hb hby at_204) rfl (feq hc204_74).2 (by decide) (by decide) ?_
                      exact k
                    refine Goes.run X73 hx hown hci hcl hby (L := [(211, .iconst 0, 1)]) (by decide +kernel) rfl (g' := (mkF m 212 #[.val (.long x0), .second, .val (.long x1), .second, .val (.long x2), .second, .val (.long x3), .second, .val (.int x4), .val (.int (1 : Int32)), .val (.int (1 : Int32)), .val (.int (j0_32_s0 x0 x1 x2 x3 x4)), .val (.long (j0_48_s0 x0 x1 x2 x3 x4)), .second, .val (.long (j0_64_s0 x0 x1 x2 x3 x4)), .second, .val (.ref b64), .val (.ref b65), .val (.long x0), .second, .val (.long (0 : Int64)), .second, .val (.long (j0_48_s0 x0 x1 x2 x3 x4)), .second, .val (.long (0 : Int64)), .second, .val (.int (j0_193_s0_d x0 x1 x2 x3 x4))] [(.int (0 : Int32))])) rfl ?_
                    exact Goes.retB X73 hx hlk (t := .boolean) Bd.returns (by simp) (hb hby at_212) rfl ⟨(congrArg (fun z => some (Value.int z)) (show (r0 x0 x1 x2 x3 x4) = (0 : Int32) from (((((if_neg hs86_9).trans (if_pos hs86_49)).trans (if_neg hs86_50)).trans (if_pos hs86_63)).trans (if_neg hc204_74))).symm), N73⟩ (by decide) (by decide)
                by_cases hc171_70 : ((j0_48_s0 x0 x1 x2 x3 x4) &&& (x0 ^^^ (-1 : Int64))) = (0 : Int64)
                · skip
                  refine Goes.st (B := T65.setTop (mkF m 174 #[.val (.long x0), .second, .val (.long x1), .second, .val (.long x2), .second, .val (.long x3), .second, .val (.int x4), .val (.int (1 : Int32)), .val (.int (1 : Int32)), .val (.int (j0_32_s0 x0 x1 x2 x3 x4)), .val (.long (j0_48_s0 x0 x1 x2 x3 x4)), .second, .val (.long (j0_64_s0 x0 x1 x2 x3 x4)), .second, .val (.ref b64), .val (.ref b65), .val (.long x0), .second, .val (.long (0 : Int64)), .second, .val (.long (j0_48_s0 x0 x1 x2 x3 x4)), .second, .val (.long (0 : Int64)), .second, .unset] [])) (fun t k => ?_) ?_
                  · refine XS.ifNo X65.here hx rfl (hb hby at_171) rfl (teqL hc171_70).2 ?_
                    exact k
                  refine Goes.run X65 hx hown hci hcl hby (L := [(174, .lload 24, 2), (176, .lload 20, 2), (178, .ldc2_w 17, 3), (181, .lxor, 1), (182, .land, 1), (183, .lconst 0, 1)]) (by decide +kernel) rfl (g' := (mkF m 184 #[.val (.long x0), .second, .val (.long x1), .second, .val (.long x2), .second, .val (.long x3), .second, .val (.int x4), .val (.int (1 : Int32)), .val (.int (1 : Int32)), .val (.int (j0_32_s0 x0 x1 x2 x3 x4)), .val (.long (j0_48_s0 x0 x1 x2 x3 x4)), .second, .val (.long (j0_64_s0 x0 x1 x2 x3 x4)), .second, .val (.ref b64), .val (.ref b65), .val (.long x0), .second, .val (.long (0 : Int64)), .second, .val (.long (j0_48_s0 x0 x1 x2 x3 x4)), .second, .val (.long (0 : Int64)), .second, .unset] [(.long (0 : Int64)), (.long ((0 : Int64) &&& ((0 : Int64) ^^^ (-1 : Int64))))])) rfl ?_
                  refine Goes.run X65 hx hown hci hcl hby (L := [(184, .lcmp, 1)]) (by decide +kernel) rfl (g' := (mkF m 185 #[.val (.long x0), .second, .val (.long x1), .second, .val (.long x2), .second, .val (.long x3), .second, .val (.int x4), .val (.int (1 : Int32)), .val (.int (1 : Int32)), .val (.int (j0_32_s0 x0 x1 x2 x3 x4)), .val (.long (j0_48_s0 x0 x1 x2 x3 x4)), .second, .val (.long (j0_64_s0 x0 x1 x2 x3 x4)), .second, .val (.ref b64), .val (.ref b65), .val (.long x0), .second, .val (.long (0 : Int64)), .second, .val (.long (j0_48_s0 x0 x1 x2 x3 x4)), .second, .val (.long (0 : Int64)), .second, .unset] [(.int (lcmpW ((0 : Int64) &&& ((0 : Int64) ^^^ (-1 : Int64))) (0 : Int64)))])) rfl ?_
                  by_cases hc185_75 : ((0 : Int64) &&& ((0 : Int64) ^^^ (-1 : Int64))) = (0 : Int64)
                  · skip
                    refine Goes.st (B := T65.setTop (mkF m 188 #[.val (.long x0), .second, .val (.long x1), .second, .val (.long x2), .second, .val (.long x3), .second, .val (.int x4), .val (.int (1 : Int32)), .val (.int (1 : Int32)), .val (.int (j0_32_s0 x0 x1 x2 x3 x4)), .val (.long (j0_48_s0 x0 x1 x2 x3 x4)), .second, .val (.long (j0_64_s0 x0 x1 x2 x3 x4)), .second, .val (.ref b64), .val (.ref b65), .val (.long x0), .second, .val (.long (0 : Int64)), .second, .val (.long (j0_48_s0 x0 x1 x2 x3 x4)), .second, .val (.long (0 : Int64)), .second, .unset] [])) (fun t k => ?_) ?_
                    · refine XS.ifNo X65.here hx rfl (hb hby at_185) rfl (teqL hc185_75).2 ?_
                      exact k
                    refine Goes.run X65 hx hown hci hcl hby (L := [(188, .iconst 1, 1), (189, .goto 4, 3)]) (by decide +kernel) rfl (g' := (mkF m 193 #[.val (.long x0), .second, .val (.long x1), .second, .val (.long x2), .second, .val (.long x3), .second, .val (.int x4), .val (.int (1 : Int32)), .val (.int (1 : Int32)), .val (.int (j0_32_s0 x0 x1 x2 x3 x4)), .val (.long (j0_48_s0 x0 x1 x2 x3 x4)), .second, .val (.long (j0_64_s0 x0 x1 x2 x3 x4)), .second, .val (.ref b64), .val (.ref b65), .val (.long x0), .second, .val (.long (0 : Int64)), .second, .val (.long (j0_48_s0 x0 x1 x2 x3 x4)), .second, .val (.long (0 : Int64)), .second, .unset] [(.int (1 : Int32))])) rfl ?_
                    have q := jn193_72
                    rw [show (j0_193_s0_d x0 x1 x2 x3 x4) = (1 : Int32) from ((if_pos hc171_70).trans (if_pos hc185_75))] at q
                    exact q
                  · skip
                    refine Goes.st (B := T65.setTop (mkF m 192 #[.val (.long x0), .second, .val (.long x1), .second, .val (.long x2), .second, .val (.long x3), .second, .val (.int x4), .val (.int (1 : Int32)), .val (.int (1 : Int32)), .val (.int (j0_32_s0 x0 x1 x2 x3 x4)), .val (.long (j0_48_s0 x0 x1 x2 x3 x4)), .second, .val (.long (j0_64_s0 x0 x1 x2 x3 x4)), .second, .val (.ref b64), .val (.ref b65), .val (.long x0), .second, .val (.long (0 : Int64)), .second, .val (.long (j0_48_s0 x0 x1 x2 x3 x4)), .second, .val (.long (0 : Int64)), .second, .unset] [])) (fun t k => ?_) ?_
                    · refine XS.ifYes X65.here hx rfl (pc0 := 185) (pc' := 192) rfl (hb hby at_185) rfl (feqL hc185_75).2 (by decide) (by decide) ?_
                      exact k
                    refine Goes.run X65 hx hown hci hcl hby (L := [(192, .iconst 0, 1)]) (by decide +kernel) rfl (g' := (mkF m 193 #[.val (.long x0), .second, .val (.long x1), .second, .val (.long x2), .second, .val (.long x3), .second, .val (.int x4), .val (.int (1 : Int32)), .val (.int (1 : Int32)), .val (.int (j0_32_s0 x0 x1 x2 x3 x4)), .val (.long (j0_48_s0 x0 x1 x2 x3 x4)), .second, .val (.long (j0_64_s0 x0 x1 x2 x3 x4)), .second, .val (.ref b64), .val (.ref b65), .val (.long x0), .second, .val (.long (0 : Int64)), .second, .val (.long (j0_48_s0 x0 x1 x2 x3 x4)), .second, .val (.long (0 : Int64)), .second, .unset] [(.int (0 : Int32))])) rfl ?_
                    have q := jn193_72
                    rw [show (j0_193_s0_d x0 x1 x2 x3 x4) = (0 : Int32) from ((if_pos hc171_70).trans (if_neg hc185_75))] at q
                    exact q
                · skip
                  refine Goes.st (B := T65.setTop (mkF m 192 #[.val (.long x0), .second, .val (.long x1), .second, .val (.long x2), .second, .val (.long x3), .second, .val (.int x4), .val (.int (1 : Int32)), .val (.int (1 : Int32)), .val (.int (j0_32_s0 x0 x1 x2 x3 x4)), .val (.long (j0_48_s0 x0 x1 x2 x3 x4)), .second, .val (.long (j0_64_s0 x0 x1 x2 x3 x4)), .second, .val (.ref b64), .val (.ref b65), .val (.long x0), .second, .val (.long (0 : Int64)), .second, .val (.long (j0_48_s0 x0 x1 x2 x3 x4)), .second, .val (.long (0 : Int64)), .second, .unset] [])) (fun t k => ?_) ?_
                  · refine XS.ifYes X65.here hx rfl (pc0 := 171) (pc' := 192) rfl (hb hby at_171) rfl (feqL hc171_70).2 (by decide) (by decide) ?_
                    exact k
                  refine Goes.run X65 hx hown hci hcl hby (L := [(192, .iconst 0, 1)]) (by decide +kernel) rfl (g' := (mkF m 193 #[.val (.long x0), .second, .val (.long x1), .second, .val (.long x2), .second, .val (.long x3), .second, .val (.int x4), .val (.int (1 : Int32)), .val (.int (1 : Int32)), .val (.int (j0_32_s0 x0 x1 x2 x3 x4)), .val (.long (j0_48_s0 x0 x1 x2 x3 x4)), .second, .val (.long (j0_64_s0 x0 x1 x2 x3 x4)), .second, .val (.ref b64), .val (.ref b65), .val (.long x0), .second, .val (.long (0 : Int64)), .second, .val (.long (j0_48_s0 x0 x1 x2 x3 x4)), .second, .val (.long (0 : Int64)), .second, .unset] [(.int (0 : Int32))])) rfl ?_
                  have q := jn193_72
                  rw [show (j0_193_s0_d x0 x1 x2 x3 x4) = (0 : Int32) from (if_neg hc171_70)] at q
                  exact q
              · skip
                have hs86_76 : (w0_84 x0 x1 x2 x3 x4) = (2 : Int32) := own_l10 x0 x1 x2 x3 x4 hs86_50 hs86_63
                rw [hs86_76]
                refine Goes.run X8 hx hown hci hcl hby (L := [(86, .iload 9, 2), (88, .lload_n 0, 1), (89, .lload_n 2, 1)]) (by decide +kernel) rfl (g' := (mkF m 90 #[.val (.long x0), .second, .val (.long x1), .second, .val (.long x2), .second, .val (.long x3), .second, .val (.int x4), .val (.int (1 : Int32)), .val (.int (2 : Int32)), .val (.int (j0_32_s0 x0 x1 x2 x3 x4)), .val (.long (j0_48_s0 x0 x1 x2 x3 x4)), .second, .val (.long (j0_64_s0 x0 x1 x2 x3 x4)), .second, .unset, .unset, .unset, .unset, .unset, .unset, .unset, .unset, .unset, .unset, .unset] [(.long x1), (.long x0), (.int (1 : Int32))])) rfl ?_
                obtain ⟨_, _, ⟨T77, L77, k77, n77⟩, -, X77, ⟨Lc77, hQ77, l77, y77, z77⟩, st77⟩ := Jvm.LawKit.callS X8 hx (y := (⟨"com/example/marks_across_domains/marksacrossdomains/BitsContainsPinLaw", "make", "(IJJ)[J"⟩ : MethodName)) hown (mvT hZ (hw _ (List.mem_of_getElem? (i := 4) rfl))) (mvT hZ (hw _ (List.mem_of_getElem? (i := 5) rfl))) (mvT hZ (hw _ (List.mem_of_getElem? (i := 2) rfl))) (mvT hZ (hw _ (List.mem_of_getElem? (i := 6) rfl))) (by decide) (backOf (W := 0) (rm21 l Z a0 hw [] x0 x1 h0 n0 Z0 ) hZ (hw _ (List.mem_of_getElem? (i := 6) rfl)) (hw _ (List.mem_of_getElem? (i := 2) rfl)) (by decide) (by decide)) (g := (mkF m 90 #[.val (.long x0), .second, .val (.long x1), .second, .val (.long x2), .second, .val (.long x3), .second, .val (.int x4), .val (.int (1 : Int32)), .val (.int (2 : Int32)), .val (.int (j0_32_s0 x0 x1 x2 x3 x4)), .val (.long (j0_48_s0 x0 x1 x2 x3 x4)), .second, .val (.long (j0_64_s0 x0 x1 x2 x3 x4)), .second, .unset, .unset, .unset, .unset, .unset, .unset, .unset, .unset, .unset, .unset, .unset] [(.long x1), (.long x0), (.int (1 : Int32))])) rfl (by rw [hml]; rfl) (argsL := [(.int (1 : Int32)), (.long x0), (.long x1)]) (rest := []) (lenOf pd0_1 rfl) rfl (by show 2 * 0 + _ ≤ _; exact Nat.le_of_eq rfl) (hb hby at_90) (fun _ _ => ⟨rfl, e8, (by decide : 0 + 1 ≤ _), (by decide : 0 + 1 ≤ _)⟩)
                dsimp only [Pt.U, Pt.locs, Pt.cells, Pt.slots] at X77 l77 y77 z77 st77 hQ77
                subst l77 y77 z77
                obtain ⟨h77, eh77⟩ : ∃ z, z = T77.heap := ⟨_, rfl⟩
                rw [← eh77] at hQ77
                have e77 : T77.heap = h77 := eh77.symm
                obtain ⟨b77, kc77, rfl, N77q, Kq77, szq77, o77_0, o77_1⟩ := hQ77
                have g_b77 : n0 ≤ b77 := Nat.le_trans Z0 szq77
                have N77 := Fr.app N8 N77q
                have E_b77 : Exa Z h77 b77 "[J" := o77_0
                have V_b77 : Arv Z h77 b77 kc77 .long (1 : Int32) [(.long x0)] (.long (0 : Int64)) := o77_1
                have Zn77 : n0 ≤ h77.size := Nat.le_trans Z0 Kq77.1
                refine Goes.st (B := T77.setTop (mkF m 93 #[.val (.long x0), .second, .val (.long x1), .second, .val (.long x2), .second, .val (.long x3), .second, .val (.int x4), .val (.int (1 : Int32)), .val (.int (2 : Int32)), .val (.int (j0_32_s0 x0 x1 x2 x3 x4)), .val (.long (j0_48_s0 x0 x1 x2 x3 x4)), .second, .val (.long (j0_64_s0 x0 x1 x2 x3 x4)), .second, .unset, .unset, .unset, .unset, .unset, .unset, .unset, .unset, .unset, .unset, .unset] [(.ref b77)])) st77 ?_
                refine Goes.run X77 hx hown hci hcl hby (L := [(93, .astore 16, 2), (95, .iload 10, 2), (97, .lload 12, 2), (99, .lload 14, 2)]) (by decide +kernel) rfl (g' := (mkF m 101 #[.val (.long x0), .second, .val (.long x1), .second, .val (.long x2), .second, .val (.long x3), .second, .val (.int x4), .val (.int (1 : Int32)), .val (.int (2 : Int32)), .val (.int (j0_32_s0 x0 x1 x2 x3 x4)), .val (.long (j0_48_s0 x0 x1 x2 x3 x4)), .second, .val (.long (j0_64_s0 x0 x1 x2 x3 x4)), .second, .val (.ref b77), .unset, .unset, .unset, .unset, .unset, .unset, .unset, .unset, .unset, .unset] [(.long (j0_64_s0 x0 x1 x2 x3 x4)), (.long (j0_48_s0 x0 x1 x2 x3 x4)), (.int (2 : Int32))])) rfl ?_
                obtain ⟨_, _, ⟨T78, L78, k78, n78⟩, -, X78, ⟨Lc78, hQ78, l78, y78, z78⟩, st78⟩ := Jvm.LawKit.callS X77 hx (y := (⟨"com/example/marks_across_domains/marksacrossdomains/BitsContainsPinLaw", "make", "(IJJ)[J"⟩ : MethodName)) hown (mvT hZ (hw _ (List.mem_of_getElem? (i := 4) rfl))) (mvT hZ (hw _ (List.mem_of_getElem? (i := 5) rfl))) (mvT hZ (hw _ (List.mem_of_getElem? (i := 2) rfl))) (mvT hZ (hw _ (List.mem_of_getElem? (i := 6) rfl))) (by decide) (backOf (W := 0) (rm22 l Z a0 hw [] (j0_48_s0 x0 x1 x2 x3 x4) (j0_64_s0 x0 x1 x2 x3 x4) h77 n0 Zn77 ) hZ (hw _ (List.mem_of_getElem? (i := 6) rfl)) (hw _ (List.mem_of_getElem? (i := 2) rfl)) (by decide) (by decide)) (g := (mkF m 101 #[.val (.long x0), .second, .val (.long x1), .second, .val (.long x2), .second, .val (.long x3), .second, .val (.int x4), .val (.int (1 : Int32)), .val (.int (2 : Int32)), .val (.int (j0_32_s0 x0 x1 x2 x3 x4)), .val (.long (j0_48_s0 x0 x1 x2 x3 x4)), .second, .val (.long (j0_64_s0 x0 x1 x2 x3 x4)), .second, .val (.ref b77), .unset, .unset, .unset, .unset, .unset, .unset, .unset, .unset, .unset, .unset] [(.long (j0_64_s0 x0 x1 x2 x3 x4)), (.long (j0_48_s0 x0 x1 x2 x3 x4)), (.int (2 : Int32))])) rfl (by rw [hml]; rfl) (argsL := [(.int (2 : Int32)), (.long (j0_48_s0 x0 x1 x2 x3 x4)), (.long (j0_64_s0 x0 x1 x2 x3 x4))]) (rest := []) (lenOf pd0_1 rfl) rfl (by show 2 * 0 + _ ≤ _; exact Nat.le_of_eq rfl) (hb hby at_101) (fun _ _ => ⟨rfl, e77, (by decide : 1 + 1 ≤ _), (by decide : 1 + 2 ≤ _)⟩)
                dsimp only [Pt.U, Pt.locs, Pt.cells, Pt.slots] at X78 l78 y78 z78 st78 hQ78
                subst l78 y78 z78
                obtain ⟨h78, eh78⟩ : ∃ z, z = T78.heap := ⟨_, rfl⟩
                rw [← eh78] at hQ78
                have e78 : T78.heap = h78 := eh78.symm
                obtain ⟨b78, kc78, rfl, N78q, Kq78, szq78, o78_0, o78_1⟩ := hQ78
                have ne_b77_b78 : b77 ≠ b78 := Nat.ne_of_lt (Nat.lt_of_lt_of_le E_b77.lt szq78)
                have g_b78 : n0 ≤ b78 := Nat.le_trans Zn77 szq78
                have N78 := Fr.app N77 N78q
                have E_b77 := E_b77.keep Kq78
                have V_b77 := V_b77.keep Kq78 nin0
                have E_b78 : Exa Z h78 b78 "[J" := o78_0
                have V_b78 : Arv Z h78 b78 kc78 .long (2 : Int32) [(.long (j0_48_s0 x0 x1 x2 x3 x4)), (.long (j0_64_s0 x0 x1 x2 x3 x4))] (.long (0 : Int64)) := o78_1
                have Zn78 : n0 ≤ h78.size := Nat.le_trans Zn77 Kq78.1
                refine Goes.st (B := T78.setTop (mkF m 104 #[.val (.long x0), .second, .val (.long x1), .second, .val (.long x2), .second, .val (.long x3), .second, .val (.int x4), .val (.int (1 : Int32)), .val (.int (2 : Int32)), .val (.int (j0_32_s0 x0 x1 x2 x3 x4)), .val (.long (j0_48_s0 x0 x1 x2 x3 x4)), .second, .val (.long (j0_64_s0 x0 x1 x2 x3 x4)), .second, .val (.ref b77), .unset, .unset, .unset, .unset, .unset, .unset, .unset, .unset, .unset, .unset] [(.ref b78)])) st78 ?_
                refine Goes.run X78 hx hown hci hcl hby (L := [(104, .astore 17, 2), (106, .iload 9, 2), (108, .iconst 1, 1)]) (by decide +kernel) rfl (g' := (mkF m 109 #[.val (.long x0), .second, .val (.long x1), .second, .val (.long x2), .second, .val (.long x3), .second, .val (.int x4), .val (.int (1 : Int32)), .val (.int (2 : Int32)), .val (.int (j0_32_s0 x0 x1 x2 x3 x4)), .val (.long (j0_48_s0 x0 x1 x2 x3 x4)), .second, .val (.long (j0_64_s0 x0 x1 x2 x3 x4)), .second, .val (.ref b77), .val (.ref b78), .unset, .unset, .unset, .unset, .unset, .unset, .unset, .unset, .unset] [(.int (1 : Int32)), (.int (1 : Int32))])) rfl ?_
                have hc109_79 : ¬ ((1 : Int32) < (1 : Int32)) := Int32.lt_irrefl
                refine Goes.st (B := T78.setTop (mkF m 112 #[.val (.long x0), .second, .val (.long x1), .second, .val (.long x2), .second, .val (.long x3), .second, .val (.int x4), .val (.int (1 : Int32)), .val (.int (2 : Int32)), .val (.int (j0_32_s0 x0 x1 x2 x3 x4)), .val (.long (j0_48_s0 x0 x1 x2 x3 x4)), .second, .val (.long (j0_64_s0 x0 x1 x2 x3 x4)), .second, .val (.ref b77), .val (.ref b78), .unset, .unset, .unset, .unset, .unset, .unset, .unset, .unset, .unset] [])) (fun t k => ?_) ?_
                · refine XS.icmpNo X78.here hx rfl (hb hby at_109) rfl (flt hc109_79).1 ?_
                  exact k
                refine Goes.run X78 hx hown hci hcl hby (L := [(112, .lload_n 0, 1), (113, .goto 4, 3), (117, .lstore 18, 2), (119, .iload 9, 2), (121, .iconst 2, 1)]) (by decide +kernel) rfl (g' := (mkF m 122 #[.val (.long x0), .second, .val (.long x1), .second, .val (.long x2), .second, .val (.long x3), .second, .val (.int x4), .val (.int (1 : Int32)), .val (.int (2 : Int32)), .val (.int (j0_32_s0 x0 x1 x2 x3 x4)), .val (.long (j0_48_s0 x0 x1 x2 x3 x4)), .second, .val (.long (j0_64_s0 x0 x1 x2 x3 x4)), .second, .val (.ref b77), .val (.ref b78), .val (.long x0), .second, .unset, .unset, .unset, .unset, .unset, .unset, .unset] [(.int (2 : Int32)), (.int (1 : Int32))])) rfl ?_
                have hc122_80 : (1 : Int32) < (2 : Int32) := by decide
                refine Goes.st (B := T78.setTop (mkF m 129 #[.val (.long x0), .second, .val (.long x1), .second, .val (.long x2), .second, .val (.long x3), .second, .val (.int x4), .val (.int (1 : Int32)), .val (.int (2 : Int32)), .val (.int (j0_32_s0 x0 x1 x2 x3 x4)), .val (.long (j0_48_s0 x0 x1 x2 x3 x4)), .second, .val (.long (j0_64_s0 x0 x1 x2 x3 x4)), .second, .val (.ref b77), .val (.ref b78), .val (.long x0), .second, .unset, .unset, .unset, .unset, .unset, .unset, .unset] [])) (fun t k => ?_) ?_
                · refine XS.icmpYes X78.here hx rfl (pc0 := 122) (pc' := 129) rfl (hb hby at_122) rfl (tlt hc122_80).1 (by decide) (by decide) ?_
                  exact k
                refine Goes.run X78 hx hown hci hcl hby (L := [(129, .lconst 0, 1), (130, .lstore 20, 2), (132, .iload 10, 2), (134, .iconst 1, 1)]) (by decide +kernel) rfl (g' := (mkF m 135 #[.val (.long x0), .second, .val (.long x1), .second, .val (.long x2), .second, .val (.long x3), .second, .val (.int x4), .val (.int (1 : Int32)), .val (.int (2 : Int32)), .val (.int (j0_32_s0 x0 x1 x2 x3 x4)), .val (.long (j0_48_s0 x0 x1 x2 x3 x4)), .second, .val (.long (j0_64_s0 x0 x1 x2 x3 x4)), .second, .val (.ref b77), .val (.ref b78), .val (.long x0), .second, .val (.long (0 : Int64)), .second, .unset, .unset, .unset, .unset, .unset] [(.int (1 : Int32)), (.int (2 : Int32))])) rfl ?_
                have hc135_81 : ¬ ((2 : Int32) < (1 : Int32)) := by decide
                refine Goes.st (B := T78.setTop (mkF m 138 #[.val (.long x0), .second, .val (.long x1), .second, .val (.long x2), .second, .val (.long x3), .second, .val (.int x4), .val (.int (1 : Int32)), .val (.int (2 : Int32)), .val (.int (j0_32_s0 x0 x1 x2 x3 x4)), .val (.long (j0_48_s0 x0 x1 x2 x3 x4)), .second, .val (.long (j0_64_s0 x0 x1 x2 x3 x4)), .second, .val (.ref b77), .val (.ref b78), .val (.long x0), .second, .val (.long (0 : Int64)), .second, .unset, .unset, .unset, .unset, .unset] [])) (fun t k => ?_) ?_
                · refine XS.icmpNo X78.here hx rfl (hb hby at_135) rfl (flt hc135_81).1 ?_
                  exact k
                refine Goes.run X78 hx hown hci hcl hby (L := [(138, .lload 12, 2), (140, .goto 4, 3), (144, .lstore 22, 2), (146, .iload 10, 2), (148, .iconst 2, 1)]) (by decide +kernel) rfl (g' := (mkF m 149 #[.val (.long x0), .second, .val (.long x1), .second, .val (.long x2), .second, .val (.long x3), .second, .val (.int x4), .val (.int (1 : Int32)), .val (.int (2 : Int32)), .val (.int (j0_32_s0 x0 x1 x2 x3 x4)), .val (.long (j0_48_s0 x0 x1 x2 x3 x4)), .second, .val (.long (j0_64_s0 x0 x1 x2 x3 x4)), .second, .val (.ref b77), .val (.ref b78), .val (.long x0), .second, .val (.long (0 : Int64)), .second, .val (.long (j0_48_s0 x0 x1 x2 x3 x4)), .second, .unset, .unset, .unset] [(.int (2 : Int32)), (.int (2 : Int32))])) rfl ?_
                have hc149_82 : ¬ ((2 : Int32) < (2 : Int32)) := Int32.lt_irrefl
                refine Goes.st (B := T78.setTop (mkF m 152 #[.val (.long x0), .second, .val (.long x1), .second, .val (.long x2), .second, .val (.long x3), .second, .val (.int x4), .val (.int (1 : Int32)), .val (.int (2 : Int32)), .val (.int (j0_32_s0 x0 x1 x2 x3 x4)), .val (.long (j0_48_s0 x0 x1 x2 x3 x4)), .second, .val (.long (j0_64_s0 x0 x1 x2 x3 x4)), .second, .val (.ref b77), .val (.ref b78), .val (.long x0), .second, .val (.long (0 : Int64)), .second, .val (.long (j0_48_s0 x0 x1 x2 x3 x4)), .second, .unset, .unset, .unset] [])) (fun t k => ?_) ?_
                · refine XS.icmpNo X78.here hx rfl (hb hby at_149) rfl (flt hc149_82).1 ?_
                  exact k
                refine Goes.run X78 hx hown hci hcl hby (L := [(152, .lload 14, 2), (154, .goto 4, 3), (158, .lstore 24, 2), (160, .lload 22, 2), (162, .lload 18, 2), (164, .ldc2_w 17, 3)]) (by decide +kernel) rfl (g' := (mkF m 167 #[.val (.long x0), .second, .val (.long x1), .second, .val (.long x2), .second, .val (.long x3), .second, .val (.int x4), .val (.int (1 : Int32)), .val (.int (2 : Int32)), .val (.int (j0_32_s0 x0 x1 x2 x3 x4)), .val (.long (j0_48_s0 x0 x1 x2 x3 x4)), .second, .val (.long (j0_64_s0 x0 x1 x2 x3 x4)), .second, .val (.ref b77), .val (.ref b78), .val (.long x0), .second, .val (.long (0 : Int64)), .second, .val (.long (j0_48_s0 x0 x1 x2 x3 x4)), .second, .val (.long (j0_64_s0 x0 x1 x2 x3 x4)), .second, .unset] [(.long (-1 : Int64)), (.long x0), (.long (j0_48_s0 x0 x1 x2 x3 x4))])) rfl ?_
                refine Goes.run X78 hx hown hci hcl hby (L := [(167, .lxor, 1), (168, .land, 1), (169, .lconst 0, 1), (170, .lcmp, 1)]) (by decide +kernel) rfl (g' := (mkF m 171 #[.val (.long x0), .second, .val (.long x1), .second, .val (.long x2), .second, .val (.long x3), .second, .val (.int x4), .val (.int (1 : Int32)), .val (.int (2 : Int32)), .val (.int (j0_32_s0 x0 x1 x2 x3 x4)), .val (.long (j0_48_s0 x0 x1 x2 x3 x4)), .second, .val (.long (j0_64_s0 x0 x1 x2 x3 x4)), .second, .val (.ref b77), .val (.ref b78), .val (.long x0), .second, .val (.long (0 : Int64)), .second, .val (.long (j0_48_s0 x0 x1 x2 x3 x4)), .second, .val (.long (j0_64_s0 x0 x1 x2 x3 x4)), .second, .unset] [(.int (lcmpW ((j0_48_s0 x0 x1 x2 x3 x4) &&& (x0 ^^^ (-1 : Int64))) (0 : Int64)))])) rfl ?_
                have jn193_85 : Goes p e below s (QL (some (.int (r0 x0 x1 x2 x3 x4))) n0) room_1.cells room_1.slots (T78.setTop (mkF m 193 #[.val (.long x0), .second, .val (.long x1), .second, .val (.long x2), .second, .val (.long x3), .second, .val (.int x4), .val (.int (1 : Int32)), .val (.int (2 : Int32)), .val (.int (j0_32_s0 x0 x1 x2 x3 x4)), .val (.long (j0_48_s0 x0 x1 x2 x3 x4)), .second, .val (.long (j0_64_s0 x0 x1 x2 x3 x4)), .second, .val (.ref b77), .val (.ref b78), .val (.long x0), .second, .val (.long (0 : Int64)), .second, .val (.long (j0_48_s0 x0 x1 x2 x3 x4)), .second, .val (.long (j0_64_s0 x0 x1 x2 x3 x4)), .second, .unset] [(.int (j0_193_s0_e x0 x1 x2 x3 x4))])) := by
                  refine Goes.run X78 hx hown hci hcl hby (L := [(193, .istore 26, 2), (195, .aload 16, 2), (197, .aload 17, 2)]) (by decide +kernel) rfl (g' := (mkF m 199 #[.val (.long x0), .second, .val (.long x1), .second, .val (.long x2), .second, .val (.long x3), .second, .val (.int x4), .val (.int (1 : Int32)), .val (.int (2 : Int32)), .val (.int (j0_32_s0 x0 x1 x2 x3 x4)), .val (.long (j0_48_s0 x0 x1 x2 x3 x4)), .second, .val (.long (j0_64_s0 x0 x1 x2 x3 x4)), .second, .val (.ref b77), .val (.ref b78), .val (.long x0), .second, .val (.long (0 : Int64)), .second, .val (.long (j0_48_s0 x0 x1 x2 x3 x4)), .second, .val (.long (j0_64_s0 x0 x1 x2 x3 x4)), .second, .val (.int (j0_193_s0_e x0 x1 x2 x3 x4))] [(.ref b78), (.ref b77)])) rfl ?_
                  obtain ⟨_, _, ⟨T86, L86, k86, n86⟩, -, X86, ⟨Lc86, hQ86, l86, y86, z86⟩, st86⟩ := Jvm.LawKit.callS X78 hx (y := (⟨"com/example/marks_across_domains/marksacrossdomains/Bits", "contains", "([J[J)Z"⟩ : MethodName)) hown (mvT hZ (hw _ (List.mem_of_getElem? (i := 9) rfl))) (mvT hZ (hw _ (List.mem_of_getElem? (i := 10) rfl))) (mvT hZ (hw _ (List.mem_of_getElem? (i := 11) rfl))) (mvT hZ (hw _ (List.mem_of_getElem? (i := 12) rfl))) (by decide) (backOf (W := 0) (rm312 l Z a0 hw [] b77 b78 kc77 kc78 x0 (j0_48_s0 x0 x1 x2 x3 x4) (j0_64_s0 x0 x1 x2 x3 x4) h78 n0 Zn78 V_b77 V_b78) hZ (hw _ (List.mem_of_getElem? (i := 12) rfl)) (hw _ (List.mem_of_getElem? (i := 11) rfl)) (by decide) (by decide)) (g := (mkF m 199 #[.val (.long x0), .second, .val (.long x1), .second, .val (.long x2), .second, .val (.long x3), .second, .val (.int x4), .val (.int (1 : Int32)), .val (.int (2 : Int32)), .val (.int (j0_32_s0 x0 x1 x2 x3 x4)), .val (.long (j0_48_s0 x0 x1 x2 x3 x4)), .second, .val (.long (j0_64_s0 x0 x1 x2 x3 x4)), .second, .val (.ref b77), .val (.ref b78), .val (.long x0), .second, .val (.long (0 : Int64)), .second, .val (.long (j0_48_s0 x0 x1 x2 x3 x4)), .second, .val (.long (j0_64_s0 x0 x1 x2 x3 x4)), .second, .val (.int (j0_193_s0_e x0 x1 x2 x3 x4))] [(.ref b78), (.ref b77)])) rfl (by rw [hml]; rfl) (argsL := [(.ref b77), (.ref b78)]) (rest := []) (lenOf pd0_2 rfl) rfl (by show 2 * 0 + _ ≤ _; exact Nat.le_of_eq rfl) (hb hby at_199) (fun _ _ => ⟨rfl, e78, (by decide : 2 + 0 ≤ _), (by decide : 3 + 0 ≤ _)⟩)
                  dsimp only [Pt.U, Pt.locs, Pt.cells, Pt.slots] at X86 l86 y86 z86 st86 hQ86
                  subst l86 y86 z86
                  obtain ⟨rfl, N86q, e86⟩ := hQ86
                  have N86 := Fr.app N78 N86q
                  refine Goes.st (B := T86.setTop (mkF m 202 #[.val (.long x0), .second, .val (.long x1), .second, .val (.long x2), .second, .val (.long x3), .second, .val (.int x4), .val (.int (1 : Int32)), .val (.int (2 : Int32)), .val (.int (j0_32_s0 x0 x1 x2 x3 x4)), .val (.long (j0_48_s0 x0 x1 x2 x3 x4)), .second, .val (.long (j0_64_s0 x0 x1 x2 x3 x4)), .second, .val (.ref b77), .val (.ref b78), .val (.long x0), .second, .val (.long (0 : Int64)), .second, .val (.long (j0_48_s0 x0 x1 x2 x3 x4)), .second, .val (.long (j0_64_s0 x0 x1 x2 x3 x4)), .second, .val (.int (j0_193_s0_e x0 x1 x2 x3 x4))] [(.int (r312 x0 (j0_48_s0 x0 x1 x2 x3 x4) (j0_64_s0 x0 x1 x2 x3 x4)))])) st86 ?_
                  refine Goes.run X86 hx hown hci hcl hby (L := [(202, .iload 26, 2)]) (by decide +kernel) rfl (g' := (mkF m 204 #[.val (.long x0), .second, .val (.long x1), .second, .val (.long x2), .second, .val (.long x3), .second, .val (.int x4), .val (.int (1 : Int32)), .val (.int (2 : Int32)), .val (.int (j0_32_s0 x0 x1 x2 x3 x4)), .val (.long (j0_48_s0 x0 x1 x2 x3 x4)), .second, .val (.long (j0_64_s0 x0 x1 x2 x3 x4)), .second, .val (.ref b77), .val (.ref b78), .val (.long x0), .second, .val (.long (0 : Int64)), .second, .val (.long (j0_48_s0 x0 x1 x2 x3 x4)), .second, .val (.long (j0_64_s0 x0 x1 x2 x3 x4)), .second, .val (.int (j0_193_s0_e x0 x1 x2 x3 x4))] [(.int (j0_193_s0_e x0 x1 x2 x3 x4)), (.int (r312 x0 (j0_48_s0 x0 x1 x2 x3 x4) (j0_64_s0 x0 x1 x2 x3 x4)))])) rfl ?_
                  by_cases hc204_87 : (r312 x0 (j0_48_s0 x0 x1 x2 x3 x4) (j0_64_s0 x0 x1 x2 x3 x4)) = (j0_193_s0_e x0 x1 x2 x3 x4)
                  · skip
                    refine Goes.st (B := T86.setTop (mkF m 207 #[.val (.long x0), .second, .val (.long x1), .second, .val (.long x2), .second, .val (.long x3), .second, .val (.int x4), .val (.int (1 : Int32)), .val (.int (2 : Int32)), .val (.int (j0_32_s0 x0 x1 x2 x3 x4)), .val (.long (j0_48_s0 x0 x1 x2 x3 x4)), .second, .val (.long (j0_64_s0 x0 x1 x2 x3 x4)), .second, .val (.ref b77), .val (.ref b78), .val (.long x0), .second, .val (.long (0 : Int64)), .second, .val (.long (j0_48_s0 x0 x1 x2 x3 x4)), .second, .val (.long (j0_64_s0 x0 x1 x2 x3 x4)), .second, .val (.int (j0_193_s0_e x0 x1 x2 x3 x4))] [])) (fun t k => ?_) ?_
                    · refine XS.icmpNo X86.here hx rfl (hb hby at_204) rfl (teq hc204_87).2 ?_
                      exact k
                    refine Goes.run X86 hx hown hci hcl hby (L := [(207, .iconst 1, 1), (208, .goto 4, 3)]) (by decide +kernel) rfl (g' := (mkF m 212 #[.val (.long x0), .second, .val (.long x1), .second, .val (.long x2), .second, .val (.long x3), .second, .val (.int x4), .val (.int (1 : Int32)), .val (.int (2 : Int32)), .val (.int (j0_32_s0 x0 x1 x2 x3 x4)), .val (.long (j0_48_s0 x0 x1 x2 x3 x4)), .second, .val (.long (j0_64_s0 x0 x1 x2 x3 x4)), .second, .val (.ref b77), .val (.ref b78), .val (.long x0), .second, .val (.long (0 : Int64)), .second, .val (.long (j0_48_s0 x0 x1 x2 x3 x4)), .second, .val (.long (j0_64_s0 x0 x1 x2 x3 x4)), .second, .val (.int (j0_193_s0_e x0 x1 x2 x3 x4))] [(.int (1 : Int32))])) rfl ?_
                    exact Goes.retB X86 hx hlk (t := .boolean) Bd.returns (by simp) (hb hby at_212) rfl ⟨(congrArg (fun z => some (Value.int z)) (show (r0 x0 x1 x2 x3 x4) = (1 : Int32) from (((((if_neg hs86_9).trans (if_pos hs86_49)).trans (if_neg hs86_50)).trans (if_neg hs86_63)).trans (if_pos hc204_87))).symm), N86⟩ (by decide) (by decide)
                  · skip
                    refine Goes.st (B := T86.setTop (mkF m 211 #[.val (.long x0), .second, .val (.long x1), .second, .val (.long x2), .second, .val (.long x3), .second, .val (.int x4), .val (.int (1 : Int32)), .val (.int (2 : Int32)), .val (.int (j0_32_s0 x0 x1 x2 x3 x4)), .val (.long (j0_48_s0 x0 x1 x2 x3 x4)), .second, .val (.long (j0_64_s0 x0 x1 x2 x3 x4)), .second, .val (.ref b77), .val (.ref b78), .val (.long x0), .second, .val (.long (0 : Int64)), .second, .val (.long (j0_48_s0 x0 x1 x2 x3 x4)), .second, .val (.long (j0_64_s0 x0 x1 x2 x3 x4)), .second, .val (.int (j0_193_s0_e x0 x1 x2 x3 x4))] [])) (fun t k => ?_) ?_
                    · refine XS.icmpYes X86.here hx rfl (pc0 := 204) (pc' := 211) rfl (hb hby at_204) rfl (feq hc204_87).2 (by decide) (by decide) ?_
                      exact k
                    refine Goes.run X86 hx hown hci hcl hby (L := [(211, .iconst 0, 1)]) (by decide +kernel) rfl (g' := (mkF m 212 #[.val (.long x0), .second, .val (.long x1), .second, .val (.long x2), .second, .val (.long x3), .second, .val (.int x4), .val (.int (1 : Int32)), .val (.int (2 : Int32)), .val (.int (j0_32_s0 x0 x1 x2 x3 x4)), .val (.long (j0_48_s0 x0 x1 x2 x3 x4)), .second, .val (.long (j0_64_s0 x0 x1 x2 x3 x4)), .second, .val (.ref b77), .val (.ref b78), .val (.long x0), .second, .val (.long (0 : Int64)), .second, .val (.long (j0_48_s0 x0 x1 x2 x3 x4)), .second, .val (.long (j0_64_s0 x0 x1 x2 x3 x4)), .second, .val (.int (j0_193_s0_e x0 x1 x2 x3 x4))] [(.int (0 : Int32))])) rfl ?_
                    exact Goes.retB X86 hx hlk (t := .boolean) Bd.returns (by simp) (hb hby at_212) rfl ⟨(congrArg (fun z => some (Value.int z)) (show (r0 x0 x1 x2 x3 x4) = (0 : Int32) from (((((if_neg hs86_9).trans (if_pos hs86_49)).trans (if_neg hs86_50)).trans (if_neg hs86_63)).trans (if_neg hc204_87))).symm), N86⟩ (by decide) (by decide)
                by_cases hc171_83 : ((j0_48_s0 x0 x1 x2 x3 x4) &&& (x0 ^^^ (-1 : Int64))) = (0 : Int64)
                · skip
                  refine Goes.st (B := T78.setTop (mkF m 174 #[.val (.long x0), .second, .val (.long x1), .second, .val (.long x2), .second, .val (.long x3), .second, .val (.int x4), .val (.int (1 : Int32)), .val (.int (2 : Int32)), .val (.int (j0_32_s0 x0 x1 x2 x3 x4)), .val (.long (j0_48_s0 x0 x1 x2 x3 x4)), .second, .val (.long (j0_64_s0 x0 x1 x2 x3 x4)), .second, .val (.ref b77), .val (.ref b78), .val (.long x0), .second, .val (.long (0 : Int64)), .second, .val (.long (j0_48_s0 x0 x1 x2 x3 x4)), .second, .val (.long (j0_64_s0 x0 x1 x2 x3 x4)), .second, .unset] [])) (fun t k => ?_) ?_
                  · refine XS.ifNo X78.here hx rfl (hb hby at_171) rfl (teqL hc171_83).2 ?_
                    exact k
                  refine Goes.run X78 hx hown hci hcl hby (L := [(174, .lload 24, 2), (176, .lload 20, 2), (178, .ldc2_w 17, 3), (181, .lxor, 1), (182, .land, 1), (183, .lconst 0, 1)]) (by decide +kernel) rfl (g' := (mkF m 184 #[.val (.long x0), .second, .val (.long x1), .second, .val (.long x2), .second, .val (.long x3), .second, .val (.int x4), .val (.int (1 : Int32)), .val (.int (2 : Int32)), .val (.int (j0_32_s0 x0 x1 x2 x3 x4)), .val (.long (j0_48_s0 x0 x1 x2 x3 x4)), .second, .val (.long (j0_64_s0 x0 x1 x2 x3 x4)), .second, .val (.ref b77), .val (.ref b78), .val (.long x0), .second, .val (.long (0 : Int64)), .second, .val (.long (j0_48_s0 x0 x1 x2 x3 x4)), .second, .val (.long (j0_64_s0 x0 x1 x2 x3 x4)), .second, .unset] [(.long (0 : Int64)), (.long ((j0_64_s0 x0 x1 x2 x3 x4) &&& ((0 : Int64) ^^^ (-1 : Int64))))])) rfl ?_
                  refine Goes.run X78 hx hown hci hcl hby (L := [(184, .lcmp, 1)]) (by decide +kernel) rfl (g' := (mkF m 185 #[.val (.long x0), .second, .val (.long x1), .second, .val (.long x2), .second, .val (.long x3), .second, .val (.int x4), .val (.int (1 : Int32)), .val (.int (2 : Int32)), .val (.int (j0_32_s0 x0 x1 x2 x3 x4)), .val (.long (j0_48_s0 x0 x1 x2 x3 x4)), .second, .val (.long (j0_64_s0 x0 x1 x2 x3 x4)), .second, .val (.ref b77), .val (.ref b78), .val (.long x0), .second, .val (.long (0 : Int64)), .second, .val (.long (j0_48_s0 x0 x1 x2 x3 x4)), .second, .val (.long (j0_64_s0 x0 x1 x2 x3 x4)), .second, .unset] [(.int (lcmpW ((j0_64_s0 x0 x1 x2 x3 x4) &&& ((0 : Int64) ^^^ (-1 : Int64))) (0 : Int64)))])) rfl ?_
                  by_cases hc185_88 : ((j0_64_s0 x0 x1 x2 x3 x4) &&& ((0 : Int64) ^^^ (-1 : Int64))) = (0 : Int64)
                  · skip
                    refine Goes.st (B := T78.setTop (mkF m 188 #[.val (.long x0), .second, .val (.long x1), .second, .val (.long x2), .second, .val (.long x3), .second, .val (.int x4), .val (.int (1 : Int32)), .val (.int (2 : Int32)), .val (.int (j0_32_s0 x0 x1 x2 x3 x4)), .val (.long (j0_48_s0 x0 x1 x2 x3 x4)), .second, .val (.long (j0_64_s0 x0 x1 x2 x3 x4)), .second, .val (.ref b77), .val (.ref b78), .val (.long x0), .second, .val (.long (0 : Int64)), .second, .val (.long (j0_48_s0 x0 x1 x2 x3 x4)), .second, .val (.long (j0_64_s0 x0 x1 x2 x3 x4)), .second, .unset] [])) (fun t k => ?_) ?_
                    · refine XS.ifNo X78.here hx rfl (hb hby at_185) rfl (teqL hc185_88).2 ?_
                      exact k
                    refine Goes.run X78 hx hown hci hcl hby (L := [(188, .iconst 1, 1), (189, .goto 4, 3)]) (by decide +kernel) rfl (g' := (mkF m 193 #[.val (.long x0), .second, .val (.long x1), .second, .val (.long x2), .second, .val (.long x3), .second, .val (.int x4), .val (.int (1 : Int32)), .val (.int (2 : Int32)), .val (.int (j0_32_s0 x0 x1 x2 x3 x4)), .val (.long (j0_48_s0 x0 x1 x2 x3 x4)), .second, .val (.long (j0_64_s0 x0 x1 x2 x3 x4)), .second, .val (.ref b77), .val (.ref b78), .val (.long x0), .second, .val (.long (0 : Int64)), .second, .val (.long (j0_48_s0 x0 x1 x2 x3 x4)), .second, .val (.long (j0_64_s0 x0 x1 x2 x3 x4)), .second, .unset] [(.int (1 : Int32))])) rfl ?_
                    have q := jn193_85
                    rw [show (j0_193_s0_e x0 x1 x2 x3 x4) = (1 : Int32) from ((if_pos hc171_83).trans (if_pos hc185_88))] at q
                    exact q
                  · skip
                    refine Goes.st (B := T78.setTop (mkF m 192 #[.val (.long x0), .second, .val (.long x1), .second, .val (.long x2), .second, .val (.long x3), .second, .val (.int x4), .val (.int (1 : Int32)), .val (.int (2 : Int32)), .val (.int (j0_32_s0 x0 x1 x2 x3 x4)), .val (.long (j0_48_s0 x0 x1 x2 x3 x4)), .second, .val (.long (j0_64_s0 x0 x1 x2 x3 x4)), .second, .val (.ref b77), .val (.ref b78), .val (.long x0), .second, .val (.long (0 : Int64)), .second, .val (.long (j0_48_s0 x0 x1 x2 x3 x4)), .second, .val (.long (j0_64_s0 x0 x1 x2 x3 x4)), .second, .unset] [])) (fun t k => ?_) ?_
                    · refine XS.ifYes X78.here hx rfl (pc0 := 185) (pc' := 192) rfl (hb hby at_185) rfl (feqL hc185_88).2 (by decide) (by decide) ?_
                      exact k
                    refine Goes.run X78 hx hown hci hcl hby (L := [(192, .iconst 0, 1)]) (by decide +kernel) rfl (g' := (mkF m 193 #[.val (.long x0), .second, .val (.long x1), .second, .val (.long x2), .second, .val (.long x3), .second, .val (.int x4), .val (.int (1 : Int32)), .val (.int (2 : Int32)), .val (.int (j0_32_s0 x0 x1 x2 x3 x4)), .val (.long (j0_48_s0 x0 x1 x2 x3 x4)), .second, .val (.long (j0_64_s0 x0 x1 x2 x3 x4)), .second, .val (.ref b77), .val (.ref b78), .val (.long x0), .second, .val (.long (0 : Int64)), .second, .val (.long (j0_48_s0 x0 x1 x2 x3 x4)), .second, .val (.long (j0_64_s0 x0 x1 x2 x3 x4)), .second, .unset] [(.int (0 : Int32))])) rfl ?_
                    have q := jn193_85
                    rw [show (j0_193_s0_e x0 x1 x2 x3 x4) = (0 : Int32) from ((if_pos hc171_83).trans (if_neg hc185_88))] at q
                    exact q
                · skip
                  refine Goes.st (B := T78.setTop (mkF m 192 #[.val (.long x0), .second, .val (.long x1), .second, .val (.long x2), .second, .val (.long x3), .second, .val (.int x4), .val (.int (1 : Int32)), .val (.int (2 : Int32)), .val (.int (j0_32_s0 x0 x1 x2 x3 x4)), .val (.long (j0_48_s0 x0 x1 x2 x3 x4)), .second, .val (.long (j0_64_s0 x0 x1 x2 x3 x4)), .second, .val (.ref b77), .val (.ref b78), .val (.long x0), .second, .val (.long (0 : Int64)), .second, .val (.long (j0_48_s0 x0 x1 x2 x3 x4)), .second, .val (.long (j0_64_s0 x0 x1 x2 x3 x4)), .second, .unset] [])) (fun t k => ?_) ?_
                  · refine XS.ifYes X78.here hx rfl (pc0 := 171) (pc' := 192) rfl (hb hby at_171) rfl (feqL hc171_83).2 (by decide) (by decide) ?_
                    exact k
                  refine Goes.run X78 hx hown hci hcl hby (L := [(192, .iconst 0, 1)]) (by decide +kernel) rfl (g' := (mkF m 193 #[.val (.long x0), .second, .val (.long x1), .second, .val (.long x2), .second, .val (.long x3), .second, .val (.int x4), .val (.int (1 : Int32)), .val (.int (2 : Int32)), .val (.int (j0_32_s0 x0 x1 x2 x3 x4)), .val (.long (j0_48_s0 x0 x1 x2 x3 x4)), .second, .val (.long (j0_64_s0 x0 x1 x2 x3 x4)), .second, .val (.ref b77), .val (.ref b78), .val (.long x0), .second, .val (.long (0 : Int64)), .second, .val (.long (j0_48_s0 x0 x1 x2 x3 x4)), .second, .val (.long (j0_64_s0 x0 x1 x2 x3 x4)), .second, .unset] [(.int (0 : Int32))])) rfl ?_
                  have q := jn193_85
                  rw [show (j0_193_s0_e x0 x1 x2 x3 x4) = (0 : Int32) from (if_neg hc171_83)] at q
                  exact q
          · skip
            have hs86_89 : (w0_73 x0 x1 x2 x3 x4) = (2 : Int32) := own_l9 x0 x1 x2 x3 x4 hs86_9 hs86_49
            rw [hs86_89]
            by_cases hs86_90 : (w0_84 x0 x1 x2 x3 x4) = (0 : Int32)
            · skip
              rw [hs86_90]
              refine Goes.run X8 hx hown hci hcl hby (L := [(86, .iload 9, 2), (88, .lload_n 0, 1), (89, .lload_n 2, 1)]) (by decide +kernel) rfl (g' := (mkF m 90 #[.val (.long x0), .second, .val (.long x1), .second, .val (.long x2), .second, .val (.long x3), .second, .val (.int x4), .val (.int (2 : Int32)), .val (.int (0 : Int32)), .val (.int (j0_32_s0 x0 x1 x2 x3 x4)), .val (.long (j0_48_s0 x0 x1 x2 x3 x4)), .second, .val (.long (j0_64_s0 x0 x1 x2 x3 x4)), .second, .unset, .unset, .unset, .unset, .unset, .unset, .unset, .unset, .unset, .unset, .unset] [(.long x1), (.long x0), (.int (2 : Int32))])) rfl ?_
              obtain ⟨_, _, ⟨T91, L91, k91, n91⟩, -, X91, ⟨Lc91, hQ91, l91, y91, z91⟩, st91⟩ := Jvm.LawKit.callS X8 hx (y := (⟨"com/example/marks_across_domains/marksacrossdomains/BitsContainsPinLaw", "make", "(IJJ)[J"⟩ : MethodName)) hown (mvT hZ (hw _ (List.mem_of_getElem? (i := 4) rfl))) (mvT hZ (hw _ (List.mem_of_getElem? (i := 5) rfl))) (mvT hZ (hw _ (List.mem_of_getElem? (i := 2) rfl))) (mvT hZ (hw _ (List.mem_of_getElem? (i := 6) rfl))) (by decide) (backOf (W := 0) (rm22 l Z a0 hw [] x0 x1 h0 n0 Z0 ) hZ (hw _ (List.mem_of_getElem? (i := 6) rfl)) (hw _ (List.mem_of_getElem? (i := 2) rfl)) (by decide) (by decide)) (g := (mkF m 90 #[.val (.long x0), .second, .val (.long x1), .second, .val (.long x2), .second, .val (.long x3), .second, .val (.int x4), .val (.int (2 : Int32)), .val (.int (0 : Int32)), .val (.int (j0_32_s0 x0 x1 x2 x3 x4)), .val (.long (j0_48_s0 x0 x1 x2 x3 x4)), .second, .val (.long (j0_64_s0 x0 x1 x2 x3 x4)), .second, .unset, .unset, .unset, .unset, .unset, .unset, .unset, .unset, .unset, .unset, .unset] [(.long x1), (.long x0), (.int (2 : Int32))])) rfl (by rw [hml]; rfl) (argsL := [(.int (2 : Int32)), (.long x0), (.long x1)]) (rest := []) (lenOf pd0_1 rfl) rfl (by show 2 * 0 + _ ≤ _; exact Nat.le_of_eq rfl) (hb hby at_90) (fun _ _ => ⟨rfl, e8, (by decide : 0 + 1 ≤ _), (by decide : 0 + 2 ≤ _)⟩)
              dsimp only [Pt.U, Pt.locs, Pt.cells, Pt.slots] at X91 l91 y91 z91 st91 hQ91
              subst l91 y91 z91
              obtain ⟨h91, eh91⟩ : ∃ z, z = T91.heap := ⟨_, rfl⟩
              rw [← eh91] at hQ91
              have e91 : T91.heap = h91 := eh91.symm
              obtain ⟨b91, kc91, rfl, N91q, Kq91, szq91, o91_0, o91_1⟩ := hQ91
              have g_b91 : n0 ≤ b91 := Nat.le_trans Z0 szq91
              have N91 := Fr.app N8 N91q
              have E_b91 : Exa Z h91 b91 "[J" := o91_0
              have V_b91 : Arv Z h91 b91 kc91 .long (2 : Int32) [(.long x0), (.long x1)] (.long (0 : Int64)) := o91_1
              have Zn91 : n0 ≤ h91.size := Nat.le_trans Z0 Kq91.1
              refine Goes.st (B := T91.setTop (mkF m 93 #[.val (.long x0), .second, .val (.long x1), .second, .val (.long x2), .second, .val (.long x3), .second, .val (.int x4), .val (.int (2 : Int32)), .val (.int (0 : Int32)), .val (.int (j0_32_s0 x0 x1 x2 x3 x4)), .val (.long (j0_48_s0 x0 x1 x2 x3 x4)), .second, .val (.long (j0_64_s0 x0 x1 x2 x3 x4)), .second, .unset, .unset, .unset, .unset, .unset, .unset, .unset, .unset, .unset, .unset, .unset] [(.ref b91)])) st91 ?_
              refine Goes.run X91 hx hown hci hcl hby (L := [(93, .astore 16, 2), (95, .iload 10, 2), (97, .lload 12, 2), (99, .lload 14, 2)]) (by decide +kernel) rfl (g' := (mkF m 101 #[.val (.long x0), .second, .val (.long x1), .second, .val (.long x2), .second, .val (.long x3), .second, .val (.int x4), .val (.int (2 : Int32)), .val (.int (0 : Int32)), .val (.int (j0_32_s0 x0 x1 x2 x3 x4)), .val (.long (j0_48_s0 x0 x1 x2 x3 x4)), .second, .val (.long (j0_64_s0 x0 x1 x2 x3 x4)), .second, .val (.ref b91), .unset, .unset, .unset, .unset, .unset, .unset, .unset, .unset, .unset, .unset] [(.long (j0_64_s0 x0 x1 x2 x3 x4)), (.long (j0_48_s0 x0 x1 x2 x3 x4)), (.int (0 : Int32))])) rfl ?_
              obtain ⟨_, _, ⟨T92, L92, k92, n92⟩, -, X92, ⟨Lc92, hQ92, l92, y92, z92⟩, st92⟩ := Jvm.LawKit.callS X91 hx (y := (⟨"com/example/marks_across_domains/marksacrossdomains/BitsContainsPinLaw", "make", "(IJJ)[J"⟩ : MethodName)) hown (mvT hZ (hw _ (List.mem_of_getElem? (i := 4) rfl))) (mvT hZ (hw _ (List.mem_of_getElem? (i := 5) rfl))) (mvT hZ (hw _ (List.mem_of_getElem? (i := 2) rfl))) (mvT hZ (hw _ (List.mem_of_getElem? (i := 6) rfl))) (by decide) (backOf (W := 0) (rm20 l Z a0 hw [] (j0_48_s0 x0 x1 x2 x3 x4) (j0_64_s0 x0 x1 x2 x3 x4) h91 n0 Zn91 ) hZ (hw _ (List.mem_of_getElem? (i := 6) rfl)) (hw _ (List.mem_of_getElem? (i := 2) rfl)) (by decide) (by decide)) (g := (mkF m 101 #[.val (.long x0), .second, .val (.long x1), .second, .val (.long x2), .second, .val (.long x3), .second, .val (.int x4), .val (.int (2 : Int32)), .val (.int (0 : Int32)), .val (.int (j0_32_s0 x0 x1 x2 x3 x4)), .val (.long (j0_48_s0 x0 x1 x2 x3 x4)), .second, .val (.long (j0_64_s0 x0 x1 x2 x3 x4)), .second, .val (.ref b91), .unset, .unset, .unset, .unset, .unset, .unset, .unset, .unset, .unset, .unset] [(.long (j0_64_s0 x0 x1 x2 x3 x4)), (.long (j0_48_s0 x0 x1 x2 x3 x4)), (.int (0 : Int32))])) rfl (by rw [hml]; rfl) (argsL := [(.int (0 : Int32)), (.long (j0_48_s0 x0 x1 x2 x3 x4)), (.long (j0_64_s0 x0 x1 x2 x3 x4))]) (rest := []) (lenOf pd0_1 rfl) rfl (by show 2 * 0 + _ ≤ _; exact Nat.le_of_eq rfl) (hb hby at_101) (fun _ _ => ⟨rfl, e91, (by decide : 1 + 1 ≤ _), (by decide : 2 + 0 ≤ _)⟩)
              dsimp only [Pt.U, Pt.locs, Pt.cells, Pt.slots] at X92 l92 y92 z92 st92 hQ92
              subst l92 y92 z92
              obtain ⟨h92, eh92⟩ : ∃ z, z = T92.heap := ⟨_, rfl⟩
              rw [← eh92] at hQ92
              have e92 : T92.heap = h92 := eh92.symm
              obtain ⟨b92, kc92, rfl, N92q, Kq92, szq92, o92_0, o92_1⟩ := hQ92
              have ne_b91_b92 : b91 ≠ b92 := Nat.ne_of_lt (Nat.lt_of_lt_of_le E_b91.lt szq92)
              have g_b92 : n0 ≤ b92 := Nat.le_trans Zn91 szq92
              have N92 := Fr.app N91 N92q
              have E_b91 := E_b91.keep Kq92
              have V_b91 := V_b91.keep Kq92 nin0
              have E_b92 : Exa Z h92 b92 "[J" := o92_0
              have V_b92 : Arv Z h92 b92 kc92 .long (0 : Int32) [] (.long (0 : Int64)) := o92_1
              have Zn92 : n0 ≤ h92.size := Nat.le_trans Zn91 Kq92.1
              refine Goes.st (B := T92.setTop (mkF m 104 #[.val (.long x0), .second, .val (.long x1), .second, .val (.long x2), .second, .val (.long x3), .second, .val (.int x4), .val (.int (2 : Int32)), .val (.int (0 : Int32)), .val (.int (j0_32_s0 x0 x1 x2 x3 x4)), .val (.long (j0_48_s0 x0 x1 x2 x3 x4)), .second, .val (.long (j0_64_s0 x0 x1 x2 x3 x4)), .second, .val (.ref b91), .unset, .unset, .unset, .unset, .unset, .unset, .unset, .unset, .unset, .unset] [(.ref b92)])) st92 ?_
              refine Goes.run X92 hx hown hci hcl hby (L := [(104, .astore 17, 2), (106, .iload 9, 2), (108, .iconst 1, 1)]) (by decide +kernel) rfl (g' := (mkF m 109 #[.val (.long x0), .second, .val (.long x1), .second, .val (.long x2), .second, .val (.long x3), .second, .val (.int x4), .val (.int (2 : Int32)), .val (.int (0 : Int32)), .val (.int (j0_32_s0 x0 x1 x2 x3 x4)), .val (.long (j0_48_s0 x0 x1 x2 x3 x4)), .second, .val (.long (j0_64_s0 x0 x1 x2 x3 x4)), .second, .val (.ref b91), .val (.ref b92), .unset, .unset, .unset, .unset, .unset, .unset, .unset, .unset, .unset] [(.int (1 : Int32)), (.int (2 : Int32))])) rfl ?_
              have hc109_93 : ¬ ((2 : Int32) < (1 : Int32)) := by decide
              refine Goes.st (B := T92.setTop (mkF m 112 #[.val (.long x0), .second, .val (.long x1), .second, .val (.long x2), .second, .val (.long x3), .second, .val (.int x4), .val (.int (2 : Int32)), .val (.int (0 : Int32)), .val (.int (j0_32_s0 x0 x1 x2 x3 x4)), .val (.long (j0_48_s0 x0 x1 x2 x3 x4)), .second, .val (.long (j0_64_s0 x0 x1 x2 x3 x4)), .second, .val (.ref b91), .val (.ref b92), .unset, .unset, .unset, .unset, .unset, .unset, .unset, .unset, .unset] [])) (fun t k => ?_) ?_
              · refine XS.icmpNo X92.here hx rfl (hb hby at_109) rfl (flt hc109_93).1 ?_
                exact k
              refine Goes.run X92 hx hown hci hcl hby (L := [(112, .lload_n 0, 1), (113, .goto 4, 3), (117, .lstore 18, 2), (119, .iload 9, 2), (121, .iconst 2, 1)]) (by decide +kernel) rfl (g' := (mkF m 122 #[.val (.long x0), .second, .val (.long x1), .second, .val (.long x2), .second, .val (.long x3), .second, .val (.int x4), .val (.int (2 : Int32)), .val (.int (0 : Int32)), .val (.int (j0_32_s0 x0 x1 x2 x3 x4)), .val (.long (j0_48_s0 x0 x1 x2 x3 x4)), .second, .val (.long (j0_64_s0 x0 x1 x2 x3 x4)), .second, .val (.ref b91), .val (.ref b92), .val (.long x0), .second, .unset, .unset, .unset, .unset, .unset, .unset, .unset] [(.int (2 : Int32)), (.int (2 : Int32))])) rfl ?_
              have hc122_94 : ¬ ((2 : Int32) < (2 : Int32)) := Int32.lt_irrefl
              refine Goes.st (B := T92.setTop (mkF m 125 #[.val (.long x0), .second, .val (.long x1), .second, .val (.long x2), .second, .val (.long x3), .second, .val (.int x4), .val (.int (2 : Int32)), .val (.int (0 : Int32)), .val (.int (j0_32_s0 x0 x1 x2 x3 x4)), .val (.long (j0_48_s0 x0 x1 x2 x3 x4)), .second, .val (.long (j0_64_s0 x0 x1 x2 x3 x4)), .second, .val (.ref b91), .val (.ref b92), .val (.long x0), .second, .unset, .unset, .unset, .unset, .unset, .unset, .unset] [])) (fun t k => ?_) ?_
              · refine XS.icmpNo X92.here hx rfl (hb hby at_122) rfl (flt hc122_94).1 ?_
                exact k
              refine Goes.run X92 hx hown hci hcl hby (L := [(125, .lload_n 2, 1), (126, .goto 4, 3), (130, .lstore 20, 2), (132, .iload 10, 2), (134, .iconst 1, 1)]) (by decide +kernel) rfl (g' := (mkF m 135 #[.val (.long x0), .second, .val (.long x1), .second, .val (.long x2), .second, .val (.long x3), .second, .val (.int x4), .val (.int (2 : Int32)), .val (.int (0 : Int32)), .val (.int (j0_32_s0 x0 x1 x2 x3 x4)), .val (.long (j0_48_s0 x0 x1 x2 x3 x4)), .second, .val (.long (j0_64_s0 x0 x1 x2 x3 x4)), .second, .val (.ref b91), .val (.ref b92), .val (.long x0), .second, .val (.long x1), .second, .unset, .unset, .unset, .unset, .unset] [(.int (1 : Int32)), (.int (0 : Int32))])) rfl ?_
              have hc135_95 : (0 : Int32) < (1 : Int32) := by decide
              refine Goes.st (B := T92.setTop (mkF m 143 #[.val (.long x0), .second, .val (.long x1), .second, .val (.long x2), .second, .val (.long x3), .second, .val (.int x4), .val (.int (2 : Int32)), .val (.int (0 : Int32)), .val (.int (j0_32_s0 x0 x1 x2 x3 x4)), .val (.long (j0_48_s0 x0 x1 x2 x3 x4)), .second, .val (.long (j0_64_s0 x0 x1 x2 x3 x4)), .second, .val (.ref b91), .val (.ref b92), .val (.long x0), .second, .val (.long x1), .second, .unset, .unset, .unset, .unset, .unset] [])) (fun t k => ?_) ?_
              · refine XS.icmpYes X92.here hx rfl (pc0 := 135) (pc' := 143) rfl (hb hby at_135) rfl (tlt hc135_95).1 (by decide) (by decide) ?_
                exact k
              refine Goes.run X92 hx hown hci hcl hby (L := [(143, .lconst 0, 1), (144, .lstore 22, 2), (146, .iload 10, 2), (148, .iconst 2, 1)]) (by decide +kernel) rfl (g' := (mkF m 149 #[.val (.long x0), .second, .val (.long x1), .second, .val (.long x2), .second, .val (.long x3), .second, .val (.int x4), .val (.int (2 : Int32)), .val (.int (0 : Int32)), .val (.int (j0_32_s0 x0 x1 x2 x3 x4)), .val (.long (j0_48_s0 x0 x1 x2 x3 x4)), .second, .val (.long (j0_64_s0 x0 x1 x2 x3 x4)), .second, .val (.ref b91), .val (.ref b92), .val (.long x0), .second, .val (.long x1), .second, .val (.long (0 : Int64)), .second, .unset, .unset, .unset] [(.int (2 : Int32)), (.int (0 : Int32))])) rfl ?_
              have hc149_96 : (0 : Int32) < (2 : Int32) := by decide
              refine Goes.st (B := T92.setTop (mkF m 157 #[.val (.long x0), .second, .val (.long x1), .second, .val (.long x2), .second, .val (.long x3), .second, .val (.int x4), .val (.int (2 : Int32)), .val (.int (0 : Int32)), .val (.int (j0_32_s0 x0 x1 x2 x3 x4)), .val (.long (j0_48_s0 x0 x1 x2 x3 x4)), .second, .val (.long (j0_64_s0 x0 x1 x2 x3 x4)), .second, .val (.ref b91), .val (.ref b92), .val (.long x0), .second, .val (.long x1), .second, .val (.long (0 : Int64)), .second, .unset, .unset, .unset] [])) (fun t k => ?_) ?_
              · refine XS.icmpYes X92.here hx rfl (pc0 := 149) (pc' := 157) rfl (hb hby at_149) rfl (tlt hc149_96).1 (by decide) (by decide) ?_
                exact k
              refine Goes.run X92 hx hown hci hcl hby (L := [(157, .lconst 0, 1), (158, .lstore 24, 2), (160, .lload 22, 2), (162, .lload 18, 2), (164, .ldc2_w 17, 3), (167, .lxor, 1)]) (by decide +kernel) rfl (g' := (mkF m 168 #[.val (.long x0), .second, .val (.long x1), .second, .val (.long x2), .second, .val (.long x3), .second, .val (.int x4), .val (.int (2 : Int32)), .val (.int (0 : Int32)), .val (.int (j0_32_s0 x0 x1 x2 x3 x4)), .val (.long (j0_48_s0 x0 x1 x2 x3 x4)), .second, .val (.long (j0_64_s0 x0 x1 x2 x3 x4)), .second, .val (.ref b91), .val (.ref b92), .val (.long x0), .second, .val (.long x1), .second, .val (.long (0 : Int64)), .second, .val (.long (0 : Int64)), .second, .unset] [(.long (x0 ^^^ (-1 : Int64))), (.long (0 : Int64))])) rfl ?_
              refine Goes.run X92 hx hown hci hcl hby (L := [(168, .land, 1), (169, .lconst 0, 1), (170, .lcmp, 1)]) (by decide +kernel) rfl (g' := (mkF m 171 #[.val (.long x0), .second, .val (.long x1), .second, .val (.long x2), .second, .val (.long x3), .second, .val (.int x4), .val (.int (2 : Int32)), .val (.int (0 : Int32)), .val (.int (j0_32_s0 x0 x1 x2 x3 x4)), .val (.long (j0_48_s0 x0 x1 x2 x3 x4)), .second, .val (.long (j0_64_s0 x0 x1 x2 x3 x4)), .second, .val (.ref b91), .val (.ref b92), .val (.long x0), .second, .val (.long x1), .second, .val (.long (0 : Int64)), .second, .val (.long (0 : Int64)), .second, .unset] [(.int (lcmpW ((0 : Int64) &&& (x0 ^^^ (-1 : Int64))) (0 : Int64)))])) rfl ?_
              have jn193_99 : Goes p e below s (QL (some (.int (r0 x0 x1 x2 x3 x4))) n0) room_1.cells room_1.slots (T92.setTop (mkF m 193 #[.val (.long x0), .second, .val (.long x1), .second, .val (.long x2), .second, .val (.long x3), .second, .val (.int x4), .val (.int (2 : Int32)), .val (.int (0 : Int32)), .val (.int (j0_32_s0 x0 x1 x2 x3 x4)), .val (.long (j0_48_s0 x0 x1 x2 x3 x4)), .second, .val (.long (j0_64_s0 x0 x1 x2 x3 x4)), .second, .val (.ref b91), .val (.ref b92), .val (.long x0), .second, .val (.long x1), .second, .val (.long (0 : Int64)), .second, .val (.long (0 : Int64)), .second, .unset] [(.int (j0_193_s0_f x0 x1 x2 x3 x4))])) := by
                refine Goes.run X92 hx hown hci hcl hby (L := [(193, .istore 26, 2), (195, .aload 16, 2), (197, .aload 17, 2)]) (by decide +kernel) rfl (g' := (mkF m 199 #[.val (.long x0), .second, .val (.long x1), .second, .val (.long x2), .second, .val (.long x3), .second, .val (.int x4), .val (.int (2 : Int32)), .val (.int (0 : Int32)), .val (.int (j0_32_s0 x0 x1 x2 x3 x4)), .val (.long (j0_48_s0 x0 x1 x2 x3 x4)), .second, .val (.long (j0_64_s0 x0 x1 x2 x3 x4)), .second, .val (.ref b91), .val (.ref b92), .val (.long x0), .second, .val (.long x1), .second, .val (.long (0 : Int64)), .second, .val (.long (0 : Int64)), .second, .val (.int (j0_193_s0_f x0 x1 x2 x3 x4))] [(.ref b92), (.ref b91)])) rfl ?_
                obtain ⟨_, _, ⟨T100, L100, k100, n100⟩, -, X100, ⟨Lc100, hQ100, l100, y100, z100⟩, st100⟩ := Jvm.LawKit.callS X92 hx (y := (⟨"com/example/marks_across_domains/marksacrossdomains/Bits", "contains", "([J[J)Z"⟩ : MethodName)) hown (mvT hZ (hw _ (List.mem_of_getElem? (i := 9) rfl))) (mvT hZ (hw _ (List.mem_of_getElem? (i := 10) rfl))) (mvT hZ (hw _ (List.mem_of_getElem? (i := 11) rfl))) (mvT hZ (hw _ (List.mem_of_getElem? (i := 12) rfl))) (by decide) (backOf (W := 0) (rm320 l Z a0 hw [] b91 b92 kc91 kc92 x0 x1 h92 n0 Zn92 V_b91 V_b92) hZ (hw _ (List.mem_of_getElem? (i := 12) rfl)) (hw _ (List.mem_of_getElem? (i := 11) rfl)) (by decide) (by decide)) (g := (mkF m 199 #[.val (.long x0), .second, .val (.long x1), .second, .val (.long x2), .second, .val (.long x3), .second, .val (.int x4), .val (.int (2 : Int32)), .val (.int (0 : Int32)), .val (.int (j0_32_s0 x0 x1 x2 x3 x4)), .val (.long (j0_48_s0 x0 x1 x2 x3 x4)), .second, .val (.long (j0_64_s0 x0 x1 x2 x3 x4)), .second, .val (.ref b91), .val (.ref b92), .val (.long x0), .second, .val (.long x1), .second, .val (.long (0 : Int64)), .second, .val (.long (0 : Int64)), .second, .val (.int (j0_193_s0_f x0 x1 x2 x3 x4))] [(.ref b92), (.ref b91)])) rfl (by rw [hml]; rfl) (argsL := [(.ref b91), (.ref b92)]) (rest := []) (lenOf pd0_2 rfl) rfl (by show 2 * 0 + _ ≤ _; exact Nat.le_of_eq rfl) (hb hby at_199) (fun _ _ => ⟨rfl, e92, (by decide : 2 + 0 ≤ _), (by decide : 2 + 0 ≤ _)⟩)
                dsimp only [Pt.U, Pt.locs, Pt.cells, Pt.slots] at X100 l100 y100 z100 st100 hQ100
                subst l100 y100 z100
                obtain ⟨rfl, N100q, e100⟩ := hQ100
                have N100 := Fr.app N92 N100q
                refine Goes.st (B := T100.setTop (mkF m 202 #[.val (.long x0), .second, .val (.long x1), .second, .val (.long x2), .second, .val (.long x3), .second, .val (.int x4), .val (.int (2 : Int32)), .val (.int (0 : Int32)), .val (.int (j0_32_s0 x0 x1 x2 x3 x4)), .val (.long (j0_48_s0 x0 x1 x2 x3 x4)), .second, .val (.long (j0_64_s0 x0 x1 x2 x3 x4)), .second, .val (.ref b91), .val (.ref b92), .val (.long x0), .second, .val (.long x1), .second, .val (.long (0 : Int64)), .second, .val (.long (0 : Int64)), .second, .val (.int (j0_193_s0_f x0 x1 x2 x3 x4))] [(.int (r320 x0 x1))])) st100 ?_
                refine Goes.run X100 hx hown hci hcl hby (L := [(202, .iload 26, 2)]) (by decide +kernel) rfl (g' := (mkF m 204 #[.val (.long x0), .second, .val (.long x1), .second, .val (.long x2), .second, .val (.long x3), .second, .val (.int x4), .val (.int (2 : Int32)), .val (.int (0 : Int32)), .val (.int (j0_32_s0 x0 x1 x2 x3 x4)), .val (.long (j0_48_s0 x0 x1 x2 x3 x4)), .second, .val (.long (j0_64_s0 x0 x1 x2 x3 x4)), .second, .val (.ref b91), .val (.ref b92), .val (.long x0), .second, .val (.long x1), .second, .val (.long (0 : Int64)), .second, .val (.long (0 : Int64)), .second, .val (.int (j0_193_s0_f x0 x1 x2 x3 x4))] [(.int (j0_193_s0_f x0 x1 x2 x3 x4)), (.int (r320 x0 x1))])) rfl ?_
                by_cases hc204_101 : (r320 x0 x1) = (j0_193_s0_f x0 x1 x2 x3 x4)
                · skip
                  refine Goes.st (B := T100.setTop (mkF m 207 #[.val (.long x0), .second, .val (.long x1), .second, .val (.long x2), .second, .val (.long x3), .second, .val (.int x4), .val (.int (2 : Int32)), .val (.int (0 : Int32)), .val (.int (j0_32_s0 x0 x1 x2 x3 x4)), .val (.long (j0_48_s0 x0 x1 x2 x3 x4)), .second, .val (.long (j0_64_s0 x0 x1 x2 x3 x4)), .second, .val (.ref b91), .val (.ref b92), .val (.long x0), .second, .val (.long x1), .second, .val (.long (0 : Int64)), .second, .val (.long (0 : Int64)), .second, .val (.int (j0_193_s0_f x0 x1 x2 x3 x4))] [])) (fun t k => ?_) ?_
                  · refine XS.icmpNo X100.here hx rfl (hb hby at_204) rfl (teq hc204_101).2 ?_
                    exact k
                  refine Goes.run X100 hx hown hci hcl hby (L := [(207, .iconst 1, 1), (208, .goto 4, 3)]) (by decide +kernel) rfl (g' := (mkF m 212 #[.val (.long x0), .second, .val (.long x1), .second, .val (.long x2), .second, .val (.long x3), .second, .val (.int x4), .val (.int (2 : Int32)), .val (.int (0 : Int32)), .val (.int (j0_32_s0 x0 x1 x2 x3 x4)), .val (.long (j0_48_s0 x0 x1 x2 x3 x4)), .second, .val (.long (j0_64_s0 x0 x1 x2 x3 x4)), .second, .val (.ref b91), .val (.ref b92), .val (.long x0), .second, .val (.long x1), .second, .val (.long (0 : Int64)), .second, .val (.long (0 : Int64)), .second, .val (.int (j0_193_s0_f x0 x1 x2 x3 x4))] [(.int (1 : Int32))])) rfl ?_
                  exact Goes.retB X100 hx hlk (t := .boolean) Bd.returns (by simp) (hb hby at_212) rfl ⟨(congrArg (fun z => some (Value.int z)) (show (r0 x0 x1 x2 x3 x4) = (1 : Int32) from ((((if_neg hs86_9).trans (if_neg hs86_49)).trans (if_pos hs86_90)).trans (if_pos hc204_101))).symm), N100⟩ (by decide) (by decide)
                · skip
                  refine Goes.st (B := T100.setTop (mkF m 211 #[.val (.long x0), .second, .val (.long x1), .second, .val (.long x2), .second, .val (.long x3), .second, .val (.int x4), .val (.int (2 : Int32)), .val (.int (0 : Int32)), .val (.int (j0_32_s0 x0 x1 x2 x3 x4)), .val (.long (j0_48_s0 x0 x1 x2 x3 x4)), .second, .val (.long (j0_64_s0 x0 x1 x2 x3 x4)), .second, .val (.ref b91), .val (.ref b92), .val (.long x0), .second, .val (.long x1), .second, .val (.long (0 : Int64)), .second, .val (.long (0 : Int64)), .second, .val (.int (j0_193_s0_f x0 x1 x2 x3 x4))] [])) (fun t k => ?_) ?_
                  · refine XS.icmpYes X100.here hx rfl (pc0 := 204) (pc' := 211) rfl (hb hby at_204) rfl (feq hc204_101).2 (by decide) (by decide) ?_
                    exact k
                  refine Goes.run X100 hx hown hci hcl hby (L := [(211, .iconst 0, 1)]) (by decide +kernel) rfl (g' := (mkF m 212 #[.val (.long x0), .second, .val (.long x1), .second, .val (.long x2), .second, .val (.long x3), .second, .val (.int x4), .val (.int (2 : Int32)), .val (.int (0 : Int32)), .val (.int (j0_32_s0 x0 x1 x2 x3 x4)), .val (.long (j0_48_s0 x0 x1 x2 x3 x4)), .second, .val (.long (j0_64_s0 x0 x1 x2 x3 x4)), .second, .val (.ref b91), .val (.ref b92), .val (.long x0), .second, .val (.long x1), .second, .val (.long (0 : Int64)), .second, .val (.long (0 : Int64)), .second, .val (.int (j0_193_s0_f x0 x1 x2 x3 x4))] [(.int (0 : Int32))])) rfl ?_
                  exact Goes.retB X100 hx hlk (t := .boolean) Bd.returns (by simp) (hb hby at_212) rfl ⟨(congrArg (fun z => some (Value.int z)) (show (r0 x0 x1 x2 x3 x4) = (0 : Int32) from ((((if_neg hs86_9).trans (if_neg hs86_49)).trans (if_pos hs86_90)).trans (if_neg hc204_101))).symm), N100⟩ (by decide) (by decide)
              by_cases hc171_97 : ((0 : Int64) &&& (x0 ^^^ (-1 : Int64))) = (0 : Int64)
              · skip
                refine Goes.st (B := T92.setTop (mkF m 174 #[.val (.long x0), .second, .val (.long x1), .second, .val (.long x2), .second, .val (.long x3), .second, .val (.int x4), .val (.int (2 : Int32)), .val (.int (0 : Int32)), .val (.int (j0_32_s0 x0 x1 x2 x3 x4)), .val (.long (j0_48_s0 x0 x1 x2 x3 x4)), .second, .val (.long (j0_64_s0 x0 x1 x2 x3 x4)), .second, .val (.ref b91), .val (.ref b92), .val (.long x0), .second, .val (.long x1), .second, .val (.long (0 : Int64)), .second, .val (.long (0 : Int64)), .second, .unset] [])) (fun t k => ?_) ?_
                · refine XS.ifNo X92.here hx rfl (hb hby at_171) rfl (teqL hc171_97).2 ?_
                  exact k
                refine Goes.run X92 hx hown hci hcl hby (L := [(174, .lload 24, 2), (176, .lload 20, 2), (178, .ldc2_w 17, 3), (181, .lxor, 1), (182, .land, 1), (183, .lconst 0, 1)]) (by decide +kernel) rfl (g' := (mkF m 184 #[.val (.long x0), .second, .val (.long x1), .second, .val (.long x2), .second, .val (.long x3), .second, .val (.int x4), .val (.int (2 : Int32)), .val (.int (0 : Int32)), .val (.int (j0_32_s0 x0 x1 x2 x3 x4)), .val (.long (j0_48_s0 x0 x1 x2 x3 x4)), .second, .val (.long (j0_64_s0 x0 x1 x2 x3 x4)), .second, .val (.ref b91), .val (.ref b92), .val (.long x0), .second, .val (.long x1), .second, .val (.long (0 : Int64)), .second, .val (.long (0 : Int64)), .second, .unset] [(.long (0 : Int64)), (.long ((0 : Int64) &&& (x1 ^^^ (-1 : Int64))))])) rfl ?_
                refine Goes.run X92 hx hown hci hcl hby (L := [(184, .lcmp, 1)]) (by decide +kernel) rfl (g' := (mkF m 185 #[.val (.long x0), .second, .val (.long x1), .second, .val (.long x2), .second, .val (.long x3), .second, .val (.int x4), .val (.int (2 : Int32)), .val (.int (0 : Int32)), .val (.int (j0_32_s0 x0 x1 x2 x3 x4)), .val (.long (j0_48_s0 x0 x1 x2 x3 x4)), .second, .val (.long (j0_64_s0 x0 x1 x2 x3 x4)), .second, .val (.ref b91), .val (.ref b92), .val (.long x0), .second, .val (.long x1), .second, .val (.long (0 : Int64)), .second, .val (.long (0 : Int64)), .second, .unset] [(.int (lcmpW ((0 : Int64) &&& (x1 ^^^ (-1 : Int64))) (0 : Int64)))])) rfl ?_
                by_cases hc185_102 : ((0 : Int64) &&& (x1 ^^^ (-1 : Int64))) = (0 : Int64)
                · skip
                  refine Goes.st (B := T92.setTop (mkF m 188 #[.val (.long x0), .second, .val (.long x1), .second, .val (.long x2), .second, .val (.long x3), .second, .val (.int x4), .val (.int (2 : Int32)), .val (.int (0 : Int32)), .val (.int (j0_32_s0 x0 x1 x2 x3 x4)), .val (.long (j0_48_s0 x0 x1 x2 x3 x4)), .second, .val (.long (j0_64_s0 x0 x1 x2 x3 x4)), .second, .val (.ref b91), .val (.ref b92), .val (.long x0), .second, .val (.long x1), .second, .val (.long (0 : Int64)), .second, .val (.long (0 : Int64)), .second, .unset] [])) (fun t k => ?_) ?_
                  · refine XS.ifNo X92.here hx rfl (hb hby at_185) rfl (teqL hc185_102).2 ?_
                    exact k
                  refine Goes.run X92 hx hown hci hcl hby (L := [(188, .iconst 1, 1), (189, .goto 4, 3)]) (by decide +kernel) rfl (g' := (mkF m 193 #[.val (.long x0), .second, .val (.long x1), .second, .val (.long x2), .second, .val (.long x3), .second, .val (.int x4), .val (.int (2 : Int32)), .val (.int (0 : Int32)), .val (.int (j0_32_s0 x0 x1 x2 x3 x4)), .val (.long (j0_48_s0 x0 x1 x2 x3 x4)), .second, .val (.long (j0_64_s0 x0 x1 x2 x3 x4)), .second, .val (.ref b91), .val (.ref b92), .val (.long x0), .second, .val (.long x1), .second, .val (.long (0 : Int64)), .second, .val (.long (0 : Int64)), .second, .unset] [(.int (1 : Int32))])) rfl ?_
                  have q := jn193_99
                  rw [show (j0_193_s0_f x0 x1 x2 x3 x4) = (1 : Int32) from ((if_pos hc171_97).trans (if_pos hc185_102))] at q
                  exact q
                · skip
                  refine Goes.st (B := T92.setTop (mkF m 192 #[.val (.long x0), .second, .val (.long x1), .second, .val (.long x2), .second, .val (.long x3), .second, .val (.int x4), .val (.int (2 : Int32)), .val (.int (0 : Int32)), .val (.int (j0_32_s0 x0 x1 x2 x3 x4)), .val (.long (j0_48_s0 x0 x1 x2 x3 x4)), .second, .val (.long (j0_64_s0 x0 x1 x2 x3 x4)), .second, .val (.ref b91), .val (.ref b92), .val (.long x0), .second, .val (.long x1), .second, .val (.long (0 : Int64)), .second, .val (.long (0 : Int64)), .second, .unset] [])) (fun t k => ?_) ?_
                  · refine XS.ifYes X92.here hx rfl (pc0 := 185) (pc' := 192) rfl (hb hby at_185) rfl (feqL hc185_102).2 (by decide) (by decide) ?_
                    exact k
                  refine Goes.run X92 hx hown hci hcl hby (L := [(192, .iconst 0, 1)]) (by decide +kernel) rfl (g' := (mkF m 193 #[.val (.long x0), .second, .val (.long x1), .second, .val (.long x2), .second, .val (.long x3), .second, .val (.int x4), .val (.int (2 : Int32)), .val (.int (0 : Int32)), .val (.int (j0_32_s0 x0 x1 x2 x3 x4)), .val (.long (j0_48_s0 x0 x1 x2 x3 x4)), .second, .val (.long (j0_64_s0 x0 x1 x2 x3 x4)), .second, .val (.ref b91), .val (.ref b92), .val (.long x0), .second, .val (.long x1), .second, .val (.long (0 : Int64)), .second, .val (.long (0 : Int64)), .second, .unset] [(.int (0 : Int32))])) rfl ?_
                  have q := jn193_99
                  rw [show (j0_193_s0_f x0 x1 x2 x3 x4) = (0 : Int32) from ((if_pos hc171_97).trans (if_neg hc185_102))] at q
                  exact q
              · skip
                refine Goes.st (B := T92.setTop (mkF m 192 #[.val (.long x0), .second, .val (.long x1), .second, .val (.long x2), .second, .val (.long x3), .second, .val (.int x4), .val (.int (2 : Int32)), .val (.int (0 : Int32)), .val (.int (j0_32_s0 x0 x1 x2 x3 x4)), .val (.long (j0_48_s0 x0 x1 x2 x3 x4)), .second, .val (.long (j0_64_s0 x0 x1 x2 x3 x4)), .second, .val (.ref b91), .val (.ref b92), .val (.long x0), .second, .val (.long x1), .second, .val (.long (0 : Int64)), .second, .val (.long (0 : Int64)), .second, .unset] [])) (fun t k => ?_) ?_
                · refine XS.ifYes X92.here hx rfl (pc0 := 171) (pc' := 192) rfl (hb hby at_171) rfl (feqL hc171_97).2 (by decide) (by decide) ?_
                  exact k
                refine Goes.run X92 hx hown hci hcl hby (L := [(192, .iconst 0, 1)]) (by decide +kernel) rfl (g' := (mkF m 193 #[.val (.long x0), .second, .val (.long x1), .second, .val (.long x2), .second, .val (.long x3), .second, .val (.int x4), .val (.int (2 : Int32)), .val (.int (0 : Int32)), .val (.int (j0_32_s0 x0 x1 x2 x3 x4)), .val (.long (j0_48_s0 x0 x1 x2 x3 x4)), .second, .val (.long (j0_64_s0 x0 x1 x2 x3 x4)), .second, .val (.ref b91), .val (.ref b92), .val (.long x0), .second, .val (.long x1), .second, .val (.long (0 : Int64)), .second, .val (.long (0 : Int64)), .second, .unset] [(.int (0 : Int32))])) rfl ?_
                have q := jn193_99
                rw [show (j0_193_s0_f x0 x1 x2 x3 x4) = (0 : Int32) from (if_neg hc171_97)] at q
                exact q
            · skip
              by_cases hs86_103 : (w0_84 x0 x1 x2 x3 x4) = (1 : Int32)
              · skip
                rw [hs86_103]
                refine Goes.run X8 hx hown hci hcl hby (L := [(86, .iload 9, 2), (88, .lload_n 0, 1), (89, .lload_n 2, 1)]) (by decide +kernel) rfl (g' := (mkF m 90 #[.val (.long x0), .second, .val (.long x1), .second, .val (.long x2), .second, .val (.long x3), .second, .val (.int x4), .val (.int (2 : Int32)), .val (.int (1 : Int32)), .val (.int (j0_32_s0 x0 x1 x2 x3 x4)), .val (.long (j0_48_s0 x0 x1 x2 x3 x4)), .second, .val (.long (j0_64_s0 x0 x1 x2 x3 x4)), .second, .unset, .unset, .unset, .unset, .unset, .unset, .unset, .unset, .unset, .unset, .unset] [(.long x1), (.long x0), (.int (2 : Int32))])) rfl ?_
                obtain ⟨_, _, ⟨T104, L104, k104, n104⟩, -, X104, ⟨Lc104, hQ104, l104, y104, z104⟩, st104⟩ := Jvm.LawKit.callS X8 hx (y := (⟨"com/example/marks_across_domains/marksacrossdomains/BitsContainsPinLaw", "make", "(IJJ)[J"⟩ : MethodName)) hown (mvT hZ (hw _ (List.mem_of_getElem? (i := 4) rfl))) (mvT hZ (hw _ (List.mem_of_getElem? (i := 5) rfl))) (mvT hZ (hw _ (List.mem_of_getElem? (i := 2) rfl))) (mvT hZ (hw _ (List.mem_of_getElem? (i := 6) rfl))) (by decide) (backOf (W := 0) (rm22 l Z a0 hw [] x0 x1 h0 n0 Z0 ) hZ (hw _ (List.mem_of_getElem? (i := 6) rfl)) (hw _ (List.mem_of_getElem? (i := 2) rfl)) (by decide) (by decide)) (g := (mkF m 90 #[.val (.long x0), .second, .val (.long x1), .second, .val (.long x2), .second, .val (.long x3), .second, .val (.int x4), .val (.int (2 : Int32)), .val (.int (1 : Int32)), .val (.int (j0_32_s0 x0 x1 x2 x3 x4)), .val (.long (j0_48_s0 x0 x1 x2 x3 x4)), .second, .val (.long (j0_64_s0 x0 x1 x2 x3 x4)), .second, .unset, .unset, .unset, .unset, .unset, .unset, .unset, .unset, .unset, .unset, .unset] [(.long x1), (.long x0), (.int (2 : Int32))])) rfl (by rw [hml]; rfl) (argsL := [(.int (2 : Int32)), (.long x0), (.long x1)]) (rest := []) (lenOf pd0_1 rfl) rfl (by show 2 * 0 + _ ≤ _; exact Nat.le_of_eq rfl) (hb hby at_90) (fun _ _ => ⟨rfl, e8, (by decide : 0 + 1 ≤ _), (by decide : 0 + 2 ≤ _)⟩)
                dsimp only [Pt.U, Pt.locs, Pt.cells, Pt.slots] at X104 l104 y104 z104 st104 hQ104
                subst l104 y104 z104
                obtain ⟨h104, eh104⟩ : ∃ z, z = T104.heap := ⟨_, rfl⟩
                rw [← eh104] at hQ104
                have e104 : T104.heap = h104 := eh104.symm
                obtain ⟨b104, kc104, rfl, N104q, Kq104, szq104, o104_0, o104_1⟩ := hQ104
                have g_b104 : n0 ≤ b104 := Nat.le_trans Z0 szq104
                have N104 := Fr.app N8 N104q
                have E_b104 : Exa Z h104 b104 "[J" := o104_0
                have V_b104 : Arv Z h104 b104 kc104 .long (2 : Int32) [(.long x0), (.long x1)] (.long (0 : Int64)) := o104_1
                have Zn104 : n0 ≤ h104.size := Nat.le_trans Z0 Kq104.1
                refine Goes.st (B := T104.setTop (mkF m 93 #[.val (.long x0), .second, .val (.long x1), .second, .val (.long x2), .second, .val (.long x3), .second, .val (.int x4), .val (.int (2 : Int32)), .val (.int (1 : Int32)), .val (.int (j0_32_s0 x0 x1 x2 x3 x4)), .val (.long (j0_48_s0 x0 x1 x2 x3 x4)), .second, .val (.long (j0_64_s0 x0 x1 x2 x3 x4)), .second, .unset, .unset, .unset, .unset, .unset, .unset, .unset, .unset, .unset, .unset, .unset] [(.ref b104)])) st104 ?_
                refine Goes.run X104 hx hown hci hcl hby (L := [(93, .astore 16, 2), (95, .iload 10, 2), (97, .lload 12, 2), (99, .lload 14, 2)]) (by decide +kernel) rfl (g' := (mkF m 101 #[.val (.long x0), .second, .val (.long x1), .second, .val (.long x2), .second, .val (.long x3), .second, .val (.int x4), .val (.int (2 : Int32)), .val (.int (1 : Int32)), .val (.int (j0_32_s0 x0 x1 x2 x3 x4)), .val (.long (j0_48_s0 x0 x1 x2 x3 x4)), .second, .val (.long (j0_64_s0 x0 x1 x2 x3 x4)), .second, .val (.ref b104), .unset, .unset, .unset, .unset, .unset, .unset, .unset, .unset, .unset, .unset] [(.long (j0_64_s0 x0 x1 x2 x3 x4)), (.long (j0_48_s0 x0 x1 x2 x3 x4)), (.int (1 : Int32))])) rfl ?_
                obtain ⟨_, _, ⟨T105, L105, k105, n105⟩, -, X105, ⟨Lc105, hQ105, l105, y105, z105⟩, st105⟩ := Jvm.LawKit.callS X104 hx (y := (⟨"com/example/marks_across_domains/marksacrossdomains/BitsContainsPinLaw", "make", "(IJJ)[J"⟩ : MethodName)) hown (mvT hZ (hw _ (List.mem_of_getElem? (i := 4) rfl))) (mvT hZ (hw _ (List.mem_of_getElem? (i := 5) rfl))) (mvT hZ (hw _ (List.mem_of_getElem? (i := 2) rfl))) (mvT hZ (hw _ (List.mem_of_getElem? (i := 6) rfl))) (by decide) (backOf (W := 0) (rm21 l Z a0 hw [] (j0_48_s0 x0 x1 x2 x3 x4) (j0_64_s0 x0 x1 x2 x3 x4) h104 n0 Zn104 ) hZ (hw _ (List.mem_of_getElem? (i := 6) rfl)) (hw _ (List.mem_of_getElem? (i := 2) rfl)) (by decide) (by decide)) (g := (mkF m 101 #[.val (.long x0), .second, .val (.long x1), .second, .val (.long x2), .second, .val (.long x3), .second, .val (.int x4), .val (.int (2 : Int32)), .val (.int (1 : Int32)), .val (.int (j0_32_s0 x0 x1 x2 x3 x4)), .val (.long (j0_48_s0 x0 x1 x2 x3 x4)), .second, .val (.long (j0_64_s0 x0 x1 x2 x3 x4)), .second, .val (.ref b104), .unset, .unset, .unset, .unset, .unset, .unset, .unset, .unset, .unset, .unset] [(.long (j0_64_s0 x0 x1 x2 x3 x4)), (.long (j0_48_s0 x0 x1 x2 x3 x4)), (.int (1 : Int32))])) rfl (by rw [hml]; rfl) (argsL := [(.int (1 : Int32)), (.long (j0_48_s0 x0 x1 x2 x3 x4)), (.long (j0_64_s0 x0 x1 x2 x3 x4))]) (rest := []) (lenOf pd0_1 rfl) rfl (by show 2 * 0 + _ ≤ _; exact Nat.le_of_eq rfl) (hb hby at_101) (fun _ _ => ⟨rfl, e104, (by decide : 1 + 1 ≤ _), (by decide : 2 + 1 ≤ _)⟩)
                dsimp only [Pt.U, Pt.locs, Pt.cells, Pt.slots] at X105 l105 y105 z105 st105 hQ105
                subst l105 y105 z105
                obtain ⟨h105, eh105⟩ : ∃ z, z = T105.heap := ⟨_, rfl⟩
                rw [← eh105] at hQ105
                have e105 : T105.heap = h105 := eh105.symm
                obtain ⟨b105, kc105, rfl, N105q, Kq105, szq105, o105_0, o105_1⟩ := hQ105
                have ne_b104_b105 : b104 ≠ b105 := Nat.ne_of_lt (Nat.lt_of_lt_of_le E_b104.lt szq105)
                have g_b105 : n0 ≤ b105 := Nat.le_trans Zn104 szq105
                have N105 := Fr.app N104 N105q
                have E_b104 := E_b104.keep Kq105
                have V_b104 := V_b104.keep Kq105 nin0
                have E_b105 : Exa Z h105 b105 "[J" := o105_0
                have V_b105 : Arv Z h105 b105 kc105 .long (1 : Int32) [(.long (j0_48_s0 x0 x1 x2 x3 x4))] (.long (0 : Int64)) := o105_1
                have Zn105 : n0 ≤ h105.size := Nat.le_trans Zn104 Kq105.1
                refine Goes.st (B := T105.setTop (mkF m 104 #[.val (.long x0), .second, .val (.long x1), .second, .val (.long x2), .second, .val (.long x3), .second, .val (.int x4), .val (.int (2 : Int32)), .val (.int (1 : Int32)), .val (.int (j0_32_s0 x0 x1 x2 x3 x4)), .val (.long (j0_48_s0 x0 x1 x2 x3 x4)), .second, .val (.long (j0_64_s0 x0 x1 x2 x3 x4)), .second, .val (.ref b104), .unset, .unset, .unset, .unset, .unset, .unset, .unset, .unset, .unset, .unset] [(.ref b105)])) st105 ?_
                refine Goes.run X105 hx hown hci hcl hby (L := [(104, .astore 17, 2), (106, .iload 9, 2), (108, .iconst 1, 1)]) (by decide +kernel) rfl (g' := (mkF m 109 #[.val (.long x0), .second, .val (.long x1), .second, .val (.long x2), .second, .val (.long x3), .second, .val (.int x4), .val (.int (2 : Int32)), .val (.int (1 : Int32)), .val (.int (j0_32_s0 x0 x1 x2 x3 x4)), .val (.long (j0_48_s0 x0 x1 x2 x3 x4)), .second, .val (.long (j0_64_s0 x0 x1 x2 x3 x4)), .second, .val (.ref b104), .val (.ref b105), .unset, .unset, .unset, .unset, .unset, .unset, .unset, .unset, .unset] [(.int (1 : Int32)), (.int (2 : Int32))])) rfl ?_
                have hc109_106 : ¬ ((2 : Int32) < (1 : Int32)) := by decide
                refine Goes.st (B := T105.setTop (mkF m 112 #[.val (.long x0), .second, .val (.long x1), .second, .val (.long x2), .second, .val (.long x3), .second, .val (.int x4), .val (.int (2 : Int32)), .val (.int (1 : Int32)), .val (.int (j0_32_s0 x0 x1 x2 x3 x4)), .val (.long (j0_48_s0 x0 x1 x2 x3 x4)), .second, .val (.long (j0_64_s0 x0 x1 x2 x3 x4)), .second, .val (.ref b104), .val (.ref b105), .unset, .unset, .unset, .unset, .unset, .unset, .unset, .unset, .unset] [])) (fun t k => ?_) ?_
                · refine XS.icmpNo X105.here hx rfl (hb hby at_109) rfl (flt hc109_106).1 ?_
                  exact k
                refine Goes.run X105 hx hown hci hcl hby (L := [(112, .lload_n 0, 1), (113, .goto 4, 3), (117, .lstore 18, 2), (119, .iload 9, 2), (121, .iconst 2, 1)]) (by decide +kernel) rfl (g' := (mkF m 122 #[.val (.long x0), .second, .val (.long x1), .second, .val (.long x2), .second, .val (.long x3), .second, .val (.int x4), .val (.int (2 : Int32)), .val (.int (1 : Int32)), .val (.int (j0_32_s0 x0 x1 x2 x3 x4)), .val (.long (j0_48_s0 x0 x1 x2 x3 x4)), .second, .val (.long (j0_64_s0 x0 x1 x2 x3 x4)), .second, .val (.ref b104), .val (.ref b105), .val (.long x0), .second, .unset, .unset, .unset, .unset, .unset, .unset, .unset] [(.int (2 : Int32)), (.int (2 : Int32))])) rfl ?_
                have hc122_107 : ¬ ((2 : Int32) < (2 : Int32)) := Int32.lt_irrefl
                refine Goes.st (B := T105.setTop (mkF m 125 #[.val (.long x0), .second, .val (.long x1), .second, .val (.long x2), .second, .val (.long x3), .second, .val (.int x4), .val (.int (2 : Int32)), .val (.int (1 : Int32)), .val (.int (j0_32_s0 x0 x1 x2 x3 x4)), .val (.long (j0_48_s0 x0 x1 x2 x3 x4)), .second, .val (.long (j0_64_s0 x0 x1 x2 x3 x4)), .second, .val (.ref b104), .val (.ref b105), .val (.long x0), .second, .unset, .unset, .unset, .unset, .unset, .unset, .unset] [])) (fun t k => ?_) ?_
                · refine XS.icmpNo X105.here hx rfl (hb hby at_122) rfl (flt hc122_107).1 ?_
                  exact k
                refine Goes.run X105 hx hown hci hcl hby (L := [(125, .lload_n 2, 1), (126, .goto 4, 3), (130, .lstore 20, 2), (132, .iload 10, 2), (134, .iconst 1, 1)]) (by decide +kernel) rfl (g' := (mkF m 135 #[.val (.long x0), .second, .val (.long x1), .second, .val (.long x2), .second, .val (.long x3), .second, .val (.int x4), .val (.int (2 : Int32)), .val (.int (1 : Int32)), .val (.int (j0_32_s0 x0 x1 x2 x3 x4)), .val (.long (j0_48_s0 x0 x1 x2 x3 x4)), .second, .val (.long (j0_64_s0 x0 x1 x2 x3 x4)), .second, .val (.ref b104), .val (.ref b105), .val (.long x0), .second, .val (.long x1), .second, .unset, .unset, .unset, .unset, .unset] [(.int (1 : Int32)), (.int (1 : Int32))])) rfl ?_
                have hc135_108 : ¬ ((1 : Int32) < (1 : Int32)) := Int32.lt_irrefl
                refine Goes.st (B := T105.setTop (mkF m 138 #[.val (.long x0), .second, .val (.long x1), .second, .val (.long x2), .second, .val (.long x3), .second, .val (.int x4), .val (.int (2 : Int32)), .val (.int (1 : Int32)), .val (.int (j0_32_s0 x0 x1 x2 x3 x4)), .val (.long (j0_48_s0 x0 x1 x2 x3 x4)), .second, .val (.long (j0_64_s0 x0 x1 x2 x3 x4)), .second, .val (.ref b104), .val (.ref b105), .val (.long x0), .second, .val (.long x1), .second, .unset, .unset, .unset, .unset, .unset] [])) (fun t k => ?_) ?_
                · refine XS.icmpNo X105.here hx rfl (hb hby at_135) rfl (flt hc135_108).1 ?_
                  exact k
                refine Goes.run X105 hx hown hci hcl hby (L := [(138, .lload 12, 2), (140, .goto 4, 3), (144, .lstore 22, 2), (146, .iload 10, 2), (148, .iconst 2, 1)]) (by decide +kernel) rfl (g' := (mkF m 149 #[.val (.long x0), .second, .val (.long x1), .second, .val (.long x2), .second, .val (.long x3), .second, .val (.int x4), .val (.int (2 : Int32)), .val (.int (1 : Int32)), .val (.int (j0_32_s0 x0 x1 x2 x3 x4)), .val (.long (j0_48_s0 x0 x1 x2 x3 x4)), .second, .val (.long (j0_64_s0 x0 x1 x2 x3 x4)), .second, .val (.ref b104), .val (.ref b105), .val (.long x0), .second, .val (.long x1), .second, .val (.long (j0_48_s0 x0 x1 x2 x3 x4)), .second, .unset, .unset, .unset] [(.int (2 : Int32)), (.int (1 : Int32))])) rfl ?_
                have hc149_109 : (1 : Int32) < (2 : Int32) := by decide
                refine Goes.st (B := T105.setTop (mkF m 157 #[.val (.long x0), .second, .val (.long x1), .second, .val (.long x2), .second, .val (.long x3), .second, .val (.int x4), .val (.int (2 : Int32)), .val (.int (1 : Int32)), .val (.int (j0_32_s0 x0 x1 x2 x3 x4)), .val (.long (j0_48_s0 x0 x1 x2 x3 x4)), .second, .val (.long (j0_64_s0 x0 x1 x2 x3 x4)), .second, .val (.ref b104), .val (.ref b105), .val (.long x0), .second, .val (.long x1), .second, .val (.long (j0_48_s0 x0 x1 x2 x3 x4)), .second, .unset, .unset, .unset] [])) (fun t k => ?_) ?_
                · refine XS.icmpYes X105.here hx rfl (pc0 := 149) (pc' := 157) rfl (hb hby at_149) rfl (tlt hc149_109).1 (by decide) (by decide) ?_
                  exact k
                refine Goes.run X105 hx hown hci hcl hby (L := [(157, .lconst 0, 1), (158, .lstore 24, 2), (160, .lload 22, 2), (162, .lload 18, 2), (164, .ldc2_w 17, 3), (167, .lxor, 1)]) (by decide +kernel) rfl (g' := (mkF m 168 #[.val (.long x0), .second, .val (.long x1), .second, .val (.long x2), .second, .val (.long x3), .second, .val (.int x4), .val (.int (2 : Int32)), .val (.int (1 : Int32)), .val (.int (j0_32_s0 x0 x1 x2 x3 x4)), .val (.long (j0_48_s0 x0 x1 x2 x3 x4)), .second, .val (.long (j0_64_s0 x0 x1 x2 x3 x4)), .second, .val (.ref b104), .val (.ref b105), .val (.long x0), .second, .val (.long x1), .second, .val (.long (j0_48_s0 x0 x1 x2 x3 x4)), .second, .val (.long (0 : Int64)), .second, .unset] [(.long (x0 ^^^ (-1 : Int64))), (.long (j0_48_s0 x0 x1 x2 x3 x4))])) rfl ?_
                refine Goes.run X105 hx hown hci hcl hby (L := [(168, .land, 1), (169, .lconst 0, 1), (170, .lcmp, 1)]) (by decide +kernel) rfl (g' := (mkF m 171 #[.val (.long x0), .second, .val (.long x1), .second, .val (.long x2), .second, .val (.long x3), .second, .val (.int x4), .val (.int (2 : Int32)), .val (.int (1 : Int32)), .val (.int (j0_32_s0 x0 x1 x2 x3 x4)), .val (.long (j0_48_s0 x0 x1 x2 x3 x4)), .second, .val (.long (j0_64_s0 x0 x1 x2 x3 x4)), .second, .val (.ref b104), .val (.ref b105), .val (.long x0), .second, .val (.long x1), .second, .val (.long (j0_48_s0 x0 x1 x2 x3 x4)), .second, .val (.long (0 : Int64)), .second, .unset] [(.int (lcmpW ((j0_48_s0 x0 x1 x2 x3 x4) &&& (x0 ^^^ (-1 : Int64))) (0 : Int64)))])) rfl ?_
                have jn193_112 : Goes p e below s (QL (some (.int (r0 x0 x1 x2 x3 x4))) n0) room_1.cells room_1.slots (T105.setTop (mkF m 193 #[.val (.long x0), .second, .val (.long x1), .second, .val (.long x2), .second, .val (.long x3), .second, .val (.int x4), .val (.int (2 : Int32)), .val (.int (1 : Int32)), .val (.int (j0_32_s0 x0 x1 x2 x3 x4)), .val (.long (j0_48_s0 x0 x1 x2 x3 x4)), .second, .val (.long (j0_64_s0 x0 x1 x2 x3 x4)), .second, .val (.ref b104), .val (.ref b105), .val (.long x0), .second, .val (.long x1), .second, .val (.long (j0_48_s0 x0 x1 x2 x3 x4)), .second, .val (.long (0 : Int64)), .second, .unset] [(.int (j0_193_s0_g x0 x1 x2 x3 x4))])) := by
                  refine Goes.run X105 hx hown hci hcl hby (L := [(193, .istore 26, 2), (195, .aload 16, 2), (197, .aload 17, 2)]) (by decide +kernel) rfl (g' := (mkF m 199 #[.val (.long x0), .second, .val (.long x1), .second, .val (.long x2), .second, .val (.long x3), .second, .val (.int x4), .val (.int (2 : Int32)), .val (.int (1 : Int32)), .val (.int (j0_32_s0 x0 x1 x2 x3 x4)), .val (.long (j0_48_s0 x0 x1 x2 x3 x4)), .second, .val (.long (j0_64_s0 x0 x1 x2 x3 x4)), .second, .val (.ref b104), .val (.ref b105), .val (.long x0), .second, .val (.long x1), .second, .val (.long (j0_48_s0 x0 x1 x2 x3 x4)), .second, .val (.long (0 : Int64)), .second, .val (.int (j0_193_s0_g x0 x1 x2 x3 x4))] [(.ref b105), (.ref b104)])) rfl ?_
                  obtain ⟨_, _, ⟨T113, L113, k113, n113⟩, -, X113, ⟨Lc113, hQ113, l113, y113, z113⟩, st113⟩ := Jvm.LawKit.callS X105 hx (y := (⟨"com/example/marks_across_domains/marksacrossdomains/Bits", "contains", "([J[J)Z"⟩ : MethodName)) hown (mvT hZ (hw _ (List.mem_of_getElem? (i := 9) rfl))) (mvT hZ (hw _ (List.mem_of_getElem? (i := 10) rfl))) (mvT hZ (hw _ (List.mem_of_getElem? (i := 11) rfl))) (mvT hZ (hw _ (List.mem_of_getElem? (i := 12) rfl))) (by decide) (backOf (W := 0) (rm321 l Z a0 hw [] b104 b105 kc104 kc105 x0 x1 (j0_48_s0 x0 x1 x2 x3 x4) h105 n0 Zn105 V_b104 V_b105) hZ (hw _ (List.mem_of_getElem? (i := 12) rfl)) (hw _ (List.mem_of_getElem? (i := 11) rfl)) (by decide) (by decide)) (g := (mkF m 199 #[.val (.long x0), .second, .val (.long x1), .second, .val (.long x2), .second, .val (.long x3), .second, .val (.int x4), .val (.int (2 : Int32)), .val (.int (1 : Int32)), .val (.int (j0_32_s0 x0 x1 x2 x3 x4)), .val (.long (j0_48_s0 x0 x1 x2 x3 x4)), .second, .val (.long (j0_64_s0 x0 x1 x2 x3 x4)), .second, .val (.ref b104), .val (.ref b105), .val (.long x0), .second, .val (.long x1), .second, .val (.long (j0_48_s0 x0 x1 x2 x3 x4)), .second, .val (.long (0 : Int64)), .second, .val (.int (j0_193_s0_g x0 x1 x2 x3 x4))] [(.ref b105), (.ref b104)])) rfl (by rw [hml]; rfl) (argsL := [(.ref b104), (.ref b105)]) (rest := []) (lenOf pd0_2 rfl) rfl (by show 2 * 0 + _ ≤ _; exact Nat.le_of_eq rfl) (hb hby at_199) (fun _ _ => ⟨rfl, e105, (by decide : 2 + 0 ≤ _), (by decide : 3 + 0 ≤ _)⟩)
                  dsimp only [Pt.U, Pt.locs, Pt.cells, Pt.slots] at X113 l113 y113 z113 st113 hQ113
                  subst l113 y113 z113
                  obtain ⟨rfl, N113q, e113⟩ := hQ113
                  have N113 := Fr.app N105 N113q
                  refine Goes.st (B := T113.setTop (mkF m 202 #[.val (.long x0), .second, .val (.long x1), .second, .val (.long x2), .second, .val (.long x3), .second, .val (.int x4), .val (.int (2 : Int32)), .val (.int (1 : Int32)), .val (.int (j0_32_s0 x0 x1 x2 x3 x4)), .val (.long (j0_48_s0 x0 x1 x2 x3 x4)), .second, .val (.long (j0_64_s0 x0 x1 x2 x3 x4)), .second, .val (.ref b104), .val (.ref b105), .val (.long x0), .second, .val (.long x1), .second, .val (.long (j0_48_s0 x0 x1 x2 x3 x4)), .second, .val (.long (0 : Int64)), .second, .val (.int (j0_193_s0_g x0 x1 x2 x3 x4))] [(.int (r321 x0 x1 (j0_48_s0 x0 x1 x2 x3 x4)))])) st113 ?_
                  refine Goes.run X113 hx hown hci hcl hby (L := [(202, .iload 26, 2)]) (by decide +kernel) rfl (g' := (mkF m 204 #[.val (.long x0), .second, .val (.long x1), .second, .val (.long x2), .second, .val (.long x3), .second, .val (.int x4), .val (.int (2 : Int32)), .val (.int (1 : Int32)), .val (.int (j0_32_s0 x0 x1 x2 x3 x4)), .val (.long (j0_48_s0 x0 x1 x2 x3 x4)), .second, .val (.long (j0_64_s0 x0 x1 x2 x3 x4)), .second, .val (.ref b104), .val (.ref b105), .val (.long x0), .second, .val (.long x1), .second, .val (.long (j0_48_s0 x0 x1 x2 x3 x4)), .second, .val (.long (0 : Int64)), .second, .val (.int (j0_193_s0_g x0 x1 x2 x3 x4))] [(.int (j0_193_s0_g x0 x1 x2 x3 x4)), (.int (r321 x0 x1 (j0_48_s0 x0 x1 x2 x3 x4)))])) rfl ?_
                  by_cases hc204_114 : (r321 x0 x1 (j0_48_s0 x0 x1 x2 x3 x4)) = (j0_193_s0_g x0 x1 x2 x3 x4)
                  · skip
                    refine Goes.st (B := T113.setTop (mkF m 207 #[.val (.long x0), .second, .val (.long x1), .second, .val (.long x2), .second, .val (.long x3), .second, .val (.int x4), .val (.int (2 : Int32)), .val (.int (1 : Int32)), .val (.int (j0_32_s0 x0 x1 x2 x3 x4)), .val (.long (j0_48_s0 x0 x1 x2 x3 x4)), .second, .val (.long (j0_64_s0 x0 x1 x2 x3 x4)), .second, .val (.ref b104), .val (.ref b105), .val (.long x0), .second, .val (.long x1), .second, .val (.long (j0_48_s0 x0 x1 x2 x3 x4)), .second, .val (.long (0 : Int64)), .second, .val (.int (j0_193_s0_g x0 x1 x2 x3 x4))] [])) (fun t k => ?_) ?_
                    · refine XS.icmpNo X113.here hx rfl (hb hby at_204) rfl (teq hc204_114).2 ?_
                      exact k
                    refine Goes.run X113 hx hown hci hcl hby (L := [(207, .iconst 1, 1), (208, .goto 4, 3)]) (by decide +kernel) rfl (g' := (mkF m 212 #[.val (.long x0), .second, .val (.long x1), .second, .val (.long x2), .second, .val (.long x3), .second, .val (.int x4), .val (.int (2 : Int32)), .val (.int (1 : Int32)), .val (.int (j0_32_s0 x0 x1 x2 x3 x4)), .val (.long (j0_48_s0 x0 x1 x2 x3 x4)), .second, .val (.long (j0_64_s0 x0 x1 x2 x3 x4)), .second, .val (.ref b104), .val (.ref b105), .val (.long x0), .second, .val (.long x1), .second, .val (.long (j0_48_s0 x0 x1 x2 x3 x4)), .second, .val (.long (0 : Int64)), .second, .val (.int (j0_193_s0_g x0 x1 x2 x3 x4))] [(.int (1 : Int32))])) rfl ?_
                    exact Goes.retB X113 hx hlk (t := .boolean) Bd.returns (by simp) (hb hby at_212) rfl ⟨(congrArg (fun z => some (Value.int z)) (show (r0 x0 x1 x2 x3 x4) = (1 : Int32) from (((((if_neg hs86_9).trans (if_neg hs86_49)).trans (if_neg hs86_90)).trans (if_pos hs86_103)).trans (if_pos hc204_114))).symm), N113⟩ (by decide) (by decide)
                  · skip
                    refine Goes.st (B := T113.setTop (mkF m 211 #[.val (.long x0), .second, .val (.long x1), .second, .val (.long x2), .second, .val (.long x3), .second, .val (.int x4), .val (.int (2 : Int32)), .val (.int (1 : Int32)), .val (.int (j0_32_s0 x0 x1 x2 x3 x4)), .val (.long (j0_48_s0 x0 x1 x2 x3 x4)), .second, .val (.long (j0_64_s0 x0 x1 x2 x3 x4)), .second, .val (.ref b104), .val (.ref b105), .val (.long x0), .second, .val (.long x1), .second, .val (.long (j0_48_s0 x0 x1 x2 x3 x4)), .second, .val (.long (0 : Int64)), .second, .val (.int (j0_193_s0_g x0 x1 x2 x3 x4))] [])) (fun t k => ?_) ?_
                    · refine XS.icmpYes X113.here hx rfl (pc0 := 204) (pc' := 211) rfl (hb hby at_204) rfl (feq hc204_114).2 (by decide) (by decide) ?_
                      exact k
                    refine Goes.run X113 hx hown hci hcl hby (L := [(211, .iconst 0, 1)]) (by decide +kernel) rfl (g' := (mkF m 212 #[.val (.long x0), .second, .val (.long x1), .second, .val (.long x2), .second, .val (.long x3), .second, .val (.int x4), .val (.int (2 : Int32)), .val (.int (1 : Int32)), .val (.int (j0_32_s0 x0 x1 x2 x3 x4)), .val (.long (j0_48_s0 x0 x1 x2 x3 x4)), .second, .val (.long (j0_64_s0 x0 x1 x2 x3 x4)), .second, .val (.ref b104), .val (.ref b105), .val (.long x0), .second, .val (.long x1), .second, .val (.long (j0_48_s0 x0 x1 x2 x3 x4)), .second, .val (.long (0 : Int64)), .second, .val (.int (j0_193_s0_g x0 x1 x2 x3 x4))] [(.int (0 : Int32))])) rfl ?_
                    exact Goes.retB X113 hx hlk (t := .boolean) Bd.returns (by simp) (hb hby at_212) rfl ⟨(congrArg (fun z => some (Value.int z)) (show (r0 x0 x1 x2 x3 x4) = (0 : Int32) from (((((if_neg hs86_9).trans (if_neg hs86_49)).trans (if_neg hs86_90)).trans (if_pos hs86_103)).trans (if_neg hc204_114))).symm), N113⟩ (by decide) (by decide)
                by_cases hc171_110 : ((j0_48_s0 x0 x1 x2 x3 x4) &&& (x0 ^^^ (-1 : Int64))) = (0 : Int64)
                · skip
                  refine Goes.st (B := T105.setTop (mkF m 174 #[.val (.long x0), .second, .val (.long x1), .second, .val (.long x2), .second, .val (.long x3), .second, .val (.int x4), .val (.int (2 : Int32)), .val (.int (1 : Int32)), .val (.int (j0_32_s0 x0 x1 x2 x3 x4)), .val (.long (j0_48_s0 x0 x1 x2 x3 x4)), .second, .val (.long (j0_64_s0 x0 x1 x2 x3 x4)), .second, .val (.ref b104), .val (.ref b105), .val (.long x0), .second, .val (.long x1), .second, .val (.long (j0_48_s0 x0 x1 x2 x3 x4)), .second, .val (.long (0 : Int64)), .second, .unset] [])) (fun t k => ?_) ?_
                  · refine XS.ifNo X105.here hx rfl (hb hby at_171) rfl (teqL hc171_110).2 ?_
                    exact k
                  refine Goes.run X105 hx hown hci hcl hby (L := [(174, .lload 24, 2), (176, .lload 20, 2), (178, .ldc2_w 17, 3), (181, .lxor, 1), (182, .land, 1), (183, .lconst 0, 1)]) (by decide +kernel) rfl (g' := (mkF m 184 #[.val (.long x0), .second, .val (.long x1), .second, .val (.long x2), .second, .val (.long x3), .second, .val (.int x4), .val (.int (2 : Int32)), .val (.int (1 : Int32)), .val (.int (j0_32_s0 x0 x1 x2 x3 x4)), .val (.long (j0_48_s0 x0 x1 x2 x3 x4)), .second, .val (.long (j0_64_s0 x0 x1 x2 x3 x4)), .second, .val (.ref b104), .val (.ref b105), .val (.long x0), .second, .val (.long x1), .second, .val (.long (j0_48_s0 x0 x1 x2 x3 x4)), .second, .val (.long (0 : Int64)), .second, .unset] [(.long (0 : Int64)), (.long ((0 : Int64) &&& (x1 ^^^ (-1 : Int64))))])) rfl ?_
                  refine Goes.run X105 hx hown hci hcl hby (L := [(184, .lcmp, 1)]) (by decide +kernel) rfl (g' := (mkF m 185 #[.val (.long x0), .second, .val (.long x1), .second, .val (.long x2), .second, .val (.long x3), .second, .val (.int x4), .val (.int (2 : Int32)), .val (.int (1 : Int32)), .val (.int (j0_32_s0 x0 x1 x2 x3 x4)), .val (.long (j0_48_s0 x0 x1 x2 x3 x4)), .second, .val (.long (j0_64_s0 x0 x1 x2 x3 x4)), .second, .val (.ref b104), .val (.ref b105), .val (.long x0), .second, .val (.long x1), .second, .val (.long (j0_48_s0 x0 x1 x2 x3 x4)), .second, .val (.long (0 : Int64)), .second, .unset] [(.int (lcmpW ((0 : Int64) &&& (x1 ^^^ (-1 : Int64))) (0 : Int64)))])) rfl ?_
                  by_cases hc185_115 : ((0 : Int64) &&& (x1 ^^^ (-1 : Int64))) = (0 : Int64)
                  · skip
                    refine Goes.st (B := T105.setTop (mkF m 188 #[.val (.long x0), .second, .val (.long x1), .second, .val (.long x2), .second, .val (.long x3), .second, .val (.int x4), .val (.int (2 : Int32)), .val (.int (1 : Int32)), .val (.int (j0_32_s0 x0 x1 x2 x3 x4)), .val (.long (j0_48_s0 x0 x1 x2 x3 x4)), .second, .val (.long (j0_64_s0 x0 x1 x2 x3 x4)), .second, .val (.ref b104), .val (.ref b105), .val (.long x0), .second, .val (.long x1), .second, .val (.long (j0_48_s0 x0 x1 x2 x3 x4)), .second, .val (.long (0 : Int64)), .second, .unset] [])) (fun t k => ?_) ?_
                    · refine XS.ifNo X105.here hx rfl (hb hby at_185) rfl (teqL hc185_115).2 ?_
                      exact k
                    refine Goes.run X105 hx hown hci hcl hby (L := [(188, .iconst 1, 1), (189, .goto 4, 3)]) (by decide +kernel) rfl (g' := (mkF m 193 #[.val (.long x0), .second, .val (.long x1), .second, .val (.long x2), .second, .val (.long x3), .second, .val (.int x4), .val (.int (2 : Int32)), .val (.int (1 : Int32)), .val (.int (j0_32_s0 x0 x1 x2 x3 x4)), .val (.long (j0_48_s0 x0 x1 x2 x3 x4)), .second, .val (.long (j0_64_s0 x0 x1 x2 x3 x4)), .second, .val (.ref b104), .val (.ref b105), .val (.long x0), .second, .val (.long x1), .second, .val (.long (j0_48_s0 x0 x1 x2 x3 x4)), .second, .val (.long (0 : Int64)), .second, .unset] [(.int (1 : Int32))])) rfl ?_
                    have q := jn193_112
                    rw [show (j0_193_s0_g x0 x1 x2 x3 x4) = (1 : Int32) from ((if_pos hc171_110).trans (if_pos hc185_115))] at q
                    exact q
                  · skip
                    refine Goes.st (B := T105.setTop (mkF m 192 #[.val (.long x0), .second, .val (.long x1), .second, .val (.long x2), .second, .val (.long x3), .second, .val (.int x4), .val (.int (2 : Int32)), .val (.int (1 : Int32)), .val (.int (j0_32_s0 x0 x1 x2 x3 x4)), .val (.long (j0_48_s0 x0 x1 x2 x3 x4)), .second, .val (.long (j0_64_s0 x0 x1 x2 x3 x4)), .second, .val (.ref b104), .val (.ref b105), .val (.long x0), .second, .val (.long x1), .second, .val (.long (j0_48_s0 x0 x1 x2 x3 x4)), .second, .val (.long (0 : Int64)), .second, .unset] [])) (fun t k => ?_) ?_
                    · refine XS.ifYes X105.here hx rfl (pc0 := 185) (pc' := 192) rfl (hb hby at_185) rfl (feqL hc185_115).2 (by decide) (by decide) ?_
                      exact k
                    refine Goes.run X105 hx hown hci hcl hby (L := [(192, .iconst 0, 1)]) (by decide +kernel) rfl (g' := (mkF m 193 #[.val (.long x0), .second, .val (.long x1), .second, .val (.long x2), .second, .val (.long x3), .second, .val (.int x4), .val (.int (2 : Int32)), .val (.int (1 : Int32)), .val (.int (j0_32_s0 x0 x1 x2 x3 x4)), .val (.long (j0_48_s0 x0 x1 x2 x3 x4)), .second, .val (.long (j0_64_s0 x0 x1 x2 x3 x4)), .second, .val (.ref b104), .val (.ref b105), .val (.long x0), .second, .val (.long x1), .second, .val (.long (j0_48_s0 x0 x1 x2 x3 x4)), .second, .val (.long (0 : Int64)), .second, .unset] [(.int (0 : Int32))])) rfl ?_
                    have q := jn193_112
                    rw [show (j0_193_s0_g x0 x1 x2 x3 x4) = (0 : Int32) from ((if_pos hc171_110).trans (if_neg hc185_115))] at q
                    exact q
                · skip
                  refine Goes.st (B := T105.setTop (mkF m 192 #[.val (.long x0), .second, .val (.long x1), .second, .val (.long x2), .second, .val (.long x3), .second, .val (.int x4), .val (.int (2 : Int32)), .val (.int (1 : Int32)), .val (.int (j0_32_s0 x0 x1 x2 x3 x4)), .val (.long (j0_48_s0 x0 x1 x2 x3 x4)), .second, .val (.long (j0_64_s0 x0 x1 x2 x3 x4)), .second, .val (.ref b104), .val (.ref b105), .val (.long x0), .second, .val (.long x1), .second, .val (.long (j0_48_s0 x0 x1 x2 x3 x4)), .second, .val (.long (0 : Int64)), .second, .unset] [])) (fun t k => ?_) ?_
                  · refine XS.ifYes X105.here hx rfl (pc0 := 171) (pc' := 192) rfl (hb hby at_171) rfl (feqL hc171_110).2 (by decide) (by decide) ?_
                    exact k
                  refine Goes.run X105 hx hown hci hcl hby (L := [(192, .iconst 0, 1)]) (by decide +kernel) rfl (g' := (mkF m 193 #[.val (.long x0), .second, .val (.long x1), .second, .val (.long x2), .second, .val (.long x3), .second, .val (.int x4), .val (.int (2 : Int32)), .val (.int (1 : Int32)), .val (.int (j0_32_s0 x0 x1 x2 x3 x4)), .val (.long (j0_48_s0 x0 x1 x2 x3 x4)), .second, .val (.long (j0_64_s0 x0 x1 x2 x3 x4)), .second, .val (.ref b104), .val (.ref b105), .val (.long x0), .second, .val (.long x1), .second, .val (.long (j0_48_s0 x0 x1 x2 x3 x4)), .second, .val (.long (0 : Int64)), .second, .unset] [(.int (0 : Int32))])) rfl ?_
                  have q := jn193_112
                  rw [show (j0_193_s0_g x0 x1 x2 x3 x4) = (0 : Int32) from (if_neg hc171_110)] at q
                  exact q
              · skip
                have hs86_116 : (w0_84 x0 x1 x2 x3 x4) = (2 : Int32) := own_l10 x0 x1 x2 x3 x4 hs86_90 hs86_103
                rw [hs86_116]
                refine Goes.run X8 hx hown hci hcl hby (L := [(86, .iload 9, 2), (88, .lload_n 0, 1), (89, .lload_n 2, 1)]) (by decide +kernel) rfl (g' := (mkF m 90 #[.val (.long x0), .second, .val (.long x1), .second, .val (.long x2), .second, .val (.long x3), .second, .val (.int x4), .val (.int (2 : Int32)), .val (.int (2 : Int32)), .val (.int (j0_32_s0 x0 x1 x2 x3 x4)), .val (.long (j0_48_s0 x0 x1 x2 x3 x4)), .second, .val (.long (j0_64_s0 x0 x1 x2 x3 x4)), .second, .unset, .unset, .unset, .unset, .unset, .unset, .unset, .unset, .unset, .unset, .unset] [(.long x1), (.long x0), (.int (2 : Int32))])) rfl ?_
                obtain ⟨_, _, ⟨T117, L117, k117, n117⟩, -, X117, ⟨Lc117, hQ117, l117, y117, z117⟩, st117⟩ := Jvm.LawKit.callS X8 hx (y := (⟨"com/example/marks_across_domains/marksacrossdomains/BitsContainsPinLaw", "make", "(IJJ)[J"⟩ : MethodName)) hown (mvT hZ (hw _ (List.mem_of_getElem? (i := 4) rfl))) (mvT hZ (hw _ (List.mem_of_getElem? (i := 5) rfl))) (mvT hZ (hw _ (List.mem_of_getElem? (i := 2) rfl))) (mvT hZ (hw _ (List.mem_of_getElem? (i := 6) rfl))) (by decide) (backOf (W := 0) (rm22 l Z a0 hw [] x0 x1 h0 n0 Z0 ) hZ (hw _ (List.mem_of_getElem? (i := 6) rfl)) (hw _ (List.mem_of_getElem? (i := 2) rfl)) (by decide) (by decide)) (g := (mkF m 90 #[.val (.long x0), .second, .val (.long x1), .second, .val (.long x2), .second, .val (.long x3), .second, .val (.int x4), .val (.int (2 : Int32)), .val (.int (2 : Int32)), .val (.int (j0_32_s0 x0 x1 x2 x3 x4)), .val (.long (j0_48_s0 x0 x1 x2 x3 x4)), .second, .val (.long (j0_64_s0 x0 x1 x2 x3 x4)), .second, .unset, .unset, .unset, .unset, .unset, .unset, .unset, .unset, .unset, .unset, .unset] [(.long x1), (.long x0), (.int (2 : Int32))])) rfl (by rw [hml]; rfl) (argsL := [(.int (2 : Int32)), (.long x0), (.long x1)]) (rest := []) (lenOf pd0_1 rfl) rfl (by show 2 * 0 + _ ≤ _; exact Nat.le_of_eq rfl) (hb hby at_90) (fun _ _ => ⟨rfl, e8, (by decide : 0 + 1 ≤ _), (by decide : 0 + 2 ≤ _)⟩)
                dsimp only [Pt.U, Pt.locs, Pt.cells, Pt.slots] at X117 l117 y117 z117 st117 hQ117
                subst l117 y117 z117
                obtain ⟨h117, eh117⟩ : ∃ z, z = T117.heap := ⟨_, rfl⟩
                rw [← eh117] at hQ117
                have e117 : T117.heap = h117 := eh117.symm
                obtain ⟨b117, kc117, rfl, N117q, Kq117, szq117, o117_0, o117_1⟩ := hQ117
                have g_b117 : n0 ≤ b117 := Nat.le_trans Z0 szq117
                have N117 := Fr.app N8 N117q
                have E_b117 : Exa Z h117 b117 "[J" := o117_0
                have V_b117 : Arv Z h117 b117 kc117 .long (2 : Int32) [(.long x0), (.long x1)] (.long (0 : Int64)) := o117_1
                have Zn117 : n0 ≤ h117.size := Nat.le_trans Z0 Kq117.1
                refine Goes.st (B := T117.setTop (mkF m 93 #[.val (.long x0), .second, .val (.long x1), .second, .val (.long x2), .second, .val (.long x3), .second, .val (.int x4), .val (.int (2 : Int32)), .val (.int (2 : Int32)), .val (.int (j0_32_s0 x0 x1 x2 x3 x4)), .val (.long (j0_48_s0 x0 x1 x2 x3 x4)), .second, .val (.long (j0_64_s0 x0 x1 x2 x3 x4)), .second, .unset, .unset, .unset, .unset, .unset, .unset, .unset, .unset, .unset, .unset, .unset] [(.ref b117)])) st117 ?_
                refine Goes.run X117 hx hown hci hcl hby (L := [(93, .astore 16, 2), (95, .iload 10, 2), (97, .lload 12, 2), (99, .lload 14, 2)]) (by decide +kernel) rfl (g' := (mkF m 101 #[.val (.long x0), .second, .val (.long x1), .second, .val (.long x2), .second, .val (.long x3), .second, .val (.int x4), .val (.int (2 : Int32)), .val (.int (2 : Int32)), .val (.int (j0_32_s0 x0 x1 x2 x3 x4)), .val (.long (j0_48_s0 x0 x1 x2 x3 x4)), .second, .val (.long (j0_64_s0 x0 x1 x2 x3 x4)), .second, .val (.ref b117), .unset, .unset, .unset, .unset, .unset, .unset, .unset, .unset, .unset, .unset] [(.long (j0_64_s0 x0 x1 x2 x3 x4)), (.long (j0_48_s0 x0 x1 x2 x3 x4)), (.int (2 : Int32))])) rfl ?_
                obtain ⟨_, _, ⟨T118, L118, k118, n118⟩, -, X118, ⟨Lc118, hQ118, l118, y118, z118⟩, st118⟩ := Jvm.LawKit.callS X117 hx (y := (⟨"com/example/marks_across_domains/marksacrossdomains/BitsContainsPinLaw", "make", "(IJJ)[J"⟩ : MethodName)) hown (mvT hZ (hw _ (List.mem_of_getElem? (i := 4) rfl))) (mvT hZ (hw _ (List.mem_of_getElem? (i := 5) rfl))) (mvT hZ (hw _ (List.mem_of_getElem? (i := 2) rfl))) (mvT hZ (hw _ (List.mem_of_getElem? (i := 6) rfl))) (by decide) (backOf (W := 0) (rm22 l Z a0 hw [] (j0_48_s0 x0 x1 x2 x3 x4) (j0_64_s0 x0 x1 x2 x3 x4) h117 n0 Zn117 ) hZ (hw _ (List.mem_of_getElem? (i := 6) rfl)) (hw _ (List.mem_of_getElem? (i := 2) rfl)) (by decide) (by decide)) (g := (mkF m 101 #[.val (.long x0), .second, .val (.long x1), .second, .val (.long x2), .second, .val (.long x3), .second, .val (.int x4), .val (.int (2 : Int32)), .val (.int (2 : Int32)), .val (.int (j0_32_s0 x0 x1 x2 x3 x4)), .val (.long (j0_48_s0 x0 x1 x2 x3 x4)), .second, .val (.long (j0_64_s0 x0 x1 x2 x3 x4)), .second, .val (.ref b117), .unset, .unset, .unset, .unset, .unset, .unset, .unset, .unset, .unset, .unset] [(.long (j0_64_s0 x0 x1 x2 x3 x4)), (.long (j0_48_s0 x0 x1 x2 x3 x4)), (.int (2 : Int32))])) rfl (by rw [hml]; rfl) (argsL := [(.int (2 : Int32)), (.long (j0_48_s0 x0 x1 x2 x3 x4)), (.long (j0_64_s0 x0 x1 x2 x3 x4))]) (rest := []) (lenOf pd0_1 rfl) rfl (by show 2 * 0 + _ ≤ _; exact Nat.le_of_eq rfl) (hb hby at_101) (fun _ _ => ⟨rfl, e117, (by decide : 1 + 1 ≤ _), (by decide : 2 + 2 ≤ _)⟩)
                dsimp only [Pt.U, Pt.locs, Pt.cells, Pt.slots] at X118 l118 y118 z118 st118 hQ118
                subst l118 y118 z118
                obtain ⟨h118, eh118⟩ : ∃ z, z = T118.heap := ⟨_, rfl⟩
                rw [← eh118] at hQ118
                have e118 : T118.heap = h118 := eh118.symm
                obtain ⟨b118, kc118, rfl, N118q, Kq118, szq118, o118_0, o118_1⟩ := hQ118
                have ne_b117_b118 : b117 ≠ b118 := Nat.ne_of_lt (Nat.lt_of_lt_of_le E_b117.lt szq118)
                have g_b118 : n0 ≤ b118 := Nat.le_trans Zn117 szq118
                have N118 := Fr.app N117 N118q
                have E_b117 := E_b117.keep Kq118
                have V_b117 := V_b117.keep Kq118 nin0
                have E_b118 : Exa Z h118 b118 "[J" := o118_0
                have V_b118 : Arv Z h118 b118 kc118 .long (2 : Int32) [(.long (j0_48_s0 x0 x1 x2 x3 x4)), (.long (j0_64_s0 x0 x1 x2 x3 x4))] (.long (0 : Int64)) := o118_1
                have Zn118 : n0 ≤ h118.size := Nat.le_trans Zn117 Kq118.1
                refine Goes.st (B := T118.setTop (mkF m 104 #[.val (.long x0), .second, .val (.long x1), .second, .val (.long x2), .second, .val (.long x3), .second, .val (.int x4), .val (.int (2 : Int32)), .val (.int (2 : Int32)), .val (.int (j0_32_s0 x0 x1 x2 x3 x4)), .val (.long (j0_48_s0 x0 x1 x2 x3 x4)), .second, .val (.long (j0_64_s0 x0 x1 x2 x3 x4)), .second, .val (.ref b117), .unset, .unset, .unset, .unset, .unset, .unset, .unset, .unset, .unset, .unset] [(.ref b118)])) st118 ?_
                refine Goes.run X118 hx hown hci hcl hby (L := [(104, .astore 17, 2), (106, .iload 9, 2), (108, .iconst 1, 1)]) (by decide +kernel) rfl (g' := (mkF m 109 #[.val (.long x0), .second, .val (.long x1), .second, .val (.long x2), .second, .val (.long x3), .second, .val (.int x4), .val (.int (2 : Int32)), .val (.int (2 : Int32)), .val (.int (j0_32_s0 x0 x1 x2 x3 x4)), .val (.long (j0_48_s0 x0 x1 x2 x3 x4)), .second, .val (.long (j0_64_s0 x0 x1 x2 x3 x4)), .second, .val (.ref b117), .val (.ref b118), .unset, .unset, .unset, .unset, .unset, .unset, .unset, .unset, .unset] [(.int (1 : Int32)), (.int (2 : Int32))])) rfl ?_
                have hc109_119 : ¬ ((2 : Int32) < (1 : Int32)) := by decide
                refine Goes.st (B := T118.setTop (mkF m 112 #[.val (.long x0), .second, .val (.long x1), .second, .val (.long x2), .second, .val (.long x3), .second, .val (.int x4), .val (.int (2 : Int32)), .val (.int (2 : Int32)), .val (.int (j0_32_s0 x0 x1 x2 x3 x4)), .val (.long (j0_48_s0 x0 x1 x2 x3 x4)), .second, .val (.long (j0_64_s0 x0 x1 x2 x3 x4)), .second, .val (.ref b117), .val (.ref b118), .unset, .unset, .unset, .unset, .unset, .unset, .unset, .unset, .unset] [])) (fun t k => ?_) ?_
                · refine XS.icmpNo X118.here hx rfl (hb hby at_109) rfl (flt hc109_119).1 ?_
                  exact k
                refine Goes.run X118 hx hown hci hcl hby (L := [(112, .lload_n 0, 1), (113, .goto 4, 3), (117, .lstore 18, 2), (119, .iload 9, 2), (121, .iconst 2, 1)]) (by decide +kernel) rfl (g' := (mkF m 122 #[.val (.long x0), .second, .val (.long x1), .second, .val (.long x2), .second, .val (.long x3), .second, .val (.int x4), .val (.int (2 : Int32)), .val (.int (2 : Int32)), .val (.int (j0_32_s0 x0 x1 x2 x3 x4)), .val (.long (j0_48_s0 x0 x1 x2 x3 x4)), .second, .val (.long (j0_64_s0 x0 x1 x2 x3 x4)), .second, .val (.ref b117), .val (.ref b118), .val (.long x0), .second, .unset, .unset, .unset, .unset, .unset, .unset, .unset] [(.int (2 : Int32)), (.int (2 : Int32))])) rfl ?_
                have hc122_120 : ¬ ((2 : Int32) < (2 : Int32)) := Int32.lt_irrefl
                refine Goes.st (B := T118.setTop (mkF m 125 #[.val (.long x0), .second, .val (.long x1), .second, .val (.long x2), .second, .val (.long x3), .second, .val (.int x4), .val (.int (2 : Int32)), .val (.int (2 : Int32)), .val (.int (j0_32_s0 x0 x1 x2 x3 x4)), .val (.long (j0_48_s0 x0 x1 x2 x3 x4)), .second, .val (.long (j0_64_s0 x0 x1 x2 x3 x4)), .second, .val (.ref b117), .val (.ref b118), .val (.long x0), .second, .unset, .unset, .unset, .unset, .unset, .unset, .unset] [])) (fun t k => ?_) ?_
                · refine XS.icmpNo X118.here hx rfl (hb hby at_122) rfl (flt hc122_120).1 ?_
                  exact k
                refine Goes.run X118 hx hown hci hcl hby (L := [(125, .lload_n 2, 1), (126, .goto 4, 3), (130, .lstore 20, 2), (132, .iload 10, 2), (134, .iconst 1, 1)]) (by decide +kernel) rfl (g' := (mkF m 135 #[.val (.long x0), .second, .val (.long x1), .second, .val (.long x2), .second, .val (.long x3), .second, .val (.int x4), .val (.int (2 : Int32)), .val (.int (2 : Int32)), .val (.int (j0_32_s0 x0 x1 x2 x3 x4)), .val (.long (j0_48_s0 x0 x1 x2 x3 x4)), .second, .val (.long (j0_64_s0 x0 x1 x2 x3 x4)), .second, .val (.ref b117), .val (.ref b118), .val (.long x0), .second, .val (.long x1), .second, .unset, .unset, .unset, .unset, .unset] [(.int (1 : Int32)), (.int (2 : Int32))])) rfl ?_
                have hc135_121 : ¬ ((2 : Int32) < (1 : Int32)) := by decide
                refine Goes.st (B := T118.setTop (mkF m 138 #[.val (.long x0), .second, .val (.long x1), .second, .val (.long x2), .second, .val (.long x3), .second, .val (.int x4), .val (.int (2 : Int32)), .val (.int (2 : Int32)), .val (.int (j0_32_s0 x0 x1 x2 x3 x4)), .val (.long (j0_48_s0 x0 x1 x2 x3 x4)), .second, .val (.long (j0_64_s0 x0 x1 x2 x3 x4)), .second, .val (.ref b117), .val (.ref b118), .val (.long x0), .second, .val (.long x1), .second, .unset, .unset, .unset, .unset, .unset] [])) (fun t k => ?_) ?_
                · refine XS.icmpNo X118.here hx rfl (hb hby at_135) rfl (flt hc135_121).1 ?_
                  exact k
                refine Goes.run X118 hx hown hci hcl hby (L := [(138, .lload 12, 2), (140, .goto 4, 3), (144, .lstore 22, 2), (146, .iload 10, 2), (148, .iconst 2, 1)]) (by decide +kernel) rfl (g' := (mkF m 149 #[.val (.long x0), .second, .val (.long x1), .second, .val (.long x2), .second, .val (.long x3), .second, .val (.int x4), .val (.int (2 : Int32)), .val (.int (2 : Int32)), .val (.int (j0_32_s0 x0 x1 x2 x3 x4)), .val (.long (j0_48_s0 x0 x1 x2 x3 x4)), .second, .val (.long (j0_64_s0 x0 x1 x2 x3 x4)), .second, .val (.ref b117), .val (.ref b118), .val (.long x0), .second, .val (.long x1), .second, .val (.long (j0_48_s0 x0 x1 x2 x3 x4)), .second, .unset, .unset, .unset] [(.int (2 : Int32)), (.int (2 : Int32))])) rfl ?_
                have hc149_122 : ¬ ((2 : Int32) < (2 : Int32)) := Int32.lt_irrefl
                refine Goes.st (B := T118.setTop (mkF m 152 #[.val (.long x0), .second, .val (.long x1), .second, .val (.long x2), .second, .val (.long x3), .second, .val (.int x4), .val (.int (2 : Int32)), .val (.int (2 : Int32)), .val (.int (j0_32_s0 x0 x1 x2 x3 x4)), .val (.long (j0_48_s0 x0 x1 x2 x3 x4)), .second, .val (.long (j0_64_s0 x0 x1 x2 x3 x4)), .second, .val (.ref b117), .val (.ref b118), .val (.long x0), .second, .val (.long x1), .second, .val (.long (j0_48_s0 x0 x1 x2 x3 x4)), .second, .unset, .unset, .unset] [])) (fun t k => ?_) ?_
                · refine XS.icmpNo X118.here hx rfl (hb hby at_149) rfl (flt hc149_122).1 ?_
                  exact k
                refine Goes.run X118 hx hown hci hcl hby (L := [(152, .lload 14, 2), (154, .goto 4, 3), (158, .lstore 24, 2), (160, .lload 22, 2), (162, .lload 18, 2), (164, .ldc2_w 17, 3)]) (by decide +kernel) rfl (g' := (mkF m 167 #[.val (.long x0), .second, .val (.long x1), .second, .val (.long x2), .second, .val (.long x3), .second, .val (.int x4), .val (.int (2 : Int32)), .val (.int (2 : Int32)), .val (.int (j0_32_s0 x0 x1 x2 x3 x4)), .val (.long (j0_48_s0 x0 x1 x2 x3 x4)), .second, .val (.long (j0_64_s0 x0 x1 x2 x3 x4)), .second, .val (.ref b117), .val (.ref b118), .val (.long x0), .second, .val (.long x1), .second, .val (.long (j0_48_s0 x0 x1 x2 x3 x4)), .second, .val (.long (j0_64_s0 x0 x1 x2 x3 x4)), .second, .unset] [(.long (-1 : Int64)), (.long x0), (.long (j0_48_s0 x0 x1 x2 x3 x4))])) rfl ?_
                refine Goes.run X118 hx hown hci hcl hby (L := [(167, .lxor, 1), (168, .land, 1), (169, .lconst 0, 1), (170, .lcmp, 1)]) (by decide +kernel) rfl (g' := (mkF m 171 #[.val (.long x0), .second, .val (.long x1), .second, .val (.long x2), .second, .val (.long x3), .second, .val (.int x4), .val (.int (2 : Int32)), .val (.int (2 : Int32)), .val (.int (j0_32_s0 x0 x1 x2 x3 x4)), .val (.long (j0_48_s0 x0 x1 x2 x3 x4)), .second, .val (.long (j0_64_s0 x0 x1 x2 x3 x4)), .second, .val (.ref b117), .val (.ref b118), .val (.long x0), .second, .val (.long x1), .second, .val (.long (j0_48_s0 x0 x1 x2 x3 x4)), .second, .val (.long (j0_64_s0 x0 x1 x2 x3 x4)), .second, .unset] [(.int (lcmpW ((j0_48_s0 x0 x1 x2 x3 x4) &&& (x0 ^^^ (-1 : Int64))) (0 : Int64)))])) rfl ?_
                have jn193_125 : Goes p e below s (QL (some (.int (r0 x0 x1 x2 x3 x4))) n0) room_1.cells room_1.slots (T118.setTop (mkF m 193 #[.val (.long x0), .second, .val (.long x1), .second, .val (.long x2), .second, .val (.long x3), .second, .val (.int x4), .val (.int (2 : Int32)), .val (.int (2 : Int32)), .val (.int (j0_32_s0 x0 x1 x2 x3 x4)), .val (.long (j0_48_s0 x0 x1 x2 x3 x4)), .second, .val (.long (j0_64_s0 x0 x1 x2 x3 x4)), .second, .val (.ref b117), .val (.ref b118), .val (.long x0), .second, .val (.long x1), .second, .val (.long (j0_48_s0 x0 x1 x2 x3 x4)), .second, .val (.long (j0_64_s0 x0 x1 x2 x3 x4)), .second, .unset] [(.int (j0_193_s0_h x0 x1 x2 x3 x4))])) := by
                  refine Goes.run X118 hx hown hci hcl hby (L := [(193, .istore 26, 2), (195, .aload 16, 2), (197, .aload 17, 2)]) (by decide +kernel) rfl (g' := (mkF m 199 #[.val (.long x0), .second, .val (.long x1), .second, .val (.long x2), .second, .val (.long x3), .second, .val (.int x4), .val (.int (2 : Int32)), .val (.int (2 : Int32)), .val (.int (j0_32_s0 x0 x1 x2 x3 x4)), .val (.long (j0_48_s0 x0 x1 x2 x3 x4)), .second, .val (.long (j0_64_s0 x0 x1 x2 x3 x4)), .second, .val (.ref b117), .val (.ref b118), .val (.long x0), .second, .val (.long x1), .second, .val (.long (j0_48_s0 x0 x1 x2 x3 x4)), .second, .val (.long (j0_64_s0 x0 x1 x2 x3 x4)), .second, .val (.int (j0_193_s0_h x0 x1 x2 x3 x4))] [(.ref b118), (.ref b117)])) rfl ?_
                  obtain ⟨_, _, ⟨T126, L126, k126, n126⟩, -, X126, ⟨Lc126, hQ126, l126, y126, z126⟩, st126⟩ := Jvm.LawKit.callS X118 hx (y := (⟨"com/example/marks_across_domains/marksacrossdomains/Bits", "contains", "([J[J)Z"⟩ : MethodName)) hown (mvT hZ (hw _ (List.mem_of_getElem? (i := 9) rfl))) (mvT hZ (hw _ (List.mem_of_getElem? (i := 10) rfl))) (mvT hZ (hw _ (List.mem_of_getElem? (i := 11) rfl))) (mvT hZ (hw _ (List.mem_of_getElem? (i := 12) rfl))) (by decide) (backOf (W := 0) (rm322 l Z a0 hw [] b117 b118 kc117 kc118 x0 x1 (j0_48_s0 x0 x1 x2 x3 x4) (j0_64_s0 x0 x1 x2 x3 x4) h118 n0 Zn118 V_b117 V_b118) hZ (hw _ (List.mem_of_getElem? (i := 12) rfl)) (hw _ (List.mem_of_getElem? (i := 11) rfl)) (by decide) (by decide)) (g := (mkF m 199 #[.val (.long x0), .second, .val (.long x1), .second, .val (.long x2), .second, .val (.long x3), .second, .val (.int x4), .val (.int (2 : Int32)), .val (.int (2 : Int32)), .val (.int (j0_32_s0 x0 x1 x2 x3 x4)), .val (.long (j0_48_s0 x0 x1 x2 x3 x4)), .second, .val (.long (j0_64_s0 x0 x1 x2 x3 x4)), .second, .val (.ref b117), .val (.ref b118), .val (.long x0), .second, .val (.long x1), .second, .val (.long (j0_48_s0 x0 x1 x2 x3 x4)), .second, .val (.long (j0_64_s0 x0 x1 x2 x3 x4)), .second, .val (.int (j0_193_s0_h x0 x1 x2 x3 x4))] [(.ref b118), (.ref b117)])) rfl (by rw [hml]; rfl) (argsL := [(.ref b117), (.ref b118)]) (rest := []) (lenOf pd0_2 rfl) rfl (by show 2 * 0 + _ ≤ _; exact Nat.le_of_eq rfl) (hb hby at_199) (fun _ _ => ⟨rfl, e118, (by decide : 2 + 0 ≤ _), (by decide : 4 + 0 ≤ _)⟩)
                  dsimp only [Pt.U, Pt.locs, Pt.cells, Pt.slots] at X126 l126 y126 z126 st126 hQ126
                  subst l126 y126 z126
                  obtain ⟨rfl, N126q, e126⟩ := hQ126
                  have N126 := Fr.app N118 N126q
                  refine Goes.st (B := T126.setTop (mkF m 202 #[.val (.long x0), .second, .val (.long x1), .second, .val (.long x2), .second, .val (.long x3), .second, .val (.int x4), .val (.int (2 : Int32)), .val (.int (2 : Int32)), .val (.int (j0_32_s0 x0 x1 x2 x3 x4)), .val (.long (j0_48_s0 x0 x1 x2 x3 x4)), .second, .val (.long (j0_64_s0 x0 x1 x2 x3 x4)), .second, .val (.ref b117), .val (.ref b118), .val (.long x0), .second, .val (.long x1), .second, .val (.long (j0_48_s0 x0 x1 x2 x3 x4)), .second, .val (.long (j0_64_s0 x0 x1 x2 x3 x4)), .second, .val (.int (j0_193_s0_h x0 x1 x2 x3 x4))] [(.int (r322 x0 x1 (j0_48_s0 x0 x1 x2 x3 x4) (j0_64_s0 x0 x1 x2 x3 x4)))])) st126 ?_
                  refine Goes.run X126 hx hown hci hcl hby (L := [(202, .iload 26, 2)]) (by decide +kernel) rfl (g' := (mkF m 204 #[.val (.long x0), .second, .val (.long x1), .second, .val (.long x2), .second, .val (.long x3), .second, .val (.int x4), .val (.int (2 : Int32)), .val (.int (2 : Int32)), .val (.int (j0_32_s0 x0 x1 x2 x3 x4)), .val (.long (j0_48_s0 x0 x1 x2 x3 x4)), .second, .val (.long (j0_64_s0 x0 x1 x2 x3 x4)), .second, .val (.ref b117), .val (.ref b118), .val (.long x0), .second, .val (.long x1), .second, .val (.long (j0_48_s0 x0 x1 x2 x3 x4)), .second, .val (.long (j0_64_s0 x0 x1 x2 x3 x4)), .second, .val (.int (j0_193_s0_h x0 x1 x2 x3 x4))] [(.int (j0_193_s0_h x0 x1 x2 x3 x4)), (.int (r322 x0 x1 (j0_48_s0 x0 x1 x2 x3 x4) (j0_64_s0 x0 x1 x2 x3 x4)))])) rfl ?_
                  by_cases hc204_127 : (r322 x0 x1 (j0_48_s0 x0 x1 x2 x3 x4) (j0_64_s0 x0 x1 x2 x3 x4)) = (j0_193_s0_h x0 x1 x2 x3 x4)
                  · skip
                    refine Goes.st (B := T126.setTop (mkF m 207 #[.val (.long x0), .second, .val (.long x1), .second, .val (.long x2), .second, .val (.long x3), .second, .val (.int x4), .val (.int (2 : Int32)), .val (.int (2 : Int32)), .val (.int (j0_32_s0 x0 x1 x2 x3 x4)), .val (.long (j0_48_s0 x0 x1 x2 x3 x4)), .second, .val (.long (j0_64_s0 x0 x1 x2 x3 x4)), .second, .val (.ref b117), .val (.ref b118), .val (.long x0), .second, .val (.long x1), .second, .val (.long (j0_48_s0 x0 x1 x2 x3 x4)), .second, .val (.long (j0_64_s0 x0 x1 x2 x3 x4)), .second, .val (.int (j0_193_s0_h x0 x1 x2 x3 x4))] [])) (fun t k => ?_) ?_
                    · refine XS.icmpNo X126.here hx rfl (hb hby at_204) rfl (teq hc204_127).2 ?_
                      exact k
                    refine Goes.run X126 hx hown hci hcl hby (L := [(207, .iconst 1, 1), (208, .goto 4, 3)]) (by decide +kernel) rfl (g' := (mkF m 212 #[.val (.long x0), .second, .val (.long x1), .second, .val (.long x2), .second, .val (.long x3), .second, .val (.int x4), .val (.int (2 : Int32)), .val (.int (2 : Int32)), .val (.int (j0_32_s0 x0 x1 x2 x3 x4)), .val (.long (j0_48_s0 x0 x1 x2 x3 x4)), .second, .val (.long (j0_64_s0 x0 x1 x2 x3 x4)), .second, .val (.ref b117), .val (.ref b118), .val (.long x0), .second, .val (.long x1), .second, .val (.long (j0_48_s0 x0 x1 x2 x3 x4)), .second, .val (.long (j0_64_s0 x0 x1 x2 x3 x4)), .second, .val (.int (j0_193_s0_h x0 x1 x2 x3 x4))] [(.int (1 : Int32))])) rfl ?_
                    exact Goes.retB X126 hx hlk (t := .boolean) Bd.returns (by simp) (hb hby at_212) rfl ⟨(congrArg (fun z => some (Value.int z)) (show (r0 x0 x1 x2 x3 x4) = (1 : Int32) from (((((if_neg hs86_9).trans (if_neg hs86_49)).trans (if_neg hs86_90)).trans (if_neg hs86_103)).trans (if_pos hc204_127))).symm), N126⟩ (by decide) (by decide)
                  · skip
                    refine Goes.st (B := T126.setTop (mkF m 211 #[.val (.long x0), .second, .val (.long x1), .second, .val (.long x2), .second, .val (.long x3), .second, .val (.int x4), .val (.int (2 : Int32)), .val (.int (2 : Int32)), .val (.int (j0_32_s0 x0 x1 x2 x3 x4)), .val (.long (j0_48_s0 x0 x1 x2 x3 x4)), .second, .val (.long (j0_64_s0 x0 x1 x2 x3 x4)), .second, .val (.ref b117), .val (.ref b118), .val (.long x0), .second, .val (.long x1), .second, .val (.long (j0_48_s0 x0 x1 x2 x3 x4)), .second, .val (.long (j0_64_s0 x0 x1 x2 x3 x4)), .second, .val (.int (j0_193_s0_h x0 x1 x2 x3 x4))] [])) (fun t k => ?_) ?_
                    · refine XS.icmpYes X126.here hx rfl (pc0 := 204) (pc' := 211) rfl (hb hby at_204) rfl (feq hc204_127).2 (by decide) (by decide) ?_
                      exact k
                    refine Goes.run X126 hx hown hci hcl hby (L := [(211, .iconst 0, 1)]) (by decide +kernel) rfl (g' := (mkF m 212 #[.val (.long x0), .second, .val (.long x1), .second, .val (.long x2), .second, .val (.long x3), .second, .val (.int x4), .val (.int (2 : Int32)), .val (.int (2 : Int32)), .val (.int (j0_32_s0 x0 x1 x2 x3 x4)), .val (.long (j0_48_s0 x0 x1 x2 x3 x4)), .second, .val (.long (j0_64_s0 x0 x1 x2 x3 x4)), .second, .val (.ref b117), .val (.ref b118), .val (.long x0), .second, .val (.long x1), .second, .val (.long (j0_48_s0 x0 x1 x2 x3 x4)), .second, .val (.long (j0_64_s0 x0 x1 x2 x3 x4)), .second, .val (.int (j0_193_s0_h x0 x1 x2 x3 x4))] [(.int (0 : Int32))])) rfl ?_
                    exact Goes.retB X126 hx hlk (t := .boolean) Bd.returns (by simp) (hb hby at_212) rfl ⟨(congrArg (fun z => some (Value.int z)) (show (r0 x0 x1 x2 x3 x4) = (0 : Int32) from (((((if_neg hs86_9).trans (if_neg hs86_49)).trans (if_neg hs86_90)).trans (if_neg hs86_103)).trans (if_neg hc204_127))).symm), N126⟩ (by decide) (by decide)
                by_cases hc171_123 : ((j0_48_s0 x0 x1 x2 x3 x4) &&& (x0 ^^^ (-1 : Int64))) = (0 : Int64)
                · skip
                  refine Goes.st (B := T118.setTop (mkF m 174 #[.val (.long x0), .second, .val (.long x1), .second, .val (.long x2), .second, .val (.long x3), .second, .val (.int x4), .val (.int (2 : Int32)), .val (.int (2 : Int32)), .val (.int (j0_32_s0 x0 x1 x2 x3 x4)), .val (.long (j0_48_s0 x0 x1 x2 x3 x4)), .second, .val (.long (j0_64_s0 x0 x1 x2 x3 x4)), .second, .val (.ref b117), .val (.ref b118), .val (.long x0), .second, .val (.long x1), .second, .val (.long (j0_48_s0 x0 x1 x2 x3 x4)), .second, .val (.long (j0_64_s0 x0 x1 x2 x3 x4)), .second, .unset] [])) (fun t k => ?_) ?_
                  · refine XS.ifNo X118.here hx rfl (hb hby at_171) rfl (teqL hc171_123).2 ?_
                    exact k
                  refine Goes.run X118 hx hown hci hcl hby (L := [(174, .lload 24, 2), (176, .lload 20, 2), (178, .ldc2_w 17, 3), (181, .lxor, 1), (182, .land, 1), (183, .lconst 0, 1)]) (by decide +kernel) rfl (g' := (mkF m 184 #[.val (.long x0), .second, .val (.long x1), .second, .val (.long x2), .second, .val (.long x3), .second, .val (.int x4), .val (.int (2 : Int32)), .val (.int (2 : Int32)), .val (.int (j0_32_s0 x0 x1 x2 x3 x4)), .val (.long (j0_48_s0 x0 x1 x2 x3 x4)), .second, .val (.long (j0_64_s0 x0 x1 x2 x3 x4)), .second, .val (.ref b117), .val (.ref b118), .val (.long x0), .second, .val (.long x1), .second, .val (.long (j0_48_s0 x0 x1 x2 x3 x4)), .second, .val (.long (j0_64_s0 x0 x1 x2 x3 x4)), .second, .unset] [(.long (0 : Int64)), (.long ((j0_64_s0 x0 x1 x2 x3 x4) &&& (x1 ^^^ (-1 : Int64))))])) rfl ?_
                  refine Goes.run X118 hx hown hci hcl hby (L := [(184, .lcmp, 1)]) (by decide +kernel) rfl (g' := (mkF m 185 #[.val (.long x0), .second, .val (.long x1), .second, .val (.long x2), .second, .val (.long x3), .second, .val (.int x4), .val (.int (2 : Int32)), .val (.int (2 : Int32)), .val (.int (j0_32_s0 x0 x1 x2 x3 x4)), .val (.long (j0_48_s0 x0 x1 x2 x3 x4)), .second, .val (.long (j0_64_s0 x0 x1 x2 x3 x4)), .second, .val (.ref b117), .val (.ref b118), .val (.long x0), .second, .val (.long x1), .second, .val (.long (j0_48_s0 x0 x1 x2 x3 x4)), .second, .val (.long (j0_64_s0 x0 x1 x2 x3 x4)), .second, .unset] [(.int (lcmpW ((j0_64_s0 x0 x1 x2 x3 x4) &&& (x1 ^^^ (-1 : Int64))) (0 : Int64)))])) rfl ?_
                  by_cases hc185_128 : ((j0_64_s0 x0 x1 x2 x3 x4) &&& (x1 ^^^ (-1 : Int64))) = (0 : Int64)
                  · skip
                    refine Goes.st (B := T118.setTop (mkF m 188 #[.val (.long x0), .second, .val (.long x1), .second, .val (.long x2), .second, .val (.long x3), .second, .val (.int x4), .val (.int (2 : Int32)), .val (.int (2 : Int32)), .val (.int (j0_32_s0 x0 x1 x2 x3 x4)), .val (.long (j0_48_s0 x0 x1 x2 x3 x4)), .second, .val (.long (j0_64_s0 x0 x1 x2 x3 x4)), .second, .val (.ref b117), .val (.ref b118), .val (.long x0), .second, .val (.long x1), .second, .val (.long (j0_48_s0 x0 x1 x2 x3 x4)), .second, .val (.long (j0_64_s0 x0 x1 x2 x3 x4)), .second, .unset] [])) (fun t k => ?_) ?_
                    · refine XS.ifNo X118.here hx rfl (hb hby at_185) rfl (teqL hc185_128).2 ?_
                      exact k
                    refine Goes.run X118 hx hown hci hcl hby (L := [(188, .iconst 1, 1), (189, .goto 4, 3)]) (by decide +kernel) rfl (g' := (mkF m 193 #[.val (.long x0), .second, .val (.long x1), .second, .val (.long x2), .second, .val (.long x3), .second, .val (.int x4), .val (.int (2 : Int32)), .val (.int (2 : Int32)), .val (.int (j0_32_s0 x0 x1 x2 x3 x4)), .val (.long (j0_48_s0 x0 x1 x2 x3 x4)), .second, .val (.long (j0_64_s0 x0 x1 x2 x3 x4)), .second, .val (.ref b117), .val (.ref b118), .val (.long x0), .second, .val (.long x1), .second, .val (.long (j0_48_s0 x0 x1 x2 x3 x4)), .second, .val (.long (j0_64_s0 x0 x1 x2 x3 x4)), .second, .unset] [(.int (1 : Int32))])) rfl ?_
                    have q := jn193_125
                    rw [show (j0_193_s0_h x0 x1 x2 x3 x4) = (1 : Int32) from ((if_pos hc171_123).trans (if_pos hc185_128))] at q
                    exact q
                  · skip
                    refine Goes.st (B := T118.setTop (mkF m 192 #[.val (.long x0), .second, .val (.long x1), .second, .val (.long x2), .second, .val (.long x3), .second, .val (.int x4), .val (.int (2 : Int32)), .val (.int (2 : Int32)), .val (.int (j0_32_s0 x0 x1 x2 x3 x4)), .val (.long (j0_48_s0 x0 x1 x2 x3 x4)), .second, .val (.long (j0_64_s0 x0 x1 x2 x3 x4)), .second, .val (.ref b117), .val (.ref b118), .val (.long x0), .second, .val (.long x1), .second, .val (.long (j0_48_s0 x0 x1 x2 x3 x4)), .second, .val (.long (j0_64_s0 x0 x1 x2 x3 x4)), .second, .unset] [])) (fun t k => ?_) ?_
                    · refine XS.ifYes X118.here hx rfl (pc0 := 185) (pc' := 192) rfl (hb hby at_185) rfl (feqL hc185_128).2 (by decide) (by decide) ?_
                      exact k
                    refine Goes.run X118 hx hown hci hcl hby (L := [(192, .iconst 0, 1)]) (by decide +kernel) rfl (g' := (mkF m 193 #[.val (.long x0), .second, .val (.long x1), .second, .val (.long x2), .second, .val (.long x3), .second, .val (.int x4), .val (.int (2 : Int32)), .val (.int (2 : Int32)), .val (.int (j0_32_s0 x0 x1 x2 x3 x4)), .val (.long (j0_48_s0 x0 x1 x2 x3 x4)), .second, .val (.long (j0_64_s0 x0 x1 x2 x3 x4)), .second, .val (.ref b117), .val (.ref b118), .val (.long x0), .second, .val (.long x1), .second, .val (.long (j0_48_s0 x0 x1 x2 x3 x4)), .second, .val (.long (j0_64_s0 x0 x1 x2 x3 x4)), .second, .unset] [(.int (0 : Int32))])) rfl ?_
                    have q := jn193_125
                    rw [show (j0_193_s0_h x0 x1 x2 x3 x4) = (0 : Int32) from ((if_pos hc171_123).trans (if_neg hc185_128))] at q
                    exact q
                · skip
                  refine Goes.st (B := T118.setTop (mkF m 192 #[.val (.long x0), .second, .val (.long x1), .second, .val (.long x2), .second, .val (.long x3), .second, .val (.int x4), .val (.int (2 : Int32)), .val (.int (2 : Int32)), .val (.int (j0_32_s0 x0 x1 x2 x3 x4)), .val (.long (j0_48_s0 x0 x1 x2 x3 x4)), .second, .val (.long (j0_64_s0 x0 x1 x2 x3 x4)), .second, .val (.ref b117), .val (.ref b118), .val (.long x0), .second, .val (.long x1), .second, .val (.long (j0_48_s0 x0 x1 x2 x3 x4)), .second, .val (.long (j0_64_s0 x0 x1 x2 x3 x4)), .second, .unset] [])) (fun t k => ?_) ?_
                  · refine XS.ifYes X118.here hx rfl (pc0 := 171) (pc' := 192) rfl (hb hby at_171) rfl (feqL hc171_123).2 (by decide) (by decide) ?_
                    exact k
                  refine Goes.run X118 hx hown hci hcl hby (L := [(192, .iconst 0, 1)]) (by decide +kernel) rfl (g' := (mkF m 193 #[.val (.long x0), .second, .val (.long x1), .second, .val (.long x2), .second, .val (.long x3), .second, .val (.int x4), .val (.int (2 : Int32)), .val (.int (2 : Int32)), .val (.int (j0_32_s0 x0 x1 x2 x3 x4)), .val (.long (j0_48_s0 x0 x1 x2 x3 x4)), .second, .val (.long (j0_64_s0 x0 x1 x2 x3 x4)), .second, .val (.ref b117), .val (.ref b118), .val (.long x0), .second, .val (.long x1), .second, .val (.long (j0_48_s0 x0 x1 x2 x3 x4)), .second, .val (.long (j0_64_s0 x0 x1 x2 x3 x4)), .second, .unset] [(.int (0 : Int32))])) rfl ?_
                  have q := jn193_125
                  rw [show (j0_193_s0_h x0 x1 x2 x3 x4) = (0 : Int32) from (if_neg hc171_123)] at q
                  exact q
      by_cases hc52_5 : (j0_32_s0 x0 x1 x2 x3 x4) = (0 : Int32)
      · skip
        refine Goes.st (B := s₁.setTop (mkF m 62 #[.val (.long x0), .second, .val (.long x1), .second, .val (.long x2), .second, .val (.long x3), .second, .val (.int x4), .val (.int (w0_6 x0 x1 x2 x3 x4)), .val (.int (w0_16 x0 x1 x2 x3 x4)), .val (.int (j0_32_s0 x0 x1 x2 x3 x4)), .val (.long (j0_48_s0 x0 x1 x2 x3 x4)), .second, .unset, .unset, .unset, .unset, .unset, .unset, .unset, .unset, .unset, .unset, .unset, .unset, .unset] [])) (fun t k => ?_) ?_
        · refine XS.ifYes X0.here hx rfl (pc0 := 52) (pc' := 62) rfl (hb hby at_52) rfl ((if0 _ _).trans (teq hc52_5).1) (by decide) (by decide) ?_
          exact k
        refine Goes.run X0 hx hown hci hcl hby (L := [(62, .lload 6, 2)]) (by decide +kernel) rfl (g' := (mkF m 64 #[.val (.long x0), .second, .val (.long x1), .second, .val (.long x2), .second, .val (.long x3), .second, .val (.int x4), .val (.int (w0_6 x0 x1 x2 x3 x4)), .val (.int (w0_16 x0 x1 x2 x3 x4)), .val (.int (j0_32_s0 x0 x1 x2 x3 x4)), .val (.long (j0_48_s0 x0 x1 x2 x3 x4)), .second, .unset, .unset, .unset, .unset, .unset, .unset, .unset, .unset, .unset, .unset, .unset, .unset, .unset] [(.long x3)])) rfl ?_
        have q := jn64_6
        rw [show (j0_64_s0 x0 x1 x2 x3 x4) = x3 from (if_pos hc52_5)] at q
        exact q
      · skip
        refine Goes.st (B := s₁.setTop (mkF m 55 #[.val (.long x0), .second, .val (.long x1), .second, .val (.long x2), .second, .val (.long x3), .second, .val (.int x4), .val (.int (w0_6 x0 x1 x2 x3 x4)), .val (.int (w0_16 x0 x1 x2 x3 x4)), .val (.int (j0_32_s0 x0 x1 x2 x3 x4)), .val (.long (j0_48_s0 x0 x1 x2 x3 x4)), .second, .unset, .unset, .unset, .unset, .unset, .unset, .unset, .unset, .unset, .unset, .unset, .unset, .unset] [])) (fun t k => ?_) ?_
        · refine XS.ifNo X0.here hx rfl (hb hby at_52) rfl ((if0 _ _).trans (feq hc52_5).1) ?_
          exact k
        refine Goes.run X0 hx hown hci hcl hby (L := [(55, .lload 6, 2), (57, .lload_n 2, 1), (58, .land, 1), (59, .goto 5, 3)]) (by decide +kernel) rfl (g' := (mkF m 64 #[.val (.long x0), .second, .val (.long x1), .second, .val (.long x2), .second, .val (.long x3), .second, .val (.int x4), .val (.int (w0_6 x0 x1 x2 x3 x4)), .val (.int (w0_16 x0 x1 x2 x3 x4)), .val (.int (j0_32_s0 x0 x1 x2 x3 x4)), .val (.long (j0_48_s0 x0 x1 x2 x3 x4)), .second, .unset, .unset, .unset, .unset, .unset, .unset, .unset, .unset, .unset, .unset, .unset, .unset, .unset] [(.long (x3 &&& x1))])) rfl ?_
        have q := jn64_6
        rw [show (j0_64_s0 x0 x1 x2 x3 x4) = (x3 &&& x1) from (if_neg hc52_5)] at q
        exact q
    by_cases hc36_3 : (j0_32_s0 x0 x1 x2 x3 x4) = (0 : Int32)
    · skip
      refine Goes.st (B := s₁.setTop (mkF m 46 #[.val (.long x0), .second, .val (.long x1), .second, .val (.long x2), .second, .val (.long x3), .second, .val (.int x4), .val (.int (w0_6 x0 x1 x2 x3 x4)), .val (.int (w0_16 x0 x1 x2 x3 x4)), .val (.int (j0_32_s0 x0 x1 x2 x3 x4)), .unset, .unset, .unset, .unset, .unset, .unset, .unset, .unset, .unset, .unset, .unset, .unset, .unset, .unset, .unset] [])) (fun t k => ?_) ?_
      · refine XS.ifYes X0.here hx rfl (pc0 := 36) (pc' := 46) rfl (hb hby at_36) rfl ((if0 _ _).trans (teq hc36_3).1) (by decide) (by decide) ?_
        exact k
      refine Goes.run X0 hx hown hci hcl hby (L := [(46, .lload 4, 2)]) (by decide +kernel) rfl (g' := (mkF m 48 #[.val (.long x0), .second, .val (.long x1), .second, .val (.long x2), .second, .val (.long x3), .second, .val (.int x4), .val (.int (w0_6 x0 x1 x2 x3 x4)), .val (.int (w0_16 x0 x1 x2 x3 x4)), .val (.int (j0_32_s0 x0 x1 x2 x3 x4)), .unset, .unset, .unset, .unset, .unset, .unset, .unset, .unset, .unset, .unset, .unset, .unset, .unset, .unset, .unset] [(.long x2)])) rfl ?_
      have q := jn48_4
      rw [show (j0_48_s0 x0 x1 x2 x3 x4) = x2 from (if_pos hc36_3)] at q
      exact q
    · skip
      refine Goes.st (B := s₁.setTop (mkF m 39 #[.val (.long x0), .second, .val (.long x1), .second, .val (.long x2), .second, .val (.long x3), .second, .val (.int x4), .val (.int (w0_6 x0 x1 x2 x3 x4)), .val (.int (w0_16 x0 x1 x2 x3 x4)), .val (.int (j0_32_s0 x0 x1 x2 x3 x4)), .unset, .unset, .unset, .unset, .unset, .unset, .unset, .unset, .unset, .unset, .unset, .unset, .unset, .unset, .unset] [])) (fun t k => ?_) ?_
      · refine XS.ifNo X0.here hx rfl (hb hby at_36) rfl ((if0 _ _).trans (feq hc36_3).1) ?_
        exact k
      refine Goes.run X0 hx hown hci hcl hby (L := [(39, .lload 4, 2), (41, .lload_n 0, 1), (42, .land, 1), (43, .goto 5, 3)]) (by decide +kernel) rfl (g' := (mkF m 48 #[.val (.long x0), .second, .val (.long x1), .second, .val (.long x2), .second, .val (.long x3), .second, .val (.int x4), .val (.int (w0_6 x0 x1 x2 x3 x4)), .val (.int (w0_16 x0 x1 x2 x3 x4)), .val (.int (j0_32_s0 x0 x1 x2 x3 x4)), .unset, .unset, .unset, .unset, .unset, .unset, .unset, .unset, .unset, .unset, .unset, .unset, .unset, .unset, .unset] [(.long (x2 &&& x0))])) rfl ?_
      have q := jn48_4
      rw [show (j0_48_s0 x0 x1 x2 x3 x4) = (x2 &&& x0) from (if_neg hc36_3)] at q
      exact q
  by_cases hc24_1 : (((x4.toUInt32 >>> ((4 : Int32) &&& 31).toUInt32).toInt32) &&& (1 : Int32)) = (0 : Int32)
  · skip
    refine Goes.st (B := s₁.setTop (mkF m 31 #[.val (.long x0), .second, .val (.long x1), .second, .val (.long x2), .second, .val (.long x3), .second, .val (.int x4), .val (.int (w0_6 x0 x1 x2 x3 x4)), .val (.int (w0_16 x0 x1 x2 x3 x4)), .unset, .unset, .unset, .unset, .unset, .unset, .unset, .unset, .unset, .unset, .unset, .unset, .unset, .unset, .unset, .unset] [])) (fun t k => ?_) ?_
    · refine XS.ifYes X0.here hx rfl (pc0 := 24) (pc' := 31) rfl (hb hby at_24) rfl ((if0 _ _).trans (teq hc24_1).1) (by decide) (by decide) ?_
      exact k
    refine Goes.run X0 hx hown hci hcl hby (L := [(31, .iconst 0, 1)]) (by decide +kernel) rfl (g' := (mkF m 32 #[.val (.long x0), .second, .val (.long x1), .second, .val (.long x2), .second, .val (.long x3), .second, .val (.int x4), .val (.int (w0_6 x0 x1 x2 x3 x4)), .val (.int (w0_16 x0 x1 x2 x3 x4)), .unset, .unset, .unset, .unset, .unset, .unset, .unset, .unset, .unset, .unset, .unset, .unset, .unset, .unset, .unset, .unset] [(.int (0 : Int32))])) rfl ?_
    have q := jn32_2
    rw [show (j0_32_s0 x0 x1 x2 x3 x4) = (0 : Int32) from (if_pos hc24_1)] at q
    exact q
  · skip
    refine Goes.st (B := s₁.setTop (mkF m 27 #[.val (.long x0), .second, .val (.long x1), .second, .val (.long x2), .second, .val (.long x3), .second, .val (.int x4), .val (.int (w0_6 x0 x1 x2 x3 x4)), .val (.int (w0_16 x0 x1 x2 x3 x4)), .unset, .unset, .unset, .unset, .unset, .unset, .unset, .unset, .unset, .unset, .unset, .unset, .unset, .unset, .unset, .unset] [])) (fun t k => ?_) ?_
    · refine XS.ifNo X0.here hx rfl (hb hby at_24) rfl ((if0 _ _).trans (feq hc24_1).1) ?_
      exact k
    refine Goes.run X0 hx hown hci hcl hby (L := [(27, .iconst 1, 1), (28, .goto 4, 3)]) (by decide +kernel) rfl (g' := (mkF m 32 #[.val (.long x0), .second, .val (.long x1), .second, .val (.long x2), .second, .val (.long x3), .second, .val (.int x4), .val (.int (w0_6 x0 x1 x2 x3 x4)), .val (.int (w0_16 x0 x1 x2 x3 x4)), .unset, .unset, .unset, .unset, .unset, .unset, .unset, .unset, .unset, .unset, .unset, .unset, .unset, .unset, .unset, .unset] [(.int (1 : Int32))])) rfl ?_
    have q := jn32_2
    rw [show (j0_32_s0 x0 x1 x2 x3 x4) = (1 : Int32) from (if_neg hc24_1)] at q
    exact q
set_option maxRecDepth 65536 in
set_option maxHeartbeats 40000000 in
theorem comes_1 {Post : Tables → Env → Array Value → State → Outcome → State → Prop} (hpost : ∀ tb e args s v u, (limb_1_1.after args s (.returned v) u = true ∧ limb_1_2.after args s (.returned v) u = true ∧ True) → FrameEnd s (.returned v) u (Jvm.fieldLocs frame_1_writes args s ++ Jvm.arrayLocs frame_1_arrays args s ++ Jvm.staticLocs frame_1_statics s) 16 128 → Post tb e args s (.returned v) u) :
    ArmFor flags0 classFile x code maxLocals ret World_1 tables_1 room_1 Calls_1 rest_1 Pre_1 Post := by
  intro l hfl _ _ p e ha hc hk s m args below hf hA hF happ hP
  obtain ⟨hcalls, hrest, hpre⟩ := hP
  obtain ⟨-, -, -, hnamed, -, -, -, hat⟩ := (Spec.applies_iff hf).mp happ
  obtain ⟨hg, hn⟩ := and_e (Cond.before_iff.mp (show (Jvm.Cond.and given_1 narrow_1).before args s = true from hpre))
  obtain ⟨g0, g0r⟩ := and_e hg
  obtain ⟨g1, g1r⟩ := and_e g0r
  obtain ⟨g2, g2r⟩ := and_e g1r
  obtain ⟨g3, g3r⟩ := and_e g2r
  obtain ⟨g4, g5⟩ := and_e g3r
  obtain ⟨w0, w1, w2, w3, w4, rfl⟩ : ∃ w0 w1 w2 w3 w4 : Value, args = #[w0, w1, w2, w3, w4] := by
    have hs : args.size = 5 := by simpa [Cond.value, given_1] using g0
    obtain ⟨L⟩ := args
    match L, hs with
    | [w0, w1, w2, w3, w4], _ => exact ⟨w0, w1, w2, w3, w4, rfl⟩
  have hw := fun d (hd : d ∈ tables_1) => atoms_spec (ws := Jvm.Cond.code x code maxLocals ret :: tables_1) hat d (List.mem_cons_of_mem _ hd)
  have hfit : Fit s := fun {y c} hc i hi => by
    obtain ⟨ha, rfl⟩ := Array.getElem?_eq_some_iff.mp hc
    have q := List.all_eq_true.mp ((Array.all_eq_true_iff_forall_mem.mp hF) _ (Array.getElem_mem ha)) i (List.mem_range.mpr hi)
    simpa [Array.getElem?_eq_getElem hi] using q
  obtain ⟨i0, ei0⟩ := isL_v g1
  obtain rfl : w0 = (.long i0) := Option.some.inj ei0
  obtain ⟨i1, ei1⟩ := isL_v g2
  obtain rfl : w1 = (.long i1) := Option.some.inj ei1
  obtain ⟨i2, ei2⟩ := isL_v g3
  obtain rfl : w2 = (.long i2) := Option.some.inj ei2
  obtain ⟨i3, ei3⟩ := isL_v g4
  obtain rfl : w3 = (.long i3) := Option.some.inj ei3
  obtain ⟨i4, ei4⟩ := is_v g5
  obtain rfl : w4 = (.int i4) := Option.some.inj ei4
  obtain ⟨n, o, h1, h2, h3, v, L, rfl, hv, hq⟩ := rm0 l s _ hw tables_1 i0 i1 i2 i3 i4  s.heap s.heap.size (Nat.le_refl _)  p e ha hc hk s m _ below hf ((Spec.applies_iff_loose hf).mp happ).1 ⟨rfl, State.Warmed39.refl s, rfl⟩ trivial
  have N := hv.2
  have hv1 : v = some (.int 1) := hv.1.trans (congrArg (fun z => some (Value.int z)) (law_true i0 i1 i2 i3 i4))
  subst hv1
  refine ⟨n, _, h1, h2, h3, hpost _ _ _ _ _ _ ⟨Cond.after_iff.mpr rfl, Cond.after_iff.mpr (eq_i res_at (Term.int_eval (1)) rfl), trivial⟩ ⟨hq.1, hq.2.1, (hq.2.2.sift fun y hy => Or.inr (N y hy)).mono (by decide) (by decide)⟩⟩
theorem main_1_1 : Claimed_1_1 := comes_1 fun _ _ _ _ _ _ h hF => ⟨h.1, hF⟩
theorem main_1_2 : Claimed_1_2 := comes_1 fun _ _ _ _ _ _ h hF => ⟨h.2.1, hF⟩
end Jvm.Pilot.@@N@@
namespace Jvm.Pilot.@@N@@
open Jvm Jvm.ClassFile Sem Op Lib Jvm.Free Jvm.Stand Jvm.Pilot.@@N@@.Jvm.D
/-! MADE BY PROGRAM (witnessworld.py) out of the Statement's table words and the real class files: 11 classes; the members and pool entries that the words name. The judged class is class 1, her method 3. -/
namespace start1
open Jvm.ClassFile
def u (s : String) : CpInfo := .utf8 (stringToUtf16 s)
/-- a pool by its gaps: so many unusable entries, then the entry; so many at the end -/
def gap : Nat → List CpInfo → List CpInfo
  | 0, r => r
  | n + 1, r => .unusable :: gap n r
def poolList (es : List (Nat × CpInfo)) (last : Nat) : List CpInfo := es.foldr (fun e r => gap e.1 (e.2 :: r)) (gap last [])
def pool (es : List (Nat × CpInfo)) (last : Nat) : Array CpInfo := ⟨poolList es last⟩
def fileOf (pool : Array CpInfo) (this : Nat) (attrs : Array Attribute := #[]) (ms : Array MethodInfo := #[]) (fl : Nat := 33) (sup : Nat := 0) (ifs : Array Nat := #[]) (fds : Array FieldInfo := #[]) : ClassFile where
  minorVersion := 0
  majorVersion := 65
  constantPool := pool
  accessFlags := fl
  thisClass := this
  superClass := sup
  interfaces := ifs
  fields := fds
  methods := ms
  attributes := attrs
def plain (name : String) (sup : Option ClassId) : Class where
  name := name
  kind := .ordinary
  loader := none
  accessFlags := 33
  super := sup
  interfaces := #[]
  cf := none
  fields := #[]
  methods := #[]
  instanceTypes := #[]
  staticTypes := #[]
  resolved := #[]
  callSites := []
  init := .initialized
  statics := none
  mirror := none

def pool0 : Array CpInfo := pool [(5, u "<init>"), (0, u "()V"), (1, .class_ 10), (1, u "java/lang/Object")] 113

def k0m0 : Method := { name := "<init>", desc := "()V", sig := { parameters := [], returnType := none }, accessFlags := 1, code := none }
/-- java/lang/Object -/
def k0 : Class := { plain "java/lang/Object" none with
  accessFlags := 33
  interfaces := #[]
  cf := some (fileOf pool0 8 #[] #[{ accessFlags := 1, nameIndex := 5, descriptorIndex := 6, attributes := #[] }] 33 0 #[] #[])
  fields := #[]
  methods := #[k0m0]
  instanceTypes := #[]
  staticTypes := #[]
  resolved := Array.replicate 124 none
  statics := none }

def pool1 : Array CpInfo := pool [(2, .class_ 4), (1, u "java/lang/Object"), (0, u "<init>"), (0, u "()V"), (0, .methodref 8 9), (0, .class_ 10), (0, .nameAndType 11 12), (0, u "com/example/marks_across_domains/marksacrossdomains/BitsContainsPinLaw"), (0, u "trim"), (0, u "(IJJ)I"), (0, .methodref 8 14), (0, .nameAndType 15 16), (0, u "make"), (0, u "(IJJ)[J"), (0, .long 18446744073709551615), (1, .methodref 20 21), (0, .class_ 22), (0, .nameAndType 23 24), (0, u "com/example/marks_across_domains/marksacrossdomains/Bits"), (0, u "contains"), (0, u "([J[J)Z"), (5, u "law"), (0, u "(JJJJI)Z")] 2

def k1m0 : Method := { name := "<init>", desc := "()V", sig := { parameters := [], returnType := none }, accessFlags := 2, code := none }
def k1c1 : Code := { maxStack := 4, maxLocals := 6, code := method_2_code, exceptionTable := #[], attributes := #[] }
def k1m1 : Method := { name := "trim", desc := "(IJJ)I", sig := { parameters := [.int, .long, .long], returnType := some .int }, accessFlags := 10, code := some k1c1 }
def k1c2 : Code := { maxStack := 4, maxLocals := 6, code := method_3_code, exceptionTable := #[], attributes := #[] }
def k1m2 : Method := { name := "make", desc := "(IJJ)[J", sig := { parameters := [.int, .long, .long], returnType := some (.array .long) }, accessFlags := 10, code := some k1c2 }
def k1c3 : Code := { maxStack := 6, maxLocals := 27, code := code, exceptionTable := #[], attributes := #[] }
def k1m3 : Method := { name := "law", desc := "(JJJJI)Z", sig := { parameters := [.long, .long, .long, .long, .int], returnType := some .boolean }, accessFlags := 9, code := some k1c3 }
/-- com/example/marks_across_domains/marksacrossdomains/BitsContainsPinLaw -/
def k1 : Class := { plain "com/example/marks_across_domains/marksacrossdomains/BitsContainsPinLaw" (some 0) with
  accessFlags := 49
  interfaces := #[]
  cf := some (fileOf pool1 8 #[] #[{ accessFlags := 2, nameIndex := 5, descriptorIndex := 6, attributes := #[] }, { accessFlags := 10, nameIndex := 11, descriptorIndex := 12, attributes := #[] }, { accessFlags := 10, nameIndex := 15, descriptorIndex := 16, attributes := #[] }, { accessFlags := 9, nameIndex := 30, descriptorIndex := 31, attributes := #[] }] 49 2 #[] #[])
  fields := #[]
  methods := #[k1m0, k1m1, k1m2, k1m3]
  instanceTypes := #[]
  staticTypes := #[]
  resolved := Array.replicate 34 none
  statics := none }

def pool2 : Array CpInfo := pool [(2, .class_ 4), (1, u "java/lang/Object"), (0, u "<init>"), (0, u "()V"), (0, .long 18446744073709551615), (14, .class_ 24), (1, u "com/example/marks_across_domains/marksacrossdomains/Bits"), (21, u "[J"), (10, u "NONE"), (12, u "contains"), (0, u "([J[J)Z")] 8

def k2m0 : Method := { name := "<init>", desc := "()V", sig := { parameters := [], returnType := none }, accessFlags := 2, code := none }
def k2c1 : Code := { maxStack := 6, maxLocals := 3, code := prog_3_method_7_code, exceptionTable := #[], attributes := #[] }
def k2m1 : Method := { name := "contains", desc := "([J[J)Z", sig := { parameters := [(.array .long), (.array .long)], returnType := some .boolean }, accessFlags := 8, code := some k2c1 }
/-- com/example/marks_across_domains/marksacrossdomains/Bits -/
def k2 : Class := { plain "com/example/marks_across_domains/marksacrossdomains/Bits" (some 0) with
  accessFlags := 48
  interfaces := #[]
  cf := some (fileOf pool2 22 #[] #[{ accessFlags := 2, nameIndex := 5, descriptorIndex := 6, attributes := #[] }, { accessFlags := 8, nameIndex := 70, descriptorIndex := 71, attributes := #[] }] 48 2 #[] #[{ accessFlags := 24, nameIndex := 57, descriptorIndex := 46, attributes := #[] }])
  fields := #[{ name := "NONE", type := (.array .long), accessFlags := 24, slot := 0, constantValue := 0 }]
  methods := #[k2m0, k2m1]
  instanceTypes := #[]
  staticTypes := #[(.array .long)]
  resolved := Array.replicate 80 none
  statics := none }

def pool3 : Array CpInfo := pool [(1, u "java/lang/Cloneable"), (0, .class_ 1), (0, u "java/lang/Object"), (0, .class_ 3)] 3

/-- java/lang/Cloneable -/
def k3 : Class := { plain "java/lang/Cloneable" (some 0) with
  accessFlags := 1537
  interfaces := #[]
  cf := some (fileOf pool3 2 #[] #[] 1537 4 #[] #[])
  fields := #[]
  methods := #[]
  instanceTypes := #[]
  staticTypes := #[]
  resolved := Array.replicate 8 none
  statics := none }

def pool4 : Array CpInfo := pool [(1, u "java/io/Serializable"), (0, .class_ 1), (0, u "java/lang/Object"), (0, .class_ 3)] 3

/-- java/io/Serializable -/
def k4 : Class := { plain "java/io/Serializable" (some 0) with
  accessFlags := 1537
  interfaces := #[]
  cf := some (fileOf pool4 2 #[] #[] 1537 4 #[] #[])
  fields := #[]
  methods := #[]
  instanceTypes := #[]
  staticTypes := #[]
  resolved := Array.replicate 8 none
  statics := none }

/-- the primitive byte -/
def k5 : Class := { plain "byte" none with kind := .primitive 'B', accessFlags := 0x411 }
/-- [B -/
def k6 : Class := { plain "[B" (some 0) with kind := .array 5 .byte, interfaces := #[3, 4], accessFlags := 1041 }

/-- the primitive int -/
def k7 : Class := { plain "int" none with kind := .primitive 'I', accessFlags := 0x411 }
/-- [I -/
def k8 : Class := { plain "[I" (some 0) with kind := .array 7 .int, interfaces := #[3, 4], accessFlags := 1041 }

/-- the primitive long -/
def k9 : Class := { plain "long" none with kind := .primitive 'J', accessFlags := 0x411 }
/-- [J -/
def k10 : Class := { plain "[J" (some 0) with kind := .array 9 .long, interfaces := #[3, 4], accessFlags := 1041 }

def heap : Heap := #[]
def classes : Array Class := #[k0, k1, k2, k3, k4, k5, k6, k7, k8, k9, k10]
def interned : List (Array UInt16 × Addr) := []
def slotsUsed : Nat := 0
def theMethod : MethodId := ⟨1, 3⟩
def args0 : Array Value := #[.long 5, .long 7, .long 9, .long 11, .int 3]
def aboutOver (below : List Frame) : State where
  vm := { classes := classes, interned := interned.toArray }
  heap := heap
  slotsUsed := slotsUsed
  threads := #[{ frames := .invoking theMethod args0 :: below }]
def below0 : List Frame := [.native { method := ⟨0, 0⟩, args := #[] }]
def about1 : State := aboutOver below0
def p0 : Program := .bare "" "" ""
def e0 : Env := launch0.env 0 0 0
theorem w_frames : about1.frames = Frame.invoking theMethod args0 :: below0 := rfl
set_option maxRecDepth 65536 in
theorem w_args : argsFit about1.vm theMethod args0 = true := by decide +kernel
set_option maxRecDepth 65536 in
theorem w_heap : heapFits about1 = true := by decide +kernel
set_option maxRecDepth 65536 in
theorem w_runnable : about1.curStatus? = some .runnable := by decide +kernel
set_option maxRecDepth 65536 in
theorem w_alone : about1.alone = true := by decide +kernel
set_option maxRecDepth 65536 in
theorem w_named : about1.methodNamed? x = some theMethod := by decide +kernel
set_option maxRecDepth 65536 in
theorem w_hears : about1.hears theMethod below0 = true := by decide +kernel
set_option maxRecDepth 65536 in
theorem w_ripe : about1.ripe theMethod args0 below0 = true := by decide +kernel
theorem w_running : about1.status = .running := rfl
set_option maxRecDepth 65536 in
theorem w_room : about1.hasRoom e0.platform room_1 = true :=
  launch0.hasRoom_least _ room_1 (by decide +kernel) (by decide +kernel) (by decide +kernel) (by decide +kernel) (by decide +kernel) (by decide +kernel)
theorem allAtoms_all (ts : List Jvm.Cond) (a : Array Jvm.Value) (st : Jvm.State) : (allAtoms ts).before a st = ts.all (fun c => c.before a st) := by
  induction ts with
  | nil => rfl
  | cons c t ih =>
    show (Jvm.Cond.and c (allAtoms t)).before a st = _
    rw [Jvm.Cond.before_and, ih, List.all_cons]
def words1 : List Jvm.Cond := Jvm.Cond.code x code maxLocals ret :: tables_1
/-- a 'code' word, met by the world's own term for the bytes: nothing is compared byte by byte -/
theorem code_word {y : MethodName} {bytes : ByteArray} {mx : Nat} {rt : Option FieldType} {a : Array Value} {s : State} {m : MethodId} {meth : Method} {c : Code} (h1 : s.methodNamed? y = some m) (h2 : s.vm.method? m = some meth) (h3 : meth.code = some c) (h4 : c.code = bytes)
    (h5 : (c.maxLocals == mx && c.exceptionTable.isEmpty && decide (c.maxStack ≤ mostOperands) && decide (meth.sig.returnType = rt) && !meth.locks && decide (parseMethodDescriptor y.desc = some meth.sig)) = true) : (Jvm.Cond.code y bytes mx rt).before a s = true := by
  simp only [Bool.and_eq_true, beq_iff_eq, Bool.not_eq_true', decide_eq_true_eq] at h5
  obtain ⟨⟨⟨⟨⟨g1, g2⟩, g3⟩, g4⟩, g5⟩, g6⟩ := h5
  simp [Cond.before, Cond.holds, Cond.value, h1, h2, h3, h4, g1, g2, g3, g4, g5, g6]
def isCode : Jvm.Cond → Bool
  | .code _ _ _ _ => true
  | _ => false
theorem all_split {L : List Jvm.Cond} {P : Jvm.Cond → Bool} (h1 : L.all (fun c => isCode c || P c) = true) (h2 : ∀ c ∈ L.filter isCode, P c = true) : L.all P = true := by
  refine List.all_eq_true.mpr fun c hc => ?_
  have h := List.all_eq_true.mp h1 c hc
  rcases Bool.eq_false_or_eq_true (isCode c) with hi | hi
  · exact h2 c (List.mem_filter.mpr ⟨hc, hi⟩)
  · simpa [hi] using h
set_option maxRecDepth 65536 in
theorem w_c0 : (Jvm.Cond.code x code maxLocals ret).before args0 about1 = true := code_word (m := ⟨1, 3⟩) (meth := k1m3) (c := k1c3) (by decide +kernel) rfl rfl rfl (by decide +kernel)
set_option maxRecDepth 65536 in
theorem w_c1 : (Jvm.Cond.code ({ cls := "com/example/marks_across_domains/marksacrossdomains/BitsContainsPinLaw", name := "trim", desc := "(IJJ)I" } : Jvm.MethodName) method_2_code (6 : Nat) (Option.some Jvm.ClassFile.FieldType.int)).before args0 about1 = true := code_word (m := ⟨1, 1⟩) (meth := k1m1) (c := k1c1) (by decide +kernel) rfl rfl rfl (by decide +kernel)
set_option maxRecDepth 65536 in
theorem w_c2 : (Jvm.Cond.code ({ cls := "com/example/marks_across_domains/marksacrossdomains/BitsContainsPinLaw", name := "make", desc := "(IJJ)[J" } : Jvm.MethodName) method_3_code (6 : Nat) (Option.some (Jvm.ClassFile.FieldType.array Jvm.ClassFile.FieldType.long))).before args0 about1 = true := code_word (m := ⟨1, 2⟩) (meth := k1m2) (c := k1c2) (by decide +kernel) rfl rfl rfl (by decide +kernel)
set_option maxRecDepth 65536 in
theorem w_c3 : (Jvm.Cond.code ({ cls := "com/example/marks_across_domains/marksacrossdomains/Bits", name := "contains", desc := "([J[J)Z" } : Jvm.MethodName) prog_3_method_7_code (3 : Nat) (Option.some Jvm.ClassFile.FieldType.boolean)).before args0 about1 = true := code_word (m := ⟨2, 1⟩) (meth := k2m1) (c := k2c1) (by decide +kernel) rfl rfl rfl (by decide +kernel)
def codes1 : List Jvm.Cond := [Jvm.Cond.code x code maxLocals ret, Jvm.Cond.code ({ cls := "com/example/marks_across_domains/marksacrossdomains/BitsContainsPinLaw", name := "trim", desc := "(IJJ)I" } : Jvm.MethodName) method_2_code (6 : Nat) (Option.some Jvm.ClassFile.FieldType.int), Jvm.Cond.code ({ cls := "com/example/marks_across_domains/marksacrossdomains/BitsContainsPinLaw", name := "make", desc := "(IJJ)[J" } : Jvm.MethodName) method_3_code (6 : Nat) (Option.some (Jvm.ClassFile.FieldType.array Jvm.ClassFile.FieldType.long)), Jvm.Cond.code ({ cls := "com/example/marks_across_domains/marksacrossdomains/Bits", name := "contains", desc := "([J[J)Z" } : Jvm.MethodName) prog_3_method_7_code (3 : Nat) (Option.some Jvm.ClassFile.FieldType.boolean)]
set_option maxRecDepth 65536 in
theorem codes_eq : words1.filter isCode = codes1 := rfl
theorem w_codes : ∀ c ∈ words1.filter isCode, c.before args0 about1 = true := by
  rw [codes_eq]
  intro c hc
  simp only [codes1, List.mem_cons, List.not_mem_nil, or_false] at hc
  rcases hc with rfl | rfl | rfl | rfl
  · exact w_c0
  · exact w_c1
  · exact w_c2
  · exact w_c3
set_option maxRecDepth 65536 in
theorem w_t1 : words1.all (fun c => isCode c || c.before args0 about1) = true := by decide +kernel
theorem w_tables : (allAtoms (Jvm.Cond.code x code maxLocals ret :: tables_1)).before args0 about1 = true := by
  rw [allAtoms_all]
  show words1.all (fun c => c.before args0 about1) = true
  refine all_split ?_ w_codes
  rw [w_t1]
set_option maxRecDepth 65536 in
theorem w_case : (Jvm.Cond.and given_1 narrow_1).before args0 about1 = true := by decide +kernel
theorem w_applies : (headSpec (Jvm.Cond.code x code maxLocals ret :: tables_1) room_1).applies x e0.platform about1 = true :=
  (Spec.applies_iff w_frames).mpr ⟨w_running, w_runnable, w_alone, w_named, w_hears, w_ripe, w_room, w_tables⟩
theorem atStart : AtStart classFile x code maxLocals ret World_1 tables_1 room_1 Calls_1 rest_1 Pre_1 launch0 p0 e0 about1 theMethod args0 below0 :=
  ⟨lists_1, trivial, launch0.admits_env _ _ _, launch0.least_env, fairChoices_fair.cas, fairChoices_fair.clock, w_frames, w_args, w_heap, w_applies, trivial, trivial, w_case⟩
end start1
theorem witness_1 : WitnessClaimed_1 := ⟨start1.p0, start1.e0, start1.about1, start1.theMethod, start1.args0, start1.below0, start1.atStart⟩
end Jvm.Pilot.@@N@@
