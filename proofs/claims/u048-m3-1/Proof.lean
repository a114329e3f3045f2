import JvmDerived
import JvmDerived.Pilot.@@N@@Statement
import JvmDerived.Pilot.@@N@@Code
set_option linter.unusedVariables false
set_option linter.unusedSimpArgs false
@@BLOCK:NumsL.lean.txt@@
namespace Jvm.Pilot.@@N@@
open Jvm Jvm.ClassFile Sem Op Lib Jvm.Free Jvm.Stand Jvm.LawKit Jvm.RoadKit Bundle Jvm.Pilot.@@N@@.Jvm.D
def Goes (p : Program) (e : Env) (below : List Frame) (s : State) (Q : Option Value → Heap → List Loc → Prop) (kc ks : Nat) (A : State) : Prop :=
  ∃ s₂ o, Steps p.tables e below A s₂ ∧ s₂.status = .running ∧ Ended s₂ below o ∧ ∃ v L, o = .returned v ∧ Q v s₂.heap L ∧ FrameEnd s o s₂ L kc ks
def QL (w : Option Value) (n0 : Nat) (v : Option Value) (h : Heap) (L : List Loc) : Prop := v = w ∧ Fr n0 L
theorem own_selp {s : State} {args : Array Value} {y : MethodName} {n : Nat} (hins : (Cond.instantiable y.cls n).before args s = true) (hpriv : (Cond.privateMethod y).before args s = true) (hinst : (Cond.instanceMethod y).before args s = true) (hy : y.cls ≠ "java/lang/invoke/MethodHandle" ∧ y.cls ≠ "java/lang/invoke/VarHandle") : (Cond.selects y.cls y y).before args s = true := by
  obtain ⟨c, k, hc, hk, -, hniab, -, -⟩ := Cond.instantiable_spec hins
  exact selects_self_of_private hc hk (Bool.or_eq_false_iff.mp hniab).1 (Cond.privateMethod_at hpriv) hinst hy
def QP (w : Option Value) (h0 : Heap) (n0 : Nat) (v : Option Value) (h : Heap) (L : List Loc) : Prop := v = w ∧ Fr n0 L ∧ h = h0
section OwnGoes
variable {p : Program} {l : Launch} {e : Env} {R : Room} {s : State} {m : MethodId} {args : Array Value} {below : List Frame} {meth : Method} {c : Code} {T : State} {locs : List Loc} {cells slots kc ks : Nat} {Q : Option Value → Heap → List Loc → Prop}
theorem Goes.st {A B : State} (h : ∀ t, Steps p.tables e below B t → Steps p.tables e below A t) (g : Goes p e below s Q kc ks B) : Goes p e below s Q kc ks A := by
  obtain ⟨s₂, o, h1, r⟩ := g
  exact ⟨s₂, o, h _ h1, r⟩
theorem Goes.cast {g g' : JFrame} (q : g = g') (h : Goes p e below s Q kc ks (T.setTop g')) : Goes p e below s Q kc ks (T.setTop g) := q ▸ h
theorem Goes.retI (X : Stand p l e R s m args below meth c T locs cells slots) (hx : p.tables.exec = Jvm.exec) (hlk : meth.locks = false) (hret : meth.sig.returnType = some .int) {pc : Nat} {Ls : Array Slot} {z : Int32} {rest : List Value} (hd : decode c.code pc = .ok (.ireturn, 1)) (hQ : Q (some (.int z)) T.heap locs) (h1 : cells ≤ kc) (h2 : slots ≤ ks) : Goes p e below s Q kc ks (T.setTop (mkF m pc Ls (.int z :: rest))) := by
  obtain ⟨fs, hr, hrun, hended, hW, hsame⟩ := X.leave (v := some (.int z)) (fun h => by rw [hret] at h; cases h)
  exact ⟨_, _, retOut X hx hret rfl (Or.inl ⟨rfl, Or.inl rfl, _, rfl⟩) hd hr, hrun, hended, _, _, rfl, hQ, ⟨_, rfl⟩, hW, hsame.mono h1 h2⟩
theorem Goes.retJ (X : Stand p l e R s m args below meth c T locs cells slots) (hx : p.tables.exec = Jvm.exec) (hlk : meth.locks = false) (hret : meth.sig.returnType = some .long) {pc : Nat} {Ls : Array Slot} {z : Int64} {rest : List Value} (hd : decode c.code pc = .ok (.lreturn, 1)) (hQ : Q (some (.long z)) T.heap locs) (h1 : cells ≤ kc) (h2 : slots ≤ ks) : Goes p e below s Q kc ks (T.setTop (mkF m pc Ls (.long z :: rest))) := by
  obtain ⟨fs, hr, hrun, hended, hW, hsame⟩ := X.leave (v := some (.long z)) (fun h => by rw [hret] at h; cases h)
  exact ⟨_, _, retOut X hx hret rfl (Or.inr (Or.inl ⟨rfl, rfl, _, rfl⟩)) hd hr, hrun, hended, _, _, rfl, hQ, ⟨_, rfl⟩, hW, hsame.mono h1 h2⟩
theorem Goes.retR (X : Stand p l e R s m args below meth c T locs cells slots) (hx : p.tables.exec = Jvm.exec) (hlk : meth.locks = false) {t : FieldType} (hret : meth.sig.returnType = some t) {w : Value} (ht : t.isReference = true) (hw : w.isRef = true) {pc : Nat} {Ls : Array Slot} {rest : List Value} (hd : decode c.code pc = .ok (.areturn, 1)) (hQ : Q (some w) T.heap locs) (h1 : cells ≤ kc) (h2 : slots ≤ ks) : Goes p e below s Q kc ks (T.setTop (mkF m pc Ls (w :: rest))) := by
  obtain ⟨fs, hr, hrun, hended, hW, hsame⟩ := X.leave (v := some w) (fun h => by rw [hret] at h; cases h)
  have hn : narrow t w = w := by cases t <;> cases w <;> first | rfl | (simp [FieldType.isReference] at ht) | (simp [Value.isRef] at hw)
  exact ⟨_, _, retOut X hx hret hn (Or.inr (Or.inr (Or.inr (Or.inr ⟨rfl, ht, hw⟩)))) hd hr, hrun, hended, _, _, rfl, hQ, ⟨_, rfl⟩, hW, hsame.mono h1 h2⟩
theorem Goes.retB (X : Stand p l e R s m args below meth c T locs cells slots) (hx : p.tables.exec = Jvm.exec) (hlk : meth.locks = false) {t : FieldType} (hret : meth.sig.returnType = some t) (ht : t = .boolean ∨ t = .byte ∨ t = .char ∨ t = .short) {pc : Nat} {Ls : Array Slot} {z : Int32} {rest : List Value} (hd : decode c.code pc = .ok (.ireturn, 1)) (hz : nar t z = z) (hQ : Q (some (.int z)) T.heap locs) (h1 : cells ≤ kc) (h2 : slots ≤ ks) : Goes p e below s Q kc ks (T.setTop (mkF m pc Ls (.int z :: rest))) := by
  obtain ⟨fs, hr, hrun, hended, hW, hsame⟩ := X.leave (v := some (.int z)) (fun h => by rw [hret] at h; cases h)
  exact ⟨_, _, retN X hx hret ht hd (by rw [hz]; exact hr), hrun, hended, _, _, rfl, hQ, ⟨_, rfl⟩, hW, hsame.mono h1 h2⟩
theorem Goes.retV (X : Stand p l e R s m args below meth c T locs cells slots) (hx : p.tables.exec = Jvm.exec) (hlk : meth.locks = false) (hret : meth.sig.returnType = none) {pc : Nat} {Ls : Array Slot} (hd : decode c.code pc = .ok (.return_, 1)) (hQ : Q none T.heap locs) (h1 : cells ≤ kc) (h2 : slots ≤ ks) : Goes p e below s Q kc ks (T.setTop (mkF m pc Ls [])) := by
  obtain ⟨fs, hr, hrun, hended, hW, hsame⟩ := X.leave (v := none) (fun _ => rfl)
  exact ⟨_, _, X.returnOut hx hret hd hr, hrun, hended, _, _, rfl, hQ, ⟨_, rfl⟩, hW, hsame.mono h1 h2⟩
end OwnGoes
theorem tltL {x y : Int64} (h : x < y) : ifCond.holds .lt (lcmpW x y) = true ∧ ifCond.holds .ge (lcmpW x y) = false ∧ ifCond.holds .gt (lcmpW y x) = true ∧ ifCond.holds .le (lcmpW y x) = false :=
  ⟨(if0 _ _).trans (tlt ((lw_lt x y).mpr h)).1, (if0 _ _).trans (tlt ((lw_lt x y).mpr h)).2.1, (if0 _ _).trans (tlt ((lw_gt y x).mpr h)).2.2.1, (if0 _ _).trans (tlt ((lw_gt y x).mpr h)).2.2.2⟩
theorem fltL {x y : Int64} (h : ¬ x < y) : ifCond.holds .lt (lcmpW x y) = false ∧ ifCond.holds .ge (lcmpW x y) = true ∧ ifCond.holds .gt (lcmpW y x) = false ∧ ifCond.holds .le (lcmpW y x) = true :=
  ⟨(if0 _ _).trans (flt fun q => h ((lw_lt x y).mp q)).1, (if0 _ _).trans (flt fun q => h ((lw_lt x y).mp q)).2.1, (if0 _ _).trans (flt fun q => h ((lw_gt y x).mp q)).2.2.1, (if0 _ _).trans (flt fun q => h ((lw_gt y x).mp q)).2.2.2⟩
theorem teqL {x y : Int64} (h : x = y) : ifCond.holds .eq (lcmpW x y) = true ∧ ifCond.holds .ne (lcmpW x y) = false :=
  ⟨(if0 _ _).trans (teq ((lw_eq x y).mpr h)).1, (if0 _ _).trans (teq ((lw_eq x y).mpr h)).2⟩
theorem feqL {x y : Int64} (h : ¬ x = y) : ifCond.holds .eq (lcmpW x y) = false ∧ ifCond.holds .ne (lcmpW x y) = true :=
  ⟨(if0 _ _).trans (feq fun q => h ((lw_eq x y).mp q)).1, (if0 _ _).trans (feq fun q => h ((lw_eq x y).mp q)).2⟩
def own_look {α : Type} (i : Nat) : List (Nat × α) → Option α
  | [] => none
  | (j, v) :: r => if i = j then some v else own_look i r
theorem own_look_mem {α : Type} {i : Nat} {v : α} : ∀ {L : List (Nat × α)}, own_look i L = some v → (i, v) ∈ L
  | [], h => by cases h
  | (j, w) :: r, h => by
    unfold own_look at h
    by_cases q : i = j
    · rw [if_pos q] at h; cases h; subst q; exact List.mem_cons_self
    · rw [if_neg q] at h; exact List.mem_cons_of_mem _ (own_look_mem h)
def own_pstep (ci : List (Nat × Int32)) (cl : List (Nat × Int64)) (i : Instr) (n : Nat) (g : JFrame) : Option JFrame :=
  match i with
  | .iload_n k => if n = 1 then (match g.locals[k.val]? with | some (.val (.int v)) => some { g with pc := g.pc + 1, stack := .int v :: g.stack } | _ => none) else none
  | .iload k => if n = 2 then (match g.locals[k]? with | some (.val (.int v)) => some { g with pc := g.pc + 2, stack := .int v :: g.stack } | _ => none) else none
  | .lload_n k => if n = 1 then (match g.locals[k.val]? with | some (.val (.long v)) => some { g with pc := g.pc + 1, stack := .long v :: g.stack } | _ => none) else none
  | .lload k => if n = 2 then (match g.locals[k]? with | some (.val (.long v)) => some { g with pc := g.pc + 2, stack := .long v :: g.stack } | _ => none) else none
  | .aload_n k => if n = 1 then (match g.locals[k.val]? with | some (.val v) => if v.isRef = true then some { g with pc := g.pc + 1, stack := v :: g.stack } else none | _ => none) else none
  | .aload k => if n = 2 then (match g.locals[k]? with | some (.val v) => if v.isRef = true then some { g with pc := g.pc + 2, stack := v :: g.stack } else none | _ => none) else none
  | .istore_n k => if n = 1 then (match g.stack with | .int x :: rest => (match storeLocals g.locals k.val (.int x) with | some l' => some { g with pc := g.pc + 1, stack := rest, locals := l' } | none => none) | _ => none) else none
  | .istore k => if n = 2 then (match g.stack with | .int x :: rest => (match storeLocals g.locals k (.int x) with | some l' => some { g with pc := g.pc + 2, stack := rest, locals := l' } | none => none) | _ => none) else none
  | .lstore_n k => if n = 1 then (match g.stack with | .long x :: rest => (match storeLocals g.locals k.val (.long x) with | some l' => some { g with pc := g.pc + 1, stack := rest, locals := l' } | none => none) | _ => none) else none
  | .lstore k => if n = 2 then (match g.stack with | .long x :: rest => (match storeLocals g.locals k (.long x) with | some l' => some { g with pc := g.pc + 2, stack := rest, locals := l' } | none => none) | _ => none) else none
  | .astore_n k => if n = 1 then (match g.stack with | x :: rest => (if x.isRef = true then (match storeLocals g.locals k.val x with | some l' => some { g with pc := g.pc + 1, stack := rest, locals := l' } | none => none) else none) | _ => none) else none
  | .astore k => if n = 2 then (match g.stack with | x :: rest => (if x.isRef = true then (match storeLocals g.locals k x with | some l' => some { g with pc := g.pc + 2, stack := rest, locals := l' } | none => none) else none) | _ => none) else none
  | .iconst i => if n = 1 then (some { g with pc := g.pc + 1, stack := .int (Int32.ofInt i) :: g.stack }) else none
  | .bipush i => if n = 2 then (some { g with pc := g.pc + 2, stack := .int (Int8.ofInt i).toInt32 :: g.stack }) else none
  | .sipush i => if n = 3 then (some { g with pc := g.pc + 3, stack := .int (Int16.ofInt i).toInt32 :: g.stack }) else none
  | .lconst k => if n = 1 then (some { g with pc := g.pc + 1, stack := .long (Int64.ofNat k) :: g.stack }) else none
  | .aconst_null => if n = 1 then (some { g with pc := g.pc + 1, stack := .null :: g.stack }) else none
  | .iadd => if n = 1 then (match g.stack with | .int y :: .int x :: rest => some { g with pc := g.pc + 1, stack := .int (x + y) :: rest } | _ => none) else none
  | .ladd => if n = 1 then (match g.stack with | .long y :: .long x :: rest => some { g with pc := g.pc + 1, stack := .long (x + y) :: rest } | _ => none) else none
  | .isub => if n = 1 then (match g.stack with | .int y :: .int x :: rest => some { g with pc := g.pc + 1, stack := .int (x - y) :: rest } | _ => none) else none
  | .lsub => if n = 1 then (match g.stack with | .long y :: .long x :: rest => some { g with pc := g.pc + 1, stack := .long (x - y) :: rest } | _ => none) else none
  | .imul => if n = 1 then (match g.stack with | .int y :: .int x :: rest => some { g with pc := g.pc + 1, stack := .int (x * y) :: rest } | _ => none) else none
  | .lmul => if n = 1 then (match g.stack with | .long y :: .long x :: rest => some { g with pc := g.pc + 1, stack := .long (x * y) :: rest } | _ => none) else none
  | .iand => if n = 1 then (match g.stack with | .int y :: .int x :: rest => some { g with pc := g.pc + 1, stack := .int (x &&& y) :: rest } | _ => none) else none
  | .land => if n = 1 then (match g.stack with | .long y :: .long x :: rest => some { g with pc := g.pc + 1, stack := .long (x &&& y) :: rest } | _ => none) else none
  | .ior => if n = 1 then (match g.stack with | .int y :: .int x :: rest => some { g with pc := g.pc + 1, stack := .int (x ||| y) :: rest } | _ => none) else none
  | .lor => if n = 1 then (match g.stack with | .long y :: .long x :: rest => some { g with pc := g.pc + 1, stack := .long (x ||| y) :: rest } | _ => none) else none
  | .ixor => if n = 1 then (match g.stack with | .int y :: .int x :: rest => some { g with pc := g.pc + 1, stack := .int (x ^^^ y) :: rest } | _ => none) else none
  | .lxor => if n = 1 then (match g.stack with | .long y :: .long x :: rest => some { g with pc := g.pc + 1, stack := .long (x ^^^ y) :: rest } | _ => none) else none
  | .ishl => if n = 1 then (match g.stack with | .int y :: .int x :: rest => some { g with pc := g.pc + 1, stack := .int (x <<< (y &&& 31)) :: rest } | _ => none) else none
  | .ishr => if n = 1 then (match g.stack with | .int y :: .int x :: rest => some { g with pc := g.pc + 1, stack := .int (x >>> (y &&& 31)) :: rest } | _ => none) else none
  | .iushr => if n = 1 then (match g.stack with | .int y :: .int x :: rest => some { g with pc := g.pc + 1, stack := .int ((x.toUInt32 >>> (y &&& 31).toUInt32).toInt32) :: rest } | _ => none) else none
  | .lshl => if n = 1 then (match g.stack with | .int y :: .long x :: rest => some { g with pc := g.pc + 1, stack := .long (x <<< (y &&& 0x3f).toInt64) :: rest } | _ => none) else none
  | .lshr => if n = 1 then (match g.stack with | .int y :: .long x :: rest => some { g with pc := g.pc + 1, stack := .long (x >>> (y &&& 0x3f).toInt64) :: rest } | _ => none) else none
  | .lushr => if n = 1 then (match g.stack with | .int y :: .long x :: rest => some { g with pc := g.pc + 1, stack := .long ((x.toUInt64 >>> (y &&& 0x3f).toInt64.toUInt64).toInt64) :: rest } | _ => none) else none
  | .lcmp => if n = 1 then (match g.stack with | .long y :: .long x :: rest => some { g with pc := g.pc + 1, stack := .int (if x > y then 1 else if x = y then 0 else -1) :: rest } | _ => none) else none
  | .ineg => if n = 1 then (match g.stack with | .int v :: rest => some { g with pc := g.pc + 1, stack := .int (-v) :: rest } | _ => none) else none
  | .lneg => if n = 1 then (match g.stack with | .long v :: rest => some { g with pc := g.pc + 1, stack := .long (-v) :: rest } | _ => none) else none
  | .i2l => if n = 1 then (match g.stack with | .int v :: rest => some { g with pc := g.pc + 1, stack := .long (v.toInt64) :: rest } | _ => none) else none
  | .l2i => if n = 1 then (match g.stack with | .long v :: rest => some { g with pc := g.pc + 1, stack := .int (v.toInt32) :: rest } | _ => none) else none
  | .i2b => if n = 1 then (match g.stack with | .int v :: rest => some { g with pc := g.pc + 1, stack := .int (v.toInt8.toInt32) :: rest } | _ => none) else none
  | .i2c => if n = 1 then (match g.stack with | .int v :: rest => some { g with pc := g.pc + 1, stack := .int (v.toUInt32.toUInt16.toUInt32.toInt32) :: rest } | _ => none) else none
  | .i2s => if n = 1 then (match g.stack with | .int v :: rest => some { g with pc := g.pc + 1, stack := .int (v.toInt16.toInt32) :: rest } | _ => none) else none
  | .iinc k cst => if n = 3 then (match g.locals[k]? with | some (.val (.int x)) => (match storeLocals g.locals k (.int (x + Int32.ofInt cst)) with | some l' => some { g with pc := g.pc + 3, locals := l' } | none => none) | _ => none) else none
  | .dup => if n = 1 then (match g.stack with | x :: rest => (if x.category = 1 then some { g with pc := g.pc + 1, stack := x :: x :: rest } else none) | _ => none) else none
  | .pop => if n = 1 then (match g.stack with | x :: rest => (if x.category = 1 then some { g with pc := g.pc + 1, stack := rest } else none) | _ => none) else none
  | .goto o => if n = 3 then (if 0 ≤ (g.pc : Int) + o then some { g with pc := ((g.pc : Int) + o).toNat } else none) else none
  | .ldc i => if n = 2 then (match own_look i ci with | some v => some { g with pc := g.pc + 2, stack := .int v :: g.stack } | none => none) else none
  | .ldc_w i => if n = 3 then (match own_look i ci with | some v => some { g with pc := g.pc + 3, stack := .int v :: g.stack } | none => none) else none
  | .ldc2_w i => if n = 3 then (match own_look i cl with | some v => some { g with pc := g.pc + 3, stack := .long v :: g.stack } | none => none) else none
  | .idiv => if n = 1 then (match g.stack with | .int y :: .int x :: rest => (if y = 0 then none else some { g with pc := g.pc + 1, stack := .int (x / y) :: rest }) | _ => none) else none
  | .irem => if n = 1 then (match g.stack with | .int y :: .int x :: rest => (if y = 0 then none else some { g with pc := g.pc + 1, stack := .int (x - (x / y) * y) :: rest }) | _ => none) else none
  | .ldiv => if n = 1 then (match g.stack with | .long y :: .long x :: rest => (if y = 0 then none else some { g with pc := g.pc + 1, stack := .long (x / y) :: rest }) | _ => none) else none
  | .lrem => if n = 1 then (match g.stack with | .long y :: .long x :: rest => (if y = 0 then none else some { g with pc := g.pc + 1, stack := .long (x - (x / y) * y) :: rest }) | _ => none) else none
  | _ => none
section OwnRun
variable {p : Program} {l : Launch} {e : Env} {R : Room} {s : State} {m : MethodId} {args : Array Value} {below : List Frame} {meth : Method} {c : Code} {T target : State} {locs : List Loc} {cells slots kc ks : Nat} {own : String} {ci : List (Nat × Int32)} {cl : List (Nat × Int64)} {Q : Option Value → Heap → List Loc → Prop}
set_option maxHeartbeats 4000000 in
theorem own_pstep_ok (X : Stand p l e R s m args below meth c T locs cells slots) (hx : p.tables.exec = Jvm.exec) (hown : s.vm.findClass own = some m.cls) (hci : ∀ i v, (i, v) ∈ ci → (Cond.constant own i v).before args s = true) (hcl : ∀ i v, (i, v) ∈ cl → (Cond.constantLong own i v).before args s = true)
    {g g' : JFrame} (hg : g.method = m) {i : Instr} {n : Nat} (hd : decode c.code g.pc = .ok (i, n)) (hp : own_pstep ci cl i n g = some g') : (∀ target, Steps p.tables e below (T.setTop g') target → Steps p.tables e below (T.setTop g) target) ∧ g'.method = m := by
  cases i
  all_goals first
    | (exact absurd hp (by intro q; cases q))
    | skip
  case iload_n k =>
    by_cases hn : n = 1
    · subst hn
      replace hp : (match g.locals[k.val]? with | some (.val (.int v)) => some { g with pc := g.pc + 1, stack := .int v :: g.stack } | _ => none) = some g' := hp
      split at hp
      · skip
        cases hp
        exact ⟨fun _ hr => XS.iloadN X.here hx hg hd (by assumption) hr, hg⟩
      · cases hp
    · exact absurd hp (by intro q; rw [show own_pstep ci cl (.iload_n k) n g = none from if_neg hn] at q; cases q)
  case iload k =>
    by_cases hn : n = 2
    · subst hn
      replace hp : (match g.locals[k]? with | some (.val (.int v)) => some { g with pc := g.pc + 2, stack := .int v :: g.stack } | _ => none) = some g' := hp
      split at hp
      · skip
        cases hp
        exact ⟨fun _ hr => XS.iload X.here hx hg hd (by assumption) hr, hg⟩
      · cases hp
    · exact absurd hp (by intro q; rw [show own_pstep ci cl (.iload k) n g = none from if_neg hn] at q; cases q)
  case lload_n k =>
    by_cases hn : n = 1
    · subst hn
      replace hp : (match g.locals[k.val]? with | some (.val (.long v)) => some { g with pc := g.pc + 1, stack := .long v :: g.stack } | _ => none) = some g' := hp
      split at hp
      · skip
        cases hp
        exact ⟨fun _ hr => XS.lloadN X.here hx hg hd (by assumption) hr, hg⟩
      · cases hp
    · exact absurd hp (by intro q; rw [show own_pstep ci cl (.lload_n k) n g = none from if_neg hn] at q; cases q)
  case lload k =>
    by_cases hn : n = 2
    · subst hn
      replace hp : (match g.locals[k]? with | some (.val (.long v)) => some { g with pc := g.pc + 2, stack := .long v :: g.stack } | _ => none) = some g' := hp
      split at hp
      · skip
        cases hp
        exact ⟨fun _ hr => XS.lload X.here hx hg hd (by assumption) hr, hg⟩
      · cases hp
    · exact absurd hp (by intro q; rw [show own_pstep ci cl (.lload k) n g = none from if_neg hn] at q; cases q)
  case aload_n k =>
    by_cases hn : n = 1
    · subst hn
      replace hp : (match g.locals[k.val]? with | some (.val v) => if v.isRef = true then some { g with pc := g.pc + 1, stack := v :: g.stack } else none | _ => none) = some g' := hp
      split at hp
      · skip
        split at hp
        · skip
          cases hp
          exact ⟨fun _ hr => XS.aloadN X.here hx hg hd (by assumption) (by assumption) hr, hg⟩
        · cases hp
      · cases hp
    · exact absurd hp (by intro q; rw [show own_pstep ci cl (.aload_n k) n g = none from if_neg hn] at q; cases q)
  case aload k =>
    by_cases hn : n = 2
    · subst hn
      replace hp : (match g.locals[k]? with | some (.val v) => if v.isRef = true then some { g with pc := g.pc + 2, stack := v :: g.stack } else none | _ => none) = some g' := hp
      split at hp
      · skip
        split at hp
        · skip
          cases hp
          exact ⟨fun _ hr => XS.aload X.here hx hg hd (by assumption) (by assumption) hr, hg⟩
        · cases hp
      · cases hp
    · exact absurd hp (by intro q; rw [show own_pstep ci cl (.aload k) n g = none from if_neg hn] at q; cases q)
  case istore_n k =>
    by_cases hn : n = 1
    · subst hn
      replace hp : (match g.stack with | .int x :: rest => (match storeLocals g.locals k.val (.int x) with | some l' => some { g with pc := g.pc + 1, stack := rest, locals := l' } | none => none) | _ => none) = some g' := hp
      split at hp
      · skip
        split at hp
        · skip
          cases hp
          exact ⟨fun _ hr => XS.istoreN X.here hx hg hd (by assumption) (by assumption) hr, hg⟩
        · cases hp
      · cases hp
    · exact absurd hp (by intro q; rw [show own_pstep ci cl (.istore_n k) n g = none from if_neg hn] at q; cases q)
  case istore k =>
    by_cases hn : n = 2
    · subst hn
      replace hp : (match g.stack with | .int x :: rest => (match storeLocals g.locals k (.int x) with | some l' => some { g with pc := g.pc + 2, stack := rest, locals := l' } | none => none) | _ => none) = some g' := hp
      split at hp
      · skip
        split at hp
        · skip
          cases hp
          exact ⟨fun _ hr => XS.istore X.here hx hg hd (by assumption) (by assumption) hr, hg⟩
        · cases hp
      · cases hp
    · exact absurd hp (by intro q; rw [show own_pstep ci cl (.istore k) n g = none from if_neg hn] at q; cases q)
  case lstore_n k =>
    by_cases hn : n = 1
    · subst hn
      replace hp : (match g.stack with | .long x :: rest => (match storeLocals g.locals k.val (.long x) with | some l' => some { g with pc := g.pc + 1, stack := rest, locals := l' } | none => none) | _ => none) = some g' := hp
      split at hp
      · skip
        split at hp
        · skip
          cases hp
          exact ⟨fun _ hr => XS.lstoreN X.here hx hg hd (by assumption) (by assumption) hr, hg⟩
        · cases hp
      · cases hp
    · exact absurd hp (by intro q; rw [show own_pstep ci cl (.lstore_n k) n g = none from if_neg hn] at q; cases q)
  case lstore k =>
    by_cases hn : n = 2
    · subst hn
      replace hp : (match g.stack with | .long x :: rest => (match storeLocals g.locals k (.long x) with | some l' => some { g with pc := g.pc + 2, stack := rest, locals := l' } | none => none) | _ => none) = some g' := hp
      split at hp
      · skip
        split at hp
        · skip
          cases hp
          exact ⟨fun _ hr => XS.lstore X.here hx hg hd (by assumption) (by assumption) hr, hg⟩
        · cases hp
      · cases hp
    · exact absurd hp (by intro q; rw [show own_pstep ci cl (.lstore k) n g = none from if_neg hn] at q; cases q)
  case astore_n k =>
    by_cases hn : n = 1
    · subst hn
      replace hp : (match g.stack with | x :: rest => (if x.isRef = true then (match storeLocals g.locals k.val x with | some l' => some { g with pc := g.pc + 1, stack := rest, locals := l' } | none => none) else none) | _ => none) = some g' := hp
      split at hp
      · skip
        split at hp
        · skip
          split at hp
          · skip
            cases hp
            exact ⟨fun _ hr => XS.astoreN X.here hx hg hd (by assumption) (by assumption) (by assumption) hr, hg⟩
          · cases hp
        · cases hp
      · cases hp
    · exact absurd hp (by intro q; rw [show own_pstep ci cl (.astore_n k) n g = none from if_neg hn] at q; cases q)
  case astore k =>
    by_cases hn : n = 2
    · subst hn
      replace hp : (match g.stack with | x :: rest => (if x.isRef = true then (match storeLocals g.locals k x with | some l' => some { g with pc := g.pc + 2, stack := rest, locals := l' } | none => none) else none) | _ => none) = some g' := hp
      split at hp
      · skip
        split at hp
        · skip
          split at hp
          · skip
            cases hp
            exact ⟨fun _ hr => XS.astore X.here hx hg hd (by assumption) (by assumption) (by assumption) hr, hg⟩
          · cases hp
        · cases hp
      · cases hp
    · exact absurd hp (by intro q; rw [show own_pstep ci cl (.astore k) n g = none from if_neg hn] at q; cases q)
  case iconst i =>
    by_cases hn : n = 1
    · subst hn
      replace hp : (some { g with pc := g.pc + 1, stack := .int (Int32.ofInt i) :: g.stack }) = some g' := hp
      cases hp
      exact ⟨fun _ hr => XS.iconst X.here hx hg hd hr, hg⟩
    · exact absurd hp (by intro q; rw [show own_pstep ci cl (.iconst i) n g = none from if_neg hn] at q; cases q)
  case bipush i =>
    by_cases hn : n = 2
    · subst hn
      replace hp : (some { g with pc := g.pc + 2, stack := .int (Int8.ofInt i).toInt32 :: g.stack }) = some g' := hp
      cases hp
      exact ⟨fun _ hr => XS.bipush X.here hx hg hd hr, hg⟩
    · exact absurd hp (by intro q; rw [show own_pstep ci cl (.bipush i) n g = none from if_neg hn] at q; cases q)
  case sipush i =>
    by_cases hn : n = 3
    · subst hn
      replace hp : (some { g with pc := g.pc + 3, stack := .int (Int16.ofInt i).toInt32 :: g.stack }) = some g' := hp
      cases hp
      exact ⟨fun _ hr => XS.sipush X.here hx hg hd hr, hg⟩
    · exact absurd hp (by intro q; rw [show own_pstep ci cl (.sipush i) n g = none from if_neg hn] at q; cases q)
  case lconst k =>
    by_cases hn : n = 1
    · subst hn
      replace hp : (some { g with pc := g.pc + 1, stack := .long (Int64.ofNat k) :: g.stack }) = some g' := hp
      cases hp
      exact ⟨fun _ hr => XS.lconst X.here hx hg hd hr, hg⟩
    · exact absurd hp (by intro q; rw [show own_pstep ci cl (.lconst k) n g = none from if_neg hn] at q; cases q)
  case aconst_null =>
    by_cases hn : n = 1
    · subst hn
      replace hp : (some { g with pc := g.pc + 1, stack := .null :: g.stack }) = some g' := hp
      cases hp
      exact ⟨fun _ hr => XS.aconstNull X.here hx hg hd hr, hg⟩
    · exact absurd hp (by intro q; rw [show own_pstep ci cl (.aconst_null) n g = none from if_neg hn] at q; cases q)
  case iadd =>
    by_cases hn : n = 1
    · subst hn
      replace hp : (match g.stack with | .int y :: .int x :: rest => some { g with pc := g.pc + 1, stack := .int (x + y) :: rest } | _ => none) = some g' := hp
      split at hp
      · skip
        cases hp
        exact ⟨fun _ hr => XS.iadd X.here hx hg hd (by assumption) hr, hg⟩
      · cases hp
    · exact absurd hp (by intro q; rw [show own_pstep ci cl (.iadd) n g = none from if_neg hn] at q; cases q)
  case ladd =>
    by_cases hn : n = 1
    · subst hn
      replace hp : (match g.stack with | .long y :: .long x :: rest => some { g with pc := g.pc + 1, stack := .long (x + y) :: rest } | _ => none) = some g' := hp
      split at hp
      · skip
        cases hp
        exact ⟨fun _ hr => XS.ladd X.here hx hg hd (by assumption) hr, hg⟩
      · cases hp
    · exact absurd hp (by intro q; rw [show own_pstep ci cl (.ladd) n g = none from if_neg hn] at q; cases q)
  case isub =>
    by_cases hn : n = 1
    · subst hn
      replace hp : (match g.stack with | .int y :: .int x :: rest => some { g with pc := g.pc + 1, stack := .int (x - y) :: rest } | _ => none) = some g' := hp
      split at hp
      · skip
        cases hp
        exact ⟨fun _ hr => XS.isub X.here hx hg hd (by assumption) hr, hg⟩
      · cases hp
    · exact absurd hp (by intro q; rw [show own_pstep ci cl (.isub) n g = none from if_neg hn] at q; cases q)
  case lsub =>
    by_cases hn : n = 1
    · subst hn
      replace hp : (match g.stack with | .long y :: .long x :: rest => some { g with pc := g.pc + 1, stack := .long (x - y) :: rest } | _ => none) = some g' := hp
      split at hp
      · skip
        cases hp
        exact ⟨fun _ hr => XS.lsub X.here hx hg hd (by assumption) hr, hg⟩
      · cases hp
    · exact absurd hp (by intro q; rw [show own_pstep ci cl (.lsub) n g = none from if_neg hn] at q; cases q)
  case imul =>
    by_cases hn : n = 1
    · subst hn
      replace hp : (match g.stack with | .int y :: .int x :: rest => some { g with pc := g.pc + 1, stack := .int (x * y) :: rest } | _ => none) = some g' := hp
      split at hp
      · skip
        cases hp
        exact ⟨fun _ hr => XS.imul X.here hx hg hd (by assumption) hr, hg⟩
      · cases hp
    · exact absurd hp (by intro q; rw [show own_pstep ci cl (.imul) n g = none from if_neg hn] at q; cases q)
  case lmul =>
    by_cases hn : n = 1
    · subst hn
      replace hp : (match g.stack with | .long y :: .long x :: rest => some { g with pc := g.pc + 1, stack := .long (x * y) :: rest } | _ => none) = some g' := hp
      split at hp
      · skip
        cases hp
        exact ⟨fun _ hr => XS.lmul X.here hx hg hd (by assumption) hr, hg⟩
      · cases hp
    · exact absurd hp (by intro q; rw [show own_pstep ci cl (.lmul) n g = none from if_neg hn] at q; cases q)
  case iand =>
    by_cases hn : n = 1
    · subst hn
      replace hp : (match g.stack with | .int y :: .int x :: rest => some { g with pc := g.pc + 1, stack := .int (x &&& y) :: rest } | _ => none) = some g' := hp
      split at hp
      · skip
        cases hp
        exact ⟨fun _ hr => XS.iand X.here hx hg hd (by assumption) hr, hg⟩
      · cases hp
    · exact absurd hp (by intro q; rw [show own_pstep ci cl (.iand) n g = none from if_neg hn] at q; cases q)
  case land =>
    by_cases hn : n = 1
    · subst hn
      replace hp : (match g.stack with | .long y :: .long x :: rest => some { g with pc := g.pc + 1, stack := .long (x &&& y) :: rest } | _ => none) = some g' := hp
      split at hp
      · skip
        cases hp
        exact ⟨fun _ hr => XS.land X.here hx hg hd (by assumption) hr, hg⟩
      · cases hp
    · exact absurd hp (by intro q; rw [show own_pstep ci cl (.land) n g = none from if_neg hn] at q; cases q)
  case ior =>
    by_cases hn : n = 1
    · subst hn
      replace hp : (match g.stack with | .int y :: .int x :: rest => some { g with pc := g.pc + 1, stack := .int (x ||| y) :: rest } | _ => none) = some g' := hp
      split at hp
      · skip
        cases hp
        exact ⟨fun _ hr => XS.ior X.here hx hg hd (by assumption) hr, hg⟩
      · cases hp
    · exact absurd hp (by intro q; rw [show own_pstep ci cl (.ior) n g = none from if_neg hn] at q; cases q)
  case lor =>
    by_cases hn : n = 1
    · subst hn
      replace hp : (match g.stack with | .long y :: .long x :: rest => some { g with pc := g.pc + 1, stack := .long (x ||| y) :: rest } | _ => none) = some g' := hp
      split at hp
      · skip
        cases hp
        exact ⟨fun _ hr => XS.lor X.here hx hg hd (by assumption) hr, hg⟩
      · cases hp
    · exact absurd hp (by intro q; rw [show own_pstep ci cl (.lor) n g = none from if_neg hn] at q; cases q)
  case ixor =>
    by_cases hn : n = 1
    · subst hn
      replace hp : (match g.stack with | .int y :: .int x :: rest => some { g with pc := g.pc + 1, stack := .int (x ^^^ y) :: rest } | _ => none) = some g' := hp
      split at hp
      · skip
        cases hp
        exact ⟨fun _ hr => XS.ixor X.here hx hg hd (by assumption) hr, hg⟩
      · cases hp
    · exact absurd hp (by intro q; rw [show own_pstep ci cl (.ixor) n g = none from if_neg hn] at q; cases q)
  case lxor =>
    by_cases hn : n = 1
    · subst hn
      replace hp : (match g.stack with | .long y :: .long x :: rest => some { g with pc := g.pc + 1, stack := .long (x ^^^ y) :: rest } | _ => none) = some g' := hp
      split at hp
      · skip
        cases hp
        exact ⟨fun _ hr => XS.lxor X.here hx hg hd (by assumption) hr, hg⟩
      · cases hp
    · exact absurd hp (by intro q; rw [show own_pstep ci cl (.lxor) n g = none from if_neg hn] at q; cases q)
  case ishl =>
    by_cases hn : n = 1
    · subst hn
      replace hp : (match g.stack with | .int y :: .int x :: rest => some { g with pc := g.pc + 1, stack := .int (x <<< (y &&& 31)) :: rest } | _ => none) = some g' := hp
      split at hp
      · skip
        cases hp
        exact ⟨fun _ hr => XS.ishl X.here hx hg hd (by assumption) hr, hg⟩
      · cases hp
    · exact absurd hp (by intro q; rw [show own_pstep ci cl (.ishl) n g = none from if_neg hn] at q; cases q)
  case ishr =>
    by_cases hn : n = 1
    · subst hn
      replace hp : (match g.stack with | .int y :: .int x :: rest => some { g with pc := g.pc + 1, stack := .int (x >>> (y &&& 31)) :: rest } | _ => none) = some g' := hp
      split at hp
      · skip
        cases hp
        exact ⟨fun _ hr => XS.ishr X.here hx hg hd (by assumption) hr, hg⟩
      · cases hp
    · exact absurd hp (by intro q; rw [show own_pstep ci cl (.ishr) n g = none from if_neg hn] at q; cases q)
  case iushr =>
    by_cases hn : n = 1
    · subst hn
      replace hp : (match g.stack with | .int y :: .int x :: rest => some { g with pc := g.pc + 1, stack := .int ((x.toUInt32 >>> (y &&& 31).toUInt32).toInt32) :: rest } | _ => none) = some g' := hp
      split at hp
      · skip
        cases hp
        exact ⟨fun _ hr => XS.iushr X.here hx hg hd (by assumption) hr, hg⟩
      · cases hp
    · exact absurd hp (by intro q; rw [show own_pstep ci cl (.iushr) n g = none from if_neg hn] at q; cases q)
  case lshl =>
    by_cases hn : n = 1
    · subst hn
      replace hp : (match g.stack with | .int y :: .long x :: rest => some { g with pc := g.pc + 1, stack := .long (x <<< (y &&& 0x3f).toInt64) :: rest } | _ => none) = some g' := hp
      split at hp
      · skip
        cases hp
        exact ⟨fun _ hr => XS.lshl X.here hx hg hd (by assumption) hr, hg⟩
      · cases hp
    · exact absurd hp (by intro q; rw [show own_pstep ci cl (.lshl) n g = none from if_neg hn] at q; cases q)
  case lshr =>
    by_cases hn : n = 1
    · subst hn
      replace hp : (match g.stack with | .int y :: .long x :: rest => some { g with pc := g.pc + 1, stack := .long (x >>> (y &&& 0x3f).toInt64) :: rest } | _ => none) = some g' := hp
      split at hp
      · skip
        cases hp
        exact ⟨fun _ hr => XS.lshr X.here hx hg hd (by assumption) hr, hg⟩
      · cases hp
    · exact absurd hp (by intro q; rw [show own_pstep ci cl (.lshr) n g = none from if_neg hn] at q; cases q)
  case lushr =>
    by_cases hn : n = 1
    · subst hn
      replace hp : (match g.stack with | .int y :: .long x :: rest => some { g with pc := g.pc + 1, stack := .long ((x.toUInt64 >>> (y &&& 0x3f).toInt64.toUInt64).toInt64) :: rest } | _ => none) = some g' := hp
      split at hp
      · skip
        cases hp
        exact ⟨fun _ hr => XS.lushr X.here hx hg hd (by assumption) hr, hg⟩
      · cases hp
    · exact absurd hp (by intro q; rw [show own_pstep ci cl (.lushr) n g = none from if_neg hn] at q; cases q)
  case lcmp =>
    by_cases hn : n = 1
    · subst hn
      replace hp : (match g.stack with | .long y :: .long x :: rest => some { g with pc := g.pc + 1, stack := .int (if x > y then 1 else if x = y then 0 else -1) :: rest } | _ => none) = some g' := hp
      split at hp
      · skip
        cases hp
        exact ⟨fun _ hr => XS.lcmp X.here hx hg hd (by assumption) hr, hg⟩
      · cases hp
    · exact absurd hp (by intro q; rw [show own_pstep ci cl (.lcmp) n g = none from if_neg hn] at q; cases q)
  case ineg =>
    by_cases hn : n = 1
    · subst hn
      replace hp : (match g.stack with | .int v :: rest => some { g with pc := g.pc + 1, stack := .int (-v) :: rest } | _ => none) = some g' := hp
      split at hp
      · skip
        cases hp
        exact ⟨fun _ hr => XS.ineg X.here hx hg hd (by assumption) hr, hg⟩
      · cases hp
    · exact absurd hp (by intro q; rw [show own_pstep ci cl (.ineg) n g = none from if_neg hn] at q; cases q)
  case lneg =>
    by_cases hn : n = 1
    · subst hn
      replace hp : (match g.stack with | .long v :: rest => some { g with pc := g.pc + 1, stack := .long (-v) :: rest } | _ => none) = some g' := hp
      split at hp
      · skip
        cases hp
        exact ⟨fun _ hr => XS.lneg X.here hx hg hd (by assumption) hr, hg⟩
      · cases hp
    · exact absurd hp (by intro q; rw [show own_pstep ci cl (.lneg) n g = none from if_neg hn] at q; cases q)
  case i2l =>
    by_cases hn : n = 1
    · subst hn
      replace hp : (match g.stack with | .int v :: rest => some { g with pc := g.pc + 1, stack := .long (v.toInt64) :: rest } | _ => none) = some g' := hp
      split at hp
      · skip
        cases hp
        exact ⟨fun _ hr => XS.i2l X.here hx hg hd (by assumption) hr, hg⟩
      · cases hp
    · exact absurd hp (by intro q; rw [show own_pstep ci cl (.i2l) n g = none from if_neg hn] at q; cases q)
  case l2i =>
    by_cases hn : n = 1
    · subst hn
      replace hp : (match g.stack with | .long v :: rest => some { g with pc := g.pc + 1, stack := .int (v.toInt32) :: rest } | _ => none) = some g' := hp
      split at hp
      · skip
        cases hp
        exact ⟨fun _ hr => XS.l2i X.here hx hg hd (by assumption) hr, hg⟩
      · cases hp
    · exact absurd hp (by intro q; rw [show own_pstep ci cl (.l2i) n g = none from if_neg hn] at q; cases q)
  case i2b =>
    by_cases hn : n = 1
    · subst hn
      replace hp : (match g.stack with | .int v :: rest => some { g with pc := g.pc + 1, stack := .int (v.toInt8.toInt32) :: rest } | _ => none) = some g' := hp
      split at hp
      · skip
        cases hp
        exact ⟨fun _ hr => XS.i2b X.here hx hg hd (by assumption) hr, hg⟩
      · cases hp
    · exact absurd hp (by intro q; rw [show own_pstep ci cl (.i2b) n g = none from if_neg hn] at q; cases q)
  case i2c =>
    by_cases hn : n = 1
    · subst hn
      replace hp : (match g.stack with | .int v :: rest => some { g with pc := g.pc + 1, stack := .int (v.toUInt32.toUInt16.toUInt32.toInt32) :: rest } | _ => none) = some g' := hp
      split at hp
      · skip
        cases hp
        exact ⟨fun _ hr => XS.i2c X.here hx hg hd (by assumption) hr, hg⟩
      · cases hp
    · exact absurd hp (by intro q; rw [show own_pstep ci cl (.i2c) n g = none from if_neg hn] at q; cases q)
  case i2s =>
    by_cases hn : n = 1
    · subst hn
      replace hp : (match g.stack with | .int v :: rest => some { g with pc := g.pc + 1, stack := .int (v.toInt16.toInt32) :: rest } | _ => none) = some g' := hp
      split at hp
      · skip
        cases hp
        exact ⟨fun _ hr => XS.i2s X.here hx hg hd (by assumption) hr, hg⟩
      · cases hp
    · exact absurd hp (by intro q; rw [show own_pstep ci cl (.i2s) n g = none from if_neg hn] at q; cases q)
  case iinc k cst =>
    by_cases hn : n = 3
    · subst hn
      replace hp : (match g.locals[k]? with | some (.val (.int x)) => (match storeLocals g.locals k (.int (x + Int32.ofInt cst)) with | some l' => some { g with pc := g.pc + 3, locals := l' } | none => none) | _ => none) = some g' := hp
      split at hp
      · skip
        split at hp
        · skip
          cases hp
          exact ⟨fun _ hr => XS.iinc X.here hx hg hd (by assumption) (by assumption) hr, hg⟩
        · cases hp
      · cases hp
    · exact absurd hp (by intro q; rw [show own_pstep ci cl (.iinc k cst) n g = none from if_neg hn] at q; cases q)
  case dup =>
    by_cases hn : n = 1
    · subst hn
      replace hp : (match g.stack with | x :: rest => (if x.category = 1 then some { g with pc := g.pc + 1, stack := x :: x :: rest } else none) | _ => none) = some g' := hp
      split at hp
      · skip
        split at hp
        · skip
          cases hp
          exact ⟨fun _ hr => XS.dup X.here hx hg hd (by assumption) (by assumption) hr, hg⟩
        · cases hp
      · cases hp
    · exact absurd hp (by intro q; rw [show own_pstep ci cl (.dup) n g = none from if_neg hn] at q; cases q)
  case pop =>
    by_cases hn : n = 1
    · subst hn
      replace hp : (match g.stack with | x :: rest => (if x.category = 1 then some { g with pc := g.pc + 1, stack := rest } else none) | _ => none) = some g' := hp
      split at hp
      · skip
        split at hp
        · skip
          cases hp
          exact ⟨fun _ hr => XS.pop X.here hx hg hd (by assumption) (by assumption) hr, hg⟩
        · cases hp
      · cases hp
    · exact absurd hp (by intro q; rw [show own_pstep ci cl (.pop) n g = none from if_neg hn] at q; cases q)
  case goto o =>
    by_cases hn : n = 3
    · subst hn
      replace hp : (if 0 ≤ (g.pc : Int) + o then some { g with pc := ((g.pc : Int) + o).toNat } else none) = some g' := hp
      split at hp
      · skip
        cases hp
        exact ⟨fun _ hr => XS.goto X.here hx hg rfl hd (by assumption) rfl hr, hg⟩
      · cases hp
    · exact absurd hp (by intro q; rw [show own_pstep ci cl (.goto o) n g = none from if_neg hn] at q; cases q)
  case ldc i =>
    by_cases hn : n = 2
    · subst hn
      replace hp : (match own_look i ci with | some v => some { g with pc := g.pc + 2, stack := .int v :: g.stack } | none => none) = some g' := hp
      split at hp
      · skip
        cases hp
        exact ⟨fun _ hr => X.ldcInt hx hown (hci _ _ (own_look_mem (by assumption))) hg hd _ hr, hg⟩
      · cases hp
    · exact absurd hp (by intro q; rw [show own_pstep ci cl (.ldc i) n g = none from if_neg hn] at q; cases q)
  case ldc_w i =>
    by_cases hn : n = 3
    · subst hn
      replace hp : (match own_look i ci with | some v => some { g with pc := g.pc + 3, stack := .int v :: g.stack } | none => none) = some g' := hp
      split at hp
      · skip
        cases hp
        exact ⟨fun _ hr => X.ldcwInt hx hown (hci _ _ (own_look_mem (by assumption))) hg hd _ hr, hg⟩
      · cases hp
    · exact absurd hp (by intro q; rw [show own_pstep ci cl (.ldc_w i) n g = none from if_neg hn] at q; cases q)
  case ldc2_w i =>
    by_cases hn : n = 3
    · subst hn
      replace hp : (match own_look i cl with | some v => some { g with pc := g.pc + 3, stack := .long v :: g.stack } | none => none) = some g' := hp
      split at hp
      · skip
        cases hp
        exact ⟨fun _ hr => X.ldc2Long hx hown (hcl _ _ (own_look_mem (by assumption))) hg hd _ hr, hg⟩
      · cases hp
    · exact absurd hp (by intro q; rw [show own_pstep ci cl (.ldc2_w i) n g = none from if_neg hn] at q; cases q)
  case idiv =>
    by_cases hn : n = 1
    · subst hn
      replace hp : (match g.stack with | .int y :: .int x :: rest => (if y = 0 then none else some { g with pc := g.pc + 1, stack := .int (x / y) :: rest }) | _ => none) = some g' := hp
      split at hp
      · skip
        split at hp
        · cases hp
        · cases hp; exact ⟨fun _ hr => XS.idiv X.here hx hg hd (by assumption) (by assumption) hr, hg⟩
      · cases hp
    · exact absurd hp (by intro q; rw [show own_pstep ci cl (.idiv) n g = none from if_neg hn] at q; cases q)
  case irem =>
    by_cases hn : n = 1
    · subst hn
      replace hp : (match g.stack with | .int y :: .int x :: rest => (if y = 0 then none else some { g with pc := g.pc + 1, stack := .int (x - (x / y) * y) :: rest }) | _ => none) = some g' := hp
      split at hp
      · skip
        split at hp
        · cases hp
        · cases hp; exact ⟨fun _ hr => XS.irem X.here hx hg hd (by assumption) (by assumption) hr, hg⟩
      · cases hp
    · exact absurd hp (by intro q; rw [show own_pstep ci cl (.irem) n g = none from if_neg hn] at q; cases q)
  case ldiv =>
    by_cases hn : n = 1
    · subst hn
      replace hp : (match g.stack with | .long y :: .long x :: rest => (if y = 0 then none else some { g with pc := g.pc + 1, stack := .long (x / y) :: rest }) | _ => none) = some g' := hp
      split at hp
      · skip
        split at hp
        · cases hp
        · cases hp; exact ⟨fun _ hr => XS.ldiv X.here hx hg hd (by assumption) (by assumption) hr, hg⟩
      · cases hp
    · exact absurd hp (by intro q; rw [show own_pstep ci cl (.ldiv) n g = none from if_neg hn] at q; cases q)
  case lrem =>
    by_cases hn : n = 1
    · subst hn
      replace hp : (match g.stack with | .long y :: .long x :: rest => (if y = 0 then none else some { g with pc := g.pc + 1, stack := .long (x - (x / y) * y) :: rest }) | _ => none) = some g' := hp
      split at hp
      · skip
        split at hp
        · cases hp
        · cases hp; exact ⟨fun _ hr => XS.lrem X.here hx hg hd (by assumption) (by assumption) hr, hg⟩
      · cases hp
    · exact absurd hp (by intro q; rw [show own_pstep ci cl (.lrem) n g = none from if_neg hn] at q; cases q)
def own_decs (code : ByteArray) (L : List (Nat × Instr × Nat)) : Bool := L.all fun q => decide (decode code q.1 = .ok (q.2.1, q.2.2))
def own_prun (ci : List (Nat × Int32)) (cl : List (Nat × Int64)) : List (Nat × Instr × Nat) → JFrame → Option JFrame
  | [], g => some g
  | (pc, i, n) :: r, g => if g.pc = pc then (match own_pstep ci cl i n g with | some g' => own_prun ci cl r g' | none => none) else none
theorem own_prun_ok (X : Stand p l e R s m args below meth c T locs cells slots) (hx : p.tables.exec = Jvm.exec) (hown : s.vm.findClass own = some m.cls) (hci : ∀ i v, (i, v) ∈ ci → (Cond.constant own i v).before args s = true) (hcl : ∀ i v, (i, v) ∈ cl → (Cond.constantLong own i v).before args s = true) {code : ByteArray} (hby : c.code = code) :
    ∀ (L : List (Nat × Instr × Nat)) (g g' : JFrame), g.method = m → own_decs code L = true → own_prun ci cl L g = some g' → Steps p.tables e below (T.setTop g') target → Steps p.tables e below (T.setTop g) target := by
  intro L
  induction L with
  | nil => intro g g' _ _ hp hr; cases hp; exact hr
  | cons q r ih =>
    intro g g' hg hd hp hr
    obtain ⟨pc, i, n⟩ := q
    have hd' : decide (decode code pc = .ok (i, n)) = true ∧ own_decs code r = true := by
      have : (decide (decode code pc = .ok (i, n)) && own_decs code r) = true := hd
      simpa using this
    replace hp : (if g.pc = pc then (match own_pstep ci cl i n g with | some g' => own_prun ci cl r g' | none => none) else none) = some g' := hp
    by_cases hpc : g.pc = pc
    · rw [if_pos hpc] at hp
      cases hs : own_pstep ci cl i n g with
      | none => rw [hs] at hp; cases hp
      | some g1 =>
        rw [hs] at hp
        have q := own_pstep_ok X hx hown hci hcl hg (i := i) (n := n) (by rw [hby, hpc]; exact of_decide_eq_true hd'.1) hs
        exact q.1 _ (ih g1 g' q.2 hd'.2 hp hr)
    · rw [if_neg hpc] at hp; cases hp
theorem Goes.run (X : Stand p l e R s m args below meth c T locs cells slots) (hx : p.tables.exec = Jvm.exec) (hown : s.vm.findClass own = some m.cls) (hci : ∀ i v, (i, v) ∈ ci → (Cond.constant own i v).before args s = true) (hcl : ∀ i v, (i, v) ∈ cl → (Cond.constantLong own i v).before args s = true) {code : ByteArray} (hby : c.code = code)
    {L : List (Nat × Instr × Nat)} (hd : own_decs code L = true) {g g' : JFrame} (hg : g.method = m) (hp : own_prun ci cl L g = some g') (h : Goes p e below s Q kc ks (T.setTop g')) : Goes p e below s Q kc ks (T.setTop g) :=
  Goes.st (fun _ k => own_prun_ok X hx hown hci hcl hby L g g' hg hd hp k) h
theorem own_ci0 {α : Type} {P : Nat → α → Prop} : ∀ i v, (i, v) ∈ ([] : List (Nat × α)) → P i v := fun _ _ q => nomatch q
theorem own_ciS {α : Type} {P : Nat → α → Prop} {j : Nat} {w : α} {L : List (Nat × α)} (h : P j w) (r : ∀ i v, (i, v) ∈ L → P i v) : ∀ i v, (i, v) ∈ (j, w) :: L → P i v := fun i v q => (List.mem_cons.mp q).elim (fun z => by cases z; exact h) (r i v)
end OwnRun
theorem own_rem32 (x y : Int32) : (x - (x / y) * y).toInt = x.toInt.tmod y.toInt := by
  have a := (x % y).toInt_lt; have b := (x % y).le_toInt
  rw [Int32.toInt_mod] at a b
  rw [Int32.toInt_sub, Int32.toInt_mul, Int32.toInt_div, Int.bmod_mul_bmod, Int.sub_bmod_bmod, Int.mul_comm, ← Int.tmod_def]
  exact Jvm.Kit.bmod32 b a
section OwnNums
variable {x y : Int64} {u v : Int32} {a b : Int}
theorem own_r32 (hx : u.toInt = a) (hy : v.toInt = b) (h0 : 0 ≤ a) : (u - (u / v) * v).toInt = a % b := by subst hx hy; rw [own_rem32, Int.tmod_eq_emod_of_nonneg h0]
theorem own_r64 (hx : x.toInt = a) (hy : y.toInt = b) (h0 : 0 ≤ a) : (x - (x / y) * y).toInt = a % b := by subst hx hy; rw [Jvm.Kit.i64_rem, Int.tmod_eq_emod_of_nonneg h0]
theorem own_mul64 (hx : x.toInt = a) (hy : y.toInt = b) (h1 : -2 ^ 63 ≤ a * b) (h2 : a * b < 2 ^ 63) : (x * y).toInt = a * b := by subst hx hy; exact Jvm.Kit.i64_mul h1 h2
theorem own_mul32 (hx : u.toInt = a) (hy : v.toInt = b) (h1 : -2 ^ 31 ≤ a * b) (h2 : a * b < 2 ^ 31) : (u * v).toInt = a * b := by subst hx hy; exact Jvm.Kit.i32_mul h1 h2
theorem own_add64 (hx : x.toInt = a) (hy : y.toInt = b) (h1 : -2 ^ 63 ≤ a + b) (h2 : a + b < 2 ^ 63) : (x + y).toInt = a + b := by subst hx hy; exact Jvm.Kit.i64_add h1 h2
theorem own_add32 (hx : u.toInt = a) (hy : v.toInt = b) (h1 : -2 ^ 31 ≤ a + b) (h2 : a + b < 2 ^ 31) : (u + v).toInt = a + b := by subst hx hy; exact Jvm.Kit.i32_add h1 h2
theorem own_sub64 (hx : x.toInt = a) (hy : y.toInt = b) (h1 : -2 ^ 63 ≤ a - b) (h2 : a - b < 2 ^ 63) : (x - y).toInt = a - b := by subst hx hy; exact Jvm.Kit.i64_sub h1 h2
theorem own_sub32 (hx : u.toInt = a) (hy : v.toInt = b) (h1 : -2 ^ 31 ≤ a - b) (h2 : a - b < 2 ^ 31) : (u - v).toInt = a - b := by subst hx hy; exact Jvm.Kit.i32_sub h1 h2
theorem own_i2l (hx : u.toInt = a) : u.toInt64.toInt = a := by subst hx; exact Jvm.Kit.i64_of_i32 u
theorem own_lt64 (hx : x.toInt = a) (hy : y.toInt = b) : x < y ↔ a < b := by rw [Int64.lt_iff_toInt_lt, hx, hy]
theorem own_lt32 (hx : u.toInt = a) (hy : v.toInt = b) : u < v ↔ a < b := by rw [Int32.lt_iff_toInt_lt, hx, hy]
theorem own_eq64 (hx : x.toInt = a) (hy : y.toInt = b) : x = y ↔ a = b := by rw [← Int64.toInt_inj, hx, hy]
theorem own_eq32 (hx : u.toInt = a) (hy : v.toInt = b) : u = v ↔ a = b := by rw [← Int32.toInt_inj, hx, hy]
theorem own_m32 (u : Int32) (m : Int32) {k : Nat} (hk : k < 32) (hm : m.toBitVec.toNat = 2 ^ k - 1) : ∃ a : Int, (u &&& m).toInt = a ∧ 0 ≤ a ∧ a < 2 ^ k ∧ a = u.toInt % 2 ^ k := by
  refine ⟨_, Jvm.Kit.i32_mask u m hk hm, Int.emod_nonneg _ (Int.ne_of_gt (Int.pow_pos (by decide))), Int.emod_lt_of_pos _ (Int.pow_pos (by decide)), rfl⟩
theorem own_m64 (x : Int64) (m : Int64) {k : Nat} (hk : k < 64) (hm : m.toBitVec.toNat = 2 ^ k - 1) : ∃ a : Int, (x &&& m).toInt = a ∧ 0 ≤ a ∧ a < 2 ^ k ∧ a = x.toInt % 2 ^ k := by
  refine ⟨_, Jvm.Kit.i64_mask x m hk hm, Int.emod_nonneg _ (Int.ne_of_gt (Int.pow_pos (by decide))), Int.emod_lt_of_pos _ (Int.pow_pos (by decide)), rfl⟩
theorem own_nm {P : Int → Prop} {z : Int} (h : P z) : ∃ a, a = z ∧ P a := ⟨z, rfl, h⟩
end OwnNums
theorem own_nat32 {u : Int32} {a : Int} (hu : u.toInt = a) (h0 : 0 ≤ a) {N : Nat} (h1 : a < N) : ∃ n : Nat, n < N ∧ u = Int32.ofNat n ∧ a = (n : Int) := by
  have q := u.toInt_lt
  refine ⟨a.toNat, by omega, ?_, by omega⟩
  apply Int32.toInt_inj.mp
  rw [Int32.toInt_ofNat_of_lt (by omega), hu]; omega
theorem own_bv64 {x : Int64} {a : Int} (hx : x.toInt = a) (h0 : 0 ≤ a) : (x.toBitVec.toNat : Int) = a := by
  have e : x.toInt = x.toBitVec.toInt := rfl
  have hb := x.toBitVec.isLt
  rw [e, BitVec.toInt_eq_toNat_cond] at hx
  split at hx <;> omega
theorem own_bv32 {x : Int32} {a : Int} (hx : x.toInt = a) (h0 : 0 ≤ a) : (x.toBitVec.toNat : Int) = a := by
  have e : x.toInt = x.toBitVec.toInt := rfl
  have hb := x.toBitVec.isLt
  rw [e, BitVec.toInt_eq_toNat_cond] at hx
  split at hx <;> omega
theorem own_shn (y : Int32) : ((y &&& 0x3f).toInt64.toUInt64).toNat < 64 := by
  obtain ⟨a, h1, h2, h3, -⟩ := own_m32 y (0x3f : Int32) (k := 6) (by decide) (by decide)
  have h4 := own_bv64 (own_i2l h1) h2
  have e : ((y &&& 0x3f).toInt64.toUInt64).toNat = (y &&& 0x3f).toInt64.toBitVec.toNat := rfl
  rw [e]
  omega
theorem own_ushr0 {x : Int64} {a : Int} (hx : x.toInt = a) (h0 : 0 ≤ a) (y : Int32) : ∃ b : Int, ((x.toUInt64 >>> (y &&& 0x3f).toInt64.toUInt64).toInt64).toInt = b ∧ 0 ≤ b ∧ b ≤ a := by
  refine ⟨_, Jvm.Kit.i64_lushr (by rw [Jvm.Kit.i64_nonneg, hx]; exact h0) rfl (own_shn y), ?_, ?_⟩
  · rw [hx]; exact Int.ediv_nonneg h0 (Int.le_of_lt (Int.pow_pos (by decide)))
  · rw [hx]; exact Int.ediv_le_self _ h0
theorem own_ushrk {x : Int64} {a : Int} (hx : x.toInt = a) (h0 : 0 ≤ a) {n : UInt64} {k : Nat} (hn : n.toNat = k) (hk : k < 64) {d : Int} (hd : (2 : Int) ^ k = d) : ((x.toUInt64 >>> n).toInt64).toInt = a / d := by
  rw [Jvm.Kit.i64_lushr (by rw [Jvm.Kit.i64_nonneg, hx]; exact h0) hn hk, hx, hd]
theorem own_ofbv32 {x : Int32} (h : x.toBitVec.toNat < 2 ^ 31) : x.toInt = (x.toBitVec.toNat : Int) := by
  have e : x.toInt = x.toBitVec.toInt := rfl
  rw [e, BitVec.toInt_eq_toNat_cond, if_pos (by omega)]
theorem own_xor32 {x y : Int32} {a b : Int} (hx : x.toInt = a) (hy : y.toInt = b) (h0 : 0 ≤ a) (h1 : 0 ≤ b) : ∃ c : Int, (x ^^^ y).toInt = c ∧ 0 ≤ c := by
  have p := own_bv32 hx h0; have q := own_bv32 hy h1
  have r := x.toInt_lt; have s := y.toInt_lt
  have e : (x ^^^ y).toBitVec.toNat = x.toBitVec.toNat ^^^ y.toBitVec.toNat := by simp [Int32.toBitVec_xor, BitVec.toNat_xor]
  have l : (x ^^^ y).toBitVec.toNat < 2 ^ 31 := by rw [e]; exact Nat.xor_lt_two_pow (by omega) (by omega)
  exact ⟨_, own_ofbv32 l, Int.natCast_nonneg _⟩
theorem d1_0 : decode jdk_30_method_1_code 0 = .ok (.aload_n 0, 1) := by decide +kernel
theorem d1_1 : decode jdk_30_method_1_code 1 = .ok (.invokespecial 1, 3) := by decide +kernel
theorem d1_4 : decode jdk_30_method_1_code 4 = .ok (.return_, 1) := by decide +kernel
theorem pn1 : plainName "java/lang/Record" = true := by first | (simp [plainName, overriddenIn]; done) | decide +kernel
theorem ef1 (m : MethodId) (x0 : Addr) : entryFrame m #[(.ref x0)] 1 = (mkF m 0 #[.val (.ref x0)] []) := by first | (simp [entryFrame, mkF, argsToLocals, Value.category]; done) | rfl
set_option maxRecDepth 65536 in
set_option maxHeartbeats 40000000 in
theorem rm1 (l : Launch) (Z : State) (a0 : Array Value) (hw : ∀ d ∈ tables_1, d.before a0 Z = true) (ws : List Jvm.Cond) (x0 : Addr) (h0 : Heap) (n0 : Nat) (Z0 : n0 ≤ h0.size) :
    MetFree l (⟨"java/lang/Record", "<init>", "()V"⟩ : MethodName) (head1 (Jvm.Cond.code (⟨"java/lang/Record", "<init>", "()V"⟩ : MethodName) jdk_30_method_1_code 1 none :: ws) ({ frames := 1, cells := 0, slots := 0, locals := 12 } : Room)) (fun a U => a = #[(.ref x0)] ∧ Z.Warmed39 U.vm ∧ U.heap = h0) (fun _ _ _ _ _ => True) (fun _ U o U' => ∃ v L, o = .returned v ∧ (QP none h0 n0) v U'.heap L ∧ FrameEnd U o U' L ({ frames := 1, cells := 0, slots := 0, locals := 12 } : Room).cells ({ frames := 1, cells := 0, slots := 0, locals := 12 } : Room).slots) := by
  refine MetFree.of_bodySF (plainFor_of_name pn1) hisR ?_
  intro p e s m args below meth c s₁ Bd hml0 hP hK
  obtain ⟨rfl, hZ, hh⟩ := hP
  have hx := Bd.exec
  have hby := Bd.bytes
  have hml : c.maxLocals = 1 := hml0
  have hlk : meth.locks = false := BodyLoose.notSynchronized Bd
  have hown : s.vm.findClass "java/lang/Record" = some m.cls := findClass_of_methodNamed Bd.named
  have hnm := (name_of_methodNamed Bd.named Bd.method).1
  have hci : ∀ i v, (i, v) ∈ ([] : List (Nat × Int32)) → (Jvm.Cond.constant "java/lang/Record" i v).before #[(.ref x0)] s = true := own_ci0
  have hcl : ∀ i v, (i, v) ∈ ([] : List (Nat × Int64)) → (Jvm.Cond.constantLong "java/lang/Record" i v).before #[(.ref x0)] s = true := own_ci0
  have X0 : Stand p l e ({ frames := 1, cells := 0, slots := 0, locals := 12 } : Room) s m #[(.ref x0)] below meth c s₁ [] 0 0 := Stand.of_body Bd
  have e0 : s₁.heap = h0 := by rw [← hh, Bd.state]; rfl
  have N0 := Fr.nil n0
  show Goes p e below s (QP none h0 n0) ({ frames := 1, cells := 0, slots := 0, locals := 12 } : Room).cells ({ frames := 1, cells := 0, slots := 0, locals := 12 } : Room).slots (s₁.setTop (entryFrame m #[(.ref x0)] 1))
  refine Goes.cast (ef1 m x0) ?_
  refine Goes.run X0 hx hown hci hcl hby (L := [(0, .aload_n 0, 1)]) (by decide +kernel) rfl (g' := (mkF m 1 #[.val (.ref x0)] [(.ref x0)])) rfl ?_
  obtain ⟨T1, X1, e1, st1⟩ := initO X0 hx hZ hown (hw _ (List.mem_of_getElem? (i := 12) rfl)) (hw _ (List.mem_of_getElem? (i := 13) rfl)) (hw _ (List.mem_of_getElem? (i := 14) rfl)) e0 (g := (mkF m 1 #[.val (.ref x0)] [(.ref x0)])) rfl (by rw [hml]; rfl) rfl (hb hby d1_1) (by decide) (W := 0) (by show 2 * 0 + _ ≤ _; exact Nat.le_of_eq rfl) (by decide)
  refine Goes.st (B := T1.setTop (mkF m 4 #[.val (.ref x0)] [])) st1 ?_
  exact Goes.retV X1 hx hlk Bd.returns (hb hby d1_4) ⟨rfl, N0, e1⟩ (by decide) (by decide)
theorem d2_0 : decode prog_39_method_1_code 0 = .ok (.aload_n 0, 1) := by decide +kernel
theorem d2_1 : decode prog_39_method_1_code 1 = .ok (.invokespecial 1, 3) := by decide +kernel
theorem d2_4 : decode prog_39_method_1_code 4 = .ok (.iload_n 1, 1) := by decide +kernel
theorem d2_5 : decode prog_39_method_1_code 5 = .ok (.ifCond .lt 10, 3) := by decide +kernel
theorem d2_8 : decode prog_39_method_1_code 8 = .ok (.iload_n 1, 1) := by decide +kernel
theorem d2_9 : decode prog_39_method_1_code 9 = .ok (.sipush 9999, 3) := by decide +kernel
theorem d2_12 : decode prog_39_method_1_code 12 = .ok (.if_icmp .le 17, 3) := by decide +kernel
theorem d2_29 : decode prog_39_method_1_code 29 = .ok (.iload_n 2, 1) := by decide +kernel
theorem d2_30 : decode prog_39_method_1_code 30 = .ok (.iconst 1, 1) := by decide +kernel
theorem d2_31 : decode prog_39_method_1_code 31 = .ok (.if_icmp .lt 9, 3) := by decide +kernel
theorem d2_34 : decode prog_39_method_1_code 34 = .ok (.iload_n 2, 1) := by decide +kernel
theorem d2_35 : decode prog_39_method_1_code 35 = .ok (.bipush 12, 2) := by decide +kernel
theorem d2_37 : decode prog_39_method_1_code 37 = .ok (.if_icmp .le 17, 3) := by decide +kernel
theorem d2_54 : decode prog_39_method_1_code 54 = .ok (.aload_n 0, 1) := by decide +kernel
theorem d2_55 : decode prog_39_method_1_code 55 = .ok (.iload_n 1, 1) := by decide +kernel
theorem d2_56 : decode prog_39_method_1_code 56 = .ok (.putfield 19, 3) := by decide +kernel
theorem d2_59 : decode prog_39_method_1_code 59 = .ok (.aload_n 0, 1) := by decide +kernel
theorem d2_60 : decode prog_39_method_1_code 60 = .ok (.iload_n 2, 1) := by decide +kernel
theorem d2_61 : decode prog_39_method_1_code 61 = .ok (.putfield 23, 3) := by decide +kernel
theorem d2_64 : decode prog_39_method_1_code 64 = .ok (.return_, 1) := by decide +kernel
theorem pn2 : plainName "com/example/ratable/ratable/model/Period" = true := by first | (simp [plainName, overriddenIn]; done) | decide +kernel
theorem pd2_0 : parseMethodDescriptor "()V" = some ⟨[], none⟩ := by decide +kernel
theorem ef2 (m : MethodId) (x0 : Addr) (x1 : Int32) (x2 : Int32) : entryFrame m #[(.ref x0), (.int x1), (.int x2)] 3 = (mkF m 0 #[.val (.ref x0), .val (.int x1), .val (.int x2)] []) := by first | (simp [entryFrame, mkF, argsToLocals, Value.category]; done) | rfl
def Q2 (Z : State) (x0 : Addr) (x1 : Int32) (x2 : Int32) (h0 : Heap) (n0 : Nat) (v : Option Value) (h : Heap) (L : List Loc) : Prop := v = none ∧ Fr n0 L ∧ Keep h0 h [x0] ∧ Exa Z h x0 "com/example/ratable/ratable/model/Period" ∧ Fld Z h x0 "com/example/ratable/ratable/model/Period" "year" "I" (.int x1) ∧ Fld Z h x0 "com/example/ratable/ratable/model/Period" "month" "I" (.int x2)
set_option maxRecDepth 65536 in
set_option maxHeartbeats 40000000 in
theorem rm2 (l : Launch) (Z : State) (a0 : Array Value) (hw : ∀ d ∈ tables_1, d.before a0 Z = true) (ws : List Jvm.Cond) (x0 : Addr) (x1 : Int32) (x2 : Int32) (h0 : Heap) (n0 : Nat) (Z0 : n0 ≤ h0.size) (E_x0 : Exa Z h0 x0 "com/example/ratable/ratable/model/Period") (F_year_x0 : Fld Z h0 x0 "com/example/ratable/ratable/model/Period" "year" "I" (.int (0 : Int32))) (F_month_x0 : Fld Z h0 x0 "com/example/ratable/ratable/model/Period" "month" "I" (.int (0 : Int32))) (g_x0 : n0 ≤ x0) (p1 : ¬ (x1 < (0 : Int32))) (p2 : ¬ ((9999 : Int32) < x1)) (p3 : ¬ (x2 < (1 : Int32))) (p4 : ¬ ((12 : Int32) < x2)) :
    MetFree l (⟨"com/example/ratable/ratable/model/Period", "<init>", "(II)V"⟩ : MethodName) (head1 (Jvm.Cond.code (⟨"com/example/ratable/ratable/model/Period", "<init>", "(II)V"⟩ : MethodName) prog_39_method_1_code 3 none :: ws) ({ frames := 2, cells := 0, slots := 0, locals := 24 } : Room)) (fun a U => a = #[(.ref x0), (.int x1), (.int x2)] ∧ Z.Warmed39 U.vm ∧ U.heap = h0) (fun _ _ _ _ _ => True) (fun _ U o U' => ∃ v L, o = .returned v ∧ (Q2 Z x0 x1 x2 h0 n0) v U'.heap L ∧ FrameEnd U o U' L ({ frames := 2, cells := 0, slots := 0, locals := 24 } : Room).cells ({ frames := 2, cells := 0, slots := 0, locals := 24 } : Room).slots) := by
  refine MetFree.of_bodySF (plainFor_of_name pn2) hisR ?_
  intro p e s m args below meth c s₁ Bd hml0 hP hK
  obtain ⟨rfl, hZ, hh⟩ := hP
  have hx := Bd.exec
  have hby := Bd.bytes
  have hml : c.maxLocals = 3 := hml0
  have hlk : meth.locks = false := BodyLoose.notSynchronized Bd
  have hown : s.vm.findClass "com/example/ratable/ratable/model/Period" = some m.cls := findClass_of_methodNamed Bd.named
  have hnm := (name_of_methodNamed Bd.named Bd.method).1
  have hci : ∀ i v, (i, v) ∈ ([] : List (Nat × Int32)) → (Jvm.Cond.constant "com/example/ratable/ratable/model/Period" i v).before #[(.ref x0), (.int x1), (.int x2)] s = true := own_ci0
  have hcl : ∀ i v, (i, v) ∈ ([] : List (Nat × Int64)) → (Jvm.Cond.constantLong "com/example/ratable/ratable/model/Period" i v).before #[(.ref x0), (.int x1), (.int x2)] s = true := own_ci0
  have X0 : Stand p l e ({ frames := 2, cells := 0, slots := 0, locals := 24 } : Room) s m #[(.ref x0), (.int x1), (.int x2)] below meth c s₁ [] 0 0 := Stand.of_body Bd
  have e0 : s₁.heap = h0 := by rw [← hh, Bd.state]; rfl
  have N0 := Fr.nil n0
  show Goes p e below s (Q2 Z x0 x1 x2 h0 n0) ({ frames := 2, cells := 0, slots := 0, locals := 24 } : Room).cells ({ frames := 2, cells := 0, slots := 0, locals := 24 } : Room).slots (s₁.setTop (entryFrame m #[(.ref x0), (.int x1), (.int x2)] 3))
  refine Goes.cast (ef2 m x0 x1 x2) ?_
  have K0 : Keep h0 h0 [x0] := Keep.refl h0 _
  refine Goes.run X0 hx hown hci hcl hby (L := [(0, .aload_n 0, 1)]) (by decide +kernel) rfl (g' := (mkF m 1 #[.val (.ref x0), .val (.int x1), .val (.int x2)] [(.ref x0)])) rfl ?_
  obtain ⟨_, _, ⟨T1, L1, k1, n1⟩, -, X1, ⟨Lc1, hQ1, l1, y1, z1⟩, st1⟩ := X0.specialBack hx (y := (⟨"java/lang/Record", "<init>", "()V"⟩ : MethodName)) rfl hown (mvT hZ (hw _ (List.mem_of_getElem? (i := 7) rfl))) (mvT hZ (hw _ (List.mem_of_getElem? (i := 8) rfl))) (mvT hZ (hw _ (List.mem_of_getElem? (i := 11) rfl))) (by decide) (backOf (W := 0) (rm1 l Z a0 hw [] x0 h0 n0 Z0 ) hZ (hw _ (List.mem_of_getElem? (i := 11) rfl)) (hw _ (List.mem_of_getElem? (i := 10) rfl)) (by decide) (by decide)) (g := (mkF m 1 #[.val (.ref x0), .val (.int x1), .val (.int x2)] [(.ref x0)])) rfl (by rw [hml]; rfl) (Steps.refl _) (a := x0) (argsL := []) (rest := []) (lenOf pd2_0 rfl) rfl (by show 2 * 0 + _ ≤ _; exact Nat.le_of_eq rfl) (hb hby d2_1) (fun _ _ => ⟨rfl, e0, (by decide : 0 + 0 ≤ _), (by decide : 0 + 0 ≤ _)⟩)
  dsimp only [Pt.U, Pt.locs, Pt.cells, Pt.slots] at X1 l1 y1 z1 st1 hQ1
  subst l1 y1 z1
  obtain ⟨rfl, N1q, e1⟩ := hQ1
  have N1 := Fr.app N0 N1q
  refine Goes.st (B := T1.setTop (mkF m 4 #[.val (.ref x0), .val (.int x1), .val (.int x2)] [])) (fun t k => st1.trans k) ?_
  refine Goes.run X1 hx hown hci hcl hby (L := [(4, .iload_n 1, 1)]) (by decide +kernel) rfl (g' := (mkF m 5 #[.val (.ref x0), .val (.int x1), .val (.int x2)] [(.int x1)])) rfl ?_
  have hc5_2 : ¬ (x1 < (0 : Int32)) := p1
  refine Goes.st (B := T1.setTop (mkF m 8 #[.val (.ref x0), .val (.int x1), .val (.int x2)] [])) (fun t k => ?_) ?_
  · refine XS.ifNo X1.here hx rfl (hb hby d2_5) rfl ((if0 _ _).trans (flt hc5_2).1) ?_
    exact k
  refine Goes.run X1 hx hown hci hcl hby (L := [(8, .iload_n 1, 1), (9, .sipush 9999, 3)]) (by decide +kernel) rfl (g' := (mkF m 12 #[.val (.ref x0), .val (.int x1), .val (.int x2)] [(.int (9999 : Int32)), (.int x1)])) rfl ?_
  have hc12_3 : ¬ ((9999 : Int32) < x1) := p2
  refine Goes.st (B := T1.setTop (mkF m 29 #[.val (.ref x0), .val (.int x1), .val (.int x2)] [])) (fun t k => ?_) ?_
  · refine XS.icmpYes X1.here hx rfl (pc0 := 12) (pc' := 29) rfl (hb hby d2_12) rfl (flt hc12_3).2.2.2 (by decide) (by decide) ?_
    exact k
  refine Goes.run X1 hx hown hci hcl hby (L := [(29, .iload_n 2, 1), (30, .iconst 1, 1)]) (by decide +kernel) rfl (g' := (mkF m 31 #[.val (.ref x0), .val (.int x1), .val (.int x2)] [(.int (1 : Int32)), (.int x2)])) rfl ?_
  have hc31_4 : ¬ (x2 < (1 : Int32)) := p3
  refine Goes.st (B := T1.setTop (mkF m 34 #[.val (.ref x0), .val (.int x1), .val (.int x2)] [])) (fun t k => ?_) ?_
  · refine XS.icmpNo X1.here hx rfl (hb hby d2_31) rfl (flt hc31_4).1 ?_
    exact k
  refine Goes.run X1 hx hown hci hcl hby (L := [(34, .iload_n 2, 1), (35, .bipush 12, 2)]) (by decide +kernel) rfl (g' := (mkF m 37 #[.val (.ref x0), .val (.int x1), .val (.int x2)] [(.int (12 : Int32)), (.int x2)])) rfl ?_
  have hc37_5 : ¬ ((12 : Int32) < x2) := p4
  refine Goes.st (B := T1.setTop (mkF m 54 #[.val (.ref x0), .val (.int x1), .val (.int x2)] [])) (fun t k => ?_) ?_
  · refine XS.icmpYes X1.here hx rfl (pc0 := 37) (pc' := 54) rfl (hb hby d2_37) rfl (flt hc37_5).2.2.2 (by decide) (by decide) ?_
    exact k
  refine Goes.run X1 hx hown hci hcl hby (L := [(54, .aload_n 0, 1), (55, .iload_n 1, 1)]) (by decide +kernel) rfl (g' := (mkF m 56 #[.val (.ref x0), .val (.int x1), .val (.int x2)] [(.int x1), (.ref x0)])) rfl ?_
  obtain ⟨T6, h6, X6, e6, W6, st6⟩ := putF X1 hx hZ hown (host := "") (Or.inl (hw _ (List.mem_of_getElem? (i := 15) rfl))) Via.refl e1 F_year_x0 E_x0 (Or.inr ⟨(hw _ (List.mem_of_getElem? (i := 16) rfl)), rfl, hnm⟩) (hw _ (List.mem_of_getElem? (i := 2) rfl)) (ty := .int) (by decide) rfl rfl (g := (mkF m 56 #[.val (.ref x0), .val (.int x1), .val (.int x2)] [(.int x1), (.ref x0)])) rfl rfl (hb hby d2_56)
  have E_x0 := E_x0.wr W6
  have F_year_x0 : Fld Z h6 x0 "com/example/ratable/ratable/model/Period" "year" "I" (.int x1) := F_year_x0.same W6
  have F_month_x0 := F_month_x0.other W6 (Or.inr (slot_ne (Or.inr (hw _ (List.mem_of_getElem? (i := 18) rfl))) (Or.inr (hw _ (List.mem_of_getElem? (i := 16) rfl))) (by decide) (t := .int) (t' := .int) (by decide) (by decide)))
  have Zn6 : n0 ≤ h6.size := Nat.le_trans Z0 (Keep.of_wr W6).1
  have K6 := K0.wr W6 (Or.inl (List.mem_of_getElem? (i := 0) rfl))
  have N6 := Fr.snoc X6 N1 g_x0
  refine Goes.st (B := T6.setTop (mkF m 59 #[.val (.ref x0), .val (.int x1), .val (.int x2)] [])) st6 ?_
  refine Goes.run X6 hx hown hci hcl hby (L := [(59, .aload_n 0, 1), (60, .iload_n 2, 1)]) (by decide +kernel) rfl (g' := (mkF m 61 #[.val (.ref x0), .val (.int x1), .val (.int x2)] [(.int x2), (.ref x0)])) rfl ?_
  obtain ⟨T7, h7, X7, e7, W7, st7⟩ := putF X6 hx hZ hown (host := "") (Or.inl (hw _ (List.mem_of_getElem? (i := 17) rfl))) Via.refl e6 F_month_x0 E_x0 (Or.inr ⟨(hw _ (List.mem_of_getElem? (i := 18) rfl)), rfl, hnm⟩) (hw _ (List.mem_of_getElem? (i := 2) rfl)) (ty := .int) (by decide) rfl rfl (g := (mkF m 61 #[.val (.ref x0), .val (.int x1), .val (.int x2)] [(.int x2), (.ref x0)])) rfl rfl (hb hby d2_61)
  have E_x0 := E_x0.wr W7
  have F_year_x0 := F_year_x0.other W7 (Or.inr (slot_ne (Or.inr (hw _ (List.mem_of_getElem? (i := 16) rfl))) (Or.inr (hw _ (List.mem_of_getElem? (i := 18) rfl))) (by decide) (t := .int) (t' := .int) (by decide) (by decide)))
  have F_month_x0 : Fld Z h7 x0 "com/example/ratable/ratable/model/Period" "month" "I" (.int x2) := F_month_x0.same W7
  have Zn7 : n0 ≤ h7.size := Nat.le_trans Zn6 (Keep.of_wr W7).1
  have K7 := K6.wr W7 (Or.inl (List.mem_of_getElem? (i := 0) rfl))
  have N7 := Fr.snoc X7 N6 g_x0
  refine Goes.st (B := T7.setTop (mkF m 64 #[.val (.ref x0), .val (.int x1), .val (.int x2)] [])) st7 ?_
  refine Goes.retV X7 hx hlk Bd.returns (hb hby d2_64) ?_ (by decide) (by decide)
  show (Q2 Z x0 x1 x2 h0 n0) _ _ _
  rw [e7]
  exact ⟨rfl, N7, K7, E_x0, F_year_x0, F_month_x0⟩
theorem d3_0 : decode prog_39_method_10_code 0 = .ok (.aload_n 0, 1) := by decide +kernel
theorem d3_1 : decode prog_39_method_10_code 1 = .ok (.getfield 19, 3) := by decide +kernel
theorem d3_4 : decode prog_39_method_10_code 4 = .ok (.bipush 12, 2) := by decide +kernel
theorem d3_6 : decode prog_39_method_10_code 6 = .ok (.imul, 1) := by decide +kernel
theorem d3_7 : decode prog_39_method_10_code 7 = .ok (.aload_n 0, 1) := by decide +kernel
theorem d3_8 : decode prog_39_method_10_code 8 = .ok (.getfield 23, 3) := by decide +kernel
theorem d3_11 : decode prog_39_method_10_code 11 = .ok (.iadd, 1) := by decide +kernel
theorem d3_12 : decode prog_39_method_10_code 12 = .ok (.iconst 1, 1) := by decide +kernel
theorem d3_13 : decode prog_39_method_10_code 13 = .ok (.isub, 1) := by decide +kernel
theorem d3_14 : decode prog_39_method_10_code 14 = .ok (.ireturn, 1) := by decide +kernel
theorem pn3 : plainName "com/example/ratable/ratable/model/Period" = true := by first | (simp [plainName, overriddenIn]; done) | decide +kernel
theorem ef3 (m : MethodId) (x0 : Addr) : entryFrame m #[(.ref x0)] 1 = (mkF m 0 #[.val (.ref x0)] []) := by first | (simp [entryFrame, mkF, argsToLocals, Value.category]; done) | rfl
def r3 (y : Int32) (n : Int32) : Int32 := (((y * (12 : Int32)) + n) - (1 : Int32))
set_option maxRecDepth 65536 in
set_option maxHeartbeats 40000000 in
theorem rm3 (l : Launch) (Z : State) (a0 : Array Value) (hw : ∀ d ∈ tables_1, d.before a0 Z = true) (ws : List Jvm.Cond) (x0 : Addr) (y : Int32) (n : Int32) (h0 : Heap) (n0 : Nat) (Z0 : n0 ≤ h0.size) (F_year_x0 : Fld Z h0 x0 "com/example/ratable/ratable/model/Period" "year" "I" (.int y)) (F_month_x0 : Fld Z h0 x0 "com/example/ratable/ratable/model/Period" "month" "I" (.int n)) :
    MetFree l (⟨"com/example/ratable/ratable/model/Period", "index", "()I"⟩ : MethodName) (head1 (Jvm.Cond.code (⟨"com/example/ratable/ratable/model/Period", "index", "()I"⟩ : MethodName) prog_39_method_10_code 1 (some .int) :: ws) ({ frames := 0, cells := 0, slots := 0, locals := 0 } : Room)) (fun a U => a = #[(.ref x0)] ∧ Z.Warmed39 U.vm ∧ U.heap = h0) (fun _ _ _ _ _ => True) (fun _ U o U' => ∃ v L, o = .returned v ∧ (QP (some (.int (r3 y n))) h0 n0) v U'.heap L ∧ FrameEnd U o U' L ({ frames := 0, cells := 0, slots := 0, locals := 0 } : Room).cells ({ frames := 0, cells := 0, slots := 0, locals := 0 } : Room).slots) := by
  refine MetFree.of_bodySF (plainFor_of_name pn3) hisR ?_
  intro p e s m args below meth c s₁ Bd hml0 hP hK
  obtain ⟨rfl, hZ, hh⟩ := hP
  have hx := Bd.exec
  have hby := Bd.bytes
  have hml : c.maxLocals = 1 := hml0
  have hlk : meth.locks = false := BodyLoose.notSynchronized Bd
  have hown : s.vm.findClass "com/example/ratable/ratable/model/Period" = some m.cls := findClass_of_methodNamed Bd.named
  have hnm := (name_of_methodNamed Bd.named Bd.method).1
  have hci : ∀ i v, (i, v) ∈ ([] : List (Nat × Int32)) → (Jvm.Cond.constant "com/example/ratable/ratable/model/Period" i v).before #[(.ref x0)] s = true := own_ci0
  have hcl : ∀ i v, (i, v) ∈ ([] : List (Nat × Int64)) → (Jvm.Cond.constantLong "com/example/ratable/ratable/model/Period" i v).before #[(.ref x0)] s = true := own_ci0
  have X0 : Stand p l e ({ frames := 0, cells := 0, slots := 0, locals := 0 } : Room) s m #[(.ref x0)] below meth c s₁ [] 0 0 := Stand.of_body Bd
  have e0 : s₁.heap = h0 := by rw [← hh, Bd.state]; rfl
  have N0 := Fr.nil n0
  show Goes p e below s (QP (some (.int (r3 y n))) h0 n0) ({ frames := 0, cells := 0, slots := 0, locals := 0 } : Room).cells ({ frames := 0, cells := 0, slots := 0, locals := 0 } : Room).slots (s₁.setTop (entryFrame m #[(.ref x0)] 1))
  refine Goes.cast (ef3 m x0) ?_
  refine Goes.run X0 hx hown hci hcl hby (L := [(0, .aload_n 0, 1)]) (by decide +kernel) rfl (g' := (mkF m 1 #[.val (.ref x0)] [(.ref x0)])) rfl ?_
  obtain ⟨T1, X1, e1, st1⟩ := getF X0 hx hZ hown (host := "") (Or.inl (hw _ (List.mem_of_getElem? (i := 15) rfl))) Via.refl e0 F_year_x0 (g := (mkF m 1 #[.val (.ref x0)] [(.ref x0)])) rfl rfl (hb hby d3_1)
  refine Goes.st (B := T1.setTop (mkF m 4 #[.val (.ref x0)] [(.int y)])) st1 ?_
  refine Goes.run X1 hx hown hci hcl hby (L := [(4, .bipush 12, 2), (6, .imul, 1), (7, .aload_n 0, 1)]) (by decide +kernel) rfl (g' := (mkF m 8 #[.val (.ref x0)] [(.ref x0), (.int (y * (12 : Int32)))])) rfl ?_
  obtain ⟨T2, X2, e2, st2⟩ := getF X1 hx hZ hown (host := "") (Or.inl (hw _ (List.mem_of_getElem? (i := 17) rfl))) Via.refl e1 F_month_x0 (g := (mkF m 8 #[.val (.ref x0)] [(.ref x0), (.int (y * (12 : Int32)))])) rfl rfl (hb hby d3_8)
  refine Goes.st (B := T2.setTop (mkF m 11 #[.val (.ref x0)] [(.int n), (.int (y * (12 : Int32)))])) st2 ?_
  refine Goes.run X2 hx hown hci hcl hby (L := [(11, .iadd, 1), (12, .iconst 1, 1), (13, .isub, 1)]) (by decide +kernel) rfl (g' := (mkF m 14 #[.val (.ref x0)] [(.int (((y * (12 : Int32)) + n) - (1 : Int32)))])) rfl ?_
  exact Goes.retI X2 hx hlk Bd.returns (hb hby d3_14) ⟨(congrArg (fun z => some (Value.int z)) (show (r3 y n) = (((y * (12 : Int32)) + n) - (1 : Int32)) from rfl).symm), N0, e2⟩ (by decide) (by decide)
theorem d4_0 : decode prog_39_method_6_code 0 = .ok (.aload_n 1, 1) := by decide +kernel
theorem d4_1 : decode prog_39_method_6_code 1 = .ok (.invokevirtual 66, 3) := by decide +kernel
theorem d4_4 : decode prog_39_method_6_code 4 = .ok (.aload_n 0, 1) := by decide +kernel
theorem d4_5 : decode prog_39_method_6_code 5 = .ok (.invokevirtual 66, 3) := by decide +kernel
theorem d4_8 : decode prog_39_method_6_code 8 = .ok (.isub, 1) := by decide +kernel
theorem d4_9 : decode prog_39_method_6_code 9 = .ok (.ireturn, 1) := by decide +kernel
theorem pn4 : plainName "com/example/ratable/ratable/model/Period" = true := by first | (simp [plainName, overriddenIn]; done) | decide +kernel
theorem pd4_0 : parseMethodDescriptor "()I" = some ⟨[], some .int⟩ := by decide +kernel
theorem ef4 (m : MethodId) (x0 : Addr) (x1 : Addr) : entryFrame m #[(.ref x0), (.ref x1)] 2 = (mkF m 0 #[.val (.ref x0), .val (.ref x1)] []) := by first | (simp [entryFrame, mkF, argsToLocals, Value.category]; done) | rfl
def r4 (y : Int32) (n : Int32) (y1 : Int32) (n1 : Int32) : Int32 := ((r3 y1 n1) - (r3 y n))
set_option maxRecDepth 65536 in
set_option maxHeartbeats 40000000 in
theorem rm4 (l : Launch) (Z : State) (a0 : Array Value) (hw : ∀ d ∈ tables_1, d.before a0 Z = true) (ws : List Jvm.Cond) (x0 : Addr) (x1 : Addr) (y : Int32) (n : Int32) (y1 : Int32) (n1 : Int32) (h0 : Heap) (n0 : Nat) (Z0 : n0 ≤ h0.size) (E_x0 : Exa Z h0 x0 "com/example/ratable/ratable/model/Period") (F_year_x0 : Fld Z h0 x0 "com/example/ratable/ratable/model/Period" "year" "I" (.int y)) (F_month_x0 : Fld Z h0 x0 "com/example/ratable/ratable/model/Period" "month" "I" (.int n)) (E_x1 : Exa Z h0 x1 "com/example/ratable/ratable/model/Period") (F_year_x1 : Fld Z h0 x1 "com/example/ratable/ratable/model/Period" "year" "I" (.int y1)) (F_month_x1 : Fld Z h0 x1 "com/example/ratable/ratable/model/Period" "month" "I" (.int n1)) :
    MetFree l (⟨"com/example/ratable/ratable/model/Period", "monthsUntil", "(Lcom/example/ratable/ratable/model/Period;)I"⟩ : MethodName) (head1 (Jvm.Cond.code (⟨"com/example/ratable/ratable/model/Period", "monthsUntil", "(Lcom/example/ratable/ratable/model/Period;)I"⟩ : MethodName) prog_39_method_6_code 2 (some .int) :: ws) ({ frames := 1, cells := 0, slots := 0, locals := 13 } : Room)) (fun a U => a = #[(.ref x0), (.ref x1)] ∧ Z.Warmed39 U.vm ∧ U.heap = h0) (fun _ _ _ _ _ => True) (fun _ U o U' => ∃ v L, o = .returned v ∧ (QP (some (.int (r4 y n y1 n1))) h0 n0) v U'.heap L ∧ FrameEnd U o U' L ({ frames := 1, cells := 0, slots := 0, locals := 13 } : Room).cells ({ frames := 1, cells := 0, slots := 0, locals := 13 } : Room).slots) := by
  refine MetFree.of_bodySF (plainFor_of_name pn4) hisR ?_
  intro p e s m args below meth c s₁ Bd hml0 hP hK
  obtain ⟨rfl, hZ, hh⟩ := hP
  have hx := Bd.exec
  have hby := Bd.bytes
  have hml : c.maxLocals = 2 := hml0
  have hlk : meth.locks = false := BodyLoose.notSynchronized Bd
  have hown : s.vm.findClass "com/example/ratable/ratable/model/Period" = some m.cls := findClass_of_methodNamed Bd.named
  have hnm := (name_of_methodNamed Bd.named Bd.method).1
  have hci : ∀ i v, (i, v) ∈ ([] : List (Nat × Int32)) → (Jvm.Cond.constant "com/example/ratable/ratable/model/Period" i v).before #[(.ref x0), (.ref x1)] s = true := own_ci0
  have hcl : ∀ i v, (i, v) ∈ ([] : List (Nat × Int64)) → (Jvm.Cond.constantLong "com/example/ratable/ratable/model/Period" i v).before #[(.ref x0), (.ref x1)] s = true := own_ci0
  have X0 : Stand p l e ({ frames := 1, cells := 0, slots := 0, locals := 13 } : Room) s m #[(.ref x0), (.ref x1)] below meth c s₁ [] 0 0 := Stand.of_body Bd
  have e0 : s₁.heap = h0 := by rw [← hh, Bd.state]; rfl
  have N0 := Fr.nil n0
  show Goes p e below s (QP (some (.int (r4 y n y1 n1))) h0 n0) ({ frames := 1, cells := 0, slots := 0, locals := 13 } : Room).cells ({ frames := 1, cells := 0, slots := 0, locals := 13 } : Room).slots (s₁.setTop (entryFrame m #[(.ref x0), (.ref x1)] 2))
  refine Goes.cast (ef4 m x0 x1) ?_
  refine Goes.run X0 hx hown hci hcl hby (L := [(0, .aload_n 1, 1)]) (by decide +kernel) rfl (g' := (mkF m 1 #[.val (.ref x0), .val (.ref x1)] [(.ref x1)])) rfl ?_
  obtain ⟨cq1, q1a, q1b⟩ := E_x1.cell
  obtain ⟨_, _, ⟨T1, L1, k1, n1⟩, -, X1, ⟨Lc1, hQ1, l1, y1, z1⟩, st1⟩ := X0.privateBack hx (y := (⟨"com/example/ratable/ratable/model/Period", "index", "()I"⟩ : MethodName)) hown (mvT hZ (hw _ (List.mem_of_getElem? (i := 40) rfl))) (mvT hZ (hw _ (List.mem_of_getElem? (i := 41) rfl))) (own_selp (y := (⟨"com/example/ratable/ratable/model/Period", "index", "()I"⟩ : MethodName)) (mvT hZ (hw _ (List.mem_of_getElem? (i := 2) rfl))) (mvP hZ (hw _ (List.mem_of_getElem? (i := 42) rfl))) (mvT hZ (hw _ (List.mem_of_getElem? (i := 41) rfl))) (by decide)) (Cond.privateMethod_at (mvP hZ (hw _ (List.mem_of_getElem? (i := 42) rfl)) (args := #[]))) (mvT hZ (hw _ (List.mem_of_getElem? (i := 43) rfl))) (by decide) (backOf (W := 0) (rm3 l Z a0 hw [] x1 y1 n1 h0 n0 Z0 F_year_x1 F_month_x1) hZ (hw _ (List.mem_of_getElem? (i := 43) rfl)) (hw _ (List.mem_of_getElem? (i := 3) rfl)) (by decide) (by decide)) (g := (mkF m 1 #[.val (.ref x0), .val (.ref x1)] [(.ref x1)])) rfl (by rw [hml]; rfl) (Steps.refl _) (a := x1) (by rw [e0]; exact q1a) q1b (argsL := []) (rest := []) (lenOf pd4_0 rfl) rfl (by show 2 * 0 + _ ≤ _; exact Nat.le_of_eq rfl) (hb hby d4_1) (fun _ _ => ⟨rfl, e0, (by decide : 0 + 0 ≤ _), (by decide : 0 + 0 ≤ _)⟩)
  dsimp only [Pt.U, Pt.locs, Pt.cells, Pt.slots] at X1 l1 y1 z1 st1 hQ1
  subst l1 y1 z1
  obtain ⟨rfl, N1q, e1⟩ := hQ1
  have N1 := Fr.app N0 N1q
  refine Goes.st (B := T1.setTop (mkF m 4 #[.val (.ref x0), .val (.ref x1)] [(.int (r3 y1 n1))])) (fun t k => st1.trans k) ?_
  refine Goes.run X1 hx hown hci hcl hby (L := [(4, .aload_n 0, 1)]) (by decide +kernel) rfl (g' := (mkF m 5 #[.val (.ref x0), .val (.ref x1)] [(.ref x0), (.int (r3 y1 n1))])) rfl ?_
  obtain ⟨cq2, q2a, q2b⟩ := E_x0.cell
  obtain ⟨_, _, ⟨T2, L2, k2, n2⟩, -, X2, ⟨Lc2, hQ2, l2, y2, z2⟩, st2⟩ := X1.privateBack hx (y := (⟨"com/example/ratable/ratable/model/Period", "index", "()I"⟩ : MethodName)) hown (mvT hZ (hw _ (List.mem_of_getElem? (i := 40) rfl))) (mvT hZ (hw _ (List.mem_of_getElem? (i := 41) rfl))) (own_selp (y := (⟨"com/example/ratable/ratable/model/Period", "index", "()I"⟩ : MethodName)) (mvT hZ (hw _ (List.mem_of_getElem? (i := 2) rfl))) (mvP hZ (hw _ (List.mem_of_getElem? (i := 42) rfl))) (mvT hZ (hw _ (List.mem_of_getElem? (i := 41) rfl))) (by decide)) (Cond.privateMethod_at (mvP hZ (hw _ (List.mem_of_getElem? (i := 42) rfl)) (args := #[]))) (mvT hZ (hw _ (List.mem_of_getElem? (i := 43) rfl))) (by decide) (backOf (W := 1) (rm3 l Z a0 hw [] x0 y n h0 n0 Z0 F_year_x0 F_month_x0) hZ (hw _ (List.mem_of_getElem? (i := 43) rfl)) (hw _ (List.mem_of_getElem? (i := 3) rfl)) (by decide) (by decide)) (g := (mkF m 5 #[.val (.ref x0), .val (.ref x1)] [(.ref x0), (.int (r3 y1 n1))])) rfl (by rw [hml]; rfl) (Steps.refl _) (a := x0) (by rw [e1]; exact q2a) q2b (argsL := []) (rest := [(.int (r3 y1 n1))]) (lenOf pd4_0 rfl) rfl (by show 2 * 0 + _ ≤ _; exact Nat.le_of_eq rfl) (hb hby d4_5) (fun _ _ => ⟨rfl, e1, (by decide : 0 + 0 ≤ _), (by decide : 0 + 0 ≤ _)⟩)
  dsimp only [Pt.U, Pt.locs, Pt.cells, Pt.slots] at X2 l2 y2 z2 st2 hQ2
  subst l2 y2 z2
  obtain ⟨rfl, N2q, e2⟩ := hQ2
  have N2 := Fr.app N1 N2q
  refine Goes.st (B := T2.setTop (mkF m 8 #[.val (.ref x0), .val (.ref x1)] [(.int (r3 y n)), (.int (r3 y1 n1))])) (fun t k => st2.trans k) ?_
  refine Goes.run X2 hx hown hci hcl hby (L := [(8, .isub, 1)]) (by decide +kernel) rfl (g' := (mkF m 9 #[.val (.ref x0), .val (.ref x1)] [(.int ((r3 y1 n1) - (r3 y n)))])) rfl ?_
  exact Goes.retI X2 hx hlk Bd.returns (hb hby d4_9) ⟨(congrArg (fun z => some (Value.int z)) (show (r4 y n y1 n1) = ((r3 y1 n1) - (r3 y n)) from rfl).symm), N2, e2⟩ (by decide) (by decide)
theorem d5_0 : decode jdk_29_method_69_code 0 = .ok (.iload_n 0, 1) := by decide +kernel
theorem d5_1 : decode jdk_29_method_69_code 1 = .ok (.iload_n 1, 1) := by decide +kernel
theorem d5_2 : decode jdk_29_method_69_code 2 = .ok (.if_icmp .gt 7, 3) := by decide +kernel
theorem d5_5 : decode jdk_29_method_69_code 5 = .ok (.iload_n 0, 1) := by decide +kernel
theorem d5_6 : decode jdk_29_method_69_code 6 = .ok (.goto 4, 3) := by decide +kernel
theorem d5_9 : decode jdk_29_method_69_code 9 = .ok (.iload_n 1, 1) := by decide +kernel
theorem d5_10 : decode jdk_29_method_69_code 10 = .ok (.ireturn, 1) := by decide +kernel
theorem ef5 (m : MethodId) (x0 : Int32) (x1 : Int32) : entryFrame m #[(.int x0), (.int x1)] 2 = (mkF m 0 #[.val (.int x0), .val (.int x1)] []) := by first | (simp [entryFrame, mkF, argsToLocals, Value.category]; done) | rfl
def r5 (x0 : Int32) (x1 : Int32) : Int32 := (if x1 < x0 then x1 else x0)
set_option maxRecDepth 65536 in
set_option maxHeartbeats 40000000 in
theorem rm5 (l : Launch) (Z : State) (a0 : Array Value) (hw : ∀ d ∈ tables_1, d.before a0 Z = true) (ws : List Jvm.Cond) (x0 : Int32) (x1 : Int32) (h0 : Heap) (n0 : Nat) (Z0 : n0 ≤ h0.size) :
    MetFree l (⟨"java/lang/Math", "min", "(II)I"⟩ : MethodName) (head1 (Jvm.Cond.code (⟨"java/lang/Math", "min", "(II)I"⟩ : MethodName) jdk_29_method_69_code 2 (some .int) :: ws) ({ frames := 0, cells := 0, slots := 0, locals := 0 } : Room)) (fun a U => a = #[(.int x0), (.int x1)] ∧ Z.Warmed39 U.vm ∧ U.heap = h0) (fun _ _ _ _ _ => True) (fun _ U o U' => ∃ v L, o = .returned v ∧ (QP (some (.int (r5 x0 x1))) h0 n0) v U'.heap L ∧ FrameEnd U o U' L ({ frames := 0, cells := 0, slots := 0, locals := 0 } : Room).cells ({ frames := 0, cells := 0, slots := 0, locals := 0 } : Room).slots) := by
  refine MetFree.of_bodySF (Jvm.Free.JP.mathPlain rfl (by decide +kernel)) hisR ?_
  intro p e s m args below meth c s₁ Bd hml0 hP hK
  obtain ⟨rfl, hZ, hh⟩ := hP
  have hx := Bd.exec
  have hby := Bd.bytes
  have hml : c.maxLocals = 2 := hml0
  have hlk : meth.locks = false := BodyLoose.notSynchronized Bd
  have hown : s.vm.findClass "java/lang/Math" = some m.cls := findClass_of_methodNamed Bd.named
  have hnm := (name_of_methodNamed Bd.named Bd.method).1
  have hci : ∀ i v, (i, v) ∈ ([] : List (Nat × Int32)) → (Jvm.Cond.constant "java/lang/Math" i v).before #[(.int x0), (.int x1)] s = true := own_ci0
  have hcl : ∀ i v, (i, v) ∈ ([] : List (Nat × Int64)) → (Jvm.Cond.constantLong "java/lang/Math" i v).before #[(.int x0), (.int x1)] s = true := own_ci0
  have X0 : Stand p l e ({ frames := 0, cells := 0, slots := 0, locals := 0 } : Room) s m #[(.int x0), (.int x1)] below meth c s₁ [] 0 0 := Stand.of_body Bd
  have e0 : s₁.heap = h0 := by rw [← hh, Bd.state]; rfl
  have N0 := Fr.nil n0
  show Goes p e below s (QP (some (.int (r5 x0 x1))) h0 n0) ({ frames := 0, cells := 0, slots := 0, locals := 0 } : Room).cells ({ frames := 0, cells := 0, slots := 0, locals := 0 } : Room).slots (s₁.setTop (entryFrame m #[(.int x0), (.int x1)] 2))
  refine Goes.cast (ef5 m x0 x1) ?_
  refine Goes.run X0 hx hown hci hcl hby (L := [(0, .iload_n 0, 1), (1, .iload_n 1, 1)]) (by decide +kernel) rfl (g' := (mkF m 2 #[.val (.int x0), .val (.int x1)] [(.int x1), (.int x0)])) rfl ?_
  by_cases hc2_1 : x1 < x0
  · skip
    refine Goes.st (B := s₁.setTop (mkF m 9 #[.val (.int x0), .val (.int x1)] [])) (fun t k => ?_) ?_
    · refine XS.icmpYes X0.here hx rfl (pc0 := 2) (pc' := 9) rfl (hb hby d5_2) rfl (tlt hc2_1).2.2.1 (by decide) (by decide) ?_
      exact k
    refine Goes.run X0 hx hown hci hcl hby (L := [(9, .iload_n 1, 1)]) (by decide +kernel) rfl (g' := (mkF m 10 #[.val (.int x0), .val (.int x1)] [(.int x1)])) rfl ?_
    exact Goes.retI X0 hx hlk Bd.returns (hb hby d5_10) ⟨(congrArg (fun z => some (Value.int z)) (show (r5 x0 x1) = x1 from (if_pos hc2_1)).symm), N0, e0⟩ (by decide) (by decide)
  · skip
    refine Goes.st (B := s₁.setTop (mkF m 5 #[.val (.int x0), .val (.int x1)] [])) (fun t k => ?_) ?_
    · refine XS.icmpNo X0.here hx rfl (hb hby d5_2) rfl (flt hc2_1).2.2.1 ?_
      exact k
    refine Goes.run X0 hx hown hci hcl hby (L := [(5, .iload_n 0, 1), (6, .goto 4, 3)]) (by decide +kernel) rfl (g' := (mkF m 10 #[.val (.int x0), .val (.int x1)] [(.int x0)])) rfl ?_
    exact Goes.retI X0 hx hlk Bd.returns (hb hby d5_10) ⟨(congrArg (fun z => some (Value.int z)) (show (r5 x0 x1) = x0 from (if_neg hc2_1)).symm), N0, e0⟩ (by decide) (by decide)
theorem d6_0 : decode jdk_29_method_65_code 0 = .ok (.iload_n 0, 1) := by decide +kernel
theorem d6_1 : decode jdk_29_method_65_code 1 = .ok (.iload_n 1, 1) := by decide +kernel
theorem d6_2 : decode jdk_29_method_65_code 2 = .ok (.if_icmp .lt 7, 3) := by decide +kernel
theorem d6_5 : decode jdk_29_method_65_code 5 = .ok (.iload_n 0, 1) := by decide +kernel
theorem d6_6 : decode jdk_29_method_65_code 6 = .ok (.goto 4, 3) := by decide +kernel
theorem d6_9 : decode jdk_29_method_65_code 9 = .ok (.iload_n 1, 1) := by decide +kernel
theorem d6_10 : decode jdk_29_method_65_code 10 = .ok (.ireturn, 1) := by decide +kernel
theorem ef6 (m : MethodId) (x0 : Int32) (x1 : Int32) : entryFrame m #[(.int x0), (.int x1)] 2 = (mkF m 0 #[.val (.int x0), .val (.int x1)] []) := by first | (simp [entryFrame, mkF, argsToLocals, Value.category]; done) | rfl
def r6 (x0 : Int32) (x1 : Int32) : Int32 := (if x0 < x1 then x1 else x0)
set_option maxRecDepth 65536 in
set_option maxHeartbeats 40000000 in
theorem rm6 (l : Launch) (Z : State) (a0 : Array Value) (hw : ∀ d ∈ tables_1, d.before a0 Z = true) (ws : List Jvm.Cond) (x0 : Int32) (x1 : Int32) (h0 : Heap) (n0 : Nat) (Z0 : n0 ≤ h0.size) :
    MetFree l (⟨"java/lang/Math", "max", "(II)I"⟩ : MethodName) (head1 (Jvm.Cond.code (⟨"java/lang/Math", "max", "(II)I"⟩ : MethodName) jdk_29_method_65_code 2 (some .int) :: ws) ({ frames := 0, cells := 0, slots := 0, locals := 0 } : Room)) (fun a U => a = #[(.int x0), (.int x1)] ∧ Z.Warmed39 U.vm ∧ U.heap = h0) (fun _ _ _ _ _ => True) (fun _ U o U' => ∃ v L, o = .returned v ∧ (QP (some (.int (r6 x0 x1))) h0 n0) v U'.heap L ∧ FrameEnd U o U' L ({ frames := 0, cells := 0, slots := 0, locals := 0 } : Room).cells ({ frames := 0, cells := 0, slots := 0, locals := 0 } : Room).slots) := by
  refine MetFree.of_bodySF (Jvm.Free.JP.mathPlain rfl (by decide +kernel)) hisR ?_
  intro p e s m args below meth c s₁ Bd hml0 hP hK
  obtain ⟨rfl, hZ, hh⟩ := hP
  have hx := Bd.exec
  have hby := Bd.bytes
  have hml : c.maxLocals = 2 := hml0
  have hlk : meth.locks = false := BodyLoose.notSynchronized Bd
  have hown : s.vm.findClass "java/lang/Math" = some m.cls := findClass_of_methodNamed Bd.named
  have hnm := (name_of_methodNamed Bd.named Bd.method).1
  have hci : ∀ i v, (i, v) ∈ ([] : List (Nat × Int32)) → (Jvm.Cond.constant "java/lang/Math" i v).before #[(.int x0), (.int x1)] s = true := own_ci0
  have hcl : ∀ i v, (i, v) ∈ ([] : List (Nat × Int64)) → (Jvm.Cond.constantLong "java/lang/Math" i v).before #[(.int x0), (.int x1)] s = true := own_ci0
  have X0 : Stand p l e ({ frames := 0, cells := 0, slots := 0, locals := 0 } : Room) s m #[(.int x0), (.int x1)] below meth c s₁ [] 0 0 := Stand.of_body Bd
  have e0 : s₁.heap = h0 := by rw [← hh, Bd.state]; rfl
  have N0 := Fr.nil n0
  show Goes p e below s (QP (some (.int (r6 x0 x1))) h0 n0) ({ frames := 0, cells := 0, slots := 0, locals := 0 } : Room).cells ({ frames := 0, cells := 0, slots := 0, locals := 0 } : Room).slots (s₁.setTop (entryFrame m #[(.int x0), (.int x1)] 2))
  refine Goes.cast (ef6 m x0 x1) ?_
  refine Goes.run X0 hx hown hci hcl hby (L := [(0, .iload_n 0, 1), (1, .iload_n 1, 1)]) (by decide +kernel) rfl (g' := (mkF m 2 #[.val (.int x0), .val (.int x1)] [(.int x1), (.int x0)])) rfl ?_
  by_cases hc2_1 : x0 < x1
  · skip
    refine Goes.st (B := s₁.setTop (mkF m 9 #[.val (.int x0), .val (.int x1)] [])) (fun t k => ?_) ?_
    · refine XS.icmpYes X0.here hx rfl (pc0 := 2) (pc' := 9) rfl (hb hby d6_2) rfl (tlt hc2_1).1 (by decide) (by decide) ?_
      exact k
    refine Goes.run X0 hx hown hci hcl hby (L := [(9, .iload_n 1, 1)]) (by decide +kernel) rfl (g' := (mkF m 10 #[.val (.int x0), .val (.int x1)] [(.int x1)])) rfl ?_
    exact Goes.retI X0 hx hlk Bd.returns (hb hby d6_10) ⟨(congrArg (fun z => some (Value.int z)) (show (r6 x0 x1) = x1 from (if_pos hc2_1)).symm), N0, e0⟩ (by decide) (by decide)
  · skip
    refine Goes.st (B := s₁.setTop (mkF m 5 #[.val (.int x0), .val (.int x1)] [])) (fun t k => ?_) ?_
    · refine XS.icmpNo X0.here hx rfl (hb hby d6_2) rfl (flt hc2_1).1 ?_
      exact k
    refine Goes.run X0 hx hown hci hcl hby (L := [(5, .iload_n 0, 1), (6, .goto 4, 3)]) (by decide +kernel) rfl (g' := (mkF m 10 #[.val (.int x0), .val (.int x1)] [(.int x0)])) rfl ?_
    exact Goes.retI X0 hx hlk Bd.returns (hb hby d6_10) ⟨(congrArg (fun z => some (Value.int z)) (show (r6 x0 x1) = x0 from (if_neg hc2_1)).symm), N0, e0⟩ (by decide) (by decide)
theorem d7_0 : decode prog_17_method_1_code 0 = .ok (.aload_n 0, 1) := by decide +kernel
theorem d7_1 : decode prog_17_method_1_code 1 = .ok (.invokespecial 1, 3) := by decide +kernel
theorem d7_4 : decode prog_17_method_1_code 4 = .ok (.aload_n 0, 1) := by decide +kernel
theorem d7_5 : decode prog_17_method_1_code 5 = .ok (.aload_n 1, 1) := by decide +kernel
theorem d7_6 : decode prog_17_method_1_code 6 = .ok (.putfield 7, 3) := by decide +kernel
theorem d7_9 : decode prog_17_method_1_code 9 = .ok (.aload_n 0, 1) := by decide +kernel
theorem d7_10 : decode prog_17_method_1_code 10 = .ok (.iload_n 2, 1) := by decide +kernel
theorem d7_11 : decode prog_17_method_1_code 11 = .ok (.putfield 13, 3) := by decide +kernel
theorem d7_14 : decode prog_17_method_1_code 14 = .ok (.return_, 1) := by decide +kernel
theorem pn7 : plainName "com/example/ratable/ratable/engine/Term" = true := by first | (simp [plainName, overriddenIn]; done) | decide +kernel
theorem pd7_0 : parseMethodDescriptor "()V" = some ⟨[], none⟩ := by decide +kernel
theorem ef7 (m : MethodId) (x0 : Addr) (x1 : Addr) (x2 : Int32) : entryFrame m #[(.ref x0), (.ref x1), (.int x2)] 3 = (mkF m 0 #[.val (.ref x0), .val (.ref x1), .val (.int x2)] []) := by first | (simp [entryFrame, mkF, argsToLocals, Value.category]; done) | rfl
def Q7 (Z : State) (x0 : Addr) (x1 : Addr) (x2 : Int32) (h0 : Heap) (n0 : Nat) (v : Option Value) (h : Heap) (L : List Loc) : Prop := v = none ∧ Fr n0 L ∧ Keep h0 h [x0] ∧ Exa Z h x0 "com/example/ratable/ratable/engine/Term" ∧ Fld Z h x0 "com/example/ratable/ratable/engine/Term" "first" "Lcom/example/ratable/ratable/model/Period;" (.ref x1) ∧ Fld Z h x0 "com/example/ratable/ratable/engine/Term" "periods" "I" (.int x2)
set_option maxRecDepth 65536 in
set_option maxHeartbeats 40000000 in
theorem rm7 (l : Launch) (Z : State) (a0 : Array Value) (hw : ∀ d ∈ tables_1, d.before a0 Z = true) (ws : List Jvm.Cond) (x0 : Addr) (x1 : Addr) (x2 : Int32) (h0 : Heap) (n0 : Nat) (Z0 : n0 ≤ h0.size) (E_x0 : Exa Z h0 x0 "com/example/ratable/ratable/engine/Term") (F_first_x0 : Fld Z h0 x0 "com/example/ratable/ratable/engine/Term" "first" "Lcom/example/ratable/ratable/model/Period;" .null) (F_periods_x0 : Fld Z h0 x0 "com/example/ratable/ratable/engine/Term" "periods" "I" (.int (0 : Int32))) (g_x0 : n0 ≤ x0) :
    MetFree l (⟨"com/example/ratable/ratable/engine/Term", "<init>", "(Lcom/example/ratable/ratable/model/Period;I)V"⟩ : MethodName) (head1 (Jvm.Cond.code (⟨"com/example/ratable/ratable/engine/Term", "<init>", "(Lcom/example/ratable/ratable/model/Period;I)V"⟩ : MethodName) prog_17_method_1_code 3 none :: ws) ({ frames := 2, cells := 0, slots := 0, locals := 24 } : Room)) (fun a U => a = #[(.ref x0), (.ref x1), (.int x2)] ∧ Z.Warmed39 U.vm ∧ U.heap = h0) (fun _ _ _ _ _ => True) (fun _ U o U' => ∃ v L, o = .returned v ∧ (Q7 Z x0 x1 x2 h0 n0) v U'.heap L ∧ FrameEnd U o U' L ({ frames := 2, cells := 0, slots := 0, locals := 24 } : Room).cells ({ frames := 2, cells := 0, slots := 0, locals := 24 } : Room).slots) := by
  refine MetFree.of_bodySF (plainFor_of_name pn7) hisR ?_
  intro p e s m args below meth c s₁ Bd hml0 hP hK
  obtain ⟨rfl, hZ, hh⟩ := hP
  have hx := Bd.exec
  have hby := Bd.bytes
  have hml : c.maxLocals = 3 := hml0
  have hlk : meth.locks = false := BodyLoose.notSynchronized Bd
  have hown : s.vm.findClass "com/example/ratable/ratable/engine/Term" = some m.cls := findClass_of_methodNamed Bd.named
  have hnm := (name_of_methodNamed Bd.named Bd.method).1
  have hci : ∀ i v, (i, v) ∈ ([] : List (Nat × Int32)) → (Jvm.Cond.constant "com/example/ratable/ratable/engine/Term" i v).before #[(.ref x0), (.ref x1), (.int x2)] s = true := own_ci0
  have hcl : ∀ i v, (i, v) ∈ ([] : List (Nat × Int64)) → (Jvm.Cond.constantLong "com/example/ratable/ratable/engine/Term" i v).before #[(.ref x0), (.ref x1), (.int x2)] s = true := own_ci0
  have X0 : Stand p l e ({ frames := 2, cells := 0, slots := 0, locals := 24 } : Room) s m #[(.ref x0), (.ref x1), (.int x2)] below meth c s₁ [] 0 0 := Stand.of_body Bd
  have e0 : s₁.heap = h0 := by rw [← hh, Bd.state]; rfl
  have N0 := Fr.nil n0
  show Goes p e below s (Q7 Z x0 x1 x2 h0 n0) ({ frames := 2, cells := 0, slots := 0, locals := 24 } : Room).cells ({ frames := 2, cells := 0, slots := 0, locals := 24 } : Room).slots (s₁.setTop (entryFrame m #[(.ref x0), (.ref x1), (.int x2)] 3))
  refine Goes.cast (ef7 m x0 x1 x2) ?_
  have K0 : Keep h0 h0 [x0] := Keep.refl h0 _
  refine Goes.run X0 hx hown hci hcl hby (L := [(0, .aload_n 0, 1)]) (by decide +kernel) rfl (g' := (mkF m 1 #[.val (.ref x0), .val (.ref x1), .val (.int x2)] [(.ref x0)])) rfl ?_
  obtain ⟨_, _, ⟨T1, L1, k1, n1⟩, -, X1, ⟨Lc1, hQ1, l1, y1, z1⟩, st1⟩ := X0.specialBack hx (y := (⟨"java/lang/Record", "<init>", "()V"⟩ : MethodName)) rfl hown (mvT hZ (hw _ (List.mem_of_getElem? (i := 25) rfl))) (mvT hZ (hw _ (List.mem_of_getElem? (i := 8) rfl))) (mvT hZ (hw _ (List.mem_of_getElem? (i := 11) rfl))) (by decide) (backOf (W := 0) (rm1 l Z a0 hw [] x0 h0 n0 Z0 ) hZ (hw _ (List.mem_of_getElem? (i := 11) rfl)) (hw _ (List.mem_of_getElem? (i := 10) rfl)) (by decide) (by decide)) (g := (mkF m 1 #[.val (.ref x0), .val (.ref x1), .val (.int x2)] [(.ref x0)])) rfl (by rw [hml]; rfl) (Steps.refl _) (a := x0) (argsL := []) (rest := []) (lenOf pd7_0 rfl) rfl (by show 2 * 0 + _ ≤ _; exact Nat.le_of_eq rfl) (hb hby d7_1) (fun _ _ => ⟨rfl, e0, (by decide : 0 + 0 ≤ _), (by decide : 0 + 0 ≤ _)⟩)
  dsimp only [Pt.U, Pt.locs, Pt.cells, Pt.slots] at X1 l1 y1 z1 st1 hQ1
  subst l1 y1 z1
  obtain ⟨rfl, N1q, e1⟩ := hQ1
  have N1 := Fr.app N0 N1q
  refine Goes.st (B := T1.setTop (mkF m 4 #[.val (.ref x0), .val (.ref x1), .val (.int x2)] [])) (fun t k => st1.trans k) ?_
  refine Goes.run X1 hx hown hci hcl hby (L := [(4, .aload_n 0, 1), (5, .aload_n 1, 1)]) (by decide +kernel) rfl (g' := (mkF m 6 #[.val (.ref x0), .val (.ref x1), .val (.int x2)] [(.ref x1), (.ref x0)])) rfl ?_
  obtain ⟨T2, h2, X2, e2, W2, st2⟩ := putF X1 hx hZ hown (host := "") (Or.inl (hw _ (List.mem_of_getElem? (i := 26) rfl))) Via.refl e1 F_first_x0 E_x0 (Or.inr ⟨(hw _ (List.mem_of_getElem? (i := 27) rfl)), rfl, hnm⟩) (hw _ (List.mem_of_getElem? (i := 20) rfl)) (ty := (.object "com/example/ratable/ratable/model/Period")) (by decide) rfl rfl (g := (mkF m 6 #[.val (.ref x0), .val (.ref x1), .val (.int x2)] [(.ref x1), (.ref x0)])) rfl rfl (hb hby d7_6)
  have E_x0 := E_x0.wr W2
  have F_first_x0 : Fld Z h2 x0 "com/example/ratable/ratable/engine/Term" "first" "Lcom/example/ratable/ratable/model/Period;" (.ref x1) := F_first_x0.same W2
  have F_periods_x0 := F_periods_x0.other W2 (Or.inr (slot_ne (Or.inr (hw _ (List.mem_of_getElem? (i := 29) rfl))) (Or.inr (hw _ (List.mem_of_getElem? (i := 27) rfl))) (by decide) (t := .int) (t' := (.object "com/example/ratable/ratable/model/Period")) (by decide) (by decide)))
  have Zn2 : n0 ≤ h2.size := Nat.le_trans Z0 (Keep.of_wr W2).1
  have K2 := K0.wr W2 (Or.inl (List.mem_of_getElem? (i := 0) rfl))
  have N2 := Fr.snoc X2 N1 g_x0
  refine Goes.st (B := T2.setTop (mkF m 9 #[.val (.ref x0), .val (.ref x1), .val (.int x2)] [])) st2 ?_
  refine Goes.run X2 hx hown hci hcl hby (L := [(9, .aload_n 0, 1), (10, .iload_n 2, 1)]) (by decide +kernel) rfl (g' := (mkF m 11 #[.val (.ref x0), .val (.ref x1), .val (.int x2)] [(.int x2), (.ref x0)])) rfl ?_
  obtain ⟨T3, h3, X3, e3, W3, st3⟩ := putF X2 hx hZ hown (host := "") (Or.inl (hw _ (List.mem_of_getElem? (i := 28) rfl))) Via.refl e2 F_periods_x0 E_x0 (Or.inr ⟨(hw _ (List.mem_of_getElem? (i := 29) rfl)), rfl, hnm⟩) (hw _ (List.mem_of_getElem? (i := 20) rfl)) (ty := .int) (by decide) rfl rfl (g := (mkF m 11 #[.val (.ref x0), .val (.ref x1), .val (.int x2)] [(.int x2), (.ref x0)])) rfl rfl (hb hby d7_11)
  have E_x0 := E_x0.wr W3
  have F_first_x0 := F_first_x0.other W3 (Or.inr (slot_ne (Or.inr (hw _ (List.mem_of_getElem? (i := 27) rfl))) (Or.inr (hw _ (List.mem_of_getElem? (i := 29) rfl))) (by decide) (t := (.object "com/example/ratable/ratable/model/Period")) (t' := .int) (by decide) (by decide)))
  have F_periods_x0 : Fld Z h3 x0 "com/example/ratable/ratable/engine/Term" "periods" "I" (.int x2) := F_periods_x0.same W3
  have Zn3 : n0 ≤ h3.size := Nat.le_trans Zn2 (Keep.of_wr W3).1
  have K3 := K2.wr W3 (Or.inl (List.mem_of_getElem? (i := 0) rfl))
  have N3 := Fr.snoc X3 N2 g_x0
  refine Goes.st (B := T3.setTop (mkF m 14 #[.val (.ref x0), .val (.ref x1), .val (.int x2)] [])) st3 ?_
  refine Goes.retV X3 hx hlk Bd.returns (hb hby d7_14) ?_ (by decide) (by decide)
  show (Q7 Z x0 x1 x2 h0 n0) _ _ _
  rw [e3]
  exact ⟨rfl, N3, K3, E_x0, F_first_x0, F_periods_x0⟩
theorem d8_0 : decode prog_17_method_4_code 0 = .ok (.iconst 0, 1) := by decide +kernel
theorem d8_1 : decode prog_17_method_4_code 1 = .ok (.aload_n 0, 1) := by decide +kernel
theorem d8_2 : decode prog_17_method_4_code 2 = .ok (.getfield 13, 3) := by decide +kernel
theorem d8_5 : decode prog_17_method_4_code 5 = .ok (.aload_n 0, 1) := by decide +kernel
theorem d8_6 : decode prog_17_method_4_code 6 = .ok (.getfield 7, 3) := by decide +kernel
theorem d8_9 : decode prog_17_method_4_code 9 = .ok (.aload_n 1, 1) := by decide +kernel
theorem d8_10 : decode prog_17_method_4_code 10 = .ok (.invokevirtual 53, 3) := by decide +kernel
theorem d8_13 : decode prog_17_method_4_code 13 = .ok (.invokestatic 64, 3) := by decide +kernel
theorem d8_16 : decode prog_17_method_4_code 16 = .ok (.invokestatic 70, 3) := by decide +kernel
theorem d8_19 : decode prog_17_method_4_code 19 = .ok (.ireturn, 1) := by decide +kernel
theorem pn8 : plainName "com/example/ratable/ratable/engine/Term" = true := by first | (simp [plainName, overriddenIn]; done) | decide +kernel
theorem pd8_0 : parseMethodDescriptor "(Lcom/example/ratable/ratable/model/Period;)I" = some ⟨[(.object "com/example/ratable/ratable/model/Period")], some .int⟩ := by decide +kernel
theorem pd8_1 : parseMethodDescriptor "(II)I" = some ⟨[.int, .int], some .int⟩ := by decide +kernel
theorem ef8 (m : MethodId) (x0 : Addr) (x1 : Addr) : entryFrame m #[(.ref x0), (.ref x1)] 2 = (mkF m 0 #[.val (.ref x0), .val (.ref x1)] []) := by first | (simp [entryFrame, mkF, argsToLocals, Value.category]; done) | rfl
def c8_13_0 (k : Int32) (y : Int32) (n : Int32) (y1 : Int32) (n1 : Int32) : Int32 := (r4 y n y1 n1)
def c8_16_0 (k : Int32) (y : Int32) (n : Int32) (y1 : Int32) (n1 : Int32) : Int32 := (r5 k (c8_13_0 k y n y1 n1))
def r8 (k : Int32) (y : Int32) (n : Int32) (y1 : Int32) (n1 : Int32) : Int32 := (r6 (0 : Int32) (c8_16_0 k y n y1 n1))
set_option maxRecDepth 65536 in
set_option maxHeartbeats 40000000 in
theorem rm8 (l : Launch) (Z : State) (a0 : Array Value) (hw : ∀ d ∈ tables_1, d.before a0 Z = true) (ws : List Jvm.Cond) (x0 : Addr) (x1 : Addr) (f : Addr) (k : Int32) (y : Int32) (n : Int32) (y1 : Int32) (n1 : Int32) (h0 : Heap) (n0 : Nat) (Z0 : n0 ≤ h0.size) (E_x0 : Exa Z h0 x0 "com/example/ratable/ratable/engine/Term") (F_first_x0 : Fld Z h0 x0 "com/example/ratable/ratable/engine/Term" "first" "Lcom/example/ratable/ratable/model/Period;" (.ref f)) (F_periods_x0 : Fld Z h0 x0 "com/example/ratable/ratable/engine/Term" "periods" "I" (.int k)) (E_f : Exa Z h0 f "com/example/ratable/ratable/model/Period") (F_year_f : Fld Z h0 f "com/example/ratable/ratable/model/Period" "year" "I" (.int y)) (F_month_f : Fld Z h0 f "com/example/ratable/ratable/model/Period" "month" "I" (.int n)) (E_x1 : Exa Z h0 x1 "com/example/ratable/ratable/model/Period") (F_year_x1 : Fld Z h0 x1 "com/example/ratable/ratable/model/Period" "year" "I" (.int y1)) (F_month_x1 : Fld Z h0 x1 "com/example/ratable/ratable/model/Period" "month" "I" (.int n1)) :
    MetFree l (⟨"com/example/ratable/ratable/engine/Term", "position", "(Lcom/example/ratable/ratable/model/Period;)I"⟩ : MethodName) (head1 (Jvm.Cond.code (⟨"com/example/ratable/ratable/engine/Term", "position", "(Lcom/example/ratable/ratable/model/Period;)I"⟩ : MethodName) prog_17_method_4_code 2 (some .int) :: ws) ({ frames := 2, cells := 0, slots := 0, locals := 28 } : Room)) (fun a U => a = #[(.ref x0), (.ref x1)] ∧ Z.Warmed39 U.vm ∧ U.heap = h0) (fun _ _ _ _ _ => True) (fun _ U o U' => ∃ v L, o = .returned v ∧ (QP (some (.int (r8 k y n y1 n1))) h0 n0) v U'.heap L ∧ FrameEnd U o U' L ({ frames := 2, cells := 0, slots := 0, locals := 28 } : Room).cells ({ frames := 2, cells := 0, slots := 0, locals := 28 } : Room).slots) := by
  refine MetFree.of_bodySF (plainFor_of_name pn8) hisR ?_
  intro p e s m args below meth c s₁ Bd hml0 hP hK
  obtain ⟨rfl, hZ, hh⟩ := hP
  have hx := Bd.exec
  have hby := Bd.bytes
  have hml : c.maxLocals = 2 := hml0
  have hlk : meth.locks = false := BodyLoose.notSynchronized Bd
  have hown : s.vm.findClass "com/example/ratable/ratable/engine/Term" = some m.cls := findClass_of_methodNamed Bd.named
  have hnm := (name_of_methodNamed Bd.named Bd.method).1
  have hci : ∀ i v, (i, v) ∈ ([] : List (Nat × Int32)) → (Jvm.Cond.constant "com/example/ratable/ratable/engine/Term" i v).before #[(.ref x0), (.ref x1)] s = true := own_ci0
  have hcl : ∀ i v, (i, v) ∈ ([] : List (Nat × Int64)) → (Jvm.Cond.constantLong "com/example/ratable/ratable/engine/Term" i v).before #[(.ref x0), (.ref x1)] s = true := own_ci0
  have X0 : Stand p l e ({ frames := 2, cells := 0, slots := 0, locals := 28 } : Room) s m #[(.ref x0), (.ref x1)] below meth c s₁ [] 0 0 := Stand.of_body Bd
  have e0 : s₁.heap = h0 := by rw [← hh, Bd.state]; rfl
  have N0 := Fr.nil n0
  show Goes p e below s (QP (some (.int (r8 k y n y1 n1))) h0 n0) ({ frames := 2, cells := 0, slots := 0, locals := 28 } : Room).cells ({ frames := 2, cells := 0, slots := 0, locals := 28 } : Room).slots (s₁.setTop (entryFrame m #[(.ref x0), (.ref x1)] 2))
  refine Goes.cast (ef8 m x0 x1) ?_
  refine Goes.run X0 hx hown hci hcl hby (L := [(0, .iconst 0, 1), (1, .aload_n 0, 1)]) (by decide +kernel) rfl (g' := (mkF m 2 #[.val (.ref x0), .val (.ref x1)] [(.ref x0), (.int (0 : Int32))])) rfl ?_
  obtain ⟨T1, X1, e1, st1⟩ := getF X0 hx hZ hown (host := "") (Or.inl (hw _ (List.mem_of_getElem? (i := 28) rfl))) Via.refl e0 F_periods_x0 (g := (mkF m 2 #[.val (.ref x0), .val (.ref x1)] [(.ref x0), (.int (0 : Int32))])) rfl rfl (hb hby d8_2)
  refine Goes.st (B := T1.setTop (mkF m 5 #[.val (.ref x0), .val (.ref x1)] [(.int k), (.int (0 : Int32))])) st1 ?_
  refine Goes.run X1 hx hown hci hcl hby (L := [(5, .aload_n 0, 1)]) (by decide +kernel) rfl (g' := (mkF m 6 #[.val (.ref x0), .val (.ref x1)] [(.ref x0), (.int k), (.int (0 : Int32))])) rfl ?_
  obtain ⟨T2, X2, e2, st2⟩ := getF X1 hx hZ hown (host := "") (Or.inl (hw _ (List.mem_of_getElem? (i := 26) rfl))) Via.refl e1 F_first_x0 (g := (mkF m 6 #[.val (.ref x0), .val (.ref x1)] [(.ref x0), (.int k), (.int (0 : Int32))])) rfl rfl (hb hby d8_6)
  refine Goes.st (B := T2.setTop (mkF m 9 #[.val (.ref x0), .val (.ref x1)] [(.ref f), (.int k), (.int (0 : Int32))])) st2 ?_
  refine Goes.run X2 hx hown hci hcl hby (L := [(9, .aload_n 1, 1)]) (by decide +kernel) rfl (g' := (mkF m 10 #[.val (.ref x0), .val (.ref x1)] [(.ref x1), (.ref f), (.int k), (.int (0 : Int32))])) rfl ?_
  obtain ⟨cq3, kq3, q3a, q3b, q3c⟩ := isOf hZ e2 E_f
  obtain ⟨_, _, ⟨T3, L3, k3, n3⟩, -, X3, ⟨Lc3, hQ3, l3, y3, z3⟩, st3⟩ := X2.virtualBack hx (y := (⟨"com/example/ratable/ratable/model/Period", "monthsUntil", "(Lcom/example/ratable/ratable/model/Period;)I"⟩ : MethodName)) (z := (⟨"com/example/ratable/ratable/model/Period", "monthsUntil", "(Lcom/example/ratable/ratable/model/Period;)I"⟩ : MethodName)) hown (mvT hZ (hw _ (List.mem_of_getElem? (i := 35) rfl))) (mvT hZ (hw _ (List.mem_of_getElem? (i := 36) rfl))) (notFace_of_selects (args := #[]) (mvT hZ (hw _ (List.mem_of_getElem? (i := 38) rfl)))) (mvT hZ (hw _ (List.mem_of_getElem? (i := 38) rfl))) (mvT hZ (hw _ (List.mem_of_getElem? (i := 37) rfl))) (by decide) (backOf (W := 2) (rm4 l Z a0 hw [] f x1 y n y1 n1 h0 n0 Z0 E_f F_year_f F_month_f E_x1 F_year_x1 F_month_x1) hZ (hw _ (List.mem_of_getElem? (i := 39) rfl)) (hw _ (List.mem_of_getElem? (i := 3) rfl)) (by decide) (by decide)) q3a q3c (g := (mkF m 10 #[.val (.ref x0), .val (.ref x1)] [(.ref x1), (.ref f), (.int k), (.int (0 : Int32))])) rfl (by rw [hml]; rfl) (Steps.refl _) (argsL := [(.ref x1)]) (rest := [(.int k), (.int (0 : Int32))]) (lenOf pd8_0 rfl) rfl (by show 2 * 0 + _ ≤ _; exact Nat.le_of_eq rfl) (hb hby d8_10) (fun _ _ => ⟨rfl, e2, (by decide : 0 + 0 ≤ _), (by decide : 0 + 0 ≤ _)⟩)
  dsimp only [Pt.U, Pt.locs, Pt.cells, Pt.slots] at X3 l3 y3 z3 st3 hQ3
  subst l3 y3 z3
  obtain ⟨rfl, N3q, e3⟩ := hQ3
  have N3 := Fr.app N0 N3q
  refine Goes.st (B := T3.setTop (mkF m 13 #[.val (.ref x0), .val (.ref x1)] [(.int (r4 y n y1 n1)), (.int k), (.int (0 : Int32))])) (fun t k => st3.trans k) ?_
  obtain ⟨_, _, ⟨T4, L4, k4, n4⟩, -, X4, ⟨Lc4, hQ4, l4, y4, z4⟩, st4⟩ := Jvm.LawKit.callS X3 hx (y := (⟨"java/lang/Math", "min", "(II)I"⟩ : MethodName)) hown (mvT hZ (hw _ (List.mem_of_getElem? (i := 44) rfl))) (mvT hZ (hw _ (List.mem_of_getElem? (i := 45) rfl))) (mvT hZ (hw _ (List.mem_of_getElem? (i := 46) rfl))) (mvT hZ (hw _ (List.mem_of_getElem? (i := 47) rfl))) (by decide) (backOf (W := 1) (rm5 l Z a0 hw [] k (c8_13_0 k y n y1 n1) h0 n0 Z0 ) hZ (hw _ (List.mem_of_getElem? (i := 47) rfl)) (hw _ (List.mem_of_getElem? (i := 46) rfl)) (by decide) (by decide)) (g := (mkF m 13 #[.val (.ref x0), .val (.ref x1)] [(.int (c8_13_0 k y n y1 n1)), (.int k), (.int (0 : Int32))])) rfl (by rw [hml]; rfl) (argsL := [(.int k), (.int (c8_13_0 k y n y1 n1))]) (rest := [(.int (0 : Int32))]) (lenOf pd8_1 rfl) rfl (by show 2 * 0 + _ ≤ _; exact Nat.le_of_eq rfl) (hb hby d8_13) (fun _ _ => ⟨rfl, e3, (by decide : 0 + 0 ≤ _), (by decide : 0 + 0 ≤ _)⟩)
  dsimp only [Pt.U, Pt.locs, Pt.cells, Pt.slots] at X4 l4 y4 z4 st4 hQ4
  subst l4 y4 z4
  obtain ⟨rfl, N4q, e4⟩ := hQ4
  have N4 := Fr.app N3 N4q
  refine Goes.st (B := T4.setTop (mkF m 16 #[.val (.ref x0), .val (.ref x1)] [(.int (r5 k (c8_13_0 k y n y1 n1))), (.int (0 : Int32))])) st4 ?_
  obtain ⟨_, _, ⟨T5, L5, k5, n5⟩, -, X5, ⟨Lc5, hQ5, l5, y5, z5⟩, st5⟩ := Jvm.LawKit.callS X4 hx (y := (⟨"java/lang/Math", "max", "(II)I"⟩ : MethodName)) hown (mvT hZ (hw _ (List.mem_of_getElem? (i := 48) rfl))) (mvT hZ (hw _ (List.mem_of_getElem? (i := 49) rfl))) (mvT hZ (hw _ (List.mem_of_getElem? (i := 46) rfl))) (mvT hZ (hw _ (List.mem_of_getElem? (i := 50) rfl))) (by decide) (backOf (W := 0) (rm6 l Z a0 hw [] (0 : Int32) (c8_16_0 k y n y1 n1) h0 n0 Z0 ) hZ (hw _ (List.mem_of_getElem? (i := 50) rfl)) (hw _ (List.mem_of_getElem? (i := 46) rfl)) (by decide) (by decide)) (g := (mkF m 16 #[.val (.ref x0), .val (.ref x1)] [(.int (c8_16_0 k y n y1 n1)), (.int (0 : Int32))])) rfl (by rw [hml]; rfl) (argsL := [(.int (0 : Int32)), (.int (c8_16_0 k y n y1 n1))]) (rest := []) (lenOf pd8_1 rfl) rfl (by show 2 * 0 + _ ≤ _; exact Nat.le_of_eq rfl) (hb hby d8_16) (fun _ _ => ⟨rfl, e4, (by decide : 0 + 0 ≤ _), (by decide : 0 + 0 ≤ _)⟩)
  dsimp only [Pt.U, Pt.locs, Pt.cells, Pt.slots] at X5 l5 y5 z5 st5 hQ5
  subst l5 y5 z5
  obtain ⟨rfl, N5q, e5⟩ := hQ5
  have N5 := Fr.app N4 N5q
  refine Goes.st (B := T5.setTop (mkF m 19 #[.val (.ref x0), .val (.ref x1)] [(.int (r6 (0 : Int32) (c8_16_0 k y n y1 n1)))])) st5 ?_
  exact Goes.retI X5 hx hlk Bd.returns (hb hby d8_19) ⟨(congrArg (fun z => some (Value.int z)) (show (r8 k y n y1 n1) = (r6 (0 : Int32) (c8_16_0 k y n y1 n1)) from rfl).symm), N5, e5⟩ (by decide) (by decide)
theorem pn0 : plainName "com/example/ratable/ratable/engine/TermPositionPinLaw" = true := by first | (simp [plainName, overriddenIn]; done) | decide +kernel
theorem pd0_0 : parseMethodDescriptor "(II)V" = some ⟨[.int, .int], none⟩ := by decide +kernel
theorem pd0_1 : parseMethodDescriptor "(Lcom/example/ratable/ratable/model/Period;I)V" = some ⟨[(.object "com/example/ratable/ratable/model/Period"), .int], none⟩ := by decide +kernel
theorem pd0_2 : parseMethodDescriptor "(Lcom/example/ratable/ratable/model/Period;)I" = some ⟨[(.object "com/example/ratable/ratable/model/Period")], some .int⟩ := by decide +kernel
theorem ef0 (m : MethodId) (x0 : Int32) (x1 : Int32) (x2 : Int32) (x3 : Int32) (x4 : Int32) : entryFrame m #[(.int x0), (.int x1), (.int x2), (.int x3), (.int x4)] maxLocals = (mkF m 0 #[.val (.int x0), .val (.int x1), .val (.int x2), .val (.int x3), .val (.int x4), .unset, .unset, .unset, .unset, .unset, .unset, .unset, .unset, .unset, .unset, .unset] []) := by first | (simp [entryFrame, mkF, argsToLocals, Value.category, maxLocals]; done) | rfl
def w0_7l (x0 : Int32) (x1 : Int32) (x2 : Int32) (x3 : Int32) (x4 : Int32) : Int32 := (x0 &&& (2147483647 : Int32))
def w0_8 (x0 : Int32) (x1 : Int32) (x2 : Int32) (x3 : Int32) (x4 : Int32) : Int32 := ((w0_7l x0 x1 x2 x3 x4) - ((w0_7l x0 x1 x2 x3 x4) / (10000 : Int32)) * (10000 : Int32))
def w0_16l (x0 : Int32) (x1 : Int32) (x2 : Int32) (x3 : Int32) (x4 : Int32) : Int32 := (x1 &&& (2147483647 : Int32))
def w0_19 (x0 : Int32) (x1 : Int32) (x2 : Int32) (x3 : Int32) (x4 : Int32) : Int32 := (((w0_16l x0 x1 x2 x3 x4) - ((w0_16l x0 x1 x2 x3 x4) / (12 : Int32)) * (12 : Int32)) + (1 : Int32))
def w0_28l (x0 : Int32) (x1 : Int32) (x2 : Int32) (x3 : Int32) (x4 : Int32) : Int32 := (x2 &&& (2147483647 : Int32))
def w0_29 (x0 : Int32) (x1 : Int32) (x2 : Int32) (x3 : Int32) (x4 : Int32) : Int32 := ((w0_28l x0 x1 x2 x3 x4) - ((w0_28l x0 x1 x2 x3 x4) / (10000 : Int32)) * (10000 : Int32))
def w0_37l (x0 : Int32) (x1 : Int32) (x2 : Int32) (x3 : Int32) (x4 : Int32) : Int32 := (x3 &&& (2147483647 : Int32))
def w0_40 (x0 : Int32) (x1 : Int32) (x2 : Int32) (x3 : Int32) (x4 : Int32) : Int32 := (((w0_37l x0 x1 x2 x3 x4) - ((w0_37l x0 x1 x2 x3 x4) / (12 : Int32)) * (12 : Int32)) + (1 : Int32))
def w0_47 (x0 : Int32) (x1 : Int32) (x2 : Int32) (x3 : Int32) (x4 : Int32) : Int32 := (x4 &&& (2147483647 : Int32))
def w0_95 (x0 : Int32) (x1 : Int32) (x2 : Int32) (x3 : Int32) (x4 : Int32) : Int32 := (r8 (w0_47 x0 x1 x2 x3 x4) (w0_8 x0 x1 x2 x3 x4) (w0_19 x0 x1 x2 x3 x4) (w0_29 x0 x1 x2 x3 x4) (w0_40 x0 x1 x2 x3 x4))
def w0_111 (x0 : Int32) (x1 : Int32) (x2 : Int32) (x3 : Int32) (x4 : Int32) : Int32 := ((((w0_29 x0 x1 x2 x3 x4) - (w0_8 x0 x1 x2 x3 x4)) * (12 : Int32)) + ((w0_40 x0 x1 x2 x3 x4) - (w0_19 x0 x1 x2 x3 x4)))
def j0_142_15 (x0 : Int32) (x1 : Int32) (x2 : Int32) (x3 : Int32) (x4 : Int32) : Int32 := (if (w0_111 x0 x1 x2 x3 x4) < (0 : Int32) then (0 : Int32) else (if (w0_47 x0 x1 x2 x3 x4) < (w0_111 x0 x1 x2 x3 x4) then (w0_47 x0 x1 x2 x3 x4) else (w0_111 x0 x1 x2 x3 x4)))
def r0 (x0 : Int32) (x1 : Int32) (x2 : Int32) (x3 : Int32) (x4 : Int32) : Int32 := (if (w0_95 x0 x1 x2 x3 x4) = (j0_142_15 x0 x1 x2 x3 x4) then (1 : Int32) else (0 : Int32))
theorem own_y (x : Int32) : ∃ A, ((x &&& (2147483647 : Int32)) - ((x &&& (2147483647 : Int32)) / (10000 : Int32)) * (10000 : Int32)).toInt = A ∧ 0 ≤ A ∧ A ≤ 9999 := by
  obtain ⟨A, m0, a0, -, -⟩ := own_m32 x (2147483647 : Int32) (k := 31) (by decide) (by decide)
  exact ⟨_, own_r32 m0 (show (10000 : Int32).toInt = 10000 by decide) a0, by omega, by omega⟩
theorem own_m (x : Int32) : ∃ A, (((x &&& (2147483647 : Int32)) - ((x &&& (2147483647 : Int32)) / (12 : Int32)) * (12 : Int32)) + (1 : Int32)).toInt = A ∧ 1 ≤ A ∧ A ≤ 12 := by
  obtain ⟨A, m0, a0, -, -⟩ := own_m32 x (2147483647 : Int32) (k := 31) (by decide) (by decide)
  exact ⟨_, own_add32 (own_r32 m0 (show (12 : Int32).toInt = 12 by decide) a0) (show (1 : Int32).toInt = 1 by decide) (by omega) (by omega), by omega, by omega⟩
theorem own_ya (x0 x1 x2 x3 x4 : Int32) : ∃ A, (w0_8 x0 x1 x2 x3 x4).toInt = A ∧ 0 ≤ A ∧ A ≤ 9999 := own_y x0
theorem own_ma (x0 x1 x2 x3 x4 : Int32) : ∃ A, (w0_19 x0 x1 x2 x3 x4).toInt = A ∧ 1 ≤ A ∧ A ≤ 12 := own_m x1
theorem own_yb (x0 x1 x2 x3 x4 : Int32) : ∃ A, (w0_29 x0 x1 x2 x3 x4).toInt = A ∧ 0 ≤ A ∧ A ≤ 9999 := own_y x2
theorem own_mb (x0 x1 x2 x3 x4 : Int32) : ∃ A, (w0_40 x0 x1 x2 x3 x4).toInt = A ∧ 1 ≤ A ∧ A ≤ 12 := own_m x3
theorem own_p1a (x0 x1 x2 x3 x4 : Int32) : ¬ (w0_8 x0 x1 x2 x3 x4) < (0 : Int32) := by
  obtain ⟨A, h, a, b⟩ := own_ya x0 x1 x2 x3 x4; rw [own_lt32 h (show (0 : Int32).toInt = 0 by decide)]; omega
theorem own_p2a (x0 x1 x2 x3 x4 : Int32) : ¬ (9999 : Int32) < (w0_8 x0 x1 x2 x3 x4) := by
  obtain ⟨A, h, a, b⟩ := own_ya x0 x1 x2 x3 x4; rw [own_lt32 (show (9999 : Int32).toInt = 9999 by decide) h]; omega
theorem own_p3a (x0 x1 x2 x3 x4 : Int32) : ¬ (w0_19 x0 x1 x2 x3 x4) < (1 : Int32) := by
  obtain ⟨A, h, a, b⟩ := own_ma x0 x1 x2 x3 x4; rw [own_lt32 h (show (1 : Int32).toInt = 1 by decide)]; omega
theorem own_p4a (x0 x1 x2 x3 x4 : Int32) : ¬ (12 : Int32) < (w0_19 x0 x1 x2 x3 x4) := by
  obtain ⟨A, h, a, b⟩ := own_ma x0 x1 x2 x3 x4; rw [own_lt32 (show (12 : Int32).toInt = 12 by decide) h]; omega
theorem own_p1b (x0 x1 x2 x3 x4 : Int32) : ¬ (w0_29 x0 x1 x2 x3 x4) < (0 : Int32) := by
  obtain ⟨A, h, a, b⟩ := own_yb x0 x1 x2 x3 x4; rw [own_lt32 h (show (0 : Int32).toInt = 0 by decide)]; omega
theorem own_p2b (x0 x1 x2 x3 x4 : Int32) : ¬ (9999 : Int32) < (w0_29 x0 x1 x2 x3 x4) := by
  obtain ⟨A, h, a, b⟩ := own_yb x0 x1 x2 x3 x4; rw [own_lt32 (show (9999 : Int32).toInt = 9999 by decide) h]; omega
theorem own_p3b (x0 x1 x2 x3 x4 : Int32) : ¬ (w0_40 x0 x1 x2 x3 x4) < (1 : Int32) := by
  obtain ⟨A, h, a, b⟩ := own_mb x0 x1 x2 x3 x4; rw [own_lt32 h (show (1 : Int32).toInt = 1 by decide)]; omega
theorem own_p4b (x0 x1 x2 x3 x4 : Int32) : ¬ (12 : Int32) < (w0_40 x0 x1 x2 x3 x4) := by
  obtain ⟨A, h, a, b⟩ := own_mb x0 x1 x2 x3 x4; rw [own_lt32 (show (12 : Int32).toInt = 12 by decide) h]; omega
theorem own_ix {y n : Int32} {Y N : Int} (hy : y.toInt = Y) (hn : n.toInt = N) (a : 0 ≤ Y) (b : Y ≤ 9999) (c : 1 ≤ N) (d : N ≤ 12) : (r3 y n).toInt = Y * 12 + N - 1 :=
  own_sub32 (own_add32 (own_mul32 hy (show (12 : Int32).toInt = 12 by decide) (by omega) (by omega)) hn (by omega) (by omega)) (show (1 : Int32).toInt = 1 by decide) (by omega) (by omega)
theorem law_true (x0 x1 x2 x3 x4 : Int32) : r0 x0 x1 x2 x3 x4 = 1 := by
  obtain ⟨Y, hY, y0, y1⟩ := own_ya x0 x1 x2 x3 x4
  obtain ⟨M, hM, m0, m1⟩ := own_ma x0 x1 x2 x3 x4
  obtain ⟨U, hU, u0, u1⟩ := own_yb x0 x1 x2 x3 x4
  obtain ⟨N, hN, n0, n1⟩ := own_mb x0 x1 x2 x3 x4
  obtain ⟨K, m4, k0, k1, -⟩ := own_m32 x4 (2147483647 : Int32) (k := 31) (by decide) (by decide)
  have hK : (w0_47 x0 x1 x2 x3 x4).toInt = K := m4
  refine if_pos ?_
  unfold w0_95 j0_142_15 w0_111
  generalize w0_8 x0 x1 x2 x3 x4 = ya at *
  generalize w0_19 x0 x1 x2 x3 x4 = ma at *
  generalize w0_29 x0 x1 x2 x3 x4 = yb at *
  generalize w0_40 x0 x1 x2 x3 x4 = mb at *
  generalize w0_47 x0 x1 x2 x3 x4 = kk at *
  have i1 := own_ix hY hM y0 y1 m0 m1
  have i2 := own_ix hU hN u0 u1 n0 n1
  have d1 := own_sub32 i2 i1 (by omega) (by omega)
  have d2 := own_add32 (own_mul32 (own_sub32 hU hY (by omega) (by omega)) (show (12 : Int32).toInt = 12 by decide) (by omega) (by omega)) (own_sub32 hN hM (by omega) (by omega)) (by omega) (by omega)
  have q : r4 ya ma yb mb = ((yb - ya) * (12 : Int32)) + (mb - ma) := (own_eq32 d1 d2).mpr (by omega)
  unfold r8 r6 c8_16_0 r5 c8_13_0
  rw [q]
  generalize ((yb - ya) * (12 : Int32)) + (mb - ma) = dd at *
  have z0 := show (0 : Int32).toInt = 0 by decide
  obtain ⟨D, hD⟩ : ∃ D, dd.toInt = D := ⟨_, rfl⟩
  have l1 := own_lt32 hD hK; have l2 := own_lt32 z0 hD; have l3 := own_lt32 hD z0; have l4 := own_lt32 hK hD; have l5 := own_lt32 z0 hK
  have l6 := own_eq32 z0 hD; have l7 := own_eq32 z0 hK; have l8 := own_eq32 hD hK
  by_cases a1 : dd < kk
  · rw [if_pos a1]
    have b1 := l1.mp a1
    by_cases a2 : (0 : Int32) < dd
    · have b2 := l2.mp a2
      rw [if_pos a2, if_neg (fun w => by have := l3.mp w; omega), if_neg (fun w => by have := l4.mp w; omega)]
    · have b2 : ¬ 0 < D := fun w => a2 (l2.mpr w)
      rw [if_neg a2]
      by_cases a3 : dd < 0
      · rw [if_pos a3]
      · have b3 : ¬ D < 0 := fun w => a3 (l3.mpr w)
        rw [if_neg a3, if_neg (fun w => by have := l4.mp w; omega)]
        exact l6.mpr (by omega)
  · have b1 : ¬ D < K := fun w => a1 (l1.mpr w)
    rw [if_neg a1, if_neg (show ¬ dd < 0 from fun w => by have := l3.mp w; omega)]
    by_cases a2 : (0 : Int32) < kk
    · rw [if_pos a2]
      by_cases a3 : kk < dd
      · rw [if_pos a3]
      · have b3 : ¬ K < D := fun w => a3 (l4.mpr w)
        rw [if_neg a3]; exact (l8.mpr (by omega)).symm
    · have b2 : ¬ 0 < K := fun w => a2 (l5.mpr w)
      rw [if_neg a2]
      by_cases a3 : kk < dd
      · rw [if_pos a3]; exact l7.mpr (by omega)
      · have b3 : ¬ K < D := fun w => a3 (l4.mpr w)
        rw [if_neg a3]; exact l6.mpr (by omega)
set_option maxRecDepth 65536 in
set_option maxHeartbeats 40000000 in
theorem rm0 (l : Launch) (Z : State) (a0 : Array Value) (hw : ∀ d ∈ tables_1, d.before a0 Z = true) (ws : List Jvm.Cond) (x0 : Int32) (x1 : Int32) (x2 : Int32) (x3 : Int32) (x4 : Int32) (h0 : Heap) (n0 : Nat) (Z0 : n0 ≤ h0.size) :
    MetFree l x (head1 (Jvm.Cond.code x code maxLocals ret :: ws) room_1) (fun a U => a = #[(.int x0), (.int x1), (.int x2), (.int x3), (.int x4)] ∧ Z.Warmed39 U.vm ∧ U.heap = h0) (fun _ _ _ _ _ => True) (fun _ U o U' => ∃ v L, o = .returned v ∧ (QL (some (.int (r0 x0 x1 x2 x3 x4))) n0) v U'.heap L ∧ FrameEnd U o U' L room_1.cells room_1.slots) := by
  refine MetFree.of_bodySF (plainFor_of_name pn0) hisR ?_
  intro p e s m args below meth c s₁ Bd hml0 hP hK
  obtain ⟨rfl, hZ, hh⟩ := hP
  have hx := Bd.exec
  have hby := Bd.bytes
  have hml : c.maxLocals = 16 := hml0
  have hlk : meth.locks = false := BodyLoose.notSynchronized Bd
  have hown : s.vm.findClass "com/example/ratable/ratable/engine/TermPositionPinLaw" = some m.cls := findClass_of_methodNamed Bd.named
  have hnm := (name_of_methodNamed Bd.named Bd.method).1
  have hci : ∀ i v, (i, v) ∈ ([(7, 2147483647)] : List (Nat × Int32)) → (Jvm.Cond.constant "com/example/ratable/ratable/engine/TermPositionPinLaw" i v).before #[(.int x0), (.int x1), (.int x2), (.int x3), (.int x4)] s = true := (own_ciS (mvT hZ (hw _ (List.mem_of_getElem? (i := 0) rfl))) own_ci0)
  have hcl : ∀ i v, (i, v) ∈ ([] : List (Nat × Int64)) → (Jvm.Cond.constantLong "com/example/ratable/ratable/engine/TermPositionPinLaw" i v).before #[(.int x0), (.int x1), (.int x2), (.int x3), (.int x4)] s = true := own_ci0
  have X0 : Stand p l e room_1 s m #[(.int x0), (.int x1), (.int x2), (.int x3), (.int x4)] below meth c s₁ [] 0 0 := Stand.of_body Bd
  have e0 : s₁.heap = h0 := by rw [← hh, Bd.state]; rfl
  have N0 := Fr.nil n0
  show Goes p e below s (QL (some (.int (r0 x0 x1 x2 x3 x4))) n0) room_1.cells room_1.slots (s₁.setTop (entryFrame m #[(.int x0), (.int x1), (.int x2), (.int x3), (.int x4)] maxLocals))
  refine Goes.cast (ef0 m x0 x1 x2 x3 x4) ?_
  refine Goes.run X0 hx hown hci hcl hby (L := [(0, .iload_n 0, 1), (1, .ldc 7, 2), (3, .iand, 1), (4, .sipush 10000, 3), (7, .irem, 1), (8, .istore 5, 2)]) (by decide +kernel) rfl (g' := (mkF m 10 #[.val (.int x0), .val (.int x1), .val (.int x2), .val (.int x3), .val (.int x4), .val (.int (w0_8 x0 x1 x2 x3 x4)), .unset, .unset, .unset, .unset, .unset, .unset, .unset, .unset, .unset, .unset] [])) rfl ?_
  refine Goes.run X0 hx hown hci hcl hby (L := [(10, .iload_n 1, 1), (11, .ldc 7, 2), (13, .iand, 1), (14, .bipush 12, 2), (16, .irem, 1), (17, .iconst 1, 1)]) (by decide +kernel) rfl (g' := (mkF m 18 #[.val (.int x0), .val (.int x1), .val (.int x2), .val (.int x3), .val (.int x4), .val (.int (w0_8 x0 x1 x2 x3 x4)), .unset, .unset, .unset, .unset, .unset, .unset, .unset, .unset, .unset, .unset] [(.int (1 : Int32)), (.int ((w0_16l x0 x1 x2 x3 x4) - ((w0_16l x0 x1 x2 x3 x4) / (12 : Int32)) * (12 : Int32)))])) rfl ?_
  refine Goes.run X0 hx hown hci hcl hby (L := [(18, .iadd, 1), (19, .istore 6, 2), (21, .iload_n 2, 1), (22, .ldc 7, 2), (24, .iand, 1), (25, .sipush 10000, 3)]) (by decide +kernel) rfl (g' := (mkF m 28 #[.val (.int x0), .val (.int x1), .val (.int x2), .val (.int x3), .val (.int x4), .val (.int (w0_8 x0 x1 x2 x3 x4)), .val (.int (w0_19 x0 x1 x2 x3 x4)), .unset, .unset, .unset, .unset, .unset, .unset, .unset, .unset, .unset] [(.int (10000 : Int32)), (.int (x2 &&& (2147483647 : Int32)))])) rfl ?_
  refine Goes.run X0 hx hown hci hcl hby (L := [(28, .irem, 1), (29, .istore 7, 2), (31, .iload_n 3, 1), (32, .ldc 7, 2), (34, .iand, 1), (35, .bipush 12, 2)]) (by decide +kernel) rfl (g' := (mkF m 37 #[.val (.int x0), .val (.int x1), .val (.int x2), .val (.int x3), .val (.int x4), .val (.int (w0_8 x0 x1 x2 x3 x4)), .val (.int (w0_19 x0 x1 x2 x3 x4)), .val (.int (w0_29 x0 x1 x2 x3 x4)), .unset, .unset, .unset, .unset, .unset, .unset, .unset, .unset] [(.int (12 : Int32)), (.int (x3 &&& (2147483647 : Int32)))])) rfl ?_
  refine Goes.run X0 hx hown hci hcl hby (L := [(37, .irem, 1), (38, .iconst 1, 1), (39, .iadd, 1), (40, .istore 8, 2), (42, .iload 4, 2), (44, .ldc 7, 2)]) (by decide +kernel) rfl (g' := (mkF m 46 #[.val (.int x0), .val (.int x1), .val (.int x2), .val (.int x3), .val (.int x4), .val (.int (w0_8 x0 x1 x2 x3 x4)), .val (.int (w0_19 x0 x1 x2 x3 x4)), .val (.int (w0_29 x0 x1 x2 x3 x4)), .val (.int (w0_40 x0 x1 x2 x3 x4)), .unset, .unset, .unset, .unset, .unset, .unset, .unset] [(.int (2147483647 : Int32)), (.int x4)])) rfl ?_
  refine Goes.run X0 hx hown hci hcl hby (L := [(46, .iand, 1), (47, .istore 9, 2)]) (by decide +kernel) rfl (g' := (mkF m 49 #[.val (.int x0), .val (.int x1), .val (.int x2), .val (.int x3), .val (.int x4), .val (.int (w0_8 x0 x1 x2 x3 x4)), .val (.int (w0_19 x0 x1 x2 x3 x4)), .val (.int (w0_29 x0 x1 x2 x3 x4)), .val (.int (w0_40 x0 x1 x2 x3 x4)), .val (.int (w0_47 x0 x1 x2 x3 x4)), .unset, .unset, .unset, .unset, .unset, .unset] [])) rfl ?_
  obtain ⟨T1, h1, X1, e1, E1, A1, D1, -, st1⟩ := newO X0 hx hZ hown (hw _ (List.mem_of_getElem? (i := 1) rfl)) (hw _ (List.mem_of_getElem? (i := 2) rfl)) (hw _ (List.mem_of_getElem? (i := 3) rfl)) e0 (g := (mkF m 49 #[.val (.int x0), .val (.int x1), .val (.int x2), .val (.int x3), .val (.int x4), .val (.int (w0_8 x0 x1 x2 x3 x4)), .val (.int (w0_19 x0 x1 x2 x3 x4)), .val (.int (w0_29 x0 x1 x2 x3 x4)), .val (.int (w0_40 x0 x1 x2 x3 x4)), .val (.int (w0_47 x0 x1 x2 x3 x4)), .unset, .unset, .unset, .unset, .unset, .unset] [])) rfl (hb hby at_49) (by decide) (by decide)
  obtain ⟨b1, g1⟩ : ∃ z, z = h0.size := ⟨_, rfl⟩
  rw [← g1] at A1 D1 st1
  have g_b1 : n0 ≤ b1 := Nat.le_trans Z0 (Nat.le_of_eq g1.symm)
  have Zn1 : n0 ≤ h1.size := Nat.le_trans Z0 E1.1
  have E_b1 : Exa Z h1 b1 "com/example/ratable/ratable/model/Period" := A1
  have F_year_b1 : Fld Z h1 b1 "com/example/ratable/ratable/model/Period" "year" "I" (.int (0 : Int32)) := D1 (Or.inr (hw _ (List.mem_of_getElem? (i := 16) rfl))) (ty := .int) (by decide)
  have F_month_b1 : Fld Z h1 b1 "com/example/ratable/ratable/model/Period" "month" "I" (.int (0 : Int32)) := D1 (Or.inr (hw _ (List.mem_of_getElem? (i := 18) rfl))) (ty := .int) (by decide)
  refine Goes.st (B := T1.setTop (mkF m 52 #[.val (.int x0), .val (.int x1), .val (.int x2), .val (.int x3), .val (.int x4), .val (.int (w0_8 x0 x1 x2 x3 x4)), .val (.int (w0_19 x0 x1 x2 x3 x4)), .val (.int (w0_29 x0 x1 x2 x3 x4)), .val (.int (w0_40 x0 x1 x2 x3 x4)), .val (.int (w0_47 x0 x1 x2 x3 x4)), .unset, .unset, .unset, .unset, .unset, .unset] [(.ref b1)])) st1 ?_
  refine Goes.run X1 hx hown hci hcl hby (L := [(52, .dup, 1), (53, .iload 5, 2), (55, .iload 6, 2)]) (by decide +kernel) rfl (g' := (mkF m 57 #[.val (.int x0), .val (.int x1), .val (.int x2), .val (.int x3), .val (.int x4), .val (.int (w0_8 x0 x1 x2 x3 x4)), .val (.int (w0_19 x0 x1 x2 x3 x4)), .val (.int (w0_29 x0 x1 x2 x3 x4)), .val (.int (w0_40 x0 x1 x2 x3 x4)), .val (.int (w0_47 x0 x1 x2 x3 x4)), .unset, .unset, .unset, .unset, .unset, .unset] [(.int (w0_19 x0 x1 x2 x3 x4)), (.int (w0_8 x0 x1 x2 x3 x4)), (.ref b1), (.ref b1)])) rfl ?_
  obtain ⟨_, _, ⟨T2, L2, k2, n2⟩, -, X2, ⟨Lc2, hQ2, l2, y2, z2⟩, st2⟩ := X1.specialBack hx (y := (⟨"com/example/ratable/ratable/model/Period", "<init>", "(II)V"⟩ : MethodName)) rfl hown (mvT hZ (hw _ (List.mem_of_getElem? (i := 4) rfl))) (mvT hZ (hw _ (List.mem_of_getElem? (i := 5) rfl))) (mvT hZ (hw _ (List.mem_of_getElem? (i := 6) rfl))) (by decide) (backOf (W := 1) (rm2 l Z a0 hw [] b1 (w0_8 x0 x1 x2 x3 x4) (w0_19 x0 x1 x2 x3 x4) h1 n0 Zn1 E_b1 F_year_b1 F_month_b1 g_b1 (own_p1a x0 x1 x2 x3 x4) (own_p2a x0 x1 x2 x3 x4) (own_p3a x0 x1 x2 x3 x4) (own_p4a x0 x1 x2 x3 x4)) hZ (hw _ (List.mem_of_getElem? (i := 6) rfl)) (hw _ (List.mem_of_getElem? (i := 3) rfl)) (by decide) (by decide)) (g := (mkF m 57 #[.val (.int x0), .val (.int x1), .val (.int x2), .val (.int x3), .val (.int x4), .val (.int (w0_8 x0 x1 x2 x3 x4)), .val (.int (w0_19 x0 x1 x2 x3 x4)), .val (.int (w0_29 x0 x1 x2 x3 x4)), .val (.int (w0_40 x0 x1 x2 x3 x4)), .val (.int (w0_47 x0 x1 x2 x3 x4)), .unset, .unset, .unset, .unset, .unset, .unset] [(.int (w0_19 x0 x1 x2 x3 x4)), (.int (w0_8 x0 x1 x2 x3 x4)), (.ref b1), (.ref b1)])) rfl (by rw [hml]; rfl) (Steps.refl _) (a := b1) (argsL := [(.int (w0_8 x0 x1 x2 x3 x4)), (.int (w0_19 x0 x1 x2 x3 x4))]) (rest := [(.ref b1)]) (lenOf pd0_0 rfl) rfl (by show 2 * 0 + _ ≤ _; exact Nat.le_of_eq rfl) (hb hby at_57) (fun _ _ => ⟨rfl, e1, (by decide : 1 + 0 ≤ _), (by decide : 2 + 0 ≤ _)⟩)
  dsimp only [Pt.U, Pt.locs, Pt.cells, Pt.slots] at X2 l2 y2 z2 st2 hQ2
  subst l2 y2 z2
  obtain ⟨h2, eh2⟩ : ∃ z, z = T2.heap := ⟨_, rfl⟩
  rw [← eh2] at hQ2
  have e2 : T2.heap = h2 := eh2.symm
  obtain ⟨rfl, N2q, Kq2, o2_0, o2_1, o2_2⟩ := hQ2
  have N2 := Fr.app N0 N2q
  have E_b1 : Exa Z h2 b1 "com/example/ratable/ratable/model/Period" := o2_0
  have F_year_b1 : Fld Z h2 b1 "com/example/ratable/ratable/model/Period" "year" "I" (.int (w0_8 x0 x1 x2 x3 x4)) := o2_1
  have F_month_b1 : Fld Z h2 b1 "com/example/ratable/ratable/model/Period" "month" "I" (.int (w0_19 x0 x1 x2 x3 x4)) := o2_2
  have Zn2 : n0 ≤ h2.size := Nat.le_trans Zn1 Kq2.1
  refine Goes.st (B := T2.setTop (mkF m 60 #[.val (.int x0), .val (.int x1), .val (.int x2), .val (.int x3), .val (.int x4), .val (.int (w0_8 x0 x1 x2 x3 x4)), .val (.int (w0_19 x0 x1 x2 x3 x4)), .val (.int (w0_29 x0 x1 x2 x3 x4)), .val (.int (w0_40 x0 x1 x2 x3 x4)), .val (.int (w0_47 x0 x1 x2 x3 x4)), .unset, .unset, .unset, .unset, .unset, .unset] [(.ref b1)])) (fun t k => st2.trans k) ?_
  refine Goes.run X2 hx hown hci hcl hby (L := [(60, .astore 10, 2)]) (by decide +kernel) rfl (g' := (mkF m 62 #[.val (.int x0), .val (.int x1), .val (.int x2), .val (.int x3), .val (.int x4), .val (.int (w0_8 x0 x1 x2 x3 x4)), .val (.int (w0_19 x0 x1 x2 x3 x4)), .val (.int (w0_29 x0 x1 x2 x3 x4)), .val (.int (w0_40 x0 x1 x2 x3 x4)), .val (.int (w0_47 x0 x1 x2 x3 x4)), .val (.ref b1), .unset, .unset, .unset, .unset, .unset] [])) rfl ?_
  obtain ⟨T3, h3, X3, e3, E3, A3, D3, -, st3⟩ := newO X2 hx hZ hown (hw _ (List.mem_of_getElem? (i := 1) rfl)) (hw _ (List.mem_of_getElem? (i := 2) rfl)) (hw _ (List.mem_of_getElem? (i := 3) rfl)) e2 (g := (mkF m 62 #[.val (.int x0), .val (.int x1), .val (.int x2), .val (.int x3), .val (.int x4), .val (.int (w0_8 x0 x1 x2 x3 x4)), .val (.int (w0_19 x0 x1 x2 x3 x4)), .val (.int (w0_29 x0 x1 x2 x3 x4)), .val (.int (w0_40 x0 x1 x2 x3 x4)), .val (.int (w0_47 x0 x1 x2 x3 x4)), .val (.ref b1), .unset, .unset, .unset, .unset, .unset] [])) rfl (hb hby at_62) (by decide) (by decide)
  obtain ⟨b3, g3⟩ : ∃ z, z = h2.size := ⟨_, rfl⟩
  rw [← g3] at A3 D3 st3
  have ne_b1_b3 : b1 ≠ b3 := Nat.ne_of_lt (Nat.lt_of_lt_of_le E_b1.lt (Nat.le_of_eq g3.symm))
  have g_b3 : n0 ≤ b3 := Nat.le_trans Zn2 (Nat.le_of_eq g3.symm)
  have E_b1 := E_b1.ext E3
  have F_year_b1 := F_year_b1.ext E3
  have F_month_b1 := F_month_b1.ext E3
  have Zn3 : n0 ≤ h3.size := Nat.le_trans Zn2 E3.1
  have E_b3 : Exa Z h3 b3 "com/example/ratable/ratable/model/Period" := A3
  have F_year_b3 : Fld Z h3 b3 "com/example/ratable/ratable/model/Period" "year" "I" (.int (0 : Int32)) := D3 (Or.inr (hw _ (List.mem_of_getElem? (i := 16) rfl))) (ty := .int) (by decide)
  have F_month_b3 : Fld Z h3 b3 "com/example/ratable/ratable/model/Period" "month" "I" (.int (0 : Int32)) := D3 (Or.inr (hw _ (List.mem_of_getElem? (i := 18) rfl))) (ty := .int) (by decide)
  refine Goes.st (B := T3.setTop (mkF m 65 #[.val (.int x0), .val (.int x1), .val (.int x2), .val (.int x3), .val (.int x4), .val (.int (w0_8 x0 x1 x2 x3 x4)), .val (.int (w0_19 x0 x1 x2 x3 x4)), .val (.int (w0_29 x0 x1 x2 x3 x4)), .val (.int (w0_40 x0 x1 x2 x3 x4)), .val (.int (w0_47 x0 x1 x2 x3 x4)), .val (.ref b1), .unset, .unset, .unset, .unset, .unset] [(.ref b3)])) st3 ?_
  refine Goes.run X3 hx hown hci hcl hby (L := [(65, .dup, 1), (66, .iload 7, 2), (68, .iload 8, 2)]) (by decide +kernel) rfl (g' := (mkF m 70 #[.val (.int x0), .val (.int x1), .val (.int x2), .val (.int x3), .val (.int x4), .val (.int (w0_8 x0 x1 x2 x3 x4)), .val (.int (w0_19 x0 x1 x2 x3 x4)), .val (.int (w0_29 x0 x1 x2 x3 x4)), .val (.int (w0_40 x0 x1 x2 x3 x4)), .val (.int (w0_47 x0 x1 x2 x3 x4)), .val (.ref b1), .unset, .unset, .unset, .unset, .unset] [(.int (w0_40 x0 x1 x2 x3 x4)), (.int (w0_29 x0 x1 x2 x3 x4)), (.ref b3), (.ref b3)])) rfl ?_
  obtain ⟨_, _, ⟨T4, L4, k4, n4⟩, -, X4, ⟨Lc4, hQ4, l4, y4, z4⟩, st4⟩ := X3.specialBack hx (y := (⟨"com/example/ratable/ratable/model/Period", "<init>", "(II)V"⟩ : MethodName)) rfl hown (mvT hZ (hw _ (List.mem_of_getElem? (i := 4) rfl))) (mvT hZ (hw _ (List.mem_of_getElem? (i := 5) rfl))) (mvT hZ (hw _ (List.mem_of_getElem? (i := 6) rfl))) (by decide) (backOf (W := 1) (rm2 l Z a0 hw [] b3 (w0_29 x0 x1 x2 x3 x4) (w0_40 x0 x1 x2 x3 x4) h3 n0 Zn3 E_b3 F_year_b3 F_month_b3 g_b3 (own_p1b x0 x1 x2 x3 x4) (own_p2b x0 x1 x2 x3 x4) (own_p3b x0 x1 x2 x3 x4) (own_p4b x0 x1 x2 x3 x4)) hZ (hw _ (List.mem_of_getElem? (i := 6) rfl)) (hw _ (List.mem_of_getElem? (i := 3) rfl)) (by decide) (by decide)) (g := (mkF m 70 #[.val (.int x0), .val (.int x1), .val (.int x2), .val (.int x3), .val (.int x4), .val (.int (w0_8 x0 x1 x2 x3 x4)), .val (.int (w0_19 x0 x1 x2 x3 x4)), .val (.int (w0_29 x0 x1 x2 x3 x4)), .val (.int (w0_40 x0 x1 x2 x3 x4)), .val (.int (w0_47 x0 x1 x2 x3 x4)), .val (.ref b1), .unset, .unset, .unset, .unset, .unset] [(.int (w0_40 x0 x1 x2 x3 x4)), (.int (w0_29 x0 x1 x2 x3 x4)), (.ref b3), (.ref b3)])) rfl (by rw [hml]; rfl) (Steps.refl _) (a := b3) (argsL := [(.int (w0_29 x0 x1 x2 x3 x4)), (.int (w0_40 x0 x1 x2 x3 x4))]) (rest := [(.ref b3)]) (lenOf pd0_0 rfl) rfl (by show 2 * 0 + _ ≤ _; exact Nat.le_of_eq rfl) (hb hby at_70) (fun _ _ => ⟨rfl, e3, (by decide : 2 + 0 ≤ _), (by decide : 4 + 0 ≤ _)⟩)
  dsimp only [Pt.U, Pt.locs, Pt.cells, Pt.slots] at X4 l4 y4 z4 st4 hQ4
  subst l4 y4 z4
  obtain ⟨h4, eh4⟩ : ∃ z, z = T4.heap := ⟨_, rfl⟩
  rw [← eh4] at hQ4
  have e4 : T4.heap = h4 := eh4.symm
  obtain ⟨rfl, N4q, Kq4, o4_0, o4_1, o4_2⟩ := hQ4
  have N4 := Fr.app N2 N4q
  have E_b1 := E_b1.keep Kq4
  have F_year_b1 := F_year_b1.keep Kq4 (ninS ne_b1_b3 nin0)
  have F_month_b1 := F_month_b1.keep Kq4 (ninS ne_b1_b3 nin0)
  have E_b3 : Exa Z h4 b3 "com/example/ratable/ratable/model/Period" := o4_0
  have F_year_b3 : Fld Z h4 b3 "com/example/ratable/ratable/model/Period" "year" "I" (.int (w0_29 x0 x1 x2 x3 x4)) := o4_1
  have F_month_b3 : Fld Z h4 b3 "com/example/ratable/ratable/model/Period" "month" "I" (.int (w0_40 x0 x1 x2 x3 x4)) := o4_2
  have Zn4 : n0 ≤ h4.size := Nat.le_trans Zn3 Kq4.1
  refine Goes.st (B := T4.setTop (mkF m 73 #[.val (.int x0), .val (.int x1), .val (.int x2), .val (.int x3), .val (.int x4), .val (.int (w0_8 x0 x1 x2 x3 x4)), .val (.int (w0_19 x0 x1 x2 x3 x4)), .val (.int (w0_29 x0 x1 x2 x3 x4)), .val (.int (w0_40 x0 x1 x2 x3 x4)), .val (.int (w0_47 x0 x1 x2 x3 x4)), .val (.ref b1), .unset, .unset, .unset, .unset, .unset] [(.ref b3)])) (fun t k => st4.trans k) ?_
  refine Goes.run X4 hx hown hci hcl hby (L := [(73, .astore 11, 2)]) (by decide +kernel) rfl (g' := (mkF m 75 #[.val (.int x0), .val (.int x1), .val (.int x2), .val (.int x3), .val (.int x4), .val (.int (w0_8 x0 x1 x2 x3 x4)), .val (.int (w0_19 x0 x1 x2 x3 x4)), .val (.int (w0_29 x0 x1 x2 x3 x4)), .val (.int (w0_40 x0 x1 x2 x3 x4)), .val (.int (w0_47 x0 x1 x2 x3 x4)), .val (.ref b1), .val (.ref b3), .unset, .unset, .unset, .unset] [])) rfl ?_
  obtain ⟨T5, h5, X5, e5, E5, A5, D5, -, st5⟩ := newO X4 hx hZ hown (hw _ (List.mem_of_getElem? (i := 19) rfl)) (hw _ (List.mem_of_getElem? (i := 20) rfl)) (hw _ (List.mem_of_getElem? (i := 21) rfl)) e4 (g := (mkF m 75 #[.val (.int x0), .val (.int x1), .val (.int x2), .val (.int x3), .val (.int x4), .val (.int (w0_8 x0 x1 x2 x3 x4)), .val (.int (w0_19 x0 x1 x2 x3 x4)), .val (.int (w0_29 x0 x1 x2 x3 x4)), .val (.int (w0_40 x0 x1 x2 x3 x4)), .val (.int (w0_47 x0 x1 x2 x3 x4)), .val (.ref b1), .val (.ref b3), .unset, .unset, .unset, .unset] [])) rfl (hb hby at_75) (by decide) (by decide)
  obtain ⟨b5, g5⟩ : ∃ z, z = h4.size := ⟨_, rfl⟩
  rw [← g5] at A5 D5 st5
  have ne_b1_b5 : b1 ≠ b5 := Nat.ne_of_lt (Nat.lt_of_lt_of_le E_b1.lt (Nat.le_of_eq g5.symm))
  have ne_b3_b5 : b3 ≠ b5 := Nat.ne_of_lt (Nat.lt_of_lt_of_le E_b3.lt (Nat.le_of_eq g5.symm))
  have g_b5 : n0 ≤ b5 := Nat.le_trans Zn4 (Nat.le_of_eq g5.symm)
  have E_b1 := E_b1.ext E5
  have F_year_b1 := F_year_b1.ext E5
  have F_month_b1 := F_month_b1.ext E5
  have E_b3 := E_b3.ext E5
  have F_year_b3 := F_year_b3.ext E5
  have F_month_b3 := F_month_b3.ext E5
  have Zn5 : n0 ≤ h5.size := Nat.le_trans Zn4 E5.1
  have E_b5 : Exa Z h5 b5 "com/example/ratable/ratable/engine/Term" := A5
  have F_first_b5 : Fld Z h5 b5 "com/example/ratable/ratable/engine/Term" "first" "Lcom/example/ratable/ratable/model/Period;" .null := D5 (Or.inr (hw _ (List.mem_of_getElem? (i := 27) rfl))) (ty := (.object "com/example/ratable/ratable/model/Period")) (by decide)
  have F_periods_b5 : Fld Z h5 b5 "com/example/ratable/ratable/engine/Term" "periods" "I" (.int (0 : Int32)) := D5 (Or.inr (hw _ (List.mem_of_getElem? (i := 29) rfl))) (ty := .int) (by decide)
  refine Goes.st (B := T5.setTop (mkF m 78 #[.val (.int x0), .val (.int x1), .val (.int x2), .val (.int x3), .val (.int x4), .val (.int (w0_8 x0 x1 x2 x3 x4)), .val (.int (w0_19 x0 x1 x2 x3 x4)), .val (.int (w0_29 x0 x1 x2 x3 x4)), .val (.int (w0_40 x0 x1 x2 x3 x4)), .val (.int (w0_47 x0 x1 x2 x3 x4)), .val (.ref b1), .val (.ref b3), .unset, .unset, .unset, .unset] [(.ref b5)])) st5 ?_
  refine Goes.run X5 hx hown hci hcl hby (L := [(78, .dup, 1), (79, .aload 10, 2), (81, .iload 9, 2)]) (by decide +kernel) rfl (g' := (mkF m 83 #[.val (.int x0), .val (.int x1), .val (.int x2), .val (.int x3), .val (.int x4), .val (.int (w0_8 x0 x1 x2 x3 x4)), .val (.int (w0_19 x0 x1 x2 x3 x4)), .val (.int (w0_29 x0 x1 x2 x3 x4)), .val (.int (w0_40 x0 x1 x2 x3 x4)), .val (.int (w0_47 x0 x1 x2 x3 x4)), .val (.ref b1), .val (.ref b3), .unset, .unset, .unset, .unset] [(.int (w0_47 x0 x1 x2 x3 x4)), (.ref b1), (.ref b5), (.ref b5)])) rfl ?_
  obtain ⟨_, _, ⟨T6, L6, k6, n6⟩, -, X6, ⟨Lc6, hQ6, l6, y6, z6⟩, st6⟩ := X5.specialBack hx (y := (⟨"com/example/ratable/ratable/engine/Term", "<init>", "(Lcom/example/ratable/ratable/model/Period;I)V"⟩ : MethodName)) rfl hown (mvT hZ (hw _ (List.mem_of_getElem? (i := 22) rfl))) (mvT hZ (hw _ (List.mem_of_getElem? (i := 23) rfl))) (mvT hZ (hw _ (List.mem_of_getElem? (i := 24) rfl))) (by decide) (backOf (W := 1) (rm7 l Z a0 hw [] b5 b1 (w0_47 x0 x1 x2 x3 x4) h5 n0 Zn5 E_b5 F_first_b5 F_periods_b5 g_b5) hZ (hw _ (List.mem_of_getElem? (i := 24) rfl)) (hw _ (List.mem_of_getElem? (i := 21) rfl)) (by decide) (by decide)) (g := (mkF m 83 #[.val (.int x0), .val (.int x1), .val (.int x2), .val (.int x3), .val (.int x4), .val (.int (w0_8 x0 x1 x2 x3 x4)), .val (.int (w0_19 x0 x1 x2 x3 x4)), .val (.int (w0_29 x0 x1 x2 x3 x4)), .val (.int (w0_40 x0 x1 x2 x3 x4)), .val (.int (w0_47 x0 x1 x2 x3 x4)), .val (.ref b1), .val (.ref b3), .unset, .unset, .unset, .unset] [(.int (w0_47 x0 x1 x2 x3 x4)), (.ref b1), (.ref b5), (.ref b5)])) rfl (by rw [hml]; rfl) (Steps.refl _) (a := b5) (argsL := [(.ref b1), (.int (w0_47 x0 x1 x2 x3 x4))]) (rest := [(.ref b5)]) (lenOf pd0_1 rfl) rfl (by show 2 * 0 + _ ≤ _; exact Nat.le_of_eq rfl) (hb hby at_83) (fun _ _ => ⟨rfl, e5, (by decide : 3 + 0 ≤ _), (by decide : 6 + 0 ≤ _)⟩)
  dsimp only [Pt.U, Pt.locs, Pt.cells, Pt.slots] at X6 l6 y6 z6 st6 hQ6
  subst l6 y6 z6
  obtain ⟨h6, eh6⟩ : ∃ z, z = T6.heap := ⟨_, rfl⟩
  rw [← eh6] at hQ6
  have e6 : T6.heap = h6 := eh6.symm
  obtain ⟨rfl, N6q, Kq6, o6_0, o6_1, o6_2⟩ := hQ6
  have N6 := Fr.app N4 N6q
  have E_b1 := E_b1.keep Kq6
  have F_year_b1 := F_year_b1.keep Kq6 (ninS ne_b1_b5 nin0)
  have F_month_b1 := F_month_b1.keep Kq6 (ninS ne_b1_b5 nin0)
  have E_b3 := E_b3.keep Kq6
  have F_year_b3 := F_year_b3.keep Kq6 (ninS ne_b3_b5 nin0)
  have F_month_b3 := F_month_b3.keep Kq6 (ninS ne_b3_b5 nin0)
  have E_b5 : Exa Z h6 b5 "com/example/ratable/ratable/engine/Term" := o6_0
  have F_first_b5 : Fld Z h6 b5 "com/example/ratable/ratable/engine/Term" "first" "Lcom/example/ratable/ratable/model/Period;" (.ref b1) := o6_1
  have F_periods_b5 : Fld Z h6 b5 "com/example/ratable/ratable/engine/Term" "periods" "I" (.int (w0_47 x0 x1 x2 x3 x4)) := o6_2
  have Zn6 : n0 ≤ h6.size := Nat.le_trans Zn5 Kq6.1
  refine Goes.st (B := T6.setTop (mkF m 86 #[.val (.int x0), .val (.int x1), .val (.int x2), .val (.int x3), .val (.int x4), .val (.int (w0_8 x0 x1 x2 x3 x4)), .val (.int (w0_19 x0 x1 x2 x3 x4)), .val (.int (w0_29 x0 x1 x2 x3 x4)), .val (.int (w0_40 x0 x1 x2 x3 x4)), .val (.int (w0_47 x0 x1 x2 x3 x4)), .val (.ref b1), .val (.ref b3), .unset, .unset, .unset, .unset] [(.ref b5)])) (fun t k => st6.trans k) ?_
  refine Goes.run X6 hx hown hci hcl hby (L := [(86, .astore 12, 2), (88, .aload 12, 2), (90, .aload 11, 2)]) (by decide +kernel) rfl (g' := (mkF m 92 #[.val (.int x0), .val (.int x1), .val (.int x2), .val (.int x3), .val (.int x4), .val (.int (w0_8 x0 x1 x2 x3 x4)), .val (.int (w0_19 x0 x1 x2 x3 x4)), .val (.int (w0_29 x0 x1 x2 x3 x4)), .val (.int (w0_40 x0 x1 x2 x3 x4)), .val (.int (w0_47 x0 x1 x2 x3 x4)), .val (.ref b1), .val (.ref b3), .val (.ref b5), .unset, .unset, .unset] [(.ref b3), (.ref b5)])) rfl ?_
  obtain ⟨cq7, kq7, q7a, q7b, q7c⟩ := isOf hZ e6 E_b5
  obtain ⟨_, _, ⟨T7, L7, k7, n7⟩, -, X7, ⟨Lc7, hQ7, l7, y7, z7⟩, st7⟩ := X6.virtualBack hx (y := (⟨"com/example/ratable/ratable/engine/Term", "position", "(Lcom/example/ratable/ratable/model/Period;)I"⟩ : MethodName)) (z := (⟨"com/example/ratable/ratable/engine/Term", "position", "(Lcom/example/ratable/ratable/model/Period;)I"⟩ : MethodName)) hown (mvT hZ (hw _ (List.mem_of_getElem? (i := 30) rfl))) (mvT hZ (hw _ (List.mem_of_getElem? (i := 31) rfl))) (notFace_of_selects (args := #[]) (mvT hZ (hw _ (List.mem_of_getElem? (i := 33) rfl)))) (mvT hZ (hw _ (List.mem_of_getElem? (i := 33) rfl))) (mvT hZ (hw _ (List.mem_of_getElem? (i := 32) rfl))) (by decide) (backOf (W := 0) (rm8 l Z a0 hw [] b5 b3 b1 (w0_47 x0 x1 x2 x3 x4) (w0_8 x0 x1 x2 x3 x4) (w0_19 x0 x1 x2 x3 x4) (w0_29 x0 x1 x2 x3 x4) (w0_40 x0 x1 x2 x3 x4) h6 n0 Zn6 E_b5 F_first_b5 F_periods_b5 E_b1 F_year_b1 F_month_b1 E_b3 F_year_b3 F_month_b3) hZ (hw _ (List.mem_of_getElem? (i := 34) rfl)) (hw _ (List.mem_of_getElem? (i := 21) rfl)) (by decide) (by decide)) q7a q7c (g := (mkF m 92 #[.val (.int x0), .val (.int x1), .val (.int x2), .val (.int x3), .val (.int x4), .val (.int (w0_8 x0 x1 x2 x3 x4)), .val (.int (w0_19 x0 x1 x2 x3 x4)), .val (.int (w0_29 x0 x1 x2 x3 x4)), .val (.int (w0_40 x0 x1 x2 x3 x4)), .val (.int (w0_47 x0 x1 x2 x3 x4)), .val (.ref b1), .val (.ref b3), .val (.ref b5), .unset, .unset, .unset] [(.ref b3), (.ref b5)])) rfl (by rw [hml]; rfl) (Steps.refl _) (argsL := [(.ref b3)]) (rest := []) (lenOf pd0_2 rfl) rfl (by show 2 * 0 + _ ≤ _; exact Nat.le_of_eq rfl) (hb hby at_92) (fun _ _ => ⟨rfl, e6, (by decide : 3 + 0 ≤ _), (by decide : 6 + 0 ≤ _)⟩)
  dsimp only [Pt.U, Pt.locs, Pt.cells, Pt.slots] at X7 l7 y7 z7 st7 hQ7
  subst l7 y7 z7
  obtain ⟨rfl, N7q, e7⟩ := hQ7
  have N7 := Fr.app N6 N7q
  refine Goes.st (B := T7.setTop (mkF m 95 #[.val (.int x0), .val (.int x1), .val (.int x2), .val (.int x3), .val (.int x4), .val (.int (w0_8 x0 x1 x2 x3 x4)), .val (.int (w0_19 x0 x1 x2 x3 x4)), .val (.int (w0_29 x0 x1 x2 x3 x4)), .val (.int (w0_40 x0 x1 x2 x3 x4)), .val (.int (w0_47 x0 x1 x2 x3 x4)), .val (.ref b1), .val (.ref b3), .val (.ref b5), .unset, .unset, .unset] [(.int (r8 (w0_47 x0 x1 x2 x3 x4) (w0_8 x0 x1 x2 x3 x4) (w0_19 x0 x1 x2 x3 x4) (w0_29 x0 x1 x2 x3 x4) (w0_40 x0 x1 x2 x3 x4)))])) (fun t k => st7.trans k) ?_
  refine Goes.run X7 hx hown hci hcl hby (L := [(95, .istore 13, 2), (97, .iload 7, 2), (99, .iload 5, 2), (101, .isub, 1), (102, .bipush 12, 2), (104, .imul, 1)]) (by decide +kernel) rfl (g' := (mkF m 105 #[.val (.int x0), .val (.int x1), .val (.int x2), .val (.int x3), .val (.int x4), .val (.int (w0_8 x0 x1 x2 x3 x4)), .val (.int (w0_19 x0 x1 x2 x3 x4)), .val (.int (w0_29 x0 x1 x2 x3 x4)), .val (.int (w0_40 x0 x1 x2 x3 x4)), .val (.int (w0_47 x0 x1 x2 x3 x4)), .val (.ref b1), .val (.ref b3), .val (.ref b5), .val (.int (w0_95 x0 x1 x2 x3 x4)), .unset, .unset] [(.int (((w0_29 x0 x1 x2 x3 x4) - (w0_8 x0 x1 x2 x3 x4)) * (12 : Int32)))])) rfl ?_
  refine Goes.run X7 hx hown hci hcl hby (L := [(105, .iload 8, 2), (107, .iload 6, 2), (109, .isub, 1), (110, .iadd, 1), (111, .istore 14, 2), (113, .iload 14, 2)]) (by decide +kernel) rfl (g' := (mkF m 115 #[.val (.int x0), .val (.int x1), .val (.int x2), .val (.int x3), .val (.int x4), .val (.int (w0_8 x0 x1 x2 x3 x4)), .val (.int (w0_19 x0 x1 x2 x3 x4)), .val (.int (w0_29 x0 x1 x2 x3 x4)), .val (.int (w0_40 x0 x1 x2 x3 x4)), .val (.int (w0_47 x0 x1 x2 x3 x4)), .val (.ref b1), .val (.ref b3), .val (.ref b5), .val (.int (w0_95 x0 x1 x2 x3 x4)), .val (.int (w0_111 x0 x1 x2 x3 x4)), .unset] [(.int (w0_111 x0 x1 x2 x3 x4))])) rfl ?_
  have jn142_10 : Goes p e below s (QL (some (.int (r0 x0 x1 x2 x3 x4))) n0) room_1.cells room_1.slots (T7.setTop (mkF m 142 #[.val (.int x0), .val (.int x1), .val (.int x2), .val (.int x3), .val (.int x4), .val (.int (w0_8 x0 x1 x2 x3 x4)), .val (.int (w0_19 x0 x1 x2 x3 x4)), .val (.int (w0_29 x0 x1 x2 x3 x4)), .val (.int (w0_40 x0 x1 x2 x3 x4)), .val (.int (w0_47 x0 x1 x2 x3 x4)), .val (.ref b1), .val (.ref b3), .val (.ref b5), .val (.int (w0_95 x0 x1 x2 x3 x4)), .val (.int (w0_111 x0 x1 x2 x3 x4)), .val (.int (j0_142_15 x0 x1 x2 x3 x4))] [])) := by
    refine Goes.run X7 hx hown hci hcl hby (L := [(142, .iload 13, 2), (144, .iload 15, 2)]) (by decide +kernel) rfl (g' := (mkF m 146 #[.val (.int x0), .val (.int x1), .val (.int x2), .val (.int x3), .val (.int x4), .val (.int (w0_8 x0 x1 x2 x3 x4)), .val (.int (w0_19 x0 x1 x2 x3 x4)), .val (.int (w0_29 x0 x1 x2 x3 x4)), .val (.int (w0_40 x0 x1 x2 x3 x4)), .val (.int (w0_47 x0 x1 x2 x3 x4)), .val (.ref b1), .val (.ref b3), .val (.ref b5), .val (.int (w0_95 x0 x1 x2 x3 x4)), .val (.int (w0_111 x0 x1 x2 x3 x4)), .val (.int (j0_142_15 x0 x1 x2 x3 x4))] [(.int (j0_142_15 x0 x1 x2 x3 x4)), (.int (w0_95 x0 x1 x2 x3 x4))])) rfl ?_
    by_cases hc146_11 : (w0_95 x0 x1 x2 x3 x4) = (j0_142_15 x0 x1 x2 x3 x4)
    · skip
      refine Goes.st (B := T7.setTop (mkF m 149 #[.val (.int x0), .val (.int x1), .val (.int x2), .val (.int x3), .val (.int x4), .val (.int (w0_8 x0 x1 x2 x3 x4)), .val (.int (w0_19 x0 x1 x2 x3 x4)), .val (.int (w0_29 x0 x1 x2 x3 x4)), .val (.int (w0_40 x0 x1 x2 x3 x4)), .val (.int (w0_47 x0 x1 x2 x3 x4)), .val (.ref b1), .val (.ref b3), .val (.ref b5), .val (.int (w0_95 x0 x1 x2 x3 x4)), .val (.int (w0_111 x0 x1 x2 x3 x4)), .val (.int (j0_142_15 x0 x1 x2 x3 x4))] [])) (fun t k => ?_) ?_
      · refine XS.icmpNo X7.here hx rfl (hb hby at_146) rfl (teq hc146_11).2 ?_
        exact k
      refine Goes.run X7 hx hown hci hcl hby (L := [(149, .iconst 1, 1), (150, .goto 4, 3)]) (by decide +kernel) rfl (g' := (mkF m 154 #[.val (.int x0), .val (.int x1), .val (.int x2), .val (.int x3), .val (.int x4), .val (.int (w0_8 x0 x1 x2 x3 x4)), .val (.int (w0_19 x0 x1 x2 x3 x4)), .val (.int (w0_29 x0 x1 x2 x3 x4)), .val (.int (w0_40 x0 x1 x2 x3 x4)), .val (.int (w0_47 x0 x1 x2 x3 x4)), .val (.ref b1), .val (.ref b3), .val (.ref b5), .val (.int (w0_95 x0 x1 x2 x3 x4)), .val (.int (w0_111 x0 x1 x2 x3 x4)), .val (.int (j0_142_15 x0 x1 x2 x3 x4))] [(.int (1 : Int32))])) rfl ?_
      exact Goes.retB X7 hx hlk (t := .boolean) Bd.returns (by simp) (hb hby at_154) rfl ⟨(congrArg (fun z => some (Value.int z)) (show (r0 x0 x1 x2 x3 x4) = (1 : Int32) from (if_pos hc146_11)).symm), N7⟩ (by decide) (by decide)
    · skip
      refine Goes.st (B := T7.setTop (mkF m 153 #[.val (.int x0), .val (.int x1), .val (.int x2), .val (.int x3), .val (.int x4), .val (.int (w0_8 x0 x1 x2 x3 x4)), .val (.int (w0_19 x0 x1 x2 x3 x4)), .val (.int (w0_29 x0 x1 x2 x3 x4)), .val (.int (w0_40 x0 x1 x2 x3 x4)), .val (.int (w0_47 x0 x1 x2 x3 x4)), .val (.ref b1), .val (.ref b3), .val (.ref b5), .val (.int (w0_95 x0 x1 x2 x3 x4)), .val (.int (w0_111 x0 x1 x2 x3 x4)), .val (.int (j0_142_15 x0 x1 x2 x3 x4))] [])) (fun t k => ?_) ?_
      · refine XS.icmpYes X7.here hx rfl (pc0 := 146) (pc' := 153) rfl (hb hby at_146) rfl (feq hc146_11).2 (by decide) (by decide) ?_
        exact k
      refine Goes.run X7 hx hown hci hcl hby (L := [(153, .iconst 0, 1)]) (by decide +kernel) rfl (g' := (mkF m 154 #[.val (.int x0), .val (.int x1), .val (.int x2), .val (.int x3), .val (.int x4), .val (.int (w0_8 x0 x1 x2 x3 x4)), .val (.int (w0_19 x0 x1 x2 x3 x4)), .val (.int (w0_29 x0 x1 x2 x3 x4)), .val (.int (w0_40 x0 x1 x2 x3 x4)), .val (.int (w0_47 x0 x1 x2 x3 x4)), .val (.ref b1), .val (.ref b3), .val (.ref b5), .val (.int (w0_95 x0 x1 x2 x3 x4)), .val (.int (w0_111 x0 x1 x2 x3 x4)), .val (.int (j0_142_15 x0 x1 x2 x3 x4))] [(.int (0 : Int32))])) rfl ?_
      exact Goes.retB X7 hx hlk (t := .boolean) Bd.returns (by simp) (hb hby at_154) rfl ⟨(congrArg (fun z => some (Value.int z)) (show (r0 x0 x1 x2 x3 x4) = (0 : Int32) from (if_neg hc146_11)).symm), N7⟩ (by decide) (by decide)
  by_cases hc115_8 : (w0_111 x0 x1 x2 x3 x4) < (0 : Int32)
  · skip
    refine Goes.st (B := T7.setTop (mkF m 118 #[.val (.int x0), .val (.int x1), .val (.int x2), .val (.int x3), .val (.int x4), .val (.int (w0_8 x0 x1 x2 x3 x4)), .val (.int (w0_19 x0 x1 x2 x3 x4)), .val (.int (w0_29 x0 x1 x2 x3 x4)), .val (.int (w0_40 x0 x1 x2 x3 x4)), .val (.int (w0_47 x0 x1 x2 x3 x4)), .val (.ref b1), .val (.ref b3), .val (.ref b5), .val (.int (w0_95 x0 x1 x2 x3 x4)), .val (.int (w0_111 x0 x1 x2 x3 x4)), .unset] [])) (fun t k => ?_) ?_
    · refine XS.ifNo X7.here hx rfl (hb hby at_115) rfl ((if0 _ _).trans (tlt hc115_8).2.1) ?_
      exact k
    refine Goes.run X7 hx hown hci hcl hby (L := [(118, .iconst 0, 1), (119, .istore 15, 2), (121, .goto 21, 3)]) (by decide +kernel) rfl (g' := (mkF m 142 #[.val (.int x0), .val (.int x1), .val (.int x2), .val (.int x3), .val (.int x4), .val (.int (w0_8 x0 x1 x2 x3 x4)), .val (.int (w0_19 x0 x1 x2 x3 x4)), .val (.int (w0_29 x0 x1 x2 x3 x4)), .val (.int (w0_40 x0 x1 x2 x3 x4)), .val (.int (w0_47 x0 x1 x2 x3 x4)), .val (.ref b1), .val (.ref b3), .val (.ref b5), .val (.int (w0_95 x0 x1 x2 x3 x4)), .val (.int (w0_111 x0 x1 x2 x3 x4)), .val (.int (0 : Int32))] [])) rfl ?_
    have q := jn142_10
    rw [show (j0_142_15 x0 x1 x2 x3 x4) = (0 : Int32) from (if_pos hc115_8)] at q
    exact q
  · skip
    refine Goes.st (B := T7.setTop (mkF m 124 #[.val (.int x0), .val (.int x1), .val (.int x2), .val (.int x3), .val (.int x4), .val (.int (w0_8 x0 x1 x2 x3 x4)), .val (.int (w0_19 x0 x1 x2 x3 x4)), .val (.int (w0_29 x0 x1 x2 x3 x4)), .val (.int (w0_40 x0 x1 x2 x3 x4)), .val (.int (w0_47 x0 x1 x2 x3 x4)), .val (.ref b1), .val (.ref b3), .val (.ref b5), .val (.int (w0_95 x0 x1 x2 x3 x4)), .val (.int (w0_111 x0 x1 x2 x3 x4)), .unset] [])) (fun t k => ?_) ?_
    · refine XS.ifYes X7.here hx rfl (pc0 := 115) (pc' := 124) rfl (hb hby at_115) rfl ((if0 _ _).trans (flt hc115_8).2.1) (by decide) (by decide) ?_
      exact k
    refine Goes.run X7 hx hown hci hcl hby (L := [(124, .iload 14, 2), (126, .iload 9, 2)]) (by decide +kernel) rfl (g' := (mkF m 128 #[.val (.int x0), .val (.int x1), .val (.int x2), .val (.int x3), .val (.int x4), .val (.int (w0_8 x0 x1 x2 x3 x4)), .val (.int (w0_19 x0 x1 x2 x3 x4)), .val (.int (w0_29 x0 x1 x2 x3 x4)), .val (.int (w0_40 x0 x1 x2 x3 x4)), .val (.int (w0_47 x0 x1 x2 x3 x4)), .val (.ref b1), .val (.ref b3), .val (.ref b5), .val (.int (w0_95 x0 x1 x2 x3 x4)), .val (.int (w0_111 x0 x1 x2 x3 x4)), .unset] [(.int (w0_47 x0 x1 x2 x3 x4)), (.int (w0_111 x0 x1 x2 x3 x4))])) rfl ?_
    by_cases hc128_12 : (w0_47 x0 x1 x2 x3 x4) < (w0_111 x0 x1 x2 x3 x4)
    · skip
      refine Goes.st (B := T7.setTop (mkF m 131 #[.val (.int x0), .val (.int x1), .val (.int x2), .val (.int x3), .val (.int x4), .val (.int (w0_8 x0 x1 x2 x3 x4)), .val (.int (w0_19 x0 x1 x2 x3 x4)), .val (.int (w0_29 x0 x1 x2 x3 x4)), .val (.int (w0_40 x0 x1 x2 x3 x4)), .val (.int (w0_47 x0 x1 x2 x3 x4)), .val (.ref b1), .val (.ref b3), .val (.ref b5), .val (.int (w0_95 x0 x1 x2 x3 x4)), .val (.int (w0_111 x0 x1 x2 x3 x4)), .unset] [])) (fun t k => ?_) ?_
      · refine XS.icmpNo X7.here hx rfl (hb hby at_128) rfl (tlt hc128_12).2.2.2 ?_
        exact k
      refine Goes.run X7 hx hown hci hcl hby (L := [(131, .iload 9, 2), (133, .istore 15, 2), (135, .goto 7, 3)]) (by decide +kernel) rfl (g' := (mkF m 142 #[.val (.int x0), .val (.int x1), .val (.int x2), .val (.int x3), .val (.int x4), .val (.int (w0_8 x0 x1 x2 x3 x4)), .val (.int (w0_19 x0 x1 x2 x3 x4)), .val (.int (w0_29 x0 x1 x2 x3 x4)), .val (.int (w0_40 x0 x1 x2 x3 x4)), .val (.int (w0_47 x0 x1 x2 x3 x4)), .val (.ref b1), .val (.ref b3), .val (.ref b5), .val (.int (w0_95 x0 x1 x2 x3 x4)), .val (.int (w0_111 x0 x1 x2 x3 x4)), .val (.int (w0_47 x0 x1 x2 x3 x4))] [])) rfl ?_
      have q := jn142_10
      rw [show (j0_142_15 x0 x1 x2 x3 x4) = (w0_47 x0 x1 x2 x3 x4) from ((if_neg hc115_8).trans (if_pos hc128_12))] at q
      exact q
    · skip
      refine Goes.st (B := T7.setTop (mkF m 138 #[.val (.int x0), .val (.int x1), .val (.int x2), .val (.int x3), .val (.int x4), .val (.int (w0_8 x0 x1 x2 x3 x4)), .val (.int (w0_19 x0 x1 x2 x3 x4)), .val (.int (w0_29 x0 x1 x2 x3 x4)), .val (.int (w0_40 x0 x1 x2 x3 x4)), .val (.int (w0_47 x0 x1 x2 x3 x4)), .val (.ref b1), .val (.ref b3), .val (.ref b5), .val (.int (w0_95 x0 x1 x2 x3 x4)), .val (.int (w0_111 x0 x1 x2 x3 x4)), .unset] [])) (fun t k => ?_) ?_
      · refine XS.icmpYes X7.here hx rfl (pc0 := 128) (pc' := 138) rfl (hb hby at_128) rfl (flt hc128_12).2.2.2 (by decide) (by decide) ?_
        exact k
      refine Goes.run X7 hx hown hci hcl hby (L := [(138, .iload 14, 2), (140, .istore 15, 2)]) (by decide +kernel) rfl (g' := (mkF m 142 #[.val (.int x0), .val (.int x1), .val (.int x2), .val (.int x3), .val (.int x4), .val (.int (w0_8 x0 x1 x2 x3 x4)), .val (.int (w0_19 x0 x1 x2 x3 x4)), .val (.int (w0_29 x0 x1 x2 x3 x4)), .val (.int (w0_40 x0 x1 x2 x3 x4)), .val (.int (w0_47 x0 x1 x2 x3 x4)), .val (.ref b1), .val (.ref b3), .val (.ref b5), .val (.int (w0_95 x0 x1 x2 x3 x4)), .val (.int (w0_111 x0 x1 x2 x3 x4)), .val (.int (w0_111 x0 x1 x2 x3 x4))] [])) rfl ?_
      have q := jn142_10
      rw [show (j0_142_15 x0 x1 x2 x3 x4) = (w0_111 x0 x1 x2 x3 x4) from ((if_neg hc115_8).trans (if_neg hc128_12))] at q
      exact q
set_option maxRecDepth 65536 in
set_option maxHeartbeats 40000000 in
theorem comes_1 {Post : Tables → Env → Array Value → State → Outcome → State → Prop} (hpost : ∀ tb e args s v u, (limb_1_1.after args s (.returned v) u = true ∧ limb_1_2.after args s (.returned v) u = true ∧ True) → FrameEnd s (.returned v) u (Jvm.fieldLocs frame_1_writes args s ++ Jvm.arrayLocs frame_1_arrays args s ++ Jvm.staticLocs frame_1_statics s) 16 128 → Post tb e args s (.returned v) u) :
    ArmFor flags0 classFile x code maxLocals ret World_1 tables_1 room_1 Calls_1 rest_1 Pre_1 Post := by
  intro l hfl _ _ p e ha hc hk s m args below hf hA hF happ hP
  obtain ⟨hcalls, hrest, hpre⟩ := hP
  obtain ⟨-, -, -, hnamed, -, -, -, hat⟩ := (Spec.applies_iff hf).mp happ
  obtain ⟨hg, hn⟩ := and_e (Cond.before_iff.mp (show (Jvm.Cond.and given_1 narrow_1).before args s = true from hpre))
  obtain ⟨g0, g0r⟩ := and_e hg
  obtain ⟨g1, g1r⟩ := and_e g0r
  obtain ⟨g2, g2r⟩ := and_e g1r
  obtain ⟨g3, g3r⟩ := and_e g2r
  obtain ⟨g4, g5⟩ := and_e g3r
  obtain ⟨w0, w1, w2, w3, w4, rfl⟩ : ∃ w0 w1 w2 w3 w4 : Value, args = #[w0, w1, w2, w3, w4] := by
    have hs : args.size = 5 := by simpa [Cond.value, given_1] using g0
    obtain ⟨L⟩ := args
    match L, hs with
    | [w0, w1, w2, w3, w4], _ => exact ⟨w0, w1, w2, w3, w4, rfl⟩
  have hw := fun d (hd : d ∈ tables_1) => atoms_spec (ws := Jvm.Cond.code x code maxLocals ret :: tables_1) hat d (List.mem_cons_of_mem _ hd)
  have hfit : Fit s := fun {y c} hc i hi => by
    obtain ⟨ha, rfl⟩ := Array.getElem?_eq_some_iff.mp hc
    have q := List.all_eq_true.mp ((Array.all_eq_true_iff_forall_mem.mp hF) _ (Array.getElem_mem ha)) i (List.mem_range.mpr hi)
    simpa [Array.getElem?_eq_getElem hi] using q
  obtain ⟨i0, ei0⟩ := is_v g1
  obtain rfl : w0 = (.int i0) := Option.some.inj ei0
  obtain ⟨i1, ei1⟩ := is_v g2
  obtain rfl : w1 = (.int i1) := Option.some.inj ei1
  obtain ⟨i2, ei2⟩ := is_v g3
  obtain rfl : w2 = (.int i2) := Option.some.inj ei2
  obtain ⟨i3, ei3⟩ := is_v g4
  obtain rfl : w3 = (.int i3) := Option.some.inj ei3
  obtain ⟨i4, ei4⟩ := is_v g5
  obtain rfl : w4 = (.int i4) := Option.some.inj ei4
  obtain ⟨n, o, h1, h2, h3, v, L, rfl, hv, hq⟩ := rm0 l s _ hw tables_1 i0 i1 i2 i3 i4  s.heap s.heap.size (Nat.le_refl _)  p e ha hc hk s m _ below hf ((Spec.applies_iff_loose hf).mp happ).1 ⟨rfl, State.Warmed39.refl s, rfl⟩ trivial
  have N := hv.2
  have hv1 : v = some (.int 1) := hv.1.trans (congrArg (fun z => some (Value.int z)) (law_true i0 i1 i2 i3 i4))
  subst hv1
  refine ⟨n, _, h1, h2, h3, hpost _ _ _ _ _ _ ⟨Cond.after_iff.mpr rfl, Cond.after_iff.mpr (eq_i res_at (Term.int_eval (1)) rfl), trivial⟩ ⟨hq.1, hq.2.1, (hq.2.2.sift fun y hy => Or.inr (N y hy)).mono (by decide) (by decide)⟩⟩
theorem main_1_1 : Claimed_1_1 := comes_1 fun _ _ _ _ _ _ h hF => ⟨h.1, hF⟩
theorem main_1_2 : Claimed_1_2 := comes_1 fun _ _ _ _ _ _ h hF => ⟨h.2.1, hF⟩
end Jvm.Pilot.@@N@@
namespace Jvm.Pilot.@@N@@
open Jvm Jvm.ClassFile Sem Op Lib Jvm.Free Jvm.Stand Jvm.Pilot.@@N@@.Jvm.D
/-! MADE BY PROGRAM (witnessworld.py) out of the Statement's table words and the real class files: 13 classes; the members and pool entries that the words name. The judged class is class 1, her method 1. -/
namespace start1
open Jvm.ClassFile
def u (s : String) : CpInfo := .utf8 (stringToUtf16 s)
/-- a pool by its gaps: so many unusable entries, then the entry; so many at the end -/
def gap : Nat → List CpInfo → List CpInfo
  | 0, r => r
  | n + 1, r => .unusable :: gap n r
def poolList (es : List (Nat × CpInfo)) (last : Nat) : List CpInfo := es.foldr (fun e r => gap e.1 (e.2 :: r)) (gap last [])
def pool (es : List (Nat × CpInfo)) (last : Nat) : Array CpInfo := ⟨poolList es last⟩
def fileOf (pool : Array CpInfo) (this : Nat) (attrs : Array Attribute := #[]) (ms : Array MethodInfo := #[]) (fl : Nat := 33) (sup : Nat := 0) (ifs : Array Nat := #[]) (fds : Array FieldInfo := #[]) : ClassFile where
  minorVersion := 0
  majorVersion := 65
  constantPool := pool
  accessFlags := fl
  thisClass := this
  superClass := sup
  interfaces := ifs
  fields := fds
  methods := ms
  attributes := attrs
def plain (name : String) (sup : Option ClassId) : Class where
  name := name
  kind := .ordinary
  loader := none
  accessFlags := 33
  super := sup
  interfaces := #[]
  cf := none
  fields := #[]
  methods := #[]
  instanceTypes := #[]
  staticTypes := #[]
  resolved := #[]
  callSites := []
  init := .initialized
  statics := none
  mirror := none

def pool0 : Array CpInfo := pool [(5, u "<init>"), (0, u "()V"), (1, .class_ 10), (1, u "java/lang/Object")] 113

def k0c0 : Code := { maxStack := 0, maxLocals := 1, code := object_method_1_code, exceptionTable := #[], attributes := #[] }
def k0m0 : Method := { name := "<init>", desc := "()V", sig := { parameters := [], returnType := none }, accessFlags := 1, code := some k0c0 }
/-- java/lang/Object -/
def k0 : Class := { plain "java/lang/Object" none with
  accessFlags := 33
  interfaces := #[]
  cf := some (fileOf pool0 8 #[] #[{ accessFlags := 1, nameIndex := 5, descriptorIndex := 6, attributes := #[] }] 33 0 #[] #[])
  fields := #[]
  methods := #[k0m0]
  instanceTypes := #[]
  staticTypes := #[]
  resolved := Array.replicate 124 none
  statics := none }

def pool1 : Array CpInfo := pool [(2, .class_ 4), (1, u "java/lang/Object"), (0, u "<init>"), (0, u "()V"), (0, .integer 2147483647), (0, .class_ 9), (0, u "com/example/ratable/ratable/model/Period"), (0, .methodref 8 11), (0, .nameAndType 5 12), (0, u "(II)V"), (0, .class_ 14), (0, u "com/example/ratable/ratable/engine/Term"), (0, .methodref 13 16), (0, .nameAndType 5 17), (0, u "(Lcom/example/ratable/ratable/model/Period;I)V"), (0, .methodref 13 19), (0, .nameAndType 20 21), (0, u "position"), (0, u "(Lcom/example/ratable/ratable/model/Period;)I"), (0, .class_ 23), (0, u "com/example/ratable/ratable/engine/TermPositionPinLaw"), (2, u "law"), (0, u "(IIIII)Z")] 3

def k1m0 : Method := { name := "<init>", desc := "()V", sig := { parameters := [], returnType := none }, accessFlags := 1, code := none }
def k1c1 : Code := { maxStack := 4, maxLocals := 16, code := code, exceptionTable := #[], attributes := #[] }
def k1m1 : Method := { name := "law", desc := "(IIIII)Z", sig := { parameters := [.int, .int, .int, .int, .int], returnType := some .boolean }, accessFlags := 9, code := some k1c1 }
/-- com/example/ratable/ratable/engine/TermPositionPinLaw -/
def k1 : Class := { plain "com/example/ratable/ratable/engine/TermPositionPinLaw" (some 0) with
  accessFlags := 49
  interfaces := #[]
  cf := some (fileOf pool1 22 #[] #[{ accessFlags := 1, nameIndex := 5, descriptorIndex := 6, attributes := #[] }, { accessFlags := 9, nameIndex := 26, descriptorIndex := 27, attributes := #[] }] 49 2 #[] #[])
  fields := #[]
  methods := #[k1m0, k1m1]
  instanceTypes := #[]
  staticTypes := #[]
  resolved := Array.replicate 31 none
  statics := none }

def pool2 : Array CpInfo := pool [(1, .methodref 2 3), (0, .class_ 4), (0, .nameAndType 5 6), (0, u "java/lang/Object"), (0, u "<init>"), (0, u "()V"), (0, .class_ 8), (0, u "java/lang/Record")] 13

def k2c0 : Code := { maxStack := 1, maxLocals := 1, code := jdk_30_method_1_code, exceptionTable := #[], attributes := #[] }
def k2m0 : Method := { name := "<init>", desc := "()V", sig := { parameters := [], returnType := none }, accessFlags := 4, code := some k2c0 }
/-- java/lang/Record -/
def k2 : Class := { plain "java/lang/Record" (some 0) with
  accessFlags := 1057
  interfaces := #[]
  cf := some (fileOf pool2 7 #[] #[{ accessFlags := 4, nameIndex := 5, descriptorIndex := 6, attributes := #[] }] 1057 2 #[] #[])
  fields := #[]
  methods := #[k2m0]
  instanceTypes := #[]
  staticTypes := #[]
  resolved := Array.replicate 22 none
  statics := none }

def pool3 : Array CpInfo := pool [(1, .class_ 2), (0, u "java/lang/Comparable"), (0, .class_ 4), (0, u "java/lang/Object")] 7

/-- java/lang/Comparable -/
def k3 : Class := { plain "java/lang/Comparable" (some 0) with
  accessFlags := 1537
  interfaces := #[]
  cf := some (fileOf pool3 1 #[] #[] 1537 3 #[] #[])
  fields := #[]
  methods := #[]
  instanceTypes := #[]
  staticTypes := #[]
  resolved := Array.replicate 12 none
  statics := none }

def pool4 : Array CpInfo := pool [(1, .methodref 2 3), (0, .class_ 4), (0, .nameAndType 5 6), (0, u "java/lang/Record"), (0, u "<init>"), (0, u "()V"), (0, .class_ 8), (0, u "com/example/ratable/ratable/model/Period"), (10, .fieldref 7 20), (0, .nameAndType 21 22), (0, u "year"), (0, u "I"), (0, .fieldref 7 24), (0, .nameAndType 25 22), (0, u "month"), (5, u "()I"), (15, u "(II)V"), (18, .methodref 7 67), (0, .nameAndType 68 31), (0, u "index"), (23, u "(Lcom/example/ratable/ratable/model/Period;)I"), (7, .class_ 101), (0, u "java/lang/Comparable"), (0, u "MAX_YEAR"), (12, u "monthsUntil")] 39

def k4c0 : Code := { maxStack := 3, maxLocals := 3, code := prog_39_method_1_code, exceptionTable := #[], attributes := #[] }
def k4m0 : Method := { name := "<init>", desc := "(II)V", sig := { parameters := [.int, .int], returnType := none }, accessFlags := 1, code := some k4c0 }
def k4c1 : Code := { maxStack := 2, maxLocals := 2, code := prog_39_method_6_code, exceptionTable := #[], attributes := #[] }
def k4m1 : Method := { name := "monthsUntil", desc := "(Lcom/example/ratable/ratable/model/Period;)I", sig := { parameters := [(.object "com/example/ratable/ratable/model/Period")], returnType := some .int }, accessFlags := 1, code := some k4c1 }
def k4c2 : Code := { maxStack := 2, maxLocals := 1, code := prog_39_method_10_code, exceptionTable := #[], attributes := #[] }
def k4m2 : Method := { name := "index", desc := "()I", sig := { parameters := [], returnType := some .int }, accessFlags := 2, code := some k4c2 }
/-- com/example/ratable/ratable/model/Period -/
def k4 : Class := { plain "com/example/ratable/ratable/model/Period" (some 2) with
  accessFlags := 49
  interfaces := #[3]
  cf := some (fileOf pool4 7 #[] #[{ accessFlags := 1, nameIndex := 5, descriptorIndex := 47, attributes := #[] }, { accessFlags := 1, nameIndex := 115, descriptorIndex := 92, attributes := #[] }, { accessFlags := 2, nameIndex := 68, descriptorIndex := 31, attributes := #[] }] 49 2 #[100] #[{ accessFlags := 18, nameIndex := 21, descriptorIndex := 22, attributes := #[] }, { accessFlags := 18, nameIndex := 25, descriptorIndex := 22, attributes := #[] }, { accessFlags := 26, nameIndex := 102, descriptorIndex := 22, attributes := #[] }])
  fields := #[{ name := "year", type := .int, accessFlags := 18, slot := 0, constantValue := 0 }, { name := "month", type := .int, accessFlags := 18, slot := 1, constantValue := 0 }, { name := "MAX_YEAR", type := .int, accessFlags := 26, slot := 0, constantValue := 0 }]
  methods := #[k4m0, k4m1, k4m2]
  instanceTypes := #[.int, .int]
  staticTypes := #[.int]
  resolved := Array.replicate 155 none
  statics := none }

def pool5 : Array CpInfo := pool [(1, .methodref 2 3), (0, .class_ 4), (0, .nameAndType 5 6), (0, u "java/lang/Record"), (0, u "<init>"), (0, u "()V"), (0, .fieldref 8 9), (0, .class_ 10), (0, .nameAndType 11 12), (0, u "com/example/ratable/ratable/engine/Term"), (0, u "first"), (0, u "Lcom/example/ratable/ratable/model/Period;"), (0, .fieldref 8 14), (0, .nameAndType 15 16), (0, u "periods"), (0, u "I"), (1, .class_ 20), (1, u "com/example/ratable/ratable/engine/Term$1"), (24, .class_ 47), (1, u "com/example/ratable/ratable/model/Period"), (5, .methodref 45 54), (0, .nameAndType 55 56), (0, u "monthsUntil"), (0, u "(Lcom/example/ratable/ratable/model/Period;)I"), (2, u "(Lcom/example/ratable/ratable/model/Period;I)V"), (4, .methodref 65 66), (0, .class_ 67), (0, .nameAndType 68 69), (0, u "java/lang/Math"), (0, u "min"), (0, u "(II)I"), (0, .methodref 65 71), (0, .nameAndType 72 69), (0, u "max"), (19, u "position")] 24

def k5c0 : Code := { maxStack := 2, maxLocals := 3, code := prog_17_method_1_code, exceptionTable := #[], attributes := #[] }
def k5m0 : Method := { name := "<init>", desc := "(Lcom/example/ratable/ratable/model/Period;I)V", sig := { parameters := [(.object "com/example/ratable/ratable/model/Period"), .int], returnType := none }, accessFlags := 0, code := some k5c0 }
def k5c1 : Code := { maxStack := 4, maxLocals := 2, code := prog_17_method_4_code, exceptionTable := #[], attributes := #[] }
def k5m1 : Method := { name := "position", desc := "(Lcom/example/ratable/ratable/model/Period;)I", sig := { parameters := [(.object "com/example/ratable/ratable/model/Period")], returnType := some .int }, accessFlags := 0, code := some k5c1 }
/-- com/example/ratable/ratable/engine/Term -/
def k5 : Class := { plain "com/example/ratable/ratable/engine/Term" (some 2) with
  accessFlags := 48
  interfaces := #[]
  cf := some (fileOf pool5 8 #[.nestMembers #[18]] #[{ accessFlags := 0, nameIndex := 5, descriptorIndex := 59, attributes := #[] }, { accessFlags := 0, nameIndex := 92, descriptorIndex := 56, attributes := #[] }] 48 2 #[] #[{ accessFlags := 18, nameIndex := 11, descriptorIndex := 12, attributes := #[] }, { accessFlags := 18, nameIndex := 15, descriptorIndex := 16, attributes := #[] }])
  fields := #[{ name := "first", type := (.object "com/example/ratable/ratable/model/Period"), accessFlags := 18, slot := 0, constantValue := 0 }, { name := "periods", type := .int, accessFlags := 18, slot := 1, constantValue := 0 }]
  methods := #[k5m0, k5m1]
  instanceTypes := #[(.object "com/example/ratable/ratable/model/Period"), .int]
  staticTypes := #[]
  resolved := Array.replicate 117 none
  statics := none }

def pool6 : Array CpInfo := pool [(1, .class_ 2), (0, u "java/lang/Math"), (1, .class_ 6), (1, u "java/lang/Object"), (0, u "<init>"), (0, u "()V"), (89, .class_ 100), (1, u "java/lang/Math$RandomNumberGeneratorHolder"), (71, u "negativeZeroFloatBits"), (0, u "J"), (2, u "negativeZeroDoubleBits"), (21, u "max"), (2, u "min"), (43, u "$assertionsDisabled"), (0, u "Z"), (88, u "(II)I"), (2, u "twoToTheDoubleScaleDown"), (0, u "D"), (4, u "twoToTheDoubleScaleUp"), (9, u "E"), (3, u "PI"), (2, u "TAU"), (2, u "DEGREES_TO_RADIANS"), (0, u "RADIANS_TO_DEGREES")] 94

def k6m0 : Method := { name := "<init>", desc := "()V", sig := { parameters := [], returnType := none }, accessFlags := 2, code := none }
def k6c1 : Code := { maxStack := 2, maxLocals := 2, code := jdk_29_method_65_code, exceptionTable := #[], attributes := #[] }
def k6m1 : Method := { name := "max", desc := "(II)I", sig := { parameters := [.int, .int], returnType := some .int }, accessFlags := 9, code := some k6c1 }
def k6c2 : Code := { maxStack := 2, maxLocals := 2, code := jdk_29_method_69_code, exceptionTable := #[], attributes := #[] }
def k6m2 : Method := { name := "min", desc := "(II)I", sig := { parameters := [.int, .int], returnType := some .int }, accessFlags := 9, code := some k6c2 }
/-- java/lang/Math -/
def k6 : Class := { plain "java/lang/Math" (some 0) with
  accessFlags := 49
  interfaces := #[]
  cf := some (fileOf pool6 1 #[.nestMembers #[98]] #[{ accessFlags := 2, nameIndex := 7, descriptorIndex := 8, attributes := #[] }, { accessFlags := 9, nameIndex := 198, descriptorIndex := 335, attributes := #[] }, { accessFlags := 9, nameIndex := 201, descriptorIndex := 335, attributes := #[] }] 49 4 #[] #[{ accessFlags := 25, nameIndex := 354, descriptorIndex := 339, attributes := #[] }, { accessFlags := 25, nameIndex := 358, descriptorIndex := 339, attributes := #[] }, { accessFlags := 25, nameIndex := 361, descriptorIndex := 339, attributes := #[] }, { accessFlags := 26, nameIndex := 364, descriptorIndex := 339, attributes := #[] }, { accessFlags := 26, nameIndex := 365, descriptorIndex := 339, attributes := #[] }, { accessFlags := 26, nameIndex := 172, descriptorIndex := 173, attributes := #[] }, { accessFlags := 26, nameIndex := 176, descriptorIndex := 173, attributes := #[] }, { accessFlags := 8, nameIndex := 344, descriptorIndex := 339, attributes := #[] }, { accessFlags := 8, nameIndex := 338, descriptorIndex := 339, attributes := #[] }, { accessFlags := 4120, nameIndex := 245, descriptorIndex := 246, attributes := #[] }])
  fields := #[{ name := "E", type := .double, accessFlags := 25, slot := 0, constantValue := 0 }, { name := "PI", type := .double, accessFlags := 25, slot := 1, constantValue := 0 }, { name := "TAU", type := .double, accessFlags := 25, slot := 2, constantValue := 0 }, { name := "DEGREES_TO_RADIANS", type := .double, accessFlags := 26, slot := 3, constantValue := 0 }, { name := "RADIANS_TO_DEGREES", type := .double, accessFlags := 26, slot := 4, constantValue := 0 }, { name := "negativeZeroFloatBits", type := .long, accessFlags := 26, slot := 5, constantValue := 0 }, { name := "negativeZeroDoubleBits", type := .long, accessFlags := 26, slot := 6, constantValue := 0 }, { name := "twoToTheDoubleScaleUp", type := .double, accessFlags := 8, slot := 7, constantValue := 0 }, { name := "twoToTheDoubleScaleDown", type := .double, accessFlags := 8, slot := 8, constantValue := 0 }, { name := "$assertionsDisabled", type := .boolean, accessFlags := 4120, slot := 9, constantValue := 0 }]
  methods := #[k6m0, k6m1, k6m2]
  instanceTypes := #[]
  staticTypes := #[.double, .double, .double, .double, .double, .long, .long, .double, .double, .boolean]
  resolved := Array.replicate 460 none
  statics := none }

def pool7 : Array CpInfo := pool [(1, u "java/lang/Cloneable"), (0, .class_ 1), (0, u "java/lang/Object"), (0, .class_ 3)] 3

/-- java/lang/Cloneable -/
def k7 : Class := { plain "java/lang/Cloneable" (some 0) with
  accessFlags := 1537
  interfaces := #[]
  cf := some (fileOf pool7 2 #[] #[] 1537 4 #[] #[])
  fields := #[]
  methods := #[]
  instanceTypes := #[]
  staticTypes := #[]
  resolved := Array.replicate 8 none
  statics := none }

def pool8 : Array CpInfo := pool [(1, u "java/io/Serializable"), (0, .class_ 1), (0, u "java/lang/Object"), (0, .class_ 3)] 3

/-- java/io/Serializable -/
def k8 : Class := { plain "java/io/Serializable" (some 0) with
  accessFlags := 1537
  interfaces := #[]
  cf := some (fileOf pool8 2 #[] #[] 1537 4 #[] #[])
  fields := #[]
  methods := #[]
  instanceTypes := #[]
  staticTypes := #[]
  resolved := Array.replicate 8 none
  statics := none }

/-- the primitive byte -/
def k9 : Class := { plain "byte" none with kind := .primitive 'B', accessFlags := 0x411 }
/-- [B -/
def k10 : Class := { plain "[B" (some 0) with kind := .array 9 .byte, interfaces := #[7, 8], accessFlags := 1041 }

/-- the primitive int -/
def k11 : Class := { plain "int" none with kind := .primitive 'I', accessFlags := 0x411 }
/-- [I -/
def k12 : Class := { plain "[I" (some 0) with kind := .array 11 .int, interfaces := #[7, 8], accessFlags := 1041 }

def heap : Heap := #[]
def classes : Array Class := #[k0, k1, k2, k3, k4, k5, k6, k7, k8, k9, k10, k11, k12]
def interned : List (Array UInt16 × Addr) := []
def slotsUsed : Nat := 0
def theMethod : MethodId := ⟨1, 1⟩
def args0 : Array Value := #[.int 5, .int 7, .int 9, .int 11, .int 3]
def aboutOver (below : List Frame) : State where
  vm := { classes := classes, interned := interned.toArray }
  heap := heap
  slotsUsed := slotsUsed
  threads := #[{ frames := .invoking theMethod args0 :: below }]
def below0 : List Frame := [.native { method := ⟨0, 0⟩, args := #[] }]
def about1 : State := aboutOver below0
def p0 : Program := .bare "" "" ""
def e0 : Env := launch0.env 0 0 0
theorem w_frames : about1.frames = Frame.invoking theMethod args0 :: below0 := rfl
set_option maxRecDepth 65536 in
theorem w_args : argsFit about1.vm theMethod args0 = true := by decide +kernel
set_option maxRecDepth 65536 in
theorem w_heap : heapFits about1 = true := by decide +kernel
set_option maxRecDepth 65536 in
theorem w_runnable : about1.curStatus? = some .runnable := by decide +kernel
set_option maxRecDepth 65536 in
theorem w_alone : about1.alone = true := by decide +kernel
set_option maxRecDepth 65536 in
theorem w_named : about1.methodNamed? x = some theMethod := by decide +kernel
set_option maxRecDepth 65536 in
theorem w_hears : about1.hears theMethod below0 = true := by decide +kernel
set_option maxRecDepth 65536 in
theorem w_ripe : about1.ripe theMethod args0 below0 = true := by decide +kernel
theorem w_running : about1.status = .running := rfl
set_option maxRecDepth 65536 in
theorem w_room : about1.hasRoom e0.platform room_1 = true :=
  launch0.hasRoom_least _ room_1 (by decide +kernel) (by decide +kernel) (by decide +kernel) (by decide +kernel) (by decide +kernel) (by decide +kernel)
theorem allAtoms_all (ts : List Jvm.Cond) (a : Array Jvm.Value) (st : Jvm.State) : (allAtoms ts).before a st = ts.all (fun c => c.before a st) := by
  induction ts with
  | nil => rfl
  | cons c t ih =>
    show (Jvm.Cond.and c (allAtoms t)).before a st = _
    rw [Jvm.Cond.before_and, ih, List.all_cons]
def words1 : List Jvm.Cond := Jvm.Cond.code x code maxLocals ret :: tables_1
/-- a 'code' word, met by the world's own term for the bytes: nothing is compared byte by byte -/
theorem code_word {y : MethodName} {bytes : ByteArray} {mx : Nat} {rt : Option FieldType} {a : Array Value} {s : State} {m : MethodId} {meth : Method} {c : Code} (h1 : s.methodNamed? y = some m) (h2 : s.vm.method? m = some meth) (h3 : meth.code = some c) (h4 : c.code = bytes)
    (h5 : (c.maxLocals == mx && c.exceptionTable.isEmpty && decide (c.maxStack ≤ mostOperands) && decide (meth.sig.returnType = rt) && !meth.locks && decide (parseMethodDescriptor y.desc = some meth.sig)) = true) : (Jvm.Cond.code y bytes mx rt).before a s = true := by
  simp only [Bool.and_eq_true, beq_iff_eq, Bool.not_eq_true', decide_eq_true_eq] at h5
  obtain ⟨⟨⟨⟨⟨g1, g2⟩, g3⟩, g4⟩, g5⟩, g6⟩ := h5
  simp [Cond.before, Cond.holds, Cond.value, h1, h2, h3, h4, g1, g2, g3, g4, g5, g6]
def isCode : Jvm.Cond → Bool
  | .code _ _ _ _ => true
  | _ => false
theorem all_split {L : List Jvm.Cond} {P : Jvm.Cond → Bool} (h1 : L.all (fun c => isCode c || P c) = true) (h2 : ∀ c ∈ L.filter isCode, P c = true) : L.all P = true := by
  refine List.all_eq_true.mpr fun c hc => ?_
  have h := List.all_eq_true.mp h1 c hc
  rcases Bool.eq_false_or_eq_true (isCode c) with hi | hi
  · exact h2 c (List.mem_filter.mpr ⟨hc, hi⟩)
  · simpa [hi] using h
set_option maxRecDepth 65536 in
theorem w_c0 : (Jvm.Cond.code x code maxLocals ret).before args0 about1 = true := code_word (m := ⟨1, 1⟩) (meth := k1m1) (c := k1c1) (by decide +kernel) rfl rfl rfl (by decide +kernel)
set_option maxRecDepth 65536 in
theorem w_c1 : (Jvm.Cond.code ({ cls := "com/example/ratable/ratable/model/Period", name := "<init>", desc := "(II)V" } : Jvm.MethodName) prog_39_method_1_code (3 : Nat) (Option.none : Option Jvm.ClassFile.FieldType)).before args0 about1 = true := code_word (m := ⟨4, 0⟩) (meth := k4m0) (c := k4c0) (by decide +kernel) rfl rfl rfl (by decide +kernel)
set_option maxRecDepth 65536 in
theorem w_c2 : (Jvm.Cond.code ({ cls := "java/lang/Record", name := "<init>", desc := "()V" } : Jvm.MethodName) jdk_30_method_1_code (1 : Nat) (Option.none : Option Jvm.ClassFile.FieldType)).before args0 about1 = true := code_word (m := ⟨2, 0⟩) (meth := k2m0) (c := k2c0) (by decide +kernel) rfl rfl rfl (by decide +kernel)
set_option maxRecDepth 65536 in
theorem w_c3 : (Jvm.Cond.code ({ cls := "java/lang/Object", name := "<init>", desc := "()V" } : Jvm.MethodName) object_method_1_code (1 : Nat) (Option.none : Option Jvm.ClassFile.FieldType)).before args0 about1 = true := code_word (m := ⟨0, 0⟩) (meth := k0m0) (c := k0c0) (by decide +kernel) rfl rfl rfl (by decide +kernel)
set_option maxRecDepth 65536 in
theorem w_c4 : (Jvm.Cond.code ({ cls := "com/example/ratable/ratable/engine/Term", name := "<init>", desc := "(Lcom/example/ratable/ratable/model/Period;I)V" } : Jvm.MethodName) prog_17_method_1_code (3 : Nat) (Option.none : Option Jvm.ClassFile.FieldType)).before args0 about1 = true := code_word (m := ⟨5, 0⟩) (meth := k5m0) (c := k5c0) (by decide +kernel) rfl rfl rfl (by decide +kernel)
set_option maxRecDepth 65536 in
theorem w_c5 : (Jvm.Cond.code ({ cls := "com/example/ratable/ratable/engine/Term", name := "position", desc := "(Lcom/example/ratable/ratable/model/Period;)I" } : Jvm.MethodName) prog_17_method_4_code (2 : Nat) (Option.some Jvm.ClassFile.FieldType.int)).before args0 about1 = true := code_word (m := ⟨5, 1⟩) (meth := k5m1) (c := k5c1) (by decide +kernel) rfl rfl rfl (by decide +kernel)
set_option maxRecDepth 65536 in
theorem w_c6 : (Jvm.Cond.code ({ cls := "com/example/ratable/ratable/model/Period", name := "monthsUntil", desc := "(Lcom/example/ratable/ratable/model/Period;)I" } : Jvm.MethodName) prog_39_method_6_code (2 : Nat) (Option.some Jvm.ClassFile.FieldType.int)).before args0 about1 = true := code_word (m := ⟨4, 1⟩) (meth := k4m1) (c := k4c1) (by decide +kernel) rfl rfl rfl (by decide +kernel)
set_option maxRecDepth 65536 in
theorem w_c7 : (Jvm.Cond.code ({ cls := "com/example/ratable/ratable/model/Period", name := "index", desc := "()I" } : Jvm.MethodName) prog_39_method_10_code (1 : Nat) (Option.some Jvm.ClassFile.FieldType.int)).before args0 about1 = true := code_word (m := ⟨4, 2⟩) (meth := k4m2) (c := k4c2) (by decide +kernel) rfl rfl rfl (by decide +kernel)
set_option maxRecDepth 65536 in
theorem w_c8 : (Jvm.Cond.code ({ cls := "java/lang/Math", name := "min", desc := "(II)I" } : Jvm.MethodName) jdk_29_method_69_code (2 : Nat) (Option.some Jvm.ClassFile.FieldType.int)).before args0 about1 = true := code_word (m := ⟨6, 2⟩) (meth := k6m2) (c := k6c2) (by decide +kernel) rfl rfl rfl (by decide +kernel)
set_option maxRecDepth 65536 in
theorem w_c9 : (Jvm.Cond.code ({ cls := "java/lang/Math", name := "max", desc := "(II)I" } : Jvm.MethodName) jdk_29_method_65_code (2 : Nat) (Option.some Jvm.ClassFile.FieldType.int)).before args0 about1 = true := code_word (m := ⟨6, 1⟩) (meth := k6m1) (c := k6c1) (by decide +kernel) rfl rfl rfl (by decide +kernel)
def codes1 : List Jvm.Cond := [Jvm.Cond.code x code maxLocals ret, Jvm.Cond.code ({ cls := "com/example/ratable/ratable/model/Period", name := "<init>", desc := "(II)V" } : Jvm.MethodName) prog_39_method_1_code (3 : Nat) (Option.none : Option Jvm.ClassFile.FieldType), Jvm.Cond.code ({ cls := "java/lang/Record", name := "<init>", desc := "()V" } : Jvm.MethodName) jdk_30_method_1_code (1 : Nat) (Option.none : Option Jvm.ClassFile.FieldType), Jvm.Cond.code ({ cls := "java/lang/Object", name := "<init>", desc := "()V" } : Jvm.MethodName) object_method_1_code (1 : Nat) (Option.none : Option Jvm.ClassFile.FieldType), Jvm.Cond.code ({ cls := "com/example/ratable/ratable/engine/Term", name := "<init>", desc := "(Lcom/example/ratable/ratable/model/Period;I)V" } : Jvm.MethodName) prog_17_method_1_code (3 : Nat) (Option.none : Option Jvm.ClassFile.FieldType), Jvm.Cond.code ({ cls := "com/example/ratable/ratable/engine/Term", name := "position", desc := "(Lcom/example/ratable/ratable/model/Period;)I" } : Jvm.MethodName) prog_17_method_4_code (2 : Nat) (Option.some Jvm.ClassFile.FieldType.int), Jvm.Cond.code ({ cls := "com/example/ratable/ratable/model/Period", name := "monthsUntil", desc := "(Lcom/example/ratable/ratable/model/Period;)I" } : Jvm.MethodName) prog_39_method_6_code (2 : Nat) (Option.some Jvm.ClassFile.FieldType.int), Jvm.Cond.code ({ cls := "com/example/ratable/ratable/model/Period", name := "index", desc := "()I" } : Jvm.MethodName) prog_39_method_10_code (1 : Nat) (Option.some Jvm.ClassFile.FieldType.int), Jvm.Cond.code ({ cls := "java/lang/Math", name := "min", desc := "(II)I" } : Jvm.MethodName) jdk_29_method_69_code (2 : Nat) (Option.some Jvm.ClassFile.FieldType.int), Jvm.Cond.code ({ cls := "java/lang/Math", name := "max", desc := "(II)I" } : Jvm.MethodName) jdk_29_method_65_code (2 : Nat) (Option.some Jvm.ClassFile.FieldType.int)]
set_option maxRecDepth 65536 in
theorem codes_eq : words1.filter isCode = codes1 := rfl
theorem w_codes : ∀ c ∈ words1.filter isCode, c.before args0 about1 = true := by
  rw [codes_eq]
  intro c hc
  simp only [codes1, List.mem_cons, List.not_mem_nil, or_false] at hc
  rcases hc with rfl | rfl | rfl | rfl | rfl | rfl | rfl | rfl | rfl | rfl
  · exact w_c0
  · exact w_c1
  · exact w_c2
  · exact w_c3
  · exact w_c4
  · exact w_c5
  · exact w_c6
  · exact w_c7
  · exact w_c8
  · exact w_c9
set_option maxRecDepth 65536 in
theorem w_t1 : (words1.take 24).all (fun c => isCode c || c.before args0 about1) = true := by decide +kernel
set_option maxRecDepth 65536 in
theorem w_t2 : ((words1.drop 24).take 24).all (fun c => isCode c || c.before args0 about1) = true := by decide +kernel
set_option maxRecDepth 65536 in
theorem w_t3 : ((words1.drop 24).drop 24).all (fun c => isCode c || c.before args0 about1) = true := by decide +kernel
theorem w_tables : (allAtoms (Jvm.Cond.code x code maxLocals ret :: tables_1)).before args0 about1 = true := by
  rw [allAtoms_all]
  show words1.all (fun c => c.before args0 about1) = true
  refine all_split ?_ w_codes
  rw [← List.take_append_drop 24 words1, List.all_append, w_t1, ← List.take_append_drop 24 (words1.drop 24), List.all_append, w_t2, w_t3]
  rfl
set_option maxRecDepth 65536 in
theorem w_case : (Jvm.Cond.and given_1 narrow_1).before args0 about1 = true := by decide +kernel
theorem w_applies : (headSpec (Jvm.Cond.code x code maxLocals ret :: tables_1) room_1).applies x e0.platform about1 = true :=
  (Spec.applies_iff w_frames).mpr ⟨w_running, w_runnable, w_alone, w_named, w_hears, w_ripe, w_room, w_tables⟩
theorem atStart : AtStart classFile x code maxLocals ret World_1 tables_1 room_1 Calls_1 rest_1 Pre_1 launch0 p0 e0 about1 theMethod args0 below0 :=
  ⟨lists_1, trivial, launch0.admits_env _ _ _, launch0.least_env, fairChoices_fair.cas, fairChoices_fair.clock, w_frames, w_args, w_heap, w_applies, trivial, trivial, w_case⟩
end start1
theorem witness_1 : WitnessClaimed_1 := ⟨start1.p0, start1.e0, start1.about1, start1.theMethod, start1.args0, start1.below0, start1.atStart⟩
end Jvm.Pilot.@@N@@
