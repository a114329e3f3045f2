import JvmDerived
import JvmDerived.Pilot.@@N@@Statement
import JvmDerived.Pilot.@@N@@Code
set_option linter.unusedVariables false
set_option linter.unusedSimpArgs false
@@BLOCK:NumsL.lean.txt@@
namespace Jvm.Pilot.@@N@@
open Jvm Jvm.ClassFile Sem Op Lib Jvm.Free Jvm.Stand Jvm.LawKit Jvm.RoadKit Bundle Jvm.Pilot.@@N@@.Jvm.D
def Goes (p : Program) (e : Env) (below : List Frame) (s : State) (Q : Option Value → Heap → List Loc → Prop) (kc ks : Nat) (A : State) : Prop :=
  ∃ s₂ o, Steps p.tables e below A s₂ ∧ s₂.status = .running ∧ Ended s₂ below o ∧ ∃ v L, o = .returned v ∧ Q v s₂.heap L ∧ FrameEnd s o s₂ L kc ks
def QL (w : Option Value) (n0 : Nat) (v : Option Value) (h : Heap) (L : List Loc) : Prop := v = w ∧ Fr n0 L
theorem own_selp {s : State} {args : Array Value} {y : MethodName} {n : Nat} (hins : (Cond.instantiable y.cls n).before args s = true) (hpriv : (Cond.privateMethod y).before args s = true) (hinst : (Cond.instanceMethod y).before args s = true) (hy : y.cls ≠ "java/lang/invoke/MethodHandle" ∧ y.cls ≠ "java/lang/invoke/VarHandle") : (Cond.selects y.cls y y).before args s = true := by
  obtain ⟨c, k, hc, hk, -, hniab, -, -⟩ := Cond.instantiable_spec hins
  exact selects_self_of_private hc hk (Bool.or_eq_false_iff.mp hniab).1 (Cond.privateMethod_at hpriv) hinst hy
def QP (w : Option Value) (h0 : Heap) (n0 : Nat) (v : Option Value) (h : Heap) (L : List Loc) : Prop := v = w ∧ Fr n0 L ∧ h = h0
section OwnGoes
variable {p : Program} {l : Launch} {e : Env} {R : Room} {s : State} {m : MethodId} {args : Array Value} {below : List Frame} {meth : Method} {c : Code} {T : State} {locs : List Loc} {cells slots kc ks : Nat} {Q : Option Value → Heap → List Loc → Prop}
theorem Goes.st {A B : State} (h : ∀ t, Steps p.tables e below B t → Steps p.tables e below A t) (g : Goes p e below s Q kc ks B) : Goes p e below s Q kc ks A := by
  obtain ⟨s₂, o, h1, r⟩ := g
  exact ⟨s₂, o, h _ h1, r⟩
theorem Goes.cast {g g' : JFrame} (q : g = g') (h : Goes p e below s Q kc ks (T.setTop g')) : Goes p e below s Q kc ks (T.setTop g) := q ▸ h
theorem Goes.retI (X : Stand p l e R s m args below meth c T locs cells slots) (hx : p.tables.exec = Jvm.exec) (hlk : meth.locks = false) (hret : meth.sig.returnType = some .int) {pc : Nat} {Ls : Array Slot} {z : Int32} {rest : List Value} (hd : decode c.code pc = .ok (.ireturn, 1)) (hQ : Q (some (.int z)) T.heap locs) (h1 : cells ≤ kc) (h2 : slots ≤ ks) : Goes p e below s Q kc ks (T.setTop (mkF m pc Ls (.int z :: rest))) := by
  obtain ⟨fs, hr, hrun, hended, hW, hsame⟩ := X.leave (v := some (.int z)) (fun h => by rw [hret] at h; cases h)
  exact ⟨_, _, retOut X hx hret rfl (Or.inl ⟨rfl, Or.inl rfl, _, rfl⟩) hd hr, hrun, hended, _, _, rfl, hQ, ⟨_, rfl⟩, hW, hsame.mono h1 h2⟩
theorem Goes.retJ (X : Stand p l e R s m args below meth c T locs cells slots) (hx : p.tables.exec = Jvm.exec) (hlk : meth.locks = false) (hret : meth.sig.returnType = some .long) {pc : Nat} {Ls : Array Slot} {z : Int64} {rest : List Value} (hd : decode c.code pc = .ok (.lreturn, 1)) (hQ : Q (some (.long z)) T.heap locs) (h1 : cells ≤ kc) (h2 : slots ≤ ks) : Goes p e below s Q kc ks (T.setTop (mkF m pc Ls (.long z :: rest))) := by
  obtain ⟨fs, hr, hrun, hended, hW, hsame⟩ := X.leave (v := some (.long z)) (fun h => by rw [hret] at h; cases h)
  exact ⟨_, _, retOut X hx hret rfl (Or.inr (Or.inl ⟨rfl, rfl, _, rfl⟩)) hd hr, hrun, hended, _, _, rfl, hQ, ⟨_, rfl⟩, hW, hsame.mono h1 h2⟩
theorem Goes.retR (X : Stand p l e R s m args below meth c T locs cells slots) (hx : p.tables.exec = Jvm.exec) (hlk : meth.locks = false) {t : FieldType} (hret : meth.sig.returnType = some t) {w : Value} (ht : t.isReference = true) (hw : w.isRef = true) {pc : Nat} {Ls : Array Slot} {rest : List Value} (hd : decode c.code pc = .ok (.areturn, 1)) (hQ : Q (some w) T.heap locs) (h1 : cells ≤ kc) (h2 : slots ≤ ks) : Goes p e below s Q kc ks (T.setTop (mkF m pc Ls (w :: rest))) := by
  obtain ⟨fs, hr, hrun, hended, hW, hsame⟩ := X.leave (v := some w) (fun h => by rw [hret] at h; cases h)
  have hn : narrow t w = w := by cases t <;> cases w <;> first | rfl | (simp [FieldType.isReference] at ht) | (simp [Value.isRef] at hw)
  exact ⟨_, _, retOut X hx hret hn (Or.inr (Or.inr (Or.inr (Or.inr ⟨rfl, ht, hw⟩)))) hd hr, hrun, hended, _, _, rfl, hQ, ⟨_, rfl⟩, hW, hsame.mono h1 h2⟩
theorem Goes.retB (X : Stand p l e R s m args below meth c T locs cells slots) (hx : p.tables.exec = Jvm.exec) (hlk : meth.locks = false) {t : FieldType} (hret : meth.sig.returnType = some t) (ht : t = .boolean ∨ t = .byte ∨ t = .char ∨ t = .short) {pc : Nat} {Ls : Array Slot} {z : Int32} {rest : List Value} (hd : decode c.code pc = .ok (.ireturn, 1)) (hz : nar t z = z) (hQ : Q (some (.int z)) T.heap locs) (h1 : cells ≤ kc) (h2 : slots ≤ ks) : Goes p e below s Q kc ks (T.setTop (mkF m pc Ls (.int z :: rest))) := by
  obtain ⟨fs, hr, hrun, hended, hW, hsame⟩ := X.leave (v := some (.int z)) (fun h => by rw [hret] at h; cases h)
  exact ⟨_, _, retN X hx hret ht hd (by rw [hz]; exact hr), hrun, hended, _, _, rfl, hQ, ⟨_, rfl⟩, hW, hsame.mono h1 h2⟩
theorem Goes.retV (X : Stand p l e R s m args below meth c T locs cells slots) (hx : p.tables.exec = Jvm.exec) (hlk : meth.locks = false) (hret : meth.sig.returnType = none) {pc : Nat} {Ls : Array Slot} (hd : decode c.code pc = .ok (.return_, 1)) (hQ : Q none T.heap locs) (h1 : cells ≤ kc) (h2 : slots ≤ ks) : Goes p e below s Q kc ks (T.setTop (mkF m pc Ls [])) := by
  obtain ⟨fs, hr, hrun, hended, hW, hsame⟩ := X.leave (v := none) (fun _ => rfl)
  exact ⟨_, _, X.returnOut hx hret hd hr, hrun, hended, _, _, rfl, hQ, ⟨_, rfl⟩, hW, hsame.mono h1 h2⟩
end OwnGoes
theorem tltL {x y : Int64} (h : x < y) : ifCond.holds .lt (lcmpW x y) = true ∧ ifCond.holds .ge (lcmpW x y) = false ∧ ifCond.holds .gt (lcmpW y x) = true ∧ ifCond.holds .le (lcmpW y x) = false :=
  ⟨(if0 _ _).trans (tlt ((lw_lt x y).mpr h)).1, (if0 _ _).trans (tlt ((lw_lt x y).mpr h)).2.1, (if0 _ _).trans (tlt ((lw_gt y x).mpr h)).2.2.1, (if0 _ _).trans (tlt ((lw_gt y x).mpr h)).2.2.2⟩
theorem fltL {x y : Int64} (h : ¬ x < y) : ifCond.holds .lt (lcmpW x y) = false ∧ ifCond.holds .ge (lcmpW x y) = true ∧ ifCond.holds .gt (lcmpW y x) = false ∧ ifCond.holds .le (lcmpW y x) = true :=
  ⟨(if0 _ _).trans (flt fun q => h ((lw_lt x y).mp q)).1, (if0 _ _).trans (flt fun q => h ((lw_lt x y).mp q)).2.1, (if0 _ _).trans (flt fun q => h ((lw_gt y x).mp q)).2.2.1, (if0 _ _).trans (flt fun q => h ((lw_gt y x).mp q)).2.2.2⟩
theorem teqL {x y : Int64} (h : x = y) : ifCond.holds .eq (lcmpW x y) = true ∧ ifCond.holds .ne (lcmpW x y) = false :=
  ⟨(if0 _ _).trans (teq ((lw_eq x y).mpr h)).1, (if0 _ _).trans (teq ((lw_eq x y).mpr h)).2⟩
theorem feqL {x y : Int64} (h : ¬ x = y) : ifCond.holds .eq (lcmpW x y) = false ∧ ifCond.holds .ne (lcmpW x y) = true :=
  ⟨(if0 _ _).trans (feq fun q => h ((lw_eq x y).mp q)).1, (if0 _ _).trans (feq fun q => h ((lw_eq x y).mp q)).2⟩
def own_look {α : Type} (i : Nat) : List (Nat × α) → Option α
  | [] => none
  | (j, v) :: r => if i = j then some v else own_look i r
theorem own_look_mem {α : Type} {i : Nat} {v : α} : ∀ {L : List (Nat × α)}, own_look i L = some v → (i, v) ∈ L
  | [], h => by cases h
  | (j, w) :: r, h => by
    unfold own_look at h
    by_cases q : i = j
    · rw [if_pos q] at h; cases h; subst q; exact List.mem_cons_self
    · rw [if_neg q] at h; exact List.mem_cons_of_mem _ (own_look_mem h)
def own_pstep (ci : List (Nat × Int32)) (cl : List (Nat × Int64)) (i : Instr) (n : Nat) (g : JFrame) : Option JFrame :=
  match i with
  | .iload_n k => if n = 1 then (match g.locals[k.val]? with | some (.val (.int v)) => some { g with pc := g.pc + 1, stack := .int v :: g.stack } | _ => none) else none
  | .iload k => if n = 2 then (match g.locals[k]? with | some (.val (.int v)) => some { g with pc := g.pc + 2, stack := .int v :: g.stack } | _ => none) else none
  | .lload_n k => if n = 1 then (match g.locals[k.val]? with | some (.val (.long v)) => some { g with pc := g.pc + 1, stack := .long v :: g.stack } | _ => none) else none
  | .lload k => if n = 2 then (match g.locals[k]? with | some (.val (.long v)) => some { g with pc := g.pc + 2, stack := .long v :: g.stack } | _ => none) else none
  | .aload_n k => if n = 1 then (match g.locals[k.val]? with | some (.val v) => if v.isRef = true then some { g with pc := g.pc + 1, stack := v :: g.stack } else none | _ => none) else none
  | .aload k => if n = 2 then (match g.locals[k]? with | some (.val v) => if v.isRef = true then some { g with pc := g.pc + 2, stack := v :: g.stack } else none | _ => none) else none
  | .istore_n k => if n = 1 then (match g.stack with | .int x :: rest => (match storeLocals g.locals k.val (.int x) with | some l' => some { g with pc := g.pc + 1, stack := rest, locals := l' } | none => none) | _ => none) else none
  | .istore k => if n = 2 then (match g.stack with | .int x :: rest => (match storeLocals g.locals k (.int x) with | some l' => some { g with pc := g.pc + 2, stack := rest, locals := l' } | none => none) | _ => none) else none
  | .lstore_n k => if n = 1 then (match g.stack with | .long x :: rest => (match storeLocals g.locals k.val (.long x) with | some l' => some { g with pc := g.pc + 1, stack := rest, locals := l' } | none => none) | _ => none) else none
  | .lstore k => if n = 2 then (match g.stack with | .long x :: rest => (match storeLocals g.locals k (.long x) with | some l' => some { g with pc := g.pc + 2, stack := rest, locals := l' } | none => none) | _ => none) else none
  | .astore_n k => if n = 1 then (match g.stack with | x :: rest => (if x.isRef = true then (match storeLocals g.locals k.val x with | some l' => some { g with pc := g.pc + 1, stack := rest, locals := l' } | none => none) else none) | _ => none) else none
  | .astore k => if n = 2 then (match g.stack with | x :: rest => (if x.isRef = true then (match storeLocals g.locals k x with | some l' => some { g with pc := g.pc + 2, stack := rest, locals := l' } | none => none) else none) | _ => none) else none
  | .iconst i => if n = 1 then (some { g with pc := g.pc + 1, stack := .int (Int32.ofInt i) :: g.stack }) else none
  | .bipush i => if n = 2 then (some { g with pc := g.pc + 2, stack := .int (Int8.ofInt i).toInt32 :: g.stack }) else none
  | .sipush i => if n = 3 then (some { g with pc := g.pc + 3, stack := .int (Int16.ofInt i).toInt32 :: g.stack }) else none
  | .lconst k => if n = 1 then (some { g with pc := g.pc + 1, stack := .long (Int64.ofNat k) :: g.stack }) else none
  | .aconst_null => if n = 1 then (some { g with pc := g.pc + 1, stack := .null :: g.stack }) else none
  | .iadd => if n = 1 then (match g.stack with | .int y :: .int x :: rest => some { g with pc := g.pc + 1, stack := .int (x + y) :: rest } | _ => none) else none
  | .ladd => if n = 1 then (match g.stack with | .long y :: .long x :: rest => some { g with pc := g.pc + 1, stack := .long (x + y) :: rest } | _ => none) else none
  | .isub => if n = 1 then (match g.stack with | .int y :: .int x :: rest => some { g with pc := g.pc + 1, stack := .int (x - y) :: rest } | _ => none) else none
  | .lsub => if n = 1 then (match g.stack with | .long y :: .long x :: rest => some { g with pc := g.pc + 1, stack := .long (x - y) :: rest } | _ => none) else none
  | .imul => if n = 1 then (match g.stack with | .int y :: .int x :: rest => some { g with pc := g.pc + 1, stack := .int (x * y) :: rest } | _ => none) else none
  | .lmul => if n = 1 then (match g.stack with | .long y :: .long x :: rest => some { g with pc := g.pc + 1, stack := .long (x * y) :: rest } | _ => none) else none
  | .iand => if n = 1 then (match g.stack with | .int y :: .int x :: rest => some { g with pc := g.pc + 1, stack := .int (x &&& y) :: rest } | _ => none) else none
  | .land => if n = 1 then (match g.stack with | .long y :: .long x :: rest => some { g with pc := g.pc + 1, stack := .long (x &&& y) :: rest } | _ => none) else none
  | .ior => if n = 1 then (match g.stack with | .int y :: .int x :: rest => some { g with pc := g.pc + 1, stack := .int (x ||| y) :: rest } | _ => none) else none
  | .lor => if n = 1 then (match g.stack with | .long y :: .long x :: rest => some { g with pc := g.pc + 1, stack := .long (x ||| y) :: rest } | _ => none) else none
  | .ixor => if n = 1 then (match g.stack with | .int y :: .int x :: rest => some { g with pc := g.pc + 1, stack := .int (x ^^^ y) :: rest } | _ => none) else none
  | .lxor => if n = 1 then (match g.stack with | .long y :: .long x :: rest => some { g with pc := g.pc + 1, stack := .long (x ^^^ y) :: rest } | _ => none) else none
  | .ishl => if n = 1 then (match g.stack with | .int y :: .int x :: rest => some { g with pc := g.pc + 1, stack := .int (x <<< (y &&& 31)) :: rest } | _ => none) else none
  | .ishr => if n = 1 then (match g.stack with | .int y :: .int x :: rest => some { g with pc := g.pc + 1, stack := .int (x >>> (y &&& 31)) :: rest } | _ => none) else none
  | .iushr => if n = 1 then (match g.stack with | .int y :: .int x :: rest => some { g with pc := g.pc + 1, stack := .int ((x.toUInt32 >>> (y &&& 31).toUInt32).toInt32) :: rest } | _ => none) else none
  | .lshl => if n = 1 then (match g.stack with | .int y :: .long x :: rest => some { g with pc := g.pc + 1, stack := .long (x <<< (y &&& 0x3f).toInt64) :: rest } | _ => none) else none
  | .lshr => if n = 1 then (match g.stack with | .int y :: .long x :: rest => some { g with pc := g.pc + 1, stack := .long (x >>> (y &&& 0x3f).toInt64) :: rest } | _ => none) else none
  | .lushr => if n = 1 then (match g.stack with | .int y :: .long x :: rest => some { g with pc := g.pc + 1, stack := .long ((x.toUInt64 >>> (y &&& 0x3f).toInt64.toUInt64).toInt64) :: rest } | _ => none) else none
  | .lcmp => if n = 1 then (match g.stack with | .long y :: .long x :: rest => some { g with pc := g.pc + 1, stack := .int (if x > y then 1 else if x = y then 0 else -1) :: rest } | _ => none) else none
  | .ineg => if n = 1 then (match g.stack with | .int v :: rest => some { g with pc := g.pc + 1, stack := .int (-v) :: rest } | _ => none) else none
  | .lneg => if n = 1 then (match g.stack with | .long v :: rest => some { g with pc := g.pc + 1, stack := .long (-v) :: rest } | _ => none) else none
  | .i2l => if n = 1 then (match g.stack with | .int v :: rest => some { g with pc := g.pc + 1, stack := .long (v.toInt64) :: rest } | _ => none) else none
  | .l2i => if n = 1 then (match g.stack with | .long v :: rest => some { g with pc := g.pc + 1, stack := .int (v.toInt32) :: rest } | _ => none) else none
  | .i2b => if n = 1 then (match g.stack with | .int v :: rest => some { g with pc := g.pc + 1, stack := .int (v.toInt8.toInt32) :: rest } | _ => none) else none
  | .i2c => if n = 1 then (match g.stack with | .int v :: rest => some { g with pc := g.pc + 1, stack := .int (v.toUInt32.toUInt16.toUInt32.toInt32) :: rest } | _ => none) else none
  | .i2s => if n = 1 then (match g.stack with | .int v :: rest => some { g with pc := g.pc + 1, stack := .int (v.toInt16.toInt32) :: rest } | _ => none) else none
  | .iinc k cst => if n = 3 then (match g.locals[k]? with | some (.val (.int x)) => (match storeLocals g.locals k (.int (x + Int32.ofInt cst)) with | some l' => some { g with pc := g.pc + 3, locals := l' } | none => none) | _ => none) else none
  | .dup => if n = 1 then (match g.stack with | x :: rest => (if x.category = 1 then some { g with pc := g.pc + 1, stack := x :: x :: rest } else none) | _ => none) else none
  | .pop => if n = 1 then (match g.stack with | x :: rest => (if x.category = 1 then some { g with pc := g.pc + 1, stack := rest } else none) | _ => none) else none
  | .goto o => if n = 3 then (if 0 ≤ (g.pc : Int) + o then some { g with pc := ((g.pc : Int) + o).toNat } else none) else none
  | .ldc i => if n = 2 then (match own_look i ci with | some v => some { g with pc := g.pc + 2, stack := .int v :: g.stack } | none => none) else none
  | .ldc_w i => if n = 3 then (match own_look i ci with | some v => some { g with pc := g.pc + 3, stack := .int v :: g.stack } | none => none) else none
  | .ldc2_w i => if n = 3 then (match own_look i cl with | some v => some { g with pc := g.pc + 3, stack := .long v :: g.stack } | none => none) else none
  | .idiv => if n = 1 then (match g.stack with | .int y :: .int x :: rest => (if y = 0 then none else some { g with pc := g.pc + 1, stack := .int (x / y) :: rest }) | _ => none) else none
  | .irem => if n = 1 then (match g.stack with | .int y :: .int x :: rest => (if y = 0 then none else some { g with pc := g.pc + 1, stack := .int (x - (x / y) * y) :: rest }) | _ => none) else none
  | .ldiv => if n = 1 then (match g.stack with | .long y :: .long x :: rest => (if y = 0 then none else some { g with pc := g.pc + 1, stack := .long (x / y) :: rest }) | _ => none) else none
  | .lrem => if n = 1 then (match g.stack with | .long y :: .long x :: rest => (if y = 0 then none else some { g with pc := g.pc + 1, stack := .long (x - (x / y) * y) :: rest }) | _ => none) else none
  | _ => none
section OwnRun
variable {p : Program} {l : Launch} {e : Env} {R : Room} {s : State} {m : MethodId} {args : Array Value} {below : List Frame} {meth : Method} {c : Code} {T target : State} {locs : List Loc} {cells slots kc ks : Nat} {own : String} {ci : List (Nat × Int32)} {cl : List (Nat × Int64)} {Q : Option Value → Heap → List Loc → Prop}
set_option maxHeartbeats 4000000 in
theorem own_pstep_ok (X : Stand p l e R s m args below meth c T locs cells slots) (hx : p.tables.exec = Jvm.exec) (hown : s.vm.findClass own = some m.cls) (hci : ∀ i v, (i, v) ∈ ci → (Cond.constant own i v).before args s = true) (hcl : ∀ i v, (i, v) ∈ cl → (Cond.constantLong own i v).before args s = true)
    {g g' : JFrame} (hg : g.method = m) {i : Instr} {n : Nat} (hd : decode c.code g.pc = .ok (i, n)) (hp : own_pstep ci cl i n g = some g') : (∀ target, Steps p.tables e below (T.setTop g') target → Steps p.tables e below (T.setTop g) target) ∧ g'.method = m := by
  cases i
  all_goals first
    | (exact absurd hp (by intro q; cases q))
    | skip
  case iload_n k =>
    by_cases hn : n = 1
    · subst hn
      replace hp : (match g.locals[k.val]? with | some (.val (.int v)) => some { g with pc := g.pc + 1, stack := .int v :: g.stack } | _ => none) = some g' := hp
      split at hp
      · skip
        cases hp
        exact ⟨fun _ hr => XS.iloadN X.here hx hg hd (by assumption) hr, hg⟩
      · cases hp
    · exact absurd hp (by intro q; rw [show own_pstep ci cl (.iload_n k) n g = none from if_neg hn] at q; cases q)
  case iload k =>
    by_cases hn : n = 2
    · subst hn
      replace hp : (match g.locals[k]? with | some (.val (.int v)) => some { g with pc := g.pc + 2, stack := .int v :: g.stack } | _ => none) = some g' := hp
      split at hp
      · skip
        cases hp
        exact ⟨fun _ hr => XS.iload X.here hx hg hd (by assumption) hr, hg⟩
      · cases hp
    · exact absurd hp (by intro q; rw [show own_pstep ci cl (.iload k) n g = none from if_neg hn] at q; cases q)
  case lload_n k =>
    by_cases hn : n = 1
    · subst hn
      replace hp : (match g.locals[k.val]? with | some (.val (.long v)) => some { g with pc := g.pc + 1, stack := .long v :: g.stack } | _ => none) = some g' := hp
      split at hp
      · skip
        cases hp
        exact ⟨fun _ hr => XS.lloadN X.here hx hg hd (by assumption) hr, hg⟩
      · cases hp
    · exact absurd hp (by intro q; rw [show own_pstep ci cl (.lload_n k) n g = none from if_neg hn] at q; cases q)
  case lload k =>
    by_cases hn : n = 2
    · subst hn
      replace hp : (match g.locals[k]? with | some (.val (.long v)) => some { g with pc := g.pc + 2, stack := .long v :: g.stack } | _ => none) = some g' := hp
      split at hp
      · skip
        cases hp
        exact ⟨fun _ hr => XS.lload X.here hx hg hd (by assumption) hr, hg⟩
      · cases hp
    · exact absurd hp (by intro q; rw [show own_pstep ci cl (.lload k) n g = none from if_neg hn] at q; cases q)
  case aload_n k =>
    by_cases hn : n = 1
    · subst hn
      replace hp : (match g.locals[k.val]? with | some (.val v) => if v.isRef = true then some { g with pc := g.pc + 1, stack := v :: g.stack } else none | _ => none) = some g' := hp
      split at hp
      · skip
        split at hp
        · skip
          cases hp
          exact ⟨fun _ hr => XS.aloadN X.here hx hg hd (by assumption) (by assumption) hr, hg⟩
        · cases hp
      · cases hp
    · exact absurd hp (by intro q; rw [show own_pstep ci cl (.aload_n k) n g = none from if_neg hn] at q; cases q)
  case aload k =>
    by_cases hn : n = 2
    · subst hn
      replace hp : (match g.locals[k]? with | some (.val v) => if v.isRef = true then some { g with pc := g.pc + 2, stack := v :: g.stack } else none | _ => none) = some g' := hp
      split at hp
      · skip
        split at hp
        · skip
          cases hp
          exact ⟨fun _ hr => XS.aload X.here hx hg hd (by assumption) (by assumption) hr, hg⟩
        · cases hp
      · cases hp
    · exact absurd hp (by intro q; rw [show own_pstep ci cl (.aload k) n g = none from if_neg hn] at q; cases q)
  case istore_n k =>
    by_cases hn : n = 1
    · subst hn
      replace hp : (match g.stack with | .int x :: rest => (match storeLocals g.locals k.val (.int x) with | some l' => some { g with pc := g.pc + 1, stack := rest, locals := l' } | none => none) | _ => none) = some g' := hp
      split at hp
      · skip
        split at hp
        · skip
          cases hp
          exact ⟨fun _ hr => XS.istoreN X.here hx hg hd (by assumption) (by assumption) hr, hg⟩
        · cases hp
      · cases hp
    · exact absurd hp (by intro q; rw [show own_pstep ci cl (.istore_n k) n g = none from if_neg hn] at q; cases q)
  case istore k =>
    by_cases hn : n = 2
    · subst hn
      replace hp : (match g.stack with | .int x :: rest => (match storeLocals g.locals k (.int x) with | some l' => some { g with pc := g.pc + 2, stack := rest, locals := l' } | none => none) | _ => none) = some g' := hp
      split at hp
      · skip
        split at hp
        · skip
          cases hp
          exact ⟨fun _ hr => XS.istore X.here hx hg hd (by assumption) (by assumption) hr, hg⟩
        · cases hp
      · cases hp
    · exact absurd hp (by intro q; rw [show own_pstep ci cl (.istore k) n g = none from if_neg hn] at q; cases q)
  case lstore_n k =>
    by_cases hn : n = 1
    · subst hn
      replace hp : (match g.stack with | .long x :: rest => (match storeLocals g.locals k.val (.long x) with | some l' => some { g with pc := g.pc + 1, stack := rest, locals := l' } | none => none) | _ => none) = some g' := hp
      split at hp
      · skip
        split at hp
        · skip
          cases hp
          exact ⟨fun _ hr => XS.lstoreN X.here hx hg hd (by assumption) (by assumption) hr, hg⟩
        · cases hp
      · cases hp
    · exact absurd hp (by intro q; rw [show own_pstep ci cl (.lstore_n k) n g = none from if_neg hn] at q; cases q)
  case lstore k =>
    by_cases hn : n = 2
    · subst hn
      replace hp : (match g.stack with | .long x :: rest => (match storeLocals g.locals k (.long x) with | some l' => some { g with pc := g.pc + 2, stack := rest, locals := l' } | none => none) | _ => none) = some g' := hp
      split at hp
      · skip
        split at hp
        · skip
          cases hp
          exact ⟨fun _ hr => XS.lstore X.here hx hg hd (by assumption) (by assumption) hr, hg⟩
        · cases hp
      · cases hp
    · exact absurd hp (by intro q; rw [show own_pstep ci cl (.lstore k) n g = none from if_neg hn] at q; cases q)
  case astore_n k =>
    by_cases hn : n = 1
    · subst hn
      replace hp : (match g.stack with | x :: rest => (if x.isRef = true then (match storeLocals g.locals k.val x with | some l' => some { g with pc := g.pc + 1, stack := rest, locals := l' } | none => none) else none) | _ => none) = some g' := hp
      split at hp
      · skip
        split at hp
        · skip
          split at hp
          · skip
            cases hp
            exact ⟨fun _ hr => XS.astoreN X.here hx hg hd (by assumption) (by assumption) (by assumption) hr, hg⟩
          · cases hp
        · cases hp
      · cases hp
    · exact absurd hp (by intro q; rw [show own_pstep ci cl (.astore_n k) n g = none from if_neg hn] at q; cases q)
  case astore k =>
    by_cases hn : n = 2
    · subst hn
      replace hp : (match g.stack with | x :: rest => (if x.isRef = true then (match storeLocals g.locals k x with | some l' => some { g with pc := g.pc + 2, stack := rest, locals := l' } | none => none) else none) | _ => none) = some g' := hp
      split at hp
      · skip
        split at hp
        · skip
          split at hp
          · skip
            cases hp
            exact ⟨fun _ hr => XS.astore X.here hx hg hd (by assumption) (by assumption) (by assumption) hr, hg⟩
          · cases hp
        · cases hp
      · cases hp
    · exact absurd hp (by intro q; rw [show own_pstep ci cl (.astore k) n g = none from if_neg hn] at q; cases q)
  case iconst i =>
    by_cases hn : n = 1
    · subst hn
      replace hp : (some { g with pc := g.pc + 1, stack := .int (Int32.ofInt i) :: g.stack }) = some g' := hp
      cases hp
      exact ⟨fun _ hr => XS.iconst X.here hx hg hd hr, hg⟩
    · exact absurd hp (by intro q; rw [show own_pstep ci cl (.iconst i) n g = none from if_neg hn] at q; cases q)
  case bipush i =>
    by_cases hn : n = 2
    · subst hn
      replace hp : (some { g with pc := g.pc + 2, stack := .int (Int8.ofInt i).toInt32 :: g.stack }) = some g' := hp
      cases hp
      exact ⟨fun _ hr => XS.bipush X.here hx hg hd hr, hg⟩
    · exact absurd hp (by intro q; rw [show own_pstep ci cl (.bipush i) n g = none from if_neg hn] at q; cases q)
  case sipush i =>
    by_cases hn : n = 3
    · subst hn
      replace hp : (some { g with pc := g.pc + 3, stack := .int (Int16.ofInt i).toInt32 :: g.stack }) = some g' := hp
      cases hp
      exact ⟨fun _ hr => XS.sipush X.here hx hg hd hr, hg⟩
    · exact absurd hp (by intro q; rw [show own_pstep ci cl (.sipush i) n g = none from if_neg hn] at q; cases q)
  case lconst k =>
    by_cases hn : n = 1
    · subst hn
      replace hp : (some { g with pc := g.pc + 1, stack := .long (Int64.ofNat k) :: g.stack }) = some g' := hp
      cases hp
      exact ⟨fun _ hr => XS.lconst X.here hx hg hd hr, hg⟩
    · exact absurd hp (by intro q; rw [show own_pstep ci cl (.lconst k) n g = none from if_neg hn] at q; cases q)
  case aconst_null =>
    by_cases hn : n = 1
    · subst hn
      replace hp : (some { g with pc := g.pc + 1, stack := .null :: g.stack }) = some g' := hp
      cases hp
      exact ⟨fun _ hr => XS.aconstNull X.here hx hg hd hr, hg⟩
    · exact absurd hp (by intro q; rw [show own_pstep ci cl (.aconst_null) n g = none from if_neg hn] at q; cases q)
  case iadd =>
    by_cases hn : n = 1
    · subst hn
      replace hp : (match g.stack with | .int y :: .int x :: rest => some { g with pc := g.pc + 1, stack := .int (x + y) :: rest } | _ => none) = some g' := hp
      split at hp
      · skip
        cases hp
        exact ⟨fun _ hr => XS.iadd X.here hx hg hd (by assumption) hr, hg⟩
      · cases hp
    · exact absurd hp (by intro q; rw [show own_pstep ci cl (.iadd) n g = none from if_neg hn] at q; cases q)
  case ladd =>
    by_cases hn : n = 1
    · subst hn
      replace hp : (match g.stack with | .long y :: .long x :: rest => some { g with pc := g.pc + 1, stack := .long (x + y) :: rest } | _ => none) = some g' := hp
      split at hp
      · skip
        cases hp
        exact ⟨fun _ hr => XS.ladd X.here hx hg hd (by assumption) hr, hg⟩
      · cases hp
    · exact absurd hp (by intro q; rw [show own_pstep ci cl (.ladd) n g = none from if_neg hn] at q; cases q)
  case isub =>
    by_cases hn : n = 1
    · subst hn
      replace hp : (match g.stack with | .int y :: .int x :: rest => some { g with pc := g.pc + 1, stack := .int (x - y) :: rest } | _ => none) = some g' := hp
      split at hp
      · skip
        cases hp
        exact ⟨fun _ hr => XS.isub X.here hx hg hd (by assumption) hr, hg⟩
      · cases hp
    · exact absurd hp (by intro q; rw [show own_pstep ci cl (.isub) n g = none from if_neg hn] at q; cases q)
  case lsub =>
    by_cases hn : n = 1
    · subst hn
      replace hp : (match g.stack with | .long y :: .long x :: rest => some { g with pc := g.pc + 1, stack := .long (x - y) :: rest } | _ => none) = some g' := hp
      split at hp
      · skip
        cases hp
        exact ⟨fun _ hr => XS.lsub X.here hx hg hd (by assumption) hr, hg⟩
      · cases hp
    · exact absurd hp (by intro q; rw [show own_pstep ci cl (.lsub) n g = none from if_neg hn] at q; cases q)
  case imul =>
    by_cases hn : n = 1
    · subst hn
      replace hp : (match g.stack with | .int y :: .int x :: rest => some { g with pc := g.pc + 1, stack := .int (x * y) :: rest } | _ => none) = some g' := hp
      split at hp
      · skip
        cases hp
        exact ⟨fun _ hr => XS.imul X.here hx hg hd (by assumption) hr, hg⟩
      · cases hp
    · exact absurd hp (by intro q; rw [show own_pstep ci cl (.imul) n g = none from if_neg hn] at q; cases q)
  case lmul =>
    by_cases hn : n = 1
    · subst hn
      replace hp : (match g.stack with | .long y :: .long x :: rest => some { g with pc := g.pc + 1, stack := .long (x * y) :: rest } | _ => none) = some g' := hp
      split at hp
      · skip
        cases hp
        exact ⟨fun _ hr => XS.lmul X.here hx hg hd (by assumption) hr, hg⟩
      · cases hp
    · exact absurd hp (by intro q; rw [show own_pstep ci cl (.lmul) n g = none from if_neg hn] at q; cases q)
  case iand =>
    by_cases hn : n = 1
    · subst hn
      replace hp : (match g.stack with | .int y :: .int x :: rest => some { g with pc := g.pc + 1, stack := .int (x &&& y) :: rest } | _ => none) = some g' := hp
      split at hp
      · skip
        cases hp
        exact ⟨fun _ hr => XS.iand X.here hx hg hd (by assumption) hr, hg⟩
      · cases hp
    · exact absurd hp (by intro q; rw [show own_pstep ci cl (.iand) n g = none from if_neg hn] at q; cases q)
  case land =>
    by_cases hn : n = 1
    · subst hn
      replace hp : (match g.stack with | .long y :: .long x :: rest => some { g with pc := g.pc + 1, stack := .long (x &&& y) :: rest } | _ => none) = some g' := hp
      split at hp
      · skip
        cases hp
        exact ⟨fun _ hr => XS.land X.here hx hg hd (by assumption) hr, hg⟩
      · cases hp
    · exact absurd hp (by intro q; rw [show own_pstep ci cl (.land) n g = none from if_neg hn] at q; cases q)
  case ior =>
    by_cases hn : n = 1
    · subst hn
      replace hp : (match g.stack with | .int y :: .int x :: rest => some { g with pc := g.pc + 1, stack := .int (x ||| y) :: rest } | _ => none) = some g' := hp
      split at hp
      · skip
        cases hp
        exact ⟨fun _ hr => XS.ior X.here hx hg hd (by assumption) hr, hg⟩
      · cases hp
    · exact absurd hp (by intro q; rw [show own_pstep ci cl (.ior) n g = none from if_neg hn] at q; cases q)
  case lor =>
    by_cases hn : n = 1
    · subst hn
      replace hp : (match g.stack with | .long y :: .long x :: rest => some { g with pc := g.pc + 1, stack := .long (x ||| y) :: rest } | _ => none) = some g' := hp
      split at hp
      · skip
        cases hp
        exact ⟨fun _ hr => XS.lor X.here hx hg hd (by assumption) hr, hg⟩
      · cases hp
    · exact absurd hp (by intro q; rw [show own_pstep ci cl (.lor) n g = none from if_neg hn] at q; cases q)
  case ixor =>
    by_cases hn : n = 1
    · subst hn
      replace hp : (match g.stack with | .int y :: .int x :: rest => some { g with pc := g.pc + 1, stack := .int (x ^^^ y) :: rest } | _ => none) = some g' := hp
      split at hp
      · skip
        cases hp
        exact ⟨fun _ hr => XS.ixor X.here hx hg hd (by assumption) hr, hg⟩
      · cases hp
    · exact absurd hp (by intro q; rw [show own_pstep ci cl (.ixor) n g = none from if_neg hn] at q; cases q)
  case lxor =>
    by_cases hn : n = 1
    · subst hn
      replace hp : (match g.stack with | .long y :: .long x :: rest => some { g with pc := g.pc + 1, stack := .long (x ^^^ y) :: rest } | _ => none) = some g' := hp
      split at hp
      · skip
        cases hp
        exact ⟨fun _ hr => XS.lxor X.here hx hg hd (by assumption) hr, hg⟩
      · cases hp
    · exact absurd hp (by intro q; rw [show own_pstep ci cl (.lxor) n g = none from if_neg hn] at q; cases q)
  case ishl =>
    by_cases hn : n = 1
    · subst hn
      replace hp : (match g.stack with | .int y :: .int x :: rest => some { g with pc := g.pc + 1, stack := .int (x <<< (y &&& 31)) :: rest } | _ => none) = some g' := hp
      split at hp
      · skip
        cases hp
        exact ⟨fun _ hr => XS.ishl X.here hx hg hd (by assumption) hr, hg⟩
      · cases hp
    · exact absurd hp (by intro q; rw [show own_pstep ci cl (.ishl) n g = none from if_neg hn] at q; cases q)
  case ishr =>
    by_cases hn : n = 1
    · subst hn
      replace hp : (match g.stack with | .int y :: .int x :: rest => some { g with pc := g.pc + 1, stack := .int (x >>> (y &&& 31)) :: rest } | _ => none) = some g' := hp
      split at hp
      · skip
        cases hp
        exact ⟨fun _ hr => XS.ishr X.here hx hg hd (by assumption) hr, hg⟩
      · cases hp
    · exact absurd hp (by intro q; rw [show own_pstep ci cl (.ishr) n g = none from if_neg hn] at q; cases q)
  case iushr =>
    by_cases hn : n = 1
    · subst hn
      replace hp : (match g.stack with | .int y :: .int x :: rest => some { g with pc := g.pc + 1, stack := .int ((x.toUInt32 >>> (y &&& 31).toUInt32).toInt32) :: rest } | _ => none) = some g' := hp
      split at hp
      · skip
        cases hp
        exact ⟨fun _ hr => XS.iushr X.here hx hg hd (by assumption) hr, hg⟩
      · cases hp
    · exact absurd hp (by intro q; rw [show own_pstep ci cl (.iushr) n g = none from if_neg hn] at q; cases q)
  case lshl =>
    by_cases hn : n = 1
    · subst hn
      replace hp : (match g.stack with | .int y :: .long x :: rest => some { g with pc := g.pc + 1, stack := .long (x <<< (y &&& 0x3f).toInt64) :: rest } | _ => none) = some g' := hp
      split at hp
      · skip
        cases hp
        exact ⟨fun _ hr => XS.lshl X.here hx hg hd (by assumption) hr, hg⟩
      · cases hp
    · exact absurd hp (by intro q; rw [show own_pstep ci cl (.lshl) n g = none from if_neg hn] at q; cases q)
  case lshr =>
    by_cases hn : n = 1
    · subst hn
      replace hp : (match g.stack with | .int y :: .long x :: rest => some { g with pc := g.pc + 1, stack := .long (x >>> (y &&& 0x3f).toInt64) :: rest } | _ => none) = some g' := hp
      split at hp
      · skip
        cases hp
        exact ⟨fun _ hr => XS.lshr X.here hx hg hd (by assumption) hr, hg⟩
      · cases hp
    · exact absurd hp (by intro q; rw [show own_pstep ci cl (.lshr) n g = none from if_neg hn] at q; cases q)
  case lushr =>
    by_cases hn : n = 1
    · subst hn
      replace hp : (match g.stack with | .int y :: .long x :: rest => some { g with pc := g.pc + 1, stack := .long ((x.toUInt64 >>> (y &&& 0x3f).toInt64.toUInt64).toInt64) :: rest } | _ => none) = some g' := hp
      split at hp
      · skip
        cases hp
        exact ⟨fun _ hr => XS.lushr X.here hx hg hd (by assumption) hr, hg⟩
      · cases hp
    · exact absurd hp (by intro q; rw [show own_pstep ci cl (.lushr) n g = none from if_neg hn] at q; cases q)
  case lcmp =>
    by_cases hn : n = 1
    · subst hn
      replace hp : (match g.stack with | .long y :: .long x :: rest => some { g with pc := g.pc + 1, stack := .int (if x > y then 1 else if x = y then 0 else -1) :: rest } | _ => none) = some g' := hp
      split at hp
      · skip
        cases hp
        exact ⟨fun _ hr => XS.lcmp X.here hx hg hd (by assumption) hr, hg⟩
      · cases hp
    · exact absurd hp (by intro q; rw [show own_pstep ci cl (.lcmp) n g = none from if_neg hn] at q; cases q)
  case ineg =>
    by_cases hn : n = 1
    · subst hn
      replace hp : (match g.stack with | .int v :: rest => some { g with pc := g.pc + 1, stack := .int (-v) :: rest } | _ => none) = some g' := hp
      split at hp
      · skip
        cases hp
        exact ⟨fun _ hr => XS.ineg X.here hx hg hd (by assumption) hr, hg⟩
      · cases hp
    · exact absurd hp (by intro q; rw [show own_pstep ci cl (.ineg) n g = none from if_neg hn] at q; cases q)
  case lneg =>
    by_cases hn : n = 1
    · subst hn
      replace hp : (match g.stack with | .long v :: rest => some { g with pc := g.pc + 1, stack := .long (-v) :: rest } | _ => none) = some g' := hp
      split at hp
      · skip
        cases hp
        exact ⟨fun _ hr => XS.lneg X.here hx hg hd (by assumption) hr, hg⟩
      · cases hp
    · exact absurd hp (by intro q; rw [show own_pstep ci cl (.lneg) n g = none from if_neg hn] at q; cases q)
  case i2l =>
    by_cases hn : n = 1
    · subst hn
      replace hp : (match g.stack with | .int v :: rest => some { g with pc := g.pc + 1, stack := .long (v.toInt64) :: rest } | _ => none) = some g' := hp
      split at hp
      · skip
        cases hp
        exact ⟨fun _ hr => XS.i2l X.here hx hg hd (by assumption) hr, hg⟩
      · cases hp
    · exact absurd hp (by intro q; rw [show own_pstep ci cl (.i2l) n g = none from if_neg hn] at q; cases q)
  case l2i =>
    by_cases hn : n = 1
    · subst hn
      replace hp : (match g.stack with | .long v :: rest => some { g with pc := g.pc + 1, stack := .int (v.toInt32) :: rest } | _ => none) = some g' := hp
      split at hp
      · skip
        cases hp
        exact ⟨fun _ hr => XS.l2i X.here hx hg hd (by assumption) hr, hg⟩
      · cases hp
    · exact absurd hp (by intro q; rw [show own_pstep ci cl (.l2i) n g = none from if_neg hn] at q; cases q)
  case i2b =>
    by_cases hn : n = 1
    · subst hn
      replace hp : (match g.stack with | .int v :: rest => some { g with pc := g.pc + 1, stack := .int (v.toInt8.toInt32) :: rest } | _ => none) = some g' := hp
      split at hp
      · skip
        cases hp
        exact ⟨fun _ hr => XS.i2b X.here hx hg hd (by assumption) hr, hg⟩
      · cases hp
    · exact absurd hp (by intro q; rw [show own_pstep ci cl (.i2b) n g = none from if_neg hn] at q; cases q)
  case i2c =>
    by_cases hn : n = 1
    · subst hn
      replace hp : (match g.stack with | .int v :: rest => some { g with pc := g.pc + 1, stack := .int (v.toUInt32.toUInt16.toUInt32.toInt32) :: rest } | _ => none) = some g' := hp
      split at hp
      · skip
        cases hp
        exact ⟨fun _ hr => XS.i2c X.here hx hg hd (by assumption) hr, hg⟩
      · cases hp
    · exact absurd hp (by intro q; rw [show own_pstep ci cl (.i2c) n g = none from if_neg hn] at q; cases q)
  case i2s =>
    by_cases hn : n = 1
    · subst hn
      replace hp : (match g.stack with | .int v :: rest => some { g with pc := g.pc + 1, stack := .int (v.toInt16.toInt32) :: rest } | _ => none) = some g' := hp
      split at hp
      · skip
        cases hp
        exact ⟨fun _ hr => XS.i2s X.here hx hg hd (by assumption) hr, hg⟩
      · cases hp
    · exact absurd hp (by intro q; rw [show own_pstep ci cl (.i2s) n g = none from if_neg hn] at q; cases q)
  case iinc k cst =>
    by_cases hn : n = 3
    · subst hn
      replace hp : (match g.locals[k]? with | some (.val (.int x)) => (match storeLocals g.locals k (.int (x + Int32.ofInt cst)) with | some l' => some { g with pc := g.pc + 3, locals := l' } | none => none) | _ => none) = some g' := hp
      split at hp
      · skip
        split at hp
        · skip
          cases hp
          exact ⟨fun _ hr => XS.iinc X.here hx hg hd (by assumption) (by assumption) hr, hg⟩
        · cases hp
      · cases hp
    · exact absurd hp (by intro q; rw [show own_pstep ci cl (.iinc k cst) n g = none from if_neg hn] at q; cases q)
  case dup =>
    by_cases hn : n = 1
    · subst hn
      replace hp : (match g.stack with | x :: rest => (if x.category = 1 then some { g with pc := g.pc + 1, stack := x :: x :: rest } else none) | _ => none) = some g' := hp
      split at hp
      · skip
        split at hp
        · skip
          cases hp
          exact ⟨fun _ hr => XS.dup X.here hx hg hd (by assumption) (by assumption) hr, hg⟩
        · cases hp
      · cases hp
    · exact absurd hp (by intro q; rw [show own_pstep ci cl (.dup) n g = none from if_neg hn] at q; cases q)
  case pop =>
    by_cases hn : n = 1
    · subst hn
      replace hp : (match g.stack with | x :: rest => (if x.category = 1 then some { g with pc := g.pc + 1, stack := rest } else none) | _ => none) = some g' := hp
      split at hp
      · skip
        split at hp
        · skip
          cases hp
          exact ⟨fun _ hr => XS.pop X.here hx hg hd (by assumption) (by assumption) hr, hg⟩
        · cases hp
      · cases hp
    · exact absurd hp (by intro q; rw [show own_pstep ci cl (.pop) n g = none from if_neg hn] at q; cases q)
  case goto o =>
    by_cases hn : n = 3
    · subst hn
      replace hp : (if 0 ≤ (g.pc : Int) + o then some { g with pc := ((g.pc : Int) + o).toNat } else none) = some g' := hp
      split at hp
      · skip
        cases hp
        exact ⟨fun _ hr => XS.goto X.here hx hg rfl hd (by assumption) rfl hr, hg⟩
      · cases hp
    · exact absurd hp (by intro q; rw [show own_pstep ci cl (.goto o) n g = none from if_neg hn] at q; cases q)
  case ldc i =>
    by_cases hn : n = 2
    · subst hn
      replace hp : (match own_look i ci with | some v => some { g with pc := g.pc + 2, stack := .int v :: g.stack } | none => none) = some g' := hp
      split at hp
      · skip
        cases hp
        exact ⟨fun _ hr => X.ldcInt hx hown (hci _ _ (own_look_mem (by assumption))) hg hd _ hr, hg⟩
      · cases hp
    · exact absurd hp (by intro q; rw [show own_pstep ci cl (.ldc i) n g = none from if_neg hn] at q; cases q)
  case ldc_w i =>
    by_cases hn : n = 3
    · subst hn
      replace hp : (match own_look i ci with | some v => some { g with pc := g.pc + 3, stack := .int v :: g.stack } | none => none) = some g' := hp
      split at hp
      · skip
        cases hp
        exact ⟨fun _ hr => X.ldcwInt hx hown (hci _ _ (own_look_mem (by assumption))) hg hd _ hr, hg⟩
      · cases hp
    · exact absurd hp (by intro q; rw [show own_pstep ci cl (.ldc_w i) n g = none from if_neg hn] at q; cases q)
  case ldc2_w i =>
    by_cases hn : n = 3
    · subst hn
      replace hp : (match own_look i cl with | some v => some { g with pc := g.pc + 3, stack := .long v :: g.stack } | none => none) = some g' := hp
      split at hp
      · skip
        cases hp
        exact ⟨fun _ hr => X.ldc2Long hx hown (hcl _ _ (own_look_mem (by assumption))) hg hd _ hr, hg⟩
      · cases hp
    · exact absurd hp (by intro q; rw [show own_pstep ci cl (.ldc2_w i) n g = none from if_neg hn] at q; cases q)
  case idiv =>
    by_cases hn : n = 1
    · subst hn
      replace hp : (match g.stack with | .int y :: .int x :: rest => (if y = 0 then none else some { g with pc := g.pc + 1, stack := .int (x / y) :: rest }) | _ => none) = some g' := hp
      split at hp
      · skip
        split at hp
        · cases hp
        · cases hp; exact ⟨fun _ hr => XS.idiv X.here hx hg hd (by assumption) (by assumption) hr, hg⟩
      · cases hp
    · exact absurd hp (by intro q; rw [show own_pstep ci cl (.idiv) n g = none from if_neg hn] at q; cases q)
  case irem =>
    by_cases hn : n = 1
    · subst hn
      replace hp : (match g.stack with | .int y :: .int x :: rest => (if y = 0 then none else some { g with pc := g.pc + 1, stack := .int (x - (x / y) * y) :: rest }) | _ => none) = some g' := hp
      split at hp
      · skip
        split at hp
        · cases hp
        · cases hp; exact ⟨fun _ hr => XS.irem X.here hx hg hd (by assumption) (by assumption) hr, hg⟩
      · cases hp
    · exact absurd hp (by intro q; rw [show own_pstep ci cl (.irem) n g = none from if_neg hn] at q; cases q)
  case ldiv =>
    by_cases hn : n = 1
    · subst hn
      replace hp : (match g.stack with | .long y :: .long x :: rest => (if y = 0 then none else some { g with pc := g.pc + 1, stack := .long (x / y) :: rest }) | _ => none) = some g' := hp
      split at hp
      · skip
        split at hp
        · cases hp
        · cases hp; exact ⟨fun _ hr => XS.ldiv X.here hx hg hd (by assumption) (by assumption) hr, hg⟩
      · cases hp
    · exact absurd hp (by intro q; rw [show own_pstep ci cl (.ldiv) n g = none from if_neg hn] at q; cases q)
  case lrem =>
    by_cases hn : n = 1
    · subst hn
      replace hp : (match g.stack with | .long y :: .long x :: rest => (if y = 0 then none else some { g with pc := g.pc + 1, stack := .long (x - (x / y) * y) :: rest }) | _ => none) = some g' := hp
      split at hp
      · skip
        split at hp
        · cases hp
        · cases hp; exact ⟨fun _ hr => XS.lrem X.here hx hg hd (by assumption) (by assumption) hr, hg⟩
      · cases hp
    · exact absurd hp (by intro q; rw [show own_pstep ci cl (.lrem) n g = none from if_neg hn] at q; cases q)
def own_decs (code : ByteArray) (L : List (Nat × Instr × Nat)) : Bool := L.all fun q => decide (decode code q.1 = .ok (q.2.1, q.2.2))
def own_prun (ci : List (Nat × Int32)) (cl : List (Nat × Int64)) : List (Nat × Instr × Nat) → JFrame → Option JFrame
  | [], g => some g
  | (pc, i, n) :: r, g => if g.pc = pc then (match own_pstep ci cl i n g with | some g' => own_prun ci cl r g' | none => none) else none
theorem own_prun_ok (X : Stand p l e R s m args below meth c T locs cells slots) (hx : p.tables.exec = Jvm.exec) (hown : s.vm.findClass own = some m.cls) (hci : ∀ i v, (i, v) ∈ ci → (Cond.constant own i v).before args s = true) (hcl : ∀ i v, (i, v) ∈ cl → (Cond.constantLong own i v).before args s = true) {code : ByteArray} (hby : c.code = code) :
    ∀ (L : List (Nat × Instr × Nat)) (g g' : JFrame), g.method = m → own_decs code L = true → own_prun ci cl L g = some g' → Steps p.tables e below (T.setTop g') target → Steps p.tables e below (T.setTop g) target := by
  intro L
  induction L with
  | nil => intro g g' _ _ hp hr; cases hp; exact hr
  | cons q r ih =>
    intro g g' hg hd hp hr
    obtain ⟨pc, i, n⟩ := q
    have hd' : decide (decode code pc = .ok (i, n)) = true ∧ own_decs code r = true := by
      have : (decide (decode code pc = .ok (i, n)) && own_decs code r) = true := hd
      simpa using this
    replace hp : (if g.pc = pc then (match own_pstep ci cl i n g with | some g' => own_prun ci cl r g' | none => none) else none) = some g' := hp
    by_cases hpc : g.pc = pc
    · rw [if_pos hpc] at hp
      cases hs : own_pstep ci cl i n g with
      | none => rw [hs] at hp; cases hp
      | some g1 =>
        rw [hs] at hp
        have q := own_pstep_ok X hx hown hci hcl hg (i := i) (n := n) (by rw [hby, hpc]; exact of_decide_eq_true hd'.1) hs
        exact q.1 _ (ih g1 g' q.2 hd'.2 hp hr)
    · rw [if_neg hpc] at hp; cases hp
theorem Goes.run (X : Stand p l e R s m args below meth c T locs cells slots) (hx : p.tables.exec = Jvm.exec) (hown : s.vm.findClass own = some m.cls) (hci : ∀ i v, (i, v) ∈ ci → (Cond.constant own i v).before args s = true) (hcl : ∀ i v, (i, v) ∈ cl → (Cond.constantLong own i v).before args s = true) {code : ByteArray} (hby : c.code = code)
    {L : List (Nat × Instr × Nat)} (hd : own_decs code L = true) {g g' : JFrame} (hg : g.method = m) (hp : own_prun ci cl L g = some g') (h : Goes p e below s Q kc ks (T.setTop g')) : Goes p e below s Q kc ks (T.setTop g) :=
  Goes.st (fun _ k => own_prun_ok X hx hown hci hcl hby L g g' hg hd hp k) h
theorem own_ci0 {α : Type} {P : Nat → α → Prop} : ∀ i v, (i, v) ∈ ([] : List (Nat × α)) → P i v := fun _ _ q => nomatch q
theorem own_ciS {α : Type} {P : Nat → α → Prop} {j : Nat} {w : α} {L : List (Nat × α)} (h : P j w) (r : ∀ i v, (i, v) ∈ L → P i v) : ∀ i v, (i, v) ∈ (j, w) :: L → P i v := fun i v q => (List.mem_cons.mp q).elim (fun z => by cases z; exact h) (r i v)
end OwnRun
theorem own_rem32 (x y : Int32) : (x - (x / y) * y).toInt = x.toInt.tmod y.toInt := by
  have a := (x % y).toInt_lt; have b := (x % y).le_toInt
  rw [Int32.toInt_mod] at a b
  rw [Int32.toInt_sub, Int32.toInt_mul, Int32.toInt_div, Int.bmod_mul_bmod, Int.sub_bmod_bmod, Int.mul_comm, ← Int.tmod_def]
  exact Jvm.Kit.bmod32 b a
section OwnNums
variable {x y : Int64} {u v : Int32} {a b : Int}
theorem own_r32 (hx : u.toInt = a) (hy : v.toInt = b) (h0 : 0 ≤ a) : (u - (u / v) * v).toInt = a % b := by subst hx hy; rw [own_rem32, Int.tmod_eq_emod_of_nonneg h0]
theorem own_r64 (hx : x.toInt = a) (hy : y.toInt = b) (h0 : 0 ≤ a) : (x - (x / y) * y).toInt = a % b := by subst hx hy; rw [Jvm.Kit.i64_rem, Int.tmod_eq_emod_of_nonneg h0]
theorem own_mul64 (hx : x.toInt = a) (hy : y.toInt = b) (h1 : -2 ^ 63 ≤ a * b) (h2 : a * b < 2 ^ 63) : (x * y).toInt = a * b := by subst hx hy; exact Jvm.Kit.i64_mul h1 h2
theorem own_mul32 (hx : u.toInt = a) (hy : v.toInt = b) (h1 : -2 ^ 31 ≤ a * b) (h2 : a * b < 2 ^ 31) : (u * v).toInt = a * b := by subst hx hy; exact Jvm.Kit.i32_mul h1 h2
theorem own_add64 (hx : x.toInt = a) (hy : y.toInt = b) (h1 : -2 ^ 63 ≤ a + b) (h2 : a + b < 2 ^ 63) : (x + y).toInt = a + b := by subst hx hy; exact Jvm.Kit.i64_add h1 h2
theorem own_add32 (hx : u.toInt = a) (hy : v.toInt = b) (h1 : -2 ^ 31 ≤ a + b) (h2 : a + b < 2 ^ 31) : (u + v).toInt = a + b := by subst hx hy; exact Jvm.Kit.i32_add h1 h2
theorem own_sub64 (hx : x.toInt = a) (hy : y.toInt = b) (h1 : -2 ^ 63 ≤ a - b) (h2 : a - b < 2 ^ 63) : (x - y).toInt = a - b := by subst hx hy; exact Jvm.Kit.i64_sub h1 h2
theorem own_sub32 (hx : u.toInt = a) (hy : v.toInt = b) (h1 : -2 ^ 31 ≤ a - b) (h2 : a - b < 2 ^ 31) : (u - v).toInt = a - b := by subst hx hy; exact Jvm.Kit.i32_sub h1 h2
theorem own_i2l (hx : u.toInt = a) : u.toInt64.toInt = a := by subst hx; exact Jvm.Kit.i64_of_i32 u
theorem own_lt64 (hx : x.toInt = a) (hy : y.toInt = b) : x < y ↔ a < b := by rw [Int64.lt_iff_toInt_lt, hx, hy]
theorem own_lt32 (hx : u.toInt = a) (hy : v.toInt = b) : u < v ↔ a < b := by rw [Int32.lt_iff_toInt_lt, hx, hy]
theorem own_eq64 (hx : x.toInt = a) (hy : y.toInt = b) : x = y ↔ a = b := by rw [← Int64.toInt_inj, hx, hy]
theorem own_eq32 (hx : u.toInt = a) (hy : v.toInt = b) : u = v ↔ a = b := by rw [← Int32.toInt_inj, hx, hy]
theorem own_m32 (u : Int32) (m : Int32) {k : Nat} (hk : k < 32) (hm : m.toBitVec.toNat = 2 ^ k - 1) : ∃ a : Int, (u &&& m).toInt = a ∧ 0 ≤ a ∧ a < 2 ^ k ∧ a = u.toInt % 2 ^ k := by
  refine ⟨_, Jvm.Kit.i32_mask u m hk hm, Int.emod_nonneg _ (Int.ne_of_gt (Int.pow_pos (by decide))), Int.emod_lt_of_pos _ (Int.pow_pos (by decide)), rfl⟩
theorem own_m64 (x : Int64) (m : Int64) {k : Nat} (hk : k < 64) (hm : m.toBitVec.toNat = 2 ^ k - 1) : ∃ a : Int, (x &&& m).toInt = a ∧ 0 ≤ a ∧ a < 2 ^ k ∧ a = x.toInt % 2 ^ k := by
  refine ⟨_, Jvm.Kit.i64_mask x m hk hm, Int.emod_nonneg _ (Int.ne_of_gt (Int.pow_pos (by decide))), Int.emod_lt_of_pos _ (Int.pow_pos (by decide)), rfl⟩
theorem own_nm {P : Int → Prop} {z : Int} (h : P z) : ∃ a, a = z ∧ P a := ⟨z, rfl, h⟩
end OwnNums
theorem own_nat32 {u : Int32} {a : Int} (hu : u.toInt = a) (h0 : 0 ≤ a) {N : Nat} (h1 : a < N) : ∃ n : Nat, n < N ∧ u = Int32.ofNat n ∧ a = (n : Int) := by
  have q := u.toInt_lt
  refine ⟨a.toNat, by omega, ?_, by omega⟩
  apply Int32.toInt_inj.mp
  rw [Int32.toInt_ofNat_of_lt (by omega), hu]; omega
theorem own_bv64 {x : Int64} {a : Int} (hx : x.toInt = a) (h0 : 0 ≤ a) : (x.toBitVec.toNat : Int) = a := by
  have e : x.toInt = x.toBitVec.toInt := rfl
  have hb := x.toBitVec.isLt
  rw [e, BitVec.toInt_eq_toNat_cond] at hx
  split at hx <;> omega
theorem own_bv32 {x : Int32} {a : Int} (hx : x.toInt = a) (h0 : 0 ≤ a) : (x.toBitVec.toNat : Int) = a := by
  have e : x.toInt = x.toBitVec.toInt := rfl
  have hb := x.toBitVec.isLt
  rw [e, BitVec.toInt_eq_toNat_cond] at hx
  split at hx <;> omega
theorem own_shn (y : Int32) : ((y &&& 0x3f).toInt64.toUInt64).toNat < 64 := by
  obtain ⟨a, h1, h2, h3, -⟩ := own_m32 y (0x3f : Int32) (k := 6) (by decide) (by decide)
  have h4 := own_bv64 (own_i2l h1) h2
  have e : ((y &&& 0x3f).toInt64.toUInt64).toNat = (y &&& 0x3f).toInt64.toBitVec.toNat := rfl
  rw [e]
  omega
theorem own_ushr0 {x : Int64} {a : Int} (hx : x.toInt = a) (h0 : 0 ≤ a) (y : Int32) : ∃ b : Int, ((x.toUInt64 >>> (y &&& 0x3f).toInt64.toUInt64).toInt64).toInt = b ∧ 0 ≤ b ∧ b ≤ a := by
  refine ⟨_, Jvm.Kit.i64_lushr (by rw [Jvm.Kit.i64_nonneg, hx]; exact h0) rfl (own_shn y), ?_, ?_⟩
  · rw [hx]; exact Int.ediv_nonneg h0 (Int.le_of_lt (Int.pow_pos (by decide)))
  · rw [hx]; exact Int.ediv_le_self _ h0
theorem own_ushrk {x : Int64} {a : Int} (hx : x.toInt = a) (h0 : 0 ≤ a) {n : UInt64} {k : Nat} (hn : n.toNat = k) (hk : k < 64) {d : Int} (hd : (2 : Int) ^ k = d) : ((x.toUInt64 >>> n).toInt64).toInt = a / d := by
  rw [Jvm.Kit.i64_lushr (by rw [Jvm.Kit.i64_nonneg, hx]; exact h0) hn hk, hx, hd]
theorem own_ofbv32 {x : Int32} (h : x.toBitVec.toNat < 2 ^ 31) : x.toInt = (x.toBitVec.toNat : Int) := by
  have e : x.toInt = x.toBitVec.toInt := rfl
  rw [e, BitVec.toInt_eq_toNat_cond, if_pos (by omega)]
theorem own_xor32 {x y : Int32} {a b : Int} (hx : x.toInt = a) (hy : y.toInt = b) (h0 : 0 ≤ a) (h1 : 0 ≤ b) : ∃ c : Int, (x ^^^ y).toInt = c ∧ 0 ≤ c := by
  have p := own_bv32 hx h0; have q := own_bv32 hy h1
  have r := x.toInt_lt; have s := y.toInt_lt
  have e : (x ^^^ y).toBitVec.toNat = x.toBitVec.toNat ^^^ y.toBitVec.toNat := by simp [Int32.toBitVec_xor, BitVec.toNat_xor]
  have l : (x ^^^ y).toBitVec.toNat < 2 ^ 31 := by rw [e]; exact Nat.xor_lt_two_pow (by omega) (by omega)
  exact ⟨_, own_ofbv32 l, Int.natCast_nonneg _⟩
theorem d1_0 : decode prog_18_method_34_code 0 = .ok (.iload_n 0, 1) := by decide +kernel
theorem d1_1 : decode prog_18_method_34_code 1 = .ok (.bipush 127, 2) := by decide +kernel
theorem d1_3 : decode prog_18_method_34_code 3 = .ok (.if_icmp .gt 8, 3) := by decide +kernel
theorem d1_6 : decode prog_18_method_34_code 6 = .ok (.iconst 1, 1) := by decide +kernel
theorem d1_7 : decode prog_18_method_34_code 7 = .ok (.istore_n 1, 1) := by decide +kernel
theorem d1_8 : decode prog_18_method_34_code 8 = .ok (.goto 53, 3) := by decide +kernel
theorem d1_11 : decode prog_18_method_34_code 11 = .ok (.iload_n 0, 1) := by decide +kernel
theorem d1_12 : decode prog_18_method_34_code 12 = .ok (.sipush 194, 3) := by decide +kernel
theorem d1_15 : decode prog_18_method_34_code 15 = .ok (.if_icmp .ge 8, 3) := by decide +kernel
theorem d1_18 : decode prog_18_method_34_code 18 = .ok (.iconst 0, 1) := by decide +kernel
theorem d1_19 : decode prog_18_method_34_code 19 = .ok (.istore_n 1, 1) := by decide +kernel
theorem d1_20 : decode prog_18_method_34_code 20 = .ok (.goto 41, 3) := by decide +kernel
theorem d1_23 : decode prog_18_method_34_code 23 = .ok (.iload_n 0, 1) := by decide +kernel
theorem d1_24 : decode prog_18_method_34_code 24 = .ok (.sipush 224, 3) := by decide +kernel
theorem d1_27 : decode prog_18_method_34_code 27 = .ok (.if_icmp .ge 8, 3) := by decide +kernel
theorem d1_30 : decode prog_18_method_34_code 30 = .ok (.iconst 2, 1) := by decide +kernel
theorem d1_31 : decode prog_18_method_34_code 31 = .ok (.istore_n 1, 1) := by decide +kernel
theorem d1_32 : decode prog_18_method_34_code 32 = .ok (.goto 29, 3) := by decide +kernel
theorem d1_35 : decode prog_18_method_34_code 35 = .ok (.iload_n 0, 1) := by decide +kernel
theorem d1_36 : decode prog_18_method_34_code 36 = .ok (.sipush 240, 3) := by decide +kernel
theorem d1_39 : decode prog_18_method_34_code 39 = .ok (.if_icmp .ge 8, 3) := by decide +kernel
theorem d1_42 : decode prog_18_method_34_code 42 = .ok (.iconst 3, 1) := by decide +kernel
theorem d1_43 : decode prog_18_method_34_code 43 = .ok (.istore_n 1, 1) := by decide +kernel
theorem d1_44 : decode prog_18_method_34_code 44 = .ok (.goto 17, 3) := by decide +kernel
theorem d1_47 : decode prog_18_method_34_code 47 = .ok (.iload_n 0, 1) := by decide +kernel
theorem d1_48 : decode prog_18_method_34_code 48 = .ok (.sipush 245, 3) := by decide +kernel
theorem d1_51 : decode prog_18_method_34_code 51 = .ok (.if_icmp .ge 8, 3) := by decide +kernel
theorem d1_54 : decode prog_18_method_34_code 54 = .ok (.iconst 4, 1) := by decide +kernel
theorem d1_55 : decode prog_18_method_34_code 55 = .ok (.istore_n 1, 1) := by decide +kernel
theorem d1_56 : decode prog_18_method_34_code 56 = .ok (.goto 5, 3) := by decide +kernel
theorem d1_59 : decode prog_18_method_34_code 59 = .ok (.iconst 0, 1) := by decide +kernel
theorem d1_60 : decode prog_18_method_34_code 60 = .ok (.istore_n 1, 1) := by decide +kernel
theorem d1_61 : decode prog_18_method_34_code 61 = .ok (.iload_n 1, 1) := by decide +kernel
theorem d1_62 : decode prog_18_method_34_code 62 = .ok (.ireturn, 1) := by decide +kernel
theorem pn1 : plainName "com/example/terseref/terseref/core/CborReader" = true := by first | (simp [plainName, overriddenIn]; done) | decide +kernel
theorem ef1 (m : MethodId) (x0 : Int32) : entryFrame m #[(.int x0)] 2 = (mkF m 0 #[.val (.int x0), .unset] []) := by first | (simp [entryFrame, mkF, argsToLocals, Value.category]; done) | rfl
def j1_61_1 (x0 : Int32) : Int32 := (if (127 : Int32) < x0 then (if x0 < (194 : Int32) then (0 : Int32) else (if x0 < (224 : Int32) then (2 : Int32) else (if x0 < (240 : Int32) then (3 : Int32) else (if x0 < (245 : Int32) then (4 : Int32) else (0 : Int32))))) else (1 : Int32))
def r1 (x0 : Int32) : Int32 := (j1_61_1 x0)
set_option maxRecDepth 65536 in
set_option maxHeartbeats 40000000 in
theorem rm1 (l : Launch) (Z : State) (a0 : Array Value) (hw : ∀ d ∈ tables_1, d.before a0 Z = true) (ws : List Jvm.Cond) (x0 : Int32) (h0 : Heap) (n0 : Nat) (Z0 : n0 ≤ h0.size) :
    MetFree l (⟨"com/example/terseref/terseref/core/CborReader", "utf8Length", "(I)I"⟩ : MethodName) (head1 (Jvm.Cond.code (⟨"com/example/terseref/terseref/core/CborReader", "utf8Length", "(I)I"⟩ : MethodName) prog_18_method_34_code 2 (some .int) :: ws) ({ frames := 0, cells := 0, slots := 0, locals := 0 } : Room)) (fun a U => a = #[(.int x0)] ∧ Z.Warmed39 U.vm ∧ U.heap = h0) (fun _ _ _ _ _ => True) (fun _ U o U' => ∃ v L, o = .returned v ∧ (QP (some (.int (r1 x0))) h0 n0) v U'.heap L ∧ FrameEnd U o U' L ({ frames := 0, cells := 0, slots := 0, locals := 0 } : Room).cells ({ frames := 0, cells := 0, slots := 0, locals := 0 } : Room).slots) := by
  refine MetFree.of_bodySF (plainFor_of_name pn1) hisR ?_
  intro p e s m args below meth c s₁ Bd hml0 hP hK
  obtain ⟨rfl, hZ, hh⟩ := hP
  have hx := Bd.exec
  have hby := Bd.bytes
  have hml : c.maxLocals = 2 := hml0
  have hlk : meth.locks = false := BodyLoose.notSynchronized Bd
  have hown : s.vm.findClass "com/example/terseref/terseref/core/CborReader" = some m.cls := findClass_of_methodNamed Bd.named
  have hnm := (name_of_methodNamed Bd.named Bd.method).1
  have hci : ∀ i v, (i, v) ∈ ([] : List (Nat × Int32)) → (Jvm.Cond.constant "com/example/terseref/terseref/core/CborReader" i v).before #[(.int x0)] s = true := own_ci0
  have hcl : ∀ i v, (i, v) ∈ ([] : List (Nat × Int64)) → (Jvm.Cond.constantLong "com/example/terseref/terseref/core/CborReader" i v).before #[(.int x0)] s = true := own_ci0
  have X0 : Stand p l e ({ frames := 0, cells := 0, slots := 0, locals := 0 } : Room) s m #[(.int x0)] below meth c s₁ [] 0 0 := Stand.of_body Bd
  have e0 : s₁.heap = h0 := by rw [← hh, Bd.state]; rfl
  have N0 := Fr.nil n0
  show Goes p e below s (QP (some (.int (r1 x0))) h0 n0) ({ frames := 0, cells := 0, slots := 0, locals := 0 } : Room).cells ({ frames := 0, cells := 0, slots := 0, locals := 0 } : Room).slots (s₁.setTop (entryFrame m #[(.int x0)] 2))
  refine Goes.cast (ef1 m x0) ?_
  refine Goes.run X0 hx hown hci hcl hby (L := [(0, .iload_n 0, 1), (1, .bipush 127, 2)]) (by decide +kernel) rfl (g' := (mkF m 3 #[.val (.int x0), .unset] [(.int (127 : Int32)), (.int x0)])) rfl ?_
  have jn61_6 : Goes p e below s (QP (some (.int (r1 x0))) h0 n0) ({ frames := 0, cells := 0, slots := 0, locals := 0 } : Room).cells ({ frames := 0, cells := 0, slots := 0, locals := 0 } : Room).slots (s₁.setTop (mkF m 61 #[.val (.int x0), .val (.int (j1_61_1 x0))] [])) := by
    refine Goes.run X0 hx hown hci hcl hby (L := [(61, .iload_n 1, 1)]) (by decide +kernel) rfl (g' := (mkF m 62 #[.val (.int x0), .val (.int (j1_61_1 x0))] [(.int (j1_61_1 x0))])) rfl ?_
    exact Goes.retI X0 hx hlk Bd.returns (hb hby d1_62) ⟨(congrArg (fun z => some (Value.int z)) (show (r1 x0) = (j1_61_1 x0) from rfl).symm), N0, e0⟩ (by decide) (by decide)
  by_cases hc3_1 : (127 : Int32) < x0
  · skip
    refine Goes.st (B := s₁.setTop (mkF m 11 #[.val (.int x0), .unset] [])) (fun t k => ?_) ?_
    · refine XS.icmpYes X0.here hx rfl (pc0 := 3) (pc' := 11) rfl (hb hby d1_3) rfl (tlt hc3_1).2.2.1 (by decide) (by decide) ?_
      exact k
    refine Goes.run X0 hx hown hci hcl hby (L := [(11, .iload_n 0, 1), (12, .sipush 194, 3)]) (by decide +kernel) rfl (g' := (mkF m 15 #[.val (.int x0), .unset] [(.int (194 : Int32)), (.int x0)])) rfl ?_
    by_cases hc15_7 : x0 < (194 : Int32)
    · skip
      refine Goes.st (B := s₁.setTop (mkF m 18 #[.val (.int x0), .unset] [])) (fun t k => ?_) ?_
      · refine XS.icmpNo X0.here hx rfl (hb hby d1_15) rfl (tlt hc15_7).2.1 ?_
        exact k
      refine Goes.run X0 hx hown hci hcl hby (L := [(18, .iconst 0, 1), (19, .istore_n 1, 1), (20, .goto 41, 3)]) (by decide +kernel) rfl (g' := (mkF m 61 #[.val (.int x0), .val (.int (0 : Int32))] [])) rfl ?_
      have q := jn61_6
      rw [show (j1_61_1 x0) = (0 : Int32) from ((if_pos hc3_1).trans (if_pos hc15_7))] at q
      exact q
    · skip
      refine Goes.st (B := s₁.setTop (mkF m 23 #[.val (.int x0), .unset] [])) (fun t k => ?_) ?_
      · refine XS.icmpYes X0.here hx rfl (pc0 := 15) (pc' := 23) rfl (hb hby d1_15) rfl (flt hc15_7).2.1 (by decide) (by decide) ?_
        exact k
      refine Goes.run X0 hx hown hci hcl hby (L := [(23, .iload_n 0, 1), (24, .sipush 224, 3)]) (by decide +kernel) rfl (g' := (mkF m 27 #[.val (.int x0), .unset] [(.int (224 : Int32)), (.int x0)])) rfl ?_
      by_cases hc27_8 : x0 < (224 : Int32)
      · skip
        refine Goes.st (B := s₁.setTop (mkF m 30 #[.val (.int x0), .unset] [])) (fun t k => ?_) ?_
        · refine XS.icmpNo X0.here hx rfl (hb hby d1_27) rfl (tlt hc27_8).2.1 ?_
          exact k
        refine Goes.run X0 hx hown hci hcl hby (L := [(30, .iconst 2, 1), (31, .istore_n 1, 1), (32, .goto 29, 3)]) (by decide +kernel) rfl (g' := (mkF m 61 #[.val (.int x0), .val (.int (2 : Int32))] [])) rfl ?_
        have q := jn61_6
        rw [show (j1_61_1 x0) = (2 : Int32) from (((if_pos hc3_1).trans (if_neg hc15_7)).trans (if_pos hc27_8))] at q
        exact q
      · skip
        refine Goes.st (B := s₁.setTop (mkF m 35 #[.val (.int x0), .unset] [])) (fun t k => ?_) ?_
        · refine XS.icmpYes X0.here hx rfl (pc0 := 27) (pc' := 35) rfl (hb hby d1_27) rfl (flt hc27_8).2.1 (by decide) (by decide) ?_
          exact k
        refine Goes.run X0 hx hown hci hcl hby (L := [(35, .iload_n 0, 1), (36, .sipush 240, 3)]) (by decide +kernel) rfl (g' := (mkF m 39 #[.val (.int x0), .unset] [(.int (240 : Int32)), (.int x0)])) rfl ?_
        by_cases hc39_9 : x0 < (240 : Int32)
        · skip
          refine Goes.st (B := s₁.setTop (mkF m 42 #[.val (.int x0), .unset] [])) (fun t k => ?_) ?_
          · refine XS.icmpNo X0.here hx rfl (hb hby d1_39) rfl (tlt hc39_9).2.1 ?_
            exact k
          refine Goes.run X0 hx hown hci hcl hby (L := [(42, .iconst 3, 1), (43, .istore_n 1, 1), (44, .goto 17, 3)]) (by decide +kernel) rfl (g' := (mkF m 61 #[.val (.int x0), .val (.int (3 : Int32))] [])) rfl ?_
          have q := jn61_6
          rw [show (j1_61_1 x0) = (3 : Int32) from ((((if_pos hc3_1).trans (if_neg hc15_7)).trans (if_neg hc27_8)).trans (if_pos hc39_9))] at q
          exact q
        · skip
          refine Goes.st (B := s₁.setTop (mkF m 47 #[.val (.int x0), .unset] [])) (fun t k => ?_) ?_
          · refine XS.icmpYes X0.here hx rfl (pc0 := 39) (pc' := 47) rfl (hb hby d1_39) rfl (flt hc39_9).2.1 (by decide) (by decide) ?_
            exact k
          refine Goes.run X0 hx hown hci hcl hby (L := [(47, .iload_n 0, 1), (48, .sipush 245, 3)]) (by decide +kernel) rfl (g' := (mkF m 51 #[.val (.int x0), .unset] [(.int (245 : Int32)), (.int x0)])) rfl ?_
          by_cases hc51_10 : x0 < (245 : Int32)
          · skip
            refine Goes.st (B := s₁.setTop (mkF m 54 #[.val (.int x0), .unset] [])) (fun t k => ?_) ?_
            · refine XS.icmpNo X0.here hx rfl (hb hby d1_51) rfl (tlt hc51_10).2.1 ?_
              exact k
            refine Goes.run X0 hx hown hci hcl hby (L := [(54, .iconst 4, 1), (55, .istore_n 1, 1), (56, .goto 5, 3)]) (by decide +kernel) rfl (g' := (mkF m 61 #[.val (.int x0), .val (.int (4 : Int32))] [])) rfl ?_
            have q := jn61_6
            rw [show (j1_61_1 x0) = (4 : Int32) from (((((if_pos hc3_1).trans (if_neg hc15_7)).trans (if_neg hc27_8)).trans (if_neg hc39_9)).trans (if_pos hc51_10))] at q
            exact q
          · skip
            refine Goes.st (B := s₁.setTop (mkF m 59 #[.val (.int x0), .unset] [])) (fun t k => ?_) ?_
            · refine XS.icmpYes X0.here hx rfl (pc0 := 51) (pc' := 59) rfl (hb hby d1_51) rfl (flt hc51_10).2.1 (by decide) (by decide) ?_
              exact k
            refine Goes.run X0 hx hown hci hcl hby (L := [(59, .iconst 0, 1), (60, .istore_n 1, 1)]) (by decide +kernel) rfl (g' := (mkF m 61 #[.val (.int x0), .val (.int (0 : Int32))] [])) rfl ?_
            have q := jn61_6
            rw [show (j1_61_1 x0) = (0 : Int32) from (((((if_pos hc3_1).trans (if_neg hc15_7)).trans (if_neg hc27_8)).trans (if_neg hc39_9)).trans (if_neg hc51_10))] at q
            exact q
  · skip
    refine Goes.st (B := s₁.setTop (mkF m 6 #[.val (.int x0), .unset] [])) (fun t k => ?_) ?_
    · refine XS.icmpNo X0.here hx rfl (hb hby d1_3) rfl (flt hc3_1).2.2.1 ?_
      exact k
    refine Goes.run X0 hx hown hci hcl hby (L := [(6, .iconst 1, 1), (7, .istore_n 1, 1), (8, .goto 53, 3)]) (by decide +kernel) rfl (g' := (mkF m 61 #[.val (.int x0), .val (.int (1 : Int32))] [])) rfl ?_
    have q := jn61_6
    rw [show (j1_61_1 x0) = (1 : Int32) from (if_neg hc3_1)] at q
    exact q
theorem pn0 : plainName "com/example/terseref/terseref/core/CborReaderUtf8LengthPinLaw" = true := by first | (simp [plainName, overriddenIn]; done) | decide +kernel
theorem pd0_0 : parseMethodDescriptor "(I)I" = some ⟨[.int], some .int⟩ := by decide +kernel
theorem ef0 (m : MethodId) (x0 : Int32) (x1 : Int32) : entryFrame m #[(.int x0), (.int x1)] maxLocals = (mkF m 0 #[.val (.int x0), .val (.int x1), .unset, .unset, .unset, .unset, .unset, .unset, .unset] []) := by first | (simp [entryFrame, mkF, argsToLocals, Value.category, maxLocals]; done) | rfl
def w0_5 (x0 : Int32) (x1 : Int32) : Int32 := (x0 &&& (255 : Int32))
def j0_42_s0 (x0 : Int32) (x1 : Int32) : Int32 := (if (w0_5 x0 x1) < (194 : Int32) then (0 : Int32) else (2 : Int32))
def j0_85_s0 (x0 : Int32) (x1 : Int32) : Int32 := (if (244 : Int32) < (w0_5 x0 x1) then (0 : Int32) else (4 : Int32))
def j0_91_3 (x0 : Int32) (x1 : Int32) : Int32 := (if ((w0_5 x0 x1) &&& (128 : Int32)) = (0 : Int32) then (1 : Int32) else (if ((w0_5 x0 x1) &&& (224 : Int32)) = (192 : Int32) then (j0_42_s0 x0 x1) else (if ((w0_5 x0 x1) &&& (240 : Int32)) = (224 : Int32) then (3 : Int32) else (if ((w0_5 x0 x1) &&& (248 : Int32)) = (240 : Int32) then (j0_85_s0 x0 x1) else (0 : Int32)))))
def j0_104_s0 (x0 : Int32) (x1 : Int32) : Int32 := (if (r1 (w0_5 x0 x1)) = (j0_91_3 x0 x1) then (1 : Int32) else (0 : Int32))
def w0_112l (x0 : Int32) (x1 : Int32) : Int32 := (x1 &&& (2147483647 : Int32))
def w0_113 (x0 : Int32) (x1 : Int32) : Int32 := ((w0_112l x0 x1) - ((w0_112l x0 x1) / (1114112 : Int32)) * (1114112 : Int32))
def w0_150 (x0 : Int32) (x1 : Int32) : Int32 := ((192 : Int32) ||| ((w0_113 x0 x1) >>> ((6 : Int32) &&& 31)))
def w0_174 (x0 : Int32) (x1 : Int32) : Int32 := ((224 : Int32) ||| ((w0_113 x0 x1) >>> ((12 : Int32) &&& 31)))
def w0_191 (x0 : Int32) (x1 : Int32) : Int32 := ((240 : Int32) ||| ((w0_113 x0 x1) >>> ((18 : Int32) &&& 31)))
def j0_196_6 (x0 : Int32) (x1 : Int32) : Int32 := (if (w0_113 x0 x1) < (128 : Int32) then (w0_113 x0 x1) else (if (w0_113 x0 x1) < (2048 : Int32) then (w0_150 x0 x1) else (if (w0_113 x0 x1) < (65536 : Int32) then (w0_174 x0 x1) else (w0_191 x0 x1))))
def j0_196_7 (x0 : Int32) (x1 : Int32) : Int32 := (if (w0_113 x0 x1) < (128 : Int32) then (1 : Int32) else (if (w0_113 x0 x1) < (2048 : Int32) then (2 : Int32) else (if (w0_113 x0 x1) < (65536 : Int32) then (3 : Int32) else (4 : Int32))))
def j0_211_s0 (x0 : Int32) (x1 : Int32) : Int32 := (if (r1 (j0_196_6 x0 x1)) = (j0_196_7 x0 x1) then (1 : Int32) else (0 : Int32))
def r0 (x0 : Int32) (x1 : Int32) : Int32 := (if (j0_104_s0 x0 x1) = (0 : Int32) then (0 : Int32) else (if (j0_211_s0 x0 x1) = (0 : Int32) then (0 : Int32) else (1 : Int32)))
set_option maxRecDepth 65536 in
set_option maxHeartbeats 40000000 in
theorem rm0 (l : Launch) (Z : State) (a0 : Array Value) (hw : ∀ d ∈ tables_1, d.before a0 Z = true) (ws : List Jvm.Cond) (x0 : Int32) (x1 : Int32) (h0 : Heap) (n0 : Nat) (Z0 : n0 ≤ h0.size) :
    MetFree l x (head1 (Jvm.Cond.code x code maxLocals ret :: ws) room_1) (fun a U => a = #[(.int x0), (.int x1)] ∧ Z.Warmed39 U.vm ∧ U.heap = h0) (fun _ _ _ _ _ => True) (fun _ U o U' => ∃ v L, o = .returned v ∧ (QP (some (.int (r0 x0 x1))) h0 n0) v U'.heap L ∧ FrameEnd U o U' L room_1.cells room_1.slots) := by
  refine MetFree.of_bodySF (plainFor_of_name pn0) hisR ?_
  intro p e s m args below meth c s₁ Bd hml0 hP hK
  obtain ⟨rfl, hZ, hh⟩ := hP
  have hx := Bd.exec
  have hby := Bd.bytes
  have hml : c.maxLocals = 9 := hml0
  have hlk : meth.locks = false := BodyLoose.notSynchronized Bd
  have hown : s.vm.findClass "com/example/terseref/terseref/core/CborReaderUtf8LengthPinLaw" = some m.cls := findClass_of_methodNamed Bd.named
  have hnm := (name_of_methodNamed Bd.named Bd.method).1
  have hci : ∀ i v, (i, v) ∈ ([(13, 2147483647), (14, 1114112), (15, 65536)] : List (Nat × Int32)) → (Jvm.Cond.constant "com/example/terseref/terseref/core/CborReaderUtf8LengthPinLaw" i v).before #[(.int x0), (.int x1)] s = true := (own_ciS (mvT hZ (hw _ (List.mem_of_getElem? (i := 4) rfl))) (own_ciS (mvT hZ (hw _ (List.mem_of_getElem? (i := 5) rfl))) (own_ciS (mvT hZ (hw _ (List.mem_of_getElem? (i := 6) rfl))) own_ci0)))
  have hcl : ∀ i v, (i, v) ∈ ([] : List (Nat × Int64)) → (Jvm.Cond.constantLong "com/example/terseref/terseref/core/CborReaderUtf8LengthPinLaw" i v).before #[(.int x0), (.int x1)] s = true := own_ci0
  have X0 : Stand p l e room_1 s m #[(.int x0), (.int x1)] below meth c s₁ [] 0 0 := Stand.of_body Bd
  have e0 : s₁.heap = h0 := by rw [← hh, Bd.state]; rfl
  have N0 := Fr.nil n0
  show Goes p e below s (QP (some (.int (r0 x0 x1))) h0 n0) room_1.cells room_1.slots (s₁.setTop (entryFrame m #[(.int x0), (.int x1)] maxLocals))
  refine Goes.cast (ef0 m x0 x1) ?_
  refine Goes.run X0 hx hown hci hcl hby (L := [(0, .iload_n 0, 1), (1, .sipush 255, 3), (4, .iand, 1), (5, .istore_n 2, 1), (6, .iload_n 2, 1), (7, .sipush 128, 3)]) (by decide +kernel) rfl (g' := (mkF m 10 #[.val (.int x0), .val (.int x1), .val (.int (w0_5 x0 x1)), .unset, .unset, .unset, .unset, .unset, .unset] [(.int (128 : Int32)), (.int (w0_5 x0 x1))])) rfl ?_
  refine Goes.run X0 hx hown hci hcl hby (L := [(10, .iand, 1)]) (by decide +kernel) rfl (g' := (mkF m 11 #[.val (.int x0), .val (.int x1), .val (.int (w0_5 x0 x1)), .unset, .unset, .unset, .unset, .unset, .unset] [(.int ((w0_5 x0 x1) &&& (128 : Int32)))])) rfl ?_
  have jn91_9 : Goes p e below s (QP (some (.int (r0 x0 x1))) h0 n0) room_1.cells room_1.slots (s₁.setTop (mkF m 91 #[.val (.int x0), .val (.int x1), .val (.int (w0_5 x0 x1)), .val (.int (j0_91_3 x0 x1)), .unset, .unset, .unset, .unset, .unset] [])) := by
    refine Goes.run X0 hx hown hci hcl hby (L := [(91, .iload_n 2, 1)]) (by decide +kernel) rfl (g' := (mkF m 92 #[.val (.int x0), .val (.int x1), .val (.int (w0_5 x0 x1)), .val (.int (j0_91_3 x0 x1)), .unset, .unset, .unset, .unset, .unset] [(.int (w0_5 x0 x1))])) rfl ?_
    obtain ⟨_, _, ⟨T10, L10, k10, n10⟩, -, X10, ⟨Lc10, hQ10, l10, y10, z10⟩, st10⟩ := Jvm.LawKit.callS X0 hx (y := (⟨"com/example/terseref/terseref/core/CborReader", "utf8Length", "(I)I"⟩ : MethodName)) hown (mvT hZ (hw _ (List.mem_of_getElem? (i := 0) rfl))) (mvT hZ (hw _ (List.mem_of_getElem? (i := 1) rfl))) (mvT hZ (hw _ (List.mem_of_getElem? (i := 2) rfl))) (mvT hZ (hw _ (List.mem_of_getElem? (i := 3) rfl))) (by decide) (backOf (W := 0) (rm1 l Z a0 hw [] (w0_5 x0 x1) h0 n0 Z0 ) hZ (hw _ (List.mem_of_getElem? (i := 3) rfl)) (hw _ (List.mem_of_getElem? (i := 2) rfl)) (by decide) (by decide)) (g := (mkF m 92 #[.val (.int x0), .val (.int x1), .val (.int (w0_5 x0 x1)), .val (.int (j0_91_3 x0 x1)), .unset, .unset, .unset, .unset, .unset] [(.int (w0_5 x0 x1))])) rfl (by rw [hml]; rfl) (argsL := [(.int (w0_5 x0 x1))]) (rest := []) (lenOf pd0_0 rfl) rfl (by show 2 * 0 + _ ≤ _; exact Nat.le_of_eq rfl) (hb hby at_92) (fun _ _ => ⟨rfl, e0, (by decide : 0 + 0 ≤ _), (by decide : 0 + 0 ≤ _)⟩)
    dsimp only [Pt.U, Pt.locs, Pt.cells, Pt.slots] at X10 l10 y10 z10 st10 hQ10
    subst l10 y10 z10
    obtain ⟨rfl, N10q, e10⟩ := hQ10
    have N10 := Fr.app N0 N10q
    refine Goes.st (B := T10.setTop (mkF m 95 #[.val (.int x0), .val (.int x1), .val (.int (w0_5 x0 x1)), .val (.int (j0_91_3 x0 x1)), .unset, .unset, .unset, .unset, .unset] [(.int (r1 (w0_5 x0 x1)))])) st10 ?_
    refine Goes.run X10 hx hown hci hcl hby (L := [(95, .iload_n 3, 1)]) (by decide +kernel) rfl (g' := (mkF m 96 #[.val (.int x0), .val (.int x1), .val (.int (w0_5 x0 x1)), .val (.int (j0_91_3 x0 x1)), .unset, .unset, .unset, .unset, .unset] [(.int (j0_91_3 x0 x1)), (.int (r1 (w0_5 x0 x1)))])) rfl ?_
    have jn104_12 : Goes p e below s (QP (some (.int (r0 x0 x1))) h0 n0) room_1.cells room_1.slots (T10.setTop (mkF m 104 #[.val (.int x0), .val (.int x1), .val (.int (w0_5 x0 x1)), .val (.int (j0_91_3 x0 x1)), .unset, .unset, .unset, .unset, .unset] [(.int (j0_104_s0 x0 x1))])) := by
      refine Goes.run X10 hx hown hci hcl hby (L := [(104, .istore 4, 2), (106, .iload_n 1, 1), (107, .ldc 13, 2), (109, .iand, 1), (110, .ldc 14, 2), (112, .irem, 1)]) (by decide +kernel) rfl (g' := (mkF m 113 #[.val (.int x0), .val (.int x1), .val (.int (w0_5 x0 x1)), .val (.int (j0_91_3 x0 x1)), .val (.int (j0_104_s0 x0 x1)), .unset, .unset, .unset, .unset] [(.int ((w0_112l x0 x1) - ((w0_112l x0 x1) / (1114112 : Int32)) * (1114112 : Int32)))])) rfl ?_
      refine Goes.run X10 hx hown hci hcl hby (L := [(113, .istore 5, 2), (115, .iload 5, 2), (117, .sipush 128, 3)]) (by decide +kernel) rfl (g' := (mkF m 120 #[.val (.int x0), .val (.int x1), .val (.int (w0_5 x0 x1)), .val (.int (j0_91_3 x0 x1)), .val (.int (j0_104_s0 x0 x1)), .val (.int (w0_113 x0 x1)), .unset, .unset, .unset] [(.int (128 : Int32)), (.int (w0_113 x0 x1))])) rfl ?_
      have jn196_16 : Goes p e below s (QP (some (.int (r0 x0 x1))) h0 n0) room_1.cells room_1.slots (T10.setTop (mkF m 196 #[.val (.int x0), .val (.int x1), .val (.int (w0_5 x0 x1)), .val (.int (j0_91_3 x0 x1)), .val (.int (j0_104_s0 x0 x1)), .val (.int (w0_113 x0 x1)), .val (.int (j0_196_6 x0 x1)), .val (.int (j0_196_7 x0 x1)), .unset] [])) := by
        refine Goes.run X10 hx hown hci hcl hby (L := [(196, .iload 6, 2)]) (by decide +kernel) rfl (g' := (mkF m 198 #[.val (.int x0), .val (.int x1), .val (.int (w0_5 x0 x1)), .val (.int (j0_91_3 x0 x1)), .val (.int (j0_104_s0 x0 x1)), .val (.int (w0_113 x0 x1)), .val (.int (j0_196_6 x0 x1)), .val (.int (j0_196_7 x0 x1)), .unset] [(.int (j0_196_6 x0 x1))])) rfl ?_
        obtain ⟨_, _, ⟨T17, L17, k17, n17⟩, -, X17, ⟨Lc17, hQ17, l17, y17, z17⟩, st17⟩ := Jvm.LawKit.callS X10 hx (y := (⟨"com/example/terseref/terseref/core/CborReader", "utf8Length", "(I)I"⟩ : MethodName)) hown (mvT hZ (hw _ (List.mem_of_getElem? (i := 0) rfl))) (mvT hZ (hw _ (List.mem_of_getElem? (i := 1) rfl))) (mvT hZ (hw _ (List.mem_of_getElem? (i := 2) rfl))) (mvT hZ (hw _ (List.mem_of_getElem? (i := 3) rfl))) (by decide) (backOf (W := 0) (rm1 l Z a0 hw [] (j0_196_6 x0 x1) h0 n0 Z0 ) hZ (hw _ (List.mem_of_getElem? (i := 3) rfl)) (hw _ (List.mem_of_getElem? (i := 2) rfl)) (by decide) (by decide)) (g := (mkF m 198 #[.val (.int x0), .val (.int x1), .val (.int (w0_5 x0 x1)), .val (.int (j0_91_3 x0 x1)), .val (.int (j0_104_s0 x0 x1)), .val (.int (w0_113 x0 x1)), .val (.int (j0_196_6 x0 x1)), .val (.int (j0_196_7 x0 x1)), .unset] [(.int (j0_196_6 x0 x1))])) rfl (by rw [hml]; rfl) (argsL := [(.int (j0_196_6 x0 x1))]) (rest := []) (lenOf pd0_0 rfl) rfl (by show 2 * 0 + _ ≤ _; exact Nat.le_of_eq rfl) (hb hby at_198) (fun _ _ => ⟨rfl, e10, (by decide : 0 + 0 ≤ _), (by decide : 0 + 0 ≤ _)⟩)
        dsimp only [Pt.U, Pt.locs, Pt.cells, Pt.slots] at X17 l17 y17 z17 st17 hQ17
        subst l17 y17 z17
        obtain ⟨rfl, N17q, e17⟩ := hQ17
        have N17 := Fr.app N10 N17q
        refine Goes.st (B := T17.setTop (mkF m 201 #[.val (.int x0), .val (.int x1), .val (.int (w0_5 x0 x1)), .val (.int (j0_91_3 x0 x1)), .val (.int (j0_104_s0 x0 x1)), .val (.int (w0_113 x0 x1)), .val (.int (j0_196_6 x0 x1)), .val (.int (j0_196_7 x0 x1)), .unset] [(.int (r1 (j0_196_6 x0 x1)))])) st17 ?_
        refine Goes.run X17 hx hown hci hcl hby (L := [(201, .iload 7, 2)]) (by decide +kernel) rfl (g' := (mkF m 203 #[.val (.int x0), .val (.int x1), .val (.int (w0_5 x0 x1)), .val (.int (j0_91_3 x0 x1)), .val (.int (j0_104_s0 x0 x1)), .val (.int (w0_113 x0 x1)), .val (.int (j0_196_6 x0 x1)), .val (.int (j0_196_7 x0 x1)), .unset] [(.int (j0_196_7 x0 x1)), (.int (r1 (j0_196_6 x0 x1)))])) rfl ?_
        have jn211_19 : Goes p e below s (QP (some (.int (r0 x0 x1))) h0 n0) room_1.cells room_1.slots (T17.setTop (mkF m 211 #[.val (.int x0), .val (.int x1), .val (.int (w0_5 x0 x1)), .val (.int (j0_91_3 x0 x1)), .val (.int (j0_104_s0 x0 x1)), .val (.int (w0_113 x0 x1)), .val (.int (j0_196_6 x0 x1)), .val (.int (j0_196_7 x0 x1)), .unset] [(.int (j0_211_s0 x0 x1))])) := by
          refine Goes.run X17 hx hown hci hcl hby (L := [(211, .istore 8, 2), (213, .iload 4, 2)]) (by decide +kernel) rfl (g' := (mkF m 215 #[.val (.int x0), .val (.int x1), .val (.int (w0_5 x0 x1)), .val (.int (j0_91_3 x0 x1)), .val (.int (j0_104_s0 x0 x1)), .val (.int (w0_113 x0 x1)), .val (.int (j0_196_6 x0 x1)), .val (.int (j0_196_7 x0 x1)), .val (.int (j0_211_s0 x0 x1))] [(.int (j0_104_s0 x0 x1))])) rfl ?_
          by_cases hc215_20 : (j0_104_s0 x0 x1) = (0 : Int32)
          · skip
            refine Goes.st (B := T17.setTop (mkF m 227 #[.val (.int x0), .val (.int x1), .val (.int (w0_5 x0 x1)), .val (.int (j0_91_3 x0 x1)), .val (.int (j0_104_s0 x0 x1)), .val (.int (w0_113 x0 x1)), .val (.int (j0_196_6 x0 x1)), .val (.int (j0_196_7 x0 x1)), .val (.int (j0_211_s0 x0 x1))] [])) (fun t k => ?_) ?_
            · refine XS.ifYes X17.here hx rfl (pc0 := 215) (pc' := 227) rfl (hb hby at_215) rfl ((if0 _ _).trans (teq hc215_20).1) (by decide) (by decide) ?_
              exact k
            refine Goes.run X17 hx hown hci hcl hby (L := [(227, .iconst 0, 1)]) (by decide +kernel) rfl (g' := (mkF m 228 #[.val (.int x0), .val (.int x1), .val (.int (w0_5 x0 x1)), .val (.int (j0_91_3 x0 x1)), .val (.int (j0_104_s0 x0 x1)), .val (.int (w0_113 x0 x1)), .val (.int (j0_196_6 x0 x1)), .val (.int (j0_196_7 x0 x1)), .val (.int (j0_211_s0 x0 x1))] [(.int (0 : Int32))])) rfl ?_
            exact Goes.retB X17 hx hlk (t := .boolean) Bd.returns (by simp) (hb hby at_228) rfl ⟨(congrArg (fun z => some (Value.int z)) (show (r0 x0 x1) = (0 : Int32) from (if_pos hc215_20)).symm), N17, e17⟩ (by decide) (by decide)
          · skip
            refine Goes.st (B := T17.setTop (mkF m 218 #[.val (.int x0), .val (.int x1), .val (.int (w0_5 x0 x1)), .val (.int (j0_91_3 x0 x1)), .val (.int (j0_104_s0 x0 x1)), .val (.int (w0_113 x0 x1)), .val (.int (j0_196_6 x0 x1)), .val (.int (j0_196_7 x0 x1)), .val (.int (j0_211_s0 x0 x1))] [])) (fun t k => ?_) ?_
            · refine XS.ifNo X17.here hx rfl (hb hby at_215) rfl ((if0 _ _).trans (feq hc215_20).1) ?_
              exact k
            refine Goes.run X17 hx hown hci hcl hby (L := [(218, .iload 8, 2)]) (by decide +kernel) rfl (g' := (mkF m 220 #[.val (.int x0), .val (.int x1), .val (.int (w0_5 x0 x1)), .val (.int (j0_91_3 x0 x1)), .val (.int (j0_104_s0 x0 x1)), .val (.int (w0_113 x0 x1)), .val (.int (j0_196_6 x0 x1)), .val (.int (j0_196_7 x0 x1)), .val (.int (j0_211_s0 x0 x1))] [(.int (j0_211_s0 x0 x1))])) rfl ?_
            by_cases hc220_21 : (j0_211_s0 x0 x1) = (0 : Int32)
            · skip
              refine Goes.st (B := T17.setTop (mkF m 227 #[.val (.int x0), .val (.int x1), .val (.int (w0_5 x0 x1)), .val (.int (j0_91_3 x0 x1)), .val (.int (j0_104_s0 x0 x1)), .val (.int (w0_113 x0 x1)), .val (.int (j0_196_6 x0 x1)), .val (.int (j0_196_7 x0 x1)), .val (.int (j0_211_s0 x0 x1))] [])) (fun t k => ?_) ?_
              · refine XS.ifYes X17.here hx rfl (pc0 := 220) (pc' := 227) rfl (hb hby at_220) rfl ((if0 _ _).trans (teq hc220_21).1) (by decide) (by decide) ?_
                exact k
              refine Goes.run X17 hx hown hci hcl hby (L := [(227, .iconst 0, 1)]) (by decide +kernel) rfl (g' := (mkF m 228 #[.val (.int x0), .val (.int x1), .val (.int (w0_5 x0 x1)), .val (.int (j0_91_3 x0 x1)), .val (.int (j0_104_s0 x0 x1)), .val (.int (w0_113 x0 x1)), .val (.int (j0_196_6 x0 x1)), .val (.int (j0_196_7 x0 x1)), .val (.int (j0_211_s0 x0 x1))] [(.int (0 : Int32))])) rfl ?_
              exact Goes.retB X17 hx hlk (t := .boolean) Bd.returns (by simp) (hb hby at_228) rfl ⟨(congrArg (fun z => some (Value.int z)) (show (r0 x0 x1) = (0 : Int32) from ((if_neg hc215_20).trans (if_pos hc220_21))).symm), N17, e17⟩ (by decide) (by decide)
            · skip
              refine Goes.st (B := T17.setTop (mkF m 223 #[.val (.int x0), .val (.int x1), .val (.int (w0_5 x0 x1)), .val (.int (j0_91_3 x0 x1)), .val (.int (j0_104_s0 x0 x1)), .val (.int (w0_113 x0 x1)), .val (.int (j0_196_6 x0 x1)), .val (.int (j0_196_7 x0 x1)), .val (.int (j0_211_s0 x0 x1))] [])) (fun t k => ?_) ?_
              · refine XS.ifNo X17.here hx rfl (hb hby at_220) rfl ((if0 _ _).trans (feq hc220_21).1) ?_
                exact k
              refine Goes.run X17 hx hown hci hcl hby (L := [(223, .iconst 1, 1), (224, .goto 4, 3)]) (by decide +kernel) rfl (g' := (mkF m 228 #[.val (.int x0), .val (.int x1), .val (.int (w0_5 x0 x1)), .val (.int (j0_91_3 x0 x1)), .val (.int (j0_104_s0 x0 x1)), .val (.int (w0_113 x0 x1)), .val (.int (j0_196_6 x0 x1)), .val (.int (j0_196_7 x0 x1)), .val (.int (j0_211_s0 x0 x1))] [(.int (1 : Int32))])) rfl ?_
              exact Goes.retB X17 hx hlk (t := .boolean) Bd.returns (by simp) (hb hby at_228) rfl ⟨(congrArg (fun z => some (Value.int z)) (show (r0 x0 x1) = (1 : Int32) from ((if_neg hc215_20).trans (if_neg hc220_21))).symm), N17, e17⟩ (by decide) (by decide)
        by_cases hc203_18 : (r1 (j0_196_6 x0 x1)) = (j0_196_7 x0 x1)
        · skip
          refine Goes.st (B := T17.setTop (mkF m 206 #[.val (.int x0), .val (.int x1), .val (.int (w0_5 x0 x1)), .val (.int (j0_91_3 x0 x1)), .val (.int (j0_104_s0 x0 x1)), .val (.int (w0_113 x0 x1)), .val (.int (j0_196_6 x0 x1)), .val (.int (j0_196_7 x0 x1)), .unset] [])) (fun t k => ?_) ?_
          · refine XS.icmpNo X17.here hx rfl (hb hby at_203) rfl (teq hc203_18).2 ?_
            exact k
          refine Goes.run X17 hx hown hci hcl hby (L := [(206, .iconst 1, 1), (207, .goto 4, 3)]) (by decide +kernel) rfl (g' := (mkF m 211 #[.val (.int x0), .val (.int x1), .val (.int (w0_5 x0 x1)), .val (.int (j0_91_3 x0 x1)), .val (.int (j0_104_s0 x0 x1)), .val (.int (w0_113 x0 x1)), .val (.int (j0_196_6 x0 x1)), .val (.int (j0_196_7 x0 x1)), .unset] [(.int (1 : Int32))])) rfl ?_
          have q := jn211_19
          rw [show (j0_211_s0 x0 x1) = (1 : Int32) from (if_pos hc203_18)] at q
          exact q
        · skip
          refine Goes.st (B := T17.setTop (mkF m 210 #[.val (.int x0), .val (.int x1), .val (.int (w0_5 x0 x1)), .val (.int (j0_91_3 x0 x1)), .val (.int (j0_104_s0 x0 x1)), .val (.int (w0_113 x0 x1)), .val (.int (j0_196_6 x0 x1)), .val (.int (j0_196_7 x0 x1)), .unset] [])) (fun t k => ?_) ?_
          · refine XS.icmpYes X17.here hx rfl (pc0 := 203) (pc' := 210) rfl (hb hby at_203) rfl (feq hc203_18).2 (by decide) (by decide) ?_
            exact k
          refine Goes.run X17 hx hown hci hcl hby (L := [(210, .iconst 0, 1)]) (by decide +kernel) rfl (g' := (mkF m 211 #[.val (.int x0), .val (.int x1), .val (.int (w0_5 x0 x1)), .val (.int (j0_91_3 x0 x1)), .val (.int (j0_104_s0 x0 x1)), .val (.int (w0_113 x0 x1)), .val (.int (j0_196_6 x0 x1)), .val (.int (j0_196_7 x0 x1)), .unset] [(.int (0 : Int32))])) rfl ?_
          have q := jn211_19
          rw [show (j0_211_s0 x0 x1) = (0 : Int32) from (if_neg hc203_18)] at q
          exact q
      by_cases hc120_13 : (w0_113 x0 x1) < (128 : Int32)
      · skip
        refine Goes.st (B := T10.setTop (mkF m 123 #[.val (.int x0), .val (.int x1), .val (.int (w0_5 x0 x1)), .val (.int (j0_91_3 x0 x1)), .val (.int (j0_104_s0 x0 x1)), .val (.int (w0_113 x0 x1)), .unset, .unset, .unset] [])) (fun t k => ?_) ?_
        · refine XS.icmpNo X10.here hx rfl (hb hby at_120) rfl (tlt hc120_13).2.1 ?_
          exact k
        refine Goes.run X10 hx hown hci hcl hby (L := [(123, .iload 5, 2), (125, .istore 6, 2), (127, .iconst 1, 1), (128, .istore 7, 2), (130, .goto 66, 3)]) (by decide +kernel) rfl (g' := (mkF m 196 #[.val (.int x0), .val (.int x1), .val (.int (w0_5 x0 x1)), .val (.int (j0_91_3 x0 x1)), .val (.int (j0_104_s0 x0 x1)), .val (.int (w0_113 x0 x1)), .val (.int (w0_113 x0 x1)), .val (.int (1 : Int32)), .unset] [])) rfl ?_
        have q := jn196_16
        rw [show (j0_196_6 x0 x1) = (w0_113 x0 x1) from (if_pos hc120_13), show (j0_196_7 x0 x1) = (1 : Int32) from (if_pos hc120_13)] at q
        exact q
      · skip
        refine Goes.st (B := T10.setTop (mkF m 133 #[.val (.int x0), .val (.int x1), .val (.int (w0_5 x0 x1)), .val (.int (j0_91_3 x0 x1)), .val (.int (j0_104_s0 x0 x1)), .val (.int (w0_113 x0 x1)), .unset, .unset, .unset] [])) (fun t k => ?_) ?_
        · refine XS.icmpYes X10.here hx rfl (pc0 := 120) (pc' := 133) rfl (hb hby at_120) rfl (flt hc120_13).2.1 (by decide) (by decide) ?_
          exact k
        refine Goes.run X10 hx hown hci hcl hby (L := [(133, .iload 5, 2), (135, .sipush 2048, 3)]) (by decide +kernel) rfl (g' := (mkF m 138 #[.val (.int x0), .val (.int x1), .val (.int (w0_5 x0 x1)), .val (.int (j0_91_3 x0 x1)), .val (.int (j0_104_s0 x0 x1)), .val (.int (w0_113 x0 x1)), .unset, .unset, .unset] [(.int (2048 : Int32)), (.int (w0_113 x0 x1))])) rfl ?_
        by_cases hc138_22 : (w0_113 x0 x1) < (2048 : Int32)
        · skip
          refine Goes.st (B := T10.setTop (mkF m 141 #[.val (.int x0), .val (.int x1), .val (.int (w0_5 x0 x1)), .val (.int (j0_91_3 x0 x1)), .val (.int (j0_104_s0 x0 x1)), .val (.int (w0_113 x0 x1)), .unset, .unset, .unset] [])) (fun t k => ?_) ?_
          · refine XS.icmpNo X10.here hx rfl (hb hby at_138) rfl (tlt hc138_22).2.1 ?_
            exact k
          refine Goes.run X10 hx hown hci hcl hby (L := [(141, .sipush 192, 3), (144, .iload 5, 2), (146, .bipush 6, 2), (148, .ishr, 1), (149, .ior, 1), (150, .istore 6, 2)]) (by decide +kernel) rfl (g' := (mkF m 152 #[.val (.int x0), .val (.int x1), .val (.int (w0_5 x0 x1)), .val (.int (j0_91_3 x0 x1)), .val (.int (j0_104_s0 x0 x1)), .val (.int (w0_113 x0 x1)), .val (.int (w0_150 x0 x1)), .unset, .unset] [])) rfl ?_
          refine Goes.run X10 hx hown hci hcl hby (L := [(152, .iconst 2, 1), (153, .istore 7, 2), (155, .goto 41, 3)]) (by decide +kernel) rfl (g' := (mkF m 196 #[.val (.int x0), .val (.int x1), .val (.int (w0_5 x0 x1)), .val (.int (j0_91_3 x0 x1)), .val (.int (j0_104_s0 x0 x1)), .val (.int (w0_113 x0 x1)), .val (.int (w0_150 x0 x1)), .val (.int (2 : Int32)), .unset] [])) rfl ?_
          have q := jn196_16
          rw [show (j0_196_6 x0 x1) = (w0_150 x0 x1) from ((if_neg hc120_13).trans (if_pos hc138_22)), show (j0_196_7 x0 x1) = (2 : Int32) from ((if_neg hc120_13).trans (if_pos hc138_22))] at q
          exact q
        · skip
          refine Goes.st (B := T10.setTop (mkF m 158 #[.val (.int x0), .val (.int x1), .val (.int (w0_5 x0 x1)), .val (.int (j0_91_3 x0 x1)), .val (.int (j0_104_s0 x0 x1)), .val (.int (w0_113 x0 x1)), .unset, .unset, .unset] [])) (fun t k => ?_) ?_
          · refine XS.icmpYes X10.here hx rfl (pc0 := 138) (pc' := 158) rfl (hb hby at_138) rfl (flt hc138_22).2.1 (by decide) (by decide) ?_
            exact k
          refine Goes.run X10 hx hown hci hcl hby (L := [(158, .iload 5, 2), (160, .ldc 15, 2)]) (by decide +kernel) rfl (g' := (mkF m 162 #[.val (.int x0), .val (.int x1), .val (.int (w0_5 x0 x1)), .val (.int (j0_91_3 x0 x1)), .val (.int (j0_104_s0 x0 x1)), .val (.int (w0_113 x0 x1)), .unset, .unset, .unset] [(.int (65536 : Int32)), (.int (w0_113 x0 x1))])) rfl ?_
          by_cases hc162_23 : (w0_113 x0 x1) < (65536 : Int32)
          · skip
            refine Goes.st (B := T10.setTop (mkF m 165 #[.val (.int x0), .val (.int x1), .val (.int (w0_5 x0 x1)), .val (.int (j0_91_3 x0 x1)), .val (.int (j0_104_s0 x0 x1)), .val (.int (w0_113 x0 x1)), .unset, .unset, .unset] [])) (fun t k => ?_) ?_
            · refine XS.icmpNo X10.here hx rfl (hb hby at_162) rfl (tlt hc162_23).2.1 ?_
              exact k
            refine Goes.run X10 hx hown hci hcl hby (L := [(165, .sipush 224, 3), (168, .iload 5, 2), (170, .bipush 12, 2), (172, .ishr, 1), (173, .ior, 1), (174, .istore 6, 2)]) (by decide +kernel) rfl (g' := (mkF m 176 #[.val (.int x0), .val (.int x1), .val (.int (w0_5 x0 x1)), .val (.int (j0_91_3 x0 x1)), .val (.int (j0_104_s0 x0 x1)), .val (.int (w0_113 x0 x1)), .val (.int (w0_174 x0 x1)), .unset, .unset] [])) rfl ?_
            refine Goes.run X10 hx hown hci hcl hby (L := [(176, .iconst 3, 1), (177, .istore 7, 2), (179, .goto 17, 3)]) (by decide +kernel) rfl (g' := (mkF m 196 #[.val (.int x0), .val (.int x1), .val (.int (w0_5 x0 x1)), .val (.int (j0_91_3 x0 x1)), .val (.int (j0_104_s0 x0 x1)), .val (.int (w0_113 x0 x1)), .val (.int (w0_174 x0 x1)), .val (.int (3 : Int32)), .unset] [])) rfl ?_
            have q := jn196_16
            rw [show (j0_196_6 x0 x1) = (w0_174 x0 x1) from (((if_neg hc120_13).trans (if_neg hc138_22)).trans (if_pos hc162_23)), show (j0_196_7 x0 x1) = (3 : Int32) from (((if_neg hc120_13).trans (if_neg hc138_22)).trans (if_pos hc162_23))] at q
            exact q
          · skip
            refine Goes.st (B := T10.setTop (mkF m 182 #[.val (.int x0), .val (.int x1), .val (.int (w0_5 x0 x1)), .val (.int (j0_91_3 x0 x1)), .val (.int (j0_104_s0 x0 x1)), .val (.int (w0_113 x0 x1)), .unset, .unset, .unset] [])) (fun t k => ?_) ?_
            · refine XS.icmpYes X10.here hx rfl (pc0 := 162) (pc' := 182) rfl (hb hby at_162) rfl (flt hc162_23).2.1 (by decide) (by decide) ?_
              exact k
            refine Goes.run X10 hx hown hci hcl hby (L := [(182, .sipush 240, 3), (185, .iload 5, 2), (187, .bipush 18, 2), (189, .ishr, 1), (190, .ior, 1), (191, .istore 6, 2)]) (by decide +kernel) rfl (g' := (mkF m 193 #[.val (.int x0), .val (.int x1), .val (.int (w0_5 x0 x1)), .val (.int (j0_91_3 x0 x1)), .val (.int (j0_104_s0 x0 x1)), .val (.int (w0_113 x0 x1)), .val (.int (w0_191 x0 x1)), .unset, .unset] [])) rfl ?_
            refine Goes.run X10 hx hown hci hcl hby (L := [(193, .iconst 4, 1), (194, .istore 7, 2)]) (by decide +kernel) rfl (g' := (mkF m 196 #[.val (.int x0), .val (.int x1), .val (.int (w0_5 x0 x1)), .val (.int (j0_91_3 x0 x1)), .val (.int (j0_104_s0 x0 x1)), .val (.int (w0_113 x0 x1)), .val (.int (w0_191 x0 x1)), .val (.int (4 : Int32)), .unset] [])) rfl ?_
            have q := jn196_16
            rw [show (j0_196_6 x0 x1) = (w0_191 x0 x1) from (((if_neg hc120_13).trans (if_neg hc138_22)).trans (if_neg hc162_23)), show (j0_196_7 x0 x1) = (4 : Int32) from (((if_neg hc120_13).trans (if_neg hc138_22)).trans (if_neg hc162_23))] at q
            exact q
    by_cases hc96_11 : (r1 (w0_5 x0 x1)) = (j0_91_3 x0 x1)
    · skip
      refine Goes.st (B := T10.setTop (mkF m 99 #[.val (.int x0), .val (.int x1), .val (.int (w0_5 x0 x1)), .val (.int (j0_91_3 x0 x1)), .unset, .unset, .unset, .unset, .unset] [])) (fun t k => ?_) ?_
      · refine XS.icmpNo X10.here hx rfl (hb hby at_96) rfl (teq hc96_11).2 ?_
        exact k
      refine Goes.run X10 hx hown hci hcl hby (L := [(99, .iconst 1, 1), (100, .goto 4, 3)]) (by decide +kernel) rfl (g' := (mkF m 104 #[.val (.int x0), .val (.int x1), .val (.int (w0_5 x0 x1)), .val (.int (j0_91_3 x0 x1)), .unset, .unset, .unset, .unset, .unset] [(.int (1 : Int32))])) rfl ?_
      have q := jn104_12
      rw [show (j0_104_s0 x0 x1) = (1 : Int32) from (if_pos hc96_11)] at q
      exact q
    · skip
      refine Goes.st (B := T10.setTop (mkF m 103 #[.val (.int x0), .val (.int x1), .val (.int (w0_5 x0 x1)), .val (.int (j0_91_3 x0 x1)), .unset, .unset, .unset, .unset, .unset] [])) (fun t k => ?_) ?_
      · refine XS.icmpYes X10.here hx rfl (pc0 := 96) (pc' := 103) rfl (hb hby at_96) rfl (feq hc96_11).2 (by decide) (by decide) ?_
        exact k
      refine Goes.run X10 hx hown hci hcl hby (L := [(103, .iconst 0, 1)]) (by decide +kernel) rfl (g' := (mkF m 104 #[.val (.int x0), .val (.int x1), .val (.int (w0_5 x0 x1)), .val (.int (j0_91_3 x0 x1)), .unset, .unset, .unset, .unset, .unset] [(.int (0 : Int32))])) rfl ?_
      have q := jn104_12
      rw [show (j0_104_s0 x0 x1) = (0 : Int32) from (if_neg hc96_11)] at q
      exact q
  by_cases hc11_1 : ((w0_5 x0 x1) &&& (128 : Int32)) = (0 : Int32)
  · skip
    refine Goes.st (B := s₁.setTop (mkF m 14 #[.val (.int x0), .val (.int x1), .val (.int (w0_5 x0 x1)), .unset, .unset, .unset, .unset, .unset, .unset] [])) (fun t k => ?_) ?_
    · refine XS.ifNo X0.here hx rfl (hb hby at_11) rfl ((if0 _ _).trans (teq hc11_1).2) ?_
      exact k
    refine Goes.run X0 hx hown hci hcl hby (L := [(14, .iconst 1, 1), (15, .istore_n 3, 1), (16, .goto 75, 3)]) (by decide +kernel) rfl (g' := (mkF m 91 #[.val (.int x0), .val (.int x1), .val (.int (w0_5 x0 x1)), .val (.int (1 : Int32)), .unset, .unset, .unset, .unset, .unset] [])) rfl ?_
    have q := jn91_9
    rw [show (j0_91_3 x0 x1) = (1 : Int32) from (if_pos hc11_1)] at q
    exact q
  · skip
    refine Goes.st (B := s₁.setTop (mkF m 19 #[.val (.int x0), .val (.int x1), .val (.int (w0_5 x0 x1)), .unset, .unset, .unset, .unset, .unset, .unset] [])) (fun t k => ?_) ?_
    · refine XS.ifYes X0.here hx rfl (pc0 := 11) (pc' := 19) rfl (hb hby at_11) rfl ((if0 _ _).trans (feq hc11_1).2) (by decide) (by decide) ?_
      exact k
    refine Goes.run X0 hx hown hci hcl hby (L := [(19, .iload_n 2, 1), (20, .sipush 224, 3), (23, .iand, 1), (24, .sipush 192, 3)]) (by decide +kernel) rfl (g' := (mkF m 27 #[.val (.int x0), .val (.int x1), .val (.int (w0_5 x0 x1)), .unset, .unset, .unset, .unset, .unset, .unset] [(.int (192 : Int32)), (.int ((w0_5 x0 x1) &&& (224 : Int32)))])) rfl ?_
    by_cases hc27_24 : ((w0_5 x0 x1) &&& (224 : Int32)) = (192 : Int32)
    · skip
      refine Goes.st (B := s₁.setTop (mkF m 30 #[.val (.int x0), .val (.int x1), .val (.int (w0_5 x0 x1)), .unset, .unset, .unset, .unset, .unset, .unset] [])) (fun t k => ?_) ?_
      · refine XS.icmpNo X0.here hx rfl (hb hby at_27) rfl (teq hc27_24).2 ?_
        exact k
      refine Goes.run X0 hx hown hci hcl hby (L := [(30, .iload_n 2, 1), (31, .sipush 194, 3)]) (by decide +kernel) rfl (g' := (mkF m 34 #[.val (.int x0), .val (.int x1), .val (.int (w0_5 x0 x1)), .unset, .unset, .unset, .unset, .unset, .unset] [(.int (194 : Int32)), (.int (w0_5 x0 x1))])) rfl ?_
      have jn42_26 : Goes p e below s (QP (some (.int (r0 x0 x1))) h0 n0) room_1.cells room_1.slots (s₁.setTop (mkF m 42 #[.val (.int x0), .val (.int x1), .val (.int (w0_5 x0 x1)), .unset, .unset, .unset, .unset, .unset, .unset] [(.int (j0_42_s0 x0 x1))])) := by
        refine Goes.run X0 hx hown hci hcl hby (L := [(42, .istore_n 3, 1), (43, .goto 48, 3)]) (by decide +kernel) rfl (g' := (mkF m 91 #[.val (.int x0), .val (.int x1), .val (.int (w0_5 x0 x1)), .val (.int (j0_42_s0 x0 x1)), .unset, .unset, .unset, .unset, .unset] [])) rfl ?_
        have q := jn91_9
        rw [show (j0_91_3 x0 x1) = (j0_42_s0 x0 x1) from ((if_neg hc11_1).trans (if_pos hc27_24))] at q
        exact q
      by_cases hc34_25 : (w0_5 x0 x1) < (194 : Int32)
      · skip
        refine Goes.st (B := s₁.setTop (mkF m 41 #[.val (.int x0), .val (.int x1), .val (.int (w0_5 x0 x1)), .unset, .unset, .unset, .unset, .unset, .unset] [])) (fun t k => ?_) ?_
        · refine XS.icmpYes X0.here hx rfl (pc0 := 34) (pc' := 41) rfl (hb hby at_34) rfl (tlt hc34_25).1 (by decide) (by decide) ?_
          exact k
        refine Goes.run X0 hx hown hci hcl hby (L := [(41, .iconst 0, 1)]) (by decide +kernel) rfl (g' := (mkF m 42 #[.val (.int x0), .val (.int x1), .val (.int (w0_5 x0 x1)), .unset, .unset, .unset, .unset, .unset, .unset] [(.int (0 : Int32))])) rfl ?_
        have q := jn42_26
        rw [show (j0_42_s0 x0 x1) = (0 : Int32) from (if_pos hc34_25)] at q
        exact q
      · skip
        refine Goes.st (B := s₁.setTop (mkF m 37 #[.val (.int x0), .val (.int x1), .val (.int (w0_5 x0 x1)), .unset, .unset, .unset, .unset, .unset, .unset] [])) (fun t k => ?_) ?_
        · refine XS.icmpNo X0.here hx rfl (hb hby at_34) rfl (flt hc34_25).1 ?_
          exact k
        refine Goes.run X0 hx hown hci hcl hby (L := [(37, .iconst 2, 1), (38, .goto 4, 3)]) (by decide +kernel) rfl (g' := (mkF m 42 #[.val (.int x0), .val (.int x1), .val (.int (w0_5 x0 x1)), .unset, .unset, .unset, .unset, .unset, .unset] [(.int (2 : Int32))])) rfl ?_
        have q := jn42_26
        rw [show (j0_42_s0 x0 x1) = (2 : Int32) from (if_neg hc34_25)] at q
        exact q
    · skip
      refine Goes.st (B := s₁.setTop (mkF m 46 #[.val (.int x0), .val (.int x1), .val (.int (w0_5 x0 x1)), .unset, .unset, .unset, .unset, .unset, .unset] [])) (fun t k => ?_) ?_
      · refine XS.icmpYes X0.here hx rfl (pc0 := 27) (pc' := 46) rfl (hb hby at_27) rfl (feq hc27_24).2 (by decide) (by decide) ?_
        exact k
      refine Goes.run X0 hx hown hci hcl hby (L := [(46, .iload_n 2, 1), (47, .sipush 240, 3), (50, .iand, 1), (51, .sipush 224, 3)]) (by decide +kernel) rfl (g' := (mkF m 54 #[.val (.int x0), .val (.int x1), .val (.int (w0_5 x0 x1)), .unset, .unset, .unset, .unset, .unset, .unset] [(.int (224 : Int32)), (.int ((w0_5 x0 x1) &&& (240 : Int32)))])) rfl ?_
      by_cases hc54_27 : ((w0_5 x0 x1) &&& (240 : Int32)) = (224 : Int32)
      · skip
        refine Goes.st (B := s₁.setTop (mkF m 57 #[.val (.int x0), .val (.int x1), .val (.int (w0_5 x0 x1)), .unset, .unset, .unset, .unset, .unset, .unset] [])) (fun t k => ?_) ?_
        · refine XS.icmpNo X0.here hx rfl (hb hby at_54) rfl (teq hc54_27).2 ?_
          exact k
        refine Goes.run X0 hx hown hci hcl hby (L := [(57, .iconst 3, 1), (58, .istore_n 3, 1), (59, .goto 32, 3)]) (by decide +kernel) rfl (g' := (mkF m 91 #[.val (.int x0), .val (.int x1), .val (.int (w0_5 x0 x1)), .val (.int (3 : Int32)), .unset, .unset, .unset, .unset, .unset] [])) rfl ?_
        have q := jn91_9
        rw [show (j0_91_3 x0 x1) = (3 : Int32) from (((if_neg hc11_1).trans (if_neg hc27_24)).trans (if_pos hc54_27))] at q
        exact q
      · skip
        refine Goes.st (B := s₁.setTop (mkF m 62 #[.val (.int x0), .val (.int x1), .val (.int (w0_5 x0 x1)), .unset, .unset, .unset, .unset, .unset, .unset] [])) (fun t k => ?_) ?_
        · refine XS.icmpYes X0.here hx rfl (pc0 := 54) (pc' := 62) rfl (hb hby at_54) rfl (feq hc54_27).2 (by decide) (by decide) ?_
          exact k
        refine Goes.run X0 hx hown hci hcl hby (L := [(62, .iload_n 2, 1), (63, .sipush 248, 3), (66, .iand, 1), (67, .sipush 240, 3)]) (by decide +kernel) rfl (g' := (mkF m 70 #[.val (.int x0), .val (.int x1), .val (.int (w0_5 x0 x1)), .unset, .unset, .unset, .unset, .unset, .unset] [(.int (240 : Int32)), (.int ((w0_5 x0 x1) &&& (248 : Int32)))])) rfl ?_
        by_cases hc70_28 : ((w0_5 x0 x1) &&& (248 : Int32)) = (240 : Int32)
        · skip
          refine Goes.st (B := s₁.setTop (mkF m 73 #[.val (.int x0), .val (.int x1), .val (.int (w0_5 x0 x1)), .unset, .unset, .unset, .unset, .unset, .unset] [])) (fun t k => ?_) ?_
          · refine XS.icmpNo X0.here hx rfl (hb hby at_70) rfl (teq hc70_28).2 ?_
            exact k
          refine Goes.run X0 hx hown hci hcl hby (L := [(73, .iload_n 2, 1), (74, .sipush 244, 3)]) (by decide +kernel) rfl (g' := (mkF m 77 #[.val (.int x0), .val (.int x1), .val (.int (w0_5 x0 x1)), .unset, .unset, .unset, .unset, .unset, .unset] [(.int (244 : Int32)), (.int (w0_5 x0 x1))])) rfl ?_
          have jn85_30 : Goes p e below s (QP (some (.int (r0 x0 x1))) h0 n0) room_1.cells room_1.slots (s₁.setTop (mkF m 85 #[.val (.int x0), .val (.int x1), .val (.int (w0_5 x0 x1)), .unset, .unset, .unset, .unset, .unset, .unset] [(.int (j0_85_s0 x0 x1))])) := by
            refine Goes.run X0 hx hown hci hcl hby (L := [(85, .istore_n 3, 1), (86, .goto 5, 3)]) (by decide +kernel) rfl (g' := (mkF m 91 #[.val (.int x0), .val (.int x1), .val (.int (w0_5 x0 x1)), .val (.int (j0_85_s0 x0 x1)), .unset, .unset, .unset, .unset, .unset] [])) rfl ?_
            have q := jn91_9
            rw [show (j0_91_3 x0 x1) = (j0_85_s0 x0 x1) from ((((if_neg hc11_1).trans (if_neg hc27_24)).trans (if_neg hc54_27)).trans (if_pos hc70_28))] at q
            exact q
          by_cases hc77_29 : (244 : Int32) < (w0_5 x0 x1)
          · skip
            refine Goes.st (B := s₁.setTop (mkF m 84 #[.val (.int x0), .val (.int x1), .val (.int (w0_5 x0 x1)), .unset, .unset, .unset, .unset, .unset, .unset] [])) (fun t k => ?_) ?_
            · refine XS.icmpYes X0.here hx rfl (pc0 := 77) (pc' := 84) rfl (hb hby at_77) rfl (tlt hc77_29).2.2.1 (by decide) (by decide) ?_
              exact k
            refine Goes.run X0 hx hown hci hcl hby (L := [(84, .iconst 0, 1)]) (by decide +kernel) rfl (g' := (mkF m 85 #[.val (.int x0), .val (.int x1), .val (.int (w0_5 x0 x1)), .unset, .unset, .unset, .unset, .unset, .unset] [(.int (0 : Int32))])) rfl ?_
            have q := jn85_30
            rw [show (j0_85_s0 x0 x1) = (0 : Int32) from (if_pos hc77_29)] at q
            exact q
          · skip
            refine Goes.st (B := s₁.setTop (mkF m 80 #[.val (.int x0), .val (.int x1), .val (.int (w0_5 x0 x1)), .unset, .unset, .unset, .unset, .unset, .unset] [])) (fun t k => ?_) ?_
            · refine XS.icmpNo X0.here hx rfl (hb hby at_77) rfl (flt hc77_29).2.2.1 ?_
              exact k
            refine Goes.run X0 hx hown hci hcl hby (L := [(80, .iconst 4, 1), (81, .goto 4, 3)]) (by decide +kernel) rfl (g' := (mkF m 85 #[.val (.int x0), .val (.int x1), .val (.int (w0_5 x0 x1)), .unset, .unset, .unset, .unset, .unset, .unset] [(.int (4 : Int32))])) rfl ?_
            have q := jn85_30
            rw [show (j0_85_s0 x0 x1) = (4 : Int32) from (if_neg hc77_29)] at q
            exact q
        · skip
          refine Goes.st (B := s₁.setTop (mkF m 89 #[.val (.int x0), .val (.int x1), .val (.int (w0_5 x0 x1)), .unset, .unset, .unset, .unset, .unset, .unset] [])) (fun t k => ?_) ?_
          · refine XS.icmpYes X0.here hx rfl (pc0 := 70) (pc' := 89) rfl (hb hby at_70) rfl (feq hc70_28).2 (by decide) (by decide) ?_
            exact k
          refine Goes.run X0 hx hown hci hcl hby (L := [(89, .iconst 0, 1), (90, .istore_n 3, 1)]) (by decide +kernel) rfl (g' := (mkF m 91 #[.val (.int x0), .val (.int x1), .val (.int (w0_5 x0 x1)), .val (.int (0 : Int32)), .unset, .unset, .unset, .unset, .unset] [])) rfl ?_
          have q := jn91_9
          rw [show (j0_91_3 x0 x1) = (0 : Int32) from ((((if_neg hc11_1).trans (if_neg hc27_24)).trans (if_neg hc54_27)).trans (if_neg hc70_28))] at q
          exact q
theorem own_lead : ∀ n : Fin 256, r1 (Int32.ofNat n.val) = (if ((Int32.ofNat n.val) &&& (128 : Int32)) = (0 : Int32) then (1 : Int32) else (if ((Int32.ofNat n.val) &&& (224 : Int32)) = (192 : Int32) then (if (Int32.ofNat n.val) < (194 : Int32) then (0 : Int32) else (2 : Int32)) else (if ((Int32.ofNat n.val) &&& (240 : Int32)) = (224 : Int32) then (3 : Int32) else (if ((Int32.ofNat n.val) &&& (248 : Int32)) = (240 : Int32) then (if (244 : Int32) < (Int32.ofNat n.val) then (0 : Int32) else (4 : Int32)) else (0 : Int32))))) := by decide +kernel
theorem own_one : ∀ n : Fin 128, r1 (Int32.ofNat n.val) = 1 := by decide +kernel
theorem own_two : ∀ n : Fin 32, 2 ≤ n.val → r1 ((192 : Int32) ||| Int32.ofNat n.val) = 2 := by decide +kernel
theorem own_three : ∀ n : Fin 16, r1 ((224 : Int32) ||| Int32.ofNat n.val) = 3 := by decide +kernel
theorem own_four : ∀ n : Fin 5, r1 ((240 : Int32) ||| Int32.ofNat n.val) = 4 := by decide +kernel
theorem law_true (x0 : Int32) (x1 : Int32) : r0 x0 x1 = 1 := by
  obtain ⟨A, m0, a0, a1, -⟩ := own_m32 x0 (255 : Int32) (k := 8) (by decide) (by decide)
  obtain ⟨n, hn, e0, -⟩ := own_nat32 (u := w0_5 x0 x1) m0 a0 (N := 256) (by omega)
  have h1 : j0_104_s0 x0 x1 = 1 := by
    refine if_pos ?_
    unfold j0_91_3 j0_42_s0 j0_85_s0
    rw [e0]
    exact own_lead ⟨n, hn⟩
  obtain ⟨B, m1, b0, b1, -⟩ := own_m32 x1 (2147483647 : Int32) (k := 31) (by decide) (by decide)
  obtain ⟨C, hC, c⟩ : ∃ C, (w0_113 x0 x1).toInt = C ∧ C = B % 1114112 := ⟨_, own_r32 m1 (show (1114112 : Int32).toInt = 1114112 by decide) b0, rfl⟩
  have k1 := own_lt32 hC (show (128 : Int32).toInt = 128 by decide)
  have k2 := own_lt32 hC (show (2048 : Int32).toInt = 2048 by decide)
  have k3 := own_lt32 hC (show (65536 : Int32).toInt = 65536 by decide)
  have s6 : ((w0_113 x0 x1) >>> ((6 : Int32) &&& 31)).toInt = C / 64 := by rw [Jvm.Kit.i32_shr _ _ (k := 6) (by decide), hC]; rfl
  have s12 : ((w0_113 x0 x1) >>> ((12 : Int32) &&& 31)).toInt = C / 4096 := by rw [Jvm.Kit.i32_shr _ _ (k := 12) (by decide), hC]; rfl
  have s18 : ((w0_113 x0 x1) >>> ((18 : Int32) &&& 31)).toInt = C / 262144 := by rw [Jvm.Kit.i32_shr _ _ (k := 18) (by decide), hC]; rfl
  have h2 : j0_211_s0 x0 x1 = 1 := by
    refine if_pos ?_
    unfold j0_196_6 j0_196_7
    by_cases c1 : (w0_113 x0 x1) < (128 : Int32)
    · rw [if_pos c1, if_pos c1]
      obtain ⟨i, hi, ei, -⟩ := own_nat32 hC (by omega) (N := 128) (k1.mp c1)
      rw [ei]; exact own_one ⟨i, hi⟩
    · rw [if_neg c1, if_neg c1]
      have c1' : ¬ C < 128 := fun q => c1 (k1.mpr q)
      by_cases c2 : (w0_113 x0 x1) < (2048 : Int32)
      · rw [if_pos c2, if_pos c2]
        have c2' := k2.mp c2
        obtain ⟨i, hi, ei, li⟩ := own_nat32 s6 (by omega) (N := 32) (by omega)
        unfold w0_150
        rw [ei]; exact own_two ⟨i, hi⟩ (by show 2 ≤ i; omega)
      · rw [if_neg c2, if_neg c2]
        have c2' : ¬ C < 2048 := fun q => c2 (k2.mpr q)
        by_cases c3 : (w0_113 x0 x1) < (65536 : Int32)
        · rw [if_pos c3, if_pos c3]
          have c3' := k3.mp c3
          obtain ⟨i, hi, ei, li⟩ := own_nat32 s12 (by omega) (N := 16) (by omega)
          unfold w0_174
          rw [ei]; exact own_three ⟨i, hi⟩
        · rw [if_neg c3, if_neg c3]
          obtain ⟨i, hi, ei, li⟩ := own_nat32 s18 (by omega) (N := 5) (by omega)
          unfold w0_191
          rw [ei]; exact own_four ⟨i, hi⟩
  unfold r0
  rw [h1, h2]; decide
set_option maxRecDepth 65536 in
set_option maxHeartbeats 40000000 in
theorem comes_1 {Post : Tables → Env → Array Value → State → Outcome → State → Prop} (hpost : ∀ tb e args s v u, (limb_1_1.after args s (.returned v) u = true ∧ limb_1_2.after args s (.returned v) u = true ∧ True) → FrameEnd s (.returned v) u (Jvm.fieldLocs frame_1_writes args s ++ Jvm.arrayLocs frame_1_arrays args s ++ Jvm.staticLocs frame_1_statics s) 0 0 → Post tb e args s (.returned v) u) :
    ArmFor flags0 classFile x code maxLocals ret World_1 tables_1 room_1 Calls_1 rest_1 Pre_1 Post := by
  intro l hfl _ _ p e ha hc hk s m args below hf hA hF happ hP
  obtain ⟨hcalls, hrest, hpre⟩ := hP
  obtain ⟨-, -, -, hnamed, -, -, -, hat⟩ := (Spec.applies_iff hf).mp happ
  obtain ⟨hg, hn⟩ := and_e (Cond.before_iff.mp (show (Jvm.Cond.and given_1 narrow_1).before args s = true from hpre))
  obtain ⟨g0, g0r⟩ := and_e hg
  obtain ⟨g1, g2⟩ := and_e g0r
  obtain ⟨w0, w1, rfl⟩ : ∃ w0 w1 : Value, args = #[w0, w1] := by
    have hs : args.size = 2 := by simpa [Cond.value, given_1] using g0
    obtain ⟨L⟩ := args
    match L, hs with
    | [w0, w1], _ => exact ⟨w0, w1, rfl⟩
  have hw := fun d (hd : d ∈ tables_1) => atoms_spec (ws := Jvm.Cond.code x code maxLocals ret :: tables_1) hat d (List.mem_cons_of_mem _ hd)
  have hfit : Fit s := fun {y c} hc i hi => by
    obtain ⟨ha, rfl⟩ := Array.getElem?_eq_some_iff.mp hc
    have q := List.all_eq_true.mp ((Array.all_eq_true_iff_forall_mem.mp hF) _ (Array.getElem_mem ha)) i (List.mem_range.mpr hi)
    simpa [Array.getElem?_eq_getElem hi] using q
  obtain ⟨i0, ei0⟩ := is_v g1
  obtain rfl : w0 = (.int i0) := Option.some.inj ei0
  obtain ⟨i1, ei1⟩ := is_v g2
  obtain rfl : w1 = (.int i1) := Option.some.inj ei1
  obtain ⟨n, o, h1, h2, h3, v, L, rfl, hv, hq⟩ := rm0 l s _ hw tables_1 i0 i1  s.heap s.heap.size (Nat.le_refl _)  p e ha hc hk s m _ below hf ((Spec.applies_iff_loose hf).mp happ).1 ⟨rfl, State.Warmed39.refl s, rfl⟩ trivial
  have N := hv.2.1
  have hv1 : v = some (.int 1) := hv.1.trans (congrArg (fun z => some (Value.int z)) (law_true i0 i1))
  subst hv1
  refine ⟨n, _, h1, h2, h3, hpost _ _ _ _ _ _ ⟨Cond.after_iff.mpr rfl, Cond.after_iff.mpr (eq_i res_at (Term.int_eval (1)) rfl), trivial⟩ ⟨hq.1, hq.2.1, (hq.2.2.sift fun y hy => Or.inr (N y hy)).mono (by decide) (by decide)⟩⟩
theorem main_1_1 : Claimed_1_1 := comes_1 fun _ _ _ _ _ _ h hF => ⟨h.1, hF⟩
theorem main_1_2 : Claimed_1_2 := comes_1 fun _ _ _ _ _ _ h hF => ⟨h.2.1, hF⟩
end Jvm.Pilot.@@N@@
namespace Jvm.Pilot.@@N@@
open Jvm Jvm.ClassFile Sem Op Lib Jvm.Free Jvm.Stand Jvm.Pilot.@@N@@.Jvm.D
/-! MADE BY PROGRAM (witnessworld.py) out of the Statement's table words and the real class files: 9 classes; the members and pool entries that the words name. The judged class is class 1, her method 1. -/
namespace start1
open Jvm.ClassFile
def u (s : String) : CpInfo := .utf8 (stringToUtf16 s)
/-- a pool by its gaps: so many unusable entries, then the entry; so many at the end -/
def gap : Nat → List CpInfo → List CpInfo
  | 0, r => r
  | n + 1, r => .unusable :: gap n r
def poolList (es : List (Nat × CpInfo)) (last : Nat) : List CpInfo := es.foldr (fun e r => gap e.1 (e.2 :: r)) (gap last [])
def pool (es : List (Nat × CpInfo)) (last : Nat) : Array CpInfo := ⟨poolList es last⟩
def fileOf (pool : Array CpInfo) (this : Nat) (attrs : Array Attribute := #[]) (ms : Array MethodInfo := #[]) (fl : Nat := 33) (sup : Nat := 0) (ifs : Array Nat := #[]) (fds : Array FieldInfo := #[]) : ClassFile where
  minorVersion := 0
  majorVersion := 65
  constantPool := pool
  accessFlags := fl
  thisClass := this
  superClass := sup
  interfaces := ifs
  fields := fds
  methods := ms
  attributes := attrs
def plain (name : String) (sup : Option ClassId) : Class where
  name := name
  kind := .ordinary
  loader := none
  accessFlags := 33
  super := sup
  interfaces := #[]
  cf := none
  fields := #[]
  methods := #[]
  instanceTypes := #[]
  staticTypes := #[]
  resolved := #[]
  callSites := []
  init := .initialized
  statics := none
  mirror := none

def pool0 : Array CpInfo := pool [(5, u "<init>"), (0, u "()V"), (1, .class_ 10), (1, u "java/lang/Object")] 113

def k0m0 : Method := { name := "<init>", desc := "()V", sig := { parameters := [], returnType := none }, accessFlags := 1, code := none }
/-- java/lang/Object -/
def k0 : Class := { plain "java/lang/Object" none with
  accessFlags := 33
  interfaces := #[]
  cf := some (fileOf pool0 8 #[] #[{ accessFlags := 1, nameIndex := 5, descriptorIndex := 6, attributes := #[] }] 33 0 #[] #[])
  fields := #[]
  methods := #[k0m0]
  instanceTypes := #[]
  staticTypes := #[]
  resolved := Array.replicate 124 none
  statics := none }

def pool1 : Array CpInfo := pool [(2, .class_ 4), (1, u "java/lang/Object"), (0, u "<init>"), (0, u "()V"), (0, .methodref 8 9), (0, .class_ 10), (0, .nameAndType 11 12), (0, u "com/example/terseref/terseref/core/CborReader"), (0, u "utf8Length"), (0, u "(I)I"), (0, .integer 2147483647), (0, .integer 1114112), (0, .integer 65536), (0, .class_ 17), (0, u "com/example/terseref/terseref/core/CborReaderUtf8LengthPinLaw"), (2, u "law"), (0, u "(II)Z")] 3

def k1m0 : Method := { name := "<init>", desc := "()V", sig := { parameters := [], returnType := none }, accessFlags := 1, code := none }
def k1c1 : Code := { maxStack := 3, maxLocals := 9, code := code, exceptionTable := #[], attributes := #[] }
def k1m1 : Method := { name := "law", desc := "(II)Z", sig := { parameters := [.int, .int], returnType := some .boolean }, accessFlags := 9, code := some k1c1 }
/-- com/example/terseref/terseref/core/CborReaderUtf8LengthPinLaw -/
def k1 : Class := { plain "com/example/terseref/terseref/core/CborReaderUtf8LengthPinLaw" (some 0) with
  accessFlags := 49
  interfaces := #[]
  cf := some (fileOf pool1 16 #[] #[{ accessFlags := 1, nameIndex := 5, descriptorIndex := 6, attributes := #[] }, { accessFlags := 9, nameIndex := 20, descriptorIndex := 21, attributes := #[] }] 49 2 #[] #[])
  fields := #[]
  methods := #[k1m0, k1m1]
  instanceTypes := #[]
  staticTypes := #[]
  resolved := Array.replicate 25 none
  statics := none }

def pool2 : Array CpInfo := pool [(1, .class_ 2), (0, u "com/example/terseref/terseref/core/CborReader"), (1, .class_ 6), (1, u "java/lang/Object"), (4, u "headsShortest"), (0, u "Z"), (2, u "data"), (0, u "[B"), (69, u "KINDS"), (6, u "KIND_NAMES"), (0, u "[Ljava/lang/String;"), (14, u "(I)I"), (85, u "utf8Length"), (29, u "UNSIGNED"), (0, u "I"), (2, u "NEGATIVE"), (1, u "BYTES"), (1, u "TEXT"), (1, u "ARRAY"), (1, u "MAP"), (1, u "TAG"), (1, u "FALSE"), (1, u "TRUE"), (1, u "NULL"), (1, u "FLOAT"), (1, u "SIMPLE"), (1, u "ADDITIONAL_INFO_MASK"), (1, u "ONE_BYTE_ARGUMENT"), (1, u "FIRST_RESERVED"), (1, u "INDEFINITE_LENGTH"), (0, u "BREAK"), (1, u "FIRST_EXTENDED_SIMPLE"), (1, u "ZERO_BYTE"), (0, u "B"), (0, u "EMPTY_TEXT_BYTE"), (1, u "EMPTY_ARRAY_BYTE"), (1, u "FALSE_BYTE"), (1, u "TRUE_BYTE"), (1, u "NULL_BYTE"), (1, u "FIRST_CONTINUATION"), (1, u "LAST_CONTINUATION"), (1, u "CONTINUATION_BITS"), (0, u "CONTINUATION_PAYLOAD"), (1, u "ASCII_MASK"), (1, u "OPEN_ARRAY"), (1, u "OPEN_MAP_KEY"), (1, u "OPEN_MAP_VALUE"), (1, u "INITIAL_DEPTH")] 26

def k2c0 : Code := { maxStack := 2, maxLocals := 2, code := prog_18_method_34_code, exceptionTable := #[], attributes := #[] }
def k2m0 : Method := { name := "utf8Length", desc := "(I)I", sig := { parameters := [.int], returnType := some .int }, accessFlags := 8, code := some k2c0 }
/-- com/example/terseref/terseref/core/CborReader -/
def k2 : Class := { plain "com/example/terseref/terseref/core/CborReader" (some 0) with
  accessFlags := 48
  interfaces := #[]
  cf := some (fileOf pool2 1 #[] #[{ accessFlags := 8, nameIndex := 195, descriptorIndex := 109, attributes := #[] }] 48 4 #[] #[{ accessFlags := 24, nameIndex := 225, descriptorIndex := 226, attributes := #[] }, { accessFlags := 24, nameIndex := 229, descriptorIndex := 226, attributes := #[] }, { accessFlags := 24, nameIndex := 231, descriptorIndex := 226, attributes := #[] }, { accessFlags := 24, nameIndex := 233, descriptorIndex := 226, attributes := #[] }, { accessFlags := 24, nameIndex := 235, descriptorIndex := 226, attributes := #[] }, { accessFlags := 24, nameIndex := 237, descriptorIndex := 226, attributes := #[] }, { accessFlags := 24, nameIndex := 239, descriptorIndex := 226, attributes := #[] }, { accessFlags := 24, nameIndex := 241, descriptorIndex := 226, attributes := #[] }, { accessFlags := 24, nameIndex := 243, descriptorIndex := 226, attributes := #[] }, { accessFlags := 24, nameIndex := 245, descriptorIndex := 226, attributes := #[] }, { accessFlags := 24, nameIndex := 247, descriptorIndex := 226, attributes := #[] }, { accessFlags := 24, nameIndex := 249, descriptorIndex := 226, attributes := #[] }, { accessFlags := 26, nameIndex := 93, descriptorIndex := 94, attributes := #[] }, { accessFlags := 26, nameIndex := 251, descriptorIndex := 226, attributes := #[] }, { accessFlags := 24, nameIndex := 253, descriptorIndex := 226, attributes := #[] }, { accessFlags := 26, nameIndex := 255, descriptorIndex := 226, attributes := #[] }, { accessFlags := 26, nameIndex := 257, descriptorIndex := 226, attributes := #[] }, { accessFlags := 26, nameIndex := 258, descriptorIndex := 226, attributes := #[] }, { accessFlags := 26, nameIndex := 260, descriptorIndex := 226, attributes := #[] }, { accessFlags := 24, nameIndex := 262, descriptorIndex := 263, attributes := #[] }, { accessFlags := 24, nameIndex := 264, descriptorIndex := 263, attributes := #[] }, { accessFlags := 24, nameIndex := 266, descriptorIndex := 263, attributes := #[] }, { accessFlags := 24, nameIndex := 268, descriptorIndex := 263, attributes := #[] }, { accessFlags := 24, nameIndex := 270, descriptorIndex := 263, attributes := #[] }, { accessFlags := 24, nameIndex := 272, descriptorIndex := 263, attributes := #[] }, { accessFlags := 26, nameIndex := 274, descriptorIndex := 226, attributes := #[] }, { accessFlags := 26, nameIndex := 276, descriptorIndex := 226, attributes := #[] }, { accessFlags := 26, nameIndex := 278, descriptorIndex := 226, attributes := #[] }, { accessFlags := 26, nameIndex := 279, descriptorIndex := 226, attributes := #[] }, { accessFlags := 26, nameIndex := 281, descriptorIndex := 226, attributes := #[] }, { accessFlags := 26, nameIndex := 283, descriptorIndex := 226, attributes := #[] }, { accessFlags := 26, nameIndex := 285, descriptorIndex := 226, attributes := #[] }, { accessFlags := 26, nameIndex := 287, descriptorIndex := 226, attributes := #[] }, { accessFlags := 26, nameIndex := 289, descriptorIndex := 226, attributes := #[] }, { accessFlags := 26, nameIndex := 86, descriptorIndex := 16, attributes := #[] }, { accessFlags := 18, nameIndex := 15, descriptorIndex := 16, attributes := #[] }, { accessFlags := 2, nameIndex := 11, descriptorIndex := 12, attributes := #[] }])
  fields := #[{ name := "UNSIGNED", type := .int, accessFlags := 24, slot := 0, constantValue := 0 }, { name := "NEGATIVE", type := .int, accessFlags := 24, slot := 1, constantValue := 0 }, { name := "BYTES", type := .int, accessFlags := 24, slot := 2, constantValue := 0 }, { name := "TEXT", type := .int, accessFlags := 24, slot := 3, constantValue := 0 }, { name := "ARRAY", type := .int, accessFlags := 24, slot := 4, constantValue := 0 }, { name := "MAP", type := .int, accessFlags := 24, slot := 5, constantValue := 0 }, { name := "TAG", type := .int, accessFlags := 24, slot := 6, constantValue := 0 }, { name := "FALSE", type := .int, accessFlags := 24, slot := 7, constantValue := 0 }, { name := "TRUE", type := .int, accessFlags := 24, slot := 8, constantValue := 0 }, { name := "NULL", type := .int, accessFlags := 24, slot := 9, constantValue := 0 }, { name := "FLOAT", type := .int, accessFlags := 24, slot := 10, constantValue := 0 }, { name := "SIMPLE", type := .int, accessFlags := 24, slot := 11, constantValue := 0 }, { name := "KIND_NAMES", type := (.array (.object "java/lang/String")), accessFlags := 26, slot := 12, constantValue := 0 }, { name := "ADDITIONAL_INFO_MASK", type := .int, accessFlags := 26, slot := 13, constantValue := 0 }, { name := "ONE_BYTE_ARGUMENT", type := .int, accessFlags := 24, slot := 14, constantValue := 0 }, { name := "FIRST_RESERVED", type := .int, accessFlags := 26, slot := 15, constantValue := 0 }, { name := "INDEFINITE_LENGTH", type := .int, accessFlags := 26, slot := 16, constantValue := 0 }, { name := "BREAK", type := .int, accessFlags := 26, slot := 17, constantValue := 0 }, { name := "FIRST_EXTENDED_SIMPLE", type := .int, accessFlags := 26, slot := 18, constantValue := 0 }, { name := "ZERO_BYTE", type := .byte, accessFlags := 24, slot := 19, constantValue := 0 }, { name := "EMPTY_TEXT_BYTE", type := .byte, accessFlags := 24, slot := 20, constantValue := 0 }, { name := "EMPTY_ARRAY_BYTE", type := .byte, accessFlags := 24, slot := 21, constantValue := 0 }, { name := "FALSE_BYTE", type := .byte, accessFlags := 24, slot := 22, constantValue := 0 }, { name := "TRUE_BYTE", type := .byte, accessFlags := 24, slot := 23, constantValue := 0 }, { name := "NULL_BYTE", type := .byte, accessFlags := 24, slot := 24, constantValue := 0 }, { name := "FIRST_CONTINUATION", type := .int, accessFlags := 26, slot := 25, constantValue := 0 }, { name := "LAST_CONTINUATION", type := .int, accessFlags := 26, slot := 26, constantValue := 0 }, { name := "CONTINUATION_BITS", type := .int, accessFlags := 26, slot := 27, constantValue := 0 }, { name := "CONTINUATION_PAYLOAD", type := .int, accessFlags := 26, slot := 28, constantValue := 0 }, { name := "ASCII_MASK", type := .int, accessFlags := 26, slot := 29, constantValue := 0 }, { name := "OPEN_ARRAY", type := .int, accessFlags := 26, slot := 30, constantValue := 0 }, { name := "OPEN_MAP_KEY", type := .int, accessFlags := 26, slot := 31, constantValue := 0 }, { name := "OPEN_MAP_VALUE", type := .int, accessFlags := 26, slot := 32, constantValue := 0 }, { name := "INITIAL_DEPTH", type := .int, accessFlags := 26, slot := 33, constantValue := 0 }, { name := "KINDS", type := (.array .byte), accessFlags := 26, slot := 34, constantValue := 0 }, { name := "data", type := (.array .byte), accessFlags := 18, slot := 0, constantValue := 0 }, { name := "headsShortest", type := .boolean, accessFlags := 2, slot := 1, constantValue := 0 }]
  methods := #[k2m0]
  instanceTypes := #[(.array .byte), .boolean]
  staticTypes := #[.int, .int, .int, .int, .int, .int, .int, .int, .int, .int, .int, .int, (.array (.object "java/lang/String")), .int, .int, .int, .int, .int, .int, .byte, .byte, .byte, .byte, .byte, .byte, .int, .int, .int, .int, .int, .int, .int, .int, .int, (.array .byte)]
  resolved := Array.replicate 316 none
  statics := none }

def pool3 : Array CpInfo := pool [(1, u "java/lang/Cloneable"), (0, .class_ 1), (0, u "java/lang/Object"), (0, .class_ 3)] 3

/-- java/lang/Cloneable -/
def k3 : Class := { plain "java/lang/Cloneable" (some 0) with
  accessFlags := 1537
  interfaces := #[]
  cf := some (fileOf pool3 2 #[] #[] 1537 4 #[] #[])
  fields := #[]
  methods := #[]
  instanceTypes := #[]
  staticTypes := #[]
  resolved := Array.replicate 8 none
  statics := none }

def pool4 : Array CpInfo := pool [(1, u "java/io/Serializable"), (0, .class_ 1), (0, u "java/lang/Object"), (0, .class_ 3)] 3

/-- java/io/Serializable -/
def k4 : Class := { plain "java/io/Serializable" (some 0) with
  accessFlags := 1537
  interfaces := #[]
  cf := some (fileOf pool4 2 #[] #[] 1537 4 #[] #[])
  fields := #[]
  methods := #[]
  instanceTypes := #[]
  staticTypes := #[]
  resolved := Array.replicate 8 none
  statics := none }

/-- the primitive byte -/
def k5 : Class := { plain "byte" none with kind := .primitive 'B', accessFlags := 0x411 }
/-- [B -/
def k6 : Class := { plain "[B" (some 0) with kind := .array 5 .byte, interfaces := #[3, 4], accessFlags := 1041 }

/-- the primitive int -/
def k7 : Class := { plain "int" none with kind := .primitive 'I', accessFlags := 0x411 }
/-- [I -/
def k8 : Class := { plain "[I" (some 0) with kind := .array 7 .int, interfaces := #[3, 4], accessFlags := 1041 }

def heap : Heap := #[]
def classes : Array Class := #[k0, k1, k2, k3, k4, k5, k6, k7, k8]
def interned : List (Array UInt16 × Addr) := []
def slotsUsed : Nat := 0
def theMethod : MethodId := ⟨1, 1⟩
def args0 : Array Value := #[.int 5, .int 7]
def aboutOver (below : List Frame) : State where
  vm := { classes := classes, interned := interned.toArray }
  heap := heap
  slotsUsed := slotsUsed
  threads := #[{ frames := .invoking theMethod args0 :: below }]
def below0 : List Frame := [.native { method := ⟨0, 0⟩, args := #[] }]
def about1 : State := aboutOver below0
def p0 : Program := .bare "" "" ""
def e0 : Env := launch0.env 0 0 0
theorem w_frames : about1.frames = Frame.invoking theMethod args0 :: below0 := rfl
set_option maxRecDepth 65536 in
theorem w_args : argsFit about1.vm theMethod args0 = true := by decide +kernel
set_option maxRecDepth 65536 in
theorem w_heap : heapFits about1 = true := by decide +kernel
set_option maxRecDepth 65536 in
theorem w_runnable : about1.curStatus? = some .runnable := by decide +kernel
set_option maxRecDepth 65536 in
theorem w_alone : about1.alone = true := by decide +kernel
set_option maxRecDepth 65536 in
theorem w_named : about1.methodNamed? x = some theMethod := by decide +kernel
set_option maxRecDepth 65536 in
theorem w_hears : about1.hears theMethod below0 = true := by decide +kernel
set_option maxRecDepth 65536 in
theorem w_ripe : about1.ripe theMethod args0 below0 = true := by decide +kernel
theorem w_running : about1.status = .running := rfl
set_option maxRecDepth 65536 in
theorem w_room : about1.hasRoom e0.platform room_1 = true :=
  launch0.hasRoom_least _ room_1 (by decide +kernel) (by decide +kernel) (by decide +kernel) (by decide +kernel) (by decide +kernel) (by decide +kernel)
theorem allAtoms_all (ts : List Jvm.Cond) (a : Array Jvm.Value) (st : Jvm.State) : (allAtoms ts).before a st = ts.all (fun c => c.before a st) := by
  induction ts with
  | nil => rfl
  | cons c t ih =>
    show (Jvm.Cond.and c (allAtoms t)).before a st = _
    rw [Jvm.Cond.before_and, ih, List.all_cons]
def words1 : List Jvm.Cond := Jvm.Cond.code x code maxLocals ret :: tables_1
/-- a 'code' word, met by the world's own term for the bytes: nothing is compared byte by byte -/
theorem code_word {y : MethodName} {bytes : ByteArray} {mx : Nat} {rt : Option FieldType} {a : Array Value} {s : State} {m : MethodId} {meth : Method} {c : Code} (h1 : s.methodNamed? y = some m) (h2 : s.vm.method? m = some meth) (h3 : meth.code = some c) (h4 : c.code = bytes)
    (h5 : (c.maxLocals == mx && c.exceptionTable.isEmpty && decide (c.maxStack ≤ mostOperands) && decide (meth.sig.returnType = rt) && !meth.locks && decide (parseMethodDescriptor y.desc = some meth.sig)) = true) : (Jvm.Cond.code y bytes mx rt).before a s = true := by
  simp only [Bool.and_eq_true, beq_iff_eq, Bool.not_eq_true', decide_eq_true_eq] at h5
  obtain ⟨⟨⟨⟨⟨g1, g2⟩, g3⟩, g4⟩, g5⟩, g6⟩ := h5
  simp [Cond.before, Cond.holds, Cond.value, h1, h2, h3, h4, g1, g2, g3, g4, g5, g6]
def isCode : Jvm.Cond → Bool
  | .code _ _ _ _ => true
  | _ => false
theorem all_split {L : List Jvm.Cond} {P : Jvm.Cond → Bool} (h1 : L.all (fun c => isCode c || P c) = true) (h2 : ∀ c ∈ L.filter isCode, P c = true) : L.all P = true := by
  refine List.all_eq_true.mpr fun c hc => ?_
  have h := List.all_eq_true.mp h1 c hc
  rcases Bool.eq_false_or_eq_true (isCode c) with hi | hi
  · exact h2 c (List.mem_filter.mpr ⟨hc, hi⟩)
  · simpa [hi] using h
set_option maxRecDepth 65536 in
theorem w_c0 : (Jvm.Cond.code x code maxLocals ret).before args0 about1 = true := code_word (m := ⟨1, 1⟩) (meth := k1m1) (c := k1c1) (by decide +kernel) rfl rfl rfl (by decide +kernel)
set_option maxRecDepth 65536 in
theorem w_c1 : (Jvm.Cond.code ({ cls := "com/example/terseref/terseref/core/CborReader", name := "utf8Length", desc := "(I)I" } : Jvm.MethodName) prog_18_method_34_code (2 : Nat) (Option.some Jvm.ClassFile.FieldType.int)).before args0 about1 = true := code_word (m := ⟨2, 0⟩) (meth := k2m0) (c := k2c0) (by decide +kernel) rfl rfl rfl (by decide +kernel)
def codes1 : List Jvm.Cond := [Jvm.Cond.code x code maxLocals ret, Jvm.Cond.code ({ cls := "com/example/terseref/terseref/core/CborReader", name := "utf8Length", desc := "(I)I" } : Jvm.MethodName) prog_18_method_34_code (2 : Nat) (Option.some Jvm.ClassFile.FieldType.int)]
set_option maxRecDepth 65536 in
theorem codes_eq : words1.filter isCode = codes1 := rfl
theorem w_codes : ∀ c ∈ words1.filter isCode, c.before args0 about1 = true := by
  rw [codes_eq]
  intro c hc
  simp only [codes1, List.mem_cons, List.not_mem_nil, or_false] at hc
  rcases hc with rfl | rfl
  · exact w_c0
  · exact w_c1
set_option maxRecDepth 65536 in
theorem w_t1 : words1.all (fun c => isCode c || c.before args0 about1) = true := by decide +kernel
theorem w_tables : (allAtoms (Jvm.Cond.code x code maxLocals ret :: tables_1)).before args0 about1 = true := by
  rw [allAtoms_all]
  show words1.all (fun c => c.before args0 about1) = true
  refine all_split ?_ w_codes
  rw [w_t1]
set_option maxRecDepth 65536 in
theorem w_case : (Jvm.Cond.and given_1 narrow_1).before args0 about1 = true := by decide +kernel
theorem w_applies : (headSpec (Jvm.Cond.code x code maxLocals ret :: tables_1) room_1).applies x e0.platform about1 = true :=
  (Spec.applies_iff w_frames).mpr ⟨w_running, w_runnable, w_alone, w_named, w_hears, w_ripe, w_room, w_tables⟩
theorem atStart : AtStart classFile x code maxLocals ret World_1 tables_1 room_1 Calls_1 rest_1 Pre_1 launch0 p0 e0 about1 theMethod args0 below0 :=
  ⟨lists_1, trivial, launch0.admits_env _ _ _, launch0.least_env, fairChoices_fair.cas, fairChoices_fair.clock, w_frames, w_args, w_heap, w_applies, trivial, trivial, w_case⟩
end start1
theorem witness_1 : WitnessClaimed_1 := ⟨start1.p0, start1.e0, start1.about1, start1.theMethod, start1.args0, start1.below0, start1.atStart⟩
end Jvm.Pilot.@@N@@
