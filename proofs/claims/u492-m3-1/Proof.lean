import JvmDerived
import JvmDerived.Pilot.@@N@@Statement
import JvmDerived.Pilot.@@N@@Code
set_option linter.unusedVariables false
set_option linter.unusedSimpArgs false
@@BLOCK:NumsL.lean.txt@@
namespace Jvm.Pilot.@@N@@
open Jvm Jvm.ClassFile Sem Op Lib Jvm.Free Jvm.Stand Jvm.LawKit Jvm.RoadKit Bundle Jvm.Pilot.@@N@@.Jvm.D
def Goes (p : Program) (e : Env) (below : List Frame) (s : State) (Q : Option Value → Heap → List Loc → Prop) (kc ks : Nat) (A : State) : Prop :=
  ∃ s₂ o, Steps p.tables e below A s₂ ∧ s₂.status = .running ∧ Ended s₂ below o ∧ ∃ v L, o = .returned v ∧ Q v s₂.heap L ∧ FrameEnd s o s₂ L kc ks
def QL (w : Option Value) (n0 : Nat) (v : Option Value) (h : Heap) (L : List Loc) : Prop := v = w ∧ Fr n0 L
theorem own_selp {s : State} {args : Array Value} {y : MethodName} {n : Nat} (hins : (Cond.instantiable y.cls n).before args s = true) (hpriv : (Cond.privateMethod y).before args s = true) (hinst : (Cond.instanceMethod y).before args s = true) (hy : y.cls ≠ "java/lang/invoke/MethodHandle" ∧ y.cls ≠ "java/lang/invoke/VarHandle") : (Cond.selects y.cls y y).before args s = true := by
  obtain ⟨c, k, hc, hk, -, hniab, -, -⟩ := Cond.instantiable_spec hins
  exact selects_self_of_private hc hk (Bool.or_eq_false_iff.mp hniab).1 (Cond.privateMethod_at hpriv) hinst hy
def QP (w : Option Value) (h0 : Heap) (n0 : Nat) (v : Option Value) (h : Heap) (L : List Loc) : Prop := v = w ∧ Fr n0 L ∧ h = h0
section OwnGoes
variable {p : Program} {l : Launch} {e : Env} {R : Room} {s : State} {m : MethodId} {args : Array Value} {below : List Frame} {meth : Method} {c : Code} {T : State} {locs : List Loc} {cells slots kc ks : Nat} {Q : Option Value → Heap → List Loc → Prop}
theorem Goes.st {A B : State} (h : ∀ t, Steps p.tables e below B t → Steps p.tables e below A t) (g : Goes p e below s Q kc ks B) : Goes p e below s Q kc ks A := by
  obtain ⟨s₂, o, h1, r⟩ := g
  exact ⟨s₂, o, h _ h1, r⟩
theorem Goes.cast {g g' : JFrame} (q : g = g') (h : Goes p e below s Q kc ks (T.setTop g')) : Goes p e below s Q kc ks (T.setTop g) := q ▸ h
theorem Goes.retI (X : Stand p l e R s m args below meth c T locs cells slots) (hx : p.tables.exec = Jvm.exec) (hlk : meth.locks = false) (hret : meth.sig.returnType = some .int) {pc : Nat} {Ls : Array Slot} {z : Int32} {rest : List Value} (hd : decode c.code pc = .ok (.ireturn, 1)) (hQ : Q (some (.int z)) T.heap locs) (h1 : cells ≤ kc) (h2 : slots ≤ ks) : Goes p e below s Q kc ks (T.setTop (mkF m pc Ls (.int z :: rest))) := by
  obtain ⟨fs, hr, hrun, hended, hW, hsame⟩ := X.leave (v := some (.int z)) (fun h => by rw [hret] at h; cases h)
  exact ⟨_, _, retOut X hx hret rfl (Or.inl ⟨rfl, Or.inl rfl, _, rfl⟩) hd hr, hrun, hended, _, _, rfl, hQ, ⟨_, rfl⟩, hW, hsame.mono h1 h2⟩
theorem Goes.retJ (X : Stand p l e R s m args below meth c T locs cells slots) (hx : p.tables.exec = Jvm.exec) (hlk : meth.locks = false) (hret : meth.sig.returnType = some .long) {pc : Nat} {Ls : Array Slot} {z : Int64} {rest : List Value} (hd : decode c.code pc = .ok (.lreturn, 1)) (hQ : Q (some (.long z)) T.heap locs) (h1 : cells ≤ kc) (h2 : slots ≤ ks) : Goes p e below s Q kc ks (T.setTop (mkF m pc Ls (.long z :: rest))) := by
  obtain ⟨fs, hr, hrun, hended, hW, hsame⟩ := X.leave (v := some (.long z)) (fun h => by rw [hret] at h; cases h)
  exact ⟨_, _, retOut X hx hret rfl (Or.inr (Or.inl ⟨rfl, rfl, _, rfl⟩)) hd hr, hrun, hended, _, _, rfl, hQ, ⟨_, rfl⟩, hW, hsame.mono h1 h2⟩
theorem Goes.retR (X : Stand p l e R s m args below meth c T locs cells slots) (hx : p.tables.exec = Jvm.exec) (hlk : meth.locks = false) {t : FieldType} (hret : meth.sig.returnType = some t) {w : Value} (ht : t.isReference = true) (hw : w.isRef = true) {pc : Nat} {Ls : Array Slot} {rest : List Value} (hd : decode c.code pc = .ok (.areturn, 1)) (hQ : Q (some w) T.heap locs) (h1 : cells ≤ kc) (h2 : slots ≤ ks) : Goes p e below s Q kc ks (T.setTop (mkF m pc Ls (w :: rest))) := by
  obtain ⟨fs, hr, hrun, hended, hW, hsame⟩ := X.leave (v := some w) (fun h => by rw [hret] at h; cases h)
  have hn : narrow t w = w := by cases t <;> cases w <;> first | rfl | (simp [FieldType.isReference] at ht) | (simp [Value.isRef] at hw)
  exact ⟨_, _, retOut X hx hret hn (Or.inr (Or.inr (Or.inr (Or.inr ⟨rfl, ht, hw⟩)))) hd hr, hrun, hended, _, _, rfl, hQ, ⟨_, rfl⟩, hW, hsame.mono h1 h2⟩
theorem Goes.retB (X : Stand p l e R s m args below meth c T locs cells slots) (hx : p.tables.exec = Jvm.exec) (hlk : meth.locks = false) {t : FieldType} (hret : meth.sig.returnType = some t) (ht : t = .boolean ∨ t = .byte ∨ t = .char ∨ t = .short) {pc : Nat} {Ls : Array Slot} {z : Int32} {rest : List Value} (hd : decode c.code pc = .ok (.ireturn, 1)) (hz : nar t z = z) (hQ : Q (some (.int z)) T.heap locs) (h1 : cells ≤ kc) (h2 : slots ≤ ks) : Goes p e below s Q kc ks (T.setTop (mkF m pc Ls (.int z :: rest))) := by
  obtain ⟨fs, hr, hrun, hended, hW, hsame⟩ := X.leave (v := some (.int z)) (fun h => by rw [hret] at h; cases h)
  exact ⟨_, _, retN X hx hret ht hd (by rw [hz]; exact hr), hrun, hended, _, _, rfl, hQ, ⟨_, rfl⟩, hW, hsame.mono h1 h2⟩
theorem Goes.retV (X : Stand p l e R s m args below meth c T locs cells slots) (hx : p.tables.exec = Jvm.exec) (hlk : meth.locks = false) (hret : meth.sig.returnType = none) {pc : Nat} {Ls : Array Slot} (hd : decode c.code pc = .ok (.return_, 1)) (hQ : Q none T.heap locs) (h1 : cells ≤ kc) (h2 : slots ≤ ks) : Goes p e below s Q kc ks (T.setTop (mkF m pc Ls [])) := by
  obtain ⟨fs, hr, hrun, hended, hW, hsame⟩ := X.leave (v := none) (fun _ => rfl)
  exact ⟨_, _, X.returnOut hx hret hd hr, hrun, hended, _, _, rfl, hQ, ⟨_, rfl⟩, hW, hsame.mono h1 h2⟩
end OwnGoes
theorem tltL {x y : Int64} (h : x < y) : ifCond.holds .lt (lcmpW x y) = true ∧ ifCond.holds .ge (lcmpW x y) = false ∧ ifCond.holds .gt (lcmpW y x) = true ∧ ifCond.holds .le (lcmpW y x) = false :=
  ⟨(if0 _ _).trans (tlt ((lw_lt x y).mpr h)).1, (if0 _ _).trans (tlt ((lw_lt x y).mpr h)).2.1, (if0 _ _).trans (tlt ((lw_gt y x).mpr h)).2.2.1, (if0 _ _).trans (tlt ((lw_gt y x).mpr h)).2.2.2⟩
theorem fltL {x y : Int64} (h : ¬ x < y) : ifCond.holds .lt (lcmpW x y) = false ∧ ifCond.holds .ge (lcmpW x y) = true ∧ ifCond.holds .gt (lcmpW y x) = false ∧ ifCond.holds .le (lcmpW y x) = true :=
  ⟨(if0 _ _).trans (flt fun q => h ((lw_lt x y).mp q)).1, (if0 _ _).trans (flt fun q => h ((lw_lt x y).mp q)).2.1, (if0 _ _).trans (flt fun q => h ((lw_gt y x).mp q)).2.2.1, (if0 _ _).trans (flt fun q => h ((lw_gt y x).mp q)).2.2.2⟩
theorem teqL {x y : Int64} (h : x = y) : ifCond.holds .eq (lcmpW x y) = true ∧ ifCond.holds .ne (lcmpW x y) = false :=
  ⟨(if0 _ _).trans (teq ((lw_eq x y).mpr h)).1, (if0 _ _).trans (teq ((lw_eq x y).mpr h)).2⟩
theorem feqL {x y : Int64} (h : ¬ x = y) : ifCond.holds .eq (lcmpW x y) = false ∧ ifCond.holds .ne (lcmpW x y) = true :=
  ⟨(if0 _ _).trans (feq fun q => h ((lw_eq x y).mp q)).1, (if0 _ _).trans (feq fun q => h ((lw_eq x y).mp q)).2⟩
def own_look {α : Type} (i : Nat) : List (Nat × α) → Option α
  | [] => none
  | (j, v) :: r => if i = j then some v else own_look i r
theorem own_look_mem {α : Type} {i : Nat} {v : α} : ∀ {L : List (Nat × α)}, own_look i L = some v → (i, v) ∈ L
  | [], h => by cases h
  | (j, w) :: r, h => by
    unfold own_look at h
    by_cases q : i = j
    · rw [if_pos q] at h; cases h; subst q; exact List.mem_cons_self
    · rw [if_neg q] at h; exact List.mem_cons_of_mem _ (own_look_mem h)
def own_pstep (ci : List (Nat × Int32)) (cl : List (Nat × Int64)) (i : Instr) (n : Nat) (g : JFrame) : Option JFrame :=
  match i with
  | .iload_n k => if n = 1 then (match g.locals[k.val]? with | some (.val (.int v)) => some { g with pc := g.pc + 1, stack := .int v :: g.stack } | _ => none) else none
  | .iload k => if n = 2 then (match g.locals[k]? with | some (.val (.int v)) => some { g with pc := g.pc + 2, stack := .int v :: g.stack } | _ => none) else none
  | .lload_n k => if n = 1 then (match g.locals[k.val]? with | some (.val (.long v)) => some { g with pc := g.pc + 1, stack := .long v :: g.stack } | _ => none) else none
  | .lload k => if n = 2 then (match g.locals[k]? with | some (.val (.long v)) => some { g with pc := g.pc + 2, stack := .long v :: g.stack } | _ => none) else none
  | .aload_n k => if n = 1 then (match g.locals[k.val]? with | some (.val v) => if v.isRef = true then some { g with pc := g.pc + 1, stack := v :: g.stack } else none | _ => none) else none
  | .aload k => if n = 2 then (match g.locals[k]? with | some (.val v) => if v.isRef = true then some { g with pc := g.pc + 2, stack := v :: g.stack } else none | _ => none) else none
  | .istore_n k => if n = 1 then (match g.stack with | .int x :: rest => (match storeLocals g.locals k.val (.int x) with | some l' => some { g with pc := g.pc + 1, stack := rest, locals := l' } | none => none) | _ => none) else none
  | .istore k => if n = 2 then (match g.stack with | .int x :: rest => (match storeLocals g.locals k (.int x) with | some l' => some { g with pc := g.pc + 2, stack := rest, locals := l' } | none => none) | _ => none) else none
  | .lstore_n k => if n = 1 then (match g.stack with | .long x :: rest => (match storeLocals g.locals k.val (.long x) with | some l' => some { g with pc := g.pc + 1, stack := rest, locals := l' } | none => none) | _ => none) else none
  | .lstore k => if n = 2 then (match g.stack with | .long x :: rest => (match storeLocals g.locals k (.long x) with | some l' => some { g with pc := g.pc + 2, stack := rest, locals := l' } | none => none) | _ => none) else none
  | .astore_n k => if n = 1 then (match g.stack with | x :: rest => (if x.isRef = true then (match storeLocals g.locals k.val x with | some l' => some { g with pc := g.pc + 1, stack := rest, locals := l' } | none => none) else none) | _ => none) else none
  | .astore k => if n = 2 then (match g.stack with | x :: rest => (if x.isRef = true then (match storeLocals g.locals k x with | some l' => some { g with pc := g.pc + 2, stack := rest, locals := l' } | none => none) else none) | _ => none) else none
  | .iconst i => if n = 1 then (some { g with pc := g.pc + 1, stack := .int (Int32.ofInt i) :: g.stack }) else none
  | .bipush i => if n = 2 then (some { g with pc := g.pc + 2, stack := .int (Int8.ofInt i).toInt32 :: g.stack }) else none
  | .sipush i => if n = 3 then (some { g with pc := g.pc + 3, stack := .int (Int16.ofInt i).toInt32 :: g.stack }) else none
  | .lconst k => if n = 1 then (some { g with pc := g.pc + 1, stack := .long (Int64.ofNat k) :: g.stack }) else none
  | .aconst_null => if n = 1 then (some { g with pc := g.pc + 1, stack := .null :: g.stack }) else none
  | .iadd => if n = 1 then (match g.stack with | .int y :: .int x :: rest => some { g with pc := g.pc + 1, stack := .int (x + y) :: rest } | _ => none) else none
  | .ladd => if n = 1 then (match g.stack with | .long y :: .long x :: rest => some { g with pc := g.pc + 1, stack := .long (x + y) :: rest } | _ => none) else none
  | .isub => if n = 1 then (match g.stack with | .int y :: .int x :: rest => some { g with pc := g.pc + 1, stack := .int (x - y) :: rest } | _ => none) else none
  | .lsub => if n = 1 then (match g.stack with | .long y :: .long x :: rest => some { g with pc := g.pc + 1, stack := .long (x - y) :: rest } | _ => none) else none
  | .imul => if n = 1 then (match g.stack with | .int y :: .int x :: rest => some { g with pc := g.pc + 1, stack := .int (x * y) :: rest } | _ => none) else none
  | .lmul => if n = 1 then (match g.stack with | .long y :: .long x :: rest => some { g with pc := g.pc + 1, stack := .long (x * y) :: rest } | _ => none) else none
  | .iand => if n = 1 then (match g.stack with | .int y :: .int x :: rest => some { g with pc := g.pc + 1, stack := .int (x &&& y) :: rest } | _ => none) else none
  | .land => if n = 1 then (match g.stack with | .long y :: .long x :: rest => some { g with pc := g.pc + 1, stack := .long (x &&& y) :: rest } | _ => none) else none
  | .ior => if n = 1 then (match g.stack with | .int y :: .int x :: rest => some { g with pc := g.pc + 1, stack := .int (x ||| y) :: rest } | _ => none) else none
  | .lor => if n = 1 then (match g.stack with | .long y :: .long x :: rest => some { g with pc := g.pc + 1, stack := .long (x ||| y) :: rest } | _ => none) else none
  | .ixor => if n = 1 then (match g.stack with | .int y :: .int x :: rest => some { g with pc := g.pc + 1, stack := .int (x ^^^ y) :: rest } | _ => none) else none
  | .lxor => if n = 1 then (match g.stack with | .long y :: .long x :: rest => some { g with pc := g.pc + 1, stack := .long (x ^^^ y) :: rest } | _ => none) else none
  | .ishl => if n = 1 then (match g.stack with | .int y :: .int x :: rest => some { g with pc := g.pc + 1, stack := .int (x <<< (y &&& 31)) :: rest } | _ => none) else none
  | .ishr => if n = 1 then (match g.stack with | .int y :: .int x :: rest => some { g with pc := g.pc + 1, stack := .int (x >>> (y &&& 31)) :: rest } | _ => none) else none
  | .iushr => if n = 1 then (match g.stack with | .int y :: .int x :: rest => some { g with pc := g.pc + 1, stack := .int ((x.toUInt32 >>> (y &&& 31).toUInt32).toInt32) :: rest } | _ => none) else none
  | .lshl => if n = 1 then (match g.stack with | .int y :: .long x :: rest => some { g with pc := g.pc + 1, stack := .long (x <<< (y &&& 0x3f).toInt64) :: rest } | _ => none) else none
  | .lshr => if n = 1 then (match g.stack with | .int y :: .long x :: rest => some { g with pc := g.pc + 1, stack := .long (x >>> (y &&& 0x3f).toInt64) :: rest } | _ => none) else none
  | .lushr => if n = 1 then (match g.stack with | .int y :: .long x :: rest => some { g with pc := g.pc + 1, stack := .long ((x.toUInt64 >>> (y &&& 0x3f).toInt64.toUInt64).toInt64) :: rest } | _ => none) else none
  | .lcmp => if n = 1 then (match g.stack with | .long y :: .long x :: rest => some { g with pc := g.pc + 1, stack := .int (if x > y then 1 else if x = y then 0 else -1) :: rest } | _ => none) else none
  | .ineg => if n = 1 then (match g.stack with | .int v :: rest => some { g with pc := g.pc + 1, stack := .int (-v) :: rest } | _ => none) else none
  | .lneg => if n = 1 then (match g.stack with | .long v :: rest => some { g with pc := g.pc + 1, stack := .long (-v) :: rest } | _ => none) else none
  | .i2l => if n = 1 then (match g.stack with | .int v :: rest => some { g with pc := g.pc + 1, stack := .long (v.toInt64) :: rest } | _ => none) else none
  | .l2i => if n = 1 then (match g.stack with | .long v :: rest => some { g with pc := g.pc + 1, stack := .int (v.toInt32) :: rest } | _ => none) else none
  | .i2b => if n = 1 then (match g.stack with | .int v :: rest => some { g with pc := g.pc + 1, stack := .int (v.toInt8.toInt32) :: rest } | _ => none) else none
  | .i2c => if n = 1 then (match g.stack with | .int v :: rest => some { g with pc := g.pc + 1, stack := .int (v.toUInt32.toUInt16.toUInt32.toInt32) :: rest } | _ => none) else none
  | .i2s => if n = 1 then (match g.stack with | .int v :: rest => some { g with pc := g.pc + 1, stack := .int (v.toInt16.toInt32) :: rest } | _ => none) else none
  | .iinc k cst => if n = 3 then (match g.locals[k]? with | some (.val (.int x)) => (match storeLocals g.locals k (.int (x + Int32.ofInt cst)) with | some l' => some { g with pc := g.pc + 3, locals := l' } | none => none) | _ => none) else none
  | .dup => if n = 1 then (match g.stack with | x :: rest => (if x.category = 1 then some { g with pc := g.pc + 1, stack := x :: x :: rest } else none) | _ => none) else none
  | .pop => if n = 1 then (match g.stack with | x :: rest => (if x.category = 1 then some { g with pc := g.pc + 1, stack := rest } else none) | _ => none) else none
  | .goto o => if n = 3 then (if 0 ≤ (g.pc : Int) + o then some { g with pc := ((g.pc : Int) + o).toNat } else none) else none
  | .ldc i => if n = 2 then (match own_look i ci with | some v => some { g with pc := g.pc + 2, stack := .int v :: g.stack } | none => none) else none
  | .ldc_w i => if n = 3 then (match own_look i ci with | some v => some { g with pc := g.pc + 3, stack := .int v :: g.stack } | none => none) else none
  | .ldc2_w i => if n = 3 then (match own_look i cl with | some v => some { g with pc := g.pc + 3, stack := .long v :: g.stack } | none => none) else none
  | .idiv => if n = 1 then (match g.stack with | .int y :: .int x :: rest => (if y = 0 then none else some { g with pc := g.pc + 1, stack := .int (x / y) :: rest }) | _ => none) else none
  | .irem => if n = 1 then (match g.stack with | .int y :: .int x :: rest => (if y = 0 then none else some { g with pc := g.pc + 1, stack := .int (x - (x / y) * y) :: rest }) | _ => none) else none
  | .ldiv => if n = 1 then (match g.stack with | .long y :: .long x :: rest => (if y = 0 then none else some { g with pc := g.pc + 1, stack := .long (x / y) :: rest }) | _ => none) else none
  | .lrem => if n = 1 then (match g.stack with | .long y :: .long x :: rest => (if y = 0 then none else some { g with pc := g.pc + 1, stack := .long (x - (x / y) * y) :: rest }) | _ => none) else none
  | _ => none
section OwnRun
variable {p : Program} {l : Launch} {e : Env} {R : Room} {s : State} {m : MethodId} {args : Array Value} {below : List Frame} {meth : Method} {c : Code} {T target : State} {locs : List Loc} {cells slots kc ks : Nat} {own : String} {ci : List (Nat × Int32)} {cl : List (Nat × Int64)} {Q : Option Value → Heap → List Loc → Prop}
set_option maxHeartbeats 4000000 in
theorem own_pstep_ok (X : Stand p l e R s m args below meth c T locs cells slots) (hx : p.tables.exec = Jvm.exec) (hown : s.vm.findClass own = some m.cls) (hci : ∀ i v, (i, v) ∈ ci → (Cond.constant own i v).before args s = true) (hcl : ∀ i v, (i, v) ∈ cl → (Cond.constantLong own i v).before args s = true)
    {g g' : JFrame} (hg : g.method = m) {i : Instr} {n : Nat} (hd : decode c.code g.pc = .ok (i, n)) (hp : own_pstep ci cl i n g = some g') : (∀ target, Steps p.tables e below (T.setTop g') target → Steps p.tables e below (T.setTop g) target) ∧ g'.method = m := by
  cases i
  all_goals first
    | (exact absurd hp (by intro q; cases q))
    | skip
  case iload_n k =>
    by_cases hn : n = 1
    · subst hn
      replace hp : (match g.locals[k.val]? with | some (.val (.int v)) => some { g with pc := g.pc + 1, stack := .int v :: g.stack } | _ => none) = some g' := hp
      split at hp
      · skip
        cases hp
        exact ⟨fun _ hr => XS.iloadN X.here hx hg hd (by assumption) hr, hg⟩
      · cases hp
    · exact absurd hp (by intro q; rw [show own_pstep ci cl (.iload_n k) n g = none from if_neg hn] at q; cases q)
  case iload k =>
    by_cases hn : n = 2
    · subst hn
      replace hp : (match g.locals[k]? with | some (.val (.int v)) => some { g with pc := g.pc + 2, stack := .int v :: g.stack } | _ => none) = some g' := hp
      split at hp
      · skip
        cases hp
        exact ⟨fun _ hr => XS.iload X.here hx hg hd (by assumption) hr, hg⟩
      · cases hp
    · exact absurd hp (by intro q; rw [show own_pstep ci cl (.iload k) n g = none from if_neg hn] at q; cases q)
  case lload_n k =>
    by_cases hn : n = 1
    · subst hn
      replace hp : (match g.locals[k.val]? with | some (.val (.long v)) => some { g with pc := g.pc + 1, stack := .long v :: g.stack } | _ => none) = some g' := hp
      split at hp
      · skip
        cases hp
        exact ⟨fun _ hr => XS.lloadN X.here hx hg hd (by assumption) hr, hg⟩
      · cases hp
    · exact absurd hp (by intro q; rw [show own_pstep ci cl (.lload_n k) n g = none from if_neg hn] at q; cases q)
  case lload k =>
    by_cases hn : n = 2
    · subst hn
      replace hp : (match g.locals[k]? with | some (.val (.long v)) => some { g with pc := g.pc + 2, stack := .long v :: g.stack } | _ => none) = some g' := hp
      split at hp
      · skip
        cases hp
        exact ⟨fun _ hr => XS.lload X.here hx hg hd (by assumption) hr, hg⟩
      · cases hp
    · exact absurd hp (by intro q; rw [show own_pstep ci cl (.lload k) n g = none from if_neg hn] at q; cases q)
  case aload_n k =>
    by_cases hn : n = 1
    · subst hn
      replace hp : (match g.locals[k.val]? with | some (.val v) => if v.isRef = true then some { g with pc := g.pc + 1, stack := v :: g.stack } else none | _ => none) = some g' := hp
      split at hp
      · skip
        split at hp
        · skip
          cases hp
          exact ⟨fun _ hr => XS.aloadN X.here hx hg hd (by assumption) (by assumption) hr, hg⟩
        · cases hp
      · cases hp
    · exact absurd hp (by intro q; rw [show own_pstep ci cl (.aload_n k) n g = none from if_neg hn] at q; cases q)
  case aload k =>
    by_cases hn : n = 2
    · subst hn
      replace hp : (match g.locals[k]? with | some (.val v) => if v.isRef = true then some { g with pc := g.pc + 2, stack := v :: g.stack } else none | _ => none) = some g' := hp
      split at hp
      · skip
        split at hp
        · skip
          cases hp
          exact ⟨fun _ hr => XS.aload X.here hx hg hd (by assumption) (by assumption) hr, hg⟩
        · cases hp
      · cases hp
    · exact absurd hp (by intro q; rw [show own_pstep ci cl (.aload k) n g = none from if_neg hn] at q; cases q)
  case istore_n k =>
    by_cases hn : n = 1
    · subst hn
      replace hp : (match g.stack with | .int x :: rest => (match storeLocals g.locals k.val (.int x) with | some l' => some { g with pc := g.pc + 1, stack := rest, locals := l' } | none => none) | _ => none) = some g' := hp
      split at hp
      · skip
        split at hp
        · skip
          cases hp
          exact ⟨fun _ hr => XS.istoreN X.here hx hg hd (by assumption) (by assumption) hr, hg⟩
        · cases hp
      · cases hp
    · exact absurd hp (by intro q; rw [show own_pstep ci cl (.istore_n k) n g = none from if_neg hn] at q; cases q)
  case istore k =>
    by_cases hn : n = 2
    · subst hn
      replace hp : (match g.stack with | .int x :: rest => (match storeLocals g.locals k (.int x) with | some l' => some { g with pc := g.pc + 2, stack := rest, locals := l' } | none => none) | _ => none) = some g' := hp
      split at hp
      · skip
        split at hp
        · skip
          cases hp
          exact ⟨fun _ hr => XS.istore X.here hx hg hd (by assumption) (by assumption) hr, hg⟩
        · cases hp
      · cases hp
    · exact absurd hp (by intro q; rw [show own_pstep ci cl (.istore k) n g = none from if_neg hn] at q; cases q)
  case lstore_n k =>
    by_cases hn : n = 1
    · subst hn
      replace hp : (match g.stack with | .long x :: rest => (match storeLocals g.locals k.val (.long x) with | some l' => some { g with pc := g.pc + 1, stack := rest, locals := l' } | none => none) | _ => none) = some g' := hp
      split at hp
      · skip
        split at hp
        · skip
          cases hp
          exact ⟨fun _ hr => XS.lstoreN X.here hx hg hd (by assumption) (by assumption) hr, hg⟩
        · cases hp
      · cases hp
    · exact absurd hp (by intro q; rw [show own_pstep ci cl (.lstore_n k) n g = none from if_neg hn] at q; cases q)
  case lstore k =>
    by_cases hn : n = 2
    · subst hn
      replace hp : (match g.stack with | .long x :: rest => (match storeLocals g.locals k (.long x) with | some l' => some { g with pc := g.pc + 2, stack := rest, locals := l' } | none => none) | _ => none) = some g' := hp
      split at hp
      · skip
        split at hp
        · skip
          cases hp
          exact ⟨fun _ hr => XS.lstore X.here hx hg hd (by assumption) (by assumption) hr, hg⟩
        · cases hp
      · cases hp
    · exact absurd hp (by intro q; rw [show own_pstep ci cl (.lstore k) n g = none from if_neg hn] at q; cases q)
  case astore_n k =>
    by_cases hn : n = 1
    · subst hn
      replace hp : (match g.stack with | x :: rest => (if x.isRef = true then (match storeLocals g.locals k.val x with | some l' => some { g with pc := g.pc + 1, stack := rest, locals := l' } | none => none) else none) | _ => none) = some g' := hp
      split at hp
      · skip
        split at hp
        · skip
          split at hp
          · skip
            cases hp
            exact ⟨fun _ hr => XS.astoreN X.here hx hg hd (by assumption) (by assumption) (by assumption) hr, hg⟩
          · cases hp
        · cases hp
      · cases hp
    · exact absurd hp (by intro q; rw [show own_pstep ci cl (.astore_n k) n g = none from if_neg hn] at q; cases q)
  case astore k =>
    by_cases hn : n = 2
    · subst hn
      replace hp : (match g.stack with | x :: rest => (if x.isRef = true then (match storeLocals g.locals k x with | some l' => some { g with pc := g.pc + 2, stack := rest, locals := l' } | none => none) else none) | _ => none) = some g' := hp
      split at hp
      · skip
        split at hp
        · skip
          split at hp
          · skip
            cases hp
            exact ⟨fun _ hr => XS.astore X.here hx hg hd (by assumption) (by assumption) (by assumption) hr, hg⟩
          · cases hp
        · cases hp
      · cases hp
    · exact absurd hp (by intro q; rw [show own_pstep ci cl (.astore k) n g = none from if_neg hn] at q; cases q)
  case iconst i =>
    by_cases hn : n = 1
    · subst hn
      replace hp : (some { g with pc := g.pc + 1, stack := .int (Int32.ofInt i) :: g.stack }) = some g' := hp
      cases hp
      exact ⟨fun _ hr => XS.iconst X.here hx hg hd hr, hg⟩
    · exact absurd hp (by intro q; rw [show own_pstep ci cl (.iconst i) n g = none from if_neg hn] at q; cases q)
  case bipush i =>
    by_cases hn : n = 2
    · subst hn
      replace hp : (some { g with pc := g.pc + 2, stack := .int (Int8.ofInt i).toInt32 :: g.stack }) = some g' := hp
      cases hp
      exact ⟨fun _ hr => XS.bipush X.here hx hg hd hr, hg⟩
    · exact absurd hp (by intro q; rw [show own_pstep ci cl (.bipush i) n g = none from if_neg hn] at q; cases q)
  case sipush i =>
    by_cases hn : n = 3
    · subst hn
      replace hp : (some { g with pc := g.pc + 3, stack := .int (Int16.ofInt i).toInt32 :: g.stack }) = some g' := hp
      cases hp
      exact ⟨fun _ hr => XS.sipush X.here hx hg hd hr, hg⟩
    · exact absurd hp (by intro q; rw [show own_pstep ci cl (.sipush i) n g = none from if_neg hn] at q; cases q)
  case lconst k =>
    by_cases hn : n = 1
    · subst hn
      replace hp : (some { g with pc := g.pc + 1, stack := .long (Int64.ofNat k) :: g.stack }) = some g' := hp
      cases hp
      exact ⟨fun _ hr => XS.lconst X.here hx hg hd hr, hg⟩
    · exact absurd hp (by intro q; rw [show own_pstep ci cl (.lconst k) n g = none from if_neg hn] at q; cases q)
  case aconst_null =>
    by_cases hn : n = 1
    · subst hn
      replace hp : (some { g with pc := g.pc + 1, stack := .null :: g.stack }) = some g' := hp
      cases hp
      exact ⟨fun _ hr => XS.aconstNull X.here hx hg hd hr, hg⟩
    · exact absurd hp (by intro q; rw [show own_pstep ci cl (.aconst_null) n g = none from if_neg hn] at q; cases q)
  case iadd =>
    by_cases hn : n = 1
    · subst hn
      replace hp : (match g.stack with | .int y :: .int x :: rest => some { g with pc := g.pc + 1, stack := .int (x + y) :: rest } | _ => none) = some g' := hp
      split at hp
      · skip
        cases hp
        exact ⟨fun _ hr => XS.iadd X.here hx hg hd (by assumption) hr, hg⟩
      · cases hp
    · exact absurd hp (by intro q; rw [show own_pstep ci cl (.iadd) n g = none from if_neg hn] at q; cases q)
  case ladd =>
    by_cases hn : n = 1
    · subst hn
      replace hp : (match g.stack with | .long y :: .long x :: rest => some { g with pc := g.pc + 1, stack := .long (x + y) :: rest } | _ => none) = some g' := hp
      split at hp
      · skip
        cases hp
        exact ⟨fun _ hr => XS.ladd X.here hx hg hd (by assumption) hr, hg⟩
      · cases hp
    · exact absurd hp (by intro q; rw [show own_pstep ci cl (.ladd) n g = none from if_neg hn] at q; cases q)
  case isub =>
    by_cases hn : n = 1
    · subst hn
      replace hp : (match g.stack with | .int y :: .int x :: rest => some { g with pc := g.pc + 1, stack := .int (x - y) :: rest } | _ => none) = some g' := hp
      split at hp
      · skip
        cases hp
        exact ⟨fun _ hr => XS.isub X.here hx hg hd (by assumption) hr, hg⟩
      · cases hp
    · exact absurd hp (by intro q; rw [show own_pstep ci cl (.isub) n g = none from if_neg hn] at q; cases q)
  case lsub =>
    by_cases hn : n = 1
    · subst hn
      replace hp : (match g.stack with | .long y :: .long x :: rest => some { g with pc := g.pc + 1, stack := .long (x - y) :: rest } | _ => none) = some g' := hp
      split at hp
      · skip
        cases hp
        exact ⟨fun _ hr => XS.lsub X.here hx hg hd (by assumption) hr, hg⟩
      · cases hp
    · exact absurd hp (by intro q; rw [show own_pstep ci cl (.lsub) n g = none from if_neg hn] at q; cases q)
  case imul =>
    by_cases hn : n = 1
    · subst hn
      replace hp : (match g.stack with | .int y :: .int x :: rest => some { g with pc := g.pc + 1, stack := .int (x * y) :: rest } | _ => none) = some g' := hp
      split at hp
      · skip
        cases hp
        exact ⟨fun _ hr => XS.imul X.here hx hg hd (by assumption) hr, hg⟩
      · cases hp
    · exact absurd hp (by intro q; rw [show own_pstep ci cl (.imul) n g = none from if_neg hn] at q; cases q)
  case lmul =>
    by_cases hn : n = 1
    · subst hn
      replace hp : (match g.stack with | .long y :: .long x :: rest => some { g with pc := g.pc + 1, stack := .long (x * y) :: rest } | _ => none) = some g' := hp
      split at hp
      · skip
        cases hp
        exact ⟨fun _ hr => XS.lmul X.here hx hg hd (by assumption) hr, hg⟩
      · cases hp
    · exact absurd hp (by intro q; rw [show own_pstep ci cl (.lmul) n g = none from if_neg hn] at q; cases q)
  case iand =>
    by_cases hn : n = 1
    · subst hn
      replace hp : (match g.stack with | .int y :: .int x :: rest => some { g with pc := g.pc + 1, stack := .int (x &&& y) :: rest } | _ => none) = some g' := hp
      split at hp
      · skip
        cases hp
        exact ⟨fun _ hr => XS.iand X.here hx hg hd (by assumption) hr, hg⟩
      · cases hp
    · exact absurd hp (by intro q; rw [show own_pstep ci cl (.iand) n g = none from if_neg hn] at q; cases q)
  case land =>
    by_cases hn : n = 1
    · subst hn
      replace hp : (match g.stack with | .long y :: .long x :: rest => some { g with pc := g.pc + 1, stack := .long (x &&& y) :: rest } | _ => none) = some g' := hp
      split at hp
      · skip
        cases hp
        exact ⟨fun _ hr => XS.land X.here hx hg hd (by assumption) hr, hg⟩
      · cases hp
    · exact absurd hp (by intro q; rw [show own_pstep ci cl (.land) n g = none from if_neg hn] at q; cases q)
  case ior =>
    by_cases hn : n = 1
    · subst hn
      replace hp : (match g.stack with | .int y :: .int x :: rest => some { g with pc := g.pc + 1, stack := .int (x ||| y) :: rest } | _ => none) = some g' := hp
      split at hp
      · skip
        cases hp
        exact ⟨fun _ hr => XS.ior X.here hx hg hd (by assumption) hr, hg⟩
      · cases hp
    · exact absurd hp (by intro q; rw [show own_pstep ci cl (.ior) n g = none from if_neg hn] at q; cases q)
  case lor =>
    by_cases hn : n = 1
    · subst hn
      replace hp : (match g.stack with | .long y :: .long x :: rest => some { g with pc := g.pc + 1, stack := .long (x ||| y) :: rest } | _ => none) = some g' := hp
      split at hp
      · skip
        cases hp
        exact ⟨fun _ hr => XS.lor X.here hx hg hd (by assumption) hr, hg⟩
      · cases hp
    · exact absurd hp (by intro q; rw [show own_pstep ci cl (.lor) n g = none from if_neg hn] at q; cases q)
  case ixor =>
    by_cases hn : n = 1
    · subst hn
      replace hp : (match g.stack with | .int y :: .int x :: rest => some { g with pc := g.pc + 1, stack := .int (x ^^^ y) :: rest } | _ => none) = some g' := hp
      split at hp
      · skip
        cases hp
        exact ⟨fun _ hr => XS.ixor X.here hx hg hd (by assumption) hr, hg⟩
      · cases hp
    · exact absurd hp (by intro q; rw [show own_pstep ci cl (.ixor) n g = none from if_neg hn] at q; cases q)
  case lxor =>
    by_cases hn : n = 1
    · subst hn
      replace hp : (match g.stack with | .long y :: .long x :: rest => some { g with pc := g.pc + 1, stack := .long (x ^^^ y) :: rest } | _ => none) = some g' := hp
      split at hp
      · skip
        cases hp
        exact ⟨fun _ hr => XS.lxor X.here hx hg hd (by assumption) hr, hg⟩
      · cases hp
    · exact absurd hp (by intro q; rw [show own_pstep ci cl (.lxor) n g = none from if_neg hn] at q; cases q)
  case ishl =>
    by_cases hn : n = 1
    · subst hn
      replace hp : (match g.stack with | .int y :: .int x :: rest => some { g with pc := g.pc + 1, stack := .int (x <<< (y &&& 31)) :: rest } | _ => none) = some g' := hp
      split at hp
      · skip
        cases hp
        exact ⟨fun _ hr => XS.ishl X.here hx hg hd (by assumption) hr, hg⟩
      · cases hp
    · exact absurd hp (by intro q; rw [show own_pstep ci cl (.ishl) n g = none from if_neg hn] at q; cases q)
  case ishr =>
    by_cases hn : n = 1
    · subst hn
      replace hp : (match g.stack with | .int y :: .int x :: rest => some { g with pc := g.pc + 1, stack := .int (x >>> (y &&& 31)) :: rest } | _ => none) = some g' := hp
      split at hp
      · skip
        cases hp
        exact ⟨fun _ hr => XS.ishr X.here hx hg hd (by assumption) hr, hg⟩
      · cases hp
    · exact absurd hp (by intro q; rw [show own_pstep ci cl (.ishr) n g = none from if_neg hn] at q; cases q)
  case iushr =>
    by_cases hn : n = 1
    · subst hn
      replace hp : (match g.stack with | .int y :: .int x :: rest => some { g with pc := g.pc + 1, stack := .int ((x.toUInt32 >>> (y &&& 31).toUInt32).toInt32) :: rest } | _ => none) = some g' := hp
      split at hp
      · skip
        cases hp
        exact ⟨fun _ hr => XS.iushr X.here hx hg hd (by assumption) hr, hg⟩
      · cases hp
    · exact absurd hp (by intro q; rw [show own_pstep ci cl (.iushr) n g = none from if_neg hn] at q; cases q)
  case lshl =>
    by_cases hn : n = 1
    · subst hn
      replace hp : (match g.stack with | .int y :: .long x :: rest => some { g with pc := g.pc + 1, stack := .long (x <<< (y &&& 0x3f).toInt64) :: rest } | _ => none) = some g' := hp
      split at hp
      · skip
        cases hp
        exact ⟨fun _ hr => XS.lshl X.here hx hg hd (by assumption) hr, hg⟩
      · cases hp
    · exact absurd hp (by intro q; rw [show own_pstep ci cl (.lshl) n g = none from if_neg hn] at q; cases q)
  case lshr =>
    by_cases hn : n = 1
    · subst hn
      replace hp : (match g.stack with | .int y :: .long x :: rest => some { g with pc := g.pc + 1, stack := .long (x >>> (y &&& 0x3f).toInt64) :: rest } | _ => none) = some g' := hp
      split at hp
      · skip
        cases hp
        exact ⟨fun _ hr => XS.lshr X.here hx hg hd (by assumption) hr, hg⟩
      · cases hp
    · exact absurd hp (by intro q; rw [show own_pstep ci cl (.lshr) n g = none from if_neg hn] at q; cases q)
  case lushr =>
    by_cases hn : n = 1
    · subst hn
      replace hp : (match g.stack with | .int y :: .long x :: rest => some { g with pc := g.pc + 1, stack := .long ((x.toUInt64 >>> (y &&& 0x3f).toInt64.toUInt64).toInt64) :: rest } | _ => none) = some g' := hp
      split at hp
      · skip
        cases hp
        exact ⟨fun _ hr => XS.lushr X.here hx hg hd (by assumption) hr, hg⟩
      · cases hp
    · exact absurd hp (by intro q; rw [show own_pstep ci cl (.lushr) n g = none from if_neg hn] at q; cases q)
  case lcmp =>
    by_cases hn : n = 1
    · subst hn
      replace hp : (match g.stack with | .long y :: .long x :: rest => some { g with pc := g.pc + 1, stack := .int (if x > y then 1 else if x = y then 0 else -1) :: rest } | _ => none) = some g' := hp
      split at hp
      · skip
        cases hp
        exact ⟨fun _ hr => XS.lcmp X.here hx hg hd (by assumption) hr, hg⟩
      · cases hp
    · exact absurd hp (by intro q; rw [show own_pstep ci cl (.lcmp) n g = none from if_neg hn] at q; cases q)
  case ineg =>
    by_cases hn : n = 1
    · subst hn
      replace hp : (match g.stack with | .int v :: rest => some { g with pc := g.pc + 1, stack := .int (-v) :: rest } | _ => none) = some g' := hp
      split at hp
      · skip
        cases hp
        exact ⟨fun _ hr => XS.ineg X.here hx hg hd (by assumption) hr, hg⟩
      · cases hp
    · exact absurd hp (by intro q; rw [show own_pstep ci cl (.ineg) n g = none from if_neg hn] at q; cases q)
  case lneg =>
    by_cases hn : n = 1
    · subst hn
      replace hp : (match g.stack with | .long v :: rest => some { g with pc := g.pc + 1, stack := .long (-v) :: rest } | _ => none) = some g' := hp
      split at hp
      · skip
        cases hp
        exact ⟨fun _ hr => XS.lneg X.here hx hg hd (by assumption) hr, hg⟩
      · cases hp
    · exact absurd hp (by intro q; rw [show own_pstep ci cl (.lneg) n g = none from if_neg hn] at q; cases q)
  case i2l =>
    by_cases hn : n = 1
    · subst hn
      replace hp : (match g.stack with | .int v :: rest => some { g with pc := g.pc + 1, stack := .long (v.toInt64) :: rest } | _ => none) = some g' := hp
      split at hp
      · skip
        cases hp
        exact ⟨fun _ hr => XS.i2l X.here hx hg hd (by assumption) hr, hg⟩
      · cases hp
    · exact absurd hp (by intro q; rw [show own_pstep ci cl (.i2l) n g = none from if_neg hn] at q; cases q)
  case l2i =>
    by_cases hn : n = 1
    · subst hn
      replace hp : (match g.stack with | .long v :: rest => some { g with pc := g.pc + 1, stack := .int (v.toInt32) :: rest } | _ => none) = some g' := hp
      split at hp
      · skip
        cases hp
        exact ⟨fun _ hr => XS.l2i X.here hx hg hd (by assumption) hr, hg⟩
      · cases hp
    · exact absurd hp (by intro q; rw [show own_pstep ci cl (.l2i) n g = none from if_neg hn] at q; cases q)
  case i2b =>
    by_cases hn : n = 1
    · subst hn
      replace hp : (match g.stack with | .int v :: rest => some { g with pc := g.pc + 1, stack := .int (v.toInt8.toInt32) :: rest } | _ => none) = some g' := hp
      split at hp
      · skip
        cases hp
        exact ⟨fun _ hr => XS.i2b X.here hx hg hd (by assumption) hr, hg⟩
      · cases hp
    · exact absurd hp (by intro q; rw [show own_pstep ci cl (.i2b) n g = none from if_neg hn] at q; cases q)
  case i2c =>
    by_cases hn : n = 1
    · subst hn
      replace hp : (match g.stack with | .int v :: rest => some { g with pc := g.pc + 1, stack := .int (v.toUInt32.toUInt16.toUInt32.toInt32) :: rest } | _ => none) = some g' := hp
      split at hp
      · skip
        cases hp
        exact ⟨fun _ hr => XS.i2c X.here hx hg hd (by assumption) hr, hg⟩
      · cases hp
    · exact absurd hp (by intro q; rw [show own_pstep ci cl (.i2c) n g = none from if_neg hn] at q; cases q)
  case i2s =>
    by_cases hn : n = 1
    · subst hn
      replace hp : (match g.stack with | .int v :: rest => some { g with pc := g.pc + 1, stack := .int (v.toInt16.toInt32) :: rest } | _ => none) = some g' := hp
      split at hp
      · skip
        cases hp
        exact ⟨fun _ hr => XS.i2s X.here hx hg hd (by assumption) hr, hg⟩
      · cases hp
    · exact absurd hp (by intro q; rw [show own_pstep ci cl (.i2s) n g = none from if_neg hn] at q; cases q)
  case iinc k cst =>
    by_cases hn : n = 3
    · subst hn
      replace hp : (match g.locals[k]? with | some (.val (.int x)) => (match storeLocals g.locals k (.int (x + Int32.ofInt cst)) with | some l' => some { g with pc := g.pc + 3, locals := l' } | none => none) | _ => none) = some g' := hp
      split at hp
      · skip
        split at hp
        · skip
          cases hp
          exact ⟨fun _ hr => XS.iinc X.here hx hg hd (by assumption) (by assumption) hr, hg⟩
        · cases hp
      · cases hp
    · exact absurd hp (by intro q; rw [show own_pstep ci cl (.iinc k cst) n g = none from if_neg hn] at q; cases q)
  case dup =>
    by_cases hn : n = 1
    · subst hn
      replace hp : (match g.stack with | x :: rest => (if x.category = 1 then some { g with pc := g.pc + 1, stack := x :: x :: rest } else none) | _ => none) = some g' := hp
      split at hp
      · skip
        split at hp
        · skip
          cases hp
          exact ⟨fun _ hr => XS.dup X.here hx hg hd (by assumption) (by assumption) hr, hg⟩
        · cases hp
      · cases hp
    · exact absurd hp (by intro q; rw [show own_pstep ci cl (.dup) n g = none from if_neg hn] at q; cases q)
  case pop =>
    by_cases hn : n = 1
    · subst hn
      replace hp : (match g.stack with | x :: rest => (if x.category = 1 then some { g with pc := g.pc + 1, stack := rest } else none) | _ => none) = some g' := hp
      split at hp
      · skip
        split at hp
        · skip
          cases hp
          exact ⟨fun _ hr => XS.pop X.here hx hg hd (by assumption) (by assumption) hr, hg⟩
        · cases hp
      · cases hp
    · exact absurd hp (by intro q; rw [show own_pstep ci cl (.pop) n g = none from if_neg hn] at q; cases q)
  case goto o =>
    by_cases hn : n = 3
    · subst hn
      replace hp : (if 0 ≤ (g.pc : Int) + o then some { g with pc := ((g.pc : Int) + o).toNat } else none) = some g' := hp
      split at hp
      · skip
        cases hp
        exact ⟨fun _ hr => XS.goto X.here hx hg rfl hd (by assumption) rfl hr, hg⟩
      · cases hp
    · exact absurd hp (by intro q; rw [show own_pstep ci cl (.goto o) n g = none from if_neg hn] at q; cases q)
  case ldc i =>
    by_cases hn : n = 2
    · subst hn
      replace hp : (match own_look i ci with | some v => some { g with pc := g.pc + 2, stack := .int v :: g.stack } | none => none) = some g' := hp
      split at hp
      · skip
        cases hp
        exact ⟨fun _ hr => X.ldcInt hx hown (hci _ _ (own_look_mem (by assumption))) hg hd _ hr, hg⟩
      · cases hp
    · exact absurd hp (by intro q; rw [show own_pstep ci cl (.ldc i) n g = none from if_neg hn] at q; cases q)
  case ldc_w i =>
    by_cases hn : n = 3
    · subst hn
      replace hp : (match own_look i ci with | some v => some { g with pc := g.pc + 3, stack := .int v :: g.stack } | none => none) = some g' := hp
      split at hp
      · skip
        cases hp
        exact ⟨fun _ hr => X.ldcwInt hx hown (hci _ _ (own_look_mem (by assumption))) hg hd _ hr, hg⟩
      · cases hp
    · exact absurd hp (by intro q; rw [show own_pstep ci cl (.ldc_w i) n g = none from if_neg hn] at q; cases q)
  case ldc2_w i =>
    by_cases hn : n = 3
    · subst hn
      replace hp : (match own_look i cl with | some v => some { g with pc := g.pc + 3, stack := .long v :: g.stack } | none => none) = some g' := hp
      split at hp
      · skip
        cases hp
        exact ⟨fun _ hr => X.ldc2Long hx hown (hcl _ _ (own_look_mem (by assumption))) hg hd _ hr, hg⟩
      · cases hp
    · exact absurd hp (by intro q; rw [show own_pstep ci cl (.ldc2_w i) n g = none from if_neg hn] at q; cases q)
  case idiv =>
    by_cases hn : n = 1
    · subst hn
      replace hp : (match g.stack with | .int y :: .int x :: rest => (if y = 0 then none else some { g with pc := g.pc + 1, stack := .int (x / y) :: rest }) | _ => none) = some g' := hp
      split at hp
      · skip
        split at hp
        · cases hp
        · cases hp; exact ⟨fun _ hr => XS.idiv X.here hx hg hd (by assumption) (by assumption) hr, hg⟩
      · cases hp
    · exact absurd hp (by intro q; rw [show own_pstep ci cl (.idiv) n g = none from if_neg hn] at q; cases q)
  case irem =>
    by_cases hn : n = 1
    · subst hn
      replace hp : (match g.stack with | .int y :: .int x :: rest => (if y = 0 then none else some { g with pc := g.pc + 1, stack := .int (x - (x / y) * y) :: rest }) | _ => none) = some g' := hp
      split at hp
      · skip
        split at hp
        · cases hp
        · cases hp; exact ⟨fun _ hr => XS.irem X.here hx hg hd (by assumption) (by assumption) hr, hg⟩
      · cases hp
    · exact absurd hp (by intro q; rw [show own_pstep ci cl (.irem) n g = none from if_neg hn] at q; cases q)
  case ldiv =>
    by_cases hn : n = 1
    · subst hn
      replace hp : (match g.stack with | .long y :: .long x :: rest => (if y = 0 then none else some { g with pc := g.pc + 1, stack := .long (x / y) :: rest }) | _ => none) = some g' := hp
      split at hp
      · skip
        split at hp
        · cases hp
        · cases hp; exact ⟨fun _ hr => XS.ldiv X.here hx hg hd (by assumption) (by assumption) hr, hg⟩
      · cases hp
    · exact absurd hp (by intro q; rw [show own_pstep ci cl (.ldiv) n g = none from if_neg hn] at q; cases q)
  case lrem =>
    by_cases hn : n = 1
    · subst hn
      replace hp : (match g.stack with | .long y :: .long x :: rest => (if y = 0 then none else some { g with pc := g.pc + 1, stack := .long (x - (x / y) * y) :: rest }) | _ => none) = some g' := hp
      split at hp
      · skip
        split at hp
        · cases hp
        · cases hp; exact ⟨fun _ hr => XS.lrem X.here hx hg hd (by assumption) (by assumption) hr, hg⟩
      · cases hp
    · exact absurd hp (by intro q; rw [show own_pstep ci cl (.lrem) n g = none from if_neg hn] at q; cases q)
def own_decs (code : ByteArray) (L : List (Nat × Instr × Nat)) : Bool := L.all fun q => decide (decode code q.1 = .ok (q.2.1, q.2.2))
def own_prun (ci : List (Nat × Int32)) (cl : List (Nat × Int64)) : List (Nat × Instr × Nat) → JFrame → Option JFrame
  | [], g => some g
  | (pc, i, n) :: r, g => if g.pc = pc then (match own_pstep ci cl i n g with | some g' => own_prun ci cl r g' | none => none) else none
theorem own_prun_ok (X : Stand p l e R s m args below meth c T locs cells slots) (hx : p.tables.exec = Jvm.exec) (hown : s.vm.findClass own = some m.cls) (hci : ∀ i v, (i, v) ∈ ci → (Cond.constant own i v).before args s = true) (hcl : ∀ i v, (i, v) ∈ cl → (Cond.constantLong own i v).before args s = true) {code : ByteArray} (hby : c.code = code) :
    ∀ (L : List (Nat × Instr × Nat)) (g g' : JFrame), g.method = m → own_decs code L = true → own_prun ci cl L g = some g' → Steps p.tables e below (T.setTop g') target → Steps p.tables e below (T.setTop g) target := by
  intro L
  induction L with
  | nil => intro g g' _ _ hp hr; cases hp; exact hr
  | cons q r ih =>
    intro g g' hg hd hp hr
    obtain ⟨pc, i, n⟩ := q
    have hd' : decide (decode code pc = .ok (i, n)) = true ∧ own_decs code r = true := by
      have : (decide (decode code pc = .ok (i, n)) && own_decs code r) = true := hd
      simpa using this
    replace hp : (if g.pc = pc then (match own_pstep ci cl i n g with | some g' => own_prun ci cl r g' | none => none) else none) = some g' := hp
    by_cases hpc : g.pc = pc
    · rw [if_pos hpc] at hp
      cases hs : own_pstep ci cl i n g with
      | none => rw [hs] at hp; cases hp
      | some g1 =>
        rw [hs] at hp
        have q := own_pstep_ok X hx hown hci hcl hg (i := i) (n := n) (by rw [hby, hpc]; exact of_decide_eq_true hd'.1) hs
        exact q.1 _ (ih g1 g' q.2 hd'.2 hp hr)
    · rw [if_neg hpc] at hp; cases hp
theorem Goes.run (X : Stand p l e R s m args below meth c T locs cells slots) (hx : p.tables.exec = Jvm.exec) (hown : s.vm.findClass own = some m.cls) (hci : ∀ i v, (i, v) ∈ ci → (Cond.constant own i v).before args s = true) (hcl : ∀ i v, (i, v) ∈ cl → (Cond.constantLong own i v).before args s = true) {code : ByteArray} (hby : c.code = code)
    {L : List (Nat × Instr × Nat)} (hd : own_decs code L = true) {g g' : JFrame} (hg : g.method = m) (hp : own_prun ci cl L g = some g') (h : Goes p e below s Q kc ks (T.setTop g')) : Goes p e below s Q kc ks (T.setTop g) :=
  Goes.st (fun _ k => own_prun_ok X hx hown hci hcl hby L g g' hg hd hp k) h
theorem own_ci0 {α : Type} {P : Nat → α → Prop} : ∀ i v, (i, v) ∈ ([] : List (Nat × α)) → P i v := fun _ _ q => nomatch q
theorem own_ciS {α : Type} {P : Nat → α → Prop} {j : Nat} {w : α} {L : List (Nat × α)} (h : P j w) (r : ∀ i v, (i, v) ∈ L → P i v) : ∀ i v, (i, v) ∈ (j, w) :: L → P i v := fun i v q => (List.mem_cons.mp q).elim (fun z => by cases z; exact h) (r i v)
end OwnRun
theorem own_rem32 (x y : Int32) : (x - (x / y) * y).toInt = x.toInt.tmod y.toInt := by
  have a := (x % y).toInt_lt; have b := (x % y).le_toInt
  rw [Int32.toInt_mod] at a b
  rw [Int32.toInt_sub, Int32.toInt_mul, Int32.toInt_div, Int.bmod_mul_bmod, Int.sub_bmod_bmod, Int.mul_comm, ← Int.tmod_def]
  exact Jvm.Kit.bmod32 b a
section OwnNums
variable {x y : Int64} {u v : Int32} {a b : Int}
theorem own_r32 (hx : u.toInt = a) (hy : v.toInt = b) (h0 : 0 ≤ a) : (u - (u / v) * v).toInt = a % b := by subst hx hy; rw [own_rem32, Int.tmod_eq_emod_of_nonneg h0]
theorem own_r64 (hx : x.toInt = a) (hy : y.toInt = b) (h0 : 0 ≤ a) : (x - (x / y) * y).toInt = a % b := by subst hx hy; rw [Jvm.Kit.i64_rem, Int.tmod_eq_emod_of_nonneg h0]
theorem own_mul64 (hx : x.toInt = a) (hy : y.toInt = b) (h1 : -2 ^ 63 ≤ a * b) (h2 : a * b < 2 ^ 63) : (x * y).toInt = a * b := by subst hx hy; exact Jvm.Kit.i64_mul h1 h2
theorem own_mul32 (hx : u.toInt = a) (hy : v.toInt = b) (h1 : -2 ^ 31 ≤ a * b) (h2 : a * b < 2 ^ 31) : (u * v).toInt = a * b := by subst hx hy; exact Jvm.Kit.i32_mul h1 h2
theorem own_add64 (hx : x.toInt = a) (hy : y.toInt = b) (h1 : -2 ^ 63 ≤ a + b) (h2 : a + b < 2 ^ 63) : (x + y).toInt = a + b := by subst hx hy; exact Jvm.Kit.i64_add h1 h2
theorem own_add32 (hx : u.toInt = a) (hy : v.toInt = b) (h1 : -2 ^ 31 ≤ a + b) (h2 : a + b < 2 ^ 31) : (u + v).toInt = a + b := by subst hx hy; exact Jvm.Kit.i32_add h1 h2
theorem own_sub64 (hx : x.toInt = a) (hy : y.toInt = b) (h1 : -2 ^ 63 ≤ a - b) (h2 : a - b < 2 ^ 63) : (x - y).toInt = a - b := by subst hx hy; exact Jvm.Kit.i64_sub h1 h2
theorem own_sub32 (hx : u.toInt = a) (hy : v.toInt = b) (h1 : -2 ^ 31 ≤ a - b) (h2 : a - b < 2 ^ 31) : (u - v).toInt = a - b := by subst hx hy; exact Jvm.Kit.i32_sub h1 h2
theorem own_i2l (hx : u.toInt = a) : u.toInt64.toInt = a := by subst hx; exact Jvm.Kit.i64_of_i32 u
theorem own_lt64 (hx : x.toInt = a) (hy : y.toInt = b) : x < y ↔ a < b := by rw [Int64.lt_iff_toInt_lt, hx, hy]
theorem own_lt32 (hx : u.toInt = a) (hy : v.toInt = b) : u < v ↔ a < b := by rw [Int32.lt_iff_toInt_lt, hx, hy]
theorem own_eq64 (hx : x.toInt = a) (hy : y.toInt = b) : x = y ↔ a = b := by rw [← Int64.toInt_inj, hx, hy]
theorem own_eq32 (hx : u.toInt = a) (hy : v.toInt = b) : u = v ↔ a = b := by rw [← Int32.toInt_inj, hx, hy]
theorem own_m32 (u : Int32) (m : Int32) {k : Nat} (hk : k < 32) (hm : m.toBitVec.toNat = 2 ^ k - 1) : ∃ a : Int, (u &&& m).toInt = a ∧ 0 ≤ a ∧ a < 2 ^ k ∧ a = u.toInt % 2 ^ k := by
  refine ⟨_, Jvm.Kit.i32_mask u m hk hm, Int.emod_nonneg _ (Int.ne_of_gt (Int.pow_pos (by decide))), Int.emod_lt_of_pos _ (Int.pow_pos (by decide)), rfl⟩
theorem own_m64 (x : Int64) (m : Int64) {k : Nat} (hk : k < 64) (hm : m.toBitVec.toNat = 2 ^ k - 1) : ∃ a : Int, (x &&& m).toInt = a ∧ 0 ≤ a ∧ a < 2 ^ k ∧ a = x.toInt % 2 ^ k := by
  refine ⟨_, Jvm.Kit.i64_mask x m hk hm, Int.emod_nonneg _ (Int.ne_of_gt (Int.pow_pos (by decide))), Int.emod_lt_of_pos _ (Int.pow_pos (by decide)), rfl⟩
theorem own_nm {P : Int → Prop} {z : Int} (h : P z) : ∃ a, a = z ∧ P a := ⟨z, rfl, h⟩
end OwnNums
theorem own_nat32 {u : Int32} {a : Int} (hu : u.toInt = a) (h0 : 0 ≤ a) {N : Nat} (h1 : a < N) : ∃ n : Nat, n < N ∧ u = Int32.ofNat n ∧ a = (n : Int) := by
  have q := u.toInt_lt
  refine ⟨a.toNat, by omega, ?_, by omega⟩
  apply Int32.toInt_inj.mp
  rw [Int32.toInt_ofNat_of_lt (by omega), hu]; omega
theorem own_bv64 {x : Int64} {a : Int} (hx : x.toInt = a) (h0 : 0 ≤ a) : (x.toBitVec.toNat : Int) = a := by
  have e : x.toInt = x.toBitVec.toInt := rfl
  have hb := x.toBitVec.isLt
  rw [e, BitVec.toInt_eq_toNat_cond] at hx
  split at hx <;> omega
theorem own_bv32 {x : Int32} {a : Int} (hx : x.toInt = a) (h0 : 0 ≤ a) : (x.toBitVec.toNat : Int) = a := by
  have e : x.toInt = x.toBitVec.toInt := rfl
  have hb := x.toBitVec.isLt
  rw [e, BitVec.toInt_eq_toNat_cond] at hx
  split at hx <;> omega
theorem own_shn (y : Int32) : ((y &&& 0x3f).toInt64.toUInt64).toNat < 64 := by
  obtain ⟨a, h1, h2, h3, -⟩ := own_m32 y (0x3f : Int32) (k := 6) (by decide) (by decide)
  have h4 := own_bv64 (own_i2l h1) h2
  have e : ((y &&& 0x3f).toInt64.toUInt64).toNat = (y &&& 0x3f).toInt64.toBitVec.toNat := rfl
  rw [e]
  omega
theorem own_ushr0 {x : Int64} {a : Int} (hx : x.toInt = a) (h0 : 0 ≤ a) (y : Int32) : ∃ b : Int, ((x.toUInt64 >>> (y &&& 0x3f).toInt64.toUInt64).toInt64).toInt = b ∧ 0 ≤ b ∧ b ≤ a := by
  refine ⟨_, Jvm.Kit.i64_lushr (by rw [Jvm.Kit.i64_nonneg, hx]; exact h0) rfl (own_shn y), ?_, ?_⟩
  · rw [hx]; exact Int.ediv_nonneg h0 (Int.le_of_lt (Int.pow_pos (by decide)))
  · rw [hx]; exact Int.ediv_le_self _ h0
theorem own_ushrk {x : Int64} {a : Int} (hx : x.toInt = a) (h0 : 0 ≤ a) {n : UInt64} {k : Nat} (hn : n.toNat = k) (hk : k < 64) {d : Int} (hd : (2 : Int) ^ k = d) : ((x.toUInt64 >>> n).toInt64).toInt = a / d := by
  rw [Jvm.Kit.i64_lushr (by rw [Jvm.Kit.i64_nonneg, hx]; exact h0) hn hk, hx, hd]
theorem own_ofbv32 {x : Int32} (h : x.toBitVec.toNat < 2 ^ 31) : x.toInt = (x.toBitVec.toNat : Int) := by
  have e : x.toInt = x.toBitVec.toInt := rfl
  rw [e, BitVec.toInt_eq_toNat_cond, if_pos (by omega)]
theorem own_xor32 {x y : Int32} {a b : Int} (hx : x.toInt = a) (hy : y.toInt = b) (h0 : 0 ≤ a) (h1 : 0 ≤ b) : ∃ c : Int, (x ^^^ y).toInt = c ∧ 0 ≤ c := by
  have p := own_bv32 hx h0; have q := own_bv32 hy h1
  have r := x.toInt_lt; have s := y.toInt_lt
  have e : (x ^^^ y).toBitVec.toNat = x.toBitVec.toNat ^^^ y.toBitVec.toNat := by simp [Int32.toBitVec_xor, BitVec.toNat_xor]
  have l : (x ^^^ y).toBitVec.toNat < 2 ^ 31 := by rw [e]; exact Nat.xor_lt_two_pow (by omega) (by omega)
  exact ⟨_, own_ofbv32 l, Int.natCast_nonneg _⟩
theorem d20_0 : decode method_3_code 0 = .ok (.iload_n 1, 1) := by decide +kernel
theorem d20_1 : decode method_3_code 1 = .ok (.iload_n 3, 1) := by decide +kernel
theorem d20_2 : decode method_3_code 2 = .ok (.if_icmp .gt 18, 3) := by decide +kernel
theorem d20_5 : decode method_3_code 5 = .ok (.iload_n 3, 1) := by decide +kernel
theorem d20_6 : decode method_3_code 6 = .ok (.iload_n 2, 1) := by decide +kernel
theorem d20_7 : decode method_3_code 7 = .ok (.if_icmp .ge 13, 3) := by decide +kernel
theorem d20_10 : decode method_3_code 10 = .ok (.aload_n 0, 1) := by decide +kernel
theorem d20_11 : decode method_3_code 11 = .ok (.iload_n 3, 1) := by decide +kernel
theorem d20_12 : decode method_3_code 12 = .ok (.baload, 1) := by decide +kernel
theorem d20_13 : decode method_3_code 13 = .ok (.ifCond .ge 7, 3) := by decide +kernel
theorem d20_16 : decode method_3_code 16 = .ok (.iconst 1, 1) := by decide +kernel
theorem d20_17 : decode method_3_code 17 = .ok (.goto 4, 3) := by decide +kernel
theorem d20_20 : decode method_3_code 20 = .ok (.iconst 0, 1) := by decide +kernel
theorem d20_21 : decode method_3_code 21 = .ok (.ireturn, 1) := by decide +kernel
theorem pn20 : plainName "com/example/terseref/terseref/core/CborReaderIsAsciiPinLaw" = true := by first | (simp [plainName, overriddenIn]; done) | decide +kernel
theorem ef20 (m : MethodId) (x0 : Addr) (x1 : Int32) (x2 : Int32) : entryFrame m #[(.ref x0), (.int x1), (.int x2), (.int (0 : Int32))] 4 = (mkF m 0 #[.val (.ref x0), .val (.int x1), .val (.int x2), .val (.int (0 : Int32))] []) := by first | (simp [entryFrame, mkF, argsToLocals, Value.category]; done) | rfl
def r20 (x1 : Int32) (x2 : Int32) (v0 : Int32) (v1 : Int32) (v2 : Int32) (v3 : Int32) : Int32 := (if (0 : Int32) < x1 then (0 : Int32) else (if (0 : Int32) < x2 then (if v0 < (0 : Int32) then (1 : Int32) else (0 : Int32)) else (0 : Int32)))
set_option maxRecDepth 65536 in
set_option maxHeartbeats 40000000 in
theorem rm20 (l : Launch) (Z : State) (a0 : Array Value) (hw : ∀ d ∈ tables_1, d.before a0 Z = true) (ws : List Jvm.Cond) (x0 : Addr) (x1 : Int32) (x2 : Int32) (kx : ClassId) (v0 : Int32) (v1 : Int32) (v2 : Int32) (v3 : Int32) (h0 : Heap) (n0 : Nat) (Z0 : n0 ≤ h0.size) (V_x0 : Arv Z h0 x0 kx .byte (4 : Int32) [(.int v0), (.int v1), (.int v2), (.int v3)] (.int (0 : Int32))) :
    MetFree l (⟨"com/example/terseref/terseref/core/CborReaderIsAsciiPinLaw", "bad", "([BIII)Z"⟩ : MethodName) (head1 (Jvm.Cond.code (⟨"com/example/terseref/terseref/core/CborReaderIsAsciiPinLaw", "bad", "([BIII)Z"⟩ : MethodName) method_3_code 4 (some .boolean) :: ws) ({ frames := 0, cells := 0, slots := 0, locals := 0 } : Room)) (fun a U => a = #[(.ref x0), (.int x1), (.int x2), (.int (0 : Int32))] ∧ Z.Warmed39 U.vm ∧ U.heap = h0) (fun _ _ _ _ _ => True) (fun _ U o U' => ∃ v L, o = .returned v ∧ (QP (some (.int (r20 x1 x2 v0 v1 v2 v3))) h0 n0) v U'.heap L ∧ FrameEnd U o U' L ({ frames := 0, cells := 0, slots := 0, locals := 0 } : Room).cells ({ frames := 0, cells := 0, slots := 0, locals := 0 } : Room).slots) := by
  refine MetFree.of_bodySF (plainFor_of_name pn20) hisR ?_
  intro p e s m args below meth c s₁ Bd hml0 hP hK
  obtain ⟨rfl, hZ, hh⟩ := hP
  have hx := Bd.exec
  have hby := Bd.bytes
  have hml : c.maxLocals = 4 := hml0
  have hlk : meth.locks = false := BodyLoose.notSynchronized Bd
  have hown : s.vm.findClass "com/example/terseref/terseref/core/CborReaderIsAsciiPinLaw" = some m.cls := findClass_of_methodNamed Bd.named
  have hnm := (name_of_methodNamed Bd.named Bd.method).1
  have hci : ∀ i v, (i, v) ∈ ([(7, 2147483647)] : List (Nat × Int32)) → (Jvm.Cond.constant "com/example/terseref/terseref/core/CborReaderIsAsciiPinLaw" i v).before #[(.ref x0), (.int x1), (.int x2), (.int (0 : Int32))] s = true := (own_ciS (mvT hZ (hw _ (List.mem_of_getElem? (i := 1) rfl))) own_ci0)
  have hcl : ∀ i v, (i, v) ∈ ([] : List (Nat × Int64)) → (Jvm.Cond.constantLong "com/example/terseref/terseref/core/CborReaderIsAsciiPinLaw" i v).before #[(.ref x0), (.int x1), (.int x2), (.int (0 : Int32))] s = true := own_ci0
  have X0 : Stand p l e ({ frames := 0, cells := 0, slots := 0, locals := 0 } : Room) s m #[(.ref x0), (.int x1), (.int x2), (.int (0 : Int32))] below meth c s₁ [] 0 0 := Stand.of_body Bd
  have e0 : s₁.heap = h0 := by rw [← hh, Bd.state]; rfl
  have N0 := Fr.nil n0
  show Goes p e below s (QP (some (.int (r20 x1 x2 v0 v1 v2 v3))) h0 n0) ({ frames := 0, cells := 0, slots := 0, locals := 0 } : Room).cells ({ frames := 0, cells := 0, slots := 0, locals := 0 } : Room).slots (s₁.setTop (entryFrame m #[(.ref x0), (.int x1), (.int x2), (.int (0 : Int32))] 4))
  refine Goes.cast (ef20 m x0 x1 x2) ?_
  refine Goes.run X0 hx hown hci hcl hby (L := [(0, .iload_n 1, 1), (1, .iload_n 3, 1)]) (by decide +kernel) rfl (g' := (mkF m 2 #[.val (.ref x0), .val (.int x1), .val (.int x2), .val (.int (0 : Int32))] [(.int (0 : Int32)), (.int x1)])) rfl ?_
  by_cases hc2_1 : (0 : Int32) < x1
  · skip
    refine Goes.st (B := s₁.setTop (mkF m 20 #[.val (.ref x0), .val (.int x1), .val (.int x2), .val (.int (0 : Int32))] [])) (fun t k => ?_) ?_
    · refine XS.icmpYes X0.here hx rfl (pc0 := 2) (pc' := 20) rfl (hb hby d20_2) rfl (tlt hc2_1).2.2.1 (by decide) (by decide) ?_
      exact k
    refine Goes.run X0 hx hown hci hcl hby (L := [(20, .iconst 0, 1)]) (by decide +kernel) rfl (g' := (mkF m 21 #[.val (.ref x0), .val (.int x1), .val (.int x2), .val (.int (0 : Int32))] [(.int (0 : Int32))])) rfl ?_
    exact Goes.retB X0 hx hlk (t := .boolean) Bd.returns (by simp) (hb hby d20_21) rfl ⟨(congrArg (fun z => some (Value.int z)) (show (r20 x1 x2 v0 v1 v2 v3) = (0 : Int32) from (if_pos hc2_1)).symm), N0, e0⟩ (by decide) (by decide)
  · skip
    refine Goes.st (B := s₁.setTop (mkF m 5 #[.val (.ref x0), .val (.int x1), .val (.int x2), .val (.int (0 : Int32))] [])) (fun t k => ?_) ?_
    · refine XS.icmpNo X0.here hx rfl (hb hby d20_2) rfl (flt hc2_1).2.2.1 ?_
      exact k
    refine Goes.run X0 hx hown hci hcl hby (L := [(5, .iload_n 3, 1), (6, .iload_n 2, 1)]) (by decide +kernel) rfl (g' := (mkF m 7 #[.val (.ref x0), .val (.int x1), .val (.int x2), .val (.int (0 : Int32))] [(.int x2), (.int (0 : Int32))])) rfl ?_
    by_cases hc7_2 : (0 : Int32) < x2
    · skip
      refine Goes.st (B := s₁.setTop (mkF m 10 #[.val (.ref x0), .val (.int x1), .val (.int x2), .val (.int (0 : Int32))] [])) (fun t k => ?_) ?_
      · refine XS.icmpNo X0.here hx rfl (hb hby d20_7) rfl (tlt hc7_2).2.1 ?_
        exact k
      refine Goes.run X0 hx hown hci hcl hby (L := [(10, .aload_n 0, 1), (11, .iload_n 3, 1)]) (by decide +kernel) rfl (g' := (mkF m 12 #[.val (.ref x0), .val (.int x1), .val (.int x2), .val (.int (0 : Int32))] [(.int (0 : Int32)), (.ref x0)])) rfl ?_
      obtain ⟨cl3, Ar3, q3, S3, M3, Hs3, G3⟩ := id V_x0
      have hin3 : ¬ ((0 : Int32) < 0 ∨ cl3.slots.size ≤ ((0 : Int32)).toNatClampNeg) := inb_of S3 ⟨(by decide), (by decide)⟩
      have hat3 : cl3.slots[((0 : Int32)).toNatClampNeg]? = some (.int v0) := Hs3.at hin3 rfl
      refine Goes.st (B := s₁.setTop (mkF m 13 #[.val (.ref x0), .val (.int x1), .val (.int x2), .val (.int (0 : Int32))] [(.int v0)])) (X0.baloadBytes hx (j := (0 : Int32)) (v := (.int v0)) (by rw [e0]; exact Ar3.1) (State.isArrayOf_alike hZ.alike Ar3.2.1) Ar3.2.2 hin3 hat3 (g := (mkF m 12 #[.val (.ref x0), .val (.int x1), .val (.int x2), .val (.int (0 : Int32))] [(.int (0 : Int32)), (.ref x0)])) rfl rfl (hb hby d20_12)) ?_
      by_cases hc13_4 : v0 < (0 : Int32)
      · skip
        refine Goes.st (B := s₁.setTop (mkF m 16 #[.val (.ref x0), .val (.int x1), .val (.int x2), .val (.int (0 : Int32))] [])) (fun t k => ?_) ?_
        · refine XS.ifNo X0.here hx rfl (hb hby d20_13) rfl ((if0 _ _).trans (tlt hc13_4).2.1) ?_
          exact k
        refine Goes.run X0 hx hown hci hcl hby (L := [(16, .iconst 1, 1), (17, .goto 4, 3)]) (by decide +kernel) rfl (g' := (mkF m 21 #[.val (.ref x0), .val (.int x1), .val (.int x2), .val (.int (0 : Int32))] [(.int (1 : Int32))])) rfl ?_
        exact Goes.retB X0 hx hlk (t := .boolean) Bd.returns (by simp) (hb hby d20_21) rfl ⟨(congrArg (fun z => some (Value.int z)) (show (r20 x1 x2 v0 v1 v2 v3) = (1 : Int32) from (((if_neg hc2_1).trans (if_pos hc7_2)).trans (if_pos hc13_4))).symm), N0, e0⟩ (by decide) (by decide)
      · skip
        refine Goes.st (B := s₁.setTop (mkF m 20 #[.val (.ref x0), .val (.int x1), .val (.int x2), .val (.int (0 : Int32))] [])) (fun t k => ?_) ?_
        · refine XS.ifYes X0.here hx rfl (pc0 := 13) (pc' := 20) rfl (hb hby d20_13) rfl ((if0 _ _).trans (flt hc13_4).2.1) (by decide) (by decide) ?_
          exact k
        refine Goes.run X0 hx hown hci hcl hby (L := [(20, .iconst 0, 1)]) (by decide +kernel) rfl (g' := (mkF m 21 #[.val (.ref x0), .val (.int x1), .val (.int x2), .val (.int (0 : Int32))] [(.int (0 : Int32))])) rfl ?_
        exact Goes.retB X0 hx hlk (t := .boolean) Bd.returns (by simp) (hb hby d20_21) rfl ⟨(congrArg (fun z => some (Value.int z)) (show (r20 x1 x2 v0 v1 v2 v3) = (0 : Int32) from (((if_neg hc2_1).trans (if_pos hc7_2)).trans (if_neg hc13_4))).symm), N0, e0⟩ (by decide) (by decide)
    · skip
      refine Goes.st (B := s₁.setTop (mkF m 20 #[.val (.ref x0), .val (.int x1), .val (.int x2), .val (.int (0 : Int32))] [])) (fun t k => ?_) ?_
      · refine XS.icmpYes X0.here hx rfl (pc0 := 7) (pc' := 20) rfl (hb hby d20_7) rfl (flt hc7_2).2.1 (by decide) (by decide) ?_
        exact k
      refine Goes.run X0 hx hown hci hcl hby (L := [(20, .iconst 0, 1)]) (by decide +kernel) rfl (g' := (mkF m 21 #[.val (.ref x0), .val (.int x1), .val (.int x2), .val (.int (0 : Int32))] [(.int (0 : Int32))])) rfl ?_
      exact Goes.retB X0 hx hlk (t := .boolean) Bd.returns (by simp) (hb hby d20_21) rfl ⟨(congrArg (fun z => some (Value.int z)) (show (r20 x1 x2 v0 v1 v2 v3) = (0 : Int32) from ((if_neg hc2_1).trans (if_neg hc7_2))).symm), N0, e0⟩ (by decide) (by decide)
theorem d21_0 : decode method_3_code 0 = .ok (.iload_n 1, 1) := by decide +kernel
theorem d21_1 : decode method_3_code 1 = .ok (.iload_n 3, 1) := by decide +kernel
theorem d21_2 : decode method_3_code 2 = .ok (.if_icmp .gt 18, 3) := by decide +kernel
theorem d21_5 : decode method_3_code 5 = .ok (.iload_n 3, 1) := by decide +kernel
theorem d21_6 : decode method_3_code 6 = .ok (.iload_n 2, 1) := by decide +kernel
theorem d21_7 : decode method_3_code 7 = .ok (.if_icmp .ge 13, 3) := by decide +kernel
theorem d21_10 : decode method_3_code 10 = .ok (.aload_n 0, 1) := by decide +kernel
theorem d21_11 : decode method_3_code 11 = .ok (.iload_n 3, 1) := by decide +kernel
theorem d21_12 : decode method_3_code 12 = .ok (.baload, 1) := by decide +kernel
theorem d21_13 : decode method_3_code 13 = .ok (.ifCond .ge 7, 3) := by decide +kernel
theorem d21_16 : decode method_3_code 16 = .ok (.iconst 1, 1) := by decide +kernel
theorem d21_17 : decode method_3_code 17 = .ok (.goto 4, 3) := by decide +kernel
theorem d21_20 : decode method_3_code 20 = .ok (.iconst 0, 1) := by decide +kernel
theorem d21_21 : decode method_3_code 21 = .ok (.ireturn, 1) := by decide +kernel
theorem pn21 : plainName "com/example/terseref/terseref/core/CborReaderIsAsciiPinLaw" = true := by first | (simp [plainName, overriddenIn]; done) | decide +kernel
theorem ef21 (m : MethodId) (x0 : Addr) (x1 : Int32) (x2 : Int32) : entryFrame m #[(.ref x0), (.int x1), (.int x2), (.int (1 : Int32))] 4 = (mkF m 0 #[.val (.ref x0), .val (.int x1), .val (.int x2), .val (.int (1 : Int32))] []) := by first | (simp [entryFrame, mkF, argsToLocals, Value.category]; done) | rfl
def r21 (x1 : Int32) (x2 : Int32) (v0 : Int32) (v1 : Int32) (v2 : Int32) (v3 : Int32) : Int32 := (if (1 : Int32) < x1 then (0 : Int32) else (if (1 : Int32) < x2 then (if v1 < (0 : Int32) then (1 : Int32) else (0 : Int32)) else (0 : Int32)))
set_option maxRecDepth 65536 in
set_option maxHeartbeats 40000000 in
theorem rm21 (l : Launch) (Z : State) (a0 : Array Value) (hw : ∀ d ∈ tables_1, d.before a0 Z = true) (ws : List Jvm.Cond) (x0 : Addr) (x1 : Int32) (x2 : Int32) (kx : ClassId) (v0 : Int32) (v1 : Int32) (v2 : Int32) (v3 : Int32) (h0 : Heap) (n0 : Nat) (Z0 : n0 ≤ h0.size) (V_x0 : Arv Z h0 x0 kx .byte (4 : Int32) [(.int v0), (.int v1), (.int v2), (.int v3)] (.int (0 : Int32))) :
    MetFree l (⟨"com/example/terseref/terseref/core/CborReaderIsAsciiPinLaw", "bad", "([BIII)Z"⟩ : MethodName) (head1 (Jvm.Cond.code (⟨"com/example/terseref/terseref/core/CborReaderIsAsciiPinLaw", "bad", "([BIII)Z"⟩ : MethodName) method_3_code 4 (some .boolean) :: ws) ({ frames := 0, cells := 0, slots := 0, locals := 0 } : Room)) (fun a U => a = #[(.ref x0), (.int x1), (.int x2), (.int (1 : Int32))] ∧ Z.Warmed39 U.vm ∧ U.heap = h0) (fun _ _ _ _ _ => True) (fun _ U o U' => ∃ v L, o = .returned v ∧ (QP (some (.int (r21 x1 x2 v0 v1 v2 v3))) h0 n0) v U'.heap L ∧ FrameEnd U o U' L ({ frames := 0, cells := 0, slots := 0, locals := 0 } : Room).cells ({ frames := 0, cells := 0, slots := 0, locals := 0 } : Room).slots) := by
  refine MetFree.of_bodySF (plainFor_of_name pn21) hisR ?_
  intro p e s m args below meth c s₁ Bd hml0 hP hK
  obtain ⟨rfl, hZ, hh⟩ := hP
  have hx := Bd.exec
  have hby := Bd.bytes
  have hml : c.maxLocals = 4 := hml0
  have hlk : meth.locks = false := BodyLoose.notSynchronized Bd
  have hown : s.vm.findClass "com/example/terseref/terseref/core/CborReaderIsAsciiPinLaw" = some m.cls := findClass_of_methodNamed Bd.named
  have hnm := (name_of_methodNamed Bd.named Bd.method).1
  have hci : ∀ i v, (i, v) ∈ ([(7, 2147483647)] : List (Nat × Int32)) → (Jvm.Cond.constant "com/example/terseref/terseref/core/CborReaderIsAsciiPinLaw" i v).before #[(.ref x0), (.int x1), (.int x2), (.int (1 : Int32))] s = true := (own_ciS (mvT hZ (hw _ (List.mem_of_getElem? (i := 1) rfl))) own_ci0)
  have hcl : ∀ i v, (i, v) ∈ ([] : List (Nat × Int64)) → (Jvm.Cond.constantLong "com/example/terseref/terseref/core/CborReaderIsAsciiPinLaw" i v).before #[(.ref x0), (.int x1), (.int x2), (.int (1 : Int32))] s = true := own_ci0
  have X0 : Stand p l e ({ frames := 0, cells := 0, slots := 0, locals := 0 } : Room) s m #[(.ref x0), (.int x1), (.int x2), (.int (1 : Int32))] below meth c s₁ [] 0 0 := Stand.of_body Bd
  have e0 : s₁.heap = h0 := by rw [← hh, Bd.state]; rfl
  have N0 := Fr.nil n0
  show Goes p e below s (QP (some (.int (r21 x1 x2 v0 v1 v2 v3))) h0 n0) ({ frames := 0, cells := 0, slots := 0, locals := 0 } : Room).cells ({ frames := 0, cells := 0, slots := 0, locals := 0 } : Room).slots (s₁.setTop (entryFrame m #[(.ref x0), (.int x1), (.int x2), (.int (1 : Int32))] 4))
  refine Goes.cast (ef21 m x0 x1 x2) ?_
  refine Goes.run X0 hx hown hci hcl hby (L := [(0, .iload_n 1, 1), (1, .iload_n 3, 1)]) (by decide +kernel) rfl (g' := (mkF m 2 #[.val (.ref x0), .val (.int x1), .val (.int x2), .val (.int (1 : Int32))] [(.int (1 : Int32)), (.int x1)])) rfl ?_
  by_cases hc2_1 : (1 : Int32) < x1
  · skip
    refine Goes.st (B := s₁.setTop (mkF m 20 #[.val (.ref x0), .val (.int x1), .val (.int x2), .val (.int (1 : Int32))] [])) (fun t k => ?_) ?_
    · refine XS.icmpYes X0.here hx rfl (pc0 := 2) (pc' := 20) rfl (hb hby d21_2) rfl (tlt hc2_1).2.2.1 (by decide) (by decide) ?_
      exact k
    refine Goes.run X0 hx hown hci hcl hby (L := [(20, .iconst 0, 1)]) (by decide +kernel) rfl (g' := (mkF m 21 #[.val (.ref x0), .val (.int x1), .val (.int x2), .val (.int (1 : Int32))] [(.int (0 : Int32))])) rfl ?_
    exact Goes.retB X0 hx hlk (t := .boolean) Bd.returns (by simp) (hb hby d21_21) rfl ⟨(congrArg (fun z => some (Value.int z)) (show (r21 x1 x2 v0 v1 v2 v3) = (0 : Int32) from (if_pos hc2_1)).symm), N0, e0⟩ (by decide) (by decide)
  · skip
    refine Goes.st (B := s₁.setTop (mkF m 5 #[.val (.ref x0), .val (.int x1), .val (.int x2), .val (.int (1 : Int32))] [])) (fun t k => ?_) ?_
    · refine XS.icmpNo X0.here hx rfl (hb hby d21_2) rfl (flt hc2_1).2.2.1 ?_
      exact k
    refine Goes.run X0 hx hown hci hcl hby (L := [(5, .iload_n 3, 1), (6, .iload_n 2, 1)]) (by decide +kernel) rfl (g' := (mkF m 7 #[.val (.ref x0), .val (.int x1), .val (.int x2), .val (.int (1 : Int32))] [(.int x2), (.int (1 : Int32))])) rfl ?_
    by_cases hc7_2 : (1 : Int32) < x2
    · skip
      refine Goes.st (B := s₁.setTop (mkF m 10 #[.val (.ref x0), .val (.int x1), .val (.int x2), .val (.int (1 : Int32))] [])) (fun t k => ?_) ?_
      · refine XS.icmpNo X0.here hx rfl (hb hby d21_7) rfl (tlt hc7_2).2.1 ?_
        exact k
      refine Goes.run X0 hx hown hci hcl hby (L := [(10, .aload_n 0, 1), (11, .iload_n 3, 1)]) (by decide +kernel) rfl (g' := (mkF m 12 #[.val (.ref x0), .val (.int x1), .val (.int x2), .val (.int (1 : Int32))] [(.int (1 : Int32)), (.ref x0)])) rfl ?_
      obtain ⟨cl3, Ar3, q3, S3, M3, Hs3, G3⟩ := id V_x0
      have hin3 : ¬ ((1 : Int32) < 0 ∨ cl3.slots.size ≤ ((1 : Int32)).toNatClampNeg) := inb_of S3 ⟨(by decide), (by decide)⟩
      have hat3 : cl3.slots[((1 : Int32)).toNatClampNeg]? = some (.int v1) := Hs3.at hin3 rfl
      refine Goes.st (B := s₁.setTop (mkF m 13 #[.val (.ref x0), .val (.int x1), .val (.int x2), .val (.int (1 : Int32))] [(.int v1)])) (X0.baloadBytes hx (j := (1 : Int32)) (v := (.int v1)) (by rw [e0]; exact Ar3.1) (State.isArrayOf_alike hZ.alike Ar3.2.1) Ar3.2.2 hin3 hat3 (g := (mkF m 12 #[.val (.ref x0), .val (.int x1), .val (.int x2), .val (.int (1 : Int32))] [(.int (1 : Int32)), (.ref x0)])) rfl rfl (hb hby d21_12)) ?_
      by_cases hc13_4 : v1 < (0 : Int32)
      · skip
        refine Goes.st (B := s₁.setTop (mkF m 16 #[.val (.ref x0), .val (.int x1), .val (.int x2), .val (.int (1 : Int32))] [])) (fun t k => ?_) ?_
        · refine XS.ifNo X0.here hx rfl (hb hby d21_13) rfl ((if0 _ _).trans (tlt hc13_4).2.1) ?_
          exact k
        refine Goes.run X0 hx hown hci hcl hby (L := [(16, .iconst 1, 1), (17, .goto 4, 3)]) (by decide +kernel) rfl (g' := (mkF m 21 #[.val (.ref x0), .val (.int x1), .val (.int x2), .val (.int (1 : Int32))] [(.int (1 : Int32))])) rfl ?_
        exact Goes.retB X0 hx hlk (t := .boolean) Bd.returns (by simp) (hb hby d21_21) rfl ⟨(congrArg (fun z => some (Value.int z)) (show (r21 x1 x2 v0 v1 v2 v3) = (1 : Int32) from (((if_neg hc2_1).trans (if_pos hc7_2)).trans (if_pos hc13_4))).symm), N0, e0⟩ (by decide) (by decide)
      · skip
        refine Goes.st (B := s₁.setTop (mkF m 20 #[.val (.ref x0), .val (.int x1), .val (.int x2), .val (.int (1 : Int32))] [])) (fun t k => ?_) ?_
        · refine XS.ifYes X0.here hx rfl (pc0 := 13) (pc' := 20) rfl (hb hby d21_13) rfl ((if0 _ _).trans (flt hc13_4).2.1) (by decide) (by decide) ?_
          exact k
        refine Goes.run X0 hx hown hci hcl hby (L := [(20, .iconst 0, 1)]) (by decide +kernel) rfl (g' := (mkF m 21 #[.val (.ref x0), .val (.int x1), .val (.int x2), .val (.int (1 : Int32))] [(.int (0 : Int32))])) rfl ?_
        exact Goes.retB X0 hx hlk (t := .boolean) Bd.returns (by simp) (hb hby d21_21) rfl ⟨(congrArg (fun z => some (Value.int z)) (show (r21 x1 x2 v0 v1 v2 v3) = (0 : Int32) from (((if_neg hc2_1).trans (if_pos hc7_2)).trans (if_neg hc13_4))).symm), N0, e0⟩ (by decide) (by decide)
    · skip
      refine Goes.st (B := s₁.setTop (mkF m 20 #[.val (.ref x0), .val (.int x1), .val (.int x2), .val (.int (1 : Int32))] [])) (fun t k => ?_) ?_
      · refine XS.icmpYes X0.here hx rfl (pc0 := 7) (pc' := 20) rfl (hb hby d21_7) rfl (flt hc7_2).2.1 (by decide) (by decide) ?_
        exact k
      refine Goes.run X0 hx hown hci hcl hby (L := [(20, .iconst 0, 1)]) (by decide +kernel) rfl (g' := (mkF m 21 #[.val (.ref x0), .val (.int x1), .val (.int x2), .val (.int (1 : Int32))] [(.int (0 : Int32))])) rfl ?_
      exact Goes.retB X0 hx hlk (t := .boolean) Bd.returns (by simp) (hb hby d21_21) rfl ⟨(congrArg (fun z => some (Value.int z)) (show (r21 x1 x2 v0 v1 v2 v3) = (0 : Int32) from ((if_neg hc2_1).trans (if_neg hc7_2))).symm), N0, e0⟩ (by decide) (by decide)
theorem d22_0 : decode method_3_code 0 = .ok (.iload_n 1, 1) := by decide +kernel
theorem d22_1 : decode method_3_code 1 = .ok (.iload_n 3, 1) := by decide +kernel
theorem d22_2 : decode method_3_code 2 = .ok (.if_icmp .gt 18, 3) := by decide +kernel
theorem d22_5 : decode method_3_code 5 = .ok (.iload_n 3, 1) := by decide +kernel
theorem d22_6 : decode method_3_code 6 = .ok (.iload_n 2, 1) := by decide +kernel
theorem d22_7 : decode method_3_code 7 = .ok (.if_icmp .ge 13, 3) := by decide +kernel
theorem d22_10 : decode method_3_code 10 = .ok (.aload_n 0, 1) := by decide +kernel
theorem d22_11 : decode method_3_code 11 = .ok (.iload_n 3, 1) := by decide +kernel
theorem d22_12 : decode method_3_code 12 = .ok (.baload, 1) := by decide +kernel
theorem d22_13 : decode method_3_code 13 = .ok (.ifCond .ge 7, 3) := by decide +kernel
theorem d22_16 : decode method_3_code 16 = .ok (.iconst 1, 1) := by decide +kernel
theorem d22_17 : decode method_3_code 17 = .ok (.goto 4, 3) := by decide +kernel
theorem d22_20 : decode method_3_code 20 = .ok (.iconst 0, 1) := by decide +kernel
theorem d22_21 : decode method_3_code 21 = .ok (.ireturn, 1) := by decide +kernel
theorem pn22 : plainName "com/example/terseref/terseref/core/CborReaderIsAsciiPinLaw" = true := by first | (simp [plainName, overriddenIn]; done) | decide +kernel
theorem ef22 (m : MethodId) (x0 : Addr) (x1 : Int32) (x2 : Int32) : entryFrame m #[(.ref x0), (.int x1), (.int x2), (.int (2 : Int32))] 4 = (mkF m 0 #[.val (.ref x0), .val (.int x1), .val (.int x2), .val (.int (2 : Int32))] []) := by first | (simp [entryFrame, mkF, argsToLocals, Value.category]; done) | rfl
def r22 (x1 : Int32) (x2 : Int32) (v0 : Int32) (v1 : Int32) (v2 : Int32) (v3 : Int32) : Int32 := (if (2 : Int32) < x1 then (0 : Int32) else (if (2 : Int32) < x2 then (if v2 < (0 : Int32) then (1 : Int32) else (0 : Int32)) else (0 : Int32)))
set_option maxRecDepth 65536 in
set_option maxHeartbeats 40000000 in
theorem rm22 (l : Launch) (Z : State) (a0 : Array Value) (hw : ∀ d ∈ tables_1, d.before a0 Z = true) (ws : List Jvm.Cond) (x0 : Addr) (x1 : Int32) (x2 : Int32) (kx : ClassId) (v0 : Int32) (v1 : Int32) (v2 : Int32) (v3 : Int32) (h0 : Heap) (n0 : Nat) (Z0 : n0 ≤ h0.size) (V_x0 : Arv Z h0 x0 kx .byte (4 : Int32) [(.int v0), (.int v1), (.int v2), (.int v3)] (.int (0 : Int32))) :
    MetFree l (⟨"com/example/terseref/terseref/core/CborReaderIsAsciiPinLaw", "bad", "([BIII)Z"⟩ : MethodName) (head1 (Jvm.Cond.code (⟨"com/example/terseref/terseref/core/CborReaderIsAsciiPinLaw", "bad", "([BIII)Z"⟩ : MethodName) method_3_code 4 (some .boolean) :: ws) ({ frames := 0, cells := 0, slots := 0, locals := 0 } : Room)) (fun a U => a = #[(.ref x0), (.int x1), (.int x2), (.int (2 : Int32))] ∧ Z.Warmed39 U.vm ∧ U.heap = h0) (fun _ _ _ _ _ => True) (fun _ U o U' => ∃ v L, o = .returned v ∧ (QP (some (.int (r22 x1 x2 v0 v1 v2 v3))) h0 n0) v U'.heap L ∧ FrameEnd U o U' L ({ frames := 0, cells := 0, slots := 0, locals := 0 } : Room).cells ({ frames := 0, cells := 0, slots := 0, locals := 0 } : Room).slots) := by
  refine MetFree.of_bodySF (plainFor_of_name pn22) hisR ?_
  intro p e s m args below meth c s₁ Bd hml0 hP hK
  obtain ⟨rfl, hZ, hh⟩ := hP
  have hx := Bd.exec
  have hby := Bd.bytes
  have hml : c.maxLocals = 4 := hml0
  have hlk : meth.locks = false := BodyLoose.notSynchronized Bd
  have hown : s.vm.findClass "com/example/terseref/terseref/core/CborReaderIsAsciiPinLaw" = some m.cls := findClass_of_methodNamed Bd.named
  have hnm := (name_of_methodNamed Bd.named Bd.method).1
  have hci : ∀ i v, (i, v) ∈ ([(7, 2147483647)] : List (Nat × Int32)) → (Jvm.Cond.constant "com/example/terseref/terseref/core/CborReaderIsAsciiPinLaw" i v).before #[(.ref x0), (.int x1), (.int x2), (.int (2 : Int32))] s = true := (own_ciS (mvT hZ (hw _ (List.mem_of_getElem? (i := 1) rfl))) own_ci0)
  have hcl : ∀ i v, (i, v) ∈ ([] : List (Nat × Int64)) → (Jvm.Cond.constantLong "com/example/terseref/terseref/core/CborReaderIsAsciiPinLaw" i v).before #[(.ref x0), (.int x1), (.int x2), (.int (2 : Int32))] s = true := own_ci0
  have X0 : Stand p l e ({ frames := 0, cells := 0, slots := 0, locals := 0 } : Room) s m #[(.ref x0), (.int x1), (.int x2), (.int (2 : Int32))] below meth c s₁ [] 0 0 := Stand.of_body Bd
  have e0 : s₁.heap = h0 := by rw [← hh, Bd.state]; rfl
  have N0 := Fr.nil n0
  show Goes p e below s (QP (some (.int (r22 x1 x2 v0 v1 v2 v3))) h0 n0) ({ frames := 0, cells := 0, slots := 0, locals := 0 } : Room).cells ({ frames := 0, cells := 0, slots := 0, locals := 0 } : Room).slots (s₁.setTop (entryFrame m #[(.ref x0), (.int x1), (.int x2), (.int (2 : Int32))] 4))
  refine Goes.cast (ef22 m x0 x1 x2) ?_
  refine Goes.run X0 hx hown hci hcl hby (L := [(0, .iload_n 1, 1), (1, .iload_n 3, 1)]) (by decide +kernel) rfl (g' := (mkF m 2 #[.val (.ref x0), .val (.int x1), .val (.int x2), .val (.int (2 : Int32))] [(.int (2 : Int32)), (.int x1)])) rfl ?_
  by_cases hc2_1 : (2 : Int32) < x1
  · skip
    refine Goes.st (B := s₁.setTop (mkF m 20 #[.val (.ref x0), .val (.int x1), .val (.int x2), .val (.int (2 : Int32))] [])) (fun t k => ?_) ?_
    · refine XS.icmpYes X0.here hx rfl (pc0 := 2) (pc' := 20) rfl (hb hby d22_2) rfl (tlt hc2_1).2.2.1 (by decide) (by decide) ?_
      exact k
    refine Goes.run X0 hx hown hci hcl hby (L := [(20, .iconst 0, 1)]) (by decide +kernel) rfl (g' := (mkF m 21 #[.val (.ref x0), .val (.int x1), .val (.int x2), .val (.int (2 : Int32))] [(.int (0 : Int32))])) rfl ?_
    exact Goes.retB X0 hx hlk (t := .boolean) Bd.returns (by simp) (hb hby d22_21) rfl ⟨(congrArg (fun z => some (Value.int z)) (show (r22 x1 x2 v0 v1 v2 v3) = (0 : Int32) from (if_pos hc2_1)).symm), N0, e0⟩ (by decide) (by decide)
  · skip
    refine Goes.st (B := s₁.setTop (mkF m 5 #[.val (.ref x0), .val (.int x1), .val (.int x2), .val (.int (2 : Int32))] [])) (fun t k => ?_) ?_
    · refine XS.icmpNo X0.here hx rfl (hb hby d22_2) rfl (flt hc2_1).2.2.1 ?_
      exact k
    refine Goes.run X0 hx hown hci hcl hby (L := [(5, .iload_n 3, 1), (6, .iload_n 2, 1)]) (by decide +kernel) rfl (g' := (mkF m 7 #[.val (.ref x0), .val (.int x1), .val (.int x2), .val (.int (2 : Int32))] [(.int x2), (.int (2 : Int32))])) rfl ?_
    by_cases hc7_2 : (2 : Int32) < x2
    · skip
      refine Goes.st (B := s₁.setTop (mkF m 10 #[.val (.ref x0), .val (.int x1), .val (.int x2), .val (.int (2 : Int32))] [])) (fun t k => ?_) ?_
      · refine XS.icmpNo X0.here hx rfl (hb hby d22_7) rfl (tlt hc7_2).2.1 ?_
        exact k
      refine Goes.run X0 hx hown hci hcl hby (L := [(10, .aload_n 0, 1), (11, .iload_n 3, 1)]) (by decide +kernel) rfl (g' := (mkF m 12 #[.val (.ref x0), .val (.int x1), .val (.int x2), .val (.int (2 : Int32))] [(.int (2 : Int32)), (.ref x0)])) rfl ?_
      obtain ⟨cl3, Ar3, q3, S3, M3, Hs3, G3⟩ := id V_x0
      have hin3 : ¬ ((2 : Int32) < 0 ∨ cl3.slots.size ≤ ((2 : Int32)).toNatClampNeg) := inb_of S3 ⟨(by decide), (by decide)⟩
      have hat3 : cl3.slots[((2 : Int32)).toNatClampNeg]? = some (.int v2) := Hs3.at hin3 rfl
      refine Goes.st (B := s₁.setTop (mkF m 13 #[.val (.ref x0), .val (.int x1), .val (.int x2), .val (.int (2 : Int32))] [(.int v2)])) (X0.baloadBytes hx (j := (2 : Int32)) (v := (.int v2)) (by rw [e0]; exact Ar3.1) (State.isArrayOf_alike hZ.alike Ar3.2.1) Ar3.2.2 hin3 hat3 (g := (mkF m 12 #[.val (.ref x0), .val (.int x1), .val (.int x2), .val (.int (2 : Int32))] [(.int (2 : Int32)), (.ref x0)])) rfl rfl (hb hby d22_12)) ?_
      by_cases hc13_4 : v2 < (0 : Int32)
      · skip
        refine Goes.st (B := s₁.setTop (mkF m 16 #[.val (.ref x0), .val (.int x1), .val (.int x2), .val (.int (2 : Int32))] [])) (fun t k => ?_) ?_
        · refine XS.ifNo X0.here hx rfl (hb hby d22_13) rfl ((if0 _ _).trans (tlt hc13_4).2.1) ?_
          exact k
        refine Goes.run X0 hx hown hci hcl hby (L := [(16, .iconst 1, 1), (17, .goto 4, 3)]) (by decide +kernel) rfl (g' := (mkF m 21 #[.val (.ref x0), .val (.int x1), .val (.int x2), .val (.int (2 : Int32))] [(.int (1 : Int32))])) rfl ?_
        exact Goes.retB X0 hx hlk (t := .boolean) Bd.returns (by simp) (hb hby d22_21) rfl ⟨(congrArg (fun z => some (Value.int z)) (show (r22 x1 x2 v0 v1 v2 v3) = (1 : Int32) from (((if_neg hc2_1).trans (if_pos hc7_2)).trans (if_pos hc13_4))).symm), N0, e0⟩ (by decide) (by decide)
      · skip
        refine Goes.st (B := s₁.setTop (mkF m 20 #[.val (.ref x0), .val (.int x1), .val (.int x2), .val (.int (2 : Int32))] [])) (fun t k => ?_) ?_
        · refine XS.ifYes X0.here hx rfl (pc0 := 13) (pc' := 20) rfl (hb hby d22_13) rfl ((if0 _ _).trans (flt hc13_4).2.1) (by decide) (by decide) ?_
          exact k
        refine Goes.run X0 hx hown hci hcl hby (L := [(20, .iconst 0, 1)]) (by decide +kernel) rfl (g' := (mkF m 21 #[.val (.ref x0), .val (.int x1), .val (.int x2), .val (.int (2 : Int32))] [(.int (0 : Int32))])) rfl ?_
        exact Goes.retB X0 hx hlk (t := .boolean) Bd.returns (by simp) (hb hby d22_21) rfl ⟨(congrArg (fun z => some (Value.int z)) (show (r22 x1 x2 v0 v1 v2 v3) = (0 : Int32) from (((if_neg hc2_1).trans (if_pos hc7_2)).trans (if_neg hc13_4))).symm), N0, e0⟩ (by decide) (by decide)
    · skip
      refine Goes.st (B := s₁.setTop (mkF m 20 #[.val (.ref x0), .val (.int x1), .val (.int x2), .val (.int (2 : Int32))] [])) (fun t k => ?_) ?_
      · refine XS.icmpYes X0.here hx rfl (pc0 := 7) (pc' := 20) rfl (hb hby d22_7) rfl (flt hc7_2).2.1 (by decide) (by decide) ?_
        exact k
      refine Goes.run X0 hx hown hci hcl hby (L := [(20, .iconst 0, 1)]) (by decide +kernel) rfl (g' := (mkF m 21 #[.val (.ref x0), .val (.int x1), .val (.int x2), .val (.int (2 : Int32))] [(.int (0 : Int32))])) rfl ?_
      exact Goes.retB X0 hx hlk (t := .boolean) Bd.returns (by simp) (hb hby d22_21) rfl ⟨(congrArg (fun z => some (Value.int z)) (show (r22 x1 x2 v0 v1 v2 v3) = (0 : Int32) from ((if_neg hc2_1).trans (if_neg hc7_2))).symm), N0, e0⟩ (by decide) (by decide)
theorem d23_0 : decode method_3_code 0 = .ok (.iload_n 1, 1) := by decide +kernel
theorem d23_1 : decode method_3_code 1 = .ok (.iload_n 3, 1) := by decide +kernel
theorem d23_2 : decode method_3_code 2 = .ok (.if_icmp .gt 18, 3) := by decide +kernel
theorem d23_5 : decode method_3_code 5 = .ok (.iload_n 3, 1) := by decide +kernel
theorem d23_6 : decode method_3_code 6 = .ok (.iload_n 2, 1) := by decide +kernel
theorem d23_7 : decode method_3_code 7 = .ok (.if_icmp .ge 13, 3) := by decide +kernel
theorem d23_10 : decode method_3_code 10 = .ok (.aload_n 0, 1) := by decide +kernel
theorem d23_11 : decode method_3_code 11 = .ok (.iload_n 3, 1) := by decide +kernel
theorem d23_12 : decode method_3_code 12 = .ok (.baload, 1) := by decide +kernel
theorem d23_13 : decode method_3_code 13 = .ok (.ifCond .ge 7, 3) := by decide +kernel
theorem d23_16 : decode method_3_code 16 = .ok (.iconst 1, 1) := by decide +kernel
theorem d23_17 : decode method_3_code 17 = .ok (.goto 4, 3) := by decide +kernel
theorem d23_20 : decode method_3_code 20 = .ok (.iconst 0, 1) := by decide +kernel
theorem d23_21 : decode method_3_code 21 = .ok (.ireturn, 1) := by decide +kernel
theorem pn23 : plainName "com/example/terseref/terseref/core/CborReaderIsAsciiPinLaw" = true := by first | (simp [plainName, overriddenIn]; done) | decide +kernel
theorem ef23 (m : MethodId) (x0 : Addr) (x1 : Int32) (x2 : Int32) : entryFrame m #[(.ref x0), (.int x1), (.int x2), (.int (3 : Int32))] 4 = (mkF m 0 #[.val (.ref x0), .val (.int x1), .val (.int x2), .val (.int (3 : Int32))] []) := by first | (simp [entryFrame, mkF, argsToLocals, Value.category]; done) | rfl
def r23 (x1 : Int32) (x2 : Int32) (v0 : Int32) (v1 : Int32) (v2 : Int32) (v3 : Int32) : Int32 := (if (3 : Int32) < x1 then (0 : Int32) else (if (3 : Int32) < x2 then (if v3 < (0 : Int32) then (1 : Int32) else (0 : Int32)) else (0 : Int32)))
set_option maxRecDepth 65536 in
set_option maxHeartbeats 40000000 in
theorem rm23 (l : Launch) (Z : State) (a0 : Array Value) (hw : ∀ d ∈ tables_1, d.before a0 Z = true) (ws : List Jvm.Cond) (x0 : Addr) (x1 : Int32) (x2 : Int32) (kx : ClassId) (v0 : Int32) (v1 : Int32) (v2 : Int32) (v3 : Int32) (h0 : Heap) (n0 : Nat) (Z0 : n0 ≤ h0.size) (V_x0 : Arv Z h0 x0 kx .byte (4 : Int32) [(.int v0), (.int v1), (.int v2), (.int v3)] (.int (0 : Int32))) :
    MetFree l (⟨"com/example/terseref/terseref/core/CborReaderIsAsciiPinLaw", "bad", "([BIII)Z"⟩ : MethodName) (head1 (Jvm.Cond.code (⟨"com/example/terseref/terseref/core/CborReaderIsAsciiPinLaw", "bad", "([BIII)Z"⟩ : MethodName) method_3_code 4 (some .boolean) :: ws) ({ frames := 0, cells := 0, slots := 0, locals := 0 } : Room)) (fun a U => a = #[(.ref x0), (.int x1), (.int x2), (.int (3 : Int32))] ∧ Z.Warmed39 U.vm ∧ U.heap = h0) (fun _ _ _ _ _ => True) (fun _ U o U' => ∃ v L, o = .returned v ∧ (QP (some (.int (r23 x1 x2 v0 v1 v2 v3))) h0 n0) v U'.heap L ∧ FrameEnd U o U' L ({ frames := 0, cells := 0, slots := 0, locals := 0 } : Room).cells ({ frames := 0, cells := 0, slots := 0, locals := 0 } : Room).slots) := by
  refine MetFree.of_bodySF (plainFor_of_name pn23) hisR ?_
  intro p e s m args below meth c s₁ Bd hml0 hP hK
  obtain ⟨rfl, hZ, hh⟩ := hP
  have hx := Bd.exec
  have hby := Bd.bytes
  have hml : c.maxLocals = 4 := hml0
  have hlk : meth.locks = false := BodyLoose.notSynchronized Bd
  have hown : s.vm.findClass "com/example/terseref/terseref/core/CborReaderIsAsciiPinLaw" = some m.cls := findClass_of_methodNamed Bd.named
  have hnm := (name_of_methodNamed Bd.named Bd.method).1
  have hci : ∀ i v, (i, v) ∈ ([(7, 2147483647)] : List (Nat × Int32)) → (Jvm.Cond.constant "com/example/terseref/terseref/core/CborReaderIsAsciiPinLaw" i v).before #[(.ref x0), (.int x1), (.int x2), (.int (3 : Int32))] s = true := (own_ciS (mvT hZ (hw _ (List.mem_of_getElem? (i := 1) rfl))) own_ci0)
  have hcl : ∀ i v, (i, v) ∈ ([] : List (Nat × Int64)) → (Jvm.Cond.constantLong "com/example/terseref/terseref/core/CborReaderIsAsciiPinLaw" i v).before #[(.ref x0), (.int x1), (.int x2), (.int (3 : Int32))] s = true := own_ci0
  have X0 : Stand p l e ({ frames := 0, cells := 0, slots := 0, locals := 0 } : Room) s m #[(.ref x0), (.int x1), (.int x2), (.int (3 : Int32))] below meth c s₁ [] 0 0 := Stand.of_body Bd
  have e0 : s₁.heap = h0 := by rw [← hh, Bd.state]; rfl
  have N0 := Fr.nil n0
  show Goes p e below s (QP (some (.int (r23 x1 x2 v0 v1 v2 v3))) h0 n0) ({ frames := 0, cells := 0, slots := 0, locals := 0 } : Room).cells ({ frames := 0, cells := 0, slots := 0, locals := 0 } : Room).slots (s₁.setTop (entryFrame m #[(.ref x0), (.int x1), (.int x2), (.int (3 : Int32))] 4))
  refine Goes.cast (ef23 m x0 x1 x2) ?_
  refine Goes.run X0 hx hown hci hcl hby (L := [(0, .iload_n 1, 1), (1, .iload_n 3, 1)]) (by decide +kernel) rfl (g' := (mkF m 2 #[.val (.ref x0), .val (.int x1), .val (.int x2), .val (.int (3 : Int32))] [(.int (3 : Int32)), (.int x1)])) rfl ?_
  by_cases hc2_1 : (3 : Int32) < x1
  · skip
    refine Goes.st (B := s₁.setTop (mkF m 20 #[.val (.ref x0), .val (.int x1), .val (.int x2), .val (.int (3 : Int32))] [])) (fun t k => ?_) ?_
    · refine XS.icmpYes X0.here hx rfl (pc0 := 2) (pc' := 20) rfl (hb hby d23_2) rfl (tlt hc2_1).2.2.1 (by decide) (by decide) ?_
      exact k
    refine Goes.run X0 hx hown hci hcl hby (L := [(20, .iconst 0, 1)]) (by decide +kernel) rfl (g' := (mkF m 21 #[.val (.ref x0), .val (.int x1), .val (.int x2), .val (.int (3 : Int32))] [(.int (0 : Int32))])) rfl ?_
    exact Goes.retB X0 hx hlk (t := .boolean) Bd.returns (by simp) (hb hby d23_21) rfl ⟨(congrArg (fun z => some (Value.int z)) (show (r23 x1 x2 v0 v1 v2 v3) = (0 : Int32) from (if_pos hc2_1)).symm), N0, e0⟩ (by decide) (by decide)
  · skip
    refine Goes.st (B := s₁.setTop (mkF m 5 #[.val (.ref x0), .val (.int x1), .val (.int x2), .val (.int (3 : Int32))] [])) (fun t k => ?_) ?_
    · refine XS.icmpNo X0.here hx rfl (hb hby d23_2) rfl (flt hc2_1).2.2.1 ?_
      exact k
    refine Goes.run X0 hx hown hci hcl hby (L := [(5, .iload_n 3, 1), (6, .iload_n 2, 1)]) (by decide +kernel) rfl (g' := (mkF m 7 #[.val (.ref x0), .val (.int x1), .val (.int x2), .val (.int (3 : Int32))] [(.int x2), (.int (3 : Int32))])) rfl ?_
    by_cases hc7_2 : (3 : Int32) < x2
    · skip
      refine Goes.st (B := s₁.setTop (mkF m 10 #[.val (.ref x0), .val (.int x1), .val (.int x2), .val (.int (3 : Int32))] [])) (fun t k => ?_) ?_
      · refine XS.icmpNo X0.here hx rfl (hb hby d23_7) rfl (tlt hc7_2).2.1 ?_
        exact k
      refine Goes.run X0 hx hown hci hcl hby (L := [(10, .aload_n 0, 1), (11, .iload_n 3, 1)]) (by decide +kernel) rfl (g' := (mkF m 12 #[.val (.ref x0), .val (.int x1), .val (.int x2), .val (.int (3 : Int32))] [(.int (3 : Int32)), (.ref x0)])) rfl ?_
      obtain ⟨cl3, Ar3, q3, S3, M3, Hs3, G3⟩ := id V_x0
      have hin3 : ¬ ((3 : Int32) < 0 ∨ cl3.slots.size ≤ ((3 : Int32)).toNatClampNeg) := inb_of S3 ⟨(by decide), (by decide)⟩
      have hat3 : cl3.slots[((3 : Int32)).toNatClampNeg]? = some (.int v3) := Hs3.at hin3 rfl
      refine Goes.st (B := s₁.setTop (mkF m 13 #[.val (.ref x0), .val (.int x1), .val (.int x2), .val (.int (3 : Int32))] [(.int v3)])) (X0.baloadBytes hx (j := (3 : Int32)) (v := (.int v3)) (by rw [e0]; exact Ar3.1) (State.isArrayOf_alike hZ.alike Ar3.2.1) Ar3.2.2 hin3 hat3 (g := (mkF m 12 #[.val (.ref x0), .val (.int x1), .val (.int x2), .val (.int (3 : Int32))] [(.int (3 : Int32)), (.ref x0)])) rfl rfl (hb hby d23_12)) ?_
      by_cases hc13_4 : v3 < (0 : Int32)
      · skip
        refine Goes.st (B := s₁.setTop (mkF m 16 #[.val (.ref x0), .val (.int x1), .val (.int x2), .val (.int (3 : Int32))] [])) (fun t k => ?_) ?_
        · refine XS.ifNo X0.here hx rfl (hb hby d23_13) rfl ((if0 _ _).trans (tlt hc13_4).2.1) ?_
          exact k
        refine Goes.run X0 hx hown hci hcl hby (L := [(16, .iconst 1, 1), (17, .goto 4, 3)]) (by decide +kernel) rfl (g' := (mkF m 21 #[.val (.ref x0), .val (.int x1), .val (.int x2), .val (.int (3 : Int32))] [(.int (1 : Int32))])) rfl ?_
        exact Goes.retB X0 hx hlk (t := .boolean) Bd.returns (by simp) (hb hby d23_21) rfl ⟨(congrArg (fun z => some (Value.int z)) (show (r23 x1 x2 v0 v1 v2 v3) = (1 : Int32) from (((if_neg hc2_1).trans (if_pos hc7_2)).trans (if_pos hc13_4))).symm), N0, e0⟩ (by decide) (by decide)
      · skip
        refine Goes.st (B := s₁.setTop (mkF m 20 #[.val (.ref x0), .val (.int x1), .val (.int x2), .val (.int (3 : Int32))] [])) (fun t k => ?_) ?_
        · refine XS.ifYes X0.here hx rfl (pc0 := 13) (pc' := 20) rfl (hb hby d23_13) rfl ((if0 _ _).trans (flt hc13_4).2.1) (by decide) (by decide) ?_
          exact k
        refine Goes.run X0 hx hown hci hcl hby (L := [(20, .iconst 0, 1)]) (by decide +kernel) rfl (g' := (mkF m 21 #[.val (.ref x0), .val (.int x1), .val (.int x2), .val (.int (3 : Int32))] [(.int (0 : Int32))])) rfl ?_
        exact Goes.retB X0 hx hlk (t := .boolean) Bd.returns (by simp) (hb hby d23_21) rfl ⟨(congrArg (fun z => some (Value.int z)) (show (r23 x1 x2 v0 v1 v2 v3) = (0 : Int32) from (((if_neg hc2_1).trans (if_pos hc7_2)).trans (if_neg hc13_4))).symm), N0, e0⟩ (by decide) (by decide)
    · skip
      refine Goes.st (B := s₁.setTop (mkF m 20 #[.val (.ref x0), .val (.int x1), .val (.int x2), .val (.int (3 : Int32))] [])) (fun t k => ?_) ?_
      · refine XS.icmpYes X0.here hx rfl (pc0 := 7) (pc' := 20) rfl (hb hby d23_7) rfl (flt hc7_2).2.1 (by decide) (by decide) ?_
        exact k
      refine Goes.run X0 hx hown hci hcl hby (L := [(20, .iconst 0, 1)]) (by decide +kernel) rfl (g' := (mkF m 21 #[.val (.ref x0), .val (.int x1), .val (.int x2), .val (.int (3 : Int32))] [(.int (0 : Int32))])) rfl ?_
      exact Goes.retB X0 hx hlk (t := .boolean) Bd.returns (by simp) (hb hby d23_21) rfl ⟨(congrArg (fun z => some (Value.int z)) (show (r23 x1 x2 v0 v1 v2 v3) = (0 : Int32) from ((if_neg hc2_1).trans (if_neg hc7_2))).symm), N0, e0⟩ (by decide) (by decide)
def own_el (v0 v1 v2 v3 i : Int32) : Int32 := if i = 0 then v0 else if i = 1 then v1 else if i = 2 then v2 else v3
def own_asc (v0 v1 v2 v3 to : Int32) : Nat → Int32 → Int32 → Int32
  | 0, ok, _ => ok
  | k + 1, ok, i => if i < to then (if ok = (0 : Int32) then ok else own_asc v0 v1 v2 v3 to k (if own_el v0 v1 v2 v3 i < (0 : Int32) then (0 : Int32) else (1 : Int32)) (i + (1 : Int32))) else ok
theorem own_get (v0 v1 v2 v3 : Int32) {i : Int32} (h0 : ¬ i < 0) (h1 : i < (4 : Int32)) : [Value.int v0, .int v1, .int v2, .int v3].getD i.toNatClampNeg (.int (0 : Int32)) = .int (own_el v0 v1 v2 v3 i) := by
  obtain ⟨A, hA⟩ : ∃ A, i.toInt = A := ⟨_, rfl⟩
  rw [own_lt32 hA (show (0 : Int32).toInt = 0 by decide)] at h0
  rw [own_lt32 hA (show (4 : Int32).toInt = 4 by decide)] at h1
  obtain ⟨n, hn, rfl, -⟩ := own_nat32 hA (by omega) (N := 4) (by omega)
  match n, hn with
  | 0, _ => rfl
  | 1, _ => rfl
  | 2, _ => rfl
  | 3, _ => rfl
theorem own_lt4 {i t : Int32} (h : i < t) (ht : ¬ (4 : Int32) < t) : i < (4 : Int32) := by
  rw [Int32.lt_iff_toInt_lt] at *; omega
theorem own_up {i t : Int32} (h : i < t) (ht : ¬ (4 : Int32) < t) (h0 : ¬ i < 0) {k : Nat} (hk : t.toInt < i.toInt + (k + 1 : Nat)) : ¬ (i + (1 : Int32)) < 0 ∧ t.toInt < (i + (1 : Int32)).toInt + (k : Nat) := by
  obtain ⟨A, hA⟩ : ∃ A, i.toInt = A := ⟨_, rfl⟩
  obtain ⟨B, hB⟩ : ∃ B, t.toInt = B := ⟨_, rfl⟩
  rw [own_lt32 hA hB] at h
  rw [own_lt32 (show (4 : Int32).toInt = 4 by decide) hB] at ht
  rw [own_lt32 hA (show (0 : Int32).toInt = 0 by decide)] at h0
  rw [hA, hB] at hk
  have e := own_add32 hA (show (1 : Int32).toInt = 1 by decide) (by omega) (by omega)
  rw [own_lt32 e (show (0 : Int32).toInt = 0 by decide), e, hB]
  omega
theorem own_no {i t : Int32} (hk : t.toInt < i.toInt + (0 : Nat)) : ¬ i < t := by
  rw [Int32.lt_iff_toInt_lt]; omega
theorem own_nar {z : Int32} (h : z = 0 ∨ z = 1) : nar .boolean z = z := by rcases h with rfl | rfl <;> rfl
theorem own_01 (P : Prop) [Decidable P] : (if P then (0 : Int32) else 1) = 0 ∨ (if P then (0 : Int32) else 1) = 1 := by by_cases h : P <;> simp [h]
theorem d1_0 : decode prog_18_method_22_code 0 = .ok (.iconst 1, 1) := by decide +kernel
theorem d1_1 : decode prog_18_method_22_code 1 = .ok (.istore_n 3, 1) := by decide +kernel
theorem d1_2 : decode prog_18_method_22_code 2 = .ok (.iload_n 1, 1) := by decide +kernel
theorem d1_3 : decode prog_18_method_22_code 3 = .ok (.istore 4, 2) := by decide +kernel
theorem d1_5 : decode prog_18_method_22_code 5 = .ok (.iload 4, 2) := by decide +kernel
theorem d1_7 : decode prog_18_method_22_code 7 = .ok (.iload_n 2, 1) := by decide +kernel
theorem d1_8 : decode prog_18_method_22_code 8 = .ok (.if_icmp .ge 26, 3) := by decide +kernel
theorem d1_11 : decode prog_18_method_22_code 11 = .ok (.iload_n 3, 1) := by decide +kernel
theorem d1_12 : decode prog_18_method_22_code 12 = .ok (.ifCond .eq 22, 3) := by decide +kernel
theorem d1_15 : decode prog_18_method_22_code 15 = .ok (.aload_n 0, 1) := by decide +kernel
theorem d1_16 : decode prog_18_method_22_code 16 = .ok (.iload 4, 2) := by decide +kernel
theorem d1_18 : decode prog_18_method_22_code 18 = .ok (.baload, 1) := by decide +kernel
theorem d1_19 : decode prog_18_method_22_code 19 = .ok (.ifCond .lt 7, 3) := by decide +kernel
theorem d1_22 : decode prog_18_method_22_code 22 = .ok (.iconst 1, 1) := by decide +kernel
theorem d1_23 : decode prog_18_method_22_code 23 = .ok (.goto 4, 3) := by decide +kernel
theorem d1_26 : decode prog_18_method_22_code 26 = .ok (.iconst 0, 1) := by decide +kernel
theorem d1_27 : decode prog_18_method_22_code 27 = .ok (.istore_n 3, 1) := by decide +kernel
theorem d1_28 : decode prog_18_method_22_code 28 = .ok (.iinc 4 1, 3) := by decide +kernel
theorem d1_31 : decode prog_18_method_22_code 31 = .ok (.goto (-26), 3) := by decide +kernel
theorem d1_34 : decode prog_18_method_22_code 34 = .ok (.iload_n 3, 1) := by decide +kernel
theorem d1_35 : decode prog_18_method_22_code 35 = .ok (.ireturn, 1) := by decide +kernel
theorem pn1 : plainName "com/example/terseref/terseref/core/CborReader" = true := by first | (simp [plainName, overriddenIn]; done) | decide +kernel
theorem ef1 (m : MethodId) (x0 : Addr) (x1 : Int32) (x2 : Int32) : entryFrame m #[(.ref x0), (.int x1), (.int x2)] 5 = (mkF m 0 #[.val (.ref x0), .val (.int x1), .val (.int x2), .unset, .unset] []) := by first | (simp [entryFrame, mkF, argsToLocals, Value.category]; done) | rfl
def j1_27_s0 (x1 : Int32) (x2 : Int32) (v0 : Int32) (v1 : Int32) (v2 : Int32) (v3 : Int32) (ok : Int32) (i : Int32) : Int32 := (if (own_el v0 v1 v2 v3 i) < (0 : Int32) then (0 : Int32) else (1 : Int32))
def w1_28 (x1 : Int32) (x2 : Int32) (v0 : Int32) (v1 : Int32) (v2 : Int32) (v3 : Int32) (ok : Int32) (i : Int32) : Int32 := (i + (1 : Int32))
def r1 (x1 : Int32) (x2 : Int32) (v0 : Int32) (v1 : Int32) (v2 : Int32) (v3 : Int32) : Int32 := (own_asc v0 v1 v2 v3 x2 5 (1 : Int32) x1)
set_option maxRecDepth 65536 in
set_option maxHeartbeats 40000000 in
theorem rm1 (l : Launch) (Z : State) (a0 : Array Value) (hw : ∀ d ∈ tables_1, d.before a0 Z = true) (ws : List Jvm.Cond) (x0 : Addr) (x1 : Int32) (x2 : Int32) (kx : ClassId) (v0 : Int32) (v1 : Int32) (v2 : Int32) (v3 : Int32) (h0 : Heap) (n0 : Nat) (Z0 : n0 ≤ h0.size) (V_x0 : Arv Z h0 x0 kx .byte (4 : Int32) [(.int v0), (.int v1), (.int v2), (.int v3)] (.int (0 : Int32))) (p1 : ¬ (x1 < (0 : Int32))) (p2 : ¬ ((4 : Int32) < x2)) (p3 : x2.toInt < x1.toInt + (5 : Nat)) :
    MetFree l (⟨"com/example/terseref/terseref/core/CborReader", "isAscii", "([BII)Z"⟩ : MethodName) (head1 (Jvm.Cond.code (⟨"com/example/terseref/terseref/core/CborReader", "isAscii", "([BII)Z"⟩ : MethodName) prog_18_method_22_code 5 (some .boolean) :: ws) ({ frames := 0, cells := 0, slots := 0, locals := 0 } : Room)) (fun a U => a = #[(.ref x0), (.int x1), (.int x2)] ∧ Z.Warmed39 U.vm ∧ U.heap = h0) (fun _ _ _ _ _ => True) (fun _ U o U' => ∃ v L, o = .returned v ∧ (QP (some (.int (r1 x1 x2 v0 v1 v2 v3))) h0 n0) v U'.heap L ∧ FrameEnd U o U' L ({ frames := 0, cells := 0, slots := 0, locals := 0 } : Room).cells ({ frames := 0, cells := 0, slots := 0, locals := 0 } : Room).slots) := by
  refine MetFree.of_bodySF (plainFor_of_name pn1) hisR ?_
  intro p e s m args below meth c s₁ Bd hml0 hP hK
  obtain ⟨rfl, hZ, hh⟩ := hP
  have hx := Bd.exec
  have hby := Bd.bytes
  have hml : c.maxLocals = 5 := hml0
  have hlk : meth.locks = false := BodyLoose.notSynchronized Bd
  have hown : s.vm.findClass "com/example/terseref/terseref/core/CborReader" = some m.cls := findClass_of_methodNamed Bd.named
  have hnm := (name_of_methodNamed Bd.named Bd.method).1
  have hci : ∀ i v, (i, v) ∈ ([] : List (Nat × Int32)) → (Jvm.Cond.constant "com/example/terseref/terseref/core/CborReader" i v).before #[(.ref x0), (.int x1), (.int x2)] s = true := own_ci0
  have hcl : ∀ i v, (i, v) ∈ ([] : List (Nat × Int64)) → (Jvm.Cond.constantLong "com/example/terseref/terseref/core/CborReader" i v).before #[(.ref x0), (.int x1), (.int x2)] s = true := own_ci0
  have X0 : Stand p l e ({ frames := 0, cells := 0, slots := 0, locals := 0 } : Room) s m #[(.ref x0), (.int x1), (.int x2)] below meth c s₁ [] 0 0 := Stand.of_body Bd
  have e0 : s₁.heap = h0 := by rw [← hh, Bd.state]; rfl
  have N0 := Fr.nil n0
  show Goes p e below s (QP (some (.int (r1 x1 x2 v0 v1 v2 v3))) h0 n0) ({ frames := 0, cells := 0, slots := 0, locals := 0 } : Room).cells ({ frames := 0, cells := 0, slots := 0, locals := 0 } : Room).slots (s₁.setTop (entryFrame m #[(.ref x0), (.int x1), (.int x2)] 5))
  refine Goes.cast (ef1 m x0 x1 x2) ?_
  refine Goes.run X0 hx hown hci hcl hby (L := [(0, .iconst 1, 1), (1, .istore_n 3, 1), (2, .iload_n 1, 1), (3, .istore 4, 2)]) (by decide +kernel) rfl (g' := (mkF m 5 #[.val (.ref x0), .val (.int x1), .val (.int x2), .val (.int (1 : Int32)), .val (.int x1)] [])) rfl ?_
  have loop5 : ∀ (k : Nat) (ok i : Int32), (ok = 0 ∨ ok = 1) → ¬ (i < (0 : Int32)) → x2.toInt < i.toInt + k → Goes p e below s (QP (some (.int (own_asc v0 v1 v2 v3 x2 k ok i))) h0 n0) ({ frames := 0, cells := 0, slots := 0, locals := 0 } : Room).cells ({ frames := 0, cells := 0, slots := 0, locals := 0 } : Room).slots (s₁.setTop (mkF m 5 #[.val (.ref x0), .val (.int x1), .val (.int x2), .val (.int ok), .val (.int i)] [])) := by
    intro k
    induction k with
    | zero =>
      intro ok i hok hi hk
      refine Goes.run X0 hx hown hci hcl hby (L := [(5, .iload 4, 2), (7, .iload_n 2, 1)]) (by decide +kernel) rfl (g' := (mkF m 8 #[.val (.ref x0), .val (.int x1), .val (.int x2), .val (.int ok), .val (.int i)] [(.int x2), (.int i)])) rfl ?_
      have hc8_1 : ¬ (i < x2) := own_no hk
      refine Goes.st (B := s₁.setTop (mkF m 34 #[.val (.ref x0), .val (.int x1), .val (.int x2), .val (.int ok), .val (.int i)] [])) (fun t k => ?_) ?_
      · refine XS.icmpYes X0.here hx rfl (pc0 := 8) (pc' := 34) rfl (hb hby d1_8) rfl (flt hc8_1).2.1 (by decide) (by decide) ?_
        exact k
      refine Goes.run X0 hx hown hci hcl hby (L := [(34, .iload_n 3, 1)]) (by decide +kernel) rfl (g' := (mkF m 35 #[.val (.ref x0), .val (.int x1), .val (.int x2), .val (.int ok), .val (.int i)] [(.int ok)])) rfl ?_
      exact Goes.retB X0 hx hlk (t := .boolean) Bd.returns (by simp) (hb hby d1_35) (own_nar hok) ⟨congrArg (fun z => some (Value.int z)) (show own_asc v0 v1 v2 v3 x2 0 ok i = ok from rfl).symm, N0, e0⟩ (by decide) (by decide)
    | succ k ih =>
      intro ok i hok hi hk
      refine Goes.run X0 hx hown hci hcl hby (L := [(5, .iload 4, 2), (7, .iload_n 2, 1)]) (by decide +kernel) rfl (g' := (mkF m 8 #[.val (.ref x0), .val (.int x1), .val (.int x2), .val (.int ok), .val (.int i)] [(.int x2), (.int i)])) rfl ?_
      by_cases hc8_2 : i < x2
      · skip
        refine Goes.st (B := s₁.setTop (mkF m 11 #[.val (.ref x0), .val (.int x1), .val (.int x2), .val (.int ok), .val (.int i)] [])) (fun t k => ?_) ?_
        · refine XS.icmpNo X0.here hx rfl (hb hby d1_8) rfl (tlt hc8_2).2.1 ?_
          exact k
        refine Goes.run X0 hx hown hci hcl hby (L := [(11, .iload_n 3, 1)]) (by decide +kernel) rfl (g' := (mkF m 12 #[.val (.ref x0), .val (.int x1), .val (.int x2), .val (.int ok), .val (.int i)] [(.int ok)])) rfl ?_
        by_cases hc12_3 : ok = (0 : Int32)
        · skip
          refine Goes.st (B := s₁.setTop (mkF m 34 #[.val (.ref x0), .val (.int x1), .val (.int x2), .val (.int ok), .val (.int i)] [])) (fun t k => ?_) ?_
          · refine XS.ifYes X0.here hx rfl (pc0 := 12) (pc' := 34) rfl (hb hby d1_12) rfl ((if0 _ _).trans (teq hc12_3).1) (by decide) (by decide) ?_
            exact k
          refine Goes.run X0 hx hown hci hcl hby (L := [(34, .iload_n 3, 1)]) (by decide +kernel) rfl (g' := (mkF m 35 #[.val (.ref x0), .val (.int x1), .val (.int x2), .val (.int ok), .val (.int i)] [(.int ok)])) rfl ?_
          exact Goes.retB X0 hx hlk (t := .boolean) Bd.returns (by simp) (hb hby d1_35) (own_nar hok) ⟨congrArg (fun z => some (Value.int z)) (show own_asc v0 v1 v2 v3 x2 (k + 1) ok i = ok from ((if_pos hc8_2).trans (if_pos hc12_3))).symm, N0, e0⟩ (by decide) (by decide)
        · skip
          refine Goes.st (B := s₁.setTop (mkF m 15 #[.val (.ref x0), .val (.int x1), .val (.int x2), .val (.int ok), .val (.int i)] [])) (fun t k => ?_) ?_
          · refine XS.ifNo X0.here hx rfl (hb hby d1_12) rfl ((if0 _ _).trans (feq hc12_3).1) ?_
            exact k
          refine Goes.run X0 hx hown hci hcl hby (L := [(15, .aload_n 0, 1), (16, .iload 4, 2)]) (by decide +kernel) rfl (g' := (mkF m 18 #[.val (.ref x0), .val (.int x1), .val (.int x2), .val (.int ok), .val (.int i)] [(.int i), (.ref x0)])) rfl ?_
          obtain ⟨cl4, Ar4, q4, S4, M4, Hs4, G4⟩ := id V_x0
          have hin4 : ¬ (i < 0 ∨ cl4.slots.size ≤ (i).toNatClampNeg) := inb_of S4 ⟨hi, (own_lt4 hc8_2 p2)⟩
          have hat4 : cl4.slots[(i).toNatClampNeg]? = some (.int (own_el v0 v1 v2 v3 i)) := Hs4.at hin4 (own_get v0 v1 v2 v3 hi (own_lt4 hc8_2 p2))
          refine Goes.st (B := s₁.setTop (mkF m 19 #[.val (.ref x0), .val (.int x1), .val (.int x2), .val (.int ok), .val (.int i)] [(.int (own_el v0 v1 v2 v3 i))])) (X0.baloadBytes hx (j := i) (v := (.int (own_el v0 v1 v2 v3 i))) (by rw [e0]; exact Ar4.1) (State.isArrayOf_alike hZ.alike Ar4.2.1) Ar4.2.2 hin4 hat4 (g := (mkF m 18 #[.val (.ref x0), .val (.int x1), .val (.int x2), .val (.int ok), .val (.int i)] [(.int i), (.ref x0)])) rfl rfl (hb hby d1_18)) ?_
          have jn27_6 : Goes p e below s (QP (some (.int (own_asc v0 v1 v2 v3 x2 (k + 1) ok i))) h0 n0) ({ frames := 0, cells := 0, slots := 0, locals := 0 } : Room).cells ({ frames := 0, cells := 0, slots := 0, locals := 0 } : Room).slots (s₁.setTop (mkF m 27 #[.val (.ref x0), .val (.int x1), .val (.int x2), .val (.int ok), .val (.int i)] [(.int (j1_27_s0 x1 x2 v0 v1 v2 v3 ok i))])) := by
            refine Goes.run X0 hx hown hci hcl hby (L := [(27, .istore_n 3, 1), (28, .iinc 4 1, 3), (31, .goto (-26), 3)]) (by decide +kernel) rfl (g' := (mkF m 5 #[.val (.ref x0), .val (.int x1), .val (.int x2), .val (.int (j1_27_s0 x1 x2 v0 v1 v2 v3 ok i)), .val (.int (w1_28 x1 x2 v0 v1 v2 v3 ok i))] [])) rfl ?_
            have q := own_up hc8_2 p2 hi hk
            have e : own_asc v0 v1 v2 v3 x2 (k + 1) ok i = own_asc v0 v1 v2 v3 x2 k (j1_27_s0 x1 x2 v0 v1 v2 v3 ok i) (w1_28 x1 x2 v0 v1 v2 v3 ok i) := ((if_pos hc8_2).trans (if_neg hc12_3))
            rw [e]
            exact ih _ _ (own_01 _) q.1 q.2
          by_cases hc19_5 : (own_el v0 v1 v2 v3 i) < (0 : Int32)
          · skip
            refine Goes.st (B := s₁.setTop (mkF m 26 #[.val (.ref x0), .val (.int x1), .val (.int x2), .val (.int ok), .val (.int i)] [])) (fun t k => ?_) ?_
            · refine XS.ifYes X0.here hx rfl (pc0 := 19) (pc' := 26) rfl (hb hby d1_19) rfl ((if0 _ _).trans (tlt hc19_5).1) (by decide) (by decide) ?_
              exact k
            refine Goes.run X0 hx hown hci hcl hby (L := [(26, .iconst 0, 1)]) (by decide +kernel) rfl (g' := (mkF m 27 #[.val (.ref x0), .val (.int x1), .val (.int x2), .val (.int ok), .val (.int i)] [(.int (0 : Int32))])) rfl ?_
            have q := jn27_6
            rw [show (j1_27_s0 x1 x2 v0 v1 v2 v3 ok i) = (0 : Int32) from (if_pos hc19_5)] at q
            exact q
          · skip
            refine Goes.st (B := s₁.setTop (mkF m 22 #[.val (.ref x0), .val (.int x1), .val (.int x2), .val (.int ok), .val (.int i)] [])) (fun t k => ?_) ?_
            · refine XS.ifNo X0.here hx rfl (hb hby d1_19) rfl ((if0 _ _).trans (flt hc19_5).1) ?_
              exact k
            refine Goes.run X0 hx hown hci hcl hby (L := [(22, .iconst 1, 1), (23, .goto 4, 3)]) (by decide +kernel) rfl (g' := (mkF m 27 #[.val (.ref x0), .val (.int x1), .val (.int x2), .val (.int ok), .val (.int i)] [(.int (1 : Int32))])) rfl ?_
            have q := jn27_6
            rw [show (j1_27_s0 x1 x2 v0 v1 v2 v3 ok i) = (1 : Int32) from (if_neg hc19_5)] at q
            exact q
      · skip
        refine Goes.st (B := s₁.setTop (mkF m 34 #[.val (.ref x0), .val (.int x1), .val (.int x2), .val (.int ok), .val (.int i)] [])) (fun t k => ?_) ?_
        · refine XS.icmpYes X0.here hx rfl (pc0 := 8) (pc' := 34) rfl (hb hby d1_8) rfl (flt hc8_2).2.1 (by decide) (by decide) ?_
          exact k
        refine Goes.run X0 hx hown hci hcl hby (L := [(34, .iload_n 3, 1)]) (by decide +kernel) rfl (g' := (mkF m 35 #[.val (.ref x0), .val (.int x1), .val (.int x2), .val (.int ok), .val (.int i)] [(.int ok)])) rfl ?_
        exact Goes.retB X0 hx hlk (t := .boolean) Bd.returns (by simp) (hb hby d1_35) (own_nar hok) ⟨congrArg (fun z => some (Value.int z)) (show own_asc v0 v1 v2 v3 x2 (k + 1) ok i = ok from (if_neg hc8_2)).symm, N0, e0⟩ (by decide) (by decide)
  exact loop5 5 (1 : Int32) x1 (Or.inr rfl) p1 p3
theorem pn0 : plainName "com/example/terseref/terseref/core/CborReaderIsAsciiPinLaw" = true := by first | (simp [plainName, overriddenIn]; done) | decide +kernel
theorem pd0_0 : parseMethodDescriptor "([BIII)Z" = some ⟨[(.array .byte), .int, .int, .int], some .boolean⟩ := by decide +kernel
theorem pd0_1 : parseMethodDescriptor "([BII)Z" = some ⟨[(.array .byte), .int, .int], some .boolean⟩ := by decide +kernel
theorem ef0 (m : MethodId) (x0 : Int32) (x1 : Int32) (x2 : Int32) : entryFrame m #[(.int x0), (.int x1), (.int x2)] maxLocals = (mkF m 0 #[.val (.int x0), .val (.int x1), .val (.int x2), .unset, .unset, .unset, .unset] []) := by first | (simp [entryFrame, mkF, argsToLocals, Value.category, maxLocals]; done) | rfl
def w0_8 (x0 : Int32) (x1 : Int32) (x2 : Int32) : Int32 := (nar .byte (x0.toInt8.toInt32))
def w0_16 (x0 : Int32) (x1 : Int32) (x2 : Int32) : Int32 := (nar .byte (((x0.toUInt32 >>> ((8 : Int32) &&& 31).toUInt32).toInt32).toInt8.toInt32))
def w0_24 (x0 : Int32) (x1 : Int32) (x2 : Int32) : Int32 := (nar .byte (((x0.toUInt32 >>> ((16 : Int32) &&& 31).toUInt32).toInt32).toInt8.toInt32))
def w0_32 (x0 : Int32) (x1 : Int32) (x2 : Int32) : Int32 := (nar .byte (((x0.toUInt32 >>> ((24 : Int32) &&& 31).toUInt32).toInt32).toInt8.toInt32))
def w0_38l (x0 : Int32) (x1 : Int32) (x2 : Int32) : Int32 := (x1 &&& (2147483647 : Int32))
def w0_39 (x0 : Int32) (x1 : Int32) (x2 : Int32) : Int32 := ((w0_38l x0 x1 x2) - ((w0_38l x0 x1 x2) / (5 : Int32)) * (5 : Int32))
def w0_46l (x0 : Int32) (x1 : Int32) (x2 : Int32) : Int32 := (x2 &&& (2147483647 : Int32))
def w0_47 (x0 : Int32) (x1 : Int32) (x2 : Int32) : Int32 := ((w0_46l x0 x1 x2) - ((w0_46l x0 x1 x2) / (5 : Int32)) * (5 : Int32))
def j0_102_s0 (x0 : Int32) (x1 : Int32) (x2 : Int32) : Int32 := (if (r20 (w0_39 x0 x1 x2) (w0_47 x0 x1 x2) (w0_8 x0 x1 x2) (w0_16 x0 x1 x2) (w0_24 x0 x1 x2) (w0_32 x0 x1 x2)) = (0 : Int32) then (if (r21 (w0_39 x0 x1 x2) (w0_47 x0 x1 x2) (w0_8 x0 x1 x2) (w0_16 x0 x1 x2) (w0_24 x0 x1 x2) (w0_32 x0 x1 x2)) = (0 : Int32) then (if (r22 (w0_39 x0 x1 x2) (w0_47 x0 x1 x2) (w0_8 x0 x1 x2) (w0_16 x0 x1 x2) (w0_24 x0 x1 x2) (w0_32 x0 x1 x2)) = (0 : Int32) then (if (r23 (w0_39 x0 x1 x2) (w0_47 x0 x1 x2) (w0_8 x0 x1 x2) (w0_16 x0 x1 x2) (w0_24 x0 x1 x2) (w0_32 x0 x1 x2)) = (0 : Int32) then (1 : Int32) else (0 : Int32)) else (0 : Int32)) else (0 : Int32)) else (0 : Int32))
def r0 (x0 : Int32) (x1 : Int32) (x2 : Int32) : Int32 := (if (r1 (w0_39 x0 x1 x2) (w0_47 x0 x1 x2) (w0_8 x0 x1 x2) (w0_16 x0 x1 x2) (w0_24 x0 x1 x2) (w0_32 x0 x1 x2)) = (j0_102_s0 x0 x1 x2) then (1 : Int32) else (0 : Int32))
theorem own_five (x : Int32) : ∃ n : Nat, n < 5 ∧ ((x &&& (2147483647 : Int32)) - ((x &&& (2147483647 : Int32)) / (5 : Int32)) * (5 : Int32)) = Int32.ofNat n := by
  obtain ⟨A, m0, a0, -, -⟩ := own_m32 x (2147483647 : Int32) (k := 31) (by decide) (by decide)
  obtain ⟨n, hn, e, -⟩ := own_nat32 (own_r32 m0 (show (5 : Int32).toInt = 5 by decide) a0) (by omega) (N := 5) (by omega)
  exact ⟨n, hn, e⟩
theorem own_f (x0 x1 x2 : Int32) : ∃ n : Nat, n < 5 ∧ w0_39 x0 x1 x2 = Int32.ofNat n := own_five x1
theorem own_t (x0 x1 x2 : Int32) : ∃ n : Nat, n < 5 ∧ w0_47 x0 x1 x2 = Int32.ofNat n := own_five x2
theorem own_p1 (x0 x1 x2 : Int32) : ¬ (w0_39 x0 x1 x2) < (0 : Int32) := by
  obtain ⟨n, hn, e⟩ := own_f x0 x1 x2
  rw [e, Int32.lt_iff_toInt_lt, Int32.toInt_ofNat_of_lt (by omega), show (0 : Int32).toInt = 0 by decide]; omega
theorem own_p2 (x0 x1 x2 : Int32) : ¬ (4 : Int32) < (w0_47 x0 x1 x2) := by
  obtain ⟨n, hn, e⟩ := own_t x0 x1 x2
  rw [e, Int32.lt_iff_toInt_lt, Int32.toInt_ofNat_of_lt (by omega), show (4 : Int32).toInt = 4 by decide]; omega
theorem own_p3 (x0 x1 x2 : Int32) : (w0_47 x0 x1 x2).toInt < (w0_39 x0 x1 x2).toInt + (5 : Nat) := by
  obtain ⟨n, hn, e⟩ := own_f x0 x1 x2
  obtain ⟨k, hk, e'⟩ := own_t x0 x1 x2
  rw [e, e', Int32.toInt_ofNat_of_lt (by omega), Int32.toInt_ofNat_of_lt (by omega)]; omega
def own_exp (f t v0 v1 v2 v3 : Int32) : Int32 := (if (r20 f t v0 v1 v2 v3) = (0 : Int32) then (if (r21 f t v0 v1 v2 v3) = (0 : Int32) then (if (r22 f t v0 v1 v2 v3) = (0 : Int32) then (if (r23 f t v0 v1 v2 v3) = (0 : Int32) then (1 : Int32) else (0 : Int32)) else (0 : Int32)) else (0 : Int32)) else (0 : Int32))
def own_bit (b : Bool) : Int32 := if b then -1 else 0
def own_ascB (b0 b1 b2 b3 : Bool) (to : Int32) : Nat → Int32 → Int32 → Int32
  | 0, ok, _ => ok
  | k + 1, ok, i => if i < to then (if ok = (0 : Int32) then ok else own_ascB b0 b1 b2 b3 to k (if (if i = 0 then b0 else if i = 1 then b1 else if i = 2 then b2 else b3) = true then (0 : Int32) else (1 : Int32)) (i + (1 : Int32))) else ok
def own_badB (f t i : Int32) (b : Bool) : Int32 := (if i < f then (0 : Int32) else (if i < t then (if b = true then (1 : Int32) else (0 : Int32)) else (0 : Int32)))
def own_expB (f t : Int32) (b0 b1 b2 b3 : Bool) : Int32 := (if (own_badB f t 0 b0) = (0 : Int32) then (if (own_badB f t 1 b1) = (0 : Int32) then (if (own_badB f t 2 b2) = (0 : Int32) then (if (own_badB f t 3 b3) = (0 : Int32) then (1 : Int32) else (0 : Int32)) else (0 : Int32)) else (0 : Int32)) else (0 : Int32))
theorem own_tab : ∀ (f t : Fin 5) (b0 b1 b2 b3 : Bool), own_ascB b0 b1 b2 b3 (Int32.ofNat t.val) 5 1 (Int32.ofNat f.val) = own_expB (Int32.ofNat f.val) (Int32.ofNat t.val) b0 b1 b2 b3 := by decide +kernel
theorem own_ascE (v0 v1 v2 v3 to : Int32) : ∀ (k : Nat) (ok i : Int32), own_asc v0 v1 v2 v3 to k ok i = own_ascB (decide (v0 < 0)) (decide (v1 < 0)) (decide (v2 < 0)) (decide (v3 < 0)) to k ok i := by
  intro k
  induction k with
  | zero => intro ok i; rfl
  | succ k ih =>
    intro ok i
    have e : (own_el v0 v1 v2 v3 i < (0 : Int32)) ↔ (if i = 0 then decide (v0 < 0) else if i = 1 then decide (v1 < 0) else if i = 2 then decide (v2 < 0) else decide (v3 < 0)) = true := by
      unfold own_el
      by_cases h0 : i = 0
      · simp [h0]
      · by_cases h1 : i = 1
        · simp [h1]
        · by_cases h2 : i = 2
          · simp [h2]
          · simp [h0, h1, h2]
    show (if i < to then (if ok = (0 : Int32) then ok else own_asc v0 v1 v2 v3 to k (if own_el v0 v1 v2 v3 i < (0 : Int32) then (0 : Int32) else (1 : Int32)) (i + (1 : Int32))) else ok) = (if i < to then (if ok = (0 : Int32) then ok else own_ascB _ _ _ _ to k (if _ = true then (0 : Int32) else (1 : Int32)) (i + (1 : Int32))) else ok)
    simp only [ih, e]
theorem own_expE (f t v0 v1 v2 v3 : Int32) : own_exp f t v0 v1 v2 v3 = own_expB f t (decide (v0 < 0)) (decide (v1 < 0)) (decide (v2 < 0)) (decide (v3 < 0)) := by
  unfold own_exp own_expB r20 r21 r22 r23 own_badB
  simp only [decide_eq_true_eq]
theorem law_true (x0 x1 x2 : Int32) : r0 x0 x1 x2 = 1 := by
  obtain ⟨n, hn, e⟩ := own_f x0 x1 x2
  obtain ⟨k, hk, e'⟩ := own_t x0 x1 x2
  refine if_pos ?_
  show own_asc _ _ _ _ (w0_47 x0 x1 x2) 5 1 (w0_39 x0 x1 x2) = own_exp (w0_39 x0 x1 x2) (w0_47 x0 x1 x2) _ _ _ _
  rw [own_ascE, own_expE, e, e']
  exact own_tab ⟨n, hn⟩ ⟨k, hk⟩ _ _ _ _
set_option maxRecDepth 65536 in
set_option maxHeartbeats 40000000 in
theorem rm0 (l : Launch) (Z : State) (a0 : Array Value) (hw : ∀ d ∈ tables_1, d.before a0 Z = true) (ws : List Jvm.Cond) (x0 : Int32) (x1 : Int32) (x2 : Int32) (h0 : Heap) (n0 : Nat) (Z0 : n0 ≤ h0.size) :
    MetFree l x (head1 (Jvm.Cond.code x code maxLocals ret :: ws) room_1) (fun a U => a = #[(.int x0), (.int x1), (.int x2)] ∧ Z.Warmed39 U.vm ∧ U.heap = h0) (fun _ _ _ _ _ => True) (fun _ U o U' => ∃ v L, o = .returned v ∧ (QL (some (.int (r0 x0 x1 x2))) n0) v U'.heap L ∧ FrameEnd U o U' L room_1.cells room_1.slots) := by
  refine MetFree.of_bodySF (plainFor_of_name pn0) hisR ?_
  intro p e s m args below meth c s₁ Bd hml0 hP hK
  obtain ⟨rfl, hZ, hh⟩ := hP
  have hx := Bd.exec
  have hby := Bd.bytes
  have hml : c.maxLocals = 7 := hml0
  have hlk : meth.locks = false := BodyLoose.notSynchronized Bd
  have hown : s.vm.findClass "com/example/terseref/terseref/core/CborReaderIsAsciiPinLaw" = some m.cls := findClass_of_methodNamed Bd.named
  have hnm := (name_of_methodNamed Bd.named Bd.method).1
  have hci : ∀ i v, (i, v) ∈ ([(7, 2147483647)] : List (Nat × Int32)) → (Jvm.Cond.constant "com/example/terseref/terseref/core/CborReaderIsAsciiPinLaw" i v).before #[(.int x0), (.int x1), (.int x2)] s = true := (own_ciS (mvT hZ (hw _ (List.mem_of_getElem? (i := 1) rfl))) own_ci0)
  have hcl : ∀ i v, (i, v) ∈ ([] : List (Nat × Int64)) → (Jvm.Cond.constantLong "com/example/terseref/terseref/core/CborReaderIsAsciiPinLaw" i v).before #[(.int x0), (.int x1), (.int x2)] s = true := own_ci0
  have X0 : Stand p l e room_1 s m #[(.int x0), (.int x1), (.int x2)] below meth c s₁ [] 0 0 := Stand.of_body Bd
  have e0 : s₁.heap = h0 := by rw [← hh, Bd.state]; rfl
  have N0 := Fr.nil n0
  show Goes p e below s (QL (some (.int (r0 x0 x1 x2))) n0) room_1.cells room_1.slots (s₁.setTop (entryFrame m #[(.int x0), (.int x1), (.int x2)] maxLocals))
  refine Goes.cast (ef0 m x0 x1 x2) ?_
  refine Goes.run X0 hx hown hci hcl hby (L := [(0, .iconst 4, 1)]) (by decide +kernel) rfl (g' := (mkF m 1 #[.val (.int x0), .val (.int x1), .val (.int x2), .unset, .unset, .unset, .unset] [(.int (4 : Int32))])) rfl ?_
  obtain ⟨T1, h1, k1, X1, e1, E1, A1, B1, st1⟩ := newPE X0 hx hZ (hw _ (List.mem_of_getElem? (i := 0) rfl)) e0 (g := (mkF m 1 #[.val (.int x0), .val (.int x1), .val (.int x2), .unset, .unset, .unset, .unset] [(.int (4 : Int32))])) rfl (hb hby at_1) rfl (by decide) (cap := 4) (by decide) (by decide) (by decide) (by decide) (ad := "[B") (by decide)
  obtain ⟨b1, g1⟩ : ∃ z, z = h0.size := ⟨_, rfl⟩
  rw [← g1] at A1 B1 st1
  have g_b1 : n0 ≤ b1 := Nat.le_trans Z0 (Nat.le_of_eq g1.symm)
  have Zn1 : n0 ≤ h1.size := Nat.le_trans Z0 E1.1
  have E_b1 : Exa Z h1 b1 "[B" := B1
  have V_b1 : Arv Z h1 b1 k1 .byte (4 : Int32) [(.int (0 : Int32)), (.int (0 : Int32)), (.int (0 : Int32)), (.int (0 : Int32))] (.int (0 : Int32)) := (Arv.new A1 (by decide)).pad (pad_rep [] (.int (0 : Int32)) 4)
  refine Goes.st (B := T1.setTop (mkF m 3 #[.val (.int x0), .val (.int x1), .val (.int x2), .unset, .unset, .unset, .unset] [(.ref b1)])) st1 ?_
  refine Goes.run X1 hx hown hci hcl hby (L := [(3, .astore_n 3, 1), (4, .aload_n 3, 1), (5, .iconst 0, 1), (6, .iload_n 0, 1), (7, .i2b, 1)]) (by decide +kernel) rfl (g' := (mkF m 8 #[.val (.int x0), .val (.int x1), .val (.int x2), .val (.ref b1), .unset, .unset, .unset] [(.int (x0.toInt8.toInt32)), (.int (0 : Int32)), (.ref b1)])) rfl ?_
  obtain ⟨cl2, Ar2, q2, S2, M2, Hs2, G2⟩ := id V_b1
  have hin2 : ¬ ((0 : Int32) < 0 ∨ cl2.slots.size ≤ ((0 : Int32)).toNatClampNeg) := inb_of S2 ⟨(by decide), (by decide)⟩
  obtain ⟨T2, h2, X2, e2, W2, st2⟩ := stB X1 hx hZ e1 Ar2 (j := (0 : Int32)) hin2 (g := (mkF m 8 #[.val (.int x0), .val (.int x1), .val (.int x2), .val (.ref b1), .unset, .unset, .unset] [(.int (x0.toInt8.toInt32)), (.int (0 : Int32)), (.ref b1)])) rfl rfl (hb hby at_8)
  have E_b1 := E_b1.wr W2
  have Zn2 : n0 ≤ h2.size := Nat.le_trans Zn1 (Keep.of_wr W2).1
  have N2 := Fr.snoc X2 N0 g_b1
  have V_b1 : Arv Z h2 b1 k1 .byte (4 : Int32) [(.int (w0_8 x0 x1 x2)), (.int (0 : Int32)), (.int (0 : Int32)), (.int (0 : Int32))] (.int (0 : Int32)) := Arv.set Ar2 q2 S2 M2 Hs2 G2 (fits_nar_byte _) W2 0 rfl (Nat.le_of_ble_eq_true rfl)
  refine Goes.st (B := T2.setTop (mkF m 9 #[.val (.int x0), .val (.int x1), .val (.int x2), .val (.ref b1), .unset, .unset, .unset] [])) st2 ?_
  refine Goes.run X2 hx hown hci hcl hby (L := [(9, .aload_n 3, 1), (10, .iconst 1, 1), (11, .iload_n 0, 1), (12, .bipush 8, 2), (14, .iushr, 1), (15, .i2b, 1)]) (by decide +kernel) rfl (g' := (mkF m 16 #[.val (.int x0), .val (.int x1), .val (.int x2), .val (.ref b1), .unset, .unset, .unset] [(.int (((x0.toUInt32 >>> ((8 : Int32) &&& 31).toUInt32).toInt32).toInt8.toInt32)), (.int (1 : Int32)), (.ref b1)])) rfl ?_
  obtain ⟨cl3, Ar3, q3, S3, M3, Hs3, G3⟩ := id V_b1
  have hin3 : ¬ ((1 : Int32) < 0 ∨ cl3.slots.size ≤ ((1 : Int32)).toNatClampNeg) := inb_of S3 ⟨(by decide), (by decide)⟩
  obtain ⟨T3, h3, X3, e3, W3, st3⟩ := stB X2 hx hZ e2 Ar3 (j := (1 : Int32)) hin3 (g := (mkF m 16 #[.val (.int x0), .val (.int x1), .val (.int x2), .val (.ref b1), .unset, .unset, .unset] [(.int (((x0.toUInt32 >>> ((8 : Int32) &&& 31).toUInt32).toInt32).toInt8.toInt32)), (.int (1 : Int32)), (.ref b1)])) rfl rfl (hb hby at_16)
  have E_b1 := E_b1.wr W3
  have Zn3 : n0 ≤ h3.size := Nat.le_trans Zn2 (Keep.of_wr W3).1
  have N3 := Fr.snoc X3 N2 g_b1
  have V_b1 : Arv Z h3 b1 k1 .byte (4 : Int32) [(.int (w0_8 x0 x1 x2)), (.int (w0_16 x0 x1 x2)), (.int (0 : Int32)), (.int (0 : Int32))] (.int (0 : Int32)) := Arv.set Ar3 q3 S3 M3 Hs3 G3 (fits_nar_byte _) W3 1 rfl (Nat.le_of_ble_eq_true rfl)
  refine Goes.st (B := T3.setTop (mkF m 17 #[.val (.int x0), .val (.int x1), .val (.int x2), .val (.ref b1), .unset, .unset, .unset] [])) st3 ?_
  refine Goes.run X3 hx hown hci hcl hby (L := [(17, .aload_n 3, 1), (18, .iconst 2, 1), (19, .iload_n 0, 1), (20, .bipush 16, 2), (22, .iushr, 1), (23, .i2b, 1)]) (by decide +kernel) rfl (g' := (mkF m 24 #[.val (.int x0), .val (.int x1), .val (.int x2), .val (.ref b1), .unset, .unset, .unset] [(.int (((x0.toUInt32 >>> ((16 : Int32) &&& 31).toUInt32).toInt32).toInt8.toInt32)), (.int (2 : Int32)), (.ref b1)])) rfl ?_
  obtain ⟨cl4, Ar4, q4, S4, M4, Hs4, G4⟩ := id V_b1
  have hin4 : ¬ ((2 : Int32) < 0 ∨ cl4.slots.size ≤ ((2 : Int32)).toNatClampNeg) := inb_of S4 ⟨(by decide), (by decide)⟩
  obtain ⟨T4, h4, X4, e4, W4, st4⟩ := stB X3 hx hZ e3 Ar4 (j := (2 : Int32)) hin4 (g := (mkF m 24 #[.val (.int x0), .val (.int x1), .val (.int x2), .val (.ref b1), .unset, .unset, .unset] [(.int (((x0.toUInt32 >>> ((16 : Int32) &&& 31).toUInt32).toInt32).toInt8.toInt32)), (.int (2 : Int32)), (.ref b1)])) rfl rfl (hb hby at_24)
  have E_b1 := E_b1.wr W4
  have Zn4 : n0 ≤ h4.size := Nat.le_trans Zn3 (Keep.of_wr W4).1
  have N4 := Fr.snoc X4 N3 g_b1
  have V_b1 : Arv Z h4 b1 k1 .byte (4 : Int32) [(.int (w0_8 x0 x1 x2)), (.int (w0_16 x0 x1 x2)), (.int (w0_24 x0 x1 x2)), (.int (0 : Int32))] (.int (0 : Int32)) := Arv.set Ar4 q4 S4 M4 Hs4 G4 (fits_nar_byte _) W4 2 rfl (Nat.le_of_ble_eq_true rfl)
  refine Goes.st (B := T4.setTop (mkF m 25 #[.val (.int x0), .val (.int x1), .val (.int x2), .val (.ref b1), .unset, .unset, .unset] [])) st4 ?_
  refine Goes.run X4 hx hown hci hcl hby (L := [(25, .aload_n 3, 1), (26, .iconst 3, 1), (27, .iload_n 0, 1), (28, .bipush 24, 2), (30, .iushr, 1), (31, .i2b, 1)]) (by decide +kernel) rfl (g' := (mkF m 32 #[.val (.int x0), .val (.int x1), .val (.int x2), .val (.ref b1), .unset, .unset, .unset] [(.int (((x0.toUInt32 >>> ((24 : Int32) &&& 31).toUInt32).toInt32).toInt8.toInt32)), (.int (3 : Int32)), (.ref b1)])) rfl ?_
  obtain ⟨cl5, Ar5, q5, S5, M5, Hs5, G5⟩ := id V_b1
  have hin5 : ¬ ((3 : Int32) < 0 ∨ cl5.slots.size ≤ ((3 : Int32)).toNatClampNeg) := inb_of S5 ⟨(by decide), (by decide)⟩
  obtain ⟨T5, h5, X5, e5, W5, st5⟩ := stB X4 hx hZ e4 Ar5 (j := (3 : Int32)) hin5 (g := (mkF m 32 #[.val (.int x0), .val (.int x1), .val (.int x2), .val (.ref b1), .unset, .unset, .unset] [(.int (((x0.toUInt32 >>> ((24 : Int32) &&& 31).toUInt32).toInt32).toInt8.toInt32)), (.int (3 : Int32)), (.ref b1)])) rfl rfl (hb hby at_32)
  have E_b1 := E_b1.wr W5
  have Zn5 : n0 ≤ h5.size := Nat.le_trans Zn4 (Keep.of_wr W5).1
  have N5 := Fr.snoc X5 N4 g_b1
  have V_b1 : Arv Z h5 b1 k1 .byte (4 : Int32) [(.int (w0_8 x0 x1 x2)), (.int (w0_16 x0 x1 x2)), (.int (w0_24 x0 x1 x2)), (.int (w0_32 x0 x1 x2))] (.int (0 : Int32)) := Arv.set Ar5 q5 S5 M5 Hs5 G5 (fits_nar_byte _) W5 3 rfl (Nat.le_of_ble_eq_true rfl)
  refine Goes.st (B := T5.setTop (mkF m 33 #[.val (.int x0), .val (.int x1), .val (.int x2), .val (.ref b1), .unset, .unset, .unset] [])) st5 ?_
  refine Goes.run X5 hx hown hci hcl hby (L := [(33, .iload_n 1, 1), (34, .ldc 7, 2), (36, .iand, 1), (37, .iconst 5, 1), (38, .irem, 1), (39, .istore 4, 2)]) (by decide +kernel) rfl (g' := (mkF m 41 #[.val (.int x0), .val (.int x1), .val (.int x2), .val (.ref b1), .val (.int (w0_39 x0 x1 x2)), .unset, .unset] [])) rfl ?_
  refine Goes.run X5 hx hown hci hcl hby (L := [(41, .iload_n 2, 1), (42, .ldc 7, 2), (44, .iand, 1), (45, .iconst 5, 1), (46, .irem, 1), (47, .istore 5, 2)]) (by decide +kernel) rfl (g' := (mkF m 49 #[.val (.int x0), .val (.int x1), .val (.int x2), .val (.ref b1), .val (.int (w0_39 x0 x1 x2)), .val (.int (w0_47 x0 x1 x2)), .unset] [])) rfl ?_
  refine Goes.run X5 hx hown hci hcl hby (L := [(49, .aload_n 3, 1), (50, .iload 4, 2), (52, .iload 5, 2), (54, .iconst 0, 1)]) (by decide +kernel) rfl (g' := (mkF m 55 #[.val (.int x0), .val (.int x1), .val (.int x2), .val (.ref b1), .val (.int (w0_39 x0 x1 x2)), .val (.int (w0_47 x0 x1 x2)), .unset] [(.int (0 : Int32)), (.int (w0_47 x0 x1 x2)), (.int (w0_39 x0 x1 x2)), (.ref b1)])) rfl ?_
  obtain ⟨_, _, ⟨T6, L6, k6, n6⟩, -, X6, ⟨Lc6, hQ6, l6, y6, z6⟩, st6⟩ := Jvm.LawKit.callS X5 hx (y := (⟨"com/example/terseref/terseref/core/CborReaderIsAsciiPinLaw", "bad", "([BIII)Z"⟩ : MethodName)) hown (mvT hZ (hw _ (List.mem_of_getElem? (i := 2) rfl))) (mvT hZ (hw _ (List.mem_of_getElem? (i := 3) rfl))) (mvT hZ (hw _ (List.mem_of_getElem? (i := 4) rfl))) (mvT hZ (hw _ (List.mem_of_getElem? (i := 5) rfl))) (by decide) (backOf (W := 0) (rm20 l Z a0 hw [] b1 (w0_39 x0 x1 x2) (w0_47 x0 x1 x2) k1 (w0_8 x0 x1 x2) (w0_16 x0 x1 x2) (w0_24 x0 x1 x2) (w0_32 x0 x1 x2) h5 n0 Zn5 V_b1) hZ (hw _ (List.mem_of_getElem? (i := 5) rfl)) (hw _ (List.mem_of_getElem? (i := 4) rfl)) (by decide) (by decide)) (g := (mkF m 55 #[.val (.int x0), .val (.int x1), .val (.int x2), .val (.ref b1), .val (.int (w0_39 x0 x1 x2)), .val (.int (w0_47 x0 x1 x2)), .unset] [(.int (0 : Int32)), (.int (w0_47 x0 x1 x2)), (.int (w0_39 x0 x1 x2)), (.ref b1)])) rfl (by rw [hml]; rfl) (argsL := [(.ref b1), (.int (w0_39 x0 x1 x2)), (.int (w0_47 x0 x1 x2)), (.int (0 : Int32))]) (rest := []) (lenOf pd0_0 rfl) rfl (by show 2 * 0 + _ ≤ _; exact Nat.le_of_eq rfl) (hb hby at_55) (fun _ _ => ⟨rfl, e5, (by decide : 1 + 0 ≤ _), (by decide : 4 + 0 ≤ _)⟩)
  dsimp only [Pt.U, Pt.locs, Pt.cells, Pt.slots] at X6 l6 y6 z6 st6 hQ6
  subst l6 y6 z6
  obtain ⟨rfl, N6q, e6⟩ := hQ6
  have N6 := Fr.app N5 N6q
  refine Goes.st (B := T6.setTop (mkF m 58 #[.val (.int x0), .val (.int x1), .val (.int x2), .val (.ref b1), .val (.int (w0_39 x0 x1 x2)), .val (.int (w0_47 x0 x1 x2)), .unset] [(.int (r20 (w0_39 x0 x1 x2) (w0_47 x0 x1 x2) (w0_8 x0 x1 x2) (w0_16 x0 x1 x2) (w0_24 x0 x1 x2) (w0_32 x0 x1 x2)))])) st6 ?_
  have jn102_14 : ∀ (T15 : State) (L15 : List Loc) (X15 : Stand p l e room_1 s m #[(.int x0), (.int x1), (.int x2)] below meth c T15 L15 1 4) (e15 : T15.heap = h5) (N15 : Fr n0 L15), Goes p e below s (QL (some (.int (r0 x0 x1 x2))) n0) room_1.cells room_1.slots (T15.setTop (mkF m 102 #[.val (.int x0), .val (.int x1), .val (.int x2), .val (.ref b1), .val (.int (w0_39 x0 x1 x2)), .val (.int (w0_47 x0 x1 x2)), .unset] [(.int (j0_102_s0 x0 x1 x2))])) := by
    intro T15 L15 X15 e15 N15
    refine Goes.run X15 hx hown hci hcl hby (L := [(102, .istore 6, 2), (104, .aload_n 3, 1), (105, .iload 4, 2), (107, .iload 5, 2)]) (by decide +kernel) rfl (g' := (mkF m 109 #[.val (.int x0), .val (.int x1), .val (.int x2), .val (.ref b1), .val (.int (w0_39 x0 x1 x2)), .val (.int (w0_47 x0 x1 x2)), .val (.int (j0_102_s0 x0 x1 x2))] [(.int (w0_47 x0 x1 x2)), (.int (w0_39 x0 x1 x2)), (.ref b1)])) rfl ?_
    obtain ⟨_, _, ⟨T16, L16, k16, n16⟩, -, X16, ⟨Lc16, hQ16, l16, y16, z16⟩, st16⟩ := Jvm.LawKit.callS X15 hx (y := (⟨"com/example/terseref/terseref/core/CborReader", "isAscii", "([BII)Z"⟩ : MethodName)) hown (mvT hZ (hw _ (List.mem_of_getElem? (i := 6) rfl))) (mvT hZ (hw _ (List.mem_of_getElem? (i := 7) rfl))) (mvT hZ (hw _ (List.mem_of_getElem? (i := 8) rfl))) (mvT hZ (hw _ (List.mem_of_getElem? (i := 9) rfl))) (by decide) (backOf (W := 0) (rm1 l Z a0 hw [] b1 (w0_39 x0 x1 x2) (w0_47 x0 x1 x2) k1 (w0_8 x0 x1 x2) (w0_16 x0 x1 x2) (w0_24 x0 x1 x2) (w0_32 x0 x1 x2) h5 n0 Zn5 V_b1 (own_p1 x0 x1 x2) (own_p2 x0 x1 x2) (own_p3 x0 x1 x2)) hZ (hw _ (List.mem_of_getElem? (i := 9) rfl)) (hw _ (List.mem_of_getElem? (i := 8) rfl)) (by decide) (by decide)) (g := (mkF m 109 #[.val (.int x0), .val (.int x1), .val (.int x2), .val (.ref b1), .val (.int (w0_39 x0 x1 x2)), .val (.int (w0_47 x0 x1 x2)), .val (.int (j0_102_s0 x0 x1 x2))] [(.int (w0_47 x0 x1 x2)), (.int (w0_39 x0 x1 x2)), (.ref b1)])) rfl (by rw [hml]; rfl) (argsL := [(.ref b1), (.int (w0_39 x0 x1 x2)), (.int (w0_47 x0 x1 x2))]) (rest := []) (lenOf pd0_1 rfl) rfl (by show 2 * 0 + _ ≤ _; exact Nat.le_of_eq rfl) (hb hby at_109) (fun _ _ => ⟨rfl, e15, (by decide : 1 + 0 ≤ _), (by decide : 4 + 0 ≤ _)⟩)
    dsimp only [Pt.U, Pt.locs, Pt.cells, Pt.slots] at X16 l16 y16 z16 st16 hQ16
    subst l16 y16 z16
    obtain ⟨rfl, N16q, e16⟩ := hQ16
    have N16 := Fr.app N15 N16q
    refine Goes.st (B := T16.setTop (mkF m 112 #[.val (.int x0), .val (.int x1), .val (.int x2), .val (.ref b1), .val (.int (w0_39 x0 x1 x2)), .val (.int (w0_47 x0 x1 x2)), .val (.int (j0_102_s0 x0 x1 x2))] [(.int (r1 (w0_39 x0 x1 x2) (w0_47 x0 x1 x2) (w0_8 x0 x1 x2) (w0_16 x0 x1 x2) (w0_24 x0 x1 x2) (w0_32 x0 x1 x2)))])) st16 ?_
    refine Goes.run X16 hx hown hci hcl hby (L := [(112, .iload 6, 2)]) (by decide +kernel) rfl (g' := (mkF m 114 #[.val (.int x0), .val (.int x1), .val (.int x2), .val (.ref b1), .val (.int (w0_39 x0 x1 x2)), .val (.int (w0_47 x0 x1 x2)), .val (.int (j0_102_s0 x0 x1 x2))] [(.int (j0_102_s0 x0 x1 x2)), (.int (r1 (w0_39 x0 x1 x2) (w0_47 x0 x1 x2) (w0_8 x0 x1 x2) (w0_16 x0 x1 x2) (w0_24 x0 x1 x2) (w0_32 x0 x1 x2)))])) rfl ?_
    by_cases hc114_17 : (r1 (w0_39 x0 x1 x2) (w0_47 x0 x1 x2) (w0_8 x0 x1 x2) (w0_16 x0 x1 x2) (w0_24 x0 x1 x2) (w0_32 x0 x1 x2)) = (j0_102_s0 x0 x1 x2)
    · skip
      refine Goes.st (B := T16.setTop (mkF m 117 #[.val (.int x0), .val (.int x1), .val (.int x2), .val (.ref b1), .val (.int (w0_39 x0 x1 x2)), .val (.int (w0_47 x0 x1 x2)), .val (.int (j0_102_s0 x0 x1 x2))] [])) (fun t k => ?_) ?_
      · refine XS.icmpNo X16.here hx rfl (hb hby at_114) rfl (teq hc114_17).2 ?_
        exact k
      refine Goes.run X16 hx hown hci hcl hby (L := [(117, .iconst 1, 1), (118, .goto 4, 3)]) (by decide +kernel) rfl (g' := (mkF m 122 #[.val (.int x0), .val (.int x1), .val (.int x2), .val (.ref b1), .val (.int (w0_39 x0 x1 x2)), .val (.int (w0_47 x0 x1 x2)), .val (.int (j0_102_s0 x0 x1 x2))] [(.int (1 : Int32))])) rfl ?_
      exact Goes.retB X16 hx hlk (t := .boolean) Bd.returns (by simp) (hb hby at_122) rfl ⟨(congrArg (fun z => some (Value.int z)) (show (r0 x0 x1 x2) = (1 : Int32) from (if_pos hc114_17)).symm), N16⟩ (by decide) (by decide)
    · skip
      refine Goes.st (B := T16.setTop (mkF m 121 #[.val (.int x0), .val (.int x1), .val (.int x2), .val (.ref b1), .val (.int (w0_39 x0 x1 x2)), .val (.int (w0_47 x0 x1 x2)), .val (.int (j0_102_s0 x0 x1 x2))] [])) (fun t k => ?_) ?_
      · refine XS.icmpYes X16.here hx rfl (pc0 := 114) (pc' := 121) rfl (hb hby at_114) rfl (feq hc114_17).2 (by decide) (by decide) ?_
        exact k
      refine Goes.run X16 hx hown hci hcl hby (L := [(121, .iconst 0, 1)]) (by decide +kernel) rfl (g' := (mkF m 122 #[.val (.int x0), .val (.int x1), .val (.int x2), .val (.ref b1), .val (.int (w0_39 x0 x1 x2)), .val (.int (w0_47 x0 x1 x2)), .val (.int (j0_102_s0 x0 x1 x2))] [(.int (0 : Int32))])) rfl ?_
      exact Goes.retB X16 hx hlk (t := .boolean) Bd.returns (by simp) (hb hby at_122) rfl ⟨(congrArg (fun z => some (Value.int z)) (show (r0 x0 x1 x2) = (0 : Int32) from (if_neg hc114_17)).symm), N16⟩ (by decide) (by decide)
  by_cases hc58_7 : (r20 (w0_39 x0 x1 x2) (w0_47 x0 x1 x2) (w0_8 x0 x1 x2) (w0_16 x0 x1 x2) (w0_24 x0 x1 x2) (w0_32 x0 x1 x2)) = (0 : Int32)
  · skip
    refine Goes.st (B := T6.setTop (mkF m 61 #[.val (.int x0), .val (.int x1), .val (.int x2), .val (.ref b1), .val (.int (w0_39 x0 x1 x2)), .val (.int (w0_47 x0 x1 x2)), .unset] [])) (fun t k => ?_) ?_
    · refine XS.ifNo X6.here hx rfl (hb hby at_58) rfl ((if0 _ _).trans (teq hc58_7).2) ?_
      exact k
    refine Goes.run X6 hx hown hci hcl hby (L := [(61, .aload_n 3, 1), (62, .iload 4, 2), (64, .iload 5, 2), (66, .iconst 1, 1)]) (by decide +kernel) rfl (g' := (mkF m 67 #[.val (.int x0), .val (.int x1), .val (.int x2), .val (.ref b1), .val (.int (w0_39 x0 x1 x2)), .val (.int (w0_47 x0 x1 x2)), .unset] [(.int (1 : Int32)), (.int (w0_47 x0 x1 x2)), (.int (w0_39 x0 x1 x2)), (.ref b1)])) rfl ?_
    obtain ⟨_, _, ⟨T18, L18, k18, n18⟩, -, X18, ⟨Lc18, hQ18, l18, y18, z18⟩, st18⟩ := Jvm.LawKit.callS X6 hx (y := (⟨"com/example/terseref/terseref/core/CborReaderIsAsciiPinLaw", "bad", "([BIII)Z"⟩ : MethodName)) hown (mvT hZ (hw _ (List.mem_of_getElem? (i := 2) rfl))) (mvT hZ (hw _ (List.mem_of_getElem? (i := 3) rfl))) (mvT hZ (hw _ (List.mem_of_getElem? (i := 4) rfl))) (mvT hZ (hw _ (List.mem_of_getElem? (i := 5) rfl))) (by decide) (backOf (W := 0) (rm21 l Z a0 hw [] b1 (w0_39 x0 x1 x2) (w0_47 x0 x1 x2) k1 (w0_8 x0 x1 x2) (w0_16 x0 x1 x2) (w0_24 x0 x1 x2) (w0_32 x0 x1 x2) h5 n0 Zn5 V_b1) hZ (hw _ (List.mem_of_getElem? (i := 5) rfl)) (hw _ (List.mem_of_getElem? (i := 4) rfl)) (by decide) (by decide)) (g := (mkF m 67 #[.val (.int x0), .val (.int x1), .val (.int x2), .val (.ref b1), .val (.int (w0_39 x0 x1 x2)), .val (.int (w0_47 x0 x1 x2)), .unset] [(.int (1 : Int32)), (.int (w0_47 x0 x1 x2)), (.int (w0_39 x0 x1 x2)), (.ref b1)])) rfl (by rw [hml]; rfl) (argsL := [(.ref b1), (.int (w0_39 x0 x1 x2)), (.int (w0_47 x0 x1 x2)), (.int (1 : Int32))]) (rest := []) (lenOf pd0_0 rfl) rfl (by show 2 * 0 + _ ≤ _; exact Nat.le_of_eq rfl) (hb hby at_67) (fun _ _ => ⟨rfl, e6, (by decide : 1 + 0 ≤ _), (by decide : 4 + 0 ≤ _)⟩)
    dsimp only [Pt.U, Pt.locs, Pt.cells, Pt.slots] at X18 l18 y18 z18 st18 hQ18
    subst l18 y18 z18
    obtain ⟨rfl, N18q, e18⟩ := hQ18
    have N18 := Fr.app N6 N18q
    refine Goes.st (B := T18.setTop (mkF m 70 #[.val (.int x0), .val (.int x1), .val (.int x2), .val (.ref b1), .val (.int (w0_39 x0 x1 x2)), .val (.int (w0_47 x0 x1 x2)), .unset] [(.int (r21 (w0_39 x0 x1 x2) (w0_47 x0 x1 x2) (w0_8 x0 x1 x2) (w0_16 x0 x1 x2) (w0_24 x0 x1 x2) (w0_32 x0 x1 x2)))])) st18 ?_
    by_cases hc70_19 : (r21 (w0_39 x0 x1 x2) (w0_47 x0 x1 x2) (w0_8 x0 x1 x2) (w0_16 x0 x1 x2) (w0_24 x0 x1 x2) (w0_32 x0 x1 x2)) = (0 : Int32)
    · skip
      refine Goes.st (B := T18.setTop (mkF m 73 #[.val (.int x0), .val (.int x1), .val (.int x2), .val (.ref b1), .val (.int (w0_39 x0 x1 x2)), .val (.int (w0_47 x0 x1 x2)), .unset] [])) (fun t k => ?_) ?_
      · refine XS.ifNo X18.here hx rfl (hb hby at_70) rfl ((if0 _ _).trans (teq hc70_19).2) ?_
        exact k
      refine Goes.run X18 hx hown hci hcl hby (L := [(73, .aload_n 3, 1), (74, .iload 4, 2), (76, .iload 5, 2), (78, .iconst 2, 1)]) (by decide +kernel) rfl (g' := (mkF m 79 #[.val (.int x0), .val (.int x1), .val (.int x2), .val (.ref b1), .val (.int (w0_39 x0 x1 x2)), .val (.int (w0_47 x0 x1 x2)), .unset] [(.int (2 : Int32)), (.int (w0_47 x0 x1 x2)), (.int (w0_39 x0 x1 x2)), (.ref b1)])) rfl ?_
      obtain ⟨_, _, ⟨T20, L20, k20, n20⟩, -, X20, ⟨Lc20, hQ20, l20, y20, z20⟩, st20⟩ := Jvm.LawKit.callS X18 hx (y := (⟨"com/example/terseref/terseref/core/CborReaderIsAsciiPinLaw", "bad", "([BIII)Z"⟩ : MethodName)) hown (mvT hZ (hw _ (List.mem_of_getElem? (i := 2) rfl))) (mvT hZ (hw _ (List.mem_of_getElem? (i := 3) rfl))) (mvT hZ (hw _ (List.mem_of_getElem? (i := 4) rfl))) (mvT hZ (hw _ (List.mem_of_getElem? (i := 5) rfl))) (by decide) (backOf (W := 0) (rm22 l Z a0 hw [] b1 (w0_39 x0 x1 x2) (w0_47 x0 x1 x2) k1 (w0_8 x0 x1 x2) (w0_16 x0 x1 x2) (w0_24 x0 x1 x2) (w0_32 x0 x1 x2) h5 n0 Zn5 V_b1) hZ (hw _ (List.mem_of_getElem? (i := 5) rfl)) (hw _ (List.mem_of_getElem? (i := 4) rfl)) (by decide) (by decide)) (g := (mkF m 79 #[.val (.int x0), .val (.int x1), .val (.int x2), .val (.ref b1), .val (.int (w0_39 x0 x1 x2)), .val (.int (w0_47 x0 x1 x2)), .unset] [(.int (2 : Int32)), (.int (w0_47 x0 x1 x2)), (.int (w0_39 x0 x1 x2)), (.ref b1)])) rfl (by rw [hml]; rfl) (argsL := [(.ref b1), (.int (w0_39 x0 x1 x2)), (.int (w0_47 x0 x1 x2)), (.int (2 : Int32))]) (rest := []) (lenOf pd0_0 rfl) rfl (by show 2 * 0 + _ ≤ _; exact Nat.le_of_eq rfl) (hb hby at_79) (fun _ _ => ⟨rfl, e18, (by decide : 1 + 0 ≤ _), (by decide : 4 + 0 ≤ _)⟩)
      dsimp only [Pt.U, Pt.locs, Pt.cells, Pt.slots] at X20 l20 y20 z20 st20 hQ20
      subst l20 y20 z20
      obtain ⟨rfl, N20q, e20⟩ := hQ20
      have N20 := Fr.app N18 N20q
      refine Goes.st (B := T20.setTop (mkF m 82 #[.val (.int x0), .val (.int x1), .val (.int x2), .val (.ref b1), .val (.int (w0_39 x0 x1 x2)), .val (.int (w0_47 x0 x1 x2)), .unset] [(.int (r22 (w0_39 x0 x1 x2) (w0_47 x0 x1 x2) (w0_8 x0 x1 x2) (w0_16 x0 x1 x2) (w0_24 x0 x1 x2) (w0_32 x0 x1 x2)))])) st20 ?_
      by_cases hc82_21 : (r22 (w0_39 x0 x1 x2) (w0_47 x0 x1 x2) (w0_8 x0 x1 x2) (w0_16 x0 x1 x2) (w0_24 x0 x1 x2) (w0_32 x0 x1 x2)) = (0 : Int32)
      · skip
        refine Goes.st (B := T20.setTop (mkF m 85 #[.val (.int x0), .val (.int x1), .val (.int x2), .val (.ref b1), .val (.int (w0_39 x0 x1 x2)), .val (.int (w0_47 x0 x1 x2)), .unset] [])) (fun t k => ?_) ?_
        · refine XS.ifNo X20.here hx rfl (hb hby at_82) rfl ((if0 _ _).trans (teq hc82_21).2) ?_
          exact k
        refine Goes.run X20 hx hown hci hcl hby (L := [(85, .aload_n 3, 1), (86, .iload 4, 2), (88, .iload 5, 2), (90, .iconst 3, 1)]) (by decide +kernel) rfl (g' := (mkF m 91 #[.val (.int x0), .val (.int x1), .val (.int x2), .val (.ref b1), .val (.int (w0_39 x0 x1 x2)), .val (.int (w0_47 x0 x1 x2)), .unset] [(.int (3 : Int32)), (.int (w0_47 x0 x1 x2)), (.int (w0_39 x0 x1 x2)), (.ref b1)])) rfl ?_
        obtain ⟨_, _, ⟨T22, L22, k22, n22⟩, -, X22, ⟨Lc22, hQ22, l22, y22, z22⟩, st22⟩ := Jvm.LawKit.callS X20 hx (y := (⟨"com/example/terseref/terseref/core/CborReaderIsAsciiPinLaw", "bad", "([BIII)Z"⟩ : MethodName)) hown (mvT hZ (hw _ (List.mem_of_getElem? (i := 2) rfl))) (mvT hZ (hw _ (List.mem_of_getElem? (i := 3) rfl))) (mvT hZ (hw _ (List.mem_of_getElem? (i := 4) rfl))) (mvT hZ (hw _ (List.mem_of_getElem? (i := 5) rfl))) (by decide) (backOf (W := 0) (rm23 l Z a0 hw [] b1 (w0_39 x0 x1 x2) (w0_47 x0 x1 x2) k1 (w0_8 x0 x1 x2) (w0_16 x0 x1 x2) (w0_24 x0 x1 x2) (w0_32 x0 x1 x2) h5 n0 Zn5 V_b1) hZ (hw _ (List.mem_of_getElem? (i := 5) rfl)) (hw _ (List.mem_of_getElem? (i := 4) rfl)) (by decide) (by decide)) (g := (mkF m 91 #[.val (.int x0), .val (.int x1), .val (.int x2), .val (.ref b1), .val (.int (w0_39 x0 x1 x2)), .val (.int (w0_47 x0 x1 x2)), .unset] [(.int (3 : Int32)), (.int (w0_47 x0 x1 x2)), (.int (w0_39 x0 x1 x2)), (.ref b1)])) rfl (by rw [hml]; rfl) (argsL := [(.ref b1), (.int (w0_39 x0 x1 x2)), (.int (w0_47 x0 x1 x2)), (.int (3 : Int32))]) (rest := []) (lenOf pd0_0 rfl) rfl (by show 2 * 0 + _ ≤ _; exact Nat.le_of_eq rfl) (hb hby at_91) (fun _ _ => ⟨rfl, e20, (by decide : 1 + 0 ≤ _), (by decide : 4 + 0 ≤ _)⟩)
        dsimp only [Pt.U, Pt.locs, Pt.cells, Pt.slots] at X22 l22 y22 z22 st22 hQ22
        subst l22 y22 z22
        obtain ⟨rfl, N22q, e22⟩ := hQ22
        have N22 := Fr.app N20 N22q
        refine Goes.st (B := T22.setTop (mkF m 94 #[.val (.int x0), .val (.int x1), .val (.int x2), .val (.ref b1), .val (.int (w0_39 x0 x1 x2)), .val (.int (w0_47 x0 x1 x2)), .unset] [(.int (r23 (w0_39 x0 x1 x2) (w0_47 x0 x1 x2) (w0_8 x0 x1 x2) (w0_16 x0 x1 x2) (w0_24 x0 x1 x2) (w0_32 x0 x1 x2)))])) st22 ?_
        by_cases hc94_23 : (r23 (w0_39 x0 x1 x2) (w0_47 x0 x1 x2) (w0_8 x0 x1 x2) (w0_16 x0 x1 x2) (w0_24 x0 x1 x2) (w0_32 x0 x1 x2)) = (0 : Int32)
        · skip
          refine Goes.st (B := T22.setTop (mkF m 97 #[.val (.int x0), .val (.int x1), .val (.int x2), .val (.ref b1), .val (.int (w0_39 x0 x1 x2)), .val (.int (w0_47 x0 x1 x2)), .unset] [])) (fun t k => ?_) ?_
          · refine XS.ifNo X22.here hx rfl (hb hby at_94) rfl ((if0 _ _).trans (teq hc94_23).2) ?_
            exact k
          refine Goes.run X22 hx hown hci hcl hby (L := [(97, .iconst 1, 1), (98, .goto 4, 3)]) (by decide +kernel) rfl (g' := (mkF m 102 #[.val (.int x0), .val (.int x1), .val (.int x2), .val (.ref b1), .val (.int (w0_39 x0 x1 x2)), .val (.int (w0_47 x0 x1 x2)), .unset] [(.int (1 : Int32))])) rfl ?_
          have q := jn102_14 _ _ X22 e22 N22
          rw [show (j0_102_s0 x0 x1 x2) = (1 : Int32) from ((((if_pos hc58_7).trans (if_pos hc70_19)).trans (if_pos hc82_21)).trans (if_pos hc94_23))] at q
          exact q
        · skip
          refine Goes.st (B := T22.setTop (mkF m 101 #[.val (.int x0), .val (.int x1), .val (.int x2), .val (.ref b1), .val (.int (w0_39 x0 x1 x2)), .val (.int (w0_47 x0 x1 x2)), .unset] [])) (fun t k => ?_) ?_
          · refine XS.ifYes X22.here hx rfl (pc0 := 94) (pc' := 101) rfl (hb hby at_94) rfl ((if0 _ _).trans (feq hc94_23).2) (by decide) (by decide) ?_
            exact k
          refine Goes.run X22 hx hown hci hcl hby (L := [(101, .iconst 0, 1)]) (by decide +kernel) rfl (g' := (mkF m 102 #[.val (.int x0), .val (.int x1), .val (.int x2), .val (.ref b1), .val (.int (w0_39 x0 x1 x2)), .val (.int (w0_47 x0 x1 x2)), .unset] [(.int (0 : Int32))])) rfl ?_
          have q := jn102_14 _ _ X22 e22 N22
          rw [show (j0_102_s0 x0 x1 x2) = (0 : Int32) from ((((if_pos hc58_7).trans (if_pos hc70_19)).trans (if_pos hc82_21)).trans (if_neg hc94_23))] at q
          exact q
      · skip
        refine Goes.st (B := T20.setTop (mkF m 101 #[.val (.int x0), .val (.int x1), .val (.int x2), .val (.ref b1), .val (.int (w0_39 x0 x1 x2)), .val (.int (w0_47 x0 x1 x2)), .unset] [])) (fun t k => ?_) ?_
        · refine XS.ifYes X20.here hx rfl (pc0 := 82) (pc' := 101) rfl (hb hby at_82) rfl ((if0 _ _).trans (feq hc82_21).2) (by decide) (by decide) ?_
          exact k
        refine Goes.run X20 hx hown hci hcl hby (L := [(101, .iconst 0, 1)]) (by decide +kernel) rfl (g' := (mkF m 102 #[.val (.int x0), .val (.int x1), .val (.int x2), .val (.ref b1), .val (.int (w0_39 x0 x1 x2)), .val (.int (w0_47 x0 x1 x2)), .unset] [(.int (0 : Int32))])) rfl ?_
        have q := jn102_14 _ _ X20 e20 N20
        rw [show (j0_102_s0 x0 x1 x2) = (0 : Int32) from (((if_pos hc58_7).trans (if_pos hc70_19)).trans (if_neg hc82_21))] at q
        exact q
    · skip
      refine Goes.st (B := T18.setTop (mkF m 101 #[.val (.int x0), .val (.int x1), .val (.int x2), .val (.ref b1), .val (.int (w0_39 x0 x1 x2)), .val (.int (w0_47 x0 x1 x2)), .unset] [])) (fun t k => ?_) ?_
      · refine XS.ifYes X18.here hx rfl (pc0 := 70) (pc' := 101) rfl (hb hby at_70) rfl ((if0 _ _).trans (feq hc70_19).2) (by decide) (by decide) ?_
        exact k
      refine Goes.run X18 hx hown hci hcl hby (L := [(101, .iconst 0, 1)]) (by decide +kernel) rfl (g' := (mkF m 102 #[.val (.int x0), .val (.int x1), .val (.int x2), .val (.ref b1), .val (.int (w0_39 x0 x1 x2)), .val (.int (w0_47 x0 x1 x2)), .unset] [(.int (0 : Int32))])) rfl ?_
      have q := jn102_14 _ _ X18 e18 N18
      rw [show (j0_102_s0 x0 x1 x2) = (0 : Int32) from ((if_pos hc58_7).trans (if_neg hc70_19))] at q
      exact q
  · skip
    refine Goes.st (B := T6.setTop (mkF m 101 #[.val (.int x0), .val (.int x1), .val (.int x2), .val (.ref b1), .val (.int (w0_39 x0 x1 x2)), .val (.int (w0_47 x0 x1 x2)), .unset] [])) (fun t k => ?_) ?_
    · refine XS.ifYes X6.here hx rfl (pc0 := 58) (pc' := 101) rfl (hb hby at_58) rfl ((if0 _ _).trans (feq hc58_7).2) (by decide) (by decide) ?_
      exact k
    refine Goes.run X6 hx hown hci hcl hby (L := [(101, .iconst 0, 1)]) (by decide +kernel) rfl (g' := (mkF m 102 #[.val (.int x0), .val (.int x1), .val (.int x2), .val (.ref b1), .val (.int (w0_39 x0 x1 x2)), .val (.int (w0_47 x0 x1 x2)), .unset] [(.int (0 : Int32))])) rfl ?_
    have q := jn102_14 _ _ X6 e6 N6
    rw [show (j0_102_s0 x0 x1 x2) = (0 : Int32) from (if_neg hc58_7)] at q
    exact q
set_option maxRecDepth 65536 in
set_option maxHeartbeats 40000000 in
theorem comes_1 {Post : Tables → Env → Array Value → State → Outcome → State → Prop} (hpost : ∀ tb e args s v u, (limb_1_1.after args s (.returned v) u = true ∧ limb_1_2.after args s (.returned v) u = true ∧ True) → FrameEnd s (.returned v) u (Jvm.fieldLocs frame_1_writes args s ++ Jvm.arrayLocs frame_1_arrays args s ++ Jvm.staticLocs frame_1_statics s) 16 128 → Post tb e args s (.returned v) u) :
    ArmFor flags0 classFile x code maxLocals ret World_1 tables_1 room_1 Calls_1 rest_1 Pre_1 Post := by
  intro l hfl _ _ p e ha hc hk s m args below hf hA hF happ hP
  obtain ⟨hcalls, hrest, hpre⟩ := hP
  obtain ⟨-, -, -, hnamed, -, -, -, hat⟩ := (Spec.applies_iff hf).mp happ
  obtain ⟨hg, hn⟩ := and_e (Cond.before_iff.mp (show (Jvm.Cond.and given_1 narrow_1).before args s = true from hpre))
  obtain ⟨g0, g0r⟩ := and_e hg
  obtain ⟨g1, g1r⟩ := and_e g0r
  obtain ⟨g2, g3⟩ := and_e g1r
  obtain ⟨w0, w1, w2, rfl⟩ : ∃ w0 w1 w2 : Value, args = #[w0, w1, w2] := by
    have hs : args.size = 3 := by simpa [Cond.value, given_1] using g0
    obtain ⟨L⟩ := args
    match L, hs with
    | [w0, w1, w2], _ => exact ⟨w0, w1, w2, rfl⟩
  have hw := fun d (hd : d ∈ tables_1) => atoms_spec (ws := Jvm.Cond.code x code maxLocals ret :: tables_1) hat d (List.mem_cons_of_mem _ hd)
  have hfit : Fit s := fun {y c} hc i hi => by
    obtain ⟨ha, rfl⟩ := Array.getElem?_eq_some_iff.mp hc
    have q := List.all_eq_true.mp ((Array.all_eq_true_iff_forall_mem.mp hF) _ (Array.getElem_mem ha)) i (List.mem_range.mpr hi)
    simpa [Array.getElem?_eq_getElem hi] using q
  obtain ⟨i0, ei0⟩ := is_v g1
  obtain rfl : w0 = (.int i0) := Option.some.inj ei0
  obtain ⟨i1, ei1⟩ := is_v g2
  obtain rfl : w1 = (.int i1) := Option.some.inj ei1
  obtain ⟨i2, ei2⟩ := is_v g3
  obtain rfl : w2 = (.int i2) := Option.some.inj ei2
  obtain ⟨n, o, h1, h2, h3, v, L, rfl, hv, hq⟩ := rm0 l s _ hw tables_1 i0 i1 i2  s.heap s.heap.size (Nat.le_refl _)  p e ha hc hk s m _ below hf ((Spec.applies_iff_loose hf).mp happ).1 ⟨rfl, State.Warmed39.refl s, rfl⟩ trivial
  have N := hv.2
  have hv1 : v = some (.int 1) := hv.1.trans (congrArg (fun z => some (Value.int z)) (law_true i0 i1 i2))
  subst hv1
  refine ⟨n, _, h1, h2, h3, hpost _ _ _ _ _ _ ⟨Cond.after_iff.mpr rfl, Cond.after_iff.mpr (eq_i res_at (Term.int_eval (1)) rfl), trivial⟩ ⟨hq.1, hq.2.1, (hq.2.2.sift fun y hy => Or.inr (N y hy)).mono (by decide) (by decide)⟩⟩
theorem main_1_1 : Claimed_1_1 := comes_1 fun _ _ _ _ _ _ h hF => ⟨h.1, hF⟩
theorem main_1_2 : Claimed_1_2 := comes_1 fun _ _ _ _ _ _ h hF => ⟨h.2.1, hF⟩
end Jvm.Pilot.@@N@@
namespace Jvm.Pilot.@@N@@
open Jvm Jvm.ClassFile Sem Op Lib Jvm.Free Jvm.Stand Jvm.Pilot.@@N@@.Jvm.D
/-! MADE BY PROGRAM (witnessworld.py) out of the Statement's table words and the real class files: 9 classes; the members and pool entries that the words name. The judged class is class 1, her method 1. -/
namespace start1
open Jvm.ClassFile
def u (s : String) : CpInfo := .utf8 (stringToUtf16 s)
/-- a pool by its gaps: so many unusable entries, then the entry; so many at the end -/
def gap : Nat → List CpInfo → List CpInfo
  | 0, r => r
  | n + 1, r => .unusable :: gap n r
def poolList (es : List (Nat × CpInfo)) (last : Nat) : List CpInfo := es.foldr (fun e r => gap e.1 (e.2 :: r)) (gap last [])
def pool (es : List (Nat × CpInfo)) (last : Nat) : Array CpInfo := ⟨poolList es last⟩
def fileOf (pool : Array CpInfo) (this : Nat) (attrs : Array Attribute := #[]) (ms : Array MethodInfo := #[]) (fl : Nat := 33) (sup : Nat := 0) (ifs : Array Nat := #[]) (fds : Array FieldInfo := #[]) : ClassFile where
  minorVersion := 0
  majorVersion := 65
  constantPool := pool
  accessFlags := fl
  thisClass := this
  superClass := sup
  interfaces := ifs
  fields := fds
  methods := ms
  attributes := attrs
def plain (name : String) (sup : Option ClassId) : Class where
  name := name
  kind := .ordinary
  loader := none
  accessFlags := 33
  super := sup
  interfaces := #[]
  cf := none
  fields := #[]
  methods := #[]
  instanceTypes := #[]
  staticTypes := #[]
  resolved := #[]
  callSites := []
  init := .initialized
  statics := none
  mirror := none

def pool0 : Array CpInfo := pool [(5, u "<init>"), (0, u "()V"), (1, .class_ 10), (1, u "java/lang/Object")] 113

def k0m0 : Method := { name := "<init>", desc := "()V", sig := { parameters := [], returnType := none }, accessFlags := 1, code := none }
/-- java/lang/Object -/
def k0 : Class := { plain "java/lang/Object" none with
  accessFlags := 33
  interfaces := #[]
  cf := some (fileOf pool0 8 #[] #[{ accessFlags := 1, nameIndex := 5, descriptorIndex := 6, attributes := #[] }] 33 0 #[] #[])
  fields := #[]
  methods := #[k0m0]
  instanceTypes := #[]
  staticTypes := #[]
  resolved := Array.replicate 124 none
  statics := none }

def pool1 : Array CpInfo := pool [(2, .class_ 4), (1, u "java/lang/Object"), (0, u "<init>"), (0, u "()V"), (0, .integer 2147483647), (0, .methodref 9 10), (0, .class_ 11), (0, .nameAndType 12 13), (0, u "com/example/terseref/terseref/core/CborReaderIsAsciiPinLaw"), (0, u "bad"), (0, u "([BIII)Z"), (0, .methodref 15 16), (0, .class_ 17), (0, .nameAndType 18 19), (0, u "com/example/terseref/terseref/core/CborReader"), (0, u "isAscii"), (0, u "([BII)Z"), (2, u "law"), (0, u "(III)Z")] 5

def k1m0 : Method := { name := "<init>", desc := "()V", sig := { parameters := [], returnType := none }, accessFlags := 1, code := none }
def k1c1 : Code := { maxStack := 4, maxLocals := 7, code := code, exceptionTable := #[], attributes := #[] }
def k1m1 : Method := { name := "law", desc := "(III)Z", sig := { parameters := [.int, .int, .int], returnType := some .boolean }, accessFlags := 9, code := some k1c1 }
def k1c2 : Code := { maxStack := 2, maxLocals := 4, code := method_3_code, exceptionTable := #[], attributes := #[] }
def k1m2 : Method := { name := "bad", desc := "([BIII)Z", sig := { parameters := [(.array .byte), .int, .int, .int], returnType := some .boolean }, accessFlags := 10, code := some k1c2 }
/-- com/example/terseref/terseref/core/CborReaderIsAsciiPinLaw -/
def k1 : Class := { plain "com/example/terseref/terseref/core/CborReaderIsAsciiPinLaw" (some 0) with
  accessFlags := 49
  interfaces := #[]
  cf := some (fileOf pool1 9 #[] #[{ accessFlags := 1, nameIndex := 5, descriptorIndex := 6, attributes := #[] }, { accessFlags := 9, nameIndex := 22, descriptorIndex := 23, attributes := #[] }, { accessFlags := 10, nameIndex := 12, descriptorIndex := 13, attributes := #[] }] 49 2 #[] #[])
  fields := #[]
  methods := #[k1m0, k1m1, k1m2]
  instanceTypes := #[]
  staticTypes := #[]
  resolved := Array.replicate 29 none
  statics := none }

def pool2 : Array CpInfo := pool [(1, .class_ 2), (0, u "com/example/terseref/terseref/core/CborReader"), (1, .class_ 6), (1, u "java/lang/Object"), (4, u "headsShortest"), (0, u "Z"), (2, u "data"), (0, u "[B"), (69, u "KINDS"), (6, u "KIND_NAMES"), (0, u "[Ljava/lang/String;"), (28, u "isAscii"), (0, u "([BII)Z"), (100, u "UNSIGNED"), (0, u "I"), (2, u "NEGATIVE"), (1, u "BYTES"), (1, u "TEXT"), (1, u "ARRAY"), (1, u "MAP"), (1, u "TAG"), (1, u "FALSE"), (1, u "TRUE"), (1, u "NULL"), (1, u "FLOAT"), (1, u "SIMPLE"), (1, u "ADDITIONAL_INFO_MASK"), (1, u "ONE_BYTE_ARGUMENT"), (1, u "FIRST_RESERVED"), (1, u "INDEFINITE_LENGTH"), (0, u "BREAK"), (1, u "FIRST_EXTENDED_SIMPLE"), (1, u "ZERO_BYTE"), (0, u "B"), (0, u "EMPTY_TEXT_BYTE"), (1, u "EMPTY_ARRAY_BYTE"), (1, u "FALSE_BYTE"), (1, u "TRUE_BYTE"), (1, u "NULL_BYTE"), (1, u "FIRST_CONTINUATION"), (1, u "LAST_CONTINUATION"), (1, u "CONTINUATION_BITS"), (0, u "CONTINUATION_PAYLOAD"), (1, u "ASCII_MASK"), (1, u "OPEN_ARRAY"), (1, u "OPEN_MAP_KEY"), (1, u "OPEN_MAP_VALUE"), (1, u "INITIAL_DEPTH")] 26

def k2c0 : Code := { maxStack := 2, maxLocals := 5, code := prog_18_method_22_code, exceptionTable := #[], attributes := #[] }
def k2m0 : Method := { name := "isAscii", desc := "([BII)Z", sig := { parameters := [(.array .byte), .int, .int], returnType := some .boolean }, accessFlags := 8, code := some k2c0 }
/-- com/example/terseref/terseref/core/CborReader -/
def k2 : Class := { plain "com/example/terseref/terseref/core/CborReader" (some 0) with
  accessFlags := 48
  interfaces := #[]
  cf := some (fileOf pool2 1 #[] #[{ accessFlags := 8, nameIndex := 123, descriptorIndex := 124, attributes := #[] }] 48 4 #[] #[{ accessFlags := 24, nameIndex := 225, descriptorIndex := 226, attributes := #[] }, { accessFlags := 24, nameIndex := 229, descriptorIndex := 226, attributes := #[] }, { accessFlags := 24, nameIndex := 231, descriptorIndex := 226, attributes := #[] }, { accessFlags := 24, nameIndex := 233, descriptorIndex := 226, attributes := #[] }, { accessFlags := 24, nameIndex := 235, descriptorIndex := 226, attributes := #[] }, { accessFlags := 24, nameIndex := 237, descriptorIndex := 226, attributes := #[] }, { accessFlags := 24, nameIndex := 239, descriptorIndex := 226, attributes := #[] }, { accessFlags := 24, nameIndex := 241, descriptorIndex := 226, attributes := #[] }, { accessFlags := 24, nameIndex := 243, descriptorIndex := 226, attributes := #[] }, { accessFlags := 24, nameIndex := 245, descriptorIndex := 226, attributes := #[] }, { accessFlags := 24, nameIndex := 247, descriptorIndex := 226, attributes := #[] }, { accessFlags := 24, nameIndex := 249, descriptorIndex := 226, attributes := #[] }, { accessFlags := 26, nameIndex := 93, descriptorIndex := 94, attributes := #[] }, { accessFlags := 26, nameIndex := 251, descriptorIndex := 226, attributes := #[] }, { accessFlags := 24, nameIndex := 253, descriptorIndex := 226, attributes := #[] }, { accessFlags := 26, nameIndex := 255, descriptorIndex := 226, attributes := #[] }, { accessFlags := 26, nameIndex := 257, descriptorIndex := 226, attributes := #[] }, { accessFlags := 26, nameIndex := 258, descriptorIndex := 226, attributes := #[] }, { accessFlags := 26, nameIndex := 260, descriptorIndex := 226, attributes := #[] }, { accessFlags := 24, nameIndex := 262, descriptorIndex := 263, attributes := #[] }, { accessFlags := 24, nameIndex := 264, descriptorIndex := 263, attributes := #[] }, { accessFlags := 24, nameIndex := 266, descriptorIndex := 263, attributes := #[] }, { accessFlags := 24, nameIndex := 268, descriptorIndex := 263, attributes := #[] }, { accessFlags := 24, nameIndex := 270, descriptorIndex := 263, attributes := #[] }, { accessFlags := 24, nameIndex := 272, descriptorIndex := 263, attributes := #[] }, { accessFlags := 26, nameIndex := 274, descriptorIndex := 226, attributes := #[] }, { accessFlags := 26, nameIndex := 276, descriptorIndex := 226, attributes := #[] }, { accessFlags := 26, nameIndex := 278, descriptorIndex := 226, attributes := #[] }, { accessFlags := 26, nameIndex := 279, descriptorIndex := 226, attributes := #[] }, { accessFlags := 26, nameIndex := 281, descriptorIndex := 226, attributes := #[] }, { accessFlags := 26, nameIndex := 283, descriptorIndex := 226, attributes := #[] }, { accessFlags := 26, nameIndex := 285, descriptorIndex := 226, attributes := #[] }, { accessFlags := 26, nameIndex := 287, descriptorIndex := 226, attributes := #[] }, { accessFlags := 26, nameIndex := 289, descriptorIndex := 226, attributes := #[] }, { accessFlags := 26, nameIndex := 86, descriptorIndex := 16, attributes := #[] }, { accessFlags := 18, nameIndex := 15, descriptorIndex := 16, attributes := #[] }, { accessFlags := 2, nameIndex := 11, descriptorIndex := 12, attributes := #[] }])
  fields := #[{ name := "UNSIGNED", type := .int, accessFlags := 24, slot := 0, constantValue := 0 }, { name := "NEGATIVE", type := .int, accessFlags := 24, slot := 1, constantValue := 0 }, { name := "BYTES", type := .int, accessFlags := 24, slot := 2, constantValue := 0 }, { name := "TEXT", type := .int, accessFlags := 24, slot := 3, constantValue := 0 }, { name := "ARRAY", type := .int, accessFlags := 24, slot := 4, constantValue := 0 }, { name := "MAP", type := .int, accessFlags := 24, slot := 5, constantValue := 0 }, { name := "TAG", type := .int, accessFlags := 24, slot := 6, constantValue := 0 }, { name := "FALSE", type := .int, accessFlags := 24, slot := 7, constantValue := 0 }, { name := "TRUE", type := .int, accessFlags := 24, slot := 8, constantValue := 0 }, { name := "NULL", type := .int, accessFlags := 24, slot := 9, constantValue := 0 }, { name := "FLOAT", type := .int, accessFlags := 24, slot := 10, constantValue := 0 }, { name := "SIMPLE", type := .int, accessFlags := 24, slot := 11, constantValue := 0 }, { name := "KIND_NAMES", type := (.array (.object "java/lang/String")), accessFlags := 26, slot := 12, constantValue := 0 }, { name := "ADDITIONAL_INFO_MASK", type := .int, accessFlags := 26, slot := 13, constantValue := 0 }, { name := "ONE_BYTE_ARGUMENT", type := .int, accessFlags := 24, slot := 14, constantValue := 0 }, { name := "FIRST_RESERVED", type := .int, accessFlags := 26, slot := 15, constantValue := 0 }, { name := "INDEFINITE_LENGTH", type := .int, accessFlags := 26, slot := 16, constantValue := 0 }, { name := "BREAK", type := .int, accessFlags := 26, slot := 17, constantValue := 0 }, { name := "FIRST_EXTENDED_SIMPLE", type := .int, accessFlags := 26, slot := 18, constantValue := 0 }, { name := "ZERO_BYTE", type := .byte, accessFlags := 24, slot := 19, constantValue := 0 }, { name := "EMPTY_TEXT_BYTE", type := .byte, accessFlags := 24, slot := 20, constantValue := 0 }, { name := "EMPTY_ARRAY_BYTE", type := .byte, accessFlags := 24, slot := 21, constantValue := 0 }, { name := "FALSE_BYTE", type := .byte, accessFlags := 24, slot := 22, constantValue := 0 }, { name := "TRUE_BYTE", type := .byte, accessFlags := 24, slot := 23, constantValue := 0 }, { name := "NULL_BYTE", type := .byte, accessFlags := 24, slot := 24, constantValue := 0 }, { name := "FIRST_CONTINUATION", type := .int, accessFlags := 26, slot := 25, constantValue := 0 }, { name := "LAST_CONTINUATION", type := .int, accessFlags := 26, slot := 26, constantValue := 0 }, { name := "CONTINUATION_BITS", type := .int, accessFlags := 26, slot := 27, constantValue := 0 }, { name := "CONTINUATION_PAYLOAD", type := .int, accessFlags := 26, slot := 28, constantValue := 0 }, { name := "ASCII_MASK", type := .int, accessFlags := 26, slot := 29, constantValue := 0 }, { name := "OPEN_ARRAY", type := .int, accessFlags := 26, slot := 30, constantValue := 0 }, { name := "OPEN_MAP_KEY", type := .int, accessFlags := 26, slot := 31, constantValue := 0 }, { name := "OPEN_MAP_VALUE", type := .int, accessFlags := 26, slot := 32, constantValue := 0 }, { name := "INITIAL_DEPTH", type := .int, accessFlags := 26, slot := 33, constantValue := 0 }, { name := "KINDS", type := (.array .byte), accessFlags := 26, slot := 34, constantValue := 0 }, { name := "data", type := (.array .byte), accessFlags := 18, slot := 0, constantValue := 0 }, { name := "headsShortest", type := .boolean, accessFlags := 2, slot := 1, constantValue := 0 }]
  methods := #[k2m0]
  instanceTypes := #[(.array .byte), .boolean]
  staticTypes := #[.int, .int, .int, .int, .int, .int, .int, .int, .int, .int, .int, .int, (.array (.object "java/lang/String")), .int, .int, .int, .int, .int, .int, .byte, .byte, .byte, .byte, .byte, .byte, .int, .int, .int, .int, .int, .int, .int, .int, .int, (.array .byte)]
  resolved := Array.replicate 316 none
  statics := none }

def pool3 : Array CpInfo := pool [(1, u "java/lang/Cloneable"), (0, .class_ 1), (0, u "java/lang/Object"), (0, .class_ 3)] 3

/-- java/lang/Cloneable -/
def k3 : Class := { plain "java/lang/Cloneable" (some 0) with
  accessFlags := 1537
  interfaces := #[]
  cf := some (fileOf pool3 2 #[] #[] 1537 4 #[] #[])
  fields := #[]
  methods := #[]
  instanceTypes := #[]
  staticTypes := #[]
  resolved := Array.replicate 8 none
  statics := none }

def pool4 : Array CpInfo := pool [(1, u "java/io/Serializable"), (0, .class_ 1), (0, u "java/lang/Object"), (0, .class_ 3)] 3

/-- java/io/Serializable -/
def k4 : Class := { plain "java/io/Serializable" (some 0) with
  accessFlags := 1537
  interfaces := #[]
  cf := some (fileOf pool4 2 #[] #[] 1537 4 #[] #[])
  fields := #[]
  methods := #[]
  instanceTypes := #[]
  staticTypes := #[]
  resolved := Array.replicate 8 none
  statics := none }

/-- the primitive byte -/
def k5 : Class := { plain "byte" none with kind := .primitive 'B', accessFlags := 0x411 }
/-- [B -/
def k6 : Class := { plain "[B" (some 0) with kind := .array 5 .byte, interfaces := #[3, 4], accessFlags := 1041 }

/-- the primitive int -/
def k7 : Class := { plain "int" none with kind := .primitive 'I', accessFlags := 0x411 }
/-- [I -/
def k8 : Class := { plain "[I" (some 0) with kind := .array 7 .int, interfaces := #[3, 4], accessFlags := 1041 }

def heap : Heap := #[]
def classes : Array Class := #[k0, k1, k2, k3, k4, k5, k6, k7, k8]
def interned : List (Array UInt16 × Addr) := []
def slotsUsed : Nat := 0
def theMethod : MethodId := ⟨1, 1⟩
def args0 : Array Value := #[.int 5, .int 7, .int 9]
def aboutOver (below : List Frame) : State where
  vm := { classes := classes, interned := interned.toArray }
  heap := heap
  slotsUsed := slotsUsed
  threads := #[{ frames := .invoking theMethod args0 :: below }]
def below0 : List Frame := [.native { method := ⟨0, 0⟩, args := #[] }]
def about1 : State := aboutOver below0
def p0 : Program := .bare "" "" ""
def e0 : Env := launch0.env 0 0 0
theorem w_frames : about1.frames = Frame.invoking theMethod args0 :: below0 := rfl
set_option maxRecDepth 65536 in
theorem w_args : argsFit about1.vm theMethod args0 = true := by decide +kernel
set_option maxRecDepth 65536 in
theorem w_heap : heapFits about1 = true := by decide +kernel
set_option maxRecDepth 65536 in
theorem w_runnable : about1.curStatus? = some .runnable := by decide +kernel
set_option maxRecDepth 65536 in
theorem w_alone : about1.alone = true := by decide +kernel
set_option maxRecDepth 65536 in
theorem w_named : about1.methodNamed? x = some theMethod := by decide +kernel
set_option maxRecDepth 65536 in
theorem w_hears : about1.hears theMethod below0 = true := by decide +kernel
set_option maxRecDepth 65536 in
theorem w_ripe : about1.ripe theMethod args0 below0 = true := by decide +kernel
theorem w_running : about1.status = .running := rfl
set_option maxRecDepth 65536 in
theorem w_room : about1.hasRoom e0.platform room_1 = true :=
  launch0.hasRoom_least _ room_1 (by decide +kernel) (by decide +kernel) (by decide +kernel) (by decide +kernel) (by decide +kernel) (by decide +kernel)
theorem allAtoms_all (ts : List Jvm.Cond) (a : Array Jvm.Value) (st : Jvm.State) : (allAtoms ts).before a st = ts.all (fun c => c.before a st) := by
  induction ts with
  | nil => rfl
  | cons c t ih =>
    show (Jvm.Cond.and c (allAtoms t)).before a st = _
    rw [Jvm.Cond.before_and, ih, List.all_cons]
def words1 : List Jvm.Cond := Jvm.Cond.code x code maxLocals ret :: tables_1
/-- a 'code' word, met by the world's own term for the bytes: nothing is compared byte by byte -/
theorem code_word {y : MethodName} {bytes : ByteArray} {mx : Nat} {rt : Option FieldType} {a : Array Value} {s : State} {m : MethodId} {meth : Method} {c : Code} (h1 : s.methodNamed? y = some m) (h2 : s.vm.method? m = some meth) (h3 : meth.code = some c) (h4 : c.code = bytes)
    (h5 : (c.maxLocals == mx && c.exceptionTable.isEmpty && decide (c.maxStack ≤ mostOperands) && decide (meth.sig.returnType = rt) && !meth.locks && decide (parseMethodDescriptor y.desc = some meth.sig)) = true) : (Jvm.Cond.code y bytes mx rt).before a s = true := by
  simp only [Bool.and_eq_true, beq_iff_eq, Bool.not_eq_true', decide_eq_true_eq] at h5
  obtain ⟨⟨⟨⟨⟨g1, g2⟩, g3⟩, g4⟩, g5⟩, g6⟩ := h5
  simp [Cond.before, Cond.holds, Cond.value, h1, h2, h3, h4, g1, g2, g3, g4, g5, g6]
def isCode : Jvm.Cond → Bool
  | .code _ _ _ _ => true
  | _ => false
theorem all_split {L : List Jvm.Cond} {P : Jvm.Cond → Bool} (h1 : L.all (fun c => isCode c || P c) = true) (h2 : ∀ c ∈ L.filter isCode, P c = true) : L.all P = true := by
  refine List.all_eq_true.mpr fun c hc => ?_
  have h := List.all_eq_true.mp h1 c hc
  rcases Bool.eq_false_or_eq_true (isCode c) with hi | hi
  · exact h2 c (List.mem_filter.mpr ⟨hc, hi⟩)
  · simpa [hi] using h
set_option maxRecDepth 65536 in
theorem w_c0 : (Jvm.Cond.code x code maxLocals ret).before args0 about1 = true := code_word (m := ⟨1, 1⟩) (meth := k1m1) (c := k1c1) (by decide +kernel) rfl rfl rfl (by decide +kernel)
set_option maxRecDepth 65536 in
theorem w_c1 : (Jvm.Cond.code ({ cls := "com/example/terseref/terseref/core/CborReaderIsAsciiPinLaw", name := "bad", desc := "([BIII)Z" } : Jvm.MethodName) method_3_code (4 : Nat) (Option.some Jvm.ClassFile.FieldType.boolean)).before args0 about1 = true := code_word (m := ⟨1, 2⟩) (meth := k1m2) (c := k1c2) (by decide +kernel) rfl rfl rfl (by decide +kernel)
set_option maxRecDepth 65536 in
theorem w_c2 : (Jvm.Cond.code ({ cls := "com/example/terseref/terseref/core/CborReader", name := "isAscii", desc := "([BII)Z" } : Jvm.MethodName) prog_18_method_22_code (5 : Nat) (Option.some Jvm.ClassFile.FieldType.boolean)).before args0 about1 = true := code_word (m := ⟨2, 0⟩) (meth := k2m0) (c := k2c0) (by decide +kernel) rfl rfl rfl (by decide +kernel)
def codes1 : List Jvm.Cond := [Jvm.Cond.code x code maxLocals ret, Jvm.Cond.code ({ cls := "com/example/terseref/terseref/core/CborReaderIsAsciiPinLaw", name := "bad", desc := "([BIII)Z" } : Jvm.MethodName) method_3_code (4 : Nat) (Option.some Jvm.ClassFile.FieldType.boolean), Jvm.Cond.code ({ cls := "com/example/terseref/terseref/core/CborReader", name := "isAscii", desc := "([BII)Z" } : Jvm.MethodName) prog_18_method_22_code (5 : Nat) (Option.some Jvm.ClassFile.FieldType.boolean)]
set_option maxRecDepth 65536 in
theorem codes_eq : words1.filter isCode = codes1 := rfl
theorem w_codes : ∀ c ∈ words1.filter isCode, c.before args0 about1 = true := by
  rw [codes_eq]
  intro c hc
  simp only [codes1, List.mem_cons, List.not_mem_nil, or_false] at hc
  rcases hc with rfl | rfl | rfl
  · exact w_c0
  · exact w_c1
  · exact w_c2
set_option maxRecDepth 65536 in
theorem w_t1 : words1.all (fun c => isCode c || c.before args0 about1) = true := by decide +kernel
theorem w_tables : (allAtoms (Jvm.Cond.code x code maxLocals ret :: tables_1)).before args0 about1 = true := by
  rw [allAtoms_all]
  show words1.all (fun c => c.before args0 about1) = true
  refine all_split ?_ w_codes
  rw [w_t1]
set_option maxRecDepth 65536 in
theorem w_case : (Jvm.Cond.and given_1 narrow_1).before args0 about1 = true := by decide +kernel
theorem w_applies : (headSpec (Jvm.Cond.code x code maxLocals ret :: tables_1) room_1).applies x e0.platform about1 = true :=
  (Spec.applies_iff w_frames).mpr ⟨w_running, w_runnable, w_alone, w_named, w_hears, w_ripe, w_room, w_tables⟩
theorem atStart : AtStart classFile x code maxLocals ret World_1 tables_1 room_1 Calls_1 rest_1 Pre_1 launch0 p0 e0 about1 theMethod args0 below0 :=
  ⟨lists_1, trivial, launch0.admits_env _ _ _, launch0.least_env, fairChoices_fair.cas, fairChoices_fair.clock, w_frames, w_args, w_heap, w_applies, trivial, trivial, w_case⟩
end start1
theorem witness_1 : WitnessClaimed_1 := ⟨start1.p0, start1.e0, start1.about1, start1.theMethod, start1.args0, start1.below0, start1.atStart⟩
end Jvm.Pilot.@@N@@
