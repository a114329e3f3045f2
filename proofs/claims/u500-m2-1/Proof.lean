import JvmDerived
import JvmDerived.Pilot.@@N@@Statement
import JvmDerived.Pilot.@@N@@Code
set_option linter.unusedVariables false
set_option linter.unusedSimpArgs false
@@BLOCK:NumsL.lean.txt@@
namespace Jvm.Pilot.@@N@@
open Jvm Jvm.ClassFile Sem Op Lib Jvm.Free Jvm.Stand Jvm.LawKit Jvm.RoadKit Bundle Jvm.Pilot.@@N@@.Jvm.D
def Goes (p : Program) (e : Env) (below : List Frame) (s : State) (Q : Option Value → Heap → List Loc → Prop) (kc ks : Nat) (A : State) : Prop :=
  ∃ s₂ o, Steps p.tables e below A s₂ ∧ s₂.status = .running ∧ Ended s₂ below o ∧ ∃ v L, o = .returned v ∧ Q v s₂.heap L ∧ FrameEnd s o s₂ L kc ks
def QL (w : Option Value) (n0 : Nat) (v : Option Value) (h : Heap) (L : List Loc) : Prop := v = w ∧ Fr n0 L
theorem own_selp {s : State} {args : Array Value} {y : MethodName} {n : Nat} (hins : (Cond.instantiable y.cls n).before args s = true) (hpriv : (Cond.privateMethod y).before args s = true) (hinst : (Cond.instanceMethod y).before args s = true) (hy : y.cls ≠ "java/lang/invoke/MethodHandle" ∧ y.cls ≠ "java/lang/invoke/VarHandle") : (Cond.selects y.cls y y).before args s = true := by
  obtain ⟨c, k, hc, hk, -, hniab, -, -⟩ := Cond.instantiable_spec hins
  exact selects_self_of_private hc hk (Bool.or_eq_false_iff.mp hniab).1 (Cond.privateMethod_at hpriv) hinst hy
def QP (w : Option Value) (h0 : Heap) (n0 : Nat) (v : Option Value) (h : Heap) (L : List Loc) : Prop := v = w ∧ Fr n0 L ∧ h = h0
section OwnGoes
variable {p : Program} {l : Launch} {e : Env} {R : Room} {s : State} {m : MethodId} {args : Array Value} {below : List Frame} {meth : Method} {c : Code} {T : State} {locs : List Loc} {cells slots kc ks : Nat} {Q : Option Value → Heap → List Loc → Prop}
theorem Goes.st {A B : State} (h : ∀ t, Steps p.tables e below B t → Steps p.tables e below A t) (g : Goes p e below s Q kc ks B) : Goes p e below s Q kc ks A := by
  obtain ⟨s₂, o, h1, r⟩ := g
  exact ⟨s₂, o, h _ h1, r⟩
theorem Goes.cast {g g' : JFrame} (q : g = g') (h : Goes p e below s Q kc ks (T.setTop g')) : Goes p e below s Q kc ks (T.setTop g) := q ▸ h
theorem Goes.retI (X : Stand p l e R s m args below meth c T locs cells slots) (hx : p.tables.exec = Jvm.exec) (hlk : meth.locks = false) (hret : meth.sig.returnType = some .int) {pc : Nat} {Ls : Array Slot} {z : Int32} {rest : List Value} (hd : decode c.code pc = .ok (.ireturn, 1)) (hQ : Q (some (.int z)) T.heap locs) (h1 : cells ≤ kc) (h2 : slots ≤ ks) : Goes p e below s Q kc ks (T.setTop (mkF m pc Ls (.int z :: rest))) := by
  obtain ⟨fs, hr, hrun, hended, hW, hsame⟩ := X.leave (v := some (.int z)) (fun h => by rw [hret] at h; cases h)
  exact ⟨_, _, retOut X hx hret rfl (Or.inl ⟨rfl, Or.inl rfl, _, rfl⟩) hd hr, hrun, hended, _, _, rfl, hQ, ⟨_, rfl⟩, hW, hsame.mono h1 h2⟩
theorem Goes.retJ (X : Stand p l e R s m args below meth c T locs cells slots) (hx : p.tables.exec = Jvm.exec) (hlk : meth.locks = false) (hret : meth.sig.returnType = some .long) {pc : Nat} {Ls : Array Slot} {z : Int64} {rest : List Value} (hd : decode c.code pc = .ok (.lreturn, 1)) (hQ : Q (some (.long z)) T.heap locs) (h1 : cells ≤ kc) (h2 : slots ≤ ks) : Goes p e below s Q kc ks (T.setTop (mkF m pc Ls (.long z :: rest))) := by
  obtain ⟨fs, hr, hrun, hended, hW, hsame⟩ := X.leave (v := some (.long z)) (fun h => by rw [hret] at h; cases h)
  exact ⟨_, _, retOut X hx hret rfl (Or.inr (Or.inl ⟨rfl, rfl, _, rfl⟩)) hd hr, hrun, hended, _, _, rfl, hQ, ⟨_, rfl⟩, hW, hsame.mono h1 h2⟩
theorem Goes.retR (X : Stand p l e R s m args below meth c T locs cells slots) (hx : p.tables.exec = Jvm.exec) (hlk : meth.locks = false) {t : FieldType} (hret : meth.sig.returnType = some t) {w : Value} (ht : t.isReference = true) (hw : w.isRef = true) {pc : Nat} {Ls : Array Slot} {rest : List Value} (hd : decode c.code pc = .ok (.areturn, 1)) (hQ : Q (some w) T.heap locs) (h1 : cells ≤ kc) (h2 : slots ≤ ks) : Goes p e below s Q kc ks (T.setTop (mkF m pc Ls (w :: rest))) := by
  obtain ⟨fs, hr, hrun, hended, hW, hsame⟩ := X.leave (v := some w) (fun h => by rw [hret] at h; cases h)
  have hn : narrow t w = w := by cases t <;> cases w <;> first | rfl | (simp [FieldType.isReference] at ht) | (simp [Value.isRef] at hw)
  exact ⟨_, _, retOut X hx hret hn (Or.inr (Or.inr (Or.inr (Or.inr ⟨rfl, ht, hw⟩)))) hd hr, hrun, hended, _, _, rfl, hQ, ⟨_, rfl⟩, hW, hsame.mono h1 h2⟩
theorem Goes.retB (X : Stand p l e R s m args below meth c T locs cells slots) (hx : p.tables.exec = Jvm.exec) (hlk : meth.locks = false) {t : FieldType} (hret : meth.sig.returnType = some t) (ht : t = .boolean ∨ t = .byte ∨ t = .char ∨ t = .short) {pc : Nat} {Ls : Array Slot} {z : Int32} {rest : List Value} (hd : decode c.code pc = .ok (.ireturn, 1)) (hz : nar t z = z) (hQ : Q (some (.int z)) T.heap locs) (h1 : cells ≤ kc) (h2 : slots ≤ ks) : Goes p e below s Q kc ks (T.setTop (mkF m pc Ls (.int z :: rest))) := by
  obtain ⟨fs, hr, hrun, hended, hW, hsame⟩ := X.leave (v := some (.int z)) (fun h => by rw [hret] at h; cases h)
  exact ⟨_, _, retN X hx hret ht hd (by rw [hz]; exact hr), hrun, hended, _, _, rfl, hQ, ⟨_, rfl⟩, hW, hsame.mono h1 h2⟩
theorem Goes.retV (X : Stand p l e R s m args below meth c T locs cells slots) (hx : p.tables.exec = Jvm.exec) (hlk : meth.locks = false) (hret : meth.sig.returnType = none) {pc : Nat} {Ls : Array Slot} (hd : decode c.code pc = .ok (.return_, 1)) (hQ : Q none T.heap locs) (h1 : cells ≤ kc) (h2 : slots ≤ ks) : Goes p e below s Q kc ks (T.setTop (mkF m pc Ls [])) := by
  obtain ⟨fs, hr, hrun, hended, hW, hsame⟩ := X.leave (v := none) (fun _ => rfl)
  exact ⟨_, _, X.returnOut hx hret hd hr, hrun, hended, _, _, rfl, hQ, ⟨_, rfl⟩, hW, hsame.mono h1 h2⟩
end OwnGoes
theorem tltL {x y : Int64} (h : x < y) : ifCond.holds .lt (lcmpW x y) = true ∧ ifCond.holds .ge (lcmpW x y) = false ∧ ifCond.holds .gt (lcmpW y x) = true ∧ ifCond.holds .le (lcmpW y x) = false :=
  ⟨(if0 _ _).trans (tlt ((lw_lt x y).mpr h)).1, (if0 _ _).trans (tlt ((lw_lt x y).mpr h)).2.1, (if0 _ _).trans (tlt ((lw_gt y x).mpr h)).2.2.1, (if0 _ _).trans (tlt ((lw_gt y x).mpr h)).2.2.2⟩
theorem fltL {x y : Int64} (h : ¬ x < y) : ifCond.holds .lt (lcmpW x y) = false ∧ ifCond.holds .ge (lcmpW x y) = true ∧ ifCond.holds .gt (lcmpW y x) = false ∧ ifCond.holds .le (lcmpW y x) = true :=
  ⟨(if0 _ _).trans (flt fun q => h ((lw_lt x y).mp q)).1, (if0 _ _).trans (flt fun q => h ((lw_lt x y).mp q)).2.1, (if0 _ _).trans (flt fun q => h ((lw_gt y x).mp q)).2.2.1, (if0 _ _).trans (flt fun q => h ((lw_gt y x).mp q)).2.2.2⟩
theorem teqL {x y : Int64} (h : x = y) : ifCond.holds .eq (lcmpW x y) = true ∧ ifCond.holds .ne (lcmpW x y) = false :=
  ⟨(if0 _ _).trans (teq ((lw_eq x y).mpr h)).1, (if0 _ _).trans (teq ((lw_eq x y).mpr h)).2⟩
theorem feqL {x y : Int64} (h : ¬ x = y) : ifCond.holds .eq (lcmpW x y) = false ∧ ifCond.holds .ne (lcmpW x y) = true :=
  ⟨(if0 _ _).trans (feq fun q => h ((lw_eq x y).mp q)).1, (if0 _ _).trans (feq fun q => h ((lw_eq x y).mp q)).2⟩
def own_look {α : Type} (i : Nat) : List (Nat × α) → Option α
  | [] => none
  | (j, v) :: r => if i = j then some v else own_look i r
theorem own_look_mem {α : Type} {i : Nat} {v : α} : ∀ {L : List (Nat × α)}, own_look i L = some v → (i, v) ∈ L
  | [], h => by cases h
  | (j, w) :: r, h => by
    unfold own_look at h
    by_cases q : i = j
    · rw [if_pos q] at h; cases h; subst q; exact List.mem_cons_self
    · rw [if_neg q] at h; exact List.mem_cons_of_mem _ (own_look_mem h)
def own_pstep (ci : List (Nat × Int32)) (cl : List (Nat × Int64)) (i : Instr) (n : Nat) (g : JFrame) : Option JFrame :=
  match i with
  | .iload_n k => if n = 1 then (match g.locals[k.val]? with | some (.val (.int v)) => some { g with pc := g.pc + 1, stack := .int v :: g.stack } | _ => none) else none
  | .iload k => if n = 2 then (match g.locals[k]? with | some (.val (.int v)) => some { g with pc := g.pc + 2, stack := .int v :: g.stack } | _ => none) else none
  | .lload_n k => if n = 1 then (match g.locals[k.val]? with | some (.val (.long v)) => some { g with pc := g.pc + 1, stack := .long v :: g.stack } | _ => none) else none
  | .lload k => if n = 2 then (match g.locals[k]? with | some (.val (.long v)) => some { g with pc := g.pc + 2, stack := .long v :: g.stack } | _ => none) else none
  | .aload_n k => if n = 1 then (match g.locals[k.val]? with | some (.val v) => if v.isRef = true then some { g with pc := g.pc + 1, stack := v :: g.stack } else none | _ => none) else none
  | .aload k => if n = 2 then (match g.locals[k]? with | some (.val v) => if v.isRef = true then some { g with pc := g.pc + 2, stack := v :: g.stack } else none | _ => none) else none
  | .istore_n k => if n = 1 then (match g.stack with | .int x :: rest => (match storeLocals g.locals k.val (.int x) with | some l' => some { g with pc := g.pc + 1, stack := rest, locals := l' } | none => none) | _ => none) else none
  | .istore k => if n = 2 then (match g.stack with | .int x :: rest => (match storeLocals g.locals k (.int x) with | some l' => some { g with pc := g.pc + 2, stack := rest, locals := l' } | none => none) | _ => none) else none
  | .lstore_n k => if n = 1 then (match g.stack with | .long x :: rest => (match storeLocals g.locals k.val (.long x) with | some l' => some { g with pc := g.pc + 1, stack := rest, locals := l' } | none => none) | _ => none) else none
  | .lstore k => if n = 2 then (match g.stack with | .long x :: rest => (match storeLocals g.locals k (.long x) with | some l' => some { g with pc := g.pc + 2, stack := rest, locals := l' } | none => none) | _ => none) else none
  | .astore_n k => if n = 1 then (match g.stack with | x :: rest => (if x.isRef = true then (match storeLocals g.locals k.val x with | some l' => some { g with pc := g.pc + 1, stack := rest, locals := l' } | none => none) else none) | _ => none) else none
  | .astore k => if n = 2 then (match g.stack with | x :: rest => (if x.isRef = true then (match storeLocals g.locals k x with | some l' => some { g with pc := g.pc + 2, stack := rest, locals := l' } | none => none) else none) | _ => none) else none
  | .iconst i => if n = 1 then (some { g with pc := g.pc + 1, stack := .int (Int32.ofInt i) :: g.stack }) else none
  | .bipush i => if n = 2 then (some { g with pc := g.pc + 2, stack := .int (Int8.ofInt i).toInt32 :: g.stack }) else none
  | .sipush i => if n = 3 then (some { g with pc := g.pc + 3, stack := .int (Int16.ofInt i).toInt32 :: g.stack }) else none
  | .lconst k => if n = 1 then (some { g with pc := g.pc + 1, stack := .long (Int64.ofNat k) :: g.stack }) else none
  | .aconst_null => if n = 1 then (some { g with pc := g.pc + 1, stack := .null :: g.stack }) else none
  | .iadd => if n = 1 then (match g.stack with | .int y :: .int x :: rest => some { g with pc := g.pc + 1, stack := .int (x + y) :: rest } | _ => none) else none
  | .ladd => if n = 1 then (match g.stack with | .long y :: .long x :: rest => some { g with pc := g.pc + 1, stack := .long (x + y) :: rest } | _ => none) else none
  | .isub => if n = 1 then (match g.stack with | .int y :: .int x :: rest => some { g with pc := g.pc + 1, stack := .int (x - y) :: rest } | _ => none) else none
  | .lsub => if n = 1 then (match g.stack with | .long y :: .long x :: rest => some { g with pc := g.pc + 1, stack := .long (x - y) :: rest } | _ => none) else none
  | .imul => if n = 1 then (match g.stack with | .int y :: .int x :: rest => some { g with pc := g.pc + 1, stack := .int (x * y) :: rest } | _ => none) else none
  | .lmul => if n = 1 then (match g.stack with | .long y :: .long x :: rest => some { g with pc := g.pc + 1, stack := .long (x * y) :: rest } | _ => none) else none
  | .iand => if n = 1 then (match g.stack with | .int y :: .int x :: rest => some { g with pc := g.pc + 1, stack := .int (x &&& y) :: rest } | _ => none) else none
  | .land => if n = 1 then (match g.stack with | .long y :: .long x :: rest => some { g with pc := g.pc + 1, stack := .long (x &&& y) :: rest } | _ => none) else none
  | .ior => if n = 1 then (match g.stack with | .int y :: .int x :: rest => some { g with pc := g.pc + 1, stack := .int (x ||| y) :: rest } | _ => none) else none
  | .lor => if n = 1 then (match g.stack with | .long y :: .long x :: rest => some { g with pc := g.pc + 1, stack := .long (x ||| y) :: rest } | _ => none) else none
  | .ixor => if n = 1 then (match g.stack with | .int y :: .int x :: rest => some { g with pc := g.pc + 1, stack := .int (x ^^^ y) :: rest } | _ => none) else none
  | .lxor => if n = 1 then (match g.stack with | .long y :: .long x :: rest => some { g with pc := g.pc + 1, stack := .long (x ^^^ y) :: rest } | _ => none) else none
  | .ishl => if n = 1 then (match g.stack with | .int y :: .int x :: rest => some { g with pc := g.pc + 1, stack := .int (x <<< (y &&& 31)) :: rest } | _ => none) else none
  | .ishr => if n = 1 then (match g.stack with | .int y :: .int x :: rest => some { g with pc := g.pc + 1, stack := .int (x >>> (y &&& 31)) :: rest } | _ => none) else none
  | .iushr => if n = 1 then (match g.stack with | .int y :: .int x :: rest => some { g with pc := g.pc + 1, stack := .int ((x.toUInt32 >>> (y &&& 31).toUInt32).toInt32) :: rest } | _ => none) else none
  | .lshl => if n = 1 then (match g.stack with | .int y :: .long x :: rest => some { g with pc := g.pc + 1, stack := .long (x <<< (y &&& 0x3f).toInt64) :: rest } | _ => none) else none
  | .lshr => if n = 1 then (match g.stack with | .int y :: .long x :: rest => some { g with pc := g.pc + 1, stack := .long (x >>> (y &&& 0x3f).toInt64) :: rest } | _ => none) else none
  | .lushr => if n = 1 then (match g.stack with | .int y :: .long x :: rest => some { g with pc := g.pc + 1, stack := .long ((x.toUInt64 >>> (y &&& 0x3f).toInt64.toUInt64).toInt64) :: rest } | _ => none) else none
  | .lcmp => if n = 1 then (match g.stack with | .long y :: .long x :: rest => some { g with pc := g.pc + 1, stack := .int (if x > y then 1 else if x = y then 0 else -1) :: rest } | _ => none) else none
  | .ineg => if n = 1 then (match g.stack with | .int v :: rest => some { g with pc := g.pc + 1, stack := .int (-v) :: rest } | _ => none) else none
  | .lneg => if n = 1 then (match g.stack with | .long v :: rest => some { g with pc := g.pc + 1, stack := .long (-v) :: rest } | _ => none) else none
  | .i2l => if n = 1 then (match g.stack with | .int v :: rest => some { g with pc := g.pc + 1, stack := .long (v.toInt64) :: rest } | _ => none) else none
  | .l2i => if n = 1 then (match g.stack with | .long v :: rest => some { g with pc := g.pc + 1, stack := .int (v.toInt32) :: rest } | _ => none) else none
  | .i2b => if n = 1 then (match g.stack with | .int v :: rest => some { g with pc := g.pc + 1, stack := .int (v.toInt8.toInt32) :: rest } | _ => none) else none
  | .i2c => if n = 1 then (match g.stack with | .int v :: rest => some { g with pc := g.pc + 1, stack := .int (v.toUInt32.toUInt16.toUInt32.toInt32) :: rest } | _ => none) else none
  | .i2s => if n = 1 then (match g.stack with | .int v :: rest => some { g with pc := g.pc + 1, stack := .int (v.toInt16.toInt32) :: rest } | _ => none) else none
  | .iinc k cst => if n = 3 then (match g.locals[k]? with | some (.val (.int x)) => (match storeLocals g.locals k (.int (x + Int32.ofInt cst)) with | some l' => some { g with pc := g.pc + 3, locals := l' } | none => none) | _ => none) else none
  | .dup => if n = 1 then (match g.stack with | x :: rest => (if x.category = 1 then some { g with pc := g.pc + 1, stack := x :: x :: rest } else none) | _ => none) else none
  | .pop => if n = 1 then (match g.stack with | x :: rest => (if x.category = 1 then some { g with pc := g.pc + 1, stack := rest } else none) | _ => none) else none
  | .goto o => if n = 3 then (if 0 ≤ (g.pc : Int) + o then some { g with pc := ((g.pc : Int) + o).toNat } else none) else none
  | .ldc i => if n = 2 then (match own_look i ci with | some v => some { g with pc := g.pc + 2, stack := .int v :: g.stack } | none => none) else none
  | .ldc_w i => if n = 3 then (match own_look i ci with | some v => some { g with pc := g.pc + 3, stack := .int v :: g.stack } | none => none) else none
  | .ldc2_w i => if n = 3 then (match own_look i cl with | some v => some { g with pc := g.pc + 3, stack := .long v :: g.stack } | none => none) else none
  | .idiv => if n = 1 then (match g.stack with | .int y :: .int x :: rest => (if y = 0 then none else some { g with pc := g.pc + 1, stack := .int (x / y) :: rest }) | _ => none) else none
  | .irem => if n = 1 then (match g.stack with | .int y :: .int x :: rest => (if y = 0 then none else some { g with pc := g.pc + 1, stack := .int (x - (x / y) * y) :: rest }) | _ => none) else none
  | .ldiv => if n = 1 then (match g.stack with | .long y :: .long x :: rest => (if y = 0 then none else some { g with pc := g.pc + 1, stack := .long (x / y) :: rest }) | _ => none) else none
  | .lrem => if n = 1 then (match g.stack with | .long y :: .long x :: rest => (if y = 0 then none else some { g with pc := g.pc + 1, stack := .long (x - (x / y) * y) :: rest }) | _ => none) else none
  | _ => none
section OwnRun
variable {p : Program} {l : Launch} {e : Env} {R : Room} {s : State} {m : MethodId} {args : Array Value} {below : List Frame} {meth : Method} {c : Code} {T target : State} {locs : List Loc} {cells slots kc ks : Nat} {own : String} {ci : List (Nat × Int32)} {cl : List (Nat × Int64)} {Q : Option Value → Heap → List Loc → Prop}
set_option maxHeartbeats 4000000 in
theorem own_pstep_ok (X : Stand p l e R s m args below meth c T locs cells slots) (hx : p.tables.exec = Jvm.exec) (hown : s.vm.findClass own = some m.cls) (hci : ∀ i v, (i, v) ∈ ci → (Cond.constant own i v).before args s = true) (hcl : ∀ i v, (i, v) ∈ cl → (Cond.constantLong own i v).before args s = true)
    {g g' : JFrame} (hg : g.method = m) {i : Instr} {n : Nat} (hd : decode c.code g.pc = .ok (i, n)) (hp : own_pstep ci cl i n g = some g') : (∀ target, Steps p.tables e below (T.setTop g') target → Steps p.tables e below (T.setTop g) target) ∧ g'.method = m := by
  cases i
  all_goals first
    | (exact absurd hp (by intro q; cases q))
    | skip
  case iload_n k =>
    by_cases hn : n = 1
    · subst hn
      replace hp : (match g.locals[k.val]? with | some (.val (.int v)) => some { g with pc := g.pc + 1, stack := .int v :: g.stack } | _ => none) = some g' := hp
      split at hp
      · skip
        cases hp
        exact ⟨fun _ hr => XS.iloadN X.here hx hg hd (by assumption) hr, hg⟩
      · cases hp
    · exact absurd hp (by intro q; rw [show own_pstep ci cl (.iload_n k) n g = none from if_neg hn] at q; cases q)
  case iload k =>
    by_cases hn : n = 2
    · subst hn
      replace hp : (match g.locals[k]? with | some (.val (.int v)) => some { g with pc := g.pc + 2, stack := .int v :: g.stack } | _ => none) = some g' := hp
      split at hp
      · skip
        cases hp
        exact ⟨fun _ hr => XS.iload X.here hx hg hd (by assumption) hr, hg⟩
      · cases hp
    · exact absurd hp (by intro q; rw [show own_pstep ci cl (.iload k) n g = none from if_neg hn] at q; cases q)
  case lload_n k =>
    by_cases hn : n = 1
    · subst hn
      replace hp : (match g.locals[k.val]? with | some (.val (.long v)) => some { g with pc := g.pc + 1, stack := .long v :: g.stack } | _ => none) = some g' := hp
      split at hp
      · skip
        cases hp
        exact ⟨fun _ hr => XS.lloadN X.here hx hg hd (by assumption) hr, hg⟩
      · cases hp
    · exact absurd hp (by intro q; rw [show own_pstep ci cl (.lload_n k) n g = none from if_neg hn] at q; cases q)
  case lload k =>
    by_cases hn : n = 2
    · subst hn
      replace hp : (match g.locals[k]? with | some (.val (.long v)) => some { g with pc := g.pc + 2, stack := .long v :: g.stack } | _ => none) = some g' := hp
      split at hp
      · skip
        cases hp
        exact ⟨fun _ hr => XS.lload X.here hx hg hd (by assumption) hr, hg⟩
      · cases hp
    · exact absurd hp (by intro q; rw [show own_pstep ci cl (.lload k) n g = none from if_neg hn] at q; cases q)
  case aload_n k =>
    by_cases hn : n = 1
    · subst hn
      replace hp : (match g.locals[k.val]? with | some (.val v) => if v.isRef = true then some { g with pc := g.pc + 1, stack := v :: g.stack } else none | _ => none) = some g' := hp
      split at hp
      · skip
        split at hp
        · skip
          cases hp
          exact ⟨fun _ hr => XS.aloadN X.here hx hg hd (by assumption) (by assumption) hr, hg⟩
        · cases hp
      · cases hp
    · exact absurd hp (by intro q; rw [show own_pstep ci cl (.aload_n k) n g = none from if_neg hn] at q; cases q)
  case aload k =>
    by_cases hn : n = 2
    · subst hn
      replace hp : (match g.locals[k]? with | some (.val v) => if v.isRef = true then some { g with pc := g.pc + 2, stack := v :: g.stack } else none | _ => none) = some g' := hp
      split at hp
      · skip
        split at hp
        · skip
          cases hp
          exact ⟨fun _ hr => XS.aload X.here hx hg hd (by assumption) (by assumption) hr, hg⟩
        · cases hp
      · cases hp
    · exact absurd hp (by intro q; rw [show own_pstep ci cl (.aload k) n g = none from if_neg hn] at q; cases q)
  case istore_n k =>
    by_cases hn : n = 1
    · subst hn
      replace hp : (match g.stack with | .int x :: rest => (match storeLocals g.locals k.val (.int x) with | some l' => some { g with pc := g.pc + 1, stack := rest, locals := l' } | none => none) | _ => none) = some g' := hp
      split at hp
      · skip
        split at hp
        · skip
          cases hp
          exact ⟨fun _ hr => XS.istoreN X.here hx hg hd (by assumption) (by assumption) hr, hg⟩
        · cases hp
      · cases hp
    · exact absurd hp (by intro q; rw [show own_pstep ci cl (.istore_n k) n g = none from if_neg hn] at q; cases q)
  case istore k =>
    by_cases hn : n = 2
    · subst hn
      replace hp : (match g.stack with | .int x :: rest => (match storeLocals g.locals k (.int x) with | some l' => some { g with pc := g.pc + 2, stack := rest, locals := l' } | none => none) | _ => none) = some g' := hp
      split at hp
      · skip
        split at hp
        · skip
          cases hp
          exact ⟨fun _ hr => XS.istore X.here hx hg hd (by assumption) (by assumption) hr, hg⟩
        · cases hp
      · cases hp
    · exact absurd hp (by intro q; rw [show own_pstep ci cl (.istore k) n g = none from if_neg hn] at q; cases q)
  case lstore_n k =>
    by_cases hn : n = 1
    · subst hn
      replace hp : (match g.stack with | .long x :: rest => (match storeLocals g.locals k.val (.long x) with | some l' => some { g with pc := g.pc + 1, stack := rest, locals := l' } | none => none) | _ => none) = some g' := hp
      split at hp
      · skip
        split at hp
        · skip
          cases hp
          exact ⟨fun _ hr => XS.lstoreN X.here hx hg hd (by assumption) (by assumption) hr, hg⟩
        · cases hp
      · cases hp
    · exact absurd hp (by intro q; rw [show own_pstep ci cl (.lstore_n k) n g = none from if_neg hn] at q; cases q)
  case lstore k =>
    by_cases hn : n = 2
    · subst hn
      replace hp : (match g.stack with | .long x :: rest => (match storeLocals g.locals k (.long x) with | some l' => some { g with pc := g.pc + 2, stack := rest, locals := l' } | none => none) | _ => none) = some g' := hp
      split at hp
      · skip
        split at hp
        · skip
          cases hp
          exact ⟨fun _ hr => XS.lstore X.here hx hg hd (by assumption) (by assumption) hr, hg⟩
        · cases hp
      · cases hp
    · exact absurd hp (by intro q; rw [show own_pstep ci cl (.lstore k) n g = none from if_neg hn] at q; cases q)
  case astore_n k =>
    by_cases hn : n = 1
    · subst hn
      replace hp : (match g.stack with | x :: rest => (if x.isRef = true then (match storeLocals g.locals k.val x with | some l' => some { g with pc := g.pc + 1, stack := rest, locals := l' } | none => none) else none) | _ => none) = some g' := hp
      split at hp
      · skip
        split at hp
        · skip
          split at hp
          · skip
            cases hp
            exact ⟨fun _ hr => XS.astoreN X.here hx hg hd (by assumption) (by assumption) (by assumption) hr, hg⟩
          · cases hp
        · cases hp
      · cases hp
    · exact absurd hp (by intro q; rw [show own_pstep ci cl (.astore_n k) n g = none from if_neg hn] at q; cases q)
  case astore k =>
    by_cases hn : n = 2
    · subst hn
      replace hp : (match g.stack with | x :: rest => (if x.isRef = true then (match storeLocals g.locals k x with | some l' => some { g with pc := g.pc + 2, stack := rest, locals := l' } | none => none) else none) | _ => none) = some g' := hp
      split at hp
      · skip
        split at hp
        · skip
          split at hp
          · skip
            cases hp
            exact ⟨fun _ hr => XS.astore X.here hx hg hd (by assumption) (by assumption) (by assumption) hr, hg⟩
          · cases hp
        · cases hp
      · cases hp
    · exact absurd hp (by intro q; rw [show own_pstep ci cl (.astore k) n g = none from if_neg hn] at q; cases q)
  case iconst i =>
    by_cases hn : n = 1
    · subst hn
      replace hp : (some { g with pc := g.pc + 1, stack := .int (Int32.ofInt i) :: g.stack }) = some g' := hp
      cases hp
      exact ⟨fun _ hr => XS.iconst X.here hx hg hd hr, hg⟩
    · exact absurd hp (by intro q; rw [show own_pstep ci cl (.iconst i) n g = none from if_neg hn] at q; cases q)
  case bipush i =>
    by_cases hn : n = 2
    · subst hn
      replace hp : (some { g with pc := g.pc + 2, stack := .int (Int8.ofInt i).toInt32 :: g.stack }) = some g' := hp
      cases hp
      exact ⟨fun _ hr => XS.bipush X.here hx hg hd hr, hg⟩
    · exact absurd hp (by intro q; rw [show own_pstep ci cl (.bipush i) n g = none from if_neg hn] at q; cases q)
  case sipush i =>
    by_cases hn : n = 3
    · subst hn
      replace hp : (some { g with pc := g.pc + 3, stack := .int (Int16.ofInt i).toInt32 :: g.stack }) = some g' := hp
      cases hp
      exact ⟨fun _ hr => XS.sipush X.here hx hg hd hr, hg⟩
    · exact absurd hp (by intro q; rw [show own_pstep ci cl (.sipush i) n g = none from if_neg hn] at q; cases q)
  case lconst k =>
    by_cases hn : n = 1
    · subst hn
      replace hp : (some { g with pc := g.pc + 1, stack := .long (Int64.ofNat k) :: g.stack }) = some g' := hp
      cases hp
      exact ⟨fun _ hr => XS.lconst X.here hx hg hd hr, hg⟩
    · exact absurd hp (by intro q; rw [show own_pstep ci cl (.lconst k) n g = none from if_neg hn] at q; cases q)
  case aconst_null =>
    by_cases hn : n = 1
    · subst hn
      replace hp : (some { g with pc := g.pc + 1, stack := .null :: g.stack }) = some g' := hp
      cases hp
      exact ⟨fun _ hr => XS.aconstNull X.here hx hg hd hr, hg⟩
    · exact absurd hp (by intro q; rw [show own_pstep ci cl (.aconst_null) n g = none from if_neg hn] at q; cases q)
  case iadd =>
    by_cases hn : n = 1
    · subst hn
      replace hp : (match g.stack with | .int y :: .int x :: rest => some { g with pc := g.pc + 1, stack := .int (x + y) :: rest } | _ => none) = some g' := hp
      split at hp
      · skip
        cases hp
        exact ⟨fun _ hr => XS.iadd X.here hx hg hd (by assumption) hr, hg⟩
      · cases hp
    · exact absurd hp (by intro q; rw [show own_pstep ci cl (.iadd) n g = none from if_neg hn] at q; cases q)
  case ladd =>
    by_cases hn : n = 1
    · subst hn
      replace hp : (match g.stack with | .long y :: .long x :: rest => some { g with pc := g.pc + 1, stack := .long (x + y) :: rest } | _ => none) = some g' := hp
      split at hp
      · skip
        cases hp
        exact ⟨fun _ hr => XS.ladd X.here hx hg hd (by assumption) hr, hg⟩
      · cases hp
    · exact absurd hp (by intro q; rw [show own_pstep ci cl (.ladd) n g = none from if_neg hn] at q; cases q)
  case isub =>
    by_cases hn : n = 1
    · subst hn
      replace hp : (match g.stack with | .int y :: .int x :: rest => some { g with pc := g.pc + 1, stack := .int (x - y) :: rest } | _ => none) = some g' := hp
      split at hp
      · skip
        cases hp
        exact ⟨fun _ hr => XS.isub X.here hx hg hd (by assumption) hr, hg⟩
      · cases hp
    · exact absurd hp (by intro q; rw [show own_pstep ci cl (.isub) n g = none from if_neg hn] at q; cases q)
  case lsub =>
    by_cases hn : n = 1
    · subst hn
      replace hp : (match g.stack with | .long y :: .long x :: rest => some { g with pc := g.pc + 1, stack := .long (x - y) :: rest } | _ => none) = some g' := hp
      split at hp
      · skip
        cases hp
        exact ⟨fun _ hr => XS.lsub X.here hx hg hd (by assumption) hr, hg⟩
      · cases hp
    · exact absurd hp (by intro q; rw [show own_pstep ci cl (.lsub) n g = none from if_neg hn] at q; cases q)
  case imul =>
    by_cases hn : n = 1
    · subst hn
      replace hp : (match g.stack with | .int y :: .int x :: rest => some { g with pc := g.pc + 1, stack := .int (x * y) :: rest } | _ => none) = some g' := hp
      split at hp
      · skip
        cases hp
        exact ⟨fun _ hr => XS.imul X.here hx hg hd (by assumption) hr, hg⟩
      · cases hp
    · exact absurd hp (by intro q; rw [show own_pstep ci cl (.imul) n g = none from if_neg hn] at q; cases q)
  case lmul =>
    by_cases hn : n = 1
    · subst hn
      replace hp : (match g.stack with | .long y :: .long x :: rest => some { g with pc := g.pc + 1, stack := .long (x * y) :: rest } | _ => none) = some g' := hp
      split at hp
      · skip
        cases hp
        exact ⟨fun _ hr => XS.lmul X.here hx hg hd (by assumption) hr, hg⟩
      · cases hp
    · exact absurd hp (by intro q; rw [show own_pstep ci cl (.lmul) n g = none from if_neg hn] at q; cases q)
  case iand =>
    by_cases hn : n = 1
    · subst hn
      replace hp : (match g.stack with | .int y :: .int x :: rest => some { g with pc := g.pc + 1, stack := .int (x &&& y) :: rest } | _ => none) = some g' := hp
      split at hp
      · skip
        cases hp
        exact ⟨fun _ hr => XS.iand X.here hx hg hd (by assumption) hr, hg⟩
      · cases hp
    · exact absurd hp (by intro q; rw [show own_pstep ci cl (.iand) n g = none from if_neg hn] at q; cases q)
  case land =>
    by_cases hn : n = 1
    · subst hn
      replace hp : (match g.stack with | .long y :: .long x :: rest => some { g with pc := g.pc + 1, stack := .long (x &&& y) :: rest } | _ => none) = some g' := hp
      split at hp
      · skip
        cases hp
        exact ⟨fun _ hr => XS.land X.here hx hg hd (by assumption) hr, hg⟩
      · cases hp
    · exact absurd hp (by intro q; rw [show own_pstep ci cl (.land) n g = none from if_neg hn] at q; cases q)
  case ior =>
    by_cases hn : n = 1
    · subst hn
      replace hp : (match g.stack with | .int y :: .int x :: rest => some { g with pc := g.pc + 1, stack := .int (x ||| y) :: rest } | _ => none) = some g' := hp
      split at hp
      · skip
        cases hp
        exact ⟨fun _ hr => XS.ior X.here hx hg hd (by assumption) hr, hg⟩
      · cases hp
    · exact absurd hp (by intro q; rw [show own_pstep ci cl (.ior) n g = none from if_neg hn] at q; cases q)
  case lor =>
    by_cases hn : n = 1
    · subst hn
      replace hp : (match g.stack with | .long y :: .long x :: rest => some { g with pc := g.pc + 1, stack := .long (x ||| y) :: rest } | _ => none) = some g' := hp
      split at hp
      · skip
        cases hp
        exact ⟨fun _ hr => XS.lor X.here hx hg hd (by assumption) hr, hg⟩
      · cases hp
    · exact absurd hp (by intro q; rw [show own_pstep ci cl (.lor) n g = none from if_neg hn] at q; cases q)
  case ixor =>
    by_cases hn : n = 1
    · subst hn
      replace hp : (match g.stack with | .int y :: .int x :: rest => some { g with pc := g.pc + 1, stack := .int (x ^^^ y) :: rest } | _ => none) = some g' := hp
      split at hp
      · skip
        cases hp
        exact ⟨fun _ hr => XS.ixor X.here hx hg hd (by assumption) hr, hg⟩
      · cases hp
    · exact absurd hp (by intro q; rw [show own_pstep ci cl (.ixor) n g = none from if_neg hn] at q; cases q)
  case lxor =>
    by_cases hn : n = 1
    · subst hn
      replace hp : (match g.stack with | .long y :: .long x :: rest => some { g with pc := g.pc + 1, stack := .long (x ^^^ y) :: rest } | _ => none) = some g' := hp
      split at hp
      · skip
        cases hp
        exact ⟨fun _ hr => XS.lxor X.here hx hg hd (by assumption) hr, hg⟩
      · cases hp
    · exact absurd hp (by intro q; rw [show own_pstep ci cl (.lxor) n g = none from if_neg hn] at q; cases q)
  case ishl =>
    by_cases hn : n = 1
    · subst hn
      replace hp : (match g.stack with | .int y :: .int x :: rest => some { g with pc := g.pc + 1, stack := .int (x <<< (y &&& 31)) :: rest } | _ => none) = some g' := hp
      split at hp
      · skip
        cases hp
        exact ⟨fun _ hr => XS.ishl X.here hx hg hd (by assumption) hr, hg⟩
      · cases hp
    · exact absurd hp (by intro q; rw [show own_pstep ci cl (.ishl) n g = none from if_neg hn] at q; cases q)
  case ishr =>
    by_cases hn : n = 1
    · subst hn
      replace hp : (match g.stack with | .int y :: .int x :: rest => some { g with pc := g.pc + 1, stack := .int (x >>> (y &&& 31)) :: rest } | _ => none) = some g' := hp
      split at hp
      · skip
        cases hp
        exact ⟨fun _ hr => XS.ishr X.here hx hg hd (by assumption) hr, hg⟩
      · cases hp
    · exact absurd hp (by intro q; rw [show own_pstep ci cl (.ishr) n g = none from if_neg hn] at q; cases q)
  case iushr =>
    by_cases hn : n = 1
    · subst hn
      replace hp : (match g.stack with | .int y :: .int x :: rest => some { g with pc := g.pc + 1, stack := .int ((x.toUInt32 >>> (y &&& 31).toUInt32).toInt32) :: rest } | _ => none) = some g' := hp
      split at hp
      · skip
        cases hp
        exact ⟨fun _ hr => XS.iushr X.here hx hg hd (by assumption) hr, hg⟩
      · cases hp
    · exact absurd hp (by intro q; rw [show own_pstep ci cl (.iushr) n g = none from if_neg hn] at q; cases q)
  case lshl =>
    by_cases hn : n = 1
    · subst hn
      replace hp : (match g.stack with | .int y :: .long x :: rest => some { g with pc := g.pc + 1, stack := .long (x <<< (y &&& 0x3f).toInt64) :: rest } | _ => none) = some g' := hp
      split at hp
      · skip
        cases hp
        exact ⟨fun _ hr => XS.lshl X.here hx hg hd (by assumption) hr, hg⟩
      · cases hp
    · exact absurd hp (by intro q; rw [show own_pstep ci cl (.lshl) n g = none from if_neg hn] at q; cases q)
  case lshr =>
    by_cases hn : n = 1
    · subst hn
      replace hp : (match g.stack with | .int y :: .long x :: rest => some { g with pc := g.pc + 1, stack := .long (x >>> (y &&& 0x3f).toInt64) :: rest } | _ => none) = some g' := hp
      split at hp
      · skip
        cases hp
        exact ⟨fun _ hr => XS.lshr X.here hx hg hd (by assumption) hr, hg⟩
      · cases hp
    · exact absurd hp (by intro q; rw [show own_pstep ci cl (.lshr) n g = none from if_neg hn] at q; cases q)
  case lushr =>
    by_cases hn : n = 1
    · subst hn
      replace hp : (match g.stack with | .int y :: .long x :: rest => some { g with pc := g.pc + 1, stack := .long ((x.toUInt64 >>> (y &&& 0x3f).toInt64.toUInt64).toInt64) :: rest } | _ => none) = some g' := hp
      split at hp
      · skip
        cases hp
        exact ⟨fun _ hr => XS.lushr X.here hx hg hd (by assumption) hr, hg⟩
      · cases hp
    · exact absurd hp (by intro q; rw [show own_pstep ci cl (.lushr) n g = none from if_neg hn] at q; cases q)
  case lcmp =>
    by_cases hn : n = 1
    · subst hn
      replace hp : (match g.stack with | .long y :: .long x :: rest => some { g with pc := g.pc + 1, stack := .int (if x > y then 1 else if x = y then 0 else -1) :: rest } | _ => none) = some g' := hp
      split at hp
      · skip
        cases hp
        exact ⟨fun _ hr => XS.lcmp X.here hx hg hd (by assumption) hr, hg⟩
      · cases hp
    · exact absurd hp (by intro q; rw [show own_pstep ci cl (.lcmp) n g = none from if_neg hn] at q; cases q)
  case ineg =>
    by_cases hn : n = 1
    · subst hn
      replace hp : (match g.stack with | .int v :: rest => some { g with pc := g.pc + 1, stack := .int (-v) :: rest } | _ => none) = some g' := hp
      split at hp
      · skip
        cases hp
        exact ⟨fun _ hr => XS.ineg X.here hx hg hd (by assumption) hr, hg⟩
      · cases hp
    · exact absurd hp (by intro q; rw [show own_pstep ci cl (.ineg) n g = none from if_neg hn] at q; cases q)
  case lneg =>
    by_cases hn : n = 1
    · subst hn
      replace hp : (match g.stack with | .long v :: rest => some { g with pc := g.pc + 1, stack := .long (-v) :: rest } | _ => none) = some g' := hp
      split at hp
      · skip
        cases hp
        exact ⟨fun _ hr => XS.lneg X.here hx hg hd (by assumption) hr, hg⟩
      · cases hp
    · exact absurd hp (by intro q; rw [show own_pstep ci cl (.lneg) n g = none from if_neg hn] at q; cases q)
  case i2l =>
    by_cases hn : n = 1
    · subst hn
      replace hp : (match g.stack with | .int v :: rest => some { g with pc := g.pc + 1, stack := .long (v.toInt64) :: rest } | _ => none) = some g' := hp
      split at hp
      · skip
        cases hp
        exact ⟨fun _ hr => XS.i2l X.here hx hg hd (by assumption) hr, hg⟩
      · cases hp
    · exact absurd hp (by intro q; rw [show own_pstep ci cl (.i2l) n g = none from if_neg hn] at q; cases q)
  case l2i =>
    by_cases hn : n = 1
    · subst hn
      replace hp : (match g.stack with | .long v :: rest => some { g with pc := g.pc + 1, stack := .int (v.toInt32) :: rest } | _ => none) = some g' := hp
      split at hp
      · skip
        cases hp
        exact ⟨fun _ hr => XS.l2i X.here hx hg hd (by assumption) hr, hg⟩
      · cases hp
    · exact absurd hp (by intro q; rw [show own_pstep ci cl (.l2i) n g = none from if_neg hn] at q; cases q)
  case i2b =>
    by_cases hn : n = 1
    · subst hn
      replace hp : (match g.stack with | .int v :: rest => some { g with pc := g.pc + 1, stack := .int (v.toInt8.toInt32) :: rest } | _ => none) = some g' := hp
      split at hp
      · skip
        cases hp
        exact ⟨fun _ hr => XS.i2b X.here hx hg hd (by assumption) hr, hg⟩
      · cases hp
    · exact absurd hp (by intro q; rw [show own_pstep ci cl (.i2b) n g = none from if_neg hn] at q; cases q)
  case i2c =>
    by_cases hn : n = 1
    · subst hn
      replace hp : (match g.stack with | .int v :: rest => some { g with pc := g.pc + 1, stack := .int (v.toUInt32.toUInt16.toUInt32.toInt32) :: rest } | _ => none) = some g' := hp
      split at hp
      · skip
        cases hp
        exact ⟨fun _ hr => XS.i2c X.here hx hg hd (by assumption) hr, hg⟩
      · cases hp
    · exact absurd hp (by intro q; rw [show own_pstep ci cl (.i2c) n g = none from if_neg hn] at q; cases q)
  case i2s =>
    by_cases hn : n = 1
    · subst hn
      replace hp : (match g.stack with | .int v :: rest => some { g with pc := g.pc + 1, stack := .int (v.toInt16.toInt32) :: rest } | _ => none) = some g' := hp
      split at hp
      · skip
        cases hp
        exact ⟨fun _ hr => XS.i2s X.here hx hg hd (by assumption) hr, hg⟩
      · cases hp
    · exact absurd hp (by intro q; rw [show own_pstep ci cl (.i2s) n g = none from if_neg hn] at q; cases q)
  case iinc k cst =>
    by_cases hn : n = 3
    · subst hn
      replace hp : (match g.locals[k]? with | some (.val (.int x)) => (match storeLocals g.locals k (.int (x + Int32.ofInt cst)) with | some l' => some { g with pc := g.pc + 3, locals := l' } | none => none) | _ => none) = some g' := hp
      split at hp
      · skip
        split at hp
        · skip
          cases hp
          exact ⟨fun _ hr => XS.iinc X.here hx hg hd (by assumption) (by assumption) hr, hg⟩
        · cases hp
      · cases hp
    · exact absurd hp (by intro q; rw [show own_pstep ci cl (.iinc k cst) n g = none from if_neg hn] at q; cases q)
  case dup =>
    by_cases hn : n = 1
    · subst hn
      replace hp : (match g.stack with | x :: rest => (if x.category = 1 then some { g with pc := g.pc + 1, stack := x :: x :: rest } else none) | _ => none) = some g' := hp
      split at hp
      · skip
        split at hp
        · skip
          cases hp
          exact ⟨fun _ hr => XS.dup X.here hx hg hd (by assumption) (by assumption) hr, hg⟩
        · cases hp
      · cases hp
    · exact absurd hp (by intro q; rw [show own_pstep ci cl (.dup) n g = none from if_neg hn] at q; cases q)
  case pop =>
    by_cases hn : n = 1
    · subst hn
      replace hp : (match g.stack with | x :: rest => (if x.category = 1 then some { g with pc := g.pc + 1, stack := rest } else none) | _ => none) = some g' := hp
      split at hp
      · skip
        split at hp
        · skip
          cases hp
          exact ⟨fun _ hr => XS.pop X.here hx hg hd (by assumption) (by assumption) hr, hg⟩
        · cases hp
      · cases hp
    · exact absurd hp (by intro q; rw [show own_pstep ci cl (.pop) n g = none from if_neg hn] at q; cases q)
  case goto o =>
    by_cases hn : n = 3
    · subst hn
      replace hp : (if 0 ≤ (g.pc : Int) + o then some { g with pc := ((g.pc : Int) + o).toNat } else none) = some g' := hp
      split at hp
      · skip
        cases hp
        exact ⟨fun _ hr => XS.goto X.here hx hg rfl hd (by assumption) rfl hr, hg⟩
      · cases hp
    · exact absurd hp (by intro q; rw [show own_pstep ci cl (.goto o) n g = none from if_neg hn] at q; cases q)
  case ldc i =>
    by_cases hn : n = 2
    · subst hn
      replace hp : (match own_look i ci with | some v => some { g with pc := g.pc + 2, stack := .int v :: g.stack } | none => none) = some g' := hp
      split at hp
      · skip
        cases hp
        exact ⟨fun _ hr => X.ldcInt hx hown (hci _ _ (own_look_mem (by assumption))) hg hd _ hr, hg⟩
      · cases hp
    · exact absurd hp (by intro q; rw [show own_pstep ci cl (.ldc i) n g = none from if_neg hn] at q; cases q)
  case ldc_w i =>
    by_cases hn : n = 3
    · subst hn
      replace hp : (match own_look i ci with | some v => some { g with pc := g.pc + 3, stack := .int v :: g.stack } | none => none) = some g' := hp
      split at hp
      · skip
        cases hp
        exact ⟨fun _ hr => X.ldcwInt hx hown (hci _ _ (own_look_mem (by assumption))) hg hd _ hr, hg⟩
      · cases hp
    · exact absurd hp (by intro q; rw [show own_pstep ci cl (.ldc_w i) n g = none from if_neg hn] at q; cases q)
  case ldc2_w i =>
    by_cases hn : n = 3
    · subst hn
      replace hp : (match own_look i cl with | some v => some { g with pc := g.pc + 3, stack := .long v :: g.stack } | none => none) = some g' := hp
      split at hp
      · skip
        cases hp
        exact ⟨fun _ hr => X.ldc2Long hx hown (hcl _ _ (own_look_mem (by assumption))) hg hd _ hr, hg⟩
      · cases hp
    · exact absurd hp (by intro q; rw [show own_pstep ci cl (.ldc2_w i) n g = none from if_neg hn] at q; cases q)
  case idiv =>
    by_cases hn : n = 1
    · subst hn
      replace hp : (match g.stack with | .int y :: .int x :: rest => (if y = 0 then none else some { g with pc := g.pc + 1, stack := .int (x / y) :: rest }) | _ => none) = some g' := hp
      split at hp
      · skip
        split at hp
        · cases hp
        · cases hp; exact ⟨fun _ hr => XS.idiv X.here hx hg hd (by assumption) (by assumption) hr, hg⟩
      · cases hp
    · exact absurd hp (by intro q; rw [show own_pstep ci cl (.idiv) n g = none from if_neg hn] at q; cases q)
  case irem =>
    by_cases hn : n = 1
    · subst hn
      replace hp : (match g.stack with | .int y :: .int x :: rest => (if y = 0 then none else some { g with pc := g.pc + 1, stack := .int (x - (x / y) * y) :: rest }) | _ => none) = some g' := hp
      split at hp
      · skip
        split at hp
        · cases hp
        · cases hp; exact ⟨fun _ hr => XS.irem X.here hx hg hd (by assumption) (by assumption) hr, hg⟩
      · cases hp
    · exact absurd hp (by intro q; rw [show own_pstep ci cl (.irem) n g = none from if_neg hn] at q; cases q)
  case ldiv =>
    by_cases hn : n = 1
    · subst hn
      replace hp : (match g.stack with | .long y :: .long x :: rest => (if y = 0 then none else some { g with pc := g.pc + 1, stack := .long (x / y) :: rest }) | _ => none) = some g' := hp
      split at hp
      · skip
        split at hp
        · cases hp
        · cases hp; exact ⟨fun _ hr => XS.ldiv X.here hx hg hd (by assumption) (by assumption) hr, hg⟩
      · cases hp
    · exact absurd hp (by intro q; rw [show own_pstep ci cl (.ldiv) n g = none from if_neg hn] at q; cases q)
  case lrem =>
    by_cases hn : n = 1
    · subst hn
      replace hp : (match g.stack with | .long y :: .long x :: rest => (if y = 0 then none else some { g with pc := g.pc + 1, stack := .long (x - (x / y) * y) :: rest }) | _ => none) = some g' := hp
      split at hp
      · skip
        split at hp
        · cases hp
        · cases hp; exact ⟨fun _ hr => XS.lrem X.here hx hg hd (by assumption) (by assumption) hr, hg⟩
      · cases hp
    · exact absurd hp (by intro q; rw [show own_pstep ci cl (.lrem) n g = none from if_neg hn] at q; cases q)
def own_decs (code : ByteArray) (L : List (Nat × Instr × Nat)) : Bool := L.all fun q => decide (decode code q.1 = .ok (q.2.1, q.2.2))
def own_prun (ci : List (Nat × Int32)) (cl : List (Nat × Int64)) : List (Nat × Instr × Nat) → JFrame → Option JFrame
  | [], g => some g
  | (pc, i, n) :: r, g => if g.pc = pc then (match own_pstep ci cl i n g with | some g' => own_prun ci cl r g' | none => none) else none
theorem own_prun_ok (X : Stand p l e R s m args below meth c T locs cells slots) (hx : p.tables.exec = Jvm.exec) (hown : s.vm.findClass own = some m.cls) (hci : ∀ i v, (i, v) ∈ ci → (Cond.constant own i v).before args s = true) (hcl : ∀ i v, (i, v) ∈ cl → (Cond.constantLong own i v).before args s = true) {code : ByteArray} (hby : c.code = code) :
    ∀ (L : List (Nat × Instr × Nat)) (g g' : JFrame), g.method = m → own_decs code L = true → own_prun ci cl L g = some g' → Steps p.tables e below (T.setTop g') target → Steps p.tables e below (T.setTop g) target := by
  intro L
  induction L with
  | nil => intro g g' _ _ hp hr; cases hp; exact hr
  | cons q r ih =>
    intro g g' hg hd hp hr
    obtain ⟨pc, i, n⟩ := q
    have hd' : decide (decode code pc = .ok (i, n)) = true ∧ own_decs code r = true := by
      have : (decide (decode code pc = .ok (i, n)) && own_decs code r) = true := hd
      simpa using this
    replace hp : (if g.pc = pc then (match own_pstep ci cl i n g with | some g' => own_prun ci cl r g' | none => none) else none) = some g' := hp
    by_cases hpc : g.pc = pc
    · rw [if_pos hpc] at hp
      cases hs : own_pstep ci cl i n g with
      | none => rw [hs] at hp; cases hp
      | some g1 =>
        rw [hs] at hp
        have q := own_pstep_ok X hx hown hci hcl hg (i := i) (n := n) (by rw [hby, hpc]; exact of_decide_eq_true hd'.1) hs
        exact q.1 _ (ih g1 g' q.2 hd'.2 hp hr)
    · rw [if_neg hpc] at hp; cases hp
theorem Goes.run (X : Stand p l e R s m args below meth c T locs cells slots) (hx : p.tables.exec = Jvm.exec) (hown : s.vm.findClass own = some m.cls) (hci : ∀ i v, (i, v) ∈ ci → (Cond.constant own i v).before args s = true) (hcl : ∀ i v, (i, v) ∈ cl → (Cond.constantLong own i v).before args s = true) {code : ByteArray} (hby : c.code = code)
    {L : List (Nat × Instr × Nat)} (hd : own_decs code L = true) {g g' : JFrame} (hg : g.method = m) (hp : own_prun ci cl L g = some g') (h : Goes p e below s Q kc ks (T.setTop g')) : Goes p e below s Q kc ks (T.setTop g) :=
  Goes.st (fun _ k => own_prun_ok X hx hown hci hcl hby L g g' hg hd hp k) h
theorem own_ci0 {α : Type} {P : Nat → α → Prop} : ∀ i v, (i, v) ∈ ([] : List (Nat × α)) → P i v := fun _ _ q => nomatch q
theorem own_ciS {α : Type} {P : Nat → α → Prop} {j : Nat} {w : α} {L : List (Nat × α)} (h : P j w) (r : ∀ i v, (i, v) ∈ L → P i v) : ∀ i v, (i, v) ∈ (j, w) :: L → P i v := fun i v q => (List.mem_cons.mp q).elim (fun z => by cases z; exact h) (r i v)
end OwnRun
theorem own_rem32 (x y : Int32) : (x - (x / y) * y).toInt = x.toInt.tmod y.toInt := by
  have a := (x % y).toInt_lt; have b := (x % y).le_toInt
  rw [Int32.toInt_mod] at a b
  rw [Int32.toInt_sub, Int32.toInt_mul, Int32.toInt_div, Int.bmod_mul_bmod, Int.sub_bmod_bmod, Int.mul_comm, ← Int.tmod_def]
  exact Jvm.Kit.bmod32 b a
section OwnNums
variable {x y : Int64} {u v : Int32} {a b : Int}
theorem own_r32 (hx : u.toInt = a) (hy : v.toInt = b) (h0 : 0 ≤ a) : (u - (u / v) * v).toInt = a % b := by subst hx hy; rw [own_rem32, Int.tmod_eq_emod_of_nonneg h0]
theorem own_r64 (hx : x.toInt = a) (hy : y.toInt = b) (h0 : 0 ≤ a) : (x - (x / y) * y).toInt = a % b := by subst hx hy; rw [Jvm.Kit.i64_rem, Int.tmod_eq_emod_of_nonneg h0]
theorem own_mul64 (hx : x.toInt = a) (hy : y.toInt = b) (h1 : -2 ^ 63 ≤ a * b) (h2 : a * b < 2 ^ 63) : (x * y).toInt = a * b := by subst hx hy; exact Jvm.Kit.i64_mul h1 h2
theorem own_mul32 (hx : u.toInt = a) (hy : v.toInt = b) (h1 : -2 ^ 31 ≤ a * b) (h2 : a * b < 2 ^ 31) : (u * v).toInt = a * b := by subst hx hy; exact Jvm.Kit.i32_mul h1 h2
theorem own_add64 (hx : x.toInt = a) (hy : y.toInt = b) (h1 : -2 ^ 63 ≤ a + b) (h2 : a + b < 2 ^ 63) : (x + y).toInt = a + b := by subst hx hy; exact Jvm.Kit.i64_add h1 h2
theorem own_add32 (hx : u.toInt = a) (hy : v.toInt = b) (h1 : -2 ^ 31 ≤ a + b) (h2 : a + b < 2 ^ 31) : (u + v).toInt = a + b := by subst hx hy; exact Jvm.Kit.i32_add h1 h2
theorem own_sub64 (hx : x.toInt = a) (hy : y.toInt = b) (h1 : -2 ^ 63 ≤ a - b) (h2 : a - b < 2 ^ 63) : (x - y).toInt = a - b := by subst hx hy; exact Jvm.Kit.i64_sub h1 h2
theorem own_sub32 (hx : u.toInt = a) (hy : v.toInt = b) (h1 : -2 ^ 31 ≤ a - b) (h2 : a - b < 2 ^ 31) : (u - v).toInt = a - b := by subst hx hy; exact Jvm.Kit.i32_sub h1 h2
theorem own_i2l (hx : u.toInt = a) : u.toInt64.toInt = a := by subst hx; exact Jvm.Kit.i64_of_i32 u
theorem own_lt64 (hx : x.toInt = a) (hy : y.toInt = b) : x < y ↔ a < b := by rw [Int64.lt_iff_toInt_lt, hx, hy]
theorem own_lt32 (hx : u.toInt = a) (hy : v.toInt = b) : u < v ↔ a < b := by rw [Int32.lt_iff_toInt_lt, hx, hy]
theorem own_eq64 (hx : x.toInt = a) (hy : y.toInt = b) : x = y ↔ a = b := by rw [← Int64.toInt_inj, hx, hy]
theorem own_eq32 (hx : u.toInt = a) (hy : v.toInt = b) : u = v ↔ a = b := by rw [← Int32.toInt_inj, hx, hy]
theorem own_m32 (u : Int32) (m : Int32) {k : Nat} (hk : k < 32) (hm : m.toBitVec.toNat = 2 ^ k - 1) : ∃ a : Int, (u &&& m).toInt = a ∧ 0 ≤ a ∧ a < 2 ^ k ∧ a = u.toInt % 2 ^ k := by
  refine ⟨_, Jvm.Kit.i32_mask u m hk hm, Int.emod_nonneg _ (Int.ne_of_gt (Int.pow_pos (by decide))), Int.emod_lt_of_pos _ (Int.pow_pos (by decide)), rfl⟩
theorem own_m64 (x : Int64) (m : Int64) {k : Nat} (hk : k < 64) (hm : m.toBitVec.toNat = 2 ^ k - 1) : ∃ a : Int, (x &&& m).toInt = a ∧ 0 ≤ a ∧ a < 2 ^ k ∧ a = x.toInt % 2 ^ k := by
  refine ⟨_, Jvm.Kit.i64_mask x m hk hm, Int.emod_nonneg _ (Int.ne_of_gt (Int.pow_pos (by decide))), Int.emod_lt_of_pos _ (Int.pow_pos (by decide)), rfl⟩
theorem own_nm {P : Int → Prop} {z : Int} (h : P z) : ∃ a, a = z ∧ P a := ⟨z, rfl, h⟩
end OwnNums
theorem own_nat32 {u : Int32} {a : Int} (hu : u.toInt = a) (h0 : 0 ≤ a) {N : Nat} (h1 : a < N) : ∃ n : Nat, n < N ∧ u = Int32.ofNat n ∧ a = (n : Int) := by
  have q := u.toInt_lt
  refine ⟨a.toNat, by omega, ?_, by omega⟩
  apply Int32.toInt_inj.mp
  rw [Int32.toInt_ofNat_of_lt (by omega), hu]; omega
theorem own_bv64 {x : Int64} {a : Int} (hx : x.toInt = a) (h0 : 0 ≤ a) : (x.toBitVec.toNat : Int) = a := by
  have e : x.toInt = x.toBitVec.toInt := rfl
  have hb := x.toBitVec.isLt
  rw [e, BitVec.toInt_eq_toNat_cond] at hx
  split at hx <;> omega
theorem own_bv32 {x : Int32} {a : Int} (hx : x.toInt = a) (h0 : 0 ≤ a) : (x.toBitVec.toNat : Int) = a := by
  have e : x.toInt = x.toBitVec.toInt := rfl
  have hb := x.toBitVec.isLt
  rw [e, BitVec.toInt_eq_toNat_cond] at hx
  split at hx <;> omega
theorem own_shn (y : Int32) : ((y &&& 0x3f).toInt64.toUInt64).toNat < 64 := by
  obtain ⟨a, h1, h2, h3, -⟩ := own_m32 y (0x3f : Int32) (k := 6) (by decide) (by decide)
  have h4 := own_bv64 (own_i2l h1) h2
  have e : ((y &&& 0x3f).toInt64.toUInt64).toNat = (y &&& 0x3f).toInt64.toBitVec.toNat := rfl
  rw [e]
  omega
theorem own_ushr0 {x : Int64} {a : Int} (hx : x.toInt = a) (h0 : 0 ≤ a) (y : Int32) : ∃ b : Int, ((x.toUInt64 >>> (y &&& 0x3f).toInt64.toUInt64).toInt64).toInt = b ∧ 0 ≤ b ∧ b ≤ a := by
  refine ⟨_, Jvm.Kit.i64_lushr (by rw [Jvm.Kit.i64_nonneg, hx]; exact h0) rfl (own_shn y), ?_, ?_⟩
  · rw [hx]; exact Int.ediv_nonneg h0 (Int.le_of_lt (Int.pow_pos (by decide)))
  · rw [hx]; exact Int.ediv_le_self _ h0
theorem own_ushrk {x : Int64} {a : Int} (hx : x.toInt = a) (h0 : 0 ≤ a) {n : UInt64} {k : Nat} (hn : n.toNat = k) (hk : k < 64) {d : Int} (hd : (2 : Int) ^ k = d) : ((x.toUInt64 >>> n).toInt64).toInt = a / d := by
  rw [Jvm.Kit.i64_lushr (by rw [Jvm.Kit.i64_nonneg, hx]; exact h0) hn hk, hx, hd]
theorem own_ofbv32 {x : Int32} (h : x.toBitVec.toNat < 2 ^ 31) : x.toInt = (x.toBitVec.toNat : Int) := by
  have e : x.toInt = x.toBitVec.toInt := rfl
  rw [e, BitVec.toInt_eq_toNat_cond, if_pos (by omega)]
theorem own_xor32 {x y : Int32} {a b : Int} (hx : x.toInt = a) (hy : y.toInt = b) (h0 : 0 ≤ a) (h1 : 0 ≤ b) : ∃ c : Int, (x ^^^ y).toInt = c ∧ 0 ≤ c := by
  have p := own_bv32 hx h0; have q := own_bv32 hy h1
  have r := x.toInt_lt; have s := y.toInt_lt
  have e : (x ^^^ y).toBitVec.toNat = x.toBitVec.toNat ^^^ y.toBitVec.toNat := by simp [Int32.toBitVec_xor, BitVec.toNat_xor]
  have l : (x ^^^ y).toBitVec.toNat < 2 ^ 31 := by rw [e]; exact Nat.xor_lt_two_pow (by omega) (by omega)
  exact ⟨_, own_ofbv32 l, Int.natCast_nonneg _⟩
theorem d1_0 : decode method_2_code 0 = .ok (.iconst 0, 1) := by decide +kernel
theorem d1_1 : decode method_2_code 1 = .ok (.istore_n 1, 1) := by decide +kernel
theorem d1_2 : decode method_2_code 2 = .ok (.iload_n 0, 1) := by decide +kernel
theorem d1_3 : decode method_2_code 3 = .ok (.iconst 1, 1) := by decide +kernel
theorem d1_4 : decode method_2_code 4 = .ok (.if_icmp .le 6, 3) := by decide +kernel
theorem d1_7 : decode method_2_code 7 = .ok (.iinc 1 1, 3) := by decide +kernel
theorem d1_10 : decode method_2_code 10 = .ok (.iload_n 0, 1) := by decide +kernel
theorem d1_11 : decode method_2_code 11 = .ok (.iconst 2, 1) := by decide +kernel
theorem d1_12 : decode method_2_code 12 = .ok (.if_icmp .le 6, 3) := by decide +kernel
theorem d1_15 : decode method_2_code 15 = .ok (.iinc 1 1, 3) := by decide +kernel
theorem d1_18 : decode method_2_code 18 = .ok (.iload_n 0, 1) := by decide +kernel
theorem d1_19 : decode method_2_code 19 = .ok (.iconst 4, 1) := by decide +kernel
theorem d1_20 : decode method_2_code 20 = .ok (.if_icmp .le 6, 3) := by decide +kernel
theorem d1_23 : decode method_2_code 23 = .ok (.iinc 1 1, 3) := by decide +kernel
theorem d1_26 : decode method_2_code 26 = .ok (.iload_n 0, 1) := by decide +kernel
theorem d1_27 : decode method_2_code 27 = .ok (.bipush 8, 2) := by decide +kernel
theorem d1_29 : decode method_2_code 29 = .ok (.if_icmp .le 6, 3) := by decide +kernel
theorem d1_32 : decode method_2_code 32 = .ok (.iinc 1 1, 3) := by decide +kernel
theorem d1_35 : decode method_2_code 35 = .ok (.iload_n 0, 1) := by decide +kernel
theorem d1_36 : decode method_2_code 36 = .ok (.bipush 16, 2) := by decide +kernel
theorem d1_38 : decode method_2_code 38 = .ok (.if_icmp .le 6, 3) := by decide +kernel
theorem d1_41 : decode method_2_code 41 = .ok (.iinc 1 1, 3) := by decide +kernel
theorem d1_44 : decode method_2_code 44 = .ok (.iload_n 0, 1) := by decide +kernel
theorem d1_45 : decode method_2_code 45 = .ok (.bipush 32, 2) := by decide +kernel
theorem d1_47 : decode method_2_code 47 = .ok (.if_icmp .le 6, 3) := by decide +kernel
theorem d1_50 : decode method_2_code 50 = .ok (.iinc 1 1, 3) := by decide +kernel
theorem d1_53 : decode method_2_code 53 = .ok (.iload_n 0, 1) := by decide +kernel
theorem d1_54 : decode method_2_code 54 = .ok (.bipush 64, 2) := by decide +kernel
theorem d1_56 : decode method_2_code 56 = .ok (.if_icmp .le 6, 3) := by decide +kernel
theorem d1_59 : decode method_2_code 59 = .ok (.iinc 1 1, 3) := by decide +kernel
theorem d1_62 : decode method_2_code 62 = .ok (.iload_n 0, 1) := by decide +kernel
theorem d1_63 : decode method_2_code 63 = .ok (.sipush 128, 3) := by decide +kernel
theorem d1_66 : decode method_2_code 66 = .ok (.if_icmp .le 6, 3) := by decide +kernel
theorem d1_69 : decode method_2_code 69 = .ok (.iinc 1 1, 3) := by decide +kernel
theorem d1_72 : decode method_2_code 72 = .ok (.iload_n 0, 1) := by decide +kernel
theorem d1_73 : decode method_2_code 73 = .ok (.sipush 256, 3) := by decide +kernel
theorem d1_76 : decode method_2_code 76 = .ok (.if_icmp .le 6, 3) := by decide +kernel
theorem d1_79 : decode method_2_code 79 = .ok (.iinc 1 1, 3) := by decide +kernel
theorem d1_82 : decode method_2_code 82 = .ok (.iload_n 0, 1) := by decide +kernel
theorem d1_83 : decode method_2_code 83 = .ok (.sipush 512, 3) := by decide +kernel
theorem d1_86 : decode method_2_code 86 = .ok (.if_icmp .le 6, 3) := by decide +kernel
theorem d1_89 : decode method_2_code 89 = .ok (.iinc 1 1, 3) := by decide +kernel
theorem d1_92 : decode method_2_code 92 = .ok (.iload_n 0, 1) := by decide +kernel
theorem d1_93 : decode method_2_code 93 = .ok (.sipush 1024, 3) := by decide +kernel
theorem d1_96 : decode method_2_code 96 = .ok (.if_icmp .le 6, 3) := by decide +kernel
theorem d1_99 : decode method_2_code 99 = .ok (.iinc 1 1, 3) := by decide +kernel
theorem d1_102 : decode method_2_code 102 = .ok (.iload_n 0, 1) := by decide +kernel
theorem d1_103 : decode method_2_code 103 = .ok (.sipush 2048, 3) := by decide +kernel
theorem d1_106 : decode method_2_code 106 = .ok (.if_icmp .le 6, 3) := by decide +kernel
theorem d1_109 : decode method_2_code 109 = .ok (.iinc 1 1, 3) := by decide +kernel
theorem d1_112 : decode method_2_code 112 = .ok (.iload_n 0, 1) := by decide +kernel
theorem d1_113 : decode method_2_code 113 = .ok (.sipush 4096, 3) := by decide +kernel
theorem d1_116 : decode method_2_code 116 = .ok (.if_icmp .le 6, 3) := by decide +kernel
theorem d1_119 : decode method_2_code 119 = .ok (.iinc 1 1, 3) := by decide +kernel
theorem d1_122 : decode method_2_code 122 = .ok (.iload_n 0, 1) := by decide +kernel
theorem d1_123 : decode method_2_code 123 = .ok (.sipush 8192, 3) := by decide +kernel
theorem d1_126 : decode method_2_code 126 = .ok (.if_icmp .le 6, 3) := by decide +kernel
theorem d1_129 : decode method_2_code 129 = .ok (.iinc 1 1, 3) := by decide +kernel
theorem d1_132 : decode method_2_code 132 = .ok (.iload_n 0, 1) := by decide +kernel
theorem d1_133 : decode method_2_code 133 = .ok (.sipush 16384, 3) := by decide +kernel
theorem d1_136 : decode method_2_code 136 = .ok (.if_icmp .le 6, 3) := by decide +kernel
theorem d1_139 : decode method_2_code 139 = .ok (.iinc 1 1, 3) := by decide +kernel
theorem d1_142 : decode method_2_code 142 = .ok (.iload_n 0, 1) := by decide +kernel
theorem d1_143 : decode method_2_code 143 = .ok (.ldc 7, 2) := by decide +kernel
theorem d1_145 : decode method_2_code 145 = .ok (.if_icmp .le 6, 3) := by decide +kernel
theorem d1_148 : decode method_2_code 148 = .ok (.iinc 1 1, 3) := by decide +kernel
theorem d1_151 : decode method_2_code 151 = .ok (.iload_n 1, 1) := by decide +kernel
theorem d1_152 : decode method_2_code 152 = .ok (.ireturn, 1) := by decide +kernel
theorem pn1 : plainName "com/example/eriu/eriu/algorithm/RandomizedElectionValidatePinLaw" = true := by first | (simp [plainName, overriddenIn]; done) | decide +kernel
theorem ef1 (m : MethodId) (x0 : Int32) : entryFrame m #[(.int x0)] 2 = (mkF m 0 #[.val (.int x0), .unset] []) := by first | (simp [entryFrame, mkF, argsToLocals, Value.category]; done) | rfl
def j1_10_1 (x0 : Int32) : Int32 := (if (1 : Int32) < x0 then (1 : Int32) else (0 : Int32))
def w1_15 (x0 : Int32) : Int32 := ((j1_10_1 x0) + (1 : Int32))
def j1_18_1 (x0 : Int32) : Int32 := (if (2 : Int32) < x0 then (w1_15 x0) else (j1_10_1 x0))
def w1_23 (x0 : Int32) : Int32 := ((j1_18_1 x0) + (1 : Int32))
def j1_26_1 (x0 : Int32) : Int32 := (if (4 : Int32) < x0 then (w1_23 x0) else (j1_18_1 x0))
def w1_32 (x0 : Int32) : Int32 := ((j1_26_1 x0) + (1 : Int32))
def j1_35_1 (x0 : Int32) : Int32 := (if (8 : Int32) < x0 then (w1_32 x0) else (j1_26_1 x0))
def w1_41 (x0 : Int32) : Int32 := ((j1_35_1 x0) + (1 : Int32))
def j1_44_1 (x0 : Int32) : Int32 := (if (16 : Int32) < x0 then (w1_41 x0) else (j1_35_1 x0))
def w1_50 (x0 : Int32) : Int32 := ((j1_44_1 x0) + (1 : Int32))
def j1_53_1 (x0 : Int32) : Int32 := (if (32 : Int32) < x0 then (w1_50 x0) else (j1_44_1 x0))
def w1_59 (x0 : Int32) : Int32 := ((j1_53_1 x0) + (1 : Int32))
def j1_62_1 (x0 : Int32) : Int32 := (if (64 : Int32) < x0 then (w1_59 x0) else (j1_53_1 x0))
def w1_69 (x0 : Int32) : Int32 := ((j1_62_1 x0) + (1 : Int32))
def j1_72_1 (x0 : Int32) : Int32 := (if (128 : Int32) < x0 then (w1_69 x0) else (j1_62_1 x0))
def w1_79 (x0 : Int32) : Int32 := ((j1_72_1 x0) + (1 : Int32))
def j1_82_1 (x0 : Int32) : Int32 := (if (256 : Int32) < x0 then (w1_79 x0) else (j1_72_1 x0))
def w1_89 (x0 : Int32) : Int32 := ((j1_82_1 x0) + (1 : Int32))
def j1_92_1 (x0 : Int32) : Int32 := (if (512 : Int32) < x0 then (w1_89 x0) else (j1_82_1 x0))
def w1_99 (x0 : Int32) : Int32 := ((j1_92_1 x0) + (1 : Int32))
def j1_102_1 (x0 : Int32) : Int32 := (if (1024 : Int32) < x0 then (w1_99 x0) else (j1_92_1 x0))
def w1_109 (x0 : Int32) : Int32 := ((j1_102_1 x0) + (1 : Int32))
def j1_112_1 (x0 : Int32) : Int32 := (if (2048 : Int32) < x0 then (w1_109 x0) else (j1_102_1 x0))
def w1_119 (x0 : Int32) : Int32 := ((j1_112_1 x0) + (1 : Int32))
def j1_122_1 (x0 : Int32) : Int32 := (if (4096 : Int32) < x0 then (w1_119 x0) else (j1_112_1 x0))
def w1_129 (x0 : Int32) : Int32 := ((j1_122_1 x0) + (1 : Int32))
def j1_132_1 (x0 : Int32) : Int32 := (if (8192 : Int32) < x0 then (w1_129 x0) else (j1_122_1 x0))
def w1_139 (x0 : Int32) : Int32 := ((j1_132_1 x0) + (1 : Int32))
def j1_142_1 (x0 : Int32) : Int32 := (if (16384 : Int32) < x0 then (w1_139 x0) else (j1_132_1 x0))
def w1_148 (x0 : Int32) : Int32 := ((j1_142_1 x0) + (1 : Int32))
def j1_151_1 (x0 : Int32) : Int32 := (if (32768 : Int32) < x0 then (w1_148 x0) else (j1_142_1 x0))
def r1 (x0 : Int32) : Int32 := (j1_151_1 x0)
set_option maxRecDepth 65536 in
set_option maxHeartbeats 40000000 in
theorem rm1 (l : Launch) (Z : State) (a0 : Array Value) (hw : ∀ d ∈ tables_1, d.before a0 Z = true) (ws : List Jvm.Cond) (x0 : Int32) (h0 : Heap) (n0 : Nat) (Z0 : n0 ≤ h0.size) :
    MetFree l (⟨"com/example/eriu/eriu/algorithm/RandomizedElectionValidatePinLaw", "ceilLog2Ref", "(I)I"⟩ : MethodName) (head1 (Jvm.Cond.code (⟨"com/example/eriu/eriu/algorithm/RandomizedElectionValidatePinLaw", "ceilLog2Ref", "(I)I"⟩ : MethodName) method_2_code 2 (some .int) :: ws) ({ frames := 0, cells := 0, slots := 0, locals := 0 } : Room)) (fun a U => a = #[(.int x0)] ∧ Z.Warmed39 U.vm ∧ U.heap = h0) (fun _ _ _ _ _ => True) (fun _ U o U' => ∃ v L, o = .returned v ∧ (QP (some (.int (r1 x0))) h0 n0) v U'.heap L ∧ FrameEnd U o U' L ({ frames := 0, cells := 0, slots := 0, locals := 0 } : Room).cells ({ frames := 0, cells := 0, slots := 0, locals := 0 } : Room).slots) := by
  refine MetFree.of_bodySF (plainFor_of_name pn1) hisR ?_
  intro p e s m args below meth c s₁ Bd hml0 hP hK
  obtain ⟨rfl, hZ, hh⟩ := hP
  have hx := Bd.exec
  have hby := Bd.bytes
  have hml : c.maxLocals = 2 := hml0
  have hlk : meth.locks = false := BodyLoose.notSynchronized Bd
  have hown : s.vm.findClass "com/example/eriu/eriu/algorithm/RandomizedElectionValidatePinLaw" = some m.cls := findClass_of_methodNamed Bd.named
  have hnm := (name_of_methodNamed Bd.named Bd.method).1
  have hci : ∀ i v, (i, v) ∈ ([(8, 2147483647), (9, 55108), (7, 32768)] : List (Nat × Int32)) → (Jvm.Cond.constant "com/example/eriu/eriu/algorithm/RandomizedElectionValidatePinLaw" i v).before #[(.int x0)] s = true := (own_ciS (mvT hZ (hw _ (List.mem_of_getElem? (i := 0) rfl))) (own_ciS (mvT hZ (hw _ (List.mem_of_getElem? (i := 1) rfl))) (own_ciS (mvT hZ (hw _ (List.mem_of_getElem? (i := 6) rfl))) own_ci0)))
  have hcl : ∀ i v, (i, v) ∈ ([(18, 9223372036854775807)] : List (Nat × Int64)) → (Jvm.Cond.constantLong "com/example/eriu/eriu/algorithm/RandomizedElectionValidatePinLaw" i v).before #[(.int x0)] s = true := (own_ciS (mvT hZ (hw _ (List.mem_of_getElem? (i := 7) rfl))) own_ci0)
  have X0 : Stand p l e ({ frames := 0, cells := 0, slots := 0, locals := 0 } : Room) s m #[(.int x0)] below meth c s₁ [] 0 0 := Stand.of_body Bd
  have e0 : s₁.heap = h0 := by rw [← hh, Bd.state]; rfl
  have N0 := Fr.nil n0
  show Goes p e below s (QP (some (.int (r1 x0))) h0 n0) ({ frames := 0, cells := 0, slots := 0, locals := 0 } : Room).cells ({ frames := 0, cells := 0, slots := 0, locals := 0 } : Room).slots (s₁.setTop (entryFrame m #[(.int x0)] 2))
  refine Goes.cast (ef1 m x0) ?_
  refine Goes.run X0 hx hown hci hcl hby (L := [(0, .iconst 0, 1), (1, .istore_n 1, 1), (2, .iload_n 0, 1), (3, .iconst 1, 1)]) (by decide +kernel) rfl (g' := (mkF m 4 #[.val (.int x0), .val (.int (0 : Int32))] [(.int (1 : Int32)), (.int x0)])) rfl ?_
  have jn10_2 : Goes p e below s (QP (some (.int (r1 x0))) h0 n0) ({ frames := 0, cells := 0, slots := 0, locals := 0 } : Room).cells ({ frames := 0, cells := 0, slots := 0, locals := 0 } : Room).slots (s₁.setTop (mkF m 10 #[.val (.int x0), .val (.int (j1_10_1 x0))] [])) := by
    refine Goes.run X0 hx hown hci hcl hby (L := [(10, .iload_n 0, 1), (11, .iconst 2, 1)]) (by decide +kernel) rfl (g' := (mkF m 12 #[.val (.int x0), .val (.int (j1_10_1 x0))] [(.int (2 : Int32)), (.int x0)])) rfl ?_
    have jn18_4 : Goes p e below s (QP (some (.int (r1 x0))) h0 n0) ({ frames := 0, cells := 0, slots := 0, locals := 0 } : Room).cells ({ frames := 0, cells := 0, slots := 0, locals := 0 } : Room).slots (s₁.setTop (mkF m 18 #[.val (.int x0), .val (.int (j1_18_1 x0))] [])) := by
      refine Goes.run X0 hx hown hci hcl hby (L := [(18, .iload_n 0, 1), (19, .iconst 4, 1)]) (by decide +kernel) rfl (g' := (mkF m 20 #[.val (.int x0), .val (.int (j1_18_1 x0))] [(.int (4 : Int32)), (.int x0)])) rfl ?_
      have jn26_6 : Goes p e below s (QP (some (.int (r1 x0))) h0 n0) ({ frames := 0, cells := 0, slots := 0, locals := 0 } : Room).cells ({ frames := 0, cells := 0, slots := 0, locals := 0 } : Room).slots (s₁.setTop (mkF m 26 #[.val (.int x0), .val (.int (j1_26_1 x0))] [])) := by
        refine Goes.run X0 hx hown hci hcl hby (L := [(26, .iload_n 0, 1), (27, .bipush 8, 2)]) (by decide +kernel) rfl (g' := (mkF m 29 #[.val (.int x0), .val (.int (j1_26_1 x0))] [(.int (8 : Int32)), (.int x0)])) rfl ?_
        have jn35_8 : Goes p e below s (QP (some (.int (r1 x0))) h0 n0) ({ frames := 0, cells := 0, slots := 0, locals := 0 } : Room).cells ({ frames := 0, cells := 0, slots := 0, locals := 0 } : Room).slots (s₁.setTop (mkF m 35 #[.val (.int x0), .val (.int (j1_35_1 x0))] [])) := by
          refine Goes.run X0 hx hown hci hcl hby (L := [(35, .iload_n 0, 1), (36, .bipush 16, 2)]) (by decide +kernel) rfl (g' := (mkF m 38 #[.val (.int x0), .val (.int (j1_35_1 x0))] [(.int (16 : Int32)), (.int x0)])) rfl ?_
          have jn44_10 : Goes p e below s (QP (some (.int (r1 x0))) h0 n0) ({ frames := 0, cells := 0, slots := 0, locals := 0 } : Room).cells ({ frames := 0, cells := 0, slots := 0, locals := 0 } : Room).slots (s₁.setTop (mkF m 44 #[.val (.int x0), .val (.int (j1_44_1 x0))] [])) := by
            refine Goes.run X0 hx hown hci hcl hby (L := [(44, .iload_n 0, 1), (45, .bipush 32, 2)]) (by decide +kernel) rfl (g' := (mkF m 47 #[.val (.int x0), .val (.int (j1_44_1 x0))] [(.int (32 : Int32)), (.int x0)])) rfl ?_
            have jn53_12 : Goes p e below s (QP (some (.int (r1 x0))) h0 n0) ({ frames := 0, cells := 0, slots := 0, locals := 0 } : Room).cells ({ frames := 0, cells := 0, slots := 0, locals := 0 } : Room).slots (s₁.setTop (mkF m 53 #[.val (.int x0), .val (.int (j1_53_1 x0))] [])) := by
              refine Goes.run X0 hx hown hci hcl hby (L := [(53, .iload_n 0, 1), (54, .bipush 64, 2)]) (by decide +kernel) rfl (g' := (mkF m 56 #[.val (.int x0), .val (.int (j1_53_1 x0))] [(.int (64 : Int32)), (.int x0)])) rfl ?_
              have jn62_14 : Goes p e below s (QP (some (.int (r1 x0))) h0 n0) ({ frames := 0, cells := 0, slots := 0, locals := 0 } : Room).cells ({ frames := 0, cells := 0, slots := 0, locals := 0 } : Room).slots (s₁.setTop (mkF m 62 #[.val (.int x0), .val (.int (j1_62_1 x0))] [])) := by
                refine Goes.run X0 hx hown hci hcl hby (L := [(62, .iload_n 0, 1), (63, .sipush 128, 3)]) (by decide +kernel) rfl (g' := (mkF m 66 #[.val (.int x0), .val (.int (j1_62_1 x0))] [(.int (128 : Int32)), (.int x0)])) rfl ?_
                have jn72_16 : Goes p e below s (QP (some (.int (r1 x0))) h0 n0) ({ frames := 0, cells := 0, slots := 0, locals := 0 } : Room).cells ({ frames := 0, cells := 0, slots := 0, locals := 0 } : Room).slots (s₁.setTop (mkF m 72 #[.val (.int x0), .val (.int (j1_72_1 x0))] [])) := by
                  refine Goes.run X0 hx hown hci hcl hby (L := [(72, .iload_n 0, 1), (73, .sipush 256, 3)]) (by decide +kernel) rfl (g' := (mkF m 76 #[.val (.int x0), .val (.int (j1_72_1 x0))] [(.int (256 : Int32)), (.int x0)])) rfl ?_
                  have jn82_18 : Goes p e below s (QP (some (.int (r1 x0))) h0 n0) ({ frames := 0, cells := 0, slots := 0, locals := 0 } : Room).cells ({ frames := 0, cells := 0, slots := 0, locals := 0 } : Room).slots (s₁.setTop (mkF m 82 #[.val (.int x0), .val (.int (j1_82_1 x0))] [])) := by
                    refine Goes.run X0 hx hown hci hcl hby (L := [(82, .iload_n 0, 1), (83, .sipush 512, 3)]) (by decide +kernel) rfl (g' := (mkF m 86 #[.val (.int x0), .val (.int (j1_82_1 x0))] [(.int (512 : Int32)), (.int x0)])) rfl ?_
                    have jn92_20 : Goes p e below s (QP (some (.int (r1 x0))) h0 n0) ({ frames := 0, cells := 0, slots := 0, locals := 0 } : Room).cells ({ frames := 0, cells := 0, slots := 0, locals := 0 } : Room).slots (s₁.setTop (mkF m 92 #[.val (.int x0), .val (.int (j1_92_1 x0))] [])) := by
                      refine Goes.run X0 hx hown hci hcl hby (L := [(92, .iload_n 0, 1), (93, .sipush 1024, 3)]) (by decide +kernel) rfl (g' := (mkF m 96 #[.val (.int x0), .val (.int (j1_92_1 x0))] [(.int (1024 : Int32)), (.int x0)])) rfl ?_
                      have jn102_22 : Goes p e below s (QP (some (.int (r1 x0))) h0 n0) ({ frames := 0, cells := 0, slots := 0, locals := 0 } : Room).cells ({ frames := 0, cells := 0, slots := 0, locals := 0 } : Room).slots (s₁.setTop (mkF m 102 #[.val (.int x0), .val (.int (j1_102_1 x0))] [])) := by
                        refine Goes.run X0 hx hown hci hcl hby (L := [(102, .iload_n 0, 1), (103, .sipush 2048, 3)]) (by decide +kernel) rfl (g' := (mkF m 106 #[.val (.int x0), .val (.int (j1_102_1 x0))] [(.int (2048 : Int32)), (.int x0)])) rfl ?_
                        have jn112_24 : Goes p e below s (QP (some (.int (r1 x0))) h0 n0) ({ frames := 0, cells := 0, slots := 0, locals := 0 } : Room).cells ({ frames := 0, cells := 0, slots := 0, locals := 0 } : Room).slots (s₁.setTop (mkF m 112 #[.val (.int x0), .val (.int (j1_112_1 x0))] [])) := by
                          refine Goes.run X0 hx hown hci hcl hby (L := [(112, .iload_n 0, 1), (113, .sipush 4096, 3)]) (by decide +kernel) rfl (g' := (mkF m 116 #[.val (.int x0), .val (.int (j1_112_1 x0))] [(.int (4096 : Int32)), (.int x0)])) rfl ?_
                          have jn122_26 : Goes p e below s (QP (some (.int (r1 x0))) h0 n0) ({ frames := 0, cells := 0, slots := 0, locals := 0 } : Room).cells ({ frames := 0, cells := 0, slots := 0, locals := 0 } : Room).slots (s₁.setTop (mkF m 122 #[.val (.int x0), .val (.int (j1_122_1 x0))] [])) := by
                            refine Goes.run X0 hx hown hci hcl hby (L := [(122, .iload_n 0, 1), (123, .sipush 8192, 3)]) (by decide +kernel) rfl (g' := (mkF m 126 #[.val (.int x0), .val (.int (j1_122_1 x0))] [(.int (8192 : Int32)), (.int x0)])) rfl ?_
                            have jn132_28 : Goes p e below s (QP (some (.int (r1 x0))) h0 n0) ({ frames := 0, cells := 0, slots := 0, locals := 0 } : Room).cells ({ frames := 0, cells := 0, slots := 0, locals := 0 } : Room).slots (s₁.setTop (mkF m 132 #[.val (.int x0), .val (.int (j1_132_1 x0))] [])) := by
                              refine Goes.run X0 hx hown hci hcl hby (L := [(132, .iload_n 0, 1), (133, .sipush 16384, 3)]) (by decide +kernel) rfl (g' := (mkF m 136 #[.val (.int x0), .val (.int (j1_132_1 x0))] [(.int (16384 : Int32)), (.int x0)])) rfl ?_
                              have jn142_30 : Goes p e below s (QP (some (.int (r1 x0))) h0 n0) ({ frames := 0, cells := 0, slots := 0, locals := 0 } : Room).cells ({ frames := 0, cells := 0, slots := 0, locals := 0 } : Room).slots (s₁.setTop (mkF m 142 #[.val (.int x0), .val (.int (j1_142_1 x0))] [])) := by
                                refine Goes.run X0 hx hown hci hcl hby (L := [(142, .iload_n 0, 1), (143, .ldc 7, 2)]) (by decide +kernel) rfl (g' := (mkF m 145 #[.val (.int x0), .val (.int (j1_142_1 x0))] [(.int (32768 : Int32)), (.int x0)])) rfl ?_
                                have jn151_32 : Goes p e below s (QP (some (.int (r1 x0))) h0 n0) ({ frames := 0, cells := 0, slots := 0, locals := 0 } : Room).cells ({ frames := 0, cells := 0, slots := 0, locals := 0 } : Room).slots (s₁.setTop (mkF m 151 #[.val (.int x0), .val (.int (j1_151_1 x0))] [])) := by
                                  refine Goes.run X0 hx hown hci hcl hby (L := [(151, .iload_n 1, 1)]) (by decide +kernel) rfl (g' := (mkF m 152 #[.val (.int x0), .val (.int (j1_151_1 x0))] [(.int (j1_151_1 x0))])) rfl ?_
                                  exact Goes.retI X0 hx hlk Bd.returns (hb hby d1_152) ⟨(congrArg (fun z => some (Value.int z)) (show (r1 x0) = (j1_151_1 x0) from rfl).symm), N0, e0⟩ (by decide) (by decide)
                                by_cases hc145_31 : (32768 : Int32) < x0
                                · skip
                                  refine Goes.st (B := s₁.setTop (mkF m 148 #[.val (.int x0), .val (.int (j1_142_1 x0))] [])) (fun t k => ?_) ?_
                                  · refine XS.icmpNo X0.here hx rfl (hb hby d1_145) rfl (tlt hc145_31).2.2.2 ?_
                                    exact k
                                  refine Goes.run X0 hx hown hci hcl hby (L := [(148, .iinc 1 1, 3)]) (by decide +kernel) rfl (g' := (mkF m 151 #[.val (.int x0), .val (.int (w1_148 x0))] [])) rfl ?_
                                  have q := jn151_32
                                  rw [show (j1_151_1 x0) = (w1_148 x0) from (if_pos hc145_31)] at q
                                  exact q
                                · skip
                                  refine Goes.st (B := s₁.setTop (mkF m 151 #[.val (.int x0), .val (.int (j1_142_1 x0))] [])) (fun t k => ?_) ?_
                                  · refine XS.icmpYes X0.here hx rfl (pc0 := 145) (pc' := 151) rfl (hb hby d1_145) rfl (flt hc145_31).2.2.2 (by decide) (by decide) ?_
                                    exact k
                                  have q := jn151_32
                                  rw [show (j1_151_1 x0) = (j1_142_1 x0) from (if_neg hc145_31)] at q
                                  exact q
                              by_cases hc136_29 : (16384 : Int32) < x0
                              · skip
                                refine Goes.st (B := s₁.setTop (mkF m 139 #[.val (.int x0), .val (.int (j1_132_1 x0))] [])) (fun t k => ?_) ?_
                                · refine XS.icmpNo X0.here hx rfl (hb hby d1_136) rfl (tlt hc136_29).2.2.2 ?_
                                  exact k
                                refine Goes.run X0 hx hown hci hcl hby (L := [(139, .iinc 1 1, 3)]) (by decide +kernel) rfl (g' := (mkF m 142 #[.val (.int x0), .val (.int (w1_139 x0))] [])) rfl ?_
                                have q := jn142_30
                                rw [show (j1_142_1 x0) = (w1_139 x0) from (if_pos hc136_29)] at q
                                exact q
                              · skip
                                refine Goes.st (B := s₁.setTop (mkF m 142 #[.val (.int x0), .val (.int (j1_132_1 x0))] [])) (fun t k => ?_) ?_
                                · refine XS.icmpYes X0.here hx rfl (pc0 := 136) (pc' := 142) rfl (hb hby d1_136) rfl (flt hc136_29).2.2.2 (by decide) (by decide) ?_
                                  exact k
                                have q := jn142_30
                                rw [show (j1_142_1 x0) = (j1_132_1 x0) from (if_neg hc136_29)] at q
                                exact q
                            by_cases hc126_27 : (8192 : Int32) < x0
                            · skip
                              refine Goes.st (B := s₁.setTop (mkF m 129 #[.val (.int x0), .val (.int (j1_122_1 x0))] [])) (fun t k => ?_) ?_
                              · refine XS.icmpNo X0.here hx rfl (hb hby d1_126) rfl (tlt hc126_27).2.2.2 ?_
                                exact k
                              refine Goes.run X0 hx hown hci hcl hby (L := [(129, .iinc 1 1, 3)]) (by decide +kernel) rfl (g' := (mkF m 132 #[.val (.int x0), .val (.int (w1_129 x0))] [])) rfl ?_
                              have q := jn132_28
                              rw [show (j1_132_1 x0) = (w1_129 x0) from (if_pos hc126_27)] at q
                              exact q
                            · skip
                              refine Goes.st (B := s₁.setTop (mkF m 132 #[.val (.int x0), .val (.int (j1_122_1 x0))] [])) (fun t k => ?_) ?_
                              · refine XS.icmpYes X0.here hx rfl (pc0 := 126) (pc' := 132) rfl (hb hby d1_126) rfl (flt hc126_27).2.2.2 (by decide) (by decide) ?_
                                exact k
                              have q := jn132_28
                              rw [show (j1_132_1 x0) = (j1_122_1 x0) from (if_neg hc126_27)] at q
                              exact q
                          by_cases hc116_25 : (4096 : Int32) < x0
                          · skip
                            refine Goes.st (B := s₁.setTop (mkF m 119 #[.val (.int x0), .val (.int (j1_112_1 x0))] [])) (fun t k => ?_) ?_
                            · refine XS.icmpNo X0.here hx rfl (hb hby d1_116) rfl (tlt hc116_25).2.2.2 ?_
                              exact k
                            refine Goes.run X0 hx hown hci hcl hby (L := [(119, .iinc 1 1, 3)]) (by decide +kernel) rfl (g' := (mkF m 122 #[.val (.int x0), .val (.int (w1_119 x0))] [])) rfl ?_
                            have q := jn122_26
                            rw [show (j1_122_1 x0) = (w1_119 x0) from (if_pos hc116_25)] at q
                            exact q
                          · skip
                            refine Goes.st (B := s₁.setTop (mkF m 122 #[.val (.int x0), .val (.int (j1_112_1 x0))] [])) (fun t k => ?_) ?_
                            · refine XS.icmpYes X0.here hx rfl (pc0 := 116) (pc' := 122) rfl (hb hby d1_116) rfl (flt hc116_25).2.2.2 (by decide) (by decide) ?_
                              exact k
                            have q := jn122_26
                            rw [show (j1_122_1 x0) = (j1_112_1 x0) from (if_neg hc116_25)] at q
                            exact q
                        by_cases hc106_23 : (2048 : Int32) < x0
                        · skip
                          refine Goes.st (B := s₁.setTop (mkF m 109 #[.val (.int x0), .val (.int (j1_102_1 x0))] [])) (fun t k => ?_) ?_
                          · refine XS.icmpNo X0.here hx rfl (hb hby d1_106) rfl (tlt hc106_23).2.2.2 ?_
                            exact k
                          refine Goes.run X0 hx hown hci hcl hby (L := [(109, .iinc 1 1, 3)]) (by decide +kernel) rfl (g' := (mkF m 112 #[.val (.int x0), .val (.int (w1_109 x0))] [])) rfl ?_
                          have q := jn112_24
                          rw [show (j1_112_1 x0) = (w1_109 x0) from (if_pos hc106_23)] at q
                          exact q
                        · skip
                          refine Goes.st (B := s₁.setTop (mkF m 112 #[.val (.int x0), .val (.int (j1_102_1 x0))] [])) (fun t k => ?_) ?_
                          · refine XS.icmpYes X0.here hx rfl (pc0 := 106) (pc' := 112) rfl (hb hby d1_106) rfl (flt hc106_23).2.2.2 (by decide) (by decide) ?_
                            exact k
                          have q := jn112_24
                          rw [show (j1_112_1 x0) = (j1_102_1 x0) from (if_neg hc106_23)] at q
                          exact q
                      by_cases hc96_21 : (1024 : Int32) < x0
                      · skip
                        refine Goes.st (B := s₁.setTop (mkF m 99 #[.val (.int x0), .val (.int (j1_92_1 x0))] [])) (fun t k => ?_) ?_
                        · refine XS.icmpNo X0.here hx rfl (hb hby d1_96) rfl (tlt hc96_21).2.2.2 ?_
                          exact k
                        refine Goes.run X0 hx hown hci hcl hby (L := [(99, .iinc 1 1, 3)]) (by decide +kernel) rfl (g' := (mkF m 102 #[.val (.int x0), .val (.int (w1_99 x0))] [])) rfl ?_
                        have q := jn102_22
                        rw [show (j1_102_1 x0) = (w1_99 x0) from (if_pos hc96_21)] at q
                        exact q
                      · skip
                        refine Goes.st (B := s₁.setTop (mkF m 102 #[.val (.int x0), .val (.int (j1_92_1 x0))] [])) (fun t k => ?_) ?_
                        · refine XS.icmpYes X0.here hx rfl (pc0 := 96) (pc' := 102) rfl (hb hby d1_96) rfl (flt hc96_21).2.2.2 (by decide) (by decide) ?_
                          exact k
                        have q := jn102_22
                        rw [show (j1_102_1 x0) = (j1_92_1 x0) from (if_neg hc96_21)] at q
                        exact q
                    by_cases hc86_19 : (512 : Int32) < x0
                    · skip
                      refine Goes.st (B := s₁.setTop (mkF m 89 #[.val (.int x0), .val (.int (j1_82_1 x0))] [])) (fun t k => ?_) ?_
                      · refine XS.icmpNo X0.here hx rfl (hb hby d1_86) rfl (tlt hc86_19).2.2.2 ?_
                        exact k
                      refine Goes.run X0 hx hown hci hcl hby (L := [(89, .iinc 1 1, 3)]) (by decide +kernel) rfl (g' := (mkF m 92 #[.val (.int x0), .val (.int (w1_89 x0))] [])) rfl ?_
                      have q := jn92_20
                      rw [show (j1_92_1 x0) = (w1_89 x0) from (if_pos hc86_19)] at q
                      exact q
                    · skip
                      refine Goes.st (B := s₁.setTop (mkF m 92 #[.val (.int x0), .val (.int (j1_82_1 x0))] [])) (fun t k => ?_) ?_
                      · refine XS.icmpYes X0.here hx rfl (pc0 := 86) (pc' := 92) rfl (hb hby d1_86) rfl (flt hc86_19).2.2.2 (by decide) (by decide) ?_
                        exact k
                      have q := jn92_20
                      rw [show (j1_92_1 x0) = (j1_82_1 x0) from (if_neg hc86_19)] at q
                      exact q
                  by_cases hc76_17 : (256 : Int32) < x0
                  · skip
                    refine Goes.st (B := s₁.setTop (mkF m 79 #[.val (.int x0), .val (.int (j1_72_1 x0))] [])) (fun t k => ?_) ?_
                    · refine XS.icmpNo X0.here hx rfl (hb hby d1_76) rfl (tlt hc76_17).2.2.2 ?_
                      exact k
                    refine Goes.run X0 hx hown hci hcl hby (L := [(79, .iinc 1 1, 3)]) (by decide +kernel) rfl (g' := (mkF m 82 #[.val (.int x0), .val (.int (w1_79 x0))] [])) rfl ?_
                    have q := jn82_18
                    rw [show (j1_82_1 x0) = (w1_79 x0) from (if_pos hc76_17)] at q
                    exact q
                  · skip
                    refine Goes.st (B := s₁.setTop (mkF m 82 #[.val (.int x0), .val (.int (j1_72_1 x0))] [])) (fun t k => ?_) ?_
                    · refine XS.icmpYes X0.here hx rfl (pc0 := 76) (pc' := 82) rfl (hb hby d1_76) rfl (flt hc76_17).2.2.2 (by decide) (by decide) ?_
                      exact k
                    have q := jn82_18
                    rw [show (j1_82_1 x0) = (j1_72_1 x0) from (if_neg hc76_17)] at q
                    exact q
                by_cases hc66_15 : (128 : Int32) < x0
                · skip
                  refine Goes.st (B := s₁.setTop (mkF m 69 #[.val (.int x0), .val (.int (j1_62_1 x0))] [])) (fun t k => ?_) ?_
                  · refine XS.icmpNo X0.here hx rfl (hb hby d1_66) rfl (tlt hc66_15).2.2.2 ?_
                    exact k
                  refine Goes.run X0 hx hown hci hcl hby (L := [(69, .iinc 1 1, 3)]) (by decide +kernel) rfl (g' := (mkF m 72 #[.val (.int x0), .val (.int (w1_69 x0))] [])) rfl ?_
                  have q := jn72_16
                  rw [show (j1_72_1 x0) = (w1_69 x0) from (if_pos hc66_15)] at q
                  exact q
                · skip
                  refine Goes.st (B := s₁.setTop (mkF m 72 #[.val (.int x0), .val (.int (j1_62_1 x0))] [])) (fun t k => ?_) ?_
                  · refine XS.icmpYes X0.here hx rfl (pc0 := 66) (pc' := 72) rfl (hb hby d1_66) rfl (flt hc66_15).2.2.2 (by decide) (by decide) ?_
                    exact k
                  have q := jn72_16
                  rw [show (j1_72_1 x0) = (j1_62_1 x0) from (if_neg hc66_15)] at q
                  exact q
              by_cases hc56_13 : (64 : Int32) < x0
              · skip
                refine Goes.st (B := s₁.setTop (mkF m 59 #[.val (.int x0), .val (.int (j1_53_1 x0))] [])) (fun t k => ?_) ?_
                · refine XS.icmpNo X0.here hx rfl (hb hby d1_56) rfl (tlt hc56_13).2.2.2 ?_
                  exact k
                refine Goes.run X0 hx hown hci hcl hby (L := [(59, .iinc 1 1, 3)]) (by decide +kernel) rfl (g' := (mkF m 62 #[.val (.int x0), .val (.int (w1_59 x0))] [])) rfl ?_
                have q := jn62_14
                rw [show (j1_62_1 x0) = (w1_59 x0) from (if_pos hc56_13)] at q
                exact q
              · skip
                refine Goes.st (B := s₁.setTop (mkF m 62 #[.val (.int x0), .val (.int (j1_53_1 x0))] [])) (fun t k => ?_) ?_
                · refine XS.icmpYes X0.here hx rfl (pc0 := 56) (pc' := 62) rfl (hb hby d1_56) rfl (flt hc56_13).2.2.2 (by decide) (by decide) ?_
                  exact k
                have q := jn62_14
                rw [show (j1_62_1 x0) = (j1_53_1 x0) from (if_neg hc56_13)] at q
                exact q
            by_cases hc47_11 : (32 : Int32) < x0
            · skip
              refine Goes.st (B := s₁.setTop (mkF m 50 #[.val (.int x0), .val (.int (j1_44_1 x0))] [])) (fun t k => ?_) ?_
              · refine XS.icmpNo X0.here hx rfl (hb hby d1_47) rfl (tlt hc47_11).2.2.2 ?_
                exact k
              refine Goes.run X0 hx hown hci hcl hby (L := [(50, .iinc 1 1, 3)]) (by decide +kernel) rfl (g' := (mkF m 53 #[.val (.int x0), .val (.int (w1_50 x0))] [])) rfl ?_
              have q := jn53_12
              rw [show (j1_53_1 x0) = (w1_50 x0) from (if_pos hc47_11)] at q
              exact q
            · skip
              refine Goes.st (B := s₁.setTop (mkF m 53 #[.val (.int x0), .val (.int (j1_44_1 x0))] [])) (fun t k => ?_) ?_
              · refine XS.icmpYes X0.here hx rfl (pc0 := 47) (pc' := 53) rfl (hb hby d1_47) rfl (flt hc47_11).2.2.2 (by decide) (by decide) ?_
                exact k
              have q := jn53_12
              rw [show (j1_53_1 x0) = (j1_44_1 x0) from (if_neg hc47_11)] at q
              exact q
          by_cases hc38_9 : (16 : Int32) < x0
          · skip
            refine Goes.st (B := s₁.setTop (mkF m 41 #[.val (.int x0), .val (.int (j1_35_1 x0))] [])) (fun t k => ?_) ?_
            · refine XS.icmpNo X0.here hx rfl (hb hby d1_38) rfl (tlt hc38_9).2.2.2 ?_
              exact k
            refine Goes.run X0 hx hown hci hcl hby (L := [(41, .iinc 1 1, 3)]) (by decide +kernel) rfl (g' := (mkF m 44 #[.val (.int x0), .val (.int (w1_41 x0))] [])) rfl ?_
            have q := jn44_10
            rw [show (j1_44_1 x0) = (w1_41 x0) from (if_pos hc38_9)] at q
            exact q
          · skip
            refine Goes.st (B := s₁.setTop (mkF m 44 #[.val (.int x0), .val (.int (j1_35_1 x0))] [])) (fun t k => ?_) ?_
            · refine XS.icmpYes X0.here hx rfl (pc0 := 38) (pc' := 44) rfl (hb hby d1_38) rfl (flt hc38_9).2.2.2 (by decide) (by decide) ?_
              exact k
            have q := jn44_10
            rw [show (j1_44_1 x0) = (j1_35_1 x0) from (if_neg hc38_9)] at q
            exact q
        by_cases hc29_7 : (8 : Int32) < x0
        · skip
          refine Goes.st (B := s₁.setTop (mkF m 32 #[.val (.int x0), .val (.int (j1_26_1 x0))] [])) (fun t k => ?_) ?_
          · refine XS.icmpNo X0.here hx rfl (hb hby d1_29) rfl (tlt hc29_7).2.2.2 ?_
            exact k
          refine Goes.run X0 hx hown hci hcl hby (L := [(32, .iinc 1 1, 3)]) (by decide +kernel) rfl (g' := (mkF m 35 #[.val (.int x0), .val (.int (w1_32 x0))] [])) rfl ?_
          have q := jn35_8
          rw [show (j1_35_1 x0) = (w1_32 x0) from (if_pos hc29_7)] at q
          exact q
        · skip
          refine Goes.st (B := s₁.setTop (mkF m 35 #[.val (.int x0), .val (.int (j1_26_1 x0))] [])) (fun t k => ?_) ?_
          · refine XS.icmpYes X0.here hx rfl (pc0 := 29) (pc' := 35) rfl (hb hby d1_29) rfl (flt hc29_7).2.2.2 (by decide) (by decide) ?_
            exact k
          have q := jn35_8
          rw [show (j1_35_1 x0) = (j1_26_1 x0) from (if_neg hc29_7)] at q
          exact q
      by_cases hc20_5 : (4 : Int32) < x0
      · skip
        refine Goes.st (B := s₁.setTop (mkF m 23 #[.val (.int x0), .val (.int (j1_18_1 x0))] [])) (fun t k => ?_) ?_
        · refine XS.icmpNo X0.here hx rfl (hb hby d1_20) rfl (tlt hc20_5).2.2.2 ?_
          exact k
        refine Goes.run X0 hx hown hci hcl hby (L := [(23, .iinc 1 1, 3)]) (by decide +kernel) rfl (g' := (mkF m 26 #[.val (.int x0), .val (.int (w1_23 x0))] [])) rfl ?_
        have q := jn26_6
        rw [show (j1_26_1 x0) = (w1_23 x0) from (if_pos hc20_5)] at q
        exact q
      · skip
        refine Goes.st (B := s₁.setTop (mkF m 26 #[.val (.int x0), .val (.int (j1_18_1 x0))] [])) (fun t k => ?_) ?_
        · refine XS.icmpYes X0.here hx rfl (pc0 := 20) (pc' := 26) rfl (hb hby d1_20) rfl (flt hc20_5).2.2.2 (by decide) (by decide) ?_
          exact k
        have q := jn26_6
        rw [show (j1_26_1 x0) = (j1_18_1 x0) from (if_neg hc20_5)] at q
        exact q
    by_cases hc12_3 : (2 : Int32) < x0
    · skip
      refine Goes.st (B := s₁.setTop (mkF m 15 #[.val (.int x0), .val (.int (j1_10_1 x0))] [])) (fun t k => ?_) ?_
      · refine XS.icmpNo X0.here hx rfl (hb hby d1_12) rfl (tlt hc12_3).2.2.2 ?_
        exact k
      refine Goes.run X0 hx hown hci hcl hby (L := [(15, .iinc 1 1, 3)]) (by decide +kernel) rfl (g' := (mkF m 18 #[.val (.int x0), .val (.int (w1_15 x0))] [])) rfl ?_
      have q := jn18_4
      rw [show (j1_18_1 x0) = (w1_15 x0) from (if_pos hc12_3)] at q
      exact q
    · skip
      refine Goes.st (B := s₁.setTop (mkF m 18 #[.val (.int x0), .val (.int (j1_10_1 x0))] [])) (fun t k => ?_) ?_
      · refine XS.icmpYes X0.here hx rfl (pc0 := 12) (pc' := 18) rfl (hb hby d1_12) rfl (flt hc12_3).2.2.2 (by decide) (by decide) ?_
        exact k
      have q := jn18_4
      rw [show (j1_18_1 x0) = (j1_10_1 x0) from (if_neg hc12_3)] at q
      exact q
  by_cases hc4_1 : (1 : Int32) < x0
  · skip
    refine Goes.st (B := s₁.setTop (mkF m 7 #[.val (.int x0), .val (.int (0 : Int32))] [])) (fun t k => ?_) ?_
    · refine XS.icmpNo X0.here hx rfl (hb hby d1_4) rfl (tlt hc4_1).2.2.2 ?_
      exact k
    refine Goes.run X0 hx hown hci hcl hby (L := [(7, .iinc 1 1, 3)]) (by decide +kernel) rfl (g' := (mkF m 10 #[.val (.int x0), .val (.int (1 : Int32))] [])) rfl ?_
    have q := jn10_2
    rw [show (j1_10_1 x0) = (1 : Int32) from (if_pos hc4_1)] at q
    exact q
  · skip
    refine Goes.st (B := s₁.setTop (mkF m 10 #[.val (.int x0), .val (.int (0 : Int32))] [])) (fun t k => ?_) ?_
    · refine XS.icmpYes X0.here hx rfl (pc0 := 4) (pc' := 10) rfl (hb hby d1_4) rfl (flt hc4_1).2.2.2 (by decide) (by decide) ?_
      exact k
    have q := jn10_2
    rw [show (j1_10_1 x0) = (0 : Int32) from (if_neg hc4_1)] at q
    exact q
theorem d2_0 : decode prog_9_method_3_code 0 = .ok (.iload_n 0, 1) := by decide +kernel
theorem d2_1 : decode prog_9_method_3_code 1 = .ok (.iconst 1, 1) := by decide +kernel
theorem d2_2 : decode prog_9_method_3_code 2 = .ok (.if_icmp .lt 9, 3) := by decide +kernel
theorem d2_5 : decode prog_9_method_3_code 5 = .ok (.iload_n 0, 1) := by decide +kernel
theorem d2_6 : decode prog_9_method_3_code 6 = .ok (.ldc 38, 2) := by decide +kernel
theorem d2_8 : decode prog_9_method_3_code 8 = .ok (.if_icmp .le 17, 3) := by decide +kernel
theorem d2_25 : decode prog_9_method_3_code 25 = .ok (.iload_n 1, 1) := by decide +kernel
theorem d2_26 : decode prog_9_method_3_code 26 = .ok (.ifCond .lt 8, 3) := by decide +kernel
theorem d2_29 : decode prog_9_method_3_code 29 = .ok (.iload_n 1, 1) := by decide +kernel
theorem d2_30 : decode prog_9_method_3_code 30 = .ok (.iload_n 0, 1) := by decide +kernel
theorem d2_31 : decode prog_9_method_3_code 31 = .ok (.if_icmp .le 18, 3) := by decide +kernel
theorem d2_49 : decode prog_9_method_3_code 49 = .ok (.lload_n 2, 1) := by decide +kernel
theorem d2_50 : decode prog_9_method_3_code 50 = .ok (.lconst 1, 1) := by decide +kernel
theorem d2_51 : decode prog_9_method_3_code 51 = .ok (.lcmp, 1) := by decide +kernel
theorem d2_52 : decode prog_9_method_3_code 52 = .ok (.ifCond .ge 17, 3) := by decide +kernel
theorem d2_69 : decode prog_9_method_3_code 69 = .ok (.return_, 1) := by decide +kernel
theorem pn2 : plainName "com/example/eriu/eriu/algorithm/QuorumElection" = true := by first | (simp [plainName, overriddenIn]; done) | decide +kernel
theorem ef2 (m : MethodId) (x0 : Int32) (x1 : Int32) (x2 : Int64) : entryFrame m #[(.int x0), (.int x1), (.long x2)] 4 = (mkF m 0 #[.val (.int x0), .val (.int x1), .val (.long x2), .second] []) := by first | (simp [entryFrame, mkF, argsToLocals, Value.category]; done) | rfl
set_option maxRecDepth 65536 in
set_option maxHeartbeats 40000000 in
theorem rm2 (l : Launch) (Z : State) (a0 : Array Value) (hw : ∀ d ∈ tables_1, d.before a0 Z = true) (ws : List Jvm.Cond) (x0 : Int32) (x1 : Int32) (x2 : Int64) (h0 : Heap) (n0 : Nat) (Z0 : n0 ≤ h0.size) (p1 : ¬ (x0 < (1 : Int32))) (p2 : ¬ ((55108 : Int32) < x0)) (p3 : ¬ (x1 < (0 : Int32))) (p4 : ¬ (x0 < x1)) (p5 : ¬ (x2 < (1 : Int64))) :
    MetFree l (⟨"com/example/eriu/eriu/algorithm/QuorumElection", "validate", "(IIJ)V"⟩ : MethodName) (head1 (Jvm.Cond.code (⟨"com/example/eriu/eriu/algorithm/QuorumElection", "validate", "(IIJ)V"⟩ : MethodName) prog_9_method_3_code 4 none :: ws) ({ frames := 0, cells := 0, slots := 0, locals := 0 } : Room)) (fun a U => a = #[(.int x0), (.int x1), (.long x2)] ∧ Z.Warmed39 U.vm ∧ U.heap = h0) (fun _ _ _ _ _ => True) (fun _ U o U' => ∃ v L, o = .returned v ∧ (QP none h0 n0) v U'.heap L ∧ FrameEnd U o U' L ({ frames := 0, cells := 0, slots := 0, locals := 0 } : Room).cells ({ frames := 0, cells := 0, slots := 0, locals := 0 } : Room).slots) := by
  refine MetFree.of_bodySF (plainFor_of_name pn2) hisR ?_
  intro p e s m args below meth c s₁ Bd hml0 hP hK
  obtain ⟨rfl, hZ, hh⟩ := hP
  have hx := Bd.exec
  have hby := Bd.bytes
  have hml : c.maxLocals = 4 := hml0
  have hlk : meth.locks = false := BodyLoose.notSynchronized Bd
  have hown : s.vm.findClass "com/example/eriu/eriu/algorithm/QuorumElection" = some m.cls := findClass_of_methodNamed Bd.named
  have hnm := (name_of_methodNamed Bd.named Bd.method).1
  have hci : ∀ i v, (i, v) ∈ ([(38, 55108)] : List (Nat × Int32)) → (Jvm.Cond.constant "com/example/eriu/eriu/algorithm/QuorumElection" i v).before #[(.int x0), (.int x1), (.long x2)] s = true := (own_ciS (mvT hZ (hw _ (List.mem_of_getElem? (i := 16) rfl))) own_ci0)
  have hcl : ∀ i v, (i, v) ∈ ([] : List (Nat × Int64)) → (Jvm.Cond.constantLong "com/example/eriu/eriu/algorithm/QuorumElection" i v).before #[(.int x0), (.int x1), (.long x2)] s = true := own_ci0
  have X0 : Stand p l e ({ frames := 0, cells := 0, slots := 0, locals := 0 } : Room) s m #[(.int x0), (.int x1), (.long x2)] below meth c s₁ [] 0 0 := Stand.of_body Bd
  have e0 : s₁.heap = h0 := by rw [← hh, Bd.state]; rfl
  have N0 := Fr.nil n0
  show Goes p e below s (QP none h0 n0) ({ frames := 0, cells := 0, slots := 0, locals := 0 } : Room).cells ({ frames := 0, cells := 0, slots := 0, locals := 0 } : Room).slots (s₁.setTop (entryFrame m #[(.int x0), (.int x1), (.long x2)] 4))
  refine Goes.cast (ef2 m x0 x1 x2) ?_
  refine Goes.run X0 hx hown hci hcl hby (L := [(0, .iload_n 0, 1), (1, .iconst 1, 1)]) (by decide +kernel) rfl (g' := (mkF m 2 #[.val (.int x0), .val (.int x1), .val (.long x2), .second] [(.int (1 : Int32)), (.int x0)])) rfl ?_
  have hc2_1 : ¬ (x0 < (1 : Int32)) := p1
  refine Goes.st (B := s₁.setTop (mkF m 5 #[.val (.int x0), .val (.int x1), .val (.long x2), .second] [])) (fun t k => ?_) ?_
  · refine XS.icmpNo X0.here hx rfl (hb hby d2_2) rfl (flt hc2_1).1 ?_
    exact k
  refine Goes.run X0 hx hown hci hcl hby (L := [(5, .iload_n 0, 1), (6, .ldc 38, 2)]) (by decide +kernel) rfl (g' := (mkF m 8 #[.val (.int x0), .val (.int x1), .val (.long x2), .second] [(.int (55108 : Int32)), (.int x0)])) rfl ?_
  have hc8_2 : ¬ ((55108 : Int32) < x0) := p2
  refine Goes.st (B := s₁.setTop (mkF m 25 #[.val (.int x0), .val (.int x1), .val (.long x2), .second] [])) (fun t k => ?_) ?_
  · refine XS.icmpYes X0.here hx rfl (pc0 := 8) (pc' := 25) rfl (hb hby d2_8) rfl (flt hc8_2).2.2.2 (by decide) (by decide) ?_
    exact k
  refine Goes.run X0 hx hown hci hcl hby (L := [(25, .iload_n 1, 1)]) (by decide +kernel) rfl (g' := (mkF m 26 #[.val (.int x0), .val (.int x1), .val (.long x2), .second] [(.int x1)])) rfl ?_
  have hc26_3 : ¬ (x1 < (0 : Int32)) := p3
  refine Goes.st (B := s₁.setTop (mkF m 29 #[.val (.int x0), .val (.int x1), .val (.long x2), .second] [])) (fun t k => ?_) ?_
  · refine XS.ifNo X0.here hx rfl (hb hby d2_26) rfl ((if0 _ _).trans (flt hc26_3).1) ?_
    exact k
  refine Goes.run X0 hx hown hci hcl hby (L := [(29, .iload_n 1, 1), (30, .iload_n 0, 1)]) (by decide +kernel) rfl (g' := (mkF m 31 #[.val (.int x0), .val (.int x1), .val (.long x2), .second] [(.int x0), (.int x1)])) rfl ?_
  have hc31_4 : ¬ (x0 < x1) := p4
  refine Goes.st (B := s₁.setTop (mkF m 49 #[.val (.int x0), .val (.int x1), .val (.long x2), .second] [])) (fun t k => ?_) ?_
  · refine XS.icmpYes X0.here hx rfl (pc0 := 31) (pc' := 49) rfl (hb hby d2_31) rfl (flt hc31_4).2.2.2 (by decide) (by decide) ?_
    exact k
  refine Goes.run X0 hx hown hci hcl hby (L := [(49, .lload_n 2, 1), (50, .lconst 1, 1), (51, .lcmp, 1)]) (by decide +kernel) rfl (g' := (mkF m 52 #[.val (.int x0), .val (.int x1), .val (.long x2), .second] [(.int (lcmpW x2 (1 : Int64)))])) rfl ?_
  have hc52_5 : ¬ (x2 < (1 : Int64)) := p5
  refine Goes.st (B := s₁.setTop (mkF m 69 #[.val (.int x0), .val (.int x1), .val (.long x2), .second] [])) (fun t k => ?_) ?_
  · refine XS.ifYes X0.here hx rfl (pc0 := 52) (pc' := 69) rfl (hb hby d2_52) rfl (fltL hc52_5).2.1 (by decide) (by decide) ?_
    exact k
  exact Goes.retV X0 hx hlk Bd.returns (hb hby d2_69) ⟨rfl, N0, e0⟩ (by decide) (by decide)
theorem d3_0 : decode jdk_33_method_47_code 0 = .ok (.iload_n 0, 1) := by decide +kernel
theorem d3_1 : decode jdk_33_method_47_code 1 = .ok (.ifCond .gt 14, 3) := by decide +kernel
theorem d3_4 : decode jdk_33_method_47_code 4 = .ok (.iload_n 0, 1) := by decide +kernel
theorem d3_5 : decode jdk_33_method_47_code 5 = .ok (.ifCond .ne 8, 3) := by decide +kernel
theorem d3_8 : decode jdk_33_method_47_code 8 = .ok (.bipush 32, 2) := by decide +kernel
theorem d3_10 : decode jdk_33_method_47_code 10 = .ok (.goto 4, 3) := by decide +kernel
theorem d3_13 : decode jdk_33_method_47_code 13 = .ok (.iconst 0, 1) := by decide +kernel
theorem d3_14 : decode jdk_33_method_47_code 14 = .ok (.ireturn, 1) := by decide +kernel
theorem d3_15 : decode jdk_33_method_47_code 15 = .ok (.bipush 31, 2) := by decide +kernel
theorem d3_17 : decode jdk_33_method_47_code 17 = .ok (.istore_n 1, 1) := by decide +kernel
theorem d3_18 : decode jdk_33_method_47_code 18 = .ok (.iload_n 0, 1) := by decide +kernel
theorem d3_19 : decode jdk_33_method_47_code 19 = .ok (.ldc_w 264, 3) := by decide +kernel
theorem d3_22 : decode jdk_33_method_47_code 22 = .ok (.if_icmp .lt 11, 3) := by decide +kernel
theorem d3_25 : decode jdk_33_method_47_code 25 = .ok (.iinc 1 (-16), 3) := by decide +kernel
theorem d3_28 : decode jdk_33_method_47_code 28 = .ok (.iload_n 0, 1) := by decide +kernel
theorem d3_29 : decode jdk_33_method_47_code 29 = .ok (.bipush 16, 2) := by decide +kernel
theorem d3_31 : decode jdk_33_method_47_code 31 = .ok (.iushr, 1) := by decide +kernel
theorem d3_32 : decode jdk_33_method_47_code 32 = .ok (.istore_n 0, 1) := by decide +kernel
theorem d3_33 : decode jdk_33_method_47_code 33 = .ok (.iload_n 0, 1) := by decide +kernel
theorem d3_34 : decode jdk_33_method_47_code 34 = .ok (.sipush 256, 3) := by decide +kernel
theorem d3_37 : decode jdk_33_method_47_code 37 = .ok (.if_icmp .lt 11, 3) := by decide +kernel
theorem d3_40 : decode jdk_33_method_47_code 40 = .ok (.iinc 1 (-8), 3) := by decide +kernel
theorem d3_43 : decode jdk_33_method_47_code 43 = .ok (.iload_n 0, 1) := by decide +kernel
theorem d3_44 : decode jdk_33_method_47_code 44 = .ok (.bipush 8, 2) := by decide +kernel
theorem d3_46 : decode jdk_33_method_47_code 46 = .ok (.iushr, 1) := by decide +kernel
theorem d3_47 : decode jdk_33_method_47_code 47 = .ok (.istore_n 0, 1) := by decide +kernel
theorem d3_48 : decode jdk_33_method_47_code 48 = .ok (.iload_n 0, 1) := by decide +kernel
theorem d3_49 : decode jdk_33_method_47_code 49 = .ok (.bipush 16, 2) := by decide +kernel
theorem d3_51 : decode jdk_33_method_47_code 51 = .ok (.if_icmp .lt 10, 3) := by decide +kernel
theorem d3_54 : decode jdk_33_method_47_code 54 = .ok (.iinc 1 (-4), 3) := by decide +kernel
theorem d3_57 : decode jdk_33_method_47_code 57 = .ok (.iload_n 0, 1) := by decide +kernel
theorem d3_58 : decode jdk_33_method_47_code 58 = .ok (.iconst 4, 1) := by decide +kernel
theorem d3_59 : decode jdk_33_method_47_code 59 = .ok (.iushr, 1) := by decide +kernel
theorem d3_60 : decode jdk_33_method_47_code 60 = .ok (.istore_n 0, 1) := by decide +kernel
theorem d3_61 : decode jdk_33_method_47_code 61 = .ok (.iload_n 0, 1) := by decide +kernel
theorem d3_62 : decode jdk_33_method_47_code 62 = .ok (.iconst 4, 1) := by decide +kernel
theorem d3_63 : decode jdk_33_method_47_code 63 = .ok (.if_icmp .lt 10, 3) := by decide +kernel
theorem d3_66 : decode jdk_33_method_47_code 66 = .ok (.iinc 1 (-2), 3) := by decide +kernel
theorem d3_69 : decode jdk_33_method_47_code 69 = .ok (.iload_n 0, 1) := by decide +kernel
theorem d3_70 : decode jdk_33_method_47_code 70 = .ok (.iconst 2, 1) := by decide +kernel
theorem d3_71 : decode jdk_33_method_47_code 71 = .ok (.iushr, 1) := by decide +kernel
theorem d3_72 : decode jdk_33_method_47_code 72 = .ok (.istore_n 0, 1) := by decide +kernel
theorem d3_73 : decode jdk_33_method_47_code 73 = .ok (.iload_n 1, 1) := by decide +kernel
theorem d3_74 : decode jdk_33_method_47_code 74 = .ok (.iload_n 0, 1) := by decide +kernel
theorem d3_75 : decode jdk_33_method_47_code 75 = .ok (.iconst 1, 1) := by decide +kernel
theorem d3_76 : decode jdk_33_method_47_code 76 = .ok (.iushr, 1) := by decide +kernel
theorem d3_77 : decode jdk_33_method_47_code 77 = .ok (.isub, 1) := by decide +kernel
theorem d3_78 : decode jdk_33_method_47_code 78 = .ok (.ireturn, 1) := by decide +kernel
theorem pn3 : plainName "java/lang/Integer" = true := by first | (simp [plainName, overriddenIn]; done) | decide +kernel
theorem ef3 (m : MethodId) (x0 : Int32) : entryFrame m #[(.int x0)] 2 = (mkF m 0 #[.val (.int x0), .unset] []) := by first | (simp [entryFrame, mkF, argsToLocals, Value.category]; done) | rfl
def w3_32 (x0 : Int32) : Int32 := ((x0.toUInt32 >>> ((16 : Int32) &&& 31).toUInt32).toInt32)
def j3_33_0 (x0 : Int32) : Int32 := (if x0 < (65536 : Int32) then x0 else (w3_32 x0))
def j3_33_1 (x0 : Int32) : Int32 := (if x0 < (65536 : Int32) then (31 : Int32) else (15 : Int32))
def w3_40 (x0 : Int32) : Int32 := ((j3_33_1 x0) + Int32.ofInt (-8))
def w3_47 (x0 : Int32) : Int32 := (((j3_33_0 x0).toUInt32 >>> ((8 : Int32) &&& 31).toUInt32).toInt32)
def j3_48_0 (x0 : Int32) : Int32 := (if (j3_33_0 x0) < (256 : Int32) then (j3_33_0 x0) else (w3_47 x0))
def j3_48_1 (x0 : Int32) : Int32 := (if (j3_33_0 x0) < (256 : Int32) then (j3_33_1 x0) else (w3_40 x0))
def w3_54 (x0 : Int32) : Int32 := ((j3_48_1 x0) + Int32.ofInt (-4))
def w3_60 (x0 : Int32) : Int32 := (((j3_48_0 x0).toUInt32 >>> ((4 : Int32) &&& 31).toUInt32).toInt32)
def j3_61_0 (x0 : Int32) : Int32 := (if (j3_48_0 x0) < (16 : Int32) then (j3_48_0 x0) else (w3_60 x0))
def j3_61_1 (x0 : Int32) : Int32 := (if (j3_48_0 x0) < (16 : Int32) then (j3_48_1 x0) else (w3_54 x0))
def w3_66 (x0 : Int32) : Int32 := ((j3_61_1 x0) + Int32.ofInt (-2))
def w3_72 (x0 : Int32) : Int32 := (((j3_61_0 x0).toUInt32 >>> ((2 : Int32) &&& 31).toUInt32).toInt32)
def j3_73_0 (x0 : Int32) : Int32 := (if (j3_61_0 x0) < (4 : Int32) then (j3_61_0 x0) else (w3_72 x0))
def j3_73_1 (x0 : Int32) : Int32 := (if (j3_61_0 x0) < (4 : Int32) then (j3_61_1 x0) else (w3_66 x0))
def r3 (x0 : Int32) : Int32 := (if (0 : Int32) < x0 then ((j3_73_1 x0) - (((j3_73_0 x0).toUInt32 >>> ((1 : Int32) &&& 31).toUInt32).toInt32)) else (if x0 = (0 : Int32) then (32 : Int32) else (0 : Int32)))
set_option maxRecDepth 65536 in
set_option maxHeartbeats 40000000 in
theorem rm3 (l : Launch) (Z : State) (a0 : Array Value) (hw : ∀ d ∈ tables_1, d.before a0 Z = true) (ws : List Jvm.Cond) (x0 : Int32) (h0 : Heap) (n0 : Nat) (Z0 : n0 ≤ h0.size) :
    MetFree l (⟨"java/lang/Integer", "numberOfLeadingZeros", "(I)I"⟩ : MethodName) (head1 (Jvm.Cond.code (⟨"java/lang/Integer", "numberOfLeadingZeros", "(I)I"⟩ : MethodName) jdk_33_method_47_code 2 (some .int) :: ws) ({ frames := 0, cells := 0, slots := 0, locals := 0 } : Room)) (fun a U => a = #[(.int x0)] ∧ Z.Warmed39 U.vm ∧ U.heap = h0) (fun _ _ _ _ _ => True) (fun _ U o U' => ∃ v L, o = .returned v ∧ (QP (some (.int (r3 x0))) h0 n0) v U'.heap L ∧ FrameEnd U o U' L ({ frames := 0, cells := 0, slots := 0, locals := 0 } : Room).cells ({ frames := 0, cells := 0, slots := 0, locals := 0 } : Room).slots) := by
  refine MetFree.of_bodySF (plainFor_of_name pn3) hisR ?_
  intro p e s m args below meth c s₁ Bd hml0 hP hK
  obtain ⟨rfl, hZ, hh⟩ := hP
  have hx := Bd.exec
  have hby := Bd.bytes
  have hml : c.maxLocals = 2 := hml0
  have hlk : meth.locks = false := BodyLoose.notSynchronized Bd
  have hown : s.vm.findClass "java/lang/Integer" = some m.cls := findClass_of_methodNamed Bd.named
  have hnm := (name_of_methodNamed Bd.named Bd.method).1
  have hci : ∀ i v, (i, v) ∈ ([(264, 65536)] : List (Nat × Int32)) → (Jvm.Cond.constant "java/lang/Integer" i v).before #[(.int x0)] s = true := (own_ciS (mvT hZ (hw _ (List.mem_of_getElem? (i := 24) rfl))) own_ci0)
  have hcl : ∀ i v, (i, v) ∈ ([] : List (Nat × Int64)) → (Jvm.Cond.constantLong "java/lang/Integer" i v).before #[(.int x0)] s = true := own_ci0
  have X0 : Stand p l e ({ frames := 0, cells := 0, slots := 0, locals := 0 } : Room) s m #[(.int x0)] below meth c s₁ [] 0 0 := Stand.of_body Bd
  have e0 : s₁.heap = h0 := by rw [← hh, Bd.state]; rfl
  have N0 := Fr.nil n0
  show Goes p e below s (QP (some (.int (r3 x0))) h0 n0) ({ frames := 0, cells := 0, slots := 0, locals := 0 } : Room).cells ({ frames := 0, cells := 0, slots := 0, locals := 0 } : Room).slots (s₁.setTop (entryFrame m #[(.int x0)] 2))
  refine Goes.cast (ef3 m x0) ?_
  refine Goes.run X0 hx hown hci hcl hby (L := [(0, .iload_n 0, 1)]) (by decide +kernel) rfl (g' := (mkF m 1 #[.val (.int x0), .unset] [(.int x0)])) rfl ?_
  by_cases hc1_1 : (0 : Int32) < x0
  · skip
    refine Goes.st (B := s₁.setTop (mkF m 15 #[.val (.int x0), .unset] [])) (fun t k => ?_) ?_
    · refine XS.ifYes X0.here hx rfl (pc0 := 1) (pc' := 15) rfl (hb hby d3_1) rfl ((if0 _ _).trans (tlt hc1_1).2.2.1) (by decide) (by decide) ?_
      exact k
    refine Goes.run X0 hx hown hci hcl hby (L := [(15, .bipush 31, 2), (17, .istore_n 1, 1), (18, .iload_n 0, 1), (19, .ldc_w 264, 3)]) (by decide +kernel) rfl (g' := (mkF m 22 #[.val (.int x0), .val (.int (31 : Int32))] [(.int (65536 : Int32)), (.int x0)])) rfl ?_
    have jn33_3 : Goes p e below s (QP (some (.int (r3 x0))) h0 n0) ({ frames := 0, cells := 0, slots := 0, locals := 0 } : Room).cells ({ frames := 0, cells := 0, slots := 0, locals := 0 } : Room).slots (s₁.setTop (mkF m 33 #[.val (.int (j3_33_0 x0)), .val (.int (j3_33_1 x0))] [])) := by
      refine Goes.run X0 hx hown hci hcl hby (L := [(33, .iload_n 0, 1), (34, .sipush 256, 3)]) (by decide +kernel) rfl (g' := (mkF m 37 #[.val (.int (j3_33_0 x0)), .val (.int (j3_33_1 x0))] [(.int (256 : Int32)), (.int (j3_33_0 x0))])) rfl ?_
      have jn48_5 : Goes p e below s (QP (some (.int (r3 x0))) h0 n0) ({ frames := 0, cells := 0, slots := 0, locals := 0 } : Room).cells ({ frames := 0, cells := 0, slots := 0, locals := 0 } : Room).slots (s₁.setTop (mkF m 48 #[.val (.int (j3_48_0 x0)), .val (.int (j3_48_1 x0))] [])) := by
        refine Goes.run X0 hx hown hci hcl hby (L := [(48, .iload_n 0, 1), (49, .bipush 16, 2)]) (by decide +kernel) rfl (g' := (mkF m 51 #[.val (.int (j3_48_0 x0)), .val (.int (j3_48_1 x0))] [(.int (16 : Int32)), (.int (j3_48_0 x0))])) rfl ?_
        have jn61_7 : Goes p e below s (QP (some (.int (r3 x0))) h0 n0) ({ frames := 0, cells := 0, slots := 0, locals := 0 } : Room).cells ({ frames := 0, cells := 0, slots := 0, locals := 0 } : Room).slots (s₁.setTop (mkF m 61 #[.val (.int (j3_61_0 x0)), .val (.int (j3_61_1 x0))] [])) := by
          refine Goes.run X0 hx hown hci hcl hby (L := [(61, .iload_n 0, 1), (62, .iconst 4, 1)]) (by decide +kernel) rfl (g' := (mkF m 63 #[.val (.int (j3_61_0 x0)), .val (.int (j3_61_1 x0))] [(.int (4 : Int32)), (.int (j3_61_0 x0))])) rfl ?_
          have jn73_9 : Goes p e below s (QP (some (.int (r3 x0))) h0 n0) ({ frames := 0, cells := 0, slots := 0, locals := 0 } : Room).cells ({ frames := 0, cells := 0, slots := 0, locals := 0 } : Room).slots (s₁.setTop (mkF m 73 #[.val (.int (j3_73_0 x0)), .val (.int (j3_73_1 x0))] [])) := by
            refine Goes.run X0 hx hown hci hcl hby (L := [(73, .iload_n 1, 1), (74, .iload_n 0, 1), (75, .iconst 1, 1), (76, .iushr, 1), (77, .isub, 1)]) (by decide +kernel) rfl (g' := (mkF m 78 #[.val (.int (j3_73_0 x0)), .val (.int (j3_73_1 x0))] [(.int ((j3_73_1 x0) - (((j3_73_0 x0).toUInt32 >>> ((1 : Int32) &&& 31).toUInt32).toInt32)))])) rfl ?_
            exact Goes.retI X0 hx hlk Bd.returns (hb hby d3_78) ⟨(congrArg (fun z => some (Value.int z)) (show (r3 x0) = ((j3_73_1 x0) - (((j3_73_0 x0).toUInt32 >>> ((1 : Int32) &&& 31).toUInt32).toInt32)) from (if_pos hc1_1)).symm), N0, e0⟩ (by decide) (by decide)
          by_cases hc63_8 : (j3_61_0 x0) < (4 : Int32)
          · skip
            refine Goes.st (B := s₁.setTop (mkF m 73 #[.val (.int (j3_61_0 x0)), .val (.int (j3_61_1 x0))] [])) (fun t k => ?_) ?_
            · refine XS.icmpYes X0.here hx rfl (pc0 := 63) (pc' := 73) rfl (hb hby d3_63) rfl (tlt hc63_8).1 (by decide) (by decide) ?_
              exact k
            have q := jn73_9
            rw [show (j3_73_0 x0) = (j3_61_0 x0) from (if_pos hc63_8), show (j3_73_1 x0) = (j3_61_1 x0) from (if_pos hc63_8)] at q
            exact q
          · skip
            refine Goes.st (B := s₁.setTop (mkF m 66 #[.val (.int (j3_61_0 x0)), .val (.int (j3_61_1 x0))] [])) (fun t k => ?_) ?_
            · refine XS.icmpNo X0.here hx rfl (hb hby d3_63) rfl (flt hc63_8).1 ?_
              exact k
            refine Goes.run X0 hx hown hci hcl hby (L := [(66, .iinc 1 (-2), 3), (69, .iload_n 0, 1), (70, .iconst 2, 1), (71, .iushr, 1), (72, .istore_n 0, 1)]) (by decide +kernel) rfl (g' := (mkF m 73 #[.val (.int (w3_72 x0)), .val (.int (w3_66 x0))] [])) rfl ?_
            have q := jn73_9
            rw [show (j3_73_0 x0) = (w3_72 x0) from (if_neg hc63_8), show (j3_73_1 x0) = (w3_66 x0) from (if_neg hc63_8)] at q
            exact q
        by_cases hc51_6 : (j3_48_0 x0) < (16 : Int32)
        · skip
          refine Goes.st (B := s₁.setTop (mkF m 61 #[.val (.int (j3_48_0 x0)), .val (.int (j3_48_1 x0))] [])) (fun t k => ?_) ?_
          · refine XS.icmpYes X0.here hx rfl (pc0 := 51) (pc' := 61) rfl (hb hby d3_51) rfl (tlt hc51_6).1 (by decide) (by decide) ?_
            exact k
          have q := jn61_7
          rw [show (j3_61_0 x0) = (j3_48_0 x0) from (if_pos hc51_6), show (j3_61_1 x0) = (j3_48_1 x0) from (if_pos hc51_6)] at q
          exact q
        · skip
          refine Goes.st (B := s₁.setTop (mkF m 54 #[.val (.int (j3_48_0 x0)), .val (.int (j3_48_1 x0))] [])) (fun t k => ?_) ?_
          · refine XS.icmpNo X0.here hx rfl (hb hby d3_51) rfl (flt hc51_6).1 ?_
            exact k
          refine Goes.run X0 hx hown hci hcl hby (L := [(54, .iinc 1 (-4), 3), (57, .iload_n 0, 1), (58, .iconst 4, 1), (59, .iushr, 1), (60, .istore_n 0, 1)]) (by decide +kernel) rfl (g' := (mkF m 61 #[.val (.int (w3_60 x0)), .val (.int (w3_54 x0))] [])) rfl ?_
          have q := jn61_7
          rw [show (j3_61_0 x0) = (w3_60 x0) from (if_neg hc51_6), show (j3_61_1 x0) = (w3_54 x0) from (if_neg hc51_6)] at q
          exact q
      by_cases hc37_4 : (j3_33_0 x0) < (256 : Int32)
      · skip
        refine Goes.st (B := s₁.setTop (mkF m 48 #[.val (.int (j3_33_0 x0)), .val (.int (j3_33_1 x0))] [])) (fun t k => ?_) ?_
        · refine XS.icmpYes X0.here hx rfl (pc0 := 37) (pc' := 48) rfl (hb hby d3_37) rfl (tlt hc37_4).1 (by decide) (by decide) ?_
          exact k
        have q := jn48_5
        rw [show (j3_48_0 x0) = (j3_33_0 x0) from (if_pos hc37_4), show (j3_48_1 x0) = (j3_33_1 x0) from (if_pos hc37_4)] at q
        exact q
      · skip
        refine Goes.st (B := s₁.setTop (mkF m 40 #[.val (.int (j3_33_0 x0)), .val (.int (j3_33_1 x0))] [])) (fun t k => ?_) ?_
        · refine XS.icmpNo X0.here hx rfl (hb hby d3_37) rfl (flt hc37_4).1 ?_
          exact k
        refine Goes.run X0 hx hown hci hcl hby (L := [(40, .iinc 1 (-8), 3), (43, .iload_n 0, 1), (44, .bipush 8, 2), (46, .iushr, 1), (47, .istore_n 0, 1)]) (by decide +kernel) rfl (g' := (mkF m 48 #[.val (.int (w3_47 x0)), .val (.int (w3_40 x0))] [])) rfl ?_
        have q := jn48_5
        rw [show (j3_48_0 x0) = (w3_47 x0) from (if_neg hc37_4), show (j3_48_1 x0) = (w3_40 x0) from (if_neg hc37_4)] at q
        exact q
    by_cases hc22_2 : x0 < (65536 : Int32)
    · skip
      refine Goes.st (B := s₁.setTop (mkF m 33 #[.val (.int x0), .val (.int (31 : Int32))] [])) (fun t k => ?_) ?_
      · refine XS.icmpYes X0.here hx rfl (pc0 := 22) (pc' := 33) rfl (hb hby d3_22) rfl (tlt hc22_2).1 (by decide) (by decide) ?_
        exact k
      have q := jn33_3
      rw [show (j3_33_0 x0) = x0 from (if_pos hc22_2), show (j3_33_1 x0) = (31 : Int32) from (if_pos hc22_2)] at q
      exact q
    · skip
      refine Goes.st (B := s₁.setTop (mkF m 25 #[.val (.int x0), .val (.int (31 : Int32))] [])) (fun t k => ?_) ?_
      · refine XS.icmpNo X0.here hx rfl (hb hby d3_22) rfl (flt hc22_2).1 ?_
        exact k
      refine Goes.run X0 hx hown hci hcl hby (L := [(25, .iinc 1 (-16), 3), (28, .iload_n 0, 1), (29, .bipush 16, 2), (31, .iushr, 1), (32, .istore_n 0, 1)]) (by decide +kernel) rfl (g' := (mkF m 33 #[.val (.int (w3_32 x0)), .val (.int (15 : Int32))] [])) rfl ?_
      have q := jn33_3
      rw [show (j3_33_0 x0) = (w3_32 x0) from (if_neg hc22_2), show (j3_33_1 x0) = (15 : Int32) from (if_neg hc22_2)] at q
      exact q
  · skip
    refine Goes.st (B := s₁.setTop (mkF m 4 #[.val (.int x0), .unset] [])) (fun t k => ?_) ?_
    · refine XS.ifNo X0.here hx rfl (hb hby d3_1) rfl ((if0 _ _).trans (flt hc1_1).2.2.1) ?_
      exact k
    refine Goes.run X0 hx hown hci hcl hby (L := [(4, .iload_n 0, 1)]) (by decide +kernel) rfl (g' := (mkF m 5 #[.val (.int x0), .unset] [(.int x0)])) rfl ?_
    by_cases hc5_10 : x0 = (0 : Int32)
    · skip
      refine Goes.st (B := s₁.setTop (mkF m 8 #[.val (.int x0), .unset] [])) (fun t k => ?_) ?_
      · refine XS.ifNo X0.here hx rfl (hb hby d3_5) rfl ((if0 _ _).trans (teq hc5_10).2) ?_
        exact k
      refine Goes.run X0 hx hown hci hcl hby (L := [(8, .bipush 32, 2), (10, .goto 4, 3)]) (by decide +kernel) rfl (g' := (mkF m 14 #[.val (.int x0), .unset] [(.int (32 : Int32))])) rfl ?_
      exact Goes.retI X0 hx hlk Bd.returns (hb hby d3_14) ⟨(congrArg (fun z => some (Value.int z)) (show (r3 x0) = (32 : Int32) from ((if_neg hc1_1).trans (if_pos hc5_10))).symm), N0, e0⟩ (by decide) (by decide)
    · skip
      refine Goes.st (B := s₁.setTop (mkF m 13 #[.val (.int x0), .unset] [])) (fun t k => ?_) ?_
      · refine XS.ifYes X0.here hx rfl (pc0 := 5) (pc' := 13) rfl (hb hby d3_5) rfl ((if0 _ _).trans (feq hc5_10).2) (by decide) (by decide) ?_
        exact k
      refine Goes.run X0 hx hown hci hcl hby (L := [(13, .iconst 0, 1)]) (by decide +kernel) rfl (g' := (mkF m 14 #[.val (.int x0), .unset] [(.int (0 : Int32))])) rfl ?_
      exact Goes.retI X0 hx hlk Bd.returns (hb hby d3_14) ⟨(congrArg (fun z => some (Value.int z)) (show (r3 x0) = (0 : Int32) from ((if_neg hc1_1).trans (if_neg hc5_10))).symm), N0, e0⟩ (by decide) (by decide)
theorem d4_0 : decode prog_15_method_11_code 0 = .ok (.bipush 32, 2) := by decide +kernel
theorem d4_2 : decode prog_15_method_11_code 2 = .ok (.iload_n 0, 1) := by decide +kernel
theorem d4_3 : decode prog_15_method_11_code 3 = .ok (.iconst 1, 1) := by decide +kernel
theorem d4_4 : decode prog_15_method_11_code 4 = .ok (.isub, 1) := by decide +kernel
theorem d4_5 : decode prog_15_method_11_code 5 = .ok (.invokestatic 170, 3) := by decide +kernel
theorem d4_8 : decode prog_15_method_11_code 8 = .ok (.isub, 1) := by decide +kernel
theorem d4_9 : decode prog_15_method_11_code 9 = .ok (.ireturn, 1) := by decide +kernel
theorem pn4 : plainName "com/example/eriu/eriu/algorithm/RandomizedElection" = true := by first | (simp [plainName, overriddenIn]; done) | decide +kernel
theorem pd4_0 : parseMethodDescriptor "(I)I" = some ⟨[.int], some .int⟩ := by decide +kernel
theorem ef4 (m : MethodId) (x0 : Int32) : entryFrame m #[(.int x0)] 1 = (mkF m 0 #[.val (.int x0)] []) := by first | (simp [entryFrame, mkF, argsToLocals, Value.category]; done) | rfl
def c4_5_0 (x0 : Int32) : Int32 := (x0 - (1 : Int32))
def r4 (x0 : Int32) : Int32 := ((32 : Int32) - (r3 (c4_5_0 x0)))
set_option maxRecDepth 65536 in
set_option maxHeartbeats 40000000 in
theorem rm4 (l : Launch) (Z : State) (a0 : Array Value) (hw : ∀ d ∈ tables_1, d.before a0 Z = true) (ws : List Jvm.Cond) (x0 : Int32) (h0 : Heap) (n0 : Nat) (Z0 : n0 ≤ h0.size) :
    MetFree l (⟨"com/example/eriu/eriu/algorithm/RandomizedElection", "ceilLog2", "(I)I"⟩ : MethodName) (head1 (Jvm.Cond.code (⟨"com/example/eriu/eriu/algorithm/RandomizedElection", "ceilLog2", "(I)I"⟩ : MethodName) prog_15_method_11_code 1 (some .int) :: ws) ({ frames := 1, cells := 0, slots := 0, locals := 14 } : Room)) (fun a U => a = #[(.int x0)] ∧ Z.Warmed39 U.vm ∧ U.heap = h0) (fun _ _ _ _ _ => True) (fun _ U o U' => ∃ v L, o = .returned v ∧ (QP (some (.int (r4 x0))) h0 n0) v U'.heap L ∧ FrameEnd U o U' L ({ frames := 1, cells := 0, slots := 0, locals := 14 } : Room).cells ({ frames := 1, cells := 0, slots := 0, locals := 14 } : Room).slots) := by
  refine MetFree.of_bodySF (plainFor_of_name pn4) hisR ?_
  intro p e s m args below meth c s₁ Bd hml0 hP hK
  obtain ⟨rfl, hZ, hh⟩ := hP
  have hx := Bd.exec
  have hby := Bd.bytes
  have hml : c.maxLocals = 1 := hml0
  have hlk : meth.locks = false := BodyLoose.notSynchronized Bd
  have hown : s.vm.findClass "com/example/eriu/eriu/algorithm/RandomizedElection" = some m.cls := findClass_of_methodNamed Bd.named
  have hnm := (name_of_methodNamed Bd.named Bd.method).1
  have hci : ∀ i v, (i, v) ∈ ([] : List (Nat × Int32)) → (Jvm.Cond.constant "com/example/eriu/eriu/algorithm/RandomizedElection" i v).before #[(.int x0)] s = true := own_ci0
  have hcl : ∀ i v, (i, v) ∈ ([] : List (Nat × Int64)) → (Jvm.Cond.constantLong "com/example/eriu/eriu/algorithm/RandomizedElection" i v).before #[(.int x0)] s = true := own_ci0
  have X0 : Stand p l e ({ frames := 1, cells := 0, slots := 0, locals := 14 } : Room) s m #[(.int x0)] below meth c s₁ [] 0 0 := Stand.of_body Bd
  have e0 : s₁.heap = h0 := by rw [← hh, Bd.state]; rfl
  have N0 := Fr.nil n0
  show Goes p e below s (QP (some (.int (r4 x0))) h0 n0) ({ frames := 1, cells := 0, slots := 0, locals := 14 } : Room).cells ({ frames := 1, cells := 0, slots := 0, locals := 14 } : Room).slots (s₁.setTop (entryFrame m #[(.int x0)] 1))
  refine Goes.cast (ef4 m x0) ?_
  refine Goes.run X0 hx hown hci hcl hby (L := [(0, .bipush 32, 2), (2, .iload_n 0, 1), (3, .iconst 1, 1), (4, .isub, 1)]) (by decide +kernel) rfl (g' := (mkF m 5 #[.val (.int x0)] [(.int (c4_5_0 x0)), (.int (32 : Int32))])) rfl ?_
  obtain ⟨_, _, ⟨T1, L1, k1, n1⟩, -, X1, ⟨Lc1, hQ1, l1, y1, z1⟩, st1⟩ := Jvm.LawKit.callS X0 hx (y := (⟨"java/lang/Integer", "numberOfLeadingZeros", "(I)I"⟩ : MethodName)) hown (mvT hZ (hw _ (List.mem_of_getElem? (i := 20) rfl))) (mvT hZ (hw _ (List.mem_of_getElem? (i := 21) rfl))) (mvT hZ (hw _ (List.mem_of_getElem? (i := 22) rfl))) (mvT hZ (hw _ (List.mem_of_getElem? (i := 23) rfl))) (by decide) (backOf (W := 1) (rm3 l Z a0 hw [] (c4_5_0 x0) h0 n0 Z0 ) hZ (hw _ (List.mem_of_getElem? (i := 23) rfl)) (hw _ (List.mem_of_getElem? (i := 22) rfl)) (by decide) (by decide)) (g := (mkF m 5 #[.val (.int x0)] [(.int (c4_5_0 x0)), (.int (32 : Int32))])) rfl (by rw [hml]; rfl) (argsL := [(.int (c4_5_0 x0))]) (rest := [(.int (32 : Int32))]) (lenOf pd4_0 rfl) rfl (by show 2 * 0 + _ ≤ _; exact Nat.le_of_eq rfl) (hb hby d4_5) (fun _ _ => ⟨rfl, e0, (by decide : 0 + 0 ≤ _), (by decide : 0 + 0 ≤ _)⟩)
  dsimp only [Pt.U, Pt.locs, Pt.cells, Pt.slots] at X1 l1 y1 z1 st1 hQ1
  subst l1 y1 z1
  obtain ⟨rfl, N1q, e1⟩ := hQ1
  have N1 := Fr.app N0 N1q
  refine Goes.st (B := T1.setTop (mkF m 8 #[.val (.int x0)] [(.int (r3 (c4_5_0 x0))), (.int (32 : Int32))])) st1 ?_
  refine Goes.run X1 hx hown hci hcl hby (L := [(8, .isub, 1)]) (by decide +kernel) rfl (g' := (mkF m 9 #[.val (.int x0)] [(.int ((32 : Int32) - (r3 (c4_5_0 x0))))])) rfl ?_
  exact Goes.retI X1 hx hlk Bd.returns (hb hby d4_9) ⟨(congrArg (fun z => some (Value.int z)) (show (r4 x0) = ((32 : Int32) - (r3 (c4_5_0 x0))) from rfl).symm), N1, e1⟩ (by decide) (by decide)
theorem d5_0 : decode prog_15_method_2_code 0 = .ok (.iload_n 0, 1) := by decide +kernel
theorem d5_1 : decode prog_15_method_2_code 1 = .ok (.iload_n 1, 1) := by decide +kernel
theorem d5_2 : decode prog_15_method_2_code 2 = .ok (.lload 4, 2) := by decide +kernel
theorem d5_4 : decode prog_15_method_2_code 4 = .ok (.invokestatic 56, 3) := by decide +kernel
theorem d5_7 : decode prog_15_method_2_code 7 = .ok (.lload_n 2, 1) := by decide +kernel
theorem d5_8 : decode prog_15_method_2_code 8 = .ok (.lconst 0, 1) := by decide +kernel
theorem d5_9 : decode prog_15_method_2_code 9 = .ok (.lcmp, 1) := by decide +kernel
theorem d5_10 : decode prog_15_method_2_code 10 = .ok (.ifCond .lt 13, 3) := by decide +kernel
theorem d5_13 : decode prog_15_method_2_code 13 = .ok (.lload_n 2, 1) := by decide +kernel
theorem d5_14 : decode prog_15_method_2_code 14 = .ok (.iload_n 0, 1) := by decide +kernel
theorem d5_15 : decode prog_15_method_2_code 15 = .ok (.invokestatic 60, 3) := by decide +kernel
theorem d5_18 : decode prog_15_method_2_code 18 = .ok (.i2l, 1) := by decide +kernel
theorem d5_19 : decode prog_15_method_2_code 19 = .ok (.lcmp, 1) := by decide +kernel
theorem d5_20 : decode prog_15_method_2_code 20 = .ok (.ifCond .le 22, 3) := by decide +kernel
theorem d5_42 : decode prog_15_method_2_code 42 = .ok (.return_, 1) := by decide +kernel
theorem pn5 : plainName "com/example/eriu/eriu/algorithm/RandomizedElection" = true := by first | (simp [plainName, overriddenIn]; done) | decide +kernel
theorem pd5_0 : parseMethodDescriptor "(IIJ)V" = some ⟨[.int, .int, .long], none⟩ := by decide +kernel
theorem pd5_1 : parseMethodDescriptor "(I)I" = some ⟨[.int], some .int⟩ := by decide +kernel
theorem ef5 (m : MethodId) (x0 : Int32) (x1 : Int32) (x2 : Int64) (x3 : Int64) : entryFrame m #[(.int x0), (.int x1), (.long x2), (.long x3)] 6 = (mkF m 0 #[.val (.int x0), .val (.int x1), .val (.long x2), .second, .val (.long x3), .second] []) := by first | (simp [entryFrame, mkF, argsToLocals, Value.category]; done) | rfl
set_option maxRecDepth 65536 in
set_option maxHeartbeats 40000000 in
theorem rm5 (l : Launch) (Z : State) (a0 : Array Value) (hw : ∀ d ∈ tables_1, d.before a0 Z = true) (ws : List Jvm.Cond) (x0 : Int32) (x1 : Int32) (x2 : Int64) (x3 : Int64) (h0 : Heap) (n0 : Nat) (Z0 : n0 ≤ h0.size) (p1 : ¬ (x0 < (1 : Int32))) (p2 : ¬ ((55108 : Int32) < x0)) (p3 : ¬ (x1 < (0 : Int32))) (p4 : ¬ (x0 < x1)) (p5 : ¬ (x3 < (1 : Int64))) (p6 : ¬ (x2 < (0 : Int64))) (p7 : ¬ (((r4 x0).toInt64) < x2)) :
    MetFree l (⟨"com/example/eriu/eriu/algorithm/RandomizedElection", "validate", "(IIJJ)V"⟩ : MethodName) (head1 (Jvm.Cond.code (⟨"com/example/eriu/eriu/algorithm/RandomizedElection", "validate", "(IIJJ)V"⟩ : MethodName) prog_15_method_2_code 6 none :: ws) ({ frames := 2, cells := 0, slots := 0, locals := 28 } : Room)) (fun a U => a = #[(.int x0), (.int x1), (.long x2), (.long x3)] ∧ Z.Warmed39 U.vm ∧ U.heap = h0) (fun _ _ _ _ _ => True) (fun _ U o U' => ∃ v L, o = .returned v ∧ (QP none h0 n0) v U'.heap L ∧ FrameEnd U o U' L ({ frames := 2, cells := 0, slots := 0, locals := 28 } : Room).cells ({ frames := 2, cells := 0, slots := 0, locals := 28 } : Room).slots) := by
  refine MetFree.of_bodySF (plainFor_of_name pn5) hisR ?_
  intro p e s m args below meth c s₁ Bd hml0 hP hK
  obtain ⟨rfl, hZ, hh⟩ := hP
  have hx := Bd.exec
  have hby := Bd.bytes
  have hml : c.maxLocals = 6 := hml0
  have hlk : meth.locks = false := BodyLoose.notSynchronized Bd
  have hown : s.vm.findClass "com/example/eriu/eriu/algorithm/RandomizedElection" = some m.cls := findClass_of_methodNamed Bd.named
  have hnm := (name_of_methodNamed Bd.named Bd.method).1
  have hci : ∀ i v, (i, v) ∈ ([] : List (Nat × Int32)) → (Jvm.Cond.constant "com/example/eriu/eriu/algorithm/RandomizedElection" i v).before #[(.int x0), (.int x1), (.long x2), (.long x3)] s = true := own_ci0
  have hcl : ∀ i v, (i, v) ∈ ([] : List (Nat × Int64)) → (Jvm.Cond.constantLong "com/example/eriu/eriu/algorithm/RandomizedElection" i v).before #[(.int x0), (.int x1), (.long x2), (.long x3)] s = true := own_ci0
  have X0 : Stand p l e ({ frames := 2, cells := 0, slots := 0, locals := 28 } : Room) s m #[(.int x0), (.int x1), (.long x2), (.long x3)] below meth c s₁ [] 0 0 := Stand.of_body Bd
  have e0 : s₁.heap = h0 := by rw [← hh, Bd.state]; rfl
  have N0 := Fr.nil n0
  show Goes p e below s (QP none h0 n0) ({ frames := 2, cells := 0, slots := 0, locals := 28 } : Room).cells ({ frames := 2, cells := 0, slots := 0, locals := 28 } : Room).slots (s₁.setTop (entryFrame m #[(.int x0), (.int x1), (.long x2), (.long x3)] 6))
  refine Goes.cast (ef5 m x0 x1 x2 x3) ?_
  refine Goes.run X0 hx hown hci hcl hby (L := [(0, .iload_n 0, 1), (1, .iload_n 1, 1), (2, .lload 4, 2)]) (by decide +kernel) rfl (g' := (mkF m 4 #[.val (.int x0), .val (.int x1), .val (.long x2), .second, .val (.long x3), .second] [(.long x3), (.int x1), (.int x0)])) rfl ?_
  obtain ⟨_, _, ⟨T1, L1, k1, n1⟩, -, X1, ⟨Lc1, hQ1, l1, y1, z1⟩, st1⟩ := Jvm.LawKit.callS X0 hx (y := (⟨"com/example/eriu/eriu/algorithm/QuorumElection", "validate", "(IIJ)V"⟩ : MethodName)) hown (mvT hZ (hw _ (List.mem_of_getElem? (i := 12) rfl))) (mvT hZ (hw _ (List.mem_of_getElem? (i := 13) rfl))) (mvT hZ (hw _ (List.mem_of_getElem? (i := 14) rfl))) (mvT hZ (hw _ (List.mem_of_getElem? (i := 15) rfl))) (by decide) (backOf (W := 0) (rm2 l Z a0 hw [] x0 x1 x3 h0 n0 Z0 p1 p2 p3 p4 p5) hZ (hw _ (List.mem_of_getElem? (i := 15) rfl)) (hw _ (List.mem_of_getElem? (i := 14) rfl)) (by decide) (by decide)) (g := (mkF m 4 #[.val (.int x0), .val (.int x1), .val (.long x2), .second, .val (.long x3), .second] [(.long x3), (.int x1), (.int x0)])) rfl (by rw [hml]; rfl) (argsL := [(.int x0), (.int x1), (.long x3)]) (rest := []) (lenOf pd5_0 rfl) rfl (by show 2 * 0 + _ ≤ _; exact Nat.le_of_eq rfl) (hb hby d5_4) (fun _ _ => ⟨rfl, e0, (by decide : 0 + 0 ≤ _), (by decide : 0 + 0 ≤ _)⟩)
  dsimp only [Pt.U, Pt.locs, Pt.cells, Pt.slots] at X1 l1 y1 z1 st1 hQ1
  subst l1 y1 z1
  obtain ⟨rfl, N1q, e1⟩ := hQ1
  have N1 := Fr.app N0 N1q
  refine Goes.st (B := T1.setTop (mkF m 7 #[.val (.int x0), .val (.int x1), .val (.long x2), .second, .val (.long x3), .second] [])) st1 ?_
  refine Goes.run X1 hx hown hci hcl hby (L := [(7, .lload_n 2, 1), (8, .lconst 0, 1), (9, .lcmp, 1)]) (by decide +kernel) rfl (g' := (mkF m 10 #[.val (.int x0), .val (.int x1), .val (.long x2), .second, .val (.long x3), .second] [(.int (lcmpW x2 (0 : Int64)))])) rfl ?_
  have hc10_2 : ¬ (x2 < (0 : Int64)) := p6
  refine Goes.st (B := T1.setTop (mkF m 13 #[.val (.int x0), .val (.int x1), .val (.long x2), .second, .val (.long x3), .second] [])) (fun t k => ?_) ?_
  · refine XS.ifNo X1.here hx rfl (hb hby d5_10) rfl (fltL hc10_2).1 ?_
    exact k
  refine Goes.run X1 hx hown hci hcl hby (L := [(13, .lload_n 2, 1), (14, .iload_n 0, 1)]) (by decide +kernel) rfl (g' := (mkF m 15 #[.val (.int x0), .val (.int x1), .val (.long x2), .second, .val (.long x3), .second] [(.int x0), (.long x2)])) rfl ?_
  obtain ⟨_, _, ⟨T3, L3, k3, n3⟩, -, X3, ⟨Lc3, hQ3, l3, y3, z3⟩, st3⟩ := Jvm.LawKit.callS X1 hx (y := (⟨"com/example/eriu/eriu/algorithm/RandomizedElection", "ceilLog2", "(I)I"⟩ : MethodName)) hown (mvT hZ (hw _ (List.mem_of_getElem? (i := 17) rfl))) (mvT hZ (hw _ (List.mem_of_getElem? (i := 18) rfl))) (mvT hZ (hw _ (List.mem_of_getElem? (i := 10) rfl))) (mvT hZ (hw _ (List.mem_of_getElem? (i := 19) rfl))) (by decide) (backOf (W := 2) (rm4 l Z a0 hw [] x0 h0 n0 Z0 ) hZ (hw _ (List.mem_of_getElem? (i := 19) rfl)) (hw _ (List.mem_of_getElem? (i := 10) rfl)) (by decide) (by decide)) (g := (mkF m 15 #[.val (.int x0), .val (.int x1), .val (.long x2), .second, .val (.long x3), .second] [(.int x0), (.long x2)])) rfl (by rw [hml]; rfl) (argsL := [(.int x0)]) (rest := [(.long x2)]) (lenOf pd5_1 rfl) rfl (by show 2 * 0 + _ ≤ _; exact Nat.le_of_eq rfl) (hb hby d5_15) (fun _ _ => ⟨rfl, e1, (by decide : 0 + 0 ≤ _), (by decide : 0 + 0 ≤ _)⟩)
  dsimp only [Pt.U, Pt.locs, Pt.cells, Pt.slots] at X3 l3 y3 z3 st3 hQ3
  subst l3 y3 z3
  obtain ⟨rfl, N3q, e3⟩ := hQ3
  have N3 := Fr.app N1 N3q
  refine Goes.st (B := T3.setTop (mkF m 18 #[.val (.int x0), .val (.int x1), .val (.long x2), .second, .val (.long x3), .second] [(.int (r4 x0)), (.long x2)])) st3 ?_
  refine Goes.run X3 hx hown hci hcl hby (L := [(18, .i2l, 1), (19, .lcmp, 1)]) (by decide +kernel) rfl (g' := (mkF m 20 #[.val (.int x0), .val (.int x1), .val (.long x2), .second, .val (.long x3), .second] [(.int (lcmpW x2 ((r4 x0).toInt64)))])) rfl ?_
  have hc20_4 : ¬ (((r4 x0).toInt64) < x2) := p7
  refine Goes.st (B := T3.setTop (mkF m 42 #[.val (.int x0), .val (.int x1), .val (.long x2), .second, .val (.long x3), .second] [])) (fun t k => ?_) ?_
  · refine XS.ifYes X3.here hx rfl (pc0 := 20) (pc' := 42) rfl (hb hby d5_20) rfl (fltL hc20_4).2.2.2 (by decide) (by decide) ?_
    exact k
  exact Goes.retV X3 hx hlk Bd.returns (hb hby d5_42) ⟨rfl, N3, e3⟩ (by decide) (by decide)
theorem pn0 : plainName "com/example/eriu/eriu/algorithm/RandomizedElectionValidatePinLaw" = true := by first | (simp [plainName, overriddenIn]; done) | decide +kernel
theorem pd0_0 : parseMethodDescriptor "(I)I" = some ⟨[.int], some .int⟩ := by decide +kernel
theorem pd0_1 : parseMethodDescriptor "(IIJJ)V" = some ⟨[.int, .int, .long, .long], none⟩ := by decide +kernel
theorem ef0 (m : MethodId) (x0 : Int32) (x1 : Int32) (x2 : Int64) (x3 : Int64) : entryFrame m #[(.int x0), (.int x1), (.long x2), (.long x3)] maxLocals = (mkF m 0 #[.val (.int x0), .val (.int x1), .val (.long x2), .second, .val (.long x3), .second, .unset, .unset, .unset, .unset, .unset, .unset, .unset] []) := by first | (simp [entryFrame, mkF, argsToLocals, Value.category, maxLocals]; done) | rfl
def w0_7l (x0 : Int32) (x1 : Int32) (x2 : Int64) (x3 : Int64) : Int32 := (x0 &&& (2147483647 : Int32))
def w0_9 (x0 : Int32) (x1 : Int32) (x2 : Int64) (x3 : Int64) : Int32 := ((1 : Int32) + ((w0_7l x0 x1 x2 x3) - ((w0_7l x0 x1 x2 x3) / (55108 : Int32)) * (55108 : Int32)))
def w0_16 (x0 : Int32) (x1 : Int32) (x2 : Int64) (x3 : Int64) : Int32 := (r1 (w0_9 x0 x1 x2 x3))
def w0_26l (x0 : Int32) (x1 : Int32) (x2 : Int64) (x3 : Int64) : Int32 := (x1 &&& (2147483647 : Int32))
def w0_26r (x0 : Int32) (x1 : Int32) (x2 : Int64) (x3 : Int64) : Int32 := ((w0_9 x0 x1 x2 x3) + (1 : Int32))
def w0_27 (x0 : Int32) (x1 : Int32) (x2 : Int64) (x3 : Int64) : Int32 := ((w0_26l x0 x1 x2 x3) - ((w0_26l x0 x1 x2 x3) / (w0_26r x0 x1 x2 x3)) * (w0_26r x0 x1 x2 x3))
def w0_39l (x0 : Int32) (x1 : Int32) (x2 : Int64) (x3 : Int64) : Int64 := (x2 &&& (9223372036854775807 : Int64))
def w0_39r (x0 : Int32) (x1 : Int32) (x2 : Int64) (x3 : Int64) : Int64 := (((w0_16 x0 x1 x2 x3) + (1 : Int32)).toInt64)
def w0_40 (x0 : Int32) (x1 : Int32) (x2 : Int64) (x3 : Int64) : Int64 := ((w0_39l x0 x1 x2 x3) - ((w0_39l x0 x1 x2 x3) / (w0_39r x0 x1 x2 x3)) * (w0_39r x0 x1 x2 x3))
def w0_48 (x0 : Int32) (x1 : Int32) (x2 : Int64) (x3 : Int64) : Int64 := (x3 &&& (9223372036854775807 : Int64))
def j0_60_11 (x0 : Int32) (x1 : Int32) (x2 : Int64) (x3 : Int64) : Int64 := (if (w0_48 x0 x1 x2 x3) = (0 : Int64) then (1 : Int64) else (w0_48 x0 x1 x2 x3))
def r0 (x0 : Int32) (x1 : Int32) (x2 : Int64) (x3 : Int64) : Int32 := (1 : Int32)
theorem own_us {x : Int32} {a : Int} (hx : x.toInt = a) (h0 : 0 ≤ a) {n : UInt32} {k : Nat} (hn : n.toNat = k) (hk : k < 32) {d : Int} (hd : (2 : Int) ^ k = d) : ((x.toUInt32 >>> n).toInt32).toInt = a / d := by
  rw [Jvm.Kit.i32_iushr (by rw [Jvm.Kit.i32_nonneg, hx]; exact h0) hn hk, hx, hd]
theorem own_c0 (x0 : Int32) {N : Int} (hN : x0.toInt = N) (h1 : 0 < N) (h2 : N ≤ 1) : r1 x0 = 0 := by
  have e0 : j1_10_1 x0 = 0 := (if_neg (fun q => by have := (own_lt32 (show (1 : Int32).toInt = 1 by decide) hN).mp q; omega)).trans rfl
  have e1 : j1_18_1 x0 = 0 := (if_neg (fun q => by have := (own_lt32 (show (2 : Int32).toInt = 2 by decide) hN).mp q; omega)).trans e0
  have e2 : j1_26_1 x0 = 0 := (if_neg (fun q => by have := (own_lt32 (show (4 : Int32).toInt = 4 by decide) hN).mp q; omega)).trans e1
  have e3 : j1_35_1 x0 = 0 := (if_neg (fun q => by have := (own_lt32 (show (8 : Int32).toInt = 8 by decide) hN).mp q; omega)).trans e2
  have e4 : j1_44_1 x0 = 0 := (if_neg (fun q => by have := (own_lt32 (show (16 : Int32).toInt = 16 by decide) hN).mp q; omega)).trans e3
  have e5 : j1_53_1 x0 = 0 := (if_neg (fun q => by have := (own_lt32 (show (32 : Int32).toInt = 32 by decide) hN).mp q; omega)).trans e4
  have e6 : j1_62_1 x0 = 0 := (if_neg (fun q => by have := (own_lt32 (show (64 : Int32).toInt = 64 by decide) hN).mp q; omega)).trans e5
  have e7 : j1_72_1 x0 = 0 := (if_neg (fun q => by have := (own_lt32 (show (128 : Int32).toInt = 128 by decide) hN).mp q; omega)).trans e6
  have e8 : j1_82_1 x0 = 0 := (if_neg (fun q => by have := (own_lt32 (show (256 : Int32).toInt = 256 by decide) hN).mp q; omega)).trans e7
  have e9 : j1_92_1 x0 = 0 := (if_neg (fun q => by have := (own_lt32 (show (512 : Int32).toInt = 512 by decide) hN).mp q; omega)).trans e8
  have e10 : j1_102_1 x0 = 0 := (if_neg (fun q => by have := (own_lt32 (show (1024 : Int32).toInt = 1024 by decide) hN).mp q; omega)).trans e9
  have e11 : j1_112_1 x0 = 0 := (if_neg (fun q => by have := (own_lt32 (show (2048 : Int32).toInt = 2048 by decide) hN).mp q; omega)).trans e10
  have e12 : j1_122_1 x0 = 0 := (if_neg (fun q => by have := (own_lt32 (show (4096 : Int32).toInt = 4096 by decide) hN).mp q; omega)).trans e11
  have e13 : j1_132_1 x0 = 0 := (if_neg (fun q => by have := (own_lt32 (show (8192 : Int32).toInt = 8192 by decide) hN).mp q; omega)).trans e12
  have e14 : j1_142_1 x0 = 0 := (if_neg (fun q => by have := (own_lt32 (show (16384 : Int32).toInt = 16384 by decide) hN).mp q; omega)).trans e13
  have e15 : j1_151_1 x0 = 0 := (if_neg (fun q => by have := (own_lt32 (show (32768 : Int32).toInt = 32768 by decide) hN).mp q; omega)).trans e14
  exact e15
theorem own_c1 (x0 : Int32) {N : Int} (hN : x0.toInt = N) (h1 : 1 < N) (h2 : N ≤ 2) : r1 x0 = 1 := by
  have e0 : j1_10_1 x0 = 1 := (if_pos ((own_lt32 (show (1 : Int32).toInt = 1 by decide) hN).mpr (by omega))).trans (rfl)
  have e1 : j1_18_1 x0 = 1 := (if_neg (fun q => by have := (own_lt32 (show (2 : Int32).toInt = 2 by decide) hN).mp q; omega)).trans e0
  have e2 : j1_26_1 x0 = 1 := (if_neg (fun q => by have := (own_lt32 (show (4 : Int32).toInt = 4 by decide) hN).mp q; omega)).trans e1
  have e3 : j1_35_1 x0 = 1 := (if_neg (fun q => by have := (own_lt32 (show (8 : Int32).toInt = 8 by decide) hN).mp q; omega)).trans e2
  have e4 : j1_44_1 x0 = 1 := (if_neg (fun q => by have := (own_lt32 (show (16 : Int32).toInt = 16 by decide) hN).mp q; omega)).trans e3
  have e5 : j1_53_1 x0 = 1 := (if_neg (fun q => by have := (own_lt32 (show (32 : Int32).toInt = 32 by decide) hN).mp q; omega)).trans e4
  have e6 : j1_62_1 x0 = 1 := (if_neg (fun q => by have := (own_lt32 (show (64 : Int32).toInt = 64 by decide) hN).mp q; omega)).trans e5
  have e7 : j1_72_1 x0 = 1 := (if_neg (fun q => by have := (own_lt32 (show (128 : Int32).toInt = 128 by decide) hN).mp q; omega)).trans e6
  have e8 : j1_82_1 x0 = 1 := (if_neg (fun q => by have := (own_lt32 (show (256 : Int32).toInt = 256 by decide) hN).mp q; omega)).trans e7
  have e9 : j1_92_1 x0 = 1 := (if_neg (fun q => by have := (own_lt32 (show (512 : Int32).toInt = 512 by decide) hN).mp q; omega)).trans e8
  have e10 : j1_102_1 x0 = 1 := (if_neg (fun q => by have := (own_lt32 (show (1024 : Int32).toInt = 1024 by decide) hN).mp q; omega)).trans e9
  have e11 : j1_112_1 x0 = 1 := (if_neg (fun q => by have := (own_lt32 (show (2048 : Int32).toInt = 2048 by decide) hN).mp q; omega)).trans e10
  have e12 : j1_122_1 x0 = 1 := (if_neg (fun q => by have := (own_lt32 (show (4096 : Int32).toInt = 4096 by decide) hN).mp q; omega)).trans e11
  have e13 : j1_132_1 x0 = 1 := (if_neg (fun q => by have := (own_lt32 (show (8192 : Int32).toInt = 8192 by decide) hN).mp q; omega)).trans e12
  have e14 : j1_142_1 x0 = 1 := (if_neg (fun q => by have := (own_lt32 (show (16384 : Int32).toInt = 16384 by decide) hN).mp q; omega)).trans e13
  have e15 : j1_151_1 x0 = 1 := (if_neg (fun q => by have := (own_lt32 (show (32768 : Int32).toInt = 32768 by decide) hN).mp q; omega)).trans e14
  exact e15
theorem own_z1 (x0 : Int32) {I : Int} (hI : x0.toInt = I) (h1 : 1 ≤ I) (h2 : I < 2) : r3 x0 = 31 := by
  have g0 : (0 : Int32) < x0 := (own_lt32 (show (0 : Int32).toInt = 0 by decide) hI).mpr (by omega)
  have a0 : j3_33_0 x0 = x0 := if_pos ((own_lt32 hI (show (65536 : Int32).toInt = 65536 by decide)).mpr (by omega))
  have a1 : j3_33_1 x0 = 31 := if_pos ((own_lt32 hI (show (65536 : Int32).toInt = 65536 by decide)).mpr (by omega))
  obtain ⟨V0, hV0, v0⟩ : ∃ V, (j3_33_0 x0).toInt = V ∧ V = I := ⟨I, by rw [a0]; exact hI, rfl⟩
  have c0 : j3_33_0 x0 < (256 : Int32) := (own_lt32 hV0 (show (256 : Int32).toInt = 256 by decide)).mpr (by omega)
  obtain ⟨V1, hV1, v1⟩ : ∃ V, (j3_48_0 x0).toInt = V ∧ V = V0 := ⟨V0, by rw [show j3_48_0 x0 = j3_33_0 x0 from if_pos c0]; exact hV0, rfl⟩
  have b0 : j3_48_1 x0 = 31 := (if_pos c0).trans a1
  have c1 : j3_48_0 x0 < (16 : Int32) := (own_lt32 hV1 (show (16 : Int32).toInt = 16 by decide)).mpr (by omega)
  obtain ⟨V2, hV2, v2⟩ : ∃ V, (j3_61_0 x0).toInt = V ∧ V = V1 := ⟨V1, by rw [show j3_61_0 x0 = j3_48_0 x0 from if_pos c1]; exact hV1, rfl⟩
  have b1 : j3_61_1 x0 = 31 := (if_pos c1).trans b0
  have c2 : j3_61_0 x0 < (4 : Int32) := (own_lt32 hV2 (show (4 : Int32).toInt = 4 by decide)).mpr (by omega)
  obtain ⟨V3, hV3, v3⟩ : ∃ V, (j3_73_0 x0).toInt = V ∧ V = V2 := ⟨V2, by rw [show j3_73_0 x0 = j3_61_0 x0 from if_pos c2]; exact hV2, rfl⟩
  have b2 : j3_73_1 x0 = 31 := (if_pos c2).trans b1
  have f := own_us hV3 (by omega) (n := ((1 : Int32) &&& 31).toUInt32) (k := 1) (by decide) (by decide) (d := 2) (by decide)
  have f1 : ((((j3_73_0 x0).toUInt32 >>> ((1 : Int32) &&& 31).toUInt32).toInt32)) = (0 : Int32) := (own_eq32 f (show (0 : Int32).toInt = 0 by decide)).mpr (by omega)
  refine (if_pos g0).trans ?_
  rw [b2, f1]; rfl
theorem own_c2 (x0 : Int32) {N : Int} (hN : x0.toInt = N) (h1 : 2 < N) (h2 : N ≤ 4) : r1 x0 = 2 := by
  have e0 : j1_10_1 x0 = 1 := (if_pos ((own_lt32 (show (1 : Int32).toInt = 1 by decide) hN).mpr (by omega))).trans (rfl)
  have e1 : j1_18_1 x0 = 2 := (if_pos ((own_lt32 (show (2 : Int32).toInt = 2 by decide) hN).mpr (by omega))).trans (by show j1_10_1 x0 + 1 = _; rw [e0]; rfl)
  have e2 : j1_26_1 x0 = 2 := (if_neg (fun q => by have := (own_lt32 (show (4 : Int32).toInt = 4 by decide) hN).mp q; omega)).trans e1
  have e3 : j1_35_1 x0 = 2 := (if_neg (fun q => by have := (own_lt32 (show (8 : Int32).toInt = 8 by decide) hN).mp q; omega)).trans e2
  have e4 : j1_44_1 x0 = 2 := (if_neg (fun q => by have := (own_lt32 (show (16 : Int32).toInt = 16 by decide) hN).mp q; omega)).trans e3
  have e5 : j1_53_1 x0 = 2 := (if_neg (fun q => by have := (own_lt32 (show (32 : Int32).toInt = 32 by decide) hN).mp q; omega)).trans e4
  have e6 : j1_62_1 x0 = 2 := (if_neg (fun q => by have := (own_lt32 (show (64 : Int32).toInt = 64 by decide) hN).mp q; omega)).trans e5
  have e7 : j1_72_1 x0 = 2 := (if_neg (fun q => by have := (own_lt32 (show (128 : Int32).toInt = 128 by decide) hN).mp q; omega)).trans e6
  have e8 : j1_82_1 x0 = 2 := (if_neg (fun q => by have := (own_lt32 (show (256 : Int32).toInt = 256 by decide) hN).mp q; omega)).trans e7
  have e9 : j1_92_1 x0 = 2 := (if_neg (fun q => by have := (own_lt32 (show (512 : Int32).toInt = 512 by decide) hN).mp q; omega)).trans e8
  have e10 : j1_102_1 x0 = 2 := (if_neg (fun q => by have := (own_lt32 (show (1024 : Int32).toInt = 1024 by decide) hN).mp q; omega)).trans e9
  have e11 : j1_112_1 x0 = 2 := (if_neg (fun q => by have := (own_lt32 (show (2048 : Int32).toInt = 2048 by decide) hN).mp q; omega)).trans e10
  have e12 : j1_122_1 x0 = 2 := (if_neg (fun q => by have := (own_lt32 (show (4096 : Int32).toInt = 4096 by decide) hN).mp q; omega)).trans e11
  have e13 : j1_132_1 x0 = 2 := (if_neg (fun q => by have := (own_lt32 (show (8192 : Int32).toInt = 8192 by decide) hN).mp q; omega)).trans e12
  have e14 : j1_142_1 x0 = 2 := (if_neg (fun q => by have := (own_lt32 (show (16384 : Int32).toInt = 16384 by decide) hN).mp q; omega)).trans e13
  have e15 : j1_151_1 x0 = 2 := (if_neg (fun q => by have := (own_lt32 (show (32768 : Int32).toInt = 32768 by decide) hN).mp q; omega)).trans e14
  exact e15
theorem own_z2 (x0 : Int32) {I : Int} (hI : x0.toInt = I) (h1 : 2 ≤ I) (h2 : I < 4) : r3 x0 = 30 := by
  have g0 : (0 : Int32) < x0 := (own_lt32 (show (0 : Int32).toInt = 0 by decide) hI).mpr (by omega)
  have a0 : j3_33_0 x0 = x0 := if_pos ((own_lt32 hI (show (65536 : Int32).toInt = 65536 by decide)).mpr (by omega))
  have a1 : j3_33_1 x0 = 31 := if_pos ((own_lt32 hI (show (65536 : Int32).toInt = 65536 by decide)).mpr (by omega))
  obtain ⟨V0, hV0, v0⟩ : ∃ V, (j3_33_0 x0).toInt = V ∧ V = I := ⟨I, by rw [a0]; exact hI, rfl⟩
  have c0 : j3_33_0 x0 < (256 : Int32) := (own_lt32 hV0 (show (256 : Int32).toInt = 256 by decide)).mpr (by omega)
  obtain ⟨V1, hV1, v1⟩ : ∃ V, (j3_48_0 x0).toInt = V ∧ V = V0 := ⟨V0, by rw [show j3_48_0 x0 = j3_33_0 x0 from if_pos c0]; exact hV0, rfl⟩
  have b0 : j3_48_1 x0 = 31 := (if_pos c0).trans a1
  have c1 : j3_48_0 x0 < (16 : Int32) := (own_lt32 hV1 (show (16 : Int32).toInt = 16 by decide)).mpr (by omega)
  obtain ⟨V2, hV2, v2⟩ : ∃ V, (j3_61_0 x0).toInt = V ∧ V = V1 := ⟨V1, by rw [show j3_61_0 x0 = j3_48_0 x0 from if_pos c1]; exact hV1, rfl⟩
  have b1 : j3_61_1 x0 = 31 := (if_pos c1).trans b0
  have c2 : j3_61_0 x0 < (4 : Int32) := (own_lt32 hV2 (show (4 : Int32).toInt = 4 by decide)).mpr (by omega)
  obtain ⟨V3, hV3, v3⟩ : ∃ V, (j3_73_0 x0).toInt = V ∧ V = V2 := ⟨V2, by rw [show j3_73_0 x0 = j3_61_0 x0 from if_pos c2]; exact hV2, rfl⟩
  have b2 : j3_73_1 x0 = 31 := (if_pos c2).trans b1
  have f := own_us hV3 (by omega) (n := ((1 : Int32) &&& 31).toUInt32) (k := 1) (by decide) (by decide) (d := 2) (by decide)
  have f1 : ((((j3_73_0 x0).toUInt32 >>> ((1 : Int32) &&& 31).toUInt32).toInt32)) = (1 : Int32) := (own_eq32 f (show (1 : Int32).toInt = 1 by decide)).mpr (by omega)
  refine (if_pos g0).trans ?_
  rw [b2, f1]; rfl
theorem own_c3 (x0 : Int32) {N : Int} (hN : x0.toInt = N) (h1 : 4 < N) (h2 : N ≤ 8) : r1 x0 = 3 := by
  have e0 : j1_10_1 x0 = 1 := (if_pos ((own_lt32 (show (1 : Int32).toInt = 1 by decide) hN).mpr (by omega))).trans (rfl)
  have e1 : j1_18_1 x0 = 2 := (if_pos ((own_lt32 (show (2 : Int32).toInt = 2 by decide) hN).mpr (by omega))).trans (by show j1_10_1 x0 + 1 = _; rw [e0]; rfl)
  have e2 : j1_26_1 x0 = 3 := (if_pos ((own_lt32 (show (4 : Int32).toInt = 4 by decide) hN).mpr (by omega))).trans (by show j1_18_1 x0 + 1 = _; rw [e1]; rfl)
  have e3 : j1_35_1 x0 = 3 := (if_neg (fun q => by have := (own_lt32 (show (8 : Int32).toInt = 8 by decide) hN).mp q; omega)).trans e2
  have e4 : j1_44_1 x0 = 3 := (if_neg (fun q => by have := (own_lt32 (show (16 : Int32).toInt = 16 by decide) hN).mp q; omega)).trans e3
  have e5 : j1_53_1 x0 = 3 := (if_neg (fun q => by have := (own_lt32 (show (32 : Int32).toInt = 32 by decide) hN).mp q; omega)).trans e4
  have e6 : j1_62_1 x0 = 3 := (if_neg (fun q => by have := (own_lt32 (show (64 : Int32).toInt = 64 by decide) hN).mp q; omega)).trans e5
  have e7 : j1_72_1 x0 = 3 := (if_neg (fun q => by have := (own_lt32 (show (128 : Int32).toInt = 128 by decide) hN).mp q; omega)).trans e6
  have e8 : j1_82_1 x0 = 3 := (if_neg (fun q => by have := (own_lt32 (show (256 : Int32).toInt = 256 by decide) hN).mp q; omega)).trans e7
  have e9 : j1_92_1 x0 = 3 := (if_neg (fun q => by have := (own_lt32 (show (512 : Int32).toInt = 512 by decide) hN).mp q; omega)).trans e8
  have e10 : j1_102_1 x0 = 3 := (if_neg (fun q => by have := (own_lt32 (show (1024 : Int32).toInt = 1024 by decide) hN).mp q; omega)).trans e9
  have e11 : j1_112_1 x0 = 3 := (if_neg (fun q => by have := (own_lt32 (show (2048 : Int32).toInt = 2048 by decide) hN).mp q; omega)).trans e10
  have e12 : j1_122_1 x0 = 3 := (if_neg (fun q => by have := (own_lt32 (show (4096 : Int32).toInt = 4096 by decide) hN).mp q; omega)).trans e11
  have e13 : j1_132_1 x0 = 3 := (if_neg (fun q => by have := (own_lt32 (show (8192 : Int32).toInt = 8192 by decide) hN).mp q; omega)).trans e12
  have e14 : j1_142_1 x0 = 3 := (if_neg (fun q => by have := (own_lt32 (show (16384 : Int32).toInt = 16384 by decide) hN).mp q; omega)).trans e13
  have e15 : j1_151_1 x0 = 3 := (if_neg (fun q => by have := (own_lt32 (show (32768 : Int32).toInt = 32768 by decide) hN).mp q; omega)).trans e14
  exact e15
theorem own_z3 (x0 : Int32) {I : Int} (hI : x0.toInt = I) (h1 : 4 ≤ I) (h2 : I < 8) : r3 x0 = 29 := by
  have g0 : (0 : Int32) < x0 := (own_lt32 (show (0 : Int32).toInt = 0 by decide) hI).mpr (by omega)
  have a0 : j3_33_0 x0 = x0 := if_pos ((own_lt32 hI (show (65536 : Int32).toInt = 65536 by decide)).mpr (by omega))
  have a1 : j3_33_1 x0 = 31 := if_pos ((own_lt32 hI (show (65536 : Int32).toInt = 65536 by decide)).mpr (by omega))
  obtain ⟨V0, hV0, v0⟩ : ∃ V, (j3_33_0 x0).toInt = V ∧ V = I := ⟨I, by rw [a0]; exact hI, rfl⟩
  have c0 : j3_33_0 x0 < (256 : Int32) := (own_lt32 hV0 (show (256 : Int32).toInt = 256 by decide)).mpr (by omega)
  obtain ⟨V1, hV1, v1⟩ : ∃ V, (j3_48_0 x0).toInt = V ∧ V = V0 := ⟨V0, by rw [show j3_48_0 x0 = j3_33_0 x0 from if_pos c0]; exact hV0, rfl⟩
  have b0 : j3_48_1 x0 = 31 := (if_pos c0).trans a1
  have c1 : j3_48_0 x0 < (16 : Int32) := (own_lt32 hV1 (show (16 : Int32).toInt = 16 by decide)).mpr (by omega)
  obtain ⟨V2, hV2, v2⟩ : ∃ V, (j3_61_0 x0).toInt = V ∧ V = V1 := ⟨V1, by rw [show j3_61_0 x0 = j3_48_0 x0 from if_pos c1]; exact hV1, rfl⟩
  have b1 : j3_61_1 x0 = 31 := (if_pos c1).trans b0
  have c2 : ¬ j3_61_0 x0 < (4 : Int32) := fun q => by have := (own_lt32 hV2 (show (4 : Int32).toInt = 4 by decide)).mp q; omega
  obtain ⟨V3, hV3, v3⟩ : ∃ V, (j3_73_0 x0).toInt = V ∧ V = V2 / 4 := ⟨_, by rw [show j3_73_0 x0 = w3_72 x0 from if_neg c2]; exact own_us hV2 (by omega) (n := ((2 : Int32) &&& 31).toUInt32) (k := 2) (by decide) (by decide) (by decide), rfl⟩
  have b2 : j3_73_1 x0 = 29 := (if_neg c2).trans (by show j3_61_1 x0 + Int32.ofInt (-2) = _; rw [b1]; rfl)
  have f := own_us hV3 (by omega) (n := ((1 : Int32) &&& 31).toUInt32) (k := 1) (by decide) (by decide) (d := 2) (by decide)
  have f1 : ((((j3_73_0 x0).toUInt32 >>> ((1 : Int32) &&& 31).toUInt32).toInt32)) = (0 : Int32) := (own_eq32 f (show (0 : Int32).toInt = 0 by decide)).mpr (by omega)
  refine (if_pos g0).trans ?_
  rw [b2, f1]; rfl
theorem own_c4 (x0 : Int32) {N : Int} (hN : x0.toInt = N) (h1 : 8 < N) (h2 : N ≤ 16) : r1 x0 = 4 := by
  have e0 : j1_10_1 x0 = 1 := (if_pos ((own_lt32 (show (1 : Int32).toInt = 1 by decide) hN).mpr (by omega))).trans (rfl)
  have e1 : j1_18_1 x0 = 2 := (if_pos ((own_lt32 (show (2 : Int32).toInt = 2 by decide) hN).mpr (by omega))).trans (by show j1_10_1 x0 + 1 = _; rw [e0]; rfl)
  have e2 : j1_26_1 x0 = 3 := (if_pos ((own_lt32 (show (4 : Int32).toInt = 4 by decide) hN).mpr (by omega))).trans (by show j1_18_1 x0 + 1 = _; rw [e1]; rfl)
  have e3 : j1_35_1 x0 = 4 := (if_pos ((own_lt32 (show (8 : Int32).toInt = 8 by decide) hN).mpr (by omega))).trans (by show j1_26_1 x0 + 1 = _; rw [e2]; rfl)
  have e4 : j1_44_1 x0 = 4 := (if_neg (fun q => by have := (own_lt32 (show (16 : Int32).toInt = 16 by decide) hN).mp q; omega)).trans e3
  have e5 : j1_53_1 x0 = 4 := (if_neg (fun q => by have := (own_lt32 (show (32 : Int32).toInt = 32 by decide) hN).mp q; omega)).trans e4
  have e6 : j1_62_1 x0 = 4 := (if_neg (fun q => by have := (own_lt32 (show (64 : Int32).toInt = 64 by decide) hN).mp q; omega)).trans e5
  have e7 : j1_72_1 x0 = 4 := (if_neg (fun q => by have := (own_lt32 (show (128 : Int32).toInt = 128 by decide) hN).mp q; omega)).trans e6
  have e8 : j1_82_1 x0 = 4 := (if_neg (fun q => by have := (own_lt32 (show (256 : Int32).toInt = 256 by decide) hN).mp q; omega)).trans e7
  have e9 : j1_92_1 x0 = 4 := (if_neg (fun q => by have := (own_lt32 (show (512 : Int32).toInt = 512 by decide) hN).mp q; omega)).trans e8
  have e10 : j1_102_1 x0 = 4 := (if_neg (fun q => by have := (own_lt32 (show (1024 : Int32).toInt = 1024 by decide) hN).mp q; omega)).trans e9
  have e11 : j1_112_1 x0 = 4 := (if_neg (fun q => by have := (own_lt32 (show (2048 : Int32).toInt = 2048 by decide) hN).mp q; omega)).trans e10
  have e12 : j1_122_1 x0 = 4 := (if_neg (fun q => by have := (own_lt32 (show (4096 : Int32).toInt = 4096 by decide) hN).mp q; omega)).trans e11
  have e13 : j1_132_1 x0 = 4 := (if_neg (fun q => by have := (own_lt32 (show (8192 : Int32).toInt = 8192 by decide) hN).mp q; omega)).trans e12
  have e14 : j1_142_1 x0 = 4 := (if_neg (fun q => by have := (own_lt32 (show (16384 : Int32).toInt = 16384 by decide) hN).mp q; omega)).trans e13
  have e15 : j1_151_1 x0 = 4 := (if_neg (fun q => by have := (own_lt32 (show (32768 : Int32).toInt = 32768 by decide) hN).mp q; omega)).trans e14
  exact e15
theorem own_z4 (x0 : Int32) {I : Int} (hI : x0.toInt = I) (h1 : 8 ≤ I) (h2 : I < 16) : r3 x0 = 28 := by
  have g0 : (0 : Int32) < x0 := (own_lt32 (show (0 : Int32).toInt = 0 by decide) hI).mpr (by omega)
  have a0 : j3_33_0 x0 = x0 := if_pos ((own_lt32 hI (show (65536 : Int32).toInt = 65536 by decide)).mpr (by omega))
  have a1 : j3_33_1 x0 = 31 := if_pos ((own_lt32 hI (show (65536 : Int32).toInt = 65536 by decide)).mpr (by omega))
  obtain ⟨V0, hV0, v0⟩ : ∃ V, (j3_33_0 x0).toInt = V ∧ V = I := ⟨I, by rw [a0]; exact hI, rfl⟩
  have c0 : j3_33_0 x0 < (256 : Int32) := (own_lt32 hV0 (show (256 : Int32).toInt = 256 by decide)).mpr (by omega)
  obtain ⟨V1, hV1, v1⟩ : ∃ V, (j3_48_0 x0).toInt = V ∧ V = V0 := ⟨V0, by rw [show j3_48_0 x0 = j3_33_0 x0 from if_pos c0]; exact hV0, rfl⟩
  have b0 : j3_48_1 x0 = 31 := (if_pos c0).trans a1
  have c1 : j3_48_0 x0 < (16 : Int32) := (own_lt32 hV1 (show (16 : Int32).toInt = 16 by decide)).mpr (by omega)
  obtain ⟨V2, hV2, v2⟩ : ∃ V, (j3_61_0 x0).toInt = V ∧ V = V1 := ⟨V1, by rw [show j3_61_0 x0 = j3_48_0 x0 from if_pos c1]; exact hV1, rfl⟩
  have b1 : j3_61_1 x0 = 31 := (if_pos c1).trans b0
  have c2 : ¬ j3_61_0 x0 < (4 : Int32) := fun q => by have := (own_lt32 hV2 (show (4 : Int32).toInt = 4 by decide)).mp q; omega
  obtain ⟨V3, hV3, v3⟩ : ∃ V, (j3_73_0 x0).toInt = V ∧ V = V2 / 4 := ⟨_, by rw [show j3_73_0 x0 = w3_72 x0 from if_neg c2]; exact own_us hV2 (by omega) (n := ((2 : Int32) &&& 31).toUInt32) (k := 2) (by decide) (by decide) (by decide), rfl⟩
  have b2 : j3_73_1 x0 = 29 := (if_neg c2).trans (by show j3_61_1 x0 + Int32.ofInt (-2) = _; rw [b1]; rfl)
  have f := own_us hV3 (by omega) (n := ((1 : Int32) &&& 31).toUInt32) (k := 1) (by decide) (by decide) (d := 2) (by decide)
  have f1 : ((((j3_73_0 x0).toUInt32 >>> ((1 : Int32) &&& 31).toUInt32).toInt32)) = (1 : Int32) := (own_eq32 f (show (1 : Int32).toInt = 1 by decide)).mpr (by omega)
  refine (if_pos g0).trans ?_
  rw [b2, f1]; rfl
theorem own_c5 (x0 : Int32) {N : Int} (hN : x0.toInt = N) (h1 : 16 < N) (h2 : N ≤ 32) : r1 x0 = 5 := by
  have e0 : j1_10_1 x0 = 1 := (if_pos ((own_lt32 (show (1 : Int32).toInt = 1 by decide) hN).mpr (by omega))).trans (rfl)
  have e1 : j1_18_1 x0 = 2 := (if_pos ((own_lt32 (show (2 : Int32).toInt = 2 by decide) hN).mpr (by omega))).trans (by show j1_10_1 x0 + 1 = _; rw [e0]; rfl)
  have e2 : j1_26_1 x0 = 3 := (if_pos ((own_lt32 (show (4 : Int32).toInt = 4 by decide) hN).mpr (by omega))).trans (by show j1_18_1 x0 + 1 = _; rw [e1]; rfl)
  have e3 : j1_35_1 x0 = 4 := (if_pos ((own_lt32 (show (8 : Int32).toInt = 8 by decide) hN).mpr (by omega))).trans (by show j1_26_1 x0 + 1 = _; rw [e2]; rfl)
  have e4 : j1_44_1 x0 = 5 := (if_pos ((own_lt32 (show (16 : Int32).toInt = 16 by decide) hN).mpr (by omega))).trans (by show j1_35_1 x0 + 1 = _; rw [e3]; rfl)
  have e5 : j1_53_1 x0 = 5 := (if_neg (fun q => by have := (own_lt32 (show (32 : Int32).toInt = 32 by decide) hN).mp q; omega)).trans e4
  have e6 : j1_62_1 x0 = 5 := (if_neg (fun q => by have := (own_lt32 (show (64 : Int32).toInt = 64 by decide) hN).mp q; omega)).trans e5
  have e7 : j1_72_1 x0 = 5 := (if_neg (fun q => by have := (own_lt32 (show (128 : Int32).toInt = 128 by decide) hN).mp q; omega)).trans e6
  have e8 : j1_82_1 x0 = 5 := (if_neg (fun q => by have := (own_lt32 (show (256 : Int32).toInt = 256 by decide) hN).mp q; omega)).trans e7
  have e9 : j1_92_1 x0 = 5 := (if_neg (fun q => by have := (own_lt32 (show (512 : Int32).toInt = 512 by decide) hN).mp q; omega)).trans e8
  have e10 : j1_102_1 x0 = 5 := (if_neg (fun q => by have := (own_lt32 (show (1024 : Int32).toInt = 1024 by decide) hN).mp q; omega)).trans e9
  have e11 : j1_112_1 x0 = 5 := (if_neg (fun q => by have := (own_lt32 (show (2048 : Int32).toInt = 2048 by decide) hN).mp q; omega)).trans e10
  have e12 : j1_122_1 x0 = 5 := (if_neg (fun q => by have := (own_lt32 (show (4096 : Int32).toInt = 4096 by decide) hN).mp q; omega)).trans e11
  have e13 : j1_132_1 x0 = 5 := (if_neg (fun q => by have := (own_lt32 (show (8192 : Int32).toInt = 8192 by decide) hN).mp q; omega)).trans e12
  have e14 : j1_142_1 x0 = 5 := (if_neg (fun q => by have := (own_lt32 (show (16384 : Int32).toInt = 16384 by decide) hN).mp q; omega)).trans e13
  have e15 : j1_151_1 x0 = 5 := (if_neg (fun q => by have := (own_lt32 (show (32768 : Int32).toInt = 32768 by decide) hN).mp q; omega)).trans e14
  exact e15
theorem own_z5 (x0 : Int32) {I : Int} (hI : x0.toInt = I) (h1 : 16 ≤ I) (h2 : I < 32) : r3 x0 = 27 := by
  have g0 : (0 : Int32) < x0 := (own_lt32 (show (0 : Int32).toInt = 0 by decide) hI).mpr (by omega)
  have a0 : j3_33_0 x0 = x0 := if_pos ((own_lt32 hI (show (65536 : Int32).toInt = 65536 by decide)).mpr (by omega))
  have a1 : j3_33_1 x0 = 31 := if_pos ((own_lt32 hI (show (65536 : Int32).toInt = 65536 by decide)).mpr (by omega))
  obtain ⟨V0, hV0, v0⟩ : ∃ V, (j3_33_0 x0).toInt = V ∧ V = I := ⟨I, by rw [a0]; exact hI, rfl⟩
  have c0 : j3_33_0 x0 < (256 : Int32) := (own_lt32 hV0 (show (256 : Int32).toInt = 256 by decide)).mpr (by omega)
  obtain ⟨V1, hV1, v1⟩ : ∃ V, (j3_48_0 x0).toInt = V ∧ V = V0 := ⟨V0, by rw [show j3_48_0 x0 = j3_33_0 x0 from if_pos c0]; exact hV0, rfl⟩
  have b0 : j3_48_1 x0 = 31 := (if_pos c0).trans a1
  have c1 : ¬ j3_48_0 x0 < (16 : Int32) := fun q => by have := (own_lt32 hV1 (show (16 : Int32).toInt = 16 by decide)).mp q; omega
  obtain ⟨V2, hV2, v2⟩ : ∃ V, (j3_61_0 x0).toInt = V ∧ V = V1 / 16 := ⟨_, by rw [show j3_61_0 x0 = w3_60 x0 from if_neg c1]; exact own_us hV1 (by omega) (n := ((4 : Int32) &&& 31).toUInt32) (k := 4) (by decide) (by decide) (by decide), rfl⟩
  have b1 : j3_61_1 x0 = 27 := (if_neg c1).trans (by show j3_48_1 x0 + Int32.ofInt (-4) = _; rw [b0]; rfl)
  have c2 : j3_61_0 x0 < (4 : Int32) := (own_lt32 hV2 (show (4 : Int32).toInt = 4 by decide)).mpr (by omega)
  obtain ⟨V3, hV3, v3⟩ : ∃ V, (j3_73_0 x0).toInt = V ∧ V = V2 := ⟨V2, by rw [show j3_73_0 x0 = j3_61_0 x0 from if_pos c2]; exact hV2, rfl⟩
  have b2 : j3_73_1 x0 = 27 := (if_pos c2).trans b1
  have f := own_us hV3 (by omega) (n := ((1 : Int32) &&& 31).toUInt32) (k := 1) (by decide) (by decide) (d := 2) (by decide)
  have f1 : ((((j3_73_0 x0).toUInt32 >>> ((1 : Int32) &&& 31).toUInt32).toInt32)) = (0 : Int32) := (own_eq32 f (show (0 : Int32).toInt = 0 by decide)).mpr (by omega)
  refine (if_pos g0).trans ?_
  rw [b2, f1]; rfl
theorem own_c6 (x0 : Int32) {N : Int} (hN : x0.toInt = N) (h1 : 32 < N) (h2 : N ≤ 64) : r1 x0 = 6 := by
  have e0 : j1_10_1 x0 = 1 := (if_pos ((own_lt32 (show (1 : Int32).toInt = 1 by decide) hN).mpr (by omega))).trans (rfl)
  have e1 : j1_18_1 x0 = 2 := (if_pos ((own_lt32 (show (2 : Int32).toInt = 2 by decide) hN).mpr (by omega))).trans (by show j1_10_1 x0 + 1 = _; rw [e0]; rfl)
  have e2 : j1_26_1 x0 = 3 := (if_pos ((own_lt32 (show (4 : Int32).toInt = 4 by decide) hN).mpr (by omega))).trans (by show j1_18_1 x0 + 1 = _; rw [e1]; rfl)
  have e3 : j1_35_1 x0 = 4 := (if_pos ((own_lt32 (show (8 : Int32).toInt = 8 by decide) hN).mpr (by omega))).trans (by show j1_26_1 x0 + 1 = _; rw [e2]; rfl)
  have e4 : j1_44_1 x0 = 5 := (if_pos ((own_lt32 (show (16 : Int32).toInt = 16 by decide) hN).mpr (by omega))).trans (by show j1_35_1 x0 + 1 = _; rw [e3]; rfl)
  have e5 : j1_53_1 x0 = 6 := (if_pos ((own_lt32 (show (32 : Int32).toInt = 32 by decide) hN).mpr (by omega))).trans (by show j1_44_1 x0 + 1 = _; rw [e4]; rfl)
  have e6 : j1_62_1 x0 = 6 := (if_neg (fun q => by have := (own_lt32 (show (64 : Int32).toInt = 64 by decide) hN).mp q; omega)).trans e5
  have e7 : j1_72_1 x0 = 6 := (if_neg (fun q => by have := (own_lt32 (show (128 : Int32).toInt = 128 by decide) hN).mp q; omega)).trans e6
  have e8 : j1_82_1 x0 = 6 := (if_neg (fun q => by have := (own_lt32 (show (256 : Int32).toInt = 256 by decide) hN).mp q; omega)).trans e7
  have e9 : j1_92_1 x0 = 6 := (if_neg (fun q => by have := (own_lt32 (show (512 : Int32).toInt = 512 by decide) hN).mp q; omega)).trans e8
  have e10 : j1_102_1 x0 = 6 := (if_neg (fun q => by have := (own_lt32 (show (1024 : Int32).toInt = 1024 by decide) hN).mp q; omega)).trans e9
  have e11 : j1_112_1 x0 = 6 := (if_neg (fun q => by have := (own_lt32 (show (2048 : Int32).toInt = 2048 by decide) hN).mp q; omega)).trans e10
  have e12 : j1_122_1 x0 = 6 := (if_neg (fun q => by have := (own_lt32 (show (4096 : Int32).toInt = 4096 by decide) hN).mp q; omega)).trans e11
  have e13 : j1_132_1 x0 = 6 := (if_neg (fun q => by have := (own_lt32 (show (8192 : Int32).toInt = 8192 by decide) hN).mp q; omega)).trans e12
  have e14 : j1_142_1 x0 = 6 := (if_neg (fun q => by have := (own_lt32 (show (16384 : Int32).toInt = 16384 by decide) hN).mp q; omega)).trans e13
  have e15 : j1_151_1 x0 = 6 := (if_neg (fun q => by have := (own_lt32 (show (32768 : Int32).toInt = 32768 by decide) hN).mp q; omega)).trans e14
  exact e15
theorem own_z6 (x0 : Int32) {I : Int} (hI : x0.toInt = I) (h1 : 32 ≤ I) (h2 : I < 64) : r3 x0 = 26 := by
  have g0 : (0 : Int32) < x0 := (own_lt32 (show (0 : Int32).toInt = 0 by decide) hI).mpr (by omega)
  have a0 : j3_33_0 x0 = x0 := if_pos ((own_lt32 hI (show (65536 : Int32).toInt = 65536 by decide)).mpr (by omega))
  have a1 : j3_33_1 x0 = 31 := if_pos ((own_lt32 hI (show (65536 : Int32).toInt = 65536 by decide)).mpr (by omega))
  obtain ⟨V0, hV0, v0⟩ : ∃ V, (j3_33_0 x0).toInt = V ∧ V = I := ⟨I, by rw [a0]; exact hI, rfl⟩
  have c0 : j3_33_0 x0 < (256 : Int32) := (own_lt32 hV0 (show (256 : Int32).toInt = 256 by decide)).mpr (by omega)
  obtain ⟨V1, hV1, v1⟩ : ∃ V, (j3_48_0 x0).toInt = V ∧ V = V0 := ⟨V0, by rw [show j3_48_0 x0 = j3_33_0 x0 from if_pos c0]; exact hV0, rfl⟩
  have b0 : j3_48_1 x0 = 31 := (if_pos c0).trans a1
  have c1 : ¬ j3_48_0 x0 < (16 : Int32) := fun q => by have := (own_lt32 hV1 (show (16 : Int32).toInt = 16 by decide)).mp q; omega
  obtain ⟨V2, hV2, v2⟩ : ∃ V, (j3_61_0 x0).toInt = V ∧ V = V1 / 16 := ⟨_, by rw [show j3_61_0 x0 = w3_60 x0 from if_neg c1]; exact own_us hV1 (by omega) (n := ((4 : Int32) &&& 31).toUInt32) (k := 4) (by decide) (by decide) (by decide), rfl⟩
  have b1 : j3_61_1 x0 = 27 := (if_neg c1).trans (by show j3_48_1 x0 + Int32.ofInt (-4) = _; rw [b0]; rfl)
  have c2 : j3_61_0 x0 < (4 : Int32) := (own_lt32 hV2 (show (4 : Int32).toInt = 4 by decide)).mpr (by omega)
  obtain ⟨V3, hV3, v3⟩ : ∃ V, (j3_73_0 x0).toInt = V ∧ V = V2 := ⟨V2, by rw [show j3_73_0 x0 = j3_61_0 x0 from if_pos c2]; exact hV2, rfl⟩
  have b2 : j3_73_1 x0 = 27 := (if_pos c2).trans b1
  have f := own_us hV3 (by omega) (n := ((1 : Int32) &&& 31).toUInt32) (k := 1) (by decide) (by decide) (d := 2) (by decide)
  have f1 : ((((j3_73_0 x0).toUInt32 >>> ((1 : Int32) &&& 31).toUInt32).toInt32)) = (1 : Int32) := (own_eq32 f (show (1 : Int32).toInt = 1 by decide)).mpr (by omega)
  refine (if_pos g0).trans ?_
  rw [b2, f1]; rfl
theorem own_c7 (x0 : Int32) {N : Int} (hN : x0.toInt = N) (h1 : 64 < N) (h2 : N ≤ 128) : r1 x0 = 7 := by
  have e0 : j1_10_1 x0 = 1 := (if_pos ((own_lt32 (show (1 : Int32).toInt = 1 by decide) hN).mpr (by omega))).trans (rfl)
  have e1 : j1_18_1 x0 = 2 := (if_pos ((own_lt32 (show (2 : Int32).toInt = 2 by decide) hN).mpr (by omega))).trans (by show j1_10_1 x0 + 1 = _; rw [e0]; rfl)
  have e2 : j1_26_1 x0 = 3 := (if_pos ((own_lt32 (show (4 : Int32).toInt = 4 by decide) hN).mpr (by omega))).trans (by show j1_18_1 x0 + 1 = _; rw [e1]; rfl)
  have e3 : j1_35_1 x0 = 4 := (if_pos ((own_lt32 (show (8 : Int32).toInt = 8 by decide) hN).mpr (by omega))).trans (by show j1_26_1 x0 + 1 = _; rw [e2]; rfl)
  have e4 : j1_44_1 x0 = 5 := (if_pos ((own_lt32 (show (16 : Int32).toInt = 16 by decide) hN).mpr (by omega))).trans (by show j1_35_1 x0 + 1 = _; rw [e3]; rfl)
  have e5 : j1_53_1 x0 = 6 := (if_pos ((own_lt32 (show (32 : Int32).toInt = 32 by decide) hN).mpr (by omega))).trans (by show j1_44_1 x0 + 1 = _; rw [e4]; rfl)
  have e6 : j1_62_1 x0 = 7 := (if_pos ((own_lt32 (show (64 : Int32).toInt = 64 by decide) hN).mpr (by omega))).trans (by show j1_53_1 x0 + 1 = _; rw [e5]; rfl)
  have e7 : j1_72_1 x0 = 7 := (if_neg (fun q => by have := (own_lt32 (show (128 : Int32).toInt = 128 by decide) hN).mp q; omega)).trans e6
  have e8 : j1_82_1 x0 = 7 := (if_neg (fun q => by have := (own_lt32 (show (256 : Int32).toInt = 256 by decide) hN).mp q; omega)).trans e7
  have e9 : j1_92_1 x0 = 7 := (if_neg (fun q => by have := (own_lt32 (show (512 : Int32).toInt = 512 by decide) hN).mp q; omega)).trans e8
  have e10 : j1_102_1 x0 = 7 := (if_neg (fun q => by have := (own_lt32 (show (1024 : Int32).toInt = 1024 by decide) hN).mp q; omega)).trans e9
  have e11 : j1_112_1 x0 = 7 := (if_neg (fun q => by have := (own_lt32 (show (2048 : Int32).toInt = 2048 by decide) hN).mp q; omega)).trans e10
  have e12 : j1_122_1 x0 = 7 := (if_neg (fun q => by have := (own_lt32 (show (4096 : Int32).toInt = 4096 by decide) hN).mp q; omega)).trans e11
  have e13 : j1_132_1 x0 = 7 := (if_neg (fun q => by have := (own_lt32 (show (8192 : Int32).toInt = 8192 by decide) hN).mp q; omega)).trans e12
  have e14 : j1_142_1 x0 = 7 := (if_neg (fun q => by have := (own_lt32 (show (16384 : Int32).toInt = 16384 by decide) hN).mp q; omega)).trans e13
  have e15 : j1_151_1 x0 = 7 := (if_neg (fun q => by have := (own_lt32 (show (32768 : Int32).toInt = 32768 by decide) hN).mp q; omega)).trans e14
  exact e15
theorem own_z7 (x0 : Int32) {I : Int} (hI : x0.toInt = I) (h1 : 64 ≤ I) (h2 : I < 128) : r3 x0 = 25 := by
  have g0 : (0 : Int32) < x0 := (own_lt32 (show (0 : Int32).toInt = 0 by decide) hI).mpr (by omega)
  have a0 : j3_33_0 x0 = x0 := if_pos ((own_lt32 hI (show (65536 : Int32).toInt = 65536 by decide)).mpr (by omega))
  have a1 : j3_33_1 x0 = 31 := if_pos ((own_lt32 hI (show (65536 : Int32).toInt = 65536 by decide)).mpr (by omega))
  obtain ⟨V0, hV0, v0⟩ : ∃ V, (j3_33_0 x0).toInt = V ∧ V = I := ⟨I, by rw [a0]; exact hI, rfl⟩
  have c0 : j3_33_0 x0 < (256 : Int32) := (own_lt32 hV0 (show (256 : Int32).toInt = 256 by decide)).mpr (by omega)
  obtain ⟨V1, hV1, v1⟩ : ∃ V, (j3_48_0 x0).toInt = V ∧ V = V0 := ⟨V0, by rw [show j3_48_0 x0 = j3_33_0 x0 from if_pos c0]; exact hV0, rfl⟩
  have b0 : j3_48_1 x0 = 31 := (if_pos c0).trans a1
  have c1 : ¬ j3_48_0 x0 < (16 : Int32) := fun q => by have := (own_lt32 hV1 (show (16 : Int32).toInt = 16 by decide)).mp q; omega
  obtain ⟨V2, hV2, v2⟩ : ∃ V, (j3_61_0 x0).toInt = V ∧ V = V1 / 16 := ⟨_, by rw [show j3_61_0 x0 = w3_60 x0 from if_neg c1]; exact own_us hV1 (by omega) (n := ((4 : Int32) &&& 31).toUInt32) (k := 4) (by decide) (by decide) (by decide), rfl⟩
  have b1 : j3_61_1 x0 = 27 := (if_neg c1).trans (by show j3_48_1 x0 + Int32.ofInt (-4) = _; rw [b0]; rfl)
  have c2 : ¬ j3_61_0 x0 < (4 : Int32) := fun q => by have := (own_lt32 hV2 (show (4 : Int32).toInt = 4 by decide)).mp q; omega
  obtain ⟨V3, hV3, v3⟩ : ∃ V, (j3_73_0 x0).toInt = V ∧ V = V2 / 4 := ⟨_, by rw [show j3_73_0 x0 = w3_72 x0 from if_neg c2]; exact own_us hV2 (by omega) (n := ((2 : Int32) &&& 31).toUInt32) (k := 2) (by decide) (by decide) (by decide), rfl⟩
  have b2 : j3_73_1 x0 = 25 := (if_neg c2).trans (by show j3_61_1 x0 + Int32.ofInt (-2) = _; rw [b1]; rfl)
  have f := own_us hV3 (by omega) (n := ((1 : Int32) &&& 31).toUInt32) (k := 1) (by decide) (by decide) (d := 2) (by decide)
  have f1 : ((((j3_73_0 x0).toUInt32 >>> ((1 : Int32) &&& 31).toUInt32).toInt32)) = (0 : Int32) := (own_eq32 f (show (0 : Int32).toInt = 0 by decide)).mpr (by omega)
  refine (if_pos g0).trans ?_
  rw [b2, f1]; rfl
theorem own_c8 (x0 : Int32) {N : Int} (hN : x0.toInt = N) (h1 : 128 < N) (h2 : N ≤ 256) : r1 x0 = 8 := by
  have e0 : j1_10_1 x0 = 1 := (if_pos ((own_lt32 (show (1 : Int32).toInt = 1 by decide) hN).mpr (by omega))).trans (rfl)
  have e1 : j1_18_1 x0 = 2 := (if_pos ((own_lt32 (show (2 : Int32).toInt = 2 by decide) hN).mpr (by omega))).trans (by show j1_10_1 x0 + 1 = _; rw [e0]; rfl)
  have e2 : j1_26_1 x0 = 3 := (if_pos ((own_lt32 (show (4 : Int32).toInt = 4 by decide) hN).mpr (by omega))).trans (by show j1_18_1 x0 + 1 = _; rw [e1]; rfl)
  have e3 : j1_35_1 x0 = 4 := (if_pos ((own_lt32 (show (8 : Int32).toInt = 8 by decide) hN).mpr (by omega))).trans (by show j1_26_1 x0 + 1 = _; rw [e2]; rfl)
  have e4 : j1_44_1 x0 = 5 := (if_pos ((own_lt32 (show (16 : Int32).toInt = 16 by decide) hN).mpr (by omega))).trans (by show j1_35_1 x0 + 1 = _; rw [e3]; rfl)
  have e5 : j1_53_1 x0 = 6 := (if_pos ((own_lt32 (show (32 : Int32).toInt = 32 by decide) hN).mpr (by omega))).trans (by show j1_44_1 x0 + 1 = _; rw [e4]; rfl)
  have e6 : j1_62_1 x0 = 7 := (if_pos ((own_lt32 (show (64 : Int32).toInt = 64 by decide) hN).mpr (by omega))).trans (by show j1_53_1 x0 + 1 = _; rw [e5]; rfl)
  have e7 : j1_72_1 x0 = 8 := (if_pos ((own_lt32 (show (128 : Int32).toInt = 128 by decide) hN).mpr (by omega))).trans (by show j1_62_1 x0 + 1 = _; rw [e6]; rfl)
  have e8 : j1_82_1 x0 = 8 := (if_neg (fun q => by have := (own_lt32 (show (256 : Int32).toInt = 256 by decide) hN).mp q; omega)).trans e7
  have e9 : j1_92_1 x0 = 8 := (if_neg (fun q => by have := (own_lt32 (show (512 : Int32).toInt = 512 by decide) hN).mp q; omega)).trans e8
  have e10 : j1_102_1 x0 = 8 := (if_neg (fun q => by have := (own_lt32 (show (1024 : Int32).toInt = 1024 by decide) hN).mp q; omega)).trans e9
  have e11 : j1_112_1 x0 = 8 := (if_neg (fun q => by have := (own_lt32 (show (2048 : Int32).toInt = 2048 by decide) hN).mp q; omega)).trans e10
  have e12 : j1_122_1 x0 = 8 := (if_neg (fun q => by have := (own_lt32 (show (4096 : Int32).toInt = 4096 by decide) hN).mp q; omega)).trans e11
  have e13 : j1_132_1 x0 = 8 := (if_neg (fun q => by have := (own_lt32 (show (8192 : Int32).toInt = 8192 by decide) hN).mp q; omega)).trans e12
  have e14 : j1_142_1 x0 = 8 := (if_neg (fun q => by have := (own_lt32 (show (16384 : Int32).toInt = 16384 by decide) hN).mp q; omega)).trans e13
  have e15 : j1_151_1 x0 = 8 := (if_neg (fun q => by have := (own_lt32 (show (32768 : Int32).toInt = 32768 by decide) hN).mp q; omega)).trans e14
  exact e15
theorem own_z8 (x0 : Int32) {I : Int} (hI : x0.toInt = I) (h1 : 128 ≤ I) (h2 : I < 256) : r3 x0 = 24 := by
  have g0 : (0 : Int32) < x0 := (own_lt32 (show (0 : Int32).toInt = 0 by decide) hI).mpr (by omega)
  have a0 : j3_33_0 x0 = x0 := if_pos ((own_lt32 hI (show (65536 : Int32).toInt = 65536 by decide)).mpr (by omega))
  have a1 : j3_33_1 x0 = 31 := if_pos ((own_lt32 hI (show (65536 : Int32).toInt = 65536 by decide)).mpr (by omega))
  obtain ⟨V0, hV0, v0⟩ : ∃ V, (j3_33_0 x0).toInt = V ∧ V = I := ⟨I, by rw [a0]; exact hI, rfl⟩
  have c0 : j3_33_0 x0 < (256 : Int32) := (own_lt32 hV0 (show (256 : Int32).toInt = 256 by decide)).mpr (by omega)
  obtain ⟨V1, hV1, v1⟩ : ∃ V, (j3_48_0 x0).toInt = V ∧ V = V0 := ⟨V0, by rw [show j3_48_0 x0 = j3_33_0 x0 from if_pos c0]; exact hV0, rfl⟩
  have b0 : j3_48_1 x0 = 31 := (if_pos c0).trans a1
  have c1 : ¬ j3_48_0 x0 < (16 : Int32) := fun q => by have := (own_lt32 hV1 (show (16 : Int32).toInt = 16 by decide)).mp q; omega
  obtain ⟨V2, hV2, v2⟩ : ∃ V, (j3_61_0 x0).toInt = V ∧ V = V1 / 16 := ⟨_, by rw [show j3_61_0 x0 = w3_60 x0 from if_neg c1]; exact own_us hV1 (by omega) (n := ((4 : Int32) &&& 31).toUInt32) (k := 4) (by decide) (by decide) (by decide), rfl⟩
  have b1 : j3_61_1 x0 = 27 := (if_neg c1).trans (by show j3_48_1 x0 + Int32.ofInt (-4) = _; rw [b0]; rfl)
  have c2 : ¬ j3_61_0 x0 < (4 : Int32) := fun q => by have := (own_lt32 hV2 (show (4 : Int32).toInt = 4 by decide)).mp q; omega
  obtain ⟨V3, hV3, v3⟩ : ∃ V, (j3_73_0 x0).toInt = V ∧ V = V2 / 4 := ⟨_, by rw [show j3_73_0 x0 = w3_72 x0 from if_neg c2]; exact own_us hV2 (by omega) (n := ((2 : Int32) &&& 31).toUInt32) (k := 2) (by decide) (by decide) (by decide), rfl⟩
  have b2 : j3_73_1 x0 = 25 := (if_neg c2).trans (by show j3_61_1 x0 + Int32.ofInt (-2) = _; rw [b1]; rfl)
  have f := own_us hV3 (by omega) (n := ((1 : Int32) &&& 31).toUInt32) (k := 1) (by decide) (by decide) (d := 2) (by decide)
  have f1 : ((((j3_73_0 x0).toUInt32 >>> ((1 : Int32) &&& 31).toUInt32).toInt32)) = (1 : Int32) := (own_eq32 f (show (1 : Int32).toInt = 1 by decide)).mpr (by omega)
  refine (if_pos g0).trans ?_
  rw [b2, f1]; rfl
theorem own_c9 (x0 : Int32) {N : Int} (hN : x0.toInt = N) (h1 : 256 < N) (h2 : N ≤ 512) : r1 x0 = 9 := by
  have e0 : j1_10_1 x0 = 1 := (if_pos ((own_lt32 (show (1 : Int32).toInt = 1 by decide) hN).mpr (by omega))).trans (rfl)
  have e1 : j1_18_1 x0 = 2 := (if_pos ((own_lt32 (show (2 : Int32).toInt = 2 by decide) hN).mpr (by omega))).trans (by show j1_10_1 x0 + 1 = _; rw [e0]; rfl)
  have e2 : j1_26_1 x0 = 3 := (if_pos ((own_lt32 (show (4 : Int32).toInt = 4 by decide) hN).mpr (by omega))).trans (by show j1_18_1 x0 + 1 = _; rw [e1]; rfl)
  have e3 : j1_35_1 x0 = 4 := (if_pos ((own_lt32 (show (8 : Int32).toInt = 8 by decide) hN).mpr (by omega))).trans (by show j1_26_1 x0 + 1 = _; rw [e2]; rfl)
  have e4 : j1_44_1 x0 = 5 := (if_pos ((own_lt32 (show (16 : Int32).toInt = 16 by decide) hN).mpr (by omega))).trans (by show j1_35_1 x0 + 1 = _; rw [e3]; rfl)
  have e5 : j1_53_1 x0 = 6 := (if_pos ((own_lt32 (show (32 : Int32).toInt = 32 by decide) hN).mpr (by omega))).trans (by show j1_44_1 x0 + 1 = _; rw [e4]; rfl)
  have e6 : j1_62_1 x0 = 7 := (if_pos ((own_lt32 (show (64 : Int32).toInt = 64 by decide) hN).mpr (by omega))).trans (by show j1_53_1 x0 + 1 = _; rw [e5]; rfl)
  have e7 : j1_72_1 x0 = 8 := (if_pos ((own_lt32 (show (128 : Int32).toInt = 128 by decide) hN).mpr (by omega))).trans (by show j1_62_1 x0 + 1 = _; rw [e6]; rfl)
  have e8 : j1_82_1 x0 = 9 := (if_pos ((own_lt32 (show (256 : Int32).toInt = 256 by decide) hN).mpr (by omega))).trans (by show j1_72_1 x0 + 1 = _; rw [e7]; rfl)
  have e9 : j1_92_1 x0 = 9 := (if_neg (fun q => by have := (own_lt32 (show (512 : Int32).toInt = 512 by decide) hN).mp q; omega)).trans e8
  have e10 : j1_102_1 x0 = 9 := (if_neg (fun q => by have := (own_lt32 (show (1024 : Int32).toInt = 1024 by decide) hN).mp q; omega)).trans e9
  have e11 : j1_112_1 x0 = 9 := (if_neg (fun q => by have := (own_lt32 (show (2048 : Int32).toInt = 2048 by decide) hN).mp q; omega)).trans e10
  have e12 : j1_122_1 x0 = 9 := (if_neg (fun q => by have := (own_lt32 (show (4096 : Int32).toInt = 4096 by decide) hN).mp q; omega)).trans e11
  have e13 : j1_132_1 x0 = 9 := (if_neg (fun q => by have := (own_lt32 (show (8192 : Int32).toInt = 8192 by decide) hN).mp q; omega)).trans e12
  have e14 : j1_142_1 x0 = 9 := (if_neg (fun q => by have := (own_lt32 (show (16384 : Int32).toInt = 16384 by decide) hN).mp q; omega)).trans e13
  have e15 : j1_151_1 x0 = 9 := (if_neg (fun q => by have := (own_lt32 (show (32768 : Int32).toInt = 32768 by decide) hN).mp q; omega)).trans e14
  exact e15
theorem own_z9 (x0 : Int32) {I : Int} (hI : x0.toInt = I) (h1 : 256 ≤ I) (h2 : I < 512) : r3 x0 = 23 := by
  have g0 : (0 : Int32) < x0 := (own_lt32 (show (0 : Int32).toInt = 0 by decide) hI).mpr (by omega)
  have a0 : j3_33_0 x0 = x0 := if_pos ((own_lt32 hI (show (65536 : Int32).toInt = 65536 by decide)).mpr (by omega))
  have a1 : j3_33_1 x0 = 31 := if_pos ((own_lt32 hI (show (65536 : Int32).toInt = 65536 by decide)).mpr (by omega))
  obtain ⟨V0, hV0, v0⟩ : ∃ V, (j3_33_0 x0).toInt = V ∧ V = I := ⟨I, by rw [a0]; exact hI, rfl⟩
  have c0 : ¬ j3_33_0 x0 < (256 : Int32) := fun q => by have := (own_lt32 hV0 (show (256 : Int32).toInt = 256 by decide)).mp q; omega
  obtain ⟨V1, hV1, v1⟩ : ∃ V, (j3_48_0 x0).toInt = V ∧ V = V0 / 256 := ⟨_, by rw [show j3_48_0 x0 = w3_47 x0 from if_neg c0]; exact own_us hV0 (by omega) (n := ((8 : Int32) &&& 31).toUInt32) (k := 8) (by decide) (by decide) (by decide), rfl⟩
  have b0 : j3_48_1 x0 = 23 := (if_neg c0).trans (by show j3_33_1 x0 + Int32.ofInt (-8) = _; rw [a1]; rfl)
  have c1 : j3_48_0 x0 < (16 : Int32) := (own_lt32 hV1 (show (16 : Int32).toInt = 16 by decide)).mpr (by omega)
  obtain ⟨V2, hV2, v2⟩ : ∃ V, (j3_61_0 x0).toInt = V ∧ V = V1 := ⟨V1, by rw [show j3_61_0 x0 = j3_48_0 x0 from if_pos c1]; exact hV1, rfl⟩
  have b1 : j3_61_1 x0 = 23 := (if_pos c1).trans b0
  have c2 : j3_61_0 x0 < (4 : Int32) := (own_lt32 hV2 (show (4 : Int32).toInt = 4 by decide)).mpr (by omega)
  obtain ⟨V3, hV3, v3⟩ : ∃ V, (j3_73_0 x0).toInt = V ∧ V = V2 := ⟨V2, by rw [show j3_73_0 x0 = j3_61_0 x0 from if_pos c2]; exact hV2, rfl⟩
  have b2 : j3_73_1 x0 = 23 := (if_pos c2).trans b1
  have f := own_us hV3 (by omega) (n := ((1 : Int32) &&& 31).toUInt32) (k := 1) (by decide) (by decide) (d := 2) (by decide)
  have f1 : ((((j3_73_0 x0).toUInt32 >>> ((1 : Int32) &&& 31).toUInt32).toInt32)) = (0 : Int32) := (own_eq32 f (show (0 : Int32).toInt = 0 by decide)).mpr (by omega)
  refine (if_pos g0).trans ?_
  rw [b2, f1]; rfl
theorem own_c10 (x0 : Int32) {N : Int} (hN : x0.toInt = N) (h1 : 512 < N) (h2 : N ≤ 1024) : r1 x0 = 10 := by
  have e0 : j1_10_1 x0 = 1 := (if_pos ((own_lt32 (show (1 : Int32).toInt = 1 by decide) hN).mpr (by omega))).trans (rfl)
  have e1 : j1_18_1 x0 = 2 := (if_pos ((own_lt32 (show (2 : Int32).toInt = 2 by decide) hN).mpr (by omega))).trans (by show j1_10_1 x0 + 1 = _; rw [e0]; rfl)
  have e2 : j1_26_1 x0 = 3 := (if_pos ((own_lt32 (show (4 : Int32).toInt = 4 by decide) hN).mpr (by omega))).trans (by show j1_18_1 x0 + 1 = _; rw [e1]; rfl)
  have e3 : j1_35_1 x0 = 4 := (if_pos ((own_lt32 (show (8 : Int32).toInt = 8 by decide) hN).mpr (by omega))).trans (by show j1_26_1 x0 + 1 = _; rw [e2]; rfl)
  have e4 : j1_44_1 x0 = 5 := (if_pos ((own_lt32 (show (16 : Int32).toInt = 16 by decide) hN).mpr (by omega))).trans (by show j1_35_1 x0 + 1 = _; rw [e3]; rfl)
  have e5 : j1_53_1 x0 = 6 := (if_pos ((own_lt32 (show (32 : Int32).toInt = 32 by decide) hN).mpr (by omega))).trans (by show j1_44_1 x0 + 1 = _; rw [e4]; rfl)
  have e6 : j1_62_1 x0 = 7 := (if_pos ((own_lt32 (show (64 : Int32).toInt = 64 by decide) hN).mpr (by omega))).trans (by show j1_53_1 x0 + 1 = _; rw [e5]; rfl)
  have e7 : j1_72_1 x0 = 8 := (if_pos ((own_lt32 (show (128 : Int32).toInt = 128 by decide) hN).mpr (by omega))).trans (by show j1_62_1 x0 + 1 = _; rw [e6]; rfl)
  have e8 : j1_82_1 x0 = 9 := (if_pos ((own_lt32 (show (256 : Int32).toInt = 256 by decide) hN).mpr (by omega))).trans (by show j1_72_1 x0 + 1 = _; rw [e7]; rfl)
  have e9 : j1_92_1 x0 = 10 := (if_pos ((own_lt32 (show (512 : Int32).toInt = 512 by decide) hN).mpr (by omega))).trans (by show j1_82_1 x0 + 1 = _; rw [e8]; rfl)
  have e10 : j1_102_1 x0 = 10 := (if_neg (fun q => by have := (own_lt32 (show (1024 : Int32).toInt = 1024 by decide) hN).mp q; omega)).trans e9
  have e11 : j1_112_1 x0 = 10 := (if_neg (fun q => by have := (own_lt32 (show (2048 : Int32).toInt = 2048 by decide) hN).mp q; omega)).trans e10
  have e12 : j1_122_1 x0 = 10 := (if_neg (fun q => by have := (own_lt32 (show (4096 : Int32).toInt = 4096 by decide) hN).mp q; omega)).trans e11
  have e13 : j1_132_1 x0 = 10 := (if_neg (fun q => by have := (own_lt32 (show (8192 : Int32).toInt = 8192 by decide) hN).mp q; omega)).trans e12
  have e14 : j1_142_1 x0 = 10 := (if_neg (fun q => by have := (own_lt32 (show (16384 : Int32).toInt = 16384 by decide) hN).mp q; omega)).trans e13
  have e15 : j1_151_1 x0 = 10 := (if_neg (fun q => by have := (own_lt32 (show (32768 : Int32).toInt = 32768 by decide) hN).mp q; omega)).trans e14
  exact e15
theorem own_z10 (x0 : Int32) {I : Int} (hI : x0.toInt = I) (h1 : 512 ≤ I) (h2 : I < 1024) : r3 x0 = 22 := by
  have g0 : (0 : Int32) < x0 := (own_lt32 (show (0 : Int32).toInt = 0 by decide) hI).mpr (by omega)
  have a0 : j3_33_0 x0 = x0 := if_pos ((own_lt32 hI (show (65536 : Int32).toInt = 65536 by decide)).mpr (by omega))
  have a1 : j3_33_1 x0 = 31 := if_pos ((own_lt32 hI (show (65536 : Int32).toInt = 65536 by decide)).mpr (by omega))
  obtain ⟨V0, hV0, v0⟩ : ∃ V, (j3_33_0 x0).toInt = V ∧ V = I := ⟨I, by rw [a0]; exact hI, rfl⟩
  have c0 : ¬ j3_33_0 x0 < (256 : Int32) := fun q => by have := (own_lt32 hV0 (show (256 : Int32).toInt = 256 by decide)).mp q; omega
  obtain ⟨V1, hV1, v1⟩ : ∃ V, (j3_48_0 x0).toInt = V ∧ V = V0 / 256 := ⟨_, by rw [show j3_48_0 x0 = w3_47 x0 from if_neg c0]; exact own_us hV0 (by omega) (n := ((8 : Int32) &&& 31).toUInt32) (k := 8) (by decide) (by decide) (by decide), rfl⟩
  have b0 : j3_48_1 x0 = 23 := (if_neg c0).trans (by show j3_33_1 x0 + Int32.ofInt (-8) = _; rw [a1]; rfl)
  have c1 : j3_48_0 x0 < (16 : Int32) := (own_lt32 hV1 (show (16 : Int32).toInt = 16 by decide)).mpr (by omega)
  obtain ⟨V2, hV2, v2⟩ : ∃ V, (j3_61_0 x0).toInt = V ∧ V = V1 := ⟨V1, by rw [show j3_61_0 x0 = j3_48_0 x0 from if_pos c1]; exact hV1, rfl⟩
  have b1 : j3_61_1 x0 = 23 := (if_pos c1).trans b0
  have c2 : j3_61_0 x0 < (4 : Int32) := (own_lt32 hV2 (show (4 : Int32).toInt = 4 by decide)).mpr (by omega)
  obtain ⟨V3, hV3, v3⟩ : ∃ V, (j3_73_0 x0).toInt = V ∧ V = V2 := ⟨V2, by rw [show j3_73_0 x0 = j3_61_0 x0 from if_pos c2]; exact hV2, rfl⟩
  have b2 : j3_73_1 x0 = 23 := (if_pos c2).trans b1
  have f := own_us hV3 (by omega) (n := ((1 : Int32) &&& 31).toUInt32) (k := 1) (by decide) (by decide) (d := 2) (by decide)
  have f1 : ((((j3_73_0 x0).toUInt32 >>> ((1 : Int32) &&& 31).toUInt32).toInt32)) = (1 : Int32) := (own_eq32 f (show (1 : Int32).toInt = 1 by decide)).mpr (by omega)
  refine (if_pos g0).trans ?_
  rw [b2, f1]; rfl
theorem own_c11 (x0 : Int32) {N : Int} (hN : x0.toInt = N) (h1 : 1024 < N) (h2 : N ≤ 2048) : r1 x0 = 11 := by
  have e0 : j1_10_1 x0 = 1 := (if_pos ((own_lt32 (show (1 : Int32).toInt = 1 by decide) hN).mpr (by omega))).trans (rfl)
  have e1 : j1_18_1 x0 = 2 := (if_pos ((own_lt32 (show (2 : Int32).toInt = 2 by decide) hN).mpr (by omega))).trans (by show j1_10_1 x0 + 1 = _; rw [e0]; rfl)
  have e2 : j1_26_1 x0 = 3 := (if_pos ((own_lt32 (show (4 : Int32).toInt = 4 by decide) hN).mpr (by omega))).trans (by show j1_18_1 x0 + 1 = _; rw [e1]; rfl)
  have e3 : j1_35_1 x0 = 4 := (if_pos ((own_lt32 (show (8 : Int32).toInt = 8 by decide) hN).mpr (by omega))).trans (by show j1_26_1 x0 + 1 = _; rw [e2]; rfl)
  have e4 : j1_44_1 x0 = 5 := (if_pos ((own_lt32 (show (16 : Int32).toInt = 16 by decide) hN).mpr (by omega))).trans (by show j1_35_1 x0 + 1 = _; rw [e3]; rfl)
  have e5 : j1_53_1 x0 = 6 := (if_pos ((own_lt32 (show (32 : Int32).toInt = 32 by decide) hN).mpr (by omega))).trans (by show j1_44_1 x0 + 1 = _; rw [e4]; rfl)
  have e6 : j1_62_1 x0 = 7 := (if_pos ((own_lt32 (show (64 : Int32).toInt = 64 by decide) hN).mpr (by omega))).trans (by show j1_53_1 x0 + 1 = _; rw [e5]; rfl)
  have e7 : j1_72_1 x0 = 8 := (if_pos ((own_lt32 (show (128 : Int32).toInt = 128 by decide) hN).mpr (by omega))).trans (by show j1_62_1 x0 + 1 = _; rw [e6]; rfl)
  have e8 : j1_82_1 x0 = 9 := (if_pos ((own_lt32 (show (256 : Int32).toInt = 256 by decide) hN).mpr (by omega))).trans (by show j1_72_1 x0 + 1 = _; rw [e7]; rfl)
  have e9 : j1_92_1 x0 = 10 := (if_pos ((own_lt32 (show (512 : Int32).toInt = 512 by decide) hN).mpr (by omega))).trans (by show j1_82_1 x0 + 1 = _; rw [e8]; rfl)
  have e10 : j1_102_1 x0 = 11 := (if_pos ((own_lt32 (show (1024 : Int32).toInt = 1024 by decide) hN).mpr (by omega))).trans (by show j1_92_1 x0 + 1 = _; rw [e9]; rfl)
  have e11 : j1_112_1 x0 = 11 := (if_neg (fun q => by have := (own_lt32 (show (2048 : Int32).toInt = 2048 by decide) hN).mp q; omega)).trans e10
  have e12 : j1_122_1 x0 = 11 := (if_neg (fun q => by have := (own_lt32 (show (4096 : Int32).toInt = 4096 by decide) hN).mp q; omega)).trans e11
  have e13 : j1_132_1 x0 = 11 := (if_neg (fun q => by have := (own_lt32 (show (8192 : Int32).toInt = 8192 by decide) hN).mp q; omega)).trans e12
  have e14 : j1_142_1 x0 = 11 := (if_neg (fun q => by have := (own_lt32 (show (16384 : Int32).toInt = 16384 by decide) hN).mp q; omega)).trans e13
  have e15 : j1_151_1 x0 = 11 := (if_neg (fun q => by have := (own_lt32 (show (32768 : Int32).toInt = 32768 by decide) hN).mp q; omega)).trans e14
  exact e15
theorem own_z11 (x0 : Int32) {I : Int} (hI : x0.toInt = I) (h1 : 1024 ≤ I) (h2 : I < 2048) : r3 x0 = 21 := by
  have g0 : (0 : Int32) < x0 := (own_lt32 (show (0 : Int32).toInt = 0 by decide) hI).mpr (by omega)
  have a0 : j3_33_0 x0 = x0 := if_pos ((own_lt32 hI (show (65536 : Int32).toInt = 65536 by decide)).mpr (by omega))
  have a1 : j3_33_1 x0 = 31 := if_pos ((own_lt32 hI (show (65536 : Int32).toInt = 65536 by decide)).mpr (by omega))
  obtain ⟨V0, hV0, v0⟩ : ∃ V, (j3_33_0 x0).toInt = V ∧ V = I := ⟨I, by rw [a0]; exact hI, rfl⟩
  have c0 : ¬ j3_33_0 x0 < (256 : Int32) := fun q => by have := (own_lt32 hV0 (show (256 : Int32).toInt = 256 by decide)).mp q; omega
  obtain ⟨V1, hV1, v1⟩ : ∃ V, (j3_48_0 x0).toInt = V ∧ V = V0 / 256 := ⟨_, by rw [show j3_48_0 x0 = w3_47 x0 from if_neg c0]; exact own_us hV0 (by omega) (n := ((8 : Int32) &&& 31).toUInt32) (k := 8) (by decide) (by decide) (by decide), rfl⟩
  have b0 : j3_48_1 x0 = 23 := (if_neg c0).trans (by show j3_33_1 x0 + Int32.ofInt (-8) = _; rw [a1]; rfl)
  have c1 : j3_48_0 x0 < (16 : Int32) := (own_lt32 hV1 (show (16 : Int32).toInt = 16 by decide)).mpr (by omega)
  obtain ⟨V2, hV2, v2⟩ : ∃ V, (j3_61_0 x0).toInt = V ∧ V = V1 := ⟨V1, by rw [show j3_61_0 x0 = j3_48_0 x0 from if_pos c1]; exact hV1, rfl⟩
  have b1 : j3_61_1 x0 = 23 := (if_pos c1).trans b0
  have c2 : ¬ j3_61_0 x0 < (4 : Int32) := fun q => by have := (own_lt32 hV2 (show (4 : Int32).toInt = 4 by decide)).mp q; omega
  obtain ⟨V3, hV3, v3⟩ : ∃ V, (j3_73_0 x0).toInt = V ∧ V = V2 / 4 := ⟨_, by rw [show j3_73_0 x0 = w3_72 x0 from if_neg c2]; exact own_us hV2 (by omega) (n := ((2 : Int32) &&& 31).toUInt32) (k := 2) (by decide) (by decide) (by decide), rfl⟩
  have b2 : j3_73_1 x0 = 21 := (if_neg c2).trans (by show j3_61_1 x0 + Int32.ofInt (-2) = _; rw [b1]; rfl)
  have f := own_us hV3 (by omega) (n := ((1 : Int32) &&& 31).toUInt32) (k := 1) (by decide) (by decide) (d := 2) (by decide)
  have f1 : ((((j3_73_0 x0).toUInt32 >>> ((1 : Int32) &&& 31).toUInt32).toInt32)) = (0 : Int32) := (own_eq32 f (show (0 : Int32).toInt = 0 by decide)).mpr (by omega)
  refine (if_pos g0).trans ?_
  rw [b2, f1]; rfl
theorem own_c12 (x0 : Int32) {N : Int} (hN : x0.toInt = N) (h1 : 2048 < N) (h2 : N ≤ 4096) : r1 x0 = 12 := by
  have e0 : j1_10_1 x0 = 1 := (if_pos ((own_lt32 (show (1 : Int32).toInt = 1 by decide) hN).mpr (by omega))).trans (rfl)
  have e1 : j1_18_1 x0 = 2 := (if_pos ((own_lt32 (show (2 : Int32).toInt = 2 by decide) hN).mpr (by omega))).trans (by show j1_10_1 x0 + 1 = _; rw [e0]; rfl)
  have e2 : j1_26_1 x0 = 3 := (if_pos ((own_lt32 (show (4 : Int32).toInt = 4 by decide) hN).mpr (by omega))).trans (by show j1_18_1 x0 + 1 = _; rw [e1]; rfl)
  have e3 : j1_35_1 x0 = 4 := (if_pos ((own_lt32 (show (8 : Int32).toInt = 8 by decide) hN).mpr (by omega))).trans (by show j1_26_1 x0 + 1 = _; rw [e2]; rfl)
  have e4 : j1_44_1 x0 = 5 := (if_pos ((own_lt32 (show (16 : Int32).toInt = 16 by decide) hN).mpr (by omega))).trans (by show j1_35_1 x0 + 1 = _; rw [e3]; rfl)
  have e5 : j1_53_1 x0 = 6 := (if_pos ((own_lt32 (show (32 : Int32).toInt = 32 by decide) hN).mpr (by omega))).trans (by show j1_44_1 x0 + 1 = _; rw [e4]; rfl)
  have e6 : j1_62_1 x0 = 7 := (if_pos ((own_lt32 (show (64 : Int32).toInt = 64 by decide) hN).mpr (by omega))).trans (by show j1_53_1 x0 + 1 = _; rw [e5]; rfl)
  have e7 : j1_72_1 x0 = 8 := (if_pos ((own_lt32 (show (128 : Int32).toInt = 128 by decide) hN).mpr (by omega))).trans (by show j1_62_1 x0 + 1 = _; rw [e6]; rfl)
  have e8 : j1_82_1 x0 = 9 := (if_pos ((own_lt32 (show (256 : Int32).toInt = 256 by decide) hN).mpr (by omega))).trans (by show j1_72_1 x0 + 1 = _; rw [e7]; rfl)
  have e9 : j1_92_1 x0 = 10 := (if_pos ((own_lt32 (show (512 : Int32).toInt = 512 by decide) hN).mpr (by omega))).trans (by show j1_82_1 x0 + 1 = _; rw [e8]; rfl)
  have e10 : j1_102_1 x0 = 11 := (if_pos ((own_lt32 (show (1024 : Int32).toInt = 1024 by decide) hN).mpr (by omega))).trans (by show j1_92_1 x0 + 1 = _; rw [e9]; rfl)
  have e11 : j1_112_1 x0 = 12 := (if_pos ((own_lt32 (show (2048 : Int32).toInt = 2048 by decide) hN).mpr (by omega))).trans (by show j1_102_1 x0 + 1 = _; rw [e10]; rfl)
  have e12 : j1_122_1 x0 = 12 := (if_neg (fun q => by have := (own_lt32 (show (4096 : Int32).toInt = 4096 by decide) hN).mp q; omega)).trans e11
  have e13 : j1_132_1 x0 = 12 := (if_neg (fun q => by have := (own_lt32 (show (8192 : Int32).toInt = 8192 by decide) hN).mp q; omega)).trans e12
  have e14 : j1_142_1 x0 = 12 := (if_neg (fun q => by have := (own_lt32 (show (16384 : Int32).toInt = 16384 by decide) hN).mp q; omega)).trans e13
  have e15 : j1_151_1 x0 = 12 := (if_neg (fun q => by have := (own_lt32 (show (32768 : Int32).toInt = 32768 by decide) hN).mp q; omega)).trans e14
  exact e15
theorem own_z12 (x0 : Int32) {I : Int} (hI : x0.toInt = I) (h1 : 2048 ≤ I) (h2 : I < 4096) : r3 x0 = 20 := by
  have g0 : (0 : Int32) < x0 := (own_lt32 (show (0 : Int32).toInt = 0 by decide) hI).mpr (by omega)
  have a0 : j3_33_0 x0 = x0 := if_pos ((own_lt32 hI (show (65536 : Int32).toInt = 65536 by decide)).mpr (by omega))
  have a1 : j3_33_1 x0 = 31 := if_pos ((own_lt32 hI (show (65536 : Int32).toInt = 65536 by decide)).mpr (by omega))
  obtain ⟨V0, hV0, v0⟩ : ∃ V, (j3_33_0 x0).toInt = V ∧ V = I := ⟨I, by rw [a0]; exact hI, rfl⟩
  have c0 : ¬ j3_33_0 x0 < (256 : Int32) := fun q => by have := (own_lt32 hV0 (show (256 : Int32).toInt = 256 by decide)).mp q; omega
  obtain ⟨V1, hV1, v1⟩ : ∃ V, (j3_48_0 x0).toInt = V ∧ V = V0 / 256 := ⟨_, by rw [show j3_48_0 x0 = w3_47 x0 from if_neg c0]; exact own_us hV0 (by omega) (n := ((8 : Int32) &&& 31).toUInt32) (k := 8) (by decide) (by decide) (by decide), rfl⟩
  have b0 : j3_48_1 x0 = 23 := (if_neg c0).trans (by show j3_33_1 x0 + Int32.ofInt (-8) = _; rw [a1]; rfl)
  have c1 : j3_48_0 x0 < (16 : Int32) := (own_lt32 hV1 (show (16 : Int32).toInt = 16 by decide)).mpr (by omega)
  obtain ⟨V2, hV2, v2⟩ : ∃ V, (j3_61_0 x0).toInt = V ∧ V = V1 := ⟨V1, by rw [show j3_61_0 x0 = j3_48_0 x0 from if_pos c1]; exact hV1, rfl⟩
  have b1 : j3_61_1 x0 = 23 := (if_pos c1).trans b0
  have c2 : ¬ j3_61_0 x0 < (4 : Int32) := fun q => by have := (own_lt32 hV2 (show (4 : Int32).toInt = 4 by decide)).mp q; omega
  obtain ⟨V3, hV3, v3⟩ : ∃ V, (j3_73_0 x0).toInt = V ∧ V = V2 / 4 := ⟨_, by rw [show j3_73_0 x0 = w3_72 x0 from if_neg c2]; exact own_us hV2 (by omega) (n := ((2 : Int32) &&& 31).toUInt32) (k := 2) (by decide) (by decide) (by decide), rfl⟩
  have b2 : j3_73_1 x0 = 21 := (if_neg c2).trans (by show j3_61_1 x0 + Int32.ofInt (-2) = _; rw [b1]; rfl)
  have f := own_us hV3 (by omega) (n := ((1 : Int32) &&& 31).toUInt32) (k := 1) (by decide) (by decide) (d := 2) (by decide)
  have f1 : ((((j3_73_0 x0).toUInt32 >>> ((1 : Int32) &&& 31).toUInt32).toInt32)) = (1 : Int32) := (own_eq32 f (show (1 : Int32).toInt = 1 by decide)).mpr (by omega)
  refine (if_pos g0).trans ?_
  rw [b2, f1]; rfl
theorem own_c13 (x0 : Int32) {N : Int} (hN : x0.toInt = N) (h1 : 4096 < N) (h2 : N ≤ 8192) : r1 x0 = 13 := by
  have e0 : j1_10_1 x0 = 1 := (if_pos ((own_lt32 (show (1 : Int32).toInt = 1 by decide) hN).mpr (by omega))).trans (rfl)
  have e1 : j1_18_1 x0 = 2 := (if_pos ((own_lt32 (show (2 : Int32).toInt = 2 by decide) hN).mpr (by omega))).trans (by show j1_10_1 x0 + 1 = _; rw [e0]; rfl)
  have e2 : j1_26_1 x0 = 3 := (if_pos ((own_lt32 (show (4 : Int32).toInt = 4 by decide) hN).mpr (by omega))).trans (by show j1_18_1 x0 + 1 = _; rw [e1]; rfl)
  have e3 : j1_35_1 x0 = 4 := (if_pos ((own_lt32 (show (8 : Int32).toInt = 8 by decide) hN).mpr (by omega))).trans (by show j1_26_1 x0 + 1 = _; rw [e2]; rfl)
  have e4 : j1_44_1 x0 = 5 := (if_pos ((own_lt32 (show (16 : Int32).toInt = 16 by decide) hN).mpr (by omega))).trans (by show j1_35_1 x0 + 1 = _; rw [e3]; rfl)
  have e5 : j1_53_1 x0 = 6 := (if_pos ((own_lt32 (show (32 : Int32).toInt = 32 by decide) hN).mpr (by omega))).trans (by show j1_44_1 x0 + 1 = _; rw [e4]; rfl)
  have e6 : j1_62_1 x0 = 7 := (if_pos ((own_lt32 (show (64 : Int32).toInt = 64 by decide) hN).mpr (by omega))).trans (by show j1_53_1 x0 + 1 = _; rw [e5]; rfl)
  have e7 : j1_72_1 x0 = 8 := (if_pos ((own_lt32 (show (128 : Int32).toInt = 128 by decide) hN).mpr (by omega))).trans (by show j1_62_1 x0 + 1 = _; rw [e6]; rfl)
  have e8 : j1_82_1 x0 = 9 := (if_pos ((own_lt32 (show (256 : Int32).toInt = 256 by decide) hN).mpr (by omega))).trans (by show j1_72_1 x0 + 1 = _; rw [e7]; rfl)
  have e9 : j1_92_1 x0 = 10 := (if_pos ((own_lt32 (show (512 : Int32).toInt = 512 by decide) hN).mpr (by omega))).trans (by show j1_82_1 x0 + 1 = _; rw [e8]; rfl)
  have e10 : j1_102_1 x0 = 11 := (if_pos ((own_lt32 (show (1024 : Int32).toInt = 1024 by decide) hN).mpr (by omega))).trans (by show j1_92_1 x0 + 1 = _; rw [e9]; rfl)
  have e11 : j1_112_1 x0 = 12 := (if_pos ((own_lt32 (show (2048 : Int32).toInt = 2048 by decide) hN).mpr (by omega))).trans (by show j1_102_1 x0 + 1 = _; rw [e10]; rfl)
  have e12 : j1_122_1 x0 = 13 := (if_pos ((own_lt32 (show (4096 : Int32).toInt = 4096 by decide) hN).mpr (by omega))).trans (by show j1_112_1 x0 + 1 = _; rw [e11]; rfl)
  have e13 : j1_132_1 x0 = 13 := (if_neg (fun q => by have := (own_lt32 (show (8192 : Int32).toInt = 8192 by decide) hN).mp q; omega)).trans e12
  have e14 : j1_142_1 x0 = 13 := (if_neg (fun q => by have := (own_lt32 (show (16384 : Int32).toInt = 16384 by decide) hN).mp q; omega)).trans e13
  have e15 : j1_151_1 x0 = 13 := (if_neg (fun q => by have := (own_lt32 (show (32768 : Int32).toInt = 32768 by decide) hN).mp q; omega)).trans e14
  exact e15
theorem own_z13 (x0 : Int32) {I : Int} (hI : x0.toInt = I) (h1 : 4096 ≤ I) (h2 : I < 8192) : r3 x0 = 19 := by
  have g0 : (0 : Int32) < x0 := (own_lt32 (show (0 : Int32).toInt = 0 by decide) hI).mpr (by omega)
  have a0 : j3_33_0 x0 = x0 := if_pos ((own_lt32 hI (show (65536 : Int32).toInt = 65536 by decide)).mpr (by omega))
  have a1 : j3_33_1 x0 = 31 := if_pos ((own_lt32 hI (show (65536 : Int32).toInt = 65536 by decide)).mpr (by omega))
  obtain ⟨V0, hV0, v0⟩ : ∃ V, (j3_33_0 x0).toInt = V ∧ V = I := ⟨I, by rw [a0]; exact hI, rfl⟩
  have c0 : ¬ j3_33_0 x0 < (256 : Int32) := fun q => by have := (own_lt32 hV0 (show (256 : Int32).toInt = 256 by decide)).mp q; omega
  obtain ⟨V1, hV1, v1⟩ : ∃ V, (j3_48_0 x0).toInt = V ∧ V = V0 / 256 := ⟨_, by rw [show j3_48_0 x0 = w3_47 x0 from if_neg c0]; exact own_us hV0 (by omega) (n := ((8 : Int32) &&& 31).toUInt32) (k := 8) (by decide) (by decide) (by decide), rfl⟩
  have b0 : j3_48_1 x0 = 23 := (if_neg c0).trans (by show j3_33_1 x0 + Int32.ofInt (-8) = _; rw [a1]; rfl)
  have c1 : ¬ j3_48_0 x0 < (16 : Int32) := fun q => by have := (own_lt32 hV1 (show (16 : Int32).toInt = 16 by decide)).mp q; omega
  obtain ⟨V2, hV2, v2⟩ : ∃ V, (j3_61_0 x0).toInt = V ∧ V = V1 / 16 := ⟨_, by rw [show j3_61_0 x0 = w3_60 x0 from if_neg c1]; exact own_us hV1 (by omega) (n := ((4 : Int32) &&& 31).toUInt32) (k := 4) (by decide) (by decide) (by decide), rfl⟩
  have b1 : j3_61_1 x0 = 19 := (if_neg c1).trans (by show j3_48_1 x0 + Int32.ofInt (-4) = _; rw [b0]; rfl)
  have c2 : j3_61_0 x0 < (4 : Int32) := (own_lt32 hV2 (show (4 : Int32).toInt = 4 by decide)).mpr (by omega)
  obtain ⟨V3, hV3, v3⟩ : ∃ V, (j3_73_0 x0).toInt = V ∧ V = V2 := ⟨V2, by rw [show j3_73_0 x0 = j3_61_0 x0 from if_pos c2]; exact hV2, rfl⟩
  have b2 : j3_73_1 x0 = 19 := (if_pos c2).trans b1
  have f := own_us hV3 (by omega) (n := ((1 : Int32) &&& 31).toUInt32) (k := 1) (by decide) (by decide) (d := 2) (by decide)
  have f1 : ((((j3_73_0 x0).toUInt32 >>> ((1 : Int32) &&& 31).toUInt32).toInt32)) = (0 : Int32) := (own_eq32 f (show (0 : Int32).toInt = 0 by decide)).mpr (by omega)
  refine (if_pos g0).trans ?_
  rw [b2, f1]; rfl
theorem own_c14 (x0 : Int32) {N : Int} (hN : x0.toInt = N) (h1 : 8192 < N) (h2 : N ≤ 16384) : r1 x0 = 14 := by
  have e0 : j1_10_1 x0 = 1 := (if_pos ((own_lt32 (show (1 : Int32).toInt = 1 by decide) hN).mpr (by omega))).trans (rfl)
  have e1 : j1_18_1 x0 = 2 := (if_pos ((own_lt32 (show (2 : Int32).toInt = 2 by decide) hN).mpr (by omega))).trans (by show j1_10_1 x0 + 1 = _; rw [e0]; rfl)
  have e2 : j1_26_1 x0 = 3 := (if_pos ((own_lt32 (show (4 : Int32).toInt = 4 by decide) hN).mpr (by omega))).trans (by show j1_18_1 x0 + 1 = _; rw [e1]; rfl)
  have e3 : j1_35_1 x0 = 4 := (if_pos ((own_lt32 (show (8 : Int32).toInt = 8 by decide) hN).mpr (by omega))).trans (by show j1_26_1 x0 + 1 = _; rw [e2]; rfl)
  have e4 : j1_44_1 x0 = 5 := (if_pos ((own_lt32 (show (16 : Int32).toInt = 16 by decide) hN).mpr (by omega))).trans (by show j1_35_1 x0 + 1 = _; rw [e3]; rfl)
  have e5 : j1_53_1 x0 = 6 := (if_pos ((own_lt32 (show (32 : Int32).toInt = 32 by decide) hN).mpr (by omega))).trans (by show j1_44_1 x0 + 1 = _; rw [e4]; rfl)
  have e6 : j1_62_1 x0 = 7 := (if_pos ((own_lt32 (show (64 : Int32).toInt = 64 by decide) hN).mpr (by omega))).trans (by show j1_53_1 x0 + 1 = _; rw [e5]; rfl)
  have e7 : j1_72_1 x0 = 8 := (if_pos ((own_lt32 (show (128 : Int32).toInt = 128 by decide) hN).mpr (by omega))).trans (by show j1_62_1 x0 + 1 = _; rw [e6]; rfl)
  have e8 : j1_82_1 x0 = 9 := (if_pos ((own_lt32 (show (256 : Int32).toInt = 256 by decide) hN).mpr (by omega))).trans (by show j1_72_1 x0 + 1 = _; rw [e7]; rfl)
  have e9 : j1_92_1 x0 = 10 := (if_pos ((own_lt32 (show (512 : Int32).toInt = 512 by decide) hN).mpr (by omega))).trans (by show j1_82_1 x0 + 1 = _; rw [e8]; rfl)
  have e10 : j1_102_1 x0 = 11 := (if_pos ((own_lt32 (show (1024 : Int32).toInt = 1024 by decide) hN).mpr (by omega))).trans (by show j1_92_1 x0 + 1 = _; rw [e9]; rfl)
  have e11 : j1_112_1 x0 = 12 := (if_pos ((own_lt32 (show (2048 : Int32).toInt = 2048 by decide) hN).mpr (by omega))).trans (by show j1_102_1 x0 + 1 = _; rw [e10]; rfl)
  have e12 : j1_122_1 x0 = 13 := (if_pos ((own_lt32 (show (4096 : Int32).toInt = 4096 by decide) hN).mpr (by omega))).trans (by show j1_112_1 x0 + 1 = _; rw [e11]; rfl)
  have e13 : j1_132_1 x0 = 14 := (if_pos ((own_lt32 (show (8192 : Int32).toInt = 8192 by decide) hN).mpr (by omega))).trans (by show j1_122_1 x0 + 1 = _; rw [e12]; rfl)
  have e14 : j1_142_1 x0 = 14 := (if_neg (fun q => by have := (own_lt32 (show (16384 : Int32).toInt = 16384 by decide) hN).mp q; omega)).trans e13
  have e15 : j1_151_1 x0 = 14 := (if_neg (fun q => by have := (own_lt32 (show (32768 : Int32).toInt = 32768 by decide) hN).mp q; omega)).trans e14
  exact e15
theorem own_z14 (x0 : Int32) {I : Int} (hI : x0.toInt = I) (h1 : 8192 ≤ I) (h2 : I < 16384) : r3 x0 = 18 := by
  have g0 : (0 : Int32) < x0 := (own_lt32 (show (0 : Int32).toInt = 0 by decide) hI).mpr (by omega)
  have a0 : j3_33_0 x0 = x0 := if_pos ((own_lt32 hI (show (65536 : Int32).toInt = 65536 by decide)).mpr (by omega))
  have a1 : j3_33_1 x0 = 31 := if_pos ((own_lt32 hI (show (65536 : Int32).toInt = 65536 by decide)).mpr (by omega))
  obtain ⟨V0, hV0, v0⟩ : ∃ V, (j3_33_0 x0).toInt = V ∧ V = I := ⟨I, by rw [a0]; exact hI, rfl⟩
  have c0 : ¬ j3_33_0 x0 < (256 : Int32) := fun q => by have := (own_lt32 hV0 (show (256 : Int32).toInt = 256 by decide)).mp q; omega
  obtain ⟨V1, hV1, v1⟩ : ∃ V, (j3_48_0 x0).toInt = V ∧ V = V0 / 256 := ⟨_, by rw [show j3_48_0 x0 = w3_47 x0 from if_neg c0]; exact own_us hV0 (by omega) (n := ((8 : Int32) &&& 31).toUInt32) (k := 8) (by decide) (by decide) (by decide), rfl⟩
  have b0 : j3_48_1 x0 = 23 := (if_neg c0).trans (by show j3_33_1 x0 + Int32.ofInt (-8) = _; rw [a1]; rfl)
  have c1 : ¬ j3_48_0 x0 < (16 : Int32) := fun q => by have := (own_lt32 hV1 (show (16 : Int32).toInt = 16 by decide)).mp q; omega
  obtain ⟨V2, hV2, v2⟩ : ∃ V, (j3_61_0 x0).toInt = V ∧ V = V1 / 16 := ⟨_, by rw [show j3_61_0 x0 = w3_60 x0 from if_neg c1]; exact own_us hV1 (by omega) (n := ((4 : Int32) &&& 31).toUInt32) (k := 4) (by decide) (by decide) (by decide), rfl⟩
  have b1 : j3_61_1 x0 = 19 := (if_neg c1).trans (by show j3_48_1 x0 + Int32.ofInt (-4) = _; rw [b0]; rfl)
  have c2 : j3_61_0 x0 < (4 : Int32) := (own_lt32 hV2 (show (4 : Int32).toInt = 4 by decide)).mpr (by omega)
  obtain ⟨V3, hV3, v3⟩ : ∃ V, (j3_73_0 x0).toInt = V ∧ V = V2 := ⟨V2, by rw [show j3_73_0 x0 = j3_61_0 x0 from if_pos c2]; exact hV2, rfl⟩
  have b2 : j3_73_1 x0 = 19 := (if_pos c2).trans b1
  have f := own_us hV3 (by omega) (n := ((1 : Int32) &&& 31).toUInt32) (k := 1) (by decide) (by decide) (d := 2) (by decide)
  have f1 : ((((j3_73_0 x0).toUInt32 >>> ((1 : Int32) &&& 31).toUInt32).toInt32)) = (1 : Int32) := (own_eq32 f (show (1 : Int32).toInt = 1 by decide)).mpr (by omega)
  refine (if_pos g0).trans ?_
  rw [b2, f1]; rfl
theorem own_c15 (x0 : Int32) {N : Int} (hN : x0.toInt = N) (h1 : 16384 < N) (h2 : N ≤ 32768) : r1 x0 = 15 := by
  have e0 : j1_10_1 x0 = 1 := (if_pos ((own_lt32 (show (1 : Int32).toInt = 1 by decide) hN).mpr (by omega))).trans (rfl)
  have e1 : j1_18_1 x0 = 2 := (if_pos ((own_lt32 (show (2 : Int32).toInt = 2 by decide) hN).mpr (by omega))).trans (by show j1_10_1 x0 + 1 = _; rw [e0]; rfl)
  have e2 : j1_26_1 x0 = 3 := (if_pos ((own_lt32 (show (4 : Int32).toInt = 4 by decide) hN).mpr (by omega))).trans (by show j1_18_1 x0 + 1 = _; rw [e1]; rfl)
  have e3 : j1_35_1 x0 = 4 := (if_pos ((own_lt32 (show (8 : Int32).toInt = 8 by decide) hN).mpr (by omega))).trans (by show j1_26_1 x0 + 1 = _; rw [e2]; rfl)
  have e4 : j1_44_1 x0 = 5 := (if_pos ((own_lt32 (show (16 : Int32).toInt = 16 by decide) hN).mpr (by omega))).trans (by show j1_35_1 x0 + 1 = _; rw [e3]; rfl)
  have e5 : j1_53_1 x0 = 6 := (if_pos ((own_lt32 (show (32 : Int32).toInt = 32 by decide) hN).mpr (by omega))).trans (by show j1_44_1 x0 + 1 = _; rw [e4]; rfl)
  have e6 : j1_62_1 x0 = 7 := (if_pos ((own_lt32 (show (64 : Int32).toInt = 64 by decide) hN).mpr (by omega))).trans (by show j1_53_1 x0 + 1 = _; rw [e5]; rfl)
  have e7 : j1_72_1 x0 = 8 := (if_pos ((own_lt32 (show (128 : Int32).toInt = 128 by decide) hN).mpr (by omega))).trans (by show j1_62_1 x0 + 1 = _; rw [e6]; rfl)
  have e8 : j1_82_1 x0 = 9 := (if_pos ((own_lt32 (show (256 : Int32).toInt = 256 by decide) hN).mpr (by omega))).trans (by show j1_72_1 x0 + 1 = _; rw [e7]; rfl)
  have e9 : j1_92_1 x0 = 10 := (if_pos ((own_lt32 (show (512 : Int32).toInt = 512 by decide) hN).mpr (by omega))).trans (by show j1_82_1 x0 + 1 = _; rw [e8]; rfl)
  have e10 : j1_102_1 x0 = 11 := (if_pos ((own_lt32 (show (1024 : Int32).toInt = 1024 by decide) hN).mpr (by omega))).trans (by show j1_92_1 x0 + 1 = _; rw [e9]; rfl)
  have e11 : j1_112_1 x0 = 12 := (if_pos ((own_lt32 (show (2048 : Int32).toInt = 2048 by decide) hN).mpr (by omega))).trans (by show j1_102_1 x0 + 1 = _; rw [e10]; rfl)
  have e12 : j1_122_1 x0 = 13 := (if_pos ((own_lt32 (show (4096 : Int32).toInt = 4096 by decide) hN).mpr (by omega))).trans (by show j1_112_1 x0 + 1 = _; rw [e11]; rfl)
  have e13 : j1_132_1 x0 = 14 := (if_pos ((own_lt32 (show (8192 : Int32).toInt = 8192 by decide) hN).mpr (by omega))).trans (by show j1_122_1 x0 + 1 = _; rw [e12]; rfl)
  have e14 : j1_142_1 x0 = 15 := (if_pos ((own_lt32 (show (16384 : Int32).toInt = 16384 by decide) hN).mpr (by omega))).trans (by show j1_132_1 x0 + 1 = _; rw [e13]; rfl)
  have e15 : j1_151_1 x0 = 15 := (if_neg (fun q => by have := (own_lt32 (show (32768 : Int32).toInt = 32768 by decide) hN).mp q; omega)).trans e14
  exact e15
theorem own_z15 (x0 : Int32) {I : Int} (hI : x0.toInt = I) (h1 : 16384 ≤ I) (h2 : I < 32768) : r3 x0 = 17 := by
  have g0 : (0 : Int32) < x0 := (own_lt32 (show (0 : Int32).toInt = 0 by decide) hI).mpr (by omega)
  have a0 : j3_33_0 x0 = x0 := if_pos ((own_lt32 hI (show (65536 : Int32).toInt = 65536 by decide)).mpr (by omega))
  have a1 : j3_33_1 x0 = 31 := if_pos ((own_lt32 hI (show (65536 : Int32).toInt = 65536 by decide)).mpr (by omega))
  obtain ⟨V0, hV0, v0⟩ : ∃ V, (j3_33_0 x0).toInt = V ∧ V = I := ⟨I, by rw [a0]; exact hI, rfl⟩
  have c0 : ¬ j3_33_0 x0 < (256 : Int32) := fun q => by have := (own_lt32 hV0 (show (256 : Int32).toInt = 256 by decide)).mp q; omega
  obtain ⟨V1, hV1, v1⟩ : ∃ V, (j3_48_0 x0).toInt = V ∧ V = V0 / 256 := ⟨_, by rw [show j3_48_0 x0 = w3_47 x0 from if_neg c0]; exact own_us hV0 (by omega) (n := ((8 : Int32) &&& 31).toUInt32) (k := 8) (by decide) (by decide) (by decide), rfl⟩
  have b0 : j3_48_1 x0 = 23 := (if_neg c0).trans (by show j3_33_1 x0 + Int32.ofInt (-8) = _; rw [a1]; rfl)
  have c1 : ¬ j3_48_0 x0 < (16 : Int32) := fun q => by have := (own_lt32 hV1 (show (16 : Int32).toInt = 16 by decide)).mp q; omega
  obtain ⟨V2, hV2, v2⟩ : ∃ V, (j3_61_0 x0).toInt = V ∧ V = V1 / 16 := ⟨_, by rw [show j3_61_0 x0 = w3_60 x0 from if_neg c1]; exact own_us hV1 (by omega) (n := ((4 : Int32) &&& 31).toUInt32) (k := 4) (by decide) (by decide) (by decide), rfl⟩
  have b1 : j3_61_1 x0 = 19 := (if_neg c1).trans (by show j3_48_1 x0 + Int32.ofInt (-4) = _; rw [b0]; rfl)
  have c2 : ¬ j3_61_0 x0 < (4 : Int32) := fun q => by have := (own_lt32 hV2 (show (4 : Int32).toInt = 4 by decide)).mp q; omega
  obtain ⟨V3, hV3, v3⟩ : ∃ V, (j3_73_0 x0).toInt = V ∧ V = V2 / 4 := ⟨_, by rw [show j3_73_0 x0 = w3_72 x0 from if_neg c2]; exact own_us hV2 (by omega) (n := ((2 : Int32) &&& 31).toUInt32) (k := 2) (by decide) (by decide) (by decide), rfl⟩
  have b2 : j3_73_1 x0 = 17 := (if_neg c2).trans (by show j3_61_1 x0 + Int32.ofInt (-2) = _; rw [b1]; rfl)
  have f := own_us hV3 (by omega) (n := ((1 : Int32) &&& 31).toUInt32) (k := 1) (by decide) (by decide) (d := 2) (by decide)
  have f1 : ((((j3_73_0 x0).toUInt32 >>> ((1 : Int32) &&& 31).toUInt32).toInt32)) = (0 : Int32) := (own_eq32 f (show (0 : Int32).toInt = 0 by decide)).mpr (by omega)
  refine (if_pos g0).trans ?_
  rw [b2, f1]; rfl
theorem own_c16 (x0 : Int32) {N : Int} (hN : x0.toInt = N) (h1 : 32768 < N) (h2 : N ≤ 65536) : r1 x0 = 16 := by
  have e0 : j1_10_1 x0 = 1 := (if_pos ((own_lt32 (show (1 : Int32).toInt = 1 by decide) hN).mpr (by omega))).trans (rfl)
  have e1 : j1_18_1 x0 = 2 := (if_pos ((own_lt32 (show (2 : Int32).toInt = 2 by decide) hN).mpr (by omega))).trans (by show j1_10_1 x0 + 1 = _; rw [e0]; rfl)
  have e2 : j1_26_1 x0 = 3 := (if_pos ((own_lt32 (show (4 : Int32).toInt = 4 by decide) hN).mpr (by omega))).trans (by show j1_18_1 x0 + 1 = _; rw [e1]; rfl)
  have e3 : j1_35_1 x0 = 4 := (if_pos ((own_lt32 (show (8 : Int32).toInt = 8 by decide) hN).mpr (by omega))).trans (by show j1_26_1 x0 + 1 = _; rw [e2]; rfl)
  have e4 : j1_44_1 x0 = 5 := (if_pos ((own_lt32 (show (16 : Int32).toInt = 16 by decide) hN).mpr (by omega))).trans (by show j1_35_1 x0 + 1 = _; rw [e3]; rfl)
  have e5 : j1_53_1 x0 = 6 := (if_pos ((own_lt32 (show (32 : Int32).toInt = 32 by decide) hN).mpr (by omega))).trans (by show j1_44_1 x0 + 1 = _; rw [e4]; rfl)
  have e6 : j1_62_1 x0 = 7 := (if_pos ((own_lt32 (show (64 : Int32).toInt = 64 by decide) hN).mpr (by omega))).trans (by show j1_53_1 x0 + 1 = _; rw [e5]; rfl)
  have e7 : j1_72_1 x0 = 8 := (if_pos ((own_lt32 (show (128 : Int32).toInt = 128 by decide) hN).mpr (by omega))).trans (by show j1_62_1 x0 + 1 = _; rw [e6]; rfl)
  have e8 : j1_82_1 x0 = 9 := (if_pos ((own_lt32 (show (256 : Int32).toInt = 256 by decide) hN).mpr (by omega))).trans (by show j1_72_1 x0 + 1 = _; rw [e7]; rfl)
  have e9 : j1_92_1 x0 = 10 := (if_pos ((own_lt32 (show (512 : Int32).toInt = 512 by decide) hN).mpr (by omega))).trans (by show j1_82_1 x0 + 1 = _; rw [e8]; rfl)
  have e10 : j1_102_1 x0 = 11 := (if_pos ((own_lt32 (show (1024 : Int32).toInt = 1024 by decide) hN).mpr (by omega))).trans (by show j1_92_1 x0 + 1 = _; rw [e9]; rfl)
  have e11 : j1_112_1 x0 = 12 := (if_pos ((own_lt32 (show (2048 : Int32).toInt = 2048 by decide) hN).mpr (by omega))).trans (by show j1_102_1 x0 + 1 = _; rw [e10]; rfl)
  have e12 : j1_122_1 x0 = 13 := (if_pos ((own_lt32 (show (4096 : Int32).toInt = 4096 by decide) hN).mpr (by omega))).trans (by show j1_112_1 x0 + 1 = _; rw [e11]; rfl)
  have e13 : j1_132_1 x0 = 14 := (if_pos ((own_lt32 (show (8192 : Int32).toInt = 8192 by decide) hN).mpr (by omega))).trans (by show j1_122_1 x0 + 1 = _; rw [e12]; rfl)
  have e14 : j1_142_1 x0 = 15 := (if_pos ((own_lt32 (show (16384 : Int32).toInt = 16384 by decide) hN).mpr (by omega))).trans (by show j1_132_1 x0 + 1 = _; rw [e13]; rfl)
  have e15 : j1_151_1 x0 = 16 := (if_pos ((own_lt32 (show (32768 : Int32).toInt = 32768 by decide) hN).mpr (by omega))).trans (by show j1_142_1 x0 + 1 = _; rw [e14]; rfl)
  exact e15
theorem own_z16 (x0 : Int32) {I : Int} (hI : x0.toInt = I) (h1 : 32768 ≤ I) (h2 : I < 65536) : r3 x0 = 16 := by
  have g0 : (0 : Int32) < x0 := (own_lt32 (show (0 : Int32).toInt = 0 by decide) hI).mpr (by omega)
  have a0 : j3_33_0 x0 = x0 := if_pos ((own_lt32 hI (show (65536 : Int32).toInt = 65536 by decide)).mpr (by omega))
  have a1 : j3_33_1 x0 = 31 := if_pos ((own_lt32 hI (show (65536 : Int32).toInt = 65536 by decide)).mpr (by omega))
  obtain ⟨V0, hV0, v0⟩ : ∃ V, (j3_33_0 x0).toInt = V ∧ V = I := ⟨I, by rw [a0]; exact hI, rfl⟩
  have c0 : ¬ j3_33_0 x0 < (256 : Int32) := fun q => by have := (own_lt32 hV0 (show (256 : Int32).toInt = 256 by decide)).mp q; omega
  obtain ⟨V1, hV1, v1⟩ : ∃ V, (j3_48_0 x0).toInt = V ∧ V = V0 / 256 := ⟨_, by rw [show j3_48_0 x0 = w3_47 x0 from if_neg c0]; exact own_us hV0 (by omega) (n := ((8 : Int32) &&& 31).toUInt32) (k := 8) (by decide) (by decide) (by decide), rfl⟩
  have b0 : j3_48_1 x0 = 23 := (if_neg c0).trans (by show j3_33_1 x0 + Int32.ofInt (-8) = _; rw [a1]; rfl)
  have c1 : ¬ j3_48_0 x0 < (16 : Int32) := fun q => by have := (own_lt32 hV1 (show (16 : Int32).toInt = 16 by decide)).mp q; omega
  obtain ⟨V2, hV2, v2⟩ : ∃ V, (j3_61_0 x0).toInt = V ∧ V = V1 / 16 := ⟨_, by rw [show j3_61_0 x0 = w3_60 x0 from if_neg c1]; exact own_us hV1 (by omega) (n := ((4 : Int32) &&& 31).toUInt32) (k := 4) (by decide) (by decide) (by decide), rfl⟩
  have b1 : j3_61_1 x0 = 19 := (if_neg c1).trans (by show j3_48_1 x0 + Int32.ofInt (-4) = _; rw [b0]; rfl)
  have c2 : ¬ j3_61_0 x0 < (4 : Int32) := fun q => by have := (own_lt32 hV2 (show (4 : Int32).toInt = 4 by decide)).mp q; omega
  obtain ⟨V3, hV3, v3⟩ : ∃ V, (j3_73_0 x0).toInt = V ∧ V = V2 / 4 := ⟨_, by rw [show j3_73_0 x0 = w3_72 x0 from if_neg c2]; exact own_us hV2 (by omega) (n := ((2 : Int32) &&& 31).toUInt32) (k := 2) (by decide) (by decide) (by decide), rfl⟩
  have b2 : j3_73_1 x0 = 17 := (if_neg c2).trans (by show j3_61_1 x0 + Int32.ofInt (-2) = _; rw [b1]; rfl)
  have f := own_us hV3 (by omega) (n := ((1 : Int32) &&& 31).toUInt32) (k := 1) (by decide) (by decide) (d := 2) (by decide)
  have f1 : ((((j3_73_0 x0).toUInt32 >>> ((1 : Int32) &&& 31).toUInt32).toInt32)) = (1 : Int32) := (own_eq32 f (show (1 : Int32).toInt = 1 by decide)).mpr (by omega)
  refine (if_pos g0).trans ?_
  rw [b2, f1]; rfl
theorem own_lg (x0 : Int32) {N : Int} (hN : x0.toInt = N) (h1 : 0 < N) (h2 : N ≤ 55108) : ∃ j : Int, (r1 x0).toInt = j ∧ 0 ≤ j ∧ j ≤ 16 ∧ r4 x0 = r1 x0 := by
  have hI : (c4_5_0 x0).toInt = N - 1 := own_sub32 hN (show (1 : Int32).toInt = 1 by decide) (by omega) (by omega)
  by_cases q0 : N ≤ 1
  · have e := own_c0 x0 hN (by omega) q0
    have z : c4_5_0 x0 = 0 := (own_eq32 hI (show (0 : Int32).toInt = 0 by decide)).mpr (by omega)
    have w : r4 x0 = 0 := by unfold r4; rw [z]; decide
    exact ⟨0, by rw [e]; decide, by decide, by decide, by rw [w, e]⟩
  by_cases q1 : N ≤ 2
  · have e := own_c1 x0 hN (by omega) q1
    have z := own_z1 (c4_5_0 x0) hI (by omega) (by omega)
    have w : r4 x0 = 1 := by unfold r4; rw [z]; decide
    exact ⟨1, by rw [e]; decide, by decide, by decide, by rw [w, e]⟩
  by_cases q2 : N ≤ 4
  · have e := own_c2 x0 hN (by omega) q2
    have z := own_z2 (c4_5_0 x0) hI (by omega) (by omega)
    have w : r4 x0 = 2 := by unfold r4; rw [z]; decide
    exact ⟨2, by rw [e]; decide, by decide, by decide, by rw [w, e]⟩
  by_cases q3 : N ≤ 8
  · have e := own_c3 x0 hN (by omega) q3
    have z := own_z3 (c4_5_0 x0) hI (by omega) (by omega)
    have w : r4 x0 = 3 := by unfold r4; rw [z]; decide
    exact ⟨3, by rw [e]; decide, by decide, by decide, by rw [w, e]⟩
  by_cases q4 : N ≤ 16
  · have e := own_c4 x0 hN (by omega) q4
    have z := own_z4 (c4_5_0 x0) hI (by omega) (by omega)
    have w : r4 x0 = 4 := by unfold r4; rw [z]; decide
    exact ⟨4, by rw [e]; decide, by decide, by decide, by rw [w, e]⟩
  by_cases q5 : N ≤ 32
  · have e := own_c5 x0 hN (by omega) q5
    have z := own_z5 (c4_5_0 x0) hI (by omega) (by omega)
    have w : r4 x0 = 5 := by unfold r4; rw [z]; decide
    exact ⟨5, by rw [e]; decide, by decide, by decide, by rw [w, e]⟩
  by_cases q6 : N ≤ 64
  · have e := own_c6 x0 hN (by omega) q6
    have z := own_z6 (c4_5_0 x0) hI (by omega) (by omega)
    have w : r4 x0 = 6 := by unfold r4; rw [z]; decide
    exact ⟨6, by rw [e]; decide, by decide, by decide, by rw [w, e]⟩
  by_cases q7 : N ≤ 128
  · have e := own_c7 x0 hN (by omega) q7
    have z := own_z7 (c4_5_0 x0) hI (by omega) (by omega)
    have w : r4 x0 = 7 := by unfold r4; rw [z]; decide
    exact ⟨7, by rw [e]; decide, by decide, by decide, by rw [w, e]⟩
  by_cases q8 : N ≤ 256
  · have e := own_c8 x0 hN (by omega) q8
    have z := own_z8 (c4_5_0 x0) hI (by omega) (by omega)
    have w : r4 x0 = 8 := by unfold r4; rw [z]; decide
    exact ⟨8, by rw [e]; decide, by decide, by decide, by rw [w, e]⟩
  by_cases q9 : N ≤ 512
  · have e := own_c9 x0 hN (by omega) q9
    have z := own_z9 (c4_5_0 x0) hI (by omega) (by omega)
    have w : r4 x0 = 9 := by unfold r4; rw [z]; decide
    exact ⟨9, by rw [e]; decide, by decide, by decide, by rw [w, e]⟩
  by_cases q10 : N ≤ 1024
  · have e := own_c10 x0 hN (by omega) q10
    have z := own_z10 (c4_5_0 x0) hI (by omega) (by omega)
    have w : r4 x0 = 10 := by unfold r4; rw [z]; decide
    exact ⟨10, by rw [e]; decide, by decide, by decide, by rw [w, e]⟩
  by_cases q11 : N ≤ 2048
  · have e := own_c11 x0 hN (by omega) q11
    have z := own_z11 (c4_5_0 x0) hI (by omega) (by omega)
    have w : r4 x0 = 11 := by unfold r4; rw [z]; decide
    exact ⟨11, by rw [e]; decide, by decide, by decide, by rw [w, e]⟩
  by_cases q12 : N ≤ 4096
  · have e := own_c12 x0 hN (by omega) q12
    have z := own_z12 (c4_5_0 x0) hI (by omega) (by omega)
    have w : r4 x0 = 12 := by unfold r4; rw [z]; decide
    exact ⟨12, by rw [e]; decide, by decide, by decide, by rw [w, e]⟩
  by_cases q13 : N ≤ 8192
  · have e := own_c13 x0 hN (by omega) q13
    have z := own_z13 (c4_5_0 x0) hI (by omega) (by omega)
    have w : r4 x0 = 13 := by unfold r4; rw [z]; decide
    exact ⟨13, by rw [e]; decide, by decide, by decide, by rw [w, e]⟩
  by_cases q14 : N ≤ 16384
  · have e := own_c14 x0 hN (by omega) q14
    have z := own_z14 (c4_5_0 x0) hI (by omega) (by omega)
    have w : r4 x0 = 14 := by unfold r4; rw [z]; decide
    exact ⟨14, by rw [e]; decide, by decide, by decide, by rw [w, e]⟩
  by_cases q15 : N ≤ 32768
  · have e := own_c15 x0 hN (by omega) q15
    have z := own_z15 (c4_5_0 x0) hI (by omega) (by omega)
    have w : r4 x0 = 15 := by unfold r4; rw [z]; decide
    exact ⟨15, by rw [e]; decide, by decide, by decide, by rw [w, e]⟩
  by_cases q16 : N ≤ 65536
  · have e := own_c16 x0 hN (by omega) q16
    have z := own_z16 (c4_5_0 x0) hI (by omega) (by omega)
    have w : r4 x0 = 16 := by unfold r4; rw [z]; decide
    exact ⟨16, by rw [e]; decide, by decide, by decide, by rw [w, e]⟩
  omega
theorem own_all (x0 : Int32) (x1 : Int32) (x2 : Int64) (x3 : Int64) : (w0_26r x0 x1 x2 x3 ≠ 0 ∧ w0_39r x0 x1 x2 x3 ≠ 0 ∧ ¬ (w0_9 x0 x1 x2 x3) < (1 : Int32) ∧ ¬ (55108 : Int32) < (w0_9 x0 x1 x2 x3)) ∧ ¬ (w0_27 x0 x1 x2 x3) < (0 : Int32) ∧ ¬ (w0_9 x0 x1 x2 x3) < (w0_27 x0 x1 x2 x3) ∧ ¬ (w0_40 x0 x1 x2 x3) < (0 : Int64) ∧ ¬ ((r4 (w0_9 x0 x1 x2 x3)).toInt64) < (w0_40 x0 x1 x2 x3) := by
  obtain ⟨A, m0, a0, a1, -⟩ := own_m32 x0 (2147483647 : Int32) (k := 31) (by decide) (by decide)
  obtain ⟨B, m1, b0, b1, -⟩ := own_m32 x1 (2147483647 : Int32) (k := 31) (by decide) (by decide)
  obtain ⟨G, m2, g0, g1, -⟩ := own_m64 x2 (9223372036854775807 : Int64) (k := 63) (by decide) (by decide)
  obtain ⟨C, hC, c⟩ : ∃ C, _ ∧ C = A % 55108 := ⟨_, own_r32 m0 (show (55108 : Int32).toInt = 55108 by decide) a0, rfl⟩
  obtain ⟨D, hD, d⟩ : ∃ D, (w0_9 x0 x1 x2 x3).toInt = D ∧ D = 1 + C := ⟨_, own_add32 (show (1 : Int32).toInt = 1 by decide) hC (by omega) (by omega), rfl⟩
  obtain ⟨E, hE, e⟩ : ∃ E, (w0_26r x0 x1 x2 x3).toInt = E ∧ E = D + 1 := ⟨_, own_add32 hD (show (1 : Int32).toInt = 1 by decide) (by omega) (by omega), rfl⟩
  obtain ⟨F, hF, f⟩ : ∃ F, (w0_27 x0 x1 x2 x3).toInt = F ∧ F = B % E := ⟨_, own_r32 m1 hE b0, rfl⟩
  have f0 : 0 ≤ F := by rw [f]; exact Int.emod_nonneg _ (by omega)
  have f1 : F < E := by rw [f]; exact Int.emod_lt_of_pos _ (by omega)
  obtain ⟨j, hj, j0, j1, hr⟩ := own_lg (w0_9 x0 x1 x2 x3) hD (by omega) (by omega)
  obtain ⟨K, hK, k⟩ : ∃ K, (w0_39r x0 x1 x2 x3).toInt = K ∧ K = j + 1 := ⟨_, own_i2l (own_add32 hj (show (1 : Int32).toInt = 1 by decide) (by omega) (by omega)), rfl⟩
  obtain ⟨M, hM, m⟩ : ∃ M, (w0_40 x0 x1 x2 x3).toInt = M ∧ M = G % K := ⟨_, own_r64 m2 hK g0, rfl⟩
  have n0 : 0 ≤ M := by rw [m]; exact Int.emod_nonneg _ (by omega)
  have n1 : M < K := by rw [m]; exact Int.emod_lt_of_pos _ (by omega)
  rw [hr, own_lt32 hD (show (1 : Int32).toInt = 1 by decide), own_lt32 (show (55108 : Int32).toInt = 55108 by decide) hD, own_lt32 hF (show (0 : Int32).toInt = 0 by decide), own_lt32 hD hF, Ne, own_eq32 hE (show (0 : Int32).toInt = 0 by decide), Ne, own_eq64 hK (show (0 : Int64).toInt = 0 by decide), own_lt64 hM (show (0 : Int64).toInt = 0 by decide), own_lt64 (own_i2l hj) hM]
  omega
theorem own_nz26 (x0 : Int32) (x1 : Int32) (x2 : Int64) (x3 : Int64) : w0_26r x0 x1 x2 x3 ≠ 0 := (own_all x0 x1 x2 x3).1.1
theorem own_nz39 (x0 : Int32) (x1 : Int32) (x2 : Int64) (x3 : Int64) : w0_39r x0 x1 x2 x3 ≠ 0 := (own_all x0 x1 x2 x3).1.2.1
theorem own_p1 (x0 : Int32) (x1 : Int32) (x2 : Int64) (x3 : Int64) : ¬ (w0_9 x0 x1 x2 x3) < (1 : Int32) := (own_all x0 x1 x2 x3).1.2.2.1
theorem own_p2 (x0 : Int32) (x1 : Int32) (x2 : Int64) (x3 : Int64) : ¬ (55108 : Int32) < (w0_9 x0 x1 x2 x3) := (own_all x0 x1 x2 x3).1.2.2.2
theorem own_p3 (x0 : Int32) (x1 : Int32) (x2 : Int64) (x3 : Int64) : ¬ (w0_27 x0 x1 x2 x3) < (0 : Int32) := (own_all x0 x1 x2 x3).2.1
theorem own_p4 (x0 : Int32) (x1 : Int32) (x2 : Int64) (x3 : Int64) : ¬ (w0_9 x0 x1 x2 x3) < (w0_27 x0 x1 x2 x3) := (own_all x0 x1 x2 x3).2.2.1
theorem own_p6 (x0 : Int32) (x1 : Int32) (x2 : Int64) (x3 : Int64) : ¬ (w0_40 x0 x1 x2 x3) < (0 : Int64) := (own_all x0 x1 x2 x3).2.2.2.1
theorem own_p7 (x0 : Int32) (x1 : Int32) (x2 : Int64) (x3 : Int64) : ¬ ((r4 (w0_9 x0 x1 x2 x3)).toInt64) < (w0_40 x0 x1 x2 x3) := (own_all x0 x1 x2 x3).2.2.2.2
theorem own_p5 (x0 : Int32) (x1 : Int32) (x2 : Int64) (x3 : Int64) : ¬ (j0_60_11 x0 x1 x2 x3) < (1 : Int64) := by
  obtain ⟨A, m0, a0, a1, -⟩ := own_m64 x3 (9223372036854775807 : Int64) (k := 63) (by decide) (by decide)
  have hA : (w0_48 x0 x1 x2 x3).toInt = A := m0
  unfold j0_60_11
  split
  · decide
  · rename_i h
    rw [own_eq64 hA (show (0 : Int64).toInt = 0 by decide)] at h
    rw [own_lt64 hA (show (1 : Int64).toInt = 1 by decide)]
    omega
set_option maxRecDepth 65536 in
set_option maxHeartbeats 40000000 in
theorem rm0 (l : Launch) (Z : State) (a0 : Array Value) (hw : ∀ d ∈ tables_1, d.before a0 Z = true) (ws : List Jvm.Cond) (x0 : Int32) (x1 : Int32) (x2 : Int64) (x3 : Int64) (h0 : Heap) (n0 : Nat) (Z0 : n0 ≤ h0.size) :
    MetFree l x (head1 (Jvm.Cond.code x code maxLocals ret :: ws) room_1) (fun a U => a = #[(.int x0), (.int x1), (.long x2), (.long x3)] ∧ Z.Warmed39 U.vm ∧ U.heap = h0) (fun _ _ _ _ _ => True) (fun _ U o U' => ∃ v L, o = .returned v ∧ (QP (some (.int (r0 x0 x1 x2 x3))) h0 n0) v U'.heap L ∧ FrameEnd U o U' L room_1.cells room_1.slots) := by
  refine MetFree.of_bodySF (plainFor_of_name pn0) hisR ?_
  intro p e s m args below meth c s₁ Bd hml0 hP hK
  obtain ⟨rfl, hZ, hh⟩ := hP
  have hx := Bd.exec
  have hby := Bd.bytes
  have hml : c.maxLocals = 13 := hml0
  have hlk : meth.locks = false := BodyLoose.notSynchronized Bd
  have hown : s.vm.findClass "com/example/eriu/eriu/algorithm/RandomizedElectionValidatePinLaw" = some m.cls := findClass_of_methodNamed Bd.named
  have hnm := (name_of_methodNamed Bd.named Bd.method).1
  have hci : ∀ i v, (i, v) ∈ ([(8, 2147483647), (9, 55108), (7, 32768)] : List (Nat × Int32)) → (Jvm.Cond.constant "com/example/eriu/eriu/algorithm/RandomizedElectionValidatePinLaw" i v).before #[(.int x0), (.int x1), (.long x2), (.long x3)] s = true := (own_ciS (mvT hZ (hw _ (List.mem_of_getElem? (i := 0) rfl))) (own_ciS (mvT hZ (hw _ (List.mem_of_getElem? (i := 1) rfl))) (own_ciS (mvT hZ (hw _ (List.mem_of_getElem? (i := 6) rfl))) own_ci0)))
  have hcl : ∀ i v, (i, v) ∈ ([(18, 9223372036854775807)] : List (Nat × Int64)) → (Jvm.Cond.constantLong "com/example/eriu/eriu/algorithm/RandomizedElectionValidatePinLaw" i v).before #[(.int x0), (.int x1), (.long x2), (.long x3)] s = true := (own_ciS (mvT hZ (hw _ (List.mem_of_getElem? (i := 7) rfl))) own_ci0)
  have X0 : Stand p l e room_1 s m #[(.int x0), (.int x1), (.long x2), (.long x3)] below meth c s₁ [] 0 0 := Stand.of_body Bd
  have e0 : s₁.heap = h0 := by rw [← hh, Bd.state]; rfl
  have N0 := Fr.nil n0
  show Goes p e below s (QP (some (.int (r0 x0 x1 x2 x3))) h0 n0) room_1.cells room_1.slots (s₁.setTop (entryFrame m #[(.int x0), (.int x1), (.long x2), (.long x3)] maxLocals))
  refine Goes.cast (ef0 m x0 x1 x2 x3) ?_
  refine Goes.run X0 hx hown hci hcl hby (L := [(0, .iconst 1, 1), (1, .iload_n 0, 1), (2, .ldc 8, 2), (4, .iand, 1), (5, .ldc 9, 2), (7, .irem, 1)]) (by decide +kernel) rfl (g' := (mkF m 8 #[.val (.int x0), .val (.int x1), .val (.long x2), .second, .val (.long x3), .second, .unset, .unset, .unset, .unset, .unset, .unset, .unset] [(.int ((w0_7l x0 x1 x2 x3) - ((w0_7l x0 x1 x2 x3) / (55108 : Int32)) * (55108 : Int32))), (.int (1 : Int32))])) rfl ?_
  refine Goes.run X0 hx hown hci hcl hby (L := [(8, .iadd, 1), (9, .istore 6, 2), (11, .iload 6, 2)]) (by decide +kernel) rfl (g' := (mkF m 13 #[.val (.int x0), .val (.int x1), .val (.long x2), .second, .val (.long x3), .second, .val (.int (w0_9 x0 x1 x2 x3)), .unset, .unset, .unset, .unset, .unset, .unset] [(.int (w0_9 x0 x1 x2 x3))])) rfl ?_
  obtain ⟨_, _, ⟨T1, L1, k1, n1⟩, -, X1, ⟨Lc1, hQ1, l1, y1, z1⟩, st1⟩ := Jvm.LawKit.callS X0 hx (y := (⟨"com/example/eriu/eriu/algorithm/RandomizedElectionValidatePinLaw", "ceilLog2Ref", "(I)I"⟩ : MethodName)) hown (mvT hZ (hw _ (List.mem_of_getElem? (i := 2) rfl))) (mvT hZ (hw _ (List.mem_of_getElem? (i := 3) rfl))) (mvT hZ (hw _ (List.mem_of_getElem? (i := 4) rfl))) (mvT hZ (hw _ (List.mem_of_getElem? (i := 5) rfl))) (by decide) (backOf (W := 0) (rm1 l Z a0 hw [] (w0_9 x0 x1 x2 x3) h0 n0 Z0 ) hZ (hw _ (List.mem_of_getElem? (i := 5) rfl)) (hw _ (List.mem_of_getElem? (i := 4) rfl)) (by decide) (by decide)) (g := (mkF m 13 #[.val (.int x0), .val (.int x1), .val (.long x2), .second, .val (.long x3), .second, .val (.int (w0_9 x0 x1 x2 x3)), .unset, .unset, .unset, .unset, .unset, .unset] [(.int (w0_9 x0 x1 x2 x3))])) rfl (by rw [hml]; rfl) (argsL := [(.int (w0_9 x0 x1 x2 x3))]) (rest := []) (lenOf pd0_0 rfl) rfl (by show 2 * 0 + _ ≤ _; exact Nat.le_of_eq rfl) (hb hby at_13) (fun _ _ => ⟨rfl, e0, (by decide : 0 + 0 ≤ _), (by decide : 0 + 0 ≤ _)⟩)
  dsimp only [Pt.U, Pt.locs, Pt.cells, Pt.slots] at X1 l1 y1 z1 st1 hQ1
  subst l1 y1 z1
  obtain ⟨rfl, N1q, e1⟩ := hQ1
  have N1 := Fr.app N0 N1q
  refine Goes.st (B := T1.setTop (mkF m 16 #[.val (.int x0), .val (.int x1), .val (.long x2), .second, .val (.long x3), .second, .val (.int (w0_9 x0 x1 x2 x3)), .unset, .unset, .unset, .unset, .unset, .unset] [(.int (r1 (w0_9 x0 x1 x2 x3)))])) st1 ?_
  refine Goes.run X1 hx hown hci hcl hby (L := [(16, .istore 7, 2), (18, .iload_n 1, 1), (19, .ldc 8, 2), (21, .iand, 1), (22, .iload 6, 2), (24, .iconst 1, 1)]) (by decide +kernel) rfl (g' := (mkF m 25 #[.val (.int x0), .val (.int x1), .val (.long x2), .second, .val (.long x3), .second, .val (.int (w0_9 x0 x1 x2 x3)), .val (.int (w0_16 x0 x1 x2 x3)), .unset, .unset, .unset, .unset, .unset] [(.int (1 : Int32)), (.int (w0_9 x0 x1 x2 x3)), (.int (x1 &&& (2147483647 : Int32)))])) rfl ?_
  refine Goes.run X1 hx hown hci hcl hby (L := [(25, .iadd, 1)]) (by decide +kernel) rfl (g' := (mkF m 26 #[.val (.int x0), .val (.int x1), .val (.long x2), .second, .val (.long x3), .second, .val (.int (w0_9 x0 x1 x2 x3)), .val (.int (w0_16 x0 x1 x2 x3)), .unset, .unset, .unset, .unset, .unset] [(.int ((w0_9 x0 x1 x2 x3) + (1 : Int32))), (.int (x1 &&& (2147483647 : Int32)))])) rfl ?_
  refine Goes.st (B := T1.setTop (mkF m 27 #[.val (.int x0), .val (.int x1), .val (.long x2), .second, .val (.long x3), .second, .val (.int (w0_9 x0 x1 x2 x3)), .val (.int (w0_16 x0 x1 x2 x3)), .unset, .unset, .unset, .unset, .unset] [(.int ((w0_26l x0 x1 x2 x3) - ((w0_26l x0 x1 x2 x3) / (w0_26r x0 x1 x2 x3)) * (w0_26r x0 x1 x2 x3)))])) (fun t k => ?_) ?_
  · refine XS.irem X1.here hx rfl (hb hby at_26) rfl (own_nz26 x0 x1 x2 x3) ?_
    exact k
  refine Goes.run X1 hx hown hci hcl hby (L := [(27, .istore 8, 2), (29, .lload_n 2, 1), (30, .ldc2_w 18, 3), (33, .land, 1), (34, .iload 7, 2), (36, .iconst 1, 1)]) (by decide +kernel) rfl (g' := (mkF m 37 #[.val (.int x0), .val (.int x1), .val (.long x2), .second, .val (.long x3), .second, .val (.int (w0_9 x0 x1 x2 x3)), .val (.int (w0_16 x0 x1 x2 x3)), .val (.int (w0_27 x0 x1 x2 x3)), .unset, .unset, .unset, .unset] [(.int (1 : Int32)), (.int (w0_16 x0 x1 x2 x3)), (.long (x2 &&& (9223372036854775807 : Int64)))])) rfl ?_
  refine Goes.run X1 hx hown hci hcl hby (L := [(37, .iadd, 1), (38, .i2l, 1)]) (by decide +kernel) rfl (g' := (mkF m 39 #[.val (.int x0), .val (.int x1), .val (.long x2), .second, .val (.long x3), .second, .val (.int (w0_9 x0 x1 x2 x3)), .val (.int (w0_16 x0 x1 x2 x3)), .val (.int (w0_27 x0 x1 x2 x3)), .unset, .unset, .unset, .unset] [(.long (((w0_16 x0 x1 x2 x3) + (1 : Int32)).toInt64)), (.long (x2 &&& (9223372036854775807 : Int64)))])) rfl ?_
  refine Goes.st (B := T1.setTop (mkF m 40 #[.val (.int x0), .val (.int x1), .val (.long x2), .second, .val (.long x3), .second, .val (.int (w0_9 x0 x1 x2 x3)), .val (.int (w0_16 x0 x1 x2 x3)), .val (.int (w0_27 x0 x1 x2 x3)), .unset, .unset, .unset, .unset] [(.long ((w0_39l x0 x1 x2 x3) - ((w0_39l x0 x1 x2 x3) / (w0_39r x0 x1 x2 x3)) * (w0_39r x0 x1 x2 x3)))])) (fun t k => ?_) ?_
  · refine XS.lrem X1.here hx rfl (hb hby at_39) rfl (own_nz39 x0 x1 x2 x3) ?_
    exact k
  refine Goes.run X1 hx hown hci hcl hby (L := [(40, .lstore 9, 2), (42, .lload 4, 2), (44, .ldc2_w 18, 3), (47, .land, 1), (48, .lstore 11, 2), (50, .lload 11, 2)]) (by decide +kernel) rfl (g' := (mkF m 52 #[.val (.int x0), .val (.int x1), .val (.long x2), .second, .val (.long x3), .second, .val (.int (w0_9 x0 x1 x2 x3)), .val (.int (w0_16 x0 x1 x2 x3)), .val (.int (w0_27 x0 x1 x2 x3)), .val (.long (w0_40 x0 x1 x2 x3)), .second, .val (.long (w0_48 x0 x1 x2 x3)), .second] [(.long (w0_48 x0 x1 x2 x3))])) rfl ?_
  refine Goes.run X1 hx hown hci hcl hby (L := [(52, .lconst 0, 1), (53, .lcmp, 1)]) (by decide +kernel) rfl (g' := (mkF m 54 #[.val (.int x0), .val (.int x1), .val (.long x2), .second, .val (.long x3), .second, .val (.int (w0_9 x0 x1 x2 x3)), .val (.int (w0_16 x0 x1 x2 x3)), .val (.int (w0_27 x0 x1 x2 x3)), .val (.long (w0_40 x0 x1 x2 x3)), .second, .val (.long (w0_48 x0 x1 x2 x3)), .second] [(.int (lcmpW (w0_48 x0 x1 x2 x3) (0 : Int64)))])) rfl ?_
  have jn60_3 : Goes p e below s (QP (some (.int (r0 x0 x1 x2 x3))) h0 n0) room_1.cells room_1.slots (T1.setTop (mkF m 60 #[.val (.int x0), .val (.int x1), .val (.long x2), .second, .val (.long x3), .second, .val (.int (w0_9 x0 x1 x2 x3)), .val (.int (w0_16 x0 x1 x2 x3)), .val (.int (w0_27 x0 x1 x2 x3)), .val (.long (w0_40 x0 x1 x2 x3)), .second, .val (.long (j0_60_11 x0 x1 x2 x3)), .second] [])) := by
    refine Goes.run X1 hx hown hci hcl hby (L := [(60, .iload 6, 2), (62, .iload 8, 2), (64, .lload 9, 2), (66, .lload 11, 2)]) (by decide +kernel) rfl (g' := (mkF m 68 #[.val (.int x0), .val (.int x1), .val (.long x2), .second, .val (.long x3), .second, .val (.int (w0_9 x0 x1 x2 x3)), .val (.int (w0_16 x0 x1 x2 x3)), .val (.int (w0_27 x0 x1 x2 x3)), .val (.long (w0_40 x0 x1 x2 x3)), .second, .val (.long (j0_60_11 x0 x1 x2 x3)), .second] [(.long (j0_60_11 x0 x1 x2 x3)), (.long (w0_40 x0 x1 x2 x3)), (.int (w0_27 x0 x1 x2 x3)), (.int (w0_9 x0 x1 x2 x3))])) rfl ?_
    obtain ⟨_, _, ⟨T4, L4, k4, n4⟩, -, X4, ⟨Lc4, hQ4, l4, y4, z4⟩, st4⟩ := Jvm.LawKit.callS X1 hx (y := (⟨"com/example/eriu/eriu/algorithm/RandomizedElection", "validate", "(IIJJ)V"⟩ : MethodName)) hown (mvT hZ (hw _ (List.mem_of_getElem? (i := 8) rfl))) (mvT hZ (hw _ (List.mem_of_getElem? (i := 9) rfl))) (mvT hZ (hw _ (List.mem_of_getElem? (i := 10) rfl))) (mvT hZ (hw _ (List.mem_of_getElem? (i := 11) rfl))) (by decide) (backOf (W := 0) (rm5 l Z a0 hw [] (w0_9 x0 x1 x2 x3) (w0_27 x0 x1 x2 x3) (w0_40 x0 x1 x2 x3) (j0_60_11 x0 x1 x2 x3) h0 n0 Z0 (own_p1 x0 x1 x2 x3) (own_p2 x0 x1 x2 x3) (own_p3 x0 x1 x2 x3) (own_p4 x0 x1 x2 x3) (own_p5 x0 x1 x2 x3) (own_p6 x0 x1 x2 x3) (own_p7 x0 x1 x2 x3)) hZ (hw _ (List.mem_of_getElem? (i := 11) rfl)) (hw _ (List.mem_of_getElem? (i := 10) rfl)) (by decide) (by decide)) (g := (mkF m 68 #[.val (.int x0), .val (.int x1), .val (.long x2), .second, .val (.long x3), .second, .val (.int (w0_9 x0 x1 x2 x3)), .val (.int (w0_16 x0 x1 x2 x3)), .val (.int (w0_27 x0 x1 x2 x3)), .val (.long (w0_40 x0 x1 x2 x3)), .second, .val (.long (j0_60_11 x0 x1 x2 x3)), .second] [(.long (j0_60_11 x0 x1 x2 x3)), (.long (w0_40 x0 x1 x2 x3)), (.int (w0_27 x0 x1 x2 x3)), (.int (w0_9 x0 x1 x2 x3))])) rfl (by rw [hml]; rfl) (argsL := [(.int (w0_9 x0 x1 x2 x3)), (.int (w0_27 x0 x1 x2 x3)), (.long (w0_40 x0 x1 x2 x3)), (.long (j0_60_11 x0 x1 x2 x3))]) (rest := []) (lenOf pd0_1 rfl) rfl (by show 2 * 0 + _ ≤ _; exact Nat.le_of_eq rfl) (hb hby at_68) (fun _ _ => ⟨rfl, e1, (by decide : 0 + 0 ≤ _), (by decide : 0 + 0 ≤ _)⟩)
    dsimp only [Pt.U, Pt.locs, Pt.cells, Pt.slots] at X4 l4 y4 z4 st4 hQ4
    subst l4 y4 z4
    obtain ⟨rfl, N4q, e4⟩ := hQ4
    have N4 := Fr.app N1 N4q
    refine Goes.st (B := T4.setTop (mkF m 71 #[.val (.int x0), .val (.int x1), .val (.long x2), .second, .val (.long x3), .second, .val (.int (w0_9 x0 x1 x2 x3)), .val (.int (w0_16 x0 x1 x2 x3)), .val (.int (w0_27 x0 x1 x2 x3)), .val (.long (w0_40 x0 x1 x2 x3)), .second, .val (.long (j0_60_11 x0 x1 x2 x3)), .second] [])) st4 ?_
    refine Goes.run X4 hx hown hci hcl hby (L := [(71, .iconst 1, 1)]) (by decide +kernel) rfl (g' := (mkF m 72 #[.val (.int x0), .val (.int x1), .val (.long x2), .second, .val (.long x3), .second, .val (.int (w0_9 x0 x1 x2 x3)), .val (.int (w0_16 x0 x1 x2 x3)), .val (.int (w0_27 x0 x1 x2 x3)), .val (.long (w0_40 x0 x1 x2 x3)), .second, .val (.long (j0_60_11 x0 x1 x2 x3)), .second] [(.int (1 : Int32))])) rfl ?_
    exact Goes.retB X4 hx hlk (t := .boolean) Bd.returns (by simp) (hb hby at_72) rfl ⟨(congrArg (fun z => some (Value.int z)) (show (r0 x0 x1 x2 x3) = (1 : Int32) from rfl).symm), N4, e4⟩ (by decide) (by decide)
  by_cases hc54_2 : (w0_48 x0 x1 x2 x3) = (0 : Int64)
  · skip
    refine Goes.st (B := T1.setTop (mkF m 57 #[.val (.int x0), .val (.int x1), .val (.long x2), .second, .val (.long x3), .second, .val (.int (w0_9 x0 x1 x2 x3)), .val (.int (w0_16 x0 x1 x2 x3)), .val (.int (w0_27 x0 x1 x2 x3)), .val (.long (w0_40 x0 x1 x2 x3)), .second, .val (.long (w0_48 x0 x1 x2 x3)), .second] [])) (fun t k => ?_) ?_
    · refine XS.ifNo X1.here hx rfl (hb hby at_54) rfl (teqL hc54_2).2 ?_
      exact k
    refine Goes.run X1 hx hown hci hcl hby (L := [(57, .lconst 1, 1), (58, .lstore 11, 2)]) (by decide +kernel) rfl (g' := (mkF m 60 #[.val (.int x0), .val (.int x1), .val (.long x2), .second, .val (.long x3), .second, .val (.int (w0_9 x0 x1 x2 x3)), .val (.int (w0_16 x0 x1 x2 x3)), .val (.int (w0_27 x0 x1 x2 x3)), .val (.long (w0_40 x0 x1 x2 x3)), .second, .val (.long (1 : Int64)), .second] [])) rfl ?_
    have q := jn60_3
    rw [show (j0_60_11 x0 x1 x2 x3) = (1 : Int64) from (if_pos hc54_2)] at q
    exact q
  · skip
    refine Goes.st (B := T1.setTop (mkF m 60 #[.val (.int x0), .val (.int x1), .val (.long x2), .second, .val (.long x3), .second, .val (.int (w0_9 x0 x1 x2 x3)), .val (.int (w0_16 x0 x1 x2 x3)), .val (.int (w0_27 x0 x1 x2 x3)), .val (.long (w0_40 x0 x1 x2 x3)), .second, .val (.long (w0_48 x0 x1 x2 x3)), .second] [])) (fun t k => ?_) ?_
    · refine XS.ifYes X1.here hx rfl (pc0 := 54) (pc' := 60) rfl (hb hby at_54) rfl (feqL hc54_2).2 (by decide) (by decide) ?_
      exact k
    have q := jn60_3
    rw [show (j0_60_11 x0 x1 x2 x3) = (w0_48 x0 x1 x2 x3) from (if_neg hc54_2)] at q
    exact q
set_option maxRecDepth 65536 in
set_option maxHeartbeats 40000000 in
theorem comes_1 {Post : Tables → Env → Array Value → State → Outcome → State → Prop} (hpost : ∀ tb e args s v u, (limb_1_1.after args s (.returned v) u = true ∧ limb_1_2.after args s (.returned v) u = true ∧ True) → FrameEnd s (.returned v) u (Jvm.fieldLocs frame_1_writes args s ++ Jvm.arrayLocs frame_1_arrays args s ++ Jvm.staticLocs frame_1_statics s) 0 0 → Post tb e args s (.returned v) u) :
    ArmFor flags0 classFile x code maxLocals ret World_1 tables_1 room_1 Calls_1 rest_1 Pre_1 Post := by
  intro l hfl _ _ p e ha hc hk s m args below hf hA hF happ hP
  obtain ⟨hcalls, hrest, hpre⟩ := hP
  obtain ⟨-, -, -, hnamed, -, -, -, hat⟩ := (Spec.applies_iff hf).mp happ
  obtain ⟨hg, hn⟩ := and_e (Cond.before_iff.mp (show (Jvm.Cond.and given_1 narrow_1).before args s = true from hpre))
  obtain ⟨g0, g0r⟩ := and_e hg
  obtain ⟨g1, g1r⟩ := and_e g0r
  obtain ⟨g2, g2r⟩ := and_e g1r
  obtain ⟨g3, g4⟩ := and_e g2r
  obtain ⟨w0, w1, w2, w3, rfl⟩ : ∃ w0 w1 w2 w3 : Value, args = #[w0, w1, w2, w3] := by
    have hs : args.size = 4 := by simpa [Cond.value, given_1] using g0
    obtain ⟨L⟩ := args
    match L, hs with
    | [w0, w1, w2, w3], _ => exact ⟨w0, w1, w2, w3, rfl⟩
  have hw := fun d (hd : d ∈ tables_1) => atoms_spec (ws := Jvm.Cond.code x code maxLocals ret :: tables_1) hat d (List.mem_cons_of_mem _ hd)
  have hfit : Fit s := fun {y c} hc i hi => by
    obtain ⟨ha, rfl⟩ := Array.getElem?_eq_some_iff.mp hc
    have q := List.all_eq_true.mp ((Array.all_eq_true_iff_forall_mem.mp hF) _ (Array.getElem_mem ha)) i (List.mem_range.mpr hi)
    simpa [Array.getElem?_eq_getElem hi] using q
  obtain ⟨i0, ei0⟩ := is_v g1
  obtain rfl : w0 = (.int i0) := Option.some.inj ei0
  obtain ⟨i1, ei1⟩ := is_v g2
  obtain rfl : w1 = (.int i1) := Option.some.inj ei1
  obtain ⟨i2, ei2⟩ := isL_v g3
  obtain rfl : w2 = (.long i2) := Option.some.inj ei2
  obtain ⟨i3, ei3⟩ := isL_v g4
  obtain rfl : w3 = (.long i3) := Option.some.inj ei3
  obtain ⟨n, o, h1, h2, h3, v, L, rfl, hv, hq⟩ := rm0 l s _ hw tables_1 i0 i1 i2 i3  s.heap s.heap.size (Nat.le_refl _)  p e ha hc hk s m _ below hf ((Spec.applies_iff_loose hf).mp happ).1 ⟨rfl, State.Warmed39.refl s, rfl⟩ trivial
  have N := hv.2.1
  have hv1 : v = some (.int 1) := hv.1.trans (congrArg (fun z => some (Value.int z)) (rfl))
  subst hv1
  refine ⟨n, _, h1, h2, h3, hpost _ _ _ _ _ _ ⟨Cond.after_iff.mpr rfl, Cond.after_iff.mpr (eq_i res_at (Term.int_eval (1)) rfl), trivial⟩ ⟨hq.1, hq.2.1, (hq.2.2.sift fun y hy => Or.inr (N y hy)).mono (by decide) (by decide)⟩⟩
theorem main_1_1 : Claimed_1_1 := comes_1 fun _ _ _ _ _ _ h hF => ⟨h.1, hF⟩
theorem main_1_2 : Claimed_1_2 := comes_1 fun _ _ _ _ _ _ h hF => ⟨h.2.1, hF⟩
end Jvm.Pilot.@@N@@
namespace Jvm.Pilot.@@N@@
open Jvm Jvm.ClassFile Sem Op Lib Jvm.Free Jvm.Stand Jvm.Pilot.@@N@@.Jvm.D
/-! MADE BY PROGRAM (witnessworld.py) out of the Statement's table words and the real class files: 16 classes; the members and pool entries that the words name. The judged class is class 1, her method 2. -/
namespace start1
open Jvm.ClassFile
def u (s : String) : CpInfo := .utf8 (stringToUtf16 s)
/-- a pool by its gaps: so many unusable entries, then the entry; so many at the end -/
def gap : Nat → List CpInfo → List CpInfo
  | 0, r => r
  | n + 1, r => .unusable :: gap n r
def poolList (es : List (Nat × CpInfo)) (last : Nat) : List CpInfo := es.foldr (fun e r => gap e.1 (e.2 :: r)) (gap last [])
def pool (es : List (Nat × CpInfo)) (last : Nat) : Array CpInfo := ⟨poolList es last⟩
def fileOf (pool : Array CpInfo) (this : Nat) (attrs : Array Attribute := #[]) (ms : Array MethodInfo := #[]) (fl : Nat := 33) (sup : Nat := 0) (ifs : Array Nat := #[]) (fds : Array FieldInfo := #[]) : ClassFile where
  minorVersion := 0
  majorVersion := 65
  constantPool := pool
  accessFlags := fl
  thisClass := this
  superClass := sup
  interfaces := ifs
  fields := fds
  methods := ms
  attributes := attrs
def plain (name : String) (sup : Option ClassId) : Class where
  name := name
  kind := .ordinary
  loader := none
  accessFlags := 33
  super := sup
  interfaces := #[]
  cf := none
  fields := #[]
  methods := #[]
  instanceTypes := #[]
  staticTypes := #[]
  resolved := #[]
  callSites := []
  init := .initialized
  statics := none
  mirror := none

def pool0 : Array CpInfo := pool [(5, u "<init>"), (0, u "()V"), (1, .class_ 10), (1, u "java/lang/Object")] 113

def k0m0 : Method := { name := "<init>", desc := "()V", sig := { parameters := [], returnType := none }, accessFlags := 1, code := none }
/-- java/lang/Object -/
def k0 : Class := { plain "java/lang/Object" none with
  accessFlags := 33
  interfaces := #[]
  cf := some (fileOf pool0 8 #[] #[{ accessFlags := 1, nameIndex := 5, descriptorIndex := 6, attributes := #[] }] 33 0 #[] #[])
  fields := #[]
  methods := #[k0m0]
  instanceTypes := #[]
  staticTypes := #[]
  resolved := Array.replicate 124 none
  statics := none }

def pool1 : Array CpInfo := pool [(2, .class_ 4), (1, u "java/lang/Object"), (0, u "<init>"), (0, u "()V"), (0, .integer 32768), (0, .integer 2147483647), (0, .integer 55108), (0, .methodref 11 12), (0, .class_ 13), (0, .nameAndType 14 15), (0, u "com/example/eriu/eriu/algorithm/RandomizedElectionValidatePinLaw"), (0, u "ceilLog2Ref"), (0, u "(I)I"), (2, .long 9223372036854775807), (1, .methodref 21 22), (0, .class_ 23), (0, .nameAndType 24 25), (0, u "com/example/eriu/eriu/algorithm/RandomizedElection"), (0, u "validate"), (0, u "(IIJJ)V"), (3, u "law"), (0, u "(IIJJ)Z")] 2

def k1m0 : Method := { name := "<init>", desc := "()V", sig := { parameters := [], returnType := none }, accessFlags := 2, code := none }
def k1c1 : Code := { maxStack := 2, maxLocals := 2, code := method_2_code, exceptionTable := #[], attributes := #[] }
def k1m1 : Method := { name := "ceilLog2Ref", desc := "(I)I", sig := { parameters := [.int], returnType := some .int }, accessFlags := 10, code := some k1c1 }
def k1c2 : Code := { maxStack := 6, maxLocals := 13, code := code, exceptionTable := #[], attributes := #[] }
def k1m2 : Method := { name := "law", desc := "(IIJJ)Z", sig := { parameters := [.int, .int, .long, .long], returnType := some .boolean }, accessFlags := 9, code := some k1c2 }
/-- com/example/eriu/eriu/algorithm/RandomizedElectionValidatePinLaw -/
def k1 : Class := { plain "com/example/eriu/eriu/algorithm/RandomizedElectionValidatePinLaw" (some 0) with
  accessFlags := 49
  interfaces := #[]
  cf := some (fileOf pool1 11 #[] #[{ accessFlags := 2, nameIndex := 5, descriptorIndex := 6, attributes := #[] }, { accessFlags := 10, nameIndex := 14, descriptorIndex := 15, attributes := #[] }, { accessFlags := 9, nameIndex := 29, descriptorIndex := 30, attributes := #[] }] 49 2 #[] #[])
  fields := #[]
  methods := #[k1m0, k1m1, k1m2]
  instanceTypes := #[]
  staticTypes := #[]
  resolved := Array.replicate 33 none
  statics := none }

def pool2 : Array CpInfo := pool [(11, .class_ 12), (0, u "com/example/eriu/eriu/algorithm/Member"), (0, .class_ 14), (0, u "java/lang/Object"), (0, u "OUTSIDE"), (0, u "I")] 32

/-- com/example/eriu/eriu/algorithm/Member -/
def k2 : Class := { plain "com/example/eriu/eriu/algorithm/Member" (some 0) with
  accessFlags := 1537
  interfaces := #[]
  cf := some (fileOf pool2 11 #[] #[] 1537 13 #[] #[{ accessFlags := 25, nameIndex := 15, descriptorIndex := 16, attributes := #[] }])
  fields := #[{ name := "OUTSIDE", type := .int, accessFlags := 25, slot := 0, constantValue := 0 }]
  methods := #[]
  instanceTypes := #[]
  staticTypes := #[.int]
  resolved := Array.replicate 49 none
  statics := none }

def pool3 : Array CpInfo := pool [(2, .class_ 4), (1, u "java/lang/Object"), (6, .class_ 13), (1, u "com/example/eriu/eriu/algorithm/RandomizedElection"), (0, u "answered"), (0, u "Ljava/util/BitSet;"), (2, u "node"), (0, u "Lcom/example/eriu/eriu/algorithm/Node;"), (2, u "n"), (0, u "I"), (2, u "tau"), (0, u "J"), (2, u "sigmas"), (0, u "[I"), (0, .class_ 33), (0, u "com/example/eriu/eriu/algorithm/RandomizedElection$QuorumNode"), (4, .class_ 40), (1, u "com/example/eriu/eriu/algorithm/QuorumElection"), (4, u "quorum"), (0, u "Lcom/example/eriu/eriu/algorithm/QuorumElection;"), (0, .class_ 48), (0, u "com/example/eriu/eriu/algorithm/RandomizedElection$Contender"), (5, u "contender"), (0, u "Lcom/example/eriu/eriu/algorithm/RandomizedElection$Contender;"), (0, .methodref 38 57), (0, .nameAndType 58 59), (0, u "validate"), (0, u "(IIJ)V"), (0, .methodref 11 61), (0, .nameAndType 62 63), (0, u "ceilLog2"), (0, u "(I)I"), (17, u "(IIJJ)V"), (22, .class_ 105), (0, u "com/example/eriu/eriu/algorithm/RandomizedElection$Members"), (8, .class_ 116), (1, u "com/example/eriu/eriu/algorithm/RandomizedElection$1"), (51, .class_ 169), (0, u "java/lang/Integer"), (0, .methodref 168 171), (0, .nameAndType 172 63), (0, u "numberOfLeadingZeros"), (30, .class_ 204), (0, u "com/example/eriu/eriu/algorithm/Member"), (0, u "ROUND")] 48

def k3c0 : Code := { maxStack := 6, maxLocals := 6, code := prog_15_method_2_code, exceptionTable := #[], attributes := #[] }
def k3m0 : Method := { name := "validate", desc := "(IIJJ)V", sig := { parameters := [.int, .int, .long, .long], returnType := none }, accessFlags := 9, code := some k3c0 }
def k3c1 : Code := { maxStack := 3, maxLocals := 1, code := prog_15_method_11_code, exceptionTable := #[], attributes := #[] }
def k3m1 : Method := { name := "ceilLog2", desc := "(I)I", sig := { parameters := [.int], returnType := some .int }, accessFlags := 10, code := some k3c1 }
/-- com/example/eriu/eriu/algorithm/RandomizedElection -/
def k3 : Class := { plain "com/example/eriu/eriu/algorithm/RandomizedElection" (some 0) with
  accessFlags := 49
  interfaces := #[2]
  cf := some (fileOf pool3 11 #[.nestMembers #[114, 32, 47, 104]] #[{ accessFlags := 9, nameIndex := 58, descriptorIndex := 81, attributes := #[] }, { accessFlags := 10, nameIndex := 62, descriptorIndex := 63, attributes := #[] }] 49 2 #[203] #[{ accessFlags := 26, nameIndex := 205, descriptorIndex := 23, attributes := #[] }, { accessFlags := 18, nameIndex := 18, descriptorIndex := 19, attributes := #[] }, { accessFlags := 18, nameIndex := 22, descriptorIndex := 23, attributes := #[] }, { accessFlags := 18, nameIndex := 26, descriptorIndex := 27, attributes := #[] }, { accessFlags := 18, nameIndex := 30, descriptorIndex := 31, attributes := #[] }, { accessFlags := 18, nameIndex := 45, descriptorIndex := 46, attributes := #[] }, { accessFlags := 18, nameIndex := 54, descriptorIndex := 55, attributes := #[] }, { accessFlags := 18, nameIndex := 14, descriptorIndex := 15, attributes := #[] }])
  fields := #[{ name := "ROUND", type := .int, accessFlags := 26, slot := 0, constantValue := 0 }, { name := "node", type := (.object "com/example/eriu/eriu/algorithm/Node"), accessFlags := 18, slot := 0, constantValue := 0 }, { name := "n", type := .int, accessFlags := 18, slot := 1, constantValue := 0 }, { name := "tau", type := .long, accessFlags := 18, slot := 2, constantValue := 0 }, { name := "sigmas", type := (.array .int), accessFlags := 18, slot := 3, constantValue := 0 }, { name := "quorum", type := (.object "com/example/eriu/eriu/algorithm/QuorumElection"), accessFlags := 18, slot := 4, constantValue := 0 }, { name := "contender", type := (.object "com/example/eriu/eriu/algorithm/RandomizedElection$Contender"), accessFlags := 18, slot := 5, constantValue := 0 }, { name := "answered", type := (.object "java/util/BitSet"), accessFlags := 18, slot := 6, constantValue := 0 }]
  methods := #[k3m0, k3m1]
  instanceTypes := #[(.object "com/example/eriu/eriu/algorithm/Node"), .int, .long, (.array .int), (.object "com/example/eriu/eriu/algorithm/QuorumElection"), (.object "com/example/eriu/eriu/algorithm/RandomizedElection$Contender"), (.object "java/util/BitSet")]
  staticTypes := #[.int]
  resolved := Array.replicate 254 none
  statics := none }

def pool4 : Array CpInfo := pool [(2, .class_ 4), (1, u "java/lang/Object"), (2, .class_ 8), (0, u "com/example/eriu/eriu/algorithm/QuorumElection$Mediator"), (4, .class_ 15), (1, u "com/example/eriu/eriu/algorithm/QuorumElection"), (0, u "mediator"), (0, u "Lcom/example/eriu/eriu/algorithm/QuorumElection$Mediator;"), (2, u "node"), (0, u "Lcom/example/eriu/eriu/algorithm/Node;"), (2, u "tau"), (0, u "J"), (0, .class_ 27), (0, u "com/example/eriu/eriu/algorithm/QuorumElection$Contender"), (5, u "contender"), (0, u "Lcom/example/eriu/eriu/algorithm/QuorumElection$Contender;"), (3, .integer 55108), (17, u "validate"), (0, u "(IIJ)V"), (72, .class_ 132), (1, u "com/example/eriu/eriu/algorithm/QuorumElection$1"), (70, .class_ 204), (0, u "com/example/eriu/eriu/algorithm/Member"), (0, u "MAX_MEMBERS"), (0, u "I"), (1, u "NONE"), (1, u "GIVE_UP"), (0, u "CLAIM"), (1, u "PERIOD"), (28, .class_ 243), (0, u "com/example/eriu/eriu/algorithm/QuorumElection$State"), (0, .class_ 245), (0, u "com/example/eriu/eriu/algorithm/QuorumElection$Stage")] 48

def k4c0 : Code := { maxStack := 4, maxLocals := 4, code := prog_9_method_3_code, exceptionTable := #[], attributes := #[] }
def k4m0 : Method := { name := "validate", desc := "(IIJ)V", sig := { parameters := [.int, .int, .long], returnType := none }, accessFlags := 9, code := some k4c0 }
/-- com/example/eriu/eriu/algorithm/QuorumElection -/
def k4 : Class := { plain "com/example/eriu/eriu/algorithm/QuorumElection" (some 0) with
  accessFlags := 49
  interfaces := #[2]
  cf := some (fileOf pool4 13 #[.nestMembers #[130, 7, 26, 242, 244]] #[{ accessFlags := 9, nameIndex := 56, descriptorIndex := 57, attributes := #[] }] 49 2 #[203] #[{ accessFlags := 26, nameIndex := 205, descriptorIndex := 206, attributes := #[] }, { accessFlags := 26, nameIndex := 208, descriptorIndex := 206, attributes := #[] }, { accessFlags := 26, nameIndex := 210, descriptorIndex := 206, attributes := #[] }, { accessFlags := 26, nameIndex := 211, descriptorIndex := 206, attributes := #[] }, { accessFlags := 26, nameIndex := 213, descriptorIndex := 206, attributes := #[] }, { accessFlags := 18, nameIndex := 20, descriptorIndex := 21, attributes := #[] }, { accessFlags := 18, nameIndex := 24, descriptorIndex := 25, attributes := #[] }, { accessFlags := 18, nameIndex := 16, descriptorIndex := 17, attributes := #[] }, { accessFlags := 2, nameIndex := 33, descriptorIndex := 34, attributes := #[] }])
  fields := #[{ name := "MAX_MEMBERS", type := .int, accessFlags := 26, slot := 0, constantValue := 0 }, { name := "NONE", type := .int, accessFlags := 26, slot := 1, constantValue := 0 }, { name := "GIVE_UP", type := .int, accessFlags := 26, slot := 2, constantValue := 0 }, { name := "CLAIM", type := .int, accessFlags := 26, slot := 3, constantValue := 0 }, { name := "PERIOD", type := .int, accessFlags := 26, slot := 4, constantValue := 0 }, { name := "node", type := (.object "com/example/eriu/eriu/algorithm/Node"), accessFlags := 18, slot := 0, constantValue := 0 }, { name := "tau", type := .long, accessFlags := 18, slot := 1, constantValue := 0 }, { name := "mediator", type := (.object "com/example/eriu/eriu/algorithm/QuorumElection$Mediator"), accessFlags := 18, slot := 2, constantValue := 0 }, { name := "contender", type := (.object "com/example/eriu/eriu/algorithm/QuorumElection$Contender"), accessFlags := 2, slot := 3, constantValue := 0 }]
  methods := #[k4m0]
  instanceTypes := #[(.object "com/example/eriu/eriu/algorithm/Node"), .long, (.object "com/example/eriu/eriu/algorithm/QuorumElection$Mediator"), (.object "com/example/eriu/eriu/algorithm/QuorumElection$Contender")]
  staticTypes := #[.int, .int, .int, .int, .int]
  resolved := Array.replicate 294 none
  statics := none }

def pool5 : Array CpInfo := pool [(1, .class_ 2), (0, u "java/io/Serializable"), (0, .class_ 4), (0, u "java/lang/Object")] 2

/-- java/io/Serializable -/
def k5 : Class := { plain "java/io/Serializable" (some 0) with
  accessFlags := 1537
  interfaces := #[]
  cf := some (fileOf pool5 1 #[] #[] 1537 3 #[] #[])
  fields := #[]
  methods := #[]
  instanceTypes := #[]
  staticTypes := #[]
  resolved := Array.replicate 7 none
  statics := none }

def pool6 : Array CpInfo := pool [(2, .class_ 4), (1, u "java/lang/Object"), (0, u "<init>"), (0, u "()V"), (1, .class_ 10), (1, u "java/lang/Number"), (2, .class_ 14), (0, u "java/io/Serializable"), (0, u "serialVersionUID"), (0, u "J")] 20

def k6m0 : Method := { name := "<init>", desc := "()V", sig := { parameters := [], returnType := none }, accessFlags := 1, code := none }
/-- java/lang/Number -/
def k6 : Class := { plain "java/lang/Number" (some 0) with
  accessFlags := 1057
  interfaces := #[5]
  cf := some (fileOf pool6 8 #[] #[{ accessFlags := 1, nameIndex := 5, descriptorIndex := 6, attributes := #[] }] 1057 2 #[13] #[{ accessFlags := 26, nameIndex := 15, descriptorIndex := 16, attributes := #[] }])
  fields := #[{ name := "serialVersionUID", type := .long, accessFlags := 26, slot := 0, constantValue := 0 }]
  methods := #[k6m0]
  instanceTypes := #[]
  staticTypes := #[.long]
  resolved := Array.replicate 37 none
  statics := none }

def pool7 : Array CpInfo := pool [(1, .class_ 2), (0, u "java/lang/Comparable"), (0, .class_ 4), (0, u "java/lang/Object")] 7

/-- java/lang/Comparable -/
def k7 : Class := { plain "java/lang/Comparable" (some 0) with
  accessFlags := 1537
  interfaces := #[]
  cf := some (fileOf pool7 1 #[] #[] 1537 3 #[] #[])
  fields := #[]
  methods := #[]
  instanceTypes := #[]
  staticTypes := #[]
  resolved := Array.replicate 12 none
  statics := none }

def pool8 : Array CpInfo := pool [(1, .class_ 2), (0, u "java/lang/constant/Constable"), (0, .class_ 4), (0, u "java/lang/Object")] 6

/-- java/lang/constant/Constable -/
def k8 : Class := { plain "java/lang/constant/Constable" (some 0) with
  accessFlags := 1537
  interfaces := #[]
  cf := some (fileOf pool8 1 #[] #[] 1537 3 #[] #[])
  fields := #[]
  methods := #[]
  instanceTypes := #[]
  staticTypes := #[]
  resolved := Array.replicate 11 none
  statics := none }

def pool9 : Array CpInfo := pool [(1, .class_ 2), (0, u "java/lang/constant/ConstantDesc"), (0, .class_ 4), (0, u "java/lang/Object")] 32

/-- java/lang/constant/ConstantDesc -/
def k9 : Class := { plain "java/lang/constant/ConstantDesc" (some 0) with
  accessFlags := 1537
  interfaces := #[]
  cf := some (fileOf pool9 1 #[] #[] 1537 3 #[] #[])
  fields := #[]
  methods := #[]
  instanceTypes := #[]
  staticTypes := #[]
  resolved := Array.replicate 37 none
  statics := none }

def pool10 : Array CpInfo := pool [(1, .class_ 2), (0, u "java/lang/Integer"), (16, u "digits"), (0, u "[C"), (32, u "numberOfLeadingZeros"), (0, u "(I)I"), (30, u "DigitOnes"), (0, u "[B"), (2, u "DigitTens"), (99, .class_ 190), (0, u "java/lang/Integer$IntegerCache"), (3, u "I"), (8, .class_ 204), (0, u "java/lang/Number"), (2, u "value"), (56, .integer 65536), (37, u "TYPE"), (0, u "Ljava/lang/Class;"), (0, .class_ 305), (0, u "java/lang/Comparable"), (0, .class_ 307), (0, u "java/lang/constant/Constable"), (0, .class_ 309), (0, u "java/lang/constant/ConstantDesc"), (0, u "MIN_VALUE"), (1, u "MAX_VALUE"), (3, u "SIZE"), (1, u "BYTES"), (1, u "serialVersionUID"), (0, u "J")] 131

def k10c0 : Code := { maxStack := 3, maxLocals := 2, code := jdk_33_method_47_code, exceptionTable := #[], attributes := #[] }
def k10m0 : Method := { name := "numberOfLeadingZeros", desc := "(I)I", sig := { parameters := [.int], returnType := some .int }, accessFlags := 9, code := some k10c0 }
/-- java/lang/Integer -/
def k10 : Class := { plain "java/lang/Integer" (some 6) with
  accessFlags := 49
  interfaces := #[7, 8, 9]
  cf := some (fileOf pool10 1 #[.nestMembers #[189]] #[{ accessFlags := 9, nameIndex := 53, descriptorIndex := 54, attributes := #[] }] 49 203 #[304, 306, 308] #[{ accessFlags := 25, nameIndex := 310, descriptorIndex := 194, attributes := #[] }, { accessFlags := 25, nameIndex := 312, descriptorIndex := 194, attributes := #[] }, { accessFlags := 25, nameIndex := 302, descriptorIndex := 303, attributes := #[] }, { accessFlags := 24, nameIndex := 19, descriptorIndex := 20, attributes := #[] }, { accessFlags := 24, nameIndex := 89, descriptorIndex := 86, attributes := #[] }, { accessFlags := 24, nameIndex := 85, descriptorIndex := 86, attributes := #[] }, { accessFlags := 18, nameIndex := 207, descriptorIndex := 194, attributes := #[] }, { accessFlags := 25, nameIndex := 316, descriptorIndex := 194, attributes := #[] }, { accessFlags := 25, nameIndex := 318, descriptorIndex := 194, attributes := #[] }, { accessFlags := 26, nameIndex := 320, descriptorIndex := 321, attributes := #[] }])
  fields := #[{ name := "MIN_VALUE", type := .int, accessFlags := 25, slot := 0, constantValue := 0 }, { name := "MAX_VALUE", type := .int, accessFlags := 25, slot := 1, constantValue := 0 }, { name := "TYPE", type := (.object "java/lang/Class"), accessFlags := 25, slot := 2, constantValue := 0 }, { name := "digits", type := (.array .char), accessFlags := 24, slot := 3, constantValue := 0 }, { name := "DigitTens", type := (.array .byte), accessFlags := 24, slot := 4, constantValue := 0 }, { name := "DigitOnes", type := (.array .byte), accessFlags := 24, slot := 5, constantValue := 0 }, { name := "value", type := .int, accessFlags := 18, slot := 0, constantValue := 0 }, { name := "SIZE", type := .int, accessFlags := 25, slot := 6, constantValue := 0 }, { name := "BYTES", type := .int, accessFlags := 25, slot := 7, constantValue := 0 }, { name := "serialVersionUID", type := .long, accessFlags := 26, slot := 8, constantValue := 0 }]
  methods := #[k10m0]
  instanceTypes := #[.int]
  staticTypes := #[.int, .int, (.object "java/lang/Class"), (.array .char), (.array .byte), (.array .byte), .int, .int, .long]
  resolved := Array.replicate 453 none
  statics := none }

def pool11 : Array CpInfo := pool [(1, u "java/lang/Cloneable"), (0, .class_ 1), (0, u "java/lang/Object"), (0, .class_ 3)] 3

/-- java/lang/Cloneable -/
def k11 : Class := { plain "java/lang/Cloneable" (some 0) with
  accessFlags := 1537
  interfaces := #[]
  cf := some (fileOf pool11 2 #[] #[] 1537 4 #[] #[])
  fields := #[]
  methods := #[]
  instanceTypes := #[]
  staticTypes := #[]
  resolved := Array.replicate 8 none
  statics := none }

/-- the primitive byte -/
def k12 : Class := { plain "byte" none with kind := .primitive 'B', accessFlags := 0x411 }
/-- [B -/
def k13 : Class := { plain "[B" (some 0) with kind := .array 12 .byte, interfaces := #[11, 5], accessFlags := 1041 }

/-- the primitive int -/
def k14 : Class := { plain "int" none with kind := .primitive 'I', accessFlags := 0x411 }
/-- [I -/
def k15 : Class := { plain "[I" (some 0) with kind := .array 14 .int, interfaces := #[11, 5], accessFlags := 1041 }

def heap : Heap := #[]
def classes : Array Class := #[k0, k1, k2, k3, k4, k5, k6, k7, k8, k9, k10, k11, k12, k13, k14, k15]
def interned : List (Array UInt16 × Addr) := []
def slotsUsed : Nat := 0
def theMethod : MethodId := ⟨1, 2⟩
def args0 : Array Value := #[.int 5, .int 7, .long 9, .long 11]
def aboutOver (below : List Frame) : State where
  vm := { classes := classes, interned := interned.toArray }
  heap := heap
  slotsUsed := slotsUsed
  threads := #[{ frames := .invoking theMethod args0 :: below }]
def below0 : List Frame := [.native { method := ⟨0, 0⟩, args := #[] }]
def about1 : State := aboutOver below0
def p0 : Program := .bare "" "" ""
def e0 : Env := launch0.env 0 0 0
theorem w_frames : about1.frames = Frame.invoking theMethod args0 :: below0 := rfl
set_option maxRecDepth 65536 in
theorem w_args : argsFit about1.vm theMethod args0 = true := by decide +kernel
set_option maxRecDepth 65536 in
theorem w_heap : heapFits about1 = true := by decide +kernel
set_option maxRecDepth 65536 in
theorem w_runnable : about1.curStatus? = some .runnable := by decide +kernel
set_option maxRecDepth 65536 in
theorem w_alone : about1.alone = true := by decide +kernel
set_option maxRecDepth 65536 in
theorem w_named : about1.methodNamed? x = some theMethod := by decide +kernel
set_option maxRecDepth 65536 in
theorem w_hears : about1.hears theMethod below0 = true := by decide +kernel
set_option maxRecDepth 65536 in
theorem w_ripe : about1.ripe theMethod args0 below0 = true := by decide +kernel
theorem w_running : about1.status = .running := rfl
set_option maxRecDepth 65536 in
theorem w_room : about1.hasRoom e0.platform room_1 = true :=
  launch0.hasRoom_least _ room_1 (by decide +kernel) (by decide +kernel) (by decide +kernel) (by decide +kernel) (by decide +kernel) (by decide +kernel)
theorem allAtoms_all (ts : List Jvm.Cond) (a : Array Jvm.Value) (st : Jvm.State) : (allAtoms ts).before a st = ts.all (fun c => c.before a st) := by
  induction ts with
  | nil => rfl
  | cons c t ih =>
    show (Jvm.Cond.and c (allAtoms t)).before a st = _
    rw [Jvm.Cond.before_and, ih, List.all_cons]
def words1 : List Jvm.Cond := Jvm.Cond.code x code maxLocals ret :: tables_1
/-- a 'code' word, met by the world's own term for the bytes: nothing is compared byte by byte -/
theorem code_word {y : MethodName} {bytes : ByteArray} {mx : Nat} {rt : Option FieldType} {a : Array Value} {s : State} {m : MethodId} {meth : Method} {c : Code} (h1 : s.methodNamed? y = some m) (h2 : s.vm.method? m = some meth) (h3 : meth.code = some c) (h4 : c.code = bytes)
    (h5 : (c.maxLocals == mx && c.exceptionTable.isEmpty && decide (c.maxStack ≤ mostOperands) && decide (meth.sig.returnType = rt) && !meth.locks && decide (parseMethodDescriptor y.desc = some meth.sig)) = true) : (Jvm.Cond.code y bytes mx rt).before a s = true := by
  simp only [Bool.and_eq_true, beq_iff_eq, Bool.not_eq_true', decide_eq_true_eq] at h5
  obtain ⟨⟨⟨⟨⟨g1, g2⟩, g3⟩, g4⟩, g5⟩, g6⟩ := h5
  simp [Cond.before, Cond.holds, Cond.value, h1, h2, h3, h4, g1, g2, g3, g4, g5, g6]
def isCode : Jvm.Cond → Bool
  | .code _ _ _ _ => true
  | _ => false
theorem all_split {L : List Jvm.Cond} {P : Jvm.Cond → Bool} (h1 : L.all (fun c => isCode c || P c) = true) (h2 : ∀ c ∈ L.filter isCode, P c = true) : L.all P = true := by
  refine List.all_eq_true.mpr fun c hc => ?_
  have h := List.all_eq_true.mp h1 c hc
  rcases Bool.eq_false_or_eq_true (isCode c) with hi | hi
  · exact h2 c (List.mem_filter.mpr ⟨hc, hi⟩)
  · simpa [hi] using h
set_option maxRecDepth 65536 in
theorem w_c0 : (Jvm.Cond.code x code maxLocals ret).before args0 about1 = true := code_word (m := ⟨1, 2⟩) (meth := k1m2) (c := k1c2) (by decide +kernel) rfl rfl rfl (by decide +kernel)
set_option maxRecDepth 65536 in
theorem w_c1 : (Jvm.Cond.code ({ cls := "com/example/eriu/eriu/algorithm/RandomizedElectionValidatePinLaw", name := "ceilLog2Ref", desc := "(I)I" } : Jvm.MethodName) method_2_code (2 : Nat) (Option.some Jvm.ClassFile.FieldType.int)).before args0 about1 = true := code_word (m := ⟨1, 1⟩) (meth := k1m1) (c := k1c1) (by decide +kernel) rfl rfl rfl (by decide +kernel)
set_option maxRecDepth 65536 in
theorem w_c2 : (Jvm.Cond.code ({ cls := "com/example/eriu/eriu/algorithm/RandomizedElection", name := "validate", desc := "(IIJJ)V" } : Jvm.MethodName) prog_15_method_2_code (6 : Nat) (Option.none : Option Jvm.ClassFile.FieldType)).before args0 about1 = true := code_word (m := ⟨3, 0⟩) (meth := k3m0) (c := k3c0) (by decide +kernel) rfl rfl rfl (by decide +kernel)
set_option maxRecDepth 65536 in
theorem w_c3 : (Jvm.Cond.code ({ cls := "com/example/eriu/eriu/algorithm/QuorumElection", name := "validate", desc := "(IIJ)V" } : Jvm.MethodName) prog_9_method_3_code (4 : Nat) (Option.none : Option Jvm.ClassFile.FieldType)).before args0 about1 = true := code_word (m := ⟨4, 0⟩) (meth := k4m0) (c := k4c0) (by decide +kernel) rfl rfl rfl (by decide +kernel)
set_option maxRecDepth 65536 in
theorem w_c4 : (Jvm.Cond.code ({ cls := "com/example/eriu/eriu/algorithm/RandomizedElection", name := "ceilLog2", desc := "(I)I" } : Jvm.MethodName) prog_15_method_11_code (1 : Nat) (Option.some Jvm.ClassFile.FieldType.int)).before args0 about1 = true := code_word (m := ⟨3, 1⟩) (meth := k3m1) (c := k3c1) (by decide +kernel) rfl rfl rfl (by decide +kernel)
set_option maxRecDepth 65536 in
theorem w_c5 : (Jvm.Cond.code ({ cls := "java/lang/Integer", name := "numberOfLeadingZeros", desc := "(I)I" } : Jvm.MethodName) jdk_33_method_47_code (2 : Nat) (Option.some Jvm.ClassFile.FieldType.int)).before args0 about1 = true := code_word (m := ⟨10, 0⟩) (meth := k10m0) (c := k10c0) (by decide +kernel) rfl rfl rfl (by decide +kernel)
def codes1 : List Jvm.Cond := [Jvm.Cond.code x code maxLocals ret, Jvm.Cond.code ({ cls := "com/example/eriu/eriu/algorithm/RandomizedElectionValidatePinLaw", name := "ceilLog2Ref", desc := "(I)I" } : Jvm.MethodName) method_2_code (2 : Nat) (Option.some Jvm.ClassFile.FieldType.int), Jvm.Cond.code ({ cls := "com/example/eriu/eriu/algorithm/RandomizedElection", name := "validate", desc := "(IIJJ)V" } : Jvm.MethodName) prog_15_method_2_code (6 : Nat) (Option.none : Option Jvm.ClassFile.FieldType), Jvm.Cond.code ({ cls := "com/example/eriu/eriu/algorithm/QuorumElection", name := "validate", desc := "(IIJ)V" } : Jvm.MethodName) prog_9_method_3_code (4 : Nat) (Option.none : Option Jvm.ClassFile.FieldType), Jvm.Cond.code ({ cls := "com/example/eriu/eriu/algorithm/RandomizedElection", name := "ceilLog2", desc := "(I)I" } : Jvm.MethodName) prog_15_method_11_code (1 : Nat) (Option.some Jvm.ClassFile.FieldType.int), Jvm.Cond.code ({ cls := "java/lang/Integer", name := "numberOfLeadingZeros", desc := "(I)I" } : Jvm.MethodName) jdk_33_method_47_code (2 : Nat) (Option.some Jvm.ClassFile.FieldType.int)]
set_option maxRecDepth 65536 in
theorem codes_eq : words1.filter isCode = codes1 := rfl
theorem w_codes : ∀ c ∈ words1.filter isCode, c.before args0 about1 = true := by
  rw [codes_eq]
  intro c hc
  simp only [codes1, List.mem_cons, List.not_mem_nil, or_false] at hc
  rcases hc with rfl | rfl | rfl | rfl | rfl | rfl
  · exact w_c0
  · exact w_c1
  · exact w_c2
  · exact w_c3
  · exact w_c4
  · exact w_c5
set_option maxRecDepth 65536 in
theorem w_t1 : (words1.take 24).all (fun c => isCode c || c.before args0 about1) = true := by decide +kernel
set_option maxRecDepth 65536 in
theorem w_t2 : (words1.drop 24).all (fun c => isCode c || c.before args0 about1) = true := by decide +kernel
theorem w_tables : (allAtoms (Jvm.Cond.code x code maxLocals ret :: tables_1)).before args0 about1 = true := by
  rw [allAtoms_all]
  show words1.all (fun c => c.before args0 about1) = true
  refine all_split ?_ w_codes
  rw [← List.take_append_drop 24 words1, List.all_append, w_t1, w_t2]
  rfl
set_option maxRecDepth 65536 in
theorem w_case : (Jvm.Cond.and given_1 narrow_1).before args0 about1 = true := by decide +kernel
theorem w_applies : (headSpec (Jvm.Cond.code x code maxLocals ret :: tables_1) room_1).applies x e0.platform about1 = true :=
  (Spec.applies_iff w_frames).mpr ⟨w_running, w_runnable, w_alone, w_named, w_hears, w_ripe, w_room, w_tables⟩
theorem atStart : AtStart classFile x code maxLocals ret World_1 tables_1 room_1 Calls_1 rest_1 Pre_1 launch0 p0 e0 about1 theMethod args0 below0 :=
  ⟨lists_1, trivial, launch0.admits_env _ _ _, launch0.least_env, fairChoices_fair.cas, fairChoices_fair.clock, w_frames, w_args, w_heap, w_applies, trivial, trivial, w_case⟩
end start1
theorem witness_1 : WitnessClaimed_1 := ⟨start1.p0, start1.e0, start1.about1, start1.theMethod, start1.args0, start1.below0, start1.atStart⟩
end Jvm.Pilot.@@N@@
